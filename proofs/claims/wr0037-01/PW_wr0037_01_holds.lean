import PyProof.Rows.All
import Wide.All
import OpenK.AllK
import Wide.FinOn
import PySem.Challenge.RW_wr0037_01
open PySem PySem.W PySem.Calls PyProof.Rows
set_option maxRecDepth 100000
set_option maxHeartbeats 8000000
set_option Elab.async false
set_option linter.all false
section
local macro_rules (kind := Lean.Parser.Term.structInst) | s => if s[2][0].getNumArgs == 11 then Lean.Macro.throwError "the top at once" else Lean.Macro.throwUnsupported
local macro_rules | `(tactic| o_head (kHook $k $a $e)) => `(tactic| o_head (kmHook $k $a $e [140, 147]))
set_option maxRecDepth 100000 in
set_option maxHeartbeats 8000000 in
open_top hd for PySem.Challenge.rw_wr0037_01
end
theorem Mine.fillK_join : ∀ (w : World) (h : Heap), (hd.heap_39 w.params).In h → (model PySem.Challenge.rw_wr0037_01.prog w) = (model PySem.Challenge.rw_wr0037_01.prog w) := by
  k_fill
  intros
  rfl
namespace Mine
local macro_rules | `(tactic| omega) => `(tactic| k_extra "my omega")
local macro_rules | `(tactic| k_lt $h:ident) => `(tactic| (replace $h := allLt_of $h; dsimp only [AllLt] at $h:ident))
local macro_rules | `(tactic| walk_at $s:str) => `(tactic| k_extra $s)
local macro_rules | `(tactic| k_inst) => `(tactic| k_extra "my k_inst")
local macro_rules | `(tactic| k_units) => `(tactic| k_extra "my k_units")
local macro_rules | `(tactic| k_ne) => `(tactic| k_extra "my k_ne")
local macro_rules | `(tactic| k_all) => `(tactic| k_extra "my k_all")
theorem mem0 {α : Type} {a : α} {l : List α} : a ∈ a :: l := .head _
theorem mem1 {α : Type} {a b0 : α} {l : List α} : a ∈ b0 :: a :: l := .tail _ (.head _)
theorem mem2 {α : Type} {a b0 b1 : α} {l : List α} : a ∈ b0 :: b1 :: a :: l := .tail _ mem1
theorem mem3 {α : Type} {a b0 b1 b2 : α} {l : List α} : a ∈ b0 :: b1 :: b2 :: a :: l := .tail _ mem2
theorem mem4 {α : Type} {a b0 b1 b2 b3 : α} {l : List α} : a ∈ b0 :: b1 :: b2 :: b3 :: a :: l := .tail _ mem3
theorem mem5 {α : Type} {a b0 b1 b2 b3 b4 : α} {l : List α} : a ∈ b0 :: b1 :: b2 :: b3 :: b4 :: a :: l := .tail _ mem4
theorem mem6 {α : Type} {a b0 b1 b2 b3 b4 b5 : α} {l : List α} : a ∈ b0 :: b1 :: b2 :: b3 :: b4 :: b5 :: a :: l := .tail _ mem5
theorem mem7 {α : Type} {a b0 b1 b2 b3 b4 b5 b6 : α} {l : List α} : a ∈ b0 :: b1 :: b2 :: b3 :: b4 :: b5 :: b6 :: a :: l := .tail _ mem6
theorem mem8 {α : Type} {a b0 b1 b2 b3 b4 b5 b6 b7 : α} {l : List α} : a ∈ b0 :: b1 :: b2 :: b3 :: b4 :: b5 :: b6 :: b7 :: a :: l := .tail _ mem7
theorem mem9 {α : Type} {a b0 b1 b2 b3 b4 b5 b6 b7 b8 : α} {l : List α} : a ∈ b0 :: b1 :: b2 :: b3 :: b4 :: b5 :: b6 :: b7 :: b8 :: a :: l := .tail _ mem8
theorem mem10 {α : Type} {a b0 b1 b2 b3 b4 b5 b6 b7 b8 b9 : α} {l : List α} : a ∈ b0 :: b1 :: b2 :: b3 :: b4 :: b5 :: b6 :: b7 :: b8 :: b9 :: a :: l := .tail _ mem9
theorem mem11 {α : Type} {a b0 b1 b2 b3 b4 b5 b6 b7 b8 b9 b10 : α} {l : List α} : a ∈ b0 :: b1 :: b2 :: b3 :: b4 :: b5 :: b6 :: b7 :: b8 :: b9 :: b10 :: a :: l := .tail _ mem10
theorem mem12 {α : Type} {a b0 b1 b2 b3 b4 b5 b6 b7 b8 b9 b10 b11 : α} {l : List α} : a ∈ b0 :: b1 :: b2 :: b3 :: b4 :: b5 :: b6 :: b7 :: b8 :: b9 :: b10 :: b11 :: a :: l := .tail _ mem11
theorem mem13 {α : Type} {a b0 b1 b2 b3 b4 b5 b6 b7 b8 b9 b10 b11 b12 : α} {l : List α} : a ∈ b0 :: b1 :: b2 :: b3 :: b4 :: b5 :: b6 :: b7 :: b8 :: b9 :: b10 :: b11 :: b12 :: a :: l := .tail _ mem12
theorem mem14 {α : Type} {a b0 b1 b2 b3 b4 b5 b6 b7 b8 b9 b10 b11 b12 b13 : α} {l : List α} : a ∈ b0 :: b1 :: b2 :: b3 :: b4 :: b5 :: b6 :: b7 :: b8 :: b9 :: b10 :: b11 :: b12 :: b13 :: a :: l := .tail _ mem13
/-- the goal gets a name, so that the facts that are taken apart do not repeat it -/
theorem behind {P : Prop} (h : ∀ P' : Prop, (P → P') → P') : P := h P id
theorem all_nil {α : Type} {P : α → Prop} : ∀ q ∈ ([] : List α), P q := fun _ h => nomatch h
theorem all_cons {α : Type} {P : α → Prop} {a : α} {l : List α} (h : P a) (r : ∀ q ∈ l, P q) : ∀ q ∈ a :: l, P q := fun q hq => by
  rcases List.mem_cons.mp hq with rfl | hq
  · exact h
  · exact r q hq
theorem lt_k {a k m : Nat} (h : a < k) (e : Nat.ble k m = true) : a < m := Nat.lt_of_lt_of_le h (Nat.le_of_ble_eq_true e)
theorem lt_le {a k m : Nat} (h : a < k) (e : Nat.ble k (m + 1) = true) : a ≤ m := Nat.le_of_lt_succ (lt_k h e)
theorem le_k {a k m : Nat} (h : a ≤ k) (e : Nat.ble k m = true) : a ≤ m := Nat.le_trans h (Nat.le_of_ble_eq_true e)
theorem le_lt {a k m : Nat} (h : a ≤ k) (e : Nat.ble (k + 1) m = true) : a < m := Nat.lt_of_le_of_lt h (Nat.le_of_ble_eq_true e)
theorem add_lt {a j k m : Nat} (h : a < k) (e : Nat.ble (k + j) m = true) : a + j < m := Nat.lt_of_lt_of_le (Nat.add_lt_add_right h j) (Nat.le_of_ble_eq_true e)
theorem add0 {a k n : Nat} (h : a + k < n) : a < n := Nat.lt_of_le_of_lt (Nat.le_add_right _ _) h
theorem add1 {a i k n : Nat} (h : a + k < n) (e : Nat.ble i k = true) : a + i < n := Nat.lt_of_le_of_lt (Nat.add_le_add_left (Nat.le_of_ble_eq_true e) a) h
theorem add2 {a i j k n : Nat} (h : a + k < n) (e : Nat.ble (i + j) k = true) : a + i + j < n := Nat.add_assoc a i j ▸ add1 h e
theorem add3 {a i j l k n : Nat} (h : a + k < n) (e : Nat.ble (i + j + l) k = true) : a + i + j + l < n := by
  rw [Nat.add_assoc a i j, Nat.add_assoc a (i + j) l]
  exact add1 h e
theorem add4 {a i j l o k n : Nat} (h : a + k < n) (e : Nat.ble (i + j + l + o) k = true) : a + i + j + l + o < n := by
  rw [Nat.add_assoc a i j, Nat.add_assoc a (i + j) l, Nat.add_assoc a (i + j + l) o]
  exact add1 h e
theorem ca0 {a b  : Nat} {P : Prop} (h : b < a ∧ P) : ¬ a = b := Nat.ne_of_gt h.1
theorem cb0 {a b  : Nat} {P : Prop} (h : b < a ∧ P) : ¬ b = a := Nat.ne_of_lt h.1
theorem ca1 {a b x0 : Nat} {P : Prop} (h : x0 < a ∧ b < a ∧ P) : ¬ a = b := Nat.ne_of_gt h.2.1
theorem cb1 {a b x0 : Nat} {P : Prop} (h : x0 < a ∧ b < a ∧ P) : ¬ b = a := Nat.ne_of_lt h.2.1
theorem ca2 {a b x0 x1 : Nat} {P : Prop} (h : x0 < a ∧ x1 < a ∧ b < a ∧ P) : ¬ a = b := Nat.ne_of_gt h.2.2.1
theorem cb2 {a b x0 x1 : Nat} {P : Prop} (h : x0 < a ∧ x1 < a ∧ b < a ∧ P) : ¬ b = a := Nat.ne_of_lt h.2.2.1
theorem ca3 {a b x0 x1 x2 : Nat} {P : Prop} (h : x0 < a ∧ x1 < a ∧ x2 < a ∧ b < a ∧ P) : ¬ a = b := Nat.ne_of_gt h.2.2.2.1
theorem cb3 {a b x0 x1 x2 : Nat} {P : Prop} (h : x0 < a ∧ x1 < a ∧ x2 < a ∧ b < a ∧ P) : ¬ b = a := Nat.ne_of_lt h.2.2.2.1
theorem ca4 {a b x0 x1 x2 x3 : Nat} {P : Prop} (h : x0 < a ∧ x1 < a ∧ x2 < a ∧ x3 < a ∧ b < a ∧ P) : ¬ a = b := Nat.ne_of_gt h.2.2.2.2.1
theorem cb4 {a b x0 x1 x2 x3 : Nat} {P : Prop} (h : x0 < a ∧ x1 < a ∧ x2 < a ∧ x3 < a ∧ b < a ∧ P) : ¬ b = a := Nat.ne_of_lt h.2.2.2.2.1
theorem ca5 {a b x0 x1 x2 x3 x4 : Nat} {P : Prop} (h : x0 < a ∧ x1 < a ∧ x2 < a ∧ x3 < a ∧ x4 < a ∧ b < a ∧ P) : ¬ a = b := Nat.ne_of_gt h.2.2.2.2.2.1
theorem cb5 {a b x0 x1 x2 x3 x4 : Nat} {P : Prop} (h : x0 < a ∧ x1 < a ∧ x2 < a ∧ x3 < a ∧ x4 < a ∧ b < a ∧ P) : ¬ b = a := Nat.ne_of_lt h.2.2.2.2.2.1
theorem ca6 {a b x0 x1 x2 x3 x4 x5 : Nat} {P : Prop} (h : x0 < a ∧ x1 < a ∧ x2 < a ∧ x3 < a ∧ x4 < a ∧ x5 < a ∧ b < a ∧ P) : ¬ a = b := Nat.ne_of_gt h.2.2.2.2.2.2.1
theorem cb6 {a b x0 x1 x2 x3 x4 x5 : Nat} {P : Prop} (h : x0 < a ∧ x1 < a ∧ x2 < a ∧ x3 < a ∧ x4 < a ∧ x5 < a ∧ b < a ∧ P) : ¬ b = a := Nat.ne_of_lt h.2.2.2.2.2.2.1
theorem ca7 {a b x0 x1 x2 x3 x4 x5 x6 : Nat} {P : Prop} (h : x0 < a ∧ x1 < a ∧ x2 < a ∧ x3 < a ∧ x4 < a ∧ x5 < a ∧ x6 < a ∧ b < a ∧ P) : ¬ a = b := Nat.ne_of_gt h.2.2.2.2.2.2.2.1
theorem cb7 {a b x0 x1 x2 x3 x4 x5 x6 : Nat} {P : Prop} (h : x0 < a ∧ x1 < a ∧ x2 < a ∧ x3 < a ∧ x4 < a ∧ x5 < a ∧ x6 < a ∧ b < a ∧ P) : ¬ b = a := Nat.ne_of_lt h.2.2.2.2.2.2.2.1
theorem ca8 {a b x0 x1 x2 x3 x4 x5 x6 x7 : Nat} {P : Prop} (h : x0 < a ∧ x1 < a ∧ x2 < a ∧ x3 < a ∧ x4 < a ∧ x5 < a ∧ x6 < a ∧ x7 < a ∧ b < a ∧ P) : ¬ a = b := Nat.ne_of_gt h.2.2.2.2.2.2.2.2.1
theorem cb8 {a b x0 x1 x2 x3 x4 x5 x6 x7 : Nat} {P : Prop} (h : x0 < a ∧ x1 < a ∧ x2 < a ∧ x3 < a ∧ x4 < a ∧ x5 < a ∧ x6 < a ∧ x7 < a ∧ b < a ∧ P) : ¬ b = a := Nat.ne_of_lt h.2.2.2.2.2.2.2.2.1
theorem ca9 {a b x0 x1 x2 x3 x4 x5 x6 x7 x8 : Nat} {P : Prop} (h : x0 < a ∧ x1 < a ∧ x2 < a ∧ x3 < a ∧ x4 < a ∧ x5 < a ∧ x6 < a ∧ x7 < a ∧ x8 < a ∧ b < a ∧ P) : ¬ a = b := Nat.ne_of_gt h.2.2.2.2.2.2.2.2.2.1
theorem cb9 {a b x0 x1 x2 x3 x4 x5 x6 x7 x8 : Nat} {P : Prop} (h : x0 < a ∧ x1 < a ∧ x2 < a ∧ x3 < a ∧ x4 < a ∧ x5 < a ∧ x6 < a ∧ x7 < a ∧ x8 < a ∧ b < a ∧ P) : ¬ b = a := Nat.ne_of_lt h.2.2.2.2.2.2.2.2.2.1
theorem ca10 {a b x0 x1 x2 x3 x4 x5 x6 x7 x8 x9 : Nat} {P : Prop} (h : x0 < a ∧ x1 < a ∧ x2 < a ∧ x3 < a ∧ x4 < a ∧ x5 < a ∧ x6 < a ∧ x7 < a ∧ x8 < a ∧ x9 < a ∧ b < a ∧ P) : ¬ a = b := Nat.ne_of_gt h.2.2.2.2.2.2.2.2.2.2.1
theorem cb10 {a b x0 x1 x2 x3 x4 x5 x6 x7 x8 x9 : Nat} {P : Prop} (h : x0 < a ∧ x1 < a ∧ x2 < a ∧ x3 < a ∧ x4 < a ∧ x5 < a ∧ x6 < a ∧ x7 < a ∧ x8 < a ∧ x9 < a ∧ b < a ∧ P) : ¬ b = a := Nat.ne_of_lt h.2.2.2.2.2.2.2.2.2.2.1
theorem ca11 {a b x0 x1 x2 x3 x4 x5 x6 x7 x8 x9 x10 : Nat} {P : Prop} (h : x0 < a ∧ x1 < a ∧ x2 < a ∧ x3 < a ∧ x4 < a ∧ x5 < a ∧ x6 < a ∧ x7 < a ∧ x8 < a ∧ x9 < a ∧ x10 < a ∧ b < a ∧ P) : ¬ a = b := Nat.ne_of_gt h.2.2.2.2.2.2.2.2.2.2.2.1
theorem cb11 {a b x0 x1 x2 x3 x4 x5 x6 x7 x8 x9 x10 : Nat} {P : Prop} (h : x0 < a ∧ x1 < a ∧ x2 < a ∧ x3 < a ∧ x4 < a ∧ x5 < a ∧ x6 < a ∧ x7 < a ∧ x8 < a ∧ x9 < a ∧ x10 < a ∧ b < a ∧ P) : ¬ b = a := Nat.ne_of_lt h.2.2.2.2.2.2.2.2.2.2.2.1
theorem ca12 {a b x0 x1 x2 x3 x4 x5 x6 x7 x8 x9 x10 x11 : Nat} {P : Prop} (h : x0 < a ∧ x1 < a ∧ x2 < a ∧ x3 < a ∧ x4 < a ∧ x5 < a ∧ x6 < a ∧ x7 < a ∧ x8 < a ∧ x9 < a ∧ x10 < a ∧ x11 < a ∧ b < a ∧ P) : ¬ a = b := Nat.ne_of_gt h.2.2.2.2.2.2.2.2.2.2.2.2.1
theorem cb12 {a b x0 x1 x2 x3 x4 x5 x6 x7 x8 x9 x10 x11 : Nat} {P : Prop} (h : x0 < a ∧ x1 < a ∧ x2 < a ∧ x3 < a ∧ x4 < a ∧ x5 < a ∧ x6 < a ∧ x7 < a ∧ x8 < a ∧ x9 < a ∧ x10 < a ∧ x11 < a ∧ b < a ∧ P) : ¬ b = a := Nat.ne_of_lt h.2.2.2.2.2.2.2.2.2.2.2.2.1
theorem ca13 {a b x0 x1 x2 x3 x4 x5 x6 x7 x8 x9 x10 x11 x12 : Nat} {P : Prop} (h : x0 < a ∧ x1 < a ∧ x2 < a ∧ x3 < a ∧ x4 < a ∧ x5 < a ∧ x6 < a ∧ x7 < a ∧ x8 < a ∧ x9 < a ∧ x10 < a ∧ x11 < a ∧ x12 < a ∧ b < a ∧ P) : ¬ a = b := Nat.ne_of_gt h.2.2.2.2.2.2.2.2.2.2.2.2.2.1
theorem cb13 {a b x0 x1 x2 x3 x4 x5 x6 x7 x8 x9 x10 x11 x12 : Nat} {P : Prop} (h : x0 < a ∧ x1 < a ∧ x2 < a ∧ x3 < a ∧ x4 < a ∧ x5 < a ∧ x6 < a ∧ x7 < a ∧ x8 < a ∧ x9 < a ∧ x10 < a ∧ x11 < a ∧ x12 < a ∧ b < a ∧ P) : ¬ b = a := Nat.ne_of_lt h.2.2.2.2.2.2.2.2.2.2.2.2.2.1
example : True := by
  (k_with "my mem" => (first | (with_reducible (first | exact mem0 | exact mem1 | exact mem2 | exact mem3 | exact mem4 | exact mem5 | exact mem6 | exact mem7 | exact mem8 | exact mem9 | exact mem10 | exact mem11 | exact mem12 | exact mem13 | exact mem14)) | k_mem))
  (k_with "my k_all" => (first | exact all_nil | (refine' all_cons ?aₘ ?bₘ; (case aₘ => k_ne); (case bₘ => k_all))))
  (k_with "my omega" => (first | (with_reducible (first | assumption | ((show ¬ (@Eq Nat _ _)); (first | exact Ne.symm (by assumption) | exact Nat.ne_of_gt (by assumption) | exact Nat.ne_of_lt (by assumption) | exact ca0 (by assumption) | exact cb0 (by assumption) | exact ca1 (by assumption) | exact cb1 (by assumption) | exact ca2 (by assumption) | exact cb2 (by assumption) | exact ca3 (by assumption) | exact cb3 (by assumption) | exact ca4 (by assumption) | exact cb4 (by assumption) | exact ca5 (by assumption) | exact cb5 (by assumption) | exact ca6 (by assumption) | exact cb6 (by assumption) | exact ca7 (by assumption) | exact cb7 (by assumption) | exact ca8 (by assumption) | exact cb8 (by assumption) | exact ca9 (by assumption) | exact cb9 (by assumption) | exact ca10 (by assumption) | exact cb10 (by assumption) | exact ca11 (by assumption) | exact cb11 (by assumption) | exact ca12 (by assumption) | exact cb12 (by assumption) | exact ca13 (by assumption) | exact cb13 (by assumption))) | ((show (@LT.lt Nat _ _ _)); (first | exact lt_k (k := OfNat.ofNat _) (by assumption) (by with_unfolding_all exact rfl) | exact add0 (by assumption) | exact add1 (k := OfNat.ofNat _) (by assumption) (by with_unfolding_all exact rfl) | exact add2 (k := OfNat.ofNat _) (by assumption) (by with_unfolding_all exact rfl) | exact add3 (k := OfNat.ofNat _) (by assumption) (by with_unfolding_all exact rfl) | exact add4 (k := OfNat.ofNat _) (by assumption) (by with_unfolding_all exact rfl) | exact le_lt (k := OfNat.ofNat _) (by assumption) (by with_unfolding_all exact rfl) | exact add_lt (k := OfNat.ofNat _) (by assumption) (by with_unfolding_all exact rfl))) | ((show (@LE.le Nat _ _ _)); (first | exact le_k (k := OfNat.ofNat _) (by assumption) (by with_unfolding_all exact rfl) | exact lt_le (k := OfNat.ofNat _) (by assumption) (by with_unfolding_all exact rfl) | exact Nat.le_of_lt (by assumption))))) | decide | lia))
  (k_with "my execs" => (k_here; (with_reducible refine wpAny_execs_cons ?_); (try dsimp only); k_fold))
  (k_with "my hide" => (refine behind fun P'ₘ backₘ => ?_))
  (k_with "my back" => (refine backₘ ?_; clear backₘ))
  trivial

/-- the room around a call: how deep, how many units -/
noncomputable abbrev AA (dp un : Nat) (fr : Option (List Env)) (gd : Option (List Code)) : Around :=
  { handled := none, depth := dp, frames := fr, guards := gd, units := un }

/-- all objects of h stand in h', but those in X -/
noncomputable def Kp (X : List Addr) (h h' : Heap) : Prop := ∀ b o, h.get? b = some o → b ∉ X → h'.get? b = some o

theorem Kp.refl (X : List Addr) (h : Heap) : Kp X h h := fun _ _ e _ => e
theorem Kp.trans {X : List Addr} {h h' h'' : Heap} (a : Kp X h h') (b : Kp X h' h'') : Kp X h h'' := fun c o e n => b c o (a c o e n) n
theorem Kp.mono {X Y : List Addr} {h h' : Heap} (a : Kp X h h') (s : ∀ x ∈ X, x ∈ Y) : Kp Y h h' := fun c o e n => a c o e fun q => n (s _ q)

/-- the ground: what the text's top left, as far as it is asked -/
structure Gd (K : Frag) (p : Program) (loose : List Str) (mg mb : Str → Option Value) (g₀ : Heap) : Prop where
  X : K.In g₀
  T : TopRead p loose mg mb g₀
  M : ∃ bm ob, BMod g₀ mainGlobals mg bm ob

theorem Gd.keeps {K : Frag} {p : Program} {loose : List Str} {mg mb : Str → Option Value} {g g' : Heap} (G : Gd K p loose mg mb g) (k : g.StaysIn g') : Gd K p loose mg mb g' :=
  ⟨G.X.keeps k, G.T.keeps k, let ⟨bm, ob, M⟩ := G.M; ⟨bm, ob, M.keeps k⟩⟩

/-- a call of a def: the objects that it may change are hidden from the ground and stand on the ledger -/
theorem enter {prog : Program} {w : World} {A : Around} {s : Shared} {K : Frag} {p : Program} {loose : List Str} {mg mb : Str → Option Value} {g₀ : Heap}
    {Q : Value → Shared → Prop} {E : Value → Shared → Prop} {name qual : Str} {params : Arguments} {body : List Stmt} {scope : Scope} {cl : List (Str × Addr)} {dV kV doc pm cdv ct oc : Value} {an od : Option Addr} {osl : Array (Option Value)} {f : Addr} {args : List Value} {binds : List (Str × Value)}
    (news : List (Addr × Obj)) (G : Gd K p loose mg mb g₀) (H : g₀.StaysIn s.heap)
    (hn : ∀ q ∈ news, s.heap.get? q.1 = some q.2 ∧ g₀.get? q.1 = none)
    (ho : K.lookup f = some ⟨oc, od, .func (fnX name qual params body scope cl dV kV doc pm an cdv ct), osl⟩) (hcd : codeIn K cdv qual = true)
    (hroom : A.depth < recursionLimit)
    (hbind : BindsTo s (fnX name qual params body scope cl dV kV doc pm an cdv ct) ⟨args, []⟩ binds) (hloc : ∀ y ∈ binds, scope.names.lookup y.1 = some .local)
    (h : ∀ g L' h₁, Gd K p loose mg mb g → g₀.StaysIn g → Kp (news.map (·.1)) s.heap g → Fr g L' h₁ (fun y => binds.reverse.lookup y) → News g L' h₁ news → (∀ p ∈ news, p.1 < L') →
      wpAny (model prog w) (A.deeper (envX qual scope L' f cdv cl)) (execs body (envX qual scope L' f cdv cl))
        (fun fl s' => Q (match fl with | .ret v => v | _ => .none) s') (fun _ _ => False)
        { s with heap := h₁, toks := s.toks + binds.length })
    (hco : scope.isCoroutine = false := by rfl) (hgen : scope.isGenerator = false := by rfl) (hk : scope.kind = .function := by rfl)
    (hcell : ∀ x ∈ scope.names, x.2 ≠ .cell := by decide) : wpAny (model prog w) A (call (.ref f) args) Q E s := by
  refine wpAny_call (codeAny_call_def (fd := fnX name qual params body scope cl dV kV doc pm an cdv ct) (body := body) (binds := binds) hroom (H _ _ (G.X _ _ ho)) rfl (G.T.nolimit.keeps H) (codeRec_of (G.X.keeps H) hcd) rfl hbind hcell hloc (fun h₁ hns hk₁ => ?_) hco hgen hk)
  have nm : ∀ b o, g₀.get? b = some o → b ∉ news.map (·.1) := fun b o e q => by
    obtain ⟨p, hp, rfl⟩ := List.mem_map.mp q
    rw [(hn p hp).2] at e; cases e
  have st : g₀.StaysIn (hideAll s.heap (news.map (·.1))) := fun b o e => hideAll_get _ (H b o e) (nm b o e)
  refine wpAny_mono (h (hideAll s.heap (news.map (·.1))) s.heap.objs.size h₁ (G.keeps st) st (fun b o e n => hideAll_get _ e n) ⟨hns, fun b o e => hk₁ b o (of_hideAll _ e), Nat.le_of_eq (hideAll_size _ _)⟩
    (fun p hp => ⟨hk₁ _ _ (hn p hp).1, Nat.ne_of_lt (Heap.lt_size (hn p hp).1), hideAll_none _ (List.mem_map_of_mem hp)⟩) (fun p hp => Heap.lt_size (hn p hp).1)) (fun fl s' hl => hl) fun _ _ y => y.elim


theorem kp_out {X : List Addr} {news₀ news' : List (Addr × Obj)} {g h h' : Heap} {L : Addr} {m : Str → Option Value} (kp : Kp (news₀.map (·.1)) h g) (F : Fr g L h' m) (N : News g L h' news')
    (hn : ∀ q ∈ news₀, h.get? q.1 = some q.2) (st : ∀ q ∈ news₀, q.1 ∈ X ∨ q ∈ news') : Kp X h h' := by
  intro b o e n
  by_cases hb : b ∈ news₀.map (·.1)
  · obtain ⟨q, hq, rfl⟩ := List.mem_map.mp hb
    rcases st q hq with h1 | h1
    · exact absurd h1 n
    · have := hn q hq
      rw [e] at this
      cases this
      exact (N q h1).1
  · exact F.keep _ _ (kp b o e hb)

theorem fresh_out {news₀ : List (Addr × Obj)} {g h : Heap} {r : Addr} (kp : Kp (news₀.map (·.1)) h g) (hg : g.get? r = none) (hne : ∀ q ∈ news₀, q.1 ≠ r) : h.get? r = none := by
  cases e : h.get? r with
  | none => rfl
  | some o =>
    have : r ∉ news₀.map (·.1) := fun hm => by
      obtain ⟨q, hq, he⟩ := List.mem_map.mp hm
      exact hne q hq he
    rw [kp r o e this] at hg
    cases hg


/-- what a call leaves: all but X stands; nothing is printed; no generator is left with a cleanup -/
structure Go (X : List Addr) (s s' : Shared) : Prop where
  kp : Kp X s.heap s'.heap
  os : s'.os = s.os
  gens : AllBare s.gens → AllBare s'.gens

theorem Go.refl (X : List Addr) (s : Shared) : Go X s s := ⟨Kp.refl _ _, rfl, id⟩
theorem Go.trans {X : List Addr} {s s' s'' : Shared} (a : Go X s s') (b : Go X s' s'') : Go X s s'' := ⟨a.kp.trans b.kp, b.os.trans a.os, fun q => b.gens (a.gens q)⟩
theorem Go.mono {X Y : List Addr} {s s' : Shared} (a : Go X s s') (h : ∀ x ∈ X, x ∈ Y) : Go Y s s' := ⟨a.kp.mono h, a.os, a.gens⟩
theorem Go.of_kp {X : List Addr} {s : Shared} {h' : Heap} {tk : Nat} (k : Kp X s.heap h') : Go X s { s with heap := h', toks := tk } := ⟨k, rfl, id⟩


section
variable {prog : Program} {w : World} {A : Around} {E : Value → Shared → Prop} {s : Shared}

theorem call_bi {id n owner : String} {B : Builtin} {self : Value} {rest : List Value} {Q : Value → Shared → Prop} (plain : plainId id = true) (entry : entryFor table id = some B)
    (hk : builtinKind id = some .slot ∨ builtinKind id = some .method) (hs : splitId id = some (owner, n)) (hi : Looks (model prog w) s.heap (isInstance self (.type owner)) true) (ha : argsOk id ⟨self :: rest, []⟩)
    (h : wpAny (model prog w) A.in1 (B ⟨self :: rest, []⟩) (fun fin s' => match fin with | .done (.ret v) => Q v s' | .done _ => False | .again c' => c'.quiet = true ∧ codeAny (model prog w) A c' (wants Q E) s') E s) :
    wpAny (model prog w) A (call (.builtin id) (self :: rest)) Q E s := by
  refine wpAny_call (codeAny_call_builtin plain entry ?_)
  have key : wpAny (model prog w) A.in1 (B ⟨self :: rest, []⟩) (fun fin s' => match fin with | .done f => (fun r s' => match r with | .ok (.ret v) => Q v s' | .ok _ => False | .error e => E e s' : Result → Shared → Prop) (.ok f) s' | .again c' => c'.quiet = true ∧ codeAny (model prog w) A c' (fun r s' => match r with | .ok (.ret v) => Q v s' | .ok _ => False | .error e => E e s') s')
      (fun e s' => E e s') s := by
    refine wpAny_mono h (fun fin s' z => ?_) fun _ _ z => z
    rcases fin with (_ | _ | _ | _) | _ <;> first | exact z | exact z.elim
  rcases hk with hk | hk <;>
  · simp only [checkBuiltinCall, hk, hs]
    refine wpAny_bind (hi.here ?_)
    simp only [Bool.not_true, Bool.false_eq_true, if_false]
    cases hsig : Manifest.signature? id with
    | none => exact wpAny_pure key
    | some sig =>
      simp only [argsOk, hsig] at ha
      have h2 : Bind.checkArgs id sig ⟨self :: rest, []⟩ = pure () := ha
      show wpAny _ _ (Bind.checkArgs id sig ⟨self :: rest, []⟩) _ _ s
      rw [h2]; exact wpAny_pure key

theorem isinst_of {M : Model} {h : Heap} {K : Frag} {x C : Addr} {ox : Obj} {od : Option Obj} {b : Value} (X : K.In h) (I : InstAt h x ox C od) (e : mroIn K C b = some true) : Looks M h (isInstance (.ref x) b) true :=
  I.type.andThen (looks_mroIn X e)

theorem upd_seq {M : Model} {a : Addr} {f : Array Value → Array Value} {c : Value} {d : Option Addr} {xs : Array Value} {ep : Nat} {sl : Array (Option Value)} {Q : Unit → Shared → Prop}
    (ho : s.heap.get? a = some ⟨c, d, .seq xs ep, sl⟩) (hz : (f xs).size ≤ sizeLine)
    (h : ∀ h', Heap.SameBut a s.heap h' → h'.get? a = some ⟨c, d, .seq (f xs) (if (f xs).size == xs.size then ep else ep + 1), sl⟩ → Q () { s with heap := h' }) :
    wpAny M A (updateSeq a f) Q E s := by
  unfold updateSeq
  refine wpAny_bind (wpAny_load ho ?_)
  refine wpAny_bind (wpAny_update ho ?_)
  have e : (s.heap.update a (Obj.mapSeq f)).get? a = some ⟨c, d, .seq (f xs) (if (f xs).size == xs.size then ep else ep + 1), sl⟩ := Heap.get?_update_self _ ho rfl
  refine wpAny_lookBehind e ?_ (h _ (Heap.SameBut.update ..) e)
  exact if_neg (Nat.not_lt.mpr (Nat.le_succ_of_le hz))

theorem plain_append : plainId "list.append" = true := by decide +kernel
theorem entry_append : entryFor table "list.append" = some Builtin.«list.append» := entryFor_of_tree (by kernel_rfl)
theorem kind_append : builtinKind "list.append" = some .method := by decide +kernel
theorem split_append : splitId "list.append" = some ("list", "append") := by decide +kernel
theorem args_append (a b : Value) : argsOk "list.append" ⟨[a, b], []⟩ := by unfold argsOk; rw [PySem.W.Fast.signatureQ_eq]; kernel_rfl

theorem append_acc {x : Addr} {v : Value} {c : Value} {d : Option Addr} {xs : Array Value} {ep : Nat} {sl : Array (Option Value)} {Q : Value → Shared → Prop}
    (ho : s.heap.get? x = some ⟨c, d, .seq xs ep, sl⟩) (hi : Looks (model prog w) s.heap (isInstance (.ref x) (.type "list")) true) (hz : xs.size + 1 ≤ sizeLine)
    (h : ∀ h', Heap.SameBut x s.heap h' → h'.get? x = some ⟨c, d, .seq (xs.push v) (ep + 1), sl⟩ → Q .none { s with heap := h' }) :
    wpAny (model prog w) A (call (.builtin "list.append") [.ref x, v]) Q E s := by
  refine call_bi plain_append entry_append (.inr kind_append) split_append hi (args_append _ _) ?_
  unfold Builtin.«list.append»
  refine wpAny_bind (wpAny_of_eq (a := (Value.ref x, v)) (by kernel_rfl) ?_)
  refine wpAny_bind (upd_seq (f := (·.push v)) ho (by simpa using hz) fun h' hs' ho' => ?_)
  refine wpAny_pure (h h' hs' ?_)
  rw [ho']
  simp

theorem canon_list_ga : Manifest.canonical "list.__getattribute__" = "object.__getattribute__" := by rw [PySem.W.Fast.canonicalQ_eq]; decide +kernel

variable {K : Frag} {x C : Addr} {ox : Obj} {od : Option Obj} {name : Str} {pl : Sem Bool}
/-- a method of a class whose __getattribute__ is the plain one, by whatever type's name -/
theorem method_any {ga : String} {f tf : Value} {Q : Value × List Value → Shared → Prop} (X : K.In s.heap) (I : InstAt s.heap x ox C od) (hga : findIn K (.ref C) "__getattribute__" = some (some (.builtin ga))) (hcan : Manifest.canonical ga = "object.__getattribute__")
    (hk : findIn K (.ref C) "__getattr__" = some none)
    (hf : findIn K (.ref C) name = some (some f)) (ht : typeIn K f = some tf) (htf : (tf == .type "function" || tf == .type "method_descriptor" || tf == .type "wrapper_descriptor") = true) (hs : shadowIn od name = some false) (h : Q (f, [.ref x]) s) :
    wpAny (model prog w) A (getMethod (.ref x) name pl) Q E s := by
  unfold getMethod specialOf
  refine wpAny_bind (wpAny_bind (I.type.here ((looks_findIn X hga).here ?_)))
  dsimp only
  rw [hcan, if_neg (by decide)]
  refine wpAny_bind (wpAny_bind (I.type.here ((looks_findIn X hk).here ?_)))
  refine wpAny_bind (wpAny_bind (I.type.here ((looks_findIn X hf).here (wpAny_bind ((looks_typeIn X ht).here ?_)))))
  rw [if_neg (by
    simp only [Bool.or_eq_true, beq_iff_eq] at htf
    rcases htf with (rfl | rfl) | rfl <;> decide)]
  refine wpAny_bind (wpAny_loadPart I.at_ ?_)
  have hd := I.dict
  cases e : ox.dict with
  | none => exact wpAny_bind (wpAny_rule (wpAny_pure h))
  | some dx =>
    cases od with
    | none => rw [e] at hd; exact hd.elim
    | some o =>
      rw [e] at hd
      obtain ⟨r, a, b⟩ := Option.map_eq_some_iff.mp hs
      refine wpAny_bind (wpAny_bind (wpAny_loadPart hd ?_))
      rw [nsLook_of a]
      refine wpAny_pure ?_
      rw [b]
      exact wpAny_bind (wpAny_rule (wpAny_pure h))
end

noncomputable abbrev accObj (d : Addr) (its : List Value) (ep : Nat) : Obj := ⟨.ref 178, some d, .seq its.toArray ep, #[]⟩
/-- an accumulator's own dict: its initial size is 0 -/
noncomputable abbrev accDict (hs : Int) (t t' : Tok) : Obj := dictOf [⟨hs, .str (Str.ofString "_initial_size") t, .int 0 t'⟩] 1
noncomputable abbrev tupObj (g v : Str) (t t' : Tok) : Obj := { cls := .type "tuple", data := .seq #[.str g t, .str v t'] }

theorem InstAt.of_seq {h₀ h : Heap} {L x C dx : Addr} {news : List (Addr × Obj)} {od : Obj} {its : Array Value} {ep : Nat} {sl : Array (Option Value)} (N : News h₀ L h news) (h1 : (x, (⟨.ref C, some dx, .seq its ep, sl⟩ : Obj)) ∈ news) (h2 : (dx, od) ∈ news) :
    InstAt h x ⟨.ref C, some dx, .seq its ep, sl⟩ C (some od) := ⟨(N _ h1).1, rfl, rfl, (N _ h2).1⟩

theorem append_L {prog : Program} {w : World} {A : Around} {E : Value → Shared → Prop} {s : Shared} {K : Frag} {h₀ : Heap} {L x C : Addr} {m : Str → Option Value} {news news' : List (Addr × Obj)} {od : Obj} {d : Addr} {its : Array Value} {ep : Nat} {sl : Array (Option Value)} {v : Value} {Q : Value → Shared → Prop}
    (F : Fr h₀ L s.heap m) (N : News h₀ L s.heap news) (X : K.In s.heap) (I : InstAt s.heap x ⟨.ref C, some d, .seq its ep, sl⟩ C (some od)) (hm : mroIn K C (.type "list") = some true)
    (U : Upd x ⟨.ref C, some d, .seq its ep, sl⟩ ⟨.ref C, some d, .seq (its.push v) (ep + 1), sl⟩ news news')
    (h : ∀ h', Fr h₀ L h' m → News h₀ L h' news' → Q .none { s with heap := h' }) (hz : its.size + 1 ≤ sizeLine) : wpAny (model prog w) A (call (.builtin "list.append") [.ref x, v]) Q E s := by
  obtain ⟨pre, post, rfl, rfl, a, b⟩ := U.split
  have z := N (x, _) (List.mem_append.mpr (.inr (.head _)))
  exact append_acc z.1 (isinst_of X I hm) hz fun h' hs ho' => h h' (F.change hs z.2.1 z.2.2) (news_set N a b hs ho')

example : True := by
  (k_with "my k_inst" => (refine' InstAt.of_seq (by k_asm) (by k_extra "my mem") (by k_extra "my mem")))
  (k_with "my enter" => (
  (case ho => k_is); (case hcd => k_is); (case hb => first | exact BindsTo.of_eq rfl | exact binds_K (Frag.In.keeps (Gd.X (by assumption)) (by assumption)) rfl (by k_is) rfl rfl rfl); (case hl => exact locs rfl); (case c2 => exact rfl); (case c3 => exact rfl); (case c4 => exact rfl); (case c5 => decide)))
  (k_with "getMethod ref" => (k_here; k_dflt (refine' method_any (by k_in) (by k_inst) (by k_is) (by first | exact canon_list_ga | decide +kernel) (by k_is) (by k_is) (by k_is) (by decide) (by rfl) ?_; k_whole)))
  (k_with "call builtin:list.append" => (k_here; (with_reducible show wpAny _ _ (call (Value.builtin _) [Value.ref _, _]) _ _ _); k_dflt (refine' append_L (by k_asm) (by k_asm) (by k_in) (by k_inst) (by k_is) (by k_upd) ?_ (by first | size_fits | (simp only [List.size_toArray]; rw [sizeLine_eq]; omega)); k_whole); intro _ _ _; (try k_sweep)))
  trivial


/-- an accumulator in the heap: its list and its own dict, neither of the ground's -/
noncomputable def AccAt (g₀ h : Heap) (x d : Addr) (its : List Value) : Prop :=
  ∃ ep hs t t', h.get? x = some (accObj d its ep) ∧ h.get? d = some (accDict hs t t') ∧ g₀.get? x = none ∧ g₀.get? d = none ∧ @Ne Nat x d

section
variable {w : World} {A : Around} {s : Shared} {p : Program} {loose : List Str} {mg mb : Str → Option Value} {g₀ : Heap}
    {Q : Value → Shared → Prop} {E : Value → Shared → Prop} {x d : Addr} {its : List Value}

theorem push_c {g v : Str} {t t' : Tok} (G : Gd (hd.heap_39 w.params) p loose mg mb g₀) (H : g₀.StaysIn s.heap) (hA : AccAt g₀ s.heap x d its)
    (hroom : A.depth + 5 < recursionLimit) (_hu : A.units + 100 < cLine) (_hlen : its.length < 1000)
    (hQ : ∀ r s', Go [x] s s' → s.heap.get? r = none → s'.heap.get? r = some (tupObj g v t t') → AccAt g₀ s'.heap x d (its ++ [.ref r]) → Q .none s') :
    wpAny (model PySem.Challenge.rw_wr0037_01.prog w) A (call (.ref 122) [.ref x, .str g t, .str v t']) Q E s := by
  k_extra "my hide"
  obtain ⟨ep, hs, t₁, t₂, hx, hdd, hx0, hd0, hxd⟩ := hA
  k_extra "my back"
  refine' enter (binds := [(Str.ofString "self", .ref x), (Str.ofString "fws", .str g t), (Str.ofString "string", .str v t')]) [(x, accObj d its ep), (d, accDict hs t₁ t₂)] G H ?hn ?ho ?hcd ?hr ?hb ?hl ?hbody ?c2 ?c3 ?c4 ?c5
  k_extra "my enter"
  case hn => exact all_cons ⟨hx, hx0⟩ (all_cons ⟨hdd, hd0⟩ all_nil)
  case hr => omega
  case hbody =>
    intro g' L' h' G' st' kp' F' N' l1
    have X' := G'.X
    have T' := G'.T
    (show wpAny _ _ _ _ _ _); k_fold
    k_steps
    rename Fr _ _ _ _ => kF
    rename News _ _ _ _ => kN
    refine hQ _ _ (.of_kp (kp_out kp' kF kN (all_cons hx (all_cons hdd all_nil)) (all_cons (.inl (.head _)) (all_cons (.inr (by k_extra "my mem")) all_nil)))) (fresh_out kp' (kN.fresh (by k_extra "my mem")) (by k_all)) (kN.get (by k_extra "my mem")) ⟨ep + 1, hs, t₁, t₂, ?_, kN.get (by k_extra "my mem"), hx0, hd0, hxd⟩
    rw [kN.get (List.Mem.tail _ (.head _))]
    simp
end

section
variable {prog : Program} {w : World} {A : Around} {E : Value → Shared → Prop} {s : Shared} {K : Frag} {x C : Addr} {ox : Obj} {od : Option Obj} {name : Str}

theorem bind_any {M : Model} {h : Heap} {f tf : Value} (X : K.In h) (self : Value) (ht : typeIn K f = some tf) (htf : (tf == .type "function" || tf == .type "method_descriptor" || tf == .type "wrapper_descriptor") = true) : Looks M h (bindSpecial f self) (f, [self]) := by
  unfold bindSpecial
  refine (looks_typeIn X ht).andThen ?_
  rw [if_pos htf]
  exact .now

theorem special_any {f tf : Value} {args : List Value} {Q : Option Value → Shared → Prop} (X : K.In s.heap) (I : InstAt s.heap x ox C od) (hs : findIn K (.ref C) name = some (some f)) (ht : typeIn K f = some tf)
    (htf : (tf == .type "function" || tf == .type "method_descriptor" || tf == .type "wrapper_descriptor") = true) (h : wpAny (model prog w) A (call f (.ref x :: args)) (fun v => Q (some v)) E s) :
    wpAny (model prog w) A (callSpecial? (.ref x) name args) Q E s :=
  wpAny_bind (wpAny_bind (I.type.here ((looks_findIn X hs).here (wpAny_holding (wpAny_bind ((bind_any X _ ht htf).here (wpAny_bind (wpAny_mono h (fun _ _ z => wpAny_pure z) fun _ _ z => z))))))))

theorem seqKey_own {nm : Str} {v : Value} {Q : Value → Shared → Prop} (X : K.In s.heap) (I : InstAt s.heap x ox C od) (hq : noSeq K C = true) (h : Q v s) : wpAny (model prog w) A (sequenceKey (.ref x) v nm) Q E s := by
  unfold sequenceKey
  refine wpAny_bind (I.type.here ?_)
  refine wpAny_bind ((anyM_none X hq).here ?_)
  rw [if_pos (show (!false) = true from rfl)]
  exact wpAny_pure h

theorem tf_gi {K : Frag} : typeIn K (.builtin "list.__getitem__") = some (.type "wrapper_descriptor") ∨ typeIn K (.builtin "list.__getitem__") = some (.type "method_descriptor") := by
  first | (left; show pureOf (fastBuiltinType "list.__getitem__") = _; decide +kernel) | (right; show pureOf (fastBuiltinType "list.__getitem__") = _; decide +kernel)
theorem tf_si {K : Frag} : typeIn K (.builtin "list.__setitem__") = some (.type "wrapper_descriptor") ∨ typeIn K (.builtin "list.__setitem__") = some (.type "method_descriptor") := by
  first | (left; show pureOf (fastBuiltinType "list.__setitem__") = _; decide +kernel) | (right; show pureOf (fastBuiltinType "list.__setitem__") = _; decide +kernel)

theorem plain_gi : plainId "list.__getitem__" = true := by decide +kernel
theorem kind_gi : builtinKind "list.__getitem__" = some .slot ∨ builtinKind "list.__getitem__" = some .method := by first | exact .inl (by decide +kernel) | exact .inr (by decide +kernel)
theorem split_gi : splitId "list.__getitem__" = some ("list", "__getitem__") := by decide +kernel
theorem plain_si : plainId "list.__setitem__" = true := by decide +kernel
theorem entry_si : entryFor table "list.__setitem__" = some Builtin.«list.__setitem__» := entryFor_of_tree (by kernel_rfl)
theorem kind_si : builtinKind "list.__setitem__" = some .slot ∨ builtinKind "list.__setitem__" = some .method := by first | exact .inl (by decide +kernel) | exact .inr (by decide +kernel)
theorem split_si : splitId "list.__setitem__" = some ("list", "__setitem__") := by decide +kernel
theorem args_si (a b c : Value) : argsOk "list.__setitem__" ⟨[a, b, c], []⟩ := by unfold argsOk; rw [PySem.W.Fast.signatureQ_eq]; kernel_rfl

theorem gi_call {f tf : Value} (ht : typeIn K f = some (.type "wrapper_descriptor") ∨ typeIn K f = some (.type "method_descriptor")) :
    ∃ tf, typeIn K f = some tf ∧ (tf == .type "function" || tf == .type "method_descriptor" || tf == .type "wrapper_descriptor") = true := by
  rcases ht with h | h <;> exact ⟨_, h, by decide⟩

/-- x[a:b] of a list of a class of the text's own: a plain list -/
theorem getItem_slice_own {S : Addr} {items : Array Value} {ep : Nat} {vl vu vs : Value} {lo hi st : Option Int} {Q : Value → Shared → Prop} (X : K.In s.heap) (I : InstAt s.heap x ox C od) (hgi : findIn K (.ref C) "__getitem__" = some (some (.builtin "list.__getitem__")))
    (hq : noSeq K C = true) (hm : mroIn K C (.type "list") = some true) (hd : ox.data = .seq items ep) (hs : s.heap.IsSliceOf S vl vu vs) (pl : IsPart vl lo) (pu : IsPart vu hi) (ps : IsPart vs st) (h0 : st ≠ some 0)
    (h : Q (.ref s.heap.objs.size) { s with heap := s.heap.push { cls := .type "list", data := .seq (slicePick items lo hi st) } })
    (hsz : items.size ≤ sizeLine) : wpAny (model prog w) A (getItem (.ref x) (.ref S)) Q E s := by
  obtain ⟨os, hos, hcs, hds⟩ := id hs
  have hTs : s.TypeIs (.ref S) "slice" := ⟨os, hos, hcs⟩
  obtain ⟨tf, ht, htf⟩ := gi_call (K := K) (tf := .none) tf_gi
  unfold getItem
  refine wpAny_holding (wpAny_bind (seqKey_own X I hq ?_))
  refine wpAny_bind (special_any X I hgi ht htf (call_bi plain_gi entry_list_getitem kind_gi split_gi (isinst_of X I hm) (args_list_getitem _ _) ?_))
  show wpAny _ _ (Builtin.List.listSubscript? (.ref S) >>= _) _ _ s
  refine wpAny_bind ?_
  unfold Builtin.List.listSubscript?
  refine wpAny_bind (wpAny_specialOf hTs slice_no_index ?_)
  simp only [Option.isNone_none, if_true]
  refine wpAny_pure ?_
  show wpAny _ _ (typeOf (.ref S) >>= _) _ _ s
  refine wpAny_bind (wpAny_typeOf hTs ?_)
  rw [if_neg (by decide)]
  rw [listSliceParts_eq]
  have hstep : ¬ ((rawPart st == rawInt 0) = true) := by
    cases st with
    | none => exact Bool.false_ne_true
    | some c =>
      intro hh
      have : c = 0 := by simpa [rawPart, rawInt] using hh
      exact h0 (by rw [this])
  refine wpAny_bind (wpAny_bind (wpAny_field hos hds (x := vs) rfl (wpAny_bind (wpAny_listPart ps ?_))))
  rw [if_neg hstep]
  refine wpAny_bind (wpAny_field hos hds (x := vl) rfl (wpAny_bind (wpAny_listPart pl ?_)))
  refine wpAny_bind (wpAny_field hos hds (x := vu) rfl (wpAny_bind (wpAny_listPart pu (wpAny_pure ?_))))
  refine wpAny_bind (m := Builtin.List.listItems (.ref x)) ?_
  unfold Builtin.List.listItems
  refine wpAny_bind (wpAny_seqItems I.at_ hd (wpAny_pure ?_))
  refine wpAny_bind (wpAny_of_eq (sliceIndices_raw lo hi st items.size h0) ?_)
  exact wpAny_bind (wpAny_newObj_type (wpAny_pure (wpAny_pure h)) (Nat.le_trans (slicePick_size_le items lo hi st) hsz))

theorem looks_gip (X : K.In s.heap) (I : InstAt s.heap x ox C od) {id : String} (hgi : findIn K (.ref C) "__getitem__" = some (some (.builtin id))) : Looks (model prog w) s.heap (getitemInPython (.ref x)) false := by
  unfold getitemInPython specialOf
  exact (I.type.andThen (looks_findIn X hgi)).andThen .now

theorem subTail_slice_own {S : Addr} {value : Expr} {lower upper : Option Expr} {pp : Pos} {items : Array Value} {ep : Nat} {vl vu : Value} {lo hi : Option Int} {Q : Value → Shared → Prop} (X : K.In s.heap) (I : InstAt s.heap x ox C od) (hgi : findIn K (.ref C) "__getitem__" = some (some (.builtin "list.__getitem__")))
    (hq : noSeq K C = true) (hm : mroIn K C (.type "list") = some true) (hd : ox.data = .seq items ep) (hs : s.heap.IsSliceOf S vl vu .none) (pl : IsPart vl lo) (pu : IsPart vu hi)
    (h : Q (.ref s.heap.objs.size) { s with heap := s.heap.push { cls := .type "list", data := .seq (slicePick items lo hi none) } })
    (hsz : items.size ≤ sizeLine) : wpAny (model prog w) A (subscriptTail value (.Slice lower upper none pp) (.ref x) (.ref S)) Q E s := by
  unfold subscriptTail
  refine wpAny_bind ((looks_gip X I hgi).here ?_)
  show wpAny _ _ (operate [.ref S, .ref x] (getItem (.ref x) (.ref S)) >>= _) _ _ s
  refine wpAny_bind (wpAny_operating (getItem_slice_own X I hgi hq hm hd hs pl pu .none (by simp) ?_ hsz))
  exact wpAny_bind (wpAny_letTemporaryGo (wpAny_pure h))

noncomputable def cutSeq (xs new : Array Value) (lo hi : Option Int) : Array Value :=
  let b := sliceBounds lo hi none xs.size
  xs.extract 0 b.1.toNat ++ new ++ xs.extract (max b.1 b.2.1).toNat xs.size

/-- x[a:b] = l, of a list of a class of the text's own -/
theorem setItem_slice_own {S l : Addr} {items new : Array Value} {ep epl : Nat} {c : Value} {dd : Option Addr} {sl : Array (Option Value)} {ol : Obj} {vl vu : Value} {lo hi : Option Int} {Q : Unit → Shared → Prop} (X : K.In s.heap) (I : InstAt s.heap x ⟨c, dd, .seq items ep, sl⟩ C od) (hgi : findIn K (.ref C) "__setitem__" = some (some (.builtin "list.__setitem__")))
    (hq : noSeq K C = true) (hm : mroIn K C (.type "list") = some true) (hs : s.heap.IsSliceOf S vl vu .none) (pl : IsPart vl lo) (pu : IsPart vu hi)
    (hl : s.heap.get? l = some ol) (hlc : ol.cls = .type "list") (hld : ol.data = .seq new epl) (hxl : x ≠ l)
    (hsz : items.size + new.size ≤ sizeLine) (hcz : (cutSeq items new lo hi).size ≤ sizeLine)
    (h : ∀ h', Heap.SameBut x s.heap h' → h'.get? x = some ⟨c, dd, .seq (cutSeq items new lo hi) (if (cutSeq items new lo hi).size == items.size then ep else ep + 1), sl⟩ → Q () { s with heap := h' }) : wpAny (model prog w) A (setItem (.ref x) (.ref S) (.ref l)) Q E s := by
  obtain ⟨os, hos, hcs, hds⟩ := id hs
  have hTs : s.TypeIs (.ref S) "slice" := ⟨os, hos, hcs⟩
  have hTl : s.TypeIs (.ref l) "list" := ⟨ol, hl, hlc⟩
  obtain ⟨tf, ht, htf⟩ := gi_call (K := K) (tf := .none) tf_si
  unfold setItem
  refine wpAny_holding (wpAny_bind (seqKey_own X I hq ?_))
  refine wpAny_bind (special_any X I hgi ht htf (call_bi plain_si entry_si kind_si split_si (isinst_of X I hm) (args_si _ _ _) ?_))
  unfold Builtin.«list.__setitem__»
  refine wpAny_bind (wpAny_of_eq (a := (Value.ref x, [Value.ref S, Value.ref l])) (by kernel_rfl) ?_)
  dsimp only
  refine wpAny_bind ?_
  unfold Builtin.List.listSubscript?
  refine wpAny_bind (wpAny_specialOf hTs slice_no_index ?_)
  simp only [Option.isNone_none, if_true]
  refine wpAny_pure ?_
  dsimp only
  refine wpAny_bind (wpAny_typeOf hTs ?_)
  rw [if_neg (by decide)]
  rw [listSliceParts_eq]
  refine wpAny_bind (wpAny_bind (wpAny_field hos hds (x := .none) rfl (wpAny_bind (wpAny_listPart .none ?_))))
  rw [if_neg (by exact Bool.false_ne_true)]
  refine wpAny_bind (wpAny_field hos hds (x := vl) rfl (wpAny_bind (wpAny_listPart pl ?_)))
  refine wpAny_bind (wpAny_field hos hds (x := vu) rfl (wpAny_bind (wpAny_listPart pu (wpAny_pure ?_))))
  dsimp only
  have hsame : Builtin.List.listSameRef (.ref x) (.ref l) = false := by
    show (x == l) = false
    exact beq_eq_false_iff_ne.mpr hxl
  rw [hsame, if_neg Bool.false_ne_true]
  refine wpAny_bind ?_
  unfold Builtin.List.listAllItems
  refine wpAny_bind (wpAny_typeOf hTl ?_)
  rw [if_pos (by decide)]
  unfold Builtin.List.listItems
  refine wpAny_bind (wpAny_seqItems hl hld (wpAny_pure ?_))
  refine wpAny_bind (wpAny_bind (wpAny_seqItems I.at_ rfl (wpAny_pure ?_)))
  refine wpAny_bind (wpAny_of_eq (sliceIndices_raw lo hi none items.size (by simp)) ?_)
  rw [if_pos (by rfl)]
  refine wpAny_bind (wpAny_rule ?_)
  rw [if_neg (by simp [Builtin.List.listTooLong]; omega)]
  refine wpAny_bind (upd_seq (f := fun xs => xs.extract 0 (sliceBounds lo hi none items.size).1.toNat ++ new ++ xs.extract (max (sliceBounds lo hi none items.size).1 (sliceBounds lo hi none items.size).2.1).toNat xs.size) I.at_ hcz fun h' hs' ho' => ?_)
  refine wpAny_bind (wpAny_letGo ?_)
  exact wpAny_pure (wpAny_pure (h h' hs' ho'))
end

theorem cutSeq_from (its : List Value) (k : Nat) (hk : k ≤ its.length) : cutSeq its.toArray #[] (some (k : Int)) none = (its.take k).toArray := by
  unfold cutSeq
  rw [sliceBounds_plain]
  simp only [Option.elim, clipAt_nat, List.size_toArray, Int.toNat_natCast]
  have h1 : min k its.length = k := Nat.min_eq_left hk
  rw [h1]
  have h2 : (max (k : Int) (its.length : Int)).toNat = its.length := by omega
  rw [h2]
  apply Array.ext'
  simp
theorem cutSeq_all (xs new : Array Value) : cutSeq xs new none none = new := by
  unfold cutSeq
  rw [sliceBounds_plain]
  simp only [Option.elim]
  have h2 : (max ((0 : Nat) : Int) (xs.size : Int)).toNat = xs.size := by omega
  rw [h2]
  apply Array.ext'
  simp

section
variable {prog : Program} {w : World} {A : Around} {E : Value → Shared → Prop} {s : Shared} {K : Frag} {x C dx S : Addr} {od : Obj} {g h₁ : Heap} {L : Addr} {m : Str → Option Value} {news : List (Addr × Obj)} {items : Array Value} {ep : Nat} {sl : Array (Option Value)} {vl vu : Value} {lo hi : Option Int}

theorem slice_get_L {value : Expr} {lower upper : Option Expr} {pp : Pos} {vs : List Value} {Q : Value → Shared → Prop} (e : s.heap = h₁.push { cls := .type "slice", data := .fields #[vl, vu, .none] }) (hS : S = h₁.objs.size)
    (F : Fr g L h₁ m) (N : News g L h₁ news) (X : K.In g) (hx : (x, (⟨.ref C, some dx, .seq items ep, sl⟩ : Obj)) ∈ news) (hdx : (dx, od) ∈ news)
    (hgi : findIn K (.ref C) "__getitem__" = some (some (.builtin "list.__getitem__"))) (hq : noSeq K C = true) (hm : mroIn K C (.type "list") = some true) (pl : IsPart vl lo) (pu : IsPart vu hi) (hsz : items.size ≤ sizeLine)
    (ev : slicePick items lo hi none = vs.toArray)
    (h : ∀ r h', Fr g L h' m → News g L h' ((r, listOf vs.toArray 0) :: news) → (∀ p ∈ news, p.1 < r) → Q (.ref r) { s with heap := h' }) :
    wpAny (model prog w) A (subscriptTail value (.Slice lower upper none pp) (.ref x) (.ref S)) Q E s := by
  have F' : Fr g L s.heap m := e ▸ F.push _
  have N' : News g L s.heap news := by rw [e]; exact fun p hp => N.push F _ rfl p (.tail _ hp)
  have hs : s.heap.IsSliceOf S vl vu .none := by rw [e, hS]; exact Heap.IsSliceOf.new ..
  refine subTail_slice_own (X.keeps F'.keep) (InstAt.of_seq N' hx hdx) hgi hq hm rfl hs pl pu ?_ hsz
  rw [ev]
  exact h _ _ (F'.push _) (N'.push F' _) fun p hp => Heap.lt_size (N' p hp).1

theorem slice_set_L {l : Addr} {new : Array Value} {epl : Nat} {vs : List Value} {gf : Obj → List (Addr × Obj)} {Q : Unit → Shared → Prop} (e : s.heap = h₁.push { cls := .type "slice", data := .fields #[vl, vu, .none] }) (hS : S = h₁.objs.size)
    (F : Fr g L h₁ m) (N : News g L h₁ news) (X : K.In g) (U : UpdF x (⟨.ref C, some dx, .seq items ep, sl⟩ : Obj) news gf) (hdx : (dx, od) ∈ news)
    (hgi : findIn K (.ref C) "__setitem__" = some (some (.builtin "list.__setitem__"))) (hq : noSeq K C = true) (hm : mroIn K C (.type "list") = some true) (pl : IsPart vl lo) (pu : IsPart vu hi)
    (hl : h₁.get? l = some (listOf new epl)) (hxl : @Ne Nat x l) (hsz : items.size + new.size ≤ sizeLine)
    (ev : cutSeq items new lo hi = vs.toArray) (hvz : vs.length ≤ sizeLine)
    (h : ∀ h' ep', Fr g L h' m → News g L h' (gf ⟨.ref C, some dx, .seq vs.toArray ep', sl⟩) → Q () { s with heap := h' }) :
    wpAny (model prog w) A (setItem (.ref x) (.ref S) (.ref l)) Q E s := by
  obtain ⟨pre, post, rfl, hg, a, b⟩ := U.split
  have F' : Fr g L s.heap m := e ▸ F.push _
  have N' : News g L s.heap (pre ++ (x, (⟨.ref C, some dx, .seq items ep, sl⟩ : Obj)) :: post) := by rw [e]; exact fun p hp => N.push F _ rfl p (.tail _ hp)
  have hs : s.heap.IsSliceOf S vl vu .none := by rw [e, hS]; exact Heap.IsSliceOf.new ..
  have z := N' (x, _) (List.mem_append.mpr (.inr (.head _)))
  refine setItem_slice_own (X.keeps F'.keep) (InstAt.of_seq N' (List.mem_append.mpr (.inr (.head _))) hdx) hgi hq hm hs pl pu (e ▸ Heap.get?_push_of_some _ hl) rfl rfl hxl hsz (by rw [ev]; simpa using hvz) fun h' hsb ho => ?_
  rw [ev] at ho
  exact h h' _ (F'.change hsb z.2.1 z.2.2) (hg _ ▸ news_set N' a b hsb ho)
end


open Builtin Builtin.ObjectAttr in
theorem pass_list (self : Value) (C : Addr) : refuseLoop self "__setattr__" [.ref C, .type "list", .type "object"] = pure () := by
  rw [refuseLoop_ref]
  kernel_rfl

open Builtin Builtin.ObjectAttr in
/-- an attribute stored into the own dict of an object of a class under list -/
theorem set_own {prog : Program} {w : World} {A : Around} {E : Value → Shared → Prop} {s : Shared} {K : Frag} {x C dx : Addr} {g : Heap} {L : Addr} {m : Str → Option Value} {news news' : List (Addr × Obj)} {ox : Obj} {cd : ClassData} {es es' : List DictEntry} {n n' : Nat} {name : Str} {v : Value} {Q : Unit → Shared → Prop}
    (F : Fr g L s.heap m) (X₀ : K.In g) (N : News g L s.heap news) (I : InstAt s.heap x ox C (some (dictOf es n))) (hdi : ox.dict = some dx)
    (hs : findIn K (.ref C) "__setattr__" = some (some (.builtin "object.__setattr__"))) (hc : clsIn K C = some cd) (hmro : cd.mro = [.ref C, .type "list", .type "object"]) (hh : cd.hasDict = true) (ht : takerIn K C name = some none) (hl : (getL name es).isSome = true)
    (e : (putL name (PyData.keyHash w.params name) (.str name (s.toks + 1)) v es, putN name es n) = (es', n')) (U : Upd dx (dictOf es n) (dictOf es' n') news news') (hz : es'.length ≤ 1000)
    (h : ∀ h', Fr g L h' m → News g L h' news' → Q () { s with heap := h', toks := s.toks + 2 }) :
    wpAny (model prog w) A (setAttr (.ref x) name v) Q E s := by
  obtain ⟨pre, post, rfl, rfl, h1, h2⟩ := U.split
  obtain ⟨e1, e2⟩ := Prod.mk.inj e
  have X := X₀.keeps F.keep
  refine set_plain X I hs ?_
  generalize hs1 : ({ s with toks := s.toks + 1 } : Shared) = s1
  have X1 : K.In s1.heap := by rw [← hs1]; exact X
  have I1 : InstAt s1.heap x ox C (some (dictOf es n)) := by rw [← hs1]; exact I
  have N1 : News g L s1.heap (pre ++ (dx, dictOf es n) :: post) := by rw [← hs1]; exact N
  have F1 : Fr g L s1.heap m := by rw [← hs1]; exact F
  have tk1 : s1.toks = s.toks + 1 := by rw [← hs1]
  have SF := PySem.F.store_object
  have sub : Looks (model prog w) s1.heap (isInstance (.ref x) (.type "object")) true := I1.type.andThen (looks_mroIn X1 (by unfold mroIn; rw [hc, Option.bind_some, hmro]; simp))
  refine codeAny_call_builtin SF.slot.plain SF.entry (@check_slot (model prog w) _ _ s1 "object.__setattr__" "object" "__setattr__" (.ref x) [.str name _, v] [] _ SF.kind SF.split sub (SF.args (.ref x) (.str name _) v) ?_)
  obtain ⟨attr, ha, hr⟩ := Option.bind_eq_some_iff.mp ht
  have hm : Looks (model prog w) s1.heap (mroOf (.ref C)) cd.mro := (looks_clsIn X1 hc).andThen .now
  have L3 : Looks (model prog w) s1.heap (storeTaker? attr) none := by
    cases attr with
    | none => cases hr; exact .now
    | some a =>
      obtain ⟨b, hb, hbr⟩ := Option.map_eq_some_iff.mp hr
      refine (looks_takesIn X1 hb).andThen ?_
      cases b with
      | true => cases hbr
      | false => exact .now
  rw [osa_eq, refuse_eq]
  refine wpAny_bind (wpAny_bind (I1.type.here (wpAny_bind (hm.here ?_))))
  rw [hmro, pass_list]
  refine wpAny_pure (wpAny_bind (I1.type.here (wpAny_bind ((looks_findIn X1 ha).here (wpAny_bind (L3.here ?_))))))
  obtain ⟨U1, U2⟩ := news_upd (f := Obj.putName name (PyData.keyHash w.params name) (.str name s1.toks) v) F1 N1 h1 h2 (show _ = dictOf es' n' by rw [putName_dict, tk1, e1, e2]) rfl
  have D := (N1 (dx, dictOf es n) (by simp)).1
  have D' := (U2 (dx, dictOf es' n') (by simp)).1
  obtain ⟨hx, hcl, hn, -⟩ := I1
  obtain ⟨oc, odi, oda, osl⟩ := ox
  dsimp only at hcl hdi
  subst hcl hdi
  refine wpAny_bind (wpAny_pure (wpAny_bind (wpAny_bind (wpAny_loadPart hx (wpAny_bind ((looks_clsIn X1 hc).here ?_))))))
  rw [hh]
  refine wpAny_pure (a := some dx) (wpAny_bind (wpAny_pure (wpAny_bind ?_)))
  unfold nsSet
  refine wpAny_bind (wpAny_bind (wpAny_askSetting (wpAny_pure (wpAny_bind (wpAny_mkText (wpAny_bind (wpAny_loadPart D ?_)))))))
  dsimp only
  have c : (!es.toArray.any (·.key.isStr name) && es.toArray.any (·.refKey)) = false := by
    rw [← Array.any_toList, ← Array.any_toList]
    unfold getL at hl
    split at hl
    · rename_i en he
      rw [List.any_eq_true.mpr ⟨en, List.mem_of_find?_eq_some he, List.find?_some he⟩]; rfl
    · split at hl
      · cases hl
      · rename_i z; rw [Bool.not_eq_true] at z; rw [z, Bool.and_false]
  rw [aRefKeyMayBeTheName_at, c]
  refine wpAny_updatePart D ?_
  refine wpAny_bind (wpAny_lookBehind D' (pastItsLine_dict (by rw [List.size_toArray, sizeLine_eq]; omega)) ?_)
  refine wpAny_pure ?_
  have z := h _ U1 U2
  subst hs1
  exact z

example : True := by
  (k_with "setAttr ref" => (k_here; k_dflt (refine' set_own (by k_asm) (by k_asm) (by k_asm) (by k_inst) (by exact rfl) (by k_is) (by k_is) (by exact rfl) (by exact rfl) (by k_is) (by k_get) (by k_put) (by k_upd) (by exact Nat.le_of_ble_eq_true rfl) ?_; k_whole; intro _ _ _; (try k_sweep))))
  (k_with "subscriptTail" => (k_here; (with_reducible show wpAny _ _ (subscriptTail _ (Expr.Slice _ _ none _) (Value.ref _) (Value.ref _)) _ _ _); k_dflt (refine' slice_get_L (by exact rfl) (by exact rfl) (by k_asm) (by k_asm) (by k_asm) (by k_extra "my mem") (by k_extra "my mem") (by k_is) (by k_is) (by k_is) (by first | exact .none | exact .int _ _) (by first | exact .none | exact .int _ _) (by first | size_fits | (simp only [List.size_toArray]; rw [sizeLine_eq]; omega)) (by first | exact slicePick_from' _ _ | exact slicePick_upto' _ _) ?_; k_whole); intro _ _ _ _ l1ₘ; (try k_lt l1ₘ); (try k_sweep)))
  (k_with "setItem ref ref" => (k_here; k_dflt (refine' slice_set_L ?eₘ ?hSₘ ?Fₘ ?Nₘ ?Xₘ ?Uₘ ?hdxₘ ?hgiₘ ?hqₘ ?hmₘ ?plₘ ?puₘ ?hlₘ ?neₘ ?zₘ ?evₘ ?vzₘ ?_; (case eₘ => exact rfl); (case hSₘ => exact rfl); (case Fₘ => k_asm); (case Nₘ => k_asm); (case Xₘ => k_asm); (case Uₘ => k_updF); (case hdxₘ => k_extra "my mem"); (case hgiₘ => k_is); (case hqₘ => k_is); (case hmₘ => k_is); (case plₘ => first | exact .none | exact .int _ _); (case puₘ => first | exact .none | exact .int _ _); (case hlₘ => first | exact News.get (by k_asm) (by k_extra "my mem") | exact Fr.keep (by k_asm) _ _ (by assumption)); (case neₘ => first | assumption | omega); (case evₘ => first | (with_reducible exact cutSeq_all _ _) | exact cutSeq_from _ _ (by assumption) | exact cutSeq_all _ _); (case zₘ => first | size_fits | (simp only [List.size_toArray]; rw [sizeLine_eq]; first | omega | (simp; done) | (simp; omega))); (case vzₘ => rw [sizeLine_eq]; first | omega | (simp; done) | (simp; omega)); k_whole); intro _ _ _ N'ₘ; (try dsimp only at N'ₘ); (try k_sweep)))
  trivial

section
variable {w : World} {A : Around} {s : Shared} {p : Program} {loose : List Str} {mg mb : Str → Option Value} {g₀ : Heap}
    {Q : Value → Shared → Prop} {E : Value → Shared → Prop} {x d : Addr} {its : List Value}

theorem pop_from_c {k : Nat} {ti : Tok} (G : Gd (hd.heap_39 w.params) p loose mg mb g₀) (H : g₀.StaysIn s.heap) (hA : AccAt g₀ s.heap x d its)
    (hroom : A.depth + 5 < recursionLimit) (_hu : A.units + 100 < cLine) (_hlen : its.length < 1000) (hk : k ≤ its.length)
    (hQ : ∀ r s', Go [x] s s' → s.heap.get? r = none → s'.heap.get? r = some (listOf (its.drop k).toArray 0) → AccAt g₀ s'.heap x d (its.take k) → Q (.ref r) s') :
    wpAny (model PySem.Challenge.rw_wr0037_01.prog w) A (call (.ref 130) [.ref x, .int (k : Int) ti]) Q E s := by
  k_extra "my hide"
  obtain ⟨ep, hs, t₁, t₂, hx, hdd, hx0, hd0, hxd⟩ := hA
  k_extra "my back"
  refine' enter (binds := [(Str.ofString "self", .ref x), (Str.ofString "i", .int (k : Int) ti)]) [(x, accObj d its ep), (d, accDict hs t₁ t₂)] G H ?hn ?ho ?hcd ?hr ?hb ?hl ?hbody ?c2 ?c3 ?c4 ?c5
  k_extra "my enter"
  case hn => exact all_cons ⟨hx, hx0⟩ (all_cons ⟨hdd, hd0⟩ all_nil)
  case hr => omega
  case hbody =>
    intro g' L' h' G' st' kp' F' N' l1
    have X' := G'.X
    have T' := G'.T
    (show wpAny _ _ _ _ _ _); k_fold
    k_steps
    (try dsimp only)
    (show Q _ _)
    rename Fr _ _ _ _ => kF
    rename News _ _ _ _ => kN
    refine hQ _ _ (.of_kp (kp_out kp' kF kN (all_cons hx (all_cons hdd all_nil)) (all_cons (.inl (.head _)) (all_cons (.inr (by k_extra "my mem")) all_nil)))) (fresh_out kp' (kN.fresh (by k_extra "my mem")) (by k_all)) (kN.get (by k_extra "my mem")) ⟨_, hs, t₁, t₂, kN.get (by k_extra "my mem"), kN.get (by k_extra "my mem"), hx0, hd0, hxd⟩

theorem reset_c {l : Addr} {new : List Value} {epl : Nat} (G : Gd (hd.heap_39 w.params) p loose mg mb g₀) (H : g₀.StaysIn s.heap) (hA : AccAt g₀ s.heap x d its)
    (hroom : A.depth + 5 < recursionLimit) (_hu : A.units + 100 < cLine) (_hlen : its.length < 1000) (hlen' : new.length < 1000) (hl : s.heap.get? l = some (listOf new.toArray epl)) (hlx : @Ne Nat x l) (hld : @Ne Nat d l)
    (hQ : ∀ s', Go [x, d] s s' → AccAt g₀ s'.heap x d new → Q .none s') :
    wpAny (model PySem.Challenge.rw_wr0037_01.prog w) A (call (.ref 160) [.ref x, .ref l]) Q E s := by
  k_extra "my hide"
  obtain ⟨ep, hs, t₁, t₂, hx, hdd, hx0, hd0, hxd⟩ := hA
  k_extra "my back"
  refine' enter (binds := [(Str.ofString "self", .ref x), (Str.ofString "startval", .ref l)]) [(x, accObj d its ep), (d, accDict hs t₁ t₂)] G H ?hn ?ho ?hcd ?hr ?hb ?hl ?hbody ?c2 ?c3 ?c4 ?c5
  k_extra "my enter"
  case hn => exact all_cons ⟨hx, hx0⟩ (all_cons ⟨hdd, hd0⟩ all_nil)
  case hr => omega
  case hbody =>
    intro g' L' h' G' st' kp' F' N' l1
    have X' := G'.X
    have T' := G'.T
    have hl' : g'.get? l = some (listOf new.toArray epl) := kp' l _ hl (by simp only [List.map, List.mem_cons, List.not_mem_nil, or_false, not_or]; exact ⟨fun e => hlx e.symm, fun e => hld e.symm⟩)
    (show wpAny _ _ _ _ _ _); k_fold
    k_steps
    (try dsimp only)
    (show Q _ _)
    rename Fr _ _ _ _ => kF
    rename News _ _ _ _ => kN
    exact hQ _ (.of_kp (kp_out kp' kF kN (all_cons hx (all_cons hdd all_nil)) (all_cons (.inl (.head _)) (all_cons (.inl (.tail _ (.head _))) all_nil)))) ⟨_, _, _, _, kN.get (by k_extra "my mem"), kN.get (by k_extra "my mem"), hx0, hd0, hxd⟩
theorem reset0_c (G : Gd (hd.heap_39 w.params) p loose mg mb g₀) (H : g₀.StaysIn s.heap) (hA : AccAt g₀ s.heap x d its)
    (hroom : A.depth + 5 < recursionLimit) (_hu : A.units + 100 < cLine) (_hlen : its.length < 1000)
    (hQ : ∀ s', Go [x, d] s s' → AccAt g₀ s'.heap x d [] → Q .none s') :
    wpAny (model PySem.Challenge.rw_wr0037_01.prog w) A (call (.ref 160) [.ref x]) Q E s := by
  k_extra "my hide"
  obtain ⟨ep, hs, t₁, t₂, hx, hdd, hx0, hd0, hxd⟩ := hA
  k_extra "my back"
  refine' enter (binds := [(Str.ofString "self", .ref x), (Str.ofString "startval", .none)]) [(x, accObj d its ep), (d, accDict hs t₁ t₂)] G H ?hn ?ho ?hcd ?hr ?hb ?hl ?hbody ?c2 ?c3 ?c4 ?c5
  k_extra "my enter"
  case hn => exact all_cons ⟨hx, hx0⟩ (all_cons ⟨hdd, hd0⟩ all_nil)
  case hr => omega
  case hbody =>
    intro g' L' h' G' st' kp' F' N' l1
    have X' := G'.X
    have T' := G'.T
    (show wpAny _ _ _ _ _ _); k_fold
    k_steps
    (try dsimp only)
    (show Q _ _)
    rename Fr _ _ _ _ => kF
    rename News _ _ _ _ => kN
    exact hQ _ (.of_kp (kp_out kp' kF kN (all_cons hx (all_cons hdd all_nil)) (all_cons (.inl (.head _)) (all_cons (.inl (.tail _ (.head _))) all_nil)))) ⟨_, _, _, _, kN.get (by k_extra "my mem"), kN.get (by k_extra "my mem"), hx0, hd0, hxd⟩
end

namespace SP
theorem slot_wd_get : Slot "wrapper_descriptor" "__get__" "wrapper_descriptor.__get__" := .of (owner := "wrapper_descriptor") (n := "__get__") (by rw [typeLookup_type, builtinLookup_eq_fast]; kernel_rfl) (by decide +kernel) (by decide +kernel) (by decide +kernel)
  (by first | exact .inl (by decide +kernel) | exact .inr (by decide +kernel)) (by rw [isSubtype_type]; kernel_rfl)
theorem slot_md_get : Slot "method_descriptor" "__get__" "method_descriptor.__get__" := .of (owner := "method_descriptor") (n := "__get__") (by rw [typeLookup_type, builtinLookup_eq_fast]; kernel_rfl) (by decide +kernel) (by decide +kernel) (by decide +kernel)
  (by first | exact .inl (by decide +kernel) | exact .inr (by decide +kernel)) (by rw [isSubtype_type]; kernel_rfl)
theorem entry_wd_get : entryFor table "wrapper_descriptor.__get__" = some Builtin.«wrapper_descriptor.__get__» := entryFor_of_tree (by kernel_rfl)
theorem entry_md_get : entryFor table "method_descriptor.__get__" = some Builtin.«method_descriptor.__get__» := entryFor_of_tree (by kernel_rfl)
theorem args_wd_get (a b c : Value) : argsOk "wrapper_descriptor.__get__" ⟨[a, b, c], []⟩ := by unfold argsOk; rw [PySem.W.Fast.signatureQ_eq]; kernel_rfl
theorem args_md_get (a b c : Value) : argsOk "method_descriptor.__get__" ⟨[a, b, c], []⟩ := by unfold argsOk; rw [PySem.W.Fast.signatureQ_eq]; kernel_rfl
theorem entry_len : entryFor table "list.__len__" = some Builtin.«list.__len__» := entryFor_of_tree (by kernel_rfl)
theorem entry_pop : entryFor table "list.pop" = some Builtin.«list.pop» := entryFor_of_tree (by kernel_rfl)
theorem entry_init : entryFor table "list.__init__" = some Builtin.«list.__init__» := entryFor_of_tree (by kernel_rfl)
theorem own_len : (kfb_private% "ownerAndName") "list.__len__" = ("list", "__len__") := by first | decide +kernel | kernel_rfl
theorem own_pop : (kfb_private% "ownerAndName") "list.pop" = ("list", "pop") := by first | decide +kernel | kernel_rfl
theorem own_init : (kfb_private% "ownerAndName") "list.__init__" = ("list", "__init__") := by first | decide +kernel | kernel_rfl
theorem own_c_len : classOwn (.type "list") "__len__" = pure (some (.builtin "list.__len__")) := by first | rfl | kernel_rfl
theorem own_c_pop : classOwn (.type "list") "pop" = pure (some (.builtin "list.pop")) := by first | rfl | kernel_rfl
theorem own_c_init : classOwn (.type "list") "__init__" = pure (some (.builtin "list.__init__")) := by first | rfl | kernel_rfl
theorem ty_len : typeOf (.builtin "list.__len__") = pure (.type "wrapper_descriptor") := by show builtinType _ = _; rw [builtinType_eq_fast]; kernel_rfl
theorem ty_init : typeOf (.builtin "list.__init__") = pure (.type "wrapper_descriptor") := by show builtinType _ = _; rw [builtinType_eq_fast]; kernel_rfl
theorem ty_pop : typeOf (.builtin "list.pop") = pure (.type "method_descriptor") := by show builtinType _ = _; rw [builtinType_eq_fast]; kernel_rfl
theorem told_pop : Manifest.toldItsClass.contains "list.pop" = false := by decide +kernel
end SP

/-- a built-in method bound to an object -/
noncomputable abbrev bndObj (ty id : String) (x : Addr) : Obj := { cls := .type ty, data := .fields #[.builtin id, .ref x] }

section
variable {prog : Program} {w : World} {M : Model} {A : Around} {E : Value → Shared → Prop} {s : Shared} {K : Frag} {x C D so : Addr} {ox : Obj} {odx : Option Obj}

theorem wd_get {id nm : String} {P : Fin → Shared → Prop} (ho : (kfb_private% "ownerAndName") id = ("list", nm)) (hi : Looks M s.heap (isInstance (.ref x) (.type "list")) true) (h : P (.done (.ret (.ref s.heap.objs.size))) { s with heap := s.heap.push (bndObj "method-wrapper" id x) }) :
    wpAny M A (Builtin.«wrapper_descriptor.__get__» ⟨[.builtin id, .ref x, .ref C], []⟩) P E s := by
  unfold Builtin.«wrapper_descriptor.__get__»
  refine wpAny_bind (wpAny_of_eq (a := (.builtin id, some (.ref x), some (.ref C))) (by first | rfl | kernel_rfl) ?_)
  refine wpAny_bind ?_
  refine wpAny_bind (wpAny_of_eq (a := (Str.ofString nm, Value.type "list")) (by show pure (Str.ofString ((kfb_private% "ownerAndName") id).2, Value.type ((kfb_private% "ownerAndName") id).1) = _; rw [ho]) ?_)
  refine wpAny_bind (hi.here ?_)
  refine KFB.if_not rfl ?_
  refine wpAny_pure ?_
  exact wpAny_bind (wpAny_newObj_type (wpAny_pure h))

theorem md_get {id nm : String} {P : Fin → Shared → Prop} (ho : (kfb_private% "ownerAndName") id = ("list", nm)) (ht : Manifest.toldItsClass.contains id = false) (hi : Looks M s.heap (isInstance (.ref x) (.type "list")) true) (h : P (.done (.ret (.ref s.heap.objs.size))) { s with heap := s.heap.push (bndObj "builtin_function_or_method" id x) }) :
    wpAny M A (Builtin.«method_descriptor.__get__» ⟨[.builtin id, .ref x, .ref C], []⟩) P E s := by
  unfold Builtin.«method_descriptor.__get__»
  refine wpAny_bind (wpAny_of_eq (a := (.builtin id, some (.ref x), some (.ref C))) (by first | rfl | kernel_rfl) ?_)
  dsimp only
  refine KFB.if_not ht ?_
  refine wpAny_bind ?_
  refine wpAny_bind (wpAny_of_eq (a := (Str.ofString nm, Value.type "list")) (by show pure (Str.ofString ((kfb_private% "ownerAndName") id).2, Value.type ((kfb_private% "ownerAndName") id).1) = _; rw [ho]) ?_)
  refine wpAny_bind (hi.here ?_)
  refine KFB.if_not rfl ?_
  refine wpAny_pure ?_
  exact wpAny_bind (wpAny_newObj_type (wpAny_pure h))

theorem sup_ga {id T gid bt : String} {Bg : Builtin} {name : Str} {tk : Tok} {Q : Fin → Shared → Prop} {l₀ : List Value} {rest : List Value}
    (hso : s.heap.get? so = some (ks_superObj D x C)) (hno : Looks (model prog w) s.heap (opaqueClassAbove (.ref C)) none)
    (hC : Looks (model prog w) s.heap (mroOf (.ref C)) l₀) (hl : (l₀.dropWhile (· != .ref D)).drop 1 = .type "list" :: rest)
    (hown : classOwn (.type "list") name = pure (some (.builtin id))) (hty : typeOf (.builtin id) = pure (.type T)) (SL : Slot T "__get__" gid) (hent : entryFor table gid = some Bg) (harg : ∀ a b c : Value, argsOk gid ⟨[a, b, c], []⟩)
    (hB : ∀ {A' : Around} {P : Fin → Shared → Prop}, P (.done (.ret (.ref s.heap.objs.size))) { s with heap := s.heap.push (bndObj bt id x) } → wpAny (model prog w) A' (Bg ⟨[.builtin id, .ref x, .ref C], []⟩) P E s)
    (hxC : x ≠ C) (hn : (name == ("__class__" : Str)) = false)
    (hq : Q (.done (.ret (.ref s.heap.objs.size))) { s with heap := s.heap.push (bndObj bt id x) }) :
    wpAny (model prog w) A (Builtin.«super.__getattribute__» ⟨[.ref so, .str name tk], []⟩) Q E s := by
  have hlk := SL.lookup
  have hne : (Value.ref x == Value.ref C) = false := by simp [hxC]
  have hdt : ({ cls := .type "super", dict := none, data := .fields #[.ref D, .ref x, .ref C], slots := #[] } : Obj).data = .fields #[.ref D, .ref x, .ref C] := rfl
  have f0 : (#[.ref D, .ref x, .ref C] : Array Value)[0]? = some (.ref D) := rfl
  have f1 : (#[.ref D, .ref x, .ref C] : Array Value)[1]? = some (.ref x) := rfl
  have f2 : (#[.ref D, .ref x, .ref C] : Array Value)[2]? = some (.ref C) := rfl
  have hTs : s.TypeIs (.builtin id) T := hty
  unfold Builtin.«super.__getattribute__»
  obtain ⟨h, g, d, t, os⟩ := s
  repeat (first
    | (with_reducible refine wpAny_field hso hdt f0 ?_) | (with_reducible refine wpAny_field hso hdt f1 ?_) | (with_reducible refine wpAny_field hso hdt f2 ?_)
    | (with_reducible refine ks_wpAny_notOpaque hno ?_)
    | (with_reducible refine Looks.at hC ?_; rw [hl])
    | (simp only [hn, hne, Bool.or_false, Bool.false_eq_true, if_false])
    | (with_reducible refine wpAny_call_entry SL hTs hent (hB ⟨_, rfl, ?_⟩) (harg _ _ _))
    | wp_step
    | dsimp only)
  all_goals exact hq

theorem sup_method {id T gid bt : String} {Bg : Builtin} {name : Str} {pl : Sem Bool} {Q : Value × List Value → Shared → Prop} {l₀ : List Value} {rest : List Value}
    (hso : s.heap.get? so = some (ks_superObj D x C)) (hno : Looks (model prog w) s.heap (opaqueClassAbove (.ref C)) none)
    (hC : Looks (model prog w) s.heap (mroOf (.ref C)) l₀) (hl : (l₀.dropWhile (· != .ref D)).drop 1 = .type "list" :: rest)
    (hown : classOwn (.type "list") name = pure (some (.builtin id))) (hty : typeOf (.builtin id) = pure (.type T)) (SL : Slot T "__get__" gid) (hent : entryFor table gid = some Bg) (harg : ∀ a b c : Value, argsOk gid ⟨[a, b, c], []⟩)
    (hB : ∀ {s' : Shared} {A' : Around} {P : Fin → Shared → Prop} {E : Value → Shared → Prop}, s'.heap = s.heap → P (.done (.ret (.ref s'.heap.objs.size))) { s' with heap := s'.heap.push (bndObj bt id x) } → wpAny (model prog w) A' (Bg ⟨[.builtin id, .ref x, .ref C], []⟩) P E s')
    (hxC : x ≠ C) (hn : (name == ("__class__" : Str)) = false)
    (hq : Q (.ref s.heap.objs.size, []) { s with heap := s.heap.push (bndObj bt id x), toks := s.toks + 1 }) :
    wpAny (model prog w) A (getMethod (.ref so) name pl) Q E s := by
  obtain ⟨h, g, d, t, os⟩ := s
  have hlk := F.ks_slot_super_ga.lookup
  have hcan := F.ks_canon_super_ga
  have hT : ∀ t', (⟨h, g, d, t', os⟩ : Shared).TypeIs (.ref so) "super" := fun _ => ⟨_, hso, rfl⟩
  unfold getMethod
  refine wpAny_bind (wpAny_specialOf (hT _) hlk ?_)
  show wpAny _ _ (if (Manifest.canonical "super.__getattribute__" != "object.__getattribute__") = true then _ else _) _ _ _
  rw [if_pos hcan]
  unfold getAttr getAttrBy
  refine wpAny_bind (wpAny_bind (wpAny_mkText (wpAny_holding (wpAny_bind (wpAny_typeOf (hT _) (wpAny_bind (wpAny_of_eq hlk ?_)))))))
  show wpAny _ _ (getAttrByItsOwn (.ref so) (.str name t) (.type "super") (.builtin "super.__getattribute__") true false) _ _ _
  unfold getAttrByItsOwn hookBefore callGetattribute boundAndCalled
  refine wpAny_bind (wpAny_of_eq (show (if onTheHeap (.type "super") then typeLookup (.type "super") "__getattr__" else pure none) = pure none from rfl) ?_)
  refine wpAny_bind (wpAny_attempt (wpAny_holding ?_))
  show wpAny _ _ (bindSpecial (.builtin "super.__getattribute__") (.ref so) >>= _) _ _ _
  refine wpAny_bind (wpAny_of_eq (F.ks_slot_super_ga.bind _) ?_)
  refine wpAny_mono (Q := fun v s' => v = .ref h.objs.size ∧ s' = ⟨h.push (bndObj bt id x), g, d, t + 1, os⟩) (E := fun _ _ => False)
    (wpAny_call_entry F.ks_slot_super_ga (hT _) F.ks_entry_super_ga (sup_ga (s := ⟨h, g, d, t + 1, os⟩) hso hno hC hl hown hty SL hent harg (fun hp => hB (s' := ⟨h, g, d, t + 1, os⟩) rfl hp) hxC hn ⟨_, rfl, rfl, rfl⟩) (F.ks_gaArgs_super _ _)) (fun v s' hv => ?_) fun _ _ z => z.elim
  obtain ⟨rfl, rfl⟩ := hv
  refine wpAny_pure ?_
  exact wpAny_pure hq
end

section
variable {prog : Program} {w : World} {M : Model} {A : Around} {E : Value → Shared → Prop} {s : Shared} {K : Frag} {x C D so q : Addr} {ox : Obj} {odx : Option Obj} {id : String} {B : Builtin} {args : List Value}

theorem bnd_call {ty : String} {Q : Value → Shared → Prop} (plain : plainId id = true) (entry : entryFor table id = some B) (hty : ty = "method-wrapper" ∨ ty = "builtin_function_or_method") (hq : s.heap.get? q = some (bndObj ty id x))
    (hchk : ∀ {A' : Around} {P : Unit → Shared → Prop} {E' : Value → Shared → Prop}, P () s → wpAny (model prog w) A' (checkBoundCall id ⟨.ref x :: args, []⟩) P E' s)
    (h : wpAny (model prog w) A.in1 (B ⟨.ref x :: args, []⟩) (fun fin s' => ∃ v, fin = .done (.ret v) ∧ Q v s') E s) :
    wpAny (model prog w) A (call (.ref q) args) Q E s := by
  refine wpAny_call (codeAny_of_tree ?_)
  show wpAny _ A.in1 (callAny (.ref q) ⟨args, []⟩) _ _ s
  unfold callAny
  refine wpAny_bind (wpAny_load hq ?_)
  rcases hty with rfl | rfl
  all_goals
    show wpAny _ _ (checkBoundCall id ⟨.ref x :: args, []⟩ >>= fun _ => again (.builtin id ⟨.ref x :: args, []⟩)) _ _ s
    refine wpAny_bind (hchk ?_)
    refine wpAny_pure ⟨plainId_quiet plain _, codeAny_builtin entry ?_⟩
    rw [Around.under_plainId plain _]
    refine wpAny_mono h (fun fin s' z => ?_) fun _ _ z => z
    obtain ⟨v, rfl, z⟩ := z
    exact z
theorem chk_len {P : Unit → Shared → Prop} (hp : P () s) : wpAny M A (checkBoundCall "list.__len__" ⟨[.ref x], []⟩) P E s := wpAny_of_eq (a := ()) (by kernel_rfl) hp
theorem chk_init {P : Unit → Shared → Prop} (hp : P () s) : wpAny M A (checkBoundCall "list.__init__" ⟨[.ref x], []⟩) P E s := wpAny_of_eq (a := ()) (by kernel_rfl) hp
end

section
variable {prog : Program} {w : World} {M : Model} {A : Around} {E : Value → Shared → Prop} {s : Shared} {K : Frag} {x C D so q : Addr} {ox : Obj} {od : Option Obj} {c : Value} {d : Option Addr} {xs : Array Value} {ep : Nat} {sl : Array (Option Value)}

theorem keeps_bnd {ty id : String} (hty : ty = "method-wrapper" ∨ ty = "builtin_function_or_method") (h : Heap) (X : h.get? q = some (bndObj ty id x)) : ∃ k, (k = Keeper.frame ∨ k = Keeper.machine ∨ k = Keeper.boundFrame) ∧ Looks M h (keeperOf (.ref q)) k := by
  refine ⟨.machine, .inr (.inl rfl), (Looks.ld (part := none) X).andThen ?_⟩
  rcases hty with rfl | rfl <;> exact .now
theorem callWith_bnd0 {ty id : String} {pos : Pos} {first : List Value} {env : Env} {Q : Value → Shared → Prop} (hty : ty = "method-wrapper" ∨ ty = "builtin_function_or_method") (hq : s.heap.get? q = some (bndObj ty id x))
    (h : wpAny M A (call (.ref q) (first ++ [])) Q E s) : wpAny M A (callWith pos (.ref q) first (backTo pos (starEach [] env)) []) Q E s :=
  callWith_of rfl (keeps_bnd hty) (evalArgs_nil3 ⟨hq, h⟩)

theorem plain_len : plainId "list.__len__" = true := by decide +kernel
theorem plain_pop : plainId "list.pop" = true := by decide +kernel
theorem plain_init : plainId "list.__init__" = true := by decide +kernel

theorem body_len {Q : Value → Shared → Prop} (hx : s.heap.get? x = some ⟨c, d, .seq xs ep, sl⟩) (h : Q (.int xs.size s.toks) { s with toks := s.toks + 1 }) :
    wpAny (model prog w) A (Builtin.«list.__len__» ⟨[.ref x], []⟩) (fun fin s' => ∃ v, fin = .done (.ret v) ∧ Q v s') E s := by
  unfold Builtin.«list.__len__»
  refine wpAny_bind (wpAny_of_eq (a := (Value.ref x, [])) (by kernel_rfl) ?_)
  dsimp only
  refine wpAny_bind ?_
  unfold seqSize
  refine wpAny_bind (wpAny_loadPart hx (wpAny_pure ?_))
  exact wpAny_bind (wpAny_mkInt (wpAny_pure ⟨_, rfl, h⟩))

theorem body_pop {Q : Value → Shared → Prop} {v : Value} {its : List Value} (hx : s.heap.get? x = some ⟨c, d, .seq (its ++ [v]).toArray ep, sl⟩) (hz : its.length < sizeLine)
    (h : ∀ h', Heap.SameBut x s.heap h' → h'.get? x = some ⟨c, d, .seq its.toArray (ep + 1), sl⟩ → Q v { s with heap := h' }) :
    wpAny (model prog w) A (Builtin.«list.pop» ⟨[.ref x], []⟩) (fun fin s' => ∃ v, fin = .done (.ret v) ∧ Q v s') E s := by
  unfold Builtin.«list.pop»
  refine wpAny_bind (wpAny_of_eq (a := (Value.ref x, [])) (by kernel_rfl) ?_)
  dsimp only
  refine wpAny_bind (wpAny_pure ?_)
  refine KFB.if_not (by decide) ?_
  refine wpAny_bind ?_
  unfold Builtin.List.listItems
  refine wpAny_bind (wpAny_seqItems hx rfl (wpAny_pure ?_))
  refine KFB.if_not (by simp) ?_
  have e1 : seqIndex? (-1) (its ++ [v]).toArray.size = some its.length := by
    unfold seqIndex?
    simp
    omega
  rw [e1]
  have e2 : ((some its.length).bind fun k => (its ++ [v]).toArray[k]?.map (k, ·)) = some (its.length, v) := by simp
  rw [e2]
  dsimp only
  have e3 : (its ++ [v]).toArray.eraseIdxIfInBounds its.length = its.toArray := by
    rw [List.eraseIdxIfInBounds_toArray]
    congr 1
    rw [List.eraseIdx_append_of_length_le (Nat.le_refl _)]
    simp
  refine wpAny_bind (upd_seq (f := (·.eraseIdxIfInBounds its.length)) hx (by rw [e3, List.size_toArray]; omega) fun h' hs' ho' => wpAny_pure ⟨_, rfl, h h' hs' ?_⟩)
  rw [e3] at ho'
  rw [ho']
  simp
end

/-- the entry of a def that closes over __class__ -/
theorem enterS {prog : Program} {w : World} {A : Around} {s : Shared} {K : Frag} {p : Program} {loose : List Str} {mg mb : Str → Option Value} {g₀ : Heap}
    {Q : Value → Shared → Prop} {E : Value → Shared → Prop} {name qual : Str} {params : Arguments} {body : List Stmt} {scope : Scope} {cc : Addr} {dV kV doc pm cdv ct oc : Value} {an od : Option Addr} {osl : Array (Option Value)} {f : Addr} {args : List Value} {binds : List (Str × Value)}
    (news : List (Addr × Obj)) (G : Gd K p loose mg mb g₀) (H : g₀.StaysIn s.heap)
    (hn : ∀ q ∈ news, s.heap.get? q.1 = some q.2 ∧ g₀.get? q.1 = none)
    (ho : K.lookup f = some ⟨oc, od, .func (ksFn name qual params body scope dV kV doc pm an cdv ct cc), osl⟩) (hcd : codeIn K cdv qual = true)
    (hroom : A.depth < recursionLimit)
    (hbind : BindsTo s (ksFn name qual params body scope dV kV doc pm an cdv ct cc) ⟨args, []⟩ binds) (hloc : ∀ y ∈ binds, scope.names.lookup y.1 = some .local)
    (h : ∀ g L' h₁, Gd K p loose mg mb g → g₀.StaysIn g → Kp (news.map (·.1)) s.heap g → Fr g L' h₁ (fun y => binds.reverse.lookup y) → News g L' h₁ news → (∀ p ∈ news, p.1 < L') →
      _root_.PySem.wpAt (model prog w) (A.deeper (ksEnv qual scope L' f cdv cc)) (.func body (ksEnv qual scope L' f cdv cc)) (execs body (ksEnv qual scope L' f cdv cc))
        (fun fl s' => Q (match fl with | .ret v => v | _ => .none) s') (fun _ _ => False)
        { s with heap := h₁, toks := s.toks + binds.length })
    (hco : scope.isCoroutine = false := by rfl) (hgen : scope.isGenerator = false := by rfl) (hk : scope.kind = .function := by rfl)
    (hcell : ∀ x ∈ scope.names, x.2 ≠ .cell := by decide) : wpAny (model prog w) A (call (.ref f) args) Q E s := by
  refine wpAny_call (ks_codeAny_call_defAt (fd := ksFn name qual params body scope dV kV doc pm an cdv ct cc) (body := body) (binds := binds) hroom (H _ _ (G.X _ _ ho)) rfl (G.T.nolimit.keeps H) (codeRec_of (G.X.keeps H) hcd) rfl hbind hcell hloc (fun h₁ hns hk₁ => ?_) hco hgen hk)
  have nm : ∀ b o, g₀.get? b = some o → b ∉ news.map (·.1) := fun b o e q => by
    obtain ⟨p, hp, rfl⟩ := List.mem_map.mp q
    rw [(hn p hp).2] at e; cases e
  have st : g₀.StaysIn (hideAll s.heap (news.map (·.1))) := fun b o e => hideAll_get _ (H b o e) (nm b o e)
  refine ks_wpAt_mono (h (hideAll s.heap (news.map (·.1))) s.heap.objs.size h₁ (G.keeps st) st (fun b o e n => hideAll_get _ e n) ⟨hns, fun b o e => hk₁ b o (of_hideAll _ e), Nat.le_of_eq (hideAll_size _ _)⟩
    (fun p hp => ⟨hk₁ _ _ (hn p hp).1, Nat.ne_of_lt (Heap.lt_size (hn p hp).1), hideAll_none _ (List.mem_map_of_mem hp)⟩) (fun p hp => Heap.lt_size (hn p hp).1)) (fun fl s' hl => hl) fun _ _ y => y.elim

section
variable {prog : Program} {w : World} {A : Around} {E : Value → Shared → Prop} {s : Shared} {h₀ : Heap} {L : Addr} {m mg mb : Str → Option Value} {news : List (Addr × Obj)} {K : Frag} {p : Program} {loose : List Str} {x C D f cc cda so q : Addr} {ox : Obj} {odx : Option Obj} {dx : Addr} {od : Obj} {items : Array Value} {ep : Nat} {sl : Array (Option Value)}
theorem own_node {body : List Stmt} {q : Str} {scope : Scope} {p0 p1 : Pos} {attr : Str} {whole : Sem Value} {fd : FuncData} {ar : Arg} {vs : Array Value} {file : Str} {tf : Tok} {oc ccl cl : Value} {od cdd cld : Option Addr} {osl ccs csl : Array (Option Value)} {cdD : ClassData} {Q : Value → Shared → Prop}
    (F : Fr h₀ L s.heap m) (X₀ : K.In h₀) (N : News h₀ L s.heap news) (T : TopRead p loose mg mb h₀)
    (hf : K.lookup f = some ⟨oc, od, .func fd, osl⟩) (hp : (fd.params.posonlyargs ++ fd.params.args).head? = some ar) (hv : m ar.arg = some (.ref x)) (I : InstAt s.heap x ox C odx)
    (hcode : K.lookup cda = some ⟨ccl, cdd, .fields vs, ccs⟩) (hvs : vs[2]? = some (.str file tf)) (hfile : ((prog.main.file : Str) == file) = true)
    (hcell : K.lookup cc = some ⟨cl, cld, .cell (some (.ref D)), csl⟩) (hD : clsIn K D = some cdD) (hsub : mroIn K C (.ref D) = some true) (hsuper : nsIn K mainGlobals "super" = some none)
    (hat : (attr == ("__class__" : Str)) = false) (hks : scope.names.lookup ("super" : Str) = some .globalImplicit) (hkc : scope.names.lookup ("__class__" : Str) = some .free) (hka : scope.names.lookup ar.arg = some .local) (hk : scope.kind = .function)
    (htop : (prog.main.scope.names.lookup ("super" : Str)).isSome = false) (hboot : bootBuiltins "super" = some (.type "super"))
    (h : ∀ so h', Fr h₀ L h' m → News h₀ L h' ((so, ks_superObj D x C) :: news) → (∀ p ∈ news, p.1 < so) → Q (.ref so) { s with heap := h' }) :
    _root_.PySem.wpAt (model prog w) A (.func body (ksEnv q scope L f (.ref cda) cc)) (attributeBase (.Call (.Name "super" p0) [] [] p1) attr (ksEnv q scope L f (.ref cda) cc) whole) Q E s := by
  have X : K.In s.heap := X₀.keeps F.keep
  obtain ⟨hh, g, d, t, os⟩ := s
  obtain ⟨oD, hD1, hD2⟩ : ∃ oD, hh.get? D = some oD ∧ oD.data = .cls cdD := by
    unfold clsIn at hD
    cases e : K.lookup D with
    | none => rw [e] at hD; cases hD
    | some o =>
      rw [e] at hD
      refine ⟨o, X _ _ e, ?_⟩
      obtain ⟨_, _, dt, _⟩ := o
      cases dt <;> first | exact congrArg Data.cls (Option.some.inj hD) | cases hD
  refine ks_wpAt_super_base (env := ksEnv q scope L f (.ref cda) cc) hks hkc hat rfl (X _ _ hf) rfl hp rfl (X _ _ hcode) rfl hvs hfile htop ?_
  refine ks_loadName_global hk hks (loadGlobal_builtin (env := ksEnv q scope L f (.ref cda) cc) (T.g.keeps F.keep) (mg_none_of X₀ T.g hsuper) (T.b.keeps F.keep) ((T.builtins _ (by decide +kernel)).trans hboot) ⟨rfl, ?_⟩)
  refine wpAny_loadName_free hk hkc rfl ⟨_, X _ _ hcell, rfl⟩ ?_
  refine wpAny_loadName_local hk hka F.ns hv ?_
  refine ks_wpAny_isType_cls hD1 hD2 ⟨rfl, ?_⟩
  refine ks_wpAny_call_super hD1 hD2 I.at_ I.cls (fun c e => ?_) (looks_mroIn X hsub) (fun h' e k => ?_)
  · have := I.no
    unfold notCls at this
    rw [e] at this
    exact Bool.noConfusion this
  · obtain ⟨F', N', l'⟩ := ks_newsPush (s := ⟨hh, g, d, t, os⟩) F N rfl e k
    exact h _ _ F' N' l'

theorem sup_len_L {pl : Sem Bool} {Q : Value × List Value → Shared → Prop} {cd : ClassData} (F : Fr h₀ L s.heap m) (N : News h₀ L s.heap news) (X₀ : K.In h₀) (hso : (so, ks_superObj D x C) ∈ news) (I : InstAt s.heap x ox C odx) (ho : nsIn K cStatics "thirdparty.any" = some none)
    (hc : clsIn K C = some cd) (hl : (cd.mro.dropWhile (· != .ref D)).drop 1 = [.type "list", .type "object"]) (hm : mroIn K C (.type "list") = some true)
    (h : ∀ q h', Fr h₀ L h' m → News h₀ L h' ((q, bndObj "method-wrapper" "list.__len__" x) :: news) → (∀ p ∈ news, p.1 < q) → Q (.ref q, []) { s with heap := h', toks := s.toks + 1 }) :
    wpAny (model prog w) A (getMethod (.ref so) "__len__" pl) Q E s := by
  have X : K.In s.heap := X₀.keeps F.keep
  refine sup_method (N _ hso).1 (looks_opaque X ho) (l₀ := cd.mro) (fun A Q E s k q => wpAny_bind ((looks_clsIn X hc) A _ E s k (wpAny_pure q))) hl SP.own_c_len SP.ty_len SP.slot_wd_get SP.entry_wd_get SP.args_wd_get
    (bt := "method-wrapper") (fun e hp => wd_get SP.own_len (e ▸ isinst_of X I hm) hp) (ks_ne X I hc) (by decide) ?_
  obtain ⟨F', N', l'⟩ := ks_newsPush (o := bndObj "method-wrapper" "list.__len__" x) F N rfl (Heap.get?_push_at rfl rfl) (fun b o e => Heap.get?_push_of_some _ e)
  exact h _ _ F' N' l'
theorem sup_init_L {pl : Sem Bool} {Q : Value × List Value → Shared → Prop} {cd : ClassData} (F : Fr h₀ L s.heap m) (N : News h₀ L s.heap news) (X₀ : K.In h₀) (hso : (so, ks_superObj D x C) ∈ news) (I : InstAt s.heap x ox C odx) (ho : nsIn K cStatics "thirdparty.any" = some none)
    (hc : clsIn K C = some cd) (hl : (cd.mro.dropWhile (· != .ref D)).drop 1 = [.type "list", .type "object"]) (hm : mroIn K C (.type "list") = some true)
    (h : ∀ q h', Fr h₀ L h' m → News h₀ L h' ((q, bndObj "method-wrapper" "list.__init__" x) :: news) → (∀ p ∈ news, p.1 < q) → Q (.ref q, []) { s with heap := h', toks := s.toks + 1 }) :
    wpAny (model prog w) A (getMethod (.ref so) "__init__" pl) Q E s := by
  have X : K.In s.heap := X₀.keeps F.keep
  refine sup_method (N _ hso).1 (looks_opaque X ho) (l₀ := cd.mro) (fun A Q E s k q => wpAny_bind ((looks_clsIn X hc) A _ E s k (wpAny_pure q))) hl SP.own_c_init SP.ty_init SP.slot_wd_get SP.entry_wd_get SP.args_wd_get
    (bt := "method-wrapper") (fun e hp => wd_get SP.own_init (e ▸ isinst_of X I hm) hp) (ks_ne X I hc) (by decide) ?_
  obtain ⟨F', N', l'⟩ := ks_newsPush (o := bndObj "method-wrapper" "list.__init__" x) F N rfl (Heap.get?_push_at rfl rfl) (fun b o e => Heap.get?_push_of_some _ e)
  exact h _ _ F' N' l'
theorem sup_pop_L {pl : Sem Bool} {Q : Value × List Value → Shared → Prop} {cd : ClassData} (F : Fr h₀ L s.heap m) (N : News h₀ L s.heap news) (X₀ : K.In h₀) (hso : (so, ks_superObj D x C) ∈ news) (I : InstAt s.heap x ox C odx) (ho : nsIn K cStatics "thirdparty.any" = some none)
    (hc : clsIn K C = some cd) (hl : (cd.mro.dropWhile (· != .ref D)).drop 1 = [.type "list", .type "object"]) (hm : mroIn K C (.type "list") = some true)
    (h : ∀ q h', Fr h₀ L h' m → News h₀ L h' ((q, bndObj "builtin_function_or_method" "list.pop" x) :: news) → (∀ p ∈ news, p.1 < q) → Q (.ref q, []) { s with heap := h', toks := s.toks + 1 }) :
    wpAny (model prog w) A (getMethod (.ref so) "pop" pl) Q E s := by
  have X : K.In s.heap := X₀.keeps F.keep
  refine sup_method (N _ hso).1 (looks_opaque X ho) (l₀ := cd.mro) (fun A Q E s k q => wpAny_bind ((looks_clsIn X hc) A _ E s k (wpAny_pure q))) hl SP.own_c_pop SP.ty_pop SP.slot_md_get SP.entry_md_get SP.args_md_get
    (bt := "builtin_function_or_method") (fun e hp => md_get SP.own_pop SP.told_pop (e ▸ isinst_of X I hm) hp) (ks_ne X I hc) (by decide) ?_
  obtain ⟨F', N', l'⟩ := ks_newsPush (o := bndObj "builtin_function_or_method" "list.pop" x) F N rfl (Heap.get?_push_at rfl rfl) (fun b o e => Heap.get?_push_of_some _ e)
  exact h _ _ F' N' l'

theorem bnd_len_L {Q : Value → Shared → Prop} (N : News h₀ L s.heap news) (hq : (q, bndObj "method-wrapper" "list.__len__" x) ∈ news) (hx : (x, (⟨.ref C, some dx, .seq items ep, sl⟩ : Obj)) ∈ news)
    (h : Q (.int items.size s.toks) { s with toks := s.toks + 1 }) : wpAny (model prog w) A (call (.ref q) []) Q E s :=
  bnd_call plain_len SP.entry_len (.inl rfl) (N _ hq).1 chk_len (body_len (N _ hx).1 h)
end
example : True := by
  (k_with "my enterS" => (
  (case ho => k_is); (case hcd => k_is); (case hb => first | exact BindsTo.of_eq rfl | exact binds_K (Frag.In.keeps (Gd.X (by assumption)) (by assumption)) rfl (by k_is) rfl rfl rfl); (case hl => exact locs rfl); (case c2 => exact rfl); (case c3 => exact rfl); (case c4 => exact rfl); (case c5 => decide)))
  (k_with "wpAt" => (ks_step "attributeBase Call"; k_here; k_dflt (refine own_node (by k_asm) (by k_asm) (by k_asm) (by k_asm) (by k_is) (by rfl) (by rfl) (by k_inst) (by k_is) (by rfl) (by first | rfl | decide +kernel) (by k_is) (by k_is) (by k_is) (by k_is) (by decide) (by rfl) (by rfl) (by rfl) (by rfl) (by decide +kernel) (by first | boot_by_name | rfl | kernel_rfl) ?_; intro _ _ _ _ l1ₘ; (try k_lt l1ₘ))))
  (k_with "getMethod ref" => (k_here; (with_reducible show wpAny _ _ (getMethod (Value.ref _) (Str.ofString "__len__") _) _ _ _); k_dflt (refine' sup_len_L (by k_asm) (by k_asm) (by k_asm) (by k_extra "my mem") (by k_inst) (by k_is) (by k_is) (by exact rfl) (by k_is) ?_; intro _ _ _ _ l1ₘ; (try k_lt l1ₘ))))
  (k_with "getMethod ref" => (k_here; (with_reducible show wpAny _ _ (getMethod (Value.ref _) (Str.ofString "__init__") _) _ _ _); k_dflt (refine' sup_init_L (by k_asm) (by k_asm) (by k_asm) (by k_extra "my mem") (by k_inst) (by k_is) (by k_is) (by exact rfl) (by k_is) ?_; intro _ _ _ _ l1ₘ; (try k_lt l1ₘ))))
  (k_with "getMethod ref" => (k_here; (with_reducible show wpAny _ _ (getMethod (Value.ref _) (Str.ofString "pop") _) _ _ _); k_dflt (refine' sup_pop_L (by k_asm) (by k_asm) (by k_asm) (by k_extra "my mem") (by k_inst) (by k_is) (by k_is) (by exact rfl) (by k_is) ?_; intro _ _ _ _ l1ₘ; (try k_lt l1ₘ))))
  (k_with "callWith ref" => (k_here; k_dflt (refine' callWith_bnd0 ?k1ₘ ?k2ₘ ?_; (case k2ₘ => exact News.get (by k_asm) (by k_extra "my mem")); (case k1ₘ => first | exact .inl rfl | exact .inr rfl); k_whole; try dsimp only [List.nil_append, List.cons_append])))
  (k_with "call ref" => (k_here; k_dflt (refine' bnd_len_L (by k_asm) (by k_extra "my mem") (by k_extra "my mem") ?_)))
  trivial

section
variable {w : World} {A : Around} {s : Shared} {p : Program} {loose : List Str} {mg mb : Str → Option Value} {g₀ : Heap}
    {Q : Value → Shared → Prop} {E : Value → Shared → Prop} {x d : Addr} {its : List Value}

theorem part_count_c (G : Gd (hd.heap_39 w.params) p loose mg mb g₀) (H : g₀.StaysIn s.heap) (hA : AccAt g₀ s.heap x d its)
    (hroom : A.depth + 5 < recursionLimit) (_hu : A.units + 100 < cLine) (_hlen : its.length < 1000)
    (hQ : ∀ t s', Go [] s s' → AccAt g₀ s'.heap x d its → Q (.int (its.length : Int) t) s') :
    wpAny (model PySem.Challenge.rw_wr0037_01.prog w) A (call (.ref 175) [.ref x]) Q E s := by
  k_extra "my hide"
  obtain ⟨ep, hs, t₁, t₂, hx, hdd, hx0, hd0, hxd⟩ := hA
  k_extra "my back"
  refine' enterS (binds := [(Str.ofString "self", .ref x)]) [(x, accObj d its ep), (d, accDict hs t₁ t₂)] G H ?hn ?ho ?hcd ?hr ?hb ?hl ?hbody ?c2 ?c3 ?c4 ?c5
  k_extra "my enterS"
  case hn => exact all_cons ⟨hx, hx0⟩ (all_cons ⟨hdd, hd0⟩ all_nil)
  case hr => omega
  case hbody =>
    intro g' L' h' G' st' kp' F' N' l1
    have X' := G'.X
    have T' := G'.T
    (show _root_.PySem.wpAt _ _ _ _ _ _ _)
    k_steps
    (try dsimp only)
    (show Q _ _)
    rename Fr _ _ _ _ => kF
    rename News _ _ _ _ => kN
    rw [List.size_toArray]
    exact hQ _ _ (.of_kp (kp_out kp' kF kN (all_cons hx (all_cons hdd all_nil)) (all_cons (.inr (by k_extra "my mem")) (all_cons (.inr (by k_extra "my mem")) all_nil)))) ⟨ep, hs, t₁, t₂, kN.get (by k_extra "my mem"), kN.get (by k_extra "my mem"), hx0, hd0, hxd⟩
end

section
variable {prog : Program} {w : World} {M : Model} {A : Around} {E : Value → Shared → Prop} {s : Shared} {h₀ : Heap} {L : Addr} {m mg mb : Str → Option Value} {news news' : List (Addr × Obj)} {K : Frag} {x C D f cc cda so q : Addr} {dx : Addr} {od : Obj} {ep : Nat} {sl : Array (Option Value)} {v : Value} {its : List Value} {ox : Obj} {odx : Option Obj}

theorem sig_pop (x : Addr) : ((Manifest.signature? "list.pop").map fun sig => Bind.checkArgs "list.pop" { sig with full := toString "_Accumulator" ++ toString "." ++ toString (Bind.lastOf "list.pop") } ⟨[.ref x], []⟩) = some (pure ()) := by
  rw [signature?_of (id := "list.pop") (n := ['p', 'o', 'p']) (o := ['t', 's', 'i', 'l']) (by kernel_rfl) F.owner_list]; kernel_rfl
theorem isinst_no {b : Bool} {v : Value} {h : Heap} (X : K.In h) (I : InstAt h x ox C odx) (e : mroIn K C v = some b) : Looks M h (isInstance (.ref x) v) b := I.type.andThen (looks_mroIn X e)

theorem chk_pop {P : Unit → Shared → Prop} {cd : ClassData} (X : K.In s.heap) (I : InstAt s.heap x ox C odx) (hm : mroIn K C (.type "module") = some false) (hc : clsIn K C = some cd) (ht : typeIn K (.ref C) = some (.type "type")) (hcn : cd.qualname = Str.ofString "_Accumulator") (hp : P () s) : wpAny M A (checkBoundCall "list.pop" ⟨[.ref x], []⟩) P E s := by
  unfold checkBoundCall
  have e1 : ∃ sig, Manifest.signature? "list.pop" = some sig := Option.isSome_iff_exists.mp (by rw [PySem.W.Fast.signatureQ_eq]; decide +kernel)
  obtain ⟨sig, e1⟩ := e1
  rw [e1]
  dsimp only
  rw [show builtinKind "list.pop" = some .method by decide +kernel]
  dsimp only
  refine KFB.if_not (by decide) ?_
  refine wpAny_bind ((isinst_no X I hm).here ?_)
  refine KFB.if_not (by decide +kernel) ?_
  obtain ⟨hh, g, d, t, os⟩ := s
  refine wpAny_bind (ks_wpAny_isType_inst I.at_ (fun c e => by have := I.no; unfold notCls at this; rw [e] at this; exact Bool.noConfusion this) ?_)
  refine KFB.if_not rfl ?_
  refine wpAny_bind (I.type.here ?_)
  dsimp only
  refine wpAny_bind ((looks_clsIn X hc).here ?_)
  refine wpAny_bind ((looks_typeIn X ht).here ?_)
  refine KFB.if_so rfl ?_
  have z := sig_pop x
  rw [hcn, show (Str.ofString "_Accumulator").toString = "_Accumulator" by decide +kernel]
  rw [e1] at z
  exact wpAny_of_eq (Option.some.inj z) hp

theorem bnd_pop_L {Q : Value → Shared → Prop} {cd : ClassData} (F : Fr h₀ L s.heap m) (N : News h₀ L s.heap news) (X₀ : K.In h₀) (hq : (q, bndObj "builtin_function_or_method" "list.pop" x) ∈ news)
    (hdx : (dx, od) ∈ news) (U : Upd x ⟨.ref C, some dx, .seq (its ++ [v]).toArray ep, sl⟩ ⟨.ref C, some dx, .seq its.toArray (ep + 1), sl⟩ news news')
    (hm : mroIn K C (.type "module") = some false) (hc : clsIn K C = some cd) (ht : typeIn K (.ref C) = some (.type "type")) (hcn : cd.qualname = Str.ofString "_Accumulator") (hz : its.length < 1000)
    (h : ∀ h', Fr h₀ L h' m → News h₀ L h' news' → Q v { s with heap := h' }) : wpAny (model prog w) A (call (.ref q) []) Q E s := by
  obtain ⟨pre, post, rfl, rfl, a, b⟩ := U.split
  have z := N (x, _) (List.mem_append.mpr (.inr (.head _)))
  exact bnd_call plain_pop SP.entry_pop (.inr rfl) (N _ hq).1 (chk_pop (X₀.keeps F.keep) (InstAt.of_seq N (List.mem_append.mpr (.inr (.head _))) hdx) hm hc ht hcn)
    (body_pop z.1 (by rw [sizeLine_eq]; omega) fun h' hs ho' => h h' (F.change hs z.2.1 z.2.2) (news_set N a b hs ho'))

/-- what a call of the text's own left, seen from the caller's ground -/
theorem after {X : List Addr} {g h h' : Heap} {L : Addr} {m : Str → Option Value} {news news' : List (Addr × Obj)} (k : Kp X h h') (F : Fr g L h m) (N : News g L h news)
    (hX : ∀ a ∈ X, a ≠ L ∧ g.get? a = none) (hn : ∀ p ∈ news', p ∈ news ∧ p.1 ∉ X ∨ h'.get? p.1 = some p.2 ∧ (h.get? p.1 = none ∨ ∃ o, (p.1, o) ∈ news)) : Fr g L h' m ∧ News g L h' news' := by
  obtain ⟨oL, es, ep, hL, r⟩ := F.ns
  have hL' : h'.get? L = some oL := k _ _ hL fun e => (hX _ e).1 rfl
  refine ⟨⟨⟨oL, es, ep, hL', r⟩, fun b o e => k b o (F.keep b o e) fun q => ?_, F.above⟩, fun p hp => ?_⟩
  · rw [(hX _ q).2] at e; cases e
  · rcases hn p hp with ⟨h1, h2⟩ | ⟨h1, h2 | ⟨o, h2⟩⟩
    · exact ⟨k _ _ (N p h1).1 h2, (N p h1).2⟩
    · refine ⟨h1, fun e => ?_, ?_⟩
      · rw [e, hL] at h2; cases h2
      · cases z : g.get? p.1 with
        | none => rfl
        | some o => rw [F.keep _ _ z] at h2; cases h2
    · exact ⟨h1, (N _ h2).2⟩
end

/-- all the ledger's addresses are others than r -/
noncomputable def AllNe (r : Nat) : List (Addr × Obj) → Prop
  | [] => True
  | p :: l => @Ne Nat p.1 r ∧ AllNe r l
theorem allNe_of {r : Addr} : ∀ {l : List (Addr × Obj)}, (∀ p ∈ l, p.1 ≠ r) → AllNe r l
  | [], _ => trivial
  | _ :: _, h => ⟨h _ (.head _), allNe_of fun p hp => h p (.tail _ hp)⟩

section
variable {X : List Addr} {g h h' : Heap} {L x d r : Addr} {m : Str → Option Value} {news n1 n2 : List (Addr × Obj)} {ox ox' od od' o : Obj} {P : Prop}

theorem fr_after (k : Kp X h h') (F : Fr g L h m) (hX : ∀ a ∈ X, a ≠ L ∧ g.get? a = none) : Fr g L h' m := by
  obtain ⟨oL, es, ep, hL, rr⟩ := F.ns
  have hL' : h'.get? L = some oL := k _ _ hL fun e => (hX _ e).1 rfl
  refine ⟨⟨oL, es, ep, hL', rr⟩, fun b o e => k b o (F.keep b o e) fun q => ?_, F.above⟩
  rw [(hX _ q).2] at e; cases e

theorem then0 (k : Kp [] h h') (F : Fr g L h m) (N : News g L h news) (q : Fr g L h' m → News g L h' news → P) : P :=
  q (fr_after k F fun _ h => nomatch h) fun p hp => ⟨k _ _ (N p hp).1 (by simp), (N p hp).2⟩

theorem then_xd (k : Kp X h h') (F : Fr g L h m) (N : News g L h news) (hX : ∀ a ∈ X, a = x ∨ a = d) (hx : h'.get? x = some ox') (hd : h'.get? d = some od') (ne : @Ne Nat x d)
    (U1 : Upd x ox ox' news n1) (U2 : Upd d od od' n1 n2) (q : Fr g L h' m → News g L h' n2 → P) : P := by
  obtain ⟨pre, post, rfl, rfl, a, b⟩ := U1.split
  obtain ⟨pre', post', e, rfl, a', b'⟩ := U2.split
  have zx := N (x, ox) (by simp)
  have zd : d ≠ L ∧ g.get? d = none := by
    have : (d, od) ∈ pre ++ (x, ox') :: post := by rw [e]; simp
    rcases List.mem_append.mp this with h1 | h1
    · exact (N _ (List.mem_append.mpr (.inl h1))).2
    · rcases List.mem_cons.mp h1 with h2 | h2
      · exact absurd (Prod.mk.inj h2).1.symm ne
      · exact (N _ (List.mem_append.mpr (.inr (.tail _ h2)))).2
  have F' : Fr g L h' m := fr_after k F fun a ha => by rcases hX a ha with rfl | rfl; exact zx.2; exact zd
  refine q F' fun p hp => ?_
  have key : p.1 ≠ d → p ∈ pre ++ (x, ox') :: post → h'.get? p.1 = some p.2 ∧ p.1 ≠ L ∧ g.get? p.1 = none := fun nd hm => by
    by_cases hpx : p.1 = x
    · have : p = (x, ox') := by
        rcases List.mem_append.mp hm with h1 | h1
        · exact absurd hpx (a _ h1)
        · rcases List.mem_cons.mp h1 with h2 | h2
          · exact h2
          · exact absurd hpx (b _ h2)
      rw [this]; exact ⟨hx, zx.2⟩
    · have : p ∈ pre ++ (x, ox) :: post := by
        rcases List.mem_append.mp hm with h1 | h1
        · exact List.mem_append.mpr (.inl h1)
        · rcases List.mem_cons.mp h1 with h2 | h2
          · exact absurd (by rw [h2]) hpx
          · exact List.mem_append.mpr (.inr (.tail _ h2))
      exact ⟨k _ _ (N _ this).1 fun q => by rcases hX _ q with h1 | h1; exact hpx h1; exact nd h1, (N _ this).2⟩
  rcases List.mem_append.mp hp with h1 | h1
  · exact key (a' _ h1) (by rw [e]; exact List.mem_append.mpr (.inl h1))
  · rcases List.mem_cons.mp h1 with h2 | h2
    · rw [h2]; exact ⟨hd, zd⟩
    · exact key (b' _ h2) (by rw [e]; exact List.mem_append.mpr (.inr (.tail _ h2)))

theorem then_new (F : Fr g L h' m) (N : News g L h' news) (F0 : Fr g L h m) (N0 : News g L h n1) (hr : h.get? r = none) (ho : h'.get? r = some o) (sub : ∀ p ∈ news, ∃ o', (p.1, o') ∈ n1)
    (q : News g L h' ((r, o) :: news) → (∀ p ∈ news, p.1 ≠ r) → P) : P := by
  refine q (fun p hp => ?_) fun p hp => ?_
  · rcases List.mem_cons.mp hp with rfl | hp
    · refine ⟨ho, fun e => ?_, ?_⟩
      · obtain ⟨oL, _, _, hL, _⟩ := F0.ns
        dsimp only at e
        rw [← e, hr] at hL; cases hL
      · cases z : g.get? r with
        | none => rfl
        | some o => rw [F0.keep _ _ z] at hr; cases hr
    · exact N p hp
  · obtain ⟨o', h1⟩ := sub p hp
    intro e
    have := (N0 _ h1).1
    rw [e, hr] at this; cases this
end
theorem Go.fin {X : List Addr} {s s' : Shared} (k : Kp X s.heap s'.heap) (o : s'.os = s.os) (g : AllBare s.gens → AllBare s'.gens) : Go X s s' := ⟨k, o, g⟩
theorem acc_of {g h : Heap} {L x d : Addr} {news : List (Addr × Obj)} {its : List Value} {ep : Nat} {hs : Int} {t t' : Tok} (N : News g L h news) (hx : (x, accObj d its ep) ∈ news) (hd : (d, accDict hs t t') ∈ news) (ne : @Ne Nat x d) : AccAt g h x d its :=
  ⟨ep, hs, t, t', (N _ hx).1, (N _ hd).1, (N _ hx).2.2, (N _ hd).2.2, ne⟩

section
variable {w : World} {A : Around} {s : Shared} {p : Program} {loose : List Str} {mg mb : Str → Option Value} {g : Heap} {L : Addr} {m : Str → Option Value} {news : List (Addr × Obj)}
    {Q : Value → Shared → Prop} {E : Value → Shared → Prop} {x d : Addr} {its : List Value} {ep : Nat} {hs : Int} {t t' : Tok}
theorem part_count_L (F : Fr g L s.heap m) (N : News g L s.heap news) (G : Gd (hd.heap_39 w.params) p loose mg mb g) (hx : (x, accObj d its ep) ∈ news) (hd : (d, accDict hs t t') ∈ news) (ne : @Ne Nat x d)
    (hroom : A.depth + 5 < recursionLimit) (hu : A.units + 100 < cLine) (hlen : its.length < 1000)
    (h : ∀ t s', Go [] s s' → Fr g L s'.heap m → News g L s'.heap news → Q (.int (its.length : Int) t) s') :
    wpAny (model PySem.Challenge.rw_wr0037_01.prog w) A (call (.ref 175) [.ref x]) Q E s :=
  part_count_c G F.keep (acc_of N hx hd ne) hroom hu hlen fun t s' k _ => then0 k.kp F N fun F' N' => h t s' k F' N'
end
theorem room1 {A : Around} {env : Env} {k n : Nat} (h : A.depth + n < recursionLimit) (hk : Nat.ble (k + 1) n = true) : (A.deeper env).depth + k < recursionLimit := by
  rw [depth_deeper]
  have := Nat.le_of_ble_eq_true hk
  omega
theorem room0 {A : Around} {k n : Nat} (h : A.depth + n < recursionLimit) (hk : Nat.ble k n = true) : A.depth + k < recursionLimit := by
  have := Nat.le_of_ble_eq_true hk
  omega
theorem unit1 {A : Around} {env : Env} {k n : Nat} (h : A.units + n < cLine) (hk : Nat.ble (k + 4) n = true) : (A.deeper env).units + k < cLine := by
  rw [Around.deeper_units]
  have := Nat.le_of_ble_eq_true hk
  omega
theorem unit0 {A : Around} {k n : Nat} (h : A.units + n < cLine) (hk : Nat.ble k n = true) : A.units + k < cLine := by
  have := Nat.le_of_ble_eq_true hk
  omega
example : True := by
  (k_with "my os" => ((try dsimp only); repeat (first | (with_reducible exact rfl) | refine Eq.trans (Go.os (by assumption)) ?_; dsimp only)))
  (k_with "my gens" => ((try dsimp only); intro hbₘ; repeat (first | (with_reducible exact hbₘ) | refine Go.gens (by assumption) ?_; dsimp only)))
  (k_with "my room" => (first | exact room1 (by assumption) (by rfl) | exact room0 (by assumption) (by rfl) | exact unit1 (by assumption) (by rfl) | exact unit0 (by assumption) (by rfl) | ((try simp only [depth_deeper, depth_in1, Around.in1_depth, Around.in1_units, Around.deeper_units, depth_caller, depth_under_make, depth_under_kw]); omega)))
  (k_with "call ref" => (k_here; (with_reducible show wpAny _ _ (call (Value.ref 175) _) _ _ _); k_dflt (refine' part_count_L (by k_asm) (by k_asm) (by k_asm) (by k_extra "my mem") (by k_extra "my mem") (by k_ne) (by k_extra "my room") (by k_extra "my room") (by first | assumption | (simp only [List.length_append, List.length_cons, List.length_nil]; omega)) ?_; intro _ _ _ _ _; (try k_sweep))))
  trivial

example : True := by
  (k_with "wpAt" => ((dsimp only); (ks_step "execs cons"); refine ks_wpAt_execs_cons ?_))
  (k_with "call ref" => (k_here; k_dflt (refine' bnd_pop_L ?Fₘ ?Nₘ ?Xₘ ?qₘ ?dxₘ ?Uₘ ?mₘ ?cₘ ?tₘ ?nₘ ?zₘ ?_; (case Fₘ => k_asm); (case Nₘ => k_asm); (case Xₘ => k_asm); (case qₘ => k_extra "my mem"); (case Uₘ => k_upd); (case dxₘ => k_extra "my mem"); (case mₘ => k_is); (case cₘ => k_is); (case tₘ => k_is); (case nₘ => exact rfl); (case zₘ => assumption)); intro _ _ _; (try k_sweep)))
  trivial
section
variable {w : World} {A : Around} {s : Shared} {p : Program} {loose : List Str} {mg mb : Str → Option Value} {g₀ : Heap}
    {Q : Value → Shared → Prop} {E : Value → Shared → Prop} {x d : Addr} {its : List Value}

theorem pop_c {v : Value} (G : Gd (hd.heap_39 w.params) p loose mg mb g₀) (H : g₀.StaysIn s.heap) (hA : AccAt g₀ s.heap x d (its ++ [v]))
    (hroom : A.depth + 15 < recursionLimit) (hu : A.units + 200 < cLine) (hlen : its.length < 1000) (hlen' : (its ++ [v]).length < 1000)
    (hQ : ∀ s', Go [x] s s' → AccAt g₀ s'.heap x d its → Q v s') :
    wpAny (model PySem.Challenge.rw_wr0037_01.prog w) A (call (.ref 138) [.ref x]) Q E s := by
  k_extra "my hide"
  obtain ⟨ep, hs, t₁, t₂, hx, hdd, hx0, hd0, hxd⟩ := hA
  k_extra "my back"
  refine' enterS (binds := [(Str.ofString "self", .ref x)]) [(x, accObj d (its ++ [v]) ep), (d, accDict hs t₁ t₂)] G H ?hn ?ho ?hcd ?hr ?hb ?hl ?hbody ?c2 ?c3 ?c4 ?c5
  k_extra "my enterS"
  case hn => exact all_cons ⟨hx, hx0⟩ (all_cons ⟨hdd, hd0⟩ all_nil)
  case hr => omega
  case hbody =>
    intro g' L' h' G' st' kp' F' N' l1
    have X' := G'.X
    have T' := G'.T
    k_lt l1
    (show _root_.PySem.wpAt _ _ _ _ _ _ _)
    iterate 12 (first | (k_unfold; (try dsimp only)) | (k_end; wrow_close) | walk1 | (dsimp only; walk1))
    refine ite_neg (by simp; omega) ?_
    try dsimp only
    iterate 3 (first | (k_unfold; (try dsimp only)) | (k_end; wrow_close) | walk1 | (dsimp only; walk1))
    dsimp only
    refine ks_wpAt_execs_cons ?_
    refine ks_wpAt_Return_some ?_
    refine ks_wpAt_MethodCall ?_
    (try dsimp only)
    k_steps
    (try dsimp only)
    (show Q _ _)
    rename Fr _ _ _ _ => kF
    rename News _ _ _ _ => kN
    refine hQ _ (.fin (kp_out kp' kF kN (all_cons hx (all_cons hdd all_nil)) (all_cons (.inl (.head _)) (all_cons (.inr (by k_extra "my mem")) all_nil))) ?os ?gens) ⟨_, hs, t₁, t₂, kN.get (by k_extra "my mem"), kN.get (by k_extra "my mem"), hx0, hd0, hxd⟩
    case os => k_extra "my os"
    case gens => k_extra "my gens"
end

/-- pairs of texts in the heap -/
noncomputable def ChAt (h : Heap) (v : Value) (c : Str × Str) : Prop := ∃ r t t', v = .ref r ∧ h.get? r = some (tupObj c.1 c.2 t t')
inductive Chs (h : Heap) : List Value → List (Str × Str) → Prop
  | nil : Chs h [] []
  | cons {v c vs cs} : ChAt h v c → Chs h vs cs → Chs h (v :: vs) (c :: cs)
theorem ChAt.keeps {h h' : Heap} {v c} (a : ChAt h v c) (k : ∀ b o, h.get? b = some o → h'.get? b = some o) : ChAt h' v c := by
  obtain ⟨r, t, t', e, o⟩ := a
  exact ⟨r, t, t', e, k _ _ o⟩
theorem Chs.keeps {h h' : Heap} (k : ∀ b o, h.get? b = some o → h'.get? b = some o) {vs cs} (C : Chs h vs cs) : Chs h' vs cs := by
  induction C with
  | nil => exact .nil
  | cons a _ ih => exact .cons (a.keeps k) ih
theorem Chs.length {h : Heap} {vs cs} (C : Chs h vs cs) : vs.length = cs.length := by
  induction C with
  | nil => rfl
  | cons _ _ ih => exact congrArg (· + 1) ih
theorem Chs.get {h : Heap} {vs cs} (C : Chs h vs cs) : ∀ (i : Nat) (c : Str × Str), cs[i]? = some c → ∃ v, vs[i]? = some v ∧ ChAt h v c := by
  induction C with
  | nil => exact fun i c e => absurd (e.symm.trans List.getElem?_nil) (Option.some_ne_none _)
  | cons a _ ih =>
    intro i c e
    cases i with
    | zero => exact ⟨_, rfl, Option.some.inj e ▸ a⟩
    | succ i => exact ih i c e
theorem Chs.append {h : Heap} {vs cs vs' cs'} (C : Chs h vs cs) (D : Chs h vs' cs') : Chs h (vs ++ vs') (cs ++ cs') := by
  induction C with
  | nil => exact D
  | cons a _ ih => exact .cons a ih
theorem Chs.one {h : Heap} {v c} (a : ChAt h v c) : Chs h [v] [c] := .cons a .nil
theorem Chs.take {h : Heap} {vs cs} (k : Nat) (C : Chs h vs cs) : Chs h (vs.take k) (cs.take k) := by
  induction C generalizing k with
  | nil => cases k <;> exact .nil
  | cons a _ ih => cases k with
    | zero => exact .nil
    | succ k => exact .cons a (ih k)
theorem Chs.drop {h : Heap} {vs cs} (k : Nat) (C : Chs h vs cs) : Chs h (vs.drop k) (cs.drop k) := by
  induction C generalizing k with
  | nil => cases k <;> exact .nil
  | cons a b ih => cases k with
    | zero => exact .cons a b
    | succ k => exact ih k

section
variable {prog : Program} {w : World} {A : Around} {E : Value → Shared → Prop} {s : Shared}

/-- the next item of a list's iterator, whatever the list's class -/
theorem next_own {it l : Addr} {i : Nat} {items : Array Value} {x : Value} {ol : Obj} {n : Nat} {Q : Option Value → Shared → Prop} (hit : s.heap.IsListIter it l i)
    (hol : s.heap.get? l = some ol) (hdl : ol.data = .seq items n) (hx : items[i]? = some x)
    (hQ : ∀ h', h'.IsListIter it l (i + 1) → Heap.SameBut it s.heap h' → Q (some x) { s with heap := h' }) :
    wpAny (model prog w) A (pyNext (.ref it)) Q E s := by
  obtain ⟨o, ho, hc, hd⟩ := id hit
  unfold pyNext
  refine wpAny_bind (wpAny_attempt (wpAny_callSpecial?_slot (name := Str.ofString "__next__") hit.typeIs slot_listiter_next
    (wpAny_call_entry slot_listiter_next hit.typeIs entry_listiter_next ?_ (args_listiter_next _))))
  show wpAny _ _ (field (.ref it) 0 >>= _) _ _ s
  refine wpAny_bind (wpAny_field ho hd (x := .ref l) rfl ?_)
  show wpAny _ _ (if (Value.ref l == Value.none) = true then _ else _) _ _ s
  rw [if_neg (show ¬ ((Value.ref l == Value.none) = true) from Bool.false_ne_true)]
  show wpAny _ _ (field (.ref it) 1 >>= _) _ _ s
  refine wpAny_bind (wpAny_field ho hd (x := .int i 0) rfl ?_)
  show wpAny _ _ (seqItems? (.ref l) >>= _) _ _ s
  refine wpAny_bind (wpAny_seqItems hol hdl ?_)
  simp only [Int.toNat_natCast, hx]
  refine wpAny_bind (wpAny_setField ho hd (by simp) (wpAny_pure ⟨x, rfl, wpAny_pure (hQ _ ?_ (Heap.SameBut.update ..))⟩))
  exact ⟨_, Heap.get?_update_self _ ho (Obj.isFreed_of_fields (Obj.data_mapFields hd _)), (Obj.cls_mapFields ..).trans hc, by
    rw [Obj.data_mapFields hd]; simp [rawInt]⟩

theorem end_own {it l : Addr} {i : Nat} {items : Array Value} {ol : Obj} {n : Nat} {Q : Option Value → Shared → Prop} (hh : A.handled = none)
    (hit : s.heap.IsListIter it l i) (hol : s.heap.get? l = some ol) (hdl : ol.data = .seq items n) (hx : items[i]? = none)
    (hQ : ∀ h', Heap.ExtBut it s.heap h' → Q none { s with heap := h' }) : wpAny (model prog w) A (pyNext (.ref it)) Q E s := by
  obtain ⟨o, ho, hc, hd⟩ := id hit
  unfold pyNext
  refine wpAny_bind (wpAny_attempt (wpAny_callSpecial?_slot (name := Str.ofString "__next__") hit.typeIs slot_listiter_next
    (wpAny_call_entry slot_listiter_next hit.typeIs entry_listiter_next ?_ (args_listiter_next _))))
  show wpAny _ _ (field (.ref it) 0 >>= _) _ _ s
  refine wpAny_bind (wpAny_field ho hd (x := .ref l) rfl ?_)
  show wpAny _ _ (if (Value.ref l == Value.none) = true then _ else _) _ _ s
  rw [if_neg (show ¬ ((Value.ref l == Value.none) = true) from Bool.false_ne_true)]
  show wpAny _ _ (field (.ref it) 1 >>= _) _ _ s
  refine wpAny_bind (wpAny_field ho hd (x := .int i 0) rfl ?_)
  show wpAny _ _ (seqItems? (.ref l) >>= _) _ _ s
  refine wpAny_bind (wpAny_seqItems hol hdl ?_)
  simp only [Int.toNat_natCast, hx]
  refine wpAny_bind (wpAny_rule (wpAny_bind (wpAny_setField ho hd (by simp) ?_)))
  show wpAny _ _ (newExc (.type "StopIteration") [] >>= _) _ _ _
  refine wpAny_bind ?_
  simp only [newExc, newTuple]
  refine wpAny_bind (wpAny_newObj_type ?_ (by size_fits))
  refine wpAny_bind (m := firstArgMember _ _) (wpAny_of_eq (a := Value.none) (by first | rfl | (simp only [firstArgMember]; rfl)) ?_)
  refine wpAny_newObj_type ?_ (by size_fits)
  simp only [raiseNew]
  refine wpAny_bind (wpAny_handled ?_)
  rw [show A.in1.handled = none from hh]
  refine wpAny_bind (wpAny_pure (wpAny_throw ?_))
  refine wpAny_bind (wpAny_isInstance (T := "StopIteration") (b := true) ⟨_, Heap.get?_push_size _ rfl, rfl⟩ isSubtype_stop ?_)
  exact wpAny_pure (hQ _ (((Heap.SameBut.update ..).extBut.push _).push _))

/-- where an iterator over a list of pairs of texts stands -/
noncomputable def ItAt (it l : Addr) (ol : Obj) (its : List Value) (cs : List (Str × Str)) (i : Nat) (h : Heap) : Prop :=
  h.IsListIter it l i ∧ h.get? l = some ol ∧ Chs h its cs
/-- what a pair holds -/
noncomputable def PairIs (cs : List (Str × Str)) (i : Nat) (vals : Array Value) : Prop := ∃ c t t', cs[i]? = some c ∧ vals = #[.str c.1 t, .str c.2 t']

/-- addresses that a walk over pairs stands on -/
noncomputable def refsOf (l : List Value) : List Addr := l.filterMap fun | .ref r => some r | _ => none
theorem mem_refsOf {r : Addr} {l : List Value} (h : Value.ref r ∈ l) : r ∈ refsOf l := List.mem_filterMap.mpr ⟨_, h, rfl⟩
theorem Chs.at {h h' : Heap} {vs : List Value} {cs : List (Str × Str)} (c : Chs h vs cs) (k : ∀ r ∈ refsOf vs, ∀ o, h.get? r = some o → h'.get? r = some o) : Chs h' vs cs := by
  induction c with
  | nil => exact .nil
  | cons a b ih =>
    obtain ⟨r, t, t', e, o⟩ := a
    subst e
    exact .cons ⟨r, t, t', rfl, k r (.head _) _ o⟩ (ih fun q hq o e => k q (.tail _ hq) o e)
theorem Chs.tup {h : Heap} {vs cs} (c : Chs h vs cs) {r : Addr} (hr : r ∈ refsOf vs) : ∃ o, h.get? r = some o ∧ o.cls = .type "tuple" := by
  induction c with
  | nil => cases hr
  | cons a b ih =>
    obtain ⟨q, t, t', e, o⟩ := a
    subst e
    rcases List.mem_cons.mp (show r ∈ q :: refsOf _ from hr) with rfl | hr
    · exact ⟨_, o, rfl⟩
    · exact ih hr

/-- a walk over a list of pairs, whatever the list's class -/
theorem walksOwn (hh : A.handled = none) {I l : Addr} {ol : Obj} {its : List Value} {cs : List (Str × Str)} {n : Nat} (hol : ol.data = .seq its.toArray n) (hne : l ≠ I) (hI : I ∉ refsOf its) (hlen : its.length = cs.length) :
    WalksU prog w A I (I :: l :: refsOf its) [I] cs.length (PairIs cs) (ItAt I l ol its cs) (fun i T h => T ∈ refsOf its ∧ ItAt I l ol its cs (i + 1) h) where
  sub := fun b hb => by rcases List.mem_cons.mp hb with rfl | hb; exact .head _; cases hb
  frame := fun i h h' st hk => ⟨st.1.at fun o e => hk I (.head _) o e, hk l (.tail _ (.head _)) _ st.2.1, st.2.2.at fun r hr o e => hk r (.tail _ (.tail _ hr)) o e⟩
  item := fun i s Q E hi st hQ => by
    obtain ⟨v, hv, r, t, t', rfl, ho⟩ := st.2.2.get i cs[i] (List.getElem?_eq_getElem hi)
    refine next_own st.1 st.2.1 hol (x := .ref r) (by simpa using hv) fun h' hit' hs' => ?_
    have hr : r ∈ refsOf its := mem_refsOf (List.mem_of_getElem? hv)
    have kp : ∀ b o, b ∉ [I] → s.heap.get? b = some o → h'.get? b = some o := fun b o hb e => hs'.extBut b o (fun h => hb (by simp [h])) e
    refine hQ r _ h' s.toks ⟨cs[i], t, t', List.getElem?_eq_getElem hi, rfl⟩ ⟨_, kp r _ (fun h => hI (by simp at h; exact h ▸ hr)) ho, rfl, 0, rfl⟩ ⟨hr, hit', kp l _ (by simpa using hne) st.2.1, st.2.2.at fun q hq o e => kp q o (fun h => hI (by simp at h; exact h ▸ hq)) e⟩ kp
  go := fun elts k pos i T s Q E st hQ => by
    obtain ⟨o, ho, hc, hd⟩ := id st.2.1
    unfold letOwnedTupleGo
    dsimp only
    refine wpAny_bind (wpAny_load ho ?_)
    rw [hc, hd]
    dsimp only
    refine KFB.if_not (by simp) ?_
    exact wpAny_pure (hQ s.heap st.2 fun _ _ _ e => e)
  apart := fun i T h st hm => by simp at hm; exact hI (hm ▸ st.1)
  done := fun s Q E st hQ => end_own hh st.1 st.2.1 hol (by simp; omega) fun h' he' => hQ h' s.toks fun b o hb e => he' b o (fun h => hb (by simp [h])) e
  self := fun _ _ _ _ st hQ => wpAny_pyIter_listiter st.1 hQ
end

section
variable {prog : Program} {w : World} {A : Around} {E : Value → Shared → Prop} {s : Shared} {K : Frag}

theorem iter_own {x C : Addr} {ox : Obj} {od : Option Obj} {tf : Value} {Q : Value → Shared → Prop} (X : K.In s.heap) (I : InstAt s.heap x ox C od) (hf : findIn K (.ref C) "__iter__" = some (some (.builtin "list.__iter__"))) (ht : typeIn K (.builtin "list.__iter__") = some tf)
    (htf : (tf == .type "function" || tf == .type "method_descriptor" || tf == .type "wrapper_descriptor") = true) (hm : mroIn K C (.type "list") = some true)
    (hQ : Q (.ref s.heap.objs.size) { s with heap := s.heap.push { cls := .type "list_iterator", data := .fields #[.ref x, .int 0 0] } }) : wpAny (model prog w) A (pyIter (.ref x)) Q E s := by
  have fin : ∀ {refuse : Sem Value} {Q' : Option Value → Shared → Prop}, Q' (some (.ref s.heap.objs.size)) { s with heap := s.heap.push { cls := .type "list_iterator", data := .fields #[.ref x, .int 0 0] } } →
      wpAny (model prog w) A (if (Value.builtin "list.__iter__" == Value.none) = true then (refuse >>= fun v => pure (some v)) else (call (.builtin "list.__iter__") [.ref x] >>= fun v => pure (some v))) Q' E s := fun {refuse Q'} hQ' => by
    refine KFB.if_not (by decide) ?_
    refine wpAny_bind (call_bi (n := "__iter__") (by decide +kernel) entry_list_iter (by first | exact .inl (by decide +kernel) | exact .inr (by decide +kernel)) (by decide +kernel) (isinst_of X I hm) (args_list_iter _) ?_)
    · show wpAny _ _ (do ret (← newFields "list_iterator" [.ref x, rawInt 0])) _ _ s
      exact wpAny_bind (wpAny_newObj_type (wpAny_pure (wpAny_pure hQ')))
  unfold pyIter
  refine wpAny_bind (wpAny_bind (I.type.here ((looks_findIn X hf).here ?_)))
  dsimp only
  refine wpAny_bind ?_
  unfold callSpecialIfBoundUnlessNone? bindSpecialIfBound?
  refine wpAny_holding (wpAny_bind (wpAny_bind (wpAny_bind (I.type.here ((looks_findIn X hf).here ?_)))))
  dsimp only
  refine wpAny_bind (wpAny_askSetting (wpAny_ite ?_))
  have nx : ∀ {P : Value → Shared → Prop} {P' : Sem Value}, P (.ref s.heap.objs.size) { s with heap := s.heap.push { cls := .type "list_iterator", data := .fields #[.ref x, .int 0 0] } } → wpAny (model prog w) A (specialOf (.ref s.heap.objs.size) "__next__" >>= fun r => match r with | .none => P' | some _ => pure (.ref s.heap.objs.size)) P E { s with heap := s.heap.push { cls := .type "list_iterator", data := .fields #[.ref x, .int 0 0] } } :=
    fun hp => wpAny_bind (wpAny_specialOf ⟨_, Heap.get?_push_size _ rfl, rfl⟩ slot_listiter_next.lookup (wpAny_pure hp))
  split
  · exact wpAny_bind ((bind_any X _ ht htf).here (wpAny_pure (fin (nx hQ))))
  · exact wpAny_tryCatch (wpAny_bind ((bind_any X _ ht htf).here (wpAny_pure (fin (nx hQ)))))

/-- the genexpr's code: made, or found in the table -/
theorem code_any {env : Env} {c P : Addr} {ps : Array Value} {pos : Pos} {qualname : Str} {scope : Scope} {Q : Value → Shared → Prop} (hc : env.code = .ref c) (C : CodeHd s.heap c P) (hP : s.heap.get? P = some (tabObj ps)) (ht : TriplesOk ps.toList)
    (hQ : ∀ c' h' tk ps', Heap.ExtBut P s.heap h' → s.heap.objs.size ≤ h'.objs.size → h'.get? P = some (tabObj ps') → TriplesOk ps'.toList → Q c' { s with heap := h', toks := tk }) :
    wpAny (model prog w) A (genexprCode env pos qualname scope) Q E s := by
  cases hf : codeAmong pos ps.toList with
  | some c' => exact wpAny_genexprCode_hit hc (C.code hP ht) hf (hQ c' s.heap s.toks ps (fun _ _ _ e => e) (Nat.le_refl _) hP ht)
  | none =>
    refine wpAny_genexprCodeX hc (C.code hP ht) (C.tab hP) hf fun c' h' tk hx hge hlt _ _ htab _ => ?_
    exact hQ _ h' tk _ hx (Nat.le_trans hge (Nat.le_of_lt hlt)) htab.2 (by
      have := TriplesOk_snoc pos.line pos.col (.ref c') ps.toList ht
      simpa using this)
end

/-- a generator that gives n values of the kind F, seen from a frame -/
noncomputable def GenX (prog : Program) (w : World) (A : Around) (g : Heap) (L : Addr) (news : List (Addr × Obj)) (a : Addr) (n : Nat) (F : Nat → Value → Prop) (s : Shared) : Prop :=
  ∃ fp wr gi St, WalksS prog w A.in4 a fp wr (GenOnlyQ gi) n F St ∧ St 0 s ∧ (∀ i s', St i s' → s'.TypeIs (.ref a) "generator") ∧ a ∈ fp ∧ (∀ b ∈ fp, b < s.heap.objs.size) ∧ ∀ b ∈ wr, b ≠ L ∧ g.get? b = none ∧ ∀ p ∈ news, p.1 ≠ b

theorem passing_all (n : Nat) : passing (fun _ => true) n 0 = List.range n := by
  unfold passing
  simp

section
variable {prog : Program} {w : World} {A : Around} {E : Value → Shared → Prop} {s : Shared} {K : Frag} {g : Heap} {L x d c P bm C : Addr} {m mg : Str → Option Value} {ob : Obj} {news : List (Addr × Obj)} {gf : Obj → List (Addr × Obj)} {ox : Obj} {od : Option Obj} {its : List Value} {cs : List (Str × Str)} {n : Nat} {ps : Array Value} {tf : Value}

theorem gen_acc {env : Env} {elt iter : Expr} {xa xb : Str} {pa pb pt : Pos} {kt : Nat} {scope : Scope} {pos : Pos} {Fv : Nat → Value → Prop} {Q : Value → Shared → Prop}
    (hh : A.handled = none) (F : Fr g L s.heap m) (N : News g L s.heap news) (X : K.In g) (M : BMod g mainGlobals mg bm ob) (nl : g.NoLimit) (CH : CodeHd g c P)
    (hx : (x, ox) ∈ news) (hol : ox.data = .seq its.toArray n) (I : InstAt s.heap x ox C od) (hC : Chs s.heap its cs) (U : UpdF P (tabObj ps) news gf) (tr : TriplesOk ps.toList)
    (hf : findIn K (.ref C) "__iter__" = some (some (.builtin "list.__iter__"))) (ht : typeIn K (.builtin "list.__iter__") = some tf)
    (htf : (tf == .type "function" || tf == .type "method_descriptor" || tf == .type "wrapper_descriptor") = true) (hm : mroIn K C (.type "list") = some true)
    (hcode : env.code = .ref c) (hglob : env.globals = mainGlobals) (hco : scope.isCoroutine = false) (hclos : closureFor scope env = pure []) (hcell : ∀ y ∈ scope.names, y.2 ≠ .cell) (h0 : scope.names.lookup (".0" : Str) = some NameKind.local)
    (hxa : scope.names.lookup xa = some .local) (hxb : scope.names.lookup xb = some .local) (hab : xa ≠ xb) (hkind : scope.kind = .function) (hroom : A.depth < recursionLimit)
    (hiter : ∀ {Q' : Value → Shared → Prop}, Q' (.ref x) s → wpAny (model prog w) A (eval iter env) Q' E s)
    (hel : ∀ (Ca : Addr) (code : Value) (i : Nat) (ga gb : Str) (ta tb : Tok) (u : Shared) m₂ (A' : Around) E', A'.handled = none → A'.depth ≤ A.depth + 1 → A'.units ≤ A.units + 8 → cs[i]? = some (ga, gb) → Fr g Ca u.heap m₂ → m₂ xa = some (.str ga ta) → m₂ xb = some (.str gb tb) →
      wpAny (model prog w) A' (eval elt (genEnv scope [] Ca code builtinsNs env)) (fun y s₃ => Fv i y ∧ Keeps u s₃) E' u)
    (h : ∀ a s₅ ps', TriplesOk ps'.toList → Fr g L s₅.heap m → News g L s₅.heap (gf (tabObj ps')) → s₅.os = s.os → (AllBare s.gens → AllBare s₅.gens) → (∀ p ∈ news, p.1 < a) → (∀ b o, b ≠ P → s.heap.get? b = some o → s₅.heap.get? b = some o) →
      GenX prog w A g L (gf (tabObj ps')) a cs.length Fv s₅ → Q (.ref a) s₅)
    (hs : ∀ x, genFold iter env x = pure x := by intro _; with_unfolding_all rfl) :
    wpAny (model prog w) A (eval (.GeneratorExp elt [⟨.Tuple [.Name xa pa, .Name xb pb] kt pt, iter, [], 0⟩] scope pos) env) Q E s := by
  obtain ⟨pre, post, enews, hgf, ha, hb⟩ := U.split
  have hP := N (P, tabObj ps) (by rw [enews]; simp)
  have Xs := X.keeps F.keep
  have hcP : cStatics ≠ P := fun e => by
    obtain ⟨_, hns, _⟩ := nl
    obtain ⟨o, es, ep, ho, hd, _⟩ := hns
    rw [e] at ho
    rw [hP.2.2] at ho; cases ho
  have hI0 : g.get? s.heap.objs.size = none := by
    cases z : g.get? s.heap.objs.size with
    | none => rfl
    | some o => exact absurd (Heap.lt_size (F.keep _ _ z)) (Nat.lt_irrefl _)
  have hL : L < s.heap.objs.size := F.ns.lt
  have hxl : x < s.heap.objs.size := Heap.lt_size (N _ hx).1
  have hPl : P < s.heap.objs.size := Heap.lt_size hP.1
  have hrefs : ∀ r ∈ refsOf its, r < s.heap.objs.size ∧ r ≠ P := fun r hr => by
    obtain ⟨o, ho, hc⟩ := hC.tup hr
    refine ⟨Heap.lt_size ho, fun e => ?_⟩
    rw [e, hP.1] at ho; cases ho; cases hc
  have hxP : x ≠ P := fun e => by
    have := (N _ hx).1
    rw [e, hP.1] at this; cases this
    cases hol
  refine wpAny_GeneratorExp_walksQTD hh hco hclos hcell h0 hxa hxb hab hkind hroom (hiter (iter_own Xs I hf ht htf hm ⟨(nl.keeps F.keep).push _, ?_⟩)) hs
  have F2 : Fr g L (s.heap.push { cls := .type "list_iterator", data := .fields #[.ref x, .int 0 0] }) m := F.push _
  have e2 : ∀ b o, s.heap.get? b = some o → (s.heap.push { cls := .type "list_iterator", data := .fields #[.ref x, .int 0 0] }).get? b = some o := fun b o e => Heap.get?_push_of_some _ e
  refine code_any hcode (CH.keeps F2.keep) (e2 _ _ hP.1) tr fun c' h₃ tk₃ ps' hx₃ hsz hP₃ tr' => ?_
  rw [Heap.size_push] at hsz
  have kg : ∀ b o, g.get? b = some o → h₃.get? b = some o := fun b o e => hx₃ b o (fun q => by rw [q, hP.2.2] at e; cases e) (F2.keep b o e)
  have M₃ : BMod h₃ mainGlobals mg bm ob := M.keeps kg
  rw [hglob]
  refine wpAny_builtinsFor M₃.ns M₃.name M₃.ne M₃.obj M₃.cls M₃.dict M₃.data ?_
  have hit : (s.heap.push { cls := .type "list_iterator", data := .fields #[.ref x, .int 0 0] }).IsListIter s.heap.objs.size x 0 := ⟨_, Heap.get?_push_size _ rfl, rfl, rfl⟩
  have hst : ItAt s.heap.objs.size x ox its cs 0 h₃ := ⟨hit.at fun o e => hx₃ _ o (Nat.ne_of_gt hPl) e, hx₃ _ _ hxP (e2 _ _ (N _ hx).1), (hC.keeps e2).at fun r hr o e => hx₃ r o (hrefs r hr).2 e⟩
  have old₃ : ∀ b o, b ≠ P → s.heap.get? b = some o → h₃.get? b = some o := fun b o hbP e => hx₃ b o hbP (e2 _ _ e)
  refine ⟨s.heap.objs.size, _, [s.heap.objs.size], cs.length, _, _, _, fun _ => true, Fv, rfl, fun A' hA => walksOwn hA hol (Nat.ne_of_lt hxl) (fun hm => Nat.lt_irrefl _ (hrefs _ hm).1) hC.length, ?_, hst, ?_, ?_, ?_, ?_, ?_⟩
  · rintro i vals ⟨cc, t, t', _, rfl⟩
    exact ⟨_, _, rfl⟩
  · intro b hb
    show b < h₃.objs.size
    rcases List.mem_cons.mp hb with rfl | hb
    · exact hsz
    · rcases List.mem_cons.mp hb with rfl | hb
      · exact Nat.lt_trans hxl hsz
      · exact Nat.lt_trans (hrefs b hb).1 hsz
  · exact (nl.keeps kg)
  · intro hb
    rcases List.mem_cons.mp hb with e | hb
    · obtain ⟨_, hns, _⟩ := nl
      obtain ⟨o, es, ep, ho, hd, _⟩ := hns
      rw [e, hI0] at ho; cases ho
    · cases hb
  · intro href hhref
    have inB : ∀ (t : Shared) m₂, t.heap.Ns h₃.objs.size m₂ → (∀ b ∈ List.range h₃.objs.size, b ∉ [s.heap.objs.size] → ∀ o, href.get? b = some o → t.heap.get? b = some o) → Fr g h₃.objs.size t.heap m₂ := fun t m₂ hn hkp =>
      ⟨hn, fun b o e => hkp b (List.mem_range.mpr (Heap.lt_size (kg b o e))) (fun hm => by
        rcases List.mem_cons.mp hm with q | hm
        · rw [q, hI0] at e; cases e
        · cases hm) o (hhref b o (kg b o e)), Nat.le_trans F.above (Nat.le_of_lt (Nat.lt_trans hL hsz))⟩
    refine ⟨fun A' E' i va vb t m₂ hA hD hU hPv hn hma hmb hkp => ?_, fun A' E' i va vb t m₂ hA hD hU hPv hp hn hma hmb hkp => ?_⟩
    · simp only [List.forIn_nil]
      exact wpAny_pure ⟨rfl, t.heap, t.toks, rfl, fun _ _ e => e⟩
    · obtain ⟨⟨ga, gb⟩, t1, t2, hc1, hv⟩ := hPv
      obtain ⟨rfl, rfl⟩ : va = .str ga t1 ∧ vb = .str gb t2 := by simpa using congrArg Array.toList hv
      exact hel _ _ i ga gb t1 t2 t m₂ A' E' hA hD hU hc1 (inB t m₂ hn hkp) hma hmb
  · intro a h₅ tk gs hgb hag hsz₅ hk₅ W hat
    have hlen : (passing (fun _ => true) cs.length 0).length = cs.length := by rw [passing_all]; simp
    rw [hlen] at W
    have F₅ : Fr g L h₅ m := ⟨F.ns.at' fun o e => hk₅ _ o (old₃ _ o (fun q => hP.2.1 q.symm) e), fun b o e => hk₅ b o (kg b o e), F.above⟩
    have N₅ : News g L h₅ (gf (tabObj ps')) := by
      rw [hgf]
      intro p hp
      have key : p ∈ pre ∨ p ∈ post → h₅.get? p.1 = some p.2 ∧ p.1 ≠ L ∧ g.get? p.1 = none := fun hq => by
        have hpn : p.1 ≠ P := by rcases hq with hq | hq; exact ha _ hq; exact hb _ hq
        have z := N p (by rw [enews]; rcases hq with hq | hq; exact List.mem_append.mpr (.inl hq); exact List.mem_append.mpr (.inr (.tail _ hq)))
        exact ⟨hk₅ _ _ (old₃ _ _ hpn z.1), z.2⟩
      rcases List.mem_append.mp hp with hp | hp
      · exact key (.inl hp)
      · rcases List.mem_cons.mp hp with rfl | hp
        · exact ⟨hk₅ _ _ hP₃, hP.2⟩
        · exact key (.inr hp)
    have hnew : ∀ p ∈ gf (tabObj ps'), p.1 < s.heap.objs.size := fun p hp => by
      rw [hgf] at hp
      rcases List.mem_append.mp hp with hp | hp
      · exact Heap.lt_size (N p (by rw [enews]; exact List.mem_append.mpr (.inl hp))).1
      · rcases List.mem_cons.mp hp with rfl | hp
        · exact hPl
        · exact Heap.lt_size (N p (by rw [enews]; exact List.mem_append.mpr (.inr (.tail _ hp)))).1
    refine h a _ ps' tr' F₅ N₅ rfl (fun hb => hb.push hgb) (fun p hp => Nat.lt_trans (Nat.lt_trans (Heap.lt_size (N p hp).1) hsz) hag) (fun b o hbP e => hk₅ b o (old₃ b o hbP e)) ⟨_, _, _, _, W.imp ?_, hat, fun i s' st => st.1.typeIs, .head _, ?_, ?_⟩
    · rintro j y ⟨i, hi, hF⟩
      rw [passing_all] at hi
      have : j = i := by
        have := List.getElem?_eq_some_iff.mp hi
        obtain ⟨h1, h2⟩ := this
        simpa using h2
      exact this ▸ hF
    · intro b hb
      show b < h₅.objs.size
      rw [hsz₅]
      rcases List.mem_cons.mp hb with rfl | hb
      · exact Nat.lt_succ_self _
      · rcases List.mem_cons.mp hb with rfl | hb
        · exact Nat.lt_succ_of_lt hag
        · exact Nat.lt_succ_of_lt (Nat.lt_trans (List.mem_range.mp hb) hag)
    · intro b hb
      have hbz : s.heap.objs.size ≤ b := by
        rcases List.mem_cons.mp hb with rfl | hb
        · exact Nat.le_of_lt hsz
        · rcases List.mem_cons.mp hb with rfl | hb
          · exact Nat.le_refl _
          · cases hb
      refine ⟨Nat.ne_of_gt (Nat.lt_of_lt_of_le hL hbz), ?_, fun p hp => Nat.ne_of_lt (Nat.lt_of_lt_of_le (hnew p hp) hbz)⟩
      cases z : g.get? b with
      | none => rfl
      | some o => exact absurd (Heap.lt_size (F.keep _ _ z)) (Nat.not_lt.mpr hbz)
end

section
variable {prog : Program} {w : World} {A : Around} {E : Value → Shared → Prop} {s : Shared} {g : Heap} {L a : Addr} {m : Str → Option Value} {news : List (Addr × Obj)} {n : Nat} {Fv : Nat → Value → Prop}

theorem moved_L {s s' : Shared} {wr : List Addr} {gi : Nat} (F : Fr g L s.heap m) (N : News g L s.heap news) (hm : Moved wr (GenOnlyQ gi) s s') (hwr : ∀ b ∈ wr, b ≠ L ∧ g.get? b = none ∧ ∀ p ∈ news, p.1 ≠ b) : Fr g L s'.heap m ∧ News g L s'.heap news :=
  ⟨⟨F.ns.at' fun o e => hm.heap L o (fun q => (hwr L q).1 rfl) e, fun b o e => hm.heap b o (fun q => by rw [(hwr b q).2.1] at e; cases e) (F.keep b o e), F.above⟩,
    fun p hp => ⟨hm.heap _ _ (fun q => (hwr _ q).2.2 p hp rfl) (N p hp).1, (N p hp).2⟩⟩

theorem join_L {sep : Str} {t : Tok} {Q : Value → Shared → Prop} (F : Fr g L s.heap m) (N : News g L s.heap news) (X : GenX prog w A g L news a n Fv s) (tx : Nat → Str) (htx : ∀ j v, Fv j v → ∃ u, v = .str (tx j) u)
    (hok : JoinOk sep ((List.range n).map tx) = true) (hsz : n ≤ sizeLine)
    (hQ : ∀ s' t', Fr g L s'.heap m → News g L s'.heap news → s'.os = s.os → (AllBare s.gens → AllBare s'.gens) → Q (.str (Txt.join sep ((List.range n).map tx)) t') s') : wpAny (model prog w) A (call (.builtin "str.join") [.str sep t, .ref a]) Q E s := by
  obtain ⟨fp, wr, gi, St, W, hst, hT, ha, hfp, hwr⟩ := X
  have W := W.in4_2
  refine SC.joinGen W hT hst hfp ha (fun j v hv => let ⟨u, e⟩ := htx j v hv; ⟨_, u, e⟩) (fun s' lt hm hacc => ?_) hsz
  have hl : lt.map (·.1) = (List.range n).map tx := by
    apply List.ext_getElem?
    intro j
    have hsz : lt.length = n := by simpa [strValues] using hacc.1
    by_cases hj : j < n
    · have hj' : j < lt.length := hsz ▸ hj
      obtain ⟨u, hv⟩ := htx j _ (hacc.2 j (.str lt[j].1 lt[j].2) (by simp [strValues, List.getElem?_eq_getElem hj']))
      injection hv with h1 _
      simp [List.getElem?_eq_getElem hj', hj, h1]
    · rw [List.getElem?_eq_none (by simpa [hsz] using Nat.le_of_not_lt hj), List.getElem?_eq_none (by simpa using Nat.le_of_not_lt hj)]
  rw [hl]
  obtain ⟨f1, n1⟩ := moved_L F N hm hwr
  exact ⟨hok, fun t' k => hQ { s' with toks := k } t' f1 n1 hm.os fun b => b.moved hm.gens⟩

theorem args_sum2 (a b : Value) : argsOk "sum" ⟨[a, b], []⟩ := by unfold argsOk; rw [PySem.W.Fast.signatureQ_eq]; kernel_rfl

theorem sum_L {t₀ : Tok} {Q : Value → Shared → Prop} (F : Fr g L s.heap m) (N : News g L s.heap news) (X : GenX prog w A g L news a n Fv s) (val : Nat → Int) (hval : ∀ j v, Fv j v → ∃ t, v = .int (val j) t) (hfit : ∀ j, j < n → InLong (val j) ∧ InLong (preSum val (j + 1)))
    (hQ : ∀ s' t', Fr g L s'.heap m → News g L s'.heap news → s'.os = s.os → (AllBare s.gens → AllBare s'.gens) → Q (.int (preSum val n) t') s') : wpAny (model prog w) A (call (.builtin "sum") [.ref a, .int 0 t₀]) Q E s := by
  obtain ⟨fp, wr, gi, St, W, hst, hT, ha, hfp, hwr⟩ := X
  have W := W.in4_1
  have key : ∀ s' t', Moved wr (GenOnlyQ gi) s s' → Q (.int (preSum val n) t') s' := fun s' t' hm => by
    obtain ⟨f1, n1⟩ := moved_L F N hm hwr
    exact hQ s' t' f1 n1 hm.os fun b => b.movedS hm
  refine call_function_tree PySem.F.kind_sum PySem.F.plain_sum PySem.F.entry_sum (args_sum2 _ _) ?_
  unfold Builtin.«sum»
  simp only [List.length_cons, List.length_nil]
  rw [if_neg (by decide)]
  refine wpAny_bind (wpAny_of_eq (show Builtin.Builtins.bindParams "sum" ["start"] 0 ⟨[.int 0 t₀], []⟩ = pure [some (.int 0 t₀)] from rfl) ?_)
  refine wpAny_bind (W.self 0 _ _ _ hst ?_)
  refine wpAny_bind ?_
  refine wpAny_rule (wpAny_bind (wpAny_mkInt (wpAny_bind (wpAny_pure ?_))))
  simp only [List.forIn_cons, List.forIn_nil]
  refine wpAny_bind (wpAny_bind (wpAny_bind (wpAny_isInstance (T := "int") (b := false) (typeIs_int _ _ _) PySem.sub_int_str ?_)))
  simp only [Bool.false_eq_true, if_false]
  refine wpAny_pure (wpAny_bind (wpAny_bind (wpAny_isInstance (T := "int") (b := false) (typeIs_int _ _ _) PySem.sub_int_bytes ?_)))
  simp only [Bool.false_eq_true, if_false]
  refine wpAny_pure (wpAny_bind (wpAny_bind (wpAny_isInstance (T := "int") (b := false) (typeIs_int _ _ _) PySem.sub_int_bytearray ?_)))
  simp only [Bool.false_eq_true, if_false]
  refine wpAny_pure (wpAny_pure ?_)
  refine wpAny_bind (wpAny_newObj_type ?_)
  have hSf : s.heap.objs.size ∉ fp := fun hm => Nat.lt_irrefl _ (hfp _ hm)
  refine wpAny_pure ⟨plainId_quiet PySem.F.plain_sum_loop _, codeAny_sum_loopS W val hval hfit s.heap.objs.size hSf n 0 _ s.toks 0 rfl (Nat.zero_le _)
    (W.frame 0 s _ _ hst (by first | exact Nat.le_refl _ | exact Nat.le_succ _ | omega) fun b _ o e => Heap.get?_push_of_some _ e) (Heap.get?_push_size _ rfl) fun s' t' hm => ?_⟩
  exact key s' t' (hm.drop_new (by first | exact Nat.le_refl _ | exact Nat.le_succ _ | omega))
end

/-- a code table, not of the ground's -/
noncomputable def TB (g₀ h : Heap) (P : Addr) : Prop := ∃ ps, h.get? P = some (tabObj ps) ∧ TriplesOk ps.toList ∧ g₀.get? P = none

theorem codeHd_of {K : Frag} {h : Heap} {c P : Addr} {dd : Option Addr} {vs : Array Value} {sl : Array (Option Value)} {file : Str} {tf : Tok} {flags : Int} {tg : Tok} {inF : Bool} {text : Int} {tt : Tok} (X : K.In h) (hl : K.lookup c = some ⟨.type "code", dd, .fields vs, sl⟩)
    (h1 : vs[11]? = some (.ref P)) (h2 : vs.getD 11 .none = .ref P) (h3 : vs.getD 18 .none = .str file tf) (h4 : vs.getD 7 .none = .int flags tg) (h5 : vs.getD 9 .none = .bool inF) (h6 : vs.getD 10 .none = .int text tt) (hne : c ≠ P) : CodeHd h c P :=
  ⟨_, vs, file, tf, flags, tg, inF, text, tt, X _ _ hl, rfl, rfl, h1, h2, h3, h4, h5, h6, hne⟩

theorem codeHd_str {w : World} {h : Heap} (X : (hd.heap_39 w.params).In h) : CodeHd h 151 147 := by
  refine' codeHd_of X ?l ?a ?b ?c ?d ?e ?f ?g
  case l => k_is
  case a => exact rfl
  case b => exact rfl
  case c => exact rfl
  case d => exact rfl
  case e => exact rfl
  case f => exact rfl
  case g => decide
theorem codeHd_len {w : World} {h : Heap} (X : (hd.heap_39 w.params).In h) : CodeHd h 144 140 := by
  refine' codeHd_of X ?l ?a ?b ?c ?d ?e ?f ?g
  case l => k_is
  case a => exact rfl
  case b => exact rfl
  case c => exact rfl
  case d => exact rfl
  case e => exact rfl
  case f => exact rfl
  case g => decide
theorem cls_at {h : Heap} {a : Addr} {o o' : Obj} (e : h.get? a = some o) (e' : h.get? a = some o') : o.cls = o'.cls := by rw [e] at e'; rw [Option.some.inj e']
theorem sum_mem {α : Type} (f : α → Nat) {c : α} {l : List α} (h : c ∈ l) : f c ≤ (l.map f).sum := by
  induction h with
  | head _ => exact Nat.le_add_right _ _
  | tail _ _ ih => exact Nat.le_trans ih (Nat.le_add_left _ _)
section
variable {M : Model} {A : Around} {E : Value → Shared → Prop} {s : Shared} {K : Frag} {scope : Scope} {C : Addr} {code : Value} {env : Env} {x : Str} {pos : Pos} {v : Value} {m mg mb : Str → Option Value} {Q : Value → Shared → Prop} {p : Program} {loose : List Str}
theorem nameG_L (hn : s.heap.Ns C m) (hv : m x = some v) (hk : scope.kind = .function) (hx : scope.names.lookup x = some .local) (hd : (x == ("__debug__" : Str)) = false) (h : Q v s) : wpAny M A (eval (.Name x pos) (genEnv scope [] C code builtinsNs env)) Q E s :=
  wpAny_Name (wpAny_loadName_local (env := genEnv scope [] C code builtinsNs env) hk hx hn hv h) hd
theorem nameG_G (X : K.In s.heap) (T : TopRead p loose mg mb s.heap) (e : nsIn K mainGlobals x = some (some v)) (hg : env.globals = mainGlobals) (hk : scope.kind = .function) (hx : scope.names.lookup x = some .globalImplicit) (hd : (x == ("__debug__" : Str)) = false) (h : Q v s) : wpAny M A (eval (.Name x pos) (genEnv scope [] C code builtinsNs env)) Q E s :=
  Name_function_global (env := genEnv scope [] C code builtinsNs env) hk hx (loadGlobal_global (env := genEnv scope [] C code builtinsNs env) (by show s.heap.Ns env.globals mg; rw [hg]; exact T.g) (mg_of X T.g e) h) hd
theorem nameG_B (X : K.In s.heap) (T : TopRead p loose mg mb s.heap) (e : nsIn K mainGlobals x = some none) (hv : bootBuiltins x = some v) (hnm : x ≠ "__name__") (hg : env.globals = mainGlobals) (hk : scope.kind = .function) (hx : scope.names.lookup x = some .globalImplicit) (hd : (x == ("__debug__" : Str)) = false) (h : Q v s) : wpAny M A (eval (.Name x pos) (genEnv scope [] C code builtinsNs env)) Q E s :=
  Name_function_global (env := genEnv scope [] C code builtinsNs env) hk hx (loadGlobal_builtin (env := genEnv scope [] C code builtinsNs env) (by show s.heap.Ns env.globals mg; rw [hg]; exact T.g) (mg_none_of X T.g e) T.b ((T.builtins x hnm).trans hv) h) hd
end
example : True := by
  (k_with "my nameG_L" => (k_here; (with_reducible show wpAny _ _ (eval (Expr.Name _ _) _) _ _ _); refine nameG_L ‹Heap.Ns _ _ _› (by assumption) (by rfl) (by rfl) (by decide) ?_))
  (k_with "my nameG_G" => (k_here; (with_reducible show wpAny _ _ (eval (Expr.Name _ _) _) _ _ _); refine nameG_G (by assumption) (by assumption) (by k_is) (by rfl) (by rfl) (by rfl) (by decide) ?_))
  (k_with "my nameG_B" => (k_here; (with_reducible show wpAny _ _ (eval (Expr.Name _ _) _) _ _ _); refine nameG_B (by assumption) (by assumption) (by k_is) (by boot_fast) (by decide) (by rfl) (by rfl) (by rfl) (by decide) ?_))
  trivial

section
variable {w : World} {A : Around} {s : Shared} {p : Program} {loose : List Str} {mg mb : Str → Option Value} {g₀ : Heap}
    {Q : Value → Shared → Prop} {E : Value → Shared → Prop} {x d : Addr} {its : List Value} {cs : List (Str × Str)}

theorem str_c (hh : A.handled = none) (G : Gd (hd.heap_39 w.params) p loose mg mb g₀) (H : g₀.StaysIn s.heap) (hA : AccAt g₀ s.heap x d its) (hC : Chs s.heap its cs) (hT : TB g₀ s.heap 147)
    (hroom : A.depth + 15 < recursionLimit) (hu : A.units + 200 < cLine) (hlen : its.length < 1000) (hsz : (cs.map fun c => c.1.length + c.2.length).sum < 1000)
    (hQ : ∀ t s', Go [147] s s' → AccAt g₀ s'.heap x d its → TB g₀ s'.heap 147 → Q (.str (Txt.join "" (cs.map fun c => c.1 ++ c.2)) t) s') :
    wpAny (model PySem.Challenge.rw_wr0037_01.prog w) A (call (.ref 152) [.ref x]) Q E s := by
  k_extra "my hide"
  obtain ⟨ep, hs, t₁, t₂, hx, hdd, hx0, hd0, hxd⟩ := hA
  obtain ⟨ps, hps, tr, hps0⟩ := hT
  k_extra "my back"
  have hPx : @Ne Nat 147 x := fun e => by rw [e, hx] at hps; cases hps
  have hPd : @Ne Nat 147 d := fun e => by rw [e, hdd] at hps; cases hps
  refine' enter (binds := [(Str.ofString "self", .ref x)]) [(x, accObj d its ep), (d, accDict hs t₁ t₂), (147, tabObj ps)] G H ?hn ?ho ?hcd ?hr ?hb ?hl ?hbody ?c2 ?c3 ?c4 ?c5
  k_extra "my enter"
  case hn => exact all_cons ⟨hx, hx0⟩ (all_cons ⟨hdd, hd0⟩ (all_cons ⟨hps, hps0⟩ all_nil))
  case hr => omega
  case hbody =>
    intro g' L' h' G' st' kp' F' N' l1
    have X' := G'.X
    have T' := G'.T
    k_lt l1
    (show wpAny _ _ _ _ _ _); k_fold
    k_steps
    obtain ⟨bm, ob, M⟩ := G'.M
    refine' gen_acc (K := hd.heap_39 w.params) (C := 178) (P := 147) (c := 151) (ps := ps) (ox := accObj d its ep) (n := ep) (x := x) (its := its) (cs := cs) (od := some (accDict hs t₁ t₂)) (Fv := fun i v => ∃ t, v = .str ((cs.getD i ("", "")).1 ++ (cs.getD i ("", "")).2) t) hh F' N' X' M T'.nolimit ?CH (by k_extra "my mem") rfl ?I ?hC ?U tr ?f1 ?f2 ?f3 ?f4 ?e1 ?e2 ?e3 ?e4 ?e5 ?e6 ?e7 ?e8 ?e9 ?e10 ?e11 ?hiter ?hel ?hh
    case I => k_inst
    case U => k_updF
    case f1 => k_is
    case f2 => k_is
    case f3 => decide
    case f4 => k_is
    case e1 => rfl
    case e2 => rfl
    case e3 => rfl
    case e4 => with_unfolding_all rfl
    case e5 => decide
    case e6 => rfl
    case e7 => rfl
    case e8 => rfl
    case e9 => decide
    case e10 => rfl
    case e11 => k_extra "my room"
    case CH => exact codeHd_str X'
    case hC => exact (hC.at fun r hr o e => F'.keep _ _ (kp' r o e (by
      obtain ⟨o', ho', hc'⟩ := hC.tup hr
      intro hm
      simp only [List.map, List.mem_cons, List.not_mem_nil, or_false] at hm
      rcases hm with e | e | e
      · rw [e] at ho'; exact absurd ((cls_at hx ho').trans hc') (fun q => by cases q)
      · rw [e] at ho'; exact absurd (show Value.type "dict" = Value.type "tuple" from (cls_at hdd ho').trans hc') (by decide)
      · rw [e] at ho'; exact absurd ((cls_at hps ho').trans hc') (fun q => by cases q))))
    case hiter =>
      intro Q' hq
      exact nameX_L F' rfl hq
    case hel =>
      intro Ca code i ga gb ta tb u m₂ A' E' ha hb hc hi Fu h1 h2
      have Xu : (hd.heap_39 w.params).In u.heap := X'.keeps Fu.keep
      have Tu := T'.keeps Fu.keep
      have hnu := Fu.ns
      clear Fu X' T' F' N'
      walk1
      k_extra "my nameG_G"
      repeat (first | k_extra "my nameG_L" | walk1)
      unfold newTuple
      refine wpAny_newObj_type ?_ (by size_fits)
      repeat (first | k_extra "my nameG_L" | walk1)
      have hgd : cs.getD i ("", "") = (ga, gb) := by simp [List.getD_eq_getElem?_getD, hi]
      have hle : ga.length + gb.length ≤ 1000 := Nat.le_of_lt (Nat.lt_of_le_of_lt (sum_mem (fun c => c.1.length + c.2.length) (List.mem_of_getElem? hi)) hsz)
      refine join_tuple (ys := [ga, gb]) ⟨_, Heap.get?_push_size _ rfl, rfl, 0, rfl⟩ (.cons _ _ (.cons _ _ .nil)) (by simp; show _ + _ * 0 ≤ _; omega) fun t' k => ⟨⟨t', by rw [hgd]; rfl⟩, _, _, rfl, fun b o e => Heap.get?_push_of_some _ e⟩
    case hh =>
      intro a s₅ ps' tr' F5 N5 o5 g5 l5 k5 X5
      walk1
      have hl : its.length = cs.length := hC.length
      have hmap : (List.range cs.length).map (fun i => (cs.getD i ("", "")).1 ++ (cs.getD i ("", "")).2) = cs.map fun c => c.1 ++ c.2 := by
        apply List.ext_getElem
        · simp
        · intro j h1 h2
          have : j < cs.length := by simpa using h1
          simp [List.getD_eq_getElem?_getD, this]
      refine join_L F5 N5 X5 (fun i => (cs.getD i ("", "")).1 ++ (cs.getD i ("", "")).2) (fun j v hv => hv) ?_ (by rw [sizeLine_eq]; omega) fun s' t' F6 N6 o6 g6 => ?_
      · rw [hmap]
        exact joinOk_of_weight (by
          rw [List.map_map]
          have : ((fun x : Str => x.length) ∘ fun c : Str × Str => c.1 ++ c.2) = fun c => c.1.length + c.2.length := by funext c; exact Str.length_append _ _
          rw [this, List.length_map]
          omega) (by decide)
      · rw [hmap]
        show Q _ _
        refine hQ _ _ (.fin (kp_out kp' F6 N6 (all_cons hx (all_cons hdd (all_cons hps all_nil))) (all_cons (.inr (by k_extra "my mem")) (all_cons (.inr (by k_extra "my mem")) (all_cons (.inl (.head _)) all_nil)))) (o6.trans o5) fun b => g6 (g5 b)) ⟨ep, hs, t₁, t₂, N6.get (by k_extra "my mem"), N6.get (by k_extra "my mem"), hx0, hd0, hxd⟩ ⟨ps', N6.get (by k_extra "my mem"), tr', hps0⟩
end

theorem entry_lga : entryFor table "list.__getattribute__" = some Builtin.«object.__getattribute__» := by first | exact PySem.F.entry_list_ga | exact PySem.am_entry_list_getattribute | exact PySem.F.am_entry_list_getattribute
theorem args_lga (a b : Value) : argsOk "list.__getattribute__" ⟨[a, b], []⟩ := by unfold argsOk; rw [PySem.W.Fast.signatureQ_eq]; kernel_rfl
theorem tf_lga {K : Frag} : typeIn K (.builtin "list.__getattribute__") = some (.type "wrapper_descriptor") := by
  show pureOf (fastBuiltinType "list.__getattribute__") = _; decide +kernel
theorem ne_lga : (Value.builtin "list.__getattribute__" == Value.builtin "object.__getattribute__") = false := by decide +kernel

section
variable {prog : Program} {w : World} {A : Around} {E : Value → Shared → Prop} {s : Shared} {K : Frag} {x C : Addr} {ox : Obj} {od : Option Obj} {name : Str}
/-- an attribute out of the own dict of an object of a class under list -/
theorem get_own {expr : Bool} {v : Value} {Q : Value → Shared → Prop} (X : K.In s.heap) (I : InstAt s.heap x ox C od) (hga : findIn K (.ref C) "__getattribute__" = some (some (.builtin "list.__getattribute__"))) (hk : findIn K (.ref C) "__getattr__" = some none)
    (hf : findObj K C od name = some (.value v)) (hm : mroIn K C (.type "list") = some true) (hh : handedIn v = true) (h : Q v { s with toks := s.toks + 1 }) : wpAny (model prog w) A (getAttr (.ref x) name expr) Q E s := by
  obtain ⟨hp, g, d, t, os⟩ := s
  have L0 := I.type (M := model prog w)
  have L1 := looks_findIn (M := model prog w) X hga
  have L2 := looks_findIn (M := model prog w) X hk
  have L3 := looks_find (M := model prog w) X I hf
  unfold getAttr getAttrBy
  refine wpAny_bind (wpAny_mkText (wpAny_holding (wpAny_bind (L0.at (wpAny_bind (L1.at ?_))))))
  show wpAny _ _ (if (onTheHeap (.ref C) && (Value.builtin "list.__getattribute__" == Value.builtin "object.__getattribute__")) = true then _ else _) _ _ _
  refine KFB.if_not (by rw [ne_lga, Bool.and_false]) ?_
  unfold getAttrByItsOwn hookBefore
  refine wpAny_bind ?_
  show wpAny _ _ (typeLookup (.ref C) "__getattr__") _ _ _
  refine L2.at ?_
  refine wpAny_bind (wpAny_attempt (wpAny_holding ?_))
  unfold callGetattribute
  refine KFB.if_not (by cases expr <;> rfl) ?_
  unfold boundAndCalled
  refine wpAny_bind ((bind_any X (.ref x) tf_lga (by decide)).at ?_)
  refine call_bi (n := "__getattribute__") (by decide +kernel) entry_lga (by first | exact .inl (by decide +kernel) | exact .inr (by decide +kernel)) (by decide +kernel) (isinst_of X I hm) (args_lga _ _) ?_
  unfold Builtin.«object.__getattribute__»
  refine wpAny_bind (wpAny_of_eq (a := (Value.ref x, [Value.str name t])) (by kernel_rfl) ?_)
  dsimp only
  refine wpAny_bind (wpAny_pure ?_)
  refine wpAny_bind (L0.at (wpAny_bind (L3.at ?_)))
  refine wpAny_pure ?_
  dsimp only
  rw [handedOut_of hh]; exact wpAny_pure h
/-- the same, seen from the ledger -/
theorem get_own_L {g : Heap} {L : Addr} {m : Str → Option Value} {es : List DictEntry} {n : Nat} {attr : Option Value} {expr : Bool} {v : Value} {Q : Value → Shared → Prop} (F : Fr g L s.heap m) (X₀ : K.In g) (I : InstAt s.heap x ox C (some (dictOf es n))) (hga : findIn K (.ref C) "__getattribute__" = some (some (.builtin "list.__getattribute__"))) (hk : findIn K (.ref C) "__getattr__" = some none)
    (hd : hasDictIn K C = true) (ha : findIn K (.ref C) name = some attr) (hn : noGet K attr = true) (hl : getL name es = some (some v)) (hm : mroIn K C (.type "list") = some true) (hh : handedIn v = true) (h : Q v { s with toks := s.toks + 1 }) : wpAny (model prog w) A (getAttr (.ref x) name expr) Q E s :=
  get_own (X₀.keeps F.keep) I hga hk (findObj_own hd ha hn (by show (lookIn name (dictOf es n)) = _; rw [lookIn_dict, hl])) hm hh h
end

example : True := by
  (k_with "getAttr ref" => (k_here; k_dflt (refine' get_own_L (by k_asm) (by k_asm) (by k_inst) (by k_is) (by k_is) (by k_is) (by k_is) (by k_is) (by k_get) (by k_is) (by rfl) ?_; k_whole)))
  trivial
section
variable {w : World} {A : Around} {s : Shared} {p : Program} {loose : List Str} {mg mb : Str → Option Value} {g₀ : Heap}
    {Q : Value → Shared → Prop} {E : Value → Shared → Prop} {x d : Addr} {its : List Value} {cs : List (Str × Str)}

theorem GenX.toks {prog : Program} {g : Heap} {L : Addr} {news : List (Addr × Obj)} {a : Addr} {n : Nat} {F : Nat → Value → Prop} {s : Shared} {tk : Tok} (X : GenX prog w A g L news a n F s) (h : s.toks ≤ tk) : GenX prog w A g L news a n F { s with toks := tk } := by
  k_extra "my hide"
  obtain ⟨fp, wr, gi, St, W, st, T, ha, hf, hw⟩ := X
  k_extra "my back"
  exact ⟨fp, wr, gi, St, W, W.frame 0 s s.heap tk st h (fun _ _ _ e => e), T, ha, hf, hw⟩
theorem preSum_eq (f : Nat → Int) : ∀ n, preSum f n = ((List.range n).map f).sum
  | 0 => rfl
  | n + 1 => by
    show preSum f n + f n = _
    rw [preSum_eq f n, List.range_succ, List.map_append, List.sum_append]
    simp

theorem len_c (hh : A.handled = none) (G : Gd (hd.heap_39 w.params) p loose mg mb g₀) (H : g₀.StaysIn s.heap) (hA : AccAt g₀ s.heap x d its) (hC : Chs s.heap its cs) (hT : TB g₀ s.heap 140)
    (hroom : A.depth + 15 < recursionLimit) (hu : A.units + 200 < cLine) (hlen : its.length < 1000) (hsz : (cs.map fun c => c.1.length + c.2.length).sum < 1000)
    (hQ : ∀ t s', Go [140] s s' → AccAt g₀ s'.heap x d its → TB g₀ s'.heap 140 → Q (.int ((cs.map fun c => c.1.length + c.2.length).sum : Nat) t) s') :
    wpAny (model PySem.Challenge.rw_wr0037_01.prog w) A (call (.ref 145) [.ref x]) Q E s := by
  k_extra "my hide"
  obtain ⟨ep, hs, t₁, t₂, hx, hdd, hx0, hd0, hxd⟩ := hA
  obtain ⟨ps, hps, tr, hps0⟩ := hT
  k_extra "my back"
  have hPx : @Ne Nat 140 x := fun e => by rw [e, hx] at hps; cases hps
  have hPd : @Ne Nat 140 d := fun e => by rw [e, hdd] at hps; cases hps
  refine' enter (binds := [(Str.ofString "self", .ref x)]) [(x, accObj d its ep), (d, accDict hs t₁ t₂), (140, tabObj ps)] G H ?hn ?ho ?hcd ?hr ?hb ?hl ?hbody ?c2 ?c3 ?c4 ?c5
  k_extra "my enter"
  case hn => exact all_cons ⟨hx, hx0⟩ (all_cons ⟨hdd, hd0⟩ (all_cons ⟨hps, hps0⟩ all_nil))
  case hr => omega
  case hbody =>
    intro g' L' h' G' st' kp' F' N' l1
    have X' := G'.X
    have T' := G'.T
    k_lt l1
    (show wpAny _ _ _ _ _ _); k_fold
    k_steps
    obtain ⟨bm, ob, M⟩ := G'.M
    refine' gen_acc (K := hd.heap_39 w.params) (C := 178) (P := 140) (c := 144) (ps := ps) (ox := accObj d its ep) (n := ep) (x := x) (its := its) (cs := cs) (od := some (accDict hs t₁ t₂)) (Fv := fun i v => ∃ t, v = .int (((cs.getD i ("", "")).1.length + (cs.getD i ("", "")).2.length : Nat) : Int) t) hh F' N' X' M T'.nolimit ?CH (by k_extra "my mem") rfl ?I ?hC ?U tr ?f1 ?f2 ?f3 ?f4 ?e1 ?e2 ?e3 ?e4 ?e5 ?e6 ?e7 ?e8 ?e9 ?e10 ?e11 ?hiter ?hel ?hh
    case I => k_inst
    case U => k_updF
    case f1 => k_is
    case f2 => k_is
    case f3 => decide
    case f4 => k_is
    case e1 => rfl
    case e2 => rfl
    case e3 => rfl
    case e4 => with_unfolding_all rfl
    case e5 => decide
    case e6 => rfl
    case e7 => rfl
    case e8 => rfl
    case e9 => decide
    case e10 => rfl
    case e11 => k_extra "my room"
    case CH => exact codeHd_len X'
    case hC => exact (hC.at fun r hr o e => F'.keep _ _ (kp' r o e (by
      obtain ⟨o', ho', hc'⟩ := hC.tup hr
      intro hm
      simp only [List.map, List.mem_cons, List.not_mem_nil, or_false] at hm
      rcases hm with e | e | e
      · rw [e] at ho'; exact absurd ((cls_at hx ho').trans hc') (fun q => by cases q)
      · rw [e] at ho'; exact absurd (show Value.type "dict" = Value.type "tuple" from (cls_at hdd ho').trans hc') (by decide)
      · rw [e] at ho'; exact absurd ((cls_at hps ho').trans hc') (fun q => by cases q))))
    case hiter =>
      intro Q' hq
      exact nameX_L F' rfl hq
    case hel =>
      intro Ca code i ga gb ta tb u m₂ A' E' ha hb hc hi Fu h1 h2
      have Xu : (hd.heap_39 w.params).In u.heap := X'.keeps Fu.keep
      have Tu := T'.keeps Fu.keep
      have hnu := Fu.ns
      clear Fu X' T' F' N'
      have hle : ga.length + gb.length ≤ 1000 := Nat.le_of_lt (Nat.lt_of_le_of_lt (sum_mem (fun c => c.1.length + c.2.length) (List.mem_of_getElem? hi)) hsz)
      have hgd : cs.getD i ("", "") = (ga, gb) := by simp [List.getD_eq_getElem?_getD, hi]
      repeat (first | k_extra "my nameG_L" | k_extra "my nameG_B" | walk1)
      all_goals first | exact ⟨_, _, rfl, fun _ _ e => e⟩ | (rw [hgd]; exact rfl) | skip
    case hh =>
      intro a s₅ ps' tr' F5 N5 o5 g5 l5 k5 X5
      have l7 := l5
      k_lt l7
      iterate 5 walk1
      have hmap : (List.range cs.length).map (fun i => (cs.getD i ("", "")).1.length + (cs.getD i ("", "")).2.length) = cs.map fun c => c.1.length + c.2.length := by
        apply List.ext_getElem
        · simp
        · intro j h1 h2
          have : j < cs.length := by simpa using h1
          simp [List.getD_eq_getElem?_getD, this]
      have hsum : ∀ n, n ≤ cs.length → preSum (fun i => (((cs.getD i ("", "")).1.length + (cs.getD i ("", "")).2.length : Nat) : Int)) n = ((((cs.map fun c => c.1.length + c.2.length).take n).sum : Nat) : Int) := by
        intro n
        induction n with
        | zero => intro _; rfl
        | succ n ih =>
          intro hn
          show preSum _ n + _ = _
          rw [ih (by omega)]
          have hlt : n < cs.length := by omega
          rw [List.take_add_one, List.sum_append]
          simp [List.getD_eq_getElem?_getD, hlt]
      have htake : ∀ n, ((cs.map fun c => c.1.length + c.2.length).take n).sum ≤ (cs.map fun c => c.1.length + c.2.length).sum := fun n => by
        conv => rhs; rw [← List.take_append_drop n (cs.map fun c => c.1.length + c.2.length), List.sum_append]
        omega
      refine sum_L F5 N5 (X5.toks ?tkle) (fun i => (((cs.getD i ("", "")).1.length + (cs.getD i ("", "")).2.length : Nat) : Int)) (fun j v hv => hv) (fun j hj => ?fit) fun s' t' F6 N6 o6 g6 => ?_
      case tkle => first | exact Nat.le_refl _ | exact Nat.le_succ _ | (dsimp only; omega)
      case fit =>
        rw [hsum (j + 1) hj]
        have h1 := htake (j + 1)
        have h2 : (cs.getD j ("", "")).1.length + (cs.getD j ("", "")).2.length ≤ (cs.map fun c => c.1.length + c.2.length).sum := by
          have : cs.getD j ("", "") ∈ cs := by simp [List.getD_eq_getElem?_getD, hj]
          exact sum_mem (fun c : Str × Str => c.1.length + c.2.length) this
        unfold InLong
        refine ⟨⟨?_, ?_⟩, ?_, ?_⟩ <;> omega
      rw [hsum _ (Nat.le_refl _)]
      have hfull : (cs.map fun c => c.1.length + c.2.length).take cs.length = cs.map fun c => c.1.length + c.2.length := List.take_of_length_le (by simp)
      rw [hfull]
      show Q _ _
      exact hQ _ _ (.fin (kp_out kp' F6 N6 (all_cons hx (all_cons hdd (all_cons hps all_nil))) (all_cons (.inr (by k_extra "my mem")) (all_cons (.inr (by k_extra "my mem")) (all_cons (.inl (.head _)) all_nil)))) (o6.trans o5) fun b => g6 (g5 b)) ⟨ep, hs, t₁, t₂, N6.get (by k_extra "my mem"), N6.get (by k_extra "my mem"), hx0, hd0, hxd⟩ ⟨ps', N6.get (by k_extra "my mem"), tr', hps0⟩
end

/-- the objects at these addresses become what h' holds -/
inductive Cgs (h' : Heap) : List Addr → List (Addr × Obj) → List (Addr × Obj) → Prop
  | nil {n} : Cgs h' [] n n
  | cons {a o o' n n1 n2 X} : Upd a o o' n n1 → h'.get? a = some o' → Cgs h' X n1 n2 → Cgs h' (a :: X) n n2
theorem Upd.mem_cases {a : Addr} {o o' : Obj} {n n1 : List (Addr × Obj)} (U : Upd a o o' n n1) : ∀ p ∈ n1, (p ∈ n ∧ p.1 ≠ a) ∨ p = (a, o') := by
  obtain ⟨pre, post, rfl, rfl, ha, hb⟩ := U.split
  intro p hp
  rcases List.mem_append.mp hp with h1 | h1
  · exact .inl ⟨List.mem_append.mpr (.inl h1), ha _ h1⟩
  · rcases List.mem_cons.mp h1 with h2 | h2
    · exact .inr h2
    · exact .inl ⟨List.mem_append.mpr (.inr (.tail _ h2)), hb _ h2⟩
theorem Upd.mem {a : Addr} {o o' : Obj} {n n1 : List (Addr × Obj)} (U : Upd a o o' n n1) : (a, o) ∈ n := by
  obtain ⟨pre, post, rfl, rfl, ha, hb⟩ := U.split
  simp
theorem Cgs.cases {h' : Heap} {X : List Addr} {n n2 : List (Addr × Obj)} (C : Cgs h' X n n2) : (∀ p ∈ n2, (p ∈ n ∧ p.1 ∉ X) ∨ (h'.get? p.1 = some p.2 ∧ ∃ o, (p.1, o) ∈ n)) ∧ ∀ a ∈ X, ∃ o, (a, o) ∈ n := by
  induction C with
  | nil => exact ⟨fun p hp => .inl ⟨hp, fun q => nomatch q⟩, fun _ q => nomatch q⟩
  | @cons a o o' n n1 n2 X U hg C ih =>
    have back : ∀ b o'', (b, o'') ∈ n1 → ∃ o3, (b, o3) ∈ n := fun b o'' hb => by
      rcases Upd.mem_cases U _ hb with ⟨h1, _⟩ | h1
      · exact ⟨_, h1⟩
      · cases h1; exact ⟨_, Upd.mem U⟩
    refine ⟨fun p hp => ?_, fun b hb => ?_⟩
    · rcases ih.1 p hp with ⟨h1, h2⟩ | ⟨h1, o'', h2⟩
      · rcases Upd.mem_cases U _ h1 with ⟨h3, h4⟩ | h3
        · exact .inl ⟨h3, fun q => by rcases List.mem_cons.mp q with q | q; exact h4 q; exact h2 q⟩
        · subst h3; exact .inr ⟨hg, _, Upd.mem U⟩
      · exact .inr ⟨h1, back _ _ h2⟩
    · rcases List.mem_cons.mp hb with rfl | hb
      · exact ⟨_, Upd.mem U⟩
      · obtain ⟨o'', h2⟩ := ih.2 b hb
        exact back _ _ h2
theorem then_cgs {X : List Addr} {g h h' : Heap} {L : Addr} {m : Str → Option Value} {news n2 : List (Addr × Obj)} {P : Prop} (k : Kp X h h') (F : Fr g L h m) (N : News g L h news) (C : Cgs h' X news n2) (q : Fr g L h' m → News g L h' n2 → P) : P := by
  obtain ⟨c1, c2⟩ := C.cases
  have hX : ∀ a ∈ X, a ≠ L ∧ g.get? a = none := fun a ha => by
    obtain ⟨o, ho⟩ := c2 a ha
    exact (N _ ho).2
  refine q (fr_after k F hX) fun p hp => ?_
  rcases c1 p hp with ⟨h1, h2⟩ | ⟨h1, o, h2⟩
  · exact ⟨k _ _ (N p h1).1 h2, (N p h1).2⟩
  · exact ⟨h1, (N _ h2).2⟩

section
variable {w : World} {A : Around} {s : Shared} {p : Program} {loose : List Str} {mg mb : Str → Option Value} {g : Heap} {L : Addr} {m : Str → Option Value} {news : List (Addr × Obj)}
    {Q : Value → Shared → Prop} {E : Value → Shared → Prop} {x d : Addr} {its : List Value} {cs : List (Str × Str)} {ep : Nat} {hs : Int} {t t' : Tok} {ps : Array Value} {gf : Obj → List (Addr × Obj)}
noncomputable abbrev sizeOf' (cs : List (Str × Str)) : Nat := (cs.map fun c => c.1.length + c.2.length).sum
noncomputable abbrev textOf (cs : List (Str × Str)) : Str := Txt.join "" (cs.map fun c => c.1 ++ c.2)
theorem upd_of {P : Addr} {o : Obj} (U : UpdF P o news gf) (o' : Obj) : Upd P o o' news (gf o') := by
  induction U with
  | head h => exact .head h
  | tail a b ih => exact .tail a ih
theorem len_L (hh : A.handled = none) (F : Fr g L s.heap m) (N : News g L s.heap news) (G : Gd (hd.heap_39 w.params) p loose mg mb g) (hx : (x, accObj d its ep) ∈ news) (hd : (d, accDict hs t t') ∈ news) (ne : @Ne Nat x d) (U : UpdF 140 (tabObj ps) news gf) (tr : TriplesOk ps.toList)
    (hC : Chs s.heap its cs) (hroom : A.depth + 15 < recursionLimit) (hu : A.units + 200 < cLine) (hlen : its.length < 1000) (hsz : sizeOf' cs < 1000)
    (h : ∀ t s' ps', TriplesOk ps'.toList → Go [140] s s' → Fr g L s'.heap m → News g L s'.heap (gf (tabObj ps')) → Q (.int (sizeOf' cs : Nat) t) s') :
    wpAny (model PySem.Challenge.rw_wr0037_01.prog w) A (call (.ref 145) [.ref x]) Q E s := by
  have hP := N _ (Upd.mem (upd_of U (tabObj ps)))
  refine len_c hh G F.keep (acc_of N hx hd ne) hC ⟨ps, hP.1, tr, hP.2.2⟩ hroom hu hlen hsz fun t s' k _ hT => ?_
  obtain ⟨ps', h1, h2, _⟩ := hT
  exact then_cgs k.kp F N (.cons (upd_of U (tabObj ps')) h1 .nil) fun F' N' => h t s' ps' h2 k F' N'
theorem str_L (hh : A.handled = none) (F : Fr g L s.heap m) (N : News g L s.heap news) (G : Gd (hd.heap_39 w.params) p loose mg mb g) (hx : (x, accObj d its ep) ∈ news) (hd : (d, accDict hs t t') ∈ news) (ne : @Ne Nat x d) (U : UpdF 147 (tabObj ps) news gf) (tr : TriplesOk ps.toList)
    (hC : Chs s.heap its cs) (hroom : A.depth + 15 < recursionLimit) (hu : A.units + 200 < cLine) (hlen : its.length < 1000) (hsz : sizeOf' cs < 1000)
    (h : ∀ t s' ps', TriplesOk ps'.toList → Go [147] s s' → Fr g L s'.heap m → News g L s'.heap (gf (tabObj ps')) → Q (.str (textOf cs) t) s') :
    wpAny (model PySem.Challenge.rw_wr0037_01.prog w) A (call (.ref 152) [.ref x]) Q E s := by
  have hP := N _ (Upd.mem (upd_of U (tabObj ps)))
  refine str_c hh G F.keep (acc_of N hx hd ne) hC ⟨ps, hP.1, tr, hP.2.2⟩ hroom hu hlen hsz fun t s' k _ hT => ?_
  obtain ⟨ps', h1, h2, _⟩ := hT
  exact then_cgs k.kp F N (.cons (upd_of U (tabObj ps')) h1 .nil) fun F' N' => h t s' ps' h2 k F' N'
end
section
variable {prog : Program} {w : World} {A : Around} {E : Value → Shared → Prop} {s : Shared} {K : Frag} {x C f : Addr} {ox : Obj} {od : Option Obj} {g : Heap} {L : Addr} {m : Str → Option Value}
noncomputable def TrueBack (Q : Bool → Shared → Prop) (v : Value) (s' : Shared) : Prop := match v with
  | .int n _ => (0 ≤ n ∧ n < 2 ^ 63) ∧ ∀ t, Q (n != 0) { s' with toks := t }
  | _ => False
theorem truthy_len {Q : Bool → Shared → Prop} (F : Fr g L s.heap m) (X₀ : K.In g) (I : InstAt s.heap x ox C od) (hb : findIn K (.ref C) "__bool__" = some none) (hs : findIn K (.ref C) "__len__" = some (some (.ref f))) (hf : isFn K (.ref f) = true)
    (h : wpAny (model prog w) A.in1 (call (.ref f) [.ref x]) (TrueBack Q) E s) : wpAny (model prog w) A (truthy (.ref x)) Q E s := by
  have X := X₀.keeps F.keep
  unfold truthy
  refine wpAny_bind (m := callSpecial? (.ref x) (Str.ofString "__bool__")) (wpAny_bind (wpAny_bind (I.type.here ((looks_findIn X hb).here (wpAny_pure ?_)))))
  refine wpAny_bind (wpAny_bind (I.type.here ((looks_findIn X hs).here ?_)))
  refine wpAny_bind (wpAny_runValue (codeAny_builtin entry_len ?_))
  rw [Around.under_plainId (show plainId "len" = true by decide +kernel) _]
  unfold Builtin.«len»
  refine wpAny_bind (m := oneArg "len" _) (wpAny_pure ?_)
  refine wpAny_bind (m := callSpecial? (.ref x) (Str.ofString "__len__")) (special_fn X I hs (beq_iff_eq.mp hf) (wpAny_mono h (fun r s' hr => ?_) fun _ _ y => y))
  cases r <;> first | exact hr.elim | skip
  rename_i n u
  obtain ⟨⟨h0, h1⟩, hq⟩ := hr
  refine wpAny_bind (wpAny_holding (wpAny_pure ?_))
  refine wpAny_bind (wpAny_letGo ?_)
  show wpAny _ _ (if n < 0 then _ else _) _ _ _
  rw [if_neg (by omega)]
  show wpAny _ _ (if n ≥ 2 ^ 63 then _ else _) _ _ _
  rw [if_neg (by omega)]
  exact wpAny_bind (wpAny_mkInt (wpAny_pure (wpAny_pure (hq _))))
end

theorem ChAt.of {h : Heap} {r : Addr} {ga gb : Str} {t t' : Tok} (e : h.get? r = some (tupObj ga gb t t')) : ChAt h (.ref r) (ga, gb) := ⟨r, t, t', rfl, e⟩
theorem chs_ground {h g : Heap} {news : List (Addr × Obj)} {its : List Value} {cs : List (Str × Str)} (hC : Chs h its cs) (kp : Kp (news.map (·.1)) h g) (hn : ∀ q ∈ news, h.get? q.1 = some q.2) (ht : ∀ q ∈ news, q.2.cls ≠ .type "tuple") : Chs g its cs :=
  hC.at fun r hr o e => kp r o e fun hm => by
    obtain ⟨o', ho', hc'⟩ := hC.tup hr
    obtain ⟨q, hq, rfl⟩ := List.mem_map.mp hm
    exact ht q hq ((cls_at (hn q hq) ho').trans hc')
theorem mcls_acc : (Value.ref 178 : Value) ≠ .type "tuple" := by simp
theorem mcls_dict : (Value.type "dict" : Value) ≠ .type "tuple" := by decide
theorem mcls_tab : (Value.none : Value) ≠ .type "tuple" := by simp
theorem trueBack_pos {Q : Bool → Shared → Prop} {n : Nat} {t0 : Tok} {s' : Shared} (hp : 0 < n) (hn : n < 1000) (h : ∀ t, Q true { s' with toks := t }) : TrueBack Q (.int (n : Int) t0) s' :=
  ⟨⟨by omega, by omega⟩, fun t => by
    have e : (((n : Nat) : Int) != 0) = true := by simp; omega
    rw [e]; exact h t⟩
theorem lenBack_of {Q : Value → Shared → Prop} {n : Nat} {t0 : Tok} {s' : Shared} (hn : n < 1000) (h : Q (.int (n : Int) s'.toks) { s' with toks := s'.toks + 1 }) : PySem.W.LenBack Q (.int (n : Int) t0) s' := ⟨⟨by omega, by omega⟩, h⟩
theorem strBack_of {Q : Value → Shared → Prop} {x : Str} {t0 : Tok} {s' : Shared} (h : Q (.str x t0) s') : PySem.W.StrBack Q (.str x t0) s' := h
example : True := by
  (k_with "my chs" => (first | assumption | exact Chs.keeps (Fr.keep (by assumption)) (by assumption) | (refine' Chs.append (by k_extra "my chs") (Chs.one (ChAt.of (News.get (by k_asm) (by k_extra "my mem"))))) | (refine' Chs.take _ (by k_extra "my chs")) | (refine' Chs.drop _ (by k_extra "my chs"))))
  (k_with "my nat" => (first | assumption | (simp only [List.length_append, List.length_cons, List.length_nil, List.length_take, List.length_drop]; omega) | omega))
  (k_with "my k_units" => ((try simp only [Around.in1_units, Around.deeper_units]); omega))
  (k_with "call ref" => (k_here; (with_reducible show wpAny _ _ (call (Value.ref 145) _) _ _ _); k_dflt (refine' len_L (by assumption) (by k_asm) (by k_asm) (by k_asm) (by k_extra "my mem") (by k_extra "my mem") (by k_ne) (by k_updF) (by assumption) (by k_extra "my chs") (by k_extra "my room") (by k_extra "my room") (by k_extra "my nat") (by k_extra "my nat") ?_); intro _ _ _ _ _ _ N'ₘ; (try dsimp only at N'ₘ); (try (refine trueBack_pos (by k_extra "my nat") (by k_extra "my nat") fun tk' => ?_)); (try (refine lenBack_of (by k_extra "my nat") ?_)); (try k_sweep)))
  (k_with "call ref" => (k_here; (with_reducible show wpAny _ _ (call (Value.ref 152) _) _ _ _); k_dflt (refine' str_L (by assumption) (by k_asm) (by k_asm) (by k_asm) (by k_extra "my mem") (by k_extra "my mem") (by k_ne) (by k_updF) (by assumption) (by k_extra "my chs") (by k_extra "my room") (by k_extra "my room") (by k_extra "my nat") (by k_extra "my nat") ?_); intro _ _ _ _ _ _ N'ₘ; (try dsimp only at N'ₘ); (try (refine strBack_of ?_)); (try k_sweep)))
  (k_with "truthy ref" => (k_here; k_dflt (refine' truthy_len (by k_asm) (by k_asm) (by k_inst) (by k_is) (by k_is) (by k_is) ?_; k_whole)))
  (k_with "call builtin:str.isspace" => (k_here; (with_reducible show wpAny _ _ (call (Value.builtin "str.isspace") [Value.str _ _]) _ _ _); (refine KXw.isspace (by assumption) ?_)))
  trivial

section
variable {w : World} {A : Around} {s : Shared} {p : Program} {loose : List Str} {mg mb : Str → Option Value} {g₀ : Heap}
    {Q : Value → Shared → Prop} {E : Value → Shared → Prop} {x d : Addr} {its : List Value} {cs : List (Str × Str)}

theorem is_onlyws_c (hh : A.handled = none) (G : Gd (hd.heap_39 w.params) p loose mg mb g₀) (H : g₀.StaysIn s.heap) (hA : AccAt g₀ s.heap x d its) (hC : Chs s.heap its cs) (hT : TB g₀ s.heap 140) (hT2 : TB g₀ s.heap 147)
    (hroom : A.depth + 25 < recursionLimit) (hu : A.units + 300 < cLine) (hlen : its.length < 1000) (hsz : sizeOf' cs < 1000) (hpos : 0 < sizeOf' cs) (hns : Txt.isspace (textOf cs) = false)
    (hQ : ∀ s', Go [140, 147] s s' → AccAt g₀ s'.heap x d its → TB g₀ s'.heap 140 → TB g₀ s'.heap 147 → Q (.bool false) s') :
    wpAny (model PySem.Challenge.rw_wr0037_01.prog w) A (call (.ref 167) [.ref x]) Q E s := by
  k_extra "my hide"
  obtain ⟨ep, hs, t₁, t₂, hx, hdd, hx0, hd0, hxd⟩ := hA
  obtain ⟨ps, hps, tr, hps0⟩ := hT
  obtain ⟨ps2, hps2, tr2, hps02⟩ := hT2
  k_extra "my back"
  have hPx : @Ne Nat 140 x := fun e => by rw [e, hx] at hps; cases hps
  have hPd : @Ne Nat 140 d := fun e => by rw [e, hdd] at hps; cases hps
  have hPx2 : @Ne Nat 147 x := fun e => by rw [e, hx] at hps2; cases hps2
  have hPd2 : @Ne Nat 147 d := fun e => by rw [e, hdd] at hps2; cases hps2
  refine' enter (binds := [(Str.ofString "self", .ref x)]) [(x, accObj d its ep), (d, accDict hs t₁ t₂), (140, tabObj ps), (147, tabObj ps2)] G H ?hn ?ho ?hcd ?hr ?hb ?hl ?hbody ?c2 ?c3 ?c4 ?c5
  k_extra "my enter"
  case hn => exact all_cons ⟨hx, hx0⟩ (all_cons ⟨hdd, hd0⟩ (all_cons ⟨hps, hps0⟩ (all_cons ⟨hps2, hps02⟩ all_nil)))
  case hr => omega
  case hbody =>
    intro g' L' h' G' st' kp' F' N' l1
    have X' := G'.X
    have T' := G'.T
    k_lt l1
    have hC' : Chs g' its cs := chs_ground hC kp' (all_cons hx (all_cons hdd (all_cons hps (all_cons hps2 all_nil)))) (all_cons mcls_acc (all_cons mcls_dict (all_cons mcls_tab (all_cons mcls_tab all_nil))))
    (show wpAny _ _ _ _ _ _); k_fold
    k_steps
    (try dsimp only)
    (show Q _ _)
    rename Fr _ _ _ _ => kF
    rename News _ _ _ _ => kN
    refine hQ _ (.fin (kp_out kp' kF kN (all_cons hx (all_cons hdd (all_cons hps (all_cons hps2 all_nil)))) (all_cons (.inr (by k_extra "my mem")) (all_cons (.inr (by k_extra "my mem")) (all_cons (.inl (.head _)) (all_cons (.inl (.tail _ (.head _))) all_nil))))) ?os ?gens) ⟨ep, hs, t₁, t₂, kN.get (by k_extra "my mem"), kN.get (by k_extra "my mem"), hx0, hd0, hxd⟩ ⟨_, kN.get (by k_extra "my mem"), by assumption, hps0⟩ ⟨_, kN.get (by k_extra "my mem"), by assumption, hps02⟩
    case os => k_extra "my os"
    case gens => k_extra "my gens"
end

structure MakesL (M : Model) (h : Heap) (C : Addr) : Prop where
  obj : ∃ oc od cd sl, h.get? C = some ⟨oc, od, .cls cd, sl⟩ ∧ cd.abstract = false ∧ cd.hasDel = false ∧ cd.mro.isEmpty = false
  made : Looks M h (Bind.madeBy (.ref C)) (some "list.__new__")
  base : Looks M h (Bind.staticBase (.ref C)) (.ref C)
  self : Looks M h (isSubtype (.ref C) (.ref C)) true
  lst : Looks M h (isSubtype (.ref C) (.type "list")) true
  call : Looks M h (specialOf (.ref C) "__call__") (some (.builtin "type.__call__"))
  typ : Looks M h (isInstance (.ref C) (.type "type")) true

theorem makesL_of {K : Frag} {M : Model} {h : Heap} (X : K.In h) {C : Addr} {oc : Value} {od : Option Addr} {cd : ClassData} {sl : Array (Option Value)} (ho : K.lookup C = some ⟨oc, od, .cls cd, sl⟩) (e1 : cd.abstract = false) (e2 : cd.hasDel = false) (e3 : (sl.toList[4]?).join = some (.builtin "list.__new__"))
    (e4 : cd.mro = [.ref C, .type "list", .type "object"]) (e7 : specialIn K (.ref C) "__call__" = some (some (.builtin "type.__call__"))) (e8 : instIn K (.ref C) (.type "type") = some true) : MakesL M h C := by
  have hc : clsIn K C = some cd := by unfold clsIn; rw [ho]
  have hm : Looks M h (mroOf (.ref C)) cd.mro := (looks_clsIn X hc).andThen .now
  have made : Looks M h (Bind.madeBy (.ref C)) (some "list.__new__") := by
    intro A Q E s k q
    unfold Bind.madeBy
    refine wpAny_bind (hm A _ E s k ?_)
    rw [e4, List.forIn_cons]
    refine wpAny_bind (wpAny_bind (wpAny_bind (wpAny_bind (wpAny_loadPart (k _ _ (X _ _ ho)) (wpAny_pure ?_)))))
    dsimp only
    rw [← Array.getElem?_toList, e3]
    exact wpAny_pure (wpAny_pure (wpAny_pure q))
  refine ⟨⟨oc, od, cd, sl, X _ _ ho, e1, e2, by rw [e4]; rfl⟩, made, ?_, looks_mroIn X ?_, looks_mroIn X ?_, looks_specialIn X e7, looks_instIn X e8⟩
  · intro A Q E s k q
    unfold Bind.staticBase
    refine wpAny_bind (hm A _ E s k ?_)
    rw [e4, List.forIn_cons]
    exact wpAny_bind (wpAny_bind (wpAny_bind (made A _ E s k (wpAny_pure (wpAny_pure (wpAny_pure q))))))
  · unfold mroIn; rw [hc, Option.bind_some, e4]; simp
  · unfold mroIn; rw [hc, Option.bind_some, e4]; simp

theorem entry_ln : entryFor table "list.__new__" = some Builtin.«list.__new__» := entryFor_of_tree (by kernel_rfl)
theorem kind_ln : builtinKind "list.__new__" = some .builtinFn := by decide +kernel
theorem split_ln : splitId "list.__new__" = some ("list", "__new__") := by decide +kernel
theorem owner_ln : (("list.__new__" : String).splitOn ".__new__").headD "" = "list" := by simp +decide [String.splitOn, String.splitOnAux]
theorem args_ln (C : Addr) (rest : List Value) : ((Manifest.signature? "list.__new__").map fun sig => Bind.checkArgs "list.__new__" sig ⟨.ref C :: rest, []⟩) = some (pure ()) := by rw [PySem.W.Fast.signatureQ_eq]; kernel_rfl

section
variable {prog : Program} {w : World} {A : Around} {K : Frag} {C : Addr} {R : Result → Shared → Prop} {h : Heap} {g : Array GenState} {d : Drawn} {t : Nat} {os : OsState}
theorem newL_K {rest : List Value} (Y : MakesL (model prog w) h C)
    (hq : R (.ok (.ret (.ref (h.objs.size + 1)))) ⟨(h.push emptyDict).push ⟨.ref C, some h.objs.size, .seq #[] 0, #[]⟩, g, d, t, os⟩) :
    codeAny (model prog w) A (.call (.builtin "list.__new__") ⟨.ref C :: rest, []⟩) R ⟨h, g, d, t, os⟩ := by
  obtain ⟨⟨oc, od, cd, sl, hC, e1, e2, e4⟩, made, base, self, lst, call, typ⟩ := Y
  have e1 : ∃ sig, Manifest.signature? "list.__new__" = some sig := Option.isSome_iff_exists.mp (by rw [PySem.W.Fast.signatureQ_eq]; decide +kernel)
  obtain ⟨sig, esig⟩ := e1
  have eargs : Bind.checkArgs "list.__new__" sig ⟨.ref C :: rest, []⟩ = pure () := by
    have z := args_ln C rest
    rw [esig] at z
    exact Option.some.inj z
  refine codeAny_call_builtin_own (Code.quiet_builtin _ (by decide +kernel)) entry_ln ?_
  simp only [checkBuiltinCall, kind_ln, split_ln, esig]
  refine KFB.if_so rfl ?_
  refine wpAny_bind (ks_wpAny_isType_cls hC rfl ?_)
  refine KFB.if_not rfl ?_
  refine wpAny_bind (lst.at ?_)
  refine KFB.if_not rfl ?_
  refine wpAny_bind (base.at ?_)
  refine wpAny_bind (made.at ?_)
  dsimp only
  refine KFB.if_not (bne_self_eq_false _) ?_
  refine wpAny_of_eq eargs ?_
  unfold Builtin.«list.__new__»
  refine wpOwn_bind (wpOwn_stack fun p below _ _ _ => ?_)
  dsimp only
  refine wpOwn_of_wpAny ?_
  rw [owner_ln]
  refine wpAny_bind (ks_wpAny_isType_cls hC rfl ?_)
  refine KFB.if_not rfl ?_
  refine wpAny_bind (lst.at ?_)
  refine KFB.if_not rfl ?_
  refine wpAny_bind (wpAny_pure ?_)
  refine KFB.if_not rfl ?_
  refine wpAny_bind ?_
  unfold newDict
  refine wpAny_newObj_type ?_ (by size_fits)
  dsimp only
  refine wpAny_bind ?_
  show wpAny _ _ (newObjAsIs _ _ _) _ _ _
  unfold newObjAsIs classHasDel
  refine wpAny_bind (wpAny_alloc (wpAny_bind (wpAny_bind (wpAny_load (Heap.get?_push_of_some _ (Heap.get?_push_of_some _ hC)) (wpAny_pure ?_)))))
  rw [e2]
  refine wpAny_pure (wpAny_pure ?_)
  show R _ _
  rw [Heap.size_push]
  exact hq

theorem makeL_core {rest : List Value} {init : Value} (Y : MakesL (model prog w) h C) (hi : Looks (model prog w) h (typeLookup (.ref C) "__init__") (some init))
    (hb : ∀ self, Looks (model prog w) h (bindSpecial init self) (init, [self]))
    (hq : codeAny (model prog w) (A.under (.builtin "type.__call__" ⟨.ref C :: rest, []⟩)) (.call init ⟨.ref (h.objs.size + 1) :: rest, []⟩) (InitBack (h.objs.size + 1) R) ⟨(h.push emptyDict).push ⟨.ref C, some h.objs.size, .seq #[] 0, #[]⟩, g, d, t, os⟩) :
    codeAny (model prog w) A (.call (.ref C) ⟨rest, []⟩) R ⟨h, g, d, t, os⟩ := by
  have Y' := Y
  obtain ⟨⟨oc, od, cd, sl, hC, e1, e2, e4⟩, made, base, self, top, call, typ⟩ := Y
  refine codeAny_of_tree ?_
  show wpAny _ _ (callAny (.ref C) _) _ _ _
  refine nd_load hC ?_
  show wpAny _ _ (callAny.viaDunder (.ref C) _) _ _ _
  unfold callAny.viaDunder
  refine wpAny_bind (call.at ?_)
  dsimp only
  rw [tc_bind]
  refine wpAny_bind (wpAny_pure (wpAny_bind (wpAny_pure ?_)))
  refine wpAny_pure (a := Fin.again (.call (.builtin "type.__call__") ⟨.ref C :: rest, []⟩)) (And.intro rfl ?_)
  refine codeAny_call_builtin_at (Code.quiet_builtin _ (by decide +kernel)) entry_typeCall (check_slot tc_kind tc_split typ (tc_args _ _ _) ?_)
  unfold Builtin.«type.__call__»
  have hm : Looks (model prog w) h (mroOf (.ref C)) cd.mro := ((Looks.ld (part := none) hC).andThen .now).andThen .now
  repeat (first | simp only [e4, Bool.false_eq_true, if_false] | with_reducible refine wpAny_call ?_ | lk)
  refine newL_K Y' ?_
  have k : ∀ b o, h.get? b = some o → ((h.push emptyDict).push ⟨.ref C, some h.objs.size, .seq #[] 0, #[]⟩).get? b = some o := fun b o e => Heap.get?_push_of_some _ (Heap.get?_push_of_some _ e)
  have hx : ((h.push emptyDict).push ⟨.ref C, some h.objs.size, .seq #[] 0, #[]⟩).get? (h.objs.size + 1) = some ⟨.ref C, some h.objs.size, .seq #[] 0, #[]⟩ := by heap_get
  have t1 : Looks (model prog w) ((h.push emptyDict).push ⟨.ref C, some h.objs.size, .seq #[] 0, #[]⟩) (typeOf (.ref (h.objs.size + 1))) (.ref C) := (Looks.ld hx).andThen .now
  have s1 := self.keeps k
  have i1 := hi.keeps k
  have b1 := (hb (.ref (h.objs.size + 1))).keeps k
  unfold isInstance callSpecial? specialOf
  repeat (first | with_reducible refine wpAny_call ?_ | lk)
  refine codeAny_mono hq fun r s' z => ?_
  rcases r with e | (v | _ | _ | _) <;> first | exact z | exact z.elim | skip
  obtain ⟨rfl, z⟩ := z
  exact wpAny_pure (wpAny_pure z)
end

section
variable {prog : Program} {w : World} {M : Model} {A : Around} {E : Value → Shared → Prop} {s : Shared} {h₀ : Heap} {L : Addr} {m mg mb : Str → Option Value} {news news' : List (Addr × Obj)} {x d q : Addr} {c : Value} {ep : Nat} {sl : Array (Option Value)}
theorem body_init {dd : Option Addr} {Q : Value → Shared → Prop} (hx : s.heap.get? x = some ⟨c, dd, .seq #[] ep, sl⟩)
    (h : ∀ h', Heap.SameBut x s.heap h' → h'.get? x = some ⟨c, dd, .seq #[] ep, sl⟩ → Q .none { s with heap := h' }) :
    wpAny (model prog w) A (Builtin.«list.__init__» ⟨[.ref x], []⟩) (fun fin s' => ∃ v, fin = .done (.ret v) ∧ Q v s') E s := by
  unfold Builtin.«list.__init__»
  dsimp only
  refine KFB.if_not rfl ?_
  show wpAny _ _ (if ([] : List Value).length > 1 then _ else _) _ _ _
  rw [if_neg (by decide)]
  refine wpAny_bind ?_
  unfold Builtin.List.listItems
  refine wpAny_bind (wpAny_seqItems hx rfl (wpAny_pure ?_))
  refine wpAny_bind (upd_seq (f := fun _ => #[]) hx (by simp) fun h' hs' ho' => ?_)
  refine wpAny_bind (wpAny_letGo ?_)
  exact wpAny_pure ⟨_, rfl, h h' hs' (by simpa using ho')⟩
theorem bnd_init_L {Q : Value → Shared → Prop} (F : Fr h₀ L s.heap m) (N : News h₀ L s.heap news) (hq : (q, bndObj "method-wrapper" "list.__init__" x) ∈ news) (hx : (x, accObj d [] ep) ∈ news)
    (h : ∀ h', Fr h₀ L h' m → News h₀ L h' news → Q .none { s with heap := h' }) : wpAny (model prog w) A (call (.ref q) []) Q E s := by
  have z := N _ hx
  refine bnd_call plain_init SP.entry_init (.inl rfl) (N _ hq).1 chk_init (body_init z.1 fun h' hs ho' => h h' (F.change hs z.2.1 z.2.2) fun p hp => ?_)
  have y := N p hp
  by_cases e : p.1 = x
  · rw [e] at y ⊢
    have : p.2 = accObj d [] ep := Option.some.inj (y.1.symm.trans z.1)
    rw [this]
    exact ⟨ho', y.2⟩
  · exact ⟨(hs.2 _ e).trans y.1, y.2⟩
end
example : True := by
  (k_with "call ref" => (k_here; k_dflt (refine' bnd_init_L (by k_asm) (by k_asm) (by k_extra "my mem") (by k_extra "my mem") ?_); intro _ _ _; (try k_sweep)))
  trivial

theorem enterC {prog : Program} {w : World} {A : Around} {s : Shared} {K : Frag} {p : Program} {loose : List Str} {mg mb : Str → Option Value} {g₀ : Heap}
    {R : Result → Shared → Prop} {name qual : Str} {params : Arguments} {body : List Stmt} {scope : Scope} {cl : List (Str × Addr)} {dV kV doc pm cdv ct oc : Value} {an od : Option Addr} {osl : Array (Option Value)} {f : Addr} {args : List Value} {binds : List (Str × Value)}
    (news : List (Addr × Obj)) (G : Gd K p loose mg mb g₀) (H : g₀.StaysIn s.heap)
    (hn : ∀ q ∈ news, s.heap.get? q.1 = some q.2 ∧ g₀.get? q.1 = none)
    (ho : K.lookup f = some ⟨oc, od, .func (fnX name qual params body scope cl dV kV doc pm an cdv ct), osl⟩) (hcd : codeIn K cdv qual = true)
    (hroom : A.depth < recursionLimit)
    (hbind : BindsTo s (fnX name qual params body scope cl dV kV doc pm an cdv ct) ⟨args, []⟩ binds) (hloc : ∀ y ∈ binds, scope.names.lookup y.1 = some .local)
    (h : ∀ g L' h₁, Gd K p loose mg mb g → g₀.StaysIn g → Kp (news.map (·.1)) s.heap g → Fr g L' h₁ (fun y => binds.reverse.lookup y) → News g L' h₁ news → (∀ p ∈ news, p.1 < L') →
      wpAny (model prog w) (A.deeper (envX qual scope L' f cdv cl)) (execs body (envX qual scope L' f cdv cl))
        (fun fl s' => R (.ok (.ret (match fl with | .ret v => v | _ => .none))) s') (fun _ _ => False)
        { s with heap := h₁, toks := s.toks + binds.length })
    (hco : scope.isCoroutine = false := by rfl) (hgen : scope.isGenerator = false := by rfl) (hk : scope.kind = .function := by rfl)
    (hcell : ∀ x ∈ scope.names, x.2 ≠ .cell := by decide) : codeAny (model prog w) A (.call (.ref f) ⟨args, []⟩) R s := by
  refine (codeAny_call_def (fd := fnX name qual params body scope cl dV kV doc pm an cdv ct) (body := body) (binds := binds) hroom (H _ _ (G.X _ _ ho)) rfl (G.T.nolimit.keeps H) (codeRec_of (G.X.keeps H) hcd) rfl hbind hcell hloc (fun h₁ hns hk₁ => ?_) hco hgen hk)
  have nm : ∀ b o, g₀.get? b = some o → b ∉ news.map (·.1) := fun b o e q => by
    obtain ⟨p, hp, rfl⟩ := List.mem_map.mp q
    rw [(hn p hp).2] at e; cases e
  have st : g₀.StaysIn (hideAll s.heap (news.map (·.1))) := fun b o e => hideAll_get _ (H b o e) (nm b o e)
  refine wpAny_mono (h (hideAll s.heap (news.map (·.1))) s.heap.objs.size h₁ (G.keeps st) st (fun b o e n => hideAll_get _ e n) ⟨hns, fun b o e => hk₁ b o (of_hideAll _ e), Nat.le_of_eq (hideAll_size _ _)⟩
    (fun p hp => ⟨hk₁ _ _ (hn p hp).1, Nat.ne_of_lt (Heap.lt_size (hn p hp).1), hideAll_none _ (List.mem_map_of_mem hp)⟩) (fun p hp => Heap.lt_size (hn p hp).1)) (fun fl s' hl => hl) fun _ _ y => y.elim



theorem enterSC {prog : Program} {w : World} {A : Around} {s : Shared} {K : Frag} {p : Program} {loose : List Str} {mg mb : Str → Option Value} {g₀ : Heap}
    {R : Result → Shared → Prop} {name qual : Str} {params : Arguments} {body : List Stmt} {scope : Scope} {cc : Addr} {dV kV doc pm cdv ct oc : Value} {an od : Option Addr} {osl : Array (Option Value)} {f : Addr} {args : List Value} {binds : List (Str × Value)}
    (news : List (Addr × Obj)) (G : Gd K p loose mg mb g₀) (H : g₀.StaysIn s.heap)
    (hn : ∀ q ∈ news, s.heap.get? q.1 = some q.2 ∧ g₀.get? q.1 = none)
    (ho : K.lookup f = some ⟨oc, od, .func (ksFn name qual params body scope dV kV doc pm an cdv ct cc), osl⟩) (hcd : codeIn K cdv qual = true)
    (hroom : A.depth < recursionLimit)
    (hbind : BindsTo s (ksFn name qual params body scope dV kV doc pm an cdv ct cc) ⟨args, []⟩ binds) (hloc : ∀ y ∈ binds, scope.names.lookup y.1 = some .local)
    (h : ∀ g L' h₁, Gd K p loose mg mb g → g₀.StaysIn g → Kp (news.map (·.1)) s.heap g → Fr g L' h₁ (fun y => binds.reverse.lookup y) → News g L' h₁ news → (∀ p ∈ news, p.1 < L') →
      _root_.PySem.wpAt (model prog w) (A.deeper (ksEnv qual scope L' f cdv cc)) (.func body (ksEnv qual scope L' f cdv cc)) (execs body (ksEnv qual scope L' f cdv cc))
        (fun fl s' => R (.ok (.ret (match fl with | .ret v => v | _ => .none))) s') (fun _ _ => False)
        { s with heap := h₁, toks := s.toks + binds.length })
    (hco : scope.isCoroutine = false := by rfl) (hgen : scope.isGenerator = false := by rfl) (hk : scope.kind = .function := by rfl)
    (hcell : ∀ x ∈ scope.names, x.2 ≠ .cell := by decide) : codeAny (model prog w) A (.call (.ref f) ⟨args, []⟩) R s := by
  refine (ks_codeAny_call_defAt (fd := ksFn name qual params body scope dV kV doc pm an cdv ct cc) (body := body) (binds := binds) hroom (H _ _ (G.X _ _ ho)) rfl (G.T.nolimit.keeps H) (codeRec_of (G.X.keeps H) hcd) rfl hbind hcell hloc (fun h₁ hns hk₁ => ?_) hco hgen hk)
  have nm : ∀ b o, g₀.get? b = some o → b ∉ news.map (·.1) := fun b o e q => by
    obtain ⟨p, hp, rfl⟩ := List.mem_map.mp q
    rw [(hn p hp).2] at e; cases e
  have st : g₀.StaysIn (hideAll s.heap (news.map (·.1))) := fun b o e => hideAll_get _ (H b o e) (nm b o e)
  refine ks_wpAt_mono (h (hideAll s.heap (news.map (·.1))) s.heap.objs.size h₁ (G.keeps st) st (fun b o e n => hideAll_get _ e n) ⟨hns, fun b o e => hk₁ b o (of_hideAll _ e), Nat.le_of_eq (hideAll_size _ _)⟩
    (fun p hp => ⟨hk₁ _ _ (hn p hp).1, Nat.ne_of_lt (Heap.lt_size (hn p hp).1), hideAll_none _ (List.mem_map_of_mem hp)⟩) (fun p hp => Heap.lt_size (hn p hp).1)) (fun fl s' hl => hl) fun _ _ y => y.elim


section
variable {w : World} {A : Around} {s : Shared} {p : Program} {loose : List Str} {mg mb : Str → Option Value} {g₀ : Heap}
    {R : Result → Shared → Prop} {x d : Addr} {its : List Value}

theorem init_c {ti : Tok} {ep : Nat} (G : Gd (hd.heap_39 w.params) p loose mg mb g₀) (H : g₀.StaysIn s.heap) (hx : s.heap.get? x = some (accObj d [] ep)) (hdd : s.heap.get? d = some (dictOf [] 0)) (hx0 : g₀.get? x = none) (hd0 : g₀.get? d = none) (hxd : @Ne Nat x d)
    (hroom : A.depth + 15 < recursionLimit) (_hu : A.units + 200 < cLine)
    (hQ : ∀ s', Go [x, d] s s' → AccAt g₀ s'.heap x d [] → R (.ok (.ret .none)) s') :
    codeAny (model PySem.Challenge.rw_wr0037_01.prog w) A (.call (.ref 115) ⟨[.ref x, .int 0 ti], []⟩) R s := by
  refine' enterSC (binds := [(Str.ofString "self", .ref x), (Str.ofString "initial_size", .int 0 ti)]) [(x, accObj d [] ep), (d, dictOf [] 0)] G H ?hn ?ho ?hcd ?hr ?hb ?hl ?hbody ?c2 ?c3 ?c4 ?c5
  k_extra "my enterS"
  case hn => exact all_cons ⟨hx, hx0⟩ (all_cons ⟨hdd, hd0⟩ all_nil)
  case hr => omega
  case hbody =>
    intro g' L' h' G' st' kp' F' N' l1
    have X' := G'.X
    have T' := G'.T
    k_lt l1
    (show _root_.PySem.wpAt _ _ _ _ _ _ _)
    iterate 6 (first | walk1 | (dsimp only; walk1))
    try dsimp only
    refine ks_wpAt_execs_cons ?_
    refine ks_wpAt_Expr_any ?_
    refine ks_wpAt_MethodCall ?_
    try dsimp only
    k_steps
    (try dsimp only)
    (show R _ _)
    rename Fr _ _ _ _ => kF
    rename News _ _ _ _ => kN
    exact hQ _ (.of_kp (kp_out kp' kF kN (all_cons hx (all_cons hdd all_nil)) (all_cons (.inl (.head _)) (all_cons (.inl (.tail _ (.head _))) all_nil)))) ⟨_, _, _, _, kN.get (by k_extra "my mem"), kN.get (by k_extra "my mem"), hx0, hd0, hxd⟩
theorem init0_c {ep : Nat} (G : Gd (hd.heap_39 w.params) p loose mg mb g₀) (H : g₀.StaysIn s.heap) (hx : s.heap.get? x = some (accObj d [] ep)) (hdd : s.heap.get? d = some (dictOf [] 0)) (hx0 : g₀.get? x = none) (hd0 : g₀.get? d = none) (hxd : @Ne Nat x d)
    (hroom : A.depth + 15 < recursionLimit) (_hu : A.units + 200 < cLine)
    (hQ : ∀ s', Go [x, d] s s' → AccAt g₀ s'.heap x d [] → R (.ok (.ret .none)) s') :
    codeAny (model PySem.Challenge.rw_wr0037_01.prog w) A (.call (.ref 115) ⟨[.ref x], []⟩) R s := by
  refine' enterSC (binds := [(Str.ofString "self", .ref x), (Str.ofString "initial_size", .int 0 320)]) [(x, accObj d [] ep), (d, dictOf [] 0)] G H ?hn ?ho ?hcd ?hr ?hb ?hl ?hbody ?c2 ?c3 ?c4 ?c5
  k_extra "my enterS"
  case hn => exact all_cons ⟨hx, hx0⟩ (all_cons ⟨hdd, hd0⟩ all_nil)
  case hr => omega
  case hbody =>
    intro g' L' h' G' st' kp' F' N' l1
    have X' := G'.X
    have T' := G'.T
    k_lt l1
    (show _root_.PySem.wpAt _ _ _ _ _ _ _)
    iterate 6 (first | walk1 | (dsimp only; walk1))
    try dsimp only
    refine ks_wpAt_execs_cons ?_
    refine ks_wpAt_Expr_any ?_
    refine ks_wpAt_MethodCall ?_
    try dsimp only
    k_steps
    (try dsimp only)
    (show R _ _)
    rename Fr _ _ _ _ => kF
    rename News _ _ _ _ => kN
    exact hQ _ (.of_kp (kp_out kp' kF kN (all_cons hx (all_cons hdd all_nil)) (all_cons (.inl (.head _)) (all_cons (.inl (.tail _ (.head _))) all_nil)))) ⟨_, _, _, _, kN.get (by k_extra "my mem"), kN.get (by k_extra "my mem"), hx0, hd0, hxd⟩
end

section
variable {w : World} {A : Around} {s : Shared} {p : Program} {loose : List Str} {mg mb : Str → Option Value} {g₀ : Heap}
    {Q : Value → Shared → Prop} {E : Value → Shared → Prop} {x d : Addr} {its : List Value}

theorem makesL_178 {M : Model} {h : Heap} {P : Params} (X : (hd.heap_39 P).In h) : MakesL M h 178 := by
  refine' makesL_of X ?l ?a ?b ?c ?d ?e ?f
  case l => k_is
  case a => exact rfl
  case b => exact rfl
  case c => exact rfl
  case d => exact rfl
  case e => k_is
  case f => k_is
theorem fn_115 {P : Params} : typeIn (hd.heap_39 P) (.ref 115) = some (.type "function") := by k_is
theorem find_115 {P : Params} : findIn (hd.heap_39 P) (.ref 178) "__init__" = some (some (.ref 115)) := by k_is

/-- a new accumulator -/
theorem acc_new (args : List Value) (ha : args = [] ∨ ∃ t, args = [.int 0 t]) (G : Gd (hd.heap_39 w.params) p loose mg mb g₀) (H : g₀.StaysIn s.heap)
    (hroom : A.depth + 20 < recursionLimit) (hu : A.units + 250 < cLine)
    (hQ : ∀ x d s', Go [] s s' → s.heap.get? x = none → s.heap.get? d = none → AccAt g₀ s'.heap x d [] → Q (.ref x) s') :
    wpAny (model PySem.Challenge.rw_wr0037_01.prog w) A (call (.ref 178) args) Q E s := by
  obtain ⟨h, gg, dr, t, os⟩ := s
  have X := G.X.keeps H
  refine wpAny_call (makeL_core (makesL_178 X) (looks_findIn X find_115) (fun self => bind_fn X self fn_115) ?_)
  have k : ∀ b o, h.get? b = some o → ((h.push emptyDict).push (accObj h.objs.size [] 0)).get? b = some o := fun b o e => Heap.get?_push_of_some _ (Heap.get?_push_of_some _ e)
  have hx : ((h.push emptyDict).push (accObj h.objs.size [] 0)).get? (h.objs.size + 1) = some (accObj h.objs.size [] 0) := by
    have := Heap.get?_push_size (h := h.push emptyDict) (o := accObj h.objs.size [] 0) rfl
    rwa [Heap.size_push] at this
  have hd' : ((h.push emptyDict).push (accObj h.objs.size [] 0)).get? h.objs.size = some (dictOf [] 0) := Heap.get?_push_of_some _ (Heap.get?_push_size _ rfl)
  have g0 : ∀ n, h.objs.size ≤ n → g₀.get? n = none := fun n hn => by
    cases z : g₀.get? n with
    | none => rfl
    | some o => exact absurd (Heap.lt_size (H _ _ z)) (Nat.not_lt.mpr hn)
  have h0 : ∀ n, h.objs.size ≤ n → h.get? n = none := fun n hn => by
    cases z : h.get? n with
    | none => rfl
    | some o => exact absurd (Heap.lt_size z) (Nat.not_lt.mpr hn)
  have fin : ∀ s', Go [h.objs.size + 1, h.objs.size] ⟨(h.push emptyDict).push (accObj h.objs.size [] 0), gg, dr, t, os⟩ s' → AccAt g₀ s'.heap (h.objs.size + 1) h.objs.size [] → Q (.ref (h.objs.size + 1)) s' := fun s' k1 hA =>
    hQ _ _ s' ⟨fun b o e _ => k1.kp b o (k b o e) (fun hm => by
      have hb : b < h.objs.size := Heap.lt_size e
      rcases List.mem_cons.mp hm with q | hm
      · rw [q] at hb; exact absurd hb (Nat.not_lt.mpr (Nat.le_succ _))
      · rcases List.mem_cons.mp hm with q | hm
        · rw [q] at hb; exact absurd hb (Nat.lt_irrefl _)
        · cases hm), k1.os, k1.gens⟩ (h0 _ (Nat.le_succ _)) (h0 _ (Nat.le_refl _)) hA
  have H' : g₀.StaysIn ((h.push emptyDict).push (accObj h.objs.size [] 0)) := fun b o e => k b o (H b o e)
  rcases ha with rfl | ⟨ti, rfl⟩
  · exact init0_c G H' hx hd' (g0 _ (Nat.le_succ _)) (g0 _ (Nat.le_refl _)) (Nat.succ_ne_self _) (by show A.depth + 1 + 15 < _; omega) (by show A.units + 1 + 200 < _; omega) fun s' k1 hA => ⟨rfl, fin s' k1 hA⟩
  · exact init_c G H' hx hd' (g0 _ (Nat.le_succ _)) (g0 _ (Nat.le_refl _)) (Nat.succ_ne_self _) (by show A.depth + 1 + 15 < _; omega) (by show A.units + 1 + 200 < _; omega) fun s' k1 hA => ⟨rfl, fin s' k1 hA⟩
end

section
variable {w : World} {A : Around} {s : Shared} {p : Program} {loose : List Str} {mg mb : Str → Option Value} {g : Heap} {L : Addr} {m : Str → Option Value} {news : List (Addr × Obj)}
    {Q : Value → Shared → Prop} {E : Value → Shared → Prop} {x d : Addr} {its : List Value} {cs : List (Str × Str)} {ep : Nat} {hs : Int} {t t' : Tok} {gf : Obj → List (Addr × Obj)}

theorem updF_mem {P : Addr} {o : Obj} (U : UpdF P o news gf) : (P, o) ∈ news := Upd.mem (upd_of U o)
theorem updF_sub {P : Addr} {o o' : Obj} (U : UpdF P o news gf) : ∀ p ∈ gf o', ∃ o'', (p.1, o'') ∈ news := fun p hp => by
  rcases Upd.mem_cases (upd_of U o') p hp with ⟨h1, _⟩ | rfl
  · exact ⟨_, h1⟩
  · exact ⟨_, updF_mem U⟩

theorem pop_L {v : Value} (F : Fr g L s.heap m) (N : News g L s.heap news) (G : Gd (hd.heap_39 w.params) p loose mg mb g) (U : UpdF x (accObj d (its ++ [v]) ep) news gf) (hd : (d, accDict hs t t') ∈ news) (ne : @Ne Nat x d)
    (hroom : A.depth + 15 < recursionLimit) (hu : A.units + 200 < cLine) (hlen : (its ++ [v]).length < 1000)
    (h : ∀ s' ep', Go [x] s s' → Fr g L s'.heap m → News g L s'.heap (gf (accObj d its ep')) → Q v s') :
    wpAny (model PySem.Challenge.rw_wr0037_01.prog w) A (call (.ref 138) [.ref x]) Q E s := by
  refine pop_c G F.keep (acc_of N (updF_mem U) hd ne) hroom hu (by simp at hlen; omega) hlen fun s' k hA => ?_
  obtain ⟨ep', hs', t1, t2, hx', _⟩ := hA
  exact then_cgs k.kp F N (.cons (upd_of U _) hx' .nil) fun F' N' => h s' ep' k F' N'

theorem push_L {ga gb : Str} {ta tb : Tok} (F : Fr g L s.heap m) (N : News g L s.heap news) (G : Gd (hd.heap_39 w.params) p loose mg mb g) (U : UpdF x (accObj d its ep) news gf) (hd : (d, accDict hs t t') ∈ news) (ne : @Ne Nat x d)
    (hroom : A.depth + 5 < recursionLimit) (hu : A.units + 100 < cLine) (hlen : its.length < 1000)
    (h : ∀ r s' ep', Go [x] s s' → Fr g L s'.heap m → News g L s'.heap ((r, tupObj ga gb ta tb) :: gf (accObj d (its ++ [.ref r]) ep')) → (∀ p ∈ gf (accObj d (its ++ [.ref r]) ep'), p.1 ≠ r) → Q .none s') :
    wpAny (model PySem.Challenge.rw_wr0037_01.prog w) A (call (.ref 122) [.ref x, .str ga ta, .str gb tb]) Q E s := by
  refine push_c G F.keep (acc_of N (updF_mem U) hd ne) hroom hu hlen fun r s' k hr ho hA => ?_
  obtain ⟨ep', hs', t1, t2, hx', _⟩ := hA
  exact then_cgs k.kp F N (.cons (upd_of U _) hx' .nil) fun F' N' => then_new F' N' F N hr ho (updF_sub U) fun N'' l' => h r s' ep' k F' N'' l'

theorem reset0_L (F : Fr g L s.heap m) (N : News g L s.heap news) (G : Gd (hd.heap_39 w.params) p loose mg mb g) (hx : (x, accObj d its ep) ∈ news) (hd : (d, accDict hs t t') ∈ news) (ne : @Ne Nat x d)
    (hroom : A.depth + 5 < recursionLimit) (hu : A.units + 100 < cLine) (hlen : its.length < 1000)
    (h : ∀ s' ep' hs' t t', Go [x, d] s s' → s'.heap.get? x = some (accObj d [] ep') → s'.heap.get? d = some (accDict hs' t t') → Q .none s') :
    wpAny (model PySem.Challenge.rw_wr0037_01.prog w) A (call (.ref 160) [.ref x]) Q E s := by
  refine reset0_c G F.keep (acc_of N hx hd ne) hroom hu hlen fun s' k hA => ?_
  obtain ⟨ep', hs', t1, t2, hx', hd', _⟩ := hA
  exact h s' ep' hs' t1 t2 k hx' hd'

theorem reset_L {l : Addr} {new : List Value} {epl : Nat} (F : Fr g L s.heap m) (N : News g L s.heap news) (G : Gd (hd.heap_39 w.params) p loose mg mb g) (hx : (x, accObj d its ep) ∈ news) (hd : (d, accDict hs t t') ∈ news) (hl : (l, listOf new.toArray epl) ∈ news) (ne : @Ne Nat x d) (n1 : @Ne Nat x l) (n2 : @Ne Nat d l)
    (hroom : A.depth + 5 < recursionLimit) (hu : A.units + 100 < cLine) (hlen : its.length < 1000) (hlen' : new.length < 1000)
    (h : ∀ s' ep' hs' t t', Go [x, d] s s' → s'.heap.get? x = some (accObj d new ep') → s'.heap.get? d = some (accDict hs' t t') → Q .none s') :
    wpAny (model PySem.Challenge.rw_wr0037_01.prog w) A (call (.ref 160) [.ref x, .ref l]) Q E s := by
  refine reset_c G F.keep (acc_of N hx hd ne) hroom hu hlen hlen' (N _ hl).1 n1 n2 fun s' k hA => ?_
  obtain ⟨ep', hs', t1, t2, hx', hd', _⟩ := hA
  exact h s' ep' hs' t1 t2 k hx' hd'

theorem popf_L {k : Nat} {ti : Tok} (F : Fr g L s.heap m) (N : News g L s.heap news) (G : Gd (hd.heap_39 w.params) p loose mg mb g) (U : UpdF x (accObj d its ep) news gf) (hd : (d, accDict hs t t') ∈ news) (ne : @Ne Nat x d)
    (hroom : A.depth + 5 < recursionLimit) (hu : A.units + 100 < cLine) (hlen : its.length < 1000) (hk : k ≤ its.length)
    (h : ∀ r s' ep', Go [x] s s' → Fr g L s'.heap m → News g L s'.heap ((r, listOf (its.drop k).toArray 0) :: gf (accObj d (its.take k) ep')) → (∀ p ∈ gf (accObj d (its.take k) ep'), p.1 ≠ r) → Q (.ref r) s') :
    wpAny (model PySem.Challenge.rw_wr0037_01.prog w) A (call (.ref 130) [.ref x, .int (k : Int) ti]) Q E s := by
  refine pop_from_c G F.keep (acc_of N (updF_mem U) hd ne) hroom hu hlen hk fun r s' k hr ho hA => ?_
  obtain ⟨ep', hs', t1, t2, hx', _⟩ := hA
  exact then_cgs k.kp F N (.cons (upd_of U _) hx' .nil) fun F' N' => then_new F' N' F N hr ho (updF_sub U) fun N'' l' => h r s' ep' k F' N'' l'

theorem ws_L {ps ps2 : Array Value} (hh : A.handled = none) (F : Fr g L s.heap m) (N : News g L s.heap news) (G : Gd (hd.heap_39 w.params) p loose mg mb g) (hx : (x, accObj d its ep) ∈ news) (hd : (d, accDict hs t t') ∈ news) (ne : @Ne Nat x d) (hp : (140, tabObj ps) ∈ news) (hp2 : (147, tabObj ps2) ∈ news) (tr : TriplesOk ps.toList) (tr2 : TriplesOk ps2.toList)
    (hC : Chs s.heap its cs) (hroom : A.depth + 25 < recursionLimit) (hu : A.units + 300 < cLine) (hlen : its.length < 1000) (hsz : sizeOf' cs < 1000) (hpos : 0 < sizeOf' cs) (hns : Txt.isspace (textOf cs) = false)
    (h : ∀ s' ps' ps2', Go [140, 147] s s' → s'.heap.get? 140 = some (tabObj ps') → s'.heap.get? 147 = some (tabObj ps2') → TriplesOk ps'.toList → TriplesOk ps2'.toList → Q (.bool false) s') :
    wpAny (model PySem.Challenge.rw_wr0037_01.prog w) A (call (.ref 167) [.ref x]) Q E s := by
  refine is_onlyws_c hh G F.keep (acc_of N hx hd ne) hC ⟨ps, (N _ hp).1, tr, (N _ hp).2.2⟩ ⟨ps2, (N _ hp2).1, tr2, (N _ hp2).2.2⟩ hroom hu hlen hsz hpos hns fun s' k _ hT hT2 => ?_
  obtain ⟨ps', h1, h2, _⟩ := hT
  obtain ⟨ps2', h3, h4, _⟩ := hT2
  exact h s' ps' ps2' k h1 h3 h2 h4
end
example : True := by
  (k_with "my k_ne" => (refine neN ?_; (try dsimp only); first | (with_reducible assumption) | (with_reducible (refine Ne.symm ?_; assumption)) | assumption | (refine Ne.symm ?_; assumption) | omega))
  (k_with "my lt" => ((have l9ₘ := allNe_of ‹∀ p ∈ _, p.1 ≠ _›); simp only [AllNe, and_true] at l9ₘ))
  (k_with "my cgs" => (first | exact Cgs.nil | (refine' Cgs.cons ?Uₘ ?hₘ ?Rₘ; (case hₘ => assumption); (case Uₘ => k_upd); (case Rₘ => k_extra "my cgs"))))
  (k_with "call ref" => (k_here; (with_reducible show wpAny _ _ (call (Value.ref 138) _) _ _ _); k_dflt (refine' pop_L (by k_asm) (by k_asm) (by k_asm) (by k_updF) (by k_extra "my mem") (by k_ne) (by k_extra "my room") (by k_extra "my room") (by k_extra "my nat") ?_); intro _ _ _ _ N'ₘ; (try dsimp only at N'ₘ); (try k_sweep)))
  (k_with "call ref" => (k_here; (with_reducible show wpAny _ _ (call (Value.ref 122) _) _ _ _); k_dflt (refine' push_L (by k_asm) (by k_asm) (by k_asm) (by k_updF) (by k_extra "my mem") (by k_ne) (by k_extra "my room") (by k_extra "my room") (by k_extra "my nat") ?_); intro _ _ _ _ _ N'ₘ l1ₘ; (try dsimp only at N'ₘ l1ₘ); (replace l1ₘ := allNe_of l1ₘ); (dsimp only [AllNe] at l1ₘ); (repeat (have _ := And.left l1ₘ; replace l1ₘ := And.right l1ₘ)); (try k_sweep)))
  (k_with "call ref" => (k_here; (with_reducible show wpAny _ _ (call (Value.ref 130) _) _ _ _); k_dflt (refine' popf_L (by k_asm) (by k_asm) (by k_asm) (by k_updF) (by k_extra "my mem") (by k_ne) (by k_extra "my room") (by k_extra "my room") (by k_extra "my nat") (by k_extra "my nat") ?_); intro _ _ _ _ _ N'ₘ l1ₘ; (try dsimp only at N'ₘ l1ₘ); (replace l1ₘ := allNe_of l1ₘ); (dsimp only [AllNe] at l1ₘ); (repeat (have _ := And.left l1ₘ; replace l1ₘ := And.right l1ₘ)); (try k_sweep)))
  (k_with "call ref" => (k_here; (with_reducible show wpAny _ _ (call (Value.ref 160) _) _ _ _); k_dflt (refine' reset0_L (by k_asm) (by k_asm) (by k_asm) (by k_extra "my mem") (by k_extra "my mem") (by k_ne) (by k_extra "my room") (by k_extra "my room") (by k_extra "my nat") ?_); intro _ _ _ _ _ k'ₘ _ _; k_dflt (refine' then_cgs (Go.kp k'ₘ) (by k_asm) (by k_asm) (by k_extra "my cgs") ?_); intro _ _; (try k_sweep)))
  (k_with "call ref" => (k_here; (with_reducible show wpAny _ _ (call (Value.ref 160) _) _ _ _); k_dflt (refine' reset_L (by k_asm) (by k_asm) (by k_asm) (by k_extra "my mem") (by k_extra "my mem") (by k_extra "my mem") (by k_ne) (by k_ne) (by k_ne) (by k_extra "my room") (by k_extra "my room") (by k_extra "my nat") (by k_extra "my nat") ?_); intro _ _ _ _ _ k'ₘ _ _; k_dflt (refine' then_cgs (Go.kp k'ₘ) (by k_asm) (by k_asm) (by k_extra "my cgs") ?_); intro _ _; (try k_sweep)))
  (k_with "call ref" => (k_here; (with_reducible show wpAny _ _ (call (Value.ref 167) _) _ _ _); k_dflt (refine' ws_L (by assumption) (by k_asm) (by k_asm) (by k_asm) (by k_extra "my mem") (by k_extra "my mem") (by k_ne) (by k_extra "my mem") (by k_extra "my mem") (by assumption) (by assumption) (by k_extra "my chs") (by k_extra "my room") (by k_extra "my room") (by k_extra "my nat") (by k_extra "my nat") (by k_extra "my nat") (by assumption) ?_); intro _ _ _ k'ₘ _ _ _ _; k_dflt (refine' then_cgs (Go.kp k'ₘ) (by k_asm) (by k_asm) (by k_extra "my cgs") ?_); intro _ _; (try k_sweep)))
  trivial

section
variable {prog : Program} {w : World} {A : Around} {E : Value → Shared → Prop} {s : Shared}
theorem ne_pair {a b : Addr} {g1 s1 g2 s2 : Str} {t1 t2 t3 t4 : Tok} {Q : Value → Shared → Prop} (ha : s.heap.get? a = some (tupObj g1 s1 t1 t2)) (hb : s.heap.get? b = some (tupObj g2 s2 t3 t4))
    (o1 : PyData.strOk g1 = true) (o2 : PyData.strOk s1 = true) (o3 : PyData.strOk g2 = true) (o4 : PyData.strOk s2 = true) (hu : A.units + 64 < cLine) (hne : s1 ≠ s2) (h : Q (.bool true) s) : wpAny (model prog w) A (compareOp .NotEq (.ref a) (.ref b)) Q E s := by
  refine ne_dataH (da := .tuple [.str g1, .str s1]) (db := .tuple [.str g2, .str s2]) (reads_tuple_at ha rfl rfl (.cons (.str _ _) (.cons (.str _ _) .nil))) (reads_tuple_at hb rfl rfl (.cons (.str _ _) (.cons (.str _ _) .nil))) ?_ ?_ hu ?_
  · simp [SeqAt.shaped, PyData.canLay0, PyData.canLayAll0, o1, o2, PyData.depth, PyData.depthAll]
  · simp [SeqAt.shaped, PyData.canLay0, PyData.canLayAll0, o3, o4, PyData.depth, PyData.depthAll]
  · have e : PyData.eqv (.tuple [.str g1, .str s1]) (.tuple [.str g2, .str s2]) = false := by
      simp [PyData.eqv, PyData.eqvAll, hne]
    rw [e]; exact h
end
example : True := by
  (k_with "my get" => (first | assumption | exact News.get (by k_asm) (by k_extra "my mem") | exact Fr.keep (by k_asm) _ _ (by assumption)))
  (k_with "compareOp NotEq ref ref" => (k_here; k_dflt (refine' ne_pair (by k_extra "my get") (by k_extra "my get") (by first | assumption | decide +kernel) (by first | assumption | decide +kernel) (by first | assumption | decide +kernel) (by first | assumption | decide +kernel) (by k_extra "my room") (by assumption) ?_)))
  trivial

section
variable {prog : Program} {w : World} {M : Model} {A : Around} {E : Value → Shared → Prop} {s : Shared} {K : Frag} {x C f : Addr} {ox : Obj} {od : Option Obj} {name : Str} {env : Env}

theorem star_meth {o e : Expr} {apos p2 pos : Pos} {Q : Value → Shared → Prop} (h : wpAny M A (eval o env) (fun ov s₁ => wpAny M A (getAttr ov name true) (fun fv s₂ => wpAny M A (callWith pos fv [] (backTo pos (starEach [.Starred e p2] env)) []) Q E s₂) E s₁) E s)
    (ha : attributeBase o name env (eval o env) = eval o env := by rfl) : wpAny M A (eval (.Call (.Attribute o name apos) [.Starred e p2] [] pos) env) Q E s := by
  rw [show eval (.Call (.Attribute o name apos) [.Starred e p2] [] pos) env = (do
    let ov ← attributeBase o name env (eval o env)
    standAt apos.atName
    methodCall o name apos pos env ov 1 (backTo pos (starEach [.Starred e p2] env)) []) from rfl, ha]
  refine wpAny_bind (wpAny_mono h (fun ov s₁ h₁ => wpAny_bind (wpAny_standAt ?_)) fun _ _ z => z)
  unfold methodCall
  have hf : methodCallForm 1 (backTo pos (starEach [.Starred e p2] env)) [] = false := rfl
  rw [hf]
  refine wpAny_bind (wpAny_holding ?_)
  show wpAny _ _ (getAttr ov name true >>= fun v => pure (v, [])) _ _ _
  refine wpAny_bind (wpAny_mono h₁ (fun fv s₂ h₂ => wpAny_pure ?_) fun _ _ z => z)
  show wpAny _ _ (methodCallPos false o env apos pos >>= fun p => callWith p fv [] _ _) _ _ _
  refine wpAny_bind ?_
  unfold methodCallPos
  rw [if_pos (by rfl)]
  exact wpAny_pure h₂

/-- a bound method as a value, of a class under list -/
theorem get_bnd_own {expr : Bool} {Q : Value → Shared → Prop} (X : K.In s.heap) (I : InstAt s.heap x ox C od) (hga : findIn K (.ref C) "__getattribute__" = some (some (.builtin "list.__getattribute__"))) (hk : findIn K (.ref C) "__getattr__" = some none)
    (hf : findObj K C od name = some (.bind (.builtin "function.__get__") (.ref f))) (hfn : isFn K (.ref f) = true) (hm : mroIn K C (.type "list") = some true)
    (h : Q (.ref s.heap.objs.size) { s with heap := s.heap.push (methodObj (.ref f) (.ref x)), toks := s.toks + 1 }) : wpAny (model prog w) A (getAttr (.ref x) name expr) Q E s := by
  obtain ⟨hp, g, d, t, os⟩ := s
  have L0 := I.type (M := model prog w)
  have L1 := looks_findIn (M := model prog w) X hga
  have L2 := looks_findIn (M := model prog w) X hk
  have L3 := looks_find (M := model prog w) X I hf
  unfold getAttr getAttrBy
  refine wpAny_bind (wpAny_mkText (wpAny_holding (wpAny_bind (L0.at (wpAny_bind (L1.at ?_))))))
  show wpAny _ _ (if (onTheHeap (.ref C) && (Value.builtin "list.__getattribute__" == Value.builtin "object.__getattribute__")) = true then _ else _) _ _ _
  refine KFB.if_not (by rw [ne_lga, Bool.and_false]) ?_
  unfold getAttrByItsOwn hookBefore
  refine wpAny_bind ?_
  show wpAny _ _ (typeLookup (.ref C) "__getattr__") _ _ _
  refine L2.at ?_
  refine wpAny_bind (wpAny_attempt (wpAny_holding ?_))
  unfold callGetattribute
  refine KFB.if_not (by cases expr <;> rfl) ?_
  unfold boundAndCalled
  refine wpAny_bind ((bind_any X (.ref x) tf_lga (by decide)).at ?_)
  refine call_bi (n := "__getattribute__") (by decide +kernel) entry_lga (by first | exact .inl (by decide +kernel) | exact .inr (by decide +kernel)) (by decide +kernel) (isinst_of X I hm) (args_lga _ _) ?_
  unfold Builtin.«object.__getattribute__»
  refine wpAny_bind (wpAny_of_eq (a := (Value.ref x, [Value.str name t])) (by kernel_rfl) ?_)
  dsimp only
  refine wpAny_bind (wpAny_pure ?_)
  refine wpAny_bind (L0.at (wpAny_bind (L3.at ?_)))
  show wpAny _ _ (holding [.ref f] (call (.builtin "function.__get__") [.ref f, .ref x, .ref C]) >>= fun v => ret v) _ _ _
  refine wpAny_bind (wpAny_holding (wpAny_call (fn_get (s := ⟨hp, g, d, t + 1, os⟩) X (beq_iff_eq.mp hfn) ?_)))
  refine wpAny_pure ?_
  dsimp only
  rw [handedOut_of rfl]
  exact wpAny_pure h

theorem get_bnd_L {g : Heap} {L : Addr} {m : Str → Option Value} {news : List (Addr × Obj)} {es : List DictEntry} {n : Nat} {expr : Bool} {Q : Value → Shared → Prop} (F : Fr g L s.heap m) (N : News g L s.heap news) (X₀ : K.In g) (I : InstAt s.heap x ox C (some (dictOf es n))) (hga : findIn K (.ref C) "__getattribute__" = some (some (.builtin "list.__getattribute__"))) (hk : findIn K (.ref C) "__getattr__" = some none)
    (hh : hasDictIn K C = true) (ha : findIn K (.ref C) name = some (some (.ref f))) (hg : specialIn K (.ref f) "__get__" = some (some (.builtin "function.__get__"))) (ht : takesIn K (.ref f) = some false) (hc : copiedNames.contains name = false) (hl : getL name es = some none) (hfn : isFn K (.ref f) = true) (hm : mroIn K C (.type "list") = some true)
    (h : ∀ q h', Fr g L h' m → News g L h' ((q, methodObj (.ref f) (.ref x)) :: news) → (∀ p ∈ news, p.1 < q) → Q (.ref q) { s with heap := h', toks := s.toks + 1 }) : wpAny (model prog w) A (getAttr (.ref x) name expr) Q E s :=
  get_bnd_own (X₀.keeps F.keep) I hga hk (findObj_fn hh ha hg ht hc (by show lookIn name (dictOf es n) = _; rw [lookIn_dict, hl])) hfn hm (h _ _ (F.push _) (N.push F _) fun p hp => Heap.lt_size (N p hp).1)

theorem callWith_SM {h₀ : Heap} {L : Addr} {news : List (Addr × Obj)} {q gq : Addr} {self : Value} {e : Expr} {p2 pos : Pos} {first : List Value} {Q : Value → Shared → Prop} (_X : K.In h₀) (_N : News h₀ L s.heap news) (_q : (q, methodObj (.ref gq) self) ∈ news) (hf : fnIn K gq = true)
    (h : wpAny M A (eval e env) (fun v s₁ => StarOf M A E v (fun vs s₂ => MethP K q gq self s₂.heap ∧ wpAny M A (call (.ref q) (first ++ vs)) Q E s₂) s₁) E s)
    (he : starEach [.Starred e p2] env = [(true, eval e env)] := by rfl) :
    wpAny M A (callWith pos (.ref q) first (backTo pos (starEach [.Starred e p2] env)) []) Q E s := by
  rw [he]
  exact ks_call rfl (keeps_M hf) (ks_lone h)

theorem star_ground {h₀ : Heap} {L a : Addr} {m : Str → Option Value} {news : List (Addr × Obj)} {ga gb : Str} {t t' : Tok} {Q : List Value → Shared → Prop} (F : Fr h₀ L s.heap m) (N : News h₀ L s.heap news) (D : s.heap.get? a = some (tupObj ga gb t t'))
    (h : ∀ h', Fr h₀ L h' m → News h₀ L h' news → Q [.str ga t, .str gb t'] { s with heap := h' }) : StarOf (model prog w) A E (.ref a) Q s := by
  have hT' : s.TypeIs (.ref a) "tuple" := ⟨_, D, rfl⟩
  have z : wpAny (model prog w) A (collect (.ref a)) Q E s := by
    refine wpAny_collect_seq a (.inr rfl) D rfl rfl (fun h' hk => h h' ?_ fun p hp => ⟨hk _ _ (N p hp).1, (N p hp).2⟩) (by simp [sizeLine_eq])
    obtain ⟨oL, es, ep, hL, r⟩ := F.ns
    exact ⟨⟨oL, es, ep, hk _ _ hL, r⟩, fun b x q => hk _ _ (F.keep b x q), F.above⟩
  unfold StarOf notIterableAtAll
  exact wpAny_bind (wpAny_specialOf hT' PySem.F.slot_tuple_iter.lookup (wpAny_pure ⟨rfl, z⟩))
end

section
variable {w : World} {A : Around} {s : Shared} {p : Program} {loose : List Str} {mg mb : Str → Option Value} {g₀ : Heap}
    {R : Result → Shared → Prop} {x d : Addr} {its : List Value}

theorem push_code {g v : Str} {t t' : Tok} (G : Gd (hd.heap_39 w.params) p loose mg mb g₀) (H : g₀.StaysIn s.heap) (hA : AccAt g₀ s.heap x d its)
    (hroom : A.depth + 5 < recursionLimit) (_hu : A.units + 100 < cLine) (hlen : its.length < 1000)
    (hQ : ∀ r s', Go [x] s s' → s.heap.get? r = none → s'.heap.get? r = some (tupObj g v t t') → AccAt g₀ s'.heap x d (its ++ [.ref r]) → R (.ok (.ret .none)) s') :
    codeAny (model PySem.Challenge.rw_wr0037_01.prog w) A (.call (.ref 122) ⟨[.ref x, .str g t, .str v t'], []⟩) R s := by
  k_extra "my hide"
  obtain ⟨ep, hs, t₁, t₂, hx, hdd, hx0, hd0, hxd⟩ := hA
  k_extra "my back"
  refine' enterC (binds := [(Str.ofString "self", .ref x), (Str.ofString "fws", .str g t), (Str.ofString "string", .str v t')]) [(x, accObj d its ep), (d, accDict hs t₁ t₂)] G H ?hn ?ho ?hcd ?hr ?hb ?hl ?hbody ?c2 ?c3 ?c4 ?c5
  k_extra "my enter"
  case hn => exact all_cons ⟨hx, hx0⟩ (all_cons ⟨hdd, hd0⟩ all_nil)
  case hr => omega
  case hbody =>
    intro g' L' h' G' st' kp' F' N' l1
    have X' := G'.X
    have T' := G'.T
    (show wpAny _ _ _ _ _ _); k_fold
    k_steps
    rename Fr _ _ _ _ => kF
    rename News _ _ _ _ => kN
    refine hQ _ _ (.of_kp (kp_out kp' kF kN (all_cons hx (all_cons hdd all_nil)) (all_cons (.inl (.head _)) (all_cons (.inr (by k_extra "my mem")) all_nil)))) (fresh_out kp' (kN.fresh (by k_extra "my mem")) (by k_all)) (kN.get (by k_extra "my mem")) ⟨ep + 1, hs, t₁, t₂, ?_, kN.get (by k_extra "my mem"), hx0, hd0, hxd⟩
    rw [kN.get (List.Mem.tail _ (.head _))]
    simp
end
section
variable {w : World} {A : Around} {s : Shared} {p : Program} {loose : List Str} {mg mb : Str → Option Value} {g : Heap} {L : Addr} {m : Str → Option Value} {news : List (Addr × Obj)}
    {Q : Value → Shared → Prop} {E : Value → Shared → Prop} {x d : Addr} {its : List Value} {ep : Nat} {hs : Int} {t t' : Tok} {gf : Obj → List (Addr × Obj)}
theorem pushM_L {q : Addr} {ga gb : Str} {ta tb : Tok} (F : Fr g L s.heap m) (N : News g L s.heap news) (G : Gd (hd.heap_39 w.params) p loose mg mb g) (hq : (q, methodObj (.ref 122) (.ref x)) ∈ news) (U : UpdF x (accObj d its ep) news gf) (hd : (d, accDict hs t t') ∈ news) (ne : @Ne Nat x d)
    (hroom : A.depth + 5 < recursionLimit) (hu : A.units + 100 < cLine) (hlen : its.length < 1000)
    (h : ∀ r s' ep', Go [x] s s' → Fr g L s'.heap m → News g L s'.heap ((r, tupObj ga gb ta tb) :: gf (accObj d (its ++ [.ref r]) ep')) → (∀ p ∈ gf (accObj d (its ++ [.ref r]) ep'), p.1 ≠ r) → Q .none s') :
    wpAny (model PySem.Challenge.rw_wr0037_01.prog w) A (call (.ref q) [.str ga ta, .str gb tb]) Q E s := by
  refine wpAny_call (ks_codeAny_call_bound (N _ hq).1 (push_code G F.keep (acc_of N (updF_mem U) hd ne) hroom hu hlen fun r s' k hr ho hA => ?_))
  obtain ⟨ep', hs', t1, t2, hx', _⟩ := hA
  exact then_cgs k.kp F N (.cons (upd_of U _) hx' .nil) fun F' N' => then_new F' N' F N hr ho (updF_sub U) fun N'' l' => h r s' ep' k F' N'' l'
end
example : True := by
  (k_with "eval Call Attribute" => (k_here; (with_reducible show wpAny _ _ (eval (Expr.Call (Expr.Attribute _ _ _) [Expr.Starred _ _] [] _) _) _ _ _); k_dflt (refine star_meth ?_)))
  (k_with "getAttr ref" => (k_here; k_dflt (refine' get_bnd_L (by k_asm) (by k_asm) (by k_asm) (by k_inst) (by k_is) (by k_is) (by k_is) (by k_is) (by k_is) (by k_is) (by decide +kernel) (by k_get) (by k_is) (by k_is) ?_; k_whole); intro _ _ _ _ l1ₘ; (try k_lt l1ₘ); (try k_sweep)))
  (k_with "callWith ref" => (k_here; (with_reducible show wpAny _ _ (callWith _ (Value.ref _) _ (backTo _ (starEach [Expr.Starred _ _] _)) []) _ _ _); k_dflt (refine' callWith_SM (by k_asm) (by k_asm) (by k_extra "my mem") (by k_is) ?_; k_whole)))
  (k_with "StarOf ref" => (k_here; k_dflt (refine' star_ground (by k_asm) (by k_asm) (by k_extra "my get") ?_; k_whole); intro _ _ _; (try k_sweep); try dsimp only [List.nil_append, List.cons_append]))
  (k_with "call ref" => (k_here; k_dflt (refine' pushM_L (by k_asm) (by k_asm) (by k_asm) (by k_extra "my mem") (by k_updF) (by k_extra "my mem") (by k_ne) (by k_extra "my room") (by k_extra "my room") (by k_extra "my nat") ?_); intro _ _ _ _ _ N'ₘ l1ₘ; (try dsimp only at N'ₘ l1ₘ); (replace l1ₘ := allNe_of l1ₘ); (dsimp only [AllNe] at l1ₘ); (repeat (have _ := And.left l1ₘ; replace l1ₘ := And.right l1ₘ)); (try k_sweep)))
  (k_with "call builtin:list.append" => (k_here; (with_reducible show wpAny _ _ (call (Value.builtin _) [Value.ref _, _]) _ _ _); k_dflt (refine' append_K (by k_asm) (by k_asm) (by k_upd) ?_ (by first | size_fits | (simp only [List.size_toArray]; rw [sizeLine_eq]; omega)); k_whole); intro _ _ _; (try k_sweep)))
  trivial

section
local macro_rules | `(tactic| walk_at "execs cons") => `(tactic| k_extra "my execs")
/-- a line maker's own dict -/
noncomputable abbrev mkDict (q : Nat → Int) (k : Nat → Tok) (wd : Int) (l x : Addr) : Obj := dictOf [⟨q 0, .str (Str.ofString "_maxlen") (k 0), .int wd (k 6)⟩, ⟨q 1, .str (Str.ofString "_continuation_ws") (k 1), .str (Str.ofString " ") (k 7)⟩, ⟨q 2, .str (Str.ofString "_continuation_ws_len") (k 2), .int 1 (k 8)⟩, ⟨q 3, .str (Str.ofString "_splitchars") (k 3), .str (Str.ofString " ") (k 9)⟩, ⟨q 4, .str (Str.ofString "_lines") (k 4), .ref l⟩, ⟨q 5, .str (Str.ofString "_current_line") (k 5), .ref x⟩] 6

/-- five addresses, each another -/
noncomputable abbrev Dist5 (f df l x d : Addr) : Prop := @Ne Nat f df ∧ @Ne Nat f l ∧ @Ne Nat f x ∧ @Ne Nat f d ∧ @Ne Nat df l ∧ @Ne Nat df x ∧ @Ne Nat df d ∧ @Ne Nat l x ∧ @Ne Nat l d ∧ @Ne Nat x d
/-- no code table among them -/
noncomputable abbrev Off (P f df l x d : Addr) : Prop := @Ne Nat P f ∧ @Ne Nat P df ∧ @Ne Nat P l ∧ @Ne Nat P x ∧ @Ne Nat P d
noncomputable abbrev Out (g : Heap) (f df l x d : Addr) : Prop := g.get? f = none ∧ g.get? df = none ∧ g.get? l = none ∧ g.get? x = none ∧ g.get? d = none

/-- a line maker in the heap -/
noncomputable def MakAt (g₀ h : Heap) (f df l x d : Addr) (wd : Int) (lines its : List Value) : Prop :=
  ∃ q k epl ep hs t t', h.get? f = some (instObj 94 df) ∧ h.get? df = some (mkDict q k wd l x) ∧ h.get? l = some (listOf lines.toArray epl) ∧ h.get? x = some (accObj d its ep) ∧ h.get? d = some (accDict hs t t') ∧ Out g₀ f df l x d ∧ Dist5 f df l x d

theorem off_tab {h : Heap} {f df l x d P : Addr} {ps : Array Value} {q k wd epl ep hs t t'} {lines its : List Value} (hp : h.get? P = some (tabObj ps)) (h1 : h.get? f = some (instObj 94 df)) (h2 : h.get? df = some (mkDict q k wd l x)) (h3 : h.get? l = some (listOf lines.toArray epl)) (h4 : h.get? x = some (accObj d its ep)) (h5 : h.get? d = some (accDict hs t t')) : Off P f df l x d := by
  refine ⟨fun e => ?_, fun e => ?_, fun e => ?_, fun e => ?_, fun e => ?_⟩
  · rw [e, h1] at hp; cases hp
  · rw [e, h2] at hp; cases hp
  · rw [e, h3] at hp; cases hp
  · rw [e, h4] at hp; cases hp
  · rw [e, h5] at hp; cases hp
theorem mcls_inst : (Value.ref 94 : Value) ≠ .type "tuple" := by simp
theorem mcls_list : (Value.type "list" : Value) ≠ .type "tuple" := by decide

section
variable {w : World} {A : Around} {s : Shared} {p : Program} {loose : List Str} {mg mb : Str → Option Value} {g₀ : Heap}
    {Q : Value → Shared → Prop} {E : Value → Shared → Prop} {f df l x d : Addr} {wd : Int} {lines its : List Value} {v : Value} {cs : List (Str × Str)}

theorem newline_c {r : Addr} {ga gb : Str} {ta tb : Tok} (hh : A.handled = none) (G : Gd (hd.heap_39 w.params) p loose mg mb g₀) (H : g₀.StaysIn s.heap) (hM : MakAt g₀ s.heap f df l x d wd lines (its ++ [.ref r])) (hC : Chs s.heap its cs) (hr : s.heap.get? r = some (tupObj ga gb ta tb))
    (hT : TB g₀ s.heap 140) (hT2 : TB g₀ s.heap 147)
    (hroom : A.depth + 35 < recursionLimit) (hu : A.units + 400 < cLine) (hlen : its.length < 900) (hsz : sizeOf' (cs ++ [(ga, gb)]) < 1000) (hpos : 0 < sizeOf' (cs ++ [(ga, gb)])) (hne : gb ≠ Str.ofString "") (ok1 : PyData.strOk ga = true) (ok2 : PyData.strOk gb = true) (hns : Txt.isspace (textOf (cs ++ [(ga, gb)])) = false) (hll : lines.length < 900)
    (hQ : ∀ t s', Go [l, x, d, 140, 147] s s' → MakAt g₀ s'.heap f df l x d wd (lines ++ [.str (textOf (cs ++ [(ga, gb)])) t]) [] → TB g₀ s'.heap 140 → TB g₀ s'.heap 147 → Q .none s') :
    wpAny (model PySem.Challenge.rw_wr0037_01.prog w) A (call (.ref 56) [.ref f]) Q E s := by
  k_extra "my hide"
  obtain ⟨q, k, epl, ep, hs, t₁, t₂, hf, hdf, hl, hx, hdd, ho, hdi⟩ := hM
  obtain ⟨ps, hps, tr, hps0⟩ := hT
  obtain ⟨ps2, hps2, tr2, hps02⟩ := hT2
  obtain ⟨n1, n2, n3, n4, n5⟩ := off_tab hps hf hdf hl hx hdd
  obtain ⟨m1, m2, m3, m4, m5⟩ := off_tab hps2 hf hdf hl hx hdd
  obtain ⟨d1, d2, d3, d4, d5, d6, d7, d8, d9, d10⟩ := id hdi
  k_extra "my back"
  have hn : ∀ z ∈ [(f, instObj 94 df), (df, mkDict q k wd l x), (l, listOf lines.toArray epl), (x, accObj d (its ++ [.ref r]) ep), (d, accDict hs t₁ t₂), (140, tabObj ps), (147, tabObj ps2)], s.heap.get? z.1 = some z.2 := all_cons hf (all_cons hdf (all_cons hl (all_cons hx (all_cons hdd (all_cons hps (all_cons hps2 all_nil))))))
  have ht : ∀ z ∈ [(f, instObj 94 df), (df, mkDict q k wd l x), (l, listOf lines.toArray epl), (x, accObj d (its ++ [.ref r]) ep), (d, accDict hs t₁ t₂), (140, tabObj ps), (147, tabObj ps2)], z.2.cls ≠ .type "tuple" := all_cons mcls_inst (all_cons mcls_dict (all_cons mcls_list (all_cons mcls_acc (all_cons mcls_dict (all_cons mcls_tab (all_cons mcls_tab all_nil))))))
  refine' enter (binds := [(Str.ofString "self", .ref f)]) [(f, instObj 94 df), (df, mkDict q k wd l x), (l, listOf lines.toArray epl), (x, accObj d (its ++ [.ref r]) ep), (d, accDict hs t₁ t₂), (140, tabObj ps), (147, tabObj ps2)] G H ?hn ?ho ?hcd ?hr ?hb ?hl ?hbody ?c2 ?c3 ?c4 ?c5
  k_extra "my enter"
  case hn => exact all_cons ⟨hf, ho.1⟩ (all_cons ⟨hdf, ho.2.1⟩ (all_cons ⟨hl, ho.2.2.1⟩ (all_cons ⟨hx, ho.2.2.2.1⟩ (all_cons ⟨hdd, ho.2.2.2.2⟩ (all_cons ⟨hps, hps0⟩ (all_cons ⟨hps2, hps02⟩ all_nil))))))
  case hr => omega
  case hbody =>
    intro g' L' h' G' st' kp' F' N' l1
    have X' := G'.X
    have T' := G'.T
    have hC0 : Chs g' its cs := chs_ground hC kp' hn ht
    have hr' : g'.get? r = some (tupObj ga gb ta tb) := by
      have z : Chs g' [.ref r] [(ga, gb)] := chs_ground (.one ⟨_, _, _, rfl, hr⟩) kp' hn ht
      refine kp' _ _ hr fun hm => ?_
      obtain ⟨q, hq, e⟩ := List.mem_map.mp hm
      have := hn q hq
      rw [e, hr] at this
      exact ht q hq (by rw [← Option.some.inj this])
    clear hn ht hC hr
    k_lt l1
    (show wpAny _ _ _ _ _ _); k_fold
    k_steps
    (try dsimp only)
    (show Q _ _)
    rename Fr _ _ _ _ => kF
    rename News _ _ _ _ => kN
    have key : ∀ u : Value, lines.toArray.push u = (lines ++ [u]).toArray := fun u => by simp
    rw [key] at kN
    refine hQ _ _ (.fin (kp_out kp' kF kN (all_cons hf (all_cons hdf (all_cons hl (all_cons hx (all_cons hdd (all_cons hps (all_cons hps2 all_nil))))))) (all_cons (.inr (by k_extra "my mem")) (all_cons (.inr (by k_extra "my mem")) (all_cons (.inl (by k_extra "my mem")) (all_cons (.inl (by k_extra "my mem")) (all_cons (.inl (by k_extra "my mem")) (all_cons (.inl (by k_extra "my mem")) (all_cons (.inl (by k_extra "my mem")) all_nil)))))))) ?os ?gens) ⟨q, k, _, _, _, _, _, kN.get (by k_extra "my mem"), kN.get (by k_extra "my mem"), kN.get (by k_extra "my mem"), kN.get (by k_extra "my mem"), kN.get (by k_extra "my mem"), ho, hdi⟩ ⟨_, kN.get (by k_extra "my mem"), by assumption, hps0⟩ ⟨_, kN.get (by k_extra "my mem"), by assumption, hps02⟩
    case os => k_extra "my os"
    case gens => k_extra "my gens"
end

section
variable {prog : Program} {w : World} {A : Around} {E : Value → Shared → Prop} {s : Shared} {K : Frag} {x C : Addr} {ox : Obj} {od : Option Obj}

/-- x[k] of a list of a class of the text's own -/
theorem getItem_int_own {items : Array Value} {ep : Nat} {i : Int} {u : Tok} {v : Value} {Q : Value → Shared → Prop} (X : K.In s.heap) (I : InstAt s.heap x ox C od) (hgi : findIn K (.ref C) "__getitem__" = some (some (.builtin "list.__getitem__")))
    (hq : noSeq K C = true) (hm : mroIn K C (.type "list") = some true) (hd : ox.data = .seq items ep) (h0 : 0 ≤ i) (h1 : i < 1000) (hv : items[i.toNat]? = some v) (h : Q v s) : wpAny (model prog w) A (getItem (.ref x) (.int i u)) Q E s := by
  obtain ⟨tf, ht, htf⟩ := gi_call (K := K) (tf := .none) tf_gi
  have fit : Builtin.List.listFitsIndex i = true := fitsIndex_both (by omega) (by omega)
  unfold getItem
  refine wpAny_holding (wpAny_bind (seqKey_own X I hq ?_))
  refine wpAny_bind (special_any X I hgi ht htf (call_bi plain_gi entry_list_getitem kind_gi split_gi (isinst_of X I hm) (args_list_getitem _ _) ?_))
  show wpAny _ _ (Builtin.List.listSubscript? (.int i u) >>= _) _ _ s
  refine wpAny_bind (wpAny_listSubscript_int fit ?_)
  obtain ⟨k, rfl⟩ := Int.eq_ofNat_of_zero_le h0
  show wpAny _ _ ((seqItemAt x k >>= fun r => pure (r.map (k, ·))) >>= _) _ _ s
  refine wpAny_bind (wpAny_bind (wpAny_seqItemAt I.at_ hd (wpAny_pure ?_)))
  rw [Int.toNat_natCast] at hv
  rw [hv]
  exact wpAny_pure (wpAny_pure h)

theorem subTail_int_own {value slice : Expr} {items : Array Value} {ep : Nat} {i : Int} {u : Tok} {v : Value} {Q : Value → Shared → Prop} (X : K.In s.heap) (I : InstAt s.heap x ox C od) (hgi : findIn K (.ref C) "__getitem__" = some (some (.builtin "list.__getitem__")))
    (hq : noSeq K C = true) (hm : mroIn K C (.type "list") = some true) (hd : ox.data = .seq items ep) (h0 : 0 ≤ i) (h1 : i < 1000) (hv : items[i.toNat]? = some v) (h : Q v s)
    (hs : subscripted slice false (.ref x) (.int i u) = operate [.ref x, .int i u] (getItem (.ref x) (.int i u)) := by with_unfolding_all rfl) :
    wpAny (model prog w) A (subscriptTail value slice (.ref x) (.int i u)) Q E s := by
  unfold subscriptTail
  refine wpAny_bind ((looks_gip X I hgi).here ?_)
  rw [hs]
  refine wpAny_bind (wpAny_operating (getItem_int_own X I hgi hq hm hd h0 h1 hv ?_))
  exact wpAny_bind (wpAny_letTemporaryGo (wpAny_pure h))

noncomputable abbrev rngIt (x left step : Int) : Obj := { cls := .type "range_iterator", dict := none, data := .fields #[rawInt x, rawInt left, rawInt step], slots := #[] }
section
variable {g : Heap} {L it : Addr} {m : Str → Option Value} {news : List (Addr × Obj)}
theorem next_range_L {a left step : Int} {news' : List (Addr × Obj)} {Q : Option Value → Shared → Prop} (F : Fr g L s.heap m) (N : News g L s.heap news) (U : Upd it (rngIt a left step) (rngIt (a + step) (left - 1) step) news news') (hl : 0 < left)
    (h : ∀ h', Fr g L h' m → News g L h' news' → Q (some (.int a s.toks)) { s with heap := h', toks := s.toks + 1 }) : wpAny (model prog w) A (pyNext (.ref it)) Q E s := by
  obtain ⟨pre, post, rfl, rfl, a1, b1⟩ := U.split
  have z := N (it, _) (List.mem_append.mpr (.inr (.head _)))
  exact wpAny_pyNext_range_item z.1 hl fun h' hit hs => h h' (F.change hs z.2.1 z.2.2) (news_set N a1 b1 hs hit)
theorem next_none_L {Q : Option Value → Shared → Prop} {a step : Int} (hh : A.handled = none) (F : Fr g L s.heap m) (N : News g L s.heap ((it, rngIt a 0 step) :: news)) (hn : ∀ p ∈ news, p.1 ≠ it)
    (h : ∀ h', Fr g L h' m → News g L h' news → Q none { s with heap := h' }) : wpAny (model prog w) A (pyNext (.ref it)) Q E s := by
  have z := N (it, _) (.head _)
  refine wpAny_pyNext_range_end hh z.1 (Int.le_refl _) fun h' he => h h' ?_ fun p hp => ?_
  · exact ⟨F.ns.at' fun o e => he _ o (Ne.symm z.2.1) e, fun b o e => he b o (fun q => by rw [q, z.2.2] at e; cases e) (F.keep b o e), F.above⟩
  · have y := N p (.tail _ hp)
    exact ⟨he _ _ (hn p hp) y.1, y.2⟩
/-- a walk over the one sign of a blank -/
noncomputable abbrev SpIt (o : Obj) (i : Nat) (t : Tok) : Prop := o.cls = .type "str_ascii_iterator" ∧ o.data = .fields #[.str (Str.ofString " ") t, .int (i : Int) 0]
theorem iter_sp_L {t : Tok} {Q : Value → Shared → Prop} (F : Fr g L s.heap m) (N : News g L s.heap news)
    (h : ∀ q o h', Fr g L h' m → News g L h' ((q, o) :: news) → (∀ p ∈ news, p.1 < q) → SpIt o 0 t → Q (.ref q) { s with heap := h' }) : wpAny (model prog w) A (pyIter (.str (Str.ofString " ") t)) Q E s :=
  wpAny_pyIter_ascii (by decide +kernel) (h _ _ _ (F.push _) (N.push F _) (fun p hp => Heap.lt_size (N p hp).1) ⟨rfl, rfl⟩)
theorem sp_eq : (⟨#[32]⟩ : Str) = Str.ofString " " := by decide +kernel
theorem next_sp_L {o : Obj} {t : Tok} {gf : Obj → List (Addr × Obj)} {Q : Option Value → Shared → Prop} (F : Fr g L s.heap m) (N : News g L s.heap news) (U : UpdF it o news gf) (ho : SpIt o 0 t)
    (h : ∀ h' o', Fr g L h' m → News g L h' (gf o') → SpIt o' 1 t → Q (some (.str (Str.ofString " ") s.toks)) { s with heap := h', toks := s.toks + 1 }) : wpAny (model prog w) A (pyNext (.ref it)) Q E s := by
  obtain ⟨pre, post, rfl, hg, a1, b1⟩ := U.split
  have z := N (it, _) (List.mem_append.mpr (.inr (.head _)))
  have e0 : (Str.ofString " ").cps[0]? = some 32 := by decide +kernel
  have i0 : s.heap.IsStrIter it "str_ascii_iterator" (Str.ofString " ") t 0 := ⟨o, z.1, ho.1, ho.2⟩
  refine wpAny_pyNext_ascii_item i0 e0 fun h' hit hs => ?_
  obtain ⟨o', ho', r⟩ := hit
  rw [sp_eq]
  refine h h' o' (F.change hs z.2.1 z.2.2) ?_ r
  rw [hg]
  exact news_set N a1 b1 hs ho'
theorem end_sp_L {o : Obj} {t : Tok} {Q : Option Value → Shared → Prop} (hh : A.handled = none) (F : Fr g L s.heap m) (N : News g L s.heap ((it, o) :: news)) (hn : ∀ p ∈ news, p.1 ≠ it) (ho : SpIt o 1 t)
    (h : ∀ h', Fr g L h' m → News g L h' news → Q none { s with heap := h' }) : wpAny (model prog w) A (pyNext (.ref it)) Q E s := by
  have z := N (it, _) (.head _)
  have e1 : (Str.ofString " ").cps[1]? = none := by decide +kernel
  have i1 : s.heap.IsStrIter it "str_ascii_iterator" (Str.ofString " ") t 1 := ⟨o, z.1, ho.1, ho.2⟩
  refine wpAny_pyNext_ascii_end hh i1 e1 fun h' he => h h' ?_ fun p hp => ?_
  · exact ⟨F.ns.at' fun o e => he _ o (Ne.symm z.2.1) e, fun b o e => he b o (fun q => by rw [q, z.2.2] at e; cases e) (F.keep b o e), F.above⟩
  · have y := N p (.tail _ hp)
    exact ⟨he _ _ (hn p hp) y.1, y.2⟩
end
end

/-- the state that a loop may not touch: what is printed, and the generators -/
noncomputable abbrev Sm (s s' : Shared) : Prop := s'.os = s.os ∧ (AllBare s.gens → AllBare s'.gens)
theorem Sm.refl (s : Shared) : Sm s s := ⟨rfl, id⟩
theorem Sm.trans {a b c : Shared} (x : Sm a b) (y : Sm b c) : Sm a c := ⟨y.1.trans x.1, fun h => y.2 (x.2 h)⟩

/-- the end of a turn down a range -/
noncomputable def DownEnd (g : Heap) (L it : Addr) (base : List (Addr × Obj)) (J : Nat → (Str → Option Value) → Prop) (s : Shared) (k : Nat) (s₃ : Shared) : Prop :=
  Sm s s₃ ∧ ∃ m₃, J k m₃ ∧ Fr g L s₃.heap m₃ ∧ News g L s₃.heap ((it, rngIt k k (-1)) :: base)
/-- the end of the one turn over a blank's sign -/
noncomputable def BlankEnd (prog : Program) (w : World) (A : Around) (g : Heap) (L it : Addr) (base : List (Addr × Obj)) (o' : Obj) (R : Result → Shared → Prop) (orelse : List Stmt) (env : Env) (s s₃ : Shared) : Prop :=
  Sm s s₃ ∧ ∃ m₃, Fr g L s₃.heap m₃ ∧ News g L s₃.heap ((it, o') :: base) ∧ ∀ (s' : Shared) (E' : Value → Shared → Prop), Sm s s' → Fr g L s'.heap m₃ → News g L s'.heap base → wpAny (model prog w) A (execs orelse env) (fun f s₃ => R (.ok f) s₃) E' s'

section
variable {prog : Program} {w : World} {A : Around} {s : Shared} {g : Heap} {L it : Addr} {m : Str → Option Value} {base : List (Addr × Obj)} {R : Result → Shared → Prop} {cn : Str} {cs : Scope} {a : Addr} {ccd : Value} {cl : List (Str × Addr)}

/-- a walk down a range: hi, hi - 1, .. 1 -/
theorem loop_down {x : Str} {px : Pos} {body orelse : List Stmt} {hi : Nat} {J : Nat → (Str → Option Value) → Prop} (hh : A.handled = none) (hk : cs.kind = .function) (hx : (envX cn cs L a ccd cl).kindOf x = some .local)
    (F : Fr g L s.heap m) (N : News g L s.heap ((it, rngIt hi hi (-1)) :: base)) (hb : ∀ p ∈ base, p.1 ≠ it) (hJ : J hi m)
    (turn : ∀ (k : Nat) (s' : Shared) (m' : Str → Option Value) (tk : Tok) (E' : Value → Shared → Prop), k < hi → J (k + 1) m' → Sm s s' → Fr g L s'.heap (fun y => if y = x then some (.int ((k : Int) + 1) tk) else m' y) → News g L s'.heap ((it, rngIt k k (-1)) :: base) →
      wpAny (model prog w) A (execs body (envX cn cs L a ccd cl)) (fun f s₃ => match f with
        | .next | .cont => DownEnd g L it base J s k s₃
        | .brk => R (.ok .next) s₃
        | .ret v => R (.ok (.ret v)) s₃) E' s')
    (last : ∀ (s' : Shared) (m' : Str → Option Value) (E' : Value → Shared → Prop), J 0 m' → Sm s s' → Fr g L s'.heap m' → News g L s'.heap base → wpAny (model prog w) A (execs orelse (envX cn cs L a ccd cl)) (fun f s₃ => R (.ok f) s₃) E' s') :
    codeAny (model prog w) A (.forLoop (.Name x px) (.ref it) body orelse (envX cn cs L a ccd cl)) R s := by
  refine codeAny_forLoop (fun k s' => k ≤ hi ∧ Sm s s' ∧ ∃ m', J k m' ∧ Fr g L s'.heap m' ∧ News g L s'.heap ((it, rngIt k k (-1)) :: base)) (fun k s' hI => ?_) hi ⟨Nat.le_refl _, .refl s, m, hJ, F, N⟩
  obtain ⟨hk1, sm, m', J', F', N'⟩ := hI
  cases k with
  | zero => exact next_none_L hh F' N' hb fun h' F'' N'' => last _ _ _ J' ⟨sm.1, sm.2⟩ F'' N''
  | succ k =>
    refine next_range_L (a := ((k + 1 : Nat) : Int)) (left := ((k + 1 : Nat) : Int)) (step := -1) (news' := (it, rngIt k k (-1)) :: base) F' N' ?_ (by omega) fun h' F'' N'' => ?_
    · have e : rngIt (((k + 1 : Nat) : Int) + -1) (((k + 1 : Nat) : Int) - 1) (-1) = rngIt k k (-1) := by
        have h1 : (((k + 1 : Nat) : Int) + -1) = (k : Int) := by omega
        have h2 : (((k + 1 : Nat) : Int) - 1) = (k : Int) := by omega
        rw [h1, h2]
      rw [e]
      exact .head hb
    · refine wpAny_assign_Name (storeX_L F'' N'' (fun h3 F3 N3 => ?_) hk hx)
      have z := turn k ⟨h3, s'.gens, s'.drawn, s'.toks + 1 + 1, s'.os⟩ m' s'.toks (notedBy (model prog w) A (envX cn cs L a ccd cl) fun e s' => R (.error e) s') (by omega) J' ⟨sm.1, sm.2⟩ F3 N3
      refine wpAny_mono z (fun f s₃ h₃ => ?_) fun _ _ e => e
      cases f with
      | next => obtain ⟨sm3, m3, J3, F3, N3⟩ := h₃; exact ⟨k, Nat.lt_succ_self _, by omega, sm3, m3, J3, F3, N3⟩
      | cont => obtain ⟨sm3, m3, J3, F3, N3⟩ := h₃; exact ⟨k, Nat.lt_succ_self _, by omega, sm3, m3, J3, F3, N3⟩
      | brk => exact h₃
      | ret v => exact h₃

/-- a walk over the one sign of a blank -/
theorem loop_blank {x : Str} {px : Pos} {body orelse : List Stmt} {o : Obj} {t : Tok} (hh : A.handled = none) (hk : cs.kind = .function) (hx : (envX cn cs L a ccd cl).kindOf x = some .local)
    (F : Fr g L s.heap m) (N : News g L s.heap ((it, o) :: base)) (hb : ∀ p ∈ base, p.1 ≠ it) (ho : SpIt o 0 t)
    (turn : ∀ (o' : Obj) (s' : Shared) (tk : Tok) (E' : Value → Shared → Prop), SpIt o' 1 t → Sm s s' → Fr g L s'.heap (fun y => if y = x then some (.str (Str.ofString " ") tk) else m y) → News g L s'.heap ((it, o') :: base) →
      wpAny (model prog w) A (execs body (envX cn cs L a ccd cl)) (fun f s₃ => match f with
        | .next | .cont => BlankEnd prog w A g L it base o' R orelse (envX cn cs L a ccd cl) s s₃
        | .brk => R (.ok .next) s₃
        | .ret v => R (.ok (.ret v)) s₃) E' s') :
    codeAny (model prog w) A (.forLoop (.Name x px) (.ref it) body orelse (envX cn cs L a ccd cl)) R s := by
  refine codeAny_forLoop (fun k s' => (k = 1 ∧ s' = s) ∨ (k = 0 ∧ Sm s s' ∧ ∃ m₃ o', SpIt o' 1 t ∧ Fr g L s'.heap m₃ ∧ News g L s'.heap ((it, o') :: base) ∧ ∀ (s' : Shared) (E' : Value → Shared → Prop), Sm s s' → Fr g L s'.heap m₃ → News g L s'.heap base → wpAny (model prog w) A (execs orelse (envX cn cs L a ccd cl)) (fun f s₃ => R (.ok f) s₃) E' s')) (fun k s' hI => ?_) 1 (.inl ⟨rfl, rfl⟩)
  rcases hI with ⟨rfl, rfl⟩ | ⟨rfl, sm, m₃, o', so, F', N', after⟩
  · refine next_sp_L (gf := fun o' => (it, o') :: base) F N (.head hb) ho fun h' o' F'' N'' so => ?_
    refine wpAny_assign_Name (storeX_L F'' N'' (fun h3 F3 N3 => ?_) hk hx)
    have z := turn o' ⟨h3, s'.gens, s'.drawn, s'.toks + 1 + 1, s'.os⟩ s'.toks (notedBy (model prog w) A (envX cn cs L a ccd cl) fun e s' => R (.error e) s') so ⟨rfl, id⟩ F3 N3
    refine wpAny_mono z (fun f s₃ h₃ => ?_) fun _ _ e => e
    cases f with
    | next => obtain ⟨sm3, m3, F3, N3, af⟩ := h₃; exact ⟨0, Nat.zero_lt_one, .inr ⟨rfl, sm3, m3, o', so, F3, N3, af⟩⟩
    | cont => obtain ⟨sm3, m3, F3, N3, af⟩ := h₃; exact ⟨0, Nat.zero_lt_one, .inr ⟨rfl, sm3, m3, o', so, F3, N3, af⟩⟩
    | brk => exact h₃
    | ret v => exact h₃
  · exact end_sp_L hh F' N' hb so fun h' F'' N'' => after _ _ ⟨sm.1, sm.2⟩ F'' N''
end

section
variable {prog : Program} {w : World} {A : Around} {E : Value → Shared → Prop} {s : Shared} {g : Heap} {L : Addr} {m : Str → Option Value} {news : List (Addr × Obj)}
noncomputable abbrev rngOb (a b c : Int) (t u v : Tok) : Obj := { cls := .type "range", dict := none, data := .fields #[.int a t, .int b u, .int c v], slots := #[] }
theorem range_L {a : Int} {t u v : Tok} {Q : Value → Shared → Prop} (F : Fr g L s.heap m) (N : News g L s.heap news)
    (h : ∀ r h' tk t u v, Fr g L h' m → News g L h' ((r, rngOb a 0 (-1) t u v) :: news) → (∀ p ∈ news, p.1 < r) → Q (.ref r) { s with heap := h', toks := tk }) : wpAny (model prog w) A (call (.type "range") [.int a t, .int 0 u, .int (-1) v]) Q E s := by
  refine call_range_3 (by decide) ?_
  exact h _ _ _ t u v (F.push _) (N.push F _) fun p hp => Heap.lt_size (N p hp).1
theorem iter_range_L {r : Addr} {hi : Nat} {t u v : Tok} {Q : Value → Shared → Prop} (F : Fr g L s.heap m) (N : News g L s.heap news) (hr : (r, rngOb (hi : Int) 0 (-1) t u v) ∈ news) (hz : hi < 1000)
    (h : ∀ q h', Fr g L h' m → News g L h' ((q, rngIt hi hi (-1)) :: news) → (∀ p ∈ news, p.1 < q) → Q (.ref q) { s with heap := h' }) : wpAny (model prog w) A (pyIter (.ref r)) Q E s := by
  have e : Builtin.Range.rangeSize (hi : Int) 0 (-1) = (hi : Int) := by
    unfold Builtin.Range.rangeSize
    rw [if_neg (by decide)]
    by_cases h0 : (hi : Int) > 0
    · rw [if_pos h0, show (-(-1 : Int)) = 1 from rfl, Int.ediv_one]; omega
    · rw [if_neg h0]; omega
  refine wpAny_pyIter_range (N _ hr).1 ?_ ?_
  · unfold Builtin.Range.small Builtin.Range.rangeFitsLong
    rw [e]
    simp
    omega
  · rw [e]
    exact h _ _ (F.push _) (N.push F _) fun p hp => Heap.lt_size (N p hp).1
/-- the first sign is a blank -/
noncomputable def isBl (x : Str) : Bool := decide (1 ≤ x.length) && (Txt.item x 0 == Str.ofString " ")
theorem tr_str {x : Str} {t : Tok} {b : Bool} {Q : Bool → Shared → Prop} (hl : x.length ≤ 1000) (e : ((x.length : Int) != 0) = b) (h : ∀ k, Q b { s with toks := k }) : wpAny (model prog w) A (truthy (.str x t)) Q E s := KXt.truthy e (by omega) h
theorem eq_str_b {x y : Str} {t u : Tok} {b : Bool} {Q : Value → Shared → Prop} (e : (x == y) = b) (h : Q (.bool b) s) : wpAny (model prog w) A (compareOp .Eq (.str x t) (.str y u)) Q E s := eq_str (by rw [e]; exact h)
theorem sub_str {value slice : Expr} {x : Str} {t u : Tok} {i : Int} {Q : Value → Shared → Prop} (hl : x.length ≤ 1000) (h0 : -(x.length : Int) ≤ i) (h1 : i < (x.length : Int)) (h : Q (.str (Txt.item x i) s.toks) { s with toks := s.toks + 1 })
    (hs : subscripted slice false (.str x t) (.int i u) = operate [.str x t, .int i u] (getItem (.str x t) (.int i u)) := by with_unfolding_all rfl)
    (ht : ∀ r, letTemporaryGo value (.str x t) r = pure () := by intro _; with_unfolding_all rfl) : wpAny (model prog w) A (subscriptTail value slice (.str x t) (.int i u)) Q E s :=
  KXi.item rfl h0 h1 (by omega) (fun _ => h) hs ht
end
example : True := by
  (k_with "call type:range" => (k_here; (with_reducible show wpAny _ _ (call (Value.type "range") [Value.int _ _, Value.int 0 _, Value.int (-1) _]) _ _ _); k_dflt (refine' range_L (by k_asm) (by k_asm) ?_); intro _ _ _ _ _ _ _ _ l1ₘ; (try k_lt l1ₘ); (try k_sweep)))
  trivial

noncomputable abbrev gapsL : List Str := [Str.ofString "", Str.ofString " ", Str.ofString "\t", Str.ofString "  "]
noncomputable abbrev wordsL : List Str := [Str.ofString "a", Str.ofString "b", Str.ofString "ab", Str.ofString "aba", Str.ofString "bb"]
/-- a pair of a gap and a word, as the law builds them -/
noncomputable def OkCh (c : Str × Str) : Prop := c.1 ∈ gapsL ∧ c.2 ∈ wordsL
noncomputable def goodGap (x : Str) : Bool := PyData.strOk x && decide (x.length ≤ 2)
noncomputable def goodWord (x : Str) : Bool := PyData.strOk x && decide (1 ≤ x.length) && decide (x.length ≤ 3) && !(Txt.item x (-1) == Str.ofString " ") && !(x == Str.ofString "")
theorem gaps_good : ∀ x ∈ gapsL, goodGap x = true := by decide +kernel
theorem words_good : ∀ x ∈ wordsL, goodWord x = true := by decide +kernel
theorem OkCh.gok {c : Str × Str} (h : OkCh c) : PyData.strOk c.1 = true := by have := gaps_good _ h.1; unfold goodGap at this; simp only [Bool.and_eq_true] at this; exact this.1
theorem OkCh.wok {c : Str × Str} (h : OkCh c) : PyData.strOk c.2 = true := by have := words_good _ h.2; unfold goodWord at this; simp only [Bool.and_eq_true] at this; exact this.1.1.1.1
theorem OkCh.glen {c : Str × Str} (h : OkCh c) : c.1.length ≤ 2 := by have := gaps_good _ h.1; unfold goodGap at this; simp only [Bool.and_eq_true, decide_eq_true_eq] at this; exact this.2
theorem OkCh.wpos {c : Str × Str} (h : OkCh c) : 1 ≤ c.2.length := by have := words_good _ h.2; unfold goodWord at this; simp only [Bool.and_eq_true, decide_eq_true_eq] at this; exact this.1.1.1.2
theorem OkCh.wlen {c : Str × Str} (h : OkCh c) : c.2.length ≤ 3 := by have := words_good _ h.2; unfold goodWord at this; simp only [Bool.and_eq_true, decide_eq_true_eq] at this; exact this.1.1.2
theorem OkCh.wlast {c : Str × Str} (h : OkCh c) : (Txt.item c.2 (-1) == Str.ofString " ") = false := by have := words_good _ h.2; unfold goodWord at this; simp only [Bool.and_eq_true, Bool.not_eq_true'] at this; exact this.1.2
theorem OkCh.wne {c : Str × Str} (h : OkCh c) : c.2 ≠ Str.ofString "" := by have := words_good _ h.2; unfold goodWord at this; simp only [Bool.and_eq_true, Bool.not_eq_true', beq_eq_false_iff_ne] at this; exact this.2

/-- the last place from k down to 1 whose gap begins with a blank -/
noncomputable def cutAt (cs : List (Str × Str)) : Nat → Option Nat
  | 0 => none
  | k + 1 => if isBl (cs.getD (k + 1) ("", "")).1 then some (k + 1) else cutAt cs k
/-- one chunk laid on the line -/
noncomputable def lay1 (wd : Int) (st : List Str × List (Str × Str)) (c : Str × Str) : List Str × List (Str × Str) :=
  if wd < (sizeOf' (st.2 ++ [c]) : Nat) then
    match cutAt (st.2 ++ [c]) st.2.length with
    | some i => (st.1 ++ [textOf ((st.2 ++ [c]).take i)], (st.2 ++ [c]).drop i)
    | none => (st.1, st.2 ++ [c])
  else (st.1, st.2 ++ [c])
theorem lay1_cut {wd : Int} {ls : List Str} {cs : List (Str × Str)} {c : Str × Str} {i : Nat} (h1 : wd < (sizeOf' (cs ++ [c]) : Nat)) (h2 : cutAt (cs ++ [c]) cs.length = some i) : lay1 wd (ls, cs) c = (ls ++ [textOf ((cs ++ [c]).take i)], (cs ++ [c]).drop i) := by
  unfold lay1; rw [if_pos h1, h2]
theorem lay1_none {wd : Int} {ls : List Str} {cs : List (Str × Str)} {c : Str × Str} (h2 : cutAt (cs ++ [c]) cs.length = none) : lay1 wd (ls, cs) c = (ls, cs ++ [c]) := by
  unfold lay1; rw [h2]; split <;> rfl
theorem lay1_fit {wd : Int} {ls : List Str} {cs : List (Str × Str)} {c : Str × Str} (h1 : ¬ wd < (sizeOf' (cs ++ [c]) : Nat)) : lay1 wd (ls, cs) c = (ls, cs ++ [c]) := by
  unfold lay1; rw [if_neg h1]
theorem sizeOf'_take (cs : List (Str × Str)) (k : Nat) : sizeOf' (cs.take k) ≤ sizeOf' cs := by
  unfold sizeOf'
  conv => rhs; rw [← List.take_append_drop k cs, List.map_append, List.sum_append]
  omega
/-- none of these stood in the ground -/
noncomputable def Fresh (g : Heap) (its : List Value) : Prop := ∀ r : Addr, Value.ref r ∈ its → g.get? r = none
theorem Fresh.nil {g : Heap} : Fresh g [] := fun _ h => nomatch h
theorem Fresh.append {g : Heap} {a b : List Value} (x : Fresh g a) (y : Fresh g b) : Fresh g (a ++ b) := fun r h => (List.mem_append.mp h).elim (x r) (y r)
theorem Fresh.one {g : Heap} {r : Addr} (x : g.get? r = none) : Fresh g [.ref r] := fun q h => by
  rcases List.mem_cons.mp h with e | h
  · cases e; exact x
  · cases h
theorem Fresh.take {g : Heap} {a : List Value} (x : Fresh g a) (k : Nat) : Fresh g (a.take k) := fun r h => x r (List.mem_of_mem_take h)
theorem Fresh.drop {g : Heap} {a : List Value} (x : Fresh g a) (k : Nat) : Fresh g (a.drop k) := fun r h => x r (List.mem_of_mem_drop h)
theorem fresh_of {g₀ g h : Heap} {L r : Addr} {news : List (Addr × Obj)} {o : Obj} (st : g₀.StaysIn g) (N : News g L h news) (hr : (r, o) ∈ news) : g₀.get? r = none := by
  cases e : g₀.get? r with
  | none => rfl
  | some o' => have := (N _ hr).2.2; rw [st _ _ e] at this; cases this
inductive StrL : List Value → List Str → Prop
  | nil : StrL [] []
  | cons {x t vs xs} : StrL vs xs → StrL (.str x t :: vs) (x :: xs)
theorem StrL.append {vs xs vs' xs'} (C : StrL vs xs) (D : StrL vs' xs') : StrL (vs ++ vs') (xs ++ xs') := by
  induction C with
  | nil => exact D
  | cons _ ih => exact .cons ih
theorem StrL.length {vs xs} (C : StrL vs xs) : vs.length = xs.length := by
  induction C with
  | nil => rfl
  | cons _ ih => exact congrArg (· + 1) ih

section
variable {prog : Program} {w : World} {A : Around} {E : Value → Shared → Prop} {s : Shared} {K : Frag} {g : Heap} {L x C dx : Addr} {m : Str → Option Value} {news : List (Addr × Obj)}
theorem acc_item_L {value slice : Expr} {its : List Value} {cs : List (Str × Str)} {c : Str × Str} {od : Obj} {ep : Nat} {i : Int} {u : Tok} {j : Nat} {Q : Value → Shared → Prop} (F : Fr g L s.heap m) (N : News g L s.heap news) (X₀ : K.In g) (hx : (x, (⟨.ref C, some dx, .seq its.toArray ep, #[]⟩ : Obj)) ∈ news) (hdx : (dx, od) ∈ news)
    (hgi : findIn K (.ref C) "__getitem__" = some (some (.builtin "list.__getitem__"))) (hq : noSeq K C = true) (hm : mroIn K C (.type "list") = some true) (hC : Chs s.heap its cs) (hi : i = (j : Int)) (hj : j < 1000) (hc : cs[j]? = some c)
    (h : ∀ rr t t', s.heap.get? rr = some (tupObj c.1 c.2 t t') → Q (.ref rr) s)
    (hs : subscripted slice false (.ref x) (.int i u) = operate [.ref x, .int i u] (getItem (.ref x) (.int i u)) := by with_unfolding_all rfl) :
    wpAny (model prog w) A (subscriptTail value slice (.ref x) (.int i u)) Q E s := by
  obtain ⟨v, hv, rr, t, t', rfl, ho⟩ := hC.get j c hc
  subst hi
  exact subTail_int_own (X₀.keeps F.keep) (InstAt.of_seq N hx hdx) hgi hq hm rfl (by omega) (by omega) (by simpa using hv) (h rr t t' ho) hs

theorem tup_item {value slice : Expr} {rr : Addr} {ga gb : Str} {t t' : Tok} {i : Int} {u : Tok} {v : Value} {Q : Value → Shared → Prop} (ho : s.heap.get? rr = some (tupObj ga gb t t')) (hi : (i = 0 ∧ v = .str ga t) ∨ (i = 1 ∧ v = .str gb t')) (h : Q v s)
    (hs : subscripted slice false (.ref rr) (.int i u) = operate [.ref rr, .int i u] (getItem (.ref rr) (.int i u)) := by with_unfolding_all rfl) :
    wpAny (model prog w) A (subscriptTail value slice (.ref rr) (.int i u)) Q E s := by
  have ht : IsTup s.heap rr [Value.str ga t, Value.str gb t'].toArray := ⟨_, ho, rfl, 0, rfl⟩
  rcases hi with ⟨rfl, rfl⟩ | ⟨rfl, rfl⟩
  · exact item_tupleT (j := 0) ht (by decide) (by decide) rfl rfl h hs
  · exact item_tupleT (j := 1) ht (by decide) (by decide) rfl rfl h hs

theorem unpack_pair {env : Env} {elts : List Expr} {kk : Nat} {pos : Pos} {rr : Addr} {ga gb : Str} {t t' : Tok} {Q : Unit → Shared → Prop} (F : Fr g L s.heap m) (N : News g L s.heap news) (ho : s.heap.get? rr = some (tupObj ga gb t t'))
    (hh : A.handled = none) (hn : (assignEach elts env).length = 2) (hstar : (assignEach elts env).findIdx? (·.1) = none)
    (h : ∀ h', Fr g L h' m → News g L h' news → wpAny (model prog w) A (assignInOrder ((assignEach elts env).map (·.2)) [.str ga t, .str gb t']) Q E { s with heap := h' }) :
    wpAny (model prog w) A (assign (.Tuple elts kk pos) env (.ref rr)) Q E s :=
  unpackN_ (items := #[.str ga t, .str gb t']) F N ⟨_, ho, rfl, 0, rfl⟩ hh hn hstar h
end

theorem cutAt_none {cs : List (Str × Str)} : ∀ {n : Nat}, (∀ j, 0 < j → j ≤ n → isBl (cs.getD j ("", "")).1 = false) → cutAt cs n = none
  | 0, _ => rfl
  | n + 1, h => by
    unfold cutAt
    rw [if_neg (by rw [h (n + 1) (Nat.succ_pos _) (Nat.le_refl _)]; simp)]
    exact cutAt_none fun j h1 h2 => h j h1 (by omega)
theorem cutAt_some {cs : List (Str × Str)} {k : Nat} : ∀ {n : Nat}, k < n → isBl (cs.getD (k + 1) ("", "")).1 = true → (∀ j, k + 1 < j → j ≤ n → isBl (cs.getD j ("", "")).1 = false) → cutAt cs n = some (k + 1)
  | 0, h, _, _ => absurd h (Nat.not_lt_zero _)
  | n + 1, h, hb, hn => by
    unfold cutAt
    by_cases e : n = k
    · subst e; rw [if_pos hb]
    · rw [if_neg (by rw [hn (n + 1) (by omega) (Nat.le_refl _)]; simp)]
      exact cutAt_some (by omega) hb fun j h1 h2 => hn j h1 (by omega)
theorem Sm.os {a b : Shared} (h : Sm a b) : b.os = a.os := h.1
theorem Sm.gens {a b : Shared} (h : Sm a b) : AllBare a.gens → AllBare b.gens := h.2
example : True := by
  (k_with "my os" => ((try dsimp only); repeat (first | (with_reducible exact rfl) | (refine Eq.trans (Go.os (by assumption)) ?_; dsimp only) | (refine Eq.trans (Sm.os (by assumption)) ?_; dsimp only))))
  (k_with "my gens" => ((try dsimp only); intro hbₘ; repeat (first | (with_reducible exact hbₘ) | (refine Go.gens (by assumption) ?_; dsimp only) | (refine Sm.gens (by assumption) ?_; dsimp only))))
  (k_with "eval Name" => (k_here; k_dflt (refine' ld (by k_asm) (by assumption) ?_; k_whole)))
  (k_with "assign Tuple" => (k_here; (with_reducible show wpAny _ _ (assign (Expr.Tuple _ _ _) _ (Value.ref _)) _ _ _); k_dflt (refine' unpack_pair (by k_asm) (by k_asm) (by k_extra "my get") (by assumption) (by exact rfl) (by exact rfl) ?_); intro _ _ _; (try k_sweep)))
  (k_with "truthy str" => (k_here; k_dflt (refine' tr_str (by first | assumption | omega) (by assumption) ?_; k_whole); intro _))
  (k_with "subscriptTail" => (k_here; (with_reducible show wpAny _ _ (subscriptTail _ _ (Value.str _ _) (Value.int _ _)) _ _ _); k_dflt (refine' sub_str (by omega) (by omega) (by omega) ?_; k_whole)))
  (k_with "compareOp Eq str str" => (k_here; k_dflt (refine' eq_str_b (by assumption) ?_; k_whole)))
  trivial
theorem isBl_of {x : Str} {b : Bool} (h : 1 ≤ x.length) (e : (Txt.item x 0 == Str.ofString " ") = b) : isBl x = b := by
  unfold isBl; rw [decide_eq_true h, e]; rfl
theorem isBl_nil {x : Str} (h : x.length = 0) : isBl x = false := by
  unfold isBl; rw [decide_eq_false (by omega)]; rfl

section
variable {w : World} {A : Around} {s : Shared} {p : Program} {loose : List Str} {mg mb : Str → Option Value} {g₀ : Heap}
    {Q : Value → Shared → Prop} {E : Value → Shared → Prop} {f df l x d : Addr} {wd : Int} {lines its : List Value} {v : Value} {cs : List (Str × Str)}

noncomputable abbrev ApdJ (f : Addr) (its : List Value) (cs : List (Str × Str)) (ga gb : Str) (k : Nat) (m' : Str → Option Value) : Prop := m' (Str.ofString "self") = some (.ref f) ∧ (∃ t, m' (Str.ofString "ch") = some (.str (Str.ofString " ") t)) ∧ ∀ j, k < j → j ≤ its.length → isBl ((cs ++ [(ga, gb)]).getD j ("", "")).1 = false
theorem append_chunk_c {ls : List Str} {ga gb : Str} {ta tb : Tok} (hh : A.handled = none) (G : Gd (hd.heap_39 w.params) p loose mg mb g₀) (H : g₀.StaysIn s.heap) (hM : MakAt g₀ s.heap f df l x d wd lines its) (hC : Chs s.heap its cs) (hok : ∀ c ∈ cs ++ [(ga, gb)], OkCh c) (hfr : Fresh g₀ its)
    (hT : TB g₀ s.heap 140) (hT2 : TB g₀ s.heap 147)
    (hroom : A.depth + 45 < recursionLimit) (hu : A.units + 500 < cLine) (hlen : its.length < 900) (hsz : sizeOf' (cs ++ [(ga, gb)]) < 1000) (hll : lines.length < 900)
    (hL : StrL lines ls)
    (hQ : ∀ s' lines' its', Go [l, x, d, 140, 147] s s' → MakAt g₀ s'.heap f df l x d wd lines' its' → StrL lines' (lay1 wd (ls, cs) (ga, gb)).1 → Chs s'.heap its' (lay1 wd (ls, cs) (ga, gb)).2 → Fresh g₀ its' → TB g₀ s'.heap 140 → TB g₀ s'.heap 147 → Q .none s') :
    wpAny (model PySem.Challenge.rw_wr0037_01.prog w) A (call (.ref 91) [.ref f, .str ga ta, .str gb tb]) Q E s := by
  k_extra "my hide"
  obtain ⟨q, k, epl, ep, hs, t₁, t₂, hf, hdf, hl, hx, hdd, ho, hdi⟩ := hM
  obtain ⟨ps, hps, tr, hps0⟩ := hT
  obtain ⟨ps2, hps2, tr2, hps02⟩ := hT2
  obtain ⟨n1, n2, n3, n4, n5⟩ := off_tab hps hf hdf hl hx hdd
  obtain ⟨m1, m2, m3, m4, m5⟩ := off_tab hps2 hf hdf hl hx hdd
  obtain ⟨d1, d2, d3, d4, d5, d6, d7, d8, d9, d10⟩ := id hdi
  k_extra "my back"
  have hn : ∀ z ∈ [(f, instObj 94 df), (df, mkDict q k wd l x), (l, listOf lines.toArray epl), (x, accObj d its ep), (d, accDict hs t₁ t₂), (140, tabObj ps), (147, tabObj ps2)], s.heap.get? z.1 = some z.2 := all_cons hf (all_cons hdf (all_cons hl (all_cons hx (all_cons hdd (all_cons hps (all_cons hps2 all_nil))))))
  have ht : ∀ z ∈ [(f, instObj 94 df), (df, mkDict q k wd l x), (l, listOf lines.toArray epl), (x, accObj d its ep), (d, accDict hs t₁ t₂), (140, tabObj ps), (147, tabObj ps2)], z.2.cls ≠ .type "tuple" := all_cons mcls_inst (all_cons mcls_dict (all_cons mcls_list (all_cons mcls_acc (all_cons mcls_dict (all_cons mcls_tab (all_cons mcls_tab all_nil))))))
  refine' enter (binds := [(Str.ofString "self", .ref f), (Str.ofString "fws", .str ga ta), (Str.ofString "string", .str gb tb)]) [(f, instObj 94 df), (df, mkDict q k wd l x), (l, listOf lines.toArray epl), (x, accObj d its ep), (d, accDict hs t₁ t₂), (140, tabObj ps), (147, tabObj ps2)] G H ?hn ?ho ?hcd ?hr ?hb ?hl ?hbody ?c2 ?c3 ?c4 ?c5
  k_extra "my enter"
  case hn => exact all_cons ⟨hf, ho.1⟩ (all_cons ⟨hdf, ho.2.1⟩ (all_cons ⟨hl, ho.2.2.1⟩ (all_cons ⟨hx, ho.2.2.2.1⟩ (all_cons ⟨hdd, ho.2.2.2.2⟩ (all_cons ⟨hps, hps0⟩ (all_cons ⟨hps2, hps02⟩ all_nil))))))
  case hr => omega
  case hbody =>
    intro g' L' h' G' st' kp' F' N' l1
    have X' := G'.X
    have T' := G'.T
    have hcl := hC.length
    have hC0 : Chs g' its cs := chs_ground hC kp' hn ht
    clear hn ht hC
    k_lt l1

    (show wpAny _ _ _ _ _ _); k_fold
    k_steps
    case' refine_1 => skip
    rotate_left
    · have hfit : ¬ wd < ((sizeOf' (cs ++ [(ga, gb)]) : Nat) : Int) := by assumption
      (try dsimp only)
      (show Q _ _)
      rename Fr _ _ _ _ => kF
      rename News _ _ _ _ => kN
      refine hQ _ _ _ (.fin (kp_out kp' kF kN (all_cons hf (all_cons hdf (all_cons hl (all_cons hx (all_cons hdd (all_cons hps (all_cons hps2 all_nil))))))) (all_cons (.inr (by k_extra "my mem")) (all_cons (.inr (by k_extra "my mem")) (all_cons (.inl (by k_extra "my mem")) (all_cons (.inl (by k_extra "my mem")) (all_cons (.inl (by k_extra "my mem")) (all_cons (.inl (by k_extra "my mem")) (all_cons (.inl (by k_extra "my mem")) all_nil)))))))) ?os ?gens) ⟨q, k, _, _, _, _, _, kN.get (by k_extra "my mem"), kN.get (by k_extra "my mem"), kN.get (by k_extra "my mem"), kN.get (by k_extra "my mem"), kN.get (by k_extra "my mem"), ho, hdi⟩ ?L ?C ?Fr ⟨_, kN.get (by k_extra "my mem"), by assumption, hps0⟩ ⟨_, kN.get (by k_extra "my mem"), by assumption, hps02⟩
      case os => k_extra "my os"
      case gens => k_extra "my gens"
      case L => rw [lay1_fit hfit]; exact hL
      case C => rw [lay1_fit hfit]; k_extra "my chs"
      case Fr => exact hfr.append (.one (fresh_of st' kN (by k_extra "my mem")))
    have hbig : wd < ((sizeOf' (cs ++ [(ga, gb)]) : Nat) : Int) := by assumption
    refine wpAny_For ?_
    k_steps
    rename Fr _ _ _ _ => kF
    rename News _ _ _ _ => kN
    refine iter_sp_L kF kN ?_
    intro it o h2 F2 N2 l2 so
    have l3 := l2
    k_lt l2
    refine loop_blank (base := _) hh rfl rfl F2 N2 (fun p hp => Nat.ne_of_lt (l3 p hp)) so ?_
    intro o' s3 tk3 E3 so3 sm3 F3 N3
    k_steps
    refine wpAny_For ?_
    k_steps
    rename Fr _ _ _ _ => kF
    rename News _ _ _ _ => kN
    rw [show (((its ++ [Value.ref _]).length : Nat) : Int) - 1 = (its.length : Int) by simp] at kN
    refine iter_range_L kF kN (.head _) (by omega) ?_
    intro q4 h4 F4 N4 l4
    have l5 := l4
    k_lt l4
    refine loop_down (J := ApdJ f its cs ga gb) hh rfl rfl F4 N4 (fun p hp => Nat.ne_of_lt (l5 p hp)) ⟨rfl, ⟨_, rfl⟩, fun j h1 h2 => absurd h1 (Nat.not_lt.mpr h2)⟩ ?_ ?_
    · intro k5 s5 m5 tk5 E5 hk5 hJ sm5 F5 N5
      obtain ⟨hself, ⟨tc, hch⟩, hno⟩ := hJ
      have hkc : k5 + 1 < (cs ++ [(ga, gb)]).length := by simp; omega
      k_extra "my hide"
      obtain ⟨c1, hc1⟩ : ∃ c, (cs ++ [(ga, gb)])[k5 + 1]? = some c := ⟨_, List.getElem?_eq_getElem hkc⟩
      obtain ⟨c0, hc0⟩ : ∃ c, (cs ++ [(ga, gb)])[k5]? = some c := ⟨_, List.getElem?_eq_getElem (by omega)⟩
      k_extra "my back"
      have hg1 : (cs ++ [(ga, gb)]).getD (k5 + 1) ("", "") = c1 := by simp [List.getD_eq_getElem?_getD, hc1]
      have ok1 : OkCh c1 := hok _ (List.mem_of_getElem? hc1)
      have ok0 : OkCh c0 := hok _ (List.mem_of_getElem? hc0)
      have q1 := ok1.glen
      have q2 := ok0.wpos
      have q3 := ok0.wlen
      have q4' := ok0.wlast
      have q5 : ((c0.2.length : Int) != 0) = true := by simp; omega
      k_steps
      refine' acc_item_L (j := k5 + 1) (c := c1) ?F ?N ?X ?hx ?hdx ?hgi ?hq ?hm ?hC ?hi ?hj ?hc ?_
      case F => k_asm
      case N => k_asm
      case X => k_asm
      case hx => k_extra "my mem"
      case hdx => k_extra "my mem"
      case hgi => k_is
      case hq => k_is
      case hm => k_is
      case hC => k_extra "my chs"
      case hi => omega
      case hj => omega
      case hc => exact hc1
      intro rr1 tt1 tt2 ho1
      k_steps
      refine tup_item ho1 (.inl ⟨rfl, rfl⟩) ?_
      have q6 : ∃ b, ((c1.1.length : Int) != 0) = b ∧ (b = true → ∃ b', (Txt.item c1.1 0 == Str.ofString " ") = b' ∧ isBl c1.1 = b') ∧ (b = false → isBl c1.1 = false) := by
        by_cases h0 : c1.1.length = 0
        · exact ⟨false, by simp [h0], fun h => Bool.noConfusion h, fun _ => isBl_nil h0⟩
        · exact ⟨true, by simp; omega, fun _ => ⟨_, rfl, isBl_of (by omega) rfl⟩, fun h => Bool.noConfusion h⟩
      obtain ⟨b1, q7, q8, q9⟩ := q6
      have hp : ∀ (_ : isBl c1.1 = false), (∀ j, k5 < j → j ≤ its.length → isBl ((cs ++ [(ga, gb)]).getD j ("", "")).1 = false) := fun hb j h1 h2 => by
        by_cases e : j = k5 + 1
        · subst e; rw [hg1]; exact hb
        · exact hno j (by omega) h2
      iterate 3 walk1
      rename Fr _ _ _ _ => kF
      rename News _ _ _ _ => kN
      rename Heap => hS
      have hk : isBl c1.1 = false → ∀ tk : Tok, qk Flow.next { heap := hS, gens := s5.gens, drawn := s5.drawn, toks := tk, os := s5.os } := by
        intro hb tk
        clear q7 q8 q9
        k_steps
        refine' acc_item_L (j := k5) (c := c0) ?F ?N ?X ?hx ?hdx ?hgi ?hq ?hm ?hC ?hi ?hj ?hc ?_
        case F => k_asm
        case N => k_asm
        case X => k_asm
        case hx => k_extra "my mem"
        case hdx => k_extra "my mem"
        case hgi => k_is
        case hq => k_is
        case hm => k_is
        case hC => k_extra "my chs"
        case hi => omega
        case hj => omega
        case hc => exact hc0
        intro rr3 tt3 tt4 ho3
        k_steps
        refine tup_item ho3 (.inr ⟨rfl, rfl⟩) ?_
        k_steps
        (try dsimp only)
        rename Fr _ _ _ _ => kF2
        rename News _ _ _ _ => kN2
        refine ⟨⟨?os, ?gens⟩, _, ⟨?a, ⟨tc, ?b⟩, hp hb⟩, kF2, fun p hp => kN2 p (SubL.mem (by k_subL) p hp)⟩
        case os => k_extra "my os"
        case gens => k_extra "my gens"
        case a => exact hself
        case b => exact hch
      cases b1
      · have hb := q9 rfl
        clear_value qk
        k_steps
        exact hk hb _
      · obtain ⟨b2, q10, q11⟩ := q8 rfl
        cases b2
        · have hb := q11
          clear_value qk
          k_steps
          exact hk hb _
        · have hz1 : sizeOf' ((cs ++ [(ga, gb)]).take (k5 + 1)) < 1000 := Nat.lt_of_le_of_lt (sizeOf'_take _ _) hsz
          have hcut : cutAt (cs ++ [(ga, gb)]) cs.length = some (k5 + 1) := cutAt_some (by omega) (by rw [hg1]; exact q11) (by rw [← hcl]; exact hno)
          k_steps
          (try dsimp only)
          (show Q _ _)
          rename Fr _ _ _ _ => kF
          rename News _ _ _ _ => kN
          have key : ∀ u : Value, lines.toArray.push u = (lines ++ [u]).toArray := fun u => by simp
          rw [key] at kN
          refine hQ _ _ _ (.fin (kp_out kp' kF kN (all_cons hf (all_cons hdf (all_cons hl (all_cons hx (all_cons hdd (all_cons hps (all_cons hps2 all_nil))))))) (all_cons (.inr (by k_extra "my mem")) (all_cons (.inr (by k_extra "my mem")) (all_cons (.inl (by k_extra "my mem")) (all_cons (.inl (by k_extra "my mem")) (all_cons (.inl (by k_extra "my mem")) (all_cons (.inl (by k_extra "my mem")) (all_cons (.inl (by k_extra "my mem")) all_nil)))))))) ?os ?gens) ⟨q, k, _, _, _, _, _, kN.get (by k_extra "my mem"), kN.get (by k_extra "my mem"), kN.get (by k_extra "my mem"), kN.get (by k_extra "my mem"), kN.get (by k_extra "my mem"), ho, hdi⟩ ?L ?C ?Fr ⟨_, kN.get (by k_extra "my mem"), by assumption, hps0⟩ ⟨_, kN.get (by k_extra "my mem"), by assumption, hps02⟩
          case os => k_extra "my os"
          case gens => k_extra "my gens"
          case L => rw [lay1_cut hbig hcut]; exact hL.append (.cons .nil)
          case C => rw [lay1_cut hbig hcut]; k_extra "my chs"
          case Fr => exact (hfr.append (.one (fresh_of st' kN (by k_extra "my mem")))).drop _
    · intro s5 m5 E5 hJ sm5 F5 N5
      obtain ⟨hself, ⟨tc, hch⟩, hno⟩ := hJ
      have hcut : cutAt (cs ++ [(ga, gb)]) cs.length = none := cutAt_none (by rw [← hcl]; exact hno)
      k_steps
      (try dsimp only)
      refine ⟨⟨?os, ?gens⟩, m5, F5, fun p hp => N5 p (.tail _ hp), fun s6 E6 sm6 F6 N6 => ?_⟩
      case os => k_extra "my os"
      case gens => k_extra "my gens"
      clear N5 F5
      k_steps
      (try dsimp only)
      (show Q _ _)
      rename Fr _ _ _ _ => kF
      rename News _ _ _ _ => kN
      refine hQ _ _ _ (.fin (kp_out kp' kF kN (all_cons hf (all_cons hdf (all_cons hl (all_cons hx (all_cons hdd (all_cons hps (all_cons hps2 all_nil))))))) (all_cons (.inr (by k_extra "my mem")) (all_cons (.inr (by k_extra "my mem")) (all_cons (.inl (by k_extra "my mem")) (all_cons (.inl (by k_extra "my mem")) (all_cons (.inl (by k_extra "my mem")) (all_cons (.inl (by k_extra "my mem")) (all_cons (.inl (by k_extra "my mem")) all_nil)))))))) ?os ?gens) ⟨q, k, _, _, _, _, _, kN.get (by k_extra "my mem"), kN.get (by k_extra "my mem"), kN.get (by k_extra "my mem"), kN.get (by k_extra "my mem"), kN.get (by k_extra "my mem"), ho, hdi⟩ ?L ?C ?Fr ⟨_, kN.get (by k_extra "my mem"), by assumption, hps0⟩ ⟨_, kN.get (by k_extra "my mem"), by assumption, hps02⟩
      case os => k_extra "my os"
      case gens => k_extra "my gens"
      case L => rw [lay1_none hcut]; exact hL
      case C => rw [lay1_none hcut]; k_extra "my chs"
      case Fr => exact hfr.append (.one (fresh_of st' kN (by k_extra "my mem")))
end

noncomputable abbrev LiIt (o : Obj) (l : Addr) (i : Nat) : Prop := o.cls = .type "list_iterator" ∧ o.data = .fields #[.ref l, .int (i : Int) 0]
/-- the end of a turn over a list -/
noncomputable def ListEnd (g : Heap) (L it l : Addr) (J : Nat → (Str → Option Value) → List (Addr × Obj) → Prop) (s : Shared) (k : Nat) (s₃ : Shared) : Prop :=
  Sm s s₃ ∧ ∃ m₃ base₃ o₃, LiIt o₃ l k ∧ J k m₃ base₃ ∧ Fr g L s₃.heap m₃ ∧ News g L s₃.heap ((it, o₃) :: base₃) ∧ ∀ p ∈ base₃, p.1 ≠ it
/-- the end of a turn up a range -/
noncomputable def UpEnd (g : Heap) (L it : Addr) (n : Nat) (J : Nat → (Str → Option Value) → List (Addr × Obj) → Prop) (s : Shared) (k : Nat) (s₃ : Shared) : Prop :=
  Sm s s₃ ∧ ∃ m₃ base₃, J k m₃ base₃ ∧ Fr g L s₃.heap m₃ ∧ News g L s₃.heap ((it, rngIt k ((n : Int) - k) 1) :: base₃) ∧ ∀ p ∈ base₃, p.1 ≠ it

section
variable {prog : Program} {w : World} {A : Around} {E : Value → Shared → Prop} {s : Shared} {g : Heap} {L it l : Addr} {m : Str → Option Value} {base : List (Addr × Obj)} {R : Result → Shared → Prop} {env : Env} {target : Expr} {body orelse : List Stmt}

theorem iter_list_L {its : List Value} {ep : Nat} {Q : Value → Shared → Prop} (F : Fr g L s.heap m) (N : News g L s.heap base) (hl : s.heap.get? l = some (listOf its.toArray ep))
    (h : ∀ q o h', Fr g L h' m → News g L h' ((q, o) :: base) → (∀ p ∈ base, p.1 < q) → LiIt o l 0 → Q (.ref q) { s with heap := h' }) : wpAny (model prog w) A (pyIter (.ref l)) Q E s :=
  wpAny_pyIter_list ⟨_, hl, rfl, _, rfl⟩ (h _ _ _ (F.push _) (N.push F _) (fun p hp => Heap.lt_size (N p hp).1) ⟨rfl, rfl⟩)

theorem letOwned_list {o : Obj} {k : Nat} {v : Value} {Q : Unit → Shared → Prop} (ho : s.heap.get? it = some o) (hi : LiIt o l k) (h : Q () s) : wpAny (model prog w) A (letOwnedTupleGo target (.ref it) v) Q E s := by
  have key : ∀ r : Addr, wpAny (model prog w) A (do
      let o ← load it
      match o.cls, o.data with
      | .type n, .fields vs =>
        if ["enumerate", "zip", "dict_itemiterator", "dict_reverseitemiterator", "odict_iterator", "itertools.zip_longest", "itertools.pairwise"].contains n && vs[0]? == some (rawInt r) then
          rule "for.unpacks-the-owned-tuple"
          updateField it 0 .none
      | _, _ => pure ()) Q E s := fun r => by
    refine wpAny_bind (wpAny_load ho ?_)
    rw [hi.1, hi.2]
    dsimp only
    refine KFB.if_not (by simp) ?_
    exact wpAny_pure h
  cases target <;> cases v <;> first | exact wpAny_pure h | exact key _

theorem loop_list {its : List Value} {ep : Nat} {o : Obj} {J : Nat → (Str → Option Value) → List (Addr × Obj) → Prop} (hh : A.handled = none)
    (F : Fr g L s.heap m) (N : News g L s.heap ((it, o) :: base)) (ho : LiIt o l 0) (hb : ∀ p ∈ base, p.1 ≠ it) (hJ : J 0 m base)
    (hl : ∀ k m' base', J k m' base' → (l, listOf its.toArray ep) ∈ base' ∨ g.get? l = some (listOf its.toArray ep))
    (turn : ∀ (k : Nat) (s' : Shared) (m' : Str → Option Value) (base' : List (Addr × Obj)) (v : Value) (o' : Obj) (E' : Value → Shared → Prop), its[k]? = some v → LiIt o' l (k + 1) → J k m' base' → Sm s s' → Fr g L s'.heap m' → News g L s'.heap ((it, o') :: base') → (∀ p ∈ base', p.1 ≠ it) →
      wpAny (model prog w) A (assign target env v) (fun _ s₂ => wpAny (model prog w) A (execs body env) (fun f s₃ => match f with
        | .next | .cont => ListEnd g L it l J s (k + 1) s₃
        | .brk => R (.ok .next) s₃
        | .ret v => R (.ok (.ret v)) s₃) E' s₂) E' s')
    (last : ∀ (s' : Shared) (m' : Str → Option Value) (base' : List (Addr × Obj)) (E' : Value → Shared → Prop), J its.length m' base' → Sm s s' → Fr g L s'.heap m' → News g L s'.heap base' → wpAny (model prog w) A (execs orelse env) (fun f s₃ => R (.ok f) s₃) E' s') :
    codeAny (model prog w) A (.forLoop target (.ref it) body orelse env) R s := by
  refine codeAny_forLoop_any (fun n s' => ∃ k, n = its.length - k ∧ k ≤ its.length ∧ ListEnd g L it l J s k s') (fun n s' hI => ?_) its.length ⟨0, rfl, Nat.zero_le _, .refl s, m, base, o, ho, hJ, F, N, hb⟩
  obtain ⟨k, rfl, hk, sm, m', base', o', ho', J', F', N', hb'⟩ := hI
  have z := N' (it, o') (.head _)
  have hit : s'.heap.IsListIter it l k := ⟨_, z.1, ho'.1, ho'.2⟩
  have hll : s'.heap.get? l = some (listOf its.toArray ep) := by
    rcases hl _ _ _ J' with q | q
    · exact (N' _ (.tail _ q)).1
    · exact F'.keep _ _ q
  by_cases he : k = its.length
  · subst he
    refine end_own hh hit hll rfl (by simp) fun h' he => last _ _ _ _ J' ⟨sm.1, sm.2⟩ ?_ fun p hp => ?_
    · exact ⟨F'.ns.at' fun o e => he _ o (Ne.symm z.2.1) e, fun b o e => he b o (fun q => by rw [q, z.2.2] at e; cases e) (F'.keep b o e), F'.above⟩
    · have y := N' p (.tail _ hp)
      exact ⟨he _ _ (hb' p hp) y.1, y.2⟩
  · have hlt : k < its.length := by omega
    have hv : its[k]? = some its[k] := List.getElem?_eq_getElem hlt
    refine next_own hit hll rfl (x := its[k]) (by simp) fun h' hit' hs' => ?_
    obtain ⟨o2, ho2, r2⟩ := hit'
    have r3 : LiIt o2 l (k + 1) := ⟨r2.1, r2.2⟩
    have N2 : News g L h' ((it, o2) :: base') := news_set (pre := []) N' (fun _ q => nomatch q) hb' hs' ho2
    refine letOwned_list ho2 r3 ?_
    refine wpAny_mono (turn k _ m' base' _ o2 _ hv r3 J' ⟨sm.1, sm.2⟩ (F'.change hs' z.2.1 z.2.2) N2 hb') (fun _ s₂ h₂ => wpAny_mono h₂ (fun f s₃ h₃ => ?_) fun _ _ e => e) fun _ _ e => e
    cases f with
    | next => exact ⟨_, (by omega : its.length - (k + 1) < its.length - k), k + 1, rfl, hlt, h₃⟩
    | cont => exact ⟨_, (by omega : its.length - (k + 1) < its.length - k), k + 1, rfl, hlt, h₃⟩
    | brk => exact h₃
    | ret v => exact h₃

noncomputable abbrev rng1Ob (n : Int) (t u v : Tok) : Obj := { cls := .type "range", data := .fields #[.int 0 t, .int n u, .int 1 v] }
theorem range1_L {n : Int} {t : Tok} {Q : Value → Shared → Prop} (F : Fr g L s.heap m) (N : News g L s.heap base)
    (h : ∀ r h' tk t u v, Fr g L h' m → News g L h' ((r, rng1Ob n t u v) :: base) → (∀ p ∈ base, p.1 < r) → Q (.ref r) { s with heap := h', toks := tk }) : wpAny (model prog w) A (call (.type "range") [.int n t]) Q E s :=
  call_range_1 (h _ _ _ _ _ _ (F.push _) (N.push F _) fun p hp => Heap.lt_size (N p hp).1)
theorem iter_up_L {r : Addr} {n : Nat} {t u v : Tok} {Q : Value → Shared → Prop} (F : Fr g L s.heap m) (N : News g L s.heap base) (hr : (r, ({ cls := .type "range", data := .fields #[.int 0 t, .int (n : Int) u, .int 1 v] } : Obj)) ∈ base) (hz : n < 1000)
    (h : ∀ q h', Fr g L h' m → News g L h' ((q, rngIt (0 : Nat) ((n : Int) - (0 : Nat)) 1) :: base) → (∀ p ∈ base, p.1 < q) → Q (.ref q) { s with heap := h' }) : wpAny (model prog w) A (pyIter (.ref r)) Q E s := by
  have e : Builtin.Range.rangeSize 0 (n : Int) 1 = (n : Int) := by
    unfold Builtin.Range.rangeSize
    rw [if_pos (by decide)]
    by_cases h0 : (n : Int) > 0
    · rw [if_pos h0, Int.ediv_one]; omega
    · rw [if_neg h0]; omega
  refine wpAny_pyIter_range (N _ hr).1 ?_ ?_
  · unfold Builtin.Range.small Builtin.Range.rangeFitsLong
    rw [e]
    simp
    omega
  · rw [e]
    have := h _ _ (F.push _) (N.push F (rngIt (0 : Nat) ((n : Int) - (0 : Nat)) 1)) fun p hp => Heap.lt_size (N p hp).1
    simpa using this

theorem loop_up {x : Str} {px : Pos} {n : Nat} {cn : Str} {cs : Scope} {a : Addr} {ccd : Value} {cl : List (Str × Addr)} {J : Nat → (Str → Option Value) → List (Addr × Obj) → Prop} (hh : A.handled = none) (hk : cs.kind = .function) (hx : (envX cn cs L a ccd cl).kindOf x = some .local)
    (F : Fr g L s.heap m) (N : News g L s.heap ((it, rngIt (0 : Nat) ((n : Int) - (0 : Nat)) 1) :: base)) (hb : ∀ p ∈ base, p.1 ≠ it) (hJ : J 0 m base)
    (turn : ∀ (k : Nat) (s' : Shared) (m' : Str → Option Value) (base' : List (Addr × Obj)) (tk : Tok) (E' : Value → Shared → Prop), k < n → J k m' base' → Sm s s' → Fr g L s'.heap (fun y => if y = x then some (.int (k : Int) tk) else m' y) → News g L s'.heap ((it, rngIt (k + 1 : Nat) ((n : Int) - (k + 1 : Nat)) 1) :: base') → (∀ p ∈ base', p.1 ≠ it) →
      wpAny (model prog w) A (execs body (envX cn cs L a ccd cl)) (fun f s₃ => match f with
        | .next | .cont => UpEnd g L it n J s (k + 1) s₃
        | .brk => R (.ok .next) s₃
        | .ret v => R (.ok (.ret v)) s₃) E' s')
    (last : ∀ (s' : Shared) (m' : Str → Option Value) (base' : List (Addr × Obj)) (E' : Value → Shared → Prop), J n m' base' → Sm s s' → Fr g L s'.heap m' → News g L s'.heap base' → wpAny (model prog w) A (execs orelse (envX cn cs L a ccd cl)) (fun f s₃ => R (.ok f) s₃) E' s') :
    codeAny (model prog w) A (.forLoop (.Name x px) (.ref it) body orelse (envX cn cs L a ccd cl)) R s := by
  refine codeAny_forLoop (fun c s' => ∃ k, c = n - k ∧ k ≤ n ∧ UpEnd g L it n J s k s') (fun c s' hI => ?_) n ⟨0, rfl, Nat.zero_le _, .refl s, m, base, hJ, F, N, hb⟩
  obtain ⟨k, rfl, hkn, sm, m', base', J', F', N', hb'⟩ := hI
  by_cases he : k = n
  · subst he
    have N'' : News g L s'.heap ((it, rngIt (k : Int) 0 1) :: base') := by
      have q := N'
      rw [Int.sub_self] at q
      exact q
    exact next_none_L hh F' N'' hb' fun h' F'' N'' => last _ _ _ _ J' ⟨sm.1, sm.2⟩ F'' N''
  · have hlt : k < n := by omega
    refine next_range_L (a := (k : Int)) (left := (n : Int) - (k : Int)) (step := 1) (news' := (it, rngIt (k + 1 : Nat) ((n : Int) - (k + 1 : Nat)) 1) :: base') F' N' ?_ (by omega) fun h' F'' N'' => ?_
    · have e : rngIt ((k : Int) + 1) ((n : Int) - (k : Int) - 1) 1 = rngIt (k + 1 : Nat) ((n : Int) - (k + 1 : Nat)) 1 := by
        have h1 : ((k : Int) + 1) = ((k + 1 : Nat) : Int) := by omega
        have h2 : ((n : Int) - (k : Int) - 1) = (n : Int) - ((k + 1 : Nat) : Int) := by omega
        rw [h1, h2]
      rw [← e]
      exact .head hb'
    · refine wpAny_assign_Name (storeX_L F'' N'' (fun h3 F3 N3 => ?_) hk hx)
      have z := turn k ⟨h3, s'.gens, s'.drawn, s'.toks + 1 + 1, s'.os⟩ m' base' s'.toks (notedBy (model prog w) A (envX cn cs L a ccd cl) fun e s' => R (.error e) s') hlt J' ⟨sm.1, sm.2⟩ F3 N3 hb'
      refine wpAny_mono z (fun f s₃ h₃ => ?_) fun _ _ e => e
      cases f with
      | next => exact ⟨_, (by omega : n - (k + 1) < n - k), k + 1, rfl, hlt, h₃⟩
      | cont => exact ⟨_, (by omega : n - (k + 1) < n - k), k + 1, rfl, hlt, h₃⟩
      | brk => exact h₃
      | ret v => exact h₃
/-- the same, where the ledger stays -/
noncomputable def UpEndF (g : Heap) (L it : Addr) (n : Nat) (base : List (Addr × Obj)) (J : Nat → (Str → Option Value) → Prop) (s : Shared) (k : Nat) (s₃ : Shared) : Prop :=
  Sm s s₃ ∧ ∃ m₃, J k m₃ ∧ Fr g L s₃.heap m₃ ∧ News g L s₃.heap ((it, rngIt k ((n : Int) - k) 1) :: base)
theorem loop_upF {x : Str} {px : Pos} {n : Nat} {cn : Str} {cs : Scope} {a : Addr} {ccd : Value} {cl : List (Str × Addr)} {J : Nat → (Str → Option Value) → Prop} (hh : A.handled = none) (hk : cs.kind = .function) (hx : (envX cn cs L a ccd cl).kindOf x = some .local)
    (F : Fr g L s.heap m) (N : News g L s.heap ((it, rngIt (0 : Nat) ((n : Int) - (0 : Nat)) 1) :: base)) (hb : ∀ p ∈ base, p.1 ≠ it) (hJ : J 0 m)
    (turn : ∀ (k : Nat) (s' : Shared) (m' : Str → Option Value) (tk : Tok) (E' : Value → Shared → Prop), k < n → J k m' → Sm s s' → Fr g L s'.heap (fun y => if y = x then some (.int (k : Int) tk) else m' y) → News g L s'.heap ((it, rngIt (k + 1 : Nat) ((n : Int) - (k + 1 : Nat)) 1) :: base) →
      wpAny (model prog w) A (execs body (envX cn cs L a ccd cl)) (fun f s₃ => match f with
        | .next | .cont => UpEndF g L it n base J s (k + 1) s₃
        | .brk => R (.ok .next) s₃
        | .ret v => R (.ok (.ret v)) s₃) E' s')
    (last : ∀ (s' : Shared) (m' : Str → Option Value) (E' : Value → Shared → Prop), J n m' → Sm s s' → Fr g L s'.heap m' → News g L s'.heap base → wpAny (model prog w) A (execs orelse (envX cn cs L a ccd cl)) (fun f s₃ => R (.ok f) s₃) E' s') :
    codeAny (model prog w) A (.forLoop (.Name x px) (.ref it) body orelse (envX cn cs L a ccd cl)) R s := by
  refine loop_up (J := fun k m' b => J k m' ∧ b = base) hh hk hx F N hb ⟨hJ, rfl⟩ (fun k s' m' b tk E' hkn hJ' sm F' N' _ => ?_) fun s' m' b E' hJ' sm F' N' => ?_
  · obtain ⟨hJ', rfl⟩ := hJ'
    refine wpAny_mono (turn k s' m' tk E' hkn hJ' sm F' N') (fun f s₃ h₃ => ?_) fun _ _ e => e
    cases f with
    | next => obtain ⟨a1, m3, a2, a3, a4⟩ := h₃; exact ⟨a1, m3, b, ⟨a2, rfl⟩, a3, a4, hb⟩
    | cont => obtain ⟨a1, m3, a2, a3, a4⟩ := h₃; exact ⟨a1, m3, b, ⟨a2, rfl⟩, a3, a4, hb⟩
    | brk => exact h₃
    | ret v => exact h₃
  · obtain ⟨hJ', rfl⟩ := hJ'
    exact last s' m' E' hJ' sm F' N'
end
example : True := by
  (k_with "call type:range" => (k_here; (with_reducible show wpAny _ _ (call (Value.type "range") [Value.int _ _]) _ _ _); k_dflt (refine' range1_L (by k_asm) (by k_asm) ?_); intro _ _ _ _ _ _ _ _ l1ₘ; (try k_lt l1ₘ); (try k_sweep)))
  trivial

section
variable {g h h' : Heap} {L : Addr} {m : Str → Option Value} {news : List (Addr × Obj)} {its : List Value} {cs : List (Str × Str)} {X : List Addr}
/-- an object's place in a ledger -/
noncomputable abbrev LeAt (g : Heap) (L : Addr) (h : Heap) (a : Addr) (o : Obj) : Prop := h.get? a = some o ∧ a ≠ L ∧ g.get? a = none
theorem le_kept (k : Kp X h h') (N : News g L h news) {a : Addr} {o : Obj} (hm : (a, o) ∈ news) (hX : a ∉ X) : LeAt g L h' a o := ⟨k _ _ (N _ hm).1 hX, (N _ hm).2⟩
theorem le_new (N : News g L h news) {a : Addr} {o o' : Obj} (hm : (a, o) ∈ news) (e : h'.get? a = some o') : LeAt g L h' a o' := ⟨e, (N _ hm).2⟩
theorem news_cons {a : Addr} {o : Obj} (x : LeAt g L h a o) (N : News g L h news) : News g L h ((a, o) :: news) := fun p hp => by
  rcases List.mem_cons.mp hp with rfl | hp
  · exact x
  · exact N p hp
theorem news_nil : News g L h [] := fun _ q => nomatch q
/-- pairs that the call made, as a ledger's tail -/
structure Tail (ex : List (Addr × Obj)) (its : List Value) (cs : List (Str × Str)) : Prop where
  cls : ∀ p ∈ ex, p.2.cls = .type "tuple"
  chs : ∀ h' : Heap, (∀ p ∈ ex, h'.get? p.1 = some p.2) → Chs h' its cs
theorem chs_ledger (F : Fr g L h m) (C : Chs h its cs) (fr : Fresh g its) : ∃ ex, News g L h ex ∧ Tail ex its cs := by
  induction C with
  | nil => exact ⟨[], news_nil, ⟨fun _ q => (nomatch q), fun _ _ => .nil⟩⟩
  | cons a b ih =>
    obtain ⟨ex, N, T⟩ := ih fun r hr => fr r (.tail _ hr)
    obtain ⟨r, t, t', rfl, ho⟩ := a
    refine ⟨(r, tupObj _ _ t t') :: ex, news_cons ⟨ho, fun e => ?_, fr r (.head _)⟩ N, ⟨fun p hp => ?_, fun h' hk => .cons ⟨r, t, t', rfl, hk _ (.head _)⟩ (T.chs h' fun p hp => hk p (.tail _ hp))⟩⟩
    · obtain ⟨oL, es, ep, hL, hd, _⟩ := F.ns
      rw [e, hL] at ho; cases ho; cases hd
    · rcases List.mem_cons.mp hp with rfl | hp
      · rfl
      · exact T.cls p hp
theorem Tail.ne {ex : List (Addr × Obj)} (T : Tail ex its cs) (N : News g L h ex) {a : Addr} {o : Obj} (ha : h.get? a = some o) (hc : o.cls ≠ .type "tuple") : ∀ p ∈ ex, p.1 ≠ a := fun p hp e => by
  have := (N p hp).1
  rw [e, ha] at this
  cases this
  exact hc (T.cls p hp)
theorem Tail.at {ex : List (Addr × Obj)} (T : Tail ex its cs) (N : News g L h news) (sub : ∀ p ∈ ex, p ∈ news) : Chs h its cs := T.chs h fun p hp => (N p (sub p hp)).1
theorem Chs.last {h : Heap} {its : List Value} {cs : List (Str × Str)} {c : Str × Str} (C : Chs h its (cs ++ [c])) : ∃ its0 r t t', its = its0 ++ [.ref r] ∧ Chs h its0 cs ∧ h.get? r = some (tupObj c.1 c.2 t t') := by
  generalize hx : cs ++ [c] = xs at C
  induction C generalizing cs with
  | nil => cases cs <;> cases hx
  | cons a b ih =>
    cases cs with
    | nil =>
      obtain ⟨rfl, rfl⟩ := List.cons.inj hx
      obtain rfl := List.eq_nil_of_length_eq_zero b.length
      obtain ⟨r, t, t', rfl, o⟩ := a
      exact ⟨[], r, t, t', rfl, .nil, o⟩
    | cons d cs =>
      obtain ⟨rfl, e⟩ := List.cons.inj hx
      obtain ⟨i0, r, t, t', rfl, C, o⟩ := ih e
      exact ⟨_ :: i0, r, t, t', rfl, .cons a C, o⟩
end

section
variable {w : World} {A : Around} {s : Shared} {p : Program} {loose : List Str} {mg mb : Str → Option Value} {g : Heap} {L : Addr} {m : Str → Option Value} {news : List (Addr × Obj)}
    {Q : Value → Shared → Prop} {E : Value → Shared → Prop} {f df l x d : Addr} {wd : Int} {lines its : List Value} {cs : List (Str × Str)} {q : Nat → Int} {k : Nat → Tok} {epl ep : Nat} {hs : Int} {t t' : Tok} {ps ps2 : Array Value}

theorem mak_of (N : News g L s.heap news) (hf : (f, instObj 94 df) ∈ news) (hdf : (df, mkDict q k wd l x) ∈ news) (hl : (l, listOf lines.toArray epl) ∈ news) (hx : (x, accObj d its ep) ∈ news) (hd : (d, accDict hs t t') ∈ news) (di : Dist5 f df l x d) : MakAt g s.heap f df l x d wd lines its :=
  ⟨q, k, epl, ep, hs, t, t', (N _ hf).1, (N _ hdf).1, (N _ hl).1, (N _ hx).1, (N _ hd).1, ⟨(N _ hf).2.2, (N _ hdf).2.2, (N _ hl).2.2, (N _ hx).2.2, (N _ hd).2.2⟩, di⟩

theorem newline_L {r : Addr} {ga gb : Str} {ta tb : Tok} (hh : A.handled = none) (F : Fr g L s.heap m) (N : News g L s.heap news) (G : Gd (hd.heap_39 w.params) p loose mg mb g)
    (hf : (f, instObj 94 df) ∈ news) (hdf : (df, mkDict q k wd l x) ∈ news) (hl : (l, listOf lines.toArray epl) ∈ news) (hx : (x, accObj d (its ++ [.ref r]) ep) ∈ news) (hd : (d, accDict hs t t') ∈ news) (hp : (140, tabObj ps) ∈ news) (hp2 : (147, tabObj ps2) ∈ news) (tr : TriplesOk ps.toList) (tr2 : TriplesOk ps2.toList) (di : Dist5 f df l x d)
    (hC : Chs s.heap its cs) (hr : s.heap.get? r = some (tupObj ga gb ta tb))
    (hroom : A.depth + 35 < recursionLimit) (hu : A.units + 400 < cLine) (hlen : its.length < 900) (hsz : sizeOf' (cs ++ [(ga, gb)]) < 1000) (hpos : 0 < sizeOf' (cs ++ [(ga, gb)])) (hne : gb ≠ Str.ofString "") (ok1 : PyData.strOk ga = true) (ok2 : PyData.strOk gb = true) (hns : Txt.isspace (textOf (cs ++ [(ga, gb)])) = false) (hll : lines.length < 900)
    (h : ∀ tt s' epl' ep' hs' t1 t2 ps' ps2', Go [l, x, d, 140, 147] s s' → s'.heap.get? l = some (listOf (lines ++ [Value.str (textOf (cs ++ [(ga, gb)])) tt]).toArray epl') → s'.heap.get? x = some (accObj d [] ep') → s'.heap.get? d = some (accDict hs' t1 t2) → s'.heap.get? 140 = some (tabObj ps') → s'.heap.get? 147 = some (tabObj ps2') → TriplesOk ps'.toList → TriplesOk ps2'.toList → Q .none s') :
    wpAny (model PySem.Challenge.rw_wr0037_01.prog w) A (call (.ref 56) [.ref f]) Q E s := by
  refine newline_c hh G F.keep (mak_of N hf hdf hl hx hd di) hC hr ⟨ps, (N _ hp).1, tr, (N _ hp).2.2⟩ ⟨ps2, (N _ hp2).1, tr2, (N _ hp2).2.2⟩ hroom hu hlen hsz hpos hne ok1 ok2 hns hll fun tt s' kk hM hT hT2 => ?_
  obtain ⟨q', k', epl', ep', hs', t1, t2, e1, e2, e3, e4, e5, _, _⟩ := hM
  obtain ⟨ps', h1, h2, _⟩ := hT
  obtain ⟨ps2', h3, h4, _⟩ := hT2
  exact h tt s' epl' ep' hs' t1 t2 ps' ps2' kk e3 e4 e5 h1 h3 h2 h4

theorem append_chunk_L {ls : List Str} {ga gb : Str} {ta tb : Tok} (hh : A.handled = none) (F : Fr g L s.heap m) (N : News g L s.heap news) (G : Gd (hd.heap_39 w.params) p loose mg mb g)
    (hf : (f, instObj 94 df) ∈ news) (hdf : (df, mkDict q k wd l x) ∈ news) (hl : (l, listOf lines.toArray epl) ∈ news) (hx : (x, accObj d its ep) ∈ news) (hd : (d, accDict hs t t') ∈ news) (hp : (140, tabObj ps) ∈ news) (hp2 : (147, tabObj ps2) ∈ news) (tr : TriplesOk ps.toList) (tr2 : TriplesOk ps2.toList) (di : Dist5 f df l x d)
    (hC : Chs s.heap its cs) (hok : ∀ c ∈ cs ++ [(ga, gb)], OkCh c) (hfr : Fresh g its) (hL : StrL lines ls)
    (hroom : A.depth + 45 < recursionLimit) (hu : A.units + 500 < cLine) (hlen : its.length < 900) (hsz : sizeOf' (cs ++ [(ga, gb)]) < 1000) (hll : lines.length < 900)
    (h : ∀ s' lines' its' epl' ep' hs' t1 t2 ps' ps2', Go [l, x, d, 140, 147] s s' → Chs s'.heap its' (lay1 wd (ls, cs) (ga, gb)).2 → Fresh g its' → StrL lines' (lay1 wd (ls, cs) (ga, gb)).1 → s'.heap.get? l = some (listOf lines'.toArray epl') → s'.heap.get? x = some (accObj d its' ep') → s'.heap.get? d = some (accDict hs' t1 t2) → s'.heap.get? 140 = some (tabObj ps') → s'.heap.get? 147 = some (tabObj ps2') → TriplesOk ps'.toList → TriplesOk ps2'.toList → Q .none s') :
    wpAny (model PySem.Challenge.rw_wr0037_01.prog w) A (call (.ref 91) [.ref f, .str ga ta, .str gb tb]) Q E s := by
  refine append_chunk_c hh G F.keep (mak_of N hf hdf hl hx hd di) hC hok hfr ⟨ps, (N _ hp).1, tr, (N _ hp).2.2⟩ ⟨ps2, (N _ hp2).1, tr2, (N _ hp2).2.2⟩ hroom hu hlen hsz hll hL fun s' lines' its' kk hM hL' hC' hF' hT hT2 => ?_
  obtain ⟨q', k', epl', ep', hs', t1, t2, e1, e2, e3, e4, e5, _, _⟩ := hM
  obtain ⟨ps', h1, h2, _⟩ := hT
  obtain ⟨ps2', h3, h4, _⟩ := hT2
  exact h s' lines' its' epl' ep' hs' t1 t2 ps' ps2' kk hC' hF' hL' e3 e4 e5 h1 h3 h2 h4

theorem acc_new_L (args : List Value) (ha : args = [] ∨ ∃ t, args = [.int 0 t]) (F : Fr g L s.heap m) (N : News g L s.heap news) (G : Gd (hd.heap_39 w.params) p loose mg mb g)
    (hroom : A.depth + 20 < recursionLimit) (hu : A.units + 250 < cLine)
    (h : ∀ x d s' ep hs t t', Go [] s s' → Fr g L s'.heap m → News g L s'.heap ((x, accObj d [] ep) :: (d, accDict hs t t') :: news) → (∀ p ∈ (d, accDict hs t t') :: news, p.1 ≠ x) → (∀ p ∈ news, p.1 ≠ d) → Q (.ref x) s') :
    wpAny (model PySem.Challenge.rw_wr0037_01.prog w) A (call (.ref 178) args) Q E s := by
  refine acc_new args ha G F.keep hroom hu fun x d s' kk hx hd hA => ?_
  obtain ⟨ep, hs, t, t', e1, e2, x0, d0, ne⟩ := hA
  refine then0 kk.kp F N fun F' N' => ?_
  have hxL : x ≠ L := fun e => by obtain ⟨oL, _, _, hL, _⟩ := F.ns; rw [e, hL] at hx; cases hx
  have hdL : d ≠ L := fun e => by obtain ⟨oL, _, _, hL, _⟩ := F.ns; rw [e, hL] at hd; cases hd
  refine h x d s' ep hs t t' kk F' (news_cons ⟨e1, hxL, x0⟩ (news_cons ⟨e2, hdL, d0⟩ N')) (fun p hp e => ?_) fun p hp e => ?_
  · rcases List.mem_cons.mp hp with rfl | hp
    · exact ne e.symm
    · have := (N p hp).1; rw [e, hx] at this; cases this
  · have := (N p hp).1; rw [e, hd] at this; cases this
end
example : True := by
  (k_with "my k_all" => (assumption))
  (k_with "my allne" => (skip))
  (k_with "call ref" => (k_here; (with_reducible show wpAny _ _ (call (Value.ref 178) _) _ _ _); k_dflt (refine' acc_new_L _ (by first | exact .inl rfl | exact .inr ⟨_, rfl⟩) (by k_asm) (by k_asm) (by k_asm) (by k_extra "my room") (by k_extra "my room") ?_); intro _ _ _ _ _ _ _ _ _ _ l1ₘ l2ₘ; (replace l1ₘ := allNe_of l1ₘ); (replace l2ₘ := allNe_of l2ₘ); (dsimp only [AllNe] at l1ₘ l2ₘ); (repeat (have _ := And.left l1ₘ; replace l1ₘ := And.right l1ₘ)); (repeat (have _ := And.left l2ₘ; replace l2ₘ := And.right l2ₘ)); (try k_sweep)))
  trivial

theorem StrL.strsAre {vs : List Value} {xs : List Str} (C : StrL vs xs) : StrsAre vs xs := by
  induction C with
  | nil => exact .nil
  | cons _ ih => exact .cons _ _ ih
section
variable {w : World} {A : Around} {s : Shared} {p : Program} {loose : List Str} {mg mb : Str → Option Value} {g₀ : Heap}
    {Q : Value → Shared → Prop} {E : Value → Shared → Prop} {f df l x d : Addr} {wd : Int} {lines its : List Value} {cs : List (Str × Str)}

theorem vstr_c {ls : List Str} {c : Str × Str} {sep : Str} {tsep : Tok} (hh : A.handled = none) (G : Gd (hd.heap_39 w.params) p loose mg mb g₀) (H : g₀.StaysIn s.heap) (hM : MakAt g₀ s.heap f df l x d wd lines its) (hC : Chs s.heap its (cs ++ [c])) (hok : OkCh c) (hL : StrL lines ls)
    (hT : TB g₀ s.heap 140) (hT2 : TB g₀ s.heap 147)
    (hroom : A.depth + 45 < recursionLimit) (hu : A.units + 500 < cLine) (hlen : its.length < 900) (hsz : sizeOf' (cs ++ [c]) < 1000) (hns : Txt.isspace (textOf (cs ++ [c])) = false) (hll : lines.length < 900)
    (hjoin : ((ls ++ [textOf (cs ++ [c])]).map (·.length)).sum + (ls ++ [textOf (cs ++ [c])]).length * sep.length ≤ 16777216)
    (hQ : ∀ t s', Go [l, x, d, 140, 147] s s' → TB g₀ s'.heap 140 → TB g₀ s'.heap 147 → Q (.str (Txt.join sep (ls ++ [textOf (cs ++ [c])])) t) s') :
    wpAny (model PySem.Challenge.rw_wr0037_01.prog w) A (call (.ref 42) [.ref f, .str sep tsep]) Q E s := by
  k_extra "my hide"
  obtain ⟨its0, rl, tl, tl', rfl, hC0, hrl⟩ := hC.last
  obtain ⟨q, k, epl, ep, hs, t₁, t₂, hf, hdf, hl, hx, hdd, ho, hdi⟩ := hM
  obtain ⟨ps, hps, tr, hps0⟩ := hT
  obtain ⟨ps2, hps2, tr2, hps02⟩ := hT2
  obtain ⟨n1, n2, n3, n4, n5⟩ := off_tab hps hf hdf hl hx hdd
  obtain ⟨m1, m2, m3, m4, m5⟩ := off_tab hps2 hf hdf hl hx hdd
  obtain ⟨d1, d2, d3, d4, d5, d6, d7, d8, d9, d10⟩ := id hdi
  k_extra "my back"
  have hn : ∀ z ∈ [(f, instObj 94 df), (df, mkDict q k wd l x), (l, listOf lines.toArray epl), (x, accObj d (its0 ++ [.ref rl]) ep), (d, accDict hs t₁ t₂), (140, tabObj ps), (147, tabObj ps2)], s.heap.get? z.1 = some z.2 := all_cons hf (all_cons hdf (all_cons hl (all_cons hx (all_cons hdd (all_cons hps (all_cons hps2 all_nil))))))
  have ht : ∀ z ∈ [(f, instObj 94 df), (df, mkDict q k wd l x), (l, listOf lines.toArray epl), (x, accObj d (its0 ++ [.ref rl]) ep), (d, accDict hs t₁ t₂), (140, tabObj ps), (147, tabObj ps2)], z.2.cls ≠ .type "tuple" := all_cons mcls_inst (all_cons mcls_dict (all_cons mcls_list (all_cons mcls_acc (all_cons mcls_dict (all_cons mcls_tab (all_cons mcls_tab all_nil))))))
  refine' enter (binds := [(Str.ofString "self", .ref f), (Str.ofString "linesep", .str sep tsep)]) [(f, instObj 94 df), (df, mkDict q k wd l x), (l, listOf lines.toArray epl), (x, accObj d (its0 ++ [.ref rl]) ep), (d, accDict hs t₁ t₂), (140, tabObj ps), (147, tabObj ps2)] G H ?hn ?ho ?hcd ?hr ?hb ?hl ?hbody ?c2 ?c3 ?c4 ?c5
  k_extra "my enter"
  case hn => exact all_cons ⟨hf, ho.1⟩ (all_cons ⟨hdf, ho.2.1⟩ (all_cons ⟨hl, ho.2.2.1⟩ (all_cons ⟨hx, ho.2.2.2.1⟩ (all_cons ⟨hdd, ho.2.2.2.2⟩ (all_cons ⟨hps, hps0⟩ (all_cons ⟨hps2, hps02⟩ all_nil))))))
  case hr => omega
  case hbody =>
    intro g' L' h' G' st' kp' F' N' l1
    have X' := G'.X
    have T' := G'.T
    have hC1 : Chs g' its0 cs := chs_ground hC0 kp' hn ht
    have hr1 : g'.get? rl = some (tupObj c.1 c.2 tl tl') := by
      have z : Chs g' [.ref rl] [c] := chs_ground (.one ⟨_, _, _, rfl, hrl⟩) kp' hn ht
      refine kp' _ _ hrl fun hm => ?_
      obtain ⟨q, hq, e⟩ := List.mem_map.mp hm
      have := hn q hq
      rw [e, hrl] at this
      exact ht q hq (by rw [← Option.some.inj this])
    clear hn ht hC0 hrl hC
    k_lt l1
    (show wpAny _ _ _ _ _ _); k_fold
    k_steps
    have hpos : 0 < sizeOf' (cs ++ [c]) := by
      have := hok.wpos
      unfold sizeOf'
      rw [List.map_append, List.sum_append]
      simp
      omega
    refine' newline_L (ga := c.1) (gb := c.2) hh ?F ?N ?G ?hf ?hdf ?hl ?hx ?hd ?hp ?hp2 tr tr2 hdi ?hC ?hr ?room ?u ?len hsz hpos hok.wne hok.gok hok.wok hns hll ?_
    case F => k_asm
    case N => k_asm
    case G => k_asm
    case hf => k_extra "my mem"
    case hdf => k_extra "my mem"
    case hl => k_extra "my mem"
    case hx => k_extra "my mem"
    case hd => k_extra "my mem"
    case hp => k_extra "my mem"
    case hp2 => k_extra "my mem"
    case hC => k_extra "my chs"
    case hr => exact Fr.keep (by k_asm) _ _ hr1
    case room => k_extra "my room"
    case u => k_extra "my room"
    case len => simp at hlen; omega
    intro tt s5 epl5 ep5 hs5 t5 t6 ps5 ps6 k5 e1 e2 e3 e4 e5 tr5 tr6
    refine' then_cgs (Go.kp k5) ?F ?N ?C ?_
    case F => k_asm
    case N => k_asm
    case C => k_extra "my cgs"
    intro F5 N5
    k_sweep
    k_steps
    rename News _ _ _ _ => kN
    rename Fr _ _ _ _ => kF
    refine join_list (kN.isList (by k_extra "my mem")) (StrL.strsAre (hL.append (.cons .nil))) hjoin fun t7 k7 => ?_
    (try dsimp only)
    (show Q _ _)
    refine hQ _ _ (.fin (kp_out kp' kF kN (all_cons hf (all_cons hdf (all_cons hl (all_cons hx (all_cons hdd (all_cons hps (all_cons hps2 all_nil))))))) (all_cons (.inr (by k_extra "my mem")) (all_cons (.inr (by k_extra "my mem")) (all_cons (.inl (by k_extra "my mem")) (all_cons (.inl (by k_extra "my mem")) (all_cons (.inl (by k_extra "my mem")) (all_cons (.inl (by k_extra "my mem")) (all_cons (.inl (by k_extra "my mem")) all_nil)))))))) ?os ?gens) ⟨_, kN.get (by k_extra "my mem"), by assumption, hps0⟩ ⟨_, kN.get (by k_extra "my mem"), by assumption, hps02⟩
    case os => k_extra "my os"
    case gens => k_extra "my gens"
end

theorem mkDict_of {h0 h1 h2 h3 h4 h5 : Int} {t0 t1 t2 t3 t4 t5 u0 u1 u2 u3 : Tok} {wd : Int} {l x : Addr} :
    dictOf [⟨h0, .str (Str.ofString "_maxlen") t0, .int wd u0⟩, ⟨h1, .str (Str.ofString "_continuation_ws") t1, .str (Str.ofString " ") u1⟩, ⟨h2, .str (Str.ofString "_continuation_ws_len") t2, .int 1 u2⟩, ⟨h3, .str (Str.ofString "_splitchars") t3, .str (Str.ofString " ") u3⟩, ⟨h4, .str (Str.ofString "_lines") t4, .ref l⟩, ⟨h5, .str (Str.ofString "_current_line") t5, .ref x⟩] 6
      = mkDict (fun | 0 => h0 | 1 => h1 | 2 => h2 | 3 => h3 | 4 => h4 | _ => h5) (fun | 0 => t0 | 1 => t1 | 2 => t2 | 3 => t3 | 4 => t4 | 5 => t5 | 6 => u0 | 7 => u1 | 8 => u2 | _ => u3) wd l x := rfl
theorem mak_dict {h : Heap} {df : Addr} {h0 h1 h2 h3 h4 h5 : Int} {t0 t1 t2 t3 t4 t5 u0 u1 u2 u3 : Tok} {wd : Int} {l x : Addr}
    (e : h.get? df = some (dictOf [⟨h0, .str (Str.ofString "_maxlen") t0, .int wd u0⟩, ⟨h1, .str (Str.ofString "_continuation_ws") t1, .str (Str.ofString " ") u1⟩, ⟨h2, .str (Str.ofString "_continuation_ws_len") t2, .int 1 u2⟩, ⟨h3, .str (Str.ofString "_splitchars") t3, .str (Str.ofString " ") u3⟩, ⟨h4, .str (Str.ofString "_lines") t4, .ref l⟩, ⟨h5, .str (Str.ofString "_current_line") t5, .ref x⟩] 6)) :
    ∃ q k, h.get? df = some (mkDict q k wd l x) := ⟨_, _, e.trans (congrArg some mkDict_of)⟩
section
variable {w : World} {A : Around} {s : Shared} {p : Program} {loose : List Str} {mg mb : Str → Option Value} {g₀ : Heap}
    {R : Result → Shared → Prop} {f df : Addr} {wd : Int}

theorem vinit_c {t1 t2 t3 t4 : Tok} (G : Gd (hd.heap_39 w.params) p loose mg mb g₀) (H : g₀.StaysIn s.heap) (hf : s.heap.get? f = some (instObj 94 df)) (hdf : s.heap.get? df = some (dictOf [] 0)) (hf0 : g₀.get? f = none) (hdf0 : g₀.get? df = none) (hne : @Ne Nat f df)
    (hroom : A.depth + 35 < recursionLimit) (hu : A.units + 400 < cLine)
    (hQ : ∀ l x d s', Go [f, df] s s' → MakAt g₀ s'.heap f df l x d wd [] [] → (s.heap.get? l = none ∧ s.heap.get? x = none ∧ s.heap.get? d = none) → R (.ok (.ret .none)) s') :
    codeAny (model PySem.Challenge.rw_wr0037_01.prog w) A (.call (.ref 35) ⟨[.ref f, .int 0 t1, .int wd t2, .str (Str.ofString " ") t3, .str (Str.ofString " ") t4], []⟩) R s := by
  refine' enterC (binds := [(Str.ofString "self", .ref f), (Str.ofString "headerlen", .int 0 t1), (Str.ofString "maxlen", .int wd t2), (Str.ofString "continuation_ws", .str (Str.ofString " ") t3), (Str.ofString "splitchars", .str (Str.ofString " ") t4)]) [(f, instObj 94 df), (df, dictOf [] 0)] G H ?hn ?ho ?hcd ?hr ?hb ?hl ?hbody ?c2 ?c3 ?c4 ?c5
  k_extra "my enter"
  case hn => exact all_cons ⟨hf, hf0⟩ (all_cons ⟨hdf, hdf0⟩ all_nil)
  case hr => omega
  case hbody =>
    intro g' L' h' G' st' kp' F' N' l1
    have X' := G'.X
    have T' := G'.T
    k_lt l1
    (show wpAny _ _ _ _ _ _); k_fold
    k_steps
    rename News _ _ _ _ => kN
    rename Fr _ _ _ _ => kF
    obtain ⟨q, k, e2⟩ := mak_dict (kN.get (a := df) (by k_extra "my mem"))
    refine hQ _ _ _ _ (.fin (kp_out kp' kF kN (all_cons hf (all_cons hdf all_nil)) (all_cons (.inl (by k_extra "my mem")) (all_cons (.inl (by k_extra "my mem")) all_nil))) ?os ?gens) ⟨q, k, _, _, _, _, _, kN.get (by k_extra "my mem"), e2, kN.get (by k_extra "my mem"), kN.get (by k_extra "my mem"), kN.get (by k_extra "my mem"), ⟨hf0, hdf0, fresh_of st' kN (by k_extra "my mem"), fresh_of st' kN (by k_extra "my mem"), fresh_of st' kN (by k_extra "my mem")⟩, ⟨hne, by k_ne, by k_ne, by k_ne, by k_ne, by k_ne, by k_ne, by k_ne, by k_ne, by k_ne⟩⟩ ⟨fresh_out kp' (kN.fresh (by k_extra "my mem")) (by k_all), fresh_out kp' (kN.fresh (by k_extra "my mem")) (by k_all), fresh_out kp' (kN.fresh (by k_extra "my mem")) (by k_all)⟩
    case os => k_extra "my os"
    case gens => k_extra "my gens"
end
section
variable {w : World} {A : Around} {s : Shared} {p : Program} {loose : List Str} {mg mb : Str → Option Value} {g : Heap} {L : Addr} {m : Str → Option Value} {news : List (Addr × Obj)}
    {Q : Value → Shared → Prop} {E : Value → Shared → Prop} {wd : Int}
theorem makes_94 {P : Params} : makesIn (hd.heap_39 P) 94 = true := by k_is
theorem find_35 {P : Params} : findIn (hd.heap_39 P) (.ref 94) "__init__" = some (some (.ref 35)) := by k_is
theorem fn_35 {P : Params} : isFn (hd.heap_39 P) (.ref 35) = true := by k_is
theorem vnew_L {t1 t2 t3 t4 : Tok} (F : Fr g L s.heap m) (N : News g L s.heap news) (G : Gd (hd.heap_39 w.params) p loose mg mb g)
    (hroom : A.depth + 40 < recursionLimit) (hu : A.units + 450 < cLine)
    (h : ∀ f df l x d s' q k epl ep hs t t', Sm s s' → Fr g L s'.heap m → News g L s'.heap ((f, instObj 94 df) :: (df, mkDict q k wd l x) :: (l, listOf #[] epl) :: (x, accObj d [] ep) :: (d, accDict hs t t') :: news) → Dist5 f df l x d → (∀ p ∈ news, p.1 ≠ f ∧ p.1 ≠ df ∧ p.1 ≠ l ∧ p.1 ≠ x ∧ p.1 ≠ d) → Q (.ref f) s') :
    wpAny (model PySem.Challenge.rw_wr0037_01.prog w) A (call (.ref 94) [.int 0 t1, .int wd t2, .str (Str.ofString " ") t3, .str (Str.ofString " ") t4]) Q E s := by
  refine call_cls F G.X N makes_94 find_35 fn_35 fun f df h1 F1 N1 l1 l2 => ?_
  have z1 := N1 (f, instObj 94 df) (.head _)
  have z2 := N1 (df, dictOf [] 0) (.tail _ (.head _))
  refine vinit_c (s := { s with heap := h1 }) G F1.keep z1.1 z2.1 z1.2.2 z2.2.2 (Nat.ne_of_gt l2) (by show A.depth + 1 + 35 < _; omega) (by show A.units + 1 + 400 < _; omega) fun l x d s' kk hM fr => ⟨rfl, ?_⟩
  obtain ⟨q, k, epl, ep, hs, t, t', e1, e2, e3, e4, e5, ho, hdi⟩ := hM
  have hX : ∀ a ∈ [f, df], a ≠ L ∧ g.get? a = none := fun a ha => by
    rcases List.mem_cons.mp ha with rfl | ha
    · exact z1.2
    · rcases List.mem_cons.mp ha with rfl | ha
      · exact z2.2
      · cases ha
  have nL : ∀ a, h1.get? a = none → a ≠ L := fun a e q => by obtain ⟨oL, _, _, hL, _⟩ := F1.ns; rw [q, hL] at e; cases e
  have nN : ∀ a, h1.get? a = none → ∀ p ∈ news, p.1 ≠ a := fun a e p hp q => by
    have := (N1 p (.tail _ (.tail _ hp))).1; rw [q, e] at this; cases this
  refine h f df l x d s' q k epl ep hs t t' ⟨kk.os, kk.gens⟩ (fr_after kk.kp F1 hX) (news_cons ⟨e1, z1.2⟩ (news_cons ⟨e2, z2.2⟩ (news_cons ⟨e3, nL _ fr.1, ho.2.2.1⟩ (news_cons ⟨e4, nL _ fr.2.1, ho.2.2.2.1⟩ (news_cons ⟨e5, nL _ fr.2.2, ho.2.2.2.2⟩ fun p hp => ?_))))) hdi fun p hp => ⟨?_, ?_, nN _ fr.1 p hp, nN _ fr.2.1 p hp, nN _ fr.2.2 p hp⟩
  · have l3 := l1 p hp
    exact ⟨kk.kp _ _ (N1 p (.tail _ (.tail _ hp))).1 (fun hm => by
      rcases List.mem_cons.mp hm with q | hm
      · rw [q] at l3; exact absurd (Nat.lt_trans l3 l2) (Nat.lt_irrefl _)
      · rcases List.mem_cons.mp hm with q | hm
        · rw [q] at l3; exact absurd l3 (Nat.lt_irrefl _)
        · cases hm), (N1 p (.tail _ (.tail _ hp))).2⟩
  · exact Nat.ne_of_lt (Nat.lt_trans (l1 p hp) l2)
  · exact Nat.ne_of_lt (l1 p hp)
end

theorem size_le {cs : List (Str × Str)} (h : ∀ c ∈ cs, OkCh c) : sizeOf' cs ≤ 5 * cs.length := by
  induction cs with
  | nil => simp [sizeOf']
  | cons c r ih =>
    have h1 := (h c (.head _)).glen
    have h2 := (h c (.head _)).wlen
    have h3 := ih fun x hx => h x (.tail _ hx)
    simp only [sizeOf', List.map_cons, List.sum_cons, List.length_cons] at h3 ⊢
    omega
theorem cutAt_le {cs : List (Str × Str)} {i : Nat} : ∀ {n : Nat}, cutAt cs n = some i → 1 ≤ i ∧ i ≤ n
  | 0, h => by cases h
  | n + 1, h => by
    unfold cutAt at h
    split at h
    · cases h; omega
    · have := cutAt_le h; omega
theorem join_toList : ∀ xs : List Str, (Str.join (Str.ofString "") xs).cps.toList = (xs.map (·.cps.toList)).flatten
  | [] => rfl
  | [x] => by simp [Str.join]
  | x :: y :: r => by
    have h := join_toList (y :: r)
    have e : (Str.ofString "").cps.toList = [] := by decide +kernel
    show ((x ++ Str.ofString "" ++ Str.join (Str.ofString "") (y :: r)).cps).toList = _
    show (x.cps ++ (Str.ofString "").cps ++ (Str.join (Str.ofString "") (y :: r)).cps).toList = _
    rw [Array.toList_append, Array.toList_append, h, e]
    simp
noncomputable abbrev chL (c : Str × Str) : List Nat := c.1.cps.toList ++ c.2.cps.toList
theorem textOf_toList (cs : List (Str × Str)) : (textOf cs).cps.toList = cs.flatMap chL := by
  show (Builtin.Str.glued (Str.ofString "") (cs.map fun c => c.1 ++ c.2)).cps.toList = _
  rw [StrLaws.glued_eq_join, join_toList, List.map_map, List.flatMap_def]
  congr 1
  apply List.map_congr_left
  intro c _
  show (c.1.cps ++ c.2.cps).toList = _
  rw [Array.toList_append]
theorem len_toList (x : Str) : x.length = x.cps.toList.length := by show x.cps.size = _; simp
theorem textOf_length (cs : List (Str × Str)) : (textOf cs).length = sizeOf' cs := by
  rw [len_toList, textOf_toList, List.length_flatMap]
  unfold sizeOf'
  congr 1
  apply List.map_congr_left
  intro c _
  rw [List.length_append, ← len_toList, ← len_toList]
theorem word_nospace : ∀ v ∈ wordsL, (v.cps.toList.all Unicode.isSpace) = false := by decide +kernel
theorem textOf_nospace {cs : List (Str × Str)} {c : Str × Str} (hm : c ∈ cs) (h : OkCh c) : Txt.isspace (textOf cs) = false := by
  unfold Txt.isspace
  rw [← Array.all_toList, textOf_toList, List.all_flatMap]
  have : (cs.all fun a => (chL a).all Unicode.isSpace) = false := by
    rw [List.all_eq_false]
    refine ⟨c, hm, ?_⟩
    rw [List.all_append, word_nospace _ h.2, Bool.and_false]
    exact Bool.false_ne_true
  rw [this, Bool.and_false]
/-- what holds of the maker after m chunks -/
structure LayInv (st : List Str × List (Str × Str)) (m : Nat) : Prop where
  l1 : st.1.length ≤ m
  l2 : st.2.length ≤ m
  ok : ∀ y ∈ st.2, OkCh y
  ln : ∀ x ∈ st.1, x.length ≤ 5 * m
theorem lay1_inv {wd : Int} {st : List Str × List (Str × Str)} {m : Nat} {c : Str × Str} (I : LayInv st m) (hc : OkCh c) : LayInv (lay1 wd st c) (m + 1) ∧ (lay1 wd st c).2 ≠ [] := by
  obtain ⟨h1, h2, h3, h4⟩ := I
  have ok' : ∀ y ∈ st.2 ++ [c], OkCh y := fun y hy => by
    rcases List.mem_append.mp hy with q | q
    · exact h3 y q
    · rw [List.mem_singleton.mp q]; exact hc
  have plain : LayInv (st.1, st.2 ++ [c]) (m + 1) ∧ (st.1, st.2 ++ [c]).2 ≠ [] := ⟨⟨by show st.1.length ≤ _; omega, by show (st.2 ++ [c]).length ≤ _; simp; omega, ok', fun x hx => Nat.le_trans (h4 x hx) (by omega)⟩, by simp⟩
  unfold lay1
  split
  · split
    · rename_i i hi
      have hle := cutAt_le hi
      refine ⟨⟨?_, ?_, fun y hy => ok' y (List.mem_of_mem_drop hy), fun x hx => ?_⟩, fun e => ?_⟩
      · show (st.1 ++ [_]).length ≤ _; simp; omega
      · show ((st.2 ++ [c]).drop i).length ≤ _; simp; omega
      · rcases List.mem_append.mp hx with q | q
        · exact Nat.le_trans (h4 x q) (by omega)
        · rw [List.mem_singleton.mp q, textOf_length]
          have := size_le (cs := (st.2 ++ [c]).take i) fun y hy => ok' y (List.mem_of_mem_take hy)
          simp only [List.length_take, List.length_append, List.length_cons, List.length_nil] at this
          omega
      · have : ((st.2 ++ [c]).drop i).length = 0 := by rw [show (st.2 ++ [c]).drop i = [] from e]; rfl
        simp at this
        omega
    · exact plain
  · exact plain
theorem fold_inv {wd : Int} : ∀ {cs : List (Str × Str)} {st : List Str × List (Str × Str)} {m : Nat}, LayInv st m → (∀ c ∈ cs, OkCh c) → LayInv (cs.foldl (lay1 wd) st) (m + cs.length) ∧ (st.2 ≠ [] ∨ cs ≠ [] → (cs.foldl (lay1 wd) st).2 ≠ [])
  | [], _, _, I, _ => ⟨I, fun h => h.elim id fun q => absurd rfl q⟩
  | c :: r, st, m, I, h => by
    obtain ⟨I1, n1⟩ := lay1_inv (wd := wd) I (h c (.head _))
    obtain ⟨I2, n2⟩ := fold_inv (cs := r) (wd := wd) I1 fun y hy => h y (.tail _ hy)
    refine ⟨?_, fun _ => n2 (.inl n1)⟩
    have e : m + 1 + r.length = m + (c :: r).length := by simp; omega
    rw [← e]
    exact I2
theorem LayInv.zero : LayInv ([], []) 0 := ⟨Nat.le_refl _, Nat.le_refl _, fun _ q => (nomatch q), fun _ q => (nomatch q)⟩
theorem fold_take {wd : Int} {cs : List (Str × Str)} {k : Nat} {c : Str × Str} (h : cs[k]? = some c) : (cs.take (k + 1)).foldl (lay1 wd) ([], []) = lay1 wd ((cs.take k).foldl (lay1 wd) ([], [])) c := by
  rw [List.take_add_one, h, List.foldl_append]
  rfl
theorem sum_le_mul {f : α → Nat} {b : Nat} : ∀ {l : List α}, (∀ x ∈ l, f x ≤ b) → (l.map f).sum ≤ l.length * b
  | [], _ => by simp
  | a :: r, h => by
    have h1 := h a (.head _)
    have h2 := sum_le_mul (l := r) fun x hx => h x (.tail _ hx)
    simp only [List.map_cons, List.sum_cons, List.length_cons, Nat.succ_mul]
    omega

noncomputable def AllNe5 (f df l x d : Nat) : List (Addr × Obj) → Prop
  | [] => True
  | p :: r => (@Ne Nat p.1 f ∧ @Ne Nat p.1 df ∧ @Ne Nat p.1 l ∧ @Ne Nat p.1 x ∧ @Ne Nat p.1 d) ∧ AllNe5 f df l x d r
theorem allNe5_of {f df l x d : Addr} : ∀ {ls : List (Addr × Obj)}, (∀ p ∈ ls, p.1 ≠ f ∧ p.1 ≠ df ∧ p.1 ≠ l ∧ p.1 ≠ x ∧ p.1 ≠ d) → AllNe5 f df l x d ls
  | [], _ => trivial
  | _ :: _, h => ⟨h _ (.head _), allNe5_of fun p hp => h p (.tail _ hp)⟩
section
variable {w : World} {A : Around} {s : Shared} {p : Program} {loose : List Str} {mg mb : Str → Option Value} {g₀ : Heap}
    {Q : Value → Shared → Prop} {E : Value → Shared → Prop} {cl : Addr} {wd : Int} {vs : List Value} {cs : List (Str × Str)} {epc : Nat}

noncomputable abbrev FldJ (f df l x d : Addr) (q : Nat → Int) (k : Nat → Tok) (wd : Int) (cs : List (Str × Str)) (g' : Heap) (n : Nat) (m' : Str → Option Value) (base : List (Addr × Obj)) : Prop := m' (Str.ofString "maker") = some (.ref f) ∧ ∃ lines its epl ep hs t t' ps ps2 ex, base = (f, instObj 94 df) :: (df, mkDict q k wd l x) :: (l, listOf lines.toArray epl) :: (x, accObj d its ep) :: (d, accDict hs t t') :: (140, tabObj ps) :: (147, tabObj ps2) :: ex ∧ TriplesOk ps.toList ∧ TriplesOk ps2.toList ∧ StrL lines ((cs.take n).foldl (lay1 wd) ([], [])).1 ∧ Tail ex its ((cs.take n).foldl (lay1 wd) ([], [])).2 ∧ Fresh g' its
theorem law_folded_c {tw : Tok} (hh : A.handled = none) (G : Gd (hd.heap_39 w.params) p loose mg mb g₀) (H : g₀.StaysIn s.heap) (hcl : s.heap.get? cl = some (listOf vs.toArray epc)) (hC : Chs s.heap vs cs) (hok : ∀ c ∈ cs, OkCh c) (hne : cs ≠ []) (hlen : cs.length < 100)
    (hT : TB g₀ s.heap 140) (hT2 : TB g₀ s.heap 147)
    (hroom : A.depth + 65 < recursionLimit) (hu : A.units + 700 < cLine)
    (hQ : ∀ t s', Go [140, 147] s s' → TB g₀ s'.heap 140 → TB g₀ s'.heap 147 → Q (.str (Txt.join (Str.ofString "...") ((cs.foldl (lay1 wd) ([], [])).1 ++ [textOf (cs.foldl (lay1 wd) ([], [])).2])) t) s') :
    wpAny (model PySem.Challenge.rw_wr0037_01.prog w) A (call (.ref 243) [.ref cl, .int wd tw]) Q E s := by
  k_extra "my hide"
  obtain ⟨ps, hps, tr, hps0⟩ := hT
  obtain ⟨ps2, hps2, tr2, hps02⟩ := hT2
  k_extra "my back"
  have hn : ∀ z ∈ [((140 : Addr), tabObj ps), ((147 : Addr), tabObj ps2)], s.heap.get? z.1 = some z.2 := all_cons hps (all_cons hps2 all_nil)
  have ht : ∀ z ∈ [((140 : Addr), tabObj ps), ((147 : Addr), tabObj ps2)], z.2.cls ≠ .type "tuple" := all_cons mcls_tab (all_cons mcls_tab all_nil)
  refine' enter (binds := [(Str.ofString "chunks", .ref cl), (Str.ofString "width", .int wd tw)]) [(140, tabObj ps), (147, tabObj ps2)] G H ?hn ?ho ?hcd ?hr ?hb ?hl ?hbody ?c2 ?c3 ?c4 ?c5
  k_extra "my enter"
  case hn => exact all_cons ⟨hps, hps0⟩ (all_cons ⟨hps2, hps02⟩ all_nil)
  case hr => omega
  case hbody =>
    intro g' L' h' G' st' kp' F' N' l1
    have X' := G'.X
    have T' := G'.T
    have hC1 : Chs g' vs cs := chs_ground hC kp' hn ht
    have hcl1 : g'.get? cl = some (listOf vs.toArray epc) := kp' _ _ hcl fun hm => by
      obtain ⟨z, hz, e⟩ := List.mem_map.mp hm
      have := hn z hz
      rw [e, hcl] at this
      rcases List.mem_cons.mp hz with rfl | hz
      · cases this
      · rcases List.mem_cons.mp hz with rfl | hz
        · cases this
        · cases hz
    clear hn ht hC
    k_lt l1
    (show wpAny _ _ _ _ _ _); k_fold
    k_steps
    refine' vnew_L ?F ?N ?G ?r ?u ?_
    case F => k_asm
    case N => k_asm
    case G => k_asm
    case r => k_extra "my room"
    case u => k_extra "my room"
    intro f df l x d s2 q k epl ep hs t t' sm2 F2 N2 hdi ne2
    replace ne2 := allNe5_of ne2
    simp only [AllNe5, and_true] at ne2
    k_extra "my hide"
    obtain ⟨⟨n1, n2, n3, n4, n5⟩, ⟨m1, m2, m3, m4, m5⟩⟩ := ne2
    k_extra "my back"
    k_sweep
    k_steps
    refine wpAny_For ?_
    k_steps
    rename Fr _ _ _ _ => kF
    rename News _ _ _ _ => kN
    refine iter_list_L kF kN (kF.keep _ _ hcl1) ?_
    intro it o h3 F3 N3 l3 lo
    have off : ∀ p ∈ [(f, instObj 94 df), (df, mkDict q k wd l x), (l, listOf #[] epl), (x, accObj d [] ep), (d, accDict hs t t'), (140, tabObj ps), (147, tabObj ps2)], p.1 ≠ it := fun p hp => Nat.ne_of_lt (l3 p hp)
    have offs := allNe_of off
    simp only [AllNe, and_true] at offs
    k_extra "my hide"
    obtain ⟨o1, o2, o3, o4, o5, o6, o7⟩ := offs
    k_extra "my back"
    have hvl := hC1.length
    refine loop_list (its := vs) (ep := epc) (J := FldJ f df l x d q k wd cs g') hh F3 N3 lo (fun p hp => Nat.ne_of_lt (l3 p hp)) ?J0 (fun _ _ _ _ => .inr hcl1) ?turn ?last
    case J0 => exact ⟨rfl, [], [], _, _, _, _, _, _, _, [], rfl, tr, tr2, .nil, ⟨fun _ q => (nomatch q), fun _ _ => .nil⟩, .nil⟩
    case turn =>
      intro n s4 m4 base4 v o4' E4 hv lo4 hJ sm4 F4 N4 off4
      k_extra "my hide"
      obtain ⟨hmk, lines, its, epl, ep, hs, t, t', ps, ps2, ex, rfl, tr, tr2, hL, hX, hfr⟩ := hJ
      k_extra "my back"
      have hn : n < cs.length := by rw [← hvl]; exact (List.getElem?_eq_some_iff.mp hv).1
      k_extra "my hide"
      obtain ⟨c, hc⟩ : ∃ c, cs[n]? = some c := ⟨_, List.getElem?_eq_getElem hn⟩
      obtain ⟨v', hv', rr, ta, tb, rfl, ho⟩ := hC1.get n c hc
      k_extra "my back"
      rw [hv] at hv'; cases hv'
      have I := (fold_inv (wd := wd) (cs := cs.take n) LayInv.zero fun y hy => hok y (List.mem_of_mem_take hy)).1
      have hI : (cs.take n).length = n := by rw [List.length_take]; omega
      rw [hI, Nat.zero_add] at I
      have okc := hok c (List.mem_of_getElem? hc)
      have hszl := size_le (cs := ((cs.take n).foldl (lay1 wd) ([], [])).2 ++ [c]) fun y hy => by
        rcases List.mem_append.mp hy with q | q
        · exact I.ok y q
        · rw [List.mem_singleton.mp q]; exact okc
      have i1 := I.l1
      have i2 := I.l2
      have hll := hL.length
      have hcx : Chs s4.heap its ((cs.take n).foldl (lay1 wd) ([], [])).2 := hX.chs _ fun p hp => (N4 p (by repeat (first | exact hp | refine List.mem_cons_of_mem _ ?_))).1
      have hil := hcx.length
      k_steps
      refine' append_chunk_L hh ?F ?N ?G ?hf ?hdf ?hl ?hx ?hd ?hp ?hp2 tr tr2 hdi ?hC ?hok hfr hL ?room ?u ?len ?hsz ?hll ?_
      case F => k_asm
      case N => k_asm
      case G => k_asm
      case hf => k_extra "my mem"
      case hdf => k_extra "my mem"
      case hl => k_extra "my mem"
      case hx => k_extra "my mem"
      case hd => k_extra "my mem"
      case hp => k_extra "my mem"
      case hp2 => k_extra "my mem"
      case hC =>
        rename News _ _ _ _ => kN
        exact hX.chs _ fun p hp => (kN p (by repeat (first | exact hp | refine List.mem_cons_of_mem _ ?_))).1
      case hok =>
        intro y hy
        rcases List.mem_append.mp hy with q | q
        · exact I.ok y q
        · rw [List.mem_singleton.mp q]; exact okc
      case room => k_extra "my room"
      case u => k_extra "my room"
      case len => omega
      case hsz =>
        simp only [List.length_append, List.length_cons, List.length_nil] at hszl
        show sizeOf' (((cs.take n).foldl (lay1 wd) ([], [])).2 ++ [c]) < 1000
        omega
      case hll => omega
      intro s6 lines6 its6 epl6 ep6 hs6 t6 t6' ps6 ps7 k6 hC6 hfr6 hL6 e1 e2 e3 e4 e5 tr6 tr7
      rename News _ _ _ _ => kN
      rename Fr _ _ _ _ => kF
      k_extra "my hide"
      obtain ⟨d1, d2, d3, d4, d5, d6, d7, d8, d9, d10⟩ := id hdi
      k_extra "my back"
      have offX : ∀ a ∈ [l, x, d, 140, 147], a ≠ L' ∧ g'.get? a = none := by
        refine all_cons (kN (l, _) (by k_extra "my mem")).2 (all_cons (kN (x, _) (by k_extra "my mem")).2 (all_cons (kN (d, _) (by k_extra "my mem")).2 (all_cons (kN ((140 : Addr), _) (by k_extra "my mem")).2 (all_cons (kN ((147 : Addr), _) (by k_extra "my mem")).2 all_nil))))
      have F6 := fr_after (Go.kp k6) kF offX
      obtain ⟨ex6, Nx, Tx⟩ := chs_ledger F6 hC6 hfr6
      have N6 : News g' L' s6.heap ((it, o4') :: (f, instObj 94 df) :: (df, mkDict q k wd l x) :: (l, listOf lines6.toArray epl6) :: (x, accObj d its6 ep6) :: (d, accDict hs6 t6 t6') :: (140, tabObj ps6) :: (147, tabObj ps7) :: ex6) := by
        refine news_cons (le_kept (Go.kp k6) kN (by k_extra "my mem") ?_) (news_cons (le_kept (Go.kp k6) kN (by k_extra "my mem") ?_) (news_cons (le_kept (Go.kp k6) kN (by k_extra "my mem") ?_) (news_cons (le_new kN (by k_extra "my mem") e1) (news_cons (le_new kN (by k_extra "my mem") e2) (news_cons (le_new kN (by k_extra "my mem") e3) (news_cons (le_new kN (by k_extra "my mem") e4) (news_cons (le_new kN (by k_extra "my mem") e5) Nx)))))))
        · simp only [List.mem_cons, List.not_mem_nil, or_false, not_or]; exact ⟨Ne.symm o3, Ne.symm o4, Ne.symm o5, Ne.symm o6, Ne.symm o7⟩
        · simp only [List.mem_cons, List.not_mem_nil, or_false, not_or]; exact ⟨d2, d3, d4, Ne.symm n1, Ne.symm m1⟩
        · simp only [List.mem_cons, List.not_mem_nil, or_false, not_or]; exact ⟨d5, d6, d7, Ne.symm n2, Ne.symm m2⟩
      have hit : ∀ p ∈ ex6, p.1 ≠ it := Tx.ne Nx (N6 (it, o4') (.head _)).1 (by rw [lo4.1]; decide)
      clear kN kF e1 e2 e3 e4 e5
      k_steps
      (try dsimp only)
      refine ⟨⟨?os, ?gens⟩, _, _, o4', lo4, ⟨?mk, lines6, its6, _, _, _, _, _, _, _, ex6, rfl, tr6, tr7, ?sl, ?tl, hfr6⟩, F6, N6, all_cons o1 (all_cons o2 (all_cons o3 (all_cons o4 (all_cons o5 (all_cons o6 (all_cons o7 hit))))))⟩
      case os => k_extra "my os"
      case gens => k_extra "my gens"
      case mk => exact hmk
      case sl => rw [fold_take hc]; exact hL6
      case tl => rw [fold_take hc]; exact Tx
    case last =>
      intro s4 m4 base4 E4 hJ sm4 F4 N4
      k_extra "my hide"
      obtain ⟨hmk, lines, its, epl, ep, hs, t, t', ps, ps2, ex, rfl, tr, tr2, hL, hX, hfr⟩ := hJ
      k_extra "my back"
      rw [hvl, List.take_length] at hL hX
      have I := fold_inv (wd := wd) (cs := cs) LayInv.zero hok
      rw [Nat.zero_add] at I
      obtain ⟨cs0, c, hcc⟩ : ∃ cs0 c, (cs.foldl (lay1 wd) ([], [])).2 = cs0 ++ [c] := by
        rcases List.eq_nil_or_concat (cs.foldl (lay1 wd) ([], [])).2 with e | ⟨a, b, e⟩
        · exact absurd e (I.2 (.inr hne))
        · exact ⟨a, b, by rw [e]; simp⟩
      have okc : OkCh c := I.1.ok c (by rw [hcc]; simp)
      have hll := hL.length
      have i1 := I.1.l1
      have i2 := I.1.l2
      have hszl := size_le (cs := (cs.foldl (lay1 wd) ([], [])).2) I.1.ok
      k_steps
      rename News _ _ _ _ => kN
      rename Fr _ _ _ _ => kF
      have hcx : Chs _ its (cs.foldl (lay1 wd) ([], [])).2 := hX.chs _ fun p hp => (kN p (by repeat (first | exact hp | refine List.mem_cons_of_mem _ ?_))).1
      have hil := hcx.length
      refine vstr_c (c := c) (cs := cs0) hh G' kF.keep (mak_of (q := q) (k := k) (lines := lines) (its := its) (wd := wd) kN (by k_extra "my mem") (by k_extra "my mem") (by k_extra "my mem") (by k_extra "my mem") (by k_extra "my mem") hdi) (hcc ▸ hcx) okc hL ⟨_, (kN (140, _) (by k_extra "my mem")).1, tr, (kN (140, _) (by k_extra "my mem")).2.2⟩ ⟨_, (kN (147, _) (by k_extra "my mem")).1, tr2, (kN (147, _) (by k_extra "my mem")).2.2⟩ (by k_extra "my room") (by k_extra "my room") (by omega) (by rw [← hcc]; omega) (by rw [← hcc]; exact textOf_nospace (c := c) (by rw [hcc]; simp) okc) (by omega) ?hj fun t9 s9 k9 hT hT2 => ?_
      case hj =>
        rw [← hcc]
        have b1 := sum_le_mul (f := fun x : Str => x.length) (b := 5 * cs.length) (l := (cs.foldl (lay1 wd) ([], [])).1 ++ [textOf (cs.foldl (lay1 wd) ([], [])).2]) fun x hx => by
          rcases List.mem_append.mp hx with q | q
          · exact I.1.ln x q
          · rw [List.mem_singleton.mp q, textOf_length]; omega
        have b2 : ((cs.foldl (lay1 wd) ([], [])).1 ++ [textOf (cs.foldl (lay1 wd) ([], [])).2]).length ≤ 100 := by simp; omega
        have b3 : (Str.ofString "...").length = 3 := by decide +kernel
        have b4 := Nat.mul_le_mul b2 (Nat.mul_le_mul_left 5 (Nat.le_of_lt hlen))
        rw [b3]
        omega
      rw [← hcc]
      (try dsimp only)
      (show Q _ _)
      k_extra "my hide"
      obtain ⟨pa, ha, tra, _⟩ := hT
      obtain ⟨pb, hb, trb, _⟩ := hT2
      k_extra "my back"
      have offX : ∀ a ∈ [l, x, d, 140, 147], g'.get? a = none := by
        refine all_cons (kN (l, _) (by k_extra "my mem")).2.2 (all_cons (kN (x, _) (by k_extra "my mem")).2.2 (all_cons (kN (d, _) (by k_extra "my mem")).2.2 (all_cons (kN ((140 : Addr), _) (by k_extra "my mem")).2.2 (all_cons (kN ((147 : Addr), _) (by k_extra "my mem")).2.2 all_nil))))
      refine hQ _ _ (.fin ?kp ?os ?gens) ⟨pa, ha, tra, hps0⟩ ⟨pb, hb, trb, hps02⟩
      case os => k_extra "my os"
      case gens => k_extra "my gens"
      case kp =>
        intro b o e nb
        have e1 := kp' b o e nb
        refine k9.kp b o (kF.keep _ _ e1) fun hm => ?_
        have := offX b hm
        rw [this] at e1
        cases e1
end

/-- a set or a list of small ints: which ints it holds -/
noncomputable def Places (w : World) (h : Heap) (pl : Addr) (f : Nat → Bool) : Prop :=
  (∃ o S n, h.get? pl = some o ∧ o.SetObjOf (intKind PySem.Challenge.rw_wr0037_01.prog w) S n ∧ n < scanBound ∧ ∀ k : Nat, S (k : Int) = f k) ∨
  (∃ vs ns ep, h.get? pl = some (listOf vs.toArray ep) ∧ IntsAre vs ns ∧ ∀ k : Nat, ns.any (· == (k : Int)) = f k)
theorem Places.keeps {w : World} {h h' : Heap} {pl : Addr} {f : Nat → Bool} (x : Places w h pl f) (k : ∀ o, h.get? pl = some o → h'.get? pl = some o) : Places w h' pl f := by
  rcases x with ⟨o, S, n, e, r⟩ | ⟨vs, ns, ep, e, r⟩
  · exact .inl ⟨o, S, n, k _ e, r⟩
  · exact .inr ⟨vs, ns, ep, k _ e, r⟩
noncomputable def plainT (cs : List (Str × Str)) (f : Nat → Bool) : Nat → Str
  | 0 => Str.ofString ""
  | k + 1 => (if f k then plainT cs f k ++ Str.ofString "..." else plainT cs f k) ++ ((cs.getD k ("", "")).1 ++ (cs.getD k ("", "")).2)
theorem plainT_t {cs : List (Str × Str)} {f : Nat → Bool} {n : Nat} {c : Str × Str} (h : f n = true) (hg : cs.getD n ("", "") = c) : plainT cs f (n + 1) = plainT cs f n ++ Str.ofString "..." ++ (c.1 ++ c.2) := by
  show (if f n then plainT cs f n ++ Str.ofString "..." else plainT cs f n) ++ ((cs.getD n ("", "")).1 ++ (cs.getD n ("", "")).2) = _
  rw [hg, if_pos h]
theorem plainT_f {cs : List (Str × Str)} {f : Nat → Bool} {n : Nat} {c : Str × Str} (h : ¬ f n = true) (hg : cs.getD n ("", "") = c) : plainT cs f (n + 1) = plainT cs f n ++ (c.1 ++ c.2) := by
  show (if f n then plainT cs f n ++ Str.ofString "..." else plainT cs f n) ++ ((cs.getD n ("", "")).1 ++ (cs.getD n ("", "")).2) = _
  rw [hg, if_neg h]
theorem ofS_len : (Str.ofString "...").length = 3 := by decide +kernel
theorem plainT_len {cs : List (Str × Str)} {f : Nat → Bool} (hok : ∀ c ∈ cs, OkCh c) : ∀ k, (plainT cs f k).length ≤ 8 * k
  | 0 => Nat.le_refl _
  | k + 1 => by
    have h := plainT_len (f := f) hok k
    have hc : (cs.getD k ("", "")).1.length + (cs.getD k ("", "")).2.length ≤ 5 := by
      rw [List.getD_eq_getElem?_getD]
      cases e : cs[k]? with
      | none => exact Nat.zero_le _
      | some c =>
        have := (hok c (List.mem_of_getElem? e))
        have h1 := this.glen
        have h2 := this.wlen
        show c.1.length + c.2.length ≤ 5
        omega
    unfold plainT
    rw [Str.length_append, Str.length_append]
    split
    · rw [Str.length_append, ofS_len]; omega
    · omega
section
variable {w : World} {A : Around} {s : Shared} {p : Program} {loose : List Str} {mg mb : Str → Option Value} {g₀ : Heap}
    {Q : Value → Shared → Prop} {E : Value → Shared → Prop} {cl pl : Addr} {vs : List Value} {cs : List (Str × Str)} {epc : Nat} {f : Nat → Bool}
theorem in_places {k : Nat} {t : Tok} (h : Places w s.heap pl f) (hq : ∀ tk, Q (.bool (f k)) { s with toks := tk }) : wpAny (model PySem.Challenge.rw_wr0037_01.prog w) A (compareOp .In (.int (k : Int) t) (.ref pl)) Q E s := by
  rcases h with ⟨o, S, n, e, hs, hn, hf⟩ | ⟨vs, ns, ep, e, hi, hf⟩
  · have hS := hs.setOf e hn
    refine wpAny_inSet_of (knd := intKind PySem.Challenge.rw_wr0037_01.prog w) (intKind_is _ _ _ _) rfl hS ?_
    rw [hf]
    exact hq _
  · refine in_list_ints ⟨_, e, rfl, _, rfl⟩ hi ?_
    rw [hf]
    exact hq s.toks

theorem len_ground (hl : s.heap.get? cl = some (listOf vs.toArray epc)) (hz : vs.length < 1000) (h : ∀ tk, Q (.int (vs.length : Int) tk) { s with toks := tk + 1 }) : wpAny (model PySem.Challenge.rw_wr0037_01.prog w) A (call (.builtin "len") [.ref cl]) Q E s :=
  len_list (items := vs.toArray) ⟨_, hl, rfl, _, rfl⟩ (by simp; omega) (h _)
theorem chunk_item {value slice : Expr} {i : Int} {u : Tok} {j : Nat} {c : Str × Str} (hl : s.heap.get? cl = some (listOf vs.toArray epc)) (hC : Chs s.heap vs cs) (hi : i = (j : Int)) (hj : j < 1000) (hc : cs[j]? = some c)
    (h : ∀ rr t t', s.heap.get? rr = some (tupObj c.1 c.2 t t') → Q (.ref rr) s)
    (hs : subscripted slice false (.ref cl) (.int i u) = operate [.ref cl, .int i u] (getItem (.ref cl) (.int i u)) := by with_unfolding_all rfl) (hg : ∀ r, letTemporaryGo value (.ref cl) r = pure () := by intro _; with_unfolding_all rfl) :
    wpAny (model PySem.Challenge.rw_wr0037_01.prog w) A (subscriptTail value slice (.ref cl) (.int i u)) Q E s := by
  obtain ⟨v, hv, rr, t, t', rfl, ho⟩ := hC.get j c hc
  subst hi
  exact item_listL (l := vs) (x := .ref rr) ⟨_, hl, rfl, _, rfl⟩ (by omega) (by omega) (by simpa using hv) (h rr t t' ho) hs hg
theorem ldN_L {g : Heap} {L a : Addr} {m : Str → Option Value} {cn x : Str} {sc : Scope} {cd v : Value} {cl : List (Str × Addr)} (F : Fr g L s.heap m) (hv : m x = some v) (hk : sc.kind = .function) (hx : sc.names.lookup x = some .local) (h : Q v s) :
    wpAny (model PySem.Challenge.rw_wr0037_01.prog w) A (loadName (envX cn sc L a cd cl) x) Q E s :=
  wpAny_loadName_local (env := envX cn sc L a cd cl) hk hx F.ns hv h
end
example : True := by
  (k_with "exec For Name Call cons nil" => (k_here; k_dflt (refine wpAny_For ?_)))
  (k_with "exec For Name Name cons nil" => (k_here; k_dflt (refine wpAny_For ?_)))
  (k_with "call builtin:len" => (k_here; (with_reducible show wpAny _ _ (call (Value.builtin "len") [Value.ref _]) _ _ _); k_dflt (refine' len_ground (by exact Fr.keep (by k_asm) _ _ (by assumption)) (by omega) ?_); intro _))
  (k_with "compareOp In int ref" => (k_here; k_dflt (refine' in_places (by exact Places.keeps (by assumption) (fun o e => Fr.keep (by k_asm) _ _ e)) ?_; k_whole); intro _))
  (k_with "subscriptTail" => (k_here; (with_reducible show wpAny _ _ (subscriptTail _ _ (Value.ref _) (Value.int _ _)) _ _ _); k_dflt (first | (refine' tup_item (by assumption) (by first | exact .inl ⟨rfl, rfl⟩ | exact .inr ⟨rfl, rfl⟩) ?_) | (refine' chunk_item ?lₘ ?Cₘ ?iₘ ?jₘ ?cₘ ?_; (case lₘ => exact Fr.keep (by k_asm) _ _ (by assumption)); (case Cₘ => k_extra "my chs"); (case cₘ => assumption); (case iₘ => first | exact rfl | omega); (case jₘ => omega); intro _ _ _ _))))
  (k_with "loadName" => (k_here; k_dflt (refine' ldN_L (by k_asm) (by first | exact rfl | assumption) (by exact rfl) (by exact rfl) ?_; k_whole)))
  trivial
section
variable {w : World} {A : Around} {s : Shared} {p : Program} {loose : List Str} {mg mb : Str → Option Value} {g₀ : Heap}
    {Q : Value → Shared → Prop} {E : Value → Shared → Prop} {cl pl : Addr} {vs : List Value} {cs : List (Str × Str)} {epc : Nat} {f : Nat → Bool}
noncomputable abbrev PlaJ (cl pl : Addr) (cs : List (Str × Str)) (f : Nat → Bool) (n : Nat) (m' : Str → Option Value) : Prop := m' (Str.ofString "chunks") = some (.ref cl) ∧ m' (Str.ofString "places") = some (.ref pl) ∧ ∃ t, m' (Str.ofString "text") = some (.str (plainT cs f n) t)
theorem law_plain_c (hh : A.handled = none) (G : Gd (hd.heap_39 w.params) p loose mg mb g₀) (H : g₀.StaysIn s.heap) (hcl : s.heap.get? cl = some (listOf vs.toArray epc)) (hC : Chs s.heap vs cs) (hok : ∀ c ∈ cs, OkCh c) (hlen : cs.length < 100) (hP : Places w s.heap pl f)
    (hroom : A.depth + 15 < recursionLimit) (hu : A.units + 200 < cLine)
    (hQ : ∀ t s', Go [] s s' → Q (.str (plainT cs f cs.length) t) s') :
    wpAny (model PySem.Challenge.rw_wr0037_01.prog w) A (call (.ref 236) [.ref cl, .ref pl]) Q E s := by
  refine' enter (binds := [(Str.ofString "chunks", .ref cl), (Str.ofString "places", .ref pl)]) [] G H ?hn ?ho ?hcd ?hr ?hb ?hl ?hbody ?c2 ?c3 ?c4 ?c5
  k_extra "my enter"
  case hn => exact all_nil
  case hr => omega
  case hbody =>
    intro g' L' h' G' st' kp' F' N' l1
    have X' := G'.X
    have T' := G'.T
    have hC1 : Chs g' vs cs := hC.keeps fun b o e => kp' b o e (fun q => nomatch q)
    have hP1 : Places w g' pl f := hP.keeps fun o e => kp' _ o e (fun q => nomatch q)
    have hcl1 : g'.get? cl = some (listOf vs.toArray epc) := kp' _ _ hcl fun q => nomatch q
    have hvl := hC1.length
    clear hC hP
    (show wpAny _ _ _ _ _ _); k_fold
    k_steps
    rename Fr _ _ _ _ => kF
    rename News _ _ _ _ => kN
    refine iter_up_L (n := vs.length) kF kN (.head _) (by omega) ?_
    dsimp only
    intro it h3 F3 N3 l3
    have l4 := l3
    k_lt l3
    refine loop_upF (J := PlaJ cl pl cs f) hh rfl rfl F3 N3 (fun p hp => Nat.ne_of_lt (l4 p hp)) ?J0 ?turn ?last
    case J0 => exact ⟨rfl, rfl, _, rfl⟩
    case turn =>
      intro n s4 m4 tk4 E4 hn hJ sm4 F4 N4
      k_extra "my hide"
      obtain ⟨hm1, hm2, t4, hm3⟩ := hJ
      obtain ⟨c, hc⟩ : ∃ c, cs[n]? = some c := ⟨_, List.getElem?_eq_getElem (by omega)⟩
      k_extra "my back"
      have hg : cs.getD n ("", "") = c := by simp [List.getD_eq_getElem?_getD, hc]
      have okc := hok c (List.mem_of_getElem? hc)
      have b1 := okc.glen
      have b2 := okc.wlen
      have b3 := plainT_len (cs := cs) (f := f) hok n
      k_steps
      all_goals (
        (try dsimp only)
        rename Fr _ _ _ _ => kF
        rename News _ _ _ _ => kN
        refine ⟨⟨?os, ?gens⟩, _, ⟨?a, ?b, ?tx⟩, kF, fun p hp => kN p (SubL.mem (by k_subL) p hp)⟩
        (case os => k_extra "my os")
        (case gens => k_extra "my gens")
        (case a => exact hm1)
        (case b => exact hm2)
        (case tx => first | exact ⟨_, congrArg (fun y => some (Value.str y _)) (plainT_t (by assumption) hg).symm⟩ | exact ⟨_, congrArg (fun y => some (Value.str y _)) (plainT_f (by first | assumption | (intro hz; simp_all; done)) hg).symm⟩))
    case last =>
      intro s4 m4 E4 hJ sm4 F4 N4
      obtain ⟨hm1, hm2, t4, hm3⟩ := hJ
      k_steps
      (try dsimp only)
      (show Q _ _)
      rw [hvl]
      rename Fr _ _ _ _ => kF
      rename News _ _ _ _ => kN
      refine hQ _ _ (.fin (kp_out kp' kF kN all_nil all_nil) ?os ?gens)
      case os => k_extra "my os"
      case gens => k_extra "my gens"
end

theorem off1_mem {D : Addr} {l : List (Addr × Obj)} (x : LCg.Off1 D l) : ∀ p ∈ l, p.1 ≠ D := by
  induction l with
  | nil => intro p h; cases h
  | cons a l ih =>
    intro p h
    obtain ⟨x1, x2⟩ := x
    rcases List.mem_cons.mp h with e | h
    · rw [e]; exact x1
    · exact ih x2 p h
theorem hide_tup {g h : Heap} {L : Addr} {m : Str → Option Value} {vs : List Value} {cs : List (Str × Str)} (F : Fr g L h m) (C : Chs g vs cs) : ∃ (g₂ : Heap) (ex : List (Addr × Obj)), Fr g₂ L h m ∧ News g₂ L h ex ∧ (∀ b o, g₂.get? b = some o → g.get? b = some o) ∧ (∀ b o, g.get? b = some o → g₂.get? b = some o ∨ (b, o) ∈ ex) ∧ (∀ p ∈ ex, p.2.cls = .type "tuple") ∧
    (∀ (i : Nat) (v : Value), vs[i]? = some v → ∃ (r : Addr) (t t' : Tok) (c : Str × Str), cs[i]? = some c ∧ v = Value.ref r ∧ (r, tupObj c.1 c.2 t t') ∈ ex) := by
  have key : ∃ ex : List (Addr × Obj), (∀ p ∈ ex, g.get? p.1 = some p.2 ∧ p.1 ∈ refsOf vs ∧ p.2.cls = .type "tuple") ∧ (∀ r ∈ refsOf vs, ∃ o, (r, o) ∈ ex) ∧ (∀ (i : Nat) (v : Value), vs[i]? = some v → ∃ (r : Addr) (t t' : Tok) (c : Str × Str), cs[i]? = some c ∧ v = Value.ref r ∧ (r, tupObj c.1 c.2 t t') ∈ ex) := by
    clear F
    induction C with
    | nil => exact ⟨[], fun _ q => (nomatch q), fun _ q => (nomatch q), fun i v e => by simp at e⟩
    | @cons v c vs cs a b ih =>
      obtain ⟨ex, h1, h2, h3⟩ := ih
      obtain ⟨r, t, t', rfl, ho⟩ := a
      refine ⟨(r, tupObj c.1 c.2 t t') :: ex, fun p hp => ?_, fun q hq => ?_, fun i v e => ?_⟩
      · rcases List.mem_cons.mp hp with rfl | hp
        · exact ⟨ho, .head _, rfl⟩
        · exact ⟨(h1 p hp).1, .tail _ (h1 p hp).2.1, (h1 p hp).2.2⟩
      · rcases List.mem_cons.mp (show q ∈ r :: refsOf vs from hq) with rfl | hq
        · exact ⟨_, .head _⟩
        · obtain ⟨o, ho⟩ := h2 q hq; exact ⟨o, .tail _ ho⟩
      · cases i with
        | zero => exact ⟨r, t, t', c, rfl, (Option.some.inj e).symm, .head _⟩
        | succ i =>
          obtain ⟨r', u, u', c', e1, e2, e3⟩ := h3 i v e
          exact ⟨r', u, u', c', e1, e2, .tail _ e3⟩
  obtain ⟨ex, h1, h2, h3⟩ := key
  refine ⟨hideAll g (refsOf vs), ex, ⟨F.ns, fun b o e => F.keep _ _ (of_hideAll _ e), by rw [hideAll_size]; exact F.above⟩, fun p hp => ⟨F.keep _ _ (h1 p hp).1, fun e => ?_, hideAll_none _ (h1 p hp).2.1⟩, fun b o e => of_hideAll _ e, fun b o e => ?_, fun p hp => (h1 p hp).2.2, h3⟩
  · have hlt := Heap.lt_size (h1 p hp).1
    rw [e] at hlt
    exact absurd hlt (Nat.not_lt.mpr F.above)
  · by_cases hb : b ∈ refsOf vs
    · obtain ⟨o', ho'⟩ := h2 b hb
      have := (h1 _ ho').1
      rw [e] at this; cases this
      exact .inr ho'
    · exact .inl (hideAll_get _ e hb)


section
variable {M : Model} {A : Around} {E : Value → Shared → Prop} {s : Shared} {K : Frag} {scope : Scope} {C : Addr} {env : Env} {x : Str} {pos : Pos} {v : Value} {m mg mb : Str → Option Value} {Q : Value → Shared → Prop} {p : Program} {loose : List Str} {cl : List (Str × Addr)}
theorem nameC_L (hn : s.heap.Ns C m) (hv : m x = some v) (hk : scope.kind = .function) (hx : (compEnvC scope cl C env).kindOf x = some .local) (hd : (x == ("__debug__" : Str)) = false) (h : Q v s) : wpAny M A (eval (.Name x pos) (compEnvC scope cl C env)) Q E s :=
  wpAny_Name (wpAny_loadName_local (env := compEnvC scope cl C env) hk hx hn hv h) hd
theorem nameC_B (X : K.In s.heap) (T : TopRead p loose mg mb s.heap) (e : nsIn K mainGlobals x = some none) (hv : bootBuiltins x = some v) (hnm : x ≠ "__name__") (hg : env.globals = mainGlobals) (hbi : env.builtins = builtinsNs) (hk : scope.kind = .function) (hx : (compEnvC scope cl C env).kindOf x = some .globalImplicit) (hd : (x == ("__debug__" : Str)) = false) (h : Q v s) : wpAny M A (eval (.Name x pos) (compEnvC scope cl C env)) Q E s :=
  Name_function_global (env := compEnvC scope cl C env) hk hx (loadGlobal_builtin (env := compEnvC scope cl C env) (show s.heap.Ns env.globals mg by rw [hg]; exact T.g) (mg_none_of X T.g e) (show s.heap.Ns env.builtins mb by rw [hbi]; exact T.b) ((T.builtins x hnm).trans hv) h) hd
end
example : True := by
  (k_with "my nameC_L" => (k_here; (with_reducible show wpAny _ _ (eval (Expr.Name _ _) _) _ _ _); refine nameC_L ‹Heap.Ns _ _ _› (by assumption) (by rfl) (by rfl) (by decide) ?_))
  (k_with "my nameC_B" => (k_here; (with_reducible show wpAny _ _ (eval (Expr.Name _ _) _) _ _ _); refine nameC_B (by assumption) (by assumption) (by k_is) (by boot_fast) (by decide) (by rfl) (by rfl) (by rfl) (by rfl) (by decide) ?_))
  trivial
theorem ints_append {a b : List Value} {x y : List Int} (C : IntsAre a x) (D : IntsAre b y) : IntsAre (a ++ b) (x ++ y) := by
  induction C with
  | nil => exact D
  | cons n t _ ih => exact .cons n t ih
theorem sum_map_int (cs : List (Str × Str)) : (cs.map fun c => ((c.1.length + c.2.length : Nat) : Int)).sum = ((sizeOf' cs : Nat) : Int) := by
  induction cs with
  | nil => rfl
  | cons c r ih =>
    simp only [List.map_cons, List.sum_cons, sizeOf'] at ih ⊢
    rw [ih]
    omega
section
variable {w : World} {A : Around} {s : Shared} {p : Program} {loose : List Str} {mg mb : Str → Option Value} {g₀ : Heap}
    {Q : Value → Shared → Prop} {E : Value → Shared → Prop} {cl : Addr} {vs : List Value} {cs : List (Str × Str)} {epc : Nat}
theorem law_size_c (hh : A.handled = none) (G : Gd (hd.heap_39 w.params) p loose mg mb g₀) (H : g₀.StaysIn s.heap) (hcl : s.heap.get? cl = some (listOf vs.toArray epc)) (hC : Chs s.heap vs cs) (hok : ∀ c ∈ cs, OkCh c) (hlen : cs.length < 100)
    (hroom : A.depth + 15 < recursionLimit) (hu : A.units + 200 < cLine)
    (hQ : ∀ t s', Go [] s s' → Q (.int (sizeOf' cs : Nat) t) s') :
    wpAny (model PySem.Challenge.rw_wr0037_01.prog w) A (call (.ref 222) [.ref cl]) Q E s := by
  refine' enter (binds := [(Str.ofString "chunks", .ref cl)]) [] G H ?hn ?ho ?hcd ?hr ?hb ?hl ?hbody ?c2 ?c3 ?c4 ?c5
  k_extra "my enter"
  case hn => exact all_nil
  case hr => omega
  case hbody =>
    intro g' L' h' G' st' kp' F' N' l1
    have X' := G'.X
    have T' := G'.T
    have hC1 : Chs g' vs cs := hC.keeps fun b o e => kp' b o e (fun q => nomatch q)
    have hcl1 : g'.get? cl = some (listOf vs.toArray epc) := kp' _ _ hcl fun q => nomatch q
    have hvl := hC1.length
    clear hC
    (show wpAny _ _ _ _ _ _); k_fold
    iterate 6 walk1
    k_extra "my hide"
    obtain ⟨g₂, ex, F2, N2, sub, back, hcx, hpick⟩ := hide_tup F' hC1
    k_extra "my back"
    have hcl2 : g₂.get? cl = some (listOf vs.toArray epc) := by
      rcases back _ _ hcl1 with q | q
      · exact q
      · exact absurd (show Value.type "list" = Value.type "tuple" from hcx _ q) (by decide)
    have keepB : ∀ (u : Heap), (∀ b o, g₂.get? b = some o → u.get? b = some o) → (∀ p ∈ ex, u.get? p.1 = some p.2) → ∀ b o, g'.get? b = some o → u.get? b = some o := fun u k1 k2 b o e => (back b o e).elim (k1 b o) (k2 _)
    refine LCp.ListComp_P (cl := []) F2 ?hclos ?hcell ?hkind ?hnames ?hx ?hx2 ?hxx ?h
    case hclos => with_unfolding_all rfl
    case hcell => decide
    case hkind => rfl
    case hnames => decide
    case hx => rfl
    case hx2 => rfl
    case hxx => decide
    case h =>
      refine nameX_L F' rfl ?_
      refine ⟨cl, vs.toArray, ex, rfl, hh, F2, N2, .inl ⟨_, hcl2, rfl, _, rfl⟩, by rw [List.size_toArray, sizeLine_eq]; omega, ?_⟩
      rintro s₂ ⟨h2, rfl⟩
      refine (?_ : ∀ k i ys, i + k = vs.toArray.size → IntsAre ys ((cs.take i).map fun c => ((c.1.length + c.2.length : Nat) : Int)) → LCp.CompRestP _ _ _ _ _ _ _ _ _ _ _ _ _ _ _ _ k i ys ex) _ 0 [] (Nat.zero_add _) .nil
      intro k
      induction k with
      | zero =>
        intro i ys hi hI
        refine LCp.CompRestP.zero ?_
        intro D h7 tk7 F7 N7 off7
        have zD := N7 (D, LCg.lst ys) (.head _)
        have F8 : Fr g' L' h7 _ := ⟨F7.ns, keepB _ F7.keep fun p hp => (N7 p (.tail _ hp)).1, F'.above⟩
        have N8 : News g' L' h7 [(D, LCg.lst ys)] := news_cons ⟨zD.1, zD.2.1, by
          cases e : g'.get? D with
          | none => rfl
          | some o =>
            rcases back _ _ e with q | q
            · have := zD.2.2; rw [q] at this; cases this
            · exact absurd rfl (off1_mem off7 _ q)⟩ news_nil
        clear F7 N7 F2 N2 F' N'
        k_steps
        have hfull : cs.take i = cs := List.take_of_length_le (by rw [List.size_toArray] at hi; omega)
        rw [hfull] at hI
        refine sumK hh F8 N8 ⟨_, zD.1, rfl, _, rfl⟩ hI ?_
        intro h9 tk9 t9 F9 N9
        rw [sum_map_int]
        (show Q _ _)
        refine hQ _ _ (.fin (kp_out kp' F9 N9 all_nil all_nil) ?os ?gens)
        case os => k_extra "my os"
        case gens => k_extra "my gens"
      | succ k ih =>
        intro i ys hi hI
        refine LCp.CompRestP.succ fun v hv => ?_
        rw [List.size_toArray] at hi
        k_extra "my hide"
        obtain ⟨r, ta, tb, c, hc, rfl, hm⟩ := hpick i v (by simpa using hv)
        k_extra "my back"
        refine ⟨r, tupObj c.1 c.2 ta tb, .str c.1 ta, .str c.2 tb, 0, rfl, hm, rfl, rfl, ?_⟩
        intro I oI C oC D m₂ h7 tk7 E' hns h1 h2 F7 N7 off7 ne7
        have okc := hok c (List.mem_of_getElem? hc)
        have b1 := okc.glen
        have b2 := okc.wlen
        have kB := keepB h7 F7.keep fun p hp => (N7 p (.tail _ (.tail _ (.tail _ hp)))).1
        have Xu : (hd.heap_39 w.params).In h7 := X'.keeps kB
        have Tu : TopRead p loose mg mb h7 := T'.keeps kB
        have hnu : h7.Ns C m₂ := hns.ns (N7 (C, oC) (.tail _ (.head _))).1
        repeat (first | k_extra "my nameC_L" | k_extra "my nameC_B" | walk1)
        refine ⟨h7, _, ex, rfl, F7, N7, off7, .inl ⟨_, hcl2, rfl, _, rfl⟩, ih (i + 1) _ (by rw [List.size_toArray]; omega) ?_⟩
        rw [List.take_add_one, hc, Option.toList, List.map_append]
        exact ints_append hI (IntsAre.cons _ _ .nil)
end

/-- the sorted lists of ints from 1 to 6 -/
noncomputable def subs : List (List Nat) := [6, 5, 4, 3, 2, 1].foldl (fun acc k => acc ++ acc.map (k :: ·)) [[]]
noncomputable def insS (k : Nat) : List Nat → List Nat
  | [] => [k]
  | x :: r => if k < x then k :: x :: r else if k = x then x :: r else x :: insS k r
noncomputable abbrev tbl (S : List Nat) (m mv : Nat) (led : Bool) : SetTable := { mask := m, place := S.toArray, dummies := #[], finger := 0, led := led, moves := mv, plain := true }
noncomputable abbrev ent (tk : Nat → Tok) (k : Nat) : Int × Value := ((k : Int), Value.int (k : Int) (tk k))
noncomputable abbrev ents (S : List Nat) (tk : Nat → Tok) : Array (Int × Value) := (S.map (ent tk)).toArray
theorem subs_len : ∀ S ∈ subs, S.length ≤ 6 := by decide +kernel
theorem subs_ins : ∀ S ∈ subs, ∀ k ∈ [1, 2, 3, 4, 5, 6], insS k S ∈ subs := by decide +kernel
theorem subs_mem : ∀ S ∈ subs, ∀ k ∈ S, k ∈ [1, 2, 3, 4, 5, 6] := by decide +kernel
theorem below_free : ∀ S ∈ subs, ∀ k ∈ [1, 2, 3, 4, 5, 6], k ∉ S → (S.toArray[SetTable.below S.toArray k]? == some k) = false := by decide +kernel
theorem below_ins : ∀ S ∈ subs, ∀ k ∈ [1, 2, 3, 4, 5, 6], k ∉ S → SetTable.below S.toArray k ≤ S.length ∧ S.take (SetTable.below S.toArray k) ++ k :: S.drop (SetTable.below S.toArray k) = insS k S := by decide +kernel
theorem insertAt_list {α : Type} (l : List α) (p : Nat) (x : α) : SetTable.insertAt l.toArray p x = (l.take p ++ x :: l.drop p).toArray := by
  unfold SetTable.insertAt
  apply Array.ext'
  simp
  exact List.take_of_length_le (by simp)
theorem hash_small : ∀ k ∈ [1, 2, 3, 4, 5, 6], hashInt (k : Nat) = (k : Nat) := by decide +kernel
theorem bits_small : ∀ k ∈ [1, 2, 3, 4, 5, 6], SetTable.bits (k : Nat) = k := by decide +kernel
theorem slot_free {S : List Nat} {m mv k : Nat} {led : Bool} (hS : S ∈ subs) (hk : k ∈ [1, 2, 3, 4, 5, 6]) (hn : k ∉ S) : (tbl S m mv led).slot k = .empty := by
  unfold SetTable.slot
  dsimp only
  rw [below_free S hS k hk hn]
  have : SetTable.has #[] k = false := by
    unfold SetTable.has
    rfl
  rw [this]
  rfl
theorem freeSlot_free {S : List Nat} {m mv k : Nat} {led : Bool} (hS : S ∈ subs) (hk : k ∈ [1, 2, 3, 4, 5, 6]) (hn : k ∉ S) (hm : 7 ≤ m) : (tbl S m mv led).freeSlot (k : Nat) = some (k, false) := by
  have hk6 : k ≤ 6 := by
    have : ∀ k ∈ [1, 2, 3, 4, 5, 6], k ≤ 6 := by decide
    exact this k hk
  have hj : ((tbl S m mv led).probeStart (k : Nat)).j = k := by
    unfold SetTable.probeStart
    show SetTable.bits (k : Nat) % (m + 1) = k
    rw [bits_small k hk, Nat.mod_eq_of_lt (by omega)]
  unfold SetTable.freeSlot SetTable.probe
  rw [show 10 * SetTable.turns (tbl S m mv led).mask = (10 * SetTable.turns m - 1) + 1 by unfold SetTable.turns; show 10 * (m + 15) = _; omega]
  unfold SetTable.probe.go
  rw [hj, slot_free hS hk hn]
  rfl

noncomputable def setTk (tk : Nat → Tok) (k : Nat) (u : Tok) : Nat → Tok := fun j => if j = k then u else tk j
theorem map_ent_ne {tk : Nat → Tok} {k : Nat} {u : Tok} : ∀ {l : List Nat}, k ∉ l → l.map (ent (setTk tk k u)) = l.map (ent tk)
  | [], _ => rfl
  | x :: r, h => by
    have h1 : x ≠ k := fun e => h (e ▸ .head _)
    rw [List.map_cons, List.map_cons, map_ent_ne fun q => h (.tail _ q)]
    congr 1
    show ((x : Int), Value.int (x : Int) (if x = k then u else tk x)) = _
    rw [if_neg h1]
theorem layNew_tbl {S : List Nat} {m mv k : Nat} {led : Bool} {tk : Nat → Tok} {u : Tok} (hS : S ∈ subs) (hk : k ∈ [1, 2, 3, 4, 5, 6]) (hn : k ∉ S) (hm : 7 ≤ m) :
    layNew (tbl S m mv led) (ents S tk) (k : Nat) (.int (k : Nat) u) = (ents (insS k S) (setTk tk k u), tbl (insS k S) m mv led, false, false) := by
  obtain ⟨hb, hi⟩ := below_ins S hS k hk hn
  unfold layNew
  rw [freeSlot_free hS hk hn hm]
  dsimp only
  have e1 : ((tbl S m mv led).put k) = (tbl (insS k S) m mv led, SetTable.below S.toArray k) := by
    unfold SetTable.put
    have : SetTable.has #[] k = false := rfl
    dsimp only
    rw [this, insertAt_list, hi]
    rfl
  rw [e1]
  dsimp only
  have e2 : SetTable.insertAt (ents S tk) (SetTable.below S.toArray k) ((k : Nat), Value.int (k : Nat) u) = ents (insS k S) (setTk tk k u) := by
    unfold ents
    rw [insertAt_list, ← List.map_take, ← List.map_drop, ← hi, List.map_append, List.map_cons, map_ent_ne, map_ent_ne]
    · congr 3
      show ((k : Int), Value.int (k : Int) u) = ((k : Int), Value.int (k : Int) (if k = k then u else tk k))
      rw [if_pos rfl]
    · exact fun q => hn (List.mem_of_mem_drop q)
    · exact fun q => hn (List.mem_of_mem_take q)
  rw [e2]
  have hl := subs_len _ (subs_ins S hS k hk)
  have hf : (tbl (insS k S) m mv led).fits (ents (insS k S) (setTk tk k u)).size = true := by
    unfold SetTable.fits SetTable.fill
    simp
    omega
  unfold SetTable.orStandIn
  rw [if_pos hf, hf]
  rfl

noncomputable def layOk (S : List Nat) (m : Nat) : Bool := match SetTable.layClean m (S.map fun k : Nat => (k : Int)).toArray with
  | some owner => decide (((List.range (m + 1)).filterMap fun j => (owner.getD j none).map (j, ·)) = S.zipIdx)
  | none => false
theorem lay_subs : ∀ S ∈ subs, ∀ m ∈ [7, 15, 31], layOk S m = true := by decide +kernel
theorem zip_fst : ∀ (S : List Nat) (n : Nat), (S.zipIdx n).map (·.1) = S
  | [], _ => rfl
  | x :: r, n => by rw [List.zipIdx_cons, List.map_cons, zip_fst r (n + 1)]
theorem zip_snd : ∀ (S : List Nat) (n : Nat), (S.zipIdx n).map (·.2) = List.range' n S.length
  | [], _ => rfl
  | x :: r, n => by rw [List.zipIdx_cons, List.map_cons, zip_snd r (n + 1)]; rfl
theorem ents_fst (S : List Nat) (tk : Nat → Tok) : (ents S tk).map (·.1) = (S.map fun k : Nat => (k : Int)).toArray := by
  unfold ents
  apply Array.ext'
  simp
theorem laid_tbl {S : List Nat} {m mv : Nat} {led : Bool} {tk : Nat → Tok} (hS : S ∈ subs) (hm : m ∈ [7, 15, 31]) : SetTable.laid m 0 mv led true ((ents S tk).map (·.1)) = some (tbl S m mv led, (List.range S.length).toArray) := by
  have h := lay_subs S hS m hm
  unfold layOk at h
  unfold SetTable.laid
  rw [ents_fst]
  cases e : SetTable.layClean m (S.map fun k : Nat => (k : Int)).toArray with
  | none => rw [e] at h; cases h
  | some owner =>
    rw [e] at h
    have h' := of_decide_eq_true h
    show some _ = some _
    rw [h', zip_fst S 0, zip_snd S 0, ← List.range_eq_range']
theorem order_ents (S : List Nat) (tk : Nat → Tok) : (List.range S.length).toArray.filterMap ((ents S tk)[·]?) = ents S tk := by
  have h := filterMap_getElem?_range (ents S tk)
  have hs : (ents S tk).size = S.length := by simp
  rw [hs] at h
  apply Array.ext'
  rw [← h]
  simp
theorem relay_tbl {S : List Nat} {m mv : Nat} {led : Bool} {tk : Nat → Tok} {wanted M : Nat} (hS : S ∈ subs) (hw : SetTable.sizeAbove wanted - 1 = M) (hM : M ∈ [7, 15, 31]) :
    relayAll (tbl S m mv led) (ents S tk) wanted = (ents S tk, tbl S M (SetTable.movedTo (tbl S m mv led) M) led, false) := by
  unfold relayAll SetTable.relaid
  rw [hw, show SetTable.laid M (tbl S m mv led).finger ((tbl S m mv led).movedTo M) (tbl S m mv led).led (tbl S m mv led).plain (Array.map (·.1) (ents S tk)) = _ from laid_tbl hS hM]
  dsimp only
  rw [order_ents]
  have hs : (ents S tk).size = S.length := by simp
  have hc : coversAll (List.range S.length).toArray (ents S tk).size = true := by
    unfold coversAll
    rw [hs]
    exact List.isPerm_iff.mpr (List.Perm.refl _)
  have hl := subs_len S hS
  have h7 : 7 ≤ M := by
    rcases List.mem_cons.mp hM with e | hM
    · omega
    · rcases List.mem_cons.mp hM with e | hM
      · omega
      · have := List.mem_singleton.mp hM; omega
  have hf : (tbl S M (SetTable.movedTo (tbl S m mv led) M) led).fits (ents S tk).size = true := by
    unfold SetTable.fits SetTable.fill
    simp
    omega
  rw [hc, hf]
  rfl

noncomputable abbrev byText (w : World) : Bool := w.params.followText "set-order"
noncomputable abbrev setObj (S : List Nat) (tk : Nat → Tok) (ep m mv : Nat) (led : Bool) : Obj := { cls := .type "set", dict := none, data := .set (ents S tk) ep (tbl S m mv led), slots := #[] }
/-- a set of small ints, as the text's own calls build it -/
noncomputable def SetC (w : World) (o : Obj) (S : List Nat) : Prop := ∃ tk ep m mv, o = setObj S tk ep m mv (!byText w) ∧ S ∈ subs ∧ m ∈ [7, 15, 31] ∧ S.length * 5 < m * 3
theorem ge7 {m : Nat} (h : m ∈ [7, 15, 31]) : 7 ≤ m := by
  rcases List.mem_cons.mp h with e | h
  · omega
  · rcases List.mem_cons.mp h with e | h
    · omega
    · have := List.mem_singleton.mp h; omega
theorem ins_mem : ∀ S ∈ subs, ∀ k ∈ [1, 2, 3, 4, 5, 6], k ∈ S → insS k S = S := by decide +kernel
theorem ins_len : ∀ S ∈ subs, ∀ k ∈ [1, 2, 3, 4, 5, 6], k ∉ S → (insS k S).length = S.length + 1 := by decide +kernel
theorem ins_iff : ∀ S ∈ subs, ∀ k ∈ [1, 2, 3, 4, 5, 6], ∀ j ∈ [0, 1, 2, 3, 4, 5, 6], decide (j ∈ insS k S) = (decide (j ∈ S) || decide (j = k)) := by decide +kernel
theorem fits_tbl {S : List Nat} {tk : Nat → Tok} {m mv : Nat} {led : Bool} (hS : S ∈ subs) (hm : 7 ≤ m) : (tbl S m mv led).fits (ents S tk).size = true := by
  have hl := subs_len S hS
  unfold SetTable.fits SetTable.fill
  simp
  omega
section
variable {prog : Program} {w : World} {A : Around} {E : Value → Shared → Prop} {s : Shared}
theorem elems_ents {S : List Nat} {tk : Nat → Tok} (hS : S ∈ subs) : ElemsOf (intKind prog w) (ents S tk).toList := by
  intro e he
  obtain ⟨k, hk, rfl⟩ := List.mem_map.mp (show e ∈ S.map (ent tk) from he)
  exact ⟨⟨(k : Int), intKind_is _ _ _ _, (hash_small k (subs_mem S hS k hk)).symm⟩, rfl⟩
theorem mem_ents {S : List Nat} {tk : Nat → Tok} (k : Int) : (S.any fun j => decide ((j : Int) = k)) = true ↔ ∃ e ∈ (ents S tk).toList, (intKind prog w).is k e.2 = true := by
  rw [List.any_eq_true]
  constructor
  · rintro ⟨j, hj, e⟩
    exact ⟨ent tk j, List.mem_map_of_mem hj, by rw [← of_decide_eq_true e]; exact intKind_is _ _ _ _⟩
  · rintro ⟨e, he, hk⟩
    obtain ⟨j, hj, rfl⟩ := List.mem_map.mp (show e ∈ S.map (ent tk) from he)
    refine ⟨j, hj, decide_eq_true ?_⟩
    exact ((intKind prog w).inj _ _ _ hk (intKind_is _ _ _ _)).symm
theorem SetC.objOf {o : Obj} {S : List Nat} (h : SetC w o S) : o.SetObjOf (intKind prog w) (fun k => S.any fun j => decide ((j : Int) = k)) S.length := by
  obtain ⟨tk, ep, m, mv, rfl, hS, hm, hz⟩ := h
  exact ⟨⟨rfl, rfl, rfl⟩, ents S tk, ep, _, rfl, elems_ents hS, fun k => mem_ents k, by simp, fits_tbl hS (ge7 hm)⟩
theorem full_false {S : List Nat} {m mv : Nat} {led : Bool} (h : S.length * 5 < m * 3) : (tbl S m mv led).tooFull = false := by
  unfold SetTable.tooFull SetTable.fill
  simp
  omega
theorem full_true {S : List Nat} {m mv : Nat} {led : Bool} (h : ¬ S.length * 5 < m * 3) : (tbl S m mv led).tooFull = true := by
  unfold SetTable.tooFull SetTable.fill
  simp
  omega
theorem put_at {a : Addr} {S S' : List Nat} {tk tk' : Nat → Tok} {ep m mv m' mv' : Nat} {led led' : Bool} {h : Heap} (ho : h.get? a = some (setObj S tk ep m mv led)) : (h.update a (Obj.putSet (ents S' tk') (tbl S' m' mv' led'))).get? a = some (setObj S' tk' (ep + 1) m' mv' led') :=
  Heap.get?_update_self (Obj.putSet (ents S' tk') (tbl S' m' mv' led')) ho rfl
/-- an int is added -/
theorem addHashed_c {a : Addr} {o : Obj} {S : List Nat} {k : Nat} {u : Tok} {Q : Bool → Shared → Prop} (ho : s.heap.get? a = some o) (hc : SetC w o S) (hk : k ∈ [1, 2, 3, 4, 5, 6])
    (h : ∀ b h' o', Heap.SameBut a s.heap h' → h'.get? a = some o' → SetC w o' (insS k S) → Q b { s with heap := h' }) :
    wpAny (model prog w) A (setAddHashed a (.int (k : Int) u) (k : Int)) Q E s := by
  obtain ⟨tk, ep, m, mv, rfl, hS, hm, hz⟩ := hc
  have hel : ElemsOf (intKind prog w) (ents S tk).toList := elems_ents hS
  have hf : (tbl S m mv (!byText w)).fits (ents S tk).size = true := fits_tbl hS (ge7 hm)
  have hl := subs_len S hS
  have hb : (ents S tk).size < scanBound := by simp; show S.length < 4096; omega
  unfold setAddHashed setAddHashedIn
  refine wpAny_holding (wpAny_bind (wpAny_setState_of ho rfl hf ?_))
  dsimp only
  rw [byScan_of (knd := intKind prog w) (show Value.scannable (.int (k : Int) u) = true from rfl) hb hel]
  simp only [↓reduceIte]
  unfold setAddByScan
  refine wpAny_bind ?_
  refine wpAny_bind (wpAny_rule ?_)
  refine wpAny_bind ?_
  have hh := wpAny_setScan_of (A := A) (E := E) (knd := intKind prog w) (k := (k : Int)) (x := .int (k : Int) u) (adding := true) (s := s) (a := a) (intKind_is _ _ _ _) ho rfl hf hel
    (Q := fun r s' => r = (match (ents S tk).toList.findIdx? (fun e => (intKind prog w).is (k : Int) e.2) with | some j => .found (0 + j) | none => .absent) ∧ s' = s) ⟨rfl, rfl⟩
  rw [show (intKind prog w).hash (k : Int) = (k : Int) from hash_small k hk] at hh
  refine wpAny_mono hh (fun r s' hr => ?_) fun _ _ e => e
  obtain ⟨rfl, rfl⟩ := hr
  by_cases hin : k ∈ S
  · have : ∃ j, (ents S tk).toList.findIdx? (fun e => (intKind prog w).is (k : Int) e.2) = some j := by
      cases e : (ents S tk).toList.findIdx? (fun e => (intKind prog w).is (k : Int) e.2) with
      | some j => exact ⟨j, rfl⟩
      | none =>
        have := List.findIdx?_eq_none_iff.mp e (ent tk k) (List.mem_map_of_mem hin)
        rw [show (intKind prog w).is (k : Int) (ent tk k).2 = true from intKind_is _ _ _ _] at this
        cases this
    obtain ⟨j, hj⟩ := this
    rw [hj]
    refine wpAny_pure (wpAny_pure ?_)
    exact h _ _ _ (Heap.SameBut.refl a _) ho (by rw [ins_mem S hS k hk hin]; exact ⟨tk, ep, m, mv, rfl, hS, hm, hz⟩)
  · have hj : (ents S tk).toList.findIdx? (fun e => (intKind prog w).is (k : Int) e.2) = none := by
      rw [List.findIdx?_eq_none_iff]
      intro e he
      obtain ⟨j, hj, rfl⟩ := List.mem_map.mp (show e ∈ S.map (ent tk) from he)
      cases q : (intKind prog w).is (k : Int) (ent tk j).2 with
      | false => rfl
      | true =>
        have := (intKind prog w).inj _ _ _ q (intKind_is _ _ (j : Int) (tk j))
        exact absurd (by have : k = j := by omega
                         rw [this]; exact hj) hin
    rw [hj]
    dsimp only
    simp only [layNew_tbl hS hk hin (ge7 hm), ↓reduceIte]
    refine wpAny_bind (wpAny_pure ?_)
    refine wpAny_bind ?_
    rw [hashByValue_scannable 8 (show Value.scannable (.int (k : Int) u) = true from rfl)]
    refine wpAny_pure ?_
    have hS' := subs_ins S hS k hk
    have hl' := subs_len _ hS'
    have hn := ins_len S hS k hk hin
    simp only [plainKind, ↓reduceIte, Bool.not_false, Bool.true_and]
    refine wpAny_bind (wpAny_storeSet_of ho rfl ?_ (by simp [sizeLine_eq]; omega))
    have g1 := put_at (S' := insS k S) (tk' := setTk tk k u) (m' := m) (mv' := mv) (led' := !byText w) ho
    have b1 := Heap.SameBut.update s'.heap a (Obj.putSet (ents (insS k S) (setTk tk k u)) (tbl (insS k S) m mv (!byText w)))
    by_cases hfull : (insS k S).length * 5 < m * 3
    · rw [if_neg (by rw [full_false hfull]; simp)]
      refine wpAny_pure (wpAny_pure ?_)
      exact h _ _ _ b1 g1 ⟨_, _, _, _, rfl, hS', hm, hfull⟩
    · rw [if_pos (full_true hfull)]
      have h5 : (insS k S).length = 5 ∧ m = 7 := by
        rcases List.mem_cons.mp hm with e | hm
        · exact ⟨by omega, e⟩
        · rcases List.mem_cons.mp hm with e | hm
          · omega
          · have := List.mem_singleton.mp hm; omega
      have hw : SetTable.sizeAbove (SetTable.grown (ents (insS k S) (setTk tk k u)).size) - 1 = 31 := by
        rw [show (ents (insS k S) (setTk tk k u)).size = 5 by simp [h5.1]]
        decide
      rw [relay_tbl hS' hw (by decide)]
      dsimp only
      refine wpAny_bind (wpAny_pure ?_)
      refine wpAny_bind (wpAny_storeSet_of g1 rfl ?_ (by simp [sizeLine_eq]; omega))
      refine wpAny_pure (wpAny_pure ?_)
      refine h _ _ _ (b1.trans (Heap.SameBut.update _ a _)) (put_at (S' := insS k S) (tk' := setTk tk k u) g1) ⟨_, _, _, _, rfl, hS', by decide, by rw [h5.1]; decide⟩
end

section
variable {prog : Program} {w : World} {A : Around} {E : Value → Shared → Prop} {s : Shared}
noncomputable abbrev set0Ob (w : World) : Obj := { cls := .type "set", dict := none, data := .set #[] 0 (.fresh 0 0 (!byText w)) }
/-- set.__new__, and who leads the new table -/
theorem setNew_c {Q₁ : Value → Shared → Prop} (h : Q₁ (.ref s.heap.objs.size) { s with heap := s.heap.push (set0Ob w) }) :
    codeAny (model prog w) A (.call (.builtin "set.__new__") ⟨[.type "set"], []⟩) (wants Q₁ E) s := by
  refine codeAny_of_tree ?_
  show wpAny _ A.in1 (do checkBuiltinCall "set.__new__" ⟨[.type "set"], []⟩; again (.builtin "set.__new__" ⟨[.type "set"], []⟩)) _ _ s
  refine wpAny_bind (wpAny_of_eq F.newCall_set_0 (wpAny_pure ⟨plainId_quiet F.plain_set_new _, codeAny_builtin F.entry_set_new ?_⟩))
  rw [Around.under_plainId F.plain_set_new _]
  unfold Builtin.«set.__new__» Builtin.Frozenset.newClass
  have hsub := sub_set_self
  obtain ⟨hp, g, d, tk, os⟩ := s
  dsimp only
  wp_walk
  refine wpAny_askSetting (wpAny_pure ?_)
  dsimp only
  simp only [newObj]
  refine wpAny_bind (wpAny_alloc (wpAny_pure ?_))
  exact wpAny_pure h
theorem setCall_c {Q : Value → Shared → Prop} (h : Q (.ref s.heap.objs.size) { s with heap := s.heap.push (set0Ob w) }) : wpAny (model prog w) A (call (.type "set") []) Q E s := by
  obtain ⟨c, tl, hmro⟩ := F.called_set.mro
  have hmade := F.called_set.made
  have hsub := F.called_set.sub
  refine wpAny_call (codeAny_of_tree ?_)
  show wpAny _ _ (callAny (.type "set") _) _ _ _
  refine wpAny_pure ⟨Code.quiet_builtin _ (by decide +kernel), codeAny_builtin F.entry_type_call ?_⟩
  rw [Around.under_plain (weight_type_call_type "set" [] []) rfl]
  have h1 := F.called_set.notType
  have h2 := F.called_set.canCreate
  have hct := F.typeCall_set_0
  repeat (any_goals (first | assumption | wp_step))
  refine codeAny_mono (setNew_c (E := E) (Q₁ := fun obj s₁ => obj = .ref s.heap.objs.size ∧ s₁ = { s with heap := s.heap.push (set0Ob w) }) ⟨rfl, rfl⟩) fun r s₁ hr => ?_
  rcases r with e | (obj | _ | _ | _) <;> first | exact hr | exact hr.elim | skip
  obtain ⟨rfl, rfl⟩ := hr
  have hS : (s.heap.push (set0Ob w)).get? s.heap.objs.size = some (set0Ob w) := Heap.get?_push_size _ rfl
  have hT : Shared.TypeIs { s with heap := s.heap.push (set0Ob w) } (.ref s.heap.objs.size) "set" := ⟨_, hS, rfl⟩
  have hli := F.called_set.init.lookup
  have hbi := F.called_set.init.bind (.ref s.heap.objs.size)
  repeat (any_goals (first | assumption | wp_step))
  refine codeAny_mono (codeAny_call_builtin (R := wants (fun r s₂ => r = .none ∧ Q (.ref s.heap.objs.size) s₂) E) F.called_set.init.plain F.entry_set_init (check_set_init hT ?_)) fun r₂ s₂ hr₂ => ?_
  · unfold Builtin.«set.__init__» noKeywords
    wp_walk
    exact ⟨rfl, h⟩
  · rcases r₂ with e | (r | _ | _ | _) <;> first | exact hr₂ | exact hr₂.elim | skip
    obtain ⟨rfl, hq⟩ := hr₂
    repeat (any_goals (first | assumption | wp_step))
theorem set0_ok : SetC w (set0Ob w) [] := ⟨fun _ => 0, 0, 7, 0, rfl, by decide, by decide, by decide⟩
end

theorem alias_tree {id id' : String} {b : Builtin} (h1 : entriesT.find (PySem.code id) = none) (h2 : id.cutAt '#' = [id])
    (h3 : String.map (fun c => if (c.isAlphanum || c == '_' || c == '.') = true then c else '_') id = id) (h5 : PySem.W.Fast.canonicalQ id = id') (h4 : entriesT.find (PySem.code id') = some b) : entryFor table id = some b :=
  entryFor_alias ((fastTable_eq_tree id).trans h1) h2 (by rw [h3, PySem.W.Fast.canonicalQ_eq, h5]; exact String.append_empty) ((fastTable_eq_tree id').trans h4)
theorem entry_set_le : entryFor table "set.__le__" = some Builtin.«frozenset.__le__» := alias_tree (id' := "frozenset.__le__") (by kernel_rfl) rfl (by decide +kernel) (by decide +kernel) (by kernel_rfl)
theorem args_set_le (a b : Value) : argsOk "set.__le__" ⟨[a, b], []⟩ := by unfold argsOk; rw [PySem.W.Fast.signatureQ_eq]; kernel_rfl
theorem sub_set_set : isSubtype (.type "set") (.type "set") = pure true := sub_set_self
section
variable {prog : Program} {w : World} {A : Around} {E : Value → Shared → Prop} {s : Shared} {a b : Addr} {oa ob : Obj} {Sa Sb : List Nat}
theorem SetC.typeIs {o : Obj} {S : List Nat} (h : SetC w o S) (ho : s.heap.get? a = some o) : s.TypeIs (.ref a) "set" := by
  obtain ⟨tk, ep, m, mv, rfl, _⟩ := h
  exact ⟨_, ho, rfl⟩
theorem anySet_c {o : Obj} {S : List Nat} {Q : Bool → Shared → Prop} (h : SetC w o S) (ho : s.heap.get? a = some o) (hq : Q true s) : wpAny (model prog w) A (Builtin.Frozenset.isAnySet (.ref a)) Q E s := by
  unfold Builtin.Frozenset.isAnySet
  refine wpAny_bind (m := isInstance (Value.ref a) (Value.type "set")) ?_
  refine wpAny_isInstance (h.typeIs ho) sub_set_self ?_
  exact wpAny_pure hq
theorem entries_c {o : Obj} {S : List Nat} {Q : Array (Int × Value) → Shared → Prop} (h : SetC w o S) (ho : s.heap.get? a = some o) (hq : ∀ tk, Q (ents S tk) s) : wpAny (model prog w) A (setEntries a) Q E s := by
  obtain ⟨tk, ep, m, mv, rfl, hS, hm, hz⟩ := h
  exact wpAny_setEntries_of ho rfl (fits_tbl hS (ge7 hm)) (hq tk)
theorem epoch_c {o : Obj} {S : List Nat} {tk : Nat → Tok} {ep m mv : Nat} {Q : Nat → Shared → Prop} (e : o = setObj S tk ep m mv (!byText w)) (hS : S ∈ subs) (hm : m ∈ [7, 15, 31]) (ho : s.heap.get? a = some o) (hq : Q ep s) : wpAny (model prog w) A (setEpoch a) Q E s := by
  subst e
  exact wpAny_setEpoch_of ho rfl (fits_tbl hS (ge7 hm)) hq
theorem find_c {o : Obj} {S : List Nat} {k : Nat} {u : Tok} {Q : Option Nat → Shared → Prop} (h : SetC w o S) (ho : s.heap.get? a = some o) (hk : k ∈ [1, 2, 3, 4, 5, 6]) (hq : ∀ r : Option Nat, r.isSome = S.contains k → Q r s) : wpAny (model prog w) A (setFind a (.int (k : Int) u) (k : Int)) Q E s := by
  have hs := (h.objOf (prog := prog)).setOf ho (by
    obtain ⟨tk, ep, m, mv, rfl, hS, hm, hz⟩ := h
    have := subs_len S hS
    show S.length < 4096
    omega)
  have z := wpAny_setFind_of (A := A) (E := E) (knd := intKind prog w) (k := (k : Int)) (x := .int (k : Int) u) (Q := Q) (intKind_is _ _ _ _) rfl hs fun r hr => hq r (by
    rw [hr]
    rw [Bool.eq_iff_iff, List.any_eq_true, List.contains_iff_mem]
    constructor
    · rintro ⟨j, hj, e⟩
      have := of_decide_eq_true e
      have : j = k := by omega
      exact this ▸ hj
    · intro q; exact ⟨k, q, decide_eq_true rfl⟩)
  rw [show (intKind prog w).hash (k : Int) = (k : Int) from hash_small k hk] at z
  exact z
theorem forIn_stay {M : Model} {α β : Type} {Q : β → Shared → Prop} {b : β} {f : α → β → Sem (ForInStep β)} : ∀ {L : List α}, (∀ x ∈ L, ∀ Q' : ForInStep β → Shared → Prop, Q' (.yield b) s → wpAny M A (f x b) Q' E s) → Q b s → wpAny M A (forIn L b f) Q E s
  | [], _, hq => by rw [List.forIn_nil]; exact wpAny_pure hq
  | x :: r, h, hq => by
    rw [List.forIn_cons]
    exact wpAny_bind (h x (.head _) _ (forIn_stay (fun y hy => h y (.tail _ hy)) hq))
theorem quiet_int {k : Int} {u : Tok} {Q : Bool → Shared → Prop} (hq : Q true s) : wpAny (model prog w) A (Builtin.Frozenset.quietEq (.int k u)) Q E s := wpAny_pure hq
theorem size_no : ∀ Sa ∈ subs, ∀ Sb ∈ subs, Sa.length > Sb.length → (Sa.all fun k => Sb.contains k) = false := by decide +kernel
theorem sub_loop {id : String} {was : Nat} (hb : s.heap.get? b = some ob) (cb : SetC w ob Sb) (hu : ∀ Q : Unit → Shared → Prop, Q () s → wpAny (model prog w) A (Builtin.Frozenset.unchanged id a was) Q E s) {tk : Nat → Tok} {Q : Option Bool × Unit → Shared → Prop} :
    ∀ {L : List Nat}, (∀ k ∈ L, k ∈ [1, 2, 3, 4, 5, 6]) → (∀ r, (match r with | some v => v | none => true) = (L.all fun k => Sb.contains k) → Q (r, ()) s) →
    wpAny (model prog w) A (forIn (L.map (ent tk)) ((none, ()) : Option Bool × Unit) fun x _ => do
      let __do_lift ← holding [x.2] (setFind b x.2 x.1)
      if __do_lift.isNone = true then pure (ForInStep.done (some false, ())) else do
        Builtin.Frozenset.unchanged id a was
        pure (ForInStep.yield (none, ()))) Q E s
  | [], _, hq => by rw [List.map_nil, List.forIn_nil]; exact wpAny_pure (hq none rfl)
  | k :: r, hL, hq => by
    rw [List.map_cons, List.forIn_cons]
    refine wpAny_bind (wpAny_bind (wpAny_holding (find_c cb hb (hL k (.head _)) fun o ho => ?_)))
    cases o with
    | none =>
      simp only [Option.isNone_none, ↓reduceIte]
      refine wpAny_pure (wpAny_pure (hq (some false) ?_))
      rw [List.all_cons, ← ho]; rfl
    | some i =>
      simp only [Option.isNone_some, Bool.false_eq_true, ↓reduceIte]
      refine wpAny_bind (hu _ (wpAny_pure ?_))
      refine sub_loop hb cb hu (fun j hj => hL j (.tail _ hj)) fun o2 h2 => hq o2 ?_
      rw [h2, List.all_cons, ← ho]; rfl
theorem sub_c {nm : String} {Q : Bool → Shared → Prop} (ha : s.heap.get? a = some oa) (hb : s.heap.get? b = some ob) (ca : SetC w oa Sa) (cb : SetC w ob Sb) (hq : Q (Sa.all fun k => Sb.contains k) s) :
    wpAny (model prog w) A (Builtin.Frozenset.subsetOf nm a b) Q E s := by
  unfold Builtin.Frozenset.subsetOf Builtin.Frozenset.sizeOf Builtin.Frozenset.walkUnseen
  refine wpAny_bind (wpAny_bind (entries_c ca ha fun tka => wpAny_pure ?_))
  refine wpAny_bind (wpAny_bind (entries_c cb hb fun tkb => wpAny_pure ?_))
  obtain ⟨tk0, epa, ma, mva, ea, hSa, hma, hza⟩ := id ca
  obtain ⟨tk1, epb, mb, mvb, eb, hSb, hmb, hzb⟩ := id cb
  by_cases hz : (ents Sa tka).size > (ents Sb tkb).size
  · rw [if_pos hz]
    have := size_no Sa hSa Sb hSb (by simpa using hz)
    rw [this] at hq
    exact wpAny_pure hq
  · rw [if_neg hz]
    refine wpAny_bind (epoch_c ea hSa hma ha ?_)
    refine wpAny_bind (wpAny_bind (entries_c ca ha fun tka' => ?_))
    refine wpAny_bind (entries_c cb hb fun tkb' => ?_)
    refine wpAny_bind (forIn_stay (fun x hx Q' hq' => ?_) ?_)
    · have hint : ∃ k u, x = ((k : Int), Value.int k u) := by
        rcases List.mem_append.mp hx with q | q
        · obtain ⟨j, _, rfl⟩ := List.mem_map.mp (show x ∈ Sa.map (ent tka') from q); exact ⟨_, _, rfl⟩
        · obtain ⟨j, _, rfl⟩ := List.mem_map.mp (show x ∈ Sb.map (ent tkb') from q); exact ⟨_, _, rfl⟩
      obtain ⟨k, u, rfl⟩ := hint
      refine wpAny_bind (quiet_int ?_)
      simp only [Bool.not_true, Bool.false_eq_true, ↓reduceIte]
      exact wpAny_pure hq'
    · dsimp only
      refine wpAny_pure ?_
      refine wpAny_bind (sub_loop hb cb ?_ (fun k hk => subs_mem Sa hSa k hk) fun r hr => ?_)
      · intro Q' hq'
        unfold Builtin.Frozenset.unchanged
        refine wpAny_bind (epoch_c ea hSa hma ha ?_)
        rw [if_neg (by simp)]
        exact wpAny_pure hq'
      · rw [← hr] at hq
        cases r with
        | none => exact wpAny_pure hq
        | some v => exact wpAny_pure hq
theorem le_call {Q : Value → Shared → Prop} (ha : s.heap.get? a = some oa) (hb : s.heap.get? b = some ob) (ca : SetC w oa Sa) (cb : SetC w ob Sb) (hq : Q (.bool (Sa.all fun k => Sb.contains k)) s) :
    wpAny (model prog w) A (call (.builtin "set.__le__") [.ref a, .ref b]) Q E s := by
  refine wpAny_call_entry F.slot_set_le (ca.typeIs ha) entry_set_le ?_ (args_set_le _ _)
  unfold Builtin.«frozenset.__le__»
  obtain ⟨tka, epa, ma, mva, ea, hSa, hma, hza⟩ := id ca
  obtain ⟨tkb, epb, mb, mvb, eb, hSb, hmb, hzb⟩ := id cb
  have fa := fits_tbl (tk := tka) (m := ma) (mv := mva) (led := !byText w) hSa (ge7 hma)
  have fb := fits_tbl (tk := tkb) (m := mb) (mv := mvb) (led := !byText w) hSb (ge7 hmb)
  refine wpAny_bind (m := Builtin.Frozenset.slot1 _ _) ?_
  unfold Builtin.Frozenset.slot1 slotArgs
  simp only [List.isEmpty_nil, Bool.not_true, Bool.false_eq_true, ↓reduceIte, bind_assoc, List.length_nil, bne_self_eq_false]
  refine wpAny_bind (wpAny_pure ?_)
  dsimp only
  refine wpAny_pure ?_
  refine wpAny_bind (anySet_c cb hb ?_)
  simp only [Bool.not_true, Bool.false_eq_true, ↓reduceIte]
  unfold Builtin.Frozenset.addrOf Builtin.Frozenset.sizeOf
  refine wpAny_bind (wpAny_pure (wpAny_bind (wpAny_pure ?_)))
  refine wpAny_bind (wpAny_bind (entries_c ca ha fun tka => wpAny_pure ?_))
  refine wpAny_bind (wpAny_bind (entries_c cb hb fun tkb => wpAny_pure ?_))
  refine wpAny_bind (sub_c ha hb ca cb ?_)
  exact wpAny_pure ⟨_, rfl, hq⟩
end

theorem eraseIdx_perm {α : Type} : ∀ {l : List α} {i : Nat} {x : α}, l[i]? = some x → List.Perm (x :: l.eraseIdx i) l
  | [], i, x, h => by simp at h
  | a :: l, 0, x, h => by
    have : a = x := by simpa using h
    subst this
    exact List.Perm.refl _
  | a :: l, i + 1, x, h => by
    have h' : l[i]? = some x := by simpa using h
    show List.Perm (x :: a :: l.eraseIdx i) (a :: l)
    exact (List.Perm.swap a x _).trans ((eraseIdx_perm h').cons a)
theorem go_step {α : Type} {next : Nat → Nat} {n k : Nat} {left : List α} {out : Array α} {x : α} (e : left[next k % left.length]? = some x) :
    pickOrder.go next (n + 1) k left out = pickOrder.go next n (k + 1) (left.eraseIdx (next k % left.length)) (out.push x) := by
  show (match left[next k % left.length]? with | some x => pickOrder.go next n (k + 1) (left.eraseIdx (next k % left.length)) (out.push x) | none => out) = _
  rw [e]
theorem pick_go {α : Type} (next : Nat → Nat) (n : Nat) : ∀ (k : Nat) (left : List α) (out : Array α), left.length = n → List.Perm (pickOrder.go next n k left out).toList (out.toList ++ left) := by
  induction n with
  | zero =>
    intro k left out h
    obtain rfl := List.eq_nil_of_length_eq_zero h
    show List.Perm out.toList _
    rw [List.append_nil]
  | succ n ih =>
    intro k left out h
    have hlt : next k % left.length < left.length := Nat.mod_lt _ (h ▸ Nat.succ_pos n)
    have e : left[next k % left.length]? = some left[next k % left.length] := List.getElem?_eq_getElem hlt
    rw [go_step e]
    refine (ih (k + 1) (left.eraseIdx (next k % left.length)) (out.push left[next k % left.length]) (by rw [List.length_eraseIdx_of_lt hlt, h]; rfl)).trans ?_
    rw [Array.toList_push, List.append_assoc]
    exact List.Perm.append_left _ (eraseIdx_perm e)
theorem pick_perm {α : Type} (next : Nat → Nat) (xs : Array α) : List.Perm (pickOrder next xs).toList xs.toList := by
  unfold pickOrder
  exact pick_go next xs.size 0 xs.toList #[] (by simp)
section
variable {prog : Program} {w : World} {A : Around} {E : Value → Shared → Prop} {s : Shared} {a : Addr} {o : Obj} {S : List Nat}
theorem text_c {Q : Bool → Shared → Prop} (hq : Q (byText w) s) : wpAny (model prog w) A setsByText Q E s := by
  unfold setsByText
  exact wpAny_bind (wpAny_askSetting (wpAny_pure hq))
theorem walk_c {tk : Nat → Tok} {ep m mv : Nat} {Q : Array (Int × Value) → Shared → Prop} (e : o = setObj S tk ep m mv (!byText w)) (hS : S ∈ subs) (hm : m ∈ [7, 15, 31]) (ho : s.heap.get? a = some o)
    (hq : ∀ es : Array (Int × Value), List.Perm es.toList (S.map (ent tk)) → Q es s) : wpAny (model prog w) A (setWalk a) Q E s := by
  subst e
  unfold setWalk
  refine wpAny_bind (wpAny_setState_of ho rfl (fits_tbl hS (ge7 hm)) ?_)
  dsimp only
  refine wpAny_bind (text_c ?_)
  by_cases hb : byText w = true
  · rw [if_pos hb]
    refine wpAny_bind (wpAny_askSetting (wpAny_pure (hq _ ?_)))
    exact pick_perm _ _
  · rw [if_neg hb]
    have hbf : byText w = false := by simpa using hb
    rw [hbf]
    refine KFB.if_not rfl ?_
    refine wpAny_bind (wpAny_pure (a := ()) ?_)
    exact wpAny_pure (hq _ (List.Perm.refl _))
theorem walkU_c {tk : Nat → Tok} {ep m mv : Nat} {others : List Addr} {f : Option Addr} {Q : Array (Int × Value) → Shared → Prop} (e : o = setObj S tk ep m mv (!byText w)) (hS : S ∈ subs) (hm : m ∈ [7, 15, 31]) (ho : s.heap.get? a = some o)
    (hq : ∀ es : Array (Int × Value), List.Perm es.toList (S.map (ent tk)) → Q es s) : wpAny (model prog w) A (setWalkUnseen a others f) Q E s := by
  have e' := e
  subst e
  unfold setWalkUnseen
  refine wpAny_bind (wpAny_setState_of ho rfl (fits_tbl hS (ge7 hm)) ?_)
  dsimp only
  refine wpAny_bind (text_c ?_)
  rw [if_pos (by cases byText w <;> simp)]
  exact walk_c e' hS hm ho hq
end

noncomputable def uni (T S : List Nat) : List Nat := S.foldl (fun acc k => insS k acc) T
theorem subs_canon : ∀ A ∈ subs, ∀ B ∈ subs, (∀ k ∈ [1, 2, 3, 4, 5, 6], A.contains k = B.contains k) → A = B := by decide +kernel
theorem ins_contains : ∀ S ∈ subs, ∀ k ∈ [1, 2, 3, 4, 5, 6], ∀ j ∈ [1, 2, 3, 4, 5, 6], (insS k S).contains j = (S.contains j || j == k) := by decide +kernel
theorem uni_spec : ∀ {L T : List Nat}, T ∈ subs → (∀ k ∈ L, k ∈ [1, 2, 3, 4, 5, 6]) → uni T L ∈ subs ∧ ∀ j ∈ [1, 2, 3, 4, 5, 6], (uni T L).contains j = (T.contains j || L.contains j)
  | [], T, hT, _ => ⟨hT, fun j _ => by show T.contains j = (T.contains j || false); rw [Bool.or_false]⟩
  | k :: L, T, hT, hL => by
    have hk := hL k (.head _)
    obtain ⟨h1, h2⟩ := uni_spec (L := L) (T := insS k T) (subs_ins T hT k hk) fun j hj => hL j (.tail _ hj)
    refine ⟨h1, fun j hj => ?_⟩
    show (uni (insS k T) L).contains j = _
    rw [h2 j hj, ins_contains T hT k hk j hj, List.contains_cons, Bool.or_assoc]
theorem uni_perm {T S L : List Nat} (hT : T ∈ subs) (hS : S ∈ subs) (hp : L.Perm S) : uni T L = uni T S := by
  have hS' : ∀ k ∈ S, k ∈ [1, 2, 3, 4, 5, 6] := subs_mem S hS
  have hL' : ∀ k ∈ L, k ∈ [1, 2, 3, 4, 5, 6] := fun k hk => hS' k (hp.mem_iff.mp hk)
  obtain ⟨a1, a2⟩ := uni_spec hT hL'
  obtain ⟨b1, b2⟩ := uni_spec hT hS'
  refine subs_canon _ a1 _ b1 fun k hk => ?_
  rw [a2 k hk, b2 k hk]
  congr 1
  rw [Bool.eq_iff_iff, List.contains_iff_mem, List.contains_iff_mem]
  exact hp.mem_iff
section
variable {prog : Program} {w : World} {A : Around} {E : Value → Shared → Prop} {s : Shared} {r a : Addr} {oa : Obj} {S T : List Nat}
theorem merge_loop {each : Sem Unit} {tk : Nat → Tok} {ep m mv : Nat} (hra : r ≠ a) (e : oa = setObj S tk ep m mv (!byText w)) (hS : S ∈ subs) (hm : m ∈ [7, 15, 31]) {tk2 : Nat → Tok} {Q : PUnit → Shared → Prop}
    (hu : ∀ (s' : Shared) (Q : Unit → Shared → Prop), s'.heap.get? a = some oa → Q () s' → wpAny (model prog w) A each Q E s') :
    ∀ {L T : List Nat} {s : Shared} {orr : Obj}, (∀ k ∈ L, k ∈ [1, 2, 3, 4, 5, 6]) → s.heap.get? a = some oa → s.heap.get? r = some orr → SetC w orr T →
    (∀ h' o', Heap.SameBut r s.heap h' → h'.get? r = some o' → SetC w o' (uni T L) → Q ⟨⟩ { s with heap := h' }) →
    wpAny (model prog w) A (forIn (L.map (ent tk2)) PUnit.unit fun x _ => do
      let _ ← holding [x.2] (setAddHashed r x.2 x.1)
      each
      let __do_lift ← setState a
      if (__do_lift.2.1 != ep) = true then do
        unsupported "set.changed-during-merge"
        pure (ForInStep.yield PUnit.unit)
      else pure (ForInStep.yield PUnit.unit)) Q E s
  | [], T, s, orr, _, ha, hr, hc, hq => by
    rw [List.map_nil, List.forIn_nil]
    exact wpAny_pure (hq s.heap orr (Heap.SameBut.refl r _) hr hc)
  | k :: L, T, s, orr, hL, ha, hr, hc, hq => by
    rw [List.map_cons, List.forIn_cons]
    refine wpAny_bind (wpAny_bind (wpAny_holding (addHashed_c hr hc (hL k (.head _)) fun b h' o' hs ho' hc' => ?_)))
    have ha' : h'.get? a = some oa := (hs.2 a (Ne.symm hra)).trans ha
    refine wpAny_bind (hu _ _ ha' ?_)
    refine wpAny_bind (wpAny_setState_of ha' (by rw [e]) (fits_tbl (tk := tk) (m := m) (mv := mv) (led := !byText w) hS (ge7 hm)) ?_)
    dsimp only
    rw [if_neg (by simp)]
    refine wpAny_pure ?_
    exact merge_loop hra e hS hm hu (fun j hj => hL j (.tail _ hj)) ha' ho' hc' fun h2 o2 hs2 ho2 hc2 => hq h2 o2 (hs.trans hs2) ho2 hc2
end

theorem above_ok : ∀ x ∈ List.range 13, 5 ≤ x → (SetTable.sizeAbove (x * 2) - 1) ∈ [15, 31] ∧ SetTable.sizeAbove (x * 2) ≤ 64 ∧ x * 5 < (SetTable.sizeAbove (x * 2) - 1) * 3 := by decide +kernel
theorem m15 {M : Nat} (h : M ∈ [15, 31]) : M ∈ [7, 15, 31] ∧ 15 ≤ M := by
  rcases List.mem_cons.mp h with e | h
  · subst e; exact ⟨by decide, by omega⟩
  · have := List.mem_singleton.mp h; subst this; exact ⟨by decide, by omega⟩
section
variable {prog : Program} {w : World} {A : Around} {E : Value → Shared → Prop} {s : Shared} {r a : Addr} {o oa : Obj} {S T : List Nat}
theorem roomFor_c {n : Nat} {Q : Unit → Shared → Prop} (hn : n ≤ 6) (hr : s.heap.get? r = some o) (hc : SetC w o T)
    (hq : ∀ h' tk ep m mv, Heap.SameBut r s.heap h' → h'.get? r = some (setObj T tk ep m mv (!byText w)) → T ∈ subs → m ∈ [7, 15, 31] → (T.length + n) * 5 < m * 3 → Q () { s with heap := h' }) : wpAny (model prog w) A (setRoomFor r n) Q E s := by
  obtain ⟨tk, ep, m, mv, rfl, hT, hm, hz⟩ := hc
  have hl := subs_len T hT
  unfold setRoomFor
  refine wpAny_bind (wpAny_setState_of hr rfl (fits_tbl hT (ge7 hm)) ?_)
  dsimp only
  by_cases hf : (T.length + n) * 5 ≥ m * 3
  · have e : (tbl T m mv (!byText w)).roomFor n = some ((T.length + n) * 2) := by
      unfold SetTable.roomFor SetTable.fill
      have : ((tbl T m mv (!byText w)).place.size + (tbl T m mv (!byText w)).dummies.size + n) * 5 ≥ (tbl T m mv (!byText w)).mask * 3 := by simpa using hf
      rw [if_pos this]
      simp
    rw [e]
    have h7 := ge7 hm
    obtain ⟨hM, hle, hlt⟩ := above_ok (T.length + n) (List.mem_range.mpr (by omega)) (by omega)
    obtain ⟨hM', h15⟩ := m15 hM
    unfold setRelay
    refine wpAny_bind (wpAny_setState_of hr rfl (fits_tbl hT (ge7 hm)) ?_)
    dsimp only
    rw [if_neg (by rw [sizeLine_eq]; omega)]
    unfold SetTable.relaid
    rw [show SetTable.laid (SetTable.sizeAbove ((T.length + n) * 2) - 1) (tbl T m mv (!byText w)).finger ((tbl T m mv (!byText w)).movedTo (SetTable.sizeAbove ((T.length + n) * 2) - 1)) (tbl T m mv (!byText w)).led (tbl T m mv (!byText w)).plain (Array.map (·.1) (ents T tk)) = _ from laid_tbl hT hM']
    refine wpAny_bind ?_
    show wpAny _ _ (do
      let es' := (List.range T.length).toArray.filterMap ((ents T tk)[·]?)
      if es'.size != (ents T tk).size then unsupported "internal:set-table-lost-an-element"
      pure (es', _)) _ _ _
    rw [order_ents]
    dsimp only
    rw [if_neg (by simp)]
    refine wpAny_pure ?_
    refine wpAny_storeSet_of hr rfl ?_ (by simp [sizeLine_eq]; omega)
    exact hq _ _ _ _ _ (Heap.SameBut.update _ r _) (put_at (S' := T) (tk' := tk) hr) hT hM' hlt
  · have e : (tbl T m mv (!byText w)).roomFor n = none := by
      unfold SetTable.roomFor SetTable.fill
      have : ¬ ((tbl T m mv (!byText w)).place.size + (tbl T m mv (!byText w)).dummies.size + n) * 5 ≥ (tbl T m mv (!byText w)).mask * 3 := by simpa using hf
      rw [if_neg this]
    rw [e]
    exact wpAny_pure (hq _ _ _ _ _ (Heap.SameBut.refl r _) hr hT hm (by omega))
end

theorem uni_nil : ∀ S ∈ subs, uni [] S = S := by decide +kernel
theorem perm_ents {S : List Nat} {tk : Nat → Tok} {es : List (Int × Value)} (h : es.Perm (S.map (ent tk))) : ∃ L : List Nat, L.Perm S ∧ es = L.map (ent tk) := by
  refine ⟨es.map fun e => e.1.toNat, ?_, ?_⟩
  · have := h.map fun e : Int × Value => e.1.toNat
    rw [List.map_map] at this
    have e : S.map ((fun e : Int × Value => e.1.toNat) ∘ ent tk) = S := by
      conv => rhs; rw [← List.map_id S]
      apply List.map_congr_left
      intro k _
      show ((k : Int)).toNat = k
      omega
    rwa [e] at this
  · rw [List.map_map]
    conv => lhs; rw [← List.map_id es]
    apply List.map_congr_left
    intro e he
    obtain ⟨k, _, rfl⟩ := List.mem_map.mp (h.mem_iff.mp he)
    show ent tk k = ent tk ((k : Int)).toNat
    rw [Int.toNat_natCast]
section
variable {prog : Program} {w : World} {A : Around} {E : Value → Shared → Prop} {s : Shared} {r a : Addr} {o oa : Obj} {S T : List Nat}
theorem merge_c {each : Sem Unit} {tk : Nat → Tok} {ep m mv : Nat} {Q : Unit → Shared → Prop} (hra : r ≠ a) (e : oa = setObj S tk ep m mv (!byText w)) (hS : S ∈ subs) (hm : m ∈ [7, 15, 31]) (hz : S.length * 5 < m * 3)
    (hu : ∀ (s' : Shared) (Q : Unit → Shared → Prop), s'.heap.get? a = some oa → Q () s' → wpAny (model prog w) A each Q E s')
    (ha : s.heap.get? a = some oa) (hr : s.heap.get? r = some o) (hc : SetC w o T)
    (hq : ∀ h' o', Heap.SameBut r s.heap h' → h'.get? r = some o' → SetC w o' (uni T S) → Q () { s with heap := h' }) : wpAny (model prog w) A (setMerge r a each) Q E s := by
  have hl := subs_len S hS
  unfold setMerge
  refine KFB.if_not (by simp; exact hra) ?_
  refine wpAny_bind (wpAny_setState_of ha (by rw [e]) (fits_tbl (tk := tk) (m := m) (mv := mv) (led := !byText w) hS (ge7 hm)) ?_)
  dsimp only
  by_cases h0 : S = []
  · subst h0
    rw [if_pos (by rfl)]
    exact wpAny_pure (hq s.heap o (Heap.SameBut.refl r _) hr hc)
  · rw [if_neg (by simpa using h0)]
    refine wpAny_bind (roomFor_c (n := (ents S tk).size) (by simpa using hl) hr hc fun h1 tk1 ep1 m1 mv1 hs1 hr1 hT hm1 hz1 => ?_)
    have ha1 : h1.get? a = some oa := (hs1.2 a (Ne.symm hra)).trans ha
    rw [show (ents S tk).size = S.length by simp] at hz1
    have hc1 : SetC w (setObj T tk1 ep1 m1 mv1 (!byText w)) T := ⟨_, _, _, _, rfl, hT, hm1, by omega⟩
    refine wpAny_bind (wpAny_setState_of hr1 rfl (fits_tbl hT (ge7 hm1)) ?_)
    dsimp only
    by_cases hT0 : T = []
    · subst hT0
      by_cases hmm : m1 = m
      · have er : (tbl [] m1 mv1 (!byText w)).road (tbl S m mv (!byText w)) = .slotForSlot := by
          unfold SetTable.road SetTable.fill
          simp [hmm]
        rw [er]
        dsimp only
        refine wpAny_storeSet_of hr1 rfl ?_ (by simp [sizeLine_eq]; omega)
        rw [uni_nil S hS] at hq
        refine hq _ _ (hs1.trans (Heap.SameBut.update _ r _)) (put_at (S' := S) (tk' := tk) (m' := m) (mv' := mv1) (led' := !byText w) hr1 |> fun z => by simpa only [Bool.and_self] using z) ⟨_, _, _, _, rfl, hS, hm, hz⟩
      · have er : (tbl [] m1 mv1 (!byText w)).road (tbl S m mv (!byText w)) = .clean := by
          unfold SetTable.road SetTable.fill
          simp [hmm]
        rw [er]
        dsimp only
        rw [uni_nil S hS] at hq
        rw [Bool.and_self, Bool.and_self, show SetTable.laid m1 0 mv1 (!byText w) true (Array.map (·.1) (ents S tk)) = _ from laid_tbl hS hm1]
        refine wpAny_bind ?_
        show wpAny _ _ (do
          let es' := (List.range S.length).toArray.filterMap ((ents S tk)[·]?)
          if es'.size != (ents S tk).size then unsupported "internal:set-table-lost-an-element"
          pure (es', _)) _ _ _
        rw [order_ents]
        dsimp only
        rw [if_neg (by simp)]
        refine wpAny_pure ?_
        refine wpAny_storeSet_of hr1 rfl ?_ (by simp [sizeLine_eq]; omega)
        exact hq _ _ (hs1.trans (Heap.SameBut.update _ r _)) (put_at (S' := S) (tk' := tk) hr1) ⟨_, _, _, _, rfl, hS, hm1, by simpa using hz1⟩
    · have er : (tbl T m1 mv1 (!byText w)).road (tbl S m mv (!byText w)) = .oneByOne := by
        unfold SetTable.road SetTable.fill
        simp [hT0]
      rw [er]
      dsimp only
      refine wpAny_bind (walkU_c e hS hm ha1 fun es hp => ?_)
      obtain ⟨L, hL, hes⟩ := perm_ents hp
      rw [← Array.forIn_toList, hes]
      refine wpAny_bind (merge_loop hra e hS hm hu (fun k hk => subs_mem S hS k (hL.mem_iff.mp hk)) ha1 hr1 hc1 fun h2 o2 hs2 hr2 hc2 => wpAny_pure ?_)
      rw [uni_perm hT hS hL] at hc2
      exact hq h2 o2 (hs1.trans hs2) hr2 hc2
end

theorem entry_set_or : entryFor table "set.__or__" = some Builtin.«frozenset.__or__» := alias_tree (id' := "frozenset.__or__") (by kernel_rfl) rfl (by decide +kernel) (by decide +kernel) (by kernel_rfl)
theorem args_set_or (a b : Value) : argsOk "set.__or__" ⟨[a, b], []⟩ := by unfold argsOk; rw [PySem.W.Fast.signatureQ_eq]; kernel_rfl
section
variable {prog : Program} {w : World} {A : Around} {E : Value → Shared → Prop} {s : Shared} {a b : Addr} {oa ob o : Obj} {Sa Sb S : List Nat}
theorem base_c {Q : Value → Shared → Prop} (h : SetC w o S) (ho : s.heap.get? a = some o) (hq : Q (.type "set") s) : wpAny (model prog w) A (Builtin.Frozenset.baseOf a) Q E s := by
  unfold Builtin.Frozenset.baseOf
  refine wpAny_bind (wpAny_isInstance (h.typeIs ho) sub_set_self ?_)
  exact wpAny_pure hq
theorem newSet_c {Q : Value → Shared → Prop} (hq : Q (.ref s.heap.objs.size) { s with heap := s.heap.push (set0Ob w) }) : wpAny (model prog w) A (newSet (.type "set")) Q E s := by
  unfold newSet
  refine wpAny_bind (text_c ?_)
  dsimp only
  simp only [newObj]
  exact wpAny_bind (wpAny_alloc (wpAny_pure hq))
theorem copy_c {Q : Value → Shared → Prop} (h : SetC w oa Sa) (ha : s.heap.get? a = some oa)
    (hq : ∀ h' o', (∀ b o, s.heap.get? b = some o → h'.get? b = some o) → h'.get? s.heap.objs.size = some o' → SetC w o' Sa → Q (.ref s.heap.objs.size) { s with heap := h' }) : wpAny (model prog w) A (Builtin.Frozenset.copyOf a) Q E s := by
  have hlt : a < s.heap.objs.size := Heap.lt_size ha
  obtain ⟨tk, ep, m, mv, e, hS, hm, hz⟩ := id h
  unfold Builtin.Frozenset.copyOf
  refine wpAny_bind (base_c h ha ?_)
  refine wpAny_bind (newSet_c ?_)
  unfold Builtin.Frozenset.addrOf
  refine wpAny_bind (wpAny_pure ?_)
  refine wpAny_bind (merge_c (r := s.heap.objs.size) (a := a) (T := []) (each := pure ()) (Nat.ne_of_gt hlt) e hS hm hz (fun _ _ _ hq => wpAny_pure hq) (Heap.get?_push_of_some _ ha) (Heap.get?_push_size _ rfl) set0_ok fun h' o' hs' ho' hc' => ?_)
  rw [uni_nil Sa hS] at hc'
  refine wpAny_pure (hq h' o' (fun b o e => (hs'.2 b (fun q => ?_)).trans (Heap.get?_push_of_some _ e)) ho' hc')
  rw [q] at e
  exact Nat.lt_irrefl _ (Heap.lt_size e)
theorem or_call {Q : Value → Shared → Prop} (hab : a ≠ b) (ha : s.heap.get? a = some oa) (hb : s.heap.get? b = some ob) (ca : SetC w oa Sa) (cb : SetC w ob Sb)
    (hq : ∀ h' o', (∀ b o, s.heap.get? b = some o → h'.get? b = some o) → h'.get? s.heap.objs.size = some o' → SetC w o' (uni Sa Sb) → Q (.ref s.heap.objs.size) { s with heap := h' }) :
    wpAny (model prog w) A (call (.builtin "set.__or__") [.ref a, .ref b]) Q E s := by
  refine wpAny_call_entry F.slot_set_or (ca.typeIs ha) entry_set_or ?_ (args_set_or _ _)
  unfold Builtin.«frozenset.__or__»
  refine wpAny_bind (m := Builtin.Frozenset.slot1 _ _) ?_
  unfold Builtin.Frozenset.slot1 slotArgs
  simp only [List.isEmpty_nil, Bool.not_true, Bool.false_eq_true, ↓reduceIte]
  refine wpAny_bind (wpAny_pure ?_)
  dsimp only
  refine wpAny_pure ?_
  dsimp only
  refine wpAny_bind (wpAny_bind (m := Builtin.Frozenset.isAnySet (.ref a)) (anySet_c ca ha ?_))
  (try simp only [↓reduceIte])
  refine anySet_c cb hb ?_
  simp only [Bool.not_true, Bool.false_eq_true, ↓reduceIte]
  refine wpAny_bind (wpAny_pure (a := a) ?_)
  refine wpAny_bind (wpAny_bind (m := Builtin.Frozenset.copyOf a) (copy_c ca ha fun h1 o1 k1 e1 c1 => ?_))
  have hbb : h1.get? b = some ob := k1 _ _ hb
  have hne : s.heap.objs.size ≠ b := fun q => by
    have := Heap.lt_size hb
    rw [← q] at this
    exact Nat.lt_irrefl _ this
  refine KFB.if_so (by simp; exact fun q => hab q.symm) ?_
  refine wpAny_bind (wpAny_pure (a := s.heap.objs.size) ?_)
  refine wpAny_bind (wpAny_holding ?_)
  unfold Builtin.Frozenset.updateFrom
  refine wpAny_bind (anySet_c cb hbb ?_)
  (try simp only [↓reduceIte])
  refine wpAny_bind (wpAny_pure (a := b) ?_)
  obtain ⟨tk, ep, m, mv, e, hS, hm, hz⟩ := id cb
  unfold Builtin.Frozenset.merge
  refine wpAny_bind (epoch_c e hS hm hbb ?_)
  refine merge_c hne e hS hm hz (fun s' Q' hb' hq' => ?_) hbb e1 c1 fun h2 o2 hs2 ho2 hc2 => ?_
  · unfold Builtin.Frozenset.unchanged
    refine wpAny_bind (epoch_c e hS hm hb' ?_)
    rw [if_neg (by simp)]
    exact wpAny_pure hq'
  · refine wpAny_pure (wpAny_pure ⟨_, rfl, hq h2 o2 (fun c oc ec => (hs2.2 c fun q => ?_).trans (k1 _ _ ec)) ho2 hc2⟩)
    rw [q] at ec
    exact Nat.lt_irrefl _ (Heap.lt_size ec)
end

theorem entry_set_and : entryFor table "set.__and__" = some Builtin.«frozenset.__and__» := alias_tree (id' := "frozenset.__and__") (by kernel_rfl) rfl (by decide +kernel) (by decide +kernel) (by kernel_rfl)
theorem args_set_and (a b : Value) : argsOk "set.__and__" ⟨[a, b], []⟩ := by unfold argsOk; rw [PySem.W.Fast.signatureQ_eq]; kernel_rfl
/-- what both hold -/
noncomputable def inter (S T : List Nat) : List Nat := S.filter fun k => T.contains k
theorem sub_le6 : ∀ S ∈ subs, S.Sublist [1, 2, 3, 4, 5, 6] := by decide +kernel
theorem mem_sublists {l S : List Nat} (h : S.Sublist l) : S ∈ l.foldr (fun k acc => acc ++ acc.map (k :: ·)) [[]] := by
  induction h with
  | slnil => exact .head _
  | cons a _ ih => exact List.mem_append_left _ ih
  | cons_cons a _ ih => exact List.mem_append_right _ (List.mem_map_of_mem ih)
theorem sub_of6 {S : List Nat} (h : S.Sublist [1, 2, 3, 4, 5, 6]) : S ∈ subs := mem_sublists h
theorem inter_in {S T : List Nat} (h : S ∈ subs) : inter S T ∈ subs := sub_of6 (List.filter_sublist.trans (sub_le6 S h))
theorem inter_sub (S : List Nat) (hS : S ∈ subs) (T : List Nat) (hT : T ∈ subs) : inter S T ∈ subs ∧ inter S T = inter T S := by
  refine ⟨inter_in hS, subs_canon _ (inter_in hS) _ (inter_in hT) fun k _ => ?_⟩
  rw [Bool.eq_iff_iff, List.contains_iff_mem, List.contains_iff_mem, inter, inter, List.mem_filter, List.mem_filter, List.contains_iff_mem, List.contains_iff_mem]
  exact and_comm
section
variable {prog : Program} {w : World} {A : Around} {E : Value → Shared → Prop} {s : Shared} {a b : Addr} {oa ob o : Obj} {Sa Sb S : List Nat}
theorem inter_loop {r : Addr} {nm : String} {tk : Nat → Tok} {ep m mv : Nat} (hra : r ≠ a) (hrb : r ≠ b) (e : oa = setObj Sa tk ep m mv (!byText w)) (hSa : Sa ∈ subs) (hm : m ∈ [7, 15, 31]) (cb : SetC w ob Sb) {tk2 : Nat → Tok} {Q : PUnit → Shared → Prop} :
    ∀ {L T : List Nat} {s : Shared} {orr : Obj}, (∀ k ∈ L, k ∈ [1, 2, 3, 4, 5, 6]) → s.heap.get? a = some oa → s.heap.get? b = some ob → s.heap.get? r = some orr → SetC w orr T →
    (∀ h' o', Heap.SameBut r s.heap h' → h'.get? r = some o' → SetC w o' (uni T (L.filter fun k => Sb.contains k)) → Q ⟨⟩ { s with heap := h' }) →
    wpAny (model prog w) A (forIn (L.map (ent tk2)) PUnit.unit fun x _ => do
      holding [x.2] do
        let __do_lift ← setFind b x.2 x.1
        if __do_lift.isSome = true then do
          let _ ← setAddHashed r x.2 x.1
          pure PUnit.unit
        else pure PUnit.unit
      Builtin.Frozenset.unchanged nm a ep
      pure (ForInStep.yield PUnit.unit)) Q E s
  | [], T, s, orr, _, ha, hb, hr, hc, hq => by
    rw [List.map_nil, List.forIn_nil]
    exact wpAny_pure (hq s.heap orr (Heap.SameBut.refl r _) hr hc)
  | k :: L, T, s, orr, hL, ha, hb, hr, hc, hq => by
    have un : ∀ (s' : Shared) (Q' : Unit → Shared → Prop), s'.heap.get? a = some oa → Q' () s' → wpAny (model prog w) A (Builtin.Frozenset.unchanged nm a ep) Q' E s' := fun s' Q' h1 h2 => by
      unfold Builtin.Frozenset.unchanged
      refine wpAny_bind (epoch_c e hSa hm h1 ?_)
      rw [if_neg (by simp)]
      exact wpAny_pure h2
    rw [List.map_cons, List.forIn_cons]
    refine wpAny_bind (wpAny_bind (wpAny_holding (wpAny_bind (find_c cb hb (hL k (.head _)) fun o2 ho2 => ?_))))
    cases o2 with
    | none =>
      simp only [Option.isSome_none, Bool.false_eq_true, ↓reduceIte]
      refine wpAny_pure (wpAny_bind (un _ _ ha (wpAny_pure ?_)))
      refine inter_loop hra hrb e hSa hm cb (fun j hj => hL j (.tail _ hj)) ha hb hr hc fun h' o' hs ho' hc' => hq h' o' hs ho' ?_
      rw [List.filter_cons, ← ho2]
      exact hc'
    | some i =>
      simp only [Option.isSome_some, ↓reduceIte]
      refine wpAny_bind (addHashed_c hr hc (hL k (.head _)) fun bb h' o' hs ho' hc' => wpAny_pure ?_)
      have ha' : h'.get? a = some oa := (hs.2 a (Ne.symm hra)).trans ha
      have hb' : h'.get? b = some ob := (hs.2 b (Ne.symm hrb)).trans hb
      refine wpAny_bind (un _ _ ha' (wpAny_pure ?_))
      refine inter_loop hra hrb e hSa hm cb (fun j hj => hL j (.tail _ hj)) ha' hb' ho' hc' fun h2 o2 hs2 ho2' hc2 => hq h2 o2 (hs.trans hs2) ho2' ?_
      rw [List.filter_cons, ← ho2]
      exact hc2
end

theorem uni_inter : ∀ S ∈ subs, ∀ T ∈ subs, uni [] (inter S T) = inter S T := by decide +kernel
theorem inter_perm {S T L : List Nat} (hS : S ∈ subs) (hT : T ∈ subs) (hp : L.Perm S) : uni [] (L.filter fun k => T.contains k) = inter S T := by
  rw [← uni_inter S hS T hT]
  exact uni_perm (by decide) (inter_sub S hS T hT).1 (hp.filter _)
section
variable {prog : Program} {w : World} {A : Around} {E : Value → Shared → Prop} {s : Shared} {a b : Addr} {oa ob o : Obj} {Sa Sb S : List Nat}
theorem and_call {Q : Value → Shared → Prop} (hab : a ≠ b) (ha : s.heap.get? a = some oa) (hb : s.heap.get? b = some ob) (ca : SetC w oa Sa) (cb : SetC w ob Sb)
    (hq : ∀ h' o', (∀ b o, s.heap.get? b = some o → h'.get? b = some o) → h'.get? s.heap.objs.size = some o' → SetC w o' (inter Sa Sb) → Q (.ref s.heap.objs.size) { s with heap := h' }) :
    wpAny (model prog w) A (call (.builtin "set.__and__") [.ref a, .ref b]) Q E s := by
  refine wpAny_call_entry F.slot_set_and (ca.typeIs ha) entry_set_and ?_ (args_set_and _ _)
  unfold Builtin.«frozenset.__and__»
  refine wpAny_bind (m := Builtin.Frozenset.slot1 _ _) ?_
  unfold Builtin.Frozenset.slot1 slotArgs
  simp only [List.isEmpty_nil, Bool.not_true, Bool.false_eq_true, ↓reduceIte]
  refine wpAny_bind (wpAny_pure ?_)
  dsimp only
  refine wpAny_pure ?_
  dsimp only
  refine wpAny_bind (wpAny_bind (m := Builtin.Frozenset.isAnySet (.ref a)) (anySet_c ca ha ?_))
  (try simp only [↓reduceIte])
  refine anySet_c cb hb ?_
  simp only [Bool.not_true, Bool.false_eq_true, ↓reduceIte]
  refine wpAny_bind (wpAny_pure (a := a) ?_)
  refine wpAny_bind ?_
  unfold Builtin.Frozenset.intersection
  refine KFB.if_not (by simp; exact fun q => hab q.symm) ?_
  refine wpAny_bind (base_c ca ha ?_)
  refine wpAny_bind (newSet_c ?_)
  refine wpAny_bind (wpAny_pure (a := s.heap.objs.size) ?_)
  have hna : s.heap.objs.size ≠ a := fun q => by have := Heap.lt_size ha; rw [← q] at this; exact Nat.lt_irrefl _ this
  have hnb : s.heap.objs.size ≠ b := fun q => by have := Heap.lt_size hb; rw [← q] at this; exact Nat.lt_irrefl _ this
  have ha1 : (s.heap.push (set0Ob w)).get? a = some oa := Heap.get?_push_of_some _ ha
  have hb1 : (s.heap.push (set0Ob w)).get? b = some ob := Heap.get?_push_of_some _ hb
  have hr1 : (s.heap.push (set0Ob w)).get? s.heap.objs.size = some (set0Ob w) := Heap.get?_push_size _ rfl
  obtain ⟨tka, epa, ma, mva, ea, hSa, hma, hza⟩ := id ca
  obtain ⟨tkb, epb, mb, mvb, eb, hSb, hmb, hzb⟩ := id cb
  refine wpAny_bind (wpAny_holding ?_)
  refine wpAny_bind (anySet_c cb hb1 ?_)
  (try simp only [↓reduceIte])
  refine wpAny_bind (wpAny_pure (a := b) ?_)
  unfold Builtin.Frozenset.sizeOf
  refine wpAny_bind (wpAny_bind (entries_c cb hb1 fun tk1 => wpAny_pure ?_))
  refine wpAny_bind (wpAny_bind (entries_c ca ha1 fun tk2 => wpAny_pure ?_))
  have kp : ∀ h2, Heap.SameBut s.heap.objs.size (s.heap.push (set0Ob w)) h2 → ∀ c oc, s.heap.get? c = some oc → h2.get? c = some oc := fun h2 hs2 c oc ec => (hs2.2 c fun q => by
    rw [q] at ec
    exact Nat.lt_irrefl _ (Heap.lt_size ec)).trans (Heap.get?_push_of_some _ ec)
  by_cases hz : (ents Sb tk1).size > (ents Sa tk2).size
  · simp only [hz, ↓reduceIte]
    refine wpAny_bind (epoch_c ea hSa hma ha1 ?_)
    refine wpAny_bind (walkU_c ea hSa hma ha1 fun es hp => ?_)
    obtain ⟨L, hL, hes⟩ := perm_ents hp
    rw [← Array.forIn_toList, hes]
    refine wpAny_bind (inter_loop hna hnb ea hSa hma cb (fun k hk => subs_mem Sa hSa k (hL.mem_iff.mp hk)) ha1 hb1 hr1 set0_ok fun h2 o2 hs2 ho2 hc2 => ?_)
    rw [inter_perm hSa hSb hL] at hc2
    exact wpAny_pure (wpAny_pure (wpAny_pure ⟨_, rfl, hq h2 o2 (kp h2 hs2) ho2 hc2⟩))
  · simp only [hz, ↓reduceIte]
    refine wpAny_bind (epoch_c eb hSb hmb hb1 ?_)
    refine wpAny_bind (walkU_c eb hSb hmb hb1 fun es hp => ?_)
    obtain ⟨L, hL, hes⟩ := perm_ents hp
    rw [← Array.forIn_toList, hes]
    refine wpAny_bind (inter_loop hnb hna eb hSb hmb ca (fun k hk => subs_mem Sb hSb k (hL.mem_iff.mp hk)) hb1 ha1 hr1 set0_ok fun h2 o2 hs2 ho2 hc2 => ?_)
    rw [inter_perm hSb hSa hL, ← (inter_sub Sa hSa Sb hSb).2] at hc2
    exact wpAny_pure (wpAny_pure (wpAny_pure ⟨_, rfl, hq h2 o2 (kp h2 hs2) ho2 hc2⟩))
end

theorem fill_or : fillsNumberSlot (.type "set") Operator.BitOr.info.2 = pure true := by first | rfl | kernel_rfl | decide +kernel
theorem fill_and : fillsNumberSlot (.type "set") Operator.BitAnd.info.2 = pure true := by first | rfl | kernel_rfl | decide +kernel
section
variable {prog : Program} {w : World} {A : Around} {E : Value → Shared → Prop} {s : Shared} {a b : Addr} {oa ob o : Obj} {Sa Sb S : List Nat}
theorem le_cmp {Q : Value → Shared → Prop} (ha : s.heap.get? a = some oa) (hb : s.heap.get? b = some ob) (ca : SetC w oa Sa) (cb : SetC w ob Sb) (hu : A.units < cLine) (hq : Q (.bool (Sa.all fun k => Sb.contains k)) s) :
    wpAny (model prog w) A (compareOp .LtE (.ref a) (.ref b)) Q E s := by
  show wpAny _ _ (richCompare .LtE (.ref a) (.ref b)) _ _ _
  exact wpAny_richCompare_same_room (op := .LtE) (ca.typeIs ha) (cb.typeIs hb) F.slot_set_le (le_call ha hb ca cb ⟨fun e => (by cases e), hq⟩) hu
theorem or_op {Q : Value → Shared → Prop} (hab : a ≠ b) (ha : s.heap.get? a = some oa) (hb : s.heap.get? b = some ob) (ca : SetC w oa Sa) (cb : SetC w ob Sb)
    (hq : ∀ h' o', (∀ b o, s.heap.get? b = some o → h'.get? b = some o) → h'.get? s.heap.objs.size = some o' → SetC w o' (uni Sa Sb) → Q (.ref s.heap.objs.size) { s with heap := h' }) :
    wpAny (model prog w) A (binaryOp .BitOr (.ref a) (.ref b)) Q E s :=
  wpAny_binaryOp_same (op := .BitOr) (ca.typeIs ha) (cb.typeIs hb) fill_or F.slot_set_or (or_call hab ha hb ca cb fun h' o' k e c => ⟨fun q => (by cases q), hq h' o' k e c⟩)
theorem and_op {Q : Value → Shared → Prop} (hab : a ≠ b) (ha : s.heap.get? a = some oa) (hb : s.heap.get? b = some ob) (ca : SetC w oa Sa) (cb : SetC w ob Sb)
    (hq : ∀ h' o', (∀ b o, s.heap.get? b = some o → h'.get? b = some o) → h'.get? s.heap.objs.size = some o' → SetC w o' (inter Sa Sb) → Q (.ref s.heap.objs.size) { s with heap := h' }) :
    wpAny (model prog w) A (binaryOp .BitAnd (.ref a) (.ref b)) Q E s :=
  wpAny_binaryOp_same (op := .BitAnd) (ca.typeIs ha) (cb.typeIs hb) fill_and F.slot_set_and (and_call hab ha hb ca cb fun h' o' k e c => ⟨fun q => (by cases q), hq h' o' k e c⟩)
end

/-- the codes of three dots -/
noncomputable abbrev dotL : List Nat := [46, 46, 46]
/-- the pieces stand in the text, in order, the first at its head, the last at its end -/
noncomputable def Lays : List (List Nat) → List Nat → Prop
  | [], _ => False
  | [p], x => x = p
  | p :: q :: r, x => ∃ g rest, x = p ++ g ++ rest ∧ Lays (q :: r) rest
theorem lays_grow {c d : List Nat} : ∀ {P : List (List Nat)} {x : List Nat}, Lays (P ++ [c]) x → Lays (P ++ [c ++ d]) (x ++ d)
  | [], x, h => by
    have h' : x = c := h
    show x ++ d = c ++ d
    rw [h']
  | [p], x, h => by
    obtain ⟨g, rest, e, h'⟩ := h
    exact ⟨g, rest ++ d, by rw [e, List.append_assoc], lays_grow (P := []) h'⟩
  | p :: q :: r, x, h => by
    obtain ⟨g, rest, e, h'⟩ := h
    exact ⟨g, rest ++ d, by rw [e, List.append_assoc], lays_grow (P := q :: r) h'⟩
theorem lays_next {c s d : List Nat} : ∀ {P : List (List Nat)} {x : List Nat}, Lays (P ++ [c]) x → Lays (P ++ [c] ++ [d]) (x ++ s ++ d)
  | [], x, h => by
    have h' : x = c := h
    exact ⟨s, d, by rw [h'], rfl⟩
  | [p], x, h => by
    obtain ⟨g, rest, e, h'⟩ := h
    exact ⟨g, rest ++ s ++ d, by rw [e]; simp only [List.append_assoc], lays_next (P := []) h'⟩
  | p :: q :: r, x, h => by
    obtain ⟨g, rest, e, h'⟩ := h
    exact ⟨g, rest ++ s ++ d, by rw [e]; simp only [List.append_assoc], lays_next (P := q :: r) h'⟩
theorem lays_len : ∀ {P : List (List Nat)} {x : List Nat}, Lays P x → (P.map (·.length)).sum ≤ x.length
  | [], _, h => h.elim
  | [p], x, h => by
    have h' : x = p := h
    rw [h']; simp
  | p :: q :: r, x, h => by
    obtain ⟨g, rest, e, h'⟩ := h
    have := lays_len h'
    rw [e]
    simp only [List.map_cons, List.sum_cons, List.length_append] at this ⊢
    omega
theorem lays_head {a : Nat} : ∀ {P : List (List Nat)} {x p : List Nat}, Lays ((a :: p) :: P) x → x.head? = some a
  | [], x, p, h => by
    have h' : x = a :: p := h
    rw [h']; rfl
  | q :: r, x, p, h => by
    obtain ⟨g, rest, e, h'⟩ := h
    rw [e]; rfl
theorem lays_last {a : Nat} {p : List Nat} : ∀ {P : List (List Nat)} {x : List Nat}, Lays (P ++ [p ++ [a]]) x → x.getLast? = some a
  | [], x, h => by
    have h' : x = p ++ [a] := h
    rw [h']; simp
  | [q], x, h => by
    obtain ⟨g, rest, e, h'⟩ := h
    have := lays_last (P := []) h'
    rw [e, List.getLast?_append, this]; rfl
  | q :: q' :: r, x, h => by
    obtain ⟨g, rest, e, h'⟩ := h
    have := lays_last (P := q' :: r) h'
    rw [e, List.getLast?_append, this]; rfl

/-- how many signs are no dot -/
noncomputable def nd : List Nat → Nat
  | [] => 0
  | c :: r => if c = 46 then nd r else nd r + 1
/-- of each dot: how many signs ahead of it are no dots -/
noncomputable def dotOffs : List Nat → Nat → List Nat
  | [], _ => []
  | c :: r, n => if c = 46 then n :: dotOffs r n else dotOffs r (n + 1)
theorem nd_append : ∀ (a b : List Nat), nd (a ++ b) = nd a + nd b
  | [], b => by simp [nd]
  | c :: r, b => by
    have h := nd_append r b
    by_cases e : c = 46
    · simp only [List.cons_append, nd, e, if_true, h]
    · simp only [List.cons_append, nd, e, if_false, h]; omega
theorem dotOffs_append : ∀ (a b : List Nat) (n : Nat), dotOffs (a ++ b) n = dotOffs a n ++ dotOffs b (n + nd a)
  | [], b, n => by simp [nd, dotOffs]
  | c :: r, b, n => by
    by_cases e : c = 46
    · simp only [List.cons_append, dotOffs, nd, e, if_true, dotOffs_append r b n]
    · simp only [List.cons_append, dotOffs, nd, e, if_false, dotOffs_append r b (n + 1), Nat.add_assoc, Nat.add_comm 1]
theorem nd_free : ∀ {a : List Nat}, 46 ∉ a → nd a = a.length
  | [], _ => rfl
  | c :: r, h => by
    have h1 : c ≠ 46 := fun e => h (e ▸ .head _)
    simp only [nd, h1, if_false, List.length_cons, nd_free fun q => h (.tail _ q)]
theorem dotOffs_free : ∀ {a : List Nat} {n : Nat}, 46 ∉ a → dotOffs a n = []
  | [], _, _ => rfl
  | c :: r, n, h => by
    have h1 : c ≠ 46 := fun e => h (e ▸ .head _)
    simp only [dotOffs, h1, if_false]
    exact dotOffs_free fun q => h (.tail _ q)
theorem dotOffs_dots : ∀ {a : List Nat} {n : Nat}, nd a = 0 → ∀ o ∈ dotOffs a n, o = n
  | [], _, _, o, h => nomatch h
  | c :: r, n, h0, o, h => by
    by_cases e : c = 46
    · simp only [nd, e, if_true] at h0
      simp only [dotOffs, e, if_true] at h
      rcases List.mem_cons.mp h with h | h
      · exact h
      · exact dotOffs_dots h0 o h
    · simp only [nd, e, if_false] at h0
      omega
/-- where the pieces but the first begin -/
noncomputable def bounds : List (List Nat) → Nat → List Nat
  | [], _ => []
  | [_], _ => []
  | p :: q :: r, n => (n + p.length) :: bounds (q :: r) (n + p.length)
theorem lays_nd : ∀ {P : List (List Nat)} {x : List Nat}, (∀ p ∈ P, 46 ∉ p) → Lays P x → (P.map (·.length)).sum ≤ nd x
  | [], _, _, h => h.elim
  | [p], x, hf, h => by
    have h' : x = p := h
    rw [h', nd_free (hf p (.head _))]; simp
  | p :: q :: r, x, hf, h => by
    obtain ⟨g, rest, e, h'⟩ := h
    have := lays_nd (fun z hz => hf z (.tail _ hz)) h'
    rw [e, nd_append, nd_append, nd_free (hf p (.head _))]
    simp only [List.map_cons, List.sum_cons] at this ⊢
    omega
theorem lays_bounds : ∀ {P : List (List Nat)} {x : List Nat} {n : Nat}, (∀ p ∈ P, 46 ∉ p) → Lays P x → nd x = (P.map (·.length)).sum → ∀ o ∈ dotOffs x n, o ∈ bounds P n
  | [], _, _, _, h, _, _, _ => h.elim
  | [p], x, n, hf, h, _, o, ho => by
    have h' : x = p := h
    rw [h', dotOffs_free (hf p (.head _))] at ho
    cases ho
  | p :: q :: r, x, n, hf, h, hn, o, ho => by
    obtain ⟨g, rest, e, h'⟩ := h
    have hp := hf p (.head _)
    have hf' : ∀ z ∈ q :: r, 46 ∉ z := fun z hz => hf z (.tail _ hz)
    have h1 := lays_nd hf' h'
    rw [e, nd_append, nd_append, nd_free hp, List.map_cons, List.sum_cons] at hn
    have hg : nd g = 0 := by omega
    rw [e, dotOffs_append, dotOffs_append, dotOffs_free hp, List.nil_append, nd_append, nd_free hp, hg, Nat.add_zero] at ho
    rcases List.mem_append.mp ho with ho | ho
    · rw [dotOffs_dots hg o ho]; exact .head _
    · exact .tail _ (lays_bounds hf' h' (by omega) o ho)

section
open PySem.StrLaws PySem.Builtin PySem.Builtin.Str
noncomputable abbrev tl (x : Str) : List Nat := x.cps.toList
theorem tl_len (x : Str) : x.length = (tl x).length := by show x.cps.size = _; simp
theorem tl_inj {x y : Str} (h : tl x = tl y) : x = y := Str.ext' (Array.toList_inj.mp h)
theorem at_iff {x y : Str} {hi i : Nat} (_hh : hi ≤ x.length) : At x y hi i ↔ i + y.length ≤ hi ∧ ∃ t, (tl x).drop i = tl y ++ t := by
  unfold At
  rw [subAt_eq, beq_iff_eq, tl_len y]
  constructor
  · rintro ⟨h1, h2⟩
    refine ⟨h1, ((tl x).drop i).drop (tl y).length, ?_⟩
    have := (List.take_append_drop (tl y).length ((tl x).drop i)).symm
    rw [h2] at this
    exact this
  · rintro ⟨h1, t, h2⟩
    refine ⟨h1, ?_⟩
    show ((tl x).drop i).take _ = _
    rw [h2, List.take_left]
theorem occ_gen (x y : Str) (lo hi : Nat) : (occurrences x y lo hi 1 = [] ∧ ∀ i, lo ≤ i → ¬ At x y hi i) ∨ ∃ i r, occurrences x y lo hi 1 = i :: r ∧ lo ≤ i ∧ At x y hi i ∧ ∀ k, lo ≤ k → k < i → ¬ At x y hi k := by
  rw [occ_eq]
  rcases occ_first x y hi 1 (Nat.le_refl 1) (List.range' lo (hi + 1 - lo)) lo (fun i hi => (List.mem_range'_1.mp hi).1) with ⟨h0, hn⟩ | ⟨pre, a, post, e, h0, ha, hn⟩
  · refine .inl ⟨by rw [h0], fun i hi' hA => hn i (List.mem_range'_1.mpr ⟨hi', ?_⟩) hA⟩
    have := hA.1; omega
  · have hs := range'_split_from e
    refine .inr ⟨a, ((forIn (List.range' lo (hi + 1 - lo)) ((#[] : Array Nat), lo) (occBody x y hi 1)).run.fst.toList).tail, ?_, hs.1, ha, fun k h1 h2 => hn k (hs.2 k h1 h2)⟩
    generalize (forIn (List.range' lo (hi + 1 - lo)) ((#[] : Array Nat), lo) (occBody x y hi 1)).run.fst = arr at h0
    have h1 : arr.toList[0]? = some a := by simpa using h0
    cases hL : arr.toList with
    | nil => rw [hL] at h1; cases h1
    | cons b t => rw [hL] at h1; simp at h1; rw [h1]; rfl
/-- finds the pieces one behind the other, between st and en -/
noncomputable def findsFrom (got : Str) (en : Nat) : List Str → Nat → Bool
  | [], _ => true
  | w :: r, st => match occurrences got w st en 1 with
    | i :: _ => findsFrom got en r (i + w.length)
    | [] => false
noncomputable def OccS (got : Str) (en : Nat) : List Str → Nat → Prop
  | [], _ => True
  | w :: r, st => ∃ q, st ≤ q ∧ At got w en q ∧ OccS got en r (q + w.length)
theorem OccS.mono {got : Str} {en st st' : Nat} (h : st' ≤ st) : ∀ {ws : List Str}, OccS got en ws st → OccS got en ws st'
  | [], _ => trivial
  | _ :: _, ⟨q, h1, h2, h3⟩ => ⟨q, Nat.le_trans h h1, h2, h3⟩
theorem finds_iff {got : Str} {en : Nat} : ∀ {ws : List Str} {st : Nat}, findsFrom got en ws st = true ↔ OccS got en ws st
  | [], _ => ⟨fun _ => trivial, fun _ => rfl⟩
  | w :: r, st => by
    unfold findsFrom
    rcases occ_gen got w st en with ⟨e, hn⟩ | ⟨i, l, e, hl, hA, hn⟩
    · rw [e]
      exact ⟨fun h => (by cases h), fun ⟨q, h1, h2, _⟩ => absurd h2 (hn q h1)⟩
    · rw [e]
      show findsFrom got en r (i + w.length) = true ↔ _
      rw [finds_iff]
      refine ⟨fun h => ⟨i, hl, hA, h⟩, fun ⟨q, h1, h2, h3⟩ => OccS.mono ?_ h3⟩
      have : ¬ q < i := fun hq => hn q h1 hq h2
      omega
theorem lays_cons {p : List Nat} {P : List (List Nat)} {x : List Nat} (h : P ≠ []) : Lays (p :: P) x ↔ ∃ g rest, x = p ++ g ++ rest ∧ Lays P rest := by
  cases P with
  | nil => exact absurd rfl h
  | cons q r => exact Iff.rfl
theorem drop_add' {α : Type} {l : List α} {a b : Nat} {u t : List α} (h : l.drop a = u ++ t) (e : u.length = b) : l.drop (a + b) = t := by
  rw [← List.drop_drop, h, ← e, List.drop_left]
theorem occS_lays {got last : Str} (hl : last.length ≤ got.length) (hA : (tl got).drop (got.length - last.length) = tl last) : ∀ {ws : List Str} {st : Nat}, st ≤ got.length - last.length →
    (OccS got (got.length - last.length) ws st ↔ ∃ g rest, (tl got).drop st = g ++ rest ∧ Lays (ws.map tl ++ [tl last]) rest)
  | [], st, hs => by
    refine ⟨fun _ => ⟨((tl got).drop st).take (got.length - last.length - st), tl last, ?_, rfl⟩, fun _ => trivial⟩
    have := List.take_append_drop (got.length - last.length - st) ((tl got).drop st)
    rw [List.drop_drop, show st + (got.length - last.length - st) = got.length - last.length by omega, hA] at this
    exact this.symm
  | w :: ws, st, hs => by
    have ne : ws.map tl ++ [tl last] ≠ [] := by simp
    constructor
    · rintro ⟨q, h1, h2, h3⟩
      have h2' := (at_iff (Nat.sub_le _ _)).mp h2
      obtain ⟨h4, t, h5⟩ := h2'
      obtain ⟨g, rest, e1, e2⟩ := (occS_lays hl hA (ws := ws) h4).mp h3
      rw [drop_add' h5 (tl_len w).symm] at e1
      refine ⟨((tl got).drop st).take (q - st), tl w ++ g ++ rest, ?_, ?_⟩
      · have := List.take_append_drop (q - st) ((tl got).drop st)
        rw [List.drop_drop, show st + (q - st) = q by omega, h5, e1] at this
        rw [List.append_assoc]
        exact this.symm
      · exact (lays_cons ne).mpr ⟨g, rest, rfl, e2⟩
    · rintro ⟨g, rest, e1, e2⟩
      obtain ⟨g2, rest2, e3, e4⟩ := (lays_cons ne).mp e2
      have h5 : (tl got).drop (st + g.length) = tl w ++ (g2 ++ rest2) := by
        rw [drop_add' e1 rfl, e3, List.append_assoc]
      have h6 := lays_len e4
      simp only [List.map_append, List.map_cons, List.map_nil, List.sum_append, List.sum_cons, List.sum_nil] at h6
      have h7 := congrArg List.length h5
      simp only [List.length_drop, List.length_append] at h7
      rw [← tl_len, ← tl_len] at h7
      rw [← tl_len last] at h6
      have h9 := congrArg List.length e1
      rw [e3] at h9
      simp only [List.length_drop, List.length_append] at h9
      rw [← tl_len, ← tl_len] at h9
      have h8 : st + g.length + w.length ≤ got.length - last.length := by omega
      refine ⟨st + g.length, Nat.le_add_right _ _, (at_iff (Nat.sub_le _ _)).mpr ⟨h8, _, h5⟩, ?_⟩
      exact (occS_lays hl hA (ws := ws) h8).mpr ⟨g2, rest2, drop_add' h5 (tl_len w).symm, e4⟩
/-- what _ellipsis_match answers, of a want's pieces -/
noncomputable def ematch : List Str → Str → Bool
  | [], _ => false
  | [p], got => p == got
  | p :: q :: r, got => Txt.startswith got p && Txt.endswith got ((q :: r).getLastD q) && decide (p.length ≤ got.length - ((q :: r).getLastD q).length) && findsFrom got (got.length - ((q :: r).getLastD q).length) (q :: r).dropLast p.length
theorem starts_iff {x y : Str} : Txt.startswith x y = true ↔ ∃ t, tl x = tl y ++ t := by
  unfold Txt.startswith
  rw [Bool.and_eq_true, decide_eq_true_eq]
  have := at_iff (x := x) (y := y) (hi := x.length) (i := 0) (Nat.le_refl _)
  unfold At at this
  rw [this, List.drop_zero]
  refine ⟨fun h => h.2, fun ⟨t, e⟩ => ⟨?_, t, e⟩⟩
  rw [tl_len x, tl_len y, e, List.length_append]; omega
theorem ends_iff {x y : Str} : Txt.endswith x y = true ↔ y.length ≤ x.length ∧ (tl x).drop (x.length - y.length) = tl y := by
  unfold Txt.endswith
  rw [Bool.and_eq_true, decide_eq_true_eq, Nat.zero_add]
  constructor
  · rintro ⟨h1, h2⟩
    refine ⟨h1, ?_⟩
    rw [subAt_eq, beq_iff_eq] at h2
    rw [List.take_of_length_le] at h2
    · exact h2
    · rw [List.length_drop]; show x.cps.toList.length - _ ≤ _; rw [← tl_len]; omega
  · rintro ⟨h1, h2⟩
    refine ⟨h1, ?_⟩
    rw [subAt_eq, beq_iff_eq]
    show ((tl x).drop _).take _ = _
    rw [h2, tl_len y, List.take_length]
theorem ematch_iff : ∀ {P : List Str} {got : Str}, P ≠ [] → (ematch P got = true ↔ Lays (P.map tl) (tl got))
  | [], _, h => absurd rfl h
  | [p], got, _ => by
    show (p == got) = true ↔ tl got = tl p
    rw [beq_iff_eq]
    exact ⟨fun h => by rw [h], fun h => (tl_inj h).symm⟩
  | p :: q :: r, got, _ => by
    obtain ⟨ws, last, hq⟩ : ∃ ws last, q :: r = ws ++ [last] := ⟨(q :: r).dropLast, (q :: r).getLast (by simp), (List.dropLast_concat_getLast (by simp)).symm⟩
    show (Txt.startswith got p && Txt.endswith got ((q :: r).getLastD q) && decide (p.length ≤ got.length - ((q :: r).getLastD q).length) && findsFrom got (got.length - ((q :: r).getLastD q).length) (q :: r).dropLast p.length) = true ↔ _
    have e1 : (q :: r).getLastD q = last := by rw [hq]; simp
    have e2 : (q :: r).dropLast = ws := by rw [hq]; simp
    rw [e1, e2, Bool.and_eq_true, Bool.and_eq_true, Bool.and_eq_true, decide_eq_true_eq, starts_iff, ends_iff, finds_iff]
    rw [show (p :: q :: r).map tl = tl p :: (ws.map tl ++ [tl last]) by rw [hq]; simp, lays_cons (by simp)]
    constructor
    · rintro ⟨⟨⟨⟨t, h1⟩, h2, h3⟩, h4⟩, h5⟩
      obtain ⟨g, rest, e3, e4⟩ := (occS_lays h2 h3 h4).mp h5
      have h6 : (tl got).drop p.length = t := by rw [h1, tl_len p, List.drop_left]
      rw [h6] at e3
      exact ⟨g, rest, by rw [h1, e3, List.append_assoc], e4⟩
    · rintro ⟨g, rest, h1, h2⟩
      have h3 := lays_len h2
      simp only [List.map_append, List.map_cons, List.map_nil, List.sum_append, List.sum_cons, List.sum_nil] at h3
      rw [← tl_len last] at h3
      have h4 := congrArg List.length h1
      simp only [List.length_append] at h4
      rw [← tl_len, ← tl_len] at h4
      have hl : last.length ≤ got.length := by omega
      have hend : ∃ u, rest = u ++ tl last := by
        clear h1 h3 h4 hq e1 e2
        generalize ws.map tl = Z at h2
        induction Z generalizing rest with
        | nil => exact ⟨[], h2⟩
        | cons z Z ih =>
          obtain ⟨g', rest', e5, e6⟩ := (lays_cons (by simp)).mp h2
          obtain ⟨u, hu⟩ := ih _ e6
          exact ⟨z ++ g' ++ u, by rw [e5, hu]; simp only [List.append_assoc]⟩
      obtain ⟨u, hu⟩ := hend
      have h5 : (tl got).drop (got.length - last.length) = tl last := by
        rw [h1, hu, ← List.append_assoc, show got.length - last.length = (tl p ++ g ++ u).length by
          rw [hu] at h4; simp only [List.length_append] at h4 ⊢; rw [← tl_len] at h4 ⊢; omega, List.drop_left]
      have h6 : p.length ≤ got.length - last.length := by omega
      refine ⟨⟨⟨⟨g ++ rest, by rw [h1, List.append_assoc]⟩, hl, h5⟩, h6⟩, (occS_lays hl h5 h6).mpr ⟨g, rest, ?_, h2⟩⟩
      rw [h1, List.append_assoc, tl_len p, List.drop_left]
end

section
open PySem.StrLaws PySem.Builtin PySem.Builtin.Str
noncomputable abbrev dots3 : Str := Str.ofString "..."
theorem tl_dots : tl dots3 = dotL := by decide +kernel
theorem dots_len : dots3.length = 3 := by decide +kernel
/-- the pieces, three dots between -/
noncomputable def interc : List (List Nat) → List Nat
  | [] => []
  | [p] => p
  | p :: q :: r => p ++ dotL ++ interc (q :: r)
noncomputable def cutsOf : Nat → List Str → List Nat
  | _, [] => []
  | _, [_] => []
  | a, p :: q :: r => (a + p.length) :: cutsOf (a + p.length + 3) (q :: r)
theorem not_at {W : Str} {a k : Nat} {p : Str} {u : List Nat} (hf : 46 ∉ tl p) (e : (tl W).drop a = tl p ++ u) (h1 : a ≤ k) (h2 : k < a + p.length) : ¬ At W dots3 W.length k := fun hA => by
  obtain ⟨_, t, ht⟩ := (at_iff (Nat.le_refl _)).mp hA
  rw [tl_dots] at ht
  have e2 : (tl W).drop k = (tl p).drop (k - a) ++ u := by
    have := congrArg (List.drop (k - a)) e
    rw [List.drop_drop, show a + (k - a) = k by omega, List.drop_append_of_le_length (by rw [← tl_len]; omega)] at this
    exact this
  rw [ht] at e2
  cases hd : (tl p).drop (k - a) with
  | nil =>
    have := congrArg List.length hd
    rw [List.length_drop, ← tl_len] at this
    simp at this
    omega
  | cons c r =>
    rw [hd] at e2
    have hc : c = 46 := by
      have := congrArg List.head? e2
      simpa using this.symm
    exact hf (by
      have : c ∈ (tl p).drop (k - a) := by rw [hd]; exact .head _
      rw [← hc]
      exact List.mem_of_mem_drop this)
theorem cuts_chain {W : Str} : ∀ {P : List Str} {a : Nat}, P ≠ [] → (∀ p ∈ P, 46 ∉ tl p) → (tl W).drop a = interc (P.map tl) → a ≤ W.length → ∃ f, ChainG W dots3 W.length a (cutsOf a P) f ∧ ∀ k, f ≤ k → ¬ At W dots3 W.length k
  | [], _, h, _, _, _ => absurd rfl h
  | [p], a, _, hf, e, ha => by
    have e' : (tl W).drop a = tl p ++ [] := by rw [e]; simp [interc]
    refine ⟨a, rfl, fun k hk hA => ?_⟩
    refine not_at (hf p (.head _)) e' hk ?_ hA
    have h1 := hA.1
    rw [dots_len] at h1
    have := congrArg List.length e'
    simp only [List.length_drop, List.append_nil] at this
    rw [← tl_len, ← tl_len] at this
    omega
  | p :: q :: r, a, _, hf, e, ha => by
    have e' : (tl W).drop a = tl p ++ (dotL ++ interc ((q :: r).map tl)) := by rw [e]; simp [interc]
    have e2 : (tl W).drop (a + p.length) = dotL ++ interc ((q :: r).map tl) := drop_add' e' (tl_len p).symm
    have e3 : (tl W).drop (a + p.length + 3) = interc ((q :: r).map tl) := drop_add' e2 rfl
    have hl := congrArg List.length e2
    simp only [List.length_drop, List.length_append] at hl
    rw [← tl_len] at hl
    have hl3 : dotL.length = 3 := rfl
    have hle : a + p.length + 3 ≤ W.length := by omega
    obtain ⟨f, h1, h2⟩ := cuts_chain (P := q :: r) (by simp) (fun z hz => hf z (.tail _ hz)) e3 hle
    refine ⟨f, ⟨Nat.le_add_right _ _, (at_iff (Nat.le_refl _)).mpr ⟨by rw [dots_len]; exact hle, _, by rw [tl_dots]; exact e2⟩, fun k hk1 hk2 => not_at (hf p (.head _)) e' hk1 hk2, ?_⟩, h2⟩
    rw [dots_len]
    exact h1
theorem chain_unique {x y : Str} {hi : Nat} : ∀ {c1 c2 : List Nat} {a f1 f2 : Nat}, ChainG x y hi a c1 f1 → (∀ k, f1 ≤ k → ¬ At x y hi k) → ChainG x y hi a c2 f2 → (∀ k, f2 ≤ k → ¬ At x y hi k) → c1 = c2
  | [], [], _, _, _, _, _, _, _ => rfl
  | [], c :: r, a, f1, f2, h1, n1, h2, _ => by
    have e : f1 = a := h1
    exact absurd h2.2.1 (n1 c (by rw [e]; exact h2.1))
  | c :: r, [], a, f1, f2, h1, _, h2, n2 => by
    have e : f2 = a := h2
    exact absurd h1.2.1 (n2 c (by rw [e]; exact h1.1))
  | c :: r, c' :: r', a, f1, f2, h1, n1, h2, n2 => by
    have e : c = c' := by
      have a1 : ¬ c < c' := fun q => h2.2.2.1 c h1.1 q h1.2.1
      have a2 : ¬ c' < c := fun q => h1.2.2.1 c' h2.1 q h2.2.1
      omega
    subst e
    rw [chain_unique h1.2.2.2 n1 h2.2.2.2 n2]
theorem cuts_parts {W : Str} : ∀ {P : List Str} {a : Nat}, P ≠ [] → (tl W).drop a = interc (P.map tl) → partsFrom W 3 a (cutsOf a P) = P
  | [], _, h, _ => absurd rfl h
  | [p], a, _, e => by
    show [strSub W a W.length] = [p]
    congr 1
    apply tl_inj
    show (strSub W a W.length).cps.toList = _
    rw [strSub_toList, show (List.drop a W.cps.toList) = tl p from e]
    apply List.take_of_length_le
    have := congrArg List.length e
    rw [List.length_drop, ← tl_len] at this
    rw [this]; exact Nat.le_refl _
  | p :: q :: r, a, _, e => by
    have e' : (tl W).drop a = tl p ++ (dotL ++ interc ((q :: r).map tl)) := by rw [e]; simp [interc]
    have e2 : (tl W).drop (a + p.length) = dotL ++ interc ((q :: r).map tl) := drop_add' e' (tl_len p).symm
    have e3 : (tl W).drop (a + p.length + 3) = interc ((q :: r).map tl) := drop_add' e2 rfl
    show strSub W a (a + p.length) :: partsFrom W 3 (a + p.length + 3) (cutsOf (a + p.length + 3) (q :: r)) = _
    rw [cuts_parts (P := q :: r) (by simp) e3]
    congr 1
    apply tl_inj
    show (strSub W a _).cps.toList = _
    rw [strSub_toList, show (List.drop a W.cps.toList) = _ from e', show a + p.length - a = (tl p).length by rw [← tl_len]; omega, List.take_left]
theorem kind_ge (x : Str) : 1 ≤ PySem.Builtin.Str.strKind x := by
  unfold PySem.Builtin.Str.strKind
  split
  · exact Nat.le_refl _
  · split <;> omega
theorem kind_dots : PySem.Builtin.Str.strKind dots3 = 1 := by decide +kernel
theorem occ_cuts {W : Str} {P : List Str} (hP : P ≠ []) (hf : ∀ p ∈ P, 46 ∉ tl p) (e : tl W = interc (P.map tl)) : occurrences W dots3 0 W.length (W.length + 1) = cutsOf 0 P := by
  obtain ⟨f, h1, h2⟩ := occ_tight W dots3 (by rw [dots_len]; omega)
  obtain ⟨f', h3, h4⟩ := cuts_chain (a := 0) hP hf (by rw [List.drop_zero]; exact e) (Nat.zero_le _)
  exact chain_unique h1 h2 h3 h4
theorem split_interc {W : Str} {P : List Str} (hP : P ≠ []) (hf : ∀ p ∈ P, 46 ∉ tl p) (e : tl W = interc (P.map tl)) : Txt.split W dots3 = P := by
  have one : ∀ p, P = [p] → [W] = P := fun p h => by
    subst h
    congr 1
    exact tl_inj e
  have two : cutsOf 0 P = [] → ∃ p, P = [p] := fun h => by
    cases P with
    | nil => exact absurd rfl hP
    | cons p r =>
      cases r with
      | nil => exact ⟨p, rfl⟩
      | cons q r => cases h
  have ho := occ_cuts hP hf e
  unfold Txt.split
  split
  · rename_i h
    have hl : W.length < 3 := by
      rw [Bool.or_eq_true, decide_eq_true_eq, decide_eq_true_eq, dots_len, kind_dots] at h
      have := kind_ge W
      omega
    have : cutsOf 0 P = [] := by
      cases hc : cutsOf 0 P with
      | nil => rfl
      | cons c r =>
        obtain ⟨f, h1, _⟩ := occ_tight W dots3 (by rw [dots_len]; omega)
        rw [ho, hc] at h1
        have := h1.2.1.1
        rw [dots_len] at this
        omega
    obtain ⟨p, hp⟩ := two this
    exact one p hp
  · split
    · rename_i h
      rw [ho] at h
      obtain ⟨p, hp⟩ := two (by simpa using h)
      exact one p hp
    · rw [ho, partsBetween_eq, dots_len]
      exact cuts_parts hP (by rw [List.drop_zero]; exact e)
theorem contains_interc {W : Str} {P : List Str} (hP : P ≠ []) (hf : ∀ p ∈ P, 46 ∉ tl p) (e : tl W = interc (P.map tl)) : Txt.contains W dots3 = decide (2 ≤ P.length) := by
  unfold Txt.contains
  rw [Bool.eq_iff_iff, found_iff, decide_eq_true_eq]
  obtain ⟨f, h3, h4⟩ := cuts_chain (a := 0) hP hf (by rw [List.drop_zero]; exact e) (Nat.zero_le _)
  cases P with
  | nil => exact absurd rfl hP
  | cons p r =>
    cases r with
    | nil =>
      have ef : f = 0 := h3
      exact ⟨fun ⟨i, h⟩ => absurd h (h4 i (by omega)), fun h => by simp at h⟩
    | cons q r => exact ⟨fun _ => by simp, fun _ => ⟨_, h3.2.1⟩⟩
end

/-- the chunks ahead of k, cut where f holds: the pieces but the last, and the chunks of the last -/
noncomputable def grp (cs : List (Str × Str)) (f : Nat → Bool) : Nat → List Str × List (Str × Str)
  | 0 => ([], [])
  | k + 1 => if f k then ((grp cs f k).1 ++ [textOf (grp cs f k).2], [cs.getD k ("", "")]) else ((grp cs f k).1, (grp cs f k).2 ++ [cs.getD k ("", "")])
noncomputable def pcs (cs : List (Str × Str)) (f : Nat → Bool) (k : Nat) : List Str := (grp cs f k).1 ++ [textOf (grp cs f k).2]
theorem grp_succ (cs : List (Str × Str)) (f : Nat → Bool) (k : Nat) : grp cs f (k + 1) = if f k then ((grp cs f k).1 ++ [textOf (grp cs f k).2], [cs.getD k ("", "")]) else ((grp cs f k).1, (grp cs f k).2 ++ [cs.getD k ("", "")]) := rfl
theorem pcs_ne (cs : List (Str × Str)) (f : Nat → Bool) (k : Nat) : pcs cs f k ≠ [] := by unfold pcs; simp
theorem tl_text (cs : List (Str × Str)) : tl (textOf cs) = cs.flatMap chL := textOf_toList cs
theorem tl_app (x y : Str) : tl (x ++ y) = tl x ++ tl y := by
  show (x.cps ++ y.cps).toList = _
  rw [Array.toList_append]
theorem pcs_t {cs : List (Str × Str)} {f : Nat → Bool} {k : Nat} (h : f k = true) : (pcs cs f (k + 1)).map tl = (pcs cs f k).map tl ++ [chL (cs.getD k ("", ""))] := by
  unfold pcs
  rw [show grp cs f (k + 1) = ((grp cs f k).1 ++ [textOf (grp cs f k).2], [cs.getD k ("", "")]) by rw [grp_succ, if_pos h]]
  simp [tl_text]
theorem pcs_f {cs : List (Str × Str)} {f : Nat → Bool} {k : Nat} (h : ¬ f k = true) : ∃ P c, (pcs cs f k).map tl = P ++ [c] ∧ (pcs cs f (k + 1)).map tl = P ++ [c ++ chL (cs.getD k ("", ""))] := by
  unfold pcs
  rw [show grp cs f (k + 1) = ((grp cs f k).1, (grp cs f k).2 ++ [cs.getD k ("", "")]) by rw [grp_succ, if_neg h]]
  refine ⟨(grp cs f k).1.map tl, tl (textOf (grp cs f k).2), by simp, ?_⟩
  simp only [List.map_append, List.map_cons, List.map_nil, tl_text, List.flatMap_append, List.flatMap_cons, List.flatMap_nil, List.append_nil]
theorem plain_t {cs : List (Str × Str)} {f : Nat → Bool} {k : Nat} (h : f k = true) : tl (plainT cs f (k + 1)) = tl (plainT cs f k) ++ dotL ++ chL (cs.getD k ("", "")) := by
  rw [plainT_t h rfl, tl_app, tl_app, tl_app]
  rw [show tl (Str.ofString "...") = dotL from tl_dots]
theorem plain_f {cs : List (Str × Str)} {f : Nat → Bool} {k : Nat} (h : ¬ f k = true) : tl (plainT cs f (k + 1)) = tl (plainT cs f k) ++ chL (cs.getD k ("", "")) := by
  rw [plainT_f h rfl, tl_app, tl_app]
theorem interc_next {d : List Nat} : ∀ {P : List (List Nat)}, P ≠ [] → interc (P ++ [d]) = interc P ++ dotL ++ d
  | [], h => absurd rfl h
  | [p], _ => rfl
  | p :: q :: r, _ => by
    show p ++ dotL ++ interc ((q :: r) ++ [d]) = p ++ dotL ++ interc (q :: r) ++ dotL ++ d
    rw [interc_next (P := q :: r) (by simp)]
    simp only [List.append_assoc]
theorem interc_grow {c d : List Nat} : ∀ {P : List (List Nat)}, interc (P ++ [c ++ d]) = interc (P ++ [c]) ++ d
  | [] => rfl
  | [p] => by
    show p ++ dotL ++ (c ++ d) = p ++ dotL ++ c ++ d
    simp only [List.append_assoc]
  | p :: q :: r => by
    show p ++ dotL ++ interc ((q :: r) ++ [c ++ d]) = p ++ dotL ++ interc ((q :: r) ++ [c]) ++ d
    rw [interc_grow (P := q :: r)]
    simp only [List.append_assoc]
theorem tl_empty : tl (Str.ofString "") = [] := by decide +kernel
theorem tl_text_nil : tl (textOf []) = [] := by rw [tl_text]; rfl
/-- the text is the pieces with three dots between -/
theorem plain_interc (cs : List (Str × Str)) (f : Nat → Bool) : ∀ k, tl (plainT cs f k) = interc ((pcs cs f k).map tl)
  | 0 => by
    show tl (Str.ofString "") = interc [tl (textOf [])]
    rw [tl_empty, tl_text_nil]; rfl
  | k + 1 => by
    by_cases h : f k = true
    · rw [plain_t h, pcs_t h, interc_next (by simpa using pcs_ne cs f k), plain_interc cs f k]
    · obtain ⟨P, c, e1, e2⟩ := pcs_f (cs := cs) h
      rw [plain_f h, e2, interc_grow, ← e1, plain_interc cs f k]
/-- more folds take fewer -/
theorem lays_plain {cs : List (Str × Str)} {f g : Nat → Bool} : ∀ {k : Nat}, (∀ j, j < k → g j = true → f j = true) → Lays ((pcs cs f k).map tl) (tl (plainT cs g k))
  | 0, _ => by
    show Lays [tl (textOf [])] (tl (Str.ofString ""))
    rw [tl_empty, tl_text_nil]; rfl
  | k + 1, h => by
    have ih := lays_plain (cs := cs) (f := f) (g := g) (k := k) fun j hj => h j (by omega)
    by_cases hg : g k = true
    · rw [plain_t hg, pcs_t (h k (Nat.lt_succ_self _) hg)]
      unfold pcs at ih ⊢
      simp only [List.map_append, List.map_cons, List.map_nil] at ih ⊢
      exact lays_next ih
    · rw [plain_f hg]
      by_cases hf : f k = true
      · rw [pcs_t hf]
        unfold pcs at ih ⊢
        simp only [List.map_append, List.map_cons, List.map_nil] at ih ⊢
        have := lays_next (s := []) (d := chL (cs.getD k ("", ""))) ih
        rw [List.append_nil] at this
        exact this
      · obtain ⟨P, c, e1, e2⟩ := pcs_f (cs := cs) hf
        rw [e2]
        rw [e1] at ih
        exact lays_grow ih
theorem bounds_grow {c d : List Nat} : ∀ {P : List (List Nat)} {n : Nat}, bounds (P ++ [c ++ d]) n = bounds (P ++ [c]) n
  | [], _ => rfl
  | [p], _ => rfl
  | p :: q :: r, n => by
    show (n + p.length) :: bounds ((q :: r) ++ [c ++ d]) _ = (n + p.length) :: bounds ((q :: r) ++ [c]) _
    rw [bounds_grow (P := q :: r)]
theorem bounds_next {d : List Nat} : ∀ {P : List (List Nat)} {n : Nat}, P ≠ [] → bounds (P ++ [d]) n = bounds P n ++ [n + (P.map (·.length)).sum]
  | [], _, h => absurd rfl h
  | [p], n, _ => by simp [bounds]
  | p :: q :: r, n, _ => by
    show (n + p.length) :: bounds ((q :: r) ++ [d]) _ = (n + p.length) :: bounds (q :: r) _ ++ _
    rw [bounds_next (P := q :: r) (by simp)]
    simp only [List.map_cons, List.sum_cons, List.cons_append, Nat.add_assoc]
theorem word_nodot : ∀ v ∈ wordsL, ∀ c ∈ v.cps.toList, c ∈ [97, 98] := by decide +kernel
theorem gap_nodot : ∀ v ∈ gapsL, ∀ c ∈ v.cps.toList, c ∈ [9, 32] := by decide +kernel
theorem OkCh.sign {c : Str × Str} (h : OkCh c) : ∀ a ∈ chL c, a ∈ [9, 32, 97, 98] := fun a ha => by
  rcases List.mem_append.mp ha with q | q
  · have := gap_nodot _ h.1 a q
    simp only [List.mem_cons, List.not_mem_nil, or_false] at this ⊢
    omega
  · have := word_nodot _ h.2 a q
    simp only [List.mem_cons, List.not_mem_nil, or_false] at this ⊢
    omega
theorem OkCh.nodot {c : Str × Str} (h : OkCh c) : 46 ∉ chL c := fun ha => by
  have := h.sign _ ha
  simp at this
/-- how many signs stand ahead of chunk k -/
noncomputable def off (cs : List (Str × Str)) (k : Nat) : Nat := sizeOf' (cs.take k)
theorem chL_len (c : Str × Str) : (chL c).length = c.1.length + c.2.length := by
  rw [List.length_append, ← len_toList, ← len_toList]
theorem off_succ {cs : List (Str × Str)} {k : Nat} (h : k < cs.length) : off cs (k + 1) = off cs k + (chL (cs.getD k ("", ""))).length := by
  unfold off sizeOf'
  rw [List.take_add_one, List.getElem?_eq_getElem h, Option.toList, List.map_append, List.sum_append, chL_len, List.getD_eq_getElem?_getD, List.getElem?_eq_getElem h]
  simp
section
variable {cs : List (Str × Str)} (hok : ∀ c ∈ cs, OkCh c)
include hok
theorem getD_ok {k : Nat} (h : k < cs.length) : OkCh (cs.getD k ("", "")) := by
  rw [List.getD_eq_getElem?_getD, List.getElem?_eq_getElem h]
  exact hok _ (List.getElem_mem h)
theorem pcs_nodot (f : Nat → Bool) : ∀ {k : Nat}, k ≤ cs.length → ∀ p ∈ (pcs cs f k).map tl, 46 ∉ p
  | 0, _, p, hp => by
    have : p = tl (textOf []) := by simpa [pcs, grp] using hp
    rw [this, tl_text_nil]; simp
  | k + 1, h, p, hp => by
    have ih := pcs_nodot f (k := k) (by omega)
    have hc := (getD_ok hok (k := k) (by omega)).nodot
    by_cases hf : f k = true
    · rw [pcs_t hf] at hp
      rcases List.mem_append.mp hp with q | q
      · exact ih p q
      · rw [List.mem_singleton.mp q]; exact hc
    · obtain ⟨P, c, e1, e2⟩ := pcs_f (cs := cs) hf
      rw [e2] at hp
      rw [e1] at ih
      rcases List.mem_append.mp hp with q | q
      · exact ih p (List.mem_append.mpr (.inl q))
      · rw [List.mem_singleton.mp q]
        intro hm
        rcases List.mem_append.mp hm with z | z
        · exact ih c (by simp) z
        · exact hc z
omit hok in
theorem pcs_sum (f : Nat → Bool) : ∀ {k : Nat}, k ≤ cs.length → (((pcs cs f k).map tl).map (·.length)).sum = off cs k
  | 0, _ => by
    show ([tl (textOf [])].map (·.length)).sum = _
    rw [tl_text_nil]; rfl
  | k + 1, h => by
    have ih := pcs_sum f (k := k) (by omega)
    rw [off_succ (by omega), ← ih]
    by_cases hf : f k = true
    · rw [pcs_t hf]; simp [List.sum_append]
    · obtain ⟨P, c, e1, e2⟩ := pcs_f (cs := cs) hf
      rw [e2, e1]
      simp [List.sum_append]
      omega
theorem plain_nd (g : Nat → Bool) : ∀ {k : Nat}, k ≤ cs.length → nd (tl (plainT cs g k)) = off cs k
  | 0, _ => by
    show nd (tl (Str.ofString "")) = _
    rw [tl_empty]; rfl
  | k + 1, h => by
    have ih := plain_nd g (k := k) (by omega)
    rw [off_succ (by omega), ← ih, ← nd_free (getD_ok hok (k := k) (by omega)).nodot]
    by_cases hg : g k = true
    · rw [plain_t hg, nd_append, nd_append]
      show _ + 0 + _ = _
      rw [Nat.add_zero]
    · rw [plain_f hg, nd_append]
theorem plain_offs (g : Nat → Bool) : ∀ {k : Nat}, k ≤ cs.length → ∀ j, j < k → g j = true → off cs j ∈ dotOffs (tl (plainT cs g k)) 0
  | 0, _, j, hj, _ => absurd hj (Nat.not_lt_zero _)
  | k + 1, h, j, hj, hg => by
    by_cases e : j = k
    · subst e
      rw [plain_t hg, dotOffs_append, dotOffs_append, plain_nd hok g (by omega), Nat.zero_add]
      refine List.mem_append.mpr (.inl (List.mem_append.mpr (.inr ?_)))
      show _ ∈ [_, _, _]
      exact .head _
    · have ih := plain_offs g (k := k) (by omega) j (by omega) hg
      by_cases hk : g k = true
      · rw [plain_t hk, dotOffs_append, dotOffs_append]
        exact List.mem_append.mpr (.inl (List.mem_append.mpr (.inl ih)))
      · rw [plain_f hk, dotOffs_append]
        exact List.mem_append.mpr (.inl ih)
omit hok in
theorem pcs_bounds (f : Nat → Bool) : ∀ {k : Nat}, k ≤ cs.length → ∀ o ∈ bounds ((pcs cs f k).map tl) 0, ∃ j, j < k ∧ f j = true ∧ o = off cs j
  | 0, _, o, ho => nomatch ho
  | k + 1, h, o, ho => by
    have ih := pcs_bounds f (k := k) (by omega)
    by_cases hf : f k = true
    · rw [pcs_t hf, bounds_next (by simpa using pcs_ne cs f k), pcs_sum f (by omega), Nat.zero_add] at ho
      rcases List.mem_append.mp ho with q | q
      · obtain ⟨j, h1, h2⟩ := ih o q
        exact ⟨j, by omega, h2⟩
      · exact ⟨k, Nat.lt_succ_self _, hf, List.mem_singleton.mp q⟩
    · obtain ⟨P, c, e1, e2⟩ := pcs_f (cs := cs) hf
      rw [e2, bounds_grow, ← e1] at ho
      obtain ⟨j, h1, h2⟩ := ih o ho
      exact ⟨j, by omega, h2⟩
theorem off_lt : ∀ {b : Nat}, b ≤ cs.length → ∀ {a : Nat}, a < b → off cs a < off cs b
  | 0, _, _, h => absurd h (Nat.not_lt_zero _)
  | b + 1, hb, a, h => by
    have hc := (getD_ok hok (k := b) (by omega)).wpos
    have e := off_succ (cs := cs) (k := b) (by omega)
    rw [chL_len] at e
    by_cases e2 : a = b
    · subst e2; omega
    · have := off_lt (b := b) (by omega) (a := a) (by omega)
      omega
theorem off_inj {a b : Nat} (ha : a ≤ cs.length) (hb : b ≤ cs.length) (h : off cs a = off cs b) : a = b := by
  rcases Nat.lt_trichotomy a b with q | q | q
  · have := off_lt hok hb q; omega
  · exact q
  · have := off_lt hok ha q; omega
/-- a want takes a text if and only if the text's folds are among its own -/
theorem lays_iff {f g : Nat → Bool} {k : Nat} (hk : k ≤ cs.length) : Lays ((pcs cs f k).map tl) (tl (plainT cs g k)) ↔ ∀ j, j < k → g j = true → f j = true := by
  refine ⟨fun h j hj hg => ?_, lays_plain⟩
  have h1 := plain_offs hok g hk j hj hg
  have h2 := lays_bounds (pcs_nodot hok f hk) h (by rw [plain_nd hok g hk, pcs_sum f hk]) _ h1
  obtain ⟨i, h3, h4, h5⟩ := pcs_bounds f hk _ h2
  rw [off_inj hok (a := j) (b := i) (by omega) (by omega) h5]
  exact h4
end

theorem sz_app (a b : List (Str × Str)) : sizeOf' (a ++ b) = sizeOf' a + sizeOf' b := by
  unfold sizeOf'
  rw [List.map_append, List.sum_append]
theorem cutAt_pre {cs : List (Str × Str)} (h : ∀ j, 0 < j → isBl (cs.getD j ("", "")).1 = false) (n : Nat) : cutAt cs n = none := cutAt_none fun j h1 _ => h j h1
/-- a row and the next group of chunks: a row of its own, or on the same row -/
noncomputable def rowOf (wd : Int) (ls : List Str) (line seg : List (Str × Str)) : List Str × List (Str × Str) :=
  if line ≠ [] ∧ wd < (sizeOf' (line ++ seg) : Nat) then (ls ++ [textOf line], seg) else (ls, line ++ seg)
theorem lay1_head {wd : Int} {ls : List Str} {line : List (Str × Str)} {c : Str × Str} (hb : line ≠ [] → isBl c.1 = true) : lay1 wd (ls, line) c = rowOf wd ls line [c] := by
  unfold rowOf
  by_cases hl : line = []
  · subst hl
    rw [if_neg (by simp)]
    exact lay1_none (cutAt_pre (fun j hj => by
      rw [List.getD_eq_getElem?_getD, List.getElem?_eq_none (by simp only [List.nil_append, List.length_cons, List.length_nil]; omega)]; decide) _)
  · by_cases hw : wd < (sizeOf' (line ++ [c]) : Nat)
    · rw [if_pos ⟨hl, hw⟩]
      obtain ⟨m, hm⟩ : ∃ m, line.length = m + 1 := ⟨line.length - 1, by have := List.length_pos_iff.mpr hl; omega⟩
      have hc : cutAt (line ++ [c]) line.length = some line.length := by
        rw [hm]
        unfold cutAt
        rw [if_pos]
        rw [← hm, List.getD_eq_getElem?_getD, List.getElem?_append_right (Nat.le_refl _), Nat.sub_self]
        exact hb hl
      rw [lay1_cut hw hc, List.take_left, List.drop_left]
    · rw [if_neg (fun h => hw h.2)]
      exact lay1_fit hw
theorem lay1_tab {wd : Int} {ls : List Str} {line seg : List (Str × Str)} {c0 d : Str × Str} (hb : line ≠ [] → isBl c0.1 = true) (ht : ∀ x ∈ seg, isBl x.1 = false) (hd : isBl d.1 = false) :
    lay1 wd (rowOf wd ls line (c0 :: seg)) d = rowOf wd ls line (c0 :: seg ++ [d]) := by
  have noB : ∀ j, 0 < j → isBl ((c0 :: seg ++ [d]).getD j ("", "")).1 = false := fun j hj => by
    obtain ⟨i, rfl⟩ : ∃ i, j = i + 1 := ⟨j - 1, by omega⟩
    rw [List.getD_eq_getElem?_getD, List.cons_append, List.getElem?_cons_succ]
    cases e : (seg ++ [d])[i]? with
    | none => decide
    | some x =>
      have := List.mem_of_getElem? e
      rcases List.mem_append.mp this with q | q
      · exact ht x q
      · rw [List.mem_singleton.mp q]; exact hd
  have hs : sizeOf' (line ++ (c0 :: seg ++ [d])) = sizeOf' (line ++ c0 :: seg) + sizeOf' [d] := by
    rw [← List.append_assoc, sz_app]
  unfold rowOf
  by_cases h1 : line ≠ [] ∧ wd < (sizeOf' (line ++ c0 :: seg) : Nat)
  · rw [if_pos h1, if_pos ⟨h1.1, by rw [hs]; omega⟩]
    exact lay1_none (cutAt_pre noB _)
  · rw [if_neg h1]
    by_cases hl : line = []
    · subst hl
      rw [if_neg (by simp)]
      exact lay1_none (cutAt_pre noB _)
    · by_cases hw : wd < (sizeOf' (line ++ (c0 :: seg ++ [d])) : Nat)
      · rw [if_pos ⟨hl, hw⟩]
        obtain ⟨m, hm⟩ : ∃ m, line.length = m + 1 := ⟨line.length - 1, by have := List.length_pos_iff.mpr hl; omega⟩
        have hc : cutAt (line ++ c0 :: seg ++ [d]) (line ++ c0 :: seg).length = some (m + 1) := by
          refine cutAt_some (by simp; omega) ?_ fun j hj _ => ?_
          · rw [← hm, List.append_assoc, List.getD_eq_getElem?_getD, List.getElem?_append_right (Nat.le_refl _), Nat.sub_self]
            exact hb hl
          · rw [List.append_assoc, List.getD_eq_getElem?_getD, List.getElem?_append_right (by omega), ← List.getD_eq_getElem?_getD]
            exact noB _ (by omega)
        rw [lay1_cut (by rw [List.append_assoc]; exact hw) hc, ← hm, List.append_assoc, List.take_left, List.drop_left]
      · rw [if_neg (fun h => hw h.2), lay1_fit (by rw [List.append_assoc]; exact hw), List.append_assoc]
theorem lay_seg {wd : Int} {ls : List Str} {line : List (Str × Str)} {c0 : Str × Str} (hb : line ≠ [] → isBl c0.1 = true) : ∀ {seg : List (Str × Str)}, (∀ x ∈ seg, isBl x.1 = false) → (c0 :: seg).foldl (lay1 wd) (ls, line) = rowOf wd ls line (c0 :: seg) := by
  intro seg
  have key : ∀ (b a : List (Str × Str)), (∀ x ∈ a, isBl x.1 = false) → (∀ x ∈ b, isBl x.1 = false) → b.foldl (lay1 wd) (rowOf wd ls line (c0 :: a)) = rowOf wd ls line (c0 :: (a ++ b)) := by
    intro b
    induction b with
    | nil => intro a _ _; rw [List.append_nil]; rfl
    | cons d b ih =>
      intro a ha h
      rw [List.foldl_cons, lay1_tab hb ha (h d (.head _)), List.cons_append, ih (a ++ [d]) (fun x hx => ?_) fun x hx => h x (.tail _ hx), List.append_assoc, List.singleton_append]
      rcases List.mem_append.mp hx with q | q
      · exact ha x q
      · rw [List.mem_singleton.mp q]; exact h d (.head _)
  intro h
  rw [List.foldl_cons, lay1_head hb]
  exact key seg [] (fun _ q => nomatch q) h

/-- how many chunks at the head begin with a tab -/
noncomputable def tabs : List (Str × Str) → Nat
  | [] => 0
  | c :: r => if c.1 == Str.ofString "\t" then tabs r + 1 else 0
noncomputable def segEnd (cs : List (Str × Str)) (k : Nat) : Nat := k + 1 + tabs (cs.drop (k + 1))
theorem tabs_le : ∀ (l : List (Str × Str)), tabs l ≤ l.length
  | [] => Nat.le_refl _
  | c :: r => by
    unfold tabs
    split
    · have := tabs_le r; simp; omega
    · exact Nat.zero_le _
theorem tabs_take : ∀ (l : List (Str × Str)), ∀ x ∈ l.take (tabs l), x.1 = Str.ofString "\t"
  | [], x, h => nomatch h
  | c :: r, x, h => by
    unfold tabs at h
    split at h
    · rename_i e
      rcases List.mem_cons.mp h with q | q
      · rw [q]; exact eq_of_beq e
      · exact tabs_take r x q
    · cases h
theorem tabs_stop : ∀ (l : List (Str × Str)), ∀ c, l[tabs l]? = some c → ¬ c.1 = Str.ofString "\t"
  | [], c, h => nomatch h
  | d :: r, c, h => by
    unfold tabs at h
    split at h
    · exact tabs_stop r c h
    · rename_i e
      cases h
      exact fun q => e (beq_iff_eq.mpr q)
theorem segEnd_le {cs : List (Str × Str)} {k : Nat} (h : k < cs.length) : segEnd cs k ≤ cs.length := by
  have := tabs_le (cs.drop (k + 1))
  rw [List.length_drop] at this
  unfold segEnd; omega
theorem segEnd_gt {cs : List (Str × Str)} {k : Nat} : k < segEnd cs k := by unfold segEnd; omega
/-- where the walk over the tabs ends -/
theorem segEnd_of {cs : List (Str × Str)} {k e : Nat} (h1 : k + 1 ≤ e) (h2 : ∀ j c, k + 1 ≤ j → j < e → cs[j]? = some c → c.1 = Str.ofString "\t") (hl : e ≤ cs.length) (h3 : ∀ c, cs[e]? = some c → ¬ c.1 = Str.ofString "\t") : e = segEnd cs k := by
  unfold segEnd
  have key : ∀ (n : Nat) (l : List (Str × Str)), (∀ j c, j < n → l[j]? = some c → c.1 = Str.ofString "\t") → n ≤ l.length → (∀ c, l[n]? = some c → ¬ c.1 = Str.ofString "\t") → n = tabs l := by
    intro n
    induction n with
    | zero =>
      intro l _ _ h
      cases l with
      | nil => rfl
      | cons c r =>
        unfold tabs
        rw [if_neg]
        rw [beq_iff_eq]
        exact h c rfl
    | succ n ih =>
      intro l ha hl h
      cases l with
      | nil => simp at hl
      | cons c r =>
        unfold tabs
        rw [if_pos (beq_iff_eq.mpr (ha 0 c (Nat.succ_pos _) rfl))]
        rw [← ih r (fun j c' hj e => ha (j + 1) c' (by omega) e) (by simpa using hl) fun c' e => h c' e]
  have := key (e - (k + 1)) (cs.drop (k + 1)) (fun j c hj e2 => h2 (k + 1 + j) c (by omega) (by omega) (by rwa [List.getElem?_drop] at e2)) (by rw [List.length_drop]; omega) (fun c e2 => h3 c (by rw [List.getElem?_drop, show k + 1 + (e - (k + 1)) = e by omega] at e2; exact e2))
  omega
/-- one turn of _law_folds: the next chunk, the row's size, the folds -/
noncomputable def fstep (cs : List (Str × Str)) (wd : Int) (st : Nat × Nat × List Nat) : Nat × Nat × List Nat :=
  if 0 < st.2.1 ∧ wd < (st.2.1 + sizeOf' ((cs.take (segEnd cs st.1)).drop st.1) : Nat) then (segEnd cs st.1, sizeOf' ((cs.take (segEnd cs st.1)).drop st.1), insS st.1 st.2.2)
  else (segEnd cs st.1, st.2.1 + sizeOf' ((cs.take (segEnd cs st.1)).drop st.1), st.2.2)
noncomputable def frun (cs : List (Str × Str)) (wd : Int) : Nat → Nat × Nat × List Nat → List Nat
  | 0, st => st.2.2
  | n + 1, st => if st.1 < cs.length then frun cs wd n (fstep cs wd st) else st.2.2
noncomputable def foldsOf (cs : List (Str × Str)) (wd : Int) : List Nat := frun cs wd cs.length (0, 0, [])

theorem part_succ {cs : List (Str × Str)} {k e : Nat} (hk : k ≤ e) (he : e < cs.length) : (cs.take (e + 1)).drop k = (cs.take e).drop k ++ [cs.getD e ("", "")] := by
  rw [List.take_add_one, List.getElem?_eq_getElem he, Option.toList, List.drop_append_of_le_length (by rw [List.length_take]; omega), List.getD_eq_getElem?_getD, List.getElem?_eq_getElem he]
  rfl
theorem grp_ext {cs : List (Str × Str)} {f g : Nat → Bool} : ∀ {k : Nat}, (∀ j, j < k → f j = g j) → grp cs f k = grp cs g k
  | 0, _ => rfl
  | k + 1, h => by
    rw [grp_succ, grp_succ, grp_ext (k := k) fun j hj => h j (by omega), h k (Nat.lt_succ_self _)]
theorem grp_seg {cs : List (Str × Str)} {f : Nat → Bool} {k : Nat} : ∀ {i : Nat}, k + 1 + i ≤ cs.length → (∀ j, k < j → j < k + 1 + i → f j = false) →
    grp cs f (k + 1 + i) = if f k then ((grp cs f k).1 ++ [textOf (grp cs f k).2], (cs.take (k + 1 + i)).drop k) else ((grp cs f k).1, (grp cs f k).2 ++ (cs.take (k + 1 + i)).drop k)
  | 0, hl, _ => by
    rw [Nat.add_zero, part_succ (Nat.le_refl _) (by omega)]
    rw [show (cs.take k).drop k = [] by rw [List.drop_eq_nil_iff, List.length_take]; omega, List.nil_append]
    rw [grp_succ]
  | i + 1, hl, h => by
    have ih := grp_seg (cs := cs) (f := f) (k := k) (i := i) (by omega) fun j h1 h2 => h j h1 (by omega)
    rw [← Nat.add_assoc, part_succ (by omega) (by omega)]
    rw [grp_succ, h (k + 1 + i) (by omega) (by omega), if_neg Bool.false_ne_true, ih]
    cases f k
    · simp [List.append_assoc]
    · simp
theorem take_seg {cs : List (Str × Str)} {k e : Nat} (hk : k ≤ e) : cs.take e = cs.take k ++ (cs.take e).drop k := by
  have := (List.take_append_drop k (cs.take e)).symm
  rw [List.take_take, Nat.min_eq_left hk] at this
  exact this
theorem blank_gap : ∀ x ∈ gapsL, x ≠ Str.ofString "" → x ≠ Str.ofString "\t" → isBl x = true := by decide +kernel
theorem tab_gap : isBl (Str.ofString "\t") = false := by decide +kernel
/-- what holds between the turns of _law_folds, of the rows that the maker laid -/
structure FInv (cs : List (Str × Str)) (wd : Int) (k row : Nat) (S : List Nat) : Prop where
  le : k ≤ cs.length
  sub : S ∈ subs
  below : ∀ j ∈ S, j < k
  laid : (cs.take k).foldl (lay1 wd) ([], []) = grp cs (fun j => S.contains j) k
  row : row = sizeOf' (grp cs (fun j => S.contains j) k).2
  rowNe : k = 0 ∨ (grp cs (fun j => S.contains j) k).2 ≠ []
  head : k = 0 ∨ ∀ c, cs[k]? = Option.some c → ¬ c.1 = Str.ofString "\t"
theorem insS_contains {S : List Nat} {k j : Nat} : (insS k S).contains j = (S.contains j || j == k) := by
  induction S with
  | nil => show (j == k || false) = (false || j == k); rw [Bool.or_false, Bool.false_or]
  | cons x r ih =>
    unfold insS
    split
    · simp only [List.contains_cons]
      cases j == k <;> cases j == x <;> cases r.contains j <;> rfl
    · split
      · rename_i h
        subst h
        simp only [List.contains_cons]
        cases j == k <;> cases r.contains j <;> rfl
      · simp only [List.contains_cons, ih, Bool.or_assoc]
theorem size_mem {c : Str × Str} : ∀ {cs : List (Str × Str)}, c ∈ cs → c.1.length + c.2.length ≤ sizeOf' cs
  | [], h => nomatch h
  | d :: r, h => by
    rw [show d :: r = [d] ++ r from rfl, sz_app]
    rcases List.mem_cons.mp h with q | q
    · subst q
      unfold sizeOf'
      simp
    · have := size_mem q
      omega
theorem mem_1_6 {k : Nat} (h1 : 1 ≤ k) (h2 : k ≤ 6) : k ∈ [1, 2, 3, 4, 5, 6] := by
  simp only [List.mem_cons, List.not_mem_nil, or_false]; omega
section
variable {cs : List (Str × Str)} {wd : Int} (hok : ∀ c ∈ cs, OkCh c) (hgap : ∀ k c, 1 ≤ k → cs[k]? = some c → ¬ c.1 = Str.ofString "") (hlen : cs.length ≤ 7)
include hok hgap hlen
theorem finv_step {k row : Nat} {S : List Nat} (I : FInv cs wd k row S) (hk : k < cs.length) : FInv cs wd (fstep cs wd (k, row, S)).1 (fstep cs wd (k, row, S)).2.1 (fstep cs wd (k, row, S)).2.2 := by
  obtain ⟨hle, hsub, hb, hl, hr, hs, hh⟩ := I
  have he1 := segEnd_le hk
  have he2 := segEnd_gt (cs := cs) (k := k)
  obtain ⟨i, hi⟩ : ∃ i, segEnd cs k = k + 1 + i := ⟨segEnd cs k - (k + 1), by omega⟩
  have hck : cs[k]? = some cs[k] := List.getElem?_eq_getElem hk
  have hseg : (cs.take (segEnd cs k)).drop k = cs[k] :: (cs.drop (k + 1)).take (tabs (cs.drop (k + 1))) := by
    unfold segEnd
    rw [List.drop_take, List.drop_eq_getElem_cons hk, show k + 1 + tabs (cs.drop (k + 1)) - k = tabs (cs.drop (k + 1)) + 1 by omega, List.take_succ_cons]
  have htab : ∀ x ∈ (cs.drop (k + 1)).take (tabs (cs.drop (k + 1))), isBl x.1 = false := fun x hx => by rw [tabs_take _ x hx]; exact tab_gap
  have hblank : (grp cs (fun j => S.contains j) k).2 ≠ [] → isBl cs[k].1 = true := fun hne => by
    have hk0 : k ≠ 0 := fun e => by subst e; exact hne rfl
    refine blank_gap _ (hok _ (List.getElem_mem hk)).1 (hgap k _ (by omega) hck) ?_
    rcases hh with q | q
    · exact absurd q hk0
    · exact q _ hck
  have hlay : (cs.take (segEnd cs k)).foldl (lay1 wd) ([], []) = rowOf wd (grp cs (fun j => S.contains j) k).1 (grp cs (fun j => S.contains j) k).2 ((cs.take (segEnd cs k)).drop k) := by
    have e := take_seg (cs := cs) (Nat.le_of_lt he2)
    conv => lhs; rw [e, List.foldl_append, hl]
    rw [hseg]
    show List.foldl _ ((grp cs (fun j => S.contains j) k).1, (grp cs (fun j => S.contains j) k).2) _ = _
    exact lay_seg hblank htab
  have hhead : ∀ c, cs[segEnd cs k]? = some c → ¬ c.1 = Str.ofString "\t" := fun c e => by
    refine tabs_stop (cs.drop (k + 1)) c ?_
    rw [List.getElem?_drop]
    exact e
  have hne0 : (cs.take (segEnd cs k)).drop k ≠ [] := by rw [hseg]; simp
  have hrow : (0 < row ∧ wd < ((row + sizeOf' ((cs.take (segEnd cs k)).drop k) : Nat) : Int)) ↔ ((grp cs (fun j => S.contains j) k).2 ≠ [] ∧ wd < (sizeOf' ((grp cs (fun j => S.contains j) k).2 ++ (cs.take (segEnd cs k)).drop k) : Nat)) := by
    rw [sz_app, ← hr]
    refine and_congr_left fun _ => ?_
    constructor
    · intro h e
      rw [hr, e] at h
      exact Nat.lt_irrefl _ h
    · intro h
      rcases hs with q | _
      · subst q; exact absurd rfl h
      · have ⟨c, hc⟩ := List.exists_mem_of_ne_nil _ h
        rw [hr]
        have okall : ∀ c ∈ (grp cs (fun j => S.contains j) k).2, OkCh c := by
          have := (fold_inv (wd := wd) (cs := cs.take k) LayInv.zero fun y hy => hok y (List.mem_of_mem_take hy)).1.ok
          rw [hl] at this
          exact this
        have h1 := (okall c hc).wpos
        have : c.1.length + c.2.length ≤ sizeOf' (grp cs (fun j => S.contains j) k).2 := by
          exact size_mem hc
        omega
  unfold fstep
  dsimp only
  by_cases hc : 0 < row ∧ wd < ((row + sizeOf' ((cs.take (segEnd cs k)).drop k) : Nat) : Int)
  · rw [if_pos hc]
    have hc' := hrow.mp hc
    have hk0 : k ≠ 0 := fun e => by subst e; exact hc'.1 rfl
    have hk6 := mem_1_6 (k := k) (by omega) (by omega)
    have ext : grp cs (fun j => (insS k S).contains j) k = grp cs (fun j => S.contains j) k := grp_ext fun j hj => by
      rw [insS_contains, beq_eq_false_iff_ne.mpr (Nat.ne_of_lt hj), Bool.or_false]
    have hg : grp cs (fun j => (insS k S).contains j) (segEnd cs k) = ((grp cs (fun j => S.contains j) k).1 ++ [textOf (grp cs (fun j => S.contains j) k).2], (cs.take (segEnd cs k)).drop k) := by
      have := grp_seg (cs := cs) (f := fun j => (insS k S).contains j) (k := k) (i := i) (by omega) fun j h1 h2 => by
        rw [insS_contains, beq_eq_false_iff_ne.mpr (Nat.ne_of_gt h1), Bool.or_false]
        cases e : S.contains j with
        | false => rfl
        | true => have := hb j (List.contains_iff_mem.mp e); omega
      rw [← hi, ext, if_pos (by rw [insS_contains]; simp)] at this
      exact this
    refine ⟨he1, subs_ins S hsub k hk6, fun j hj => ?_, ?_, ?_, .inr ?_, .inr hhead⟩
    · have := List.contains_iff_mem.mpr hj
      rw [insS_contains, Bool.or_eq_true, beq_iff_eq, List.contains_iff_mem] at this
      rcases this with q | q
      · have := hb j q; omega
      · omega
    · rw [hlay, hg]
      unfold rowOf
      rw [if_pos hc']
    · rw [hg]
    · rw [hg]; exact hne0
  · rw [if_neg hc]
    have hc' : ¬ _ := fun h => hc (hrow.mpr h)
    have hkS : S.contains k = false := by
      cases e : S.contains k with
      | false => rfl
      | true => have := hb k (List.contains_iff_mem.mp e); omega
    have hg : grp cs (fun j => S.contains j) (segEnd cs k) = ((grp cs (fun j => S.contains j) k).1, (grp cs (fun j => S.contains j) k).2 ++ (cs.take (segEnd cs k)).drop k) := by
      have := grp_seg (cs := cs) (f := fun j => S.contains j) (k := k) (i := i) (by omega) fun j h1 h2 => by
        cases e : S.contains j with
        | false => rfl
        | true => have := hb j (List.contains_iff_mem.mp e); omega
      rw [← hi, if_neg (by rw [hkS]; simp)] at this
      exact this
    refine ⟨he1, hsub, fun j hj => Nat.lt_trans (hb j hj) he2, ?_, ?_, .inr ?_, .inr hhead⟩
    · rw [hlay, hg]
      unfold rowOf
      rw [if_neg hc']
    · rw [hg, sz_app, ← hr]
    · rw [hg]; simp [hne0]
theorem finv_run : ∀ {n k row : Nat} {S : List Nat}, cs.length ≤ k + n → FInv cs wd k row S → frun cs wd n (k, row, S) ∈ subs ∧ (∀ j ∈ frun cs wd n (k, row, S), j < cs.length) ∧ cs.foldl (lay1 wd) ([], []) = grp cs (fun j => (frun cs wd n (k, row, S)).contains j) cs.length
  | 0, k, row, S, hn, I => by
    have e : k = cs.length := Nat.le_antisymm I.le (by omega)
    subst e
    refine ⟨I.sub, I.below, ?_⟩
    have := I.laid
    rw [List.take_length] at this
    exact this
  | n + 1, k, row, S, hn, I => by
    by_cases hk : k < cs.length
    · have e : frun cs wd (n + 1) (k, row, S) = frun cs wd n (fstep cs wd (k, row, S)) := by
        show (if k < cs.length then _ else _) = _
        rw [if_pos hk]
      have h1 := finv_step hok hgap hlen I hk
      have h2 : k < (fstep cs wd (k, row, S)).1 := by
        unfold fstep
        have := segEnd_gt (cs := cs) (k := k)
        split <;> exact this
      rw [e]
      generalize fstep cs wd (k, row, S) = st at h1 h2 ⊢
      obtain ⟨k', row', S'⟩ := st
      exact finv_run (by dsimp only at h2; omega) h1
    · have e : frun cs wd (n + 1) (k, row, S) = S := by
        show (if k < cs.length then _ else _) = _
        rw [if_neg hk]
      have e2 : k = cs.length := Nat.le_antisymm I.le (by omega)
      subst e2
      rw [e]
      refine ⟨I.sub, I.below, ?_⟩
      have := I.laid
      rw [List.take_length] at this
      exact this
theorem folds_laid (wd : Int) : foldsOf cs wd ∈ subs ∧ (∀ j ∈ foldsOf cs wd, j < cs.length) ∧ cs.foldl (lay1 wd) ([], []) = grp cs (fun j => (foldsOf cs wd).contains j) cs.length :=
  finv_run hok hgap hlen (by omega) ⟨Nat.zero_le _, by decide, fun _ h => (nomatch h), rfl, rfl, .inl rfl, .inl rfl⟩
end
theorem join_interc : ∀ (P : List Str), tl (Str.join dots3 P) = interc (P.map tl)
  | [] => tl_empty
  | [p] => rfl
  | p :: q :: r => by
    show tl (p ++ dots3 ++ Str.join dots3 (q :: r)) = _
    rw [tl_app, tl_app, join_interc (q :: r), tl_dots]
    rfl
/-- the line maker's text is the plain one -/
theorem folded_plain {cs : List (Str × Str)} {wd : Int} (hok : ∀ c ∈ cs, OkCh c) (hgap : ∀ k c, 1 ≤ k → cs[k]? = some c → ¬ c.1 = Str.ofString "") (hlen : cs.length ≤ 7) :
    Txt.join (Str.ofString "...") ((cs.foldl (lay1 wd) ([], [])).1 ++ [textOf (cs.foldl (lay1 wd) ([], [])).2]) = plainT cs (fun j => (foldsOf cs wd).contains j) cs.length := by
  apply tl_inj
  rw [plain_interc, (folds_laid hok hgap hlen wd).2.2]
  show tl (Builtin.Str.glued _ _) = _
  rw [StrLaws.glued_eq_join]
  exact join_interc _

/-- the text from chunk m up to n, with its dots -/
noncomputable def segT (cs : List (Str × Str)) (f : Nat → Bool) (m n : Nat) : List Nat := (List.range' m (n - m)).flatMap fun j => (if f j then dotL else []) ++ chL (cs.getD j ("", ""))
theorem segT_succ {cs : List (Str × Str)} {f : Nat → Bool} {m n : Nat} (h : m ≤ n) : segT cs f m (n + 1) = segT cs f m n ++ ((if f n then dotL else []) ++ chL (cs.getD n ("", ""))) := by
  unfold segT
  rw [show n + 1 - m = (n - m) + 1 by omega, List.range'_concat, List.flatMap_append, Nat.one_mul, show m + (n - m) = n by omega]
  simp only [List.flatMap_cons, List.flatMap_nil, List.append_nil]
theorem segT_self {cs : List (Str × Str)} {f : Nat → Bool} {m : Nat} : segT cs f m m = [] := by
  unfold segT
  rw [Nat.sub_self]; rfl
theorem plain_segT (cs : List (Str × Str)) (f : Nat → Bool) : ∀ n, tl (plainT cs f n) = segT cs f 0 n
  | 0 => by rw [segT_self]; exact tl_empty
  | n + 1 => by
    rw [segT_succ (Nat.zero_le _), ← plain_segT cs f n]
    by_cases h : f n = true
    · rw [plain_t h, if_pos h, List.append_assoc]
    · rw [plain_f h, if_neg h, List.nil_append]
theorem segT_add {cs : List (Str × Str)} {f : Nat → Bool} {m p : Nat} (h : m ≤ p) : ∀ {n : Nat}, p ≤ n → segT cs f m n = segT cs f m p ++ segT cs f p n := by
  intro n hn
  obtain ⟨i, rfl⟩ := Nat.exists_eq_add_of_le hn
  clear hn
  induction i with
  | zero => rw [Nat.add_zero, segT_self, List.append_nil]
  | succ i ih => rw [← Nat.add_assoc, segT_succ (by omega), ih, segT_succ (by omega), List.append_assoc]
theorem segT_none {cs : List (Str × Str)} {f : Nat → Bool} {m : Nat} : ∀ {n : Nat}, m ≤ n → n ≤ cs.length → (∀ j, m ≤ j → j < n → f j = false) → segT cs f m n = ((cs.take n).drop m).flatMap chL := by
  intro n hn hl hf
  obtain ⟨i, rfl⟩ := Nat.exists_eq_add_of_le hn
  clear hn
  induction i with
  | zero => rw [Nat.add_zero, segT_self, show (cs.take m).drop m = [] by rw [List.drop_eq_nil_iff, List.length_take]; omega]; rfl
  | succ i ih =>
    rw [← Nat.add_assoc, segT_succ (by omega), ih (by omega) (fun j h1 h2 => hf j h1 (by omega)), part_succ (by omega) (by omega), hf (m + i) (by omega) (by omega), List.flatMap_append]
    simp
/-- one piece more at the head of a want -/
theorem want_step {cs : List (Str × Str)} {f : Nat → Bool} {p m n : Nat} {W : Str} (hW : tl W = segT cs f m n) (h1 : p < m) (h2 : m ≤ n) (h3 : n ≤ cs.length) (hp : f p = true) (hf : ∀ j, p < j → j < m → f j = false) :
    tl (Str.ofString "..." ++ textOf ((cs.take m).drop p) ++ W) = segT cs f p n := by
  rw [tl_app, tl_app, tl_text, hW, segT_add (Nat.le_of_lt h1) h2, segT_add (Nat.le_succ p) h1, segT_succ (Nat.le_refl _), segT_self, if_pos hp, List.nil_append, segT_none h1 (by omega) fun j a b => hf j a b]
  rw [show tl (Str.ofString "...") = dotL from tl_dots]
  have e : (cs.take m).drop p = cs.getD p ("", "") :: (cs.take m).drop (p + 1) := by
    rw [List.drop_eq_getElem_cons (by rw [List.length_take]; omega), List.getElem_take, List.getD_eq_getElem?_getD, List.getElem?_eq_getElem (by omega)]
    rfl
  rw [e, List.flatMap_cons]
  simp only [List.append_assoc]
theorem want_last {cs : List (Str × Str)} {f : Nat → Bool} {m n : Nat} {W : Str} (hW : tl W = segT cs f m n) (h2 : m ≤ n) (h3 : n ≤ cs.length) (hf : ∀ j, j < m → f j = false) : textOf (cs.take m) ++ W = plainT cs f n := by
  apply tl_inj
  rw [plain_segT, tl_app, tl_text, hW, segT_add (Nat.zero_le m) h2, segT_none (Nat.zero_le _) (by omega) fun j _ b => hf j b, List.drop_zero]
section
variable {cs : List (Str × Str)} (hok : ∀ c ∈ cs, OkCh c)
include hok
omit hok in
theorem chL_cons {c : Str × Str} (h : OkCh c) : ∃ a p, chL c = a :: p ∧ a ∈ [9, 32, 97, 98] := by
  have hl := chL_len c
  have hw := h.wpos
  cases e : chL c with
  | nil => rw [e] at hl; simp at hl; omega
  | cons a p => exact ⟨a, p, rfl, h.sign a (by rw [e]; exact .head _)⟩
omit hok in
theorem chL_snoc {c : Str × Str} (h : OkCh c) : ∃ p a, chL c = p ++ [a] ∧ a ∈ [9, 32, 97, 98] := by
  have hl := chL_len c
  have hw := h.wpos
  rcases List.eq_nil_or_concat (chL c) with e | ⟨p, a, e⟩
  · rw [e] at hl; simp at hl; omega
  · rw [List.concat_eq_append] at e
    exact ⟨p, a, e, h.sign a (by rw [e]; simp)⟩
theorem pcs_head {f : Nat → Bool} (h0 : f 0 = false) : ∀ {k : Nat}, 0 < k → k ≤ cs.length → ∃ a p P, (pcs cs f k).map tl = (a :: p) :: P ∧ a ∈ [9, 32, 97, 98]
  | 0, h, _ => absurd h (Nat.lt_irrefl _)
  | k + 1, _, hk => by
    by_cases hk0 : k = 0
    · subst hk0
      obtain ⟨a, p, e, ha⟩ := chL_cons (getD_ok hok (k := 0) (by omega))
      refine ⟨a, p, [], ?_, ha⟩
      unfold pcs
      rw [grp_succ, if_neg (by rw [h0]; simp)]
      simp only [grp, List.nil_append, List.map_cons, List.map_nil, tl_text, List.flatMap_cons, List.flatMap_nil, List.append_nil, e]
    · obtain ⟨a, p, P, e, ha⟩ := pcs_head h0 (k := k) (by omega) (by omega)
      by_cases hf : f k = true
      · exact ⟨a, p, P ++ [chL (cs.getD k ("", ""))], by rw [pcs_t hf, e]; rfl, ha⟩
      · obtain ⟨P', c, e1, e2⟩ := pcs_f (cs := cs) hf
        rw [e] at e1
        cases P' with
        | nil =>
          have e3 : (a :: p) = c ∧ P = [] := by simpa using e1
          exact ⟨a, p ++ chL (cs.getD k ("", "")), [], by rw [e2, ← e3.1]; rfl, ha⟩
        | cons q r =>
          have e3 : (a :: p) = q ∧ P = r ++ [c] := by simpa using e1
          exact ⟨a, p, r ++ [c ++ chL (cs.getD k ("", ""))], by rw [e2, ← e3.1]; rfl, ha⟩
theorem pcs_last {f : Nat → Bool} {k : Nat} (hk : k < cs.length) : ∃ P p a, (pcs cs f (k + 1)).map tl = P ++ [p ++ [a]] ∧ a ∈ [9, 32, 97, 98] := by
  obtain ⟨p, a, e, ha⟩ := chL_snoc (getD_ok hok hk)
  by_cases hf : f k = true
  · exact ⟨_, p, a, by rw [pcs_t hf, e], ha⟩
  · obtain ⟨P', c, e1, e2⟩ := pcs_f (cs := cs) hf
    exact ⟨P', c ++ p, a, by rw [e2, e, List.append_assoc], ha⟩
/-- the text behind a bracket is not taken -/
theorem no_open {f : Nat → Bool} (h0 : f 0 = false) {k : Nat} (hk : 0 < k) (hkl : k ≤ cs.length) {x y : Str} (hx : tl x = 40 :: tl y) : ematch (pcs cs f k) x = false := by
  cases e : ematch (pcs cs f k) x with
  | false => rfl
  | true =>
    have h := (ematch_iff (pcs_ne cs f k)).mp e
    obtain ⟨a, p, P, e1, ha⟩ := pcs_head hok h0 hk hkl
    rw [e1] at h
    have := lays_head h
    rw [hx] at this
    have e2 : a = 40 := by simpa using this.symm
    rw [e2] at ha
    simp at ha
theorem no_close {f : Nat → Bool} {k : Nat} (hk : 0 < k) (hkl : k ≤ cs.length) {x y : Str} (hx : tl x = tl y ++ [41]) : ematch (pcs cs f k) x = false := by
  cases e : ematch (pcs cs f k) x with
  | false => rfl
  | true =>
    have h := (ematch_iff (pcs_ne cs f k)).mp e
    obtain ⟨j, rfl⟩ : ∃ j, k = j + 1 := ⟨k - 1, by omega⟩
    obtain ⟨P, p, a, e1, ha⟩ := pcs_last hok (f := f) (k := j) (by omega)
    rw [e1] at h
    have := lays_last h
    rw [hx] at this
    have e2 : a = 41 := by simpa using this.symm
    rw [e2] at ha
    simp at ha
omit hok in
theorem plain_size {f : Nat → Bool} (hf : ∀ j, f j = false) : (plainT cs f cs.length).length = sizeOf' cs := by
  rw [tl_len, plain_segT, segT_none (Nat.zero_le _) (Nat.le_refl _) (fun j _ _ => hf j), List.drop_zero, List.take_length, List.length_flatMap]
  unfold sizeOf'
  congr 1
  exact List.map_congr_left fun c _ => chL_len c
omit hok in
theorem no_short {f : Nat → Bool} {x : Str} (hx : x.length < sizeOf' cs) : ematch (pcs cs f cs.length) x = false := by
  cases e : ematch (pcs cs f cs.length) x with
  | false => rfl
  | true =>
    have h := lays_len ((ematch_iff (pcs_ne cs f cs.length)).mp e)
    rw [pcs_sum f (Nat.le_refl _)] at h
    unfold off at h
    rw [List.take_length, ← tl_len] at h
    omega
theorem ematch_sub {f g : Nat → Bool} : ematch (pcs cs f cs.length) (plainT cs g cs.length) = true ↔ ∀ j, j < cs.length → g j = true → f j = true :=
  (ematch_iff (pcs_ne cs f _)).trans (lays_iff hok (Nat.le_refl _))
end

theorem slot_setit_next : Slot "set_iterator" "__next__" "set_iterator.__next__" :=
  .of (owner := "set_iterator") (n := "__next__") (by rw [typeLookup_type, builtinLookup_eq_fast]; kernel_rfl) (by decide +kernel) (by decide +kernel) (by decide +kernel)
    (by first | exact .inl (by decide +kernel) | exact .inr (by decide +kernel)) (by rw [isSubtype_type]; kernel_rfl)
theorem slot_setit_iter : Slot "set_iterator" "__iter__" "set_iterator.__iter__" :=
  .of (owner := "set_iterator") (n := "__iter__") (by rw [typeLookup_type, builtinLookup_eq_fast]; kernel_rfl) (by decide +kernel) (by decide +kernel) (by decide +kernel)
    (by first | exact .inl (by decide +kernel) | exact .inr (by decide +kernel)) (by rw [isSubtype_type]; kernel_rfl)
theorem entry_setit_next : entryFor table "set_iterator.__next__" = some Builtin.«set_iterator.__next__» := entryFor_of_tree (by kernel_rfl)
theorem entry_setit_iter : entryFor table "set_iterator.__iter__" = some Builtin.«dict_keyiterator.__iter__» := alias_tree (id' := "dict_keyiterator.__iter__") (by kernel_rfl) rfl (by decide +kernel) (by decide +kernel) (by kernel_rfl)
theorem entry_set_iter : entryFor table "set.__iter__" = some Builtin.«frozenset.__iter__» := alias_tree (id' := "frozenset.__iter__") (by kernel_rfl) rfl (by decide +kernel) (by decide +kernel) (by kernel_rfl)
theorem args_setit_next (a : Value) : argsOk "set_iterator.__next__" ⟨[a], []⟩ := by unfold argsOk; rw [PySem.W.Fast.signatureQ_eq]; kernel_rfl
theorem args_setit_iter (a : Value) : argsOk "set_iterator.__iter__" ⟨[a], []⟩ := by unfold argsOk; rw [PySem.W.Fast.signatureQ_eq]; kernel_rfl
theorem args_set_iter (a : Value) : argsOk "set.__iter__" ⟨[a], []⟩ := by unfold argsOk; rw [PySem.W.Fast.signatureQ_eq]; kernel_rfl
/-- where a walk over a set stands: the place to look from -/
noncomputable def slotOf (b : Bool) (S : List Nat) (i : Nat) : Nat := if b then 0 else if i = 0 then 0 else S.getD (i - 1) 0 + 1
theorem below_slot : ∀ S ∈ subs, ∀ i ∈ List.range (S.length + 1), SetTable.below S.toArray (slotOf false S i) = i := by decide +kernel
/-- the order in which a set is walked -/
noncomputable def ordOf (w : World) (a : Addr) (ep : Nat) (S : List Nat) (tk : Nat → Tok) : Array (Int × Value) := if byText w then pickOrder (w.params.setOrder a ep) (ents S tk) else ents S tk
theorem ordOf_perm {w : World} {a : Addr} {ep : Nat} {S : List Nat} {tk : Nat → Tok} : (ordOf w a ep S tk).toList.Perm (S.map (ent tk)) := by
  unfold ordOf
  split
  · exact pick_perm _ _
  · exact List.Perm.refl _
theorem ordOf_size {w : World} {a : Addr} {ep : Nat} {S : List Nat} {tk : Nat → Tok} : (ordOf w a ep S tk).size = S.length := by
  have := (ordOf_perm (w := w) (a := a) (ep := ep) (S := S) (tk := tk)).length_eq
  simpa using this
noncomputable abbrev setIt (sl i : Nat) (a : Value) (n ep : Nat) : Obj := { cls := .type "set_iterator", data := .fields #[.int (sl : Int) 0, .int (i : Int) 0, a, .int (n : Int) 0, .int (ep : Int) 0] }
section
variable {prog : Program} {w : World} {A : Around} {E : Value → Shared → Prop} {s : Shared} {a it : Addr} {S : List Nat} {tk : Nat → Tok} {ep m mv : Nat}
theorem walkX_c {Q : Array (Int × Value) → Shared → Prop} (hS : S ∈ subs) (hm : m ∈ [7, 15, 31]) (ho : s.heap.get? a = some (setObj S tk ep m mv (!byText w)))
    (hb : byText w = true) (hq : Q (ordOf w a ep S tk) s) : wpAny (model prog w) A (setWalk a) Q E s := by
  unfold setWalk
  refine wpAny_bind (wpAny_setState_of ho rfl (fits_tbl hS (ge7 hm)) ?_)
  dsimp only
  refine wpAny_bind (text_c ?_)
  rw [if_pos hb]
  refine wpAny_bind (wpAny_askSetting (wpAny_pure ?_))
  unfold ordOf at hq
  rw [if_pos hb] at hq
  exact hq
theorem setNext_c {i : Nat} {Q : Option (Value × Nat) → Shared → Prop} (hS : S ∈ subs) (hm : m ∈ [7, 15, 31]) (ho : s.heap.get? a = some (setObj S tk ep m mv (!byText w))) (hi : i ≤ S.length)
    (hq : ∀ r : Option (Value × Nat), (∀ e, (ordOf w a ep S tk)[i]? = some e → r = some (e.2, slotOf (byText w) S (i + 1))) → ((ordOf w a ep S tk)[i]? = none → r = none) → Q r s) :
    wpAny (model prog w) A (setNext a (slotOf (byText w) S i) i ep) Q E s := by
  unfold setNext
  refine wpAny_bind (wpAny_setState_of ho rfl (fits_tbl hS (ge7 hm)) ?_)
  dsimp only
  refine wpAny_bind (text_c ?_)
  by_cases hb : byText w = true
  · rw [if_pos hb, if_neg (by simp)]
    refine wpAny_bind (walkX_c hS hm ho hb (wpAny_pure ?_))
    have hs : ∀ j, slotOf (byText w) S j = 0 := fun j => by unfold slotOf; rw [if_pos hb]
    rw [hs i]
    refine hq _ (fun e he => ?_) (fun he => ?_)
    · rw [he, hs]; rfl
    · rw [he]; rfl
  · rw [if_neg hb]
    have hbf : byText w = false := by simpa using hb
    have ho' : ordOf w a ep S tk = ents S tk := by unfold ordOf; rw [if_neg hb]
    rw [ho', hbf] at hq
    rw [hbf]
    refine KFB.if_not rfl ?_
    refine wpAny_bind (wpAny_pure (a := ()) ?_)
    refine wpAny_pure ?_
    have hbl : SetTable.below (tbl S m mv (!false)).place (slotOf false S i) = i := below_slot S hS i (List.mem_range.mpr (by omega))
    rw [hbl]
    refine hq _ (fun e he => ?_) (fun he => ?_)
    · rw [he]
      have hlt : i < S.length := by
        obtain ⟨h1, _⟩ := Array.getElem?_eq_some_iff.mp he
        simpa using h1
      have hp : (tbl S m mv (!false)).place[i]? = some (S.getD i 0) := by
        show S.toArray[i]? = _
        rw [List.getElem?_toArray, List.getD_eq_getElem?_getD, List.getElem?_eq_getElem hlt]
        rfl
      rw [hp]
      rfl
    · rw [he]
theorem setit_next {i : Nat} {e : Int × Value} {Q : Option Value → Shared → Prop} (hS : S ∈ subs) (hm : m ∈ [7, 15, 31]) (ho : s.heap.get? a = some (setObj S tk ep m mv (!byText w))) (hne : a ≠ it)
    (hit : s.heap.get? it = some (setIt (slotOf (byText w) S i) i (.ref a) S.length ep)) (he : (ordOf w a ep S tk)[i]? = some e)
    (hQ : ∀ h', Heap.SameBut it s.heap h' → h'.get? it = some (setIt (slotOf (byText w) S (i + 1)) (i + 1) (.ref a) S.length ep) → Q (some e.2) { s with heap := h' }) : wpAny (model prog w) A (pyNext (.ref it)) Q E s := by
  have hT : s.TypeIs (.ref it) "set_iterator" := ⟨_, hit, rfl⟩
  have hlt : i < S.length := by
    obtain ⟨h1, _⟩ := Array.getElem?_eq_some_iff.mp he
    rw [ordOf_size] at h1; exact h1
  unfold pyNext
  refine wpAny_bind (wpAny_attempt (wpAny_callSpecial?_slot (name := Str.ofString "__next__") hT slot_setit_next
    (wpAny_call_entry slot_setit_next hT entry_setit_next ?_ (args_setit_next _))))
  unfold Builtin.«set_iterator.__next__»
  refine wpAny_bind (wpAny_of_eq (a := (Value.ref it, ([] : List Value))) (by kernel_rfl) ?_)
  dsimp only
  refine wpAny_bind (wpAny_fieldsOf hit rfl ?_)
  dsimp only
  refine wpAny_bind ?_
  refine wpAny_setEntries_of ho rfl (fits_tbl hS (ge7 hm)) ?_
  rw [if_neg (by simp)]
  (try dsimp only)
  simp only [Int.toNat_natCast]
  refine wpAny_bind (setNext_c hS hm ho (Nat.le_of_lt hlt) fun r h1 _ => ?_)
  rw [h1 e he]
  dsimp only
  refine wpAny_bind (wpAny_setField hit rfl (by simp) ?_)
  have g1 : (s.heap.update it (Obj.mapFields (·.setIfInBounds 0 (rawInt (slotOf (byText w) S (i + 1) : Nat))))).get? it = some (setIt (slotOf (byText w) S (i + 1)) i (.ref a) S.length ep) := by
    refine (Heap.get?_update_self _ hit (Obj.isFreed_of_fields (Obj.data_mapFields rfl _))).trans ?_
    rfl
  refine wpAny_bind (wpAny_setField g1 rfl (by simp) ?_)
  have g2 : ((s.heap.update it (Obj.mapFields (·.setIfInBounds 0 (rawInt (slotOf (byText w) S (i + 1) : Nat))))).update it (Obj.mapFields (·.setIfInBounds 1 (rawInt ((i : Int) + 1))))).get? it = some (setIt (slotOf (byText w) S (i + 1)) (i + 1) (.ref a) S.length ep) := by
    refine (Heap.get?_update_self _ g1 (Obj.isFreed_of_fields (Obj.data_mapFields rfl _))).trans ?_
    rfl
  exact wpAny_pure ⟨e.2, rfl, wpAny_pure (hQ _ ((Heap.SameBut.update ..).trans (Heap.SameBut.update ..)) g2)⟩
theorem setit_end {Q : Option Value → Shared → Prop} (hh : A.handled = none) (hS : S ∈ subs) (hm : m ∈ [7, 15, 31]) (ho : s.heap.get? a = some (setObj S tk ep m mv (!byText w)))
    (hit : s.heap.get? it = some (setIt (slotOf (byText w) S S.length) S.length (.ref a) S.length ep))
    (hQ : ∀ h', Heap.ExtBut it s.heap h' → Q none { s with heap := h' }) : wpAny (model prog w) A (pyNext (.ref it)) Q E s := by
  have hT : s.TypeIs (.ref it) "set_iterator" := ⟨_, hit, rfl⟩
  unfold pyNext
  refine wpAny_bind (wpAny_attempt (wpAny_callSpecial?_slot (name := Str.ofString "__next__") hT slot_setit_next
    (wpAny_call_entry slot_setit_next hT entry_setit_next ?_ (args_setit_next _))))
  unfold Builtin.«set_iterator.__next__»
  refine wpAny_bind (wpAny_of_eq (a := (Value.ref it, ([] : List Value))) (by kernel_rfl) ?_)
  dsimp only
  refine wpAny_bind (wpAny_fieldsOf hit rfl ?_)
  dsimp only
  refine wpAny_bind ?_
  refine wpAny_setEntries_of ho rfl (fits_tbl hS (ge7 hm)) ?_
  rw [if_neg (by simp)]
  (try dsimp only)
  simp only [Int.toNat_natCast]
  refine wpAny_bind (setNext_c hS hm ho (Nat.le_refl _) fun r _ h2 => ?_)
  rw [h2 (Array.getElem?_eq_none (by rw [ordOf_size]; exact Nat.le_refl _))]
  dsimp only
  refine wpAny_bind (wpAny_setField hit rfl (by simp) ?_)
  show wpAny _ _ (newExc (.type "StopIteration") [] >>= _) _ _ _
  refine wpAny_bind ?_
  simp only [newExc, newTuple]
  refine wpAny_bind (wpAny_newObj_type ?_ (by size_fits))
  refine wpAny_bind (m := firstArgMember _ _) (wpAny_of_eq (a := Value.none) (by first | rfl | (simp only [firstArgMember]; rfl)) ?_)
  refine wpAny_newObj_type ?_ (by size_fits)
  simp only [raiseNew]
  refine wpAny_bind (wpAny_handled ?_)
  rw [show A.in1.handled = none from hh]
  refine wpAny_bind (wpAny_pure (wpAny_throw ?_))
  refine wpAny_bind (wpAny_isInstance (T := "StopIteration") (b := true) ⟨_, Heap.get?_push_size _ rfl, rfl⟩ isSubtype_stop ?_)
  exact wpAny_pure (hQ _ (((Heap.SameBut.update ..).extBut.push _).push _))
theorem setit_self {sl i n : Nat} {Q : Value → Shared → Prop} (hit : s.heap.get? it = some (setIt sl i (.ref a) n ep)) (h : Q (.ref it) s) : wpAny (model prog w) A (pyIter (.ref it)) Q E s := by
  have hT : s.TypeIs (.ref it) "set_iterator" := ⟨_, hit, rfl⟩
  refine wpAny_pyIter_slot hT slot_setit_iter (wpAny_call_entry slot_setit_iter hT entry_setit_iter ?_ (args_setit_iter _))
  show wpAny _ _ (ret (.ref it)) _ _ s
  exact wpAny_pure ⟨_, rfl, "set_iterator", _, hT, slot_setit_next.lookup, h⟩
theorem walks_set (hh : A.handled = none) (hne : a ≠ it) (hS : S ∈ subs) (hm : m ∈ [7, 15, 31]) : Walks prog w A it [it, a] [it] S.length (fun i v => ∃ e, (ordOf w a ep S tk)[i]? = some e ∧ v = e.2)
    (fun i h => h.get? it = some (setIt (slotOf (byText w) S i) i (.ref a) S.length ep) ∧ h.get? a = some (setObj S tk ep m mv (!byText w))) where
  sub := fun b hb => by simp at hb; simp [hb]
  frame := fun _ _ _ st hk => ⟨hk it (by simp) _ st.1, hk a (by simp) _ st.2⟩
  item := fun i s Q E hi st hQ => by
    obtain ⟨e, he⟩ : ∃ e, (ordOf w a ep S tk)[i]? = some e := ⟨_, Array.getElem?_eq_getElem (by rw [ordOf_size]; exact hi)⟩
    refine setit_next hS hm st.2 hne st.1 he fun h' hs hit' => ?_
    exact hQ e.2 h' s.toks ⟨e, he, rfl⟩ ⟨hit', hs.extBut a _ hne st.2⟩ fun b o hb e => hs.extBut b o (fun h => hb (by simp [h])) e
  done := fun s Q E st hQ => setit_end hh hS hm st.2 st.1 fun h' he => hQ h' s.toks fun b o hb e => he b o (fun h => hb (by simp [h])) e
  self := fun _ _ _ _ st hQ => setit_self st.1 hQ
theorem set_hint {Q : Bool → Shared → Prop} (hT : s.TypeIs (.ref a) "set") (h : Q false s) : wpAny (model prog w) A (Builtin.List.listLengthHint (.ref a)) Q E s := by
  unfold Builtin.List.listLengthHint
  refine wpAny_bind (wpAny_specialOf hT PySem.F.slot_set_len.lookup ?_)
  generalize hid : ("set.__len__" : String) = id0
  wp_delta
  rw [show splitId id0 = some ("set", "__len__") from by subst hid; decide +kernel]
  subst hid
  refine wpAny_bind (wpAny_isInstance (T := "set") (b := true) hT (by rw [isSubtype_type]; kernel_rfl) ?_)
  refine wpAny_ite_split (fun hab => absurd hab (by decide)) (fun _ => ?_)
  refine wpAny_ite_split (fun _ => ?_) (fun hab => absurd (by decide +kernel) hab)
  refine wpAny_bind (wpAny_typeOf hT ?_)
  exact wpAny_pure h
theorem iter_set {Q : Value → Shared → Prop} (hS : S ∈ subs) (hm : m ∈ [7, 15, 31]) (ho : s.heap.get? a = some (setObj S tk ep m mv (!byText w)))
    (hQ : Q (.ref s.heap.objs.size) { s with heap := s.heap.push (setIt (slotOf (byText w) S 0) 0 (.ref a) S.length ep) }) : wpAny (model prog w) A (pyIter (.ref a)) Q E s := by
  have hT : s.TypeIs (.ref a) "set" := ⟨_, ho, rfl⟩
  have h0 : slotOf (byText w) S 0 = 0 := by unfold slotOf; split <;> rfl
  rw [h0] at hQ
  refine wpAny_pyIter_slot hT F.slot_set_iter (wpAny_call_entry F.slot_set_iter hT entry_set_iter ?_ (args_set_iter _))
  unfold Builtin.«frozenset.__iter__»
  refine wpAny_bind (m := Builtin.Frozenset.slot0 _ _) ?_
  unfold Builtin.Frozenset.slot0 slotArgs
  simp only [List.isEmpty_nil, Bool.not_true, Bool.false_eq_true, ↓reduceIte, List.length_nil, bne_self_eq_false]
  refine wpAny_bind (wpAny_pure ?_)
  dsimp only
  refine wpAny_pure ?_
  unfold Builtin.Frozenset.sizeOf
  refine wpAny_bind (wpAny_bind (wpAny_setEntries_of ho rfl (fits_tbl hS (ge7 hm)) (wpAny_pure ?_)))
  unfold setDrawn
  refine wpAny_bind ?_
  refine wpAny_bind (wpAny_setState_of ho rfl (fits_tbl hS (ge7 hm)) ?_)
  dsimp only
  refine wpAny_bind (text_c ?_)
  refine wpAny_pure ?_
  refine KFB.if_not (by cases byText w <;> rfl) ?_
  refine wpAny_bind (wpAny_pure ?_)
  refine wpAny_bind ?_
  unfold setEpoch
  refine wpAny_bind (wpAny_setState_of ho rfl (fits_tbl hS (ge7 hm)) (wpAny_pure ?_))
  refine wpAny_bind (wpAny_newObj_type (wpAny_pure ⟨_, rfl, "set_iterator", _, ⟨_, Heap.get?_push_size _ rfl, rfl⟩, slot_setit_next.lookup, ?_⟩))
  have hsz : (ents S tk).size = S.length := by simp
  rw [hsz]
  exact hQ
theorem src_set (hS : S ∈ subs) (hm : m ∈ [7, 15, 31]) : KdlSrc prog w "set" a a S.length (fun i v => ∃ e, (ordOf w a ep S tk)[i]? = some e ∧ v = e.2) (fun h => h.get? a = some (setObj S tk ep m mv (!byText w))) where
  type := fun _ hm => ⟨_, hm, rfl⟩
  there := fun _ hm => ⟨Heap.lt_size hm, Heap.lt_size hm⟩
  keep := fun _ _ hm hk => hk a (.inl rfl) _ hm
  notList := by decide
  notTuple := by decide
  hint := fun _ _ _ _ hm hq => set_hint ⟨_, hm, rfl⟩ hq
  iter := fun _ _ hh ho => ⟨_, _, (fun _ _ hq => iter_set hS hm ho hq), walks_set hh (Nat.ne_of_lt (Heap.lt_size ho)) hS hm, ⟨Heap.get?_push_size _ rfl, Heap.get?_push_of_some _ ho⟩⟩
end

theorem desc_unique : ∀ {l1 l2 : List Int}, l1.Perm l2 → l1.Pairwise (· ≥ ·) → l2.Pairwise (· ≥ ·) → l1 = l2
  | [], l2, h, _, _ => (List.nil_perm.mp h).symm
  | a :: r, [], h, _, _ => nomatch (List.perm_nil.mp h)
  | a :: r, b :: q, h, h1, h2 => by
    have ha : a ∈ b :: q := h.mem_iff.mp (.head _)
    have hb : b ∈ a :: r := h.mem_iff.mpr (.head _)
    have e1 : b ≥ a := by
      rcases List.mem_cons.mp ha with e | e
      · rw [e]; exact Int.le_refl _
      · exact (List.pairwise_cons.mp h2).1 a e
    have e2 : a ≥ b := by
      rcases List.mem_cons.mp hb with e | e
      · rw [e]; exact Int.le_refl _
      · exact (List.pairwise_cons.mp h1).1 b e
    have e : a = b := Int.le_antisymm e1 e2
    subst e
    rw [desc_unique (List.perm_cons a |>.mp h) (List.pairwise_cons.mp h1).2 (List.pairwise_cons.mp h2).2]
theorem subs_asc : ∀ S ∈ subs, S.Pairwise (· < ·) := by decide +kernel
theorem desc_map {S : List Nat} (h : S.Pairwise (· < ·)) : (S.reverse.map fun k : Nat => (k : Int)).Pairwise (· ≥ ·) := by
  rw [List.pairwise_map, List.pairwise_reverse]
  exact h.imp fun h => by omega
section
variable {prog : Program} {w : World} {A : Around} {E : Value → Shared → Prop} {s : Shared} {a : Addr} {o : Obj} {S : List Nat}
theorem ordOf_ints {ep : Nat} {tk : Nat → Tok} {acc : Array Value} (h : ItemsOf (fun i v => ∃ e, (ordOf w a ep S tk)[i]? = some e ∧ v = e.2) acc S.length) : ∃ L : List Int, IntsAre acc.toList L ∧ L.Perm (S.map fun k : Nat => (k : Int)) := by
  obtain ⟨L, hL, he⟩ := perm_ents (ordOf_perm (w := w) (a := a) (ep := ep) (S := S) (tk := tk))
  have e : acc.toList = L.map fun k : Nat => Value.int (k : Int) (tk k) := by
    apply List.ext_getElem?
    intro i
    have hl : L.length = S.length := hL.length_eq
    by_cases hi : i < S.length
    · obtain ⟨v, hv⟩ : ∃ v, acc[i]? = some v := ⟨_, Array.getElem?_eq_getElem (by rw [h.1]; exact hi)⟩
      obtain ⟨e, h1, h2⟩ := h.2 i v hv
      rw [← Array.getElem?_toList, he] at h1
      rw [Array.getElem?_toList, hv, h2]
      rw [List.getElem?_map] at h1 ⊢
      cases hx : L[i]? with
      | none => rw [hx] at h1; cases h1
      | some k => rw [hx] at h1; rw [← Option.some.inj h1]; rfl
    · rw [List.getElem?_eq_none (by rw [Array.length_toList, h.1]; omega), List.getElem?_eq_none (by rw [List.length_map]; omega)]
  refine ⟨L.map fun k : Nat => (k : Int), ?_, hL.map _⟩
  rw [e]
  clear e he hL h
  induction L with
  | nil => exact .nil
  | cons k r ih => exact .cons _ _ ih
theorem sorted_set {Q : Value → Shared → Prop} (hh : A.handled = none) (hc : SetC w o S) (ho : s.heap.get? a = some o)
    (h : ∀ D h' tk vs e, (∀ b o, s.heap.get? b = some o → h'.get? b = some o) → s.heap.get? D = none → h'.get? D = some (seqObj "list" vs.toArray e) → IntsAre vs (S.reverse.map fun k : Nat => (k : Int)) → Q (.ref D) { s with heap := h', toks := tk }) :
    wpAny (model prog w) A (call (.builtin "sorted") [.ref a] [(Str.ofString "reverse", .bool true)]) Q E s := by
  obtain ⟨tk, ep, m, mv, rfl, hS, hm, hz⟩ := hc
  have hl := subs_len S hS
  refine call_function_entry_kw kind_sorted plain_sorted entry_sorted (args_sorted_rev _ _) ?_
  unfold Builtin.«sorted»
  refine wpAny_bind (m := checkCount "sorted" 1 1 _) (wpAny_pure ?_)
  refine wpAny_bind (kdu_collect (A := A.in1) (src_set (ep := ep) (mv := mv) (tk := tk) hS hm) hh ho (by rw [sizeLine_eq]; omega) fun h' tk' acc hk hacc => ?_)
  obtain ⟨L, hI, hp⟩ := ordOf_ints hacc
  have hL : L.length ≤ 6 := by rw [hp.length_eq, List.length_map]; exact hl
  refine wpAny_bind (wpAny_newList ?_)
  have hoL : (h'.push (seqObj "list" acc.toList.toArray 0)).get? h'.objs.size = some (seqObj "list" acc.toList.toArray 0) := Heap.get?_push_size _ rfl
  refine wpAny_bind (wpAny_holding (wpAny_call_entry_kw slot_list_sort ⟨_, hoL, rfl⟩ entry_list_sort (list_sort_tree_rev (b := true) hoL hI (by rw [hI.length]; omega) fun out ns' a1 a2 a3 => ⟨_, rfl, ?_⟩) (args_list_sort_rev _ _)))
  obtain ⟨e, he⟩ := sortedHeap_at (out := out) hoL
  refine wpAny_pure ⟨_, rfl, h _ _ tk' out.toList e (fun b ob eb => ?_) ?_ ?_ ?_⟩
  · have hb := hk b ob eb
    rw [sortedHeap_old (Nat.ne_of_lt (Heap.lt_size hb)) (by rw [size_push']; exact Nat.lt_succ_of_lt (Heap.lt_size hb))]
    exact Heap.get?_push_of_some _ hb
  · cases e0 : s.heap.get? h'.objs.size with
    | none => rfl
    | some ob => exact absurd (Heap.lt_size (hk _ _ e0)) (Nat.lt_irrefl _)
  · simpa using he
  · have e2 : ns' = S.reverse.map fun k : Nat => (k : Int) := by
      refine desc_unique (a2.trans (hp.trans ((List.reverse_perm S).symm.map _))) a3 (desc_map (subs_asc S hS))
    rw [← e2]; exact a1
end

section
variable {prog : Program} {w : World} {A : Around} {E : Value → Shared → Prop} {s : Shared} {g : Heap} {L a : Addr} {m : Str → Option Value} {news : List (Addr × Obj)} {o : Obj} {S : List Nat} {k : Nat}
theorem setNew_L {Q : Value → Shared → Prop} (F : Fr g L s.heap m) (N : News g L s.heap news)
    (h : ∀ r h', Fr g L h' m → News g L h' ((r, set0Ob w) :: news) → (∀ p ∈ news, p.1 < r) → Q (.ref r) { s with heap := h' }) : wpAny (model prog w) A (call (.type "set") []) Q E s :=
  setCall_c (h _ _ (F.push _) (N.push F _) fun p hp => Heap.lt_size (N p hp).1)
theorem SetC.setOf {h : Heap} (hc : SetC w o S) (ho : h.get? a = some o) : h.SetOf (intKind prog w) a (fun k => S.any fun j => decide ((j : Int) = k)) S.length := by
  refine (hc.objOf (prog := prog)).setOf ho ?_
  obtain ⟨tk, ep, m, mv, rfl, hS, hm, hz⟩ := hc
  have := subs_len S hS
  show S.length < 4096
  omega
theorem setAdd_m {pl : Sem Bool} {Q : Value × List Value → Shared → Prop} (N : News g L s.heap news) (hm : (a, o) ∈ news) (hc : SetC w o S) (h : Q (.builtin "set.add", [.ref a]) s) :
    wpAny (model prog w) A (getMethod (.ref a) "add" pl) Q E s := getMethod_set_add (hc.setOf (prog := prog) (N _ hm).1) h
theorem setAdd_c {u : Tok} {Q : Value → Shared → Prop} (hc : SetC w o S) (ho : s.heap.get? a = some o) (hk : k ∈ [1, 2, 3, 4, 5, 6])
    (h : ∀ h' o' tk, Heap.SameBut a s.heap h' → h'.get? a = some o' → SetC w o' (insS k S) → Q .none { s with heap := h', toks := tk }) :
    wpAny (model prog w) A (call (.builtin "set.add") [.ref a, .int (k : Int) u]) Q E s := by
  refine wpAny_call_entry F.slot_set_add (hc.typeIs ho) F.entry_set_add ?_ (F.args_set_add_2 _ _)
  unfold Builtin.«set.add» Builtin.Frozenset.oneOther
  simp only [List.isEmpty_nil, bind_assoc]
  unfold Builtin.Frozenset.addrOf setAdd
  refine wpAny_bind (wpAny_pure ?_)
  try dsimp only
  refine wpAny_bind (wpAny_pure ?_)
  try dsimp only
  refine wpAny_bind ?_
  refine wpAny_holding ?_
  refine wpAny_bind ((intKind prog w).pyHash (intKind_is _ _ (k : Int) u) ?_)
  rw [show (intKind prog w).hash (k : Int) = (k : Int) from hash_small k hk]
  refine addHashed_c (s := { s with toks := s.toks + 1 }) ho hc hk fun b h' o' hs ho' hc' => ?_
  show wpAny _ _ (ret Value.none) _ _ _
  exact wpAny_pure ⟨_, rfl, h h' o' _ hs ho' hc'⟩
theorem setAdd_L {u : Tok} {gf : Obj → List (Addr × Obj)} {Q : Value → Shared → Prop} (F : Fr g L s.heap m) (N : News g L s.heap news) (U : UpdF a o news gf) (hc : SetC w o S) (hk : k ∈ [1, 2, 3, 4, 5, 6])
    (h : ∀ h' o' tk, Fr g L h' m → News g L h' (gf o') → SetC w o' (insS k S) → Q .none { s with heap := h', toks := tk }) :
    wpAny (model prog w) A (call (.builtin "set.add") [.ref a, .int (k : Int) u]) Q E s := by
  have z := N _ (updF_mem U)
  refine setAdd_c hc z.1 hk fun h' o' tk hs ho' hc' => ?_
  obtain ⟨pre, post, e1, e2, a1, b1⟩ := U.split
  refine h h' o' tk (F.change hs z.2.1 z.2.2) ?_ hc'
  rw [e2]
  rw [e1] at N
  exact news_set N a1 b1 hs ho'
theorem sorted_L {news : List (Addr × Obj)} {Q : Value → Shared → Prop} (hh : A.handled = none) (F : Fr g L s.heap m) (N : News g L s.heap news) (hc : SetC w o S) (ho : s.heap.get? a = some o)
    (h : ∀ D h' tk vs e, Fr g L h' m → News g L h' ((D, listOf vs.toArray e) :: news) → (∀ p ∈ news, p.1 ≠ D) → IntsAre vs (S.reverse.map fun k : Nat => (k : Int)) → Q (.ref D) { s with heap := h', toks := tk }) :
    wpAny (model prog w) A (call (.builtin "sorted") [.ref a] [(Str.ofString "reverse", .bool true)]) Q E s := by
  refine sorted_set hh hc ho fun D h' tk vs e hk hD hD' hI => ?_
  refine h D h' tk vs e (F.kept hk) (news_cons ⟨hD', fun q => ?_, ?_⟩ fun p hp => ⟨hk _ _ (N p hp).1, (N p hp).2⟩) (fun p hp q => ?_) hI
  · obtain ⟨oL, _, _, hL, _⟩ := F.ns
    rw [q, hL] at hD; cases hD
  · cases e0 : g.get? D with
    | none => rfl
    | some ob => rw [F.keep _ _ e0] at hD; cases hD
  · rw [← q, (N p hp).1] at hD; cases hD
end
example : True := by
  (k_with "call type:set nil nil" => (k_here; k_dflt (refine' setNew_L (by k_asm) (by k_asm) ?_); intro _ _ _ _ l1ₘ; (try k_lt l1ₘ); (try k_sweep)))
  (k_with "getMethod ref" => (k_here; (with_reducible show wpAny _ _ (getMethod (Value.ref _) (Str.ofString "add") _) _ _ _); k_dflt (refine' setAdd_m ?Nₘ ?mₘ ?cₘ ?_; (case Nₘ => k_asm); (case cₘ => assumption); (case mₘ => k_extra "my mem"); k_whole)))
  trivial

/-- the end of a while's turn -/
noncomputable def WhileEnd (g : Heap) (L : Addr) (J : Nat → (Str → Option Value) → List (Addr × Obj) → Prop) (s : Shared) (n : Nat) (s₃ : Shared) : Prop :=
  ∃ k, k < n ∧ Sm s s₃ ∧ ∃ m₃ base₃, J k m₃ base₃ ∧ Fr g L s₃.heap m₃ ∧ News g L s₃.heap base₃
theorem loop_while {prog : Program} {w : World} {A : Around} {s : Shared} {g : Heap} {L : Addr} {m : Str → Option Value} {base : List (Addr × Obj)} {R : Result → Shared → Prop} {env : Env} {test : Expr} {body orelse : List Stmt} {n : Nat}
    {J : Nat → (Str → Option Value) → List (Addr × Obj) → Prop} (F : Fr g L s.heap m) (N : News g L s.heap base) (hJ : J n m base)
    (turn : ∀ (n : Nat) (s' : Shared) (m' : Str → Option Value) (base' : List (Addr × Obj)) (E' : Value → Shared → Prop), J n m' base' → Sm s s' → Fr g L s'.heap m' → News g L s'.heap base' →
      wpAny (model prog w) A (isTrue test env (eval test env)) (fun b s₂ => if b then wpAny (model prog w) A (execs body env) (fun f s₃ => match f with
          | .next | .cont => WhileEnd g L J s n s₃
          | .brk => R (.ok .next) s₃
          | .ret v => R (.ok (.ret v)) s₃) E' s₂
        else wpAny (model prog w) A (execs orelse env) (fun f s₃ => R (.ok f) s₃) E' s₂) E' s') :
    codeAny (model prog w) A (.whileLoop test body orelse env) R s := by
  refine codeAny_whileLoop (fun n s' => Sm s s' ∧ ∃ m' base', J n m' base' ∧ Fr g L s'.heap m' ∧ News g L s'.heap base') (fun n s' hI => ?_) n ⟨.refl s, m, base, hJ, F, N⟩
  obtain ⟨sm, m', base', J', F', N'⟩ := hI
  refine wpAny_mono (turn n s' m' base' _ J' sm F' N') (fun b s₂ h₂ => ?_) fun _ _ e => e
  cases b with
  | false => exact h₂
  | true =>
    refine wpAny_mono h₂ (fun f s₃ h₃ => ?_) fun _ _ e => e
    cases f with
    | next => obtain ⟨k, hk, r⟩ := h₃; exact ⟨k, hk, r⟩
    | cont => obtain ⟨k, hk, r⟩ := h₃; exact ⟨k, hk, r⟩
    | brk => exact h₃
    | ret v => exact h₃
noncomputable def LastEnd (g : Heap) (L : Addr) (K : (Str → Option Value) → List (Addr × Obj) → Prop) (s s₃ : Shared) : Prop :=
  Sm s s₃ ∧ ∃ m₃ base₃, K m₃ base₃ ∧ Fr g L s₃.heap m₃ ∧ News g L s₃.heap base₃
/-- the same, the way on shown once -/
theorem loop_while2 {prog : Program} {w : World} {A : Around} {s : Shared} {g : Heap} {L : Addr} {m : Str → Option Value} {base : List (Addr × Obj)} {R : Result → Shared → Prop} {env : Env} {test : Expr} {body orelse : List Stmt} {n : Nat}
    {J : Nat → (Str → Option Value) → List (Addr × Obj) → Prop} {K : (Str → Option Value) → List (Addr × Obj) → Prop} (F : Fr g L s.heap m) (N : News g L s.heap base) (hJ : J n m base)
    (turn : ∀ (n : Nat) (s' : Shared) (m' : Str → Option Value) (base' : List (Addr × Obj)) (E' : Value → Shared → Prop), J n m' base' → Sm s s' → Fr g L s'.heap m' → News g L s'.heap base' →
      wpAny (model prog w) A (isTrue test env (eval test env)) (fun b s₂ => if b then wpAny (model prog w) A (execs body env) (fun f s₃ => match f with
          | .next | .cont => WhileEnd g L J s n s₃
          | .brk => R (.ok .next) s₃
          | .ret v => R (.ok (.ret v)) s₃) E' s₂
        else LastEnd g L K s s₂) E' s')
    (last : ∀ (s' : Shared) (m' : Str → Option Value) (base' : List (Addr × Obj)) (E' : Value → Shared → Prop), K m' base' → Sm s s' → Fr g L s'.heap m' → News g L s'.heap base' → wpAny (model prog w) A (execs orelse env) (fun f s₃ => R (.ok f) s₃) E' s') :
    codeAny (model prog w) A (.whileLoop test body orelse env) R s := by
  refine loop_while (n := n) (J := J) F N hJ fun n s' m' base' E' hJ' sm F' N' => wpAny_mono (turn n s' m' base' E' hJ' sm F' N') (fun b s₂ h₂ => ?_) fun _ _ e => e
  cases b with
  | true => exact h₂
  | false => obtain ⟨sm, m3, b3, hk, F3, N3⟩ := h₂; exact last _ _ _ _ hk sm F3 N3
theorem slice_run {its : List Value} {a b : Nat} (h : a ≤ b) (hb : b ≤ its.length) : slicePick its.toArray (some (a : Int)) (some (b : Int)) none = ((its.take b).drop a).toArray := by
  rw [kms_pick_eq]
  unfold kms_pick kms_lo kms_hi
  simp only [Option.getD_some]
  have e1 : (if (a : Int) < 0 then its.length - (-(a : Int)).toNat else min (a : Int).toNat its.length) = a := by split <;> omega
  have e2 : (if (b : Int) < 0 then its.length - (-(b : Int)).toNat else min (b : Int).toNat its.length) = b := by split <;> omega
  rw [List.drop_take, e1, e2]
theorem slice_to {its : List Value} {b : Nat} (hb : b ≤ its.length) : slicePick its.toArray none (some (b : Int)) none = (its.take b).toArray := by
  have := slice_run (its := its) (Nat.zero_le b) hb
  rw [List.drop_zero] at this
  rw [← this, kms_pick_eq, kms_pick_eq]
  rfl
theorem slice_from {its : List Value} {a : Nat} (hb : a ≤ its.length) : slicePick its.toArray (some (a : Int)) none none = (its.drop a).toArray := by
  have := slice_run (its := its) hb (Nat.le_refl _)
  rw [List.take_length] at this
  rw [← this, kms_pick_eq, kms_pick_eq]
  unfold kms_pick kms_hi
  simp
theorem sl_c {prog : Program} {w : World} {A : Around} {E : Value → Shared → Prop} {s : Shared} {g : Heap} {L l : Addr} {m : Str → Option Value} {news : List (Addr × Obj)} {value slice : PySem.Expr} {its zs : List Value} {vl vu : Value} {lo hi : Option Int} {Q : Value → Shared → Prop}
    (F : Fr g L s.heap m) (N : News g L s.heap news) (hl : s.heap.IsList l its.toArray) (pl : IsPart vl lo) (pu : IsPart vu hi) (e : slicePick its.toArray lo hi none = zs.toArray) (hz : its.length ≤ sizeLine)
    (h : ∀ D h', Fr g L h' m → News g L h' ((D, listOf zs.toArray 0) :: news) → (∀ p ∈ news, p.1 < D) → Q (.ref D) { s with heap := h' })
    (hs : subscripted slice false (.ref l) (.ref s.heap.objs.size) = operate [.ref s.heap.objs.size, .ref l] (getItem (.ref l) (.ref s.heap.objs.size)) := by with_unfolding_all rfl) (ht : ∀ r, letTemporaryGo value (.ref l) r = pure () := by intro _; with_unfolding_all rfl) :
    wpAny (model prog w) A (subscriptTail value slice (.ref l) (.ref s.heap.objs.size)) Q E { s with heap := s.heap.push { cls := .type "slice", data := .fields #[vl, vu, .none] } } :=
  kmk_slice F N hl pl pu (fun D h' F' N' l1 => h D h' F' (by rw [← e]; exact N') l1) hs ht (by simpa using hz)
theorem int_eq {a b : Int} {t : Tok} (h : a = b) : some (Value.int a t) = some (Value.int b t) := by rw [h]
example : True := by
  (k_with "exec While Compare cons nil" => (k_here; k_dflt (refine wpAny_While ?_)))
  (k_with "exec While BoolOp cons nil" => (k_here; k_dflt (refine wpAny_While ?_)))
  (k_with "last exec While" => (k_here; k_dflt (refine wpAny_While ?_)))
  trivial
theorem frun_step {cs : List (Str × Str)} {wd : Int} {n k row : Nat} {S : List Nat} (hk : k < cs.length) (hn : 0 < n) : frun cs wd n (k, row, S) = frun cs wd (n - 1) (fstep cs wd (k, row, S)) := by
  obtain ⟨n, rfl⟩ : ∃ i, n = i + 1 := ⟨n - 1, by omega⟩
  show (if k < cs.length then frun cs wd n (fstep cs wd (k, row, S)) else S) = _
  rw [if_pos hk]
  rfl
theorem frun_stop {cs : List (Str × Str)} {wd : Int} {k row : Nat} {S : List Nat} (hk : ¬ k < cs.length) : ∀ {n : Nat}, frun cs wd n (k, row, S) = S
  | 0 => rfl
  | n + 1 => by
    show (if k < cs.length then frun cs wd n (fstep cs wd (k, row, S)) else S) = _
    rw [if_neg hk]
theorem fstep_t {cs : List (Str × Str)} {wd : Int} {k row sz : Nat} {S : List Nat} (hz : sizeOf' ((cs.take (segEnd cs k)).drop k) = sz) (h1 : 0 < row) (h2 : wd < (row : Int) + (sz : Int)) : fstep cs wd (k, row, S) = (segEnd cs k, sz, insS k S) := by
  subst hz
  exact if_pos ⟨h1, by rw [Int.natCast_add]; exact h2⟩
theorem fstep_f {cs : List (Str × Str)} {wd : Int} {k row sz : Nat} {S : List Nat} (hz : sizeOf' ((cs.take (segEnd cs k)).drop k) = sz) (h : ¬ (0 < row ∧ wd < (row : Int) + (sz : Int))) : fstep cs wd (k, row, S) = (segEnd cs k, row + sz, S) := by
  subst hz
  exact if_neg fun q => h ⟨q.1, by rw [← Int.natCast_add]; exact q.2⟩
section
variable {w : World} {A : Around} {s : Shared} {p : Program} {loose : List Str} {mg mb : Str → Option Value} {g₀ : Heap}
    {Q : Value → Shared → Prop} {E : Value → Shared → Prop} {cl : Addr} {wd : Int} {vs : List Value} {cs : List (Str × Str)} {epc : Nat}
noncomputable abbrev FolJ (w : World) (cl : Addr) (wd : Int) (cs : List (Str × Str)) (n : Nat) (m' : Str → Option Value) (base : List (Addr × Obj)) : Prop := m' (Str.ofString "chunks") = some (.ref cl) ∧ (∃ t, m' (Str.ofString "width") = some (.int wd t)) ∧ ∃ r o S k row tk tr, m' (Str.ofString "folds") = some (.ref r) ∧ m' (Str.ofString "k") = some (.int (k : Nat) tk) ∧ m' (Str.ofString "row") = some (.int (row : Nat) tr) ∧ base = [(r, o)] ∧ SetC w o S ∧ cs.length ≤ k + n ∧ FInv cs wd k row S ∧ frun cs wd n (k, row, S) = foldsOf cs wd
noncomputable abbrev FolS (cl r : Addr) (wd : Int) (tw3 tk3 tr3 : Tok) (k row : Nat) (o : Obj) (cs : List (Str × Str)) (q : Nat) (m' : Str → Option Value) (base : List (Addr × Obj)) : Prop := m' (Str.ofString "chunks") = some (.ref cl) ∧ m' (Str.ofString "width") = some (.int wd tw3) ∧ m' (Str.ofString "folds") = some (.ref r) ∧ m' (Str.ofString "k") = some (.int (k : Nat) tk3) ∧ m' (Str.ofString "row") = some (.int (row : Nat) tr3) ∧ base = [(r, o)] ∧ ∃ st ts, m' (Str.ofString "stop") = some (.int (st : Nat) ts) ∧ k + 1 ≤ st ∧ st ≤ cs.length ∧ cs.length - st ≤ q ∧ ∀ j c, k + 1 ≤ j → j < st → cs[j]? = some c → c.1 = Str.ofString "\t"
noncomputable abbrev FolK (cl r : Addr) (wd : Int) (tw3 tk3 tr3 : Tok) (k row : Nat) (o : Obj) (cs : List (Str × Str)) (m' : Str → Option Value) (base : List (Addr × Obj)) : Prop := m' (Str.ofString "chunks") = some (.ref cl) ∧ m' (Str.ofString "width") = some (.int wd tw3) ∧ m' (Str.ofString "folds") = some (.ref r) ∧ m' (Str.ofString "k") = some (.int (k : Nat) tk3) ∧ m' (Str.ofString "row") = some (.int (row : Nat) tr3) ∧ base = [(r, o)] ∧ ∃ ts, m' (Str.ofString "stop") = some (.int (segEnd cs k : Nat) ts)
theorem law_folds_c {tw : Tok} (hh : A.handled = none) (G : Gd (hd.heap_39 w.params) p loose mg mb g₀) (H : g₀.StaysIn s.heap) (hcl : s.heap.get? cl = some (listOf vs.toArray epc)) (hC : Chs s.heap vs cs) (hok : ∀ c ∈ cs, OkCh c)
    (hgap : ∀ k c, 1 ≤ k → cs[k]? = some c → ¬ c.1 = Str.ofString "") (hlen : cs.length ≤ 7)
    (hroom : A.depth + 35 < recursionLimit) (hu : A.units + 400 < cLine)
    (hQ : ∀ r o s', Go [] s s' → s.heap.get? r = none → s'.heap.get? r = some o → SetC w o (foldsOf cs wd) → Q (.ref r) s') :
    wpAny (model PySem.Challenge.rw_wr0037_01.prog w) A (call (.ref 229) [.ref cl, .int wd tw]) Q E s := by
  refine' enter (binds := [(Str.ofString "chunks", .ref cl), (Str.ofString "width", .int wd tw)]) [] G H ?hn ?ho ?hcd ?hr ?hb ?hl ?hbody ?c2 ?c3 ?c4 ?c5
  k_extra "my enter"
  case hn => exact all_nil
  case hr => omega
  case hbody =>
    intro g' L' h' G' st' kp' F' N' l1
    have X' := G'.X
    have T' := G'.T
    have hC1 : Chs g' vs cs := hC.keeps fun b o e => kp' b o e (fun q => nomatch q)
    have hcl1 : g'.get? cl = some (listOf vs.toArray epc) := kp' _ _ hcl fun q => nomatch q
    have hvl := hC1.length
    clear hC
    (show wpAny _ _ _ _ _ _); k_fold
    k_steps
    rename Fr _ _ _ _ => kF
    rename News _ _ _ _ => kN
    refine loop_while (n := cs.length) (J := FolJ w cl wd cs) kF kN ?J0 ?turn
    case J0 => exact ⟨rfl, ⟨_, rfl⟩, _, _, [], 0, 0, _, _, rfl, rfl, rfl, rfl, set0_ok, by omega, ⟨Nat.zero_le _, by decide, fun _ h => (nomatch h), rfl, rfl, .inl rfl, .inl rfl⟩, rfl⟩
    case turn =>
      intro n s3 m3 b3 E3 hJ sm3 F3 N3
      k_extra "my hide"
      obtain ⟨j1, ⟨tw3, j2⟩, r, o, S, k, row, tk3, tr3, j3, j4, j5, rfl, hc3, hkn, hI, hrun⟩ := hJ
      k_extra "my back"
      k_steps
      · rename Fr _ _ _ _ => kF
        rename News _ _ _ _ => kN
        rename _ < _ => hk
        have hkl : k < cs.length := by omega
        refine loop_while2 (n := cs.length - (k + 1)) (J := FolS cl r wd tw3 tk3 tr3 k row o cs)
          (K := FolK cl r wd tw3 tk3 tr3 k row o cs) kF kN ?K0 ?kturn ?klast
        case K0 => exact ⟨j1, j2, j3, j4, j5, rfl, k + 1, _, int_eq (by omega), Nat.le_refl _, hkl, Nat.le_refl _, fun j c h1 h2 => by omega⟩
        case kturn =>
          intro n5 s5 m5 b5 E5 hJ5 sm5 F5 N5
          k_extra "my hide"
          obtain ⟨i1, i2, i3, i4, i5, rfl, st, ts, i6, i7, i8, i9, i10⟩ := hJ5
          k_extra "my back"
          by_cases hst : st < cs.length
          · obtain ⟨c, hc⟩ : ∃ c, cs[st]? = some c := ⟨_, List.getElem?_eq_getElem hst⟩
            cases ht : (c.1 == Str.ofString "\t")
            · k_steps
              rename Fr _ _ _ _ => kF
              rename News _ _ _ _ => kN
              have es := segEnd_of i7 i10 i8 (fun c' e => by rw [hc] at e; cases e; intro q; rw [q] at ht; simp at ht)
              refine ⟨⟨by k_extra "my os", by k_extra "my gens"⟩, m5, [(r, o)], ⟨i1, i2, i3, i4, i5, rfl, ts, es ▸ i6⟩, kF, kN⟩
            · k_steps
              rename Fr _ _ _ _ => kF
              rename News _ _ _ _ => kN
              refine ⟨n5 - 1, by omega, ⟨by k_extra "my os", by k_extra "my gens"⟩, _, [(r, o)], ⟨by exact i1, by exact i2, by exact i3, by exact i4, by exact i5, rfl, st + 1, _, by exact int_eq (by omega), by omega, by omega, by omega, fun j c' h1 h2 e => ?_⟩, kF, kN⟩
              by_cases hj : j = st
              · subst hj; rw [hc] at e; cases e; exact eq_of_beq ht
              · exact i10 j c' h1 (by omega) e
          · k_steps
            have es := segEnd_of i7 i10 i8 (fun c' e => by rw [List.getElem?_eq_none (by omega)] at e; cases e)
            refine ⟨⟨by k_extra "my os", by k_extra "my gens"⟩, m5, [(r, o)], ⟨i1, i2, i3, i4, i5, rfl, ts, es ▸ i6⟩, F5, N5⟩
        case klast =>
          intro s5 m5 b5 E5 hJ5 sm5 F5 N5
          k_extra "my hide"
          obtain ⟨i1, i2, i3, i4, i5, rfl, ts, i6⟩ := hJ5
          k_extra "my back"
          have he1 := segEnd_le hkl
          have he2 := segEnd_gt (cs := cs) (k := k)
          have l5 : ∀ p ∈ [(r, o)], p.1 < s5.heap.objs.size := fun p hp => Heap.lt_size (N5 p hp).1
          k_steps
          refine sl_c F5 N5 ⟨_, F5.keep _ _ hcl1, rfl, _, rfl⟩ (.int k _) (.int (segEnd cs k : Nat) _) (slice_run (Nat.le_of_lt he2) (by omega)) (by rw [sizeLine_eq]; omega) ?_
          intro D h6 F6 N6 l6
          k_lt l6
          k_steps
          rename Fr _ _ _ _ => kF
          rename News _ _ _ _ => kN
          have hsz := size_le (cs := (cs.take (segEnd cs k)).drop k) fun c hc => hok c (List.mem_of_mem_take (List.mem_of_mem_drop hc))
          have hszl : ((cs.take (segEnd cs k)).drop k).length ≤ 7 := by rw [List.length_drop, List.length_take]; omega
          refine law_size_c (cs := (cs.take (segEnd cs k)).drop k) hh G' kF.keep (kN.get (by k_extra "my mem")) (((hC1.keeps kF.keep).take _).drop _) (fun c hc => hok c (List.mem_of_mem_take (List.mem_of_mem_drop hc))) (by omega) (by k_extra "my room") (by k_extra "my room") fun t7 s7 k7 => ?_
          refine then0 (Go.kp k7) kF kN fun F7 N7 => ?_
          clear kF kN
          have hstep := finv_step hok hgap hlen hI hkl
          have hn0 : 0 < n := by omega
          rw [frun_step hkl hn0] at hrun
          have hk0 : 0 < row → k ∈ [1, 2, 3, 4, 5, 6] := fun hr => by
            refine mem_1_6 (Nat.pos_of_ne_zero fun e => ?_) (by omega)
            subst e
            have := hI.row
            have e0 : sizeOf' (grp cs (fun j => S.contains j) 0).2 = 0 := rfl
            omega
          generalize hz : sizeOf' ((cs.take (segEnd cs k)).drop k) = sz at hsz
          by_cases c1 : 0 < row
          · by_cases c2 : wd < (row : Int) + (sz : Int)
            · rw [fstep_t hz c1 c2] at hstep hrun
              have hk6 := hk0 c1
              k_steps
              rename Fr _ _ _ _ => kF
              rename News _ _ _ _ => kN
              refine' setAdd_L kF kN ?U hc3 hk6 ?_
              case U => k_updF
              intro h9 o9 tk9 F9 N9 hc9
              k_steps
              rename Fr _ _ _ _ => kF
              rename News _ _ _ _ => kN
              refine ⟨n - 1, by omega, ⟨by k_extra "my os", by k_extra "my gens"⟩, _, [(r, o9)], ⟨by exact i1, ⟨_, by exact i2⟩, r, o9, insS k S, segEnd cs k, sz, _, _, by exact i3, by exact rfl, by exact int_eq (by omega), rfl, hc9, by omega, hstep, hrun⟩, kF, fun p hp => kN p (SubL.mem (by k_subL) p hp)⟩
            · rw [fstep_f hz (fun h => c2 h.2)] at hstep hrun
              k_steps
              rename Fr _ _ _ _ => kF
              rename News _ _ _ _ => kN
              refine ⟨n - 1, by omega, ⟨by k_extra "my os", by k_extra "my gens"⟩, _, [(r, o)], ⟨by exact i1, ⟨_, by exact i2⟩, r, o, S, segEnd cs k, row + sz, _, _, by exact i3, by exact rfl, by exact int_eq (by omega), rfl, hc3, by omega, hstep, hrun⟩, kF, fun p hp => kN p (SubL.mem (by k_subL) p hp)⟩
          · rw [fstep_f hz (fun h => c1 h.1)] at hstep hrun
            k_steps
            rename Fr _ _ _ _ => kF
            rename News _ _ _ _ => kN
            refine ⟨n - 1, by omega, ⟨by k_extra "my os", by k_extra "my gens"⟩, _, [(r, o)], ⟨by exact i1, ⟨_, by exact i2⟩, r, o, S, segEnd cs k, row + sz, _, _, by exact i3, by exact rfl, by exact int_eq (by omega), rfl, hc3, by omega, hstep, hrun⟩, kF, fun p hp => kN p (SubL.mem (by k_subL) p hp)⟩
      · rename ¬ _ < _ => hk
        rw [frun_stop (by omega)] at hrun
        rw [hrun] at hc3
        (try dsimp only)
        (show Q _ _)
        have z := N3 (r, o) (.head _)
        have hr0 : s.heap.get? r = none := fresh_out kp' z.2.2 all_nil
        refine hQ _ o _ (.fin (kp_out kp' F3 N3 all_nil all_nil) (by k_extra "my os") (by k_extra "my gens")) hr0 z.1 hc3
end

theorem allNe_to {r : Addr} : ∀ {ls : List (Addr × Obj)}, AllNe r ls → ∀ p ∈ ls, p.1 ≠ r
  | [], _ => all_nil
  | _ :: _, h => all_cons h.1 (allNe_to h.2)
example : True := by
  (k_with "my os" => ((try dsimp only); repeat (first | (with_reducible exact rfl) | (refine Eq.trans (Go.os (by assumption)) ?_; (try dsimp only)) | (refine Eq.trans (Sm.os (by assumption)) ?_; (try dsimp only)))))
  (k_with "my gens" => ((try dsimp only); intro hbₘ; repeat (first | (with_reducible exact hbₘ) | (refine Go.gens (by assumption) ?_; (try dsimp only)) | (refine Sm.gens (by assumption) ?_; (try dsimp only)))))
  (k_with "my k_all" => (first | assumption | exact allNe_to (by assumption)))
  (k_with "my chs" => (refine' Tail.at (by assumption) (by k_asm) (by intro _ hpₘ; repeat (first | exact hpₘ | refine List.mem_cons_of_mem _ ?_))))
  trivial
theorem news_tl {g h : Heap} {L : Addr} {a : Addr × Obj} {l : List (Addr × Obj)} (N : News g L h (a :: l)) : News g L h l := fun p hp => N p (.tail _ hp)
theorem Tail.snoc {ex : List (Addr × Obj)} {its : List Value} {cs : List (Str × Str)} {r : Addr} {c : Str × Str} {t t' : Tok} (T : Tail ex its cs) : Tail ((r, tupObj c.1 c.2 t t') :: ex) (its ++ [.ref r]) (cs ++ [c]) :=
  ⟨fun p hp => by
    rcases List.mem_cons.mp hp with rfl | hp
    · rfl
    · exact T.cls p hp, fun h' hk => (T.chs h' fun p hp => hk p (.tail _ hp)).append (.one ⟨r, t, t', rfl, hk _ (.head _)⟩)⟩
theorem Tail.take {ex : List (Addr × Obj)} {its : List Value} {cs : List (Str × Str)} (T : Tail ex its cs) (k : Nat) : Tail ex (its.take k) (cs.take k) := ⟨T.cls, fun h' hk => (T.chs h' hk).take k⟩
theorem ints_get {vs : List Value} {ns : List Int} {i : Nat} {v : Value} (C : IntsAre vs ns) (h : vs[i]? = some v) : ∃ n t, ns[i]? = some n ∧ v = .int n t := by
  induction C generalizing i with
  | nil => exact absurd (h.symm.trans List.getElem?_nil) (Option.some_ne_none _)
  | cons n t _ ih =>
    cases i with
    | zero => exact ⟨n, t, rfl, (Option.some.inj h).symm⟩
    | succ i => exact ih h
theorem segT_len {cs : List (Str × Str)} {f : Nat → Bool} {m : Nat} (hok : ∀ c ∈ cs, OkCh c) : ∀ {n : Nat}, m ≤ n → n ≤ cs.length → (segT cs f m n).length ≤ 8 * (n - m) := by
  intro n hn hl
  obtain ⟨i, rfl⟩ := Nat.exists_eq_add_of_le hn
  clear hn
  induction i with
  | zero => rw [Nat.add_zero, segT_self]; exact Nat.zero_le _
  | succ i ih =>
    have := ih (by omega)
    have okc := getD_ok hok (k := m + i) (by omega)
    have h1 := okc.glen
    have h2 := okc.wlen
    rw [← Nat.add_assoc, segT_succ (by omega), List.length_append, List.length_append, chL_len]
    have h3 : (if f (m + i) then dotL else []).length ≤ 3 := by split <;> simp
    omega
section
variable {w : World} {A : Around} {s : Shared} {p : Program} {loose : List Str} {mg mb : Str → Option Value} {g₀ : Heap}
    {Q : Value → Shared → Prop} {E : Value → Shared → Prop} {cl pl : Addr} {vs : List Value} {cs : List (Str × Str)} {epc : Nat} {o : Obj} {S : List Nat}
noncomputable abbrev WantJ (x pl d it : Addr) (hs : Int) (t t' : Tok) (ps2 : Array Value) (cs : List (Str × Str)) (n : Nat) (m' : Str → Option Value) (base : List (Addr × Obj)) : Prop := m' (Str.ofString "held") = some (.ref x) ∧ m' (Str.ofString "folds") = some (.ref pl) ∧ ∃ its ep ex, base = (x, accObj d its ep) :: (d, accDict hs t t') :: (147, tabObj ps2) :: ex ∧ Tail ex its (cs.take n) ∧ (∀ p ∈ ex, p.1 ≠ x) ∧ (∀ p ∈ ex, p.1 ≠ it)
noncomputable abbrev WantK (x D d it2 : Addr) (vs5 : List Value) (e5 : Nat) (hs : Int) (t t' : Tok) (cs : List (Str × Str)) (S : List Nat) (i : Nat) (m' : Str → Option Value) (base : List (Addr × Obj)) : Prop := m' (Str.ofString "held") = some (.ref x) ∧ ∃ W tW mm its ep ps ex, m' (Str.ofString "want") = some (.str W tW) ∧ base = (D, listOf vs5.toArray e5) :: (x, accObj d its ep) :: (d, accDict hs t t') :: (147, tabObj ps) :: ex ∧ TriplesOk ps.toList ∧ Tail ex its (cs.take mm) ∧ (∀ p ∈ ex, p.1 ≠ x) ∧ (∀ p ∈ ex, p.1 ≠ D) ∧ (∀ p ∈ ex, p.1 ≠ it2) ∧ mm ≤ cs.length ∧ tl W = segT cs (fun j => S.contains j) mm cs.length ∧ (∀ j ∈ S.reverse.take i, mm ≤ j) ∧ (∀ j ∈ S.reverse.drop i, j < mm)
theorem law_want_c (hh : A.handled = none) (G : Gd (hd.heap_39 w.params) p loose mg mb g₀) (H : g₀.StaysIn s.heap) (hcl : s.heap.get? cl = some (listOf vs.toArray epc)) (hC : Chs s.heap vs cs) (hok : ∀ c ∈ cs, OkCh c)
    (hlen : cs.length ≤ 7) (hpl : s.heap.get? pl = some o) (hc : SetC w o S) (hS : ∀ j ∈ S, j < cs.length)
    (hT2 : TB g₀ s.heap 147)
    (hroom : A.depth + 45 < recursionLimit) (hu : A.units + 500 < cLine)
    (hQ : ∀ t s', Go [147] s s' → TB g₀ s'.heap 147 → Q (.str (plainT cs (fun j => S.contains j) cs.length) t) s') :
    wpAny (model PySem.Challenge.rw_wr0037_01.prog w) A (call (.ref 250) [.ref cl, .ref pl]) Q E s := by
  obtain ⟨ps2, hps2, tr2, hps02⟩ := hT2
  have hn : ∀ z ∈ [((147 : Addr), tabObj ps2)], s.heap.get? z.1 = some z.2 := all_cons hps2 all_nil
  have ht : ∀ z ∈ [((147 : Addr), tabObj ps2)], z.2.cls ≠ .type "tuple" := all_cons mcls_tab all_nil
  refine' enter (binds := [(Str.ofString "chunks", .ref cl), (Str.ofString "folds", .ref pl)]) [(147, tabObj ps2)] G H ?hn ?ho ?hcd ?hr ?hb ?hl ?hbody ?c2 ?c3 ?c4 ?c5
  k_extra "my enter"
  case hn => exact all_cons ⟨hps2, hps02⟩ all_nil
  case hr => omega
  case hbody =>
    intro g' L' h' G' st' kp' F' N' l1
    have X' := G'.X
    have T' := G'.T
    have hC1 : Chs g' vs cs := chs_ground hC kp' hn ht
    have hcl1 : g'.get? cl = some (listOf vs.toArray epc) := kp' _ _ hcl fun hm => by
      obtain ⟨z, hz, e⟩ := List.mem_map.mp hm
      have := hn z hz
      rw [e, hcl] at this
      rcases List.mem_cons.mp hz with rfl | hz
      · cases this
      · cases hz
    have hpl1 : g'.get? pl = some o := kp' _ _ hpl fun hm => by
      obtain ⟨z, hz, e⟩ := List.mem_map.mp hm
      have := hn z hz
      rw [e, hpl] at this
      k_extra "my hide"
      obtain ⟨tk, ep, m, mv, rfl, _⟩ := id hc
      k_extra "my back"
      rcases List.mem_cons.mp hz with rfl | hz
      · cases this
      · cases hz
    have hvl := hC1.length
    clear hn ht hC
    k_lt l1
    (show wpAny _ _ _ _ _ _); k_fold
    k_steps
    refine wpAny_For ?_
    k_steps
    rename Fr _ _ _ _ => kF
    rename News _ _ _ _ => kN
    refine iter_list_L kF kN (kF.keep _ _ hcl1) ?_
    intro it o3 h3 F3 N3 l3 lo
    have l3' := l3
    k_lt l3
    rename_i x d s1 ep hs t t' k1 e1 e2 e3 h1
    obtain ⟨o1, o2, o3', -⟩ := l3
    refine loop_list (its := vs) (ep := epc) (J := WantJ x pl d it hs t t' ps2 cs) hh F3 N3 lo (fun p hp => Nat.ne_of_lt (l3' p hp)) ?J0 (fun _ _ _ _ => .inr hcl1) ?turn ?last
    case J0 => exact ⟨rfl, rfl, [], _, [], rfl, ⟨fun _ q => (nomatch q), fun _ _ => .nil⟩, all_nil, all_nil⟩
    case turn =>
      intro n s4 m4 base4 v o4' E4 hv lo4 hJ sm4 F4 N4 off4
      k_extra "my hide"
      obtain ⟨hm1, hm2, its, ep4, ex, rfl, hX, hxx, hxi⟩ := hJ
      k_extra "my back"
      have hn : n < cs.length := by rw [← hvl]; exact (List.getElem?_eq_some_iff.mp hv).1
      k_extra "my hide"
      obtain ⟨c, hc'⟩ : ∃ c, cs[n]? = some c := ⟨_, List.getElem?_eq_getElem hn⟩
      obtain ⟨v', hv', rr, ta, tb, rfl, ho⟩ := hC1.get n c hc'
      k_extra "my back"
      rw [hv] at hv'; cases hv'
      have okc := hok c (List.mem_of_getElem? hc')
      have hcx : Chs s4.heap its (cs.take n) := hX.chs _ fun p hp => (N4 p (by repeat (first | exact hp | refine List.mem_cons_of_mem _ ?_))).1
      have hil := hcx.length
      have hil2 : its.length ≤ 7 := by rw [hil, List.length_take]; omega
      k_steps
      rename News _ _ _ _ => N5
      rename_i r5 s5 ep5 k5 F5 q1 q2 q3 q4
      refine ⟨⟨by k_extra "my os", by k_extra "my gens"⟩, _, (x, accObj d (its ++ [.ref r5]) ep5) :: (d, accDict hs t t') :: (147, tabObj ps2) :: (r5, tupObj c.1 c.2 ta tb) :: ex, o4', lo4, ⟨by exact hm1, by exact hm2, its ++ [.ref r5], ep5, (r5, tupObj c.1 c.2 ta tb) :: ex, rfl, ?tl, ?nx, ?ni⟩, F5, ?nn, ?no⟩
      case tl => rw [List.take_add_one, hc']; exact hX.snoc
      case nx => exact all_cons (Ne.symm q2) hxx
      case ni => exact all_cons (Ne.symm q1) hxi
      case nn =>
        exact all_cons (N5 _ (by k_extra "my mem")) (all_cons (N5 _ (by k_extra "my mem")) (all_cons (N5 _ (by k_extra "my mem")) (all_cons (N5 _ (by k_extra "my mem")) (all_cons (N5 _ (by k_extra "my mem")) fun p hp => N5 p (by repeat (first | exact hp | refine List.mem_cons_of_mem _ ?_))))))
      case no =>
        intro p hp
        simp only [List.mem_cons] at hp
        rcases hp with h | h | h | h | h
        · rw [h]; exact Nat.ne_of_lt o1
        · rw [h]; exact Nat.ne_of_lt o2
        · rw [h]; exact Nat.ne_of_lt o3'
        · rw [h]; exact Ne.symm q1
        · exact hxi p h
    case last =>
      intro s4 m4 base4 E4 hJ sm4 F4 N4
      k_extra "my hide"
      obtain ⟨hm1, hm2, its, ep4, ex, rfl, hX, hxx, hxi⟩ := hJ
      k_extra "my back"
      rw [hvl, List.take_length] at hX
      have hcx : Chs s4.heap its cs := hX.chs _ fun p hp => (N4 p (by repeat (first | exact hp | refine List.mem_cons_of_mem _ ?_))).1
      have hil := hcx.length
      k_steps
      rename Fr _ _ _ _ => kF
      rename News _ _ _ _ => kN
      (with_unfolding_all refine' sorted_L hh kF kN hc (kF.keep _ _ hpl1) ?_)
      intro D h5 tk5 vs5 e5 F5 N5 l5 hI5
      have hexD : ∀ p ∈ ex, p.1 ≠ D := fun p hp => l5 p (by repeat (first | exact hp | refine List.mem_cons_of_mem _ ?_))
      have l6 := allNe_of l5
      simp only [AllNe] at l6
      obtain ⟨a1, a2, a3, -⟩ := l6
      k_steps
      rename Fr _ _ _ _ => kF
      rename News _ _ _ _ => kN
      refine iter_list_L kF kN (kN.get (by k_extra "my mem")) ?_
      intro it2 o7 h7 F7 N7 l7 lo7
      have l8 := allNe_of fun p hp => Nat.ne_of_lt (l7 p hp)
      simp only [AllNe] at l8
      k_extra "my hide"
      obtain ⟨b1, b2, b3, b4, -⟩ := l8
      k_extra "my back"
      have hexi : ∀ p ∈ ex, p.1 ≠ it2 := fun p hp => Nat.ne_of_lt (l7 p (by repeat (first | exact hp | refine List.mem_cons_of_mem _ ?_)))
      have hSs : S ∈ subs := by obtain ⟨_, _, _, _, _, q, _⟩ := hc; exact q
      have hvl5 : vs5.length = S.length := by have := hI5.length; simpa using this
      have hS6 := subs_len S hSs
      have hdesc : S.reverse.Pairwise (· > ·) := by rw [List.pairwise_reverse]; exact (subs_asc S hSs).imp fun h => h
      refine loop_list (its := vs5) (ep := e5) (J := WantK x D d it2 vs5 e5 hs t t' cs S) hh F7 N7 lo7 (fun p hp => Nat.ne_of_lt (l7 p hp)) ?K0 ?kl ?kturn ?klast
      case K0 => exact ⟨hm1, _, _, cs.length, its, _, _, ex, rfl, rfl, tr2, by rw [List.take_length]; exact hX, hxx, hexD, hexi, Nat.le_refl _, by rw [segT_self]; exact tl_empty, fun j hj => (nomatch hj), fun j hj => hS j (List.mem_reverse.mp hj)⟩
      case kl =>
        intro k m' b hJ
        k_extra "my hide"
        obtain ⟨_, _, _, _, _, _, _, _, _, rfl, _⟩ := hJ
        k_extra "my back"
        exact .inl (.head _)
      case kturn =>
        intro i s8 m8 b8 v o8 E8 hv lo8 hJ sm8 F8 N8 off8
        k_extra "my hide"
        obtain ⟨i1, W, tW, mm, its8, ep8, ps8, ex8, i2, rfl, tr8, hX8, n1, n2, n3, hmm, hW, hp1, hp2⟩ := hJ
        obtain ⟨pv, pt, hpv, rfl⟩ := ints_get hI5 hv
        k_extra "my back"
        obtain ⟨pn, hpn, rfl⟩ : ∃ pn, S.reverse[i]? = some pn ∧ pv = (pn : Int) := by
          rw [List.getElem?_map] at hpv
          cases e : S.reverse[i]? with
          | none => rw [e] at hpv; cases hpv
          | some z => rw [e] at hpv; exact ⟨z, rfl, (Option.some.inj hpv).symm⟩
        have hdr : S.reverse.drop i = pn :: S.reverse.drop (i + 1) := by
          obtain ⟨hlt, he⟩ := List.getElem?_eq_some_iff.mp hpn
          rw [List.drop_eq_getElem_cons hlt, he]
        have hpm : pn < mm := hp2 pn (by rw [hdr]; exact .head _)
        have hlow : ∀ j ∈ S.reverse.drop (i + 1), j < pn := fun j hj => by
          have := hdesc.sublist (List.drop_sublist i _)
          rw [hdr] at this
          exact (List.pairwise_cons.mp this).1 j hj
        have hcx8 : Chs s8.heap its8 (cs.take mm) := hX8.chs _ fun p hp => (N8 p (by repeat (first | exact hp | refine List.mem_cons_of_mem _ ?_))).1
        have hil8 : its8.length = mm := by rw [hcx8.length, List.length_take]; omega
        have n4 : ∀ p ∈ ex8, p.1 ≠ 147 := hX8.ne (fun p hp => N8 p (by repeat (first | exact hp | refine List.mem_cons_of_mem _ ?_))) (N8 (147, tabObj ps8) (by k_extra "my mem")).1 mcls_tab
        have hWl : W.length ≤ 60 := by rw [tl_len, hW]; have := segT_len (f := fun j => S.contains j) hok hmm (Nat.le_refl _); omega
        have hsz8 := size_le (cs := (cs.take mm).drop pn) fun c hc => hok c (List.mem_of_mem_take (List.mem_of_mem_drop hc))
        have hszz : sizeOf' ((cs.take mm).drop pn) ≤ 40 := by
          have : ((cs.take mm).drop pn).length ≤ 7 := by rw [List.length_drop, List.length_take]; omega
          omega
        have htl8 : (textOf ((cs.take mm).drop pn)).length ≤ 40 := by rw [textOf_length]; exact hszz
        have hdl8 : (its8.drop pn).length < 1000 := by rw [List.length_drop]; omega
        have hd3 : (Str.ofString "...").length = 3 := by decide +kernel
        k_steps
        rename Fr _ _ _ _ => kF
        rename News _ _ _ _ => kN
        have hSrev : ∀ j, S.contains j = true → j ∈ S.reverse.take i ∨ j ∈ S.reverse.drop i := fun j hj => by
          have := List.mem_reverse.mpr (List.contains_iff_mem.mp hj)
          rw [← List.take_append_drop i S.reverse] at this
          exact List.mem_append.mp this
        have hfp : S.contains pn = true := List.contains_iff_mem.mpr (List.mem_reverse.mp (List.mem_of_mem_drop (by rw [hdr]; exact .head _)))
        have hff : ∀ j, pn < j → j < mm → S.contains j = false := fun j h1 h2 => by
          cases e : S.contains j with
          | false => rfl
          | true =>
            rcases hSrev j e with q | q
            · have := hp1 j q; omega
            · rw [hdr] at q
              rcases List.mem_cons.mp q with q | q
              · omega
              · have := hlow j q; omega
        refine ⟨⟨by k_extra "my os", by k_extra "my gens"⟩, _, _, o8, lo8, ⟨by exact i1, _, _, pn, its8.take pn, _, _, ex8, by exact rfl, by exact rfl, by assumption, ?q1, n1, n2, n3, by omega, want_step hW hpm hmm (Nat.le_refl _) hfp hff, ?q2, hlow⟩, kF, news_tl (news_tl (news_tl kN)), ?q4⟩
        case q1 =>
          have := hX8.take pn
          rwa [List.take_take, Nat.min_eq_left (by omega)] at this
        case q2 =>
          intro j hj
          rw [List.take_add_one, hpn] at hj
          rcases List.mem_append.mp hj with q | q
          · have := hp1 j q; omega
          · rw [List.mem_singleton.mp q]; exact Nat.le_refl _
        case q4 =>
          exact all_cons b1 (all_cons b2 (all_cons b3 (all_cons b4 n3)))
      case klast =>
        intro s8 m8 b8 E8 hJ sm8 F8 N8
        k_extra "my hide"
        obtain ⟨i1, W, tW, mm, its8, ep8, ps8, ex8, i2, rfl, tr8, hX8, n1, n2, n3, hmm, hW, hp1, hp2⟩ := hJ
        k_extra "my back"
        have hcx8 : Chs s8.heap its8 (cs.take mm) := hX8.chs _ fun p hp => (N8 p (by repeat (first | exact hp | refine List.mem_cons_of_mem _ ?_))).1
        have hil8 : its8.length = mm := by rw [hcx8.length, List.length_take]; omega
        have n4 : ∀ p ∈ ex8, p.1 ≠ 147 := hX8.ne (fun p hp => N8 p (by repeat (first | exact hp | refine List.mem_cons_of_mem _ ?_))) (N8 (147, tabObj ps8) (by k_extra "my mem")).1 mcls_tab
        have hWl : W.length ≤ 60 := by rw [tl_len, hW]; have := segT_len (f := fun j => S.contains j) hok hmm (Nat.le_refl _); omega
        have hsz8 := size_le (cs := cs.take mm) fun c hc => hok c (List.mem_of_mem_take hc)
        have hszz : sizeOf' (cs.take mm) ≤ 40 := by rw [List.length_take] at hsz8; omega
        have htl8 : (textOf (cs.take mm)).length ≤ 40 := by rw [textOf_length]; exact hszz
        k_steps
        rename Fr _ _ _ _ => kF
        rename News _ _ _ _ => kN
        have hf0 : ∀ j, j < mm → S.contains j = false := fun j h1 => by
          cases e : S.contains j with
          | false => rfl
          | true =>
            have q := List.mem_reverse.mpr (List.contains_iff_mem.mp e)
            rw [← List.take_of_length_le (l := S.reverse) (i := vs5.length) (by rw [List.length_reverse]; omega)] at q
            have := hp1 j q
            omega
        (try dsimp only)
        (show Q _ _)
        rw [want_last hW hmm (Nat.le_refl _) hf0]
        refine hQ _ _ (.fin (kp_out kp' kF kN (all_cons hps2 all_nil) (all_cons (.inl (by k_extra "my mem")) all_nil)) (by k_extra "my os") (by k_extra "my gens")) ⟨_, kN.get (by k_extra "my mem"), by assumption, hps02⟩
end

section
open PySem.Builtin PySem.Builtin.Str
theorem gives_find4 (x y : Str) (i j : Int) (t u v v' : Tok) : Gives («str.find» ⟨[.str x t, .str y u, .int i v, .int j v'], []⟩) (.int (match occurrences x y (fromIndex x.length i) (min (fromIndex x.length j) x.length) 1 with | k :: _ => (k : Int) | [] => -1)) := by
  show Gives (match occurrences x y (fromIndex x.length i) (min (fromIndex x.length j) x.length) 1 with | k :: _ => retInt k | [] => (do rule "str.find.not-found"; retInt (-1))) _
  cases occurrences x y (fromIndex x.length i) (min (fromIndex x.length j) x.length) 1 with
  | nil => exact .rule (.of_eq rfl)
  | cons k _ => exact .of_eq rfl
theorem from_nat (n i : Nat) : fromIndex n (i : Int) = i := by
  unfold fromIndex
  rw [if_neg (by omega)]
  omega
theorem find4 {prog : Program} {w : World} {A : Around} {E : Value → Shared → Prop} {s : Shared} {x y : Str} {t u v v' : Tok} {i j : Nat} {Q : Value → Shared → Prop} (hj : j ≤ x.length)
    (hq : ∀ tk k, Q (.int (match occurrences x y i j 1 with | k :: _ => (k : Int) | [] => -1) tk) { s with toks := k }) :
    wpAny (model prog w) A (call (.builtin "str.find") [.str x t, .str y u, .int (i : Int) v, .int (j : Int) v']) Q E s := by
  refine call_gives F.slot_str_find (typeIs_str _ _ _) F.entry_str_find (F.args_str_find_4 _ _ _ _) (gives_find4 x y i j t u v v') ?_
  rw [from_nat, from_nat, Nat.min_eq_left hj]
  exact hq _ _
theorem find4n {prog : Program} {w : World} {A : Around} {E : Value → Shared → Prop} {s : Shared} {x y : Str} {t u v v' : Tok} {i j : Nat} {Q : Value → Shared → Prop} (hj : j ≤ x.length) (ho : occurrences x y i j 1 = [])
    (hq : ∀ tk k, Q (.int (-1) tk) { s with toks := k }) : wpAny (model prog w) A (call (.builtin "str.find") [.str x t, .str y u, .int (i : Int) v, .int (j : Int) v']) Q E s :=
  find4 hj (by rw [ho]; exact hq)
theorem find4s {prog : Program} {w : World} {A : Around} {E : Value → Shared → Prop} {s : Shared} {x y : Str} {t u v v' : Tok} {i j k : Nat} {r : List Nat} {Q : Value → Shared → Prop} (hj : j ≤ x.length) (ho : occurrences x y i j 1 = k :: r)
    (hq : ∀ tk k', Q (.int (k : Int) tk) { s with toks := k' }) : wpAny (model prog w) A (call (.builtin "str.find") [.str x t, .str y u, .int (i : Int) v, .int (j : Int) v']) Q E s :=
  find4 hj (by rw [ho]; exact hq)
end
section
variable {prog : Program} {w : World} {A : Around} {E : Value → Shared → Prop} {s : Shared} {g : Heap} {L D : Addr} {m : Str → Option Value} {news news' : List (Addr × Obj)} {n : Nat}
theorem unpack2_L {a b : Value} {Q : List Value → Shared → Prop} (F : Fr g L s.heap m) (N : News g L s.heap news) (hm : (D, ({ cls := .type "tuple", data := .seq #[a, b] } : Obj)) ∈ news) (hh : A.handled = none) (hn : n = 2)
    (h : ∀ h', Fr g L h' m → News g L h' news → Q [a, b] { s with heap := h' }) : wpAny (model prog w) A (unpackItems (.ref D) n none) Q E s :=
  unpackItemsN_ (items := #[a, b]) F N ⟨_, (N _ hm).1, rfl, 0, rfl⟩ hh hn h
theorem item_first {value slice : Expr} {v : Value} {r : List Value} {ep : Nat} {u : Tok} {Q : Value → Shared → Prop} (N : News g L s.heap news) (hm : (D, listOf (v :: r).toArray ep) ∈ news) (h : Q v s)
    (hs : subscripted slice false (.ref D) (.int 0 u) = operate [.ref D, .int 0 u] (getItem (.ref D) (.int 0 u)) := by with_unfolding_all rfl) : wpAny (model prog w) A (subscriptTail value slice (.ref D) (.int 0 u)) Q E s :=
  item_litK (vs := v :: r) ⟨_, (N _ hm).1, rfl, _, rfl⟩ (by decide) (by decide) rfl h hs
theorem item_last {value slice : Expr} {v : Value} {r : List Value} {ep : Nat} {u : Tok} {Q : Value → Shared → Prop} (N : News g L s.heap news) (hm : (D, listOf (r ++ [v]).toArray ep) ∈ news) (h : Q v s)
    (hs : subscripted slice false (.ref D) (.int (-1) u) = operate [.ref D, .int (-1) u] (getItem (.ref D) (.int (-1) u)) := by with_unfolding_all rfl) : wpAny (model prog w) A (subscriptTail value slice (.ref D) (.int (-1) u)) Q E s := by
  refine kde_neg (vs := r ++ [v]) (j := r.length) ⟨_, (N _ hm).1, rfl, _, rfl⟩ (by decide) (by decide) ?_ (by simp) h hs
  rw [StrLaws.seqIndex_neg (by decide) (by simp; omega)]
  simp
  omega
theorem del_first {v : Value} {r : List Value} {ep : Nat} {u : Tok} {Q : Unit → Shared → Prop} (F : Fr g L s.heap m) (N : News g L s.heap news) (U : Upd D (listOf (v :: r).toArray ep) (listOf r.toArray (ep + 1)) news news') (hz : r.length < 1000)
    (h : ∀ h', Fr g L h' m → News g L h' news' → Q () { s with heap := h' }) : wpAny (model prog w) A (delItem (.ref D) (.int 0 u)) Q E s := by
  have z := N _ (Upd.mem U)
  obtain ⟨pre, post, e1, e2, a1, b1⟩ := U.split
  refine delItem_at (k := 0) z.1 (by decide +kernel) (by rw [StrLaws.seqIndex_nonneg (by decide) (by simp)]; rfl) (fun h' hs ho => h h' (F.change hs z.2.1 z.2.2) ?_) (by rw [sizeLine_eq]; simp; omega)
  rw [e2]
  rw [e1] at N
  exact news_set N a1 b1 hs (by simpa using ho)
theorem del_last {v : Value} {r : List Value} {ep : Nat} {u : Tok} {Q : Unit → Shared → Prop} (F : Fr g L s.heap m) (N : News g L s.heap news) (U : Upd D (listOf (r ++ [v]).toArray ep) (listOf r.toArray (ep + 1)) news news') (hz : r.length < 1000)
    (h : ∀ h', Fr g L h' m → News g L h' news' → Q () { s with heap := h' }) : wpAny (model prog w) A (delItem (.ref D) (.int (-1) u)) Q E s := by
  have z := N _ (Upd.mem U)
  obtain ⟨pre, post, e1, e2, a1, b1⟩ := U.split
  refine delItem_at (k := r.length) z.1 (by decide +kernel) (by rw [StrLaws.seqIndex_neg (by decide) (by simp; omega)]; simp; omega) (fun h' hs ho => h h' (F.change hs z.2.1 z.2.2) ?_) (by rw [sizeLine_eq]; simp; omega)
  rw [e2]
  rw [e1] at N
  exact news_set N a1 b1 hs (by rw [ho]; congr 2; simp [List.eraseIdx_append])
end
example : True := by
  (k_with "subscriptTail" => (k_here; (with_reducible show wpAny _ _ (subscriptTail _ _ (Value.ref _) (Value.int 0 _)) _ _ _); k_dflt (refine' item_first (by k_asm) (by k_extra "my mem") ?_); k_whole))
  (k_with "subscriptTail" => (k_here; (with_reducible show wpAny _ _ (subscriptTail _ _ (Value.ref _) (Value.int (-1) _)) _ _ _); k_dflt (refine' item_last (by k_asm) (by k_extra "my mem") ?_); k_whole))
  (k_with "delItem ref int" => (k_here; (with_reducible show wpAny _ _ (delItem (Value.ref _) (Value.int 0 _)) _ _ _); k_dflt (refine' del_first (by k_asm) (by k_asm) (by k_upd) (by k_extra "my nat") ?_); intro _ _ _; (try k_sweep)))
  (k_with "delItem ref int" => (k_here; (with_reducible show wpAny _ _ (delItem (Value.ref _) (Value.int (-1) _)) _ _ _); k_dflt (refine' del_last (by k_asm) (by k_asm) (by k_upd) (by k_extra "my nat") ?_); intro _ _ _; (try k_sweep)))
  (k_with "call builtin:str.find" => (k_here; k_dflt (first | (refine' find4n ?jₘ ?oₘ ?_; (case oₘ => assumption); (case jₘ => omega)) | (refine' find4s ?jₘ ?oₘ ?_; (case oₘ => assumption); (case jₘ => omega))); intro _ _))
  (k_with "my unpack2" => (k_dflt (refine' unpack2_L (by k_asm) (by k_asm) (by k_extra "my mem") (by assumption) (by exact rfl) ?_); intro _ _ _; (try k_sweep)))
  trivial
section
variable {w : World} {A : Around} {s : Shared} {p : Program} {loose : List Str} {mg mb : Str → Option Value} {g₀ : Heap}
    {Q : Value → Shared → Prop} {E : Value → Shared → Prop}
noncomputable abbrev EllJ (D : Addr) (got : Str) (tg : Tok) (last' : Str) (us : List Value) (lm : List (Str × Tok)) (p0' : Str) (i : Nat) (m' : Str → Option Value) (base : List (Addr × Obj)) : Prop := m' (Str.ofString "got") = some (.str got tg) ∧ (∃ te, m' (Str.ofString "endpos") = some (.int ((got.length - last'.length : Nat) : Int) te)) ∧ base = [(D, listOf us.toArray (0 + 1 + 1))] ∧ ∃ st ts, m' (Str.ofString "startpos") = some (.int (st : Nat) ts) ∧ findsFrom got (got.length - last'.length) ((lm.map (·.1)).drop i) st = findsFrom got (got.length - last'.length) (lm.map (·.1)) p0'.length
theorem ellipsis_c {P : List Str} {want got : Str} {tw tg : Tok} (hh : A.handled = none) (G : Gd (hd.heap_39 w.params) p loose mg mb g₀) (H : g₀.StaysIn s.heap) (hP : P ≠ []) (hf : ∀ x ∈ P, 46 ∉ tl x) (hne : ∀ x ∈ P, 1 ≤ x.length ∧ x.length ≤ 200) (hW : tl want = interc (P.map tl)) (hWl : want.length ≤ 200) (hgl : got.length ≤ 200) (hPl : P.length ≤ 8)
    (hroom : A.depth + 15 < recursionLimit) (hu : A.units + 200 < cLine)
    (hQ : ∀ s', Go [] s s' → Q (.bool (ematch P got)) s') :
    wpAny (model PySem.Challenge.rw_wr0037_01.prog w) A (call (.ref 189) [.str want tw, .str got tg]) Q E s := by
  refine' enter (binds := [(Str.ofString "want", .str want tw), (Str.ofString "got", .str got tg)]) [] G H ?hn ?ho ?hcd ?hr ?hb ?hl ?hbody ?c2 ?c3 ?c4 ?c5
  k_extra "my enter"
  case hn => exact all_nil
  case hr => omega
  case hbody =>
    intro g' L' h' G' st' kp' F' N' l1
    have X' := G'.X
    have T' := G'.T
    have hcon := contains_interc hP hf hW
    have hspl := split_interc hP hf hW
    (show wpAny _ _ _ _ _ _); k_fold
    k_steps
    · rename _ = true => hocc
      have h2 : ¬ 2 ≤ P.length := by
        have : Txt.contains want dots3 = false := by unfold Txt.contains; rw [hocc]; rfl
        rw [this] at hcon
        simpa using hcon.symm
      obtain ⟨q, rfl⟩ : ∃ q, P = [q] := by
        cases P with
        | nil => exact absurd rfl hP
        | cons a r => cases r with
          | nil => exact ⟨a, rfl⟩
          | cons b r => simp at h2
      have hwq : want = q := tl_inj hW
      subst hwq
      rename Fr _ _ _ _ => kF
      rename News _ _ _ _ => kN
      (show Q (Value.bool (want == got)) _)
      exact hQ _ (.fin (kp_out kp' kF kN all_nil all_nil) (by k_extra "my os") (by k_extra "my gens"))
    · rename List.map _ _ = _ => hl
      rename _ = false => hocc
      have h2 : 2 ≤ P.length := by
        have : Txt.contains want dots3 = true := by unfold Txt.contains; rw [hocc]; rfl
        rw [this] at hcon
        simpa using hcon.symm
      have := congrArg List.length (hl.trans hspl)
      simp only [List.length_map] at this ⊢
      rw [decide_eq_true_eq, this]
      omega
    · rename List.map _ _ = _ => hl
      rename _ = false => hocc
      have h2 : 2 ≤ P.length := by
        have : Txt.contains want dots3 = true := by unfold Txt.contains; rw [hocc]; rfl
        rw [this] at hcon
        simpa using hcon.symm
      have hl2 := hl.trans hspl
      obtain ⟨p0, q0, r0, rfl⟩ : ∃ a b r, P = a :: b :: r := by
        cases P with
        | nil => exact absurd rfl hP
        | cons a r => cases r with
          | nil => simp at h2
          | cons b r => exact ⟨a, b, r, rfl⟩
      k_extra "my hide"
      obtain ⟨mids, last, hq⟩ : ∃ ws last, q0 :: r0 = ws ++ [last] := ⟨(q0 :: r0).dropLast, (q0 :: r0).getLast (by simp), (List.dropLast_concat_getLast (by simp)).symm⟩
      k_extra "my back"
      have em : ematch (p0 :: q0 :: r0) got = (Txt.startswith got p0 && Txt.endswith got last && decide (p0.length ≤ got.length - last.length) && findsFrom got (got.length - last.length) mids p0.length) := by
        show (Txt.startswith got p0 && Txt.endswith got ((q0 :: r0).getLastD q0) && decide (p0.length ≤ got.length - ((q0 :: r0).getLastD q0).length) && findsFrom got (got.length - ((q0 :: r0).getLastD q0).length) (q0 :: r0).dropLast p0.length) = _
        rw [hq]
        simp
      rw [em] at hQ
      have n1 := (hne p0 (.head _)).1
      have n1' := (hne p0 (.head _)).2
      have n2 := (hne last (by rw [hq]; simp)).1
      have n2' := (hne last (by rw [hq]; simp)).2
      have n3 : ∀ x ∈ mids, 1 ≤ x.length ∧ x.length ≤ 200 := fun x hx => hne x (by rw [hq]; simp [hx])
      have hml : mids.length ≤ 6 := by have := congrArg List.length hq; simp at this hPl; omega
      rw [hq] at hl2
      k_extra "my hide"
      obtain ⟨⟨p0', t0⟩, l2, rfl, e1, e2⟩ := List.map_eq_cons_iff.mp hl2
      obtain ⟨lm, ll, rfl, e3, e4⟩ := List.map_eq_append_iff.mp e2
      obtain ⟨⟨last', tl0⟩, l3, rfl, e5, e6⟩ := List.map_eq_cons_iff.mp e4
      k_extra "my back"
      have e7 : l3 = [] := by simpa using e6
      subst e7
      dsimp only at e1 e5
      subst e1 e5 e3
      clear em hl hl2 hocc hspl hcon hW hq e2 e4 e6 hne hf hP
      rename StrsAre _ _ => z1
      rename Heap.IsList _ _ _ => z2
      clear z1 z2
      rename News _ _ _ _ => kN
      have e9 : strValues ((p0', t0) :: (lm ++ [(last', tl0)])) = Value.str p0' t0 :: (strValues lm ++ [Value.str last' tl0]) := by simp [strValues]
      rw [e9] at kN
      have hvl : (strValues lm).length ≤ 6 := by simpa [strValues] using hml
      generalize hus : strValues lm = us at kN hvl
      have t1 : (((p0'.length : Nat) : Int) != 0) = true := by simp; omega
      have t2 : (((last'.length : Nat) : Int) != 0) = true := by simp; omega
      k_extra "my unpack2"
      rename News _ _ _ _ => kN
      have kN2 := news_tl kN
      clear kN
      k_steps
      · rename Txt.startswith _ _ = true => c1
        rename Txt.endswith _ _ = true => c2
        rename _ < _ => c3
        have hel := (ends_iff.mp c2).1
        rw [c1, c2, decide_eq_false (show ¬ p0'.length ≤ got.length - last'.length by omega)] at hQ
        rename Fr _ _ _ _ => kF
        rename News _ _ _ _ => kN
        (try dsimp only)
        (show Q (Value.bool false) _)
        exact hQ _ (.fin (kp_out kp' kF kN all_nil all_nil) (by k_extra "my os") (by k_extra "my gens"))
      · rename Txt.startswith _ _ = true => c1
        rename Txt.endswith _ _ = true => c2
        rename ¬ _ < _ => c3
        have hel := (ends_iff.mp c2).1
        rw [c1, c2, decide_eq_true (show p0'.length ≤ got.length - last'.length by omega)] at hQ
        simp only [Bool.and_self, Bool.true_and] at hQ
        rename Fr _ _ _ _ => kF
        rename News _ _ _ _ => kN
        refine iter_list_L kF kN (kN.get (.head _)) ?_
        intro it o3 h3 F3 N3 l3 lo
        have l4 : (h' : Heap).objs.size ≠ it := Nat.ne_of_lt (l3 _ (.head _))
        refine loop_list (its := us) (ep := 0 + 1 + 1) (J := EllJ h'.objs.size got tg last' us lm p0') hh F3 N3 lo (all_cons l4 all_nil) ?J0 ?Jl ?turn ?last
        case J0 => exact ⟨rfl, ⟨_, int_eq (by omega)⟩, rfl, _, _, rfl, rfl⟩
        case Jl =>
          intro k m' b hJ
          obtain ⟨_, _, rfl, _⟩ := hJ
          exact .inl (.head _)
        case turn =>
          intro i s4 m4 b4 v o4 E4 hv lo4 hJ sm4 F4 N4 off4
          k_extra "my hide"
          obtain ⟨i1, ⟨te, i2⟩, rfl, st, ts, i3, i4⟩ := hJ
          k_extra "my back"
          obtain ⟨⟨wi, ti⟩, hwi, rfl⟩ : ∃ x, lm[i]? = some x ∧ v = .str x.1 x.2 := by
            rw [← hus] at hv
            unfold strValues at hv
            rw [List.getElem?_map] at hv
            cases e : lm[i]? with
            | none => rw [e] at hv; cases hv
            | some x => rw [e] at hv; exact ⟨x, rfl, (Option.some.inj hv).symm⟩
          dsimp only at hv
          have hw3 := n3 wi (List.mem_map.mpr ⟨_, List.mem_of_getElem? hwi, rfl⟩)
          have hdr : (lm.map (·.1)).drop i = wi :: (lm.map (·.1)).drop (i + 1) := by
            obtain ⟨hlt, he⟩ := List.getElem?_eq_some_iff.mp hwi
            rw [List.drop_eq_getElem_cons (by rw [List.length_map]; exact hlt), List.getElem_map, he]
          have hjl : got.length - last'.length ≤ got.length := Nat.sub_le _ _
          cases hoc : Builtin.Str.occurrences got wi st (got.length - last'.length) 1 with
          | nil =>
            have e1 : findsFrom got (got.length - last'.length) (lm.map (·.1)) p0'.length = false := by
              rw [← i4, hdr]
              unfold findsFrom
              rw [hoc]
            rw [e1] at hQ
            k_steps
            rename Fr _ _ _ _ => kF
            rename News _ _ _ _ => kN
            (try dsimp only)
            (show Q (Value.bool false) _)
            exact hQ _ (.fin (kp_out kp' kF kN all_nil all_nil) (by k_extra "my os") (by k_extra "my gens"))
          | cons k r =>
            have e1 : findsFrom got (got.length - last'.length) ((lm.map (·.1)).drop (i + 1)) (k + wi.length) = findsFrom got (got.length - last'.length) (lm.map (·.1)) p0'.length := by
              rw [← i4, hdr]
              conv => rhs; unfold findsFrom
              rw [hoc]
            k_steps
            rename Fr _ _ _ _ => kF
            rename News _ _ _ _ => kN
            exact ⟨⟨by k_extra "my os", by k_extra "my gens"⟩, _, _, o4, lo4, ⟨by exact i1, ⟨te, by exact i2⟩, rfl, k + wi.length, _, by exact int_eq (by omega), e1⟩, kF, kN, all_cons l4 all_nil⟩
        case last =>
          intro s4 m4 b4 E4 hJ sm4 F4 N4
          k_extra "my hide"
          obtain ⟨i1, ⟨te, i2⟩, rfl, st, ts, i3, i4⟩ := hJ
          k_extra "my back"
          have e1 : findsFrom got (got.length - last'.length) (lm.map (·.1)) p0'.length = true := by
            rw [← i4, List.drop_of_length_le (by rw [List.length_map, ← hus]; simp [strValues])]
            rfl
          rw [e1] at hQ
          k_steps
          (try dsimp only)
          (show Q (Value.bool true) _)
          exact hQ _ (.fin (kp_out kp' F4 N4 all_nil all_nil) (by k_extra "my os") (by k_extra "my gens"))
      · rename Txt.startswith _ _ = true => c1
        rename Txt.endswith _ _ = false => c2
        rw [c1, c2] at hQ
        rename Fr _ _ _ _ => kF
        rename News _ _ _ _ => kN
        (try dsimp only)
        (show Q (Value.bool false) _)
        exact hQ _ (.fin (kp_out kp' kF kN all_nil all_nil) (by k_extra "my os") (by k_extra "my gens"))
      · rename Txt.startswith _ _ = false => c1
        rw [c1] at hQ
        rename Fr _ _ _ _ => kF
        rename News _ _ _ _ => kN
        (try dsimp only)
        (show Q (Value.bool false) _)
        exact hQ _ (.fin (kp_out kp' kF kN all_nil all_nil) (by k_extra "my os") (by k_extra "my gens"))
end

section
variable {w : World} {A : Around} {s : Shared} {p : Program} {loose : List Str} {mg mb : Str → Option Value} {g₀ : Heap}
    {Q : Value → Shared → Prop} {E : Value → Shared → Prop} {a b : Addr} {oa ob : Obj} {Sa Sb : List Nat}
theorem le_c (G : Gd (hd.heap_39 w.params) p loose mg mb g₀) (H : g₀.StaysIn s.heap) (ha : s.heap.get? a = some oa) (hb : s.heap.get? b = some ob) (ca : SetC w oa Sa) (cb : SetC w ob Sb)
    (hroom : A.depth + 5 < recursionLimit) (hu : A.units + 100 < cLine)
    (hQ : ∀ s', Go [] s s' → Q (.bool (Sa.all fun k => Sb.contains k)) s') :
    wpAny (model PySem.Challenge.rw_wr0037_01.prog w) A (call (.ref 196) [.ref a, .ref b]) Q E s := by
  refine' enter (binds := [(Str.ofString "a", .ref a), (Str.ofString "b", .ref b)]) [] G H ?hn ?ho ?hcd ?hr ?hb ?hl ?hbody ?c2 ?c3 ?c4 ?c5
  k_extra "my enter"
  case hn => exact all_nil
  case hr => omega
  case hbody =>
    intro g' L' h' G' st' kp' F' N' l1
    have X' := G'.X
    have T' := G'.T
    have ha1 : g'.get? a = some oa := kp' _ _ ha fun q => nomatch q
    have hb1 : g'.get? b = some ob := kp' _ _ hb fun q => nomatch q
    (show wpAny _ _ _ _ _ _); k_fold
    k_steps
    rename Fr _ _ _ _ => kF
    rename News _ _ _ _ => kN
    refine le_cmp (kF.keep _ _ ha1) (kF.keep _ _ hb1) ca cb (by k_extra "my room") ?_
    (try dsimp only)
    (show Q _ _)
    exact hQ _ (.fin (kp_out kp' kF kN all_nil all_nil) (by k_extra "my os") (by k_extra "my gens"))
theorem or_c (G : Gd (hd.heap_39 w.params) p loose mg mb g₀) (H : g₀.StaysIn s.heap) (hab : a ≠ b) (ha : s.heap.get? a = some oa) (hb : s.heap.get? b = some ob) (ca : SetC w oa Sa) (cb : SetC w ob Sb)
    (hroom : A.depth + 5 < recursionLimit) (hu : A.units + 100 < cLine)
    (hQ : ∀ r o s', Go [] s s' → s.heap.get? r = none → s'.heap.get? r = some o → SetC w o (uni Sa Sb) → Q (.ref r) s') :
    wpAny (model PySem.Challenge.rw_wr0037_01.prog w) A (call (.ref 210) [.ref a, .ref b]) Q E s := by
  refine' enter (binds := [(Str.ofString "a", .ref a), (Str.ofString "b", .ref b)]) [] G H ?hn ?ho ?hcd ?hr ?hb ?hl ?hbody ?c2 ?c3 ?c4 ?c5
  k_extra "my enter"
  case hn => exact all_nil
  case hr => omega
  case hbody =>
    intro g' L' h' G' st' kp' F' N' l1
    have X' := G'.X
    have T' := G'.T
    have ha1 : g'.get? a = some oa := kp' _ _ ha fun q => nomatch q
    have hb1 : g'.get? b = some ob := kp' _ _ hb fun q => nomatch q
    (show wpAny _ _ _ _ _ _); k_fold
    k_steps
    rename Fr _ _ _ _ => kF
    rename News _ _ _ _ => kN
    refine or_op hab (kF.keep _ _ ha1) (kF.keep _ _ hb1) ca cb fun h9 o9 k9 e9 c9 => ?_
    (try dsimp only)
    (show Q _ _)
    refine hQ _ o9 _ (.fin ((kp_out kp' kF kN all_nil all_nil).trans fun b o e _ => k9 b o e) (by k_extra "my os") (by k_extra "my gens")) ?_ e9 c9
    cases e : s.heap.get? _ with
    | none => rfl
    | some o => exact absurd (Heap.lt_size (kF.keep _ _ (kp' _ _ e fun q => nomatch q))) (Nat.lt_irrefl _)
theorem and_c (G : Gd (hd.heap_39 w.params) p loose mg mb g₀) (H : g₀.StaysIn s.heap) (hab : a ≠ b) (ha : s.heap.get? a = some oa) (hb : s.heap.get? b = some ob) (ca : SetC w oa Sa) (cb : SetC w ob Sb)
    (hroom : A.depth + 5 < recursionLimit) (hu : A.units + 100 < cLine)
    (hQ : ∀ r o s', Go [] s s' → s.heap.get? r = none → s'.heap.get? r = some o → SetC w o (inter Sa Sb) → Q (.ref r) s') :
    wpAny (model PySem.Challenge.rw_wr0037_01.prog w) A (call (.ref 203) [.ref a, .ref b]) Q E s := by
  refine' enter (binds := [(Str.ofString "a", .ref a), (Str.ofString "b", .ref b)]) [] G H ?hn ?ho ?hcd ?hr ?hb ?hl ?hbody ?c2 ?c3 ?c4 ?c5
  k_extra "my enter"
  case hn => exact all_nil
  case hr => omega
  case hbody =>
    intro g' L' h' G' st' kp' F' N' l1
    have X' := G'.X
    have T' := G'.T
    have ha1 : g'.get? a = some oa := kp' _ _ ha fun q => nomatch q
    have hb1 : g'.get? b = some ob := kp' _ _ hb fun q => nomatch q
    (show wpAny _ _ _ _ _ _); k_fold
    k_steps
    rename Fr _ _ _ _ => kF
    rename News _ _ _ _ => kN
    refine and_op hab (kF.keep _ _ ha1) (kF.keep _ _ hb1) ca cb fun h9 o9 k9 e9 c9 => ?_
    (try dsimp only)
    (show Q _ _)
    refine hQ _ o9 _ (.fin ((kp_out kp' kF kN all_nil all_nil).trans fun b o e _ => k9 b o e) (by k_extra "my os") (by k_extra "my gens")) ?_ e9 c9
    cases e : s.heap.get? _ with
    | none => rfl
    | some o => exact absurd (Heap.lt_size (kF.keep _ _ (kp' _ _ e fun q => nomatch q))) (Nat.lt_irrefl _)
end

section
open PyProof.Rows.LCg
/-- a turn of a comprehension over a list, by what holds between the turns -/
noncomputable def CTurn (prog : Program) (w : World) (A : Around) (g : Heap) (L : Addr) (m : Str → Option Value) (env : Env) (elt : Expr) (x : Str) (scope : Scope) (cl : List (Str × Addr)) (s₁ : Shared) (ax : Addr) (its : List Value) (J : Nat → List Value → List (Addr × Obj) → Prop) : Prop :=
  ∀ (i : Nat) (v : Value) (ys : List Value) (base : List (Addr × Obj)) (I : Addr) (oI : Obj) (C : Addr) (oC : Obj) (D : Addr) (m₂ : Str → Option Value) (s' : Shared) (E' : Value → Shared → Prop),
    its[i]? = some v → NsObj oC m₂ → m₂ x = some v → LiIt oI ax (i + 1) → J i ys base → Sm s₁ s' → Fr g L s'.heap m → News g L s'.heap ((I, oI) :: (C, oC) :: (D, lst ys) :: base) → Off3 I C D base → ((@Ne Nat I C) ∧ (@Ne Nat I D) ∧ (@Ne Nat C D)) →
    wpAny (model prog w) A (eval elt (compEnvC scope cl C env)) (fun y s₄ => Sm s₁ s₄ ∧ ∃ base₄, J (i + 1) (ys ++ [y]) base₄ ∧ Fr g L s₄.heap m ∧ News g L s₄.heap ((I, oI) :: (C, oC) :: (D, lst ys) :: base₄) ∧ Off3 I C D base₄) E' s'
noncomputable def CEndE (g : Heap) (L : Addr) (m : Str → Option Value) (Q : Value → Shared → Prop) (D : Addr) (ys : List Value) (b : List (Addr × Obj)) (s' : Shared) : Prop :=
  ∀ h tk, Fr g L h m → News g L h ((D, lst ys) :: b) → Q (.ref D) { s' with heap := h, toks := tk }
noncomputable def CEndA (g : Heap) (L : Addr) (m : Str → Option Value) (y : Str) (Q : Flow → Shared → Prop) (D : Addr) (ys : List Value) (b : List (Addr × Obj)) (s' : Shared) : Prop :=
  ∀ h tk, Fr g L h (fun z => if z = y then some (.ref D) else m z) → News g L h ((D, lst ys) :: b) → Q .next { s' with heap := h, toks := tk }
/-- where a comprehension's list stands, and its turns -/
noncomputable def SrcJ (prog : Program) (w : World) (A : Around) (g : Heap) (L : Addr) (m : Str → Option Value) (env : Env) (elt : Expr) (x : Str) (scope : Scope) (cl : List (Str × Addr)) (Fin : Addr → List Value → List (Addr × Obj) → Shared → Prop) (xv : Value) (s₁ : Shared) : Prop :=
  ∃ (ax : Addr) (its : List Value) (ep : Nat) (base : List (Addr × Obj)) (J : Nat → List Value → List (Addr × Obj) → Prop), xv = .ref ax ∧ A.handled = none ∧ Fr g L s₁.heap m ∧ News g L s₁.heap base ∧ its.length ≤ 1000 ∧ J 0 [] base ∧
    (∀ i ys b, J i ys b → (ax, listOf its.toArray ep) ∈ b ∨ g.get? ax = some (listOf its.toArray ep)) ∧ CTurn prog w A g L m env elt x scope cl s₁ ax its J ∧
    ∀ D ys b s', J its.length ys b → Sm s₁ s' → (∀ p ∈ b, p.1 ≠ D) → Fin D ys b s'
section
variable {prog : Program} {w : World} {A : Around} {E : Value → Shared → Prop} {g : Heap} {L : Addr} {m : Str → Option Value} {env : Env}
theorem block_J {elt iter : Expr} {x : Str} {px : Pos} {scope : Scope} {cl : List (Str × Addr)} {pos : Pos} {s₁ s₂ : Shared} {I ax : Addr} {oI : Obj} {its : List Value} {ep : Nat} {J : Nat → List Value → List (Addr × Obj) → Prop} {base : List (Addr × Obj)} {RR : Value → Addr → Result → Shared → Prop}
    (hh : A.handled = none) (hcell : ∀ y ∈ scope.names, y.2 ≠ .cell) (hkind : scope.kind = .function) (hx : scope.names.lookup x = some .local) (sm₂ : Sm s₁ s₂)
    (F : Fr g L s₂.heap m) (N : News g L s₂.heap ((I, oI) :: base)) (lo : LiIt oI ax 0) (hIb : ∀ p ∈ base, p.1 ≠ I) (hsz : its.length ≤ 1000) (hJ : J 0 [] base)
    (hl : ∀ i ys b, J i ys b → (ax, listOf its.toArray ep) ∈ b ∨ g.get? ax = some (listOf its.toArray ep)) (T : CTurn prog w A g L m env elt x scope cl s₁ ax its J)
    (hRR : ∀ D C m' ys b s', J its.length ys b → Sm s₁ s' → Fr g L s'.heap m → News g L s'.heap ((D, lst ys) :: b) → (∀ p ∈ b, p.1 ≠ D) → s'.heap.Ns C m' → g.get? C = none → C ≠ L → C ≠ D → (∀ p ∈ b, p.1 ≠ C) → RR (.ref D) C (.ok .next) s') :
    wpAny (model prog w) A (newList []) (fun acc s₃ => wpAny (model prog w) A (newFunctionEnv scope env.globals cl [] env.qual none .none (some env)) (fun cenv s₄ =>
      codeAny (model prog w) A (.compStart (.ListComp elt [⟨.Name x px, iter, [], 0⟩] scope pos) 0 (.ref I) acc { cenv with scope := relabel scope env }) (RR acc cenv.locals) s₄) E s₃) E s₂ := by
  refine wpAny_newObj_type (wpAny_newFunctionEnv hcell (by intro y hy; simp at hy) (fun h₁ hns₁ hsb₁ => ?_) hkind)
  dsimp only at hns₁ hsb₁ ⊢
  generalize hH2 : s₂.heap.push { cls := .type "list", dict := none, data := .seq ([] : List Value).toArray } = H2 at hns₁ hsb₁ ⊢
  have hC : H2.objs.size = s₂.heap.objs.size + 1 := by rw [← hH2, Heap.size_push]
  have hDC : s₂.heap.objs.size ≠ H2.objs.size := by rw [hC]; exact Nat.ne_of_lt (Nat.lt_succ_self _)
  have below : ∀ b, b < s₂.heap.objs.size → b ≠ H2.objs.size ∧ b ≠ s₂.heap.objs.size := fun b hb => ⟨by rw [hC]; exact Nat.ne_of_lt (Nat.lt_succ_of_lt hb), Nat.ne_of_lt hb⟩
  have old : ∀ b o, s₂.heap.get? b = some o → h₁.get? b = some o := fun b o e => hsb₁.extBut b o (below b (Heap.lt_size e)).1 (Heap.get?_push_of_some _ (hH2 ▸ Heap.get?_push_of_some _ e))
  have hacc : h₁.get? s₂.heap.objs.size = some (lst []) := hsb₁.extBut _ _ hDC (Heap.get?_push_of_some _ (hH2 ▸ Heap.get?_push_size _ rfl))
  have fresh₀ : ∀ a, s₂.heap.objs.size ≤ a → g.get? a = none := fun a ha => by
    cases e : g.get? a with
    | none => rfl
    | some o' => exact absurd (Heap.lt_size (F.keep a o' e)) (Nat.not_lt.mpr ha)
  have hD₀ : g.get? s₂.heap.objs.size = none := fresh₀ _ (Nat.le_refl _)
  have hC₀ : g.get? H2.objs.size = none := fresh₀ _ (by rw [hC]; exact Nat.le_succ _)
  have hLlt : L < s₂.heap.objs.size := F.ns.lt
  have hDL : s₂.heap.objs.size ≠ L := Ne.symm (below L hLlt).2
  have hCL : H2.objs.size ≠ L := Ne.symm (below L hLlt).1
  have hIlt : I < s₂.heap.objs.size := Heap.lt_size (N (I, oI) (.head _)).1
  have hCI : I ≠ H2.objs.size := (below I hIlt).1
  have hDI : I ≠ s₂.heap.objs.size := (below I hIlt).2
  have off₀ : Off3 I H2.objs.size s₂.heap.objs.size base := Off3.of fun p hp => ⟨hIb p hp, (below _ (Heap.lt_size (N p (.tail _ hp)).1)).1, (below _ (Heap.lt_size (N p (.tail _ hp)).1)).2⟩
  have old₁ : News g L h₁ ((I, oI) :: base) := fun p hp => ⟨old _ _ (N p hp).1, (N p hp).2⟩
  obtain ⟨oC₀, heC₀, hoC₀⟩ := ns_obj hns₁
  have loop : ∀ s₃ : Shared, s₃ = { s₂ with heap := h₁, toks := s₂.toks + ([] : List (Str × Value)).length } →
      codeAny (model prog w) A (.compLoop (.ListComp elt [⟨.Name x px, iter, [], 0⟩] scope pos) 0 (.ref I) (.ref s₂.heap.objs.size) (compEnvC scope cl H2.objs.size env))
        (RR (.ref s₂.heap.objs.size) H2.objs.size) s₃ := by
    rintro s₃ rfl
    refine codeAny_compLoop_tests
      (fun k s' => ∃ i ys m' oC oI' b, i ≤ its.length ∧ k = its.length - i ∧ J i ys b ∧ ys.length = i ∧ LiIt oI' ax i ∧ NsObj oC m' ∧ Sm s₁ s' ∧ Fr g L s'.heap m ∧ News g L s'.heap ((I, oI') :: (H2.objs.size, oC) :: (s₂.heap.objs.size, lst ys) :: b) ∧ Off3 I H2.objs.size s₂.heap.objs.size b) ?_ its.length
      ⟨0, [], _, oC₀, oI, base, Nat.zero_le _, rfl, hJ, rfl, lo, hoC₀, ⟨sm₂.1, sm₂.2⟩, F.keeps old, news_cons (old₁ _ (.head _)) (news_cons ⟨heC₀, hCL, hC₀⟩ (news_cons ⟨hacc, hDL, hD₀⟩ (news_tl old₁))), off₀⟩
    rintro k s' ⟨i, ys, m', oC, oI', b, hi, rfl, hJ', hyl, lo', hoC, sm', F', N', off'⟩
    have zI := N' (I, oI') (.head _)
    have zC := N' (H2.objs.size, oC) (.tail _ (.head _))
    have zD := N' (s₂.heap.objs.size, lst ys) (.tail _ (.tail _ (.head _)))
    have hit : s'.heap.IsListIter I ax i := ⟨_, zI.1, lo'.1, lo'.2⟩
    have hll : s'.heap.get? ax = some (listOf its.toArray ep) := by
      rcases hl _ _ _ hJ' with q | q
      · exact (N' _ (.tail _ (.tail _ (.tail _ q)))).1
      · exact F'.keep _ _ q
    have off3 := off'.mem
    by_cases hlt : i < its.length
    · have hv : its[i]? = some its[i] := List.getElem?_eq_getElem hlt
      refine next_own hit hll rfl (x := its[i]) (by simp) fun h' hit' hs' => ?_
      obtain ⟨o2, ho2, r2⟩ := hit'
      have r3 : LiIt o2 ax (i + 1) := ⟨r2.1, r2.2⟩
      have N₂ : News g L h' ((I, o2) :: (H2.objs.size, oC) :: (s₂.heap.objs.size, lst ys) :: b) := news_set (pre := []) N' (fun _ q => nomatch q) (all_cons (Ne.symm hCI) (all_cons (Ne.symm hDI) fun p hp => (off3 p hp).1)) hs' ho2
      have zC₂ := N₂ (H2.objs.size, oC) (.tail _ (.head _))
      refine wpAny_assign_Name (wpAny_storeName_local (lookup_relabel_local hx) (hoC.ns zC₂.1) (fun h₃ hn₃ hs₃ => ?_) (by simp [compEnvC, relabel, hkind]))
      refine wpAny_tests_nil ?_
      simp only [if_true]
      obtain ⟨oC₃, heC₃, hoC₃⟩ := ns_obj hn₃
      have F₃ : Fr g L h₃ m := (F'.change hs' zI.2.1 zI.2.2).change hs₃ hCL hC₀
      have N₃ : News g L h₃ ((I, o2) :: (H2.objs.size, oC₃) :: (s₂.heap.objs.size, lst ys) :: b) := news_set (pre := [(I, o2)]) N₂ (all_cons hCI all_nil) (all_cons hDC fun p hp => (off3 p hp).2.1) hs₃ heC₃
      refine wpAny_mono (T i its[i] ys b I o2 H2.objs.size oC₃ s₂.heap.objs.size _ ⟨h₃, s'.gens, s'.drawn, s'.toks + 1, s'.os⟩ _ hv hoC₃ (by simp) r3 hJ' ⟨sm'.1, sm'.2⟩ F₃ N₃ off' ⟨hCI, hDI, Ne.symm hDC⟩) (fun y s₄ h₄ => ?_) fun _ _ e => e
      obtain ⟨sm₄, b₄, J₄, F₄, N₄, off₄⟩ := h₄
      have zD₄ := N₄ (s₂.heap.objs.size, lst ys) (.tail _ (.tail _ (.head _)))
      have off4 := off₄.mem
      refine append_at (hsz := by show ys.toArray.size ≤ sizeLine; rw [List.size_toArray, hyl, sizeLine_eq]; omega) zD₄.1 fun h₅ hs₅ hD₅ => ?_
      refine ⟨its.length - (i + 1), by omega, i + 1, ys ++ [y], _, oC₃, o2, b₄, hlt, rfl, J₄, by rw [List.length_append, List.length_singleton, hyl], r3, hoC₃, ⟨sm₄.1, sm₄.2⟩, F₄.change hs₅ hDL hD₀, ?_, off₄⟩
      exact news_set (pre := [(I, o2), (H2.objs.size, oC₃)]) N₄ (all_cons hDI (all_cons (Ne.symm hDC) all_nil)) (fun p hp => (off4 p hp).2.2) hs₅ (hD₅.trans (congrArg some (lst_snoc ys y)))
    · obtain rfl : i = its.length := Nat.le_antisymm hi (Nat.not_lt.mp hlt)
      refine end_own hh hit hll rfl (by simp) fun h' he => ?_
      refine hRR _ _ m' ys b _ hJ' ⟨sm'.1, sm'.2⟩ ?_ (fun p hp => ?_) (fun p hp => (off3 p hp).2.2) (hoC.ns (he _ _ (Ne.symm hCI) zC.1)) hC₀ hCL (Ne.symm hDC) fun p hp => (off3 p hp).2.1
      · exact ⟨F'.ns.at' fun o e => he _ o (Ne.symm zI.2.1) e, fun b o e => he b o (fun q => by rw [q, zI.2.2] at e; cases e) (F'.keep b o e), F'.above⟩
      · have y := N' p (.tail _ (.tail _ hp))
        refine ⟨he _ _ ?_ y.1, y.2⟩
        rcases List.mem_cons.mp hp with rfl | hp
        · exact Ne.symm hDI
        · exact (off3 p hp).1
  exact codeAny_compStart_list (loop _ rfl) (wpAny_pyIter_listiter ⟨_, (old₁ (I, oI) (.head _)).1, lo.1, lo.2⟩ (loop _ rfl))
theorem ListComp_J {s : Shared} {elt iter : Expr} {x : Str} {px : Pos} {scope : Scope} {cl : List (Str × Addr)} {pos : Pos} {Q : Value → Shared → Prop} (_F₀ : Fr g L s.heap m)
    (hclos : closureFor scope env = pure cl) (hcell : ∀ y ∈ scope.names, y.2 ≠ .cell) (hkind : scope.kind = .function)
    (hnames : ∀ y ∈ scope.names, y.2 = .local → scope.names.lookup y.1 = some .local) (hx : scope.names.lookup x = some .local)
    (h : wpAny (model prog w) A (eval iter env) (SrcJ prog w A g L m env elt x scope cl (CEndE g L m Q)) E s)
    (hs : ∀ x, foldedSetIterable iter env x = pure x := by intro _; rfl) :
    wpAny (model prog w) A (eval (.ListComp elt [⟨.Name x px, iter, [], 0⟩] scope pos) env) Q E s := by
  rw [eval_ListComp]
  refine wpAny_comprehension_free (use := none) rfl hs hclos hkind hnames (wpAny_mono h (fun xv s₁ h₁ => ?_) fun _ _ e => e)
  obtain ⟨ax, its, ep, base, J, rfl, hh, F, N, hsz, hJ, hl, T, fin⟩ := h₁
  have hll : s₁.heap.get? ax = some (listOf its.toArray ep) := by
    rcases hl _ _ _ hJ with q | q
    · exact (N _ q).1
    · exact F.keep _ _ q
  refine iter_list_L F N hll fun q o h' F' N' l1 lo => ?_
  refine block_J hh hcell hkind hx ⟨rfl, id⟩ F' N' lo (fun p hp => Nat.ne_of_lt (l1 p hp)) hsz hJ hl T fun D C m' ys b s' hJ' sm F₃ N₃ off hn hC₀ hCL hCD offC => ?_
  refine ⟨m', hn, fun h'' hs'' => fin D ys b s' hJ' sm off h'' s'.toks (F₃.change hs'' hCL hC₀) fun p hp => ?_⟩
  refine ⟨hs''.extBut _ _ ?_ (N₃ p hp).1, (N₃ p hp).2⟩
  rcases List.mem_cons.mp hp with rfl | hp
  · exact Ne.symm hCD
  · exact offC p hp
theorem Assign_ListComp_J {s : Shared} {elt iter : Expr} {x y : Str} {px py : Pos} {scope : Scope} {cl : List (Str × Addr)} {pos spos : Pos} {Q : Flow → Shared → Prop} (_F₀ : Fr g L s.heap m) (hLe : env.locals = L)
    (hsw : swapsWith (.ListComp elt [⟨.Name x px, iter, [], 0⟩] scope pos) (some (.Name y py)) spos.line env = pure true)
    (hclos : closureFor scope env = pure cl) (hcell : ∀ z ∈ scope.names, z.2 ≠ .cell) (hkind : scope.kind = .function)
    (hnames : ∀ z ∈ scope.names, z.2 = .local → scope.names.lookup z.1 = some .local) (hx : scope.names.lookup x = some .local)
    (hy : env.kindOf y = some .local) (hp : (env.scope.kind == .class || (env.scope.kind == .module && env.locals != env.globals)) = false)
    (h : wpAny (model prog w) A (eval iter env) (SrcJ prog w A g L m env elt x scope cl (CEndA g L m y Q)) E s)
    (hs : ∀ x, foldedSetIterable iter env x = pure x := by intro _; rfl) :
    wpAny (model prog w) A (exec (.Assign [.Name y py] (.ListComp elt [⟨.Name x px, iter, [], 0⟩] scope pos) spos) env) Q E s := by
  subst hLe
  rw [exec_Assign_Name_used _ _ _ _ hsw]
  refine wpAny_bind (wpAny_standAt (wpAny_bind ?_))
  show wpAny _ A (do let _ ← comprehension (.ListComp elt [⟨.Name x px, iter, [], 0⟩] scope pos) scope env _ (newList []) false (eval iter env) (some (assign (.Name y py) env))) _ _ s
  refine wpAny_bind (wpAny_mono (wpAny_comprehension_free (use := some (assign (.Name y py) env)) (Q := fun _ s' => Q .next s') rfl hs hclos hkind hnames
    (wpAny_mono h (fun xv s₁ h₁ => ?_) fun _ _ e => e)) (fun _ s' hq => wpAny_pure (wpAny_pure hq)) fun _ _ e => e)
  obtain ⟨ax, its, ep, base, J, rfl, hh, F, N, hsz, hJ, hl, T, fin⟩ := h₁
  have hll : s₁.heap.get? ax = some (listOf its.toArray ep) := by
    rcases hl _ _ _ hJ with q | q
    · exact (N _ q).1
    · exact F.keep _ _ q
  refine iter_list_L F N hll fun q o h' F' N' l1 lo => ?_
  refine block_J hh hcell hkind hx ⟨rfl, id⟩ F' N' lo (fun p hp => Nat.ne_of_lt (l1 p hp)) hsz hJ hl T fun D C m' ys b s' hJ' sm F₃ N₃ off hn hC₀ hCL hCD offC => ?_
  show wpAny _ A (assign (.Name y py) env (.ref D)) _ _ _
  refine wpAny_assign_Name (wpAny_storeName_local hy F₃.ns (fun h₂ hn₂ hs₂ => ?_) hp)
  have hL₀ : g.get? env.locals = none := Heap.get?_none_of_le F₃.above
  have F₂ : Fr g env.locals h₂ (fun z => if z = y then some (.ref D) else m z) := ⟨hn₂, fun b o e => hs₂.extBut b o (fun q => by rw [q, hL₀] at e; cases e) (F₃.keep b o e), F₃.above⟩
  refine ⟨m', hn.sameBut hs₂ hCL, fun h'' hs'' => fin D ys b s' hJ' sm off h'' _ (F₂.change hs'' hCL hC₀) fun p hp => ?_⟩
  have z : h₂.get? p.1 = some p.2 := hs₂.extBut _ _ (N₃ p hp).2.1 (N₃ p hp).1
  refine ⟨hs''.extBut _ _ ?_ z, (N₃ p hp).2⟩
  rcases List.mem_cons.mp hp with rfl | hp
  · exact Ne.symm hCD
  · exact offC p hp
end
end

theorem enterCell {prog : Program} {w : World} {A : Around} {s : Shared} {K : Frag} {p : Program} {loose : List Str} {mg mb : Str → Option Value} {g₀ : Heap}
    {Q : Value → Shared → Prop} {E : Value → Shared → Prop} {name qual : Str} {params : Arguments} {body : List Stmt} {scope : Scope} {dV kV doc pm cdv ct oc : Value} {an od : Option Addr} {osl : Array (Option Value)} {f : Addr} {args : List Value} {binds : List (Str × Value)}
    (news : List (Addr × Obj)) (G : Gd K p loose mg mb g₀) (H : g₀.StaysIn s.heap)
    (hn : ∀ q ∈ news, s.heap.get? q.1 = some q.2 ∧ g₀.get? q.1 = none)
    (ho : K.lookup f = some ⟨oc, od, .func (fnX name qual params body scope [] dV kV doc pm an cdv ct), osl⟩) (hcd : codeIn K cdv qual = true)
    (hroom : A.depth < recursionLimit)
    (hbind : BindsTo s (fnX name qual params body scope [] dV kV doc pm an cdv ct) ⟨args, []⟩ binds) (hkind : (binds.all fun y => scope.names.lookup y.1 == some .local || scope.names.lookup y.1 == some .cell) = true)
    (hnd : ((cellsFrom 0 scope.names []).map (·.1)).Nodup)
    (h : let sc := scope; ∀ g L' h₁ tk cells, Gd K p loose mg mb g → g₀.StaysIn g → Kp (news.map (·.1)) s.heap g → Fr g L' h₁ (bindL (envOfC qual sc L' f cdv).kindOf binds fun _ => none) → News g L' h₁ (cells ++ news) →
      CellsAre (bindC (envOfC qual sc L' f cdv).kindOf binds fun _ => none) (cellsFrom (L' + 1) sc.names []) cells → (∀ p ∈ news, p.1 < L') → (∀ p ∈ cells, s.heap.get? p.1 = none) →
      wpAny (model prog w) (A.deeper (envOfC qual sc L' f cdv)) (execs body (envOfC qual sc L' f cdv))
        (fun fl s' => Q (match fl with | .ret v => v | _ => .none) s') (fun _ _ => False)
        { s with heap := h₁, toks := tk })
    (hco : scope.isCoroutine = false := by rfl) (hgen : scope.isGenerator = false := by rfl) (hk : scope.kind = .function := by rfl) : wpAny (model prog w) A (call (.ref f) args) Q E s := by
  refine wpAny_call ?_
  refine codeAny_call_function hroom (H _ _ (G.X _ _ ho)) rfl hco hgen rfl (codeRec_of (G.X.keeps H) hcd) (hbind _ _ _ _ ?_)
  refine wpAny_newFunctionEnv_cells hk (kindsX hkind _) fun env' he s' x => ?_
  subst he
  refine ⟨(G.T.nolimit.keeps H).keeps x.toInCall.keep, codeAny_func ?_⟩
  obtain ⟨h₁, tk, rfl, _⟩ := x.done
  have hk₁ := x.toInCall.keep
  obtain ⟨cells, NC, Y⟩ := Cl.news (h₀ := s.heap) (Nat.le_refl _) fun n c hm => ⟨x.cell n c (lookup_of_mem_nodup (cellsFrom_names scope.names 0 (s.heap.objs.size + 1) [] [] rfl ▸ hnd) hm), x.above n c hm⟩
  have nm : ∀ b o, g₀.get? b = some o → b ∉ news.map (·.1) := fun b o e q => by
    obtain ⟨p, hp, rfl⟩ := List.mem_map.mp q
    rw [(hn p hp).2] at e; cases e
  have st : g₀.StaysIn (hideAll s.heap (news.map (·.1))) := fun b o e => hideAll_get _ (H b o e) (nm b o e)
  refine wpAny_mono (h (hideAll s.heap (news.map (·.1))) s.heap.objs.size h₁ tk cells (G.keeps st) st (fun b o e n => hideAll_get _ e n) ⟨x.toInCall.ns, fun b o e => hk₁ b o (of_hideAll _ e), Nat.le_of_eq (hideAll_size _ _)⟩
    (fun p hp => ?_) Y (fun p hp => Heap.lt_size (hn p hp).1) fun p hp => (NC p hp).2.2) (fun fl s' hl => hl) fun _ _ y => y.elim
  rcases List.mem_append.mp hp with hp | hp
  · refine ⟨(NC p hp).1, (NC p hp).2.1, ?_⟩
    cases q : (hideAll s.heap (news.map (·.1))).get? p.1 with
    | none => rfl
    | some o => have := of_hideAll _ q; rw [(NC p hp).2.2] at this; cases this
  · exact ⟨hk₁ _ _ (hn p hp).1, Nat.ne_of_lt (Heap.lt_size (hn p hp).1), hideAll_none _ (List.mem_map_of_mem hp)⟩
/-- the walk halts here -/
noncomputable def Halt (P : Prop) : Prop := P
theorem halt_of {P : Prop} (h : Halt P) : P := h
theorem halt_go {P : Prop} (h : P) : Halt P := h
example : True := by
  (k_with "call ref" => (k_here; (first | (with_reducible show wpAny _ _ (call (Value.ref 222) _) _ _ _) | (with_reducible show wpAny _ _ (call (Value.ref 229) _) _ _ _) | (with_reducible show wpAny _ _ (call (Value.ref 236) _) _ _ _) | (with_reducible show wpAny _ _ (call (Value.ref 243) _) _ _ _) | (with_reducible show wpAny _ _ (call (Value.ref 250) _) _ _ _) | (with_reducible show wpAny _ _ (call (Value.ref 189) _) _ _ _) | (with_reducible show wpAny _ _ (call (Value.ref 196) _) _ _ _) | (with_reducible show wpAny _ _ (call (Value.ref 203) _) _ _ _) | (with_reducible show wpAny _ _ (call (Value.ref 210) _) _ _ _) | (with_reducible show wpAny _ _ (call (Value.ref 217) _) _ _ _) | (with_reducible show wpAny _ _ (call (Value.ref 255) _) _ _ _)); refine halt_of ?_))
  (k_with "eval Name" => (k_here; k_dflt (refine' nameX_C (by k_asm) (by exact rfl) (by k_extra "my mem") (by assumption) ?_; k_whole)))
  (k_with "exec Assign cons ListComp" => (k_here; (with_reducible show wpAny _ _ (exec (Stmt.Assign [Expr.Name _ _] (Expr.ListComp _ [⟨_, _, [], _⟩] _ _) _) _) _ _ _); k_dflt (refine Assign_ListComp_J (by k_asm) (by rfl) (by with_unfolding_all rfl) (by with_unfolding_all rfl) (by decide) (by rfl) (by decide) (by rfl) (by rfl) (by rfl) ?_)))
  (k_with "exec Assign cons ListComp" => (k_here; (with_reducible show wpAny _ _ (exec (Stmt.Assign [Expr.Name _ _] (Expr.ListComp _ [⟨_, _, _ :: _, _⟩] _ _) _) _) _ _ _); refine halt_of ?_))
  (k_with "eval ListComp" => (k_here; (with_reducible show wpAny _ _ (eval (Expr.ListComp _ [⟨_, _, [], _⟩] _ _) _) _ _ _); k_dflt (refine ListComp_J (by k_asm) (by with_unfolding_all rfl) (by decide) (by rfl) (by decide) (by rfl) ?_)))
  trivial
section
variable {M : Model} {A : Around} {E : Value → Shared → Prop} {s : Shared} {K : Frag} {scope : Scope} {C c : Addr} {o : Obj} {env : Env} {x : Str} {pos : Pos} {v : Value} {mg mb : Str → Option Value} {Q : Value → Shared → Prop} {p : Program} {loose : List Str} {cl : List (Str × Addr)}
theorem nameC_K (X : K.In s.heap) (T : TopRead p loose mg mb s.heap) (e : nsIn K mainGlobals x = some (some v)) (hg : env.globals = mainGlobals) (hk : scope.kind = .function) (hx : (compEnvC scope cl C env).kindOf x = some .globalImplicit) (hd : (x == ("__debug__" : Str)) = false) (h : Q v s) : wpAny M A (eval (.Name x pos) (compEnvC scope cl C env)) Q E s :=
  Name_function_global (env := compEnvC scope cl C env) hk hx (loadGlobal_global (env := compEnvC scope cl C env) (show s.heap.Ns env.globals mg by rw [hg]; exact T.g) (mg_of X T.g e) h) hd
theorem nameC_F (ho : s.heap.get? c = some o) (hc : cl.lookup x = some c) (hdd : o.data = .cell (some v)) (hk : scope.kind = .function) (hx : (compEnvC scope cl C env).kindOf x = some .cell) (hd : (x == ("__debug__" : Str)) = false) (h : Q v s) : wpAny M A (eval (.Name x pos) (compEnvC scope cl C env)) Q E s :=
  wpAny_Name (wpAny_loadName_cell (env := compEnvC scope cl C env) hk hx hc ⟨o, ho, hdd⟩ h) hd
end
theorem news_snoc {g h : Heap} {L : Addr} {l : List (Addr × Obj)} {r : Addr} {o : Obj} (N : News g L h l) (x : LeAt g L h r o) : News g L h (l ++ [(r, o)]) := fun p hp => by
  rcases List.mem_append.mp hp with q | q
  · exact N p q
  · rw [List.mem_singleton.mp q]; exact x
theorem ne_none {h : Heap} {r a : Addr} {o : Obj} (e : h.get? r = none) (e2 : h.get? a = some o) : @Ne Nat r a := fun q => by
  have q' : r = a := q
  rw [q', e2] at e; cases e
theorem le_fresh {g h h' : Heap} {L r : Addr} {m : Str → Option Value} {o : Obj} (F : Fr g L h m) (e0 : h.get? r = none) (e1 : h'.get? r = some o) : LeAt g L h' r o := by
  refine ⟨e1, fun q => ?_, ?_⟩
  · obtain ⟨oL, _, _, hL, _⟩ := F.ns
    rw [q, hL] at e0; cases e0
  · cases e : g.get? r with
    | none => rfl
    | some o' => rw [F.keep _ _ e] at e0; cases e0
example : True := by
  (k_with "my nameC_K" => (k_here; (with_reducible show wpAny _ _ (eval (Expr.Name _ _) _) _ _ _); refine nameC_K (by assumption) (by assumption) (by k_is) (by rfl) (by rfl) (by rfl) (by decide) ?_))
  (k_with "my nameC_F" => (k_here; (with_reducible show wpAny _ _ (eval (Expr.Name _ _) _) _ _ _); refine' nameC_F ?hoₘ ?hcₘ ?hdₘ ?hkₘ ?hxₘ ?hbₘ ?_; (case hcₘ => exact rfl); (case hoₘ => exact News.get (by k_asm) (by k_extra "my mem")); (case hdₘ => assumption); (case hkₘ => exact rfl); (case hxₘ => exact rfl); (case hbₘ => decide)))
  (k_with "my cwalk" => (repeat (first | k_extra "my nameC_L" | k_extra "my nameC_F" | k_extra "my nameC_K" | walk1)))
  trivial
/-- sets of small ints, one behind the other -/
inductive SetsOk (w : World) : List (Addr × Obj) → List (List Nat) → Prop
  | nil : SetsOk w [] []
  | cons {r o S sl Ss} : SetC w o S → SetsOk w sl Ss → SetsOk w ((r, o) :: sl) (S :: Ss)
theorem SetsOk.append {w : World} {a b : List (Addr × Obj)} {x y : List (List Nat)} (C : SetsOk w a x) (D : SetsOk w b y) : SetsOk w (a ++ b) (x ++ y) := by
  induction C with
  | nil => exact D
  | cons c _ ih => exact .cons c ih
theorem SetsOk.length {w : World} {a : List (Addr × Obj)} {x : List (List Nat)} (C : SetsOk w a x) : a.length = x.length := by
  induction C with
  | nil => rfl
  | cons _ _ ih => exact congrArg (· + 1) ih
section
variable {prog : Program} {w : World} {A : Around} {E : Value → Shared → Prop} {s : Shared} {g : Heap} {L a : Addr} {news : List (Addr × Obj)} {o : Obj} {S : List Nat} {k : Nat}
theorem any_contains : (S.any fun j => decide ((j : Int) = (k : Int))) = S.contains k := by
  rw [Bool.eq_iff_iff, List.any_eq_true, List.contains_iff_mem]
  constructor
  · rintro ⟨j, hj, e⟩
    have := of_decide_eq_true e
    have : j = k := by omega
    exact this ▸ hj
  · intro q; exact ⟨k, q, decide_eq_true rfl⟩
theorem inSet_L {t : Tok} {b : Bool} {Q : Value → Shared → Prop} (N : News g L s.heap news) (hm : (a, o) ∈ news) (hc : SetC w o S) (hb : S.contains k = b) (h : ∀ tk, Q (.bool b) { s with toks := tk }) :
    wpAny (model prog w) A (compareOp .In (.int (k : Int) t) (.ref a)) Q E s := by
  refine wpAny_inSet_of (knd := intKind prog w) (intKind_is _ _ _ _) rfl (hc.setOf (N _ hm).1) ?_
  rw [any_contains, hb]
  exact h _
end
example : True := by
  (k_with "compareOp In int ref" => (k_here; k_dflt (refine' inSet_L (by k_asm) (by k_extra "my mem") (by assumption) (by assumption) ?_); intro _))
  trivial
theorem restT_range {prog : Program} {w : World} {A : Around} {h₀ : Heap} {L : Addr} {m : Str → Option Value} {env : Env} {ct elt : Expr} {x : Str} {scope : Scope} {cl : List (Str × Addr)} {s : Shared} {S : List (Addr × Obj) → Prop} {P : Nat → Value → Prop} {Fin : List Value → List (Addr × Obj) → Prop} {n : Nat} {news : List (Addr × Obj)}
    (Inv : Nat → List Value → Prop) (h0 : Inv 0 []) (turn : ∀ k i ys, i + (k + 1) = n → Inv i ys → (∀ ys', Inv (i + 1) ys' → LCt.CompRestT prog w A h₀ L m env ct elt x scope cl s S P Fin k (i + 1) ys' news) → LCt.CompRestT prog w A h₀ L m env ct elt x scope cl s S P Fin (k + 1) i ys news)
    (fin : ∀ ys, Inv n ys → Fin ys news) : LCt.CompRestT prog w A h₀ L m env ct elt x scope cl s S P Fin n 0 [] news := by
  have key : ∀ k i ys, i + k = n → Inv i ys → LCt.CompRestT prog w A h₀ L m env ct elt x scope cl s S P Fin k i ys news := by
    intro k
    induction k with
    | zero => intro i ys hi hI; exact LCt.CompRestT.zero (fin ys (by rw [← hi]; exact hI))
    | succ k ih => intro i ys hi hI; exact turn k i ys hi hI fun ys' h' => ih (i + 1) ys' (by omega) h'
  exact key n 0 [] (Nat.zero_add _) h0
/-- the ints below i where f holds -/
noncomputable def upTo (f : Nat → Bool) (i : Nat) : List Int := ((List.range i).filter f).map fun j : Nat => (j : Int)
theorem upTo_t {f : Nat → Bool} {i : Nat} (h : f i = true) : upTo f (i + 1) = upTo f i ++ [(i : Int)] := by
  unfold upTo
  rw [List.range_succ, List.filter_append, List.map_append, List.filter_cons, if_pos h]
  rfl
theorem upTo_f {f : Nat → Bool} {i : Nat} (h : f i = false) : upTo f (i + 1) = upTo f i := by
  unfold upTo
  rw [List.range_succ, List.filter_append, List.map_append, List.filter_cons, if_neg (by rw [h]; simp)]
  simp
theorem SetsOk.four {w : World} {sl : List (Addr × Obj)} {S0 S1 S2 S3 : List Nat} (h : SetsOk w sl [S0, S1, S2, S3]) : ∃ r0 o0 r1 o1 r2 o2 r3 o3, sl = [(r0, o0), (r1, o1), (r2, o2), (r3, o3)] ∧ SetC w o0 S0 ∧ SetC w o1 S1 ∧ SetC w o2 S2 ∧ SetC w o3 S3 := by
  cases h with
  | cons c0 h => cases h with
    | cons c1 h => cases h with
      | cons c2 h => cases h with
        | cons c3 h => cases h; exact ⟨_, _, _, _, _, _, _, _, rfl, c0, c1, c2, c3⟩
noncomputable def runBody (P : Params) : List Stmt := match (hd.heap_39 P).lookup 255 with
  | some o => (match o.data with
    | .func f => (match f.body with
      | .stmts b => b
      | _ => [])
    | _ => [])
  | _ => []
noncomputable def runScope (P : Params) : Scope := match (hd.heap_39 P).lookup 255 with
  | some o => (match o.data with
    | .func f => f.scope
    | _ => default)
  | _ => default
theorem scope_let {a e : Scope} {P : Scope → Prop} (h : a = e) (k : let s := e; P s) : ∀ x, a = x → P x := by
  intro x hx
  rw [← hx, h]
  exact k
theorem execs_is {M : Model} {A : Around} {l : List Stmt} {st : Stmt} {rest : List Stmt} {env : Env} {Q : Flow → Shared → Prop} {E : Value → Shared → Prop} {s : Shared} (e : l = st :: rest) (h : wpAny M A (execs (st :: rest) env) Q E s) : wpAny M A (execs l env) Q E s := e ▸ h
noncomputable abbrev runEnv (w : World) (L : Addr) : Env := envOfC (Str.ofString "_law_run") (runScope w.params) L 255 (.ref 254)
/-- the k-th statement of _law_run and those behind it -/
noncomputable def RunGoal (w : World) (A : Around) (L : Addr) (Q : Value → Shared → Prop) (k : Nat) (s : Shared) : Prop :=
  wpAny (model PySem.Challenge.rw_wr0037_01.prog w) (A.deeper (runEnv w L)) (execs ((runBody w.params).drop k) (runEnv w L)) (fun fl s' => Q (match fl with | .ret v => v | _ => .none) s') (fun _ _ => False) s
/-- what holds all the way of _law_run -/
structure Cx (w : World) (A : Around) (p : Program) (loose : List Str) (mg mb : Str → Option Value) (g : Heap) (cl : Addr) (vs : List Value) (cs : List (Str × Str)) (epc : Nat) : Prop where
  hh : A.handled = none
  G : Gd (hd.heap_39 w.params) p loose mg mb g
  cl1 : g.get? cl = some (listOf vs.toArray epc)
  C : Chs g vs cs
  ok : ∀ c ∈ cs, OkCh c
  gap : ∀ k c, 1 ≤ k → cs[k]? = some c → ¬ c.1 = Str.ofString ""
  len : cs.length = 7
  room : A.depth + 85 < recursionLimit
  un : A.units + 900 < cLine
section
variable {w : World} {A : Around} {s : Shared} {p : Program} {loose : List Str} {mg mb : Str → Option Value} {g₀ : Heap}
    {Q : Value → Shared → Prop} {E : Value → Shared → Prop} {cl : Addr} {vs : List Value} {cs : List (Str × Str)} {epc : Nat} {nw wd : Int}
theorem run_p1 {tn tw : Tok} (hh : A.handled = none) (G : Gd (hd.heap_39 w.params) p loose mg mb g₀) (H : g₀.StaysIn s.heap) (hcl : s.heap.get? cl = some (listOf vs.toArray epc)) (hC : Chs s.heap vs cs) (hok : ∀ c ∈ cs, OkCh c)
    (hgap : ∀ k c, 1 ≤ k → cs[k]? = some c → ¬ c.1 = Str.ofString "") (hlen : cs.length = 7) (hT : TB g₀ s.heap 140) (hT2 : TB g₀ s.heap 147)
    (hroom : A.depth + 85 < recursionLimit) (hu : A.units + 900 < cLine)
    (next : ∀ (g : Heap) (L : Addr) (ps0 ps20 : Array Value) (s' : Shared) (m : Str → Option Value) (lB lE lf lw : Addr) (ysB ysE : List Value) (oF oC : Obj) (t1 t0 : Tok) (r0 r1 r2 r3 : Addr) (o0 o1 o2 o3 : Obj),
      Cx w A p loose mg mb g cl vs cs epc → g₀.StaysIn g → Kp [140, 147] s.heap g → s.heap.get? 140 = some (tabObj ps0) → s.heap.get? 147 = some (tabObj ps20) → g₀.get? 140 = none → g₀.get? 147 = none → TriplesOk ps0.toList → TriplesOk ps20.toList → Sm s s' → Fr g L s'.heap m →
      News g L s'.heap [(lB, listOf ysB.toArray ysB.length), (lE, listOf ysE.toArray ysE.length), (lf, listOf #[.ref r0, .ref r1, .ref r2, .ref r3] 4), (lw, listOf #[.int (sizeOf' cs : Nat) t1, .int wd tw, .int nw tn, .int 0 t0] 0), (L + 1 + 1, oF), (L + 1, oC), (140, tabObj ps0), (147, tabObj ps20), (r0, o0), (r1, o1), (r2, o2), (r3, o3)] →
      oF.data = .cell (some (.ref lf)) → oC.data = .cell (some (.ref cl)) → m (Str.ofString "widths") = some (.ref lw) → m (Str.ofString "either") = some (.ref lE) → m (Str.ofString "both") = some (.ref lB) →
      AllNe lB [(lE, oF), (lf, oF), (lw, oF), (L + 1 + 1, oF), (L + 1, oF), (140, oF), (147, oF), (r0, oF), (r1, oF), (r2, oF), (r3, oF)] → AllNe lE [(lf, oF), (lw, oF), (L + 1 + 1, oF), (L + 1, oF), (140, oF), (147, oF), (r0, oF), (r1, oF), (r2, oF), (r3, oF)] →
      AllNe lf [(lw, oF), (L + 1 + 1, oF), (L + 1, oF), (140, oF), (147, oF), (r0, oF), (r1, oF), (r2, oF), (r3, oF)] → AllNe lw [(L + 1 + 1, oF), (L + 1, oF), (140, oF), (147, oF), (r0, oF), (r1, oF), (r2, oF), (r3, oF)] →
      AllNe 140 [(L + 1 + 1, oF), (L + 1, oF), (147, oF), (r0, oF), (r1, oF), (r2, oF), (r3, oF)] → AllNe 147 [(L + 1 + 1, oF), (L + 1, oF), (r0, oF), (r1, oF), (r2, oF), (r3, oF)] → @Ne Nat r1 r2 →
      SetC w o0 (foldsOf cs (sizeOf' cs : Nat)) → SetC w o1 (foldsOf cs wd) → SetC w o2 (foldsOf cs nw) → SetC w o3 (foldsOf cs 0) →
      IntsAre ysE (upTo (fun j => (foldsOf cs wd).contains j || (foldsOf cs nw).contains j) 7) → IntsAre ysB (upTo (fun j => (foldsOf cs wd).contains j && (foldsOf cs nw).contains j) 7) → RunGoal w A L Q 4 s') :
    wpAny (model PySem.Challenge.rw_wr0037_01.prog w) A (call (.ref 255) [.ref cl, .int nw tn, .int wd tw]) Q E s := by
  k_extra "my hide"
  obtain ⟨ps, hps, tr, hps0⟩ := hT
  obtain ⟨ps2, hps2, tr2, hps02⟩ := hT2
  k_extra "my back"
  have hn : ∀ z ∈ [((140 : Addr), tabObj ps), ((147 : Addr), tabObj ps2)], s.heap.get? z.1 = some z.2 := all_cons hps (all_cons hps2 all_nil)
  have ht : ∀ z ∈ [((140 : Addr), tabObj ps), ((147 : Addr), tabObj ps2)], z.2.cls ≠ .type "tuple" := all_cons mcls_tab (all_cons mcls_tab all_nil)
  refine' enterCell (binds := [(Str.ofString "chunks", .ref cl), (Str.ofString "narrow", .int nw tn), (Str.ofString "wide", .int wd tw)]) [(140, tabObj ps), (147, tabObj ps2)] G H ?hn ?ho ?hcd ?hr ?hb ?hl ?hnd ?hbody ?c2 ?c3 ?c4
  case ho => k_is
  case hcd => k_is
  case hb => first | exact BindsTo.of_eq rfl | exact binds_K (Frag.In.keeps (Gd.X (by assumption)) (by assumption)) rfl (by k_is) rfl rfl rfl
  case hl => exact rfl
  case hnd => decide +kernel
  case c2 => exact rfl
  case c3 => exact rfl
  case c4 => exact rfl
  case hn => exact all_cons ⟨hps, hps0⟩ (all_cons ⟨hps2, hps02⟩ all_nil)
  case hr => omega
  case hbody =>
    intro sc g' L' h' tk' cells G' st' kp' F' N' Y l1 lc
    have X' := G'.X
    have T' := G'.T
    have hC1 : Chs g' vs cs := chs_ground hC kp' hn ht
    have hcl1 : g'.get? cl = some (listOf vs.toArray epc) := kp' _ _ hcl fun hm => by
      obtain ⟨z, hz, e⟩ := List.mem_map.mp hm
      have := hn z hz
      rw [e, hcl] at this
      rcases List.mem_cons.mp hz with rfl | hz
      · cases this
      · rcases List.mem_cons.mp hz with rfl | hz
        · cases this
        · cases hz
    clear hn ht hC
    k_lt l1
    k_cells Y
    (try simp only [List.cons_append, List.nil_append] at N')
    rename_i oF oC d1 d2
    have dF : oF.data = .cell none := d1
    have dC : oC.data = .cell (some (.ref cl)) := d2
    clear d1 d2
    (try dsimp only)
    (show wpAny _ _ _ _ _ _); k_fold
    k_steps
    refine halt_go ?_
    rename Fr _ _ _ _ => kF
    rename News _ _ _ _ => kN
    have hszc := size_le hok
    refine law_size_c hh G' kF.keep (kF.keep _ _ hcl1) (hC1.keeps kF.keep) hok (by omega) (by k_extra "my room") (by k_extra "my room") fun t1 s1 k1 => ?_
    refine then0 (Go.kp k1) kF kN fun F1 N1 => ?_
    clear kF kN
    k_steps
    rename Fr _ _ _ _ => kF
    rename News _ _ _ _ => kN
    rename_i lw h2 l2 h3
    have hlw : lw ≠ L' + 1 + 1 ∧ lw ≠ L' + 1 ∧ lw ≠ 140 ∧ lw ≠ 147 := by obtain ⟨a, b, c, d, -⟩ := l2; exact ⟨Nat.ne_of_gt a, Nat.ne_of_gt b, Nat.ne_of_gt c, Nat.ne_of_gt d⟩
    refine ⟨lw, [.int (sizeOf' cs : Nat) t1, .int wd tw, .int nw tn, .int 0 s1.toks], 0, _, fun i ys b => ∃ sl, b = (lw, listOf #[.int (sizeOf' cs : Nat) t1, .int wd tw, .int nw tn, .int 0 s1.toks] 0) :: (L' + 1 + 1, oF) :: (L' + 1, oC) :: (140, tabObj ps) :: (147, tabObj ps2) :: sl ∧ ys = sl.map (fun p => Value.ref p.1) ∧
      SetsOk w sl (([((sizeOf' cs : Nat) : Int), wd, nw, 0].take i).map (foldsOf cs)) ∧ (sl.map (·.1)).Nodup ∧ ∀ p ∈ sl, p.1 ≠ lw ∧ p.1 ≠ L' + 1 + 1 ∧ p.1 ≠ L' + 1 ∧ p.1 ≠ 140 ∧ p.1 ≠ 147, rfl, hh, kF, kN, by simp, ⟨[], rfl, rfl, .nil, by simp, fun _ h => (nomatch h)⟩, ?c2l, ?c2t, ?c2f⟩
    case c2l =>
      rintro i ys b ⟨sl, rfl, _⟩
      exact .inl (.head _)
    case c2t =>
      intro i v ys b I oI C oC2 D m2 s4 E4 hv hC4 hm4 lo4 hJ sm4 F4 N4 off4 ne4
      k_extra "my hide"
      obtain ⟨sl, rfl, rfl, hS, hnd, hsl⟩ := hJ
      k_extra "my back"
      obtain ⟨zi, ti, rfl, hzi⟩ : ∃ z t, v = .int z t ∧ [((sizeOf' cs : Nat) : Int), wd, nw, 0][i]? = some z := by
        rcases i with _ | _ | _ | _ | i
        · exact ⟨_, _, (Option.some.inj hv).symm, rfl⟩
        · exact ⟨_, _, (Option.some.inj hv).symm, rfl⟩
        · exact ⟨_, _, (Option.some.inj hv).symm, rfl⟩
        · exact ⟨_, _, (Option.some.inj hv).symm, rfl⟩
        · simp at hv
      have Xu : (hd.heap_39 w.params).In s4.heap := X'.keeps F4.keep
      have Tu : TopRead p loose mg mb s4.heap := T'.keeps F4.keep
      have hnu : s4.heap.Ns C m2 := hC4.ns (N4 (C, oC2) (.tail _ (.head _))).1
      k_extra "my cwalk"
      refine halt_go ?_
      rename Fr _ _ _ _ => kF
      rename News _ _ _ _ => kN
      refine law_folds_c hh G' kF.keep (kF.keep _ _ hcl1) (hC1.keeps kF.keep) hok hgap (by omega) (by k_extra "my room") (by k_extra "my room") fun r o s5 k5 hr0 hr1 hrS => ?_
      refine then0 (Go.kp k5) kF kN fun F6 N6 => ?_
      (show Sm _ _ ∧ _)
      have off5 := off4.mem
      have rn : ∀ (a : Addr) (ob : Obj), s4.heap.get? a = some ob → @Ne Nat r a := fun a ob e => ne_none hr0 e
      refine ⟨⟨by k_extra "my os", by k_extra "my gens"⟩, _, ⟨sl ++ [(r, o)], rfl, by simp, ?s1, ?s2, ?s3⟩, F6, news_snoc N6 (le_fresh kF hr0 hr1), ?s4⟩
      case s1 =>
        rw [List.take_add_one, hzi, List.map_append]
        exact hS.append (.cons hrS .nil)
      case s2 =>
        rw [List.map_append, List.nodup_append]
        refine ⟨hnd, by simp, fun a ha b hb => ?_⟩
        obtain ⟨q, hq, rfl⟩ := List.mem_map.mp ha
        have : b = r := by simpa using hb
        subst this
        exact Ne.symm (rn _ _ (kN q (by simp [hq])).1)
      case s3 =>
        intro q hq
        rcases List.mem_append.mp hq with hq | hq
        · exact hsl q hq
        · rw [List.mem_singleton.mp hq]
          exact ⟨rn _ _ (kN _ (.tail _ (.tail _ (.tail _ (.head _))))).1, rn _ _ (kN (L' + 1 + 1, oF) (by simp)).1, rn _ _ (kN (L' + 1, oC) (by simp)).1, rn _ _ (kN (140, tabObj ps) (by simp)).1, rn _ _ (kN (147, tabObj ps2) (by simp)).1⟩
      case s4 =>
        refine LCg.Off3.of fun q hq => ?_
        rcases List.mem_append.mp (show q ∈ ((lw, _) :: (L' + 1 + 1, oF) :: (L' + 1, oC) :: (140, tabObj ps) :: (147, tabObj ps2) :: sl) ++ [(r, o)] from hq) with hq | hq
        · exact off5 q hq
        · rw [List.mem_singleton.mp hq]
          exact ⟨rn _ _ (kN (I, oI) (by simp)).1, rn _ _ (kN (C, oC2) (by simp)).1, rn _ _ (kN _ (.tail _ (.tail _ (.head _)))).1⟩
    case c2f =>
      intro D ys b s4 hJ sm4 off4
      k_extra "my hide"
      obtain ⟨sl, rfl, rfl, hS, hnd, hsl⟩ := hJ
      k_extra "my back"
      intro h5 tk5 F5 N5
      have hS4 : SetsOk w sl [foldsOf cs (sizeOf' cs : Nat), foldsOf cs wd, foldsOf cs nw, foldsOf cs 0] := hS
      clear hS
      k_extra "my hide"
      obtain ⟨r0, o0, r1, o1, r2, o2, r3, o3, rfl, c0, c1, c2, c3⟩ := hS4.four
      k_extra "my back"
      clear hS4
      have q1 := allNe_of off4
      simp only [AllNe, and_true] at q1
      k_extra "my hide"
      obtain ⟨q11, q12, q13, q14, q15, q16, q17, q18, q19⟩ := q1
      obtain ⟨⟨u01, u02, u03, u04, u05⟩, ⟨u11, u12, u13, u14, u15⟩, ⟨u21, u22, u23, u24, u25⟩, ⟨u31, u32, u33, u34, u35⟩⟩ := (⟨hsl (r0, o0) (by simp), hsl (r1, o1) (by simp), hsl (r2, o2) (by simp), hsl (r3, o3) (by simp)⟩ : _ ∧ _ ∧ _ ∧ _)
      k_extra "my back"
      have hnd' : (r0 ≠ r1 ∧ r0 ≠ r2 ∧ r0 ≠ r3) ∧ (r1 ≠ r2 ∧ r1 ≠ r3) ∧ r2 ≠ r3 := by simpa using hnd
      k_extra "my hide"
      obtain ⟨⟨d01, d02, d03⟩, ⟨d12, d13⟩, d23⟩ := hnd'
      obtain ⟨w1, w2, w3, w4⟩ := hlw
      k_extra "my back"
      clear hnd hsl off4
      have N6 : News g' L' h5 [(D, listOf #[.ref r0, .ref r1, .ref r2, .ref r3] 4), (lw, listOf #[.int (sizeOf' cs : Nat) t1, .int wd tw, .int nw tn, .int 0 s1.toks] 0), (L' + 1 + 1, oF), (L' + 1, oC), (140, tabObj ps), (147, tabObj ps2), (r0, o0), (r1, o1), (r2, o2), (r3, o3)] := N5
      clear N5
      refine' storeX_C F5 N6 ?c ?U dF ?_
      case c => exact rfl
      case U => k_updF
      intro h7 oF2 F7 N7 dF2
      (try dsimp only at N7)
      k_steps
      refine halt_go ?_
      rename Fr _ _ _ _ => kF
      rename News _ _ _ _ => kN
      refine LCt.Assign_ListComp_T kF (by rfl) (by with_unfolding_all rfl) (by with_unfolding_all rfl) (by decide) (by rfl) (by decide) (by rfl) (by rfl) (by rfl) ?_
      k_steps
      rename Fr _ _ _ _ => kF
      rename News _ _ _ _ => kN
      refine LCt.CompSrcT.range (a := 0) (b := 7) (n := 7) hh kF (news_tl kN) (kN _ (.head _)).1 (by decide) (by rfl) (by rw [sizeLine_eq]; omega) ?_
      intro g9
      refine restT_range (fun i ys => IntsAre ys (upTo (fun j => (foldsOf cs wd).contains j || (foldsOf cs nw).contains j) i)) .nil ?e1 ?e2
      case e1 =>
        intro k i ys hi hI ih
        refine LCt.CompRestT.succ fun v I oI C oC2 D2 m2 h9 tk9 E9 hv hC9 hm9 F9 N9 off9 ne9 => ?_
        obtain ⟨t9, rfl⟩ := hv
        rw [Int.zero_add] at hm9
        have Xu : (hd.heap_39 w.params).In h9 := X'.keeps F9.keep
        have Tu : TopRead p loose mg mb h9 := T'.keeps F9.keep
        have hnu : h9.Ns C m2 := hC9.ns (N9 (C, oC2) (.tail _ (.head _))).1
        cases b1 : (foldsOf cs wd).contains i
        · cases b2 : (foldsOf cs nw).contains i
          · k_extra "my cwalk"
            exact ⟨_, _, _, rfl, by k_asm, by k_asm, off9, trivial, ih _ (by rw [upTo_f (by rw [b1, b2]; rfl)]; exact hI)⟩
          · k_extra "my cwalk"
            exact ⟨_, _, _, rfl, by k_asm, by k_asm, off9, trivial, ih _ (by rw [upTo_t (by rw [b1, b2]; rfl)]; exact ints_append hI (.cons _ _ .nil))⟩
        · k_extra "my cwalk"
          exact ⟨_, _, _, rfl, by k_asm, by k_asm, off9, trivial, ih _ (by rw [upTo_t (by rw [b1]; rfl)]; exact ints_append hI (.cons _ _ .nil))⟩
      case e2 =>
        intro ysE hE lE h9 tk9 F9 N9 off9
        k_steps
        refine halt_go ?_
        rename Fr _ _ _ _ => kF
        rename News _ _ _ _ => kN
        refine LCt.Assign_ListComp_T kF (by rfl) (by with_unfolding_all rfl) (by with_unfolding_all rfl) (by decide) (by rfl) (by decide) (by rfl) (by rfl) (by rfl) ?_
        k_steps
        rename Fr _ _ _ _ => kF
        rename News _ _ _ _ => kN
        refine LCt.CompSrcT.range (a := 0) (b := 7) (n := 7) hh kF (news_tl kN) (kN _ (.head _)).1 (by decide) (by rfl) (by rw [sizeLine_eq]; omega) ?_
        intro g9
        refine restT_range (fun i ys => IntsAre ys (upTo (fun j => (foldsOf cs wd).contains j && (foldsOf cs nw).contains j) i)) .nil ?e3 ?e4
        case e3 =>
          intro k i ys hi hI ih
          refine LCt.CompRestT.succ fun v I oI C oC2 D2 m2 h9 tk9 E9 hv hC9 hm9 F9 N9 off9 ne9 => ?_
          obtain ⟨t9, rfl⟩ := hv
          rw [Int.zero_add] at hm9
          have Xu : (hd.heap_39 w.params).In h9 := X'.keeps F9.keep
          have Tu : TopRead p loose mg mb h9 := T'.keeps F9.keep
          have hnu : h9.Ns C m2 := hC9.ns (N9 (C, oC2) (.tail _ (.head _))).1
          cases b1 : (foldsOf cs wd).contains i
          · k_extra "my cwalk"
            exact ⟨_, _, _, rfl, by k_asm, by k_asm, off9, trivial, ih _ (by rw [upTo_f (by rw [b1]; rfl)]; exact hI)⟩
          · cases b2 : (foldsOf cs nw).contains i
            · k_extra "my cwalk"
              exact ⟨_, _, _, rfl, by k_asm, by k_asm, off9, trivial, ih _ (by rw [upTo_f (by rw [b1, b2]; rfl)]; exact hI)⟩
            · k_extra "my cwalk"
              exact ⟨_, _, _, rfl, by k_asm, by k_asm, off9, trivial, ih _ (by rw [upTo_t (by rw [b1, b2]; rfl)]; exact ints_append hI (.cons _ _ .nil))⟩
        case e4 =>
          intro ysB hB lB h10 tk10 F10 N10 off10
          simp only [LCg.Off1, and_true] at off9 off10
          k_extra "my hide"
          obtain ⟨x1, x2, x3, x4, x5, x6, x7, x8, x9, x10⟩ := off9
          obtain ⟨y0, y1, y2, y3, y4, y5, y6, y7, y8, y9, y10⟩ := off10
          k_extra "my back"
          refine next g' L' ps ps2 _ _ lB lE D lw ysB ysE oF2 oC t1 s1.toks r0 r1 r2 r3 o0 o1 o2 o3 ⟨hh, G', hcl1, hC1, hok, hgap, hlen, hroom, hu⟩ st' kp' hps hps2 hps0 hps02 tr tr2 ⟨by k_extra "my os", by k_extra "my gens"⟩ F10 N10 dF2 dC rfl rfl rfl ?n1 ?n2 ?n3 ?n4 ?n5 ?n6 d12 c0 c1 c2 c3 hE hB
          case n1 => exact ⟨y0, y1, y2, y3, y4, y5, y6, y7, y8, y9, y10, trivial⟩
          case n2 => exact ⟨x1, x2, x3, x4, x5, x6, x7, x8, x9, x10, trivial⟩
          case n3 => exact ⟨q11, q12, q13, q14, q15, q16, q17, q18, q19, trivial⟩
          case n4 => exact ⟨Ne.symm w1, Ne.symm w2, Ne.symm w3, Ne.symm w4, u01, u11, u21, u31, trivial⟩
          case n5 => exact ⟨by k_ne, by k_ne, by k_ne, u04, u14, u24, u34, trivial⟩
          case n6 => exact ⟨by k_ne, by k_ne, u05, u15, u25, u35, trivial⟩
end

section
variable {w : World} {g h : Heap} {L a : Addr} {news : List (Addr × Obj)} {o : Obj} {S : List Nat}
theorem places_set (hc : SetC w o S) (ho : h.get? a = some o) : Places w h a (fun k => S.contains k) := by
  refine .inl ⟨o, _, S.length, ho, hc.objOf, ?_, fun k => any_contains⟩
  obtain ⟨tk, ep, m, mv, rfl, hS, hm, hz⟩ := hc
  have := subs_len S hS
  show S.length < 4096
  omega
theorem places_ints {ys : List Value} {ns : List Int} {ep : Nat} (hI : IntsAre ys ns) (ho : h.get? a = some (listOf ys.toArray ep)) : Places w h a (fun k => ns.any (· == (k : Int))) := .inr ⟨ys, ns, ep, ho, hI, fun _ => rfl⟩
end
theorem run_start {w : World} {A : Around} {L : Addr} {Q : Value → Shared → Prop} {k : Nat} {s : Shared}
    (h : ∀ sc0, runScope w.params = sc0 → wpAny (model PySem.Challenge.rw_wr0037_01.prog w) (A.deeper (envOfC (Str.ofString "_law_run") sc0 L 255 (.ref 254))) (execs ((runBody w.params).drop k) (envOfC (Str.ofString "_law_run") sc0 L 255 (.ref 254))) (fun fl s' => Q (match fl with | .ret v => v | _ => .none) s') (fun _ _ => False) s) : RunGoal w A L Q k s := h _ rfl
example : True := by
  (k_with "my holes" => (try (any_goals (first | exact Str.ofString "" | exact (0 : Addr) | exact Value.none))))
  (k_with "my start" => ((refine run_start ?_); (refine scope_let (e := ⟨_, _, _, _, _⟩) rfl ?_); (intro _); (refine execs_is (st := _) (rest := _) rfl ?_)))
  trivial
section
variable {w : World} {A : Around} {s : Shared} {p : Program} {loose : List Str} {mg mb : Str → Option Value} {g : Heap} {L : Addr} {m : Str → Option Value}
    {Q : Value → Shared → Prop} {cl : Addr} {vs : List Value} {cs : List (Str × Str)} {epc : Nat} {nw wd : Int}
    {lB lE lf lw : Addr} {ysB ysE : List Value} {oF oC : Obj} {r0 r1 r2 r3 : Addr} {o0 o1 o2 o3 : Obj} {S0 S1 S2 S3 : List Nat} {fE fB : List Int} {ow o40 o47 : Obj}
theorem run_4 (X : Cx w A p loose mg mb g cl vs cs epc) (F : Fr g L s.heap m)
    (N : News g L s.heap [(lB, listOf ysB.toArray ysB.length), (lE, listOf ysE.toArray ysE.length), (lf, listOf #[.ref r0, .ref r1, .ref r2, .ref r3] 4), (lw, ow), (L + 1 + 1, oF), (L + 1, oC), (140, o40), (147, o47), (r0, o0), (r1, o1), (r2, o2), (r3, o3)])
    (dF : oF.data = .cell (some (.ref lf))) (dC : oC.data = .cell (some (.ref cl))) (mE : m (Str.ofString "either") = some (.ref lE)) (mB : m (Str.ofString "both") = some (.ref lB))
    (c0 : SetC w o0 S0) (c1 : SetC w o1 S1) (c2 : SetC w o2 S2) (c3 : SetC w o3 S3) (hE : IntsAre ysE fE) (hB : IntsAre ysB fB)
    (next : ∀ s' lP ysP, Sm s s' → Fr g L s'.heap (fun z => if z = Str.ofString "plains" then some (.ref lP) else m z) →
      News g L s'.heap [(lP, listOf ysP.toArray ysP.length), (lB, listOf ysB.toArray ysB.length), (lE, listOf ysE.toArray ysE.length), (lf, listOf #[.ref r0, .ref r1, .ref r2, .ref r3] 4), (lw, ow), (L + 1 + 1, oF), (L + 1, oC), (140, o40), (147, o47), (r0, o0), (r1, o1), (r2, o2), (r3, o3)] →
      AllNe lP [(lB, oF), (lE, oF), (lf, oF), (lw, oF), (L + 1 + 1, oF), (L + 1, oF), (140, oF), (147, oF), (r0, oF), (r1, oF), (r2, oF), (r3, oF)] →
      StrL ysP [plainT cs (fun k => S0.contains k) 7, plainT cs (fun k => S1.contains k) 7, plainT cs (fun k => S2.contains k) 7, plainT cs (fun k => S3.contains k) 7, plainT cs (fun k => fE.any (· == (k : Int))) 7, plainT cs (fun k => fB.any (· == (k : Int))) 7] → RunGoal w A L Q 5 s') :
    RunGoal w A L Q 4 s := by
  k_extra "my hide"
  obtain ⟨hh, G', hcl1, hC1, hok, hgap, hlen, hroom, hu⟩ := X
  k_extra "my back"
  have X' := G'.X
  have T' := G'.T
  k_extra "my start"
  k_fold
  k_steps
  k_extra "my holes"
  rename Fr _ _ _ _ => kF
  rename News _ _ _ _ => kN
  rename_i lx hx1 lx1 lD hx2 lD1
  refine ⟨lD, [.ref r0, .ref r1, .ref r2, .ref r3, .ref lE, .ref lB], 0, _, fun i ys b => b = [(lD, listOf #[.ref r0, .ref r1, .ref r2, .ref r3, .ref lE, .ref lB] 0), (lx, listOf #[.ref lE, .ref lB] 0), (lB, listOf ysB.toArray ysB.length), (lE, listOf ysE.toArray ysE.length), (lf, listOf #[.ref r0, .ref r1, .ref r2, .ref r3] 4), (lw, ow), (L + 1 + 1, oF), (L + 1, oC), (140, o40), (147, o47), (r0, o0), (r1, o1), (r2, o2), (r3, o3)] ∧
    StrL ys ([plainT cs (fun k => S0.contains k) 7, plainT cs (fun k => S1.contains k) 7, plainT cs (fun k => S2.contains k) 7, plainT cs (fun k => S3.contains k) 7, plainT cs (fun k => fE.any (· == (k : Int))) 7, plainT cs (fun k => fB.any (· == (k : Int))) 7].take i), rfl, hh, kF, kN, by simp, ⟨rfl, .nil⟩, ?sl, ?tn, ?fn⟩
  case sl =>
    rintro i ys b ⟨rfl, _⟩
    exact .inl (.head _)
  case tn =>
    intro i v ys b I oI C oC2 D m2 s4 E4 hv hC4 hm4 lo4 hJ sm4 F4 N4 off4 ne4
    obtain ⟨rfl, hS⟩ := hJ
    obtain ⟨ai, fi, rfl, hPl, hPi⟩ : ∃ a f, v = .ref a ∧ Places w s4.heap a f ∧ [plainT cs (fun k => S0.contains k) 7, plainT cs (fun k => S1.contains k) 7, plainT cs (fun k => S2.contains k) 7, plainT cs (fun k => S3.contains k) 7, plainT cs (fun k => fE.any (· == (k : Int))) 7, plainT cs (fun k => fB.any (· == (k : Int))) 7][i]? = some (plainT cs f 7) := by
      rcases i with _ | _ | _ | _ | _ | _ | i
      · exact ⟨_, _, (Option.some.inj hv).symm, places_set c0 (N4.get (by k_extra "my mem")), rfl⟩
      · exact ⟨_, _, (Option.some.inj hv).symm, places_set c1 (N4.get (by k_extra "my mem")), rfl⟩
      · exact ⟨_, _, (Option.some.inj hv).symm, places_set c2 (N4.get (by k_extra "my mem")), rfl⟩
      · exact ⟨_, _, (Option.some.inj hv).symm, places_set c3 (N4.get (by k_extra "my mem")), rfl⟩
      · exact ⟨_, _, (Option.some.inj hv).symm, places_ints hE (N4.get (by k_extra "my mem")), rfl⟩
      · exact ⟨_, _, (Option.some.inj hv).symm, places_ints hB (N4.get (by k_extra "my mem")), rfl⟩
      · simp at hv
    have Xu : (hd.heap_39 w.params).In s4.heap := X'.keeps F4.keep
    have Tu : TopRead p loose mg mb s4.heap := T'.keeps F4.keep
    have hnu : s4.heap.Ns C m2 := hC4.ns (N4 (C, oC2) (.tail _ (.head _))).1
    k_extra "my cwalk"
    refine halt_go ?_
    rename Fr _ _ _ _ => kF
    rename News _ _ _ _ => kN
    refine law_plain_c hh G' kF.keep (kF.keep _ _ hcl1) (hC1.keeps kF.keep) hok (by omega) hPl (by k_extra "my room") (by k_extra "my room") fun t s5 k5 => ?_
    refine then0 (Go.kp k5) kF kN fun F6 N6 => ?_
    (show Sm _ _ ∧ _)
    refine ⟨⟨by k_extra "my os", by k_extra "my gens"⟩, _, ⟨rfl, ?_⟩, F6, N6, off4⟩
    rw [List.take_add_one, hPi]
    rw [hlen]
    exact hS.append (.cons .nil)
  case fn =>
    intro D ys b s4 hJ sm4 off4
    obtain ⟨rfl, hS⟩ := hJ
    intro h5 tk5 F5 N5
    have q1 := allNe_of off4
    simp only [AllNe, and_true] at q1
    obtain ⟨-, -, q⟩ := q1
    have hl : ys.length = 6 := hS.length
    refine next _ D ys ⟨by k_extra "my os", by k_extra "my gens"⟩ F5 (all_cons (N5 _ (by k_extra "my mem")) (all_cons (N5 _ (by k_extra "my mem")) (all_cons (N5 _ (by k_extra "my mem")) (all_cons (N5 _ (by k_extra "my mem")) (all_cons (N5 _ (by k_extra "my mem")) (all_cons (N5 _ (by k_extra "my mem")) (all_cons (N5 _ (by k_extra "my mem")) (all_cons (N5 _ (by k_extra "my mem")) (all_cons (N5 _ (by k_extra "my mem")) (all_cons (N5 _ (by k_extra "my mem")) (all_cons (N5 _ (by k_extra "my mem")) (all_cons (N5 _ (by k_extra "my mem")) (all_cons (N5 _ (by k_extra "my mem")) (all_nil)))))))))))))) ?_ hS
    · simp only [AllNe, and_true]
      exact ⟨Ne.symm (Ne.symm q.1), q.2⟩
end

example : True := by
  (k_with "my halt1" => (k_here; (with_reducible show wpAny _ _ (execs (Stmt.Assign [Expr.Name _ _] (Expr.ListComp _ _ _ _) _ :: _) _) _ _ _); refine halt_of ?_))
  trivial
section
local macro_rules | `(tactic| walk_at "execs cons") => `(tactic| k_extra "my halt1")
variable {w : World} {A : Around} {s : Shared} {p : Program} {loose : List Str} {mg mb : Str → Option Value} {g : Heap} {L : Addr} {m : Str → Option Value}
    {Q : Value → Shared → Prop} {cl : Addr} {vs : List Value} {cs : List (Str × Str)} {epc : Nat}
    {lP lB lE lf lw : Addr} {oF oC oP oB oE ow o40 o47 : Obj} {r0 r1 r2 r3 : Addr} {o0 o1 o2 o3 : Obj} {S1 S2 : List Nat}
theorem run_5 (X : Cx w A p loose mg mb g cl vs cs epc) (F : Fr g L s.heap m)
    (N : News g L s.heap [(lP, oP), (lB, oB), (lE, oE), (lf, listOf #[.ref r0, .ref r1, .ref r2, .ref r3] 4), (lw, ow), (L + 1 + 1, oF), (L + 1, oC), (140, o40), (147, o47), (r0, o0), (r1, o1), (r2, o2), (r3, o3)])
    (dF : oF.data = .cell (some (.ref lf))) (c1 : SetC w o1 S1) (c2 : SetC w o2 S2) (d12 : @Ne Nat r1 r2) (a1 : @Ne Nat lP lf) (a2 : @Ne Nat lB lf) (a3 : @Ne Nat lE lf)
    (a4 : AllNe lf [(lw, oF), (L + 1 + 1, oF), (L + 1, oF), (140, oF), (147, oF), (r0, oF), (r1, oF), (r2, oF), (r3, oF)])
    (next : ∀ s' r4 o4 r5 o5, Sm s s' → Fr g L s'.heap m →
      News g L s'.heap [(r5, o5), (r4, o4), (lP, oP), (lB, oB), (lE, oE), (lf, listOf #[.ref r0, .ref r1, .ref r2, .ref r3, .ref r4, .ref r5] 6), (lw, ow), (L + 1 + 1, oF), (L + 1, oC), (140, o40), (147, o47), (r0, o0), (r1, o1), (r2, o2), (r3, o3)] →
      SetC w o4 (uni S1 S2) → SetC w o5 (inter S1 S2) →
      AllNe r4 [(lP, oF), (lB, oF), (lE, oF), (lf, oF), (lw, oF), (L + 1 + 1, oF), (L + 1, oF), (140, oF), (147, oF), (r0, oF), (r1, oF), (r2, oF), (r3, oF)] → AllNe r5 [(r4, oF), (lP, oF), (lB, oF), (lE, oF), (lf, oF), (lw, oF), (L + 1 + 1, oF), (L + 1, oF), (140, oF), (147, oF), (r0, oF), (r1, oF), (r2, oF), (r3, oF)] → RunGoal w A L Q 7 s') :
    RunGoal w A L Q 5 s := by
  k_extra "my hide"
  obtain ⟨hh, G', hcl1, hC1, hok, hgap, hlen, hroom, hu⟩ := X
  k_extra "my back"
  have X' := G'.X
  have T' := G'.T
  dsimp only [AllNe] at a4
  k_extra "my hide"
  obtain ⟨b1, b2, b3, b4, b5, b6, b7, b8, b9, -⟩ := a4
  k_extra "my back"
  k_extra "my start"
  k_fold
  k_steps
  k_extra "my holes"
  refine halt_go ?_
  rename Fr _ _ _ _ => kF
  rename News _ _ _ _ => kN
  refine or_c G' kF.keep d12 (kN.get (by k_extra "my mem")) (kN.get (by k_extra "my mem")) c1 c2 (by k_extra "my room") (by k_extra "my room") fun r4 o4 s4 k4 hr0 hr1 c4 => ?_
  have n4 : AllNe r4 [(lP, oF), (lB, oF), (lE, oF), (lf, oF), (lw, oF), (L + 1 + 1, oF), (L + 1, oF), (140, oF), (147, oF), (r0, oF), (r1, oF), (r2, oF), (r3, oF)] := ⟨Ne.symm (ne_none hr0 (kN.get (by k_extra "my mem"))), Ne.symm (ne_none hr0 (kN.get (by k_extra "my mem"))), Ne.symm (ne_none hr0 (kN.get (by k_extra "my mem"))), Ne.symm (ne_none hr0 (kN.get (by k_extra "my mem"))), Ne.symm (ne_none hr0 (kN.get (by k_extra "my mem"))), Ne.symm (ne_none hr0 (kN.get (by k_extra "my mem"))), Ne.symm (ne_none hr0 (kN.get (by k_extra "my mem"))), Ne.symm (ne_none hr0 (kN.get (by k_extra "my mem"))), Ne.symm (ne_none hr0 (kN.get (by k_extra "my mem"))), Ne.symm (ne_none hr0 (kN.get (by k_extra "my mem"))), Ne.symm (ne_none hr0 (kN.get (by k_extra "my mem"))), Ne.symm (ne_none hr0 (kN.get (by k_extra "my mem"))), Ne.symm (ne_none hr0 (kN.get (by k_extra "my mem"))), trivial⟩
  refine then0 (Go.kp k4) kF kN fun F5 N5 => ?_
  have N6 := news_cons (le_fresh kF hr0 hr1) N5
  clear kF kN N5
  have n4' := n4
  dsimp only [AllNe] at n4'
  k_extra "my hide"
  obtain ⟨m1, m2, m3, m4, m5, m6, m7, m8, m9, m10, m11, m12, m13, -⟩ := n4'
  k_extra "my back"
  k_steps
  k_extra "my holes"
  refine halt_go ?_
  rename Fr _ _ _ _ => kF
  rename News _ _ _ _ => kN
  refine and_c G' kF.keep d12 (kN.get (by k_extra "my mem")) (kN.get (by k_extra "my mem")) c1 c2 (by k_extra "my room") (by k_extra "my room") fun r5 o5 s5 k5 hr5 hr6 c5 => ?_
  have n5 : AllNe r5 [(r4, oF), (lP, oF), (lB, oF), (lE, oF), (lf, oF), (lw, oF), (L + 1 + 1, oF), (L + 1, oF), (140, oF), (147, oF), (r0, oF), (r1, oF), (r2, oF), (r3, oF)] := ⟨Ne.symm (ne_none hr5 (kN.get (by k_extra "my mem"))), Ne.symm (ne_none hr5 (kN.get (by k_extra "my mem"))), Ne.symm (ne_none hr5 (kN.get (by k_extra "my mem"))), Ne.symm (ne_none hr5 (kN.get (by k_extra "my mem"))), Ne.symm (ne_none hr5 (kN.get (by k_extra "my mem"))), Ne.symm (ne_none hr5 (kN.get (by k_extra "my mem"))), Ne.symm (ne_none hr5 (kN.get (by k_extra "my mem"))), Ne.symm (ne_none hr5 (kN.get (by k_extra "my mem"))), Ne.symm (ne_none hr5 (kN.get (by k_extra "my mem"))), Ne.symm (ne_none hr5 (kN.get (by k_extra "my mem"))), Ne.symm (ne_none hr5 (kN.get (by k_extra "my mem"))), Ne.symm (ne_none hr5 (kN.get (by k_extra "my mem"))), Ne.symm (ne_none hr5 (kN.get (by k_extra "my mem"))), Ne.symm (ne_none hr5 (kN.get (by k_extra "my mem"))), trivial⟩
  refine then0 (Go.kp k5) kF kN fun F7 N7 => ?_
  have N8 := news_cons (le_fresh kF hr5 hr6) N7
  clear kF kN N7
  have n5' := n5
  dsimp only [AllNe] at n5'
  k_extra "my hide"
  obtain ⟨x0, x1, x2, x3, x4, x5, x6, x7, x8, x9, x10, x11, x12, x13, -⟩ := n5'
  k_extra "my back"
  k_steps
  k_extra "my holes"
  refine halt_go ?_
  rename Fr _ _ _ _ => kF
  rename News _ _ _ _ => kN
  exact next _ r4 o4 r5 o5 ⟨by k_extra "my os", by k_extra "my gens"⟩ kF kN c4 c5 n4 n5
end

theorem SetC.lt {w : World} {o : Obj} {S : List Nat} (h : SetC w o S) : ∀ j ∈ S, j < 7 := fun j hj => by
  obtain ⟨_, _, _, _, _, hS, _⟩ := h
  have := subs_mem S hS j hj
  simp only [List.mem_cons, List.not_mem_nil, or_false] at this
  omega
section
variable {w : World} {A : Around} {s : Shared} {p : Program} {loose : List Str} {mg mb : Str → Option Value} {g : Heap} {L : Addr} {m : Str → Option Value}
    {Q : Value → Shared → Prop} {cl : Addr} {vs : List Value} {cs : List (Str × Str)} {epc : Nat}
    {lP lB lE lf lw : Addr} {oF oC oP oB oE ow o40 : Obj} {ps2 : Array Value} {r0 r1 r2 r3 r4 r5 : Addr} {o0 o1 o2 o3 o4 o5 : Obj} {S0 S1 S2 S3 S4 S5 : List Nat}
theorem run_7 (X : Cx w A p loose mg mb g cl vs cs epc) (F : Fr g L s.heap m)
    (N : News g L s.heap [(r5, o5), (r4, o4), (lP, oP), (lB, oB), (lE, oE), (lf, listOf #[.ref r0, .ref r1, .ref r2, .ref r3, .ref r4, .ref r5] 6), (lw, ow), (L + 1 + 1, oF), (L + 1, oC), (140, o40), (147, tabObj ps2), (r0, o0), (r1, o1), (r2, o2), (r3, o3)])
    (tr2 : TriplesOk ps2.toList) (dF : oF.data = .cell (some (.ref lf))) (dC : oC.data = .cell (some (.ref cl))) (c0 : SetC w o0 S0) (c1 : SetC w o1 S1) (c2 : SetC w o2 S2) (c3 : SetC w o3 S3) (c4 : SetC w o4 S4) (c5 : SetC w o5 S5)
    (a47 : AllNe 147 [(r5, oF), (r4, oF), (lP, oF), (lB, oF), (lE, oF), (lf, oF), (lw, oF), (L + 1 + 1, oF), (L + 1, oF), (140, oF), (r0, oF), (r1, oF), (r2, oF), (r3, oF)])
    (next : ∀ s' lW ysW ps2, Sm s s' → Fr g L s'.heap (fun z => if z = Str.ofString "wants" then some (.ref lW) else m z) → TriplesOk ps2.toList →
      News g L s'.heap [(lW, listOf ysW.toArray ysW.length), (r5, o5), (r4, o4), (lP, oP), (lB, oB), (lE, oE), (lf, listOf #[.ref r0, .ref r1, .ref r2, .ref r3, .ref r4, .ref r5] 6), (lw, ow), (L + 1 + 1, oF), (L + 1, oC), (140, o40), (147, tabObj ps2), (r0, o0), (r1, o1), (r2, o2), (r3, o3)] →
      AllNe lW [(r5, oF), (r4, oF), (lP, oF), (lB, oF), (lE, oF), (lf, oF), (lw, oF), (L + 1 + 1, oF), (L + 1, oF), (140, oF), (147, oF), (r0, oF), (r1, oF), (r2, oF), (r3, oF)] →
      StrL ysW [plainT cs (fun k => S0.contains k) 7, plainT cs (fun k => S1.contains k) 7, plainT cs (fun k => S2.contains k) 7, plainT cs (fun k => S3.contains k) 7, plainT cs (fun k => S4.contains k) 7, plainT cs (fun k => S5.contains k) 7] → RunGoal w A L Q 8 s') :
    RunGoal w A L Q 7 s := by
  k_extra "my hide"
  obtain ⟨hh, G', hcl1, hC1, hok, hgap, hlen, hroom, hu⟩ := X
  k_extra "my back"
  have X' := G'.X
  have T' := G'.T
  dsimp only [AllNe] at a47
  k_extra "my hide"
  obtain ⟨z1, z2, z3, z4, z5, z6, z7, z8, z9, z10, z11, z12, z13, z14, -⟩ := a47
  k_extra "my back"
  k_extra "my start"
  k_fold
  k_steps
  k_extra "my holes"
  rename Fr _ _ _ _ => kF
  rename News _ _ _ _ => kN
  refine ⟨lf, [.ref r0, .ref r1, .ref r2, .ref r3, .ref r4, .ref r5], 6, _, fun i ys b => ∃ ps2 : Array Value, b = [(r5, o5), (r4, o4), (lP, oP), (lB, oB), (lE, oE), (lf, listOf #[.ref r0, .ref r1, .ref r2, .ref r3, .ref r4, .ref r5] 6), (lw, ow), (L + 1 + 1, oF), (L + 1, oC), (140, o40), (147, tabObj ps2), (r0, o0), (r1, o1), (r2, o2), (r3, o3)] ∧ TriplesOk ps2.toList ∧
    StrL ys ([plainT cs (fun k => S0.contains k) 7, plainT cs (fun k => S1.contains k) 7, plainT cs (fun k => S2.contains k) 7, plainT cs (fun k => S3.contains k) 7, plainT cs (fun k => S4.contains k) 7, plainT cs (fun k => S5.contains k) 7].take i), rfl, hh, kF, kN, by simp, ⟨ps2, rfl, tr2, .nil⟩, ?sl, ?tn, ?fn⟩
  case sl =>
    rintro i ys b ⟨_, rfl, _⟩
    exact .inl (.tail _ (.tail _ (.tail _ (.tail _ (.tail _ (.head _))))))
  case tn =>
    intro i v ys b I oI C oC2 D m2 s4 E4 hv hC4 hm4 lo4 hJ sm4 F4 N4 off4 ne4
    obtain ⟨ps2, rfl, tr2, hS⟩ := hJ
    obtain ⟨ai, oi, Si, rfl, hoi, ci, hPi⟩ : ∃ a o S, v = .ref a ∧ s4.heap.get? a = some o ∧ SetC w o S ∧ [plainT cs (fun k => S0.contains k) 7, plainT cs (fun k => S1.contains k) 7, plainT cs (fun k => S2.contains k) 7, plainT cs (fun k => S3.contains k) 7, plainT cs (fun k => S4.contains k) 7, plainT cs (fun k => S5.contains k) 7][i]? = some (plainT cs (fun k => S.contains k) 7) := by
      rcases i with _ | _ | _ | _ | _ | _ | i
      · exact ⟨_, _, _, (Option.some.inj hv).symm, N4.get (by k_extra "my mem"), c0, rfl⟩
      · exact ⟨_, _, _, (Option.some.inj hv).symm, N4.get (by k_extra "my mem"), c1, rfl⟩
      · exact ⟨_, _, _, (Option.some.inj hv).symm, N4.get (by k_extra "my mem"), c2, rfl⟩
      · exact ⟨_, _, _, (Option.some.inj hv).symm, N4.get (by k_extra "my mem"), c3, rfl⟩
      · exact ⟨_, _, _, (Option.some.inj hv).symm, N4.get (by k_extra "my mem"), c4, rfl⟩
      · exact ⟨_, _, _, (Option.some.inj hv).symm, N4.get (by k_extra "my mem"), c5, rfl⟩
      · simp at hv
    have Xu : (hd.heap_39 w.params).In s4.heap := X'.keeps F4.keep
    have Tu : TopRead p loose mg mb s4.heap := T'.keeps F4.keep
    have hnu : s4.heap.Ns C m2 := hC4.ns (N4 (C, oC2) (.tail _ (.head _))).1
    k_extra "my cwalk"
    refine halt_go ?_
    rename Fr _ _ _ _ => kF
    rename News _ _ _ _ => kN
    have z47 := kN ((147 : Addr), tabObj ps2) (by k_extra "my mem")
    refine law_want_c hh G' kF.keep (kF.keep _ _ hcl1) (hC1.keeps kF.keep) hok (by omega) hoi ci (by rw [hlen]; exact ci.lt) ⟨ps2, z47.1, tr2, z47.2.2⟩ (by k_extra "my room") (by k_extra "my room") fun t s5 k5 hT5 => ?_
    obtain ⟨ps3, e5, tr3, _⟩ := hT5
    have offo := off4
    simp only [LCg.Off3, and_true] at off4
    k_extra "my hide"
    obtain ⟨v1, v2, v3, v4, v5, v6, v7, v8, v9, v10, ⟨v11, v12, v13⟩, v14⟩ := off4
    k_extra "my back"
    refine' then_cgs (Go.kp k5) kF kN (Cgs.cons (o' := tabObj ps3) ?U e5 Cgs.nil) ?_
    case U => k_upd
    intro F6 N6
    (show Sm _ _ ∧ _)
    refine ⟨⟨by k_extra "my os", by k_extra "my gens"⟩, _, ⟨ps3, rfl, tr3, ?_⟩, F6, N6, offo⟩
    rw [List.take_add_one, hPi]
    rw [hlen]
    exact hS.append (.cons .nil)
  case fn =>
    intro D ys b s4 hJ sm4 off4
    obtain ⟨ps3, rfl, tr3, hS⟩ := hJ
    intro h5 tk5 F5 N5
    have q1 := allNe_of off4
    exact next _ D ys ps3 ⟨by k_extra "my os", by k_extra "my gens"⟩ F5 tr3 N5 q1 hS
end

theorem strOk_plain {cs : List (Str × Str)} {f : Nat → Bool} (hok : ∀ c ∈ cs, OkCh c) {n : Nat} (hn : n ≤ cs.length) : PyData.strOk (plainT cs f n) = true := by
  unfold PyData.strOk
  rw [← Array.all_toList, List.all_eq_true]
  intro c hc
  have hc' : c ∈ tl (plainT cs f n) := hc
  rw [plain_segT] at hc'
  unfold segT at hc'
  obtain ⟨j, hj, hm⟩ := List.mem_flatMap.mp hc'
  have hj2 := List.mem_range'_1.mp hj
  rcases List.mem_append.mp hm with q | q
  · split at q
    · have : c = 46 := by simpa using q
      rw [this]; decide
    · cases q
  · have := (getD_ok hok (k := j) (by omega)).sign c q
    simp only [List.mem_cons, List.not_mem_nil, or_false] at this
    rw [decide_eq_true_eq]
    omega
theorem readsAll_strs {h : Heap} {vs : List Value} {us : List Str} (C : StrL vs us) : ReadsAll h vs (us.map PyData.str) [] := by
  induction C with
  | nil => exact .nil
  | @cons x t _ _ _ ih => exact .cons (as := []) (.str x t) ih
theorem canLay_strs : ∀ {us : List Str}, (∀ u ∈ us, PyData.strOk u = true) → PyData.canLayAll0 (us.map PyData.str) = true
  | [], _ => rfl
  | u :: r, h => by
    rw [List.map_cons, PyData.canLayAll0, canLay_strs fun x hx => h x (.tail _ hx)]
    simp [PyData.canLay0, h u (.head _)]
theorem depth_strs : ∀ {us : List Str}, PyData.depthAll (us.map PyData.str) ≤ 1
  | [] => by simp [PyData.depthAll]
  | u :: r => by
    have := depth_strs (us := r)
    rw [List.map_cons, PyData.depthAll]
    simp [PyData.depth]
    omega
theorem eqv_strs : ∀ {us : List Str}, PyData.eqvAll (us.map PyData.str) (us.map PyData.str) = true
  | [] => by simp [PyData.eqvAll]
  | u :: r => by
    rw [List.map_cons, PyData.eqvAll, eqv_strs (us := r)]
    simp [PyData.eqv]
theorem ne_strs {prog : Program} {w : World} {A : Around} {E : Value → Shared → Prop} {s : Shared} {a b : Addr} {xs ys : List Value} {ea eb : Nat} {us : List Str} {Q : Value → Shared → Prop} (ha : s.heap.get? a = some (listOf xs.toArray ea)) (hb : s.heap.get? b = some (listOf ys.toArray eb))
    (hx : StrL xs us) (hy : StrL ys us) (ok : ∀ u ∈ us, PyData.strOk u = true) (hu : A.units + 64 < cLine) (h : Q (.bool false) s) : wpAny (model prog w) A (compareOp .NotEq (.ref a) (.ref b)) Q E s := by
  have hd := depth_strs (us := us)
  have hsh : SeqAt.shaped (.list (us.map PyData.str)) = true := by
    unfold SeqAt.shaped
    rw [Bool.and_eq_true, decide_eq_true_eq]
    refine ⟨canLay_strs ok, ?_⟩
    show PyData.depthAll _ + 1 ≤ 64
    omega
  refine ne_dataH (da := .list (us.map PyData.str)) (db := .list (us.map PyData.str)) (reads_list_at ha rfl rfl (readsAll_strs hx)) (reads_list_at hb rfl rfl (readsAll_strs hy)) hsh hsh hu ?_
  rw [show PyData.eqv (.list (us.map PyData.str)) (.list (us.map PyData.str)) = true by simp only [PyData.eqv]; exact eqv_strs]
  exact h
/-- the text hangs on the places below n alone -/
theorem plain_ext {cs : List (Str × Str)} {f f' : Nat → Bool} : ∀ {n : Nat}, (∀ j, j < n → f j = f' j) → plainT cs f n = plainT cs f' n
  | 0, _ => rfl
  | n + 1, h => by
    have ih := plain_ext (cs := cs) (f := f) (f' := f') (n := n) fun j hj => h j (by omega)
    by_cases e : f n = true
    · rw [plainT_t e rfl, plainT_t (by rw [← h n (Nat.lt_succ_self _)]; exact e) rfl, ih]
    · rw [plainT_f e rfl, plainT_f (by rw [← h n (Nat.lt_succ_self _)]; exact e) rfl, ih]
theorem upTo_any {f : Nat → Bool} {n j : Nat} (h : j < n) : (upTo f n).any (· == (j : Int)) = f j := by
  unfold upTo
  rw [List.any_map, Bool.eq_iff_iff, List.any_eq_true]
  constructor
  · rintro ⟨k, hk, e⟩
    have e' : (k : Int) = (j : Int) := by simpa using e
    have : k = j := by omega
    subst this
    exact (List.mem_filter.mp hk).2
  · intro hf
    exact ⟨j, List.mem_filter.mpr ⟨List.mem_range.mpr h, hf⟩, by simp⟩
theorem uni_contains {S T : List Nat} (hS : S ∈ subs) (hT : T ∈ subs) {j : Nat} (hj : j < 7) : (uni S T).contains j = (S.contains j || T.contains j) := by
  have no0 : ∀ X ∈ subs, X.contains 0 = false := by decide +kernel
  by_cases h0 : j = 0
  · subst h0
    have h1 := (uni_spec hS (subs_mem T hT)).1
    rw [no0 _ h1, no0 _ hS, no0 _ hT]; rfl
  · exact (uni_spec hS (subs_mem T hT)).2 j (mem_1_6 (by omega) (by omega))
theorem inter_contains {S T : List Nat} {j : Nat} : (inter S T).contains j = (S.contains j && T.contains j) := by
  unfold inter
  rw [Bool.eq_iff_iff, List.contains_iff_mem, List.mem_filter, Bool.and_eq_true, List.contains_iff_mem, List.contains_iff_mem]

example : True := by
  (k_with "my halt" => (k_here; refine halt_of ?_))
  (k_with "my halt2" => (k_here; (with_reducible show wpAny _ _ (execs (Stmt.Assign [Expr.Name _ _] (Expr.BinOp _ _ _ _) _ :: _) _) _ _ _); refine halt_of ?_))
  trivial
section
local macro_rules | `(tactic| walk_at "execs cons") => `(tactic| k_extra "my halt2")
local macro_rules | `(tactic| walk_at "compareOp NotEq ref ref") => `(tactic| k_extra "my halt")
variable {w : World} {A : Around} {s : Shared} {p : Program} {loose : List Str} {mg mb : Str → Option Value} {g : Heap} {L : Addr} {m : Str → Option Value}
    {Q : Value → Shared → Prop} {cl : Addr} {vs : List Value} {cs : List (Str × Str)} {epc : Nat} {nw wd : Int} {tn tw t1 t0 : Tok}
    {lW lP lB lE lf lw : Addr} {ysW ysP : List Value} {oF oC oB oE of4 : Obj} {ps ps2 : Array Value} {r0 r1 r2 r3 r4 r5 : Addr} {o0 o1 o2 o3 o4 o5 : Obj} {P4 P5 : Str}
theorem run_8 (X : Cx w A p loose mg mb g cl vs cs epc) (F : Fr g L s.heap m)
    (N : News g L s.heap [(lW, listOf ysW.toArray ysW.length), (r5, o5), (r4, o4), (lP, listOf ysP.toArray ysP.length), (lB, oB), (lE, oE), (lf, of4), (lw, listOf #[.int (sizeOf' cs : Nat) t1, .int wd tw, .int nw tn, .int 0 t0] 0), (L + 1 + 1, oF), (L + 1, oC), (140, tabObj ps), (147, tabObj ps2), (r0, o0), (r1, o1), (r2, o2), (r3, o3)])
    (tr : TriplesOk ps.toList) (tr2 : TriplesOk ps2.toList) (dC : oC.data = .cell (some (.ref cl))) (mW : m (Str.ofString "wants") = some (.ref lW)) (mP : m (Str.ofString "plains") = some (.ref lP)) (mw : m (Str.ofString "widths") = some (.ref lw))
    (a40 : AllNe 140 [(lW, oF), (r5, oF), (r4, oF), (lP, oF), (lB, oF), (lE, oF), (lf, oF), (lw, oF), (L + 1 + 1, oF), (L + 1, oF), (147, oF), (r0, oF), (r1, oF), (r2, oF), (r3, oF)])
    (a47 : AllNe 147 [(lW, oF), (r5, oF), (r4, oF), (lP, oF), (lB, oF), (lE, oF), (lf, oF), (lw, oF), (L + 1 + 1, oF), (L + 1, oF), (140, oF), (r0, oF), (r1, oF), (r2, oF), (r3, oF)])
    (hW : StrL ysW [plainT cs (fun k => (foldsOf cs (sizeOf' cs : Nat)).contains k) 7, plainT cs (fun k => (foldsOf cs wd).contains k) 7, plainT cs (fun k => (foldsOf cs nw).contains k) 7, plainT cs (fun k => (foldsOf cs 0).contains k) 7, P4, P5])
    (hP : StrL ysP [plainT cs (fun k => (foldsOf cs (sizeOf' cs : Nat)).contains k) 7, plainT cs (fun k => (foldsOf cs wd).contains k) 7, plainT cs (fun k => (foldsOf cs nw).contains k) 7, plainT cs (fun k => (foldsOf cs 0).contains k) 7, P4, P5])
    (k4 : PyData.strOk P4 = true) (k5 : PyData.strOk P5 = true)
    (next : ∀ s' ps ps2, Sm s s' → Fr g L s'.heap m → TriplesOk ps.toList → TriplesOk ps2.toList →
      News g L s'.heap [(lW, listOf ysW.toArray ysW.length), (r5, o5), (r4, o4), (lP, listOf ysP.toArray ysP.length), (lB, oB), (lE, oE), (lf, of4), (lw, listOf #[.int (sizeOf' cs : Nat) t1, .int wd tw, .int nw tn, .int 0 t0] 0), (L + 1 + 1, oF), (L + 1, oC), (140, tabObj ps), (147, tabObj ps2), (r0, o0), (r1, o1), (r2, o2), (r3, o3)] → RunGoal w A L Q 10 s') :
    RunGoal w A L Q 8 s := by
  k_extra "my hide"
  obtain ⟨hh, G', hcl1, hC1, hok, hgap, hlen, hroom, hu⟩ := X
  k_extra "my back"
  have X' := G'.X
  have T' := G'.T
  have okp : ∀ f : Nat → Bool, PyData.strOk (plainT cs f 7) = true := fun f => strOk_plain hok (by omega)
  dsimp only [AllNe] at a40 a47
  k_extra "my hide"
  obtain ⟨z1, z2, z3, z4, z5, z6, z7, z8, z9, z10, z11, z12, z13, z14, z15, -⟩ := a47
  obtain ⟨y1, y2, y3, y4, y5, y6, y7, y8, y9, y10, y11, y12, y13, y14, y15, -⟩ := a40
  k_extra "my back"
  k_extra "my start"
  k_fold
  k_steps
  k_extra "my holes"
  refine halt_go ?_
  rename Fr _ _ _ _ => kF
  rename News _ _ _ _ => kN
  refine ne_strs (kN.get (by k_extra "my mem")) (kN.get (by k_extra "my mem")) hW hP (all_cons (okp _) (all_cons (okp _) (all_cons (okp _) (all_cons (okp _) (all_cons k4 (all_cons k5 all_nil)))))) (by k_extra "my room") ?_
  k_steps
  k_extra "my holes"
  rename Fr _ _ _ _ => kF
  rename News _ _ _ _ => kN
  refine ⟨lw, [.int (sizeOf' cs : Nat) t1, .int wd tw, .int nw tn, .int 0 t0], 0, _, fun i ys b => ∃ ps ps2 : Array Value, b = [(lW, listOf ysW.toArray ysW.length), (r5, o5), (r4, o4), (lP, listOf ysP.toArray ysP.length), (lB, oB), (lE, oE), (lf, of4), (lw, listOf #[.int (sizeOf' cs : Nat) t1, .int wd tw, .int nw tn, .int 0 t0] 0), (L + 1 + 1, oF), (L + 1, oC), (140, tabObj ps), (147, tabObj ps2), (r0, o0), (r1, o1), (r2, o2), (r3, o3)] ∧ TriplesOk ps.toList ∧ TriplesOk ps2.toList ∧
    StrL ys ([plainT cs (fun k => (foldsOf cs (sizeOf' cs : Nat)).contains k) 7, plainT cs (fun k => (foldsOf cs wd).contains k) 7, plainT cs (fun k => (foldsOf cs nw).contains k) 7, plainT cs (fun k => (foldsOf cs 0).contains k) 7].take i), rfl, hh, kF, kN, by simp, ⟨ps, ps2, rfl, tr, tr2, .nil⟩, ?sl, ?tn, ?fn⟩
  case sl =>
    rintro i ys b ⟨_, _, rfl, _⟩
    exact .inl (by k_extra "my mem")
  case tn =>
    intro i v ys b I oI C oC2 D m2 s4 E4 hv hC4 hm4 lo4 hJ sm4 F4 N4 off4 ne4
    k_extra "my hide"
    obtain ⟨ps, ps2, rfl, tr, tr2, hS⟩ := hJ
    k_extra "my back"
    obtain ⟨zi, ti, rfl, hPi⟩ : ∃ z t, v = .int z t ∧ [plainT cs (fun k => (foldsOf cs (sizeOf' cs : Nat)).contains k) 7, plainT cs (fun k => (foldsOf cs wd).contains k) 7, plainT cs (fun k => (foldsOf cs nw).contains k) 7, plainT cs (fun k => (foldsOf cs 0).contains k) 7][i]? = some (plainT cs (fun k => (foldsOf cs z).contains k) 7) := by
      rcases i with _ | _ | _ | _ | i
      · exact ⟨_, _, (Option.some.inj hv).symm, rfl⟩
      · exact ⟨_, _, (Option.some.inj hv).symm, rfl⟩
      · exact ⟨_, _, (Option.some.inj hv).symm, rfl⟩
      · exact ⟨_, _, (Option.some.inj hv).symm, rfl⟩
      · simp at hv
    have Xu : (hd.heap_39 w.params).In s4.heap := X'.keeps F4.keep
    have Tu : TopRead p loose mg mb s4.heap := T'.keeps F4.keep
    have hnu : s4.heap.Ns C m2 := hC4.ns (N4 (C, oC2) (.tail _ (.head _))).1
    k_extra "my cwalk"
    refine halt_go ?_
    rename Fr _ _ _ _ => kF
    rename News _ _ _ _ => kN
    have z40 := kN ((140 : Addr), tabObj ps) (by k_extra "my mem")
    have z47 := kN ((147 : Addr), tabObj ps2) (by k_extra "my mem")
    refine law_folded_c hh G' kF.keep (kF.keep _ _ hcl1) (hC1.keeps kF.keep) hok (by intro e; rw [e] at hlen; cases hlen) (by omega) ⟨ps, z40.1, tr, z40.2.2⟩ ⟨ps2, z47.1, tr2, z47.2.2⟩ (by k_extra "my room") (by k_extra "my room") fun t s5 k5 hT4 hT5 => ?_
    k_extra "my hide"
    obtain ⟨ps3, e4, tr3, _⟩ := hT4
    obtain ⟨ps4, e5, tr4, _⟩ := hT5
    k_extra "my back"
    have offo := off4
    simp only [LCg.Off3, and_true] at off4
    k_extra "my hide"
    obtain ⟨v1, v2, v3, v4, v5, v6, v7, v8, v9, v10, ⟨v11, v12, v13⟩, ⟨v14, v15, v16⟩, v17⟩ := off4
    k_extra "my back"
    refine' then_cgs (Go.kp k5) kF kN (Cgs.cons (o' := tabObj ps3) ?U e4 (Cgs.cons (o' := tabObj ps4) ?U2 e5 Cgs.nil)) ?_
    case U => k_upd
    case U2 => k_upd
    intro F6 N6
    (show Sm _ _ ∧ _)
    refine ⟨⟨by k_extra "my os", by k_extra "my gens"⟩, _, ⟨ps3, ps4, rfl, tr3, tr4, ?_⟩, F6, N6, offo⟩
    rw [List.take_add_one, hPi, folded_plain hok hgap (by omega), hlen]
    exact hS.append (.cons .nil)
  case fn =>
    intro D ys b s4 hJ sm4 off4
    k_extra "my hide"
    obtain ⟨ps, ps2, rfl, tr, tr2, hS⟩ := hJ
    k_extra "my back"
    intro h5 tk5 F5 N5
    k_steps
    k_extra "my holes"
    have hPl : ysP.length = 6 := hP.length
    refine sl_c (lo := none) (hi := some ((4 : Nat) : Int)) (its := ysP) (zs := ysP.take 4) F5 N5 ⟨_, N5.get (by k_extra "my mem"), rfl, _, rfl⟩ .none (.int _ _) (slice_to (by omega)) (by rw [sizeLine_eq]; omega) ?_
    intro D2 h6 F6 N6 l6
    k_steps
    refine halt_go ?_
    rename Fr _ _ _ _ => kF
    rename News _ _ _ _ => kN
    have hP4 : StrL (ysP.take 4) [plainT cs (fun k => (foldsOf cs (sizeOf' cs : Nat)).contains k) 7, plainT cs (fun k => (foldsOf cs wd).contains k) 7, plainT cs (fun k => (foldsOf cs nw).contains k) 7, plainT cs (fun k => (foldsOf cs 0).contains k) 7] := by
      have take : ∀ {vs : List Value} {us : List Str} (n : Nat), StrL vs us → StrL (vs.take n) (us.take n) := by
        intro vs us n h
        induction h generalizing n with
        | nil => simp; exact .nil
        | cons r ih =>
          cases n with
          | zero => exact .nil
          | succ n => exact .cons (ih n)
      exact take 4 hP
    refine ne_strs (ea := ys.length) (kN.get (by k_extra "my mem")) (kN.get (by k_extra "my mem")) hS hP4 (all_cons (okp _) (all_cons (okp _) (all_cons (okp _) (all_cons (okp _) all_nil)))) (by k_extra "my room") ?_
    k_steps
    k_extra "my holes"
    refine halt_go ?_
    rename Fr _ _ _ _ => kF
    rename News _ _ _ _ => kN
    exact next _ ps ps2 ⟨by k_extra "my os", by k_extra "my gens"⟩ kF tr tr2 (news_tl (news_tl kN))
end

example : True := by
  (k_with "my halt3" => (k_here; (with_reducible show wpAny _ _ (execs (Stmt.For _ _ _ _ _ :: _) _) _ _ _); refine halt_of ?_))
  trivial
theorem news_d2 {g h : Heap} {L : Addr} {p q : Addr × Obj} {l : List (Addr × Obj)} (N : News g L h (p :: q :: l)) : News g L h (p :: l) := fun x hx => by
  rcases List.mem_cons.mp hx with rfl | hx
  · exact N _ (.head _)
  · exact N x (.tail _ (.tail _ hx))
section
local macro_rules | `(tactic| walk_at "execs cons") => `(tactic| k_extra "my halt3")
local macro_rules | `(tactic| walk_at "call builtin:min") => `(tactic| k_extra "my halt")
local macro_rules | `(tactic| walk_at "subscriptTail Name Slice ref ref") => `(tactic| k_extra "my halt")
local macro_rules | `(tactic| walk_at "binaryOp Add ref ref") => `(tactic| k_extra "my halt")
variable {w : World} {A : Around} {s : Shared} {p : Program} {loose : List Str} {mg mb : Str → Option Value} {g : Heap} {L : Addr} {m : Str → Option Value}
    {Q : Value → Shared → Prop} {cl : Addr} {vs : List Value} {cs : List (Str × Str)} {epc : Nat}
    {lW lP lB lE lf lw : Addr} {ysP ysB : List Value} {oF oC oW oE of4 ow o40 o47 : Obj} {r0 r1 r2 r3 r4 r5 : Addr} {o0 o1 o2 o3 o4 o5 : Obj} {P0 : Str} {PL : List Str} {f : Nat → Bool}
theorem run_10 (X : Cx w A p loose mg mb g cl vs cs epc) (F : Fr g L s.heap m)
    (N : News g L s.heap [(lW, oW), (r5, o5), (r4, o4), (lP, listOf ysP.toArray ysP.length), (lB, listOf ysB.toArray ysB.length), (lE, oE), (lf, of4), (lw, ow), (L + 1 + 1, oF), (L + 1, oC), (140, o40), (147, o47), (r0, o0), (r1, o1), (r2, o2), (r3, o3)])
    (dC : oC.data = .cell (some (.ref cl))) (mP : m (Str.ofString "plains") = some (.ref lP)) (mB : m (Str.ofString "both") = some (.ref lB))
    (hP : StrL ysP (P0 :: PL)) (hP0 : P0.length ≤ 56) (hB : IntsAre ysB (upTo f 7)) (hf : f 0 = false)
    (next : ∀ s' m' lO ysO O1 O2 O3, Sm s s' → Fr g L s'.heap m' → (∀ y, y ≠ Str.ofString "gone" → y ≠ Str.ofString "others" → m' y = m y) → m' (Str.ofString "others") = some (.ref lO) →
      News g L s'.heap [(lO, listOf ysO.toArray 0), (lW, oW), (r5, o5), (r4, o4), (lP, listOf ysP.toArray ysP.length), (lB, listOf ysB.toArray ysB.length), (lE, oE), (lf, of4), (lw, ow), (L + 1 + 1, oF), (L + 1, oC), (140, o40), (147, o47), (r0, o0), (r1, o1), (r2, o2), (r3, o3)] →
      StrL ysO [O1, O2, O3] → tl O1 = 40 :: tl P0 → tl O2 = tl P0 ++ [41] → O3.length < sizeOf' cs → RunGoal w A L Q 12 s') :
    RunGoal w A L Q 10 s := by
  k_extra "my hide"
  obtain ⟨hh, G', hcl1, hC1, hok, hgap, hlen, hroom, hu⟩ := X
  k_extra "my back"
  have X' := G'.X
  have T' := G'.T
  cases hP with
  | @cons _ tp0 ysP _ hP =>
  k_extra "my start"
  k_fold
  k_steps
  k_extra "my holes"
  rename Fr _ _ _ _ => kF
  rename News _ _ _ _ => kN
  refine halt_go ?_
  rename_i l7 h7 l7o
  have hBl : ysB.length ≤ 7 := by
    have := hB.length
    unfold upTo at this
    rw [List.length_map] at this
    have h2 := List.length_filter_le f (List.range 7)
    rw [List.length_range] at h2
    omega
  refine add_arrays (its := #[.int 7 s.toks]) (its2 := ysB.toArray) kF kN ⟨_, kN.get (by k_extra "my mem"), rfl, _, rfl⟩ ⟨_, kN.get (by k_extra "my mem"), rfl, _, rfl⟩ ?_ (by rw [sizeLine_eq]; simp; omega)
  intro h8 F8 N8
  k_steps
  refine halt_go ?_
  rename Fr _ _ _ _ => kF2
  rename News _ _ _ _ => kN2
  refine min_list_N (vs := .int 7 s.toks :: ysB) (ns := 7 :: upTo f 7) hh kF2 kN2 ⟨_, kN2.get (by k_extra "my mem"), rfl, _, rfl⟩ (.cons _ _ hB) (by simp) ?_
  intro h9 M tM tk9 F9 N9 hM1 hM2
  have hM : 1 ≤ M ∧ M ≤ 7 := by
    refine ⟨?_, hM2 7 (.head _)⟩
    rcases List.mem_cons.mp hM1 with e | e
    · omega
    · unfold upTo at e
      obtain ⟨j, hj, rfl⟩ := List.mem_map.mp e
      have := (List.mem_filter.mp hj).2
      have hj0 : j ≠ 0 := fun q => by rw [q, hf] at this; cases this
      omega
  obtain ⟨z, rfl⟩ : ∃ z : Nat, M = (z : Int) + 1 := ⟨(M - 1).toNat, by omega⟩
  have hz : z ≤ 6 := by omega
  clear hM1 hM2
  k_steps
  k_extra "my holes"
  refine halt_go ?_
  rename Fr _ _ _ _ => kF3
  rename News _ _ _ _ => kN3
  have hvl := hC1.length
  refine sl_c (lo := none) (hi := some ((z : Int) + 1 - 1)) (its := vs) (zs := vs.take z) kF3 kN3 ⟨_, kF3.keep _ _ hcl1, rfl, _, rfl⟩ .none (.int _ _) (by rw [show (z : Int) + 1 - 1 = (z : Int) by omega]; exact slice_to (by omega)) (by rw [sizeLine_eq]; omega) ?_
  intro D1 h10 F10 N10 l10
  k_steps
  k_extra "my holes"
  refine halt_go ?_
  rename Fr _ _ _ _ => kF4
  rename News _ _ _ _ => kN4
  refine sl_c (lo := some ((z : Int) + 1 - 1 + 1)) (hi := none) (its := vs) (zs := vs.drop (z + 1)) kF4 kN4 ⟨_, kF4.keep _ _ hcl1, rfl, _, rfl⟩ (.int _ _) .none (by rw [show (z : Int) + 1 - 1 + 1 = ((z + 1 : Nat) : Int) by omega]; exact slice_from (by omega)) (by rw [sizeLine_eq]; omega) ?_
  intro D2 h11 F11 N11 l11
  k_steps
  k_extra "my holes"
  refine halt_go ?_
  rename Fr _ _ _ _ => kF5
  rename News _ _ _ _ => kN5
  refine add_arrays (its := (vs.take z).toArray) (its2 := (vs.drop (z + 1)).toArray) kF5 kN5 ⟨_, kN5.get (by k_extra "my mem"), rfl, _, rfl⟩ ⟨_, kN5.get (by k_extra "my mem"), rfl, _, rfl⟩ ?_ (by rw [sizeLine_eq]; simp; omega)
  intro h12 F12 N12
  k_steps
  k_extra "my holes"
  refine halt_go ?_
  rename Fr _ _ _ _ => kF6
  rename News _ _ _ _ => kN6
  have hsm : sizeOf' (cs.take z ++ cs.drop (z + 1)) < sizeOf' cs := by
    have e1 : sizeOf' cs = sizeOf' (cs.take z) + sizeOf' (cs.drop z) := by rw [← sz_app, List.take_append_drop]
    have e2 : cs.drop z = [cs[z]'(by omega)] ++ cs.drop (z + 1) := by rw [List.drop_eq_getElem_cons (by omega)]; rfl
    have e3 := (hok _ (List.getElem_mem (show z < cs.length by omega))).wpos
    rw [e2, sz_app] at e1
    have e4 : sizeOf' [cs[z]'(by omega)] = (cs[z]'(by omega)).1.length + (cs[z]'(by omega)).2.length := by unfold sizeOf'; simp
    rw [sz_app]
    omega
  refine law_plain_c (cs := cs.take z ++ cs.drop (z + 1)) hh G' kF6.keep (kN6.get (by k_extra "my mem")) (((hC1.take z).append (hC1.drop (z + 1))).keeps kF6.keep) ?hk (by simp; omega) (places_ints (ep := 0) .nil (kN6.get (by k_extra "my mem"))) (by k_extra "my room") (by k_extra "my room") fun t13 s13 k13 => ?_
  case hk =>
    intro c hc
    rcases List.mem_append.mp hc with q | q
    · exact hok c (List.mem_of_mem_take q)
    · exact hok c (List.mem_of_mem_drop q)
  refine then0 (Go.kp k13) kF6 kN6 fun F13 N13 => ?_
  have hps := plain_size (cs := cs.take z ++ cs.drop (z + 1)) (f := fun k => ([] : List Int).any (· == (k : Int))) (fun _ => rfl)
  k_steps
  k_extra "my holes"
  refine halt_go ?_
  rename Fr _ _ _ _ => kF
  rename News _ _ _ _ => kN
  iterate 6 (replace kN := news_d2 kN)
  refine next _ _ _ [_, _, _] _ _ _ ⟨by k_extra "my os", by k_extra "my gens"⟩ kF ?c1 ?c2 kN (.cons (.cons (.cons .nil))) ?c4 ?c5 (Nat.lt_of_le_of_lt (Nat.le_of_eq hps) hsm)
  case c1 =>
    intro y h1 h2
    (show ite _ _ _ = _)
    rw [if_neg h2]
    (show ite _ _ _ = _)
    rw [if_neg h1]
  case c2 => exact if_pos rfl
  case c4 =>
    rw [tl_app, show tl (Str.ofString "(") = [40] by decide]
    rfl
  case c5 => rw [tl_app, show tl (Str.ofString ")") = [41] by decide]
end

section
variable {cs : List (Str × Str)} {f : Nat → Bool}
theorem pcs_count : ∀ k, (pcs cs f k).length ≤ k + 1
  | 0 => Nat.le_refl _
  | k + 1 => by
    have ih := pcs_count k
    rw [← List.length_map (f := tl)] at ih ⊢
    by_cases h : f k = true
    · rw [pcs_t h, List.length_append, List.length_singleton]; omega
    · obtain ⟨P, c, e1, e2⟩ := pcs_f (cs := cs) h
      rw [e1, List.length_append, List.length_singleton] at ih
      rw [e2, List.length_append, List.length_singleton]; omega
theorem chL_5 {c : Str × Str} (h : OkCh c) : 1 ≤ (chL c).length ∧ (chL c).length ≤ 8 := by
  have h1 := h.glen
  have h2 := h.wlen
  have h3 := h.wpos
  rw [chL_len]
  omega
theorem pcs_long (hok : ∀ c ∈ cs, OkCh c) (h0 : f 0 = false) : ∀ {k}, k < cs.length → ∀ x ∈ (pcs cs f (k + 1)).map tl, 1 ≤ x.length ∧ x.length ≤ 8 * (k + 1)
  | 0, hk, x, hx => by
    have q := chL_5 (getD_ok hok hk)
    obtain ⟨P, c, e1, e2⟩ := pcs_f (cs := cs) (f := f) (k := 0) (by rw [h0]; decide)
    have e3 : (pcs cs f 0).map tl = [[]] := by
      show [tl (textOf [])] = _
      rw [tl_text_nil]
    rw [e3] at e1
    have e4 : P ++ [c] = [] ++ [([] : List Nat)] := e1.symm
    obtain ⟨rfl, e5⟩ := List.append_inj' e4 rfl
    have e6 : c = [] := by simpa using e5
    rw [e2, e6] at hx
    have : x = chL (cs.getD 0 ("", "")) := by simpa using hx
    rw [this]
    omega
  | k + 1, hk, x, hx => by
    have q := chL_5 (getD_ok hok hk)
    have ih := pcs_long hok h0 (k := k) (by omega)
    by_cases h : f (k + 1) = true
    · rw [pcs_t h] at hx
      rcases List.mem_append.mp hx with hx | hx
      · have := ih x hx; omega
      · rw [List.mem_singleton.mp hx]; omega
    · obtain ⟨P, c, e1, e2⟩ := pcs_f (cs := cs) h
      rw [e2] at hx
      rw [e1] at ih
      rcases List.mem_append.mp hx with hx | hx
      · have := ih x (List.mem_append_left _ hx); omega
      · have := ih c (List.mem_append_right _ (.head _))
        rw [List.mem_singleton.mp hx, List.length_append]; omega
end
section
variable {w : World} {A : Around} {E : Value → Shared → Prop} {s : Shared} {Q : Value → Shared → Prop} {g : Heap} {L : Addr} {news : List (Addr × Obj)}
theorem lst_item {value slice : Expr} {r : Addr} {xs : List Value} {ep k : Nat} {x : Value} {u : Tok} (N : News g L s.heap news) (hm : (r, listOf xs.toArray ep) ∈ news) (hk : k < 1000) (hx : xs[k]? = some x) (h : Q x s)
    (hs : subscripted slice false (.ref r) (.int (k : Int) u) = operate [.ref r, .int (k : Int) u] (getItem (.ref r) (.int (k : Int) u)) := by with_unfolding_all rfl) (hg : ∀ q, letTemporaryGo value (.ref r) q = pure () := by intro _; with_unfolding_all rfl) :
    wpAny (model PySem.Challenge.rw_wr0037_01.prog w) A (subscriptTail value slice (.ref r) (.int (k : Int) u)) Q E s :=
  item_listL (l := xs) (x := x) ⟨_, (N _ hm).1, rfl, _, rfl⟩ (by omega) (by omega) (by simpa using hx) h hs hg
end
theorem ellw {w : World} {A : Around} {s : Shared} {p : Program} {loose : List Str} {mg mb : Str → Option Value} {g₀ : Heap} {Q : Value → Shared → Prop} {E : Value → Shared → Prop} {cs : List (Str × Str)} {f : Nat → Bool} {got : Str} {tw tg : Tok} (hh : A.handled = none) (G : Gd (hd.heap_39 w.params) p loose mg mb g₀) (H : g₀.StaysIn s.heap)
    (hok : ∀ c ∈ cs, OkCh c) (hlen : cs.length = 7) (h0 : f 0 = false) (hgl : got.length ≤ 200) (hroom : A.depth + 15 < recursionLimit) (hu : A.units + 200 < cLine)
    {b : Bool} (hb : ematch (pcs cs f 7) got = b) (hQ : ∀ s', Go [] s s' → Q (.bool b) s') :
    wpAny (model PySem.Challenge.rw_wr0037_01.prog w) A (call (.ref 189) [.str (plainT cs f 7) tw, .str got tg]) Q E s := by
  have h1 := pcs_long hok h0 (k := 6) (by omega)
  have h2 := pcs_nodot hok f (k := 7) (by omega)
  have h3 := pcs_count (cs := cs) (f := f) 7
  have h4 := plainT_len (f := f) hok 7
  refine ellipsis_c (P := pcs cs f 7) hh G H (pcs_ne _ _ _) (fun x hx => h2 _ (List.mem_map_of_mem hx)) (fun x hx => ?_) (plain_interc _ _ _) (by omega) hgl (by omega) hroom hu (by rw [hb]; exact hQ)
  have := h1 _ (List.mem_map_of_mem hx)
  rw [tl_len]
  omega
theorem SetC.no0 {w : World} {o : Obj} {S : List Nat} (h : SetC w o S) : S.contains 0 = false := by
  obtain ⟨_, _, _, _, _, hS, _⟩ := h
  have := subs_mem S hS
  cases e : S.contains 0 with
  | false => rfl
  | true =>
    have := this 0 (List.contains_iff_mem.mp e)
    simp at this
theorem match_le {w : World} {cs : List (Str × Str)} {o' : Obj} {S T : List Nat} (hok : ∀ c ∈ cs, OkCh c) (hlen : cs.length = 7) (hT : SetC w o' T) : ematch (pcs cs (fun k => S.contains k) 7) (plainT cs (fun k => T.contains k) 7) = T.all fun k => S.contains k := by
  have h := ematch_sub (cs := cs) hok (f := fun k => S.contains k) (g := fun k => T.contains k)
  rw [hlen] at h
  rw [Bool.eq_iff_iff, h, List.all_eq_true]
  constructor
  · intro q j hj
    exact q j (hT.lt j hj) (List.contains_iff_mem.mpr hj)
  · intro q j _ hj
    exact q j (List.contains_iff_mem.mp hj)

theorem strL_cons {vs : List Value} {u : Str} {us : List Str} (h : StrL vs (u :: us)) : ∃ t r, vs = .str u t :: r ∧ StrL r us := by
  cases h with
  | cons r => exact ⟨_, _, rfl, r⟩
theorem strL_nil {vs : List Value} (h : StrL vs []) : vs = [] := by
  cases h; rfl
theorem strL3 {vs : List Value} {a b c : Str} (h : StrL vs [a, b, c]) : ∃ t0 t1 t2, vs = [.str a t0, .str b t1, .str c t2] := by
  obtain ⟨t0, r0, e0, h0⟩ := strL_cons h
  obtain ⟨t1, r1, e1, h1⟩ := strL_cons h0
  obtain ⟨t2, r2, e2, h2⟩ := strL_cons h1
  exact ⟨t0, t1, t2, by rw [e0, e1, e2, strL_nil h2]⟩
theorem strL6 {vs : List Value} {a b c d e f : Str} (h : StrL vs [a, b, c, d, e, f]) : ∃ t0 t1 t2 t3 t4 t5, vs = [.str a t0, .str b t1, .str c t2, .str d t3, .str e t4, .str f t5] := by
  obtain ⟨t0, r0, e0, h0⟩ := strL_cons h
  obtain ⟨t1, r1, e1, h1⟩ := strL_cons h0
  obtain ⟨t2, r2, e2, h2⟩ := strL_cons h1
  obtain ⟨t3, t4, t5, e3⟩ := strL3 h2
  exact ⟨t0, t1, t2, t3, t4, t5, by rw [e0, e1, e2, e3]⟩
example : True := by
  (k_with "subscriptTail" => (k_here; (with_reducible show wpAny _ _ (subscriptTail _ _ (Value.ref _) (Value.int (Nat.cast _) _)) _ _ _); k_dflt (refine' lst_item (by k_asm) (by k_extra "my mem") (by omega) (by assumption) ?_; k_whole)))
  trivial
section
variable {w : World} {A : Around} {s : Shared} {p : Program} {loose : List Str} {mg mb : Str → Option Value} {g : Heap} {L : Addr} {m : Str → Option Value}
    {Q : Value → Shared → Prop} {cl : Addr} {vs : List Value} {cs : List (Str × Str)} {epc : Nat}
    {lO lW lP lB lE lf lw : Addr} {ysO ysW : List Value} {oF oC oP oB oE ow o40 o47 : Obj} {r0 r1 r2 r3 r4 r5 : Addr} {o0 o1 o2 o3 o4 o5 : Obj} {S0 S1 S2 S3 S4 S5 : List Nat} {O1 O2 O3 P0 : Str}
theorem run_12 (X : Cx w A p loose mg mb g cl vs cs epc) (F : Fr g L s.heap m)
    (N : News g L s.heap [(lO, listOf ysO.toArray 0), (lW, listOf ysW.toArray ysW.length), (r5, o5), (r4, o4), (lP, oP), (lB, oB), (lE, oE), (lf, listOf #[.ref r0, .ref r1, .ref r2, .ref r3, .ref r4, .ref r5] 6), (lw, ow), (L + 1 + 1, oF), (L + 1, oC), (140, o40), (147, o47), (r0, o0), (r1, o1), (r2, o2), (r3, o3)])
    (dF : oF.data = .cell (some (.ref lf))) (mW : m (Str.ofString "wants") = some (.ref lW)) (mO : m (Str.ofString "others") = some (.ref lO)) (c0 : SetC w o0 S0) (c1 : SetC w o1 S1) (c2 : SetC w o2 S2) (c3 : SetC w o3 S3) (c4 : SetC w o4 S4) (c5 : SetC w o5 S5)
    (hW : StrL ysW [plainT cs (fun k => S0.contains k) 7, plainT cs (fun k => S1.contains k) 7, plainT cs (fun k => S2.contains k) 7, plainT cs (fun k => S3.contains k) 7, plainT cs (fun k => S4.contains k) 7, plainT cs (fun k => S5.contains k) 7])
    (hO : StrL ysO [O1, O2, O3]) (h1 : tl O1 = 40 :: tl P0) (h2 : tl O2 = tl P0 ++ [41]) (h3 : O3.length < sizeOf' cs) (hP0 : P0.length ≤ 56)
    (hQ : ∀ s' m', Sm s s' → Fr g L s'.heap m' → News g L s'.heap [(140, o40), (147, o47)] → Q (.bool true) s') :
    RunGoal w A L Q 12 s := by
  k_extra "my hide"
  obtain ⟨hh, G', hcl1, hC1, hok, hgap, hlen, hroom, hu⟩ := X
  k_extra "my back"
  have X' := G'.X
  have T' := G'.T
  have hitem : ∀ i, i < 6 → ∃ a o S t, [Value.ref r0, .ref r1, .ref r2, .ref r3, .ref r4, .ref r5][i]? = some (.ref a) ∧ (a, o) ∈ [(lO, listOf ysO.toArray 0), (lW, listOf ysW.toArray ysW.length), (r5, o5), (r4, o4), (lP, oP), (lB, oB), (lE, oE), (lf, listOf #[.ref r0, .ref r1, .ref r2, .ref r3, .ref r4, .ref r5] 6), (lw, ow), (L + 1 + 1, oF), (L + 1, oC), (140, o40), (147, o47), (r0, o0), (r1, o1), (r2, o2), (r3, o3)] ∧ SetC w o S ∧ ysW[i]? = some (.str (plainT cs (fun k => S.contains k) 7) t) := by
    intro i hi
    k_extra "my hide"
    obtain ⟨t0, t1, t2, t3, t4, t5, rfl⟩ := strL6 hW
    k_extra "my back"
    rcases i with _ | _ | _ | _ | _ | _ | i
    · exact ⟨_, _, _, _, rfl, by k_extra "my mem", c0, rfl⟩
    · exact ⟨_, _, _, _, rfl, by k_extra "my mem", c1, rfl⟩
    · exact ⟨_, _, _, _, rfl, by k_extra "my mem", c2, rfl⟩
    · exact ⟨_, _, _, _, rfl, by k_extra "my mem", c3, rfl⟩
    · exact ⟨_, _, _, _, rfl, by k_extra "my mem", c4, rfl⟩
    · exact ⟨_, _, _, _, rfl, by k_extra "my mem", c5, rfl⟩
    · omega
  have hsz : sizeOf' cs ≤ 56 := by
    have q1 := plain_size (cs := cs) (f := fun _ => false) (fun _ => rfl)
    have q2 := plainT_len (cs := cs) (f := fun _ => false) hok cs.length
    rw [q1, hlen] at q2
    exact q2
  have hoth : ∀ (i : Nat) v, ysO[i]? = some v → ∃ x t, v = .str x t ∧ x.length ≤ 200 ∧ ∀ f : Nat → Bool, f 0 = false → ematch (pcs cs f 7) x = false := by
    intro i v hv
    obtain ⟨t0, t1, t2, rfl⟩ := strL3 hO
    rcases i with _ | _ | _ | i
    · refine ⟨_, _, (Option.some.inj hv).symm, ?_, fun f h0 => no_open hok h0 (by omega) (by omega) h1⟩
      rw [tl_len, h1, List.length_cons, ← tl_len]; omega
    · refine ⟨_, _, (Option.some.inj hv).symm, ?_, fun f h0 => no_close hok (by omega) (by omega) h2⟩
      rw [tl_len, h2, List.length_append, ← tl_len]
      have : [41].length = 1 := rfl
      omega
    · refine ⟨_, _, (Option.some.inj hv).symm, by omega, fun f h0 => ?_⟩
      have := no_short (cs := cs) (f := f) h3
      rw [hlen] at this
      exact this
    · simp at hv
  k_extra "my start"
  k_fold
  (try k_fold)
  k_steps
  k_extra "my holes"
  rename Fr _ _ _ _ => kF
  rename News _ _ _ _ => kN
  rename_i r' h' tk' t' u' v'
  refine iter_up_L (n := 6) kF kN (.head _) (by omega) ?_
  dsimp only
  intro it h3 F3 N3 l3
  have l4 := l3
  k_lt l3
  clear kF kN
  refine loop_upF (J := fun n m' => m' (Str.ofString "wants") = some (.ref lW) ∧ m' (Str.ofString "others") = some (.ref lO)) hh rfl rfl F3 N3 (fun p hp => Nat.ne_of_lt (l4 p hp)) ?J0 ?turn ?last
  case J0 => exact ⟨mW, mO⟩
  case last =>
    intro s4 m4 E4 hJ sm4 F4 N4
    (try k_fold)
    k_steps
    rename Fr _ _ _ _ => kF
    rename News _ _ _ _ => kN
    refine hQ _ _ ⟨by k_extra "my os", by k_extra "my gens"⟩ kF fun p hp => kN p (SubL.mem (by k_subL) p hp)
  case turn =>
    intro i s4 m4 tk4 E4 hi hJ sm4 F4 N4
    k_extra "my hide"
    obtain ⟨j1, j2⟩ := hJ
    obtain ⟨ai, oi, Si, ti, hfi, hmi, ci, hwi⟩ := hitem i hi
    k_extra "my back"
    (try k_fold)
    k_steps
    rename Fr _ _ _ _ => kF
    rename News _ _ _ _ => kN
    rename_i r2' h2' tk2' t2' u2' v2'
    refine iter_up_L (n := 6) kF kN (.head _) (by omega) ?_
    dsimp only
    intro it5 h5 F5 N5 l5
    have l6 := l5
    k_lt l5
    clear kF kN
    refine loop_upF (J := fun n m' => m' (Str.ofString "wants") = some (.ref lW) ∧ m' (Str.ofString "others") = some (.ref lO) ∧ ∃ t, m' (Str.ofString "i") = some (.int (i : Int) t)) hh rfl rfl F5 N5 (fun p hp => Nat.ne_of_lt (l6 p hp)) ?K0 ?turn5 ?last5
    case K0 => exact ⟨j1, j2, _, rfl⟩
    case turn5 =>
      intro j s6 m6 tk6 E6 hj hJ6 sm6 F6 N6
      k_extra "my hide"
      obtain ⟨i1, i2, ti6, i3⟩ := hJ6
      obtain ⟨aj, oj, Sj, tj, hfj, hmj, cj, hwj⟩ := hitem j hj
      k_extra "my back"
      (try k_fold)
      k_steps
      k_extra "my holes"
      refine halt_go ?_
      rename Fr _ _ _ _ => kF
      rename News _ _ _ _ => kN
      have q0 := plainT_len (cs := cs) (f := fun k => Sj.contains k) hok 7
      cases eb : Sj.all fun k => Si.contains k
      all_goals (
        refine ellw hh G' kF.keep hok hlen ci.no0 (by omega) (by k_extra "my room") (by k_extra "my room") ((match_le hok hlen cj).trans eb) fun s7 k7 => ?_
        refine then0 (Go.kp k7) kF kN fun F7 N7 => ?_
        (try k_fold)
        k_steps
        k_extra "my holes"
        refine halt_go ?_
        rename Fr _ _ _ _ => kF2
        rename News _ _ _ _ => kN2
        refine le_c G' kF2.keep (kN2.get (by repeat (first | exact hmj | apply List.Mem.tail))) (kN2.get (by repeat (first | exact hmi | apply List.Mem.tail))) cj ci (by k_extra "my room") (by k_extra "my room") fun s8 k8 => ?_
        rw [eb]
        refine then0 (Go.kp k8) kF2 kN2 fun F8 N8 => ?_
        (try k_fold)
        k_steps
        k_extra "my holes"
        rename Fr _ _ _ _ => kF3
        rename News _ _ _ _ => kN3
        (show UpEndF _ _ _ _ _ _ _ _ _)
        exact ⟨⟨by k_extra "my os", by k_extra "my gens"⟩, _, ⟨by exact i1, by exact i2, ti6, by exact i3⟩, kF3, kN3⟩)
    case last5 =>
      intro s6 m6 E6 hJ6 sm6 F6 N6
      obtain ⟨i1, i2, ti6, i3⟩ := hJ6
      (try k_fold)
      k_steps
      k_extra "my holes"
      rename Fr _ _ _ _ => kF
      rename News _ _ _ _ => kN
      refine iter_list_L kF kN (kN.get (by k_extra "my mem")) ?_
      intro it9 o9 h9 F9 N9 l9 lo9
      have l10 := l9
      k_lt l9
      clear kF kN
      refine loop_list (its := ysO) (ep := 0) (J := fun k m' b => b = [(r2', rng1Ob 6 t2' u2' v2'), (it, rngIt (↑(i + 1)) (↑6 - ↑(i + 1)) 1), (r', rng1Ob 6 t' u' v'), (lO, listOf ysO.toArray 0), (lW, listOf ysW.toArray ysW.length), (r5, o5), (r4, o4), (lP, oP), (lB, oB), (lE, oE), (lf, listOf #[.ref r0, .ref r1, .ref r2, .ref r3, .ref r4, .ref r5] 6), (lw, ow), (L + 1 + 1, oF), (L + 1, oC), (140, o40), (147, o47), (r0, o0), (r1, o1), (r2, o2), (r3, o3)] ∧ m' (Str.ofString "wants") = some (.ref lW) ∧ m' (Str.ofString "others") = some (.ref lO) ∧ ∃ t, m' (Str.ofString "i") = some (.int (i : Int) t)) hh F9 N9 lo9 (fun p hp => Nat.ne_of_lt (l10 p hp)) ?K9 ?Kl ?turn9 ?last9
      case K9 => exact ⟨rfl, i1, i2, ti6, i3⟩
      case Kl =>
        intro k m' b hJ
        obtain ⟨rfl, _⟩ := hJ
        exact .inl (by k_extra "my mem")
      case turn9 =>
        intro k s10 m10 b v o10 E10 hv lo10 hJ10 sm10 F10 N10 off10
        k_extra "my hide"
        obtain ⟨rfl, p1, p2, tp, p3⟩ := hJ10
        obtain ⟨x, tx, rfl, hx1, hx2⟩ := hoth k v hv
        k_extra "my back"
        (try k_fold)
        k_steps
        k_extra "my holes"
        refine halt_go ?_
        rename Fr _ _ _ _ => kF
        rename News _ _ _ _ => kN
        refine ellw hh G' kF.keep hok hlen ci.no0 hx1 (by k_extra "my room") (by k_extra "my room") (hx2 _ ci.no0) fun s7 k7 => ?_
        refine then0 (Go.kp k7) kF kN fun F7 N7 => ?_
        (try k_fold)
        k_steps
        k_extra "my holes"
        rename Fr _ _ _ _ => kF3
        rename News _ _ _ _ => kN3
        (show ListEnd _ _ _ _ _ _ _ _)
        exact ⟨⟨by k_extra "my os", by k_extra "my gens"⟩, _, _, o10, lo10, ⟨rfl, by exact p1, by exact p2, tp, by exact p3⟩, kF3, kN3, off10⟩
      case last9 =>
        intro s10 m10 b E10 hJ10 sm10 F10 N10
        k_extra "my hide"
        obtain ⟨rfl, p1, p2, tp, p3⟩ := hJ10
        k_extra "my back"
        (try k_fold)
        k_steps
        (show UpEndF _ _ _ _ _ _ _ _ _)
        exact ⟨⟨by k_extra "my os", by k_extra "my gens"⟩, _, ⟨p1, p2⟩, F10, news_tl N10⟩
end

example : True := by
  (k_with "my ne" => (first | assumption | exact Ne.symm (by assumption)))
  trivial
section
variable {w : World} {A : Around} {s : Shared} {p : Program} {loose : List Str} {mg mb : Str → Option Value} {g₀ : Heap}
    {Q : Value → Shared → Prop} {E : Value → Shared → Prop} {cl : Addr} {vs : List Value} {cs : List (Str × Str)} {epc : Nat} {nw wd : Int}
theorem law_run_c {tn tw : Tok} (hh : A.handled = none) (G : Gd (hd.heap_39 w.params) p loose mg mb g₀) (H : g₀.StaysIn s.heap) (hcl : s.heap.get? cl = some (listOf vs.toArray epc)) (hC : Chs s.heap vs cs) (hok : ∀ c ∈ cs, OkCh c)
    (hgap : ∀ k c, 1 ≤ k → cs[k]? = some c → ¬ c.1 = Str.ofString "") (hlen : cs.length = 7) (hT : TB g₀ s.heap 140) (hT2 : TB g₀ s.heap 147)
    (hroom : A.depth + 85 < recursionLimit) (hu : A.units + 900 < cLine)
    (hQ : ∀ s' ps ps2, Go [140, 147] s s' → s'.heap.get? 140 = some (tabObj ps) → s'.heap.get? 147 = some (tabObj ps2) → Q (.bool true) s') :
    wpAny (model PySem.Challenge.rw_wr0037_01.prog w) A (call (.ref 255) [.ref cl, .int nw tn, .int wd tw]) Q E s := by
  refine run_p1 hh G H hcl hC hok hgap hlen hT hT2 hroom hu fun g L ps0 ps20 s1 m lB lE lf lw ysB ysE oF oC t1 t0 r0 r1 r2 r3 o0 o1 o2 o3 X st kp hps hps2 hps0 hps02 tr tr2 sm F N dF dC mw mE mB nB nE nlf nlw n40 n47 d12 c0 c1 c2 c3 hE hB => ?_
  refine run_4 X F N dF dC mE mB c0 c1 c2 c3 hE hB fun s4 lP ysP sm4 F4 N4 aP hP => ?_
  dsimp only [AllNe] at nB nE n40 n47 aP
  have nlf' := nlf
  dsimp only [AllNe] at nlf nlw
  obtain ⟨a1, a2, a3, a4, a5, a6, a7, a8, a9, a10, a11, -⟩ := nB
  obtain ⟨b1, b2, b3, b4, b5, b6, b7, b8, b9, b10, -⟩ := nE
  obtain ⟨f1, f2, f3, f4, f5, f6, f7, f8, f9, -⟩ := nlf
  obtain ⟨w1, w2, w3, w4, w5, w6, w7, w8, -⟩ := nlw
  obtain ⟨x1, x2, x3, x4, x5, x6, x7, -⟩ := n40
  obtain ⟨y1, y2, y3, y4, y5, y6, -⟩ := n47
  obtain ⟨p1, p2, p3, p4, p5, p6, p7, p8, p9, p10, p11, p12, -⟩ := aP
  refine run_5 X F4 N4 dF c1 c2 d12 (by k_extra "my ne") (by k_extra "my ne") (by k_extra "my ne") nlf' fun s5 r4 o4 r5 o5 sm5 F5 N5 c4 c5 n4 n5 => ?_
  dsimp only [AllNe] at n4 n5
  obtain ⟨u1, u2, u3, u4, u5, u6, u7, u8, u9, u10, u11, u12, u13, -⟩ := n4
  obtain ⟨v0, v1, v2, v3, v4, v5, v6, v7, v8, v9, v10, v11, v12, v13, -⟩ := n5
  refine run_7 X F5 N5 tr2 dF dC c0 c1 c2 c3 c4 c5 (⟨by k_extra "my ne", by k_extra "my ne", by k_extra "my ne", by k_extra "my ne", by k_extra "my ne", by k_extra "my ne", by k_extra "my ne", by k_extra "my ne", by k_extra "my ne", by k_extra "my ne", by k_extra "my ne", by k_extra "my ne", by k_extra "my ne", by k_extra "my ne", trivial⟩) fun s7 lW ysW ps2 sm7 F7 tr2' N7 aW hW => ?_
  dsimp only [AllNe] at aW
  obtain ⟨q1, q2, q3, q4, q5, q6, q7, q8, q9, q10, q11, q12, q13, q14, q15, -⟩ := aW
  have hok' := X.ok
  have hlen' := X.len
  have in1 : foldsOf cs wd ∈ subs := by obtain ⟨_, _, _, _, _, hS, _⟩ := c1; exact hS
  have in2 : foldsOf cs nw ∈ subs := by obtain ⟨_, _, _, _, _, hS, _⟩ := c2; exact hS
  have e4 : plainT cs (fun k => (uni (foldsOf cs wd) (foldsOf cs nw)).contains k) 7 = plainT cs (fun k => (upTo (fun j => (foldsOf cs wd).contains j || (foldsOf cs nw).contains j) 7).any (· == (k : Int))) 7 :=
    plain_ext fun j hj => by rw [upTo_any hj, uni_contains in1 in2 hj]
  have e5 : plainT cs (fun k => (inter (foldsOf cs wd) (foldsOf cs nw)).contains k) 7 = plainT cs (fun k => (upTo (fun j => (foldsOf cs wd).contains j && (foldsOf cs nw).contains j) 7).any (· == (k : Int))) 7 :=
    plain_ext fun j hj => by rw [upTo_any hj, inter_contains]
  have hW' := hW
  rw [e4, e5] at hW'
  refine run_8 X F7 N7 tr tr2' dC rfl rfl (by exact mw) (⟨by k_extra "my ne", by k_extra "my ne", by k_extra "my ne", by k_extra "my ne", by k_extra "my ne", by k_extra "my ne", by k_extra "my ne", by k_extra "my ne", by k_extra "my ne", by k_extra "my ne", by k_extra "my ne", by k_extra "my ne", by k_extra "my ne", by k_extra "my ne", by k_extra "my ne", trivial⟩) (⟨by k_extra "my ne", by k_extra "my ne", by k_extra "my ne", by k_extra "my ne", by k_extra "my ne", by k_extra "my ne", by k_extra "my ne", by k_extra "my ne", by k_extra "my ne", by k_extra "my ne", by k_extra "my ne", by k_extra "my ne", by k_extra "my ne", by k_extra "my ne", by k_extra "my ne", trivial⟩) hW' hP (strOk_plain hok' (by omega)) (strOk_plain hok' (by omega)) fun s8 ps9 ps29 sm8 F8 tr9 tr29 N8 => ?_
  refine run_10 X F8 N8 dC rfl (by exact mB) hP (plainT_len hok' 7) hB (by rw [c1.no0]; rfl) fun s10 m10 lO ysO O1 O2 O3 sm10 F10 hm mO N10 hO h1 h2 h3 => ?_
  refine run_12 X F10 N10 dF ((hm _ (by decide) (by decide)).trans rfl) mO c0 c1 c2 c3 c4 c5 hW hO h1 h2 h3 (plainT_len hok' 7) fun s12 m12 sm12 F12 N12 => ?_
  have smz := ((((((sm.trans sm4).trans sm5).trans sm7).trans sm8).trans sm10).trans sm12)
  refine hQ _ _ _ (.fin (kp_out (news₀ := [(140, tabObj ps0), (147, tabObj ps20)]) kp F12 N12 (all_cons hps (all_cons hps2 all_nil)) ?_) smz.1 smz.2) (N12 _ (.head _)).1 (N12 _ (.tail _ (.head _))).1
  exact all_cons (.inl (.head _)) (all_cons (.inl (.tail _ (.head _))) all_nil)
end

end
theorem ints_cons {vs : List Value} {u : Int} {us : List Int} (h : IntsAre vs (u :: us)) : ∃ t r, vs = .int u t :: r ∧ IntsAre r us := by
  cases h with
  | cons _ t r => exact ⟨_, _, rfl, r⟩
theorem ints7 {vs : List Value} {a b c d e f g : Int} (h : IntsAre vs [a, b, c, d, e, f, g]) : ∃ t0 t1 t2 t3 t4 t5 t6, vs = [.int a t0, .int b t1, .int c t2, .int d t3, .int e t4, .int f t5, .int g t6] := by
  obtain ⟨t0, r0, e0, h0⟩ := ints_cons h
  obtain ⟨t1, r1, e1, h1⟩ := ints_cons h0
  obtain ⟨t2, r2, e2, h2⟩ := ints_cons h1
  obtain ⟨t3, r3, e3, h3⟩ := ints_cons h2
  obtain ⟨t4, r4, e4, h4⟩ := ints_cons h3
  obtain ⟨t5, r5, e5, h5⟩ := ints_cons h4
  obtain ⟨t6, r6, e6, h6⟩ := ints_cons h5
  have e7 : r6 = [] := by cases h6; rfl
  exact ⟨t0, t1, t2, t3, t4, t5, t6, by rw [e0, e1, e2, e3, e4, e5, e6, e7]⟩
theorem uncons1 {α : Type} {n : Nat} {l : List α} (h : l.length = n + 1) : ∃ a r, l = a :: r ∧ r.length = n := by
  cases l with
  | nil => exact Nat.noConfusion h
  | cons a r => exact ⟨a, r, rfl, Nat.succ.inj h⟩
theorem list7 {α : Type} {l : List α} (h : l.length = 7) : ∃ a b c d e f g, l = [a, b, c, d, e, f, g] := by
  obtain ⟨a, r, e0, h⟩ := uncons1 h
  obtain ⟨b, r, e1, h⟩ := uncons1 h
  obtain ⟨c, r, e2, h⟩ := uncons1 h
  obtain ⟨d, r, e3, h⟩ := uncons1 h
  obtain ⟨e, r, e4, h⟩ := uncons1 h
  obtain ⟨f, r, e5, h⟩ := uncons1 h
  obtain ⟨g, r, e6, h⟩ := uncons1 h
  exact ⟨a, b, c, d, e, f, g, by rw [e0, e1, e2, e3, e4, e5, e6, List.eq_nil_of_length_eq_zero h]⟩
theorem fm_ge (a : Int) {b : Int} (hb : 0 < b) : 0 ≤ a.fmod b := by
  rw [Int.fmod_eq_emod_of_nonneg _ (Int.le_of_lt hb)]
  exact Int.emod_nonneg _ (by omega)
theorem fm_lt (a : Int) {b : Int} (hb : 0 < b) : a.fmod b < b := by
  rw [Int.fmod_eq_emod_of_nonneg _ (Int.le_of_lt hb)]
  exact Int.emod_lt_of_pos _ hb
section
variable {prog : Program} {w : World} {A : Around} {E : Value → Shared → Prop} {s : Shared} {g : Heap} {L : Addr} {m : Str → Option Value} {news : List (Addr × Obj)}
theorem min2_N {n : Nat} {t u : Tok} {Q : Value → Shared → Prop} (hh : A.handled = none) (F : Fr g L s.heap m) (N : News g L s.heap news)
    (h : ∀ h' tk tok, Fr g L h' m → News g L h' news → Q (.int ((min 7 n : Nat) : Int) tok) { s with heap := h', toks := tk }) : wpAny (model prog w) A (call (.builtin "min") [.int 7 t, .int (n : Int) u]) Q E s := by
  refine min_two_ints hh fun h' tk hk => ?_
  have k : Kp [] s.heap h' := fun b o e _ => hk b o e
  refine then0 k F N fun F2 N2 => ?_
  by_cases c : (n : Int) < 7
  · rw [if_pos c]
    have := h h' tk u F2 N2
    rw [show min 7 n = n by omega] at this
    exact this
  · rw [if_neg c]
    have := h h' tk t F2 N2
    rw [show ((min 7 n : Nat) : Int) = 7 by omega] at this
    exact this
end
noncomputable def WordsL (l : List Value) : Prop := ∃ ta tb tc td te : Tok, l = [.str (Str.ofString "a") ta, .str (Str.ofString "b") tb, .str (Str.ofString "ab") tc, .str (Str.ofString "aba") td, .str (Str.ofString "bb") te]
noncomputable def GapsL (l : List Value) : Prop := ∃ ta tb tc td : Tok, l = [.str (Str.ofString " ") ta, .str (Str.ofString "\t") tb, .str (Str.ofString "  ") tc, .str (Str.ofString " ") td]
theorem ints_item {vs : List Value} {us : List Int} (h : IntsAre vs us) : ∀ {k : Nat} {v : Value}, vs[k]? = some v → ∃ z t, v = .int z t ∧ k < us.length := by
  induction h with
  | nil => intro k v hv; simp at hv
  | cons u t r ih =>
    intro k v hv
    cases k with
    | zero => exact ⟨_, _, (Option.some.inj hv).symm, Nat.succ_pos _⟩
    | succ k =>
      obtain ⟨z, t', e, hk⟩ := ih hv
      exact ⟨z, t', e, Nat.succ_lt_succ hk⟩
theorem word_item {w : World} {A : Around} {E : Value → Shared → Prop} {s : Shared} {Q : Value → Shared → Prop} {g : Heap} {L : Addr} {news : List (Addr × Obj)} {value slice : Expr} {r : Addr} {u : Tok} {l : List Value} {ep : Nat} {i : Int} (N : News g L s.heap news) (hm : (r, listOf l.toArray ep) ∈ news) (hl : WordsL l) (h0 : 0 ≤ i) (h1 : i < 5) (h : ∀ x ∈ wordsL, ∀ t, Q (.str x t) s)
    (hs : subscripted slice false (.ref r) (.int i u) = operate [.ref r, .int i u] (getItem (.ref r) (.int i u)) := by with_unfolding_all rfl) (hg : ∀ q, letTemporaryGo value (.ref r) q = pure () := by intro _; with_unfolding_all rfl) :
    wpAny (model PySem.Challenge.rw_wr0037_01.prog w) A (subscriptTail value slice (.ref r) (.int i u)) Q E s := by
  obtain ⟨ta, tb, tc, td, te, rfl⟩ := hl
  obtain ⟨k, rfl⟩ : ∃ k : Nat, i = (k : Int) := ⟨i.toNat, by omega⟩
  have key : ∀ v, [Value.str (Str.ofString "a") ta, .str (Str.ofString "b") tb, .str (Str.ofString "ab") tc, .str (Str.ofString "aba") td, .str (Str.ofString "bb") te][k]? = some v → wpAny (model PySem.Challenge.rw_wr0037_01.prog w) A (subscriptTail value slice (.ref r) (.int (k : Int) u)) Q E s := fun v hv => by
    refine lst_item N (xs := [.str (Str.ofString "a") ta, .str (Str.ofString "b") tb, .str (Str.ofString "ab") tc, .str (Str.ofString "aba") td, .str (Str.ofString "bb") te]) hm (by omega) hv ?_ hs hg
    rcases k with _ | _ | _ | _ | _ | k
    · rw [← Option.some.inj hv]; exact h _ (by simp [wordsL]) _
    · rw [← Option.some.inj hv]; exact h _ (by simp [wordsL]) _
    · rw [← Option.some.inj hv]; exact h _ (by simp [wordsL]) _
    · rw [← Option.some.inj hv]; exact h _ (by simp [wordsL]) _
    · rw [← Option.some.inj hv]; exact h _ (by simp [wordsL]) _
    · omega
  exact key _ (List.getElem?_eq_getElem (by simp; omega))
noncomputable abbrev gaps4 : List Str := [Str.ofString " ", Str.ofString "\t", Str.ofString "  ", Str.ofString " "]
theorem gap_item {w : World} {A : Around} {E : Value → Shared → Prop} {s : Shared} {Q : Value → Shared → Prop} {g : Heap} {L : Addr} {news : List (Addr × Obj)} {value slice : Expr} {r : Addr} {u : Tok} {l : List Value} {ep : Nat} {i : Int} (N : News g L s.heap news) (hm : (r, listOf l.toArray ep) ∈ news) (hl : GapsL l) (h0 : 0 ≤ i) (h1 : i < 4) (h : ∀ x ∈ gaps4, ∀ t, Q (.str x t) s)
    (hs : subscripted slice false (.ref r) (.int i u) = operate [.ref r, .int i u] (getItem (.ref r) (.int i u)) := by with_unfolding_all rfl) (hg : ∀ q, letTemporaryGo value (.ref r) q = pure () := by intro _; with_unfolding_all rfl) :
    wpAny (model PySem.Challenge.rw_wr0037_01.prog w) A (subscriptTail value slice (.ref r) (.int i u)) Q E s := by
  obtain ⟨ta, tb, tc, td, rfl⟩ := hl
  obtain ⟨k, rfl⟩ : ∃ k : Nat, i = (k : Int) := ⟨i.toNat, by omega⟩
  have key : ∀ v, [Value.str (Str.ofString " ") ta, .str (Str.ofString "\t") tb, .str (Str.ofString "  ") tc, .str (Str.ofString " ") td][k]? = some v → wpAny (model PySem.Challenge.rw_wr0037_01.prog w) A (subscriptTail value slice (.ref r) (.int (k : Int) u)) Q E s := fun v hv => by
    refine lst_item N (xs := [.str (Str.ofString " ") ta, .str (Str.ofString "\t") tb, .str (Str.ofString "  ") tc, .str (Str.ofString " ") td]) hm (by omega) hv ?_ hs hg
    rcases k with _ | _ | _ | _ | k
    · rw [← Option.some.inj hv]; exact h _ (.head _) _
    · rw [← Option.some.inj hv]; exact h _ (.tail _ (.head _)) _
    · rw [← Option.some.inj hv]; exact h _ (.tail _ (.tail _ (.head _))) _
    · rw [← Option.some.inj hv]; exact h _ (.tail _ (.tail _ (.tail _ (.head _)))) _
    · omega
  exact key _ (List.getElem?_eq_getElem (by simp; omega))
theorem gaps4_ok : ∀ x ∈ gaps4, x ∈ gapsL ∧ ¬ x = Str.ofString "" := by decide +kernel
example : True := by
  (k_with "subscriptTail" => (k_here; (with_reducible show wpAny _ _ (subscriptTail _ _ (Value.ref _) (Value.int _ _)) _ _ _); k_dflt (first | (refine' word_item (by k_asm) (by k_extra "my mem") (by first | assumption | exact ⟨_, _, _, _, _, rfl⟩) (by exact fm_ge _ (by decide)) (by exact fm_lt _ (by decide)) ?_; intro _ _ _) | (refine' gap_item (by k_asm) (by k_extra "my mem") (by first | assumption | exact ⟨_, _, _, _, rfl⟩) (by exact fm_ge _ (by decide)) (by exact fm_lt _ (by decide)) ?_; intro _ _ _))))
  (k_with "exec For Name Subscript cons nil" => (k_here; k_dflt (refine wpAny_For ?_)))
  trivial
section
variable {w : World} {A : Around} {s : Shared} {p : Program} {loose : List Str} {mg mb : Str → Option Value} {g₀ : Heap}
    {Q : Value → Shared → Prop} {E : Value → Shared → Prop} {sc : Addr} {vs : List Value} {ns : List Int}
noncomputable abbrev ChkJ (lN sc r' : Addr) (ns : List Int) (t' u' v' : Tok) (k : Nat) (m' : Str → Option Value) (b : List (Addr × Obj)) : Prop := m' (Str.ofString "numbers") = some (.ref lN) ∧ m' (Str.ofString "script") = some (.ref sc) ∧ ∃ ys xs, b = [(r', rng1Ob ((min 7 ns.length : Nat) : Int) t' u' v'), (lN, listOf ys.toArray 0)] ∧ IntsAre ys xs ∧ xs.length = 7
noncomputable abbrev ChkK (lC lW lG lN D it2 : Addr) (ds gs ws : List Value) (x0 : Int) (y0 : Tok) (k : Nat) (m' : Str → Option Value) (b : List (Addr × Obj)) : Prop := m' (Str.ofString "chunks") = some (.ref lC) ∧ m' (Str.ofString "words") = some (.ref lW) ∧ m' (Str.ofString "gaps") = some (.ref lG) ∧ m' (Str.ofString "numbers") = some (.ref lN) ∧ ∃ its cs ep ex, b = (lC, listOf its.toArray ep) :: (D, listOf ds.toArray 0) :: (lG, listOf gs.toArray 0) :: (lW, listOf ws.toArray 0) :: (lN, listOf (.int x0 y0 :: ds).toArray 0) :: ex ∧ Tail ex its cs ∧ cs.length = k + 1 ∧ (∀ c ∈ cs, OkCh c) ∧ (∀ i c, 1 ≤ i → cs[i]? = some c → ¬ c.1 = Str.ofString "") ∧ (∀ p ∈ ex, p.1 ≠ lC) ∧ (∀ p ∈ ex, p.1 ≠ it2)
theorem law_chunks_c (hh : A.handled = none) (G : Gd (hd.heap_39 w.params) p loose mg mb g₀) (H : g₀.StaysIn s.heap) (hS : g₀.IsList sc vs.toArray) (hI : IntsAre vs ns) (hl : ns.length ≤ 63)
    (hroom : A.depth + 25 < recursionLimit) (hu : A.units + 300 < cLine)
    (hQ : ∀ s' rT lC its epc ex cs sI ts, Go [] s s' → (∀ p ∈ (rT, ({ cls := .type "tuple", data := .seq #[.ref lC, .int sI ts] } : Obj)) :: (lC, listOf its.toArray epc) :: ex, s.heap.get? p.1 = none ∧ s'.heap.get? p.1 = some p.2) → Tail ex its cs → (∀ c ∈ cs, OkCh c) →
      (∀ k c, 1 ≤ k → cs[k]? = some c → ¬ c.1 = Str.ofString "") → cs.length = 7 → Q (.ref rT) s') :
    wpAny (model PySem.Challenge.rw_wr0037_01.prog w) A (call (.ref 217) [.ref sc]) Q E s := by
  refine' enter (binds := [(Str.ofString "script", .ref sc)]) [] G H ?hn ?ho ?hcd ?hr ?hb ?hl ?hbody ?c2 ?c3 ?c4 ?c5
  k_extra "my enter"
  case hn => exact all_nil
  case hr => omega
  case hbody =>
    intro g' L' h' G' st' kp' F' N' l1
    have X' := G'.X
    have T' := G'.T
    have hS1 : g'.IsList sc vs.toArray := by
      obtain ⟨o, ho, r⟩ := hS
      exact ⟨o, st' _ _ ho, r⟩
    have hvl := hI.length
    (show wpAny _ _ _ _ _ _); k_fold
    k_steps
    k_extra "my holes"
    rename Fr _ _ _ _ => kF
    rename News _ _ _ _ => kN
    refine min2_N hh kF kN fun h3 tk3 tok3 F3 N3 => ?_
    clear kF kN
    k_steps
    k_extra "my holes"
    rename Fr _ _ _ _ => kF
    rename News _ _ _ _ => kN
    rename_i tk0 lN h1 z1 h2 r' h' tk' t' u' v'
    refine iter_up_L (n := min 7 ns.length) kF kN (.head _) (by omega) ?_
    dsimp only
    intro it h4 F4 N4 l4
    have l5 := l4
    k_lt l4
    clear kF kN
    refine loop_up (J := ChkJ lN sc r' ns t' u' v') hh rfl rfl F4 N4 (fun p hp => Nat.ne_of_lt (l5 p hp)) ?J0 ?turn ?last
    case J0 => exact ⟨rfl, rfl, [_, _, _, _, _, _, _], [_, _, _, _, _, _, _], rfl, .cons _ _ (.cons _ _ (.cons _ _ (.cons _ _ (.cons _ _ (.cons _ _ (.cons _ _ .nil)))))), rfl⟩
    case turn =>
      intro k s4 m4 b tk4 E4 hk hJ sm4 F4 N4 off4
      k_extra "my hide"
      obtain ⟨j1, j2, ys, xs, rfl, hx, hx7⟩ := hJ
      k_extra "my back"
      k_steps
      k_extra "my holes"
      rename Fr _ _ _ _ => kF
      rename News _ _ _ _ => kN
      rename_i hi' hl' hs'
      (show UpEnd _ _ _ _ _ _ _ _)
      refine ⟨⟨by k_extra "my os", by k_extra "my gens"⟩, _, _, ⟨by exact j1, by exact j2, _, _, rfl, ‹IntsAre (List.set _ _ _) _›, ?_⟩, kF, kN, all_cons (off4 _ (.head _)) (all_cons (off4 (lN, listOf ys.toArray 0) (.tail _ (.head _))) all_nil)⟩
      rw [List.length_set]; exact hx7
    case last =>
      intro s4 m4 b E4 hJ sm4 F4 N4
      k_extra "my hide"
      obtain ⟨j1, j2, ys, xs, rfl, hx, hx7⟩ := hJ
      k_extra "my back"
      obtain ⟨x0, x1, x2, x3, x4, x5, x6, rfl⟩ : ∃ a b c d e f g, xs = [a, b, c, d, e, f, g] := list7 hx7
      k_extra "my hide"
      obtain ⟨y0, y1, y2, y3, y4, y5, y6, rfl⟩ := ints7 hx
      k_extra "my back"
      k_steps
      k_extra "my holes"
      rename Fr _ _ _ _ => kF
      rename News _ _ _ _ => kN
      rename_i tk5 lW h5 z5 h6 tk6 lG h7 z7 h8 tk7 tm w0 hw0 tw0 R0 h9 z9 lC h10 z10 h11 D h12 z12
      have hW : WordsL [.str (Str.ofString "a") s4.toks, .str (Str.ofString "b") (s4.toks + 1), .str (Str.ofString "ab") (s4.toks + 1 + 1), .str (Str.ofString "aba") (s4.toks + 1 + 1 + 1), .str (Str.ofString "bb") (s4.toks + 1 + 1 + 1 + 1)] := ⟨_, _, _, _, _, rfl⟩
      have hG : GapsL [.str (Str.ofString " ") tk6, .str (Str.ofString "\t") (tk6 + 1), .str (Str.ofString "  ") (tk6 + 1 + 1), .str (Str.ofString " ") (tk6 + 1 + 1 + 1)] := ⟨_, _, _, _, rfl⟩
      have hds : IntsAre [.int x1 y1, .int x2 y2, .int x3 y3, .int x4 y4, .int x5 y5, .int x6 y6] [x1, x2, x3, x4, x5, x6] := .cons _ _ (.cons _ _ (.cons _ _ (.cons _ _ (.cons _ _ (.cons _ _ .nil)))))
      have hdl : ([.int x1 y1, .int x2 y2, .int x3 y3, .int x4 y4, .int x5 y5, .int x6 y6] : List Value).length = 6 := rfl
      generalize ([.str (Str.ofString "a") s4.toks, .str (Str.ofString "b") (s4.toks + 1), .str (Str.ofString "ab") (s4.toks + 1 + 1), .str (Str.ofString "aba") (s4.toks + 1 + 1 + 1), .str (Str.ofString "bb") (s4.toks + 1 + 1 + 1 + 1)] : List Value) = ws at hW kN
      generalize ([.str (Str.ofString " ") tk6, .str (Str.ofString "\t") (tk6 + 1), .str (Str.ofString "  ") (tk6 + 1 + 1), .str (Str.ofString " ") (tk6 + 1 + 1 + 1)] : List Value) = gs at hG kN
      generalize ([.int x1 y1, .int x2 y2, .int x3 y3, .int x4 y4, .int x5 y5, .int x6 y6] : List Value) = ds at hds hdl kN
      refine iter_list_L (its := ds) (ep := 0) kF kN (kN.get (by k_extra "my mem")) ?_
      intro it2 o2 h13 F13 N13 l13 lo13
      have l14 := l13
      k_lt l13
      clear kF kN
      refine loop_list (its := ds) (ep := 0) (base := (lC, listOf #[.ref R0] 0) :: (D, listOf ds.toArray 0) :: (lG, listOf gs.toArray 0) :: (lW, listOf ws.toArray 0) :: (lN, listOf (.int x0 y0 :: ds).toArray 0) :: [(R0, tupObj (Str.ofString "") w0 tk7 tw0)])
        (J := ChkK lC lW lG lN D it2 ds gs ws x0 y0) hh F13 ?N0 lo13 ?off0 ?K0 ?Kl ?turn2 ?last2
      case N0 => exact all_cons (N13 _ (by k_extra "my mem")) (all_cons (N13 _ (by k_extra "my mem")) (all_cons (N13 _ (by k_extra "my mem")) (all_cons (N13 _ (by k_extra "my mem")) (all_cons (N13 _ (by k_extra "my mem")) (all_cons (N13 _ (by k_extra "my mem")) (all_cons (N13 _ (by k_extra "my mem")) all_nil))))))
      case off0 =>
        have q := l13
        exact all_cons (by k_ne) (all_cons (by k_ne) (all_cons (by k_ne) (all_cons (by k_ne) (all_cons (by k_ne) (all_cons (by k_ne) all_nil)))))
      case K0 =>
        refine ⟨rfl, rfl, rfl, by exact j1, [.ref R0], [(Str.ofString "", w0)], 0, _, rfl, ?_, rfl, ?_, ?_, all_cons (by k_ne) all_nil, all_cons (by k_ne) all_nil⟩
        · exact ⟨all_cons rfl all_nil, fun h' hk => .one ⟨R0, _, _, rfl, hk _ (.head _)⟩⟩
        · exact all_cons ⟨.head _, hw0⟩ all_nil
        · intro i c h1 hc
          rcases i with _ | i
          · omega
          · simp at hc
      case Kl =>
        intro k m' b hJ
        k_extra "my hide"
        obtain ⟨_, _, _, _, _, _, _, _, rfl, _⟩ := hJ
        k_extra "my back"
        exact .inl (by k_extra "my mem")
      case turn2 =>
        intro k s6 m6 b v o6 E6 hv lo6 hJ sm6 F6 N6 off6
        k_extra "my hide"
        obtain ⟨i1, i2, i3, i4, its, cs, ep, ex, rfl, hX, hcl, hok, hgap, hxc, hxi⟩ := hJ
        k_extra "my back"
        k_extra "my hide"
        obtain ⟨z, t, rfl, hk⟩ : ∃ z t, v = .int z t ∧ k < 6 := ints_item hds hv
        k_extra "my back"
        have hcx : Chs s6.heap its cs := hX.chs _ fun p hp => (N6 p (by repeat (first | exact hp | refine List.mem_cons_of_mem _ ?_))).1
        have hil := hcx.length
        clear hv
        k_steps
        k_extra "my holes"
        rename_i tkA xg hg tg xw hw tw R5 hA lt hB kF kN
        have e : its.toArray.push (Value.ref R5) = (its ++ [Value.ref R5]).toArray := by simp
        rw [e] at kN
        have gg := gaps4_ok _ hg
        (show ListEnd _ _ _ _ _ _ _ _)
        refine ⟨⟨by k_extra "my os", by k_extra "my gens"⟩, _, (lC, listOf (its ++ [Value.ref R5]).toArray (ep + 1)) :: (D, listOf ds.toArray 0) :: (lG, listOf gs.toArray 0) :: (lW, listOf ws.toArray 0) :: (lN, listOf (.int x0 y0 :: ds).toArray 0) :: (R5, tupObj xg xw tg tw) :: ex, o6, lo6,
          ⟨by exact i1, by exact i2, by exact i3, by exact i4, its ++ [.ref R5], cs ++ [(xg, xw)], ep + 1, (R5, tupObj xg xw tg tw) :: ex, rfl, hX.snoc (c := (xg, xw)), ?c1, ?c2, ?c3, all_cons (Nat.ne_of_gt lt.2.1) hxc, all_cons (Nat.ne_of_gt lt.1) hxi⟩, kF, ?nn, ?no⟩
        case c1 => rw [List.length_append, hcl]; rfl
        case c2 =>
          intro c hc
          rcases List.mem_append.mp hc with q | q
          · exact hok c q
          · rw [List.mem_singleton.mp q]; exact ⟨gg.1, hw⟩
        case c3 =>
          intro i c h1 hc
          by_cases hi : i < cs.length
          · rw [List.getElem?_append_left hi] at hc
            exact hgap i c h1 hc
          · rw [List.getElem?_append_right (by omega)] at hc
            have : c ∈ [(xg, xw)] := List.mem_of_getElem? hc
            rw [List.mem_singleton.mp this]; exact gg.2
        case nn =>
          exact all_cons (kN _ (by k_extra "my mem")) (all_cons (kN _ (by k_extra "my mem")) (all_cons (kN _ (by k_extra "my mem")) (all_cons (kN _ (by k_extra "my mem")) (all_cons (kN _ (by k_extra "my mem")) (all_cons (kN _ (by k_extra "my mem")) (all_cons (kN _ (by k_extra "my mem")) fun p hp => kN p (by repeat (first | exact hp | refine List.mem_cons_of_mem _ ?_))))))))
        case no =>
          have o1 := off6 (lC, listOf its.toArray ep) (.head _)
          have o2 : ∀ p ∈ (D, listOf ds.toArray 0) :: (lG, listOf gs.toArray 0) :: (lW, listOf ws.toArray 0) :: (lN, listOf (.int x0 y0 :: ds).toArray 0) :: ex, p.1 ≠ it2 := fun p hp => off6 p (.tail _ hp)
          refine all_cons o1 (all_cons (o2 _ (.head _)) (all_cons (o2 _ (.tail _ (.head _))) (all_cons (o2 _ (.tail _ (.tail _ (.head _)))) (all_cons (o2 _ (.tail _ (.tail _ (.tail _ (.head _))))) (all_cons (Nat.ne_of_gt lt.1) hxi)))))
      case last2 =>
        intro s6 m6 b E6 hJ sm6 F6 N6
        k_extra "my hide"
        obtain ⟨i1, i2, i3, i4, its, cs, ep, ex, rfl, hX, hcl, hok, hgap, hxc, hxi⟩ := hJ
        k_extra "my back"
        have hcx : Chs s6.heap its cs := hX.chs _ fun p hp => (N6 p (by repeat (first | exact hp | refine List.mem_cons_of_mem _ ?_))).1
        have hil := hcx.length
        k_steps
        k_extra "my holes"
        rename Fr _ _ _ _ => kF
        rename News _ _ _ _ => kN
        refine sumK hh kF kN ⟨_, kN.get (by k_extra "my mem"), rfl, _, rfl⟩ (vs := .int x0 y0 :: ds) (.cons _ _ hds) ?_
        intro tS h7 tk8 F7 N7
        clear kF kN
        k_steps
        k_extra "my holes"
        rename Fr _ _ _ _ => kF
        rename News _ _ _ _ => kN
        rename_i D' h'' l''
        (show Q _ _)
        have fr : ∀ p, News g' L' h'' [p] → s.heap.get? p.1 = none ∧ h''.get? p.1 = some p.2 := fun p q => ⟨fresh_out kp' (q _ (.head _)).2.2 all_nil, (q _ (.head _)).1⟩
        refine hQ _ D' lC its ep ex cs [x0, x1, x2, x3, x4, x5, x6].sum tk8 (.fin (kp_out kp' kF kN all_nil all_nil) (by k_extra "my os") (by k_extra "my gens")) ?_ hX hok hgap (by rw [hcl, hdl])
        refine all_cons (fr _ (all_cons (kN _ (.head _)) all_nil)) (all_cons (fr _ (all_cons (kN _ (.tail _ (.head _))) all_nil)) fun p hp => fr p (all_cons (kN p (.tail _ (.tail _ (.tail _ (.tail _ (.tail _ (.tail _ hp))))))) all_nil))
end

noncomputable abbrev tabs2 : List (Addr × Addr) := [(144, 140), (151, 147)]
theorem tabs_at {w : World} {h : Heap} (X : (hd.heap_39 w.params).In h) (T : ∀ P ∈ [(140 : Addr), 147], h.get? P = some (tabObj #[])) : TabsAt tabs2 h :=
  all_cons ⟨codeHd_len X, T _ (.head _)⟩ (all_cons ⟨codeHd_str X, T _ (.tail _ (.head _))⟩ all_nil)
theorem gd_ghost {w : World} {h : Heap} {p : Program} {loose : List Str} {mean : ExcName → Option Value} {mg mb : Str → Option Value} {bm : Addr} {ob : Obj} (X : (hd.heap_39 w.params).In h) (T : Top p loose mean mg mb h) (M : BMod h mainGlobals mg bm ob)
    (hT : TabsAt tabs2 h) : Gd (hd.heap_39 w.params) p loose mg mb (ghostOf h tabs2) where
  X := fun a o e => ghost_ne (X a o e) fun q => by
    have : a = 140 ∨ a = 147 := by simpa using q
    rcases this with rfl | rfl
    · have e2 : (hd.heap_39 w.params).lookup 140 = none := by rfl
      rw [e2] at e; cases e
    · have e2 : (hd.heap_39 w.params).lookup 147 = none := by rfl
      rw [e2] at e; cases e
  T := ⟨ghost_ns hT T.g, ghost_ns hT T.b, let ⟨mc, a, r⟩ := T.nolimit; ⟨mc, ghost_ns hT a, r⟩, T.builtins, T.free⟩
  M := ⟨bm, ob, ghost_ns hT M.ns, M.name, M.ne, ghost_get hT M.obj (fun q => by have := M.cls; rw [q] at this; cases this), M.cls, M.dict, M.data⟩
theorem law_old {h h' : Heap} {ps ps2 : Array Value} (hT : TabsAt tabs2 h) (keep : ∀ b o, (ghostOf h tabs2).get? b = some o → h'.get? b = some o) (h1 : h'.get? 140 = some (tabObj ps)) (h2 : h'.get? 147 = some (tabObj ps2)) : OldK h h' := by
  have grown : ∀ b o, b ∈ tabs2.map (·.2) → h.get? b = some o → isCodeTable h b ∧ o = tabObj #[] ∧ ∃ ps, h'.get? b = some (tabObj ps) := fun b o hb e => by
    obtain ⟨q, hq, rfl⟩ := List.mem_map.mp hb
    have e2 := (hT q hq).2
    rw [e] at e2
    refine ⟨((hT q hq).1.tab (hT q hq).2).isCodeTable, Option.some.inj e2, ?_⟩
    rcases List.mem_cons.mp hq with rfl | hq
    · exact ⟨_, h1⟩
    · rcases List.mem_cons.mp hq with rfl | hq
      · exact ⟨_, h2⟩
      · cases hq
  refine ⟨fun b o e => ?_, fun b o e => ?_⟩
  · by_cases hb : b ∈ tabs2.map (·.2)
    · obtain ⟨ht, rfl, ps, hP⟩ := grown b o hb e
      exact .inr (.inl ⟨ht, rfl, #[], ps, rfl, by rw [Array.empty_append]; exact hP⟩)
    · exact .inl (keep b o (ghost_ne e hb))
  · by_cases hb : b ∈ tabs2.map (·.2)
    · obtain ⟨_, _, ps, hP⟩ := grown b o hb e
      exact ⟨_, hP⟩
    · exact ⟨o, keep b o (ghost_ne e hb)⟩

theorem law_holds : PySem.Challenge.rw_wr0037_01.Holds := hd (by
  k_fill
  intro w s₀ s₁ mg mb G Y fa o pm cd doc dV kV ho hdd hcd hD hmg hg args vals as hpre hlay hrd hwl hlo
  have KX : (hd.heap_39 w.params).In s₁.heap := km_in_of Y
  have hT8 : ∀ P ∈ [(140 : Addr), 147], s₁.heap.get? P = some (tabObj #[]) := km_tabs_of Y
  refine Ground.open G ?_
  intro T B D TE TW
  (try (refine guard_noD D (by decide +kernel) ?_; clear D))
  obtain ⟨_, _, M⟩ := bmod_of_top T
  clear hmg
  wrow_args hpre hlay hrd hwl hlo
  (first | refine callC_kw (enter_call ?_) | refine enter_call ?_)
  w_top on
  have K0 := below_caller (Top.heap T)
  w_call any ho hdd hcd hD T F
  clear hdd
  k_drop
  rename Fr _ _ _ _ => kF
  rename News _ _ _ _ => kN
  rename Top _ _ _ _ _ _ => kT
  rename BMod _ _ _ _ _ => kM
  rename Heap.IsList _ _ _ => kL
  rename IntsAre _ _ => kI
  have hA := tabs_at KX hT8
  have G' := gd_ghost KX kT kM hA
  have kL' := ghost_list hA kL
  have kF' := ghost_fr hA kF
  have kN' := ghost_news hA kF kN
  clear kF kN
  generalize hgz : ghostOf s₁.heap tabs2 = g at G' kL' kF' kN'
  have X' := G'.X
  have T' := G'.T
  (show wpAny (model PySem.Challenge.rw_wr0037_01.prog w) _ _ _ _ _)
  (try k_fold)
  k_steps
  k_extra "my holes"
  refine halt_go ?_
  rename Fr _ _ _ _ => kF
  rename News _ _ _ _ => kN
  refine law_chunks_c rfl G' kF.keep kL' kI (by omega) (by (try simp only [depth_deeper, depth_caller, Around.deeper_units]); decide +kernel) (by (try simp only [depth_deeper, depth_caller, Around.deeper_units]); decide +kernel) fun s5 rT lC its epc ex cs sI ts k5 hfr hX hok hgap hlen => ?_
  refine then0 (Go.kp k5) kF kN fun F6 N6 => ?_
  have N7 : News g s₁.heap.objs.size s5.heap ((rT, ({ cls := .type "tuple", data := .seq #[.ref lC, .int sI ts] } : Obj)) :: (lC, listOf its.toArray epc) :: (140, tabObj #[]) :: (147, tabObj #[]) :: ex) := by
    have le : ∀ p ∈ (rT, ({ cls := .type "tuple", data := .seq #[.ref lC, .int sI ts] } : Obj)) :: (lC, listOf its.toArray epc) :: ex, LeAt g s₁.heap.objs.size s5.heap p.1 p.2 := fun p hp => le_fresh kF (hfr p hp).1 (hfr p hp).2
    exact all_cons (le _ (.head _)) (all_cons (le _ (.tail _ (.head _))) (all_cons (N6 _ (.head _)) (all_cons (N6 _ (.tail _ (.head _))) fun p hp => le p (.tail _ (.tail _ hp)))))
  clear N6 hfr
  k_steps
  k_extra "my holes"
  refine halt_go ?_
  rename Fr _ _ _ _ => kF
  rename News _ _ _ _ => kN
  have hT4 : TB g _ 140 := ⟨_, (kN _ (.tail _ (.tail _ (.head _)))).1, trivial, (kN _ (.tail _ (.tail _ (.head _)))).2.2⟩
  have hT5 : TB g _ 147 := ⟨_, (kN _ (.tail _ (.tail _ (.tail _ (.head _))))).1, trivial, (kN _ (.tail _ (.tail _ (.tail _ (.head _))))).2.2⟩
  refine law_run_c rfl G' kF.keep (kN _ (.tail _ (.head _))).1 (hX.chs _ fun p hp => (kN p (.tail _ (.tail _ (.tail _ (.tail _ hp))))).1) hok hgap hlen hT4 hT5 (by (try simp only [depth_deeper, depth_caller, Around.deeper_units]); decide +kernel) (by (try simp only [depth_deeper, depth_caller, Around.deeper_units]); decide +kernel) fun s9 ps9 ps29 k9 e4 e5 => ?_
  refine ⟨.inl ⟨.bool true, .bool true, [], rfl, fun _ => rfl, .bool _, ?hp, fun _ => ⟨List.nodup_nil, fun a h => nomatch h⟩⟩, law_old hA ?hk e4 e5, ?ho, ?hg⟩
  case hp =>
    refine' postW_of ?hps ?hpv ?hpe
    case hps => o_shape
    case hpv => wtm_val
    case hpe => w_fin
  case hk =>
    intro b o e
    rw [hgz] at e
    refine k9.kp b o (kF.keep b o e) fun q => ?_
    rcases List.mem_cons.mp q with rfl | q
    · rw [hT4.choose_spec.2.2] at e; cases e
    · rcases List.mem_cons.mp q with rfl | q
      · rw [hT5.choose_spec.2.2] at e; cases e
      · cases q
  case ho => k_extra "my os"
  case hg =>
    have hb : AllBare s₁.gens := .of_eq hg
    refine (?_ : AllBare s₁.gens → AllBare s9.gens) hb
    k_extra "my gens")

end Mine
theorem PySem.Challenge.cw_wr0037_01_holds : PySem.Challenge.rw_wr0037_01.Holds :=
  Mine.law_holds
