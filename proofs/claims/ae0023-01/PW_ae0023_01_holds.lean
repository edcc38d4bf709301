import PyProof.Rows.All
import Wide.All
import OpenK.AllK
import Wide.FinOn
import PyProof.TupleKey
import PyProof.DictRoadsH
import PyProof.WalksPairs
import KE.KLcPair
import PyProof.NeKinds
import Lean
import PySem.Challenge.RW_ae0023_01
set_option Elab.async false
set_option maxRecDepth 100000
set_option maxHeartbeats 4000000
set_option compiler.extract_closed false
set_option linter.all false
open PySem PySem.W PySem.Calls PyProof.Rows PySem.Challenge
namespace Mine
set_option hygiene false in
local macro_rules | `(tactic| walk_at "f") => `(tactic| ((have dm' : rw_ae0023_01.foot = 10 → K = K → True := fun _ _ => trivial); revert dm'; k_fill; intro dm'; clear dm'))
set_option hygiene false in
local macro_rules | `(tactic| walk_at "e") => `(tactic| ((case k6 => k_dflt k_is); (case k7 => k_dflt k_is); (case k9 => k_dflt (exact BindsTo.of_eq rfl)); (case c5 => k_dflt decide); (case kB => k_dflt (exact locs rfl)); (case c2 => exact rfl); (case c3 => exact rfl); (case c4 => exact rfl)))
set_option hygiene false in
local macro_rules | `(tactic| walk_at "S2") => `(tactic| (fail_if_success (with_reducible show wpAny _ _ (subscriptTail _ _ _ _) _ _ _)))
set_option hygiene false in
local macro_rules | `(tactic| walk_at "S4") => `(tactic| (fail_if_success (with_reducible show StarOf _ _ _ _ _ _)))
set_option hygiene false in
local macro_rules | `(tactic| walk_at "g2") => `(tactic| repeat (walk_at "S2"; (fail_if_success (with_reducible (first | show wpAny _ _ (call (Value.ref _) _) _ _ _ | show wpAny _ _ (compareOp CmpOp.NotIn _ _) _ _ _ | show wpAny _ _ (setItem _ _ _) _ _ _ | show wpAny _ _ (call (Value.builtin "dict.get") _) _ _ _ | show wpAny _ _ (getMethod (Value.ref _) (PySem.Str.ofString "get") _) _ _ _ | show wpAny _ _ (eval (Expr.ListComp _ _ _ _) _) _ _ _ | show wpAny _ _ (eval (Expr.GeneratorExp _ _ _ _) _) _ _ _))); (first | walk1 | (dsimp only; walk1))))
set_option hygiene false in
local macro_rules | `(tactic| walk_at "g3") => `(tactic| repeat (walk_at "b"; walk_at "S2"; (first | walk1 | (dsimp only; walk1))))
set_option hygiene false in
local macro_rules | `(tactic| walk_at "e2") => `(tactic| ((case k6 => k_dflt k_is); (case k7 => k_dflt k_is); (case k9 => k_dflt (first | exact BindsTo.of_eq rfl | exact binds_K (by k_in) rfl (by k_is) rfl rfl rfl)); (case c5 => k_dflt decide); (case kB => k_dflt (exact locs rfl)); (case c2 => exact rfl); (case c3 => exact rfl); (case c4 => exact rfl)))
set_option hygiene false in
local macro_rules | `(tactic| walk_at "G") => `(tactic| repeat (walk_at "b"; (first | walk1 | (dsimp only; walk1))))
set_option hygiene false in
local macro_rules | `(tactic| walk_at "g4") => `(tactic| repeat (walk_at "b"; walk_at "v"; (first | walk1 | (dsimp only; walk1))))
set_option hygiene false in
local macro_rules | `(tactic| walk_at "g5") => `(tactic| repeat (walk_at "b"; walk_at "B"; walk_at "v"; (fail_if_success (with_reducible show wpAny _ _ (compareOp CmpOp.Eq (Value.str _ _) (Value.str _ _)) _ _ _)); (first | walk1 | (dsimp only; walk1))))
set_option hygiene false in
local macro_rules | `(tactic| walk_at "g6") => `(tactic| repeat (walk_at "b"; walk_at "B"; walk_at "u"; (fail_if_success (with_reducible show wpAny _ _ (compareOp CmpOp.Eq (Value.str _ _) (Value.str _ _)) _ _ _)); (first | walk1 | (dsimp only; walk1))))
set_option hygiene false in
local macro_rules | `(tactic| walk_at "g7") => `(tactic| repeat (walk_at "b"; walk_at "v"; (fail_if_success (with_reducible (first | show wpAny _ _ (compareOp CmpOp.Eq (Value.ref _) (Value.ref _)) _ _ _ | show wpAny _ _ (callWith _ Value.none _ _ _) _ _ _))); (first | walk1 | (dsimp only; walk1))))
set_option hygiene false in
local macro_rules | `(tactic| walk_at "g8") => `(tactic| repeat (walk_at "b"; walk_at "B"; walk_at "u"; (fail_if_success (with_reducible (first | show wpAny _ _ (compareOp CmpOp.NotEq (Value.str _ _) (Value.str _ _)) _ _ _ | show wpAny _ _ (getMethod (Value.ref _) (PySem.Str.ofString "values") _) _ _ _ | show wpAny _ _ (compareOp CmpOp.Eq (Value.str _ _) (Value.str _ _)) _ _ _))); (first | walk1 | (dsimp only; walk1))))
set_option hygiene false in
local macro_rules | `(tactic| walk_at "g9") => `(tactic| repeat (walk_at "b"; walk_at "v"; (fail_if_success (with_reducible show wpAny _ _ (compareOp CmpOp.In (Value.ref _) (Value.ref _)) _ _ _)); (first | walk1 | (dsimp only; walk1))))
set_option hygiene false in
local macro_rules | `(tactic| walk_at "g10") => `(tactic| repeat (walk_at "b"; walk_at "B"; walk_at "V"; (first | walk1 | (dsimp only; walk1))))
set_option hygiene false in
local macro_rules | `(tactic| walk_at "g11") => `(tactic| repeat (walk_at "b"; walk_at "B"; walk_at "V"; (fail_if_success (with_reducible (first | show wpAny _ _ (compareOp CmpOp.NotEq (Value.ref _) (Value.ref _)) _ _ _ | show wpAny _ _ (compareOp CmpOp.NotEq (Value.bool _) (Value.bool _)) _ _ _))); (first | walk1 | (dsimp only; walk1))))
set_option hygiene false in
local macro_rules | `(tactic| walk_at "g12") => `(tactic| repeat (walk_at "b"; walk_at "B"; walk_at "V"; (fail_if_success (with_reducible show wpAny _ _ (compareOp CmpOp.NotEq (Value.ref _) (Value.ref _)) _ _ _)); (first | walk1 | (dsimp only; walk1))))
set_option hygiene false in
local macro_rules | `(tactic| walk_at "g13") => `(tactic| repeat (walk_at "b"; walk_at "B"; walk_at "V"; (fail_if_success (with_reducible (first | show wpAny _ _ (exec (Stmt.Assign [Expr.Name _ _] (Expr.ListComp _ _ _ _) _) _) _ _ _ | show wpAny _ _ (compareOp CmpOp.NotEq (Value.ref _) (Value.ref _)) _ _ _ | show wpAny _ _ (compareOp CmpOp.NotEq (Value.bool _) (Value.bool _)) _ _ _))); (first | walk1 | (dsimp only; walk1))))
set_option hygiene false in
local macro_rules | `(tactic| walk_at "q") => `(tactic| repeat ((fail_if_success (with_reducible show wpAny _ _ (eval (Expr.Call (Expr.Attribute _ _ _) _ _ _) _) _ _ _)); (first | walk1 | (dsimp only; walk1))))
set_option hygiene false in
local macro_rules | `(tactic| walk_at "Q") => `(tactic| repeat ((fail_if_success (with_reducible show wpAny _ _ (callWith _ (Value.ref _) _ _ _) _ _ _)); (first | walk1 | (dsimp only; walk1))))
set_option hygiene false in
local macro_rules | `(tactic| walk_at "t") => `(tactic| first | assumption | exact List.mem_append_left _ (by assumption) | (refine .tail _ ?_; walk_at "t"))
set_option hygiene false in
local macro_rules | `(tactic| walk_at "h") => `(tactic| (intro p hp; walk_at "t"))
set_option hygiene false in
local macro_rules | `(tactic| walk_at "T") => `(tactic| first | assumption | (refine .tail _ ?_; walk_at "T"))
set_option hygiene false in
local macro_rules | `(tactic| walk_at "H") => `(tactic| (intro p hp; first | exact absurd hp List.not_mem_nil | walk_at "T"))
set_option hygiene false in
local macro_rules | `(tactic| walk_at "w") => `(tactic| first | walk1 | (dsimp only; walk1))
set_option hygiene false in
local macro_rules | `(tactic| walk_at "b") => `(tactic| (fail_if_success (with_reducible (first | show Exists _ | show wpAny _ _ (call (Value.ref _) _) _ _ _ | show wpAny _ _ (compareOp CmpOp.NotIn _ _) _ _ _ | show wpAny _ _ (setItem _ _ _) _ _ _ | show wpAny _ _ (call (Value.builtin "dict.get") _) _ _ _ | show wpAny _ _ (getMethod (Value.ref _) (PySem.Str.ofString "get") _) _ _ _ | show wpAny _ _ (eval (Expr.ListComp _ _ _ _) _) _ _ _ | show wpAny _ _ (eval (Expr.GeneratorExp _ _ _ _) _) _ _ _))))
set_option hygiene false in
local macro_rules | `(tactic| walk_at "n") => `(tactic| first | exact .head _ | (refine .tail _ ?_; walk_at "n"))
set_option hygiene false in
local macro_rules | `(tactic| walk_at "B") => `(tactic| (fail_if_success (with_reducible (first | show wpAny _ _ (binaryOp Operator.Add (Value.ref _) (Value.ref _)) _ _ _ | show wpAny _ _ (pyIter _) _ _ _ | show wpAny _ _ (exec (Stmt.For _ _ _ _ _) _) _ _ _))))
set_option hygiene false in
local macro_rules | `(tactic| walk_at "v") => `(tactic| (fail_if_success (with_reducible (first | show wpAny _ _ (callWith _ _ _ (backTo _ (starEach [Expr.Starred _ _] _)) []) _ _ _ | show StarOf _ _ _ _ _ _ | show wpAny _ _ (subscriptTail _ _ _ _) _ _ _))))
set_option hygiene false in
local macro_rules | `(tactic| walk_at "V") => `(tactic| (fail_if_success (with_reducible (first | show wpAny _ _ (compareOp CmpOp.In (Value.str _ _) (Value.ref _)) _ _ _ | show wpAny _ _ (call (Value.builtin "list.append") _) _ _ _ | show wpAny _ _ (call (Value.builtin "list.remove") _) _ _ _ | show wpAny _ _ (callWith _ _ _ (backTo _ (starEach [Expr.Starred _ _] _)) []) _ _ _ | show StarOf _ _ _ _ _ _ | show wpAny _ _ (subscriptTail _ _ _ _) _ _ _))))
set_option hygiene false in
local macro_rules | `(tactic| walk_at "u") => `(tactic| (fail_if_success (with_reducible (first | show wpAny _ _ (call (Value.builtin "list.append") _) _ _ _ | show wpAny _ _ (call (Value.builtin "list.remove") _) _ _ _ | show wpAny _ _ (callWith _ _ _ (backTo _ (starEach [Expr.Starred _ _] _)) []) _ _ _ | show StarOf _ _ _ _ _ _ | show wpAny _ _ (subscriptTail _ _ _ _) _ _ _))))
section
theorem Ob11 {α : Type} {p : α → Prop} {P : Prop} (h : ∃ a, p a) (k : ∀ a, p a → P) : P := h.elim fun a h => k a h
theorem Ob12 {α : Type} {p q : α → Prop} {P : Prop} (h : ∃ a, p a ∧ q a) (k : ∀ a, p a → q a → P) : P := h.elim fun a h => k a h.1 h.2
theorem Ob22 {α β : Type} {p q : α → β → Prop} {P : Prop} (h : ∃ a b, p a b ∧ q a b) (k : ∀ a b, p a b → q a b → P) : P := h.elim fun a h => h.elim fun b h => k a b h.1 h.2
theorem Ob23 {α β : Type} {p q r : α → β → Prop} {P : Prop} (h : ∃ a b, p a b ∧ q a b ∧ r a b) (k : ∀ a b, p a b → q a b → r a b → P) : P := h.elim fun a h => h.elim fun b h => k a b h.1 h.2.1 h.2.2
theorem Ob24 {α β : Type} {p q r t : α → β → Prop} {P : Prop} (h : ∃ a b, p a b ∧ q a b ∧ r a b ∧ t a b) (k : ∀ a b, p a b → q a b → r a b → t a b → P) : P := h.elim fun a h => h.elim fun b h => k a b h.1 h.2.1 h.2.2.1 h.2.2.2
theorem Ob32 {α β γ : Type} {p q : α → β → γ → Prop} {P : Prop} (h : ∃ a b c, p a b c ∧ q a b c) (k : ∀ a b c, p a b c → q a b c → P) : P := h.elim fun a h => h.elim fun b h => h.elim fun c h => k a b c h.1 h.2
theorem Ob33 {α β γ : Type} {p q r : α → β → γ → Prop} {P : Prop} (h : ∃ a b c, p a b c ∧ q a b c ∧ r a b c) (k : ∀ a b c, p a b c → q a b c → r a b c → P) : P := h.elim fun a h => h.elim fun b h => h.elim fun c h => k a b c h.1 h.2.1 h.2.2
theorem Ob44 {α β γ δ : Type} {p q r t : α → β → γ → δ → Prop} {P : Prop} (h : ∃ a b c d, p a b c d ∧ q a b c d ∧ r a b c d ∧ t a b c d) (k : ∀ a b c d, p a b c d → q a b c d → r a b c d → t a b c d → P) : P := h.elim fun a h => h.elim fun b h => h.elim fun c h => h.elim fun d h => k a b c d h.1 h.2.1 h.2.2.1 h.2.2.2
theorem Ob61 {α : Type} {p : α → α → α → α → α → α → Prop} {P : Prop} (h : ∃ a b c d f g, p a b c d f g) (k : ∀ a b c d f g, p a b c d f g → P) : P := h.elim fun a h => h.elim fun b h => h.elim fun c h => h.elim fun d h => h.elim fun f h => h.elim fun g h => k a b c d f g h
theorem Ob04 {p q r t P : Prop} (h : p ∧ q ∧ r ∧ t) (k : p → q → r → t → P) : P := k h.1 h.2.1 h.2.2.1 h.2.2.2
theorem Ob13 {α : Type} {p q r : α → Prop} {P : Prop} (h : ∃ a, p a ∧ q a ∧ r a) (k : ∀ a, p a → q a → r a → P) : P := h.elim fun a h => k a h.1 h.2.1 h.2.2
theorem Ob14 {α : Type} {p q r t : α → Prop} {P : Prop} (h : ∃ a, p a ∧ q a ∧ r a ∧ t a) (k : ∀ a, p a → q a → r a → t a → P) : P := h.elim fun a h => k a h.1 h.2.1 h.2.2.1 h.2.2.2
theorem Ob21 {α β : Type} {p : α → β → Prop} {P : Prop} (h : ∃ a b, p a b) (k : ∀ a b, p a b → P) : P := h.elim fun a h => h.elim fun b h => k a b h
theorem Ob78 {A B C D F G H : Type} {p1 p2 p3 p4 p5 p6 p7 p8 : A → B → C → D → F → G → H → Prop} {P : Prop} (h : ∃ a b c d f g i, p1 a b c d f g i ∧ p2 a b c d f g i ∧ p3 a b c d f g i ∧ p4 a b c d f g i ∧ p5 a b c d f g i ∧ p6 a b c d f g i ∧ p7 a b c d f g i ∧ p8 a b c d f g i)
  (k : ∀ a b c d f g i, p1 a b c d f g i → p2 a b c d f g i → p3 a b c d f g i → p4 a b c d f g i → p5 a b c d f g i → p6 a b c d f g i → p7 a b c d f g i → p8 a b c d f g i → P) : P :=
  h.elim fun a h => h.elim fun b h => h.elim fun c h => h.elim fun d h => h.elim fun f h => h.elim fun g h => h.elim fun i h => k a b c d f g i h.1 h.2.1 h.2.2.1 h.2.2.2.1 h.2.2.2.2.1 h.2.2.2.2.2.1 h.2.2.2.2.2.2.1 h.2.2.2.2.2.2.2
theorem Ob67 {A B C D F G : Type} {p1 p2 p3 p4 p5 p6 p7 : A → B → C → D → F → G → Prop} {P : Prop} (h : ∃ a b c d f g, p1 a b c d f g ∧ p2 a b c d f g ∧ p3 a b c d f g ∧ p4 a b c d f g ∧ p5 a b c d f g ∧ p6 a b c d f g ∧ p7 a b c d f g)
  (k : ∀ a b c d f g, p1 a b c d f g → p2 a b c d f g → p3 a b c d f g → p4 a b c d f g → p5 a b c d f g → p6 a b c d f g → p7 a b c d f g → P) : P :=
  h.elim fun a h => h.elim fun b h => h.elim fun c h => h.elim fun d h => h.elim fun f h => h.elim fun g h => k a b c d f g h.1 h.2.1 h.2.2.1 h.2.2.2.1 h.2.2.2.2.1 h.2.2.2.2.2.1 h.2.2.2.2.2.2
theorem Ob2_8 {α β : Type} {p1 p2 p3 p4 p5 p6 p7 p8 : α → β → Prop} {P : Prop} (h : ∃ a b, p1 a b ∧ p2 a b ∧ p3 a b ∧ p4 a b ∧ p5 a b ∧ p6 a b ∧ p7 a b ∧ p8 a b) (k : ∀ a b, p1 a b → p2 a b → p3 a b → p4 a b → p5 a b → p6 a b → p7 a b → p8 a b → P) : P :=
  h.elim fun a h => h.elim fun b h => k a b h.1 h.2.1 h.2.2.1 h.2.2.2.1 h.2.2.2.2.1 h.2.2.2.2.2.1 h.2.2.2.2.2.2.1 h.2.2.2.2.2.2.2
theorem Ob2_7 {α β : Type} {p1 p2 p3 p4 p5 p6 p7 : α → β → Prop} {P : Prop} (h : ∃ a b, p1 a b ∧ p2 a b ∧ p3 a b ∧ p4 a b ∧ p5 a b ∧ p6 a b ∧ p7 a b) (k : ∀ a b, p1 a b → p2 a b → p3 a b → p4 a b → p5 a b → p6 a b → p7 a b → P) : P :=
  h.elim fun a h => h.elim fun b h => k a b h.1 h.2.1 h.2.2.1 h.2.2.2.1 h.2.2.2.2.1 h.2.2.2.2.2.1 h.2.2.2.2.2.2
theorem Ob3_6 {α β γ : Type} {p1 p2 p3 p4 p5 p6 : α → β → γ → Prop} {P : Prop} (h : ∃ a b c, p1 a b c ∧ p2 a b c ∧ p3 a b c ∧ p4 a b c ∧ p5 a b c ∧ p6 a b c) (k : ∀ a b c, p1 a b c → p2 a b c → p3 a b c → p4 a b c → p5 a b c → p6 a b c → P) : P :=
  h.elim fun a h => h.elim fun b h => h.elim fun c h => k a b c h.1 h.2.1 h.2.2.1 h.2.2.2.1 h.2.2.2.2.1 h.2.2.2.2.2
theorem Ob2_5 {α β : Type} {p1 p2 p3 p4 p5 : α → β → Prop} {P : Prop} (h : ∃ a b, p1 a b ∧ p2 a b ∧ p3 a b ∧ p4 a b ∧ p5 a b) (k : ∀ a b, p1 a b → p2 a b → p3 a b → p4 a b → p5 a b → P) : P :=
  h.elim fun a h => h.elim fun b h => k a b h.1 h.2.1 h.2.2.1 h.2.2.2.1 h.2.2.2.2
theorem Ob4_11 {α β γ δ : Type} {p1 p2 p3 p4 p5 p6 p7 p8 p9 p10 p11 : α → β → γ → δ → Prop} {P : Prop} (h : ∃ a b c d, p1 a b c d ∧ p2 a b c d ∧ p3 a b c d ∧ p4 a b c d ∧ p5 a b c d ∧ p6 a b c d ∧ p7 a b c d ∧ p8 a b c d ∧ p9 a b c d ∧ p10 a b c d ∧ p11 a b c d) (k : ∀ a b c d, p1 a b c d → p2 a b c d → p3 a b c d → p4 a b c d → p5 a b c d → p6 a b c d → p7 a b c d → p8 a b c d → p9 a b c d → p10 a b c d → p11 a b c d → P) : P :=
  h.elim fun a h => h.elim fun b h => h.elim fun c h => h.elim fun d h => k a b c d h.1 h.2.1 h.2.2.1 h.2.2.2.1 h.2.2.2.2.1 h.2.2.2.2.2.1 h.2.2.2.2.2.2.1 h.2.2.2.2.2.2.2.1 h.2.2.2.2.2.2.2.2.1 h.2.2.2.2.2.2.2.2.2.1 h.2.2.2.2.2.2.2.2.2.2
theorem Ob4_10 {α β γ δ : Type} {p1 p2 p3 p4 p5 p6 p7 p8 p9 p10 : α → β → γ → δ → Prop} {P : Prop} (h : ∃ a b c d, p1 a b c d ∧ p2 a b c d ∧ p3 a b c d ∧ p4 a b c d ∧ p5 a b c d ∧ p6 a b c d ∧ p7 a b c d ∧ p8 a b c d ∧ p9 a b c d ∧ p10 a b c d) (k : ∀ a b c d, p1 a b c d → p2 a b c d → p3 a b c d → p4 a b c d → p5 a b c d → p6 a b c d → p7 a b c d → p8 a b c d → p9 a b c d → p10 a b c d → P) : P :=
  h.elim fun a h => h.elim fun b h => h.elim fun c h => h.elim fun d h => k a b c d h.1 h.2.1 h.2.2.1 h.2.2.2.1 h.2.2.2.2.1 h.2.2.2.2.2.1 h.2.2.2.2.2.2.1 h.2.2.2.2.2.2.2.1 h.2.2.2.2.2.2.2.2.1 h.2.2.2.2.2.2.2.2.2
theorem le3c {α : Type} : ∀ {ws : List α}, ws.length ≤ 3 → ws = [] ∨ (∃ a, ws = [a]) ∨ (∃ a b, ws = [a, b]) ∨ ∃ a b c, ws = [a, b, c]
  | [], _ => .inl rfl
  | [a], _ => .inr (.inl ⟨a, rfl⟩)
  | [a, b], _ => .inr (.inr (.inl ⟨a, b, rfl⟩))
  | [a, b, c], _ => .inr (.inr (.inr ⟨a, b, c, rfl⟩))
  | _ :: _ :: _ :: _ :: l, h => absurd h (Nat.not_le_of_gt (Nat.le_add_left 4 l.length))
theorem hideE {M : Model} {A₁ : Around} {α : Type} {t : Sem α} {Q : α → Shared → Prop} {E : Value → Shared → Prop} {s : Shared} (h : ∀ E' : Value → Shared → Prop, wpAny M A₁ t Q E' s) : wpAny M A₁ t Q E s := h E
theorem hideQ {M : Model} {A₁ : Around} {α : Type} {t : Sem α} {Q : α → Shared → Prop} {E : Value → Shared → Prop} {s : Shared} (h : ∀ Q' : α → Shared → Prop, (∀ f s, Q f s → Q' f s) → wpAny M A₁ t Q' E s) : wpAny M A₁ t Q E s := h Q fun _ _ x => x
theorem neL {α : Type} {y : α} {l : List α} (h : ∀ z ∈ l, y ≠ z) : y ∉ l := fun q => h y q rfl
theorem room0 {d r n : Nat} (h : d + r < n) : d < n := Nat.lt_of_le_of_lt (Nat.le_add_right _ _) h
theorem roomS {d r k n : Nat} (h : d + r < n) (e : k ≤ r := by decide) : d + k < n := Nat.lt_of_le_of_lt (Nat.add_le_add_left e _) h
theorem roomD {d r k n : Nat} (h : d + r < n) (e : 1 + k ≤ r := by decide) : d + 1 + k < n := by rw [Nat.add_assoc]; exact roomS h e
theorem roomU {d r k n : Nat} (h : d + r < n) (e : 3 + k ≤ r := by decide) : d + 3 + k < n := by rw [Nat.add_assoc]; exact roomS h e
theorem allNil {α : Type} {P : α → Prop} : ∀ p ∈ ([] : List α), P p := fun _ q => nomatch q
theorem allCons {α : Type} {P : α → Prop} {a : α} {l : List α} (h : P a) (t : ∀ p ∈ l, P p) : ∀ p ∈ a :: l, P p := List.forall_mem_cons.mpr ⟨h, t⟩
section
variable {prog : Program} {w : World} {A : Around} {E : Value → Shared → Prop} {s : Shared}
theorem typeCall_list_0 : checkTypeCall "list" ⟨[], []⟩ = pure () := by rewrite [PySem.W.Fast.te11612656972197000677]; kernel_rfl
theorem newCall_list_0 : checkBuiltinCall "list.__new__" ⟨[.type "list"], []⟩ = pure () := by rewrite [PySem.W.Fast.te10254737850608025244]; kernel_rfl
theorem typeCall_dict_0 : checkTypeCall "dict" ⟨[], []⟩ = pure () := by rewrite [PySem.W.Fast.te11612656972197000677]; kernel_rfl
theorem newCall_dict_0 : checkBuiltinCall "dict.__new__" ⟨[.type "dict"], []⟩ = pure () := by rewrite [PySem.W.Fast.te10254737850608025244]; kernel_rfl
theorem code_list_new0 {Q₁ : Value → Shared → Prop}
    (h : Q₁ (.ref s.heap.objs.size) { s with heap := s.heap.push { cls := .type "list", data := .seq #[] } }) :
    codeAny (model prog w) A (.call (.builtin "list.__new__") ⟨[.type "list"], []⟩) (wants Q₁ E) s := by
  refine codeAny_of_tree ?_
  show wpAny _ A.in1 (do checkBuiltinCall "list.__new__" ⟨[.type "list"], []⟩; again (.builtin "list.__new__" ⟨[.type "list"], []⟩)) _ _ s
  refine wpAny_bind (wpAny_of_eq newCall_list_0 (wpAny_pure ⟨plainId_quiet F.plain_list_new _, codeAny_builtin_stack F.entry_list_new rfl fun p st => ?_⟩))
  rw [Around.under_plainId F.plain_list_new _]
  have hsub := sub_list_self
  have hown := owner_list_new
  obtain ⟨hp, g, d, tk, os⟩ := s
  simp only [hown]
  wp_walk
  exact h
theorem call_list0 {Q : Value → Shared → Prop}
    (h : ∀ h', Heap.SameBut s.heap.objs.size (s.heap.push { cls := .type "list", data := .seq #[] }) h' → h'.get? s.heap.objs.size = some { cls := .type "list", data := .seq #[] } → Q (.ref s.heap.objs.size) { s with heap := h' }) :
    wpAny (model prog w) A (call (.type "list") []) Q E s := by
  refine callType_codes (Q₁ := fun obj s₁ => obj = .ref s.heap.objs.size ∧ s₁ = { s with heap := s.heap.push { cls := .type "list", data := .seq #[] } }) F.called_list typeCall_list_0 F.entry_list_init
    (code_list_new0 ⟨rfl, rfl⟩) fun obj s₁ h₁ => ?_
  obtain ⟨rfl, rfl⟩ := h₁
  have hS : (s.heap.push { cls := .type "list", data := .seq #[] }).get? s.heap.objs.size = some { cls := .type "list", data := .seq #[] } := Heap.get?_push_size _ rfl
  refine ⟨⟨_, hS, rfl⟩, F.args_list_init_1 _, ?_⟩
  show wpAny _ A.in1.in1 (do let old ← Builtin.List.listItems (.ref s.heap.objs.size); Builtin.List.listUpdate (.ref s.heap.objs.size) (fun _ => #[]); letGo old.toList.reverse; ret .none) _ _ _
  refine wpAny_bind ?_
  unfold Builtin.List.listItems
  refine wpAny_bind (wpAny_seqItems hS rfl (wpAny_pure ?_))
  show wpAny _ _ (updateSeq s.heap.objs.size (fun _ => #[]) >>= fun _ => letGo (#[] : Array Value).toList.reverse >>= fun _ => ret .none) _ _ _
  refine wpAny_bind (wpAny_updateSeq hS rfl ?_)
  have hS₂ := Heap.get?_update_self (Obj.mapSeq (fun _ => (#[] : Array Value))) hS rfl
  refine wpAny_bind (wpAny_letGo ?_)
  refine wpAny_pure ?_
  exact ⟨rfl, h _ (Heap.SameBut.update ..) hS₂⟩
theorem code_dict_new0 {Q₁ : Value → Shared → Prop} (h : Q₁ (.ref s.heap.objs.size) { s with heap := s.heap.push { cls := .type "dict", data := .dict #[] } }) :
    codeAny (model prog w) A (.call (.builtin "dict.__new__") ⟨[.type "dict"], []⟩) (wants Q₁ E) s := by
  refine codeAny_call_builtin F.kt_plain_dict_new F.kt_entry_dict_new (wpAny_of_eq newCall_dict_0 ?_)
  have hsub := F.kt_sub_dict
  have hmro := F.kt_mro_dict
  obtain ⟨hp, g, d, tk, os⟩ := s
  unfold Builtin.«dict.__new__»
  wp_walk
  exact h
theorem call_dict0 {Q : Value → Shared → Prop} (h : Q (.ref s.heap.objs.size) { s with heap := s.heap.push { cls := .type "dict", data := .dict #[] } }) :
    wpAny (model prog w) A (call (.type "dict") []) Q E s := by
  refine callType_codes (Q₁ := fun obj s₁ => obj = .ref s.heap.objs.size ∧ s₁ = { s with heap := s.heap.push { cls := .type "dict", data := .dict #[] } }) F.kt_called_dict typeCall_dict_0 F.entry_dict_init (code_dict_new0 ⟨rfl, rfl⟩) ?_
  rintro obj s₁ ⟨rfl, rfl⟩
  have hS : (s.heap.push { cls := .type "dict", data := .dict #[] }).get? s.heap.objs.size = some { cls := .type "dict", data := .dict #[] } := Heap.get?_push_size _ rfl
  refine ⟨⟨_, hS, rfl⟩, F.args_dict_init_1 _, ?_⟩
  unfold Builtin.«dict.__init__»
  refine wpAny_bind ?_
  unfold Builtin.Dict.selfAndRest
  refine wpAny_bind (wpAny_notOrdered_dict ⟨_, hS, rfl⟩ ?_)
  refine wpAny_pure ?_
  show wpAny _ _ (Builtin.Dict.addKeywords s.heap.objs.size [] >>= fun _ => ret .none) _ _ _
  unfold Builtin.Dict.addKeywords
  refine wpAny_bind ?_
  refine wpAny_bind ?_
  refine wpAny_pure (wpAny_pure (wpAny_pure ?_))
  exact ⟨rfl, h⟩
end
section
variable {prog : Program} {w : World} {A : Around} {E : Value → Shared → Prop} {s : Shared} {h₀ : Heap} {L : Addr} {m : Str → Option Value} {news : List (Addr × Obj)}
theorem list0_N {Q : Value → Shared → Prop} (F : Fr h₀ L s.heap m) (N : News h₀ L s.heap news)
    (h : ∀ l h', Fr h₀ L h' m → News h₀ L h' ((l, listOf #[] 0) :: news) → (∀ p ∈ news, p.1 < l) → Q (.ref l) { s with heap := h' }) : wpAny (model prog w) A (call (.type "list") []) Q E s := by
  refine call_list0 fun h' hs hg => ?_
  have F' := F.push (PySem.W.listOf #[] 0)
  have N' := N.push F (PySem.W.listOf #[] 0)
  have hD : s.heap.objs.size ≠ L := (N' _ (List.mem_cons_self)).2.1
  have hn : h₀.get? s.heap.objs.size = none := (N' _ (List.mem_cons_self)).2.2
  refine h _ h' ⟨F'.ns.sameBut hs (Ne.symm hD), fun b o e => (hs.2 b (fun q => by rw [q, hn] at e; cases e)).trans (F'.keep b o e), F.above⟩ (fun p hp => ?_) (fun p hp => Heap.lt_size (N p hp).1)
  rcases List.mem_cons.mp hp with rfl | hp
  · exact ⟨hg, hD, hn⟩
  · have z := N' p (List.mem_cons_of_mem _ hp)
    exact ⟨(hs.2 _ (Nat.ne_of_lt (Heap.lt_size (N p hp).1))).trans z.1, z.2⟩
theorem dict0_N {Q : Value → Shared → Prop} (F : Fr h₀ L s.heap m) (N : News h₀ L s.heap news)
    (h : ∀ l h', Fr h₀ L h' m → News h₀ L h' ((l, dictOf [] 0) :: news) → (∀ p ∈ news, p.1 < l) → Q (.ref l) { s with heap := h' }) : wpAny (model prog w) A (call (.type "dict") []) Q E s :=
  call_dict0 (h _ _ (F.push _) (N.push F _) fun p hp => Heap.lt_size (N p hp).1)
end
end
section
noncomputable section
noncomputable abbrev s (x : String) (t : Nat) : Value := .str (PySem.Str.ofString x) t
noncomputable abbrev r (a : Nat) : Value := .ref a
noncomputable abbrev b (x : String) : Value := .builtin x
noncomputable abbrev N : Value := .none
noncomputable abbrev S (x : String) : PySem.Str := PySem.Str.ofString x
noncomputable abbrev e (P : Params) (k : String) (t : Nat) (v : Value) : DictEntry := ⟨PyData.keyHash P (PySem.Str.ofString k), .str (PySem.Str.ofString k) t, v⟩
noncomputable abbrev L (l : List Value) : Array Value := l.toArray
noncomputable abbrev E (l : List DictEntry) : Array DictEntry := l.toArray
noncomputable abbrev O (l : List (Option Value)) : Array (Option Value) := l.toArray
noncomputable def F (i : Nat) : Stmt := pw_ae0023_01.main.body.getD i default
noncomputable def G (i j : Nat) : Stmt := match F i with
  | .ClassDef _ _ _ x _ _ _ _ _ _ _ => x.getD j default
  | _ => default
noncomputable def fd (st : Stmt) (qual : String) (globals : Addr) (closure : List (PySem.Str × Addr)) (dV kV doc pm : Value) (an : Option Addr) (cdv ct : Value) (bl : Addr) : FuncData := match st with
  | .FunctionDef name args body _ _ _ scope _ _ _ => { name, qualname := S qual, params := args, body := .stmts body, scope, globals, closure, defaults := dV, kwdefaults := kV, doc, pyModule := pm, annotations := an, code := cdv, closureTuple := ct, builtins := bl }
  | _ => default
noncomputable abbrev n : BT := .nil
noncomputable abbrev f (o : Obj) : BT := .node o .nil .nil
noncomputable abbrev m (o : Obj) (x y : BT) : BT := .node o x y
noncomputable abbrev j (x : Int) : Value := .int x 0
noncomputable abbrev cp (t : Nat) : Value := s "/claim/cut.py" t
noncomputable abbrev tO (l : List Value) : Obj := ⟨(.type "tuple"), none, (.seq (L l) 0), O []⟩
noncomputable abbrev cO (l : List Value) : Obj := ⟨(.type "code"), none, (.fields (L l)), O []⟩
noncomputable abbrev vO (l : List Value) : Obj := ⟨N, none, (.fields (L l)), O []⟩
noncomputable abbrev gO (st : Stmt) (q : String) : Obj := ⟨N, none, (.func (fd st q 0 [] N N N N none N N 0)), O []⟩
noncomputable abbrev fO (st : Stmt) (q : String) (m : Value) (c : Nat) : Obj := ⟨(.type "function"), none, (.func (fd st q 3 [] N N N m none (r c) N 0)), O []⟩
noncomputable abbrev dO (l : List DictEntry) (n : Nat) : Obj := ⟨(.type "dict"), none, (.dict (E l) n), O []⟩
noncomputable abbrev o11 := tO []
noncomputable abbrev o12 := vO []
noncomputable abbrev o13 := cO [(s "<module>" 182), (s "<module>" 183), (cp 184), (j 1), (j 0), (j 0), (j 0), (j 0), (r 11), (.bool false), (j 181), (r 12), N, N, N, N, (j 185), (j 1), (cp 186)]
noncomputable abbrev o14 : Obj := ⟨(.type "frame"), none, .plain, O [(some (r 13)), (some (r 3)), (some (r 3)), none, (some (s "__main__" 164)), none, (some (r 0))]⟩
noncomputable abbrev TB (P : Params) : BT := (m (boot_o_0 P) (m (boot_o_1 P) (m (boot_o_3 P) (f (boot_o_7 P)) (f o11)) (m (boot_o_5 P) (f (boot_o_9 P)) (f o13))) (m (boot_o_2 P) (m (boot_o_4 P) (f (boot_o_8 P)) (f o12)) (m (boot_o_6 P) (f (boot_o_10 P)) (f o14))))
noncomputable abbrev o3x9 (P : Params) := dO [e P "__name__" 165 (s "enum" 338), e P "__doc__" 166 N, e P "__package__" 167 N, e P "__loader__" 168 (b "__main__.__loader__#opaque"), e P "__spec__" 169 N, e P "__annotations__" 170 (r 6), e P "__builtins__" 171 (r 4), e P "__file__" 173 (cp 172), e P "__cached__" 174 N, e P "_wall" 193 (r 21), e P "RoleManager" 277 (r 80), e P "RoleManager_role_manager" 278 (r 80), e P "ConditionalRoleManager" 336 (r 122), e P "ConditionalRoleManager_role_manager" 337 (r 122), e P "_OWN_NAMES" 345 (r 125), e P "mappingproxy" 553 (r 306), e P "_MEMBERS_VIEW" 554 (r 306)] 17
noncomputable abbrev o12x9 := vO [(j 1), (j 0), (r 20), (j 5), (j 0), (r 27), (j 28), (j 0), (r 90), (j 44), (j 0), (r 131)]
noncomputable abbrev o17 := tO [(s "k" 190)]
noncomputable abbrev o19 := gO (F 0) "_wall"
noncomputable abbrev o20 := cO [(s "_wall" 187), (s "_wall" 188), (cp 189), (j 1), (j 1), (j 0), (j 0), (j 3), (r 15), (.bool true), (j 181), (r 16), N, (r 17), (r 18), (r 19), (j 191), (j 1), (cp 192)]
noncomputable abbrev o21 := fO (F 0) "_wall" (s "__main__" 164) 20
noncomputable abbrev o23 : Obj := ⟨(.type "builtin_function_or_method"), none, (.fields (L [(b "type.__prepare__"), (.type "type")])), O []⟩
noncomputable abbrev o24 (P : Params) := dO [e P "__module__" 203 (s "casbin.rbac.role_manager" 194), e P "__qualname__" 205 (s "RoleManager" 204), e P "__firstlineno__" 207 (.int 5 206), e P "clear" 214 (r 35), e P "add_link" 224 (r 42), e P "delete_link" 234 (r 49), e P "has_link" 244 (r 56), e P "get_roles" 253 (r 63), e P "get_users" 262 (r 70), e P "print_roles" 269 (r 77), e P "__static_attributes__" 270 (r 78)] 11
noncomputable abbrev o26 := vO [(j 7), (j 4), (r 34), (j 10), (j 4), (r 41), (j 13), (j 4), (r 48), (j 16), (j 4), (r 55), (j 19), (j 4), (r 62), (j 22), (j 4), (r 69), (j 25), (j 4), (r 76)]
noncomputable abbrev o27 := cO [(s "RoleManager" 198), (s "RoleManager" 199), (cp 200), (j 5), (j 0), (j 0), (j 0), (j 0), (r 25), (.bool false), (j 181), (r 26), N, N, N, N, (j 201), (j 5), (cp 202)]
noncomputable abbrev o28 : Obj := ⟨(.type "frame"), none, .plain, O [(some (r 27)), (some (r 3)), (some (r 24)), none, (some (s "casbin.rbac.role_manager" 194)), none, (some (r 0))]⟩
noncomputable abbrev o31 := tO [(s "self" 211)]
noncomputable abbrev o33 := gO (G 2 0) "RoleManager.clear"
noncomputable abbrev o34 := cO [(s "clear" 208), (s "RoleManager.clear" 209), (cp 210), (j 7), (j 1), (j 0), (j 0), (j 3), (r 29), (.bool true), (j 181), (r 30), N, (r 31), (r 32), (r 33), (j 212), (j 7), (cp 213)]
noncomputable abbrev o35 := fO (G 2 0) "RoleManager.clear" (s "casbin.rbac.role_manager" 194) 34
noncomputable abbrev o38 := tO [(s "self" 218), (s "name1" 219), (s "name2" 220), (s "domain" 221)]
noncomputable abbrev o40 := gO (G 2 1) "RoleManager.add_link"
noncomputable abbrev o41 := cO [(s "add_link" 215), (s "RoleManager.add_link" 216), (cp 217), (j 10), (j 3), (j 0), (j 0), (j 7), (r 36), (.bool true), (j 181), (r 37), N, (r 38), (r 39), (r 40), (j 222), (j 10), (cp 223)]
noncomputable abbrev o42 := fO (G 2 1) "RoleManager.add_link" (s "casbin.rbac.role_manager" 194) 41
noncomputable abbrev o45 := tO [(s "self" 228), (s "name1" 229), (s "name2" 230), (s "domain" 231)]
noncomputable abbrev o47 := gO (G 2 2) "RoleManager.delete_link"
noncomputable abbrev o48 := cO [(s "delete_link" 225), (s "RoleManager.delete_link" 226), (cp 227), (j 13), (j 3), (j 0), (j 0), (j 7), (r 43), (.bool true), (j 181), (r 44), N, (r 45), (r 46), (r 47), (j 232), (j 13), (cp 233)]
noncomputable abbrev o49 := fO (G 2 2) "RoleManager.delete_link" (s "casbin.rbac.role_manager" 194) 48
noncomputable abbrev o52 := tO [(s "self" 238), (s "name1" 239), (s "name2" 240), (s "domain" 241)]
noncomputable abbrev o54 := gO (G 2 3) "RoleManager.has_link"
noncomputable abbrev o55 := cO [(s "has_link" 235), (s "RoleManager.has_link" 236), (cp 237), (j 16), (j 3), (j 0), (j 0), (j 7), (r 50), (.bool true), (j 181), (r 51), N, (r 52), (r 53), (r 54), (j 242), (j 16), (cp 243)]
noncomputable abbrev o56 := fO (G 2 3) "RoleManager.has_link" (s "casbin.rbac.role_manager" 194) 55
noncomputable abbrev o59 := tO [(s "self" 248), (s "name" 249), (s "domain" 250)]
noncomputable abbrev o61 := gO (G 2 4) "RoleManager.get_roles"
noncomputable abbrev o62 := cO [(s "get_roles" 245), (s "RoleManager.get_roles" 246), (cp 247), (j 19), (j 2), (j 0), (j 0), (j 7), (r 57), (.bool true), (j 181), (r 58), N, (r 59), (r 60), (r 61), (j 251), (j 19), (cp 252)]
noncomputable abbrev o63 := fO (G 2 4) "RoleManager.get_roles" (s "casbin.rbac.role_manager" 194) 62
noncomputable abbrev o66 := tO [(s "self" 257), (s "name" 258), (s "domain" 259)]
noncomputable abbrev o68 := gO (G 2 5) "RoleManager.get_users"
noncomputable abbrev o69 := cO [(s "get_users" 254), (s "RoleManager.get_users" 255), (cp 256), (j 22), (j 2), (j 0), (j 0), (j 7), (r 64), (.bool true), (j 181), (r 65), N, (r 66), (r 67), (r 68), (j 260), (j 22), (cp 261)]
noncomputable abbrev o70 := fO (G 2 5) "RoleManager.get_users" (s "casbin.rbac.role_manager" 194) 69
noncomputable abbrev o73 := tO [(s "self" 266)]
noncomputable abbrev o75 := gO (G 2 6) "RoleManager.print_roles"
noncomputable abbrev o76 := cO [(s "print_roles" 263), (s "RoleManager.print_roles" 264), (cp 265), (j 25), (j 1), (j 0), (j 0), (j 3), (r 71), (.bool true), (j 181), (r 72), N, (r 73), (r 74), (r 75), (j 267), (j 25), (cp 268)]
noncomputable abbrev o77 := fO (G 2 6) "RoleManager.print_roles" (s "casbin.rbac.role_manager" 194) 76
noncomputable abbrev o79 (P : Params) := dO [e P "__module__" 203 (s "casbin.rbac.role_manager" 194), e P "__firstlineno__" 207 (.int 5 206), e P "clear" 214 (r 35), e P "add_link" 224 (r 42), e P "delete_link" 234 (r 49), e P "has_link" 244 (r 56), e P "get_roles" 253 (r 63), e P "get_users" 262 (r 70), e P "print_roles" 269 (r 77), e P "__static_attributes__" 270 (r 78), e P "__dict__" 272 (r 81), e P "__weakref__" 274 (r 82), e P "__doc__" 275 N] 4
noncomputable abbrev o80 : Obj := ⟨(.type "type"), none, (.cls { name := S "RoleManager", bases := [(.type "object")], mro := [(r 80), (.type "object")], ns := 79, qualname := S "RoleManager", hasDict := true, slotNames := [], subclasses := [(r 122)], abstract := false, collection := none, hasDel := false }), O [none, none, (some (s "RoleManager" 196)), (some (s "RoleManager" 204)), (some (b "object.__new__")), (some (.bool true))]⟩
noncomputable abbrev o81 : Obj := ⟨(.type "getset_descriptor"), none, (.fields (L [(s "__dict__" 271), (r 80), (b "function.__dict__"), (b "function.__dict__#set")])), O []⟩
noncomputable abbrev o82 : Obj := ⟨(.type "getset_descriptor"), none, (.fields (L [(s "__weakref__" 273), (r 80), (b "ExceptionGroup.__weakref__"), N])), O []⟩
noncomputable abbrev o83 : Obj := ⟨(.type "super"), none, (.fields (L [(r 80), (r 80), (r 80)])), O []⟩
noncomputable abbrev o84 : Obj := ⟨(.type "builtin_function_or_method"), none, (.fields (L [(b "object.__init_subclass__"), (r 80)])), O []⟩
noncomputable abbrev o85 := tO [(r 80)]
noncomputable abbrev o87 (P : Params) := dO [e P "__module__" 286 (s "casbin.rbac.role_manager" 194), e P "__qualname__" 288 (s "ConditionalRoleManager" 287), e P "__firstlineno__" 290 (.int 28 289), e P "add_link_condition_func" 300 (r 98), e P "set_link_condition_func_params" 310 (r 105), e P "add_domain_link_condition_func" 321 (r 112), e P "set_domain_link_condition_func_params" 332 (r 119), e P "__static_attributes__" 333 (r 120)] 8
noncomputable abbrev o89 := vO [(j 30), (j 4), (r 97), (j 33), (j 4), (r 104), (j 36), (j 4), (r 111), (j 39), (j 4), (r 118)]
noncomputable abbrev o90 := cO [(s "ConditionalRoleManager" 281), (s "ConditionalRoleManager" 282), (cp 283), (j 28), (j 0), (j 0), (j 0), (j 0), (r 88), (.bool false), (j 181), (r 89), N, N, N, N, (j 284), (j 28), (cp 285)]
noncomputable abbrev o91 : Obj := ⟨(.type "frame"), none, .plain, O [(some (r 90)), (some (r 3)), (some (r 87)), none, (some (s "casbin.rbac.role_manager" 194)), none, (some (r 0))]⟩
noncomputable abbrev o94 := tO [(s "self" 294), (s "user_name" 295), (s "role_name" 296), (s "fn" 297)]
noncomputable abbrev o96 := gO (G 4 0) "ConditionalRoleManager.add_link_condition_func"
noncomputable abbrev o97 := cO [(s "add_link_condition_func" 291), (s "ConditionalRoleManager.add_link_condition_func" 292), (cp 293), (j 30), (j 4), (j 0), (j 0), (j 3), (r 92), (.bool true), (j 181), (r 93), N, (r 94), (r 95), (r 96), (j 298), (j 30), (cp 299)]
noncomputable abbrev o98 := fO (G 4 0) "ConditionalRoleManager.add_link_condition_func" (s "casbin.rbac.role_manager" 194) 97
noncomputable abbrev o101 := tO [(s "self" 304), (s "user_name" 305), (s "role_name" 306), (s "params" 307)]
noncomputable abbrev o103 := gO (G 4 1) "ConditionalRoleManager.set_link_condition_func_params"
noncomputable abbrev o104 := cO [(s "set_link_condition_func_params" 301), (s "ConditionalRoleManager.set_link_condition_func_params" 302), (cp 303), (j 33), (j 3), (j 0), (j 0), (j 7), (r 99), (.bool true), (j 181), (r 100), N, (r 101), (r 102), (r 103), (j 308), (j 33), (cp 309)]
noncomputable abbrev o105 := fO (G 4 1) "ConditionalRoleManager.set_link_condition_func_params" (s "casbin.rbac.role_manager" 194) 104
noncomputable abbrev o108 := tO [(s "self" 314), (s "user" 315), (s "role" 316), (s "domain" 317), (s "fn" 318)]
noncomputable abbrev o110 := gO (G 4 2) "ConditionalRoleManager.add_domain_link_condition_func"
noncomputable abbrev o111 := cO [(s "add_domain_link_condition_func" 311), (s "ConditionalRoleManager.add_domain_link_condition_func" 312), (cp 313), (j 36), (j 5), (j 0), (j 0), (j 3), (r 106), (.bool true), (j 181), (r 107), N, (r 108), (r 109), (r 110), (j 319), (j 36), (cp 320)]
noncomputable abbrev o112 := fO (G 4 2) "ConditionalRoleManager.add_domain_link_condition_func" (s "casbin.rbac.role_manager" 194) 111
noncomputable abbrev o115 := tO [(s "self" 325), (s "user" 326), (s "role" 327), (s "domain" 328), (s "params" 329)]
noncomputable abbrev o117 := gO (G 4 3) "ConditionalRoleManager.set_domain_link_condition_func_params"
noncomputable abbrev o118 := cO [(s "set_domain_link_condition_func_params" 322), (s "ConditionalRoleManager.set_domain_link_condition_func_params" 323), (cp 324), (j 39), (j 4), (j 0), (j 0), (j 7), (r 113), (.bool true), (j 181), (r 114), N, (r 115), (r 116), (r 117), (j 330), (j 39), (cp 331)]
noncomputable abbrev o119 := fO (G 4 3) "ConditionalRoleManager.set_domain_link_condition_func_params" (s "casbin.rbac.role_manager" 194) 118
noncomputable abbrev o121 (P : Params) := dO [e P "__module__" 286 (s "casbin.rbac.role_manager" 194), e P "__firstlineno__" 290 (.int 28 289), e P "add_link_condition_func" 300 (r 98), e P "set_link_condition_func_params" 310 (r 105), e P "add_domain_link_condition_func" 321 (r 112), e P "set_domain_link_condition_func_params" 332 (r 119), e P "__static_attributes__" 333 (r 120), e P "__doc__" 334 N] 2
noncomputable abbrev o122 : Obj := ⟨(.type "type"), none, (.cls { name := S "ConditionalRoleManager", bases := [(r 80)], mro := [(r 122), (r 80), (.type "object")], ns := 121, qualname := S "ConditionalRoleManager", hasDict := true, slotNames := [], subclasses := [], abstract := false, collection := none, hasDel := false }), O [(some (r 85)), none, (some (s "ConditionalRoleManager" 279)), (some (s "ConditionalRoleManager" 287)), (some (b "object.__new__")), (some (.bool true))]⟩
noncomputable abbrev o123 : Obj := ⟨(.type "super"), none, (.fields (L [(r 122), (r 122), (r 122)])), O []⟩
noncomputable abbrev o124 : Obj := ⟨(.type "builtin_function_or_method"), none, (.fields (L [(b "object.__init_subclass__"), (r 122)])), O []⟩
noncomputable abbrev o125 := tO [(s "_written_out_" 340), (s "_is_flag_" 341), (s "_given_values_" 342), (s "_held_init_" 343), (s "_making_" 344)]
noncomputable abbrev o128 (P : Params) := dO [e P "__module__" 353 (s "builtins" 358), e P "__qualname__" 355 (s "mappingproxy" 354), e P "__firstlineno__" 357 (.int 44 356), e P "__slots__" 361 (r 133), e P "__new__" 370 (r 140), e P "__reduce_ex__" 378 (r 147), e P "__getitem__" 386 (r 154), e P "__len__" 393 (r 161), e P "__iter__" 400 (r 168), e P "__reversed__" 407 (r 175), e P "__contains__" 415 (r 182), e P "__repr__" 422 (r 189), e P "__str__" 429 (r 196), e P "__eq__" 437 (r 203), e P "__ne__" 445 (r 210), e P "__lt__" 453 (r 217), e P "__le__" 461 (r 224), e P "__gt__" 469 (r 231), e P "__ge__" 477 (r 238), e P "__hash__" 484 (r 245), e P "__or__" 492 (r 252), e P "__ror__" 500 (r 259), e P "__ior__" 508 (r 266), e P "get" 517 (r 274), e P "keys" 524 (r 281), e P "values" 531 (r 288), e P "items" 538 (r 295), e P "copy" 545 (r 302), e P "__static_attributes__" 547 (r 303)] 29
noncomputable abbrev o130 := vO [(j 48), (j 4), (r 139), (j 55), (j 4), (r 146), (j 58), (j 4), (r 153), (j 61), (j 4), (r 160), (j 64), (j 4), (r 167), (j 67), (j 4), (r 174), (j 70), (j 4), (r 181), (j 73), (j 4), (r 188), (j 76), (j 4), (r 195), (j 79), (j 4), (r 202), (j 82), (j 4), (r 209), (j 85), (j 4), (r 216), (j 88), (j 4), (r 223), (j 91), (j 4), (r 230), (j 94), (j 4), (r 237), (j 97), (j 4), (r 244), (j 100), (j 4), (r 251), (j 105), (j 4), (r 258), (j 108), (j 4), (r 265), (j 111), (j 4), (r 273), (j 114), (j 4), (r 280), (j 117), (j 4), (r 287), (j 120), (j 4), (r 294), (j 123), (j 4), (r 301)]
noncomputable abbrev o131 := cO [(s "mappingproxy" 348), (s "mappingproxy" 349), (cp 350), (j 44), (j 0), (j 0), (j 0), (j 0), (r 129), (.bool false), (j 181), (r 130), N, N, N, N, (j 351), (j 44), (cp 352)]
noncomputable abbrev o132 : Obj := ⟨(.type "frame"), none, .plain, O [(some (r 131)), (some (r 3)), (some (r 128)), none, (some (s "enum" 338)), none, (some (r 0))]⟩
noncomputable abbrev o133 := tO [(s "_mapping" 360)]
noncomputable abbrev o136 := tO [(s "cls" 365), (s "mapping" 366), (s "self" 367)]
noncomputable abbrev o138 := gO (G 8 2) "mappingproxy.__new__"
noncomputable abbrev o139 := cO [(s "__new__" 362), (s "mappingproxy.__new__" 363), (cp 364), (j 48), (j 2), (j 0), (j 0), (j 3), (r 134), (.bool true), (j 181), (r 135), N, (r 136), (r 137), (r 138), (j 368), (j 48), (cp 369)]
noncomputable abbrev o140 := fO (G 8 2) "mappingproxy.__new__" (s "enum" 338) 139
noncomputable abbrev o143 := tO [(s "self" 374), (s "protocol" 375)]
noncomputable abbrev o145 := gO (G 8 3) "mappingproxy.__reduce_ex__"
noncomputable abbrev o146 := cO [(s "__reduce_ex__" 371), (s "mappingproxy.__reduce_ex__" 372), (cp 373), (j 55), (j 2), (j 0), (j 0), (j 3), (r 141), (.bool true), (j 181), (r 142), N, (r 143), (r 144), (r 145), (j 376), (j 55), (cp 377)]
noncomputable abbrev o147 := fO (G 8 3) "mappingproxy.__reduce_ex__" (s "enum" 338) 146
noncomputable abbrev o150 := tO [(s "self" 382), (s "key" 383)]
noncomputable abbrev o152 := gO (G 8 4) "mappingproxy.__getitem__"
noncomputable abbrev o153 := cO [(s "__getitem__" 379), (s "mappingproxy.__getitem__" 380), (cp 381), (j 58), (j 2), (j 0), (j 0), (j 3), (r 148), (.bool true), (j 181), (r 149), N, (r 150), (r 151), (r 152), (j 384), (j 58), (cp 385)]
noncomputable abbrev o154 := fO (G 8 4) "mappingproxy.__getitem__" (s "enum" 338) 153
noncomputable abbrev o157 := tO [(s "self" 390)]
noncomputable abbrev o159 := gO (G 8 5) "mappingproxy.__len__"
noncomputable abbrev o160 := cO [(s "__len__" 387), (s "mappingproxy.__len__" 388), (cp 389), (j 61), (j 1), (j 0), (j 0), (j 3), (r 155), (.bool true), (j 181), (r 156), N, (r 157), (r 158), (r 159), (j 391), (j 61), (cp 392)]
noncomputable abbrev o161 := fO (G 8 5) "mappingproxy.__len__" (s "enum" 338) 160
noncomputable abbrev o164 := tO [(s "self" 397)]
noncomputable abbrev o166 := gO (G 8 6) "mappingproxy.__iter__"
noncomputable abbrev o167 := cO [(s "__iter__" 394), (s "mappingproxy.__iter__" 395), (cp 396), (j 64), (j 1), (j 0), (j 0), (j 3), (r 162), (.bool true), (j 181), (r 163), N, (r 164), (r 165), (r 166), (j 398), (j 64), (cp 399)]
noncomputable abbrev o168 := fO (G 8 6) "mappingproxy.__iter__" (s "enum" 338) 167
noncomputable abbrev o171 := tO [(s "self" 404)]
noncomputable abbrev o173 := gO (G 8 7) "mappingproxy.__reversed__"
noncomputable abbrev o174 := cO [(s "__reversed__" 401), (s "mappingproxy.__reversed__" 402), (cp 403), (j 67), (j 1), (j 0), (j 0), (j 3), (r 169), (.bool true), (j 181), (r 170), N, (r 171), (r 172), (r 173), (j 405), (j 67), (cp 406)]
noncomputable abbrev o175 := fO (G 8 7) "mappingproxy.__reversed__" (s "enum" 338) 174
noncomputable abbrev o178 := tO [(s "self" 411), (s "key" 412)]
noncomputable abbrev o180 := gO (G 8 8) "mappingproxy.__contains__"
noncomputable abbrev o181 := cO [(s "__contains__" 408), (s "mappingproxy.__contains__" 409), (cp 410), (j 70), (j 2), (j 0), (j 0), (j 3), (r 176), (.bool true), (j 181), (r 177), N, (r 178), (r 179), (r 180), (j 413), (j 70), (cp 414)]
noncomputable abbrev o182 := fO (G 8 8) "mappingproxy.__contains__" (s "enum" 338) 181
noncomputable abbrev o185 := tO [(s "self" 419)]
noncomputable abbrev o187 := gO (G 8 9) "mappingproxy.__repr__"
noncomputable abbrev o188 := cO [(s "__repr__" 416), (s "mappingproxy.__repr__" 417), (cp 418), (j 73), (j 1), (j 0), (j 0), (j 3), (r 183), (.bool true), (j 181), (r 184), N, (r 185), (r 186), (r 187), (j 420), (j 73), (cp 421)]
noncomputable abbrev o189 := fO (G 8 9) "mappingproxy.__repr__" (s "enum" 338) 188
noncomputable abbrev o192 := tO [(s "self" 426)]
noncomputable abbrev o194 := gO (G 8 10) "mappingproxy.__str__"
noncomputable abbrev o195 := cO [(s "__str__" 423), (s "mappingproxy.__str__" 424), (cp 425), (j 76), (j 1), (j 0), (j 0), (j 3), (r 190), (.bool true), (j 181), (r 191), N, (r 192), (r 193), (r 194), (j 427), (j 76), (cp 428)]
noncomputable abbrev o196 := fO (G 8 10) "mappingproxy.__str__" (s "enum" 338) 195
noncomputable abbrev o199 := tO [(s "self" 433), (s "other" 434)]
noncomputable abbrev o201 := gO (G 8 11) "mappingproxy.__eq__"
noncomputable abbrev o202 := cO [(s "__eq__" 430), (s "mappingproxy.__eq__" 431), (cp 432), (j 79), (j 2), (j 0), (j 0), (j 3), (r 197), (.bool true), (j 181), (r 198), N, (r 199), (r 200), (r 201), (j 435), (j 79), (cp 436)]
noncomputable abbrev o203 := fO (G 8 11) "mappingproxy.__eq__" (s "enum" 338) 202
noncomputable abbrev o206 := tO [(s "self" 441), (s "other" 442)]
noncomputable abbrev o208 := gO (G 8 12) "mappingproxy.__ne__"
noncomputable abbrev o209 := cO [(s "__ne__" 438), (s "mappingproxy.__ne__" 439), (cp 440), (j 82), (j 2), (j 0), (j 0), (j 3), (r 204), (.bool true), (j 181), (r 205), N, (r 206), (r 207), (r 208), (j 443), (j 82), (cp 444)]
noncomputable abbrev o210 := fO (G 8 12) "mappingproxy.__ne__" (s "enum" 338) 209
noncomputable abbrev o213 := tO [(s "self" 449), (s "other" 450)]
noncomputable abbrev o215 := gO (G 8 13) "mappingproxy.__lt__"
noncomputable abbrev o216 := cO [(s "__lt__" 446), (s "mappingproxy.__lt__" 447), (cp 448), (j 85), (j 2), (j 0), (j 0), (j 3), (r 211), (.bool true), (j 181), (r 212), N, (r 213), (r 214), (r 215), (j 451), (j 85), (cp 452)]
noncomputable abbrev o217 := fO (G 8 13) "mappingproxy.__lt__" (s "enum" 338) 216
noncomputable abbrev o220 := tO [(s "self" 457), (s "other" 458)]
noncomputable abbrev o222 := gO (G 8 14) "mappingproxy.__le__"
noncomputable abbrev o223 := cO [(s "__le__" 454), (s "mappingproxy.__le__" 455), (cp 456), (j 88), (j 2), (j 0), (j 0), (j 3), (r 218), (.bool true), (j 181), (r 219), N, (r 220), (r 221), (r 222), (j 459), (j 88), (cp 460)]
noncomputable abbrev o224 := fO (G 8 14) "mappingproxy.__le__" (s "enum" 338) 223
noncomputable abbrev o227 := tO [(s "self" 465), (s "other" 466)]
noncomputable abbrev o229 := gO (G 8 15) "mappingproxy.__gt__"
noncomputable abbrev o230 := cO [(s "__gt__" 462), (s "mappingproxy.__gt__" 463), (cp 464), (j 91), (j 2), (j 0), (j 0), (j 3), (r 225), (.bool true), (j 181), (r 226), N, (r 227), (r 228), (r 229), (j 467), (j 91), (cp 468)]
noncomputable abbrev o231 := fO (G 8 15) "mappingproxy.__gt__" (s "enum" 338) 230
noncomputable abbrev o234 := tO [(s "self" 473), (s "other" 474)]
noncomputable abbrev o236 := gO (G 8 16) "mappingproxy.__ge__"
noncomputable abbrev o237 := cO [(s "__ge__" 470), (s "mappingproxy.__ge__" 471), (cp 472), (j 94), (j 2), (j 0), (j 0), (j 3), (r 232), (.bool true), (j 181), (r 233), N, (r 234), (r 235), (r 236), (j 475), (j 94), (cp 476)]
noncomputable abbrev o238 := fO (G 8 16) "mappingproxy.__ge__" (s "enum" 338) 237
noncomputable abbrev o241 := tO [(s "self" 481)]
noncomputable abbrev o243 := gO (G 8 17) "mappingproxy.__hash__"
noncomputable abbrev o244 := cO [(s "__hash__" 478), (s "mappingproxy.__hash__" 479), (cp 480), (j 97), (j 1), (j 0), (j 0), (j 3), (r 239), (.bool true), (j 181), (r 240), N, (r 241), (r 242), (r 243), (j 482), (j 97), (cp 483)]
noncomputable abbrev o245 := fO (G 8 17) "mappingproxy.__hash__" (s "enum" 338) 244
noncomputable abbrev o248 := tO [(s "self" 488), (s "other" 489)]
noncomputable abbrev o250 := gO (G 8 18) "mappingproxy.__or__"
noncomputable abbrev o251 := cO [(s "__or__" 485), (s "mappingproxy.__or__" 486), (cp 487), (j 100), (j 2), (j 0), (j 0), (j 3), (r 246), (.bool true), (j 181), (r 247), N, (r 248), (r 249), (r 250), (j 490), (j 100), (cp 491)]
noncomputable abbrev o252 := fO (G 8 18) "mappingproxy.__or__" (s "enum" 338) 251
noncomputable abbrev o255 := tO [(s "self" 496), (s "other" 497)]
noncomputable abbrev o257 := gO (G 8 19) "mappingproxy.__ror__"
noncomputable abbrev o258 := cO [(s "__ror__" 493), (s "mappingproxy.__ror__" 494), (cp 495), (j 105), (j 2), (j 0), (j 0), (j 3), (r 253), (.bool true), (j 181), (r 254), N, (r 255), (r 256), (r 257), (j 498), (j 105), (cp 499)]
noncomputable abbrev o259 := fO (G 8 19) "mappingproxy.__ror__" (s "enum" 338) 258
noncomputable abbrev o262 := tO [(s "self" 504), (s "other" 505)]
noncomputable abbrev o264 := gO (G 8 20) "mappingproxy.__ior__"
noncomputable abbrev o265 := cO [(s "__ior__" 501), (s "mappingproxy.__ior__" 502), (cp 503), (j 108), (j 2), (j 0), (j 0), (j 3), (r 260), (.bool true), (j 181), (r 261), N, (r 262), (r 263), (r 264), (j 506), (j 108), (cp 507)]
noncomputable abbrev o266 := fO (G 8 20) "mappingproxy.__ior__" (s "enum" 338) 265
noncomputable abbrev o267 := tO [N]
noncomputable abbrev o270 := tO [(s "self" 512), (s "key" 513), (s "default" 514)]
noncomputable abbrev o272 := gO (G 8 21) "mappingproxy.get"
noncomputable abbrev o273 := cO [(s "get" 509), (s "mappingproxy.get" 510), (cp 511), (j 111), (j 3), (j 3), (j 0), (j 3), (r 268), (.bool true), (j 181), (r 269), N, (r 270), (r 271), (r 272), (j 515), (j 111), (cp 516)]
noncomputable abbrev o274 : Obj := ⟨(.type "function"), none, (.func (fd (G 8 21) "mappingproxy.get" 3 [] (r 267) N N (s "enum" 338) none (r 273) N 0)), O []⟩
noncomputable abbrev o277 := tO [(s "self" 521)]
noncomputable abbrev o279 := gO (G 8 22) "mappingproxy.keys"
noncomputable abbrev o280 := cO [(s "keys" 518), (s "mappingproxy.keys" 519), (cp 520), (j 114), (j 1), (j 0), (j 0), (j 3), (r 275), (.bool true), (j 181), (r 276), N, (r 277), (r 278), (r 279), (j 522), (j 114), (cp 523)]
noncomputable abbrev o281 := fO (G 8 22) "mappingproxy.keys" (s "enum" 338) 280
noncomputable abbrev o284 := tO [(s "self" 528)]
noncomputable abbrev o286 := gO (G 8 23) "mappingproxy.values"
noncomputable abbrev o287 := cO [(s "values" 525), (s "mappingproxy.values" 526), (cp 527), (j 117), (j 1), (j 0), (j 0), (j 3), (r 282), (.bool true), (j 181), (r 283), N, (r 284), (r 285), (r 286), (j 529), (j 117), (cp 530)]
noncomputable abbrev o288 := fO (G 8 23) "mappingproxy.values" (s "enum" 338) 287
noncomputable abbrev o291 := tO [(s "self" 535)]
noncomputable abbrev o293 := gO (G 8 24) "mappingproxy.items"
noncomputable abbrev o294 := cO [(s "items" 532), (s "mappingproxy.items" 533), (cp 534), (j 120), (j 1), (j 0), (j 0), (j 3), (r 289), (.bool true), (j 181), (r 290), N, (r 291), (r 292), (r 293), (j 536), (j 120), (cp 537)]
noncomputable abbrev o295 := fO (G 8 24) "mappingproxy.items" (s "enum" 338) 294
noncomputable abbrev o298 := tO [(s "self" 542)]
noncomputable abbrev o300 := gO (G 8 25) "mappingproxy.copy"
noncomputable abbrev o301 := cO [(s "copy" 539), (s "mappingproxy.copy" 540), (cp 541), (j 123), (j 1), (j 0), (j 0), (j 3), (r 296), (.bool true), (j 181), (r 297), N, (r 298), (r 299), (r 300), (j 543), (j 123), (cp 544)]
noncomputable abbrev o302 := fO (G 8 25) "mappingproxy.copy" (s "enum" 338) 301
noncomputable abbrev o303 := tO [(s "_mapping" 546)]
noncomputable abbrev o304 : Obj := ⟨(.type "list"), none, (.seq (L [(s "_mapping" 360)]) 1), O []⟩
noncomputable abbrev o305 (P : Params) := dO [e P "__module__" 353 (s "builtins" 358), e P "__firstlineno__" 357 (.int 44 356), e P "__slots__" 361 (r 133), e P "__new__" 370 (r 307), e P "__reduce_ex__" 378 (r 147), e P "__getitem__" 386 (r 154), e P "__len__" 393 (r 161), e P "__iter__" 400 (r 168), e P "__reversed__" 407 (r 175), e P "__contains__" 415 (r 182), e P "__repr__" 422 (r 189), e P "__str__" 429 (r 196), e P "__eq__" 437 (r 203), e P "__ne__" 445 (r 210), e P "__lt__" 453 (r 217), e P "__le__" 461 (r 224), e P "__gt__" 469 (r 231), e P "__ge__" 477 (r 238), e P "__hash__" 484 (r 245), e P "__or__" 492 (r 252), e P "__ror__" 500 (r 259), e P "__ior__" 508 (r 266), e P "get" 517 (r 274), e P "keys" 524 (r 281), e P "values" 531 (r 288), e P "items" 538 (r 295), e P "copy" 545 (r 302), e P "__static_attributes__" 547 (r 303), e P "_mapping" 550 (r 308), e P "__doc__" 551 N] 3
noncomputable abbrev o306 : Obj := ⟨(.type "type"), none, (.cls { name := S "mappingproxy", bases := [(.type "object")], mro := [(r 306), (.type "object")], ns := 305, qualname := S "mappingproxy", hasDict := false, slotNames := [S "_mapping"], subclasses := [], abstract := false, collection := none, hasDel := false }), O [none, none, (some (s "mappingproxy" 346)), (some (s "mappingproxy" 354)), (some N), (some (.bool false))]⟩
noncomputable abbrev o307 : Obj := ⟨(.type "staticmethod"), none, (.fields (L [(r 140)])), O []⟩
noncomputable abbrev o308 : Obj := ⟨(.type "member_descriptor"), none, (.fields (L [(s "_mapping" 549), (r 306), (b "proto.slot"), (b "proto.slot#set"), (j 0)])), O []⟩
noncomputable abbrev o309 : Obj := ⟨(.type "super"), none, (.fields (L [(r 306), (r 306), (r 306)])), O []⟩
noncomputable abbrev o310 : Obj := ⟨(.type "builtin_function_or_method"), none, (.fields (L [(b "object.__init_subclass__"), (r 306)])), O []⟩
noncomputable abbrev T9 (P : Params) : BT := (m (boot_o_0 P) (m (boot_o_1 P) (m (o3x9 P) (m (boot_o_7 P) (m o11 (m o31 (m o63 (m o23 (f o255) n) (f o12)) (m o11 (m o159 (f o287) n) (f o223))) (m o47 (m (o79 P) (m o143 (f o11) n) (f o11)) (m o111 (m o175 (f o303) n) (f o11)))) (m o23 (m o11 (m o11 (m o12 (f o11) n) (f o199)) (m o103 (m o167 (f o295) n) (f o231))) (m o55 (m (o87 P) (m o11 (f o279) n) (f o215)) (m o119 (f o11) (f o12))))) (m o11 (m o19 (m o35 (m o11 (m o131 (f o259) n) (f o195)) (m o11 (m o12 (f o291) n) (f o227))) (m o12 (m o83 (m o147 (f o11) n) (f o11)) (m o115 (m o11 (f o307) n) (f o243)))) (m o27 (m o11 (m o75 (m o139 (f o267) n) (f o203)) (m o12 (m o171 (f o11) n) (f o11))) (m o59 (m o91 (m o11 (f o12) n) (f o12)) (m o123 (f o187) (f o251)))))) (m (boot_o_5 P) (m (boot_o_9 P) (m o17 (m o33 (m o12 (m o11 (f o257) n) (f o11)) (m o97 (m o161 (f o11) n) (f o11))) (m o49 (m o81 (m o145 (f o273) n) (f o209)) (m o11 (m o12 (f (o305 P)) n) (f o241)))) (m o11 (m o41 (m o73 (m o11 (f o265) n) (f o201)) (m o105 (m o11 (f o12) n) (f o12))) (m o11 (m o89 (m o153 (f o281) n) (f o217)) (m (o121 P) (f o185) (f o11))))) (m o13 (m o21 (m o12 (m o69 (m o133 (f o12) n) (f o11)) (m o101 (m o11 (f o293) n) (f o229))) (m o11 (m o85 (m o12 (f o277) n) (f o213)) (m o117 (m o181 (f o309) n) (f o245)))) (m o11 (m o45 (m o77 (m o11 (f o12) n) (f o12)) (m o11 (m o173 (f o301) n) (f o237))) (m o61 (m o12 (m o157 (f o11) n) (f o11)) (m o125 (f o189) (f o11))))))) (m (boot_o_2 P) (m (boot_o_4 P) (m (boot_o_8 P) (m o12 (m o11 (m o11 (m (o128 P) (f o11) n) (f o192)) (m o96 (m o160 (f o288) n) (f o224))) (m o48 (m o80 (m o11 (f o272) n) (f o208)) (m o112 (m o11 (f o304) n) (f o12)))) (m (o24 P) (m o40 (m o12 (m o136 (f o264) n) (f o11)) (m o104 (m o168 (f o11) n) (f o11))) (m o56 (m o11 (m o152 (f o280) n) (f o216)) (m o11 (f o12) (f o248))))) (m o12x9 (m o20 (m o11 (m o68 (m o132 (f o11) n) (f o196)) (m o12 (m o164 (f o11) n) (f o11))) (m o52 (m o84 (m o11 (f o12) n) (f o12)) (m o11 (m o180 (f o308) n) (f o244)))) (m o28 (m o12 (m o76 (m o140 (f o11) n) (f o11)) (m o108 (m o11 (f o300) n) (f o236))) (m o11 (m o11 (m o12 (f o284) n) (f o220)) (m o124 (f o188) (f o252)))))) (m (boot_o_6 P) (m (boot_o_10 P) (m o11 (m o34 (m o66 (m o130 (f o258) n) (f o194)) (m o98 (m o11 (f o12) n) (f o12))) (m o11 (m o82 (m o146 (f o274) n) (f o210)) (m o12 (m o178 (f o306) n) (f o11)))) (m o26 (m o42 (m o11 (m o138 (f o266) n) (f o202)) (m o11 (m o12 (f o298) n) (f o234))) (m o12 (m o90 (m o154 (f o11) n) (f o11)) (m o122 (f o11) (f o250))))) (m o14 (m o11 (m o38 (m o70 (m o11 (f o262) n) (f o12)) (m o11 (m o166 (f o294) n) (f o230))) (m o54 (m o23 (m o150 (f o11) n) (f o11)) (m o118 (m o182 (f o310) n) (f o11)))) (m o12 (m o11 (m o11 (m o12 (f o270) n) (f o206)) (m o110 (m o174 (f o302) n) (f o238))) (m o62 (m o94 (m o11 (f o286) n) (f o222)) (m o11 (f o11) (f o12))))))))
noncomputable abbrev o3x11 (P : Params) := dO [e P "__name__" 165 (s "enum" 338), e P "__doc__" 166 N, e P "__package__" 167 N, e P "__loader__" 168 (b "__main__.__loader__#opaque"), e P "__spec__" 169 N, e P "__annotations__" 170 (r 6), e P "__builtins__" 171 (r 4), e P "__file__" 173 (cp 172), e P "__cached__" 174 N, e P "_wall" 193 (r 21), e P "RoleManager" 277 (r 80), e P "RoleManager_role_manager" 278 (r 80), e P "ConditionalRoleManager" 336 (r 122), e P "ConditionalRoleManager_role_manager" 337 (r 122), e P "_OWN_NAMES" 345 (r 125), e P "mappingproxy" 553 (r 306), e P "_MEMBERS_VIEW" 554 (r 306), e P "EnumType" 814 (r 522), e P "_EnumField" 869 (r 564)] 19
noncomputable abbrev o12x11 := vO [(j 1), (j 0), (r 20), (j 5), (j 0), (r 27), (j 28), (j 0), (r 90), (j 44), (j 0), (r 131), (j 126), (j 0), (r 317), (j 256), (j 0), (r 531)]
noncomputable abbrev o311 := tO [(.type "type")]
noncomputable abbrev o313 (P : Params) := dO [e P "__module__" 562 (s "enum" 567), e P "__qualname__" 564 (s "EnumType" 563), e P "__firstlineno__" 566 (.int 126 565), e P "_written_out_" 570 (.int 0 569), e P "__new__" 583 (r 326), e P "_planted_" 592 (r 333), e P "_planted_at_" 599 (r 340), e P "_held_value_" 609 (r 347), e P "_canonical_" 619 (r 354), e P "_book_value_" 629 (r 361), e P "_mixed_" 637 (r 368), e P "_held_def_" 646 (r 375), e P "_closed_" 653 (r 382), e P "_held_auto_" 662 (r 389), e P "_unique_" 669 (r 396), e P "_close_" 676 (r 403), e P "_expect_" 684 (r 410), e P "_value_of_" 693 (r 417), e P "_args_of_" 701 (r 424), e P "__bool__" 708 (r 431), e P "__call__" 717 (r 438), e P "__contains__" 726 (r 445), e P "__getitem__" 734 (r 452), e P "__iter__" 742 (r 459), e P "__len__" 749 (r 466), e P "__members__" 757 (r 474), e P "__repr__" 764 (r 481), e P "__reversed__" 772 (r 488), e P "__setattr__" 782 (r 496), e P "__delattr__" 791 (r 504), e P "_store_" 801 (r 512), e P "__dir__" 808 (r 519), e P "__static_attributes__" 809 (r 520), e P "__classcell__" 810 (r 314)] 34
noncomputable abbrev o314 : Obj := ⟨(.type "cell"), none, (.cell (some (r 522))), O []⟩
noncomputable abbrev o316 := vO [(j 130), (j 4), (r 325), (j 139), (j 4), (r 332), (j 151), (j 4), (r 339), (j 154), (j 4), (r 346), (j 157), (j 4), (r 353), (j 160), (j 4), (r 360), (j 163), (j 4), (r 367), (j 166), (j 4), (r 374), (j 169), (j 4), (r 381), (j 172), (j 4), (r 388), (j 175), (j 4), (r 395), (j 178), (j 4), (r 402), (j 181), (j 4), (r 409), (j 184), (j 4), (r 416), (j 187), (j 4), (r 423), (j 190), (j 4), (r 430), (j 193), (j 4), (r 437), (j 206), (j 4), (r 444), (j 217), (j 4), (r 451), (j 220), (j 4), (r 458), (j 223), (j 4), (r 465), (j 227), (j 4), (r 472), (j 230), (j 4), (r 480), (j 236), (j 4), (r 487), (j 239), (j 4), (r 495), (j 246), (j 4), (r 503), (j 251), (j 4), (r 511), (j 254), (j 4), (r 518)]
noncomputable abbrev o317 := cO [(s "EnumType" 557), (s "EnumType" 558), (cp 559), (j 126), (j 0), (j 0), (j 0), (j 0), (r 315), (.bool false), (j 181), (r 316), N, N, N, N, (j 560), (j 126), (cp 561)]
noncomputable abbrev o318 : Obj := ⟨(.type "frame"), none, .plain, O [(some (r 317)), (some (r 3)), (some (r 313)), none, (some (s "enum" 338)), none, (some (r 0))]⟩
noncomputable abbrev o319 := tO [(r 314)]
noncomputable abbrev o320 := tO [(s "__class__" 574)]
noncomputable abbrev o322 := tO [(s "metacls" 575), (s "cls" 576), (s "bases" 577), (s "classdict" 578), (s "kwds" 579), (s "made" 580)]
noncomputable abbrev o324 := gO (G 10 2) "EnumType.__new__"
noncomputable abbrev o325 := cO [(s "__new__" 571), (s "EnumType.__new__" 572), (cp 573), (j 130), (j 4), (j 0), (j 0), (j 11), (r 320), (.bool true), (j 181), (r 321), N, (r 322), (r 323), (r 324), (j 581), (j 130), (cp 582)]
noncomputable abbrev o326 : Obj := ⟨(.type "function"), none, (.func (fd (G 10 2) "EnumType.__new__" 3 [(S "__class__", 314)] N N N (s "enum" 338) none (r 325) (r 319) 0)), O []⟩
noncomputable abbrev o329 := tO [(s "cls" 587), (s "own_init" 588), (s "asks_new" 589)]
noncomputable abbrev o331 := gO (G 10 3) "EnumType._planted_"
noncomputable abbrev o332 := cO [(s "_planted_" 584), (s "EnumType._planted_" 585), (cp 586), (j 139), (j 3), (j 0), (j 0), (j 3), (r 327), (.bool true), (j 181), (r 328), N, (r 329), (r 330), (r 331), (j 590), (j 139), (cp 591)]
noncomputable abbrev o333 := fO (G 10 3) "EnumType._planted_" (s "enum" 338) 332
noncomputable abbrev o336 := tO [(s "cls" 596)]
noncomputable abbrev o338 := gO (G 10 4) "EnumType._planted_at_"
noncomputable abbrev o339 := cO [(s "_planted_at_" 593), (s "EnumType._planted_at_" 594), (cp 595), (j 151), (j 1), (j 0), (j 0), (j 3), (r 334), (.bool true), (j 181), (r 335), N, (r 336), (r 337), (r 338), (j 597), (j 151), (cp 598)]
noncomputable abbrev o340 := fO (G 10 4) "EnumType._planted_at_" (s "enum" 338) 339
noncomputable abbrev o343 := tO [(s "cls" 603), (s "value" 604), (s "name" 605), (s "data" 606)]
noncomputable abbrev o345 := gO (G 10 5) "EnumType._held_value_"
noncomputable abbrev o346 := cO [(s "_held_value_" 600), (s "EnumType._held_value_" 601), (cp 602), (j 154), (j 4), (j 0), (j 0), (j 3), (r 341), (.bool true), (j 181), (r 342), N, (r 343), (r 344), (r 345), (j 607), (j 154), (cp 608)]
noncomputable abbrev o347 := fO (G 10 5) "EnumType._held_value_" (s "enum" 338) 346
noncomputable abbrev o350 := tO [(s "cls" 613), (s "value" 614), (s "member" 615), (s "name" 616)]
noncomputable abbrev o352 := gO (G 10 6) "EnumType._canonical_"
noncomputable abbrev o353 := cO [(s "_canonical_" 610), (s "EnumType._canonical_" 611), (cp 612), (j 157), (j 4), (j 0), (j 0), (j 3), (r 348), (.bool true), (j 181), (r 349), N, (r 350), (r 351), (r 352), (j 617), (j 157), (cp 618)]
noncomputable abbrev o354 := fO (G 10 6) "EnumType._canonical_" (s "enum" 338) 353
noncomputable abbrev o357 := tO [(s "cls" 623), (s "value" 624), (s "member" 625), (s "name" 626)]
noncomputable abbrev o359 := gO (G 10 7) "EnumType._book_value_"
noncomputable abbrev o360 := cO [(s "_book_value_" 620), (s "EnumType._book_value_" 621), (cp 622), (j 160), (j 4), (j 0), (j 0), (j 3), (r 355), (.bool true), (j 181), (r 356), N, (r 357), (r 358), (r 359), (j 627), (j 160), (cp 628)]
noncomputable abbrev o361 := fO (G 10 7) "EnumType._book_value_" (s "enum" 338) 360
noncomputable abbrev o364 := tO [(s "cls" 633), (s "mixins" 634)]
noncomputable abbrev o366 := gO (G 10 8) "EnumType._mixed_"
noncomputable abbrev o367 := cO [(s "_mixed_" 630), (s "EnumType._mixed_" 631), (cp 632), (j 163), (j 2), (j 0), (j 0), (j 3), (r 362), (.bool true), (j 181), (r 363), N, (r 364), (r 365), (r 366), (j 635), (j 163), (cp 636)]
noncomputable abbrev o368 := fO (G 10 8) "EnumType._mixed_" (s "enum" 338) 367
noncomputable abbrev o371 := tO [(s "cls" 641), (s "value" 642), (s "maker" 643)]
noncomputable abbrev o373 := gO (G 10 9) "EnumType._held_def_"
noncomputable abbrev o374 := cO [(s "_held_def_" 638), (s "EnumType._held_def_" 639), (cp 640), (j 166), (j 3), (j 0), (j 0), (j 3), (r 369), (.bool true), (j 181), (r 370), N, (r 371), (r 372), (r 373), (j 644), (j 166), (cp 645)]
noncomputable abbrev o375 := fO (G 10 9) "EnumType._held_def_" (s "enum" 338) 374
noncomputable abbrev o378 := tO [(s "cls" 650)]
noncomputable abbrev o380 := gO (G 10 10) "EnumType._closed_"
noncomputable abbrev o381 := cO [(s "_closed_" 647), (s "EnumType._closed_" 648), (cp 649), (j 169), (j 1), (j 0), (j 0), (j 3), (r 376), (.bool true), (j 181), (r 377), N, (r 378), (r 379), (r 380), (j 651), (j 169), (cp 652)]
noncomputable abbrev o382 := fO (G 10 10) "EnumType._closed_" (s "enum" 338) 381
noncomputable abbrev o385 := tO [(s "cls" 657), (s "value" 658), (s "data" 659)]
noncomputable abbrev o387 := gO (G 10 11) "EnumType._held_auto_"
noncomputable abbrev o388 := cO [(s "_held_auto_" 654), (s "EnumType._held_auto_" 655), (cp 656), (j 172), (j 3), (j 0), (j 0), (j 3), (r 383), (.bool true), (j 181), (r 384), N, (r 385), (r 386), (r 387), (j 660), (j 172), (cp 661)]
noncomputable abbrev o389 := fO (G 10 11) "EnumType._held_auto_" (s "enum" 338) 388
noncomputable abbrev o392 := tO [(s "cls" 666)]
noncomputable abbrev o394 := gO (G 10 12) "EnumType._unique_"
noncomputable abbrev o395 := cO [(s "_unique_" 663), (s "EnumType._unique_" 664), (cp 665), (j 175), (j 1), (j 0), (j 0), (j 3), (r 390), (.bool true), (j 181), (r 391), N, (r 392), (r 393), (r 394), (j 667), (j 175), (cp 668)]
noncomputable abbrev o396 := fO (G 10 12) "EnumType._unique_" (s "enum" 338) 395
noncomputable abbrev o399 := tO [(s "cls" 673)]
noncomputable abbrev o401 := gO (G 10 13) "EnumType._close_"
noncomputable abbrev o402 := cO [(s "_close_" 670), (s "EnumType._close_" 671), (cp 672), (j 178), (j 1), (j 0), (j 0), (j 3), (r 397), (.bool true), (j 181), (r 398), N, (r 399), (r 400), (r 401), (j 674), (j 178), (cp 675)]
noncomputable abbrev o403 := fO (G 10 13) "EnumType._close_" (s "enum" 338) 402
noncomputable abbrev o406 := tO [(s "cls" 680), (s "names" 681)]
noncomputable abbrev o408 := gO (G 10 14) "EnumType._expect_"
noncomputable abbrev o409 := cO [(s "_expect_" 677), (s "EnumType._expect_" 678), (cp 679), (j 181), (j 2), (j 0), (j 0), (j 3), (r 404), (.bool true), (j 181), (r 405), N, (r 406), (r 407), (r 408), (j 682), (j 181), (cp 683)]
noncomputable abbrev o410 := fO (G 10 14) "EnumType._expect_" (s "enum" 338) 409
noncomputable abbrev o413 := tO [(s "cls" 688), (s "data" 689), (s "args" 690)]
noncomputable abbrev o415 := gO (G 10 15) "EnumType._value_of_"
noncomputable abbrev o416 := cO [(s "_value_of_" 685), (s "EnumType._value_of_" 686), (cp 687), (j 184), (j 3), (j 0), (j 0), (j 3), (r 411), (.bool true), (j 181), (r 412), N, (r 413), (r 414), (r 415), (j 691), (j 184), (cp 692)]
noncomputable abbrev o417 := fO (G 10 15) "EnumType._value_of_" (s "enum" 338) 416
noncomputable abbrev o420 := tO [(s "cls" 697), (s "value" 698)]
noncomputable abbrev o422 := gO (G 10 16) "EnumType._args_of_"
noncomputable abbrev o423 := cO [(s "_args_of_" 694), (s "EnumType._args_of_" 695), (cp 696), (j 187), (j 2), (j 0), (j 0), (j 3), (r 418), (.bool true), (j 181), (r 419), N, (r 420), (r 421), (r 422), (j 699), (j 187), (cp 700)]
noncomputable abbrev o424 := fO (G 10 16) "EnumType._args_of_" (s "enum" 338) 423
noncomputable abbrev o427 := tO [(s "cls" 705)]
noncomputable abbrev o429 := gO (G 10 17) "EnumType.__bool__"
noncomputable abbrev o430 := cO [(s "__bool__" 702), (s "EnumType.__bool__" 703), (cp 704), (j 190), (j 1), (j 0), (j 0), (j 3), (r 425), (.bool true), (j 181), (r 426), N, (r 427), (r 428), (r 429), (j 706), (j 190), (cp 707)]
noncomputable abbrev o431 := fO (G 10 17) "EnumType.__bool__" (s "enum" 338) 430
noncomputable abbrev o434 := tO [(s "cls" 712), (s "values" 713), (s "kwds" 714)]
noncomputable abbrev o436 := gO (G 10 18) "EnumType.__call__"
noncomputable abbrev o437 := cO [(s "__call__" 709), (s "EnumType.__call__" 710), (cp 711), (j 193), (j 1), (j 0), (j 0), (j 15), (r 432), (.bool true), (j 181), (r 433), N, (r 434), (r 435), (r 436), (j 715), (j 193), (cp 716)]
noncomputable abbrev o438 := fO (G 10 18) "EnumType.__call__" (s "enum" 338) 437
noncomputable abbrev o441 := tO [(s "cls" 721), (s "value" 722), (s "result" 723)]
noncomputable abbrev o443 := gO (G 10 19) "EnumType.__contains__"
noncomputable abbrev o444 := cO [(s "__contains__" 718), (s "EnumType.__contains__" 719), (cp 720), (j 206), (j 2), (j 0), (j 0), (j 3), (r 439), (.bool true), (j 181), (r 440), N, (r 441), (r 442), (r 443), (j 724), (j 206), (cp 725)]
noncomputable abbrev o445 := fO (G 10 19) "EnumType.__contains__" (s "enum" 338) 444
noncomputable abbrev o448 := tO [(s "cls" 730), (s "name" 731)]
noncomputable abbrev o450 := gO (G 10 20) "EnumType.__getitem__"
noncomputable abbrev o451 := cO [(s "__getitem__" 727), (s "EnumType.__getitem__" 728), (cp 729), (j 217), (j 2), (j 0), (j 0), (j 3), (r 446), (.bool true), (j 181), (r 447), N, (r 448), (r 449), (r 450), (j 732), (j 217), (cp 733)]
noncomputable abbrev o452 := fO (G 10 20) "EnumType.__getitem__" (s "enum" 338) 451
noncomputable abbrev o455 := tO [(s "cls" 738)]
noncomputable abbrev o456 := tO [(s "cls" 739)]
noncomputable abbrev o457 := gO (G 10 21) "EnumType.__iter__"
noncomputable abbrev o458 := cO [(s "__iter__" 735), (s "EnumType.__iter__" 736), (cp 737), (j 220), (j 1), (j 0), (j 0), (j 3), (r 453), (.bool true), (j 181), (r 454), N, (r 455), (r 456), (r 457), (j 740), (j 220), (cp 741)]
noncomputable abbrev o459 := fO (G 10 21) "EnumType.__iter__" (s "enum" 338) 458
noncomputable abbrev o462 := tO [(s "cls" 746)]
noncomputable abbrev o464 := gO (G 10 22) "EnumType.__len__"
noncomputable abbrev o465 := cO [(s "__len__" 743), (s "EnumType.__len__" 744), (cp 745), (j 223), (j 1), (j 0), (j 0), (j 3), (r 460), (.bool true), (j 181), (r 461), N, (r 462), (r 463), (r 464), (j 747), (j 223), (cp 748)]
noncomputable abbrev o466 := fO (G 10 22) "EnumType.__len__" (s "enum" 338) 465
noncomputable abbrev o469 := tO [(s "cls" 753)]
noncomputable abbrev o471 := gO (G 10 23) "EnumType.__members__"
noncomputable abbrev o472 := cO [(s "__members__" 750), (s "EnumType.__members__" 751), (cp 752), (j 226), (j 1), (j 0), (j 0), (j 3), (r 467), (.bool true), (j 181), (r 468), N, (r 469), (r 470), (r 471), (j 754), (j 226), (cp 755)]
noncomputable abbrev o473 := fO (G 10 23) "EnumType.__members__" (s "enum" 338) 472
noncomputable abbrev o474 : Obj := ⟨(.type "property"), none, (.fields (L [(r 473), N, N, N, (s "__members__" 757), (.bool false)])), O []⟩
noncomputable abbrev o477 := tO [(s "cls" 761)]
noncomputable abbrev o479 := gO (G 10 24) "EnumType.__repr__"
noncomputable abbrev o480 := cO [(s "__repr__" 758), (s "EnumType.__repr__" 759), (cp 760), (j 230), (j 1), (j 0), (j 0), (j 3), (r 475), (.bool true), (j 181), (r 476), N, (r 477), (r 478), (r 479), (j 762), (j 230), (cp 763)]
noncomputable abbrev o481 := fO (G 10 24) "EnumType.__repr__" (s "enum" 338) 480
noncomputable abbrev o484 := tO [(s "cls" 768)]
noncomputable abbrev o485 := tO [(s "cls" 769)]
noncomputable abbrev o486 := gO (G 10 25) "EnumType.__reversed__"
noncomputable abbrev o487 := cO [(s "__reversed__" 765), (s "EnumType.__reversed__" 766), (cp 767), (j 236), (j 1), (j 0), (j 0), (j 3), (r 482), (.bool true), (j 181), (r 483), N, (r 484), (r 485), (r 486), (j 770), (j 236), (cp 771)]
noncomputable abbrev o488 := fO (G 10 25) "EnumType.__reversed__" (s "enum" 338) 487
noncomputable abbrev o490 := tO [(s "__class__" 776)]
noncomputable abbrev o492 := tO [(s "cls" 777), (s "name" 778), (s "value" 779)]
noncomputable abbrev o494 := gO (G 10 26) "EnumType.__setattr__"
noncomputable abbrev o495 := cO [(s "__setattr__" 773), (s "EnumType.__setattr__" 774), (cp 775), (j 239), (j 3), (j 0), (j 0), (j 3), (r 490), (.bool true), (j 181), (r 491), N, (r 492), (r 493), (r 494), (j 780), (j 239), (cp 781)]
noncomputable abbrev o496 : Obj := ⟨(.type "function"), none, (.func (fd (G 10 26) "EnumType.__setattr__" 3 [(S "__class__", 314)] N N N (s "enum" 338) none (r 495) (r 489) 0)), O []⟩
noncomputable abbrev o498 := tO [(s "__class__" 786)]
noncomputable abbrev o500 := tO [(s "cls" 787), (s "attr" 788)]
noncomputable abbrev o502 := gO (G 10 27) "EnumType.__delattr__"
noncomputable abbrev o503 := cO [(s "__delattr__" 783), (s "EnumType.__delattr__" 784), (cp 785), (j 246), (j 2), (j 0), (j 0), (j 3), (r 498), (.bool true), (j 181), (r 499), N, (r 500), (r 501), (r 502), (j 789), (j 246), (cp 790)]
noncomputable abbrev o504 : Obj := ⟨(.type "function"), none, (.func (fd (G 10 27) "EnumType.__delattr__" 3 [(S "__class__", 314)] N N N (s "enum" 338) none (r 503) (r 497) 0)), O []⟩
noncomputable abbrev o506 := tO [(s "__class__" 795)]
noncomputable abbrev o508 := tO [(s "cls" 796), (s "name" 797), (s "value" 798)]
noncomputable abbrev o510 := gO (G 10 28) "EnumType._store_"
noncomputable abbrev o511 := cO [(s "_store_" 792), (s "EnumType._store_" 793), (cp 794), (j 251), (j 3), (j 0), (j 0), (j 3), (r 506), (.bool true), (j 181), (r 507), N, (r 508), (r 509), (r 510), (j 799), (j 251), (cp 800)]
noncomputable abbrev o512 : Obj := ⟨(.type "function"), none, (.func (fd (G 10 28) "EnumType._store_" 3 [(S "__class__", 314)] N N N (s "enum" 338) none (r 511) (r 505) 0)), O []⟩
noncomputable abbrev o515 := tO [(s "cls" 805)]
noncomputable abbrev o517 := gO (G 10 29) "EnumType.__dir__"
noncomputable abbrev o518 := cO [(s "__dir__" 802), (s "EnumType.__dir__" 803), (cp 804), (j 254), (j 1), (j 0), (j 0), (j 3), (r 513), (.bool true), (j 181), (r 514), N, (r 515), (r 516), (r 517), (j 806), (j 254), (cp 807)]
noncomputable abbrev o519 := fO (G 10 29) "EnumType.__dir__" (s "enum" 338) 518
noncomputable abbrev o521 (P : Params) := dO [e P "__module__" 562 (s "enum" 567), e P "__firstlineno__" 566 (.int 126 565), e P "_written_out_" 570 (.int 0 569), e P "__new__" 583 (r 523), e P "_planted_" 592 (r 333), e P "_planted_at_" 599 (r 340), e P "_held_value_" 609 (r 347), e P "_canonical_" 619 (r 354), e P "_book_value_" 629 (r 361), e P "_mixed_" 637 (r 368), e P "_held_def_" 646 (r 375), e P "_closed_" 653 (r 382), e P "_held_auto_" 662 (r 389), e P "_unique_" 669 (r 396), e P "_close_" 676 (r 403), e P "_expect_" 684 (r 410), e P "_value_of_" 693 (r 417), e P "_args_of_" 701 (r 424), e P "__bool__" 708 (r 431), e P "__call__" 717 (r 438), e P "__contains__" 726 (r 445), e P "__getitem__" 734 (r 452), e P "__iter__" 742 (r 459), e P "__len__" 749 (r 466), e P "__members__" 757 (r 474), e P "__repr__" 764 (r 481), e P "__reversed__" 772 (r 488), e P "__setattr__" 782 (r 496), e P "__delattr__" 791 (r 504), e P "_store_" 801 (r 512), e P "__dir__" 808 (r 519), e P "__static_attributes__" 809 (r 520), e P "__doc__" 812 N] 3
noncomputable abbrev o522 : Obj := ⟨(.type "type"), none, (.cls { name := S "EnumType", bases := [(.type "type")], mro := [(r 522), (.type "type"), (.type "object")], ns := 521, qualname := S "EnumType", hasDict := true, slotNames := [], subclasses := [], abstract := false, collection := none, hasDel := false }), O [(some (r 311)), none, (some (s "EnumType" 555)), (some (s "EnumType" 563)), (some N), (some (.bool true))]⟩
noncomputable abbrev o523 : Obj := ⟨(.type "staticmethod"), none, (.fields (L [(r 326)])), O []⟩
noncomputable abbrev o524 : Obj := ⟨(.type "super"), none, (.fields (L [(r 522), (r 522), (r 522)])), O []⟩
noncomputable abbrev o525 : Obj := ⟨(.type "builtin_function_or_method"), none, (.fields (L [(b "object.__init_subclass__"), (r 522)])), O []⟩
noncomputable abbrev o528 (P : Params) := dO [e P "__module__" 822 (s "enum" 338), e P "__qualname__" 824 (s "_EnumField" 823), e P "__firstlineno__" 826 (.int 256 825), e P "__init__" 834 (r 539), e P "__get__" 843 (r 547), e P "__set__" 852 (r 554), e P "__delete__" 860 (r 561), e P "__static_attributes__" 862 (r 562)] 8
noncomputable abbrev o530 := vO [(j 258), (j 4), (r 538), (j 261), (j 4), (r 546), (j 268), (j 4), (r 553), (j 271), (j 4), (r 560)]
noncomputable abbrev o531 := cO [(s "_EnumField" 817), (s "_EnumField" 818), (cp 819), (j 256), (j 0), (j 0), (j 0), (j 0), (r 529), (.bool false), (j 181), (r 530), N, N, N, N, (j 820), (j 256), (cp 821)]
noncomputable abbrev o532 : Obj := ⟨(.type "frame"), none, .plain, O [(some (r 531)), (some (r 3)), (some (r 528)), none, (some (s "enum" 338)), none, (some (r 0))]⟩
noncomputable abbrev o535 := tO [(s "self" 830), (s "name" 831)]
noncomputable abbrev o537 := gO (G 11 0) "_EnumField.__init__"
noncomputable abbrev o538 := cO [(s "__init__" 827), (s "_EnumField.__init__" 828), (cp 829), (j 258), (j 2), (j 0), (j 0), (j 3), (r 533), (.bool true), (j 181), (r 534), N, (r 535), (r 536), (r 537), (j 832), (j 258), (cp 833)]
noncomputable abbrev o539 := fO (G 11 0) "_EnumField.__init__" (s "enum" 338) 538
noncomputable abbrev o543 := tO [(s "self" 838), (s "instance" 839), (s "ownerclass" 840)]
noncomputable abbrev o545 := gO (G 11 1) "_EnumField.__get__"
noncomputable abbrev o546 := cO [(s "__get__" 835), (s "_EnumField.__get__" 836), (cp 837), (j 261), (j 3), (j 0), (j 0), (j 3), (r 541), (.bool true), (j 181), (r 542), N, (r 543), (r 544), (r 545), (j 841), (j 261), (cp 842)]
noncomputable abbrev o547 : Obj := ⟨(.type "function"), none, (.func (fd (G 11 1) "_EnumField.__get__" 3 [] (r 540) N N (s "enum" 338) none (r 546) N 0)), O []⟩
noncomputable abbrev o550 := tO [(s "self" 847), (s "instance" 848), (s "value" 849)]
noncomputable abbrev o552 := gO (G 11 2) "_EnumField.__set__"
noncomputable abbrev o553 := cO [(s "__set__" 844), (s "_EnumField.__set__" 845), (cp 846), (j 268), (j 3), (j 0), (j 0), (j 3), (r 548), (.bool true), (j 181), (r 549), N, (r 550), (r 551), (r 552), (j 850), (j 268), (cp 851)]
noncomputable abbrev o554 := fO (G 11 2) "_EnumField.__set__" (s "enum" 338) 553
noncomputable abbrev o557 := tO [(s "self" 856), (s "instance" 857)]
noncomputable abbrev o559 := gO (G 11 3) "_EnumField.__delete__"
noncomputable abbrev o560 := cO [(s "__delete__" 853), (s "_EnumField.__delete__" 854), (cp 855), (j 271), (j 2), (j 0), (j 0), (j 3), (r 555), (.bool true), (j 181), (r 556), N, (r 557), (r 558), (r 559), (j 858), (j 271), (cp 859)]
noncomputable abbrev o561 := fO (G 11 3) "_EnumField.__delete__" (s "enum" 338) 560
noncomputable abbrev o562 := tO [(s "name" 861)]
noncomputable abbrev o563 (P : Params) := dO [e P "__module__" 822 (s "enum" 338), e P "__firstlineno__" 826 (.int 256 825), e P "__init__" 834 (r 539), e P "__get__" 843 (r 547), e P "__set__" 852 (r 554), e P "__delete__" 860 (r 561), e P "__static_attributes__" 862 (r 562), e P "__dict__" 864 (r 565), e P "__weakref__" 866 (r 566), e P "__doc__" 867 N] 4
noncomputable abbrev o564 : Obj := ⟨(.type "type"), none, (.cls { name := S "_EnumField", bases := [(.type "object")], mro := [(r 564), (.type "object")], ns := 563, qualname := S "_EnumField", hasDict := true, slotNames := [], subclasses := [], abstract := false, collection := none, hasDel := false }), O [none, none, (some (s "_EnumField" 815)), (some (s "_EnumField" 823)), (some (b "object.__new__")), (some (.bool true))]⟩
noncomputable abbrev o565 : Obj := ⟨(.type "getset_descriptor"), none, (.fields (L [(s "__dict__" 863), (r 564), (b "function.__dict__"), (b "function.__dict__#set")])), O []⟩
noncomputable abbrev o566 : Obj := ⟨(.type "getset_descriptor"), none, (.fields (L [(s "__weakref__" 865), (r 564), (b "ExceptionGroup.__weakref__"), N])), O []⟩
noncomputable abbrev o567 : Obj := ⟨(.type "super"), none, (.fields (L [(r 564), (r 564), (r 564)])), O []⟩
noncomputable abbrev o568 : Obj := ⟨(.type "builtin_function_or_method"), none, (.fields (L [(b "object.__init_subclass__"), (r 564)])), O []⟩
noncomputable abbrev T11 (P : Params) : BT := (m (boot_o_0 P) (m (boot_o_1 P) (m (o3x11 P) (m (boot_o_7 P) (m o11 (m o31 (m o63 (m o23 (m o255 (f o511) n) (f o11)) (m o12 (f o319) (f o12))) (m o11 (m o159 (m o287 (f o543) n) (f o415)) (m o223 (f o11) (f o479)))) (m o47 (m (o79 P) (m o143 (m o11 (f o23) n) (f o399)) (m o11 (f o12) (f o11))) (m o111 (m o175 (m o303 (f o559) n) (f o431)) (m o11 (f o367) (f o495))))) (m o23 (m o11 (m o11 (m o12 (m o11 (f o519) n) (f o12)) (m o199 (f o11) (f o455))) (m o103 (m o167 (m o295 (f o11) n) (f o423)) (m o231 (f o359) (f o487)))) (m o55 (m (o87 P) (m o11 (m o279 (f o535) n) (f o11)) (m o215 (f o343) (f o471))) (m o119 (m o11 (m o311 (f o567) n) (f o11)) (m o12 (f o375) (f o503)))))) (m o11 (m o19 (m o35 (m o11 (m o131 (m o259 (f o515) n) (f o387)) (m o195 (f o11) (f o451))) (m o11 (m o12 (m o291 (f o547) n) (f o12)) (m o227 (f o11) (f o12)))) (m o12 (m o83 (m o147 (m o11 (f o531) n) (f o403)) (m o11 (f o339) (f o11))) (m o115 (m o11 (m o307 (f (o563 P)) n) (f o11)) (m o243 (f o371) (f o12))))) (m o27 (m o11 (m o75 (m o139 (m o267 (f o523) n) (f o395)) (m o203 (f o331) (f o459))) (m o12 (m o171 (m o11 (f o11) n) (f o427)) (m o11 (f o12) (f o12)))) (m o59 (m o91 (m o11 (m o12 (f o539) n) (f o11)) (m o12 (f o347) (f o11))) (m o123 (m o187 (f o11) (f o443)) (m o251 (f o11) (f o12))))))) (m (boot_o_5 P) (m (boot_o_9 P) (m o17 (m o33 (m o12 (m o11 (m o257 (f o11) n) (f o385)) (m o11 (f o12) (f o11))) (m o97 (m o161 (m o11 (f o545) n) (f o417)) (m o11 (f o353) (f o481)))) (m o49 (m o81 (m o145 (m o273 (f o11) n) (f o401)) (m o209 (f o11) (f o465))) (m o11 (m o12 (m (o305 P) (f o561) n) (f o12)) (m o241 (f o11) (f o319))))) (m o11 (m o41 (m o73 (m o11 (m o265 (f (o521 P)) n) (f o11)) (m o201 (f o329) (f o457))) (m o105 (m o11 (m o12 (f o553) n) (f o11)) (m o12 (f o361) (f o319)))) (m o11 (m o89 (m o153 (m o281 (f o537) n) (f o409)) (m o217 (f o345) (f o473))) (m (o121 P) (m o185 (f (o313 P)) (f o441)) (m o11 (f o12) (f o319)))))) (m o13 (m o21 (m o12 (m o69 (m o133 (m o12 (f o517) n) (f o389)) (m o11 (f o325) (f o11))) (m o101 (m o11 (m o293 (f o12) n) (f o11)) (m o229 (f o357) (f o485)))) (m o11 (m o85 (m o12 (m o277 (f o11) n) (f o12)) (m o213 (f o11) (f o469))) (m o117 (m o181 (m o309 (f o565) n) (f o437)) (m o245 (f o373) (f o11))))) (m o11 (m o45 (m o77 (m o11 (m o12 (f o525) n) (f o11)) (m o12 (f o333) (f o12))) (m o11 (m o173 (m o301 (f o557) n) (f o429)) (m o237 (f o11) (f o11)))) (m o61 (m o12 (m o157 (m o11 (f o11) n) (f o413)) (m o11 (f o12) (f o477))) (m o125 (m o189 (f o317) (f o445)) (m o11 (f o381) (f o11)))))))) (m (boot_o_2 P) (m (boot_o_4 P) (m (boot_o_8 P) (m o12 (m o11 (m o11 (m (o128 P) (m o11 (f o512) n) (f o12)) (m o192 (f o320) (f o448))) (m o96 (m o160 (m o288 (f o11) n) (f o416)) (m o224 (f o352) (f o480)))) (m o48 (m o80 (m o11 (m o272 (f (o528 P)) n) (f o11)) (m o208 (f o336) (f o464))) (m o112 (m o11 (m o304 (f o560) n) (f o11)) (m o12 (f o368) (f o496))))) (m (o24 P) (m o40 (m o12 (m o136 (m o264 (f o11) n) (f o392)) (m o11 (f o12) (f o456))) (m o104 (m o168 (m o11 (f o552) n) (f o424)) (m o11 (f o360) (f o488)))) (m o56 (m o11 (m o152 (m o280 (f o11) n) (f o408)) (m o216 (f o11) (f o472))) (m o11 (m o12 (m o23 (f o568) n) (f o12)) (m o248 (f o11) (f o504)))))) (m o12x11 (m o20 (m o11 (m o68 (m o132 (m o11 (f o11) n) (f o388)) (m o196 (f o324) (f o452))) (m o12 (m o164 (m o11 (f o11) n) (f o420)) (m o11 (f o12) (f o484)))) (m o52 (m o84 (m o11 (m o12 (f o532) n) (f o11)) (m o12 (f o340) (f o12))) (m o11 (m o180 (m o308 (f o564) n) (f o436)) (m o244 (f o11) (f o500))))) (m o28 (m o12 (m o76 (m o140 (m o11 (f o524) n) (f o396)) (m o11 (f o332) (f o11))) (m o108 (m o11 (m o300 (f o12) n) (f o11)) (m o236 (f o364) (f o492)))) (m o11 (m o11 (m o12 (m o284 (f o267) n) (f o12)) (m o220 (f o11) (f o12))) (m o124 (m o188 (f o316) (f o444)) (m o252 (f o380) (f o508))))))) (m (boot_o_6 P) (m (boot_o_10 P) (m o11 (m o34 (m o66 (m o130 (m o258 (f o12) n) (f o11)) (m o194 (f o322) (f o450))) (m o98 (m o11 (m o12 (f o546) n) (f o11)) (m o12 (f o354) (f o11)))) (m o11 (m o82 (m o146 (m o274 (f o530) n) (f o402)) (m o210 (f o338) (f o466))) (m o12 (m o178 (m o306 (f o562) n) (f o434)) (m o11 (f o12) (f o498))))) (m o26 (m o42 (m o11 (m o138 (m o266 (f o522) n) (f o394)) (m o202 (f o11) (f o458))) (m o11 (m o12 (m o298 (f o554) n) (f o12)) (m o234 (f o11) (f o490)))) (m o12 (m o90 (m o154 (m o11 (f o538) n) (f o410)) (m o11 (f o346) (f o474))) (m o122 (m o11 (f o314) (f o11)) (m o250 (f o378) (f o506)))))) (m o14 (m o11 (m o38 (m o70 (m o11 (m o262 (f o518) n) (f o11)) (m o12 (f o326) (f o12))) (m o11 (m o166 (m o294 (f o550) n) (f o422)) (m o230 (f o11) (f o486)))) (m o54 (m o23 (m o150 (m o11 (f o12) n) (f o406)) (m o11 (f o12) (f o11))) (m o118 (m o182 (m o310 (f o566) n) (f o438)) (m o11 (f o374) (f o502))))) (m o12 (m o11 (m o11 (m o12 (m o270 (f o11) n) (f o12)) (m o206 (f o11) (f o462))) (m o110 (m o174 (m o302 (f o11) n) (f o430)) (m o238 (f o366) (f o494)))) (m o62 (m o94 (m o11 (m o286 (f o12) n) (f o11)) (m o222 (f o350) (f o11))) (m o11 (m o11 (f o318) (f o11)) (m o12 (f o382) (f o510)))))))))
noncomputable abbrev o3x15 (P : Params) := dO [e P "__name__" 165 (s "casbin.rbac.default_role_manager.role_manager" 1057), e P "__doc__" 166 N, e P "__package__" 167 N, e P "__loader__" 168 (b "__main__.__loader__#opaque"), e P "__spec__" 169 N, e P "__annotations__" 170 (r 6), e P "__builtins__" 171 (r 4), e P "__file__" 173 (cp 172), e P "__cached__" 174 N, e P "_wall" 193 (r 21), e P "RoleManager" 277 (r 80), e P "RoleManager_role_manager" 278 (r 80), e P "ConditionalRoleManager" 336 (r 122), e P "ConditionalRoleManager_role_manager" 337 (r 122), e P "_OWN_NAMES" 345 (r 125), e P "mappingproxy" 553 (r 306), e P "_MEMBERS_VIEW" 554 (r 306), e P "EnumType" 814 (r 522), e P "_EnumField" 869 (r 564), e P "Enum" 1056 (r 688), e P "MatchOrder" 1102 (r 711), e P "_lay_MatchOrder" 1114 (r 724)] 22
noncomputable abbrev o12x15 := vO [(j 1), (j 0), (r 20), (j 5), (j 0), (r 27), (j 28), (j 0), (r 90), (j 44), (j 0), (r 131), (j 126), (j 0), (r 317), (j 256), (j 0), (r 531), (j 273), (j 0), (r 574), (j 367), (j 0), (r 703), (j 371), (j 0), (r 723)]
noncomputable abbrev o570 : Obj := ⟨(.type "builtin_function_or_method"), none, (.fields (L [(b "type.__prepare__"), (r 522)])), O []⟩
noncomputable abbrev o571 (P : Params) := dO [e P "__module__" 877 (s "enum" 882), e P "__qualname__" 879 (s "Enum" 878), e P "__firstlineno__" 881 (.int 273 880), e P "_written_out_" 885 (.int 4 884), e P "_member_names_" 886 (r 576), e P "_member_map_" 887 (r 577), e P "_value2member_map_" 888 (r 578), e P "_hashable_values_" 889 (r 579), e P "_unhashable_values_" 890 (r 580), e P "_unhashable_values_map_" 891 (r 581), e P "_members_" 892 (r 582), e P "_value_repr_" 893 N, e P "_is_flag_" 894 (.bool false), e P "_making_" 895 (.bool false), e P "__new__" 910 (r 589), e P "_missing_" 930 (r 598), e P "__init__" 939 (r 606), e P "__repr__" 947 (r 613), e P "__str__" 954 (r 620), e P "__format__" 962 (r 627), e P "__hash__" 969 (r 634), e P "__reduce_ex__" 977 (r 641), e P "__deepcopy__" 985 (r 648), e P "__copy__" 992 (r 655), e P "__dir__" 999 (r 662), e P "_add_alias_" 1007 (r 669), e P "_add_value_alias_" 1015 (r 676), e P "name" 1021 (r 678), e P "value" 1027 (r 681), e P "__static_attributes__" 1028 (r 683)] 30
noncomputable abbrev o573 := vO [(j 287), (j 4), (r 588), (j 328), (j 4), (r 595), (j 331), (j 4), (r 605), (j 334), (j 4), (r 612), (j 338), (j 4), (r 619), (j 341), (j 4), (r 626), (j 344), (j 4), (r 633), (j 347), (j 4), (r 640), (j 350), (j 4), (r 647), (j 353), (j 4), (r 654), (j 356), (j 4), (r 661), (j 359), (j 4), (r 668), (j 362), (j 4), (r 675)]
noncomputable abbrev o574 := cO [(s "Enum" 872), (s "Enum" 873), (cp 874), (j 273), (j 0), (j 0), (j 0), (j 0), (r 572), (.bool false), (j 181), (r 573), N, N, N, N, (j 875), (j 273), (cp 876)]
noncomputable abbrev o575 : Obj := ⟨(.type "frame"), none, .plain, O [(some (r 574)), (some (r 3)), (some (r 571)), none, (some (s "enum" 338)), none, (some (r 0))]⟩
noncomputable abbrev o576 : Obj := ⟨(.type "list"), none, (.seq (L []) 0), O []⟩
noncomputable abbrev o577 := dO [] 0
noncomputable abbrev o585 := tO [(s "cls" 899), (s "value" 900), (s "name" 901), (s "unhashable_values" 902), (s "member" 903), (s "exc" 904), (s "result" 905), (s "e" 906), (s "ve_exc" 907)]
noncomputable abbrev o587 := gO (G 12 12) "Enum.__new__"
noncomputable abbrev o588 := cO [(s "__new__" 896), (s "Enum.__new__" 897), (cp 898), (j 287), (j 2), (j 0), (j 0), (j 3), (r 583), (.bool true), (j 181), (r 584), N, (r 585), (r 586), (r 587), (j 908), (j 287), (cp 909)]
noncomputable abbrev o589 := fO (G 12 12) "Enum.__new__" (s "enum" 338) 588
noncomputable abbrev o592 := tO [(s "cls" 914), (s "value" 915)]
noncomputable abbrev o594 := gO (G 12 13) "Enum._missing_"
noncomputable abbrev o595 := cO [(s "_missing_" 911), (s "Enum._missing_" 912), (cp 913), (j 327), (j 2), (j 0), (j 0), (j 3), (r 590), (.bool true), (j 181), (r 591), N, (r 592), (r 593), (r 594), (j 916), (j 327), (cp 917)]
noncomputable abbrev o596 : Obj := ⟨(.type "function"), none, (.func (fd (G 12 13) "Enum._missing_" 3 [] N N N (s "enum" 338) (some 599) (r 595) N 0)), O []⟩
noncomputable abbrev o597 (P : Params) := dO [e P "__module__" 919 (s "enum" 338), e P "__name__" 922 (s "_missing_" 921), e P "__qualname__" 925 (s "Enum._missing_" 924), e P "__doc__" 927 N, e P "__annotations__" 929 (r 599)] 5
noncomputable abbrev o598 : Obj := ⟨(.type "classmethod"), (some 597), (.fields (L [(r 596), (.bool false)])), O []⟩
noncomputable abbrev o602 := tO [(s "self" 934), (s "args" 935), (s "kwds" 936)]
noncomputable abbrev o604 := gO (G 12 14) "Enum.__init__"
noncomputable abbrev o605 := cO [(s "__init__" 931), (s "Enum.__init__" 932), (cp 933), (j 331), (j 1), (j 0), (j 0), (j 15), (r 600), (.bool true), (j 181), (r 601), N, (r 602), (r 603), (r 604), (j 937), (j 331), (cp 938)]
noncomputable abbrev o606 := fO (G 12 14) "Enum.__init__" (s "enum" 338) 605
noncomputable abbrev o609 := tO [(s "self" 943), (s "v_repr" 944)]
noncomputable abbrev o611 := gO (G 12 15) "Enum.__repr__"
noncomputable abbrev o612 := cO [(s "__repr__" 940), (s "Enum.__repr__" 941), (cp 942), (j 334), (j 1), (j 0), (j 0), (j 3), (r 607), (.bool true), (j 181), (r 608), N, (r 609), (r 610), (r 611), (j 945), (j 334), (cp 946)]
noncomputable abbrev o613 := fO (G 12 15) "Enum.__repr__" (s "enum" 338) 612
noncomputable abbrev o616 := tO [(s "self" 951)]
noncomputable abbrev o618 := gO (G 12 16) "Enum.__str__"
noncomputable abbrev o619 := cO [(s "__str__" 948), (s "Enum.__str__" 949), (cp 950), (j 338), (j 1), (j 0), (j 0), (j 3), (r 614), (.bool true), (j 181), (r 615), N, (r 616), (r 617), (r 618), (j 952), (j 338), (cp 953)]
noncomputable abbrev o620 := fO (G 12 16) "Enum.__str__" (s "enum" 338) 619
noncomputable abbrev o623 := tO [(s "self" 958), (s "format_spec" 959)]
noncomputable abbrev o625 := gO (G 12 17) "Enum.__format__"
noncomputable abbrev o626 := cO [(s "__format__" 955), (s "Enum.__format__" 956), (cp 957), (j 341), (j 2), (j 0), (j 0), (j 3), (r 621), (.bool true), (j 181), (r 622), N, (r 623), (r 624), (r 625), (j 960), (j 341), (cp 961)]
noncomputable abbrev o627 := fO (G 12 17) "Enum.__format__" (s "enum" 338) 626
noncomputable abbrev o630 := tO [(s "self" 966)]
noncomputable abbrev o632 := gO (G 12 18) "Enum.__hash__"
noncomputable abbrev o633 := cO [(s "__hash__" 963), (s "Enum.__hash__" 964), (cp 965), (j 344), (j 1), (j 0), (j 0), (j 3), (r 628), (.bool true), (j 181), (r 629), N, (r 630), (r 631), (r 632), (j 967), (j 344), (cp 968)]
noncomputable abbrev o634 := fO (G 12 18) "Enum.__hash__" (s "enum" 338) 633
noncomputable abbrev o637 := tO [(s "self" 973), (s "proto" 974)]
noncomputable abbrev o639 := gO (G 12 19) "Enum.__reduce_ex__"
noncomputable abbrev o640 := cO [(s "__reduce_ex__" 970), (s "Enum.__reduce_ex__" 971), (cp 972), (j 347), (j 2), (j 0), (j 0), (j 3), (r 635), (.bool true), (j 181), (r 636), N, (r 637), (r 638), (r 639), (j 975), (j 347), (cp 976)]
noncomputable abbrev o641 := fO (G 12 19) "Enum.__reduce_ex__" (s "enum" 338) 640
noncomputable abbrev o644 := tO [(s "self" 981), (s "memo" 982)]
noncomputable abbrev o646 := gO (G 12 20) "Enum.__deepcopy__"
noncomputable abbrev o647 := cO [(s "__deepcopy__" 978), (s "Enum.__deepcopy__" 979), (cp 980), (j 350), (j 2), (j 0), (j 0), (j 3), (r 642), (.bool true), (j 181), (r 643), N, (r 644), (r 645), (r 646), (j 983), (j 350), (cp 984)]
noncomputable abbrev o648 := fO (G 12 20) "Enum.__deepcopy__" (s "enum" 338) 647
noncomputable abbrev o651 := tO [(s "self" 989)]
noncomputable abbrev o653 := gO (G 12 21) "Enum.__copy__"
noncomputable abbrev o654 := cO [(s "__copy__" 986), (s "Enum.__copy__" 987), (cp 988), (j 353), (j 1), (j 0), (j 0), (j 3), (r 649), (.bool true), (j 181), (r 650), N, (r 651), (r 652), (r 653), (j 990), (j 353), (cp 991)]
noncomputable abbrev o655 := fO (G 12 21) "Enum.__copy__" (s "enum" 338) 654
noncomputable abbrev o658 := tO [(s "self" 996)]
noncomputable abbrev o660 := gO (G 12 22) "Enum.__dir__"
noncomputable abbrev o661 := cO [(s "__dir__" 993), (s "Enum.__dir__" 994), (cp 995), (j 356), (j 1), (j 0), (j 0), (j 3), (r 656), (.bool true), (j 181), (r 657), N, (r 658), (r 659), (r 660), (j 997), (j 356), (cp 998)]
noncomputable abbrev o662 := fO (G 12 22) "Enum.__dir__" (s "enum" 338) 661
noncomputable abbrev o665 := tO [(s "self" 1003), (s "name" 1004)]
noncomputable abbrev o667 := gO (G 12 23) "Enum._add_alias_"
noncomputable abbrev o668 := cO [(s "_add_alias_" 1000), (s "Enum._add_alias_" 1001), (cp 1002), (j 359), (j 2), (j 0), (j 0), (j 3), (r 663), (.bool true), (j 181), (r 664), N, (r 665), (r 666), (r 667), (j 1005), (j 359), (cp 1006)]
noncomputable abbrev o669 := fO (G 12 23) "Enum._add_alias_" (s "enum" 338) 668
noncomputable abbrev o672 := tO [(s "self" 1011), (s "value" 1012)]
noncomputable abbrev o674 := gO (G 12 24) "Enum._add_value_alias_"
noncomputable abbrev o675 := cO [(s "_add_value_alias_" 1008), (s "Enum._add_value_alias_" 1009), (cp 1010), (j 362), (j 2), (j 0), (j 0), (j 3), (r 670), (.bool true), (j 181), (r 671), N, (r 672), (r 673), (r 674), (j 1013), (j 362), (cp 1014)]
noncomputable abbrev o676 := fO (G 12 24) "Enum._add_value_alias_" (s "enum" 338) 675
noncomputable abbrev o677 (P : Params) := dO [e P "name" 1020 (s "name" 1016)] 1
noncomputable abbrev o678 : Obj := ⟨(r 564), (some 677), .plain, O []⟩
noncomputable abbrev o679 (P : Params) : Obj := ⟨(.type "frame"), none, (.dict (E [e P "self" 1017 (r 678), e P "name" 1018 (s "name" 1016)]) 2), O []⟩
noncomputable abbrev o680 (P : Params) := dO [e P "name" 1026 (s "value" 1022)] 1
noncomputable abbrev o681 : Obj := ⟨(r 564), (some 680), .plain, O []⟩
noncomputable abbrev o682 (P : Params) : Obj := ⟨(.type "frame"), none, (.dict (E [e P "self" 1023 (r 681), e P "name" 1024 (s "value" 1022)]) 2), O []⟩
noncomputable abbrev o685 (P : Params) : Obj := ⟨(.type "frame"), none, (.dict (E [e P "metacls" 1030 (r 522), e P "cls" 1031 (s "Enum" 870), e P "bases" 1032 (r 569), e P "classdict" 1033 (r 571), e P "kwds" 1034 (r 684), e P "made" 1045 (r 688)]) 6), O []⟩
noncomputable abbrev o687 (P : Params) := dO [e P "__module__" 877 (s "enum" 882), e P "__firstlineno__" 881 (.int 273 880), e P "_written_out_" 885 (.int 0 1050), e P "_member_names_" 886 (r 576), e P "_member_map_" 887 (r 577), e P "_value2member_map_" 888 (r 578), e P "_hashable_values_" 889 (r 579), e P "_unhashable_values_" 890 (r 580), e P "_unhashable_values_map_" 891 (r 581), e P "_members_" 892 (r 582), e P "_value_repr_" 893 N, e P "_is_flag_" 894 (.bool false), e P "_making_" 895 (.bool false), e P "__new__" 910 (r 689), e P "_missing_" 930 (r 598), e P "__init__" 939 (r 606), e P "__repr__" 947 (r 613), e P "__str__" 954 (r 620), e P "__format__" 962 (r 627), e P "__hash__" 969 (r 634), e P "__reduce_ex__" 977 (r 641), e P "__deepcopy__" 985 (r 648), e P "__copy__" 992 (r 655), e P "__dir__" 999 (r 662), e P "_add_alias_" 1007 (r 669), e P "_add_value_alias_" 1015 (r 676), e P "name" 1021 (r 678), e P "value" 1027 (r 681), e P "__static_attributes__" 1028 (r 683), e P "__dict__" 1040 (r 690), e P "__weakref__" 1042 (r 691), e P "__doc__" 1043 N] 4
noncomputable abbrev o688 : Obj := ⟨(r 522), none, (.cls { name := S "Enum", bases := [(.type "object")], mro := [(r 688), (.type "object")], ns := 687, qualname := S "Enum", hasDict := true, slotNames := [], subclasses := [(r 711)], abstract := false, collection := none, hasDel := false }), O [none, none, (some (s "Enum" 870)), (some (s "Enum" 878)), (some N), (some (.bool true))]⟩
noncomputable abbrev o689 : Obj := ⟨(.type "staticmethod"), none, (.fields (L [(r 589)])), O []⟩
noncomputable abbrev o690 : Obj := ⟨(.type "getset_descriptor"), none, (.fields (L [(s "__dict__" 1039), (r 688), (b "function.__dict__"), (b "function.__dict__#set")])), O []⟩
noncomputable abbrev o691 : Obj := ⟨(.type "getset_descriptor"), none, (.fields (L [(s "__weakref__" 1041), (r 688), (b "ExceptionGroup.__weakref__"), N])), O []⟩
noncomputable abbrev o692 : Obj := ⟨(.type "super"), none, (.fields (L [(r 688), (r 688), (r 688)])), O []⟩
noncomputable abbrev o693 : Obj := ⟨(.type "builtin_function_or_method"), none, (.fields (L [(b "object.__init_subclass__"), (r 688)])), O []⟩
noncomputable abbrev o694 : Obj := ⟨(.type "method"), none, (.fields (L [(r 512), (r 688)])), O []⟩
noncomputable abbrev o695 (P : Params) : Obj := ⟨(.type "frame"), none, (.dict (E [e P "cls" 1051 (r 688), e P "name" 1052 (s "_written_out_" 1049), e P "value" 1053 (.int 0 1050)]) 3), O []⟩
noncomputable abbrev o696 : Obj := ⟨(.type "super"), none, (.fields (L [(r 522), (r 688), (r 522)])), O []⟩
noncomputable abbrev o697 : Obj := ⟨(.type "method-wrapper"), none, (.fields (L [(b "type.__setattr__"), (r 688)])), O []⟩
noncomputable abbrev o698 := tO [(r 688)]
noncomputable abbrev o700 (P : Params) := dO [e P "__module__" 1066 (s "casbin.rbac.default_role_manager.role_manager" 1057), e P "__qualname__" 1068 (s "MatchOrder" 1067), e P "__firstlineno__" 1070 (.int 367 1069), e P "_written_out_" 1072 (.int 4 1071), e P "_member_names_" 1076 (r 705), e P "_value_repr_" 1078 N, e P "__static_attributes__" 1079 (r 706)] 7
noncomputable abbrev o703 := cO [(s "MatchOrder" 1061), (s "MatchOrder" 1062), (cp 1063), (j 367), (j 0), (j 0), (j 0), (j 0), (r 701), (.bool false), (j 181), (r 702), N, N, N, N, (j 1064), (j 367), (cp 1065)]
noncomputable abbrev o704 : Obj := ⟨(.type "frame"), none, .plain, O [(some (r 703)), (some (r 3)), (some (r 700)), none, (some (s "casbin.rbac.default_role_manager.role_manager" 1057)), none, (some (r 0))]⟩
noncomputable abbrev o705 : Obj := ⟨(.type "list"), none, (.seq (L [(s "STR_PATTERN" 1073), (s "PATTERN_STR" 1074), (s "PATTERN_PATTERN" 1075)]) 0), O []⟩
noncomputable abbrev o708 (P : Params) : Obj := ⟨(.type "frame"), none, (.dict (E [e P "metacls" 1081 (r 522), e P "cls" 1082 (s "MatchOrder" 1059), e P "bases" 1083 (r 698), e P "classdict" 1084 (r 700), e P "kwds" 1085 (r 707), e P "made" 1091 (r 711)]) 6), O []⟩
noncomputable abbrev o710 (P : Params) := dO [e P "__module__" 1066 (s "casbin.rbac.default_role_manager.role_manager" 1057), e P "__firstlineno__" 1070 (.int 367 1069), e P "_written_out_" 1072 (.int 0 1096), e P "_member_names_" 1076 (r 705), e P "_value_repr_" 1078 N, e P "__static_attributes__" 1079 (r 706), e P "__doc__" 1089 N] 2
noncomputable abbrev o711 : Obj := ⟨(r 522), none, (.cls { name := S "MatchOrder", bases := [(r 688)], mro := [(r 711), (r 688), (.type "object")], ns := 710, qualname := S "MatchOrder", hasDict := true, slotNames := [], subclasses := [], abstract := false, collection := none, hasDel := false }), O [(some (r 698)), none, (some (s "MatchOrder" 1059)), (some (s "MatchOrder" 1067)), (some N), (some (.bool true))]⟩
noncomputable abbrev o712 : Obj := ⟨(.type "super"), none, (.fields (L [(r 711), (r 711), (r 711)])), O []⟩
noncomputable abbrev o713 : Obj := ⟨(.type "builtin_function_or_method"), none, (.fields (L [(b "object.__init_subclass__"), (r 711)])), O []⟩
noncomputable abbrev o714 : Obj := ⟨(.type "method"), none, (.fields (L [(r 512), (r 711)])), O []⟩
noncomputable abbrev o715 (P : Params) : Obj := ⟨(.type "frame"), none, (.dict (E [e P "cls" 1097 (r 711), e P "name" 1098 (s "_written_out_" 1095), e P "value" 1099 (.int 0 1096)]) 3), O []⟩
noncomputable abbrev o716 : Obj := ⟨(.type "super"), none, (.fields (L [(r 522), (r 711), (r 522)])), O []⟩
noncomputable abbrev o717 : Obj := ⟨(.type "method-wrapper"), none, (.fields (L [(b "type.__setattr__"), (r 711)])), O []⟩
noncomputable abbrev o720 := tO [(s "_v0" 1106), (s "_m0" 1107), (s "_v1" 1108), (s "_m1" 1109), (s "_v2" 1110), (s "_m2" 1111)]
noncomputable abbrev o722 := gO (F 15) "_lay_MatchOrder"
noncomputable abbrev o723 := cO [(s "_lay_MatchOrder" 1103), (s "_lay_MatchOrder" 1104), (cp 1105), (j 371), (j 0), (j 0), (j 0), (j 3), (r 718), (.bool true), (j 181), (r 719), N, (r 720), (r 721), (r 722), (j 1112), (j 371), (cp 1113)]
noncomputable abbrev o724 := fO (F 15) "_lay_MatchOrder" (s "casbin.rbac.default_role_manager.role_manager" 1057) 723
noncomputable abbrev T15 (P : Params) : BT := (m (boot_o_0 P) (m (boot_o_1 P) (m (o3x15 P) (m (boot_o_7 P) (m o11 (m o31 (m o63 (m o23 (m o255 (f o511) n) (m o11 (f o639) n)) (m o12 (m o319 (f o575) n) (m o12 (f o703) n))) (m o11 (m o159 (m o287 (f o543) n) (m o415 (f o12) n)) (m o223 (m o11 (f o11) n) (f o479)))) (m o47 (m (o79 P) (m o143 (m o11 (f o23) n) (m o399 (f o655) n)) (m o11 (m o12 (f o12) n) (m o11 (f o12) n))) (m o111 (m o175 (m o303 (f o559) n) (m o431 (f (o687 P)) n)) (m o11 (m o367 (f o623) n) (f o495))))) (m o23 (m o11 (m o11 (m o12 (m o11 (f o519) n) (m o12 (f o647) n)) (m o199 (m o11 (f o11) n) (m o455 (f o711) n))) (m o103 (m o167 (m o295 (f o11) n) (m o423 (f (o679 P)) n)) (m o231 (m o359 (f o12) n) (f o487)))) (m o55 (m (o87 P) (m o11 (m o279 (f o535) n) (m o11 (f o11) n)) (m o215 (m o343 (f o577) n) (f o471))) (m o119 (m o11 (m o311 (f o567) n) (m o11 (f (o695 P)) n)) (m o12 (m o375 (f o11) n) (f o503)))))) (m o11 (m o19 (m o35 (m o11 (m o131 (m o259 (f o515) n) (m o387 (f o12) n)) (m o195 (m o11 (f o576) n) (m o451 (f o577) n))) (m o11 (m o12 (m o291 (f o547) n) (m o12 (f o675) n)) (m o227 (m o11 (f o611) n) (f o12)))) (m o12 (m o83 (m o147 (m o11 (f o531) n) (m o403 (f o11) n)) (m o11 (m o339 (f o595) n) (m o11 (f o723) n))) (m o115 (m o11 (m o307 (f (o563 P)) n) (m o11 (f o691) n)) (m o243 (m o371 (f o627) n) (f o12))))) (m o27 (m o11 (m o75 (m o139 (m o267 (f o523) n) (m o395 (f o651) n)) (m o203 (m o331 (f o587) n) (m o459 (f (o715 P)) n))) (m o12 (m o171 (m o11 (f o11) n) (m o427 (f o11) n)) (m o11 (m o12 (f o619) n) (f o12)))) (m o59 (m o91 (m o11 (m o12 (f o539) n) (m o11 (f o667) n)) (m o12 (m o347 (f o11) n) (f o11))) (m o123 (m o187 (m o11 (f (o571 P)) n) (m o443 (f o570) n)) (m o251 (m o11 (f o11) n) (f o12))))))) (m (boot_o_5 P) (m (boot_o_9 P) (m o17 (m o33 (m o12 (m o11 (m o257 (f o11) n) (m o385 (f o641) n)) (m o11 (m o12 (f o577) n) (m o11 (f o705) n))) (m o97 (m o161 (m o11 (f o545) n) (m o417 (f o11) n)) (m o11 (m o353 (f o609) n) (f o481)))) (m o49 (m o81 (m o145 (m o273 (f o11) n) (m o401 (f o12) n)) (m o209 (m o11 (f o11) n) (m o465 (f o11) n))) (m o11 (m o12 (m (o305 P) (f o561) n) (m o12 (f o689) n)) (m o241 (m o11 (f o625) n) (f o319))))) (m o11 (m o41 (m o73 (m o11 (m o265 (f (o521 P)) n) (m o11 (f o11) n)) (m o201 (m o329 (f o585) n) (m o457 (f o713) n))) (m o105 (m o11 (m o12 (f o553) n) (m o11 (f o681) n)) (m o12 (m o361 (f o11) n) (f o319)))) (m o11 (m o89 (m o153 (m o281 (f o537) n) (m o409 (f o665) n)) (m o217 (m o345 (f o12) n) (f o473))) (m (o121 P) (m o185 (m (o313 P) (f o11) n) (m o441 (f o697) n)) (m o11 (m o12 (f o633) n) (f o319)))))) (m o13 (m o21 (m o12 (m o69 (m o133 (m o12 (f o517) n) (m o389 (f o11) n)) (m o11 (m o325 (f o577) n) (m o11 (f o524) n))) (m o101 (m o11 (m o293 (f o12) n) (m o11 (f (o677 P)) n)) (m o229 (m o357 (f o613) n) (f o485)))) (m o11 (m o85 (m o12 (m o277 (f o11) n) (m o12 (f o661) n)) (m o213 (m o11 (f (o597 P)) n) (f o469))) (m o117 (m o181 (m o309 (f o565) n) (m o437 (f o693) n)) (m o245 (m o373 (f o12) n) (f o11))))) (m o11 (m o45 (m o77 (m o11 (m o12 (f o525) n) (m o11 (f o653) n)) (m o12 (m o333 (f o589) n) (m o12 (f o717) n))) (m o11 (m o173 (m o301 (f o557) n) (m o429 (f (o685 P)) n)) (m o237 (m o11 (f o11) n) (f o11)))) (m o61 (m o12 (m o157 (m o11 (f o11) n) (m o413 (f o669) n)) (m o11 (m o12 (f o605) n) (f o477))) (m o125 (m o189 (m o317 (f o573) n) (m o445 (f o11) n)) (m o11 (m o381 (f o637) n) (f o11)))))))) (m (boot_o_2 P) (m (boot_o_4 P) (m (boot_o_8 P) (m o12 (m o11 (m o11 (m (o128 P) (m o11 (f o512) n) (m o12 (f o640) n)) (m o192 (m o320 (f o576) n) (m o448 (f o704) n))) (m o96 (m o160 (m o288 (f o11) n) (m o416 (f o672) n)) (m o224 (m o352 (f o12) n) (f o480)))) (m o48 (m o80 (m o11 (m o272 (f (o528 P)) n) (m o11 (f o11) n)) (m o208 (m o336 (f o592) n) (m o464 (f o720) n))) (m o112 (m o11 (m o304 (f o560) n) (m o11 (f o688) n)) (m o12 (m o368 (f o11) n) (f o496))))) (m (o24 P) (m o40 (m o12 (m o136 (m o264 (f o11) n) (m o392 (f o648) n)) (m o11 (m o12 (f o12) n) (m o456 (f o712) n))) (m o104 (m o168 (m o11 (f o552) n) (m o424 (f (o680 P)) n)) (m o11 (m o360 (f o616) n) (f o488)))) (m o56 (m o11 (m o152 (m o280 (f o11) n) (m o408 (f o12) n)) (m o216 (m o11 (f o11) n) (f o472))) (m o11 (m o12 (m o23 (f o568) n) (m o12 (f o696) n)) (m o248 (m o11 (f o632) n) (f o504)))))) (m o12x15 (m o20 (m o11 (m o68 (m o132 (m o11 (f o11) n) (m o388 (f o644) n)) (m o196 (m o324 (f o576) n) (m o452 (f (o708 P)) n))) (m o12 (m o164 (m o11 (f o11) n) (m o420 (f o676) n)) (m o11 (m o12 (f o612) n) (f o484)))) (m o52 (m o84 (m o11 (m o12 (f o532) n) (m o11 (f o660) n)) (m o12 (m o340 (f o596) n) (m o12 (f o724) n))) (m o11 (m o180 (m o308 (f o564) n) (m o436 (f o692) n)) (m o244 (m o11 (f o11) n) (f o500))))) (m o28 (m o12 (m o76 (m o140 (m o11 (f o524) n) (m o396 (f o11) n)) (m o11 (m o332 (f o588) n) (m o11 (f o716) n))) (m o108 (m o11 (m o300 (f o12) n) (m o11 (f o577) n)) (m o236 (m o364 (f o620) n) (f o492)))) (m o11 (m o11 (m o12 (m o284 (f o267) n) (m o12 (f o668) n)) (m o220 (m o11 (f o604) n) (f o12))) (m o124 (m o188 (m o316 (f o11) n) (m o444 (f (o700 P)) n)) (m o252 (m o380 (f o12) n) (f o508))))))) (m (boot_o_6 P) (m (boot_o_10 P) (m o11 (m o34 (m o66 (m o130 (m o258 (f o12) n) (m o11 (f o11) n)) (m o194 (m o322 (f o577) n) (m o450 (f o11) n))) (m o98 (m o11 (m o12 (f o546) n) (m o11 (f o674) n)) (m o12 (m o354 (f o11) n) (f o11)))) (m o11 (m o82 (m o146 (m o274 (f o530) n) (m o402 (f o658) n)) (m o210 (m o338 (f o594) n) (m o466 (f o722) n))) (m o12 (m o178 (m o306 (f o562) n) (m o434 (f o690) n)) (m o11 (m o12 (f o626) n) (f o498))))) (m o26 (m o42 (m o11 (m o138 (m o266 (f o522) n) (m o394 (f o12) n)) (m o202 (m o11 (f o11) n) (m o458 (f o714) n))) (m o11 (m o12 (m o298 (f o554) n) (m o12 (f (o682 P)) n)) (m o234 (m o11 (f o618) n) (f o490)))) (m o12 (m o90 (m o154 (m o11 (f o538) n) (m o410 (f o11) n)) (m o11 (m o346 (f o602) n) (f o474))) (m o122 (m o11 (m o314 (f o570) n) (m o11 (f o698) n)) (m o250 (m o378 (f o634) n) (f o506)))))) (m o14 (m o11 (m o38 (m o70 (m o11 (m o262 (f o518) n) (m o11 (f o646) n)) (m o12 (m o326 (f o11) n) (m o12 (f (o710 P)) n))) (m o11 (m o166 (m o294 (f o550) n) (m o422 (f o678) n)) (m o230 (m o11 (f o11) n) (f o486)))) (m o54 (m o23 (m o150 (m o11 (f o12) n) (m o406 (f o662) n)) (m o11 (m o12 (f o598) n) (f o11))) (m o118 (m o182 (m o310 (f o566) n) (m o438 (f o694) n)) (m o11 (m o374 (f o630) n) (f o502))))) (m o12 (m o11 (m o11 (m o12 (m o270 (f o11) n) (m o12 (f o654) n)) (m o206 (m o11 (f o11) n) (m o462 (f o11) n))) (m o110 (m o174 (m o302 (f o11) n) (m o430 (f o524) n)) (m o238 (m o366 (f o12) n) (f o494)))) (m o62 (m o94 (m o11 (m o286 (f o12) n) (m o11 (f o11) n)) (m o222 (m o350 (f o606) n) (f o11))) (m o11 (m o11 (m o318 (f o574) n) (m o11 (f o12) n)) (m o12 (m o382 (f o11) n) (f o510)))))))))
noncomputable abbrev o710x16 (P : Params) := dO [e P "__module__" 1066 (s "casbin.rbac.default_role_manager.role_manager" 1057), e P "__firstlineno__" 1070 (.int 367 1069), e P "_written_out_" 1072 (.int 0 1096), e P "_member_names_" 1076 (r 705), e P "_value_repr_" 1078 N, e P "__static_attributes__" 1079 (r 706), e P "__doc__" 1089 N, e P "__new__" 1135 (r 589), e P "STR_PATTERN" 1185 (r 736), e P "PATTERN_STR" 1193 (r 738), e P "PATTERN_PATTERN" 1201 (r 740), e P "_member_map_" 1215 (r 750), e P "_value2member_map_" 1226 (r 754), e P "_hashable_values_" 1234 (r 758)] 9
noncomputable abbrev o725 (P : Params) : Obj := ⟨(.type "frame"), none, (.dict (E [e P "_v0" 1137 (.int 0 1136), e P "_m0" 1139 (r 736), e P "_v1" 1151 (.int 1 1150), e P "_m1" 1153 (r 738), e P "_v2" 1165 (.int 2 1164), e P "_m2" 1167 (r 740)]) 6), O []⟩
noncomputable abbrev o726 : Obj := ⟨(.type "method"), none, (.fields (L [(r 333), (r 711)])), O []⟩
noncomputable abbrev o727 (P : Params) : Obj := ⟨(.type "frame"), none, (.dict (E [e P "cls" 1116 (r 711), e P "own_init" 1117 (.bool false), e P "asks_new" 1118 (.bool true)]) 3), O []⟩
noncomputable abbrev o729 : Obj := ⟨(.type "builtin_function_or_method"), none, (.fields (L [(b "object.__init_subclass__"), (.type "object")])), O []⟩
noncomputable abbrev o730 := tO [(s "type object 'MatchOrder' has no attribute '_value_'" 1126)]
noncomputable abbrev o731 : Obj := ⟨(.type "AttributeError"), none, (.fields (L [(r 730), N, N, N, (.bool false), N, (j 0), (j 0)])), O []⟩
noncomputable abbrev o732 (P : Params) : Obj := ⟨(.type "frame"), none, (.dict (E [e P "cls" 1129 (r 711), e P "name" 1130 (s "__new__" 1128), e P "value" 1131 (r 589)]) 3), O []⟩
noncomputable abbrev o735 (P : Params) := dO [e P "_value_" 1141 (.int 0 1136), e P "_name_" 1144 (s "STR_PATTERN" 1142), e P "__objclass__" 1146 (r 711), e P "_sort_order_" 1149 (.int 0 1147)] 4
noncomputable abbrev o736 : Obj := ⟨(r 711), (some 735), .plain, O []⟩
noncomputable abbrev o737 (P : Params) := dO [e P "_value_" 1155 (.int 1 1150), e P "_name_" 1158 (s "PATTERN_STR" 1156), e P "__objclass__" 1160 (r 711), e P "_sort_order_" 1163 (.int 1 1161)] 4
noncomputable abbrev o738 : Obj := ⟨(r 711), (some 737), .plain, O []⟩
noncomputable abbrev o739 (P : Params) := dO [e P "_value_" 1169 (.int 2 1164), e P "_name_" 1172 (s "PATTERN_PATTERN" 1170), e P "__objclass__" 1174 (r 711), e P "_sort_order_" 1177 (.int 2 1175)] 4
noncomputable abbrev o740 : Obj := ⟨(r 711), (some 739), .plain, O []⟩
noncomputable abbrev o741 (P : Params) : Obj := ⟨(.type "frame"), none, (.dict (E [e P "cls" 1179 (r 711), e P "name" 1180 (s "STR_PATTERN" 1178), e P "value" 1181 (r 736)]) 3), O []⟩
noncomputable abbrev o744 (P : Params) : Obj := ⟨(.type "frame"), none, (.dict (E [e P "cls" 1187 (r 711), e P "name" 1188 (s "PATTERN_STR" 1186), e P "value" 1189 (r 738)]) 3), O []⟩
noncomputable abbrev o747 (P : Params) : Obj := ⟨(.type "frame"), none, (.dict (E [e P "cls" 1195 (r 711), e P "name" 1196 (s "PATTERN_PATTERN" 1194), e P "value" 1197 (r 740)]) 3), O []⟩
noncomputable abbrev o750 (P : Params) := dO [e P "STR_PATTERN" 1202 (r 736), e P "PATTERN_STR" 1203 (r 738), e P "PATTERN_PATTERN" 1204 (r 740)] 3
noncomputable abbrev o751 (P : Params) : Obj := ⟨(.type "frame"), none, (.dict (E [e P "cls" 1209 (r 711), e P "name" 1210 (s "_member_map_" 1208), e P "value" 1211 (r 750)]) 3), O []⟩
noncomputable abbrev o754 := dO [⟨0, (.int 0 1136), (r 736)⟩, ⟨1, (.int 1 1150), (r 738)⟩, ⟨2, (.int 2 1164), (r 740)⟩] 3
noncomputable abbrev o755 (P : Params) : Obj := ⟨(.type "frame"), none, (.dict (E [e P "cls" 1220 (r 711), e P "name" 1221 (s "_value2member_map_" 1219), e P "value" 1222 (r 754)]) 3), O []⟩
noncomputable abbrev o758 : Obj := ⟨(.type "list"), none, (.seq (L [(.int 0 1136), (.int 1 1150), (.int 2 1164)]) 0), O []⟩
noncomputable abbrev o759 (P : Params) : Obj := ⟨(.type "frame"), none, (.dict (E [e P "cls" 1228 (r 711), e P "name" 1229 (s "_hashable_values_" 1227), e P "value" 1230 (r 758)]) 3), O []⟩
noncomputable abbrev T16 (P : Params) : BT := (m (boot_o_0 P) (m (boot_o_1 P) (m (o3x15 P) (m (boot_o_7 P) (m o11 (m o31 (m o63 (m o23 (m o255 (f o511) n) (m o11 (f o639) n)) (m o12 (m o319 (f o575) n) (m o12 (f o703) n))) (m o11 (m o159 (m o287 (f o543) n) (m o415 (f o12) n)) (m o223 (m o11 (f o11) n) (m o479 (f (o735 P)) n)))) (m o47 (m (o79 P) (m o143 (m o11 (f o23) n) (m o399 (f o655) n)) (m o11 (m o12 (f o12) n) (m o11 (f o12) n))) (m o111 (m o175 (m o303 (f o559) n) (m o431 (f (o687 P)) n)) (m o11 (m o367 (f o623) n) (m o495 (f (o751 P)) n))))) (m o23 (m o11 (m o11 (m o12 (m o11 (f o519) n) (m o12 (f o647) n)) (m o199 (m o11 (f o11) n) (m o455 (f o711) n))) (m o103 (m o167 (m o295 (f o11) n) (m o423 (f (o679 P)) n)) (m o231 (m o359 (f o12) n) (m o487 (f o717) n)))) (m o55 (m (o87 P) (m o11 (m o279 (f o535) n) (m o11 (f o11) n)) (m o215 (m o343 (f o577) n) (m o471 (f (o727 P)) n))) (m o119 (m o11 (m o311 (f o567) n) (m o11 (f (o695 P)) n)) (m o12 (m o375 (f o11) n) (m o503 (f (o759 P)) n)))))) (m o11 (m o19 (m o35 (m o11 (m o131 (m o259 (f o515) n) (m o387 (f o12) n)) (m o195 (m o11 (f o576) n) (m o451 (f o577) n))) (m o11 (m o12 (m o291 (f o547) n) (m o12 (f o675) n)) (m o227 (m o11 (f o611) n) (m o12 (f (o739 P)) n)))) (m o12 (m o83 (m o147 (m o11 (f o531) n) (m o403 (f o11) n)) (m o11 (m o339 (f o595) n) (m o11 (f o723) n))) (m o115 (m o11 (m o307 (f (o563 P)) n) (m o11 (f o691) n)) (m o243 (m o371 (f o627) n) (m o12 (f (o755 P)) n))))) (m o27 (m o11 (m o75 (m o139 (m o267 (f o523) n) (m o395 (f o651) n)) (m o203 (m o331 (f o587) n) (m o459 (f (o715 P)) n))) (m o12 (m o171 (m o11 (f o11) n) (m o427 (f o11) n)) (m o11 (m o12 (f o619) n) (m o12 (f (o747 P)) n)))) (m o59 (m o91 (m o11 (m o12 (f o539) n) (m o11 (f o667) n)) (m o12 (m o347 (f o11) n) (m o11 (f o731) n))) (m o123 (m o187 (m o11 (f (o571 P)) n) (m o443 (f o570) n)) (m o251 (m o11 (f o11) n) (f o12))))))) (m (boot_o_5 P) (m (boot_o_9 P) (m o17 (m o33 (m o12 (m o11 (m o257 (f o11) n) (m o385 (f o641) n)) (m o11 (m o12 (f o577) n) (m o11 (f o705) n))) (m o97 (m o161 (m o11 (f o545) n) (m o417 (f o11) n)) (m o11 (m o353 (f o609) n) (m o481 (f (o737 P)) n)))) (m o49 (m o81 (m o145 (m o273 (f o11) n) (m o401 (f o12) n)) (m o209 (m o11 (f o11) n) (m o465 (f o11) n))) (m o11 (m o12 (m (o305 P) (f o561) n) (m o12 (f o689) n)) (m o241 (m o11 (f o625) n) (m o319 (f o717) n))))) (m o11 (m o41 (m o73 (m o11 (m o265 (f (o521 P)) n) (m o11 (f o11) n)) (m o201 (m o329 (f o585) n) (m o457 (f o713) n))) (m o105 (m o11 (m o12 (f o553) n) (m o11 (f o681) n)) (m o12 (m o361 (f o11) n) (m o319 (f o716) n)))) (m o11 (m o89 (m o153 (m o281 (f o537) n) (m o409 (f o665) n)) (m o217 (m o345 (f o12) n) (m o473 (f o729) n))) (m (o121 P) (m o185 (m (o313 P) (f o11) n) (m o441 (f o697) n)) (m o11 (m o12 (f o633) n) (m o319 (f o717) n)))))) (m o13 (m o21 (m o12 (m o69 (m o133 (m o12 (f o517) n) (m o389 (f o11) n)) (m o11 (m o325 (f o577) n) (m o11 (f o524) n))) (m o101 (m o11 (m o293 (f o12) n) (m o11 (f (o677 P)) n)) (m o229 (m o357 (f o613) n) (m o485 (f (o741 P)) n)))) (m o11 (m o85 (m o12 (m o277 (f o11) n) (m o12 (f o661) n)) (m o213 (m o11 (f (o597 P)) n) (m o469 (f (o725 P)) n))) (m o117 (m o181 (m o309 (f o565) n) (m o437 (f o693) n)) (m o245 (m o373 (f o12) n) (m o11 (f o717) n))))) (m o11 (m o45 (m o77 (m o11 (m o12 (f o525) n) (m o11 (f o653) n)) (m o12 (m o333 (f o589) n) (m o12 (f o717) n))) (m o11 (m o173 (m o301 (f o557) n) (m o429 (f (o685 P)) n)) (m o237 (m o11 (f o11) n) (m o11 (f o717) n)))) (m o61 (m o12 (m o157 (m o11 (f o11) n) (m o413 (f o669) n)) (m o11 (m o12 (f o605) n) (m o477 (f o716) n))) (m o125 (m o189 (m o317 (f o573) n) (m o445 (f o11) n)) (m o11 (m o381 (f o637) n) (f o11)))))))) (m (boot_o_2 P) (m (boot_o_4 P) (m (boot_o_8 P) (m o12 (m o11 (m o11 (m (o128 P) (m o11 (f o512) n) (m o12 (f o640) n)) (m o192 (m o320 (f o576) n) (m o448 (f o704) n))) (m o96 (m o160 (m o288 (f o11) n) (m o416 (f o672) n)) (m o224 (m o352 (f o12) n) (m o480 (f o736) n)))) (m o48 (m o80 (m o11 (m o272 (f (o528 P)) n) (m o11 (f o11) n)) (m o208 (m o336 (f o592) n) (m o464 (f o720) n))) (m o112 (m o11 (m o304 (f o560) n) (m o11 (f o688) n)) (m o12 (m o368 (f o11) n) (m o496 (f o716) n))))) (m (o24 P) (m o40 (m o12 (m o136 (m o264 (f o11) n) (m o392 (f o648) n)) (m o11 (m o12 (f o12) n) (m o456 (f o712) n))) (m o104 (m o168 (m o11 (f o552) n) (m o424 (f (o680 P)) n)) (m o11 (m o360 (f o616) n) (m o488 (f (o744 P)) n)))) (m o56 (m o11 (m o152 (m o280 (f o11) n) (m o408 (f o12) n)) (m o216 (m o11 (f o11) n) (m o472 (f o713) n))) (m o11 (m o12 (m o23 (f o568) n) (m o12 (f o696) n)) (m o248 (m o11 (f o632) n) (m o504 (f o716) n)))))) (m o12x15 (m o20 (m o11 (m o68 (m o132 (m o11 (f o11) n) (m o388 (f o644) n)) (m o196 (m o324 (f o576) n) (m o452 (f (o708 P)) n))) (m o12 (m o164 (m o11 (f o11) n) (m o420 (f o676) n)) (m o11 (m o12 (f o612) n) (m o484 (f o740) n)))) (m o52 (m o84 (m o11 (m o12 (f o532) n) (m o11 (f o660) n)) (m o12 (m o340 (f o596) n) (m o12 (f o724) n))) (m o11 (m o180 (m o308 (f o564) n) (m o436 (f o692) n)) (m o244 (m o11 (f o11) n) (m o500 (f o716) n))))) (m o28 (m o12 (m o76 (m o140 (m o11 (f o524) n) (m o396 (f o11) n)) (m o11 (m o332 (f o588) n) (m o11 (f o716) n))) (m o108 (m o11 (m o300 (f o12) n) (m o11 (f o577) n)) (m o236 (m o364 (f o620) n) (m o492 (f o716) n)))) (m o11 (m o11 (m o12 (m o284 (f o267) n) (m o12 (f o668) n)) (m o220 (m o11 (f o604) n) (m o12 (f (o732 P)) n))) (m o124 (m o188 (m o316 (f o11) n) (m o444 (f (o700 P)) n)) (m o252 (m o380 (f o12) n) (f o508))))))) (m (boot_o_6 P) (m (boot_o_10 P) (m o11 (m o34 (m o66 (m o130 (m o258 (f o12) n) (m o11 (f o11) n)) (m o194 (m o322 (f o577) n) (m o450 (f o11) n))) (m o98 (m o11 (m o12 (f o546) n) (m o11 (f o674) n)) (m o12 (m o354 (f o11) n) (m o11 (f o738) n)))) (m o11 (m o82 (m o146 (m o274 (f o530) n) (m o402 (f o658) n)) (m o210 (m o338 (f o594) n) (m o466 (f o722) n))) (m o12 (m o178 (m o306 (f o562) n) (m o434 (f o690) n)) (m o11 (m o12 (f o626) n) (m o498 (f o754) n))))) (m o26 (m o42 (m o11 (m o138 (m o266 (f o522) n) (m o394 (f o12) n)) (m o202 (m o11 (f o11) n) (m o458 (f o714) n))) (m o11 (m o12 (m o298 (f o554) n) (m o12 (f (o682 P)) n)) (m o234 (m o11 (f o618) n) (m o490 (f o717) n)))) (m o12 (m o90 (m o154 (m o11 (f o538) n) (m o410 (f o11) n)) (m o11 (m o346 (f o602) n) (m o474 (f o730) n))) (m o122 (m o11 (m o314 (f o570) n) (m o11 (f o698) n)) (m o250 (m o378 (f o634) n) (f o506)))))) (m o14 (m o11 (m o38 (m o70 (m o11 (m o262 (f o518) n) (m o11 (f o646) n)) (m o12 (m o326 (f o11) n) (m o12 (f (o710x16 P)) n))) (m o11 (m o166 (m o294 (f o550) n) (m o422 (f o678) n)) (m o230 (m o11 (f o11) n) (m o486 (f o716) n)))) (m o54 (m o23 (m o150 (m o11 (f o12) n) (m o406 (f o662) n)) (m o11 (m o12 (f o598) n) (m o11 (f o726) n))) (m o118 (m o182 (m o310 (f o566) n) (m o438 (f o694) n)) (m o11 (m o374 (f o630) n) (m o502 (f o758) n))))) (m o12 (m o11 (m o11 (m o12 (m o270 (f o11) n) (m o12 (f o654) n)) (m o206 (m o11 (f o11) n) (m o462 (f o11) n))) (m o110 (m o174 (m o302 (f o11) n) (m o430 (f o524) n)) (m o238 (m o366 (f o12) n) (m o494 (f (o750 P)) n)))) (m o62 (m o94 (m o11 (m o286 (f o12) n) (m o11 (f o11) n)) (m o222 (m o350 (f o606) n) (m o11 (f o717) n))) (m o11 (m o11 (m o318 (f o574) n) (m o11 (f o12) n)) (m o12 (m o382 (f o11) n) (f o510)))))))))
noncomputable abbrev o3x33 (P : Params) := dO [e P "__name__" 165 (s "law_ae0023_01" 1660), e P "__doc__" 166 N, e P "__package__" 167 N, e P "__loader__" 168 (b "__main__.__loader__#opaque"), e P "__spec__" 169 N, e P "__annotations__" 170 (r 6), e P "__builtins__" 171 (r 4), e P "__file__" 173 (cp 172), e P "__cached__" 174 N, e P "_wall" 193 (r 21), e P "RoleManager" 277 (r 973), e P "RoleManager_role_manager" 278 (r 80), e P "ConditionalRoleManager" 336 (r 1061), e P "ConditionalRoleManager_role_manager" 337 (r 122), e P "_OWN_NAMES" 345 (r 125), e P "mappingproxy" 553 (r 306), e P "_MEMBERS_VIEW" 554 (r 306), e P "EnumType" 814 (r 522), e P "_EnumField" 869 (r 564), e P "Enum" 1056 (r 688), e P "MatchOrder" 1102 (r 711), e P "_lay_MatchOrder" 1114 (r 724), e P "Role" 1363 (r 854), e P "RoleManager_role_manager2" 1521 (r 973), e P "match_error_handler" 1530 (r 982), e P "ConditionalRoleManager_role_manager2" 1659 (r 1061), e P "_law_names" 1667 (r 1070), e P "_law_rows" 1680 (r 1078), e P "_law_number" 1688 (r 1085), e P "_law_even" 1695 (r 1092), e P "_law_two" 1702 (r 1099), e P "_law_rising" 1709 (r 1106), e P "_law_open" 1719 (r 1113), e P "_law_reached" 1725 (r 1118), e P "_law_asked" 1735 (r 1125), e P "law" 1741 (r 1130)] 36
noncomputable abbrev o12x33 := vO [(j 1), (j 0), (r 20), (j 5), (j 0), (r 27), (j 28), (j 0), (r 90), (j 44), (j 0), (r 131), (j 126), (j 0), (r 317), (j 256), (j 0), (r 531), (j 273), (j 0), (r 574), (j 367), (j 0), (r 703), (j 371), (j 0), (r 723), (j 398), (j 0), (r 767), (j 452), (j 0), (r 864), (j 542), (j 0), (r 981), (j 547), (j 0), (r 988), (j 620), (j 0), (r 1069), (j 623), (j 0), (r 1084), (j 625), (j 0), (r 1091), (j 627), (j 0), (r 1098), (j 629), (j 0), (r 1105), (j 631), (j 0), (r 1112), (j 638), (j 0), (r 1117), (j 645), (j 0), (r 1124), (j 647), (j 0), (r 1129)]
noncomputable abbrev o80x33 : Obj := ⟨(.type "type"), none, (.cls { name := S "RoleManager", bases := [(.type "object")], mro := [(r 80), (.type "object")], ns := 79, qualname := S "RoleManager", hasDict := true, slotNames := [], subclasses := [(r 122), (r 973)], abstract := false, collection := none, hasDel := false }), O [none, none, (some (s "RoleManager" 196)), (some (s "RoleManager" 204)), (some (b "object.__new__")), (some (.bool true))]⟩
noncomputable abbrev o122x33 : Obj := ⟨(.type "type"), none, (.cls { name := S "ConditionalRoleManager", bases := [(r 80)], mro := [(r 122), (r 80), (.type "object")], ns := 121, qualname := S "ConditionalRoleManager", hasDict := true, slotNames := [], subclasses := [(r 1061)], abstract := false, collection := none, hasDel := false }), O [(some (r 85)), none, (some (s "ConditionalRoleManager" 279)), (some (s "ConditionalRoleManager" 287)), (some (b "object.__new__")), (some (.bool true))]⟩
noncomputable abbrev o764 (P : Params) := dO [e P "__module__" 1242 (s "casbin.rbac.default_role_manager.role_manager" 1057), e P "__qualname__" 1244 (s "Role" 1243), e P "__firstlineno__" 1246 (.int 398 1245), e P "__init__" 1254 (r 775), e P "add_role" 1260 (r 780), e P "remove_role" 1266 (r 785), e P "_add_user" 1272 (r 790), e P "_remove_user" 1278 (r 795), e P "copy_from" 1288 (r 802), e P "empty" 1295 (r 809), e P "to_string" 1302 (r 816), e P "get_roles" 1309 (r 823), e P "add_link_condition_func" 1319 (r 830), e P "get_link_condition_func" 1329 (r 837), e P "set_link_condition_func_params" 1339 (r 844), e P "get_link_condition_func_params" 1350 (r 851), e P "__static_attributes__" 1356 (r 852)] 17
noncomputable abbrev o766 := vO [(j 400), (j 4), (r 774), (j 407), (j 4), (r 779), (j 411), (j 4), (r 784), (j 417), (j 4), (r 789), (j 420), (j 4), (r 794), (j 423), (j 4), (r 801), (j 429), (j 4), (r 808), (j 432), (j 4), (r 815), (j 435), (j 4), (r 822), (j 438), (j 4), (r 829), (j 441), (j 4), (r 836), (j 445), (j 4), (r 843), (j 448), (j 4), (r 850)]
noncomputable abbrev o767 := cO [(s "Role" 1237), (s "Role" 1238), (cp 1239), (j 398), (j 0), (j 0), (j 0), (j 0), (r 765), (.bool false), (j 181), (r 766), N, N, N, N, (j 1240), (j 398), (cp 1241)]
noncomputable abbrev o768 : Obj := ⟨(.type "frame"), none, .plain, O [(some (r 767)), (some (r 3)), (some (r 764)), none, (some (s "casbin.rbac.default_role_manager.role_manager" 1057)), none, (some (r 0))]⟩
noncomputable abbrev o771 := tO [(s "self" 1250), (s "name" 1251)]
noncomputable abbrev o773 := gO (G 17 0) "Role.__init__"
noncomputable abbrev o774 := cO [(s "__init__" 1247), (s "Role.__init__" 1248), (cp 1249), (j 400), (j 2), (j 0), (j 0), (j 3), (r 769), (.bool true), (j 181), (r 770), N, (r 771), (r 772), (r 773), (j 1252), (j 400), (cp 1253)]
noncomputable abbrev o775 := fO (G 17 0) "Role.__init__" (s "casbin.rbac.default_role_manager.role_manager" 1057) 774
noncomputable abbrev o778 := gO (G 17 1) "Role.add_role"
noncomputable abbrev o779 := cO [(s "add_role" 1255), (s "Role.add_role" 1256), (cp 1257), (j 407), (j 2), (j 0), (j 0), (j 3), (r 776), (.bool true), (j 181), (r 777), N, N, N, (r 778), (j 1258), (j 407), (cp 1259)]
noncomputable abbrev o780 := fO (G 17 1) "Role.add_role" (s "casbin.rbac.default_role_manager.role_manager" 1057) 779
noncomputable abbrev o782 := vO []
noncomputable abbrev o783 := gO (G 17 2) "Role.remove_role"
noncomputable abbrev o784 := cO [(s "remove_role" 1261), (s "Role.remove_role" 1262), (cp 1263), (j 411), (j 2), (j 0), (j 0), (j 3), (r 781), (.bool true), (j 181), (r 782), N, N, N, (r 783), (j 1264), (j 411), (cp 1265)]
noncomputable abbrev o785 := fO (G 17 2) "Role.remove_role" (s "casbin.rbac.default_role_manager.role_manager" 1057) 784
noncomputable abbrev o788 := gO (G 17 3) "Role._add_user"
noncomputable abbrev o789 := cO [(s "_add_user" 1267), (s "Role._add_user" 1268), (cp 1269), (j 417), (j 2), (j 0), (j 0), (j 3), (r 786), (.bool true), (j 181), (r 787), N, N, N, (r 788), (j 1270), (j 417), (cp 1271)]
noncomputable abbrev o790 := fO (G 17 3) "Role._add_user" (s "casbin.rbac.default_role_manager.role_manager" 1057) 789
noncomputable abbrev o793 := gO (G 17 4) "Role._remove_user"
noncomputable abbrev o794 := cO [(s "_remove_user" 1273), (s "Role._remove_user" 1274), (cp 1275), (j 420), (j 2), (j 0), (j 0), (j 3), (r 791), (.bool true), (j 181), (r 792), N, N, N, (r 793), (j 1276), (j 420), (cp 1277)]
noncomputable abbrev o795 := fO (G 17 4) "Role._remove_user" (s "casbin.rbac.default_role_manager.role_manager" 1057) 794
noncomputable abbrev o798 := tO [(s "self" 1282), (s "role" 1283), (s "r" 1284), (s "u" 1285)]
noncomputable abbrev o800 := gO (G 17 5) "Role.copy_from"
noncomputable abbrev o801 := cO [(s "copy_from" 1279), (s "Role.copy_from" 1280), (cp 1281), (j 423), (j 2), (j 0), (j 0), (j 3), (r 796), (.bool true), (j 181), (r 797), N, (r 798), (r 799), (r 800), (j 1286), (j 423), (cp 1287)]
noncomputable abbrev o802 := fO (G 17 5) "Role.copy_from" (s "casbin.rbac.default_role_manager.role_manager" 1057) 801
noncomputable abbrev o805 := tO [(s "self" 1292)]
noncomputable abbrev o807 := gO (G 17 6) "Role.empty"
noncomputable abbrev o808 := cO [(s "empty" 1289), (s "Role.empty" 1290), (cp 1291), (j 429), (j 1), (j 0), (j 0), (j 3), (r 803), (.bool true), (j 181), (r 804), N, (r 805), (r 806), (r 807), (j 1293), (j 429), (cp 1294)]
noncomputable abbrev o809 := fO (G 17 6) "Role.empty" (s "casbin.rbac.default_role_manager.role_manager" 1057) 808
noncomputable abbrev o812 := tO [(s "self" 1299)]
noncomputable abbrev o814 := gO (G 17 7) "Role.to_string"
noncomputable abbrev o815 := cO [(s "to_string" 1296), (s "Role.to_string" 1297), (cp 1298), (j 432), (j 1), (j 0), (j 0), (j 3), (r 810), (.bool true), (j 181), (r 811), N, (r 812), (r 813), (r 814), (j 1300), (j 432), (cp 1301)]
noncomputable abbrev o816 := fO (G 17 7) "Role.to_string" (s "casbin.rbac.default_role_manager.role_manager" 1057) 815
noncomputable abbrev o819 := tO [(s "self" 1306)]
noncomputable abbrev o821 := gO (G 17 8) "Role.get_roles"
noncomputable abbrev o822 := cO [(s "get_roles" 1303), (s "Role.get_roles" 1304), (cp 1305), (j 435), (j 1), (j 0), (j 0), (j 3), (r 817), (.bool true), (j 181), (r 818), N, (r 819), (r 820), (r 821), (j 1307), (j 435), (cp 1308)]
noncomputable abbrev o823 := fO (G 17 8) "Role.get_roles" (s "casbin.rbac.default_role_manager.role_manager" 1057) 822
noncomputable abbrev o826 := tO [(s "self" 1313), (s "role" 1314), (s "domain" 1315), (s "fn" 1316)]
noncomputable abbrev o828 := gO (G 17 9) "Role.add_link_condition_func"
noncomputable abbrev o829 := cO [(s "add_link_condition_func" 1310), (s "Role.add_link_condition_func" 1311), (cp 1312), (j 438), (j 4), (j 0), (j 0), (j 3), (r 824), (.bool true), (j 181), (r 825), N, (r 826), (r 827), (r 828), (j 1317), (j 438), (cp 1318)]
noncomputable abbrev o830 := fO (G 17 9) "Role.add_link_condition_func" (s "casbin.rbac.default_role_manager.role_manager" 1057) 829
noncomputable abbrev o833 := tO [(s "self" 1323), (s "role" 1324), (s "domain" 1325), (s "key" 1326)]
noncomputable abbrev o835 := gO (G 17 10) "Role.get_link_condition_func"
noncomputable abbrev o836 := cO [(s "get_link_condition_func" 1320), (s "Role.get_link_condition_func" 1321), (cp 1322), (j 441), (j 3), (j 0), (j 0), (j 3), (r 831), (.bool true), (j 181), (r 832), N, (r 833), (r 834), (r 835), (j 1327), (j 441), (cp 1328)]
noncomputable abbrev o837 := fO (G 17 10) "Role.get_link_condition_func" (s "casbin.rbac.default_role_manager.role_manager" 1057) 836
noncomputable abbrev o840 := tO [(s "self" 1333), (s "role" 1334), (s "domain" 1335), (s "params" 1336)]
noncomputable abbrev o842 := gO (G 17 11) "Role.set_link_condition_func_params"
noncomputable abbrev o843 := cO [(s "set_link_condition_func_params" 1330), (s "Role.set_link_condition_func_params" 1331), (cp 1332), (j 445), (j 3), (j 0), (j 0), (j 7), (r 838), (.bool true), (j 181), (r 839), N, (r 840), (r 841), (r 842), (j 1337), (j 445), (cp 1338)]
noncomputable abbrev o844 := fO (G 17 11) "Role.set_link_condition_func_params" (s "casbin.rbac.default_role_manager.role_manager" 1057) 843
noncomputable abbrev o847 := tO [(s "self" 1343), (s "role" 1344), (s "domain" 1345), (s "key" 1346), (s "params" 1347)]
noncomputable abbrev o849 := gO (G 17 12) "Role.get_link_condition_func_params"
noncomputable abbrev o850 := cO [(s "get_link_condition_func_params" 1340), (s "Role.get_link_condition_func_params" 1341), (cp 1342), (j 448), (j 3), (j 0), (j 0), (j 3), (r 845), (.bool true), (j 181), (r 846), N, (r 847), (r 848), (r 849), (j 1348), (j 448), (cp 1349)]
noncomputable abbrev o851 := fO (G 17 12) "Role.get_link_condition_func_params" (s "casbin.rbac.default_role_manager.role_manager" 1057) 850
noncomputable abbrev o852 := tO [(s "link_condition_func_map" 1351), (s "link_condition_func_params_map" 1352), (s "name" 1353), (s "roles" 1354), (s "users" 1355)]
noncomputable abbrev o853 (P : Params) := dO [e P "__module__" 1242 (s "casbin.rbac.default_role_manager.role_manager" 1057), e P "__firstlineno__" 1246 (.int 398 1245), e P "__init__" 1254 (r 775), e P "add_role" 1260 (r 780), e P "remove_role" 1266 (r 785), e P "_add_user" 1272 (r 790), e P "_remove_user" 1278 (r 795), e P "copy_from" 1288 (r 802), e P "empty" 1295 (r 809), e P "to_string" 1302 (r 816), e P "get_roles" 1309 (r 823), e P "add_link_condition_func" 1319 (r 830), e P "get_link_condition_func" 1329 (r 837), e P "set_link_condition_func_params" 1339 (r 844), e P "get_link_condition_func_params" 1350 (r 851), e P "__static_attributes__" 1356 (r 852), e P "__dict__" 1358 (r 855), e P "__weakref__" 1360 (r 856), e P "__doc__" 1361 N] 4
noncomputable abbrev o854 : Obj := ⟨(.type "type"), none, (.cls { name := S "Role", bases := [(.type "object")], mro := [(r 854), (.type "object")], ns := 853, qualname := S "Role", hasDict := true, slotNames := [], subclasses := [], abstract := false, collection := none, hasDel := false }), O [none, none, (some (s "Role" 1235)), (some (s "Role" 1243)), (some (b "object.__new__")), (some (.bool true))]⟩
noncomputable abbrev o855 : Obj := ⟨(.type "getset_descriptor"), none, (.fields (L [(s "__dict__" 1357), (r 854), (b "function.__dict__"), (b "function.__dict__#set")])), O []⟩
noncomputable abbrev o856 : Obj := ⟨(.type "getset_descriptor"), none, (.fields (L [(s "__weakref__" 1359), (r 854), (b "ExceptionGroup.__weakref__"), N])), O []⟩
noncomputable abbrev o857 : Obj := ⟨(.type "super"), none, (.fields (L [(r 854), (r 854), (r 854)])), O []⟩
noncomputable abbrev o858 : Obj := ⟨(.type "builtin_function_or_method"), none, (.fields (L [(b "object.__init_subclass__"), (r 854)])), O []⟩
noncomputable abbrev o861 (P : Params) := dO [e P "__module__" 1371 (s "casbin.rbac.default_role_manager.role_manager" 1057), e P "__qualname__" 1373 (s "RoleManager" 1372), e P "__firstlineno__" 1375 (.int 452 1374), e P "__init__" 1384 (r 873), e P "_rebuild" 1391 (r 880), e P "_matching_fn" 1402 (r 888), e P "_matching_roles" 1409 (r 894), e P "_get_role" 1419 (r 901), e P "add_matching_func" 1427 (r 908), e P "add_domain_matching_func" 1435 (r 916), e P "clear" 1442 (r 923), e P "add_link" 1455 (r 930), e P "delete_link" 1468 (r 937), e P "has_link" 1480 (r 944), e P "_has_link" 1486 (r 949), e P "get_roles" 1495 (r 956), e P "get_users" 1504 (r 963), e P "to_string" 1511 (r 970), e P "__static_attributes__" 1517 (r 971)] 19
noncomputable abbrev o863 := vO [(j 454), (j 4), (r 872), (j 461), (j 4), (r 879), (j 464), (j 4), (r 887), (j 472), (j 4), (r 893), (j 475), (j 4), (r 900), (j 484), (j 4), (r 907), (j 487), (j 4), (r 915), (j 490), (j 4), (r 922), (j 493), (j 4), (r 929), (j 505), (j 4), (r 936), (j 518), (j 4), (r 943), (j 523), (j 4), (r 948), (j 533), (j 4), (r 955), (j 536), (j 4), (r 962), (j 539), (j 4), (r 969)]
noncomputable abbrev o864 := cO [(s "RoleManager" 1366), (s "RoleManager" 1367), (cp 1368), (j 452), (j 0), (j 0), (j 0), (j 0), (r 862), (.bool false), (j 181), (r 863), N, N, N, N, (j 1369), (j 452), (cp 1370)]
noncomputable abbrev o865 : Obj := ⟨(.type "frame"), none, .plain, O [(some (r 864)), (some (r 3)), (some (r 861)), none, (some (s "casbin.rbac.default_role_manager.role_manager" 1057)), none, (some (r 0))]⟩
noncomputable abbrev o866 := tO [(.int 10 1376)]
noncomputable abbrev o869 := tO [(s "self" 1380), (s "max_hierarchy_level" 1381)]
noncomputable abbrev o871 := gO (G 18 0) "RoleManager.__init__"
noncomputable abbrev o872 := cO [(s "__init__" 1377), (s "RoleManager.__init__" 1378), (cp 1379), (j 454), (j 2), (j 0), (j 0), (j 3), (r 867), (.bool true), (j 181), (r 868), N, (r 869), (r 870), (r 871), (j 1382), (j 454), (cp 1383)]
noncomputable abbrev o873 : Obj := ⟨(.type "function"), none, (.func (fd (G 18 0) "RoleManager.__init__" 3 [] (r 866) N N (s "casbin.rbac.default_role_manager.role_manager" 1057) none (r 872) N 0)), O []⟩
noncomputable abbrev o876 := tO [(s "self" 1388)]
noncomputable abbrev o878 := gO (G 18 1) "RoleManager._rebuild"
noncomputable abbrev o879 := cO [(s "_rebuild" 1385), (s "RoleManager._rebuild" 1386), (cp 1387), (j 461), (j 1), (j 0), (j 0), (j 3), (r 874), (.bool true), (j 181), (r 875), N, (r 876), (r 877), (r 878), (j 1389), (j 461), (cp 1390)]
noncomputable abbrev o880 := fO (G 18 1) "RoleManager._rebuild" (s "casbin.rbac.default_role_manager.role_manager" 1057) 879
noncomputable abbrev o881 := tO [(r 736)]
noncomputable abbrev o884 := tO [(s "self" 1396), (s "str1" 1397), (s "str2" 1398), (s "match_order" 1399)]
noncomputable abbrev o886 := gO (G 18 2) "RoleManager._matching_fn"
noncomputable abbrev o887 := cO [(s "_matching_fn" 1393), (s "RoleManager._matching_fn" 1394), (cp 1395), (j 464), (j 4), (j 0), (j 0), (j 3), (r 882), (.bool true), (j 181), (r 883), N, (r 884), (r 885), (r 886), (j 1400), (j 464), (cp 1401)]
noncomputable abbrev o888 : Obj := ⟨(.type "function"), none, (.func (fd (G 18 2) "RoleManager._matching_fn" 3 [] (r 881) N N (s "casbin.rbac.default_role_manager.role_manager" 1057) none (r 887) N 0)), O []⟩
noncomputable abbrev o892 := gO (G 18 3) "RoleManager._matching_roles"
noncomputable abbrev o893 := cO [(s "_matching_roles" 1404), (s "RoleManager._matching_roles" 1405), (cp 1406), (j 472), (j 3), (j 0), (j 0), (j 3), (r 890), (.bool true), (j 181), (r 891), N, N, N, (r 892), (j 1407), (j 472), (cp 1408)]
noncomputable abbrev o894 : Obj := ⟨(.type "function"), none, (.func (fd (G 18 3) "RoleManager._matching_roles" 3 [] (r 889) N N (s "casbin.rbac.default_role_manager.role_manager" 1057) none (r 893) N 0)), O []⟩
noncomputable abbrev o897 := tO [(s "self" 1413), (s "name" 1414), (s "role" 1415), (s "pattern_role" 1416)]
noncomputable abbrev o899 := gO (G 18 4) "RoleManager._get_role"
noncomputable abbrev o900 := cO [(s "_get_role" 1410), (s "RoleManager._get_role" 1411), (cp 1412), (j 475), (j 2), (j 0), (j 0), (j 3), (r 895), (.bool true), (j 181), (r 896), N, (r 897), (r 898), (r 899), (j 1417), (j 475), (cp 1418)]
noncomputable abbrev o901 := fO (G 18 4) "RoleManager._get_role" (s "casbin.rbac.default_role_manager.role_manager" 1057) 900
noncomputable abbrev o904 := tO [(s "self" 1423), (s "fn" 1424)]
noncomputable abbrev o906 := gO (G 18 5) "RoleManager.add_matching_func"
noncomputable abbrev o907 := cO [(s "add_matching_func" 1420), (s "RoleManager.add_matching_func" 1421), (cp 1422), (j 484), (j 2), (j 0), (j 0), (j 3), (r 902), (.bool true), (j 181), (r 903), N, (r 904), (r 905), (r 906), (j 1425), (j 484), (cp 1426)]
noncomputable abbrev o908 := fO (G 18 5) "RoleManager.add_matching_func" (s "casbin.rbac.default_role_manager.role_manager" 1057) 907
noncomputable abbrev o912 := tO [(s "self" 1431), (s "fn" 1432)]
noncomputable abbrev o914 := gO (G 18 6) "RoleManager.add_domain_matching_func"
noncomputable abbrev o915 := cO [(s "add_domain_matching_func" 1428), (s "RoleManager.add_domain_matching_func" 1429), (cp 1430), (j 487), (j 2), (j 0), (j 0), (j 3), (r 910), (.bool true), (j 181), (r 911), N, (r 912), (r 913), (r 914), (j 1433), (j 487), (cp 1434)]
noncomputable abbrev o916 : Obj := ⟨(.type "function"), none, (.func (fd (G 18 6) "RoleManager.add_domain_matching_func" 3 [] (r 909) N N (s "casbin.rbac.default_role_manager.role_manager" 1057) none (r 915) N 0)), O []⟩
noncomputable abbrev o919 := tO [(s "self" 1439)]
noncomputable abbrev o921 := gO (G 18 7) "RoleManager.clear"
noncomputable abbrev o922 := cO [(s "clear" 1436), (s "RoleManager.clear" 1437), (cp 1438), (j 490), (j 1), (j 0), (j 0), (j 3), (r 917), (.bool true), (j 181), (r 918), N, (r 919), (r 920), (r 921), (j 1440), (j 490), (cp 1441)]
noncomputable abbrev o923 := fO (G 18 7) "RoleManager.clear" (s "casbin.rbac.default_role_manager.role_manager" 1057) 922
noncomputable abbrev o926 := tO [(s "self" 1446), (s "name1" 1447), (s "name2" 1448), (s "domain" 1449), (s "user" 1450), (s "role" 1451), (s "r" 1452)]
noncomputable abbrev o928 := gO (G 18 8) "RoleManager.add_link"
noncomputable abbrev o929 := cO [(s "add_link" 1443), (s "RoleManager.add_link" 1444), (cp 1445), (j 493), (j 3), (j 0), (j 0), (j 7), (r 924), (.bool true), (j 181), (r 925), N, (r 926), (r 927), (r 928), (j 1453), (j 493), (cp 1454)]
noncomputable abbrev o930 := fO (G 18 8) "RoleManager.add_link" (s "casbin.rbac.default_role_manager.role_manager" 1057) 929
noncomputable abbrev o933 := tO [(s "self" 1459), (s "name1" 1460), (s "name2" 1461), (s "domain" 1462), (s "user" 1463), (s "role" 1464), (s "r" 1465)]
noncomputable abbrev o935 := gO (G 18 9) "RoleManager.delete_link"
noncomputable abbrev o936 := cO [(s "delete_link" 1456), (s "RoleManager.delete_link" 1457), (cp 1458), (j 505), (j 3), (j 0), (j 0), (j 7), (r 931), (.bool true), (j 181), (r 932), N, (r 933), (r 934), (r 935), (j 1466), (j 505), (cp 1467)]
noncomputable abbrev o937 := fO (G 18 9) "RoleManager.delete_link" (s "casbin.rbac.default_role_manager.role_manager" 1057) 936
noncomputable abbrev o940 := tO [(s "self" 1472), (s "name1" 1473), (s "name2" 1474), (s "domain" 1475), (s "user" 1476), (s "role" 1477)]
noncomputable abbrev o942 := gO (G 18 10) "RoleManager.has_link"
noncomputable abbrev o943 := cO [(s "has_link" 1469), (s "RoleManager.has_link" 1470), (cp 1471), (j 518), (j 3), (j 0), (j 0), (j 7), (r 938), (.bool true), (j 181), (r 939), N, (r 940), (r 941), (r 942), (j 1478), (j 518), (cp 1479)]
noncomputable abbrev o944 := fO (G 18 10) "RoleManager.has_link" (s "casbin.rbac.default_role_manager.role_manager" 1057) 943
noncomputable abbrev o947 := gO (G 18 11) "RoleManager._has_link"
noncomputable abbrev o948 := cO [(s "_has_link" 1481), (s "RoleManager._has_link" 1482), (cp 1483), (j 523), (j 4), (j 0), (j 0), (j 3), (r 945), (.bool true), (j 181), (r 946), N, N, N, (r 947), (j 1484), (j 523), (cp 1485)]
noncomputable abbrev o949 := fO (G 18 11) "RoleManager._has_link" (s "casbin.rbac.default_role_manager.role_manager" 1057) 948
noncomputable abbrev o952 := tO [(s "self" 1490), (s "name" 1491), (s "domain" 1492)]
noncomputable abbrev o954 := gO (G 18 12) "RoleManager.get_roles"
noncomputable abbrev o955 := cO [(s "get_roles" 1487), (s "RoleManager.get_roles" 1488), (cp 1489), (j 533), (j 2), (j 0), (j 0), (j 7), (r 950), (.bool true), (j 181), (r 951), N, (r 952), (r 953), (r 954), (j 1493), (j 533), (cp 1494)]
noncomputable abbrev o956 := fO (G 18 12) "RoleManager.get_roles" (s "casbin.rbac.default_role_manager.role_manager" 1057) 955
noncomputable abbrev o959 := tO [(s "self" 1499), (s "name" 1500), (s "domain" 1501)]
noncomputable abbrev o961 := gO (G 18 13) "RoleManager.get_users"
noncomputable abbrev o962 := cO [(s "get_users" 1496), (s "RoleManager.get_users" 1497), (cp 1498), (j 536), (j 2), (j 0), (j 0), (j 7), (r 957), (.bool true), (j 181), (r 958), N, (r 959), (r 960), (r 961), (j 1502), (j 536), (cp 1503)]
noncomputable abbrev o963 := fO (G 18 13) "RoleManager.get_users" (s "casbin.rbac.default_role_manager.role_manager" 1057) 962
noncomputable abbrev o966 := tO [(s "self" 1508)]
noncomputable abbrev o968 := gO (G 18 14) "RoleManager.to_string"
noncomputable abbrev o969 := cO [(s "to_string" 1505), (s "RoleManager.to_string" 1506), (cp 1507), (j 539), (j 1), (j 0), (j 0), (j 3), (r 964), (.bool true), (j 181), (r 965), N, (r 966), (r 967), (r 968), (j 1509), (j 539), (cp 1510)]
noncomputable abbrev o970 := fO (G 18 14) "RoleManager.to_string" (s "casbin.rbac.default_role_manager.role_manager" 1057) 969
noncomputable abbrev o971 := tO [(s "all_links" 1512), (s "all_roles" 1513), (s "domain_matching_func" 1514), (s "matching_func" 1515), (s "max_hierarchy_level" 1516)]
noncomputable abbrev o972 (P : Params) := dO [e P "__module__" 1371 (s "casbin.rbac.default_role_manager.role_manager" 1057), e P "__firstlineno__" 1375 (.int 452 1374), e P "__init__" 1384 (r 873), e P "_rebuild" 1391 (r 880), e P "_matching_fn" 1402 (r 888), e P "_matching_roles" 1409 (r 894), e P "_get_role" 1419 (r 901), e P "add_matching_func" 1427 (r 908), e P "add_domain_matching_func" 1435 (r 916), e P "clear" 1442 (r 923), e P "add_link" 1455 (r 930), e P "delete_link" 1468 (r 937), e P "has_link" 1480 (r 944), e P "_has_link" 1486 (r 949), e P "get_roles" 1495 (r 956), e P "get_users" 1504 (r 963), e P "to_string" 1511 (r 970), e P "__static_attributes__" 1517 (r 971), e P "__doc__" 1518 N] 2
noncomputable abbrev o973 : Obj := ⟨(.type "type"), none, (.cls { name := S "RoleManager", bases := [(r 80)], mro := [(r 973), (r 80), (.type "object")], ns := 972, qualname := S "RoleManager", hasDict := true, slotNames := [], subclasses := [(r 1061)], abstract := false, collection := none, hasDel := false }), O [(some (r 859)), none, (some (s "RoleManager" 1364)), (some (s "RoleManager" 1372)), (some (b "object.__new__")), (some (.bool true))]⟩
noncomputable abbrev o974 : Obj := ⟨(.type "super"), none, (.fields (L [(r 973), (r 973), (r 973)])), O []⟩
noncomputable abbrev o975 : Obj := ⟨(.type "builtin_function_or_method"), none, (.fields (L [(b "object.__init_subclass__"), (r 973)])), O []⟩
noncomputable abbrev o978 := tO [(s "fn" 1525), (s "key1" 1526), (s "key2" 1527)]
noncomputable abbrev o980 := gO (F 20) "match_error_handler"
noncomputable abbrev o981 := cO [(s "match_error_handler" 1522), (s "match_error_handler" 1523), (cp 1524), (j 542), (j 3), (j 0), (j 0), (j 3), (r 976), (.bool true), (j 181), (r 977), N, (r 978), (r 979), (r 980), (j 1528), (j 542), (cp 1529)]
noncomputable abbrev o982 := fO (F 20) "match_error_handler" (s "casbin.rbac.default_role_manager.role_manager" 1057) 981
noncomputable abbrev o983 := tO [(r 973), (r 122)]
noncomputable abbrev o985 (P : Params) := dO [e P "__module__" 1538 (s "casbin.rbac.default_role_manager.role_manager" 1057), e P "__qualname__" 1540 (s "ConditionalRoleManager" 1539), e P "__firstlineno__" 1542 (.int 547 1541), e P "has_link" 1554 (r 996), e P "_has_link" 1560 (r 1001), e P "get_next_roles" 1574 (r 1008), e P "get_link_condition_func" 1583 (r 1015), e P "get_domain_link_condition_func" 1595 (r 1022), e P "get_link_condition_func_params" 1608 (r 1030), e P "add_link_condition_func" 1618 (r 1037), e P "add_domain_link_condition_func" 1631 (r 1044), e P "set_link_condition_func_params" 1641 (r 1051), e P "set_domain_link_condition_func_params" 1654 (r 1058), e P "__static_attributes__" 1655 (r 1059)] 14
noncomputable abbrev o987 := vO [(j 549), (j 4), (r 995), (j 556), (j 4), (r 1000), (j 568), (j 4), (r 1007), (j 585), (j 4), (r 1014), (j 588), (j 4), (r 1021), (j 593), (j 4), (r 1029), (j 603), (j 4), (r 1036), (j 606), (j 4), (r 1043), (j 611), (j 4), (r 1050), (j 614), (j 4), (r 1057)]
noncomputable abbrev o988 := cO [(s "ConditionalRoleManager" 1533), (s "ConditionalRoleManager" 1534), (cp 1535), (j 547), (j 0), (j 0), (j 0), (j 0), (r 986), (.bool false), (j 181), (r 987), N, N, N, N, (j 1536), (j 547), (cp 1537)]
noncomputable abbrev o989 : Obj := ⟨(.type "frame"), none, .plain, O [(some (r 988)), (some (r 3)), (some (r 985)), none, (some (s "casbin.rbac.default_role_manager.role_manager" 1057)), none, (some (r 0))]⟩
noncomputable abbrev o992 := tO [(s "self" 1546), (s "name1" 1547), (s "name2" 1548), (s "domains" 1549), (s "user" 1550), (s "role" 1551)]
noncomputable abbrev o994 := gO (G 21 0) "ConditionalRoleManager.has_link"
noncomputable abbrev o995 := cO [(s "has_link" 1543), (s "ConditionalRoleManager.has_link" 1544), (cp 1545), (j 549), (j 3), (j 0), (j 0), (j 7), (r 990), (.bool true), (j 181), (r 991), N, (r 992), (r 993), (r 994), (j 1552), (j 549), (cp 1553)]
noncomputable abbrev o996 := fO (G 21 0) "ConditionalRoleManager.has_link" (s "casbin.rbac.default_role_manager.role_manager" 1057) 995
noncomputable abbrev o998 := vO []
noncomputable abbrev o999 := gO (G 21 1) "ConditionalRoleManager._has_link"
noncomputable abbrev o1000 := cO [(s "_has_link" 1555), (s "ConditionalRoleManager._has_link" 1556), (cp 1557), (j 556), (j 4), (j 0), (j 0), (j 7), (r 997), (.bool true), (j 181), (r 998), N, N, N, (r 999), (j 1558), (j 556), (cp 1559)]
noncomputable abbrev o1001 := fO (G 21 1) "ConditionalRoleManager._has_link" (s "casbin.rbac.default_role_manager.role_manager" 1057) 1000
noncomputable abbrev o1004 := tO [(s "self" 1564), (s "current_role" 1565), (s "next_role" 1566), (s "domains" 1567), (s "pass_link_condition_func" 1568), (s "next_roles" 1569), (s "link_condition_func" 1570), (s "params" 1571)]
noncomputable abbrev o1006 := gO (G 21 2) "ConditionalRoleManager.get_next_roles"
noncomputable abbrev o1007 := cO [(s "get_next_roles" 1561), (s "ConditionalRoleManager.get_next_roles" 1562), (cp 1563), (j 568), (j 4), (j 0), (j 0), (j 3), (r 1002), (.bool true), (j 181), (r 1003), N, (r 1004), (r 1005), (r 1006), (j 1572), (j 568), (cp 1573)]
noncomputable abbrev o1008 := fO (G 21 2) "ConditionalRoleManager.get_next_roles" (s "casbin.rbac.default_role_manager.role_manager" 1057) 1007
noncomputable abbrev o1011 := tO [(s "self" 1578), (s "user_name" 1579), (s "role_name" 1580)]
noncomputable abbrev o1013 := gO (G 21 3) "ConditionalRoleManager.get_link_condition_func"
noncomputable abbrev o1014 := cO [(s "get_link_condition_func" 1575), (s "ConditionalRoleManager.get_link_condition_func" 1576), (cp 1577), (j 585), (j 3), (j 0), (j 0), (j 3), (r 1009), (.bool true), (j 181), (r 1010), N, (r 1011), (r 1012), (r 1013), (j 1581), (j 585), (cp 1582)]
noncomputable abbrev o1015 := fO (G 21 3) "ConditionalRoleManager.get_link_condition_func" (s "casbin.rbac.default_role_manager.role_manager" 1057) 1014
noncomputable abbrev o1018 := tO [(s "self" 1587), (s "user_name" 1588), (s "role_name" 1589), (s "domain" 1590), (s "user" 1591), (s "role" 1592)]
noncomputable abbrev o1020 := gO (G 21 4) "ConditionalRoleManager.get_domain_link_condition_func"
noncomputable abbrev o1021 := cO [(s "get_domain_link_condition_func" 1584), (s "ConditionalRoleManager.get_domain_link_condition_func" 1585), (cp 1586), (j 588), (j 4), (j 0), (j 0), (j 3), (r 1016), (.bool true), (j 181), (r 1017), N, (r 1018), (r 1019), (r 1020), (j 1593), (j 588), (cp 1594)]
noncomputable abbrev o1022 := fO (G 21 4) "ConditionalRoleManager.get_domain_link_condition_func" (s "casbin.rbac.default_role_manager.role_manager" 1057) 1021
noncomputable abbrev o1026 := tO [(s "self" 1599), (s "user_name" 1600), (s "role_name" 1601), (s "domains" 1602), (s "user" 1603), (s "role" 1604), (s "domain_name" 1605)]
noncomputable abbrev o1028 := gO (G 21 5) "ConditionalRoleManager.get_link_condition_func_params"
noncomputable abbrev o1029 := cO [(s "get_link_condition_func_params" 1596), (s "ConditionalRoleManager.get_link_condition_func_params" 1597), (cp 1598), (j 593), (j 4), (j 0), (j 0), (j 3), (r 1024), (.bool true), (j 181), (r 1025), N, (r 1026), (r 1027), (r 1028), (j 1606), (j 593), (cp 1607)]
noncomputable abbrev o1030 : Obj := ⟨(.type "function"), none, (.func (fd (G 21 5) "ConditionalRoleManager.get_link_condition_func_params" 3 [] (r 1023) N N (s "casbin.rbac.default_role_manager.role_manager" 1057) none (r 1029) N 0)), O []⟩
noncomputable abbrev o1033 := tO [(s "self" 1612), (s "user_name" 1613), (s "role_name" 1614), (s "fn" 1615)]
noncomputable abbrev o1035 := gO (G 21 6) "ConditionalRoleManager.add_link_condition_func"
noncomputable abbrev o1036 := cO [(s "add_link_condition_func" 1609), (s "ConditionalRoleManager.add_link_condition_func" 1610), (cp 1611), (j 603), (j 4), (j 0), (j 0), (j 3), (r 1031), (.bool true), (j 181), (r 1032), N, (r 1033), (r 1034), (r 1035), (j 1616), (j 603), (cp 1617)]
noncomputable abbrev o1037 := fO (G 21 6) "ConditionalRoleManager.add_link_condition_func" (s "casbin.rbac.default_role_manager.role_manager" 1057) 1036
noncomputable abbrev o1040 := tO [(s "self" 1622), (s "user_name" 1623), (s "role_name" 1624), (s "domain" 1625), (s "fn" 1626), (s "user" 1627), (s "role" 1628)]
noncomputable abbrev o1042 := gO (G 21 7) "ConditionalRoleManager.add_domain_link_condition_func"
noncomputable abbrev o1043 := cO [(s "add_domain_link_condition_func" 1619), (s "ConditionalRoleManager.add_domain_link_condition_func" 1620), (cp 1621), (j 606), (j 5), (j 0), (j 0), (j 3), (r 1038), (.bool true), (j 181), (r 1039), N, (r 1040), (r 1041), (r 1042), (j 1629), (j 606), (cp 1630)]
noncomputable abbrev o1044 := fO (G 21 7) "ConditionalRoleManager.add_domain_link_condition_func" (s "casbin.rbac.default_role_manager.role_manager" 1057) 1043
noncomputable abbrev o1047 := tO [(s "self" 1635), (s "user_name" 1636), (s "role_name" 1637), (s "params" 1638)]
noncomputable abbrev o1049 := gO (G 21 8) "ConditionalRoleManager.set_link_condition_func_params"
noncomputable abbrev o1050 := cO [(s "set_link_condition_func_params" 1632), (s "ConditionalRoleManager.set_link_condition_func_params" 1633), (cp 1634), (j 611), (j 3), (j 0), (j 0), (j 7), (r 1045), (.bool true), (j 181), (r 1046), N, (r 1047), (r 1048), (r 1049), (j 1639), (j 611), (cp 1640)]
noncomputable abbrev o1051 := fO (G 21 8) "ConditionalRoleManager.set_link_condition_func_params" (s "casbin.rbac.default_role_manager.role_manager" 1057) 1050
noncomputable abbrev o1054 := tO [(s "self" 1645), (s "user_name" 1646), (s "role_name" 1647), (s "domain" 1648), (s "params" 1649), (s "user" 1650), (s "role" 1651)]
noncomputable abbrev o1056 := gO (G 21 9) "ConditionalRoleManager.set_domain_link_condition_func_params"
noncomputable abbrev o1057 := cO [(s "set_domain_link_condition_func_params" 1642), (s "ConditionalRoleManager.set_domain_link_condition_func_params" 1643), (cp 1644), (j 614), (j 4), (j 0), (j 0), (j 7), (r 1052), (.bool true), (j 181), (r 1053), N, (r 1054), (r 1055), (r 1056), (j 1652), (j 614), (cp 1653)]
noncomputable abbrev o1058 := fO (G 21 9) "ConditionalRoleManager.set_domain_link_condition_func_params" (s "casbin.rbac.default_role_manager.role_manager" 1057) 1057
noncomputable abbrev o1060 (P : Params) := dO [e P "__module__" 1538 (s "casbin.rbac.default_role_manager.role_manager" 1057), e P "__firstlineno__" 1542 (.int 547 1541), e P "has_link" 1554 (r 996), e P "_has_link" 1560 (r 1001), e P "get_next_roles" 1574 (r 1008), e P "get_link_condition_func" 1583 (r 1015), e P "get_domain_link_condition_func" 1595 (r 1022), e P "get_link_condition_func_params" 1608 (r 1030), e P "add_link_condition_func" 1618 (r 1037), e P "add_domain_link_condition_func" 1631 (r 1044), e P "set_link_condition_func_params" 1641 (r 1051), e P "set_domain_link_condition_func_params" 1654 (r 1058), e P "__static_attributes__" 1655 (r 1059), e P "__doc__" 1656 N] 2
noncomputable abbrev o1061 : Obj := ⟨(.type "type"), none, (.cls { name := S "ConditionalRoleManager", bases := [(r 973), (r 122)], mro := [(r 1061), (r 973), (r 122), (r 80), (.type "object")], ns := 1060, qualname := S "ConditionalRoleManager", hasDict := true, slotNames := [], subclasses := [], abstract := false, collection := none, hasDel := false }), O [(some (r 983)), none, (some (s "ConditionalRoleManager" 1531)), (some (s "ConditionalRoleManager" 1539)), (some (b "object.__new__")), (some (.bool true))]⟩
noncomputable abbrev o1062 : Obj := ⟨(.type "super"), none, (.fields (L [(r 1061), (r 1061), (r 1061)])), O []⟩
noncomputable abbrev o1063 : Obj := ⟨(.type "builtin_function_or_method"), none, (.fields (L [(b "object.__init_subclass__"), (r 1061)])), O []⟩
noncomputable abbrev o1068 := gO (F 24) "_law_names"
noncomputable abbrev o1069 := cO [(s "_law_names" 1662), (s "_law_names" 1663), (cp 1664), (j 620), (j 0), (j 0), (j 0), (j 3), (r 1064), (.bool true), (j 181), (r 1065), N, (r 1066), (r 1067), (r 1068), (j 1665), (j 620), (cp 1666)]
noncomputable abbrev o1070 := fO (F 24) "_law_names" (s "law_ae0023_01" 1660) 1069
noncomputable abbrev o1072 : Obj := ⟨(.type "list"), none, (.seq (L [(s "a" 1668)]) 0), O []⟩
noncomputable abbrev o1073 : Obj := ⟨(.type "list"), none, (.seq (L [(s "b" 1669), (s "a" 1670)]) 0), O []⟩
noncomputable abbrev o1074 : Obj := ⟨(.type "list"), none, (.seq (L [(s "a" 1671), (s "bc" 1672)]) 0), O []⟩
noncomputable abbrev o1075 : Obj := ⟨(.type "list"), none, (.seq (L [(s "c" 1673), (s "a" 1674), (s "bb" 1675)]) 0), O []⟩
noncomputable abbrev o1076 : Obj := ⟨(.type "list"), none, (.seq (L [(s "ee" 1676)]) 0), O []⟩
noncomputable abbrev o1077 : Obj := ⟨(.type "list"), none, (.seq (L [(s "a" 1677), (s "d" 1678), (s "a" 1679)]) 0), O []⟩
noncomputable abbrev o1078 : Obj := ⟨(.type "list"), none, (.seq (L [(r 1071), (r 1072), (r 1073), (r 1074), (r 1075), (r 1076), (r 1077)]) 0), O []⟩
noncomputable abbrev o1081 := tO [(s "script" 1684), (s "place" 1685)]
noncomputable abbrev o1083 := gO (F 26) "_law_number"
noncomputable abbrev o1084 := cO [(s "_law_number" 1681), (s "_law_number" 1682), (cp 1683), (j 623), (j 2), (j 0), (j 0), (j 3), (r 1079), (.bool true), (j 181), (r 1080), N, (r 1081), (r 1082), (r 1083), (j 1686), (j 623), (cp 1687)]
noncomputable abbrev o1085 := fO (F 26) "_law_number" (s "law_ae0023_01" 1660) 1084
noncomputable abbrev o1088 := tO [(s "words" 1692)]
noncomputable abbrev o1090 := gO (F 27) "_law_even"
noncomputable abbrev o1091 := cO [(s "_law_even" 1689), (s "_law_even" 1690), (cp 1691), (j 625), (j 0), (j 0), (j 0), (j 7), (r 1086), (.bool true), (j 181), (r 1087), N, (r 1088), (r 1089), (r 1090), (j 1693), (j 625), (cp 1694)]
noncomputable abbrev o1092 := fO (F 27) "_law_even" (s "law_ae0023_01" 1660) 1091
noncomputable abbrev o1095 := tO [(s "words" 1699)]
noncomputable abbrev o1097 := gO (F 28) "_law_two"
noncomputable abbrev o1098 := cO [(s "_law_two" 1696), (s "_law_two" 1697), (cp 1698), (j 627), (j 0), (j 0), (j 0), (j 7), (r 1093), (.bool true), (j 181), (r 1094), N, (r 1095), (r 1096), (r 1097), (j 1700), (j 627), (cp 1701)]
noncomputable abbrev o1099 := fO (F 28) "_law_two" (s "law_ae0023_01" 1660) 1098
noncomputable abbrev o1102 := tO [(s "words" 1706)]
noncomputable abbrev o1104 := gO (F 29) "_law_rising"
noncomputable abbrev o1105 := cO [(s "_law_rising" 1703), (s "_law_rising" 1704), (cp 1705), (j 629), (j 0), (j 0), (j 0), (j 7), (r 1100), (.bool true), (j 181), (r 1101), N, (r 1102), (r 1103), (r 1104), (j 1707), (j 629), (cp 1708)]
noncomputable abbrev o1106 := fO (F 29) "_law_rising" (s "law_ae0023_01" 1660) 1105
noncomputable abbrev o1109 := tO [(s "laid" 1713), (s "said" 1714), (s "key" 1715), (s "words" 1716)]
noncomputable abbrev o1111 := gO (F 30) "_law_open"
noncomputable abbrev o1112 := cO [(s "_law_open" 1710), (s "_law_open" 1711), (cp 1712), (j 631), (j 3), (j 0), (j 0), (j 3), (r 1107), (.bool true), (j 181), (r 1108), N, (r 1109), (r 1110), (r 1111), (j 1717), (j 631), (cp 1718)]
noncomputable abbrev o1113 := fO (F 30) "_law_open" (s "law_ae0023_01" 1660) 1112
noncomputable abbrev o1116 := gO (F 31) "_law_reached"
noncomputable abbrev o1117 := cO [(s "_law_reached" 1720), (s "_law_reached" 1721), (cp 1722), (j 638), (j 7), (j 0), (j 0), (j 3), (r 1114), (.bool true), (j 181), (r 1115), N, N, N, (r 1116), (j 1723), (j 638), (cp 1724)]
noncomputable abbrev o1118 := fO (F 31) "_law_reached" (s "law_ae0023_01" 1660) 1117
noncomputable abbrev o1121 := tO [(s "manager" 1729), (s "name" 1730), (s "other" 1731), (s "domain" 1732)]
noncomputable abbrev o1123 := gO (F 32) "_law_asked"
noncomputable abbrev o1124 := cO [(s "_law_asked" 1726), (s "_law_asked" 1727), (cp 1728), (j 645), (j 4), (j 0), (j 0), (j 3), (r 1119), (.bool true), (j 181), (r 1120), N, (r 1121), (r 1122), (r 1123), (j 1733), (j 645), (cp 1734)]
noncomputable abbrev o1125 := fO (F 32) "_law_asked" (s "law_ae0023_01" 1660) 1124
noncomputable abbrev o1128 := gO (F 33) "law"
noncomputable abbrev o1129 := cO [(s "law" 1736), (s "law" 1737), (cp 1738), (j 647), (j 1), (j 0), (j 0), (j 3), (r 1126), (.bool true), (j 181), (r 1127), N, N, N, (r 1128), (j 1739), (j 647), (cp 1740)]
noncomputable abbrev o1130 := fO (F 33) "law" (s "law_ae0023_01" 1660) 1129
noncomputable abbrev T33 (P : Params) : BT := (m (boot_o_0 P) (m (boot_o_1 P) (m (o3x33 P) (m (boot_o_7 P) (m o11 (m o31 (m o63 (m o23 (m o255 (m o511 (f o267) n) (f o767)) (m o11 (f o639) (f o11))) (m o12 (m o319 (m o575 (f o12) n) (f o11)) (m o12 (f o703) (f o959)))) (m o11 (m o159 (m o287 (m o543 (f o11) n) (f o11)) (m o415 (f o12) (f o11))) (m o223 (m o11 (m o11 (f o11) n) (f o863)) (m o479 (f (o735 P)) (f o12))))) (m o47 (m (o79 P) (m o143 (m o11 (m o23 (f o12) n) (f o783)) (m o399 (f o655) (f o12))) (m o11 (m o12 (m o12 (f o11) n) (f o847)) (m o11 (f o12) (f o975)))) (m o111 (m o175 (m o303 (m o559 (f o576) n) (f o815)) (m o431 (f (o687 P)) (f o943))) (m o11 (m o367 (f o623) (f o879)) (m o495 (f (o751 P)) (f o1007)))))) (m o23 (m o11 (m o11 (m o12 (m o11 (m o519 (f o11) n) (f o775)) (m o12 (f o647) (f o12))) (m o199 (m o11 (m o11 (f o1095) n) (f o12)) (m o455 (f o711) (f o11)))) (m o103 (m o167 (m o295 (m o11 (f o1063) n) (f o807)) (m o423 (f (o679 P)) (f o935))) (m o231 (m o359 (m o12 (f o12) n) (f o871)) (m o487 (f o717) (f o999))))) (m o55 (m (o87 P) (m o11 (m o279 (m o535 (f o1047) n) (f o11)) (m o11 (f o11) (f o919))) (m o215 (m o343 (m o577 (f o1111) n) (f o855)) (m o471 (f (o727 P)) (f o983)))) (m o119 (m o11 (m o311 (m o567 (f o11) n) (f o823)) (m o11 (f (o695 P)) (f o12))) (m o12 (m o375 (f o11) (f o887)) (m o503 (f (o759 P)) (f o1015))))))) (m o11 (m o19 (m o35 (m o11 (m o131 (m o259 (m o515 (f o11) n) (f o771)) (m o387 (f o12) (f o899))) (m o195 (m o11 (m o576 (f o1091) n) (f o835)) (m o451 (f o577) (f o963)))) (m o11 (m o12 (m o291 (m o547 (f o11) n) (f o11)) (m o12 (f o675) (f o11))) (m o227 (m o11 (m o611 (f o1123) n) (f o11)) (m o12 (f (o739 P)) (f o995))))) (m o12 (m o83 (m o147 (m o11 (m o531 (f o1043) n) (f o12)) (m o403 (f o11) (f o915))) (m o11 (m o339 (m o595 (f o11) n) (f o851)) (m o11 (f o723) (f o11)))) (m o115 (m o11 (m o307 (m (o563 P) (f o1075) n) (f o819)) (m o11 (f o691) (f o947))) (m o243 (m o371 (f o627) (f o12)) (m o12 (f (o755 P)) (f o1011)))))) (m o27 (m o11 (m o75 (m o139 (m o267 (m o523 (f o1035) n) (f o779)) (m o395 (f o651) (f o907))) (m o203 (m o331 (m o587 (f o1099) n) (f o843)) (m o459 (f (o715 P)) (f o971)))) (m o12 (m o171 (m o11 (m o11 (f o11) n) (f o12)) (m o427 (f o11) (f o12))) (m o11 (m o12 (f o619) (f o12)) (m o12 (f (o747 P)) (f o12))))) (m o59 (m o91 (m o11 (m o12 (m o539 (f o1051) n) (f o795)) (m o11 (f o667) (f o923))) (m o12 (m o347 (m o11 (f o12) n) (f o85)) (m o11 (f o731) (f o987)))) (m o123 (m o187 (m o11 (m (o571 P) (f o1083) n) (f o11)) (m o443 (f o570) (f o955))) (m o251 (m o11 (f o11) (f o12)) (m o12 (f o23) (f o11)))))))) (m (boot_o_5 P) (m (boot_o_9 P) (m o17 (m o33 (m o12 (m o11 (m o257 (m o11 (f o12) n) (f o11)) (m o385 (f o641) (f o897))) (m o11 (m o12 (m o577 (f o11) n) (f o833)) (m o11 (f o705) (f o961)))) (m o97 (m o161 (m o11 (m o545 (f o1057) n) (f o801)) (m o417 (f o11) (f o929))) (m o11 (m o353 (m o609 (f o1121) n) (f o865)) (m o481 (f (o737 P)) (f o11))))) (m o49 (m o81 (m o145 (m o273 (m o11 (f o11) n) (f o785)) (m o401 (f o12) (f o11))) (m o209 (m o11 (m o11 (f o1105) n) (f o849)) (m o465 (f o11) (f o12)))) (m o11 (m o12 (m (o305 P) (m o561 (f o1073) n) (f o11)) (m o12 (f o689) (f o11))) (m o241 (m o11 (f o625) (f o881)) (m o319 (f o717) (f o11)))))) (m o11 (m o41 (m o73 (m o11 (m o265 (m (o521 P) (f o1033) n) (f o12)) (m o11 (f o11) (f o11))) (m o201 (m o329 (m o585 (f o1097) n) (f o11)) (m o457 (f o713) (f o969)))) (m o105 (m o11 (m o12 (m o553 (f o12) n) (f o809)) (m o11 (f o681) (f o937))) (m o12 (m o361 (m o11 (f o1129) n) (f o873)) (m o319 (f o716) (f o1001))))) (m o11 (m o89 (m o153 (m o281 (m o537 (f o1049) n) (f o793)) (m o409 (f o665) (f o921))) (m o217 (m o345 (m o12 (f o1113) n) (f o857)) (m o473 (f o729) (f (o985 P))))) (m (o121 P) (m o185 (m (o313 P) (m o11 (f o1081) n) (f o12)) (m o441 (f o697) (f o11))) (m o11 (m o12 (f o633) (f o881)) (m o319 (f o717) (f o12))))))) (m o13 (m o21 (m o12 (m o69 (m o133 (m o12 (m o517 (f o1029) n) (f o773)) (m o389 (f o11) (f o901))) (m o11 (m o325 (m o577 (f o11) n) (f o837)) (m o11 (f o524) (f o12)))) (m o101 (m o11 (m o293 (m o12 (f o1061) n) (f o805)) (m o11 (f (o677 P)) (f o933))) (m o229 (m o357 (m o613 (f o1125) n) (f o869)) (m o485 (f (o741 P)) (f o11))))) (m o11 (m o85 (m o12 (m o277 (m o11 (f o11) n) (f o789)) (m o12 (f o661) (f o11))) (m o213 (m o11 (m (o597 P) (f o1109) n) (f (o853 P))) (m o469 (f (o725 P)) (f o981)))) (m o117 (m o181 (m o309 (m o565 (f o1077) n) (f o821)) (m o437 (f o693) (f o949))) (m o245 (m o373 (f o12) (f o11)) (m o11 (f o717) (f o1013)))))) (m o11 (m o45 (m o77 (m o11 (m o12 (m o525 (f o1037) n) (f o11)) (m o11 (f o653) (f o267))) (m o12 (m o333 (m o589 (f o12) n) (f o11)) (m o12 (f o717) (f o973)))) (m o11 (m o173 (m o301 (m o557 (f o1069) n) (f o11)) (m o429 (f (o685 P)) (f o11))) (m o237 (m o11 (f o11) (f o11)) (m o11 (f o717) (f o11))))) (m o61 (m o12 (m o157 (m o11 (m o11 (f o12) n) (f o12)) (m o413 (f o669) (f o12))) (m o11 (m o12 (m o605 (f o1117) n) (f (o861 P))) (m o477 (f o716) (f o989)))) (m o125 (m o189 (m o317 (m o573 (f o1085) n) (f o829)) (m o445 (f o11) (f o11))) (m o11 (m o381 (f o637) (f o893)) (m o11 (f o11) (f o1021))))))))) (m (boot_o_2 P) (m (boot_o_4 P) (m (boot_o_8 P) (m o12 (m o11 (m o11 (m (o128 P) (m o11 (m o512 (f o11) n) (f o768)) (m o12 (f o640) (f o12))) (m o192 (m o320 (m o576 (f o1088) n) (f o12)) (m o448 (f o704) (f o11)))) (m o96 (m o160 (m o288 (m o11 (f o1056) n) (f o800)) (m o416 (f o672) (f o928))) (m o224 (m o352 (m o12 (f o12) n) (f o864)) (m o480 (f o736) (f o992))))) (m o48 (m o80x33 (m o11 (m o272 (m (o528 P) (f o1040) n) (f o784)) (m o11 (f o11) (f o912))) (m o208 (m o336 (m o592 (f o1104) n) (f o11)) (m o464 (f o720) (f o11)))) (m o112 (m o11 (m o304 (m o560 (f o1072) n) (f o816)) (m o11 (f o688) (f o944))) (m o12 (m o368 (f o11) (f o880)) (m o496 (f o716) (f o1008)))))) (m (o24 P) (m o40 (m o12 (m o136 (m o264 (m o11 (f o12) n) (f o11)) (m o392 (f o648) (f o904))) (m o11 (m o12 (m o12 (f o11) n) (f o840)) (m o456 (f o712) (f o968)))) (m o104 (m o168 (m o11 (m o552 (f o11) n) (f o808)) (m o424 (f (o680 P)) (f o936))) (m o11 (m o360 (m o616 (f o1128) n) (f o872)) (m o488 (f (o744 P)) (f o1000))))) (m o56 (m o11 (m o152 (m o280 (m o11 (f o11) n) (f o12)) (m o408 (f o12) (f o11))) (m o216 (m o11 (m o11 (f o1112) n) (f o856)) (m o472 (f o713) (f o23)))) (m o11 (m o12 (m o23 (m o568 (f o12) n) (f o11)) (m o12 (f o696) (f o952))) (m o248 (m o11 (f o632) (f o888)) (m o504 (f o716) (f o11))))))) (m o12x33 (m o20 (m o11 (m o68 (m o132 (m o11 (m o11 (f o1028) n) (f o11)) (m o388 (f o644) (f o900))) (m o196 (m o324 (m o576 (f o1092) n) (f o836)) (m o452 (f (o708 P)) (f o11)))) (m o12 (m o164 (m o11 (m o11 (f (o1060 P)) n) (f o12)) (m o420 (f o676) (f o12))) (m o11 (m o12 (m o612 (f o1124) n) (f o12)) (m o484 (f o740) (f o996))))) (m o52 (m o84 (m o11 (m o12 (m o532 (f o1044) n) (f o788)) (m o11 (f o660) (f o916))) (m o12 (m o340 (m o596 (f o12) n) (f o852)) (m o12 (f o724) (f o980)))) (m o11 (m o180 (m o308 (m o564 (f o1076) n) (f o11)) (m o436 (f o692) (f o948))) (m o244 (m o11 (f o11) (f o884)) (m o500 (f o716) (f o11)))))) (m o28 (m o12 (m o76 (m o140 (m o11 (m o524 (f o1036) n) (f o780)) (m o396 (f o11) (f o908))) (m o11 (m o332 (m o588 (f o11) n) (f o844)) (m o11 (f o716) (f (o972 P))))) (m o108 (m o11 (m o300 (m o12 (f o1068) n) (f o812)) (m o11 (f o577) (f o940))) (m o236 (m o364 (f o620) (f o876)) (m o492 (f o716) (f o1004))))) (m o11 (m o11 (m o12 (m o284 (m o267 (f o11) n) (f o11)) (m o12 (f o668) (f o11))) (m o220 (m o11 (m o604 (f o1116) n) (f o23)) (m o12 (f (o732 P)) (f o988)))) (m o124 (m o188 (m o316 (m o11 (f o1084) n) (f o828)) (m o444 (f (o700 P)) (f o956))) (m o252 (m o380 (f o12) (f o892)) (m o508 (f (o764 P)) (f o1020)))))))) (m (boot_o_6 P) (m (boot_o_10 P) (m o11 (m o34 (m o66 (m o130 (m o258 (m o12 (f o1026) n) (f o12)) (m o11 (f o11) (f o11))) (m o194 (m o322 (m o577 (f o1090) n) (f o11)) (m o450 (f o11) (f o962)))) (m o98 (m o11 (m o12 (m o546 (f o1058) n) (f o802)) (m o11 (f o674) (f o930))) (m o12 (m o354 (m o11 (f o11) n) (f o866)) (m o11 (f o738) (f o994))))) (m o11 (m o82 (m o146 (m o274 (m o530 (f o1042) n) (f o11)) (m o402 (f o658) (f o914))) (m o210 (m o338 (m o594 (f o1106) n) (f o850)) (m o466 (f o722) (f o978)))) (m o12 (m o178 (m o306 (m o562 (f o1074) n) (f o12)) (m o434 (f o690) (f o12))) (m o11 (m o12 (f o626) (f o11)) (m o498 (f o754) (f o12)))))) (m o26 (m o42 (m o11 (m o138 (m o266 (m o522 (f o11) n) (f o778)) (m o394 (f o12) (f o906))) (m o202 (m o11 (m o11 (f o1098) n) (f o842)) (m o458 (f o714) (f o970)))) (m o11 (m o12 (m o298 (m o554 (f o11) n) (f o11)) (m o12 (f (o682 P)) (f o11))) (m o234 (m o11 (m o618 (f o1130) n) (f o11)) (m o490 (f o717) (f o11))))) (m o12 (m o90 (m o154 (m o11 (m o538 (f o1050) n) (f o794)) (m o410 (f o11) (f o922))) (m o11 (m o346 (m o602 (f o11) n) (f o858)) (m o474 (f o730) (f o11)))) (m o122x33 (m o11 (m o314 (m o570 (f o11) n) (f o826)) (m o11 (f o698) (f o954))) (m o250 (m o378 (f o634) (f o11)) (m o506 (f o11) (f o1018))))))) (m o14 (m o11 (m o38 (m o70 (m o11 (m o262 (m o518 (f o1030) n) (f o774)) (m o11 (f o646) (f o11))) (m o12 (m o326 (m o11 (f o12) n) (f o11)) (m o12 (f (o710x16 P)) (f o966)))) (m o11 (m o166 (m o294 (m o550 (f o1062) n) (f o11)) (m o422 (f o678) (f o11))) (m o230 (m o11 (m o11 (f o11) n) (f o11)) (m o486 (f o716) (f o998))))) (m o54 (m o23 (m o150 (m o11 (m o12 (f o12) n) (f o790)) (m o406 (f o662) (f o12))) (m o11 (m o12 (m o598 (f o11) n) (f o854)) (m o11 (f o726) (f o982)))) (m o118 (m o182 (m o310 (m o566 (f o1078) n) (f o822)) (m o438 (f o694) (f o11))) (m o11 (m o374 (f o630) (f o886)) (m o502 (f o758) (f o1014)))))) (m o12 (m o11 (m o11 (m o12 (m o270 (m o11 (f o11) n) (f o782)) (m o12 (f o654) (f o11))) (m o206 (m o11 (m o11 (f o1102) n) (f o12)) (m o462 (f o11) (f o974)))) (m o110 (m o174 (m o302 (m o11 (f o1070) n) (f o814)) (m o430 (f o524) (f o942))) (m o238 (m o366 (f o12) (f o878)) (m o494 (f (o750 P)) (f o1006))))) (m o62 (m o94 (m o11 (m o286 (m o12 (f o1054) n) (f o798)) (m o11 (f o11) (f o926))) (m o222 (m o350 (m o606 (f o1118) n) (f o11)) (m o11 (f o717) (f o11)))) (m o11 (m o11 (m o318 (m o574 (f o11) n) (f o830)) (m o11 (f o12) (f o12))) (m o12 (m o382 (f o11) (f o894)) (m o510 (f o766) (f o1022))))))))))
noncomputable abbrev AB (w : World) (os : OsState) : SharedT := ⟨TB w.params, 15, {}, #[], {}, 187, os⟩
noncomputable abbrev A9 (w : World) (os : OsState) : SharedT := ⟨T9 w.params, 311, {}, #[], {}, 555, os⟩
noncomputable abbrev A11 (w : World) (os : OsState) : SharedT := ⟨T11 w.params, 569, {}, #[], {}, 870, os⟩
noncomputable abbrev A15 (w : World) (os : OsState) : SharedT := ⟨T15 w.params, 725, {}, #[], {}, 1115, os⟩
noncomputable abbrev A16 (w : World) (os : OsState) : SharedT := ⟨T16 w.params, 762, {}, #[], {}, 1235, os⟩
noncomputable abbrev A33 (w : World) (os : OsState) : SharedT := ⟨T33 w.params, 1131, {}, #[], {}, 1742, os⟩
noncomputable abbrev env0 : Env := { scope := pw_ae0023_01.main.scope, locals := mainNs, globals := mainNs, cells := [], code := r 13, frame := some 14 }
noncomputable abbrev cE : Code := .body (behindTheImports pw_ae0023_01) env0
noncomputable abbrev q0 : Pos := { line := 0, col := 0, endLine := 0, endCol := 0 }
noncomputable abbrev pB : Pos := { line := 0, col := 0, endLine := 0, endCol := 0 }
noncomputable abbrev p9 : Pos := { line := 125, col := 0, endLine := 125, endCol := 13 }
noncomputable abbrev p11 : Pos := { line := 256, col := 0, endLine := 272, endCol := 90 }
noncomputable abbrev p15 : Pos := { line := 371, col := 0, endLine := 396, endCol := 50 }
noncomputable abbrev p16 : Pos := { line := 397, col := 0, endLine := 397, endCol := 17 }
noncomputable abbrev p33 : Pos := { line := 647, col := 0, endLine := 692, endCol := 15 }
noncomputable abbrev l9 : List Stmt := [F 0, F 1, F 2, F 3, F 4, F 5, F 6, F 7, F 8, F 9]
theorem run9 (w : World) (os : OsState) : segRunT treeTable pw_ae0023_01 w 11 (some (r 6)) 1 1850 (AB w os) (piecesOf l9 env0 cE pB [topFrame q0]) = some (Flow.next, A9 w os, cE, p9) := by
  rewrite [PySem.W.Fast.te10110043849684766642, PySem.W.Fast.te14364793385576792824]; kernel_rfl
noncomputable abbrev l11 : List Stmt := [F 10, F 11]
theorem run11 (w : World) (os : OsState) : segRunT treeTable pw_ae0023_01 w 11 (some (r 6)) 1 1511 (A9 w os) (piecesOf l11 env0 cE p9 [topFrame q0]) = some (Flow.next, A11 w os, cE, p11) := by
  rewrite [PySem.W.Fast.te10110043849684766642, PySem.W.Fast.te14364793385576792824]; kernel_rfl
noncomputable abbrev l15 : List Stmt := [F 12, F 13, F 14, F 15]
theorem run15F (w : World) (os : OsState) : segRunT treeTable pw_ae0023_01 (w.withFollow "special-get-raises" false) 11 (some (r 6)) 1 2113 (A11 (w.withFollow "special-get-raises" false) os) (piecesOf l15 env0 cE p11 [topFrame q0]) = some (Flow.next, A15 (w.withFollow "special-get-raises" false) os, cE, p15) := by
  rewrite [PySem.W.Fast.te10110043849684766642, PySem.W.Fast.te14364793385576792824]; kernel_rfl
theorem run15T (w : World) (os : OsState) : segRunT treeTable pw_ae0023_01 (w.withFollow "special-get-raises" true) 11 (some (r 6)) 1 2113 (A11 (w.withFollow "special-get-raises" true) os) (piecesOf l15 env0 cE p11 [topFrame q0]) = some (Flow.next, A15 (w.withFollow "special-get-raises" true) os, cE, p15) := by
  rewrite [PySem.W.Fast.te10110043849684766642, PySem.W.Fast.te14364793385576792824]; kernel_rfl
theorem run15 (w : World) : ∀ os : OsState, segRunT treeTable pw_ae0023_01 w 11 (some (r 6)) 1 2113 (A11 w os) (piecesOf l15 env0 cE p11 [topFrame q0]) = some (Flow.next, A15 w os, cE, p15) :=
  byRow2 "special-get-raises" (P := fun w => ∀ os : OsState, segRunT treeTable pw_ae0023_01 w 11 (some (r 6)) 1 2113 (A11 w os) (piecesOf l15 env0 cE p11 [topFrame q0]) = some (Flow.next, A15 w os, cE, p15)) run15F run15T w
noncomputable abbrev l16 : List Stmt := [F 16]
theorem run16F (w : World) (os : OsState) : segRunT treeTable pw_ae0023_01 (w.withFollow "special-get-raises" false) 11 (some (r 6)) 1 2368 (A15 (w.withFollow "special-get-raises" false) os) (piecesOf l16 env0 cE p15 [topFrame q0]) = some (Flow.next, A16 (w.withFollow "special-get-raises" false) os, cE, p16) := by
  rewrite [PySem.W.Fast.te10110043849684766642, PySem.W.Fast.te14364793385576792824]; kernel_rfl
theorem run16T (w : World) (os : OsState) : segRunT treeTable pw_ae0023_01 (w.withFollow "special-get-raises" true) 11 (some (r 6)) 1 2368 (A15 (w.withFollow "special-get-raises" true) os) (piecesOf l16 env0 cE p15 [topFrame q0]) = some (Flow.next, A16 (w.withFollow "special-get-raises" true) os, cE, p16) := by
  rewrite [PySem.W.Fast.te10110043849684766642, PySem.W.Fast.te14364793385576792824]; kernel_rfl
theorem run16 (w : World) : ∀ os : OsState, segRunT treeTable pw_ae0023_01 w 11 (some (r 6)) 1 2368 (A15 w os) (piecesOf l16 env0 cE p15 [topFrame q0]) = some (Flow.next, A16 w os, cE, p16) :=
  byRow2 "special-get-raises" (P := fun w => ∀ os : OsState, segRunT treeTable pw_ae0023_01 w 11 (some (r 6)) 1 2368 (A15 w os) (piecesOf l16 env0 cE p15 [topFrame q0]) = some (Flow.next, A16 w os, cE, p16)) run16F run16T w
noncomputable abbrev l33 : List Stmt := [F 17, F 18, F 19, F 20, F 21, F 22, F 23, F 24, F 25, F 26, F 27, F 28, F 29, F 30, F 31, F 32, F 33]
theorem run33 (w : World) (os : OsState) : segRunT treeTable pw_ae0023_01 w 11 (some (r 6)) 1 2351 (A16 w os) (piecesOf l33 env0 cE p16 [topFrame q0]) = some (Flow.next, A33 w os, cE, p33) := by
  rewrite [PySem.W.Fast.te10110043849684766642, PySem.W.Fast.te14364793385576792824]; kernel_rfl
end
end
section
noncomputable section
theorem body_is : behindTheImports pw_ae0023_01 = l9 ++ (l11 ++ (l15 ++ (l16 ++ (l33 ++ [])))) := by kernel_rfl
theorem pre_is (w : World) (os : OsState) : topGo treeTable pw_ae0023_01 w 11 (some (r 6)) 12 ⟨boot_heap w.params, Array.mk [], boot_drawn, boot_toks, os⟩ (topStub pw_ae0023_01) =
    some ((AB w os).abs, ⟨denote treeTable cE, cE, q0, [topFrame q0]⟩) := by kernel_rfl
theorem block_is (w : World) (os : OsState) : segRun treeTable pw_ae0023_01 w 11 (some (r 6)) 1 1 (AB w os).abs (blockOf (behindTheImports pw_ae0023_01) env0 cE q0 [topFrame q0]) = some (Flow.next, (AB w os).abs, cE, pB) := by kernel_rfl
theorem fin_is (w : World) (os : OsState) : topRun treeTable pw_ae0023_01 w 11 (some (r 6)) 2 (A33 w os).abs ⟨doneF .next, cE, p33, [topFrame q0]⟩ = some (A33 w os).abs := by kernel_rfl
theorem run_is (w : World) (os : OsState) : topRun treeTable pw_ae0023_01 w 11 (some (r 6)) (12 + (1 + (1850 + (1511 + (2113 + (2368 + (2351 + 2)))))))
    ⟨boot_heap w.params, Array.mk [], boot_drawn, boot_toks, os⟩ (topStub pw_ae0023_01) = some (A33 w os).abs := by
  refine go_top (pre_is w os) (piece_block (block_is w os) ?_)
  rewrite [body_is]
  exact piece_app (segRun_of (run9 w os)) (piece_app (segRun_of (run11 w os)) (piece_app (segRun_of (run15 w os)) (piece_app (segRun_of (run16 w os)) (piece_app (segRun_of (run33 w os)) (piece_nil (fin_is w os))))))
def q : Program := { pw_ae0023_01 with main := { pw_ae0023_01.main with body := [F 33] } }
def loose : List PySem.Str := [S "_wall", S "RoleManager", S "RoleManager_role_manager", S "ConditionalRoleManager", S "ConditionalRoleManager_role_manager", S "_OWN_NAMES", S "mappingproxy", S "_MEMBERS_VIEW", S "EnumType", S "_EnumField", S "Enum", S "MatchOrder", S "_lay_MatchOrder", S "Role", S "RoleManager_role_manager2", S "match_error_handler", S "ConditionalRoleManager_role_manager2", S "_law_names", S "_law_rows", S "_law_number", S "_law_even", S "_law_two", S "_law_rising", S "_law_open", S "_law_reached", S "_law_asked"]
abbrev K (P : Params) : Frag := (nat_lit 2, boot_o_2 P) :: (nat_lit 3, o3x33 P) :: (nat_lit 4, boot_o_4 P) :: (nat_lit 21, o21) :: (nat_lit 79, o79 P) :: (nat_lit 80, o80x33) :: (nat_lit 85, o85) :: (nat_lit 121, o121 P) :: (nat_lit 122, o122x33) :: (nat_lit 311, o311) :: (nat_lit 521, o521 P) :: (nat_lit 522, o522) :: (nat_lit 687, o687 P) :: (nat_lit 688, o688) :: (nat_lit 698, o698) :: (nat_lit 710, o710x16 P) :: (nat_lit 711, o711) :: (nat_lit 735, o735 P) :: (nat_lit 736, o736) :: (nat_lit 737, o737 P) :: (nat_lit 738, o738) :: (nat_lit 739, o739 P) :: (nat_lit 740, o740) :: (nat_lit 750, o750 P) :: (nat_lit 754, o754) :: (nat_lit 758, o758) :: (nat_lit 762, o11) :: (nat_lit 764, o764 P) :: (nat_lit 765, o11) :: (nat_lit 767, o767) :: (nat_lit 769, o11) :: (nat_lit 771, o771) :: (nat_lit 772, o11) :: (nat_lit 774, o774) :: (nat_lit 775, o775) :: (nat_lit 776, o11) :: (nat_lit 779, o779) :: (nat_lit 780, o780) :: (nat_lit 781, o11) :: (nat_lit 784, o784) :: (nat_lit 785, o785) :: (nat_lit 786, o11) :: (nat_lit 789, o789) :: (nat_lit 790, o790) :: (nat_lit 791, o11) :: (nat_lit 794, o794) :: (nat_lit 795, o795) :: (nat_lit 796, o11) :: (nat_lit 798, o798) :: (nat_lit 799, o11) :: (nat_lit 801, o801) :: (nat_lit 802, o802) :: (nat_lit 803, o11) :: (nat_lit 805, o805) :: (nat_lit 806, o11) :: (nat_lit 808, o808) :: (nat_lit 809, o809) :: (nat_lit 810, o11) :: (nat_lit 812, o812) :: (nat_lit 813, o11) :: (nat_lit 815, o815) :: (nat_lit 816, o816) :: (nat_lit 817, o11) :: (nat_lit 819, o819) :: (nat_lit 820, o11) :: (nat_lit 822, o822) :: (nat_lit 823, o823) :: (nat_lit 824, o11) :: (nat_lit 826, o826) :: (nat_lit 827, o11) :: (nat_lit 829, o829) :: (nat_lit 830, o830) :: (nat_lit 831, o11) :: (nat_lit 833, o833) :: (nat_lit 834, o11) :: (nat_lit 836, o836) :: (nat_lit 837, o837) :: (nat_lit 838, o11) :: (nat_lit 840, o840) :: (nat_lit 841, o11) :: (nat_lit 843, o843) :: (nat_lit 844, o844) :: (nat_lit 845, o11) :: (nat_lit 847, o847) :: (nat_lit 848, o11) :: (nat_lit 850, o850) :: (nat_lit 851, o851) :: (nat_lit 852, o852) :: (nat_lit 853, o853 P) :: (nat_lit 854, o854) :: (nat_lit 855, o855) :: (nat_lit 856, o856) :: (nat_lit 859, o85) :: (nat_lit 861, o861 P) :: (nat_lit 862, o11) :: (nat_lit 864, o864) :: (nat_lit 866, o866) :: (nat_lit 867, o11) :: (nat_lit 869, o869) :: (nat_lit 870, o11) :: (nat_lit 872, o872) :: (nat_lit 873, o873) :: (nat_lit 874, o11) :: (nat_lit 876, o876) :: (nat_lit 877, o11) :: (nat_lit 879, o879) :: (nat_lit 880, o880) :: (nat_lit 881, o881) :: (nat_lit 882, o11) :: (nat_lit 884, o884) :: (nat_lit 885, o11) :: (nat_lit 887, o887) :: (nat_lit 888, o888) :: (nat_lit 889, o881) :: (nat_lit 890, o11) :: (nat_lit 893, o893) :: (nat_lit 894, o894) :: (nat_lit 895, o11) :: (nat_lit 897, o897) :: (nat_lit 898, o11) :: (nat_lit 900, o900) :: (nat_lit 901, o901) :: (nat_lit 902, o11) :: (nat_lit 904, o904) :: (nat_lit 905, o11) :: (nat_lit 907, o907) :: (nat_lit 908, o908) :: (nat_lit 909, o267) :: (nat_lit 910, o11) :: (nat_lit 912, o912) :: (nat_lit 913, o11) :: (nat_lit 915, o915) :: (nat_lit 916, o916) :: (nat_lit 917, o11) :: (nat_lit 919, o919) :: (nat_lit 920, o11) :: (nat_lit 922, o922) :: (nat_lit 923, o923) :: (nat_lit 924, o11) :: (nat_lit 926, o926) :: (nat_lit 927, o11) :: (nat_lit 929, o929) :: (nat_lit 930, o930) :: (nat_lit 931, o11) :: (nat_lit 933, o933) :: (nat_lit 934, o11) :: (nat_lit 936, o936) :: (nat_lit 937, o937) :: (nat_lit 938, o11) :: (nat_lit 940, o940) :: (nat_lit 941, o11) :: (nat_lit 943, o943) :: (nat_lit 944, o944) :: (nat_lit 945, o11) :: (nat_lit 948, o948) :: (nat_lit 949, o949) :: (nat_lit 950, o11) :: (nat_lit 952, o952) :: (nat_lit 953, o11) :: (nat_lit 955, o955) :: (nat_lit 956, o956) :: (nat_lit 957, o11) :: (nat_lit 959, o959) :: (nat_lit 960, o11) :: (nat_lit 962, o962) :: (nat_lit 963, o963) :: (nat_lit 964, o11) :: (nat_lit 966, o966) :: (nat_lit 967, o11) :: (nat_lit 969, o969) :: (nat_lit 970, o970) :: (nat_lit 971, o971) :: (nat_lit 972, o972 P) :: (nat_lit 973, o973) :: (nat_lit 976, o11) :: (nat_lit 978, o978) :: (nat_lit 979, o11) :: (nat_lit 981, o981) :: (nat_lit 982, o982) :: (nat_lit 983, o983) :: (nat_lit 985, o985 P) :: (nat_lit 986, o11) :: (nat_lit 988, o988) :: (nat_lit 990, o11) :: (nat_lit 992, o992) :: (nat_lit 993, o11) :: (nat_lit 995, o995) :: (nat_lit 996, o996) :: (nat_lit 997, o11) :: (nat_lit 1000, o1000) :: (nat_lit 1001, o1001) :: (nat_lit 1002, o11) :: (nat_lit 1004, o1004) :: (nat_lit 1005, o11) :: (nat_lit 1007, o1007) :: (nat_lit 1008, o1008) :: (nat_lit 1009, o11) :: (nat_lit 1011, o1011) :: (nat_lit 1012, o11) :: (nat_lit 1014, o1014) :: (nat_lit 1015, o1015) :: (nat_lit 1016, o11) :: (nat_lit 1018, o1018) :: (nat_lit 1019, o11) :: (nat_lit 1021, o1021) :: (nat_lit 1022, o1022) :: (nat_lit 1023, o267) :: (nat_lit 1024, o11) :: (nat_lit 1026, o1026) :: (nat_lit 1027, o11) :: (nat_lit 1029, o1029) :: (nat_lit 1030, o1030) :: (nat_lit 1031, o11) :: (nat_lit 1033, o1033) :: (nat_lit 1034, o11) :: (nat_lit 1036, o1036) :: (nat_lit 1037, o1037) :: (nat_lit 1038, o11) :: (nat_lit 1040, o1040) :: (nat_lit 1041, o11) :: (nat_lit 1043, o1043) :: (nat_lit 1044, o1044) :: (nat_lit 1045, o11) :: (nat_lit 1047, o1047) :: (nat_lit 1048, o11) :: (nat_lit 1050, o1050) :: (nat_lit 1051, o1051) :: (nat_lit 1052, o11) :: (nat_lit 1054, o1054) :: (nat_lit 1055, o11) :: (nat_lit 1057, o1057) :: (nat_lit 1058, o1058) :: (nat_lit 1059, o11) :: (nat_lit 1060, o1060 P) :: (nat_lit 1061, o1061) :: (nat_lit 1064, o11) :: (nat_lit 1066, o11) :: (nat_lit 1067, o11) :: (nat_lit 1069, o1069) :: (nat_lit 1070, o1070) :: (nat_lit 1071, o576) :: (nat_lit 1072, o1072) :: (nat_lit 1073, o1073) :: (nat_lit 1074, o1074) :: (nat_lit 1075, o1075) :: (nat_lit 1076, o1076) :: (nat_lit 1077, o1077) :: (nat_lit 1078, o1078) :: (nat_lit 1079, o11) :: (nat_lit 1081, o1081) :: (nat_lit 1082, o11) :: (nat_lit 1084, o1084) :: (nat_lit 1085, o1085) :: (nat_lit 1086, o11) :: (nat_lit 1088, o1088) :: (nat_lit 1089, o11) :: (nat_lit 1091, o1091) :: (nat_lit 1092, o1092) :: (nat_lit 1093, o11) :: (nat_lit 1095, o1095) :: (nat_lit 1096, o11) :: (nat_lit 1098, o1098) :: (nat_lit 1099, o1099) :: (nat_lit 1100, o11) :: (nat_lit 1102, o1102) :: (nat_lit 1103, o11) :: (nat_lit 1105, o1105) :: (nat_lit 1106, o1106) :: (nat_lit 1107, o11) :: (nat_lit 1109, o1109) :: (nat_lit 1110, o11) :: (nat_lit 1112, o1112) :: (nat_lit 1113, o1113) :: (nat_lit 1114, o11) :: (nat_lit 1117, o1117) :: (nat_lit 1118, o1118) :: (nat_lit 1119, o11) :: (nat_lit 1121, o1121) :: (nat_lit 1122, o11) :: (nat_lit 1124, o1124) :: (nat_lit 1125, o1125) :: (nat_lit 1126, o11) :: (nat_lit 1129, o1129) :: (nat_lit 1130, o1130) :: []
abbrev Ka : List Addr := 2 :: 3 :: 4 :: 21 :: 79 :: 80 :: 85 :: 121 :: 122 :: 311 :: 521 :: 522 :: 687 :: 688 :: 698 :: 710 :: 711 :: 735 :: 736 :: 737 :: 738 :: 739 :: 740 :: 750 :: 754 :: 758 :: 762 :: 764 :: 765 :: 767 :: 769 :: 771 :: 772 :: 774 :: 775 :: 776 :: 779 :: 780 :: 781 :: 784 :: 785 :: 786 :: 789 :: 790 :: 791 :: 794 :: 795 :: 796 :: 798 :: 799 :: 801 :: 802 :: 803 :: 805 :: 806 :: 808 :: 809 :: 810 :: 812 :: 813 :: 815 :: 816 :: 817 :: 819 :: 820 :: 822 :: 823 :: 824 :: 826 :: 827 :: 829 :: 830 :: 831 :: 833 :: 834 :: 836 :: 837 :: 838 :: 840 :: 841 :: 843 :: 844 :: 845 :: 847 :: 848 :: 850 :: 851 :: 852 :: 853 :: 854 :: 855 :: 856 :: 859 :: 861 :: 862 :: 864 :: 866 :: 867 :: 869 :: 870 :: 872 :: 873 :: 874 :: 876 :: 877 :: 879 :: 880 :: 881 :: 882 :: 884 :: 885 :: 887 :: 888 :: 889 :: 890 :: 893 :: 894 :: 895 :: 897 :: 898 :: 900 :: 901 :: 902 :: 904 :: 905 :: 907 :: 908 :: 909 :: 910 :: 912 :: 913 :: 915 :: 916 :: 917 :: 919 :: 920 :: 922 :: 923 :: 924 :: 926 :: 927 :: 929 :: 930 :: 931 :: 933 :: 934 :: 936 :: 937 :: 938 :: 940 :: 941 :: 943 :: 944 :: 945 :: 948 :: 949 :: 950 :: 952 :: 953 :: 955 :: 956 :: 957 :: 959 :: 960 :: 962 :: 963 :: 964 :: 966 :: 967 :: 969 :: 970 :: 971 :: 972 :: 973 :: 976 :: 978 :: 979 :: 981 :: 982 :: 983 :: 985 :: 986 :: 988 :: 990 :: 992 :: 993 :: 995 :: 996 :: 997 :: 1000 :: 1001 :: 1002 :: 1004 :: 1005 :: 1007 :: 1008 :: 1009 :: 1011 :: 1012 :: 1014 :: 1015 :: 1016 :: 1018 :: 1019 :: 1021 :: 1022 :: 1023 :: 1024 :: 1026 :: 1027 :: 1029 :: 1030 :: 1031 :: 1033 :: 1034 :: 1036 :: 1037 :: 1038 :: 1040 :: 1041 :: 1043 :: 1044 :: 1045 :: 1047 :: 1048 :: 1050 :: 1051 :: 1052 :: 1054 :: 1055 :: 1057 :: 1058 :: 1059 :: 1060 :: 1061 :: 1064 :: 1066 :: 1067 :: 1069 :: 1070 :: 1071 :: 1072 :: 1073 :: 1074 :: 1075 :: 1076 :: 1077 :: 1078 :: 1079 :: 1081 :: 1082 :: 1084 :: 1085 :: 1086 :: 1088 :: 1089 :: 1091 :: 1092 :: 1093 :: 1095 :: 1096 :: 1098 :: 1099 :: 1100 :: 1102 :: 1103 :: 1105 :: 1106 :: 1107 :: 1109 :: 1110 :: 1112 :: 1113 :: 1114 :: 1117 :: 1118 :: 1119 :: 1121 :: 1122 :: 1124 :: 1125 :: 1126 :: 1129 :: 1130 :: []
abbrev H33 (P : Params) : Heap := absHeap (T33 P) 1131 {}
theorem open_is : ∀ w : World, (fencedOpening treeTable pw_ae0023_01 w 20502).map (fun s => (s.heap, s.gens, s.drawn, s.toks)) = some (boot_heap w.params, Array.mk [], boot_drawn, boot_toks) :=
  boot_open (by kernel_rfl) (by kernel_rfl) (fun s => by kernel_rfl)
theorem size_is (w : World) : ((boot_heap w.params).isNs mainGlobals && (Array.mk [] : Array GenState).size == 0, (boot_heap w.params).objs.size, (boot_heap w.params).nsMap mainGlobals "__annotations__") = (true, 11, some (r 6)) := by kernel_rfl
abbrev E33 (w : World) (os : OsState) : Shared := ⟨H33 w.params, #[], {}, 1742, os⟩
theorem look1 (w : World) (os : OsState) : (staticsOk (importedModules pw_ae0023_01.main.body) (boot_heap w.params) (H33 w.params) && namesBound pw_ae0023_01 (H33 w.params) && gensDone (E33 w os) && laidKept (boot_heap w.params) (H33 w.params)) = true := by kernel_rfl
theorem look2 (w : World) (os : OsState) : seen ((recsOf q).map (·.name)) (ownsOf q) [] { E33 w os with gens := #[] } = expectedOf q := by kernel_rfl
theorem look3 (w : World) (os : OsState) : (E33 w os).heap.bltView = bltViewBooted := by kernel_rfl
theorem look4 (w : World) (os : OsState) : ((E33 w os).heap.keysOk (looseW q loose) ((recsOf q).map (·.name)) ((litsOf q).map (·.1)) ((clssOf q (looseW q loose)).map (·.name)) && (E33 w os).heap.accountedOkI (importedModules pw_ae0023_01.main.body) && (E33 w os).heap.isNs mainGlobals && (E33 w os).heap.isNs builtinsNs && tablesOk q (E33 w os).heap && (xlAt q [] (E33 w os) && recOk [] (E33 w os)) && (E33 w os).gens.size == 0) = true := by kernel_rfl
theorem look5 (w : World) (os : OsState) : tabsOk q (E33 w os) = true := by kernel_rfl
theorem look6 (w : World) (os : OsState) : pinSeenD q (drecsOf q) (E33 w os) = pinGoodD (drecsOf q) := by kernel_rfl
theorem look7 (w : World) (os : OsState) : plainSeenE q (looseW q loose) (E33 w os) = plainGoodE q (looseW q loose) := by kernel_rfl
theorem look8 (w : World) (os : OsState) : plainSeenD q loose (E33 w os) = plainGoodD q loose := by kernel_rfl
theorem look9 (w : World) (os : OsState) : wideSeen q (E33 w os) = wideGood q := by kernel_rfl
theorem look10 (w : World) (os : OsState) : clsSeenW q loose (E33 w os) = clsGoodW q loose := by kernel_rfl
end
end
section
theorem dummyFill (h : rw_ae0023_01.foot = 10 ∧ K = K) : True := trivial
abbrev Ar (d : Nat) (outer : List Env) (gs : Option (List Code)) (u : Nat) : Around := { handled := none, depth := d, frames := some outer, guards := gs, units := u }
structure Cx (w : World) (mg mb : PySem.Str → Option Value) (base : Heap) (outer : List Env) (g : Heap) : Prop where
  X : (K w.params).In g
  T : TopRead q (looseW q loose) mg mb g
  st : base.StaysIn g
  fr : g.FunFrames base outer
section
variable {w : World} {mg mb : PySem.Str → Option Value} {base g g' : Heap} {outer : List Env} {d u : Nat} {gs : Option (List Code)} {E : Value → Shared → Prop} {s : Shared}
theorem Cx.keeps (C : Cx w mg mb base outer g) (k : ∀ b o, g.get? b = some o → g'.get? b = some o) : Cx w mg mb base outer g' :=
  ⟨C.X.keeps k, C.T.keeps k, fun b o e => k b o (C.st b o e), C.fr.of_keeps fun b o e _ => ⟨o, k b o e, rfl⟩⟩
theorem Cx.B (C : Cx w mg mb base outer g) : Below (Ar d outer gs u) base outer g := ⟨rfl, C.st, C.fr⟩
theorem Cx.push {L : Addr} {h' : Heap} {m : PySem.Str → Option Value} {env : Env} (C : Cx w mg mb base outer g) (hn : h'.Ns L m) (hL : g.get? L = none) (hf : env.frame = some L) (hk : env.scope.kind = .function)
    (kk : ∀ b o, g.get? b = some o → h'.get? b = some o) : Cx w mg mb base (env :: outer) h' := by
  refine Ob33 (hn) fun oL es ep hL' hd r => ?_
  have hnew : base.get? L = none := by
    cases hq : base.get? L with
    | none => rfl
    | some o => rw [C.st L o hq] at hL; cases hL
  exact ⟨C.X.keeps kk, C.T.keeps kk, fun b o e => kk b o (C.st b o e), ⟨by rw [hk]; decide, ⟨L, oL, hf, hnew, hL', fun vs e => by rw [hd] at e; cases e⟩, (C.keeps kk).fr⟩⟩
end
structure Post (M : List Addr) (s s' : Shared) : Prop where
  keep : ∀ b o, s.heap.get? b = some o → b ∉ M → s'.heap.get? b = some o
  dom : ∀ b o, s.heap.get? b = some o → ∃ o', s'.heap.get? b = some o'
  os : s'.os = s.os
  bare : AllBare s.gens → AllBare s'.gens
theorem Post.refl (s : Shared) : Post [] s s := ⟨fun _ _ e _ => e, fun _ o e => ⟨o, e⟩, rfl, id⟩
theorem Post.trans {M M' : List Addr} {s s' s'' : Shared} (p : Post M s s') (q : Post M' s' s'') : Post (M ++ M') s s'' :=
  ⟨fun b o e n => q.keep b o (p.keep b o e fun x => n (List.mem_append_left _ x)) fun x => n (List.mem_append_right _ x),
   fun b o e => let ⟨o', e'⟩ := p.dom b o e; q.dom b o' e', q.os.trans p.os, fun x => q.bare (p.bare x)⟩
theorem Post.sub {M M' : List Addr} {s s' : Shared} (p : Post M s s') (h : ∀ x ∈ M, x ∈ M') : Post M' s s' := ⟨fun b o e n => p.keep b o e fun x => n (h b x), p.dom, p.os, p.bare⟩
theorem Post.fresh {M : List Addr} {s s' : Shared} (p : Post M s s') {x : Addr} (e : s'.heap.get? x = none) : s.heap.get? x = none := by
  cases q : s.heap.get? x with
  | none => rfl
  | some o => obtain ⟨o', e'⟩ := p.dom x o q; rw [e] at e'; cases e'
def lowH (h : Heap) (L : Addr) : Heap := { h with objs := h.objs.extract 0 L }
theorem lowH_get {h : Heap} {L b : Addr} : (lowH h L).get? b = if b < L then h.get? b else none := by
  obtain ⟨objs, l⟩ := h
  unfold lowH Heap.get?
  have key : ∀ (b L : Nat), (objs.extract 0 L)[b]? = if b < L then objs[b]? else none := fun b L => by
    simp only [Array.getElem?_extract, Nat.sub_zero, Nat.zero_add]
    by_cases hb : b < L
    · rw [if_pos hb]
      by_cases hs : b < objs.size
      · rw [if_pos (by omega)]
      · rw [if_neg (by omega), Array.getElem?_eq_none (by omega)]
    · rw [if_neg hb, if_neg (by omega)]
  show (match (objs.extract 0 L)[b]? with | some ⟨_, _, .freed, _⟩ => none | o => o) = _
  rw [key b L]
  by_cases hb : b < L
  · rw [if_pos hb, if_pos hb]; rfl
  · rw [if_neg hb, if_neg hb]
theorem lowH_size {h : Heap} {L : Addr} : (lowH h L).objs.size ≤ L := by
  show (h.objs.extract 0 L).size ≤ L
  rw [Array.size_extract]; exact (Nat.min_le_left ..)
def lowX (h : Heap) (L : Addr) (ex : List Addr) : Heap := hideAll (lowH h L) ex
theorem of_lowX {h : Heap} {L b : Addr} {ex : List Addr} {o : Obj} (e : (lowX h L ex).get? b = some o) : h.get? b = some o ∧ b < L ∧ b ∉ ex := by
  have e' := of_hideAll ex e
  rw [lowH_get] at e'
  split at e'
  · exact ⟨e', ‹_›, fun q => by rw [lowX, hideAll_none ex q] at e; cases e⟩
  · cases e'
theorem lowX_get {h : Heap} {L b : Addr} {ex : List Addr} {o : Obj} (e : h.get? b = some o) (hb : b < L) (hx : b ∉ ex) : (lowX h L ex).get? b = some o :=
  hideAll_get _ (by rw [lowH_get, if_pos hb]; exact e) hx
def tailX (h : Heap) (L : Addr) (ex : List Addr) : List (Addr × Obj) :=
  (List.range h.objs.size).filterMap fun b => if b ≤ L ∨ b ∈ ex then none else (h.get? b).map fun o => (b, o)
theorem mem_tailX {h : Heap} {L : Addr} {ex : List Addr} {p : Addr × Obj} : p ∈ tailX h L ex ↔ h.get? p.1 = some p.2 ∧ L < p.1 ∧ p.1 ∉ ex := by
  obtain ⟨b, o⟩ := p
  simp only [tailX, List.mem_filterMap, List.mem_range]
  constructor
  · rintro ⟨c, hc, e⟩
    split at e
    · cases e
    · rename_i hn
      obtain ⟨o', ho', e'⟩ := Option.map_eq_some_iff.mp e
      cases e'
      exact ⟨ho', Nat.lt_of_not_le fun q => hn (.inl q), fun q => hn (.inr q)⟩
  · rintro ⟨e, hl, hx⟩
    refine ⟨b, Heap.lt_size e, ?_⟩
    rw [if_neg (fun q => q.elim (fun q => Nat.not_lt.mpr q hl) hx)]
    show (h.get? b).map (fun o => (b, o)) = some (b, o)
    rw [show h.get? b = some o from e]; rfl
def Cov (h base : Heap) (L : Addr) (ex : List (Addr × Obj)) (tl : List (Addr × Obj)) : Prop := ∀ b o, h.get? b = some o → b ≠ L → b ∉ ex.map (·.1) → base.get? b = some o ∨ (b, o) ∈ tl
section
variable {w : World} {mg mb : PySem.Str → Option Value} {base g g' : Heap} {outer : List Env} {d u : Nat} {gs : Option (List Code)} {E : Value → Shared → Prop} {s : Shared} {L : Addr} {m : PySem.Str → Option Value}
theorem reseg (ex : List (Addr × Obj)) (C : Cx w mg mb base outer g) (hg : g.StaysIn s.heap) (hgL : ∀ b o, g.get? b = some o → b < L) (hn : s.heap.Ns L m)
    (hex : ∀ p ∈ ex, s.heap.get? p.1 = some p.2 ∧ p.1 ≠ L ∧ g.get? p.1 = none) :
    ∃ h₀ tl, Fr h₀ L s.heap m ∧ News h₀ L s.heap (ex ++ tl) ∧ Cx w mg mb base outer h₀ ∧ g.StaysIn h₀ ∧ Cov s.heap h₀ L ex tl ∧ ∀ p ∈ tl, ∀ q ∈ ex, @Ne Nat p.1 q.1 := by
  have gk : g.StaysIn (lowX s.heap L (ex.map Prod.fst)) := fun b o e => lowX_get (hg b o e) (hgL b o e) fun q => by
    obtain ⟨p, hp, rfl⟩ := List.mem_map.mp q
    rw [(hex p hp).2.2] at e; cases e
  refine ⟨lowX s.heap L (ex.map Prod.fst), tailX s.heap L (ex.map Prod.fst), ⟨hn, fun b o e => (of_lowX e).1, by rw [lowX, hideAll_size]; exact lowH_size⟩, ?_, C.keeps gk, gk, ?_, fun p hp q hq e => (mem_tailX.mp hp).2.2 (by rw [show p.1 = q.1 from e]; exact List.mem_map_of_mem hq)⟩
  · intro p hp
    rcases List.mem_append.mp hp with hp | hp
    · exact ⟨(hex p hp).1, (hex p hp).2.1, hideAll_none _ (List.mem_map_of_mem hp)⟩
    · have z := mem_tailX.mp hp
      refine ⟨z.1, Nat.ne_of_gt z.2.1, ?_⟩
      cases q : (lowX s.heap L (ex.map Prod.fst)).get? p.1 with
      | none => rfl
      | some o => exact absurd (of_lowX q).2.1 (Nat.not_lt.mpr (Nat.le_of_lt z.2.1))
  · intro b o e hb hx
    by_cases hl : b < L
    · exact .inl (lowX_get e hl hx)
    · exact .inr (mem_tailX.mpr ⟨e, Nat.lt_of_le_of_ne (Nat.not_lt.mp hl) (Ne.symm hb), hx⟩)
end
section
variable {w : World} {mg mb : PySem.Str → Option Value} {base g : Heap} {outer : List Env} {d u : Nat} {gs : Option (List Code)} {E : Value → Shared → Prop} {s : Shared} {led : List (Addr × Obj)}
  {R : Result → Shared → Prop} {name qual : PySem.Str} {params : Arguments} {body : List Stmt} {scope : Scope} {dV kV doc pm cdv ct oc : Value} {an od : Option Addr} {osl : Array (Option Value)} {f : Addr} {args : Args} {binds : List (PySem.Str × Value)}
abbrev restH (h : Heap) (led : List (Addr × Obj)) : Heap := hideAll h (led.map (·.1))
theorem restH_of (hg : g.StaysIn s.heap) (hl : ∀ p ∈ led, s.heap.get? p.1 = some p.2 ∧ g.get? p.1 = none) : g.StaysIn (restH s.heap led) := fun b o e => hideAll_get _ (hg b o e) fun q => by
  obtain ⟨p, hp, rfl⟩ := List.mem_map.mp q
  rw [(hl p hp).2] at e; cases e
theorem cov_rest : ∀ b o, s.heap.get? b = some o → b ∉ led.map (·.1) → (restH s.heap led).get? b = some o := fun b o e hx => hideAll_get _ e hx
theorem enter_def (C : Cx w mg mb base outer g) (hg : g.StaysIn s.heap) (hl : ∀ p ∈ led, s.heap.get? p.1 = some p.2 ∧ g.get? p.1 = none)
    (ho : (K w.params).lookup f = some ⟨oc, od, .func (fnOf name qual params body scope dV kV doc pm an cdv ct), osl⟩) (hcd : codeIn (K w.params) cdv qual = true) (hroom : d < recursionLimit)
    (hbind : BindsTo s (fnOf name qual params body scope dV kV doc pm an cdv ct) args binds) (hloc : ∀ y ∈ binds, scope.names.lookup y.1 = some .local)
    (h : ∀ L' h₁, s.heap.get? L' = none → (∀ b o, g.get? b = some o → b < L') → Fr (restH s.heap led) L' h₁ (fun y => binds.reverse.lookup y) → News (restH s.heap led) L' h₁ led → Cx w mg mb base outer (restH s.heap led) → (∀ p ∈ led, p.1 < L') →
      wpAny (model pw_ae0023_01 w) ((Ar d outer gs u).deeper (envOf qual scope L' f cdv)) (execs body (envOf qual scope L' f cdv))
        (fun fl s' => R (.ok (.ret (match fl with | .ret v => v | _ => .none))) s')
        (fun e s' => wpAny (model pw_ae0023_01 w) ((Ar d outer gs u).deeper (envOf qual scope L' f cdv)) (leaving (envOf qual scope L' f cdv) e) (fun _ s'' => R (.error e) s'') (fun e' s'' => R (.error e') s'') s')
        { s with heap := h₁, toks := s.toks + binds.length })
    (hco : scope.isCoroutine = false) (hgen : scope.isGenerator = false) (hk : scope.kind = .function)
    (hcell : ∀ x ∈ scope.names, x.2 ≠ .cell) : codeAny (model pw_ae0023_01 w) (Ar d outer gs u) (.call (.ref f) args) R s := by
  have C' := C.keeps (restH_of hg hl)
  have X := C.X.keeps hg
  have T := C.T.keeps hg
  refine codeAny_call_def (fd := fnOf name qual params body scope dV kV doc pm an cdv ct) (body := body) (binds := binds) hroom (X _ _ ho) rfl T.nolimit (codeRec_of X hcd) rfl hbind hcell hloc (fun h₁ hns hk₁ => ?_) hco hgen hk
  exact h s.heap.objs.size h₁ (Heap.get?_none_of_le (Nat.le_refl _)) (fun b o e => Heap.lt_size (hg b o e)) ⟨hns, fun b o e => hk₁ b o (of_hideAll _ e), Nat.le_of_eq (hideAll_size _ _)⟩
    (fun p hp => ⟨hk₁ _ _ (hl p hp).1, Nat.ne_of_lt (Heap.lt_size (hl p hp).1), hideAll_none _ (List.mem_map_of_mem hp)⟩) C' (fun p hp => Heap.lt_size (hl p hp).1)
theorem enter_defC (C : Cx w mg mb base outer g) (hg : g.StaysIn s.heap) (hl : ∀ p ∈ led, s.heap.get? p.1 = some p.2 ∧ g.get? p.1 = none)
    (ho : (K w.params).lookup f = some ⟨oc, od, .func (fnOf name qual params body scope dV kV doc pm an cdv ct), osl⟩) (hcd : codeIn (K w.params) cdv qual = true) (hroom : d < recursionLimit)
    (hbind : BindsTo s (fnOf name qual params body scope dV kV doc pm an cdv ct) args binds) (hkind : (binds.all fun y => scope.names.lookup y.1 == some .local || scope.names.lookup y.1 == some .cell) = true)
    (hnd : ((cellsFrom 0 scope.names []).map (·.1)).Nodup)
    (h : ∀ L' h₁ tk cells, s.heap.get? L' = none → (∀ b o, g.get? b = some o → b < L') → Fr (restH s.heap led) L' h₁ (bindL (envOfC qual scope L' f cdv).kindOf binds fun _ => none) → News (restH s.heap led) L' h₁ (cells ++ led) →
      CellsAre (bindC (envOfC qual scope L' f cdv).kindOf binds fun _ => none) (cellsFrom (L' + 1) scope.names []) cells → Cx w mg mb base outer (restH s.heap led) → (∀ p ∈ led, p.1 < L') →
      wpAny (model pw_ae0023_01 w) ((Ar d outer gs u).deeper (envOfC qual scope L' f cdv)) (execs body (envOfC qual scope L' f cdv))
        (fun fl s' => R (.ok (.ret (match fl with | .ret v => v | _ => .none))) s')
        (fun e s' => wpAny (model pw_ae0023_01 w) ((Ar d outer gs u).deeper (envOfC qual scope L' f cdv)) (leaving (envOfC qual scope L' f cdv) e) (fun _ s'' => R (.error e) s'') (fun e' s'' => R (.error e') s'') s')
        { s with heap := h₁, toks := tk })
    (hco : scope.isCoroutine = false) (hgen : scope.isGenerator = false) (hk : scope.kind = .function) : codeAny (model pw_ae0023_01 w) (Ar d outer gs u) (.call (.ref f) args) R s := by
  have C' := C.keeps (restH_of hg hl)
  have X := C.X.keeps hg
  have T := C.T.keeps hg
  refine codeAny_call_function hroom (X _ _ ho) rfl hco hgen rfl (codeRec_of X hcd) (hbind _ _ _ _ ?_)
  refine wpAny_newFunctionEnv_cells hk (kindsX hkind _) fun env' he s' x => ?_
  subst he
  refine ⟨T.nolimit.keeps x.toInCall.keep, codeAny_func ?_⟩
  obtain ⟨h₁, tk, rfl, _⟩ := x.done
  have hk₁ := x.toInCall.keep
  obtain ⟨cells, NC, Y⟩ := Cl.news (h₀ := s.heap) (Nat.le_refl _) fun n c hm => ⟨x.cell n c (lookup_of_mem_nodup (cellsFrom_names scope.names 0 (s.heap.objs.size + 1) [] [] rfl ▸ hnd) hm), x.above n c hm⟩
  refine h s.heap.objs.size h₁ tk cells (Heap.get?_none_of_le (Nat.le_refl _)) (fun b o e => Heap.lt_size (hg b o e)) ⟨x.toInCall.ns, fun b o e => hk₁ b o (of_hideAll _ e), Nat.le_of_eq (hideAll_size _ _)⟩ (fun p hp => ?_) Y C' (fun p hp => Heap.lt_size (hl p hp).1)
  rcases List.mem_append.mp hp with hp | hp
  · refine ⟨(NC p hp).1, (NC p hp).2.1, ?_⟩
    cases q : (restH s.heap led).get? p.1 with
    | none => rfl
    | some o => have := of_hideAll _ q; rw [(NC p hp).2.2] at this; cases this
  · exact ⟨hk₁ _ _ (hl p hp).1, Nat.ne_of_lt (Heap.lt_size (hl p hp).1), hideAll_none _ (List.mem_map_of_mem hp)⟩
end
end
section
def nmS : Fin 5 → PySem.Str
  | 0 => "ann" | 1 => "bob" | 2 => "cat" | 3 => "dan" | 4 => "eve"
def domS : Fin 3 → PySem.Str
  | 0 => "" | 1 => "s" | 2 => "t"
def condF : Fin 3 → Addr
  | 0 => 1092 | 1 => 1099 | 2 => 1106
def rowS : Fin 7 → List PySem.Str
  | 0 => [] | 1 => ["a"] | 2 => ["b", "a"] | 3 => ["a", "bc"] | 4 => ["c", "a", "bb"] | 5 => ["ee"] | 6 => ["a", "d", "a"]
theorem nmS_inj : ∀ {a b : Fin 5}, nmS a = nmS b → a = b := by decide +kernel
theorem domS_inj : ∀ {a b : Fin 3}, domS a = domS b → a = b := by decide +kernel
structure RA where
  a : Addr
  dx : Addr
  rl : Addr
  ul : Addr
  cm : Addr
  pm : Addr
structure AD where
  m : Addr
  dm : Addr
  al : Addr
  ar : Addr
  la : Fin 5 × Fin 5 → Addr
  r : Fin 5 → RA
structure SS where
  lv : Nat
  ls : List (Fin 5 × Fin 5)
  ns : List (Fin 5)
  out : Fin 5 → List (Fin 5)
  cond : Fin 5 → Fin 5 → Fin 3 → Option (Fin 3)
  prm : Fin 5 → Fin 5 → Fin 3 → Option (Fin 7)
abbrev tk (w : World) := tupleKind (strKind pw_ae0023_01 w)
abbrev refs (A : AD) (l : List (Fin 5)) : Array Value := (l.map fun x => Value.ref (A.r x).a).toArray
noncomputable abbrev roleD (P : Params) (t1 t2 t3 t4 t5 : Nat) (nm : Value) (rl ul cm pm : Addr) : Obj := dictOf [e P "name" t1 nm, e P "roles" t2 (.ref rl), e P "users" t3 (.ref ul), e P "link_condition_func_map" t4 (.ref cm), e P "link_condition_func_params_map" t5 (.ref pm)] (nat_lit 5)
noncomputable abbrev mgrD (P : Params) (t1 t2 t3 t4 t5 : Nat) (lv : Value) (al ar : Addr) : Obj := dictOf [e P "max_hierarchy_level" t1 lv, e P "matching_func" t2 .none, e P "domain_matching_func" t3 .none, e P "all_links" t4 (.ref al), e P "all_roles" t5 (.ref ar)] (nat_lit 5)
def KeysIn (xs : List (List PySem.Str × Addr × Value)) : Prop := ∀ x ∈ xs, ∃ b m, x.1 = [nmS b, domS m]
def CondAt (w : World) (h : Heap) (d : Addr) (c : Fin 5 → Fin 3 → Option (Fin 3)) : Prop :=
  ∃ xs, h.DictOfH (tk w) d xs ∧ KeysIn xs ∧ ∀ b m, (atKey xs [nmS b, domS m]).map (·.2) = (c b m).map fun f => Value.ref (condF f)
def PrmAt (w : World) (h : Heap) (d : Addr) (p : Fin 5 → Fin 3 → Option (Fin 7)) : Prop :=
  ∃ xs, h.DictOfH (tk w) d xs ∧ KeysIn xs ∧ ∀ b m, match p b m with
    | none => atKey xs [nmS b, domS m] = none
    | some r => ∃ k t, atKey xs [nmS b, domS m] = some (k, .ref t) ∧ IsTupleKey (strKind pw_ae0023_01 w) h (rowS r) t
structure RoleAt (w : World) (h : Heap) (A : AD) (σ : SS) (n : Fin 5) : Prop where
  i : h.get? (A.r n).a = some (instObj 854 (A.r n).dx)
  d : ∃ t1 t2 t3 t4 t5 tn, h.get? (A.r n).dx = some (roleD w.params t1 t2 t3 t4 t5 (.str (nmS n) tn) (A.r n).rl (A.r n).ul (A.r n).cm (A.r n).pm)
  rl : ∃ k, h.get? (A.r n).rl = some (listOf (refs A (σ.out n)) k)
  ul : ∃ inn k, h.get? (A.r n).ul = some (listOf (refs A inn) k) ∧ inn.Nodup ∧ ∀ x ∈ inn, x ∈ σ.ns
  cm : CondAt w h (A.r n).cm (σ.cond n)
  pm : PrmAt w h (A.r n).pm (σ.prm n)
  on : (σ.out n).Nodup
  os : ∀ x ∈ σ.out n, x ∈ σ.ns
def RA.all (r : RA) : List Addr := [r.a, r.dx, r.rl, r.ul, r.cm, r.pm]
def RA.ds (r : RA) : List Addr := [r.dx, r.cm, r.pm]
def AD.foot (A : AD) (ns : List (Fin 5)) : List Addr := [A.m, A.dm, A.al, A.ar] ++ ns.flatMap fun n => (A.r n).all
def AD.hid (A : AD) (ns : List (Fin 5)) : List Addr := 782 :: 998 :: A.foot ns
def TabOk (h : Heap) (c P : Addr) : Prop := ∃ ps, h.IsCode c P ps ∧ h.TableAt c P ps
theorem TabOk.code {h : Heap} {c P : Addr} (x : TabOk h c P) : ∃ ps, h.IsCode c P ps ∧ h.TableAt c P ps := x
theorem TabOk.of {h : Heap} {c P : Addr} {ps : Array Value} (x : h.IsCode c P ps) (hT : h.TableAt c P ps) : TabOk h c P := ⟨ps, x, hT⟩
theorem TabOk.two {h : Heap} {c P : Addr} (x : TabOk h c P) : ∃ (o : Obj) (vs : Array Value) (op : Obj) (ps : Array Value), h.get? c = some o ∧ o.data = .fields vs ∧ h.get? P = some op ∧ op.data = .fields ps :=
  let ⟨ps, _, ⟨o, vs, ho, _, hd, _⟩, hP⟩ := x
  ⟨o, vs, _, ps, ho, hd, hP, rfl⟩
structure Rep (w : World) (A : AD) (σ : SS) (h : Heap) : Prop where
  mi : h.get? A.m = some (instObj 1061 A.dm)
  md : ∃ t1 t2 t3 t4 t5 tl, h.get? A.dm = some (mgrD w.params t1 t2 t3 t4 t5 (.int σ.lv tl) A.al A.ar)
  al : ∃ k, h.get? A.al = some (listOf (σ.ls.map fun p => Value.ref (A.la p)).toArray k)
  la : ∀ p ∈ σ.ls, IsTupleKey (strKind pw_ae0023_01 w) h [nmS p.1, nmS p.2] (A.la p)
  ar : h.DictOf (strKind pw_ae0023_01 w) A.ar (σ.ns.map fun n => (nmS n, Value.ref (A.r n).a))
  ro : ∀ n ∈ σ.ns, RoleAt w h A σ n
  nd1 : A.dm ≠ A.ar ∧ ∀ n ∈ σ.ns, A.dm ∉ (A.r n).ds ∧ A.ar ∉ (A.r n).ds ∧ (A.r n).ds.Nodup
  nd2 : ∀ n ∈ σ.ns, ∀ n' ∈ σ.ns, n ≠ n' → ∀ x ∈ (A.r n).ds, x ∉ (A.r n').ds
  ne : ∀ n ∈ σ.ns, (A.r n).rl ≠ A.al ∧ (A.r n).ul ≠ A.al
  gt : @LT.lt Nat _ 1 A.m ∧ @LT.lt Nat _ 1 A.ar ∧ ∀ n ∈ σ.ns, ∀ x ∈ (A.r n).ds, @LT.lt Nat _ 1 x
  ab : ∀ n, n ∉ σ.ns → σ.out n = [] ∧ (∀ b m, σ.cond n b m = none) ∧ ∀ b m, σ.prm n b m = none
  nn : σ.ns.Nodup
  ln : σ.ls.Nodup
  t7 : TabOk h 784 782
  t9 : TabOk h 1000 998
structure T6 where
  a : Nat
  b : Nat
  c : Nat
  d : Nat
  e : Nat
  f : Nat
noncomputable abbrev mgrO (w : World) (A : AD) (σ : SS) (t : T6) : Obj := mgrD w.params t.a t.b t.c t.d t.e (.int σ.lv t.f) A.al A.ar
noncomputable abbrev roleO (w : World) (A : AD) (n : Fin 5) (t : T6) : Obj := roleD w.params t.a t.b t.c t.d t.e (.str (nmS n) t.f) (A.r n).rl (A.r n).ul (A.r n).cm (A.r n).pm
theorem Rep.mdO {w : World} {A : AD} {σ : SS} {h : Heap} (R : Rep w A σ h) : ∃ t : T6, h.get? A.dm = some (mgrO w A σ t) := Ob61 R.md fun a b c d e f x => ⟨⟨a, b, c, d, e, f⟩, x⟩
theorem RoleAt.dO {w : World} {A : AD} {σ : SS} {h : Heap} {n : Fin 5} (R : RoleAt w h A σ n) : ∃ t : T6, h.get? (A.r n).dx = some (roleO w A n t) := Ob61 R.d fun a b c d e f x => ⟨⟨a, b, c, d, e, f⟩, x⟩
theorem ne_tup {x : String} (h : x ≠ "tuple") : Value.type x ≠ .type "tuple" := fun q => h (by injection q)
theorem len_sub {α : Type} [DecidableEq α] : ∀ {l l' : List α}, l.Nodup → (∀ x ∈ l, x ∈ l') → l.length ≤ l'.length
  | [], _, _, _ => Nat.zero_le _
  | a :: t, l', hn, hs => by
    rw [List.nodup_cons] at hn
    have ha := hs a List.mem_cons_self
    have := len_sub (l' := l'.erase a) hn.2 fun x hx => (List.mem_erase_of_ne (show x ≠ a from fun q => hn.1 (by rw [← q]; exact hx))).mpr (hs x (List.mem_cons_of_mem _ hx))
    rw [List.length_erase_of_mem ha] at this
    have hp : 0 < l'.length := List.length_pos_of_mem ha
    simp only [List.length_cons]; omega
theorem len_fin {n : Nat} {l : List (Fin n)} (h : l.Nodup) : l.length ≤ n := by
  have := len_sub h (l' := List.finRange n) fun x _ => List.mem_finRange x
  simpa using this
theorem len_keys {xs : List (List PySem.Str × Addr × Value)} (hk : KeysIn xs) (hn : (xs.map (·.1)).Nodup) : xs.length ≤ 15 := by
  have := len_sub hn (l' := (List.finRange 5).flatMap fun b => (List.finRange 3).map fun m => [nmS b, domS m]) fun x hx => by
    obtain ⟨y, hy, rfl⟩ := List.mem_map.mp hx
    obtain ⟨b, m, e⟩ := hk y hy
    exact List.mem_flatMap.mpr ⟨b, List.mem_finRange _, List.mem_map.mpr ⟨m, List.mem_finRange _, e.symm⟩⟩
  rw [List.length_map] at this
  exact Nat.le_trans this (by decide)
section
variable {w : World} {h h' : Heap} {A A' : AD} {σ σ' : SS} {M : List Addr}
def Kept (M : List Addr) (h h' : Heap) : Prop := ∀ b o, h.get? b = some o → b ∉ M → h'.get? b = some o
def NoTup (M : List Addr) (h : Heap) : Prop := ∀ b o vs n, h.get? b = some o → o.cls = .type "tuple" → o.data = .seq vs n → b ∉ M
theorem Kept.tup {ks : List PySem.Str} {a : Addr} (k : Kept M h h') (n : NoTup M h) (x : IsTupleKey (strKind pw_ae0023_01 w) h ks a) : IsTupleKey (strKind pw_ae0023_01 w) h' ks a :=
  let ⟨o, items, c, ho, hc, hd, r⟩ := x; ⟨o, items, c, k a o ho (n a o _ _ ho hc hd), hc, hd, r⟩
theorem Kept.dictH {d : Addr} {xs : List (List PySem.Str × Addr × Value)} (k : Kept M h h') (n : NoTup M h) (hd : d ∉ M) (x : h.DictOfH (tk w) d xs) : h'.DictOfH (tk w) d xs :=
  let ⟨o, es, ep, ho, hc, hdat, he, hk, hn⟩ := x; ⟨o, es, ep, k d o ho hd, hc, hdat, he, fun y hy => k.tup n (hk y hy), hn⟩
theorem CondAt.kept {d : Addr} {c : Fin 5 → Fin 3 → Option (Fin 3)} (x : CondAt w h d c) (k : Kept M h h') (n : NoTup M h) (hd : d ∉ M) : CondAt w h' d c :=
  let ⟨xs, hx, r⟩ := x; ⟨xs, k.dictH n hd hx, r⟩
theorem PrmAt.kept {d : Addr} {p : Fin 5 → Fin 3 → Option (Fin 7)} (x : PrmAt w h d p) (k : Kept M h h') (n : NoTup M h) (hd : d ∉ M) : PrmAt w h' d p := by
  obtain ⟨xs, hx, hk, r⟩ := x
  refine ⟨xs, k.dictH n hd hx, hk, fun b m => ?_⟩
  have z := r b m
  revert z
  cases p b m with
  | none => exact id
  | some r' => exact fun ⟨a, t, e1, e2⟩ => ⟨a, t, e1, k.tup n e2⟩
theorem refs_congr {l : List (Fin 5)} (ha : ∀ x ∈ l, (A'.r x).a = (A.r x).a) : refs A' l = refs A l := by
  unfold refs
  rw [List.map_congr_left fun x hx => by rw [ha x hx]]
theorem RoleAt.kept {n : Fin 5} (x : RoleAt w h A σ n) (k : Kept M h h') (t : NoTup M h) (hd : ∀ y ∈ (A.r n).all, y ∉ M) (e : A'.r n = A.r n) (ha : ∀ y ∈ σ.ns, (A'.r y).a = (A.r y).a)
    (ho : σ'.out n = σ.out n) (hc : σ'.cond n = σ.cond n) (hp : σ'.prm n = σ.prm n) (hs : ∀ y ∈ σ.ns, y ∈ σ'.ns) : RoleAt w h' A' σ' n := by
  have f1 : ∀ {l : List (Fin 5)}, (∀ x ∈ l, x ∈ σ.ns) → refs A' l = refs A l := fun hl => refs_congr fun x hx => ha x (hl x hx)
  obtain ⟨i, ⟨t1, t2, t3, t4, t5, tn, d⟩, ⟨k1, rl⟩, ⟨inn, k2, ul, u1, u2⟩, cm, pm, on, os⟩ := x
  simp only [RA.all, List.mem_cons, List.not_mem_nil, or_false, forall_eq_or_imp, forall_eq] at hd
  refine ⟨by rw [e]; exact k _ _ i hd.1, ⟨t1, t2, t3, t4, t5, tn, by rw [e]; exact k _ _ d hd.2.1⟩, ⟨k1, ?_⟩, ⟨inn, k2, ?_, u1, fun x hx => hs x (u2 x hx)⟩, ?_, ?_, ?_, ?_⟩
  · rw [e, ho, f1 os]; exact k _ _ rl hd.2.2.1
  · rw [e, f1 u2]; exact k _ _ ul hd.2.2.2.1
  · rw [e, hc]; exact cm.kept k t hd.2.2.2.2.1
  · rw [e, hp]; exact pm.kept k t hd.2.2.2.2.2
  · rw [ho]; exact on
  · rw [ho]; exact fun x hx => hs x (os x hx)
theorem TabOk.kept {c P : Addr} (x : TabOk h c P) (k : Kept M h h') (hc : c ∉ M) (hP : P ∉ M) : TabOk h' c P := by
  obtain ⟨ps, ⟨o, vs, file, tf, flags, tg, inF, text, tt, op, ho, hd, h11, h2, h7, h9, h10, hop, r⟩, ⟨o2, vs2, a2, r2⟩, t2⟩ := x
  exact ⟨ps, ⟨o, vs, file, tf, flags, tg, inF, text, tt, op, k _ _ ho hc, hd, h11, h2, h7, h9, h10, k _ _ hop hP, r⟩, ⟨o2, vs2, k _ _ a2 hc, r2⟩, k _ _ t2 hP⟩
theorem Rep.inj (R : Rep w A σ h) {n n' : Fin 5} (hn : n ∈ σ.ns) (hn' : n' ∈ σ.ns) (e : (A.r n).a = (A.r n').a) : n = n' := by
  by_cases q : n = n'
  · exact q
  · have e1 := (R.ro n hn).i
    have e2 := (R.ro n' hn').i
    rw [e, e2] at e1
    simp only [Option.some.injEq, Obj.mk.injEq] at e1
    have z := e1.2.1
    exact absurd (show (A.r n).dx ∈ (A.r n').ds by rw [← z]; exact List.mem_cons_self) (R.nd2 n hn n' hn' q (A.r n).dx List.mem_cons_self)
theorem mem_foot {ns : List (Fin 5)} {x : Addr} : x ∈ A.foot ns ↔ x = A.m ∨ x = A.dm ∨ x = A.al ∨ x = A.ar ∨ ∃ n ∈ ns, x ∈ (A.r n).all := by
  simp [AD.foot, List.mem_flatMap]
theorem Rep.foot (R : Rep w A σ h) {x : Addr} (hx : x ∈ A.foot σ.ns) : ∃ o, h.get? x = some o ∧ o.cls ≠ .type "tuple" := by
  rcases mem_foot.mp hx with rfl | rfl | rfl | rfl | ⟨n, hn, hx⟩
  · exact ⟨_, R.mi, by intro q; cases q⟩
  · obtain ⟨_, _, _, _, _, _, e⟩ := R.md; exact ⟨_, e, ne_tup (by decide)⟩
  · obtain ⟨_, e⟩ := R.al; exact ⟨_, e, ne_tup (by decide)⟩
  · obtain ⟨o, es, ep, ho, hc, _⟩ := R.ar
    refine ⟨o, ho, ?_⟩
    have := hc.1
    intro q; rw [q] at this; exact absurd this (by decide)
  · have z := R.ro n hn
    have dd : ∀ {d : Addr} {xs : List (List PySem.Str × Addr × Value)}, h.DictOfH (tk w) d xs → ∃ o, h.get? d = some o ∧ o.cls ≠ .type "tuple" := fun ⟨o, es, ep, ho, hc, _⟩ =>
      ⟨o, ho, fun q => absurd (q ▸ hc.1) (by decide)⟩
    simp only [RA.all, List.mem_cons, List.not_mem_nil, or_false] at hx
    rcases hx with rfl | rfl | rfl | rfl | rfl | rfl
    · exact ⟨_, z.i, by intro q; cases q⟩
    · obtain ⟨_, _, _, _, _, _, e⟩ := z.d; exact ⟨_, e, ne_tup (by decide)⟩
    · obtain ⟨_, e⟩ := z.rl; exact ⟨_, e, ne_tup (by decide)⟩
    · obtain ⟨_, _, e, _⟩ := z.ul; exact ⟨_, e, ne_tup (by decide)⟩
    · obtain ⟨_, e, _⟩ := z.cm; exact dd e
    · obtain ⟨_, e, _⟩ := z.pm; exact dd e
theorem ne_sys {x : Addr} (h : @LT.lt Nat _ 1 x) : (x == sysModules) = false := by
  have : x ≠ sysModules := fun q => absurd (show @LT.lt Nat _ 1 1 from by rw [show x = 1 from q] at h; exact h) (Nat.lt_irrefl _)
  simpa using this
theorem Rep.smA (R : Rep w A σ h) : (A.ar == sysModules) = false := ne_sys R.gt.2.1
theorem Rep.sm (R : Rep w A σ h) {n : Fin 5} (hn : n ∈ σ.ns) {x : Addr} (hx : x ∈ (A.r n).ds) : (x == sysModules) = false := ne_sys (R.gt.2.2 n hn x hx)
theorem Rep.noTup (R : Rep w A σ h) (hM : ∀ x ∈ M, x ∈ A.foot σ.ns) : NoTup M h := fun b o _ _ e ht _ hb => by
  obtain ⟨o', e', n⟩ := R.foot (hM b hb)
  rw [e] at e'; cases e'
  exact n ht
end
end
section
structure Stand (w : World) (g : Heap) (A : AD) (σ : SS) (s : Shared) : Prop where
  hg : g.StaysIn s.heap
  off : ∀ x ∈ A.hid σ.ns, g.get? x = none
  R : Rep w A σ s.heap
structure Step (A : AD) (σ : SS) (s : Shared) (A' : AD) (σ' : SS) (s' : Shared) : Prop where
  post : Post (A.hid σ.ns) s s'
  em : A'.m = A.m
  ra : ∀ n ∈ σ.ns, (A'.r n).a = (A.r n).a
  ns : ∀ n ∈ σ.ns, n ∈ σ'.ns
  fresh : ∀ x ∈ A'.foot σ'.ns, x ∈ A.foot σ.ns ∨ s.heap.get? x = none
section
variable {w : World} {mg mb : PySem.Str → Option Value} {base g : Heap} {outer : List Env} {A A' A'' : AD} {σ σ' σ'' : SS} {s s' s'' : Shared} {L : Addr} {m : PySem.Str → Option Value} {env : Env}
theorem Step.hid (p : Step A σ s A' σ' s') : ∀ x ∈ A'.hid σ'.ns, x ∈ A.hid σ.ns ∨ s.heap.get? x = none := fun x hx => by
  simp only [AD.hid, List.mem_cons] at hx ⊢
  rcases hx with rfl | rfl | hx
  · exact .inl (.inl rfl)
  · exact .inl (.inr (.inl rfl))
  · exact (p.fresh x hx).imp (fun q => .inr (.inr q)) id
theorem Step.notin (p : Step A σ s A' σ' s') {b : Addr} {o : Obj} (e : s.heap.get? b = some o) (n : b ∉ A.hid σ.ns) : b ∉ A'.hid σ'.ns := fun q => by
  rcases p.hid b q with q | q
  · exact n q
  · rw [q] at e; cases e
theorem Step.trans (p : Step A σ s A' σ' s') (q : Step A' σ' s' A'' σ'' s'') : Step A σ s A'' σ'' s'' where
  post := ⟨fun b o e n => q.post.keep b o (p.post.keep b o e n) (p.notin e n), (p.post.trans q.post).dom, (p.post.trans q.post).os, (p.post.trans q.post).bare⟩
  em := q.em.trans p.em
  ra := fun n hn => (q.ra n (p.ns n hn)).trans (p.ra n hn)
  ns := fun n hn => q.ns n (p.ns n hn)
  fresh := fun x hx => (q.fresh x hx).elim (fun y => p.fresh x y) fun y => .inr (p.post.fresh y)
theorem Step.of_post {M : List Addr} (p : Post M s s') (hM : ∀ x ∈ M, x ∈ A.hid σ.ns) : Step A σ s A σ s' :=
  ⟨p.sub hM, rfl, fun _ _ => rfl, fun _ h => h, fun _ h => .inl h⟩
theorem Stand.step (Z : Stand w g A σ s) (p : Step A σ s A' σ' s') (R : Rep w A' σ' s'.heap) : Stand w g A' σ' s' where
  hg := fun b o e => p.post.keep b o (Z.hg b o e) fun q => by rw [Z.off b q] at e; cases e
  off := fun x hx => (p.hid x hx).elim (Z.off x) fun q => by
    cases e : g.get? x with
    | none => rfl
    | some o => rw [Z.hg x o e] at q; cases q
  R := R
theorem Rep.hidden {h : Heap} (R : Rep w A σ h) {x : Addr} (hx : x ∈ A.hid σ.ns) : ∃ o, h.get? x = some o := by
  simp only [AD.hid, List.mem_cons] at hx
  rcases hx with rfl | rfl | hx
  · exact Ob44 (TabOk.two R.t7) fun _ _ op _ _ _ hop _ => ⟨op, hop⟩
  · exact Ob44 (TabOk.two R.t9) fun _ _ op _ _ _ hop _ => ⟨op, hop⟩
  · obtain ⟨o, e, _⟩ := R.foot hx; exact ⟨o, e⟩
def inG (A : AD) (σ : SS) (h : Heap) : Heap := hideAll h (A.hid σ.ns)
theorem inner (C : Cx w mg mb base outer g) (Z : Stand w g A σ s) (hn : s.heap.Ns L m) (hL : g.get? L = none) (hLh : L ∉ A.hid σ.ns) (hf : env.frame = some L) (hk : env.scope.kind = .function) :
    Cx w mg mb base (env :: outer) (inG A σ s.heap) ∧ Stand w (inG A σ s.heap) A σ s := by
  have kk : ∀ b o, g.get? b = some o → (inG A σ s.heap).get? b = some o := fun b o e => hideAll_get _ (Z.hg b o e) fun q => by rw [Z.off b q] at e; cases e
  refine Ob33 (hn) fun oL es ep hL' hd r => ?_
  exact ⟨C.push ⟨oL, es, ep, hideAll_get _ hL' hLh, hd, r⟩ hL hf hk kk, ⟨fun b o e => of_hideAll _ e, fun x hx => hideAll_none _ hx, Z.R⟩⟩
theorem Post.ns {M : List Addr} (p : Post M s s') (hn : s.heap.Ns L m) (hL : L ∉ M) : s'.heap.Ns L m := by
  obtain ⟨oL, es, ep, hL', r⟩ := hn
  exact ⟨oL, es, ep, p.keep _ _ hL' hL, r⟩
end
def SS.add (σ : SS) (n : Fin 5) : SS := { σ with ns := if n ∈ σ.ns then σ.ns else σ.ns ++ [n] }
end
section
section
variable {w : World} {h h' : Heap} {A A' : AD} {σ σ' : SS} {M : List Addr}
theorem Rep.kept (R : Rep w A σ h) (k : Kept M h h') (t : NoTup M h) (hM : ∀ x ∈ A.hid σ.ns, x ∉ M) (h4 : 784 ∉ M) (h10 : 1000 ∉ M) : Rep w A σ h' := by
  have hf : ∀ x ∈ A.foot σ.ns, x ∉ M := fun x hx => hM x (by simp only [AD.hid, List.mem_cons]; exact .inr (.inr hx))
  refine Ob61 (R.md) fun t1 t2 t3 t4 t5 tl md => ?_
  refine Ob11 (R.al) fun k1 al => ?_
  obtain ⟨o, es, ep, ar, r⟩ := R.ar
  exact { mi := k _ _ R.mi (hf _ (mem_foot.mpr (.inl rfl))), md := ⟨t1, t2, t3, t4, t5, tl, k _ _ md (hf _ (mem_foot.mpr (.inr (.inl rfl))))⟩,
          al := ⟨k1, k _ _ al (hf _ (mem_foot.mpr (.inr (.inr (.inl rfl)))))⟩, la := fun p hp => k.tup t (R.la p hp),
          ar := ⟨o, es, ep, k _ _ ar (hf _ (mem_foot.mpr (.inr (.inr (.inr (.inl rfl)))))), r⟩,
          ro := fun n hn => (R.ro n hn).kept k t (fun y hy => hf y (mem_foot.mpr (.inr (.inr (.inr (.inr ⟨n, hn, hy⟩)))))) rfl (fun _ _ => rfl) rfl rfl rfl fun _ z => z,
          nd1 := R.nd1, nd2 := R.nd2, ne := R.ne, gt := R.gt, ab := R.ab, nn := R.nn, ln := R.ln,
          t7 := R.t7.kept k h4 (hM 782 List.mem_cons_self), t9 := R.t9.kept k h10 (hM 998 (List.mem_cons_of_mem _ List.mem_cons_self)) }
theorem NoTup.nil : NoTup [] h := fun _ _ _ _ _ _ _ q => nomatch q
end
structure Grd (w : World) (mg mb : PySem.Str → Option Value) (base : Heap) (outer : List Env) (g : Heap) (s₀ : Shared) (Mm : List Addr) (A : AD) (σ : SS) (s₁ : Shared) (L : Addr) (h₀ : Heap) (ex tl : List (Addr × Obj)) : Prop where
  C : Cx w mg mb base outer g
  Z : Stand w g A σ s₁
  P : Post Mm s₀ s₁
  L0 : s₀.heap.get? L = none
  gL : ∀ b o, g.get? b = some o → b < L
  Lh : L ∉ A.hid σ.ns
  L4 : L ≠ 784 ∧ L ≠ 1000
  Ld : NoTup [L] s₁.heap
  hex : ∀ p ∈ ex, s₁.heap.get? p.1 = some p.2
  cov : Cov s₁.heap h₀ L ex tl
  tx : ∀ p ∈ tl, ∀ q ∈ ex, @Ne Nat p.1 q.1
  gh : g.StaysIn h₀
  C₀ : Cx w mg mb base outer h₀
theorem Post.trans' {Mm M' : List Addr} {s₀ s s' : Shared} (p : Post Mm s₀ s) (q : Post M' s s') (h : ∀ x ∈ M', x ∈ Mm ∨ s₀.heap.get? x = none) : Post Mm s₀ s' :=
  ⟨fun b o e n => q.keep b o (p.keep b o e n) fun x => (h b x).elim n fun y => (by rw [y] at e; cases e), (p.trans q).dom, (p.trans q).os, (p.trans q).bare⟩
section
variable {w : World} {mg mb : PySem.Str → Option Value} {base g h₀ h : Heap} {outer : List Env} {A A' : AD} {σ σ' : SS} {s₀ s₁ s s' : Shared} {Mm M' : List Addr} {L : Addr} {m : PySem.Str → Option Value} {env : Env} {ex tl news : List (Addr × Obj)}
theorem Grd.X (G : Grd w mg mb base outer g s₀ Mm A σ s₁ L h₀ ex tl) : (K w.params).In h₀ := G.C₀.X
theorem Grd.T (G : Grd w mg mb base outer g s₀ Mm A σ s₁ L h₀ ex tl) : TopRead q (looseW q loose) mg mb h₀ := G.C₀.T
theorem Grd.B (G : Grd w mg mb base outer g s₀ Mm A σ s₁ L h₀ ex tl) {d u : Nat} {gs : Option (List Code)} : Below (Ar d outer gs u) base outer h₀ := G.C₀.B
theorem Grd.gLn (G : Grd w mg mb base outer g s₀ Mm A σ s₁ L h₀ ex tl) : g.get? L = none := by
  cases q : g.get? L with
  | none => rfl
  | some o => exact absurd (G.gL L o q) (Nat.lt_irrefl _)
theorem Grd.enter (Mm : List Addr) {led : List (Addr × Obj)} (C : Cx w mg mb base outer g) (Z : Stand w g A σ s) (hl : ∀ p ∈ led, s.heap.get? p.1 = some p.2 ∧ g.get? p.1 = none) (hL : s.heap.get? L = none) (gL : ∀ b o, g.get? b = some o → b < L)
    (C₀ : Cx w mg mb base outer (restH s.heap led)) : Grd w mg mb base outer g s Mm A σ s L (restH s.heap led) led [] where
  C := C
  Z := Z
  P := (Post.refl s).sub fun _ q => nomatch q
  L0 := hL
  gL := gL
  Lh := fun q => by obtain ⟨o, e⟩ := Z.R.hidden q; rw [hL] at e; cases e
  L4 := by
    refine Ob44 (TabOk.two Z.R.t7) fun o vs op ps ho _ _ _ => ?_
    refine Ob44 (TabOk.two Z.R.t9) fun o' vs' op' ps' ho' _ _ _ => ?_
    exact ⟨fun q => (by rw [q, ho] at hL; cases hL), fun q => (by rw [q, ho'] at hL; cases hL)⟩
  Ld := fun b o _ _ e _ _ q => by rw [List.mem_singleton.mp q, hL] at e; cases e
  hex := fun p hp => (hl p hp).1
  cov := fun b o e _ hb => .inl (hideAll_get _ e hb)
  tx := fun _ q => nomatch q
  gh := restH_of Z.hg hl
  C₀ := C₀
theorem Grd.keptM {M : List Addr} (G : Grd w mg mb base outer g s₀ Mm A σ s₁ L h₀ ex tl) (F : Fr h₀ L h m) (N : News h₀ L h news) (h1 : ∀ p ∈ ex, p ∈ news ∨ p.1 ∈ M) (h2 : ∀ p ∈ tl, p ∈ news) : Kept (L :: M) s₁.heap h := fun b o e n => by
  have n1 : b ≠ L := fun q => n (q ▸ List.mem_cons_self)
  by_cases hb : b ∈ ex.map (·.1)
  · obtain ⟨p, hp, rfl⟩ := List.mem_map.mp hb
    rw [G.hex p hp] at e; cases e
    rcases h1 p hp with q | q
    · exact (N _ q).1
    · exact absurd (List.mem_cons_of_mem _ q) n
  · rcases G.cov b o e n1 hb with q | q
    · exact F.keep b o q
    · exact (N _ (h2 _ q)).1
theorem Grd.kept (G : Grd w mg mb base outer g s₀ Mm A σ s₁ L h₀ ex tl) (F : Fr h₀ L h m) (N : News h₀ L h news) (h1 : ∀ p ∈ ex, p ∈ news) (h2 : ∀ p ∈ tl, p ∈ news) : Kept [L] s₁.heap h :=
  G.keptM F N (fun p hp => .inl (h1 p hp)) h2
theorem Grd.stand (G : Grd w mg mb base outer g s₀ Mm A σ s₁ L h₀ ex tl) (F : Fr h₀ L h m) (N : News h₀ L h news) (h1 : ∀ p ∈ ex, p ∈ news) (h2 : ∀ p ∈ tl, p ∈ news) (e : s.heap = h) : Stand w g A σ s := by
  subst e
  exact { hg := fun b o e => F.keep b o (G.gh b o e), off := G.Z.off, R := G.Z.R.kept (G.kept F N h1 h2) G.Ld (fun x hx q => G.Lh (List.mem_singleton.mp q ▸ hx)) (fun q => G.L4.1 (List.mem_singleton.mp q).symm) (fun q => G.L4.2 (List.mem_singleton.mp q).symm) }
theorem Grd.rep (G : Grd w mg mb base outer g s₀ Mm A σ s₁ L h₀ ex tl) (F : Fr h₀ L h m) (N : News h₀ L h news) (h1 : ∀ p ∈ ex, p ∈ news) (h2 : ∀ p ∈ tl, p ∈ news) : Rep w A σ h :=
  (G.stand (s := { s₁ with heap := h }) F N h1 h2 rfl).R
theorem Grd.cx (G : Grd w mg mb base outer g s₀ Mm A σ s₁ L h₀ ex tl) (F : Fr h₀ L h m) (N : News h₀ L h news) (h1 : ∀ p ∈ ex, p ∈ news) (h2 : ∀ p ∈ tl, p ∈ news) (hf : env.frame = some L) (hk : env.scope.kind = .function) :
    Cx w mg mb base (env :: outer) (inG A σ h) := (inner G.C (G.stand (s := { s₁ with heap := h }) F N h1 h2 rfl) F.ns G.gLn G.Lh hf hk).1
theorem Grd.st (G : Grd w mg mb base outer g s₀ Mm A σ s₁ L h₀ ex tl) (F : Fr h₀ L h m) (N : News h₀ L h news) (h1 : ∀ p ∈ ex, p ∈ news) (h2 : ∀ p ∈ tl, p ∈ news) (e : s.heap = h) : Stand w (inG A σ h) A σ s := by
  subst e
  exact ⟨fun b o e => of_hideAll _ e, fun x hx => hideAll_none _ hx, G.rep F N h1 h2⟩
theorem Grd.priv {p : Addr × Obj} (G : Grd w mg mb base outer g s₀ Mm A σ s₁ L h₀ ex tl) (N : News h₀ L h news) (hp : p ∈ news) : p.1 ≠ L ∧ g.get? p.1 = none := ⟨(N p hp).2.1, by
  cases e : g.get? p.1 with
  | none => rfl
  | some o => have := G.gh _ _ e; rw [(N p hp).2.2] at this; cases this⟩
theorem Grd.new {l : Addr} {o : Obj} (G : Grd w mg mb base outer g s₀ Mm A σ s₁ L h₀ ex tl) (N : News h₀ L h news) (hm : (l, o) ∈ news) (hx : ∀ p ∈ ex, @Ne Nat p.1 l) (ht : ∀ p ∈ tl, @Ne Nat p.1 l) : s₁.heap.get? l = none ∧ s₀.heap.get? l = none := by
  have z : s₁.heap.get? l = none := by
    cases e : s₁.heap.get? l with
    | none => rfl
    | some o' =>
      have n := N _ hm
      rcases G.cov l o' e n.2.1 (fun q => by
        obtain ⟨p, hp, e⟩ := List.mem_map.mp q
        exact hx p hp e) with q | q
      · rw [n.2.2] at q; cases q
      · exact absurd rfl (ht _ q)
  exact ⟨z, G.P.fresh z⟩
theorem Grd.post (G : Grd w mg mb base outer g s₀ Mm A σ s₁ L h₀ ex tl) (F : Fr h₀ L h m) (N : News h₀ L h news) (h1 : ∀ p ∈ ex, p ∈ news ∨ p.1 ∈ Mm ∧ ∃ o, (p.1, o) ∈ news) (h2 : ∀ p ∈ tl, p ∈ news) (e : s.heap = h) (ho : s.os = s₁.os) (hb : AllBare s₁.gens → AllBare s.gens) : Post Mm s₀ s := by
  subst e
  have kk : Kept (L :: Mm) s₁.heap s.heap := G.keptM F N (fun p hp => (h1 p hp).imp id (·.1)) h2
  refine ⟨fun b o e n => kk b o (G.P.keep b o e n) fun q => ?_, fun b o e => ?_, ho.trans G.P.os, fun x => hb (G.P.bare x)⟩
  · rcases List.mem_cons.mp q with rfl | q
    · rw [G.L0] at e; cases e
    · exact n q
  · obtain ⟨o', e'⟩ := G.P.dom b o e
    have nL : b ≠ L := fun q => by subst q; rw [G.L0] at e; cases e
    by_cases hx : b ∈ ex.map (·.1)
    · obtain ⟨p, hp, rfl⟩ := List.mem_map.mp hx
      rcases h1 p hp with q | ⟨_, o'', q⟩
      · exact ⟨_, (N _ q).1⟩
      · exact ⟨_, (N _ q).1⟩
    · rcases G.cov b o' e' nL hx with q | q
      · exact ⟨_, F.keep b o' q⟩
      · exact ⟨_, (N _ (h2 _ q)).1⟩
theorem Grd.back (G : Grd w mg mb base outer g s₀ Mm A σ s₁ L h₀ ex tl) (F : Fr h₀ L h m) (N : News h₀ L h news) (h1 : ∀ p ∈ ex, p ∈ news) (h2 : ∀ p ∈ tl, p ∈ news) (p : Post M' s s') (e : s.heap = h) (ho : s.os = s₁.os) (hb : s.gens = s₁.gens)
    (hM : ∀ x ∈ M', x ∈ Mm ∨ s₀.heap.get? x = none) (hM2 : ∀ x ∈ M', x ∈ A.hid σ.ns) (hh : ∀ x ∈ A'.foot σ'.ns, x ∈ A.foot σ.ns ∨ s.heap.get? x = none) (R : Rep w A' σ' s'.heap)
    (ex' : List (Addr × Obj)) (hx : ∀ p ∈ ex', s'.heap.get? p.1 = some p.2 ∧ (p.1 ∈ A'.foot σ'.ns ∨ p.1 ≠ L ∧ g.get? p.1 = none)) :
    ∃ h₀' tl', Grd w mg mb base outer g s₀ Mm A' σ' s' L h₀' ex' tl' ∧ Fr h₀' L s'.heap m ∧ News h₀' L s'.heap (ex' ++ tl') := by
  subst e
  have Z₁ := G.stand F N h1 h2 rfl
  have hid : ∀ x ∈ A'.hid σ'.ns, x ∈ A.hid σ.ns ∨ s.heap.get? x = none := fun x hx => by
    simp only [AD.hid, List.mem_cons] at hx ⊢
    rcases hx with rfl | rfl | hx
    · exact .inl (.inl rfl)
    · exact .inl (.inr (.inl rfl))
    · exact (hh x hx).imp (fun q => .inr (.inr q)) fun q => q
  have Z : Stand w g A' σ' s' := ⟨fun b o e => p.keep b o (Z₁.hg b o e) fun q => (by rw [Z₁.off b (hM2 b q)] at e; cases e),
    fun x hx => (hid x hx).elim (Z₁.off x) fun q => (by
      cases e : g.get? x with
      | none => rfl
      | some o => rw [Z₁.hg x o e] at q; cases q), R⟩
  refine Ob33 (F.ns) fun oL es ep hL' hd r => ?_
  have hL'' := p.keep _ _ hL' fun q => G.Lh (hM2 _ q)
  have Lh' : L ∉ A'.hid σ'.ns := fun q => (hid L q).elim G.Lh fun y => by rw [hL'] at y; cases y
  have hx' : ∀ p ∈ ex', s'.heap.get? p.1 = some p.2 ∧ p.1 ≠ L ∧ g.get? p.1 = none := fun p hp => ⟨(hx p hp).1, by
    rcases (hx p hp).2 with q | q
    · have q' : p.1 ∈ A'.hid σ'.ns := List.mem_cons_of_mem _ (List.mem_cons_of_mem _ q)
      exact ⟨fun y => Lh' (y ▸ q'), Z.off _ q'⟩
    · exact q⟩
  obtain ⟨h₀', tl', F', N', C', gh', cov', tx'⟩ := reseg (m := m) ex' G.C Z.hg G.gL ⟨oL, es, ep, hL'', hd, r⟩ hx'
  refine ⟨h₀', tl', ⟨G.C, Z, (G.post F N (fun p hp => .inl (h1 p hp)) h2 rfl ho (fun x => hb ▸ x)).trans' p hM, G.L0, G.gL, Lh', G.L4, fun b o _ _ e _ hds q => ?_, fun p hp => (hx p hp).1, cov', tx', gh', C'⟩, F', N'⟩
  rw [List.mem_singleton.mp q] at e
  obtain rfl : oL = o := Option.some.inj (hL''.symm.trans e)
  rw [hd] at hds; cases hds
theorem Grd.back0 (G : Grd w mg mb base outer g s₀ Mm A σ s₁ L h₀ ex tl) (F : Fr h₀ L h m) (N : News h₀ L h news) (h1 : ∀ p ∈ ex, p ∈ news) (h2 : ∀ p ∈ tl, p ∈ news) (p : Post [] s s') (e : s.heap = h) (ho : s.os = s₁.os) (hb : s.gens = s₁.gens) (R : Rep w A σ s'.heap)
    (ex' : List (Addr × Obj)) (hx : ∀ p ∈ ex', s'.heap.get? p.1 = some p.2 ∧ (p.1 ∈ A.foot σ.ns ∨ p.1 ≠ L ∧ g.get? p.1 = none)) :
    ∃ h₀' tl', Grd w mg mb base outer g s₀ Mm A σ s' L h₀' ex' tl' ∧ Fr h₀' L s'.heap m ∧ News h₀' L s'.heap (ex' ++ tl') :=
  G.back F N h1 h2 p e ho hb (fun _ q => nomatch q) (fun _ q => nomatch q) (fun _ q => .inl q) R ex' hx
end
section
variable {A : AD} {ns : List (Fin 5)} {n : Fin 5}
theorem foot_m : A.m ∈ A.foot ns := mem_foot.mpr (.inl rfl)
theorem foot_dm : A.dm ∈ A.foot ns := mem_foot.mpr (.inr (.inl rfl))
theorem foot_al : A.al ∈ A.foot ns := mem_foot.mpr (.inr (.inr (.inl rfl)))
theorem foot_ar : A.ar ∈ A.foot ns := mem_foot.mpr (.inr (.inr (.inr (.inl rfl))))
theorem foot_a (h : n ∈ ns) : (A.r n).a ∈ A.foot ns := mem_foot.mpr (.inr (.inr (.inr (.inr ⟨n, h, by simp [RA.all]⟩))))
theorem foot_dx (h : n ∈ ns) : (A.r n).dx ∈ A.foot ns := mem_foot.mpr (.inr (.inr (.inr (.inr ⟨n, h, by simp [RA.all]⟩))))
theorem foot_rl (h : n ∈ ns) : (A.r n).rl ∈ A.foot ns := mem_foot.mpr (.inr (.inr (.inr (.inr ⟨n, h, by simp [RA.all]⟩))))
theorem foot_ul (h : n ∈ ns) : (A.r n).ul ∈ A.foot ns := mem_foot.mpr (.inr (.inr (.inr (.inr ⟨n, h, by simp [RA.all]⟩))))
theorem foot_cm (h : n ∈ ns) : (A.r n).cm ∈ A.foot ns := mem_foot.mpr (.inr (.inr (.inr (.inr ⟨n, h, by simp [RA.all]⟩))))
theorem foot_pm (h : n ∈ ns) : (A.r n).pm ∈ A.foot ns := mem_foot.mpr (.inr (.inr (.inr (.inr ⟨n, h, by simp [RA.all]⟩))))
theorem off_of {w : World} {g : Heap} {σ : SS} {s : Shared} {x : Addr} (Z : Stand w g A σ s) (h : x ∈ A.foot σ.ns) : g.get? x = none := Z.off x (List.mem_cons_of_mem _ (List.mem_cons_of_mem _ h))
end
end
section
section
variable {w : World} {A : AD} {σ : SS} {s : Shared} {Ar : Around} {E : Value → Shared → Prop} {Q : Value → Shared → Prop} {n : Fin 5} {t : Nat}
theorem valueAt_ns (f : Fin 5 → Value) : ∀ {ns : List (Fin 5)}, valueAt (ns.map fun n => (nmS n, f n)) (nmS n) = if n ∈ ns then some (f n) else none
  | [] => rfl
  | a :: r => by
    have ih := valueAt_ns f (ns := r)
    unfold valueAt at ih ⊢
    rw [List.map_cons, List.find?_cons]
    by_cases q : a = n
    · subst q; simp
    · have q' : ¬ nmS a = nmS n := fun e => q (nmS_inj e)
      have q2 : ¬ n = a := fun e => q e.symm
      simp only [decide_eq_false q']
      rw [ih]
      simp [q2]
theorem notIn_ns (R : Rep w A σ s.heap) (h : Q (.bool (!decide (n ∈ σ.ns))) { s with toks := s.toks + 1 }) :
    wpAny (model pw_ae0023_01 w) Ar (compareOp .NotIn (.str (nmS n) t) (.ref A.ar)) Q E s := by
  refine wpAny_notIn_of (knd := PySem.strKind pw_ae0023_01 w) (strKind_is _ _ _ _) R.smA R.ar.mapOf ?_
  rw [valueAt_ns fun n => Value.ref (A.r n).a]
  by_cases q : n ∈ σ.ns
  · rw [if_pos q]; rw [decide_eq_true q] at h; exact h
  · rw [if_neg q]; rw [decide_eq_false q] at h; exact h
theorem item_ns {value slice : Expr} (R : Rep w A σ s.heap) (hn : n ∈ σ.ns) (h : Q (.ref (A.r n).a) { s with toks := s.toks + 1 })
    (hs : subscripted slice false (.ref A.ar) (.str (nmS n) t) = operate [.ref A.ar, .str (nmS n) t] (getItem (.ref A.ar) (.str (nmS n) t))) :
    wpAny (model pw_ae0023_01 w) Ar (subscriptTail value slice (.ref A.ar) (.str (nmS n) t)) Q E s :=
  kba_turn (value' := PySem.Expr.Name (PySem.Str.ofString "_") ⟨0, 0, 0, 0⟩) (fun _ => rfl)
    (subscriptTail_builtin R.ar.mapOf.typeIs slot_dict_getitem.lookup (wpAny_getItem_of (knd := PySem.strKind pw_ae0023_01 w) (strKind_is _ _ _ _) R.ar.mapOf (by rw [valueAt_ns fun n => Value.ref (A.r n).a, if_pos hn]) h) hs (fun _ => rfl))
end
theorem len_row : ∀ r : Fin 7, (rowS r).length ≤ sizeLine := by decide
theorem len_row3 : ∀ r : Fin 7, (rowS r).length ≤ 3 := by decide
def wordsOf : Option (Fin 7) → List PySem.Str
  | none => []
  | some r => rowS r
def condV : Option (Fin 3) → Value
  | none => .none
  | some f => .ref (condF f)
section
variable {w : World} {A : AD} {σ : SS} {s : Shared} {Ar : Around} {E : Value → Shared → Prop} {Q : Value → Shared → Prop} {d a : Addr} {b : Fin 5} {m : Fin 3}
theorem tup2 {h : Heap} {a : Addr} {x y : PySem.Str} {t u n : Nat} (e : h.get? a = some { cls := .type "tuple", data := .seq #[.str x t, .str y u] n }) : IsTupleKey (strKind pw_ae0023_01 w) h [x, y] a :=
  ⟨_, _, _, e, rfl, rfl, .cons (strKind_is _ _ _ _) (.cons (strKind_is _ _ _ _) .nil)⟩
theorem dictMethod_H {xs : List (List PySem.Str × Addr × Value)} {pl : Sem Bool} {Q : Value × List Value → Shared → Prop} (hd : s.heap.DictOfH (tk w) d xs) (h : Q (.builtin "dict.get", [.ref d]) s) :
    wpAny (model pw_ae0023_01 w) Ar (getMethod (.ref d) "get" pl) Q E s :=
  getMethod_builtin hd.typeIs PySem.F.plainAttrs_dict PySem.F.slot_dict_get PySem.F.type_dict_get (dictOfH_noDict hd) h
theorem cond_get {c : Fin 5 → Fin 3 → Option (Fin 3)} (C : CondAt w s.heap d c) (lo : (d == sysModules) = false) (hu : Ar.units + 2 < cLine) (hk : IsTupleKey (strKind pw_ae0023_01 w) s.heap [nmS b, domS m] a) (h : ∀ tk', Q (condV (c b m)) { s with toks := tk' }) :
    wpAny (model pw_ae0023_01 w) Ar (call (.builtin "dict.get") [.ref d, .ref a]) Q E s := by
  obtain ⟨xs, hd, _, hv⟩ := C
  refine call_meetsIn PySem.F.slot_dict_get hd.typeIs PySem.F.entry_dict_get (PySem.F.args_dict_get_2 _ _) (meetsH_dict_get (tk w) d a lo) ⟨?_, _, xs, hk, hd, ?_⟩
  · exact tupleKind_room_in1 (by omega)
  · rw [hv b m]
    have z := h (s.toks + (tk w).draws [nmS b, domS m])
    cases e : c b m with
    | none => rw [e] at z; exact z
    | some f => rw [e] at z; exact z
theorem prm_get {p : Fin 5 → Fin 3 → Option (Fin 7)} (C : PrmAt w s.heap d p) (lo : (d == sysModules) = false) (hu : Ar.units + 2 < cLine) (hk : IsTupleKey (strKind pw_ae0023_01 w) s.heap [nmS b, domS m] a)
    (h0 : p b m = none → ∀ tk', Q .none { s with toks := tk' }) (h1 : ∀ r t, p b m = some r → IsTupleKey (strKind pw_ae0023_01 w) s.heap (rowS r) t → ∀ tk', Q (.ref t) { s with toks := tk' }) :
    wpAny (model pw_ae0023_01 w) Ar (call (.builtin "dict.get") [.ref d, .ref a]) Q E s := by
  obtain ⟨xs, hd, _, hv⟩ := C
  refine call_meetsIn PySem.F.slot_dict_get hd.typeIs PySem.F.entry_dict_get (PySem.F.args_dict_get_2 _ _) (meetsH_dict_get (tk w) d a lo) ⟨?_, _, xs, hk, hd, ?_⟩
  · exact tupleKind_room_in1 (by omega)
  · have z := hv b m
    cases e : p b m with
    | none => rw [e] at z; rw [show atKey xs [nmS b, domS m] = none from z]; exact h0 e _
    | some r =>
      rw [e] at z
      obtain ⟨k, t, e1, e2⟩ := z
      rw [e1]; exact h1 r t e e2 _
theorem dict_get_H {xs : List (List PySem.Str × Addr × Value)} {ks : List PySem.Str} (hd : s.heap.DictOfH (tk w) d xs) (lo : (d == sysModules) = false) (hu : Ar.units + 2 < cLine) (hk : IsTupleKey (strKind pw_ae0023_01 w) s.heap ks a)
    (h : ∀ tk', Q (((atKey xs ks).map (·.2)).getD .none) { s with toks := tk' }) : wpAny (model pw_ae0023_01 w) Ar (call (.builtin "dict.get") [.ref d, .ref a]) Q E s :=
  call_meetsIn PySem.F.slot_dict_get hd.typeIs PySem.F.entry_dict_get (PySem.F.args_dict_get_2 _ _) (meetsH_dict_get (tk w) d a lo) ⟨tupleKind_room_in1 (by omega), _, xs, hk, hd, h _⟩
theorem isTup_of {h : Heap} {a : Addr} {ks : List PySem.Str} (x : IsTupleKey (strKind pw_ae0023_01 w) h ks a) : ∃ its, IsTup h a its ∧ ItemsAre (strKind pw_ae0023_01 w) ks its.toList :=
  let ⟨o, its, n, ho, hc, hd, hi⟩ := x; ⟨its, ⟨o, ho, hc, n, hd⟩, hi⟩
end
end
section
def AD.set (A : AD) (a : Fin 5) (r : RA) : AD := { A with r := fun n => if n = a then r else A.r n }
section
variable {w : World} {h h' : Heap} {A A' : AD} {σ σ' : SS} {M : List Addr} {a : Fin 5} {x : Addr} {r' : RA}
theorem AD.set_self : A.set a (A.r a) = A := by
  unfold AD.set
  obtain ⟨m, dm, al, ar, la, r⟩ := A
  congr 1
  funext n
  by_cases q : n = a
  · rw [if_pos q, q]
  · rw [if_neg q]
theorem AD.set_r : (A.set a r').r a = r' := if_pos rfl
theorem AD.set_ne {n : Fin 5} (q : n ≠ a) : (A.set a r').r n = A.r n := if_neg q
theorem AD.set_a {n : Fin 5} (e : r'.a = (A.r a).a) : ((A.set a r').r n).a = (A.r n).a := by
  by_cases q : n = a
  · rw [q, AD.set_r, e]
  · rw [AD.set_ne q]
theorem RA.ds_all {r : RA} {y : Addr} (q : y ∈ r.ds) : y ∈ r.all := by
  simp only [RA.ds, RA.all, List.mem_cons, List.not_mem_nil, or_false] at q ⊢
  rcases q with q | q | q <;> simp [q]
theorem foot_r {ns : List (Fin 5)} {n : Fin 5} (hn : n ∈ ns) {y : Addr} (q : y ∈ (A.r n).all) : y ∈ A.foot ns := mem_foot.mpr (.inr (.inr (.inr (.inr ⟨n, hn, q⟩))))
theorem RoleAt.clsI {n : Fin 5} (z : RoleAt w h A σ n) {y : Addr} {o : Obj} (e : h.get? y = some o) : (y = (A.r n).a → o.cls = .ref 854) ∧ (y = (A.r n).rl → o.cls = .type "list") ∧ (y = (A.r n).ul → o.cls = .type "list") ∧ (y ∈ (A.r n).ds → o.cls = .type "dict") := by
  have dd : ∀ {d : Addr} {xs : List (List PySem.Str × Addr × Value)}, h.DictOfH (tk w) d xs → ∀ o, h.get? d = some o → o.cls = .type "dict" := fun ⟨o', es, ep, ho, hc, _⟩ o e => by
    rw [ho] at e; cases e; exact hc.1
  refine ⟨fun q => ?_, fun q => ?_, fun q => ?_, fun q => ?_⟩
  · subst q; rw [z.i] at e; cases e; rfl
  · subst q; obtain ⟨_, e'⟩ := z.rl; rw [e'] at e; cases e; rfl
  · subst q; obtain ⟨_, _, e', _⟩ := z.ul; rw [e'] at e; cases e; rfl
  · simp only [RA.ds, List.mem_cons, List.not_mem_nil, or_false] at q
    rcases q with rfl | rfl | rfl
    · obtain ⟨_, _, _, _, _, _, e'⟩ := z.d; rw [e'] at e; cases e; rfl
    · obtain ⟨_, e', _⟩ := z.cm; exact dd e' _ e
    · obtain ⟨_, e', _⟩ := z.pm; exact dd e' _ e
theorem cls_ne {p q : Value} (h1 : p = .type "dict") (h2 : q = .type "list") : p ≠ q := by rw [h1, h2]; exact ne_of_str (by decide)
  where ne_of_str {x y : String} (h : x ≠ y) : Value.type x ≠ .type y := fun q => h (by injection q)
theorem Rep.apart (R : Rep w A σ h) (ha : a ∈ σ.ns) (hx : x ∈ (A.r a).ds) : x ≠ A.m ∧ x ≠ A.dm ∧ x ≠ A.al ∧ x ≠ A.ar ∧ (∀ n ∈ σ.ns, n ≠ a → x ∉ (A.r n).all) ∧ x ≠ (A.r a).a ∧ x ≠ (A.r a).rl ∧ x ≠ (A.r a).ul := by
  have hd : ∀ o, h.get? x = some o → o.cls = .type "dict" := fun o e => ((R.ro a ha).clsI e).2.2.2 hx
  have no : ∀ {y : Addr} {o : Obj}, h.get? y = some o → o.cls ≠ .type "dict" → x ≠ y := fun e n q => n (hd _ (q ▸ e))
  have nl : Value.type "list" ≠ .type "dict" := fun q => by injection q with q; exact absurd q (by decide)
  have z := R.ro a ha
  refine ⟨no R.mi (by intro q; cases q), fun q => (R.nd1.2 a ha).1 (q ▸ hx), ?_, fun q => (R.nd1.2 a ha).2.1 (q ▸ hx), fun n hn hne hm => ?_, no z.i (by intro q; cases q), ?_, ?_⟩
  · obtain ⟨_, e⟩ := R.al; exact no e nl
  · have z := R.ro n hn
    simp only [RA.all, List.mem_cons, List.not_mem_nil, or_false] at hm
    have ap := R.nd2 a ha n hn (Ne.symm hne) x hx
    simp only [RA.ds, List.mem_cons, List.not_mem_nil, or_false, not_or] at ap
    rcases hm with q | q | q | q | q | q
    · exact no z.i (by intro q; cases q) q
    · exact ap.1 q
    · obtain ⟨_, e⟩ := z.rl; exact no e nl q
    · obtain ⟨_, _, e, _⟩ := z.ul; exact no e nl q
    · exact ap.2.1 q
    · exact ap.2.2 q
  · obtain ⟨_, e⟩ := z.rl; exact no e nl
  · obtain ⟨_, _, e, _⟩ := z.ul; exact no e nl
theorem Rep.modR (R : Rep w A σ h) (ha : a ∈ σ.ns) (hx : x ∈ (A.r a).ds) (k : Kept [x] h h') (hr : r'.a = (A.r a).a ∧ r'.dx = (A.r a).dx ∧ r'.cm = (A.r a).cm ∧ r'.pm = (A.r a).pm) (hne : r'.rl ≠ A.al ∧ r'.ul ≠ A.al)
    (e1 : σ'.lv = σ.lv) (e2 : σ'.ls = σ.ls) (e3 : σ'.ns = σ.ns) (eo : ∀ n, n ≠ a → σ'.out n = σ.out n ∧ σ'.cond n = σ.cond n ∧ σ'.prm n = σ.prm n)
    (ro : RoleAt w h' (A.set a r') σ' a) (h4 : x ≠ 784 ∧ x ≠ 1000) (h5 : x ≠ 782 ∧ x ≠ 998) : Rep w (A.set a r') σ' h' := by
  obtain ⟨n1, n2, n3, n4, n5, _⟩ := R.apart ha hx
  have t : NoTup [x] h := R.noTup fun y hy => by rw [List.mem_singleton.mp hy]; exact foot_r ha (RA.ds_all hx)
  refine Ob61 (R.md) fun t1 t2 t3 t4 t5 tl md => ?_
  refine Ob11 (R.al) fun k1 al => ?_
  obtain ⟨o, es, ep, ar, r⟩ := R.ar
  have ds : ∀ n, ((A.set a r').r n).ds = (A.r n).ds := fun n => by
    by_cases q : n = a
    · rw [q, AD.set_r]; unfold RA.ds; rw [hr.2.1, hr.2.2.1, hr.2.2.2]
    · rw [AD.set_ne q]
  have n1' : ∀ {y : Addr}, x ≠ y → y ∉ [x] := fun n q => n (List.mem_singleton.mp q).symm
  refine { mi := k _ _ R.mi (n1' n1), md := ⟨t1, t2, t3, t4, t5, tl, by rw [e1]; exact k _ _ md (n1' n2)⟩, al := ⟨k1, by rw [e2]; exact k _ _ al (n1' n3)⟩, la := (by rw [e2]; exact fun p hp => k.tup t (R.la p hp)),
           ar := ⟨o, es, ep, k _ _ ar (n1' n4), ?_⟩, ro := fun n hn => ?_, nd1 := ⟨R.nd1.1, fun n hn => (by rw [ds n]; exact R.nd1.2 n (e3 ▸ hn))⟩, nd2 := fun n hn n' hn' q y hy => (by rw [ds] at hy ⊢; exact R.nd2 n (e3 ▸ hn) n' (e3 ▸ hn') q y hy),
           ne := fun n hn => ?_, gt := ⟨R.gt.1, R.gt.2.1, fun n hn y hy => (by rw [ds] at hy; exact R.gt.2.2 n (e3 ▸ hn) y hy)⟩, ab := fun n hn => ?_, nn := (by rw [e3]; exact R.nn), ln := (by rw [e2]; exact R.ln),
           t7 := R.t7.kept k (n1' h4.1) (n1' h5.1), t9 := R.t9.kept k (n1' h4.2) (n1' h5.2) }
  · rw [e3]
    have : (σ.ns.map fun n => (nmS n, Value.ref ((A.set a r').r n).a)) = σ.ns.map fun n => (nmS n, Value.ref (A.r n).a) := List.map_congr_left fun n _ => by rw [AD.set_a hr.1]
    rw [this]; exact r
  · by_cases q : n = a
    · subst q; exact ro
    · have hn' : n ∈ σ.ns := e3 ▸ hn
      have q' := eo n q
      exact (R.ro n hn').kept k t (fun y hy hm => n5 n hn' q (List.mem_singleton.mp hm ▸ hy)) (AD.set_ne q) (fun y _ => AD.set_a hr.1) q'.1 q'.2.1 q'.2.2 fun y hy => by rw [e3]; exact hy
  · by_cases q : n = a
    · subst q; rw [AD.set_r]; exact hne
    · rw [AD.set_ne q]; exact R.ne n (e3 ▸ hn)
  · rw [e3] at hn
    have na : n ≠ a := fun q => hn (q ▸ ha)
    have q' := eo n na
    have z := R.ab n hn
    rw [q'.1, q'.2.1, q'.2.2]; exact z
end
def SS.setC (σ : SS) (a b : Fin 5) (m : Fin 3) (f : Fin 3) : SS := { σ with cond := fun x y z => if x = a ∧ y = b ∧ z = m then some f else σ.cond x y z }
def SS.setP (σ : SS) (a b : Fin 5) (m : Fin 3) (r : Fin 7) : SS := { σ with prm := fun x y z => if x = a ∧ y = b ∧ z = m then some r else σ.prm x y z }
section
variable {w : World} {h h' : Heap} {A A' : AD} {σ σ' : SS} {M : List Addr} {a b : Fin 5} {dm : Fin 3} {f : Fin 3} {rw' : Fin 7}
theorem atKey_stored {K : Type} [DecidableEq K] (xs : List (K × Addr × Value)) (k k' : K) (p : Addr) (v : Value) : (atKey (storedH xs k p v) k').map (·.2) = if k' = k then some v else (atKey xs k').map (·.2) := by
  have h1 := valueAt_kvsOf (storedH xs k p v) k'
  have h2 := valueAt_kvsOf xs k'
  rw [kvsOf_storedH] at h1
  rw [← h1, ← h2]
  clear h1 h2
  generalize kvsOf xs = l
  unfold stored
  split
  · rename_i e
    induction l with
    | nil => simp at e
    | cons x r ih =>
      unfold valueAt at ih ⊢
      simp only [List.map_cons, List.find?_cons]
      by_cases q : x.1 = k
      · subst q
        simp only [if_true]
        by_cases q2 : k' = x.1
        · subst q2; simp
        · have q3 : ¬ x.1 = k' := fun e => q2 e.symm
          simp only [decide_eq_false q3, if_neg q2]
          by_cases e2 : (r.any fun kv => decide (kv.1 = x.1)) = true
          · rw [ih e2, if_neg q2]
          · have e2' : ∀ y ∈ r, ¬ y.1 = x.1 := fun y hy q => e2 (List.any_eq_true.mpr ⟨y, hy, by simp [q]⟩)
            rw [List.map_congr_left (g := id) fun y hy => by rw [if_neg (e2' y hy)]; rfl, List.map_id]
      · have e2 : (r.any fun kv => decide (kv.1 = k)) = true := by simpa [q] using e
        simp only [if_neg q]
        by_cases q2 : x.1 = k'
        · have q3 : ¬ k' = k := fun e => q (q2.trans e)
          simp [q2, q3]
        · simp only [decide_eq_false q2]
          exact ih e2
  · rename_i e
    unfold valueAt
    rw [List.find?_append]
    by_cases q : k' = k
    · subst q
      have : (l.find? fun kv => decide (kv.1 = k')) = none := List.find?_eq_none.mpr fun y hy q => e (List.any_eq_true.mpr ⟨y, hy, q⟩)
      rw [this]; simp
    · have q3 : ¬ k = k' := fun e => q e.symm
      simp [q, q3]
theorem keysIn_stored {xs : List (List PySem.Str × Addr × Value)} (hk : KeysIn xs) (p : Addr) (v : Value) : KeysIn (storedH xs [nmS b, domS dm] p v) := fun x hx => by
  rcases mem_storedH hx with ⟨y, hy, e, _⟩ | ⟨e, _⟩
  · obtain ⟨b', m', e'⟩ := hk y hy; exact ⟨b', m', e.trans e'⟩
  · exact ⟨b, dm, e⟩
theorem key_eq {b b' : Fin 5} {m m' : Fin 3} : ([nmS b, domS m] : List PySem.Str) = [nmS b', domS m'] ↔ b = b' ∧ m = m' := by
  constructor
  · intro e
    simp only [List.cons.injEq, and_true] at e
    exact ⟨nmS_inj e.1, domS_inj e.2⟩
  · rintro ⟨rfl, rfl⟩; rfl
end
end
section
section
variable {w : World} {h h' : Heap} {A A' : AD} {σ σ' : SS} {M : List Addr} {a b : Fin 5} {dm : Fin 3} {f : Fin 3} {r : Fin 7} {x k : Addr} {r' : RA} {s s' : Shared} {Ar : Around} {E : Value → Shared → Prop} {Q : Unit → Shared → Prop}
theorem Rep.far_data (R : Rep w A σ h) {o : Obj} {es : Array DictEntry} {n : Nat} (e : h.get? x = some o) (hd : o.data = .dict es n) : (x ≠ 784 ∧ x ≠ 1000) ∧ x ≠ 782 ∧ x ≠ 998 := by
  refine Ob44 (TabOk.two R.t7) fun o1 vs op ps ho hd1 hop hpd => ?_
  refine Ob44 (TabOk.two R.t9) fun o1' vs' op' ps' ho' hd1' hop' hpd' => ?_
  refine ⟨⟨fun q => ?_, fun q => ?_⟩, fun q => ?_, fun q => ?_⟩
  · rw [q, ho] at e; cases e; rw [hd1] at hd; cases hd
  · rw [q, ho'] at e; cases e; rw [hd1'] at hd; cases hd
  · rw [q, hop] at e; cases e; rw [hpd] at hd; cases hd
  · rw [q, hop'] at e; cases e; rw [hpd'] at hd; cases hd
theorem Rep.ds_data (R : Rep w A σ h) (ha : a ∈ σ.ns) (hx : x ∈ (A.r a).ds) : ∃ o es n, h.get? x = some o ∧ o.data = .dict es n := by
  have z := R.ro a ha
  simp only [RA.ds, List.mem_cons, List.not_mem_nil, or_false] at hx
  rcases hx with rfl | rfl | rfl
  · obtain ⟨_, _, _, _, _, _, e⟩ := z.d; exact ⟨_, _, _, e, rfl⟩
  · obtain ⟨_, ⟨o, es, ep, e, _, hd, _⟩, _⟩ := z.cm; exact ⟨_, _, _, e, hd⟩
  · obtain ⟨_, ⟨o, es, ep, e, _, hd, _⟩, _⟩ := z.pm; exact ⟨_, _, _, e, hd⟩
theorem Rep.far (R : Rep w A σ h) (ha : a ∈ σ.ns) (hx : x ∈ (A.r a).ds) : (x ≠ 784 ∧ x ≠ 1000) ∧ x ≠ 782 ∧ x ≠ 998 := by
  obtain ⟨o, es, n, e, hd⟩ := R.ds_data ha hx
  exact R.far_data e hd
theorem kept_same {d : Addr} (hs : Heap.SameBut d h h') : Kept [d] h h' := fun b o e n => (hs.2 b fun q => n (List.mem_singleton.mpr q)).trans e
theorem cm_ds : (A.r a).cm ∈ (A.r a).ds := by simp [RA.ds]
theorem pm_ds : (A.r a).pm ∈ (A.r a).ds := by simp [RA.ds]
theorem dx_ds : (A.r a).dx ∈ (A.r a).ds := by simp [RA.ds]
theorem RoleAt.mod (R : Rep w A σ h) (ha : a ∈ σ.ns) (hx : x ∈ (A.r a).ds) (k : Kept [x] h h') (σ' : SS) (e3 : σ'.ns = σ.ns) (ro : σ'.out a = σ.out a) (hd : x ≠ (A.r a).dx) (hc : x ≠ (A.r a).cm ∧ σ'.cond a = σ.cond a ∨ CondAt w h' (A.r a).cm (σ'.cond a))
    (hp : x ≠ (A.r a).pm ∧ σ'.prm a = σ.prm a ∨ PrmAt w h' (A.r a).pm (σ'.prm a)) : RoleAt w h' A σ' a := by
  obtain ⟨_, _, _, _, _, n1, n2, n3⟩ := R.apart ha hx
  have t : NoTup [x] h := R.noTup fun y hy => by rw [List.mem_singleton.mp hy]; exact foot_r ha (RA.ds_all hx)
  have nm : ∀ {y : Addr}, x ≠ y → y ∉ [x] := fun n q => n (List.mem_singleton.mp q).symm
  obtain ⟨i, ⟨t1, t2, t3, t4, t5, tn, d⟩, ⟨k1, rl⟩, ⟨inn, k2, ul, u1, u2⟩, cm, pm, on, os⟩ := R.ro a ha
  refine ⟨k _ _ i (nm n1), ⟨t1, t2, t3, t4, t5, tn, k _ _ d (nm hd)⟩, ⟨k1, by rw [ro]; exact k _ _ rl (nm n2)⟩, ⟨inn, k2, k _ _ ul (nm n3), u1, fun y hy => by rw [e3]; exact u2 y hy⟩, ?_, ?_, by rw [ro]; exact on, by rw [ro, e3]; exact os⟩
  · rcases hc with ⟨q, e⟩ | q
    · rw [e]; exact cm.kept k t (nm q)
    · exact q
  · rcases hp with ⟨q, e⟩ | q
    · rw [e]; exact pm.kept k t (nm q)
    · exact q
theorem ds_ne (R : Rep w A σ h) (ha : a ∈ σ.ns) : (A.r a).dx ≠ (A.r a).cm ∧ (A.r a).dx ≠ (A.r a).pm ∧ (A.r a).cm ≠ (A.r a).pm := by
  have := (R.nd1.2 a ha).2.2
  simp only [RA.ds, List.nodup_cons, List.mem_cons, List.not_mem_nil, or_false, not_or] at this
  exact ⟨this.1.1, this.1.2, this.2.1⟩
theorem setItem_cond (R : Rep w A σ s.heap) (ha : a ∈ σ.ns) (hu : Ar.units + 2 < cLine) (hk : IsTupleKey (strKind pw_ae0023_01 w) s.heap [nmS b, domS dm] k)
    (hQ : ∀ h' tk', Rep w A (σ.setC a b dm f) h' → Post [(A.r a).cm] s { s with heap := h', toks := tk' } → Q () { s with heap := h', toks := tk' }) :
    wpAny (model pw_ae0023_01 w) Ar (setItem (.ref (A.r a).cm) (.ref k) (.ref (condF f))) Q E s := by
  obtain ⟨xs, hx, hki, hv⟩ := (R.ro a ha).cm
  have nn : (xs.map (·.1)).Nodup := by obtain ⟨_, _, _, _, _, _, _, _, n⟩ := hx; exact n
  refine wpAny_setItem_heap (tupleKind_room_in1 (by omega)) hk hx (fun h' hd hs => hQ _ _ ?_ ?_) ?_
  · have kk := kept_same hs
    have far := R.far ha (x := (A.r a).cm) cm_ds
    have hne := ds_ne R ha
    have ro : RoleAt w h' A (σ.setC a b dm f) a := RoleAt.mod R ha cm_ds kk _ rfl rfl (Ne.symm hne.1) (.inr ⟨_, hd, keysIn_stored hki _ _, fun b' m' => ?_⟩) (.inl ⟨hne.2.2, rfl⟩)
    · have := R.modR ha cm_ds kk (r' := A.r a) (σ' := σ.setC a b dm f) ⟨rfl, rfl, rfl, rfl⟩ (R.ne a ha) rfl rfl rfl (fun n hn => ⟨rfl, ?_, rfl⟩) (by rw [AD.set_self]; exact ro) far.1 far.2
      · rw [AD.set_self] at this; exact this
      · funext y z
        show (if n = a ∧ y = b ∧ z = dm then some f else σ.cond n y z) = _
        rw [if_neg fun q => hn q.1]
    · rw [atKey_stored]
      show _ = Option.map _ (if a = a ∧ b' = b ∧ m' = dm then some f else σ.cond a b' m')
      by_cases q : b' = b ∧ m' = dm
      · rw [if_pos (key_eq.mpr q), if_pos ⟨rfl, q⟩]; rfl
      · rw [if_neg fun e => q (key_eq.mp e), if_neg fun e => q e.2]; exact hv b' m'
  · refine ⟨kept_same hs, fun y o e => ?_, rfl, id⟩
    by_cases q : y = (A.r a).cm
    · obtain ⟨o', _, _, e', _⟩ := hd; exact ⟨o', q ▸ e'⟩
    · exact ⟨o, (hs.2 y q).trans e⟩
  · exact Nat.le_trans (len_keys hki nn) (by decide)
theorem setItem_prm {t : Addr} (R : Rep w A σ s.heap) (ha : a ∈ σ.ns) (hu : Ar.units + 2 < cLine) (hk : IsTupleKey (strKind pw_ae0023_01 w) s.heap [nmS b, domS dm] k) (ht : IsTupleKey (strKind pw_ae0023_01 w) s.heap (rowS r) t)
    (hQ : ∀ h' tk', Rep w A (σ.setP a b dm r) h' → Post [(A.r a).pm] s { s with heap := h', toks := tk' } → Q () { s with heap := h', toks := tk' }) :
    wpAny (model pw_ae0023_01 w) Ar (setItem (.ref (A.r a).pm) (.ref k) (.ref t)) Q E s := by
  obtain ⟨xs, hx, hki, hv⟩ := (R.ro a ha).pm
  have nn : (xs.map (·.1)).Nodup := by obtain ⟨_, _, _, _, _, _, _, _, n⟩ := hx; exact n
  have nt : NoTup [(A.r a).pm] s.heap := R.noTup fun y hy => by rw [List.mem_singleton.mp hy]; exact foot_pm ha
  refine wpAny_setItem_heap (tupleKind_room_in1 (by omega)) hk hx (fun h' hd hs => hQ _ _ ?_ ?_) ?_
  · have kk := kept_same hs
    have far := R.far ha (x := (A.r a).pm) pm_ds
    have hne := ds_ne R ha
    have ro : RoleAt w h' A (σ.setP a b dm r) a := RoleAt.mod R ha pm_ds kk _ rfl rfl (Ne.symm hne.2.1) (.inl ⟨Ne.symm hne.2.2, rfl⟩) (.inr ⟨_, hd, keysIn_stored hki _ _, fun b' m' => ?_⟩)
    · have := R.modR ha pm_ds kk (r' := A.r a) (σ' := σ.setP a b dm r) ⟨rfl, rfl, rfl, rfl⟩ (R.ne a ha) rfl rfl rfl (fun n hn => ⟨rfl, rfl, ?_⟩) (by rw [AD.set_self]; exact ro) far.1 far.2
      · rw [AD.set_self] at this; exact this
      · funext y z
        show (if n = a ∧ y = b ∧ z = dm then some r else σ.prm n y z) = _
        rw [if_neg fun q => hn q.1]
    · have e0 := atKey_stored xs [nmS b, domS dm] [nmS b', domS m'] k (.ref t)
      show match (if a = a ∧ b' = b ∧ m' = dm then some r else σ.prm a b' m') with | none => _ | some r => _
      by_cases q : b' = b ∧ m' = dm
      · rw [if_pos (key_eq.mpr q)] at e0
        rw [if_pos ⟨rfl, q⟩]
        obtain ⟨⟨p, v⟩, e1, e2⟩ := Option.map_eq_some_iff.mp e0
        exact ⟨p, t, by rw [e1]; rw [show v = .ref t from e2], kk.tup nt ht⟩
      · rw [if_neg fun e => q (key_eq.mp e)] at e0
        rw [if_neg fun e => q e.2]
        have z := hv b' m'
        cases e : σ.prm a b' m' with
        | none =>
          rw [e] at z
          rw [show atKey xs [nmS b', domS m'] = none from z] at e0
          exact Option.map_eq_none_iff.mp e0
        | some r'' =>
          rw [e] at z
          obtain ⟨p, t', z1, z2⟩ := z
          rw [z1] at e0
          obtain ⟨⟨p', v⟩, e1, e2⟩ := Option.map_eq_some_iff.mp e0
          exact ⟨p', t', by rw [e1]; rw [show v = .ref t' from e2], kk.tup nt z2⟩
  · refine ⟨kept_same hs, fun y o e => ?_, rfl, id⟩
    by_cases q : y = (A.r a).pm
    · obtain ⟨o', _, _, e', _⟩ := hd; exact ⟨o', q ▸ e'⟩
    · exact ⟨o, (hs.2 y q).trans e⟩
  · exact Nat.le_trans (len_keys hki nn) (by decide)
end
end
section
theorem wp_peekA {α : Type} {K : Frag} {M : Model} {A : Around} {E : Value → Shared → Prop} {Q : α → Shared → Prop} {s : Shared} {o : Obj} {r : Addr → α}
    (X : K.In s.heap) (q : Q (r s.heap.objs.size) { s with heap := s.heap.push o }) :
    ∀ (t : Sem α) (g : Addr → Option α), peek1 K ⟨M.prog, M.w.params⟩ t = some (o, g) → (∀ D, g D = some (r D)) → wpAny M A t Q E s := by
  intro t
  induction t with
  | rule _ k ih => intro g e hg Γ p hΓ; exact ih () g e hg Γ p hΓ
  | point _ k ih => intro g e hg Γ p hΓ; exact ih () g e hg Γ p hΓ
  | ask k ih => intro g e hg Γ p hΓ; exact ih _ g e hg Γ p hΓ
  | load a _ k ih =>
    intro g e hg Γ p hΓ
    simp only [peek1] at e
    split at e
    · rename_i ob ho; exact ⟨ob, X _ _ ho, ih ob g e hg Γ p hΓ⟩
    · cases e
  | alloc ob k _ =>
    intro g e hg
    have e : some (ob, fun D => peek K ⟨M.prog, M.w.params⟩ (k D)) = some (o, g) := e
    obtain ⟨e1, e2⟩ := Prod.mk.inj (Option.some.inj e)
    subst e1
    subst e2
    have X' : K.In (s.heap.push ob) := X.keeps fun b x hb => Heap.get?_push_of_some _ hb
    show wpAny M A (alloc ob >>= k) Q E s
    refine wpAny_bind (wpAny_alloc ?_)
    exact (Looks.of_peek (M := M) (h := s.heap.push ob) X' (hg s.heap.objs.size)).here (s := { s with heap := s.heap.push ob }) q
  | _ => intro g e; cases e
section
variable {w : World} {mg mb : PySem.Str → Option Value} {base g : Heap} {outer : List Env} {d u : Nat} {gs : Option (List Code)} {E : Value → Shared → Prop} {s : Shared} {led : List (Addr × Obj)}
  {R : Result → Shared → Prop} {name qual : PySem.Str} {params : Arguments} {body : List Stmt} {scope : Scope} {dV kV doc pm cdv ct oc : Value} {an od : Option Addr} {osl : Array (Option Value)} {f : Addr} {args : Args} {binds : Addr → List (PySem.Str × Value)}
  {vs : List Value} {g₁ : Addr → Option (List (PySem.Str × Value))}
abbrev tupOf (vs : List Value) : Obj := { cls := .type "tuple", data := .seq vs.toArray }
theorem enter_rest (C : Cx w mg mb base outer g) (hg : g.StaysIn s.heap) (hl : ∀ p ∈ led, s.heap.get? p.1 = some p.2 ∧ g.get? p.1 = none)
    (ho : (K w.params).lookup f = some ⟨oc, od, .func (fnOf name qual params body scope dV kV doc pm an cdv ct), osl⟩) (hcd : codeIn (K w.params) cdv qual = true) (hroom : d < recursionLimit)
    (hp : peek1 (K w.params) ⟨pw_ae0023_01, w.params⟩ (bindArgs (fnOf name qual params body scope dV kV doc pm an cdv ct) args) = some (tupOf vs, g₁)) (hgg : ∀ D, g₁ D = some (binds D)) (hloc : ∀ D, ∀ y ∈ binds D, scope.names.lookup y.1 = some .local)
    (h : ∀ D L' h₁, s.heap.get? D = none → s.heap.get? L' = none → (∀ b o, g.get? b = some o → b < L') → Fr (restH s.heap led) L' h₁ (fun y => (binds D).reverse.lookup y) → News (restH s.heap led) L' h₁ ((D, tupOf vs) :: led) → Cx w mg mb base outer (restH s.heap led) → (∀ p ∈ (D, tupOf vs) :: led, p.1 < L') → (∀ p ∈ led, p.1 < D) →
      wpAny (model pw_ae0023_01 w) ((Ar d outer gs u).deeper (envOf qual scope L' f cdv)) (execs body (envOf qual scope L' f cdv))
        (fun fl s' => R (.ok (.ret (match fl with | .ret v => v | _ => .none))) s')
        (fun e s' => wpAny (model pw_ae0023_01 w) ((Ar d outer gs u).deeper (envOf qual scope L' f cdv)) (leaving (envOf qual scope L' f cdv) e) (fun _ s'' => R (.error e) s'') (fun e' s'' => R (.error e') s'') s')
        { s with heap := h₁, toks := s.toks + (binds D).length })
    (hco : scope.isCoroutine = false) (hgen : scope.isGenerator = false) (hk : scope.kind = .function)
    (hcell : ∀ x ∈ scope.names, x.2 ≠ .cell) : codeAny (model pw_ae0023_01 w) (Ar d outer gs u) (.call (.ref f) args) R s := by
  have C' := C.keeps (restH_of hg hl)
  have X := C.X.keeps hg
  have T := C.T.keeps hg
  refine codeAny_call_function (fd := fnOf name qual params body scope dV kV doc pm an cdv ct) (body := body) hroom (X _ _ ho) rfl hco hgen rfl (codeRec_of X hcd) ?_
  refine wp_peekA (o := tupOf vs) (r := binds) X ?_ _ g₁ hp hgg
  have kp : ∀ b o, s.heap.get? b = some o → (s.heap.push (tupOf vs)).get? b = some o := fun b o e => Heap.get?_push_of_some _ e
  refine wpAny_newFunctionEnv hcell (hloc _) (fun h₁ hns hsb => ⟨(T.nolimit.keeps kp).fresh _ hsb, codeAny_func ?_⟩) hk
  have hk₁ : ∀ b o, (s.heap.push (tupOf vs)).get? b = some o → h₁.get? b = some o := fun b o e => hsb.extBut b o (Nat.ne_of_lt (Heap.lt_size e)) (Heap.get?_push_of_some _ e)
  have hsz : (s.heap.push (tupOf vs)).objs.size = s.heap.objs.size + 1 := by rw [Heap.size_push]
  have hD : (s.heap.push (tupOf vs)).get? s.heap.objs.size = some (tupOf vs) := Heap.get?_push_size _ rfl
  have lt : s.heap.objs.size < (s.heap.push (tupOf vs)).objs.size := by rw [hsz]; exact Nat.lt_succ_self _
  refine h s.heap.objs.size (s.heap.push (tupOf vs)).objs.size h₁ (Heap.get?_none_of_le (Nat.le_refl _)) (Heap.get?_none_of_le (Nat.le_of_lt lt)) (fun b o e => Nat.lt_trans (Heap.lt_size (hg b o e)) lt)
    ⟨hns, fun b o e => hk₁ b o (kp b o (of_hideAll _ e)), by rw [hideAll_size]; exact Nat.le_of_lt lt⟩ (fun p hp => ?_) C' (fun p hp => ?_) (fun p hp => Heap.lt_size (hl p hp).1)
  · rcases List.mem_cons.mp hp with rfl | hp
    · refine ⟨hk₁ _ _ hD, Nat.ne_of_lt lt, ?_⟩
      cases q : (restH s.heap led).get? s.heap.objs.size with
      | none => rfl
      | some o => exact absurd (Heap.lt_size (of_hideAll _ q)) (Nat.lt_irrefl _)
    · exact ⟨hk₁ _ _ (kp _ _ (hl p hp).1), Nat.ne_of_lt (Nat.lt_trans (Heap.lt_size (hl p hp).1) lt), hideAll_none _ (List.mem_map_of_mem hp)⟩
  · rcases List.mem_cons.mp hp with rfl | hp
    · exact lt
    · exact Nat.lt_trans (Heap.lt_size (hl p hp).1) lt
end
end
section
theorem paired_eq : ∀ {l : List Value} {ys : List Value}, Paired (fun v y => y = v) l ys → ys = l
  | _, _, .nil => rfl
  | _, _, .cons h r => by rw [h, paired_eq r]
section
variable {w : World} {A : Around} {E : Value → Shared → Prop} {s : Shared} {env : Env}
theorem list_of_idx {vs : List Value} {items : Array Value} (hl : vs.length = items.size) (hv : ∀ (j : Nat) (v : Value), vs[j]? = some v → items[j]? = some v) : vs = items.toList := by
  refine List.ext_getElem? fun j => ?_
  by_cases hj : j < vs.length
  · have e : vs[j]? = some vs[j] := List.getElem?_eq_getElem hj
    rw [e, Array.getElem?_toList]; exact (hv j _ e).symm
  · rw [List.getElem?_eq_none (by omega), List.getElem?_eq_none (by rw [Array.length_toList]; omega)]
theorem lc_filter {iter test : Expr} {x : PySem.Str} {px pe : Pos} {scope : Scope} {cl : List (PySem.Str × Addr)} {pos : Pos} {Q : Value → Shared → Prop} (p : Value → Bool) (hh : A.handled = none)
    (hclos : closureFor scope env = pure cl) (hcell : ∀ y ∈ scope.names, y.2 ≠ .cell) (hkind : scope.kind = .function)
    (hnames : ∀ y ∈ scope.names, y.2 = .local → scope.names.lookup y.1 = some .local) (hx : scope.names.lookup x = some .local) (hd : (x == ("__debug__" : PySem.Str)) = false)
    (h : wpAny (model pw_ae0023_01 w) A (eval iter env) (fun xv s₁ => ∃ ax items, xv = .ref ax ∧ s₁.heap.IsList ax items ∧ items.size ≤ sizeLine ∧
      (∀ C v s₂ m₂ E', s₁.heap.objs.size ≤ C → v ∈ items.toList → s₂.heap.Ns C m₂ → m₂ x = some v → (∀ b o, s₁.heap.get? b = some o → s₂.heap.get? b = some o) →
        wpAny (model pw_ae0023_01 w) A (isTrue test (compEnvC scope cl C env) (eval test (compEnvC scope cl C env))) (fun ok s₃ => ok = p v ∧ Keeps s₂ s₃) E' s₂) ∧
      (∀ D h' tk n, (∀ b o, s₁.heap.get? b = some o → h'.get? b = some o) → s₁.heap.get? D = none → h'.get? D = some (listOf (items.toList.filter p).toArray n) → Q (.ref D) { s₁ with heap := h', toks := tk })) E s)
    (hs : ∀ x, foldedSetIterable iter env x = pure x := by intro _; rfl) :
    wpAny (model pw_ae0023_01 w) A (eval (.ListComp (.Name x pe) [⟨.Name x px, iter, [test], 0⟩] scope pos) env) Q E s := by
  refine wpAny_ListComp_free p (fun v y => y = v) hclos hcell hkind hnames hx (wpAny_mono h (fun xv s₁ h₁ => ?_) fun _ _ e => e) hs
  refine Ob2_5 (h₁) fun ax items e9 hl hsz ht hQ => ?_
  clear h₁
  subst e9
  have hlt : ax < s₁.heap.objs.size := by obtain ⟨_, e, _⟩ := hl; exact Heap.lt_size e
  have pk : ∀ b o, s₁.heap.get? b = some o → (s₁.heap.push { cls := .type "list_iterator", data := .fields #[.ref ax, .int 0 0] }).get? b = some o := fun b o e => Heap.get?_push_of_some _ e
  have up : ∀ (s₃ : Shared), (∀ b o, b ∉ [s₁.heap.objs.size] → (s₁.heap.push { cls := .type "list_iterator", data := .fields #[.ref ax, .int 0 0] }).get? b = some o → s₃.heap.get? b = some o) → ∀ b o, s₁.heap.get? b = some o → s₃.heap.get? b = some o :=
    fun s₃ hk b o e => hk b o (fun hm => by rcases List.mem_cons.mp hm with rfl | hm; exact Nat.lt_irrefl _ (Heap.lt_size e); cases hm) (pk b o e)
  refine wpAny_pyIter_list hl ⟨s₁.heap.objs.size, [s₁.heap.objs.size, ax], [s₁.heap.objs.size], items.size, _, _, rfl, Walks.list hh _ _ (Nat.ne_of_lt hlt) items, hsz, ⟨⟨_, Heap.get?_push_size _ rfl, rfl, rfl⟩, hl.push _⟩, ?_, ⟨?_, ?_⟩, ?_⟩
  · intro b hb
    show b < (s₁.heap.push _).objs.size
    rw [Heap.size_push]
    rcases List.mem_cons.mp hb with rfl | hb
    · exact Nat.lt_succ_self _
    · rw [List.mem_singleton.mp hb]; exact Nat.lt_succ_of_lt hlt
  · intro C i v s₃ m₃ E' hC hv hn hm hk htk
    refine wpAny_tests_one (ht C v s₃ m₃ E' (Nat.le_trans (by show _ ≤ (s₁.heap.push _).objs.size; rw [Heap.size_push]; exact Nat.le_succ _) hC) ?_ hn hm (up s₃ hk))
    rw [← Array.getElem?_toList] at hv
    exact List.mem_of_getElem? hv
  · intro C i v s₃ m₃ E' hC hv hp hn hm hk htk
    refine wpAny_Name (wpAny_loadName_local (by simp [compEnvC, relabel, hkind]) (lookup_relabel_local hx) hn hm ⟨rfl, ⟨_, _, rfl, fun b o e => e⟩⟩) hd
  · intro D h' tk ys vs hD hlD hpl hlen hP hF hk
    obtain ⟨n, hpl⟩ := hpl
    have e1 := paired_eq hF
    rw [list_of_idx hlen hP] at e1
    refine hQ D h' tk n (up { s₁ with heap := h' } hk) ?_ ?_
    · cases e : s₁.heap.get? D with
      | none => rfl
      | some o => rw [pk D o e] at hD; cases hD
    · rw [hpl, ← e1]
theorem isnot_test {x y : PySem.Str} {px py pos : Pos} {scope : Scope} {cl : List (PySem.Str × Addr)} {C c a b : Addr} {oa ob : Obj} {m : PySem.Str → Option Value} {Q : Bool → Shared → Prop} {whole : Sem Value}
    (hkind : scope.kind = .function) (hx : scope.names.lookup x = some .local) (hdx : (x == ("__debug__" : PySem.Str)) = false) (hdy : (y == ("__debug__" : PySem.Str)) = false)
    (hy : (compEnvC scope cl C env).kindOf y = some .cell) (hc : cl.lookup y = some c) (hcell : s.heap.IsCell c (some (.ref b))) (hn : s.heap.Ns C m) (hm : m x = some (.ref a))
    (ha : s.heap.get? a = some oa) (hb : s.heap.get? b = some ob) (hcls : oa.cls ≠ .type "tuple") (h : Q (decide (a ≠ b)) s) :
    wpAny (model pw_ae0023_01 w) A (isTrue (.Compare (.Name x px) [.IsNot] [.Name y py] pos) (compEnvC scope cl C env) whole) Q E s := by
  have hk : (compEnvC scope cl C env).scope.kind = .function := by simp [compEnvC, relabel, hkind]
  refine wpAny_isTrue_Compare1 ?_
  refine wpAny_Name (wpAny_loadName_local hk (lookup_relabel_local hx) hn hm ?_) hdx
  refine wpAny_Name (wpAny_loadName_cell hk hy hc hcell ?_) hdy
  by_cases q : a = b
  · subst q
    refine wpAny_isNot_ref_self ?_
    rw [show (decide (a ≠ a)) = false from by simp] at h
    exact wpAny_truthy_bool h
  · refine wpAny_isNot_ref_other q ha hb hcls ?_
    rw [decide_eq_true q] at h
    exact wpAny_truthy_bool h
theorem news_add {h₀ h h' : Heap} {L D : Addr} {m : PySem.Str → Option Value} {news : List (Addr × Obj)} {o : Obj} (F : Fr h₀ L h m) (N : News h₀ L h news) (hk : ∀ b o, h.get? b = some o → h'.get? b = some o) (hD : h.get? D = none) (e : h'.get? D = some o) :
    Fr h₀ L h' m ∧ News h₀ L h' ((D, o) :: news) ∧ ∀ p ∈ news, @Ne Nat p.1 D := by
  refine ⟨F.keeps hk, fun p hp => ?_, fun p hp q => ?_⟩
  · rcases List.mem_cons.mp hp with rfl | hp
    · refine ⟨e, fun q => ?_, ?_⟩
      · refine Ob32 (F.ns) fun oL _ _ hL _ => ?_
        have q : D = L := q
        rw [q, hL] at hD; cases hD
      · cases q : h₀.get? D with
        | none => rfl
        | some o' => rw [F.keep _ _ q] at hD; cases hD
    · exact ⟨hk _ _ (N p hp).1, (N p hp).2⟩
  · have := (N p hp).1
    have q : p.1 = D := q
    rw [q, hD] at this; cases this
end
end
section
theorem mAt {α : Type} {l : List α} {p : α} (i : Nat) (h : l[i]? = some p) : p ∈ l := List.mem_of_getElem? h
section
variable {w : World} {h h' : Heap} {A A' : AD} {σ σ' : SS} {M : List Addr} {a b : Fin 5} {r' : RA}
theorem filt_refs (R : Rep w A σ h) (ha : a ∈ σ.ns) : ∀ {l : List (Fin 5)}, (∀ x ∈ l, x ∈ σ.ns) → (refs A l).toList.filter (fun v => decide (v ≠ .ref (A.r a).a)) = (l.filter fun x => decide (x ≠ a)).map fun x => Value.ref (A.r x).a
  | [], _ => rfl
  | y :: l, hl => by
    have ih := filt_refs R ha (l := l) fun x hx => hl x (List.mem_cons_of_mem _ hx)
    simp only [refs, List.map_cons] at ih ⊢
    rw [List.filter_cons, List.filter_cons]
    by_cases q : y = a
    · subst q
      simp only [ne_eq, not_true, decide_false, Bool.false_eq_true, if_false]
      exact ih
    · have q' : Value.ref (A.r y).a ≠ .ref (A.r a).a := fun e => q (R.inj (hl y List.mem_cons_self) ha (by injection e))
      rw [if_pos (decide_eq_true q'), if_pos (decide_eq_true q), List.map_cons, ih]
theorem RoleAt.modD (R : Rep w A σ h) (ha : a ∈ σ.ns) (k : Kept [(A.r a).dx] h h') (r' : RA) (hr : r'.a = (A.r a).a ∧ r'.dx = (A.r a).dx ∧ r'.cm = (A.r a).cm ∧ r'.pm = (A.r a).pm) (σ' : SS) (e3 : σ'.ns = σ.ns) (ec : σ'.cond a = σ.cond a) (ep : σ'.prm a = σ.prm a)
    (d' : ∃ t1 t2 t3 t4 t5 tn, h'.get? (A.r a).dx = some (roleD w.params t1 t2 t3 t4 t5 (.str (nmS a) tn) r'.rl r'.ul (A.r a).cm (A.r a).pm)) (rl' : ∃ kk, h'.get? r'.rl = some (listOf (refs A (σ'.out a)) kk))
    (ul' : ∃ inn kk, h'.get? r'.ul = some (listOf (refs A inn) kk) ∧ inn.Nodup ∧ ∀ x ∈ inn, x ∈ σ.ns) (on : (σ'.out a).Nodup) (os : ∀ x ∈ σ'.out a, x ∈ σ.ns) : RoleAt w h' (A.set a r') σ' a := by
  have hx := dx_ds (A := A) (a := a)
  obtain ⟨_, _, _, _, _, n1, n2, n3⟩ := R.apart ha hx
  have hne := ds_ne R ha
  have t : NoTup [(A.r a).dx] h := R.noTup fun y hy => by rw [List.mem_singleton.mp hy]; exact foot_dx ha
  have nm : ∀ {y : Addr}, (A.r a).dx ≠ y → y ∉ [(A.r a).dx] := fun n q => n (List.mem_singleton.mp q).symm
  have rf : ∀ l, refs (A.set a r') l = refs A l := fun l => refs_congr fun x _ => AD.set_a hr.1
  refine Ob61 (d') fun t1 t2 t3 t4 t5 tn d' => ?_
  obtain ⟨k1, rl'⟩ := rl'
  obtain ⟨inn, k2, ul', u1, u2⟩ := ul'
  refine ⟨?_, ⟨t1, t2, t3, t4, t5, tn, ?_⟩, ⟨k1, ?_⟩, ⟨inn, k2, ?_, u1, fun x hx => by rw [e3]; exact u2 x hx⟩, ?_, ?_, on, fun x hx => by rw [e3]; exact os x hx⟩
  · rw [AD.set_r, hr.1, hr.2.1]; exact k _ _ (R.ro a ha).i (nm n1)
  · rw [AD.set_r, hr.2.1, hr.2.2.1, hr.2.2.2]; exact d'
  · rw [AD.set_r, rf]; exact rl'
  · rw [AD.set_r, rf]; exact ul'
  · rw [AD.set_r, hr.2.2.1, ec]; exact (R.ro a ha).cm.kept k t (nm hne.1)
  · rw [AD.set_r, hr.2.2.2, ep]; exact (R.ro a ha).pm.kept k t (nm hne.2.1)
theorem nodup_snoc {l : List (Fin 5)} (hn : l.Nodup) : (l.filter (fun x => decide (x ≠ a)) ++ [a]).Nodup := by
  rw [List.nodup_append]
  refine ⟨hn.filter _, by simp, fun x hx y hy q => ?_⟩
  rw [List.mem_singleton] at hy
  subst hy; subst q
  simp at hx
theorem Rep.modUl (R : Rep w A σ h) (ha : a ∈ σ.ns) (k : Kept [(A.r a).dx] h h') {l : Addr} {inn : List (Fin 5)} {kk t1 t2 t3 t4 t5 tn : Nat} (d' : h'.get? (A.r a).dx = some (roleD w.params t1 t2 t3 t4 t5 (.str (nmS a) tn) (A.r a).rl l (A.r a).cm (A.r a).pm))
    (e : h'.get? l = some (listOf (refs A inn) kk)) (hn : h.get? l = none) (u1 : inn.Nodup) (u2 : ∀ x ∈ inn, x ∈ σ.ns) : Rep w (A.set a { A.r a with ul := l }) σ h' := by
  have far := R.far ha (dx_ds (A := A) (a := a))
  obtain ⟨_, _, _, _, _, n1, n2, n3⟩ := R.apart ha (dx_ds (A := A) (a := a))
  refine Ob11 ((R.ro a ha).rl) fun k1 erl => ?_
  refine Ob11 (R.al) fun k4 eal => ?_
  exact R.modR ha (dx_ds (A := A) (a := a)) k ⟨rfl, rfl, rfl, rfl⟩ ⟨(R.ne a ha).1, fun q => by have q : l = A.al := q; rw [q, eal] at hn; cases hn⟩ rfl rfl rfl (fun n _ => ⟨rfl, rfl, rfl⟩)
    (RoleAt.modD R ha k { A.r a with ul := l } ⟨rfl, rfl, rfl, rfl⟩ σ rfl rfl rfl ⟨_, _, _, _, _, _, d'⟩ ⟨k1, k _ _ erl fun q => n2 (List.mem_singleton.mp q).symm⟩ ⟨inn, kk, e, u1, u2⟩ (R.ro a ha).on (R.ro a ha).os) far.1 far.2
def SS.setO (σ : SS) (a : Fin 5) (l : List (Fin 5)) : SS := { σ with out := fun x => if x = a then l else σ.out x }
theorem Rep.modRl (R : Rep w A σ h) (ha : a ∈ σ.ns) (k : Kept [(A.r a).dx] h h') {l : Addr} {o : List (Fin 5)} {kk t1 t2 t3 t4 t5 tn : Nat} (d' : h'.get? (A.r a).dx = some (roleD w.params t1 t2 t3 t4 t5 (.str (nmS a) tn) l (A.r a).ul (A.r a).cm (A.r a).pm))
    (e : h'.get? l = some (listOf (refs A o) kk)) (hn : h.get? l = none) (u1 : o.Nodup) (u2 : ∀ x ∈ o, x ∈ σ.ns) : Rep w (A.set a { A.r a with rl := l }) (σ.setO a o) h' := by
  have far := R.far ha (dx_ds (A := A) (a := a))
  obtain ⟨_, _, _, _, _, n1, n2, n3⟩ := R.apart ha (dx_ds (A := A) (a := a))
  refine Ob23 ((R.ro a ha).ul) fun inn k1 eul v1 v2 => ?_
  refine Ob11 (R.al) fun k4 eal => ?_
  have eo : (σ.setO a o).out a = o := if_pos rfl
  exact R.modR ha (dx_ds (A := A) (a := a)) k ⟨rfl, rfl, rfl, rfl⟩ ⟨fun q => (by have q : l = A.al := q; rw [q, eal] at hn; cases hn), (R.ne a ha).2⟩ rfl rfl rfl (fun n q => ⟨if_neg q, rfl, rfl⟩)
    (RoleAt.modD R ha k { A.r a with rl := l } ⟨rfl, rfl, rfl, rfl⟩ (σ.setO a o) rfl rfl rfl ⟨_, _, _, _, _, _, d'⟩ ⟨kk, by rw [eo]; exact e⟩ ⟨inn, k1, k _ _ eul fun q => n3 (List.mem_singleton.mp q).symm, v1, v2⟩ (by rw [eo]; exact u1) (by rw [eo]; exact u2)) far.1 far.2
end
section
variable {w : World} {mg mb : PySem.Str → Option Value} {base g h₀ h : Heap} {outer : List Env} {A A' : AD} {σ σ' : SS} {s₀ s₁ s s' : Shared} {Mm M' : List Addr} {L : Addr} {m : PySem.Str → Option Value} {env : Env} {ex tl news : List (Addr × Obj)}
theorem Grd.keptE {M : List Addr} (G : Grd w mg mb base outer g s₀ Mm A σ s₀ L h₀ ex tl) (F : Fr h₀ L h m) (N : News h₀ L h news) (h1 : ∀ p ∈ ex, p ∈ news ∨ p.1 ∈ M) (h2 : ∀ p ∈ tl, p ∈ news) : Kept M s₀.heap h := fun b o e n =>
  G.keptM F N h1 h2 b o e fun q => (List.mem_cons.mp q).elim (fun q => by rw [q, G.L0] at e; cases e) n
theorem Grd.turn (G : Grd w mg mb base outer g s₀ Mm A σ s₁ L h₀ ex tl) (F : Fr h₀ L h m) (N : News h₀ L h news) (h1 : ∀ p ∈ ex, p ∈ news ∨ p.1 ∈ Mm ∧ ∃ o, (p.1, o) ∈ news) (h2 : ∀ p ∈ tl, p ∈ news) (e : s.heap = h) (ho : s.os = s₁.os) (hb : s.gens = s₁.gens)
    (hh : ∀ x ∈ A'.foot σ'.ns, x ∈ A.foot σ.ns ∨ x ≠ L ∧ s₁.heap.get? x = none) (R : Rep w A' σ' h)
    (ex' : List (Addr × Obj)) (hx : ∀ p ∈ ex', h.get? p.1 = some p.2 ∧ (p.1 ∈ A'.foot σ'.ns ∨ p.1 ≠ L ∧ g.get? p.1 = none)) :
    ∃ h₀' tl', Grd w mg mb base outer g s₀ Mm A' σ' s L h₀' ex' tl' ∧ Fr h₀' L h m ∧ News h₀' L h (ex' ++ tl') := by
  subst e
  have hid : ∀ x ∈ A'.hid σ'.ns, x ∈ A.hid σ.ns ∨ x ≠ L ∧ s₁.heap.get? x = none := fun x hx => by
    simp only [AD.hid, List.mem_cons] at hx ⊢
    rcases hx with rfl | rfl | hx
    · exact .inl (.inl rfl)
    · exact .inl (.inr (.inl rfl))
    · exact (hh x hx).imp (fun q => .inr (.inr q)) fun q => q
  have gk : g.StaysIn s.heap := fun b o e => F.keep b o (G.gh b o e)
  have Z : Stand w g A' σ' s := ⟨gk, fun x hx => (hid x hx).elim (G.Z.off x) fun q => (by
      cases e : g.get? x with
      | none => rfl
      | some o => rw [G.Z.hg x o e] at q; cases q.2), R⟩
  have Lh' : L ∉ A'.hid σ'.ns := fun q => (hid L q).elim G.Lh fun y => y.1 rfl
  have hx' : ∀ p ∈ ex', s.heap.get? p.1 = some p.2 ∧ p.1 ≠ L ∧ g.get? p.1 = none := fun p hp => ⟨(hx p hp).1, by
    rcases (hx p hp).2 with q | q
    · have q' : p.1 ∈ A'.hid σ'.ns := List.mem_cons_of_mem _ (List.mem_cons_of_mem _ q)
      exact ⟨fun y => Lh' (y ▸ q'), Z.off _ q'⟩
    · exact q⟩
  refine Ob33 (F.ns) fun oL es ep hL' hd r => ?_
  obtain ⟨h₀', tl', F', N', C', gh', cov', tx'⟩ := reseg (m := m) ex' G.C gk G.gL ⟨oL, es, ep, hL', hd, r⟩ hx'
  refine ⟨h₀', tl', ⟨G.C, Z, G.post F N h1 h2 rfl ho (fun x => hb ▸ x), G.L0, G.gL, Lh', G.L4, fun b o _ _ e _ hds q => ?_, fun p hp => (hx p hp).1, cov', tx', gh', C'⟩, F', N'⟩
  rw [List.mem_singleton.mp q] at e
  obtain rfl : oL = o := Option.some.inj (hL'.symm.trans e)
  rw [hd] at hds; cases hds
end
end
section
section
variable {A : AD} {a : Fin 5} {ns : List (Fin 5)} {r' : RA} {x : Addr}
theorem foot_set (ha : a ∈ ns) (hr : r'.a = (A.r a).a ∧ r'.dx = (A.r a).dx ∧ r'.cm = (A.r a).cm ∧ r'.pm = (A.r a).pm) (hx : x ∈ (A.set a r').foot ns) : x ∈ A.foot ns ∨ x = r'.rl ∨ x = r'.ul := by
  rcases mem_foot.mp hx with q | q | q | q | ⟨n, hn, q⟩
  · exact .inl (by rw [q]; exact foot_m)
  · exact .inl (by rw [q]; exact foot_dm)
  · exact .inl (by rw [q]; exact foot_al)
  · exact .inl (by rw [q]; exact foot_ar)
  · by_cases e : n = a
    · subst e
      rw [AD.set_r] at q
      simp only [RA.all, List.mem_cons, List.not_mem_nil, or_false] at q
      rcases q with q | q | q | q | q | q
      · exact .inl (by rw [q, hr.1]; exact foot_a hn)
      · exact .inl (by rw [q, hr.2.1]; exact foot_dx hn)
      · exact .inr (.inl q)
      · exact .inr (.inr q)
      · exact .inl (by rw [q, hr.2.2.1]; exact foot_cm hn)
      · exact .inl (by rw [q, hr.2.2.2]; exact foot_pm hn)
    · rw [AD.set_ne e] at q
      exact .inl (foot_r hn q)
theorem set_rl_dx {b : Fin 5} {l : Addr} : ((A.set a { A.r a with rl := l }).r b).dx = (A.r b).dx := by
  by_cases q : b = a
  · rw [q, AD.set_r]
  · rw [AD.set_ne q]
theorem set_rl_a {b : Fin 5} {l : Addr} : ((A.set a { A.r a with rl := l }).r b).a = (A.r b).a := AD.set_a rfl
theorem set_ul_a {b : Fin 5} {l : Addr} : ((A.set a { A.r a with ul := l }).r b).a = (A.r b).a := AD.set_a rfl
theorem hid_foot (h : x ∈ A.foot ns) : x ∈ A.hid ns := List.mem_cons_of_mem _ (List.mem_cons_of_mem _ h)
theorem step_two {σ σ' : SS} {s s₂ s' : Shared} {b : Fin 5} {D l : Addr} (ha : a ∈ σ.ns) (hb : b ∈ σ.ns) (e3 : σ'.ns = σ.ns) (hD : s.heap.get? D = none) (hl : s₂.heap.get? l = none) (p1 : Post (A.hid σ.ns) s s₂)
    (p2 : Post [((A.set a { A.r a with rl := D }).r b).dx] s₂ s') :
    Step A σ s ((A.set a { A.r a with rl := D }).set b { (A.set a { A.r a with rl := D }).r b with ul := l }) σ' s' where
  post := p1.trans' p2 fun x hx => .inl (by rw [List.mem_singleton.mp hx, set_rl_dx]; exact hid_foot (foot_dx hb))
  em := rfl
  ra := fun n _ => by rw [set_ul_a, set_rl_a]
  ns := fun n hn => e3 ▸ hn
  fresh := fun x hx => by
    rw [e3] at hx
    rcases foot_set (r' := { (A.set a { A.r a with rl := D }).r b with ul := l }) hb ⟨rfl, rfl, rfl, rfl⟩ hx with q | q | q
    · rcases foot_set (r' := { A.r a with rl := D }) ha ⟨rfl, rfl, rfl, rfl⟩ q with q | q | q
      · exact .inl q
      · exact .inr (by rw [q]; exact hD)
      · exact .inl (by rw [q]; exact foot_ul ha)
    · have q : x = ((A.set a { A.r a with rl := D }).r b).rl := q
      by_cases e : b = a
      · subst e; rw [AD.set_r] at q; exact .inr (by rw [q]; exact hD)
      · rw [AD.set_ne e] at q; exact .inl (by rw [q]; exact foot_rl hb)
    · exact .inr (by rw [q]; exact p1.fresh hl)
end
end
section
section
variable {w : World} {mg mb : PySem.Str → Option Value} {A : Around} {E : Value → Shared → Prop} {s : Shared} {env : Env}
theorem blt_is (P : Params) : nsIn (K P) mainGlobals "__builtins__" = some (some (.ref 4)) := by kernel_rfl
theorem o4_is (P : Params) : (K P).lookup 4 = some { cls := .type "module", dict := some 0, data := .plain } := by kernel_rfl
theorem blt_K {h : Heap} {P : Addr} {Q : Addr → Shared → Prop} {a : Addr} {E : Value → Shared → Prop} (X : (K w.params).In h) (T : TopRead q (looseW q loose) mg mb h) (hx : Heap.ExtBut P h s.heap) (h3 : P ≠ 3) (h4 : P ≠ 4) (hQ : Q builtinsNs s) :
    wpAny (model pw_ae0023_01 w) A (builtinsFor mainGlobals a) Q E s :=
  wpAny_builtinsFor (T.g.extBut hx (Ne.symm h3)) (mg_of X T.g (blt_is _)) (by decide) (hx _ _ (Ne.symm h4) (X _ _ (o4_is _))) rfl rfl rfl hQ
theorem pass_all (n : Nat) : passing (fun _ => true) n 0 = List.range n := by
  simp [passing]
theorem any_range {items : Array Value} (pf : Value → Bool) : (List.range items.size).any (fun j => (items[j]?.map pf).getD false) = items.toList.any pf := by
  rw [Bool.eq_iff_iff, List.any_eq_true, List.any_eq_true]
  constructor
  · rintro ⟨j, hj, e⟩
    rw [List.mem_range] at hj
    rw [Array.getElem?_eq_getElem hj] at e
    exact ⟨items[j], Array.getElem_mem_toList hj, e⟩
  · rintro ⟨v, hv, e⟩
    obtain ⟨j, hj⟩ := List.getElem?_of_mem hv
    have hj' : items[j]? = some v := by rw [← Array.getElem?_toList]; exact hj
    have hl : j < items.size := (Array.getElem?_eq_some_iff.mp hj').1
    exact ⟨j, List.mem_range.mpr hl, by rw [hj']; exact e⟩
theorem genexprCode_tab {M : Model} {A : Around} {E : Value → Shared → Prop} {s : Shared} {env : Env} {c P : Addr} {ps : Array Value} {pos : Pos} {qualname : PySem.Str} {scope : Scope} {Q : Value → Shared → Prop} (hc : env.code = .ref c) (hok : s.heap.IsCode c P ps) (ht : s.heap.TableAt c P ps)
    (hQ : ∀ code h' tk ps', Heap.ExtBut P s.heap h' → h'.IsCode c P ps' → h'.TableAt c P ps' → Q code { s with heap := h', toks := tk }) : wpAny M A (genexprCode env pos qualname scope) Q E s := by
  cases hnf : codeAmong pos ps.toList with
  | some cv => exact wpAny_genexprCode_hit hc hok hnf (hQ cv s.heap s.toks ps (Heap.ExtBut.refl _ _) hok ht)
  | none => exact wpAny_genexprCodeX hc hok ht hnf fun c' h' tk x _ _ i _ t _ => hQ _ h' tk _ x i t
theorem any_gen {elt iter : Expr} {x : PySem.Str} {px : Pos} {scope : Scope} {cl : List (PySem.Str × Addr)} {pos : Pos} {Q : Value → Shared → Prop} {c P : Addr} (pf : Value → Bool)
    (hh : A.handled = none) (hcode : env.code = .ref c) (hgl : env.globals = mainGlobals) (hco : scope.isCoroutine = false) (hclos : closureFor scope env = pure cl) (hcell : ∀ y ∈ scope.names, y.2 ≠ .cell) (h0 : scope.names.lookup (".0" : PySem.Str) = some NameKind.local)
    (hx : scope.names.lookup x = some .local) (hkind : scope.kind = .function) (hroom : A.depth < recursionLimit) (hP : P ≠ 3 ∧ P ≠ 4 ∧ P ≠ c ∧ P ≠ cStatics)
    (h : wpAny (model pw_ae0023_01 w) A (eval iter env) (fun xv s₁ => ∃ ax items, xv = .ref ax ∧ s₁.heap.IsList ax items ∧ ax ≠ P ∧ TabOk s₁.heap c P ∧ (K w.params).In s₁.heap ∧ TopRead q (looseW q loose) mg mb s₁.heap ∧
      (∀ C code E' (A' : Around) v s₂ m₂, A'.handled = none → v ∈ items.toList → s₂.heap.Ns C m₂ → m₂ x = some v → (∀ b o, b ≠ P → s₁.heap.get? b = some o → s₂.heap.get? b = some o) →
        wpAny (model pw_ae0023_01 w) A' (eval elt (genEnv scope cl C code builtinsNs env)) (fun y s₃ => y = .bool (pf v) ∧ Keeps s₂ s₃) E' s₂) ∧
      (∀ a s₅, (∀ Q' E', (∀ s', Post [P] s₁ s' → TabOk s'.heap c P → Q' (.bool (items.toList.any pf)) s') → wpAny (model pw_ae0023_01 w) A (call (.builtin "any") [.ref a]) Q' E' s₅) → Q (.ref a) s₅)) E s)
    (hs : ∀ x, genFold iter env x = pure x) :
    wpAny (model pw_ae0023_01 w) A (eval (.GeneratorExp elt [⟨.Name x px, iter, [], 0⟩] scope pos) env) Q E s := by
  refine wpAny_GeneratorExp_walksQ hh hco hclos hcell h0 hx hkind hroom (wpAny_mono h (fun xv s₁ h₁ => ?_) fun _ _ e => e) hs
  refine Ob2_8 (h₁) fun ax items e9 hl haP htab X T helt hQ => ?_
  clear h₁
  subst e9
  have hlt : ax < s₁.heap.objs.size := by obtain ⟨_, e, _⟩ := hl; exact Heap.lt_size e
  have pk : ∀ b o, s₁.heap.get? b = some o → (s₁.heap.push { cls := .type "list_iterator", data := .fields #[.ref ax, .int 0 0] }).get? b = some o := fun b o e => Heap.get?_push_of_some _ e
  refine wpAny_pyIter_list hl ⟨T.nolimit.keeps pk, ?_⟩
  obtain ⟨ps, hc₀, ht₀⟩ := (htab.kept (M := []) (fun b o e _ => pk b o e) (by simp) (by simp)).code
  have hc0 : ∃ o, s₁.heap.get? c = some o := Ob44 htab.two fun o _ _ _ ho _ _ _ => ⟨o, ho⟩
  have hP0 : ∃ o, s₁.heap.get? P = some o := Ob44 htab.two fun _ _ op _ _ _ hop _ => ⟨op, hop⟩
  refine genexprCode_tab hcode hc₀ ht₀ fun code h₃ tk₃ ps' hx₃ hc₃ ht₃ => ?_
  have hx₁ : Heap.ExtBut P s₁.heap h₃ := fun b o hb e => hx₃ b o hb (pk b o e)
  rw [hgl]
  refine blt_K (s := { s₁ with heap := h₃, toks := tk₃ }) X T hx₁ hP.1 hP.2.1 ?_
  obtain ⟨oI, hI, hIc⟩ : ∃ o, h₃.get? s₁.heap.objs.size = some o ∧ o = { cls := .type "list_iterator", data := .fields #[.ref ax, .int 0 0] } := by
    refine ⟨_, hx₃ _ _ (fun q => ?_) (Heap.get?_push_size _ rfl), rfl⟩
    obtain ⟨o, e⟩ := hP0
    rw [← q] at e
    exact absurd (Heap.lt_size e) (Nat.lt_irrefl _)
  have hIne : s₁.heap.objs.size ≠ P := fun q => by
    obtain ⟨o, e⟩ := hP0
    rw [← q] at e
    exact absurd (Heap.lt_size e) (Nat.lt_irrefl _)
  have hl₃ : h₃.IsList ax items := by
    obtain ⟨o, e, r⟩ := hl
    exact ⟨o, hx₁ _ _ haP e, r⟩
  have hIlt : s₁.heap.objs.size < h₃.objs.size := Heap.lt_size hI
  have hlim₃ : h₃.NoLimit := T.nolimit.extBut hx₁ (Ne.symm hP.2.2.2)
  have hcs : cStatics < s₁.heap.objs.size := let ⟨_, hn, _⟩ := T.nolimit; hn.lt
  refine ⟨s₁.heap.objs.size, [s₁.heap.objs.size, ax], [s₁.heap.objs.size], items.size, fun i v => items[i]? = some v, fun i h => h.IsListIter s₁.heap.objs.size ax i ∧ h.IsList ax items, fun _ => true, fun i y => ∃ v, items[i]? = some v ∧ y = .bool (pf v), rfl,
    fun A' hA => Walks.list hA _ _ (Nat.ne_of_lt hlt) items, ⟨⟨oI, hI, by rw [hIc], by rw [hIc]; rfl⟩, hl₃⟩, fun b hb => ?_, hlim₃, fun hb => ?_, fun href hk => ⟨fun A' E' i v s₂ m₂ hA hv hn hm hk2 => ?_, fun A' E' i v s₂ m₂ hA hv _ hn hm hk2 => ?_⟩, fun a h₅ tk gs hgb hag hsz₅ hk₅ W hat => ?_⟩
  · rcases List.mem_cons.mp hb with rfl | hb
    · exact hIlt
    · rw [List.mem_singleton.mp hb]; exact Nat.lt_trans hlt hIlt
  · rw [List.mem_singleton.mp hb] at hcs
    exact Nat.lt_irrefl _ hcs
  · exact wpAny_tests_nil ⟨rfl, _, _, rfl, fun _ _ e => e⟩
  · have key : ∀ b o, b ≠ P → s₁.heap.get? b = some o → s₂.heap.get? b = some o := fun b o hb e => by
      have e3 := hx₁ b o hb e
      exact hk2 b (List.mem_range.mpr (Heap.lt_size e3)) (fun q => by
        rw [List.mem_singleton.mp q] at e
        exact absurd (Heap.lt_size e) (Nat.lt_irrefl _)) o (hk b o e3)
    refine wpAny_mono (helt _ code E' A' v s₂ m₂ hA (by rw [← Array.getElem?_toList] at hv; exact List.mem_of_getElem? hv) hn hm key) (fun y s₃ hy => ⟨⟨v, hv, hy.1⟩, hy.2⟩) fun _ _ e => e
  · refine hQ a _ fun Q' E' hq => ?_
    rw [pass_all] at W
    refine call_any_walkS ?_
    have W1 := W
    refine W1.of_in1.of_in1.of_in1.self 0 _ _ _ hat ⟨a, _, _, _, _, _, _, fun j => (items[j]?.map pf).getD false, rfl, W1.of_in1.of_in1.of_in1, hat, ?_, fun s' hm => ?_⟩
    · rintro j y s₆ Q₆ E₆ ⟨i, hi, v, hv, rfl⟩ hq6
      have hij : i = j := by
        have := List.getElem?_eq_some_iff.mp hi
        obtain ⟨h1, h2⟩ := this
        rw [List.getElem_range] at h2
        exact h2.symm
      subst hij
      simp only [hv, Option.map_some, Option.getD_some] at hq6
      exact wpAny_truthy_bool hq6
    · rw [List.length_range, any_range pf]
      have old : ∀ b o, s₁.heap.get? b = some o → b ∉ (h₃.objs.size :: [s₁.heap.objs.size]) := fun b o e q => by
        have hb := Heap.lt_size e
        rcases List.mem_cons.mp q with q | q
        · rw [q] at hb; exact absurd (Nat.lt_trans hb hIlt) (Nat.lt_irrefl _)
        · rw [List.mem_singleton.mp q] at hb; exact absurd hb (Nat.lt_irrefl _)
      refine hq s' ⟨fun b o e n => hm.heap b o (old b o e) (hk₅ b o (hx₁ b o (fun q => n (List.mem_singleton.mpr q)) e)), fun b o e => ?_, hm.os, fun hb => hm.gens.bare (AllBare.push hb hgb)⟩ ?_
      · by_cases q : b = P
        · subst q
          exact Ob44 (TabOk.of hc₃ ht₃).two fun _ _ op _ _ _ hop _ => ⟨op, hm.heap _ _ (old _ _ e) (hk₅ _ _ hop)⟩
        · exact ⟨o, hm.heap b o (old b o e) (hk₅ b o (hx₁ b o q e))⟩
      · refine TabOk.kept (M := h₃.objs.size :: [s₁.heap.objs.size]) (TabOk.of hc₃ ht₃) (fun b o e n => hm.heap b o n (hk₅ b o e)) ?_ ?_
        · obtain ⟨o, e⟩ := hc0; exact old _ _ e
        · obtain ⟨o, e⟩ := hP0; exact old _ _ e
end
end
section
section
variable {w : World} {h h' : Heap} {A A' : AD} {σ σ' : SS} {a b : Fin 5} {x : Addr}
theorem Rep.foot_plain (R : Rep w A σ h) (hx : x ∈ A.foot σ.ns) : ∃ o, h.get? x = some o ∧ ∀ vs, o.data ≠ .fields vs := by
  rcases mem_foot.mp hx with rfl | rfl | rfl | rfl | ⟨n, hn, hx⟩
  · exact ⟨_, R.mi, fun _ q => by cases q⟩
  · obtain ⟨_, _, _, _, _, _, e⟩ := R.md; exact ⟨_, e, fun _ q => by cases q⟩
  · obtain ⟨_, e⟩ := R.al; exact ⟨_, e, fun _ q => by cases q⟩
  · obtain ⟨o, es, ep, ho, hc, hd, _⟩ := R.ar
    exact ⟨o, ho, fun _ q => by rw [hd] at q; cases q⟩
  · have z := R.ro n hn
    simp only [RA.all, List.mem_cons, List.not_mem_nil, or_false] at hx
    have dd : x ∈ (A.r n).ds → ∃ o, h.get? x = some o ∧ ∀ vs, o.data ≠ .fields vs := fun q => by
      obtain ⟨o, es, n', e, hd⟩ := R.ds_data hn q
      exact ⟨o, e, fun _ q => by rw [hd] at q; cases q⟩
    rcases hx with q | q | q | q | q | q
    · rw [q]; exact ⟨_, z.i, fun _ q => by cases q⟩
    · exact dd (by rw [q]; exact dx_ds)
    · rw [q]; obtain ⟨_, e⟩ := z.rl; exact ⟨_, e, fun _ q => by cases q⟩
    · rw [q]; obtain ⟨_, _, e, _⟩ := z.ul; exact ⟨_, e, fun _ q => by cases q⟩
    · exact dd (by rw [q]; exact cm_ds)
    · exact dd (by rw [q]; exact pm_ds)
theorem Rep.foot_far (R : Rep w A σ h) (hx : x ∈ A.foot σ.ns) : x ≠ 782 ∧ x ≠ 998 ∧ x ≠ 784 ∧ x ≠ 1000 := by
  obtain ⟨o0, e0, nf⟩ := R.foot_plain hx
  refine Ob44 (TabOk.two R.t7) fun o1 vs op ps ho hd1 hop hpd => ?_
  refine Ob44 (TabOk.two R.t9) fun o1' vs' op' ps' ho' hd1' hop' hpd' => ?_
  refine ⟨fun q => ?_, fun q => ?_, fun q => ?_, fun q => ?_⟩
  · rw [q, hop] at e0; cases e0; exact nf _ hpd
  · rw [q, hop'] at e0; cases e0; exact nf _ hpd'
  · rw [q, ho] at e0; cases e0; exact nf _ hd1
  · rw [q, ho'] at e0; cases e0; exact nf _ hd1'
theorem Rep.grown7 (R : Rep w A σ h) (k : Kept [782] h h') (t : TabOk h' 784 782) : Rep w A σ h' := by
  have nt : NoTup [782] h := fun b o vs n e _ hd hb => by
    refine Ob44 (TabOk.two R.t7) fun o1 vs' op ps ho hd1 hop hpd => ?_
    rw [List.mem_singleton.mp hb, hop] at e; cases e; rw [hpd] at hd; cases hd
  have hf : ∀ x ∈ A.foot σ.ns, x ∉ [782] := fun x hx q => (R.foot_far hx).1 (List.mem_singleton.mp q)
  refine Ob61 (R.md) fun t1 t2 t3 t4 t5 tl md => ?_
  refine Ob11 (R.al) fun k1 al => ?_
  obtain ⟨o, es, ep, ar, r⟩ := R.ar
  exact { mi := k _ _ R.mi (hf _ foot_m), md := ⟨t1, t2, t3, t4, t5, tl, k _ _ md (hf _ foot_dm)⟩, al := ⟨k1, k _ _ al (hf _ foot_al)⟩, la := fun p hp => k.tup nt (R.la p hp),
          ar := ⟨o, es, ep, k _ _ ar (hf _ foot_ar), r⟩,
          ro := fun n hn => (R.ro n hn).kept k nt (fun y hy => hf y (foot_r hn hy)) rfl (fun _ _ => rfl) rfl rfl rfl fun _ z => z,
          nd1 := R.nd1, nd2 := R.nd2, ne := R.ne, gt := R.gt, ab := R.ab, nn := R.nn, ln := R.ln, t7 := t,
          t9 := R.t9.kept k (by decide) (by decide) }
theorem Rep.grown9 (R : Rep w A σ h) (k : Kept [998] h h') (t : TabOk h' 1000 998) : Rep w A σ h' := by
  have nt : NoTup [998] h := fun b o vs n e _ hd hb => by
    refine Ob44 (TabOk.two R.t9) fun o1 vs' op ps ho hd1 hop hpd => ?_
    rw [List.mem_singleton.mp hb, hop] at e; cases e; rw [hpd] at hd; cases hd
  have hf : ∀ x ∈ A.foot σ.ns, x ∉ [998] := fun x hx q => (R.foot_far hx).2.1 (List.mem_singleton.mp q)
  refine Ob61 (R.md) fun t1 t2 t3 t4 t5 tl md => ?_
  refine Ob11 (R.al) fun k1 al => ?_
  obtain ⟨o, es, ep, ar, r⟩ := R.ar
  exact { mi := k _ _ R.mi (hf _ foot_m), md := ⟨t1, t2, t3, t4, t5, tl, k _ _ md (hf _ foot_dm)⟩, al := ⟨k1, k _ _ al (hf _ foot_al)⟩, la := fun p hp => k.tup nt (R.la p hp),
          ar := ⟨o, es, ep, k _ _ ar (hf _ foot_ar), r⟩,
          ro := fun n hn => (R.ro n hn).kept k nt (fun y hy => hf y (foot_r hn hy)) rfl (fun _ _ => rfl) rfl rfl rfl fun _ z => z,
          nd1 := R.nd1, nd2 := R.nd2, ne := R.ne, gt := R.gt, ab := R.ab, nn := R.nn, ln := R.ln, t9 := t,
          t7 := R.t7.kept k (by decide) (by decide) }
end
section
variable {w : World} {A : Around} {E : Value → Shared → Prop} {s : Shared} {env : Env}
theorem is_elt {x y : PySem.Str} {px py pos : Pos} {scope : Scope} {cl : List (PySem.Str × Addr)} {C c a b bi : Addr} {code : Value} {oa ob : Obj} {m : PySem.Str → Option Value} {Q : Value → Shared → Prop}
    (hkind : scope.kind = .function) (hx : scope.names.lookup x = some .local) (hdx : (x == ("__debug__" : PySem.Str)) = false) (hdy : (y == ("__debug__" : PySem.Str)) = false) (hcd : (y == ("__classdict__" : PySem.Str)) = false)
    (hy : scope.names.lookup y = some .free) (hc : cl.lookup y = some c) (hcell : s.heap.IsCell c (some (.ref b))) (hn : s.heap.Ns C m) (hm : m x = some (.ref a))
    (ha : s.heap.get? a = some oa) (hb : s.heap.get? b = some ob) (hcls : oa.cls ≠ .type "tuple") (h : Q (.bool (decide (a = b))) s) :
    wpAny (model pw_ae0023_01 w) A (eval (.Compare (.Name x px) [.Is] [.Name y py] pos) (genEnv scope cl C code bi env)) Q E s := by
  have hk : (genEnv scope cl C code bi env).scope.kind = .function := hkind
  refine wpAny_Compare1 ?_
  refine wpAny_Name (wpAny_loadName_local hk hx hn hm ?_) hdx
  refine wpAny_Name (wpAny_loadName_free hk hy hc hcell ?_ hcd) hdy
  by_cases q : a = b
  · subst q
    refine wpAny_is_ref_self ?_
    rw [decide_eq_true rfl] at h
    exact h
  · refine wpAny_is_ref_other q ha hb hcls ?_
    rw [decide_eq_false q] at h
    exact h
end
section
variable {w : World} {mg mb : PySem.Str → Option Value} {base g h₀ h : Heap} {outer : List Env} {A A' : AD} {σ σ' : SS} {s₀ s₁ s s' : Shared} {Mm M' : List Addr} {L : Addr} {m : PySem.Str → Option Value} {env : Env} {ex tl news : List (Addr × Obj)}
theorem Grd.repH (G : Grd w mg mb base outer g s₀ Mm A σ s₁ L h₀ ex tl) : Rep w A σ (hideAll s₁.heap [L]) :=
  G.Z.R.kept (M := [L]) (fun b o e n => hideAll_get _ e n) G.Ld (fun x hx q => G.Lh (List.mem_singleton.mp q ▸ hx)) (fun q => G.L4.1 (List.mem_singleton.mp q).symm) (fun q => G.L4.2 (List.mem_singleton.mp q).symm)
theorem Grd.keptH {M : List Addr} (G : Grd w mg mb base outer g s₀ Mm A σ s₁ L h₀ ex tl) (F : Fr h₀ L h m) (N : News h₀ L h news) (h1 : ∀ p ∈ ex, p ∈ news ∨ p.1 ∈ M) (h2 : ∀ p ∈ tl, p ∈ news) : Kept M (hideAll s₁.heap [L]) h := fun b o e n =>
  G.keptM F N h1 h2 b o (of_hideAll _ e) fun q => (List.mem_cons.mp q).elim (fun q => by rw [hideAll_none [L] (by rw [q]; exact List.mem_cons_self)] at e; cases e) n
theorem hid_none {D : Addr} (e : h.get? D = none) : (hideAll h [L]).get? D = none := by
  cases q : (hideAll h [L]).get? D with
  | none => rfl
  | some o => rw [of_hideAll _ q] at e; cases e
end
end
section
section
variable {w : World} {h h' : Heap} {A A' : AD} {σ σ' : SS} {n : Fin 5} {r' : RA}
theorem Rep.ar_apart (R : Rep w A σ h) : A.ar ≠ A.m ∧ A.ar ≠ A.dm ∧ A.ar ≠ A.al ∧ ∀ m ∈ σ.ns, A.ar ∉ (A.r m).all := by
  obtain ⟨o, es, ep, ho, hc, hd, _⟩ := R.ar
  have no : ∀ {y : Addr} {o' : Obj}, h.get? y = some o' → o'.cls ≠ .type "dict" → A.ar ≠ y := fun e nn q => by
    rw [← q, ho] at e; cases e; exact nn hc.1
  have nl : Value.type "list" ≠ .type "dict" := fun q => by injection q with q; exact absurd q (by decide)
  refine ⟨no R.mi (by intro q; cases q), Ne.symm R.nd1.1, ?_, fun m hm hy => ?_⟩
  · obtain ⟨_, e⟩ := R.al; exact no e nl
  · have z := R.ro m hm
    have ap := (R.nd1.2 m hm).2.1
    simp only [RA.ds, List.mem_cons, List.not_mem_nil, or_false, not_or] at ap
    simp only [RA.all, List.mem_cons, List.not_mem_nil, or_false] at hy
    rcases hy with q | q | q | q | q | q
    · exact no z.i (by intro q; cases q) q
    · exact ap.1 q
    · obtain ⟨_, e⟩ := z.rl; exact no e nl q
    · obtain ⟨_, _, e, _⟩ := z.ul; exact no e nl q
    · exact ap.2.1 q
    · exact ap.2.2 q
theorem emptyDict_H {d : Addr} (e : h.get? d = some (dictOf [] 0)) : h.DictOfH (tk w) d [] := ⟨_, #[], 0, e, ⟨rfl, rfl, rfl⟩, rfl, rfl, (fun _ q => nomatch q), List.nodup_nil⟩
theorem add_new (hn : n ∉ σ.ns) : (σ.add n).ns = σ.ns ++ [n] := by show (if n ∈ σ.ns then σ.ns else σ.ns ++ [n]) = _; rw [if_neg hn]
theorem add_old (hn : n ∈ σ.ns) : σ.add n = σ := by unfold SS.add; rw [if_pos hn]
theorem Rep.newRole (R : Rep w A σ h) (hn : n ∉ σ.ns) (k : Kept [A.ar] h h') (har : h'.DictOf (PySem.strKind pw_ae0023_01 w) A.ar ((σ.ns.map fun m => (nmS m, Value.ref (A.r m).a)) ++ [(nmS n, .ref r'.a)]))
    (new : ∀ y ∈ r'.all, h.get? y = none ∧ @LT.lt Nat _ 1 y) (nd : r'.ds.Nodup) (i : h'.get? r'.a = some (instObj 854 r'.dx)) (d : ∃ t1 t2 t3 t4 t5 tn, h'.get? r'.dx = some (roleD w.params t1 t2 t3 t4 t5 (.str (nmS n) tn) r'.rl r'.ul r'.cm r'.pm))
    (rl : h'.get? r'.rl = some (listOf #[] 0)) (ul : h'.get? r'.ul = some (listOf #[] 0)) (cm : h'.get? r'.cm = some (dictOf [] 0)) (pm : h'.get? r'.pm = some (dictOf [] 0)) : Rep w (A.set n r') (σ.add n) h' := by
  have t : NoTup [A.ar] h := R.noTup fun y hy => by rw [List.mem_singleton.mp hy]; exact foot_ar
  obtain ⟨a1, a2, a3, a4⟩ := R.ar_apart
  have ens := add_new hn
  have ab := R.ab n hn
  have nm : ∀ {y : Addr}, A.ar ≠ y → y ∉ [A.ar] := fun q e => q (List.mem_singleton.mp e).symm
  have hne : ∀ m ∈ σ.ns, m ≠ n := fun m hm q => hn (q ▸ hm)
  have fresh : ∀ x ∈ A.foot σ.ns, x ∉ r'.all := fun x hx q => by
    obtain ⟨o, e, _⟩ := R.foot hx
    rw [(new x q).1] at e; cases e
  have some_ne : ∀ {x : Addr} {o : Obj}, h.get? x = some o → x ∉ r'.all := fun e q => by rw [(new _ q).1] at e; cases e
  have mem : ∀ m, m ∈ (σ.add n).ns → m ∈ σ.ns ∨ m = n := fun m hm => by
    rw [ens] at hm
    rcases List.mem_append.mp hm with q | q
    · exact .inl q
    · exact .inr (List.mem_singleton.mp q)
  have sa : ∀ m ∈ σ.ns, (A.set n r').r m = A.r m := fun m hm => AD.set_ne (hne m hm)
  refine Ob61 (R.md) fun t1 t2 t3 t4 t5 tl md => ?_
  refine Ob11 (R.al) fun k1 al => ?_
  have rr : ∀ l : List (Fin 5), (l = []) → refs (A.set n r') l = #[] := fun l e => by rw [e]; rfl
  refine { mi := k _ _ R.mi (nm a1), md := ⟨t1, t2, t3, t4, t5, tl, k _ _ md (nm a2)⟩, al := ⟨k1, k _ _ al (nm a3)⟩, la := fun p hp => k.tup t (R.la p hp),
           ar := ?_, ro := fun m hm => ?_, nd1 := ⟨R.nd1.1, fun m hm => ?_⟩, nd2 := fun m hm m' hm' q x hx hx' => ?_, ne := fun m hm => ?_, gt := ⟨R.gt.1, R.gt.2.1, fun m hm x hx => ?_⟩, ab := fun m hm => ?_, nn := ?_, ln := R.ln,
           t7 := R.t7.kept k (nm fun q => (R.foot_far foot_ar).2.2.1 q) (nm fun q => (R.foot_far foot_ar).1 q), t9 := R.t9.kept k (nm fun q => (R.foot_far foot_ar).2.2.2 q) (nm fun q => (R.foot_far foot_ar).2.1 q) }
  · show h'.DictOf _ A.ar ((σ.add n).ns.map fun m => (nmS m, Value.ref ((A.set n r').r m).a))
    rw [ens, List.map_append, List.map_congr_left (g := fun m => (nmS m, Value.ref (A.r m).a)) fun m hm => by rw [sa m hm]]
    rw [List.map_cons, List.map_nil, AD.set_r]
    exact har
  · rcases mem m hm with q | q
    · exact (R.ro m q).kept k t (fun y hy e => a4 m q (List.mem_singleton.mp e ▸ hy)) (sa m q) (fun y hy => by rw [sa y hy]) rfl rfl rfl fun y hy => by rw [ens]; exact List.mem_append_left _ hy
    · subst q
      refine ⟨by rw [AD.set_r]; exact i, by rw [AD.set_r]; exact d, ⟨0, ?_⟩, ⟨[], 0, ?_, List.nodup_nil, fun _ q => nomatch q⟩, ⟨[], ?_, (fun _ q => nomatch q), fun b z => ?_⟩, ⟨[], ?_, (fun _ q => nomatch q), fun b z => ?_⟩, ?_, ?_⟩
      · rw [AD.set_r, show refs (A.set m r') ((σ.add m).out m) = #[] from rr _ ab.1]; exact rl
      · rw [AD.set_r]; exact ul
      · rw [AD.set_r]; exact emptyDict_H cm
      · show Option.map _ (atKey [] _) = Option.map _ (σ.cond m b z)
        rw [ab.2.1]; rfl
      · rw [AD.set_r]; exact emptyDict_H pm
      · show match σ.prm m b z with | none => _ | some _ => _
        rw [ab.2.2]; rfl
      · show (σ.out m).Nodup
        rw [ab.1]; exact List.nodup_nil
      · show ∀ x ∈ σ.out m, _
        rw [ab.1]; exact fun _ q => nomatch q
  · rcases mem m hm with q | q
    · rw [sa m q]; exact R.nd1.2 m q
    · subst q
      rw [AD.set_r]
      exact ⟨fun e => fresh _ foot_dm (RA.ds_all e), fun e => fresh _ foot_ar (RA.ds_all e), nd⟩
  · rcases mem m hm with e | e <;> rcases mem m' hm' with e' | e'
    · rw [sa m e] at hx; rw [sa m' e'] at hx'; exact R.nd2 m e m' e' q x hx hx'
    · subst e'
      rw [sa m e] at hx; rw [AD.set_r] at hx'
      exact fresh x (foot_r e (RA.ds_all hx)) (RA.ds_all hx')
    · subst e
      rw [AD.set_r] at hx; rw [sa m' e'] at hx'
      exact fresh x (foot_r e' (RA.ds_all hx')) (RA.ds_all hx)
    · exact q (e.trans e'.symm)
  · rcases mem m hm with q | q
    · rw [sa m q]; exact R.ne m q
    · subst q
      rw [AD.set_r]
      exact ⟨fun e => fresh _ foot_al (by rw [show A.al = r'.rl from e.symm]; simp [RA.all]), fun e => fresh _ foot_al (by rw [show A.al = r'.ul from e.symm]; simp [RA.all])⟩
  · rcases mem m hm with q | q
    · rw [sa m q] at hx; exact R.gt.2.2 m q x hx
    · subst q; rw [AD.set_r] at hx; exact (new x (RA.ds_all hx)).2
  · rw [ens] at hm
    exact R.ab m fun q => hm (List.mem_append_left _ q)
  · rw [ens, List.nodup_append]
    exact ⟨R.nn, by simp, fun x hx y hy q => hn (by rw [List.mem_singleton] at hy; subst hy; subst q; exact hx)⟩
theorem stored_new (R : Rep w A σ h) (hn : n ∉ σ.ns) {v : Value} : stored (σ.ns.map fun m => (nmS m, Value.ref (A.r m).a)) (nmS n) v = (σ.ns.map fun m => (nmS m, Value.ref (A.r m).a)) ++ [(nmS n, v)] := by
  unfold stored
  rw [if_neg]
  intro q
  obtain ⟨p, hp, e⟩ := List.any_eq_true.mp q
  obtain ⟨m, hm, rfl⟩ := List.mem_map.mp hp
  exact hn (by rw [← nmS_inj (show nmS m = nmS n from of_decide_eq_true e)]; exact hm)
end
end
section
section
variable {w : World} {mg mb : PySem.Str → Option Value} {base g h₀ h h' : Heap} {outer : List Env} {A A' : AD} {σ σ' : SS} {s₀ s₁ s s' : Shared} {Mm M' : List Addr} {L : Addr} {m : PySem.Str → Option Value} {env : Env} {ex tl news : List (Addr × Obj)} {n : Fin 5} {r' : RA}
theorem Grd.cxX {xs : List Addr} (G : Grd w mg mb base outer g s₀ Mm A σ s₁ L h₀ ex tl) (F : Fr h₀ L h m) (hx : ∀ x ∈ xs, x ≠ L ∧ g.get? x = none) (hf : env.frame = some L) (hk : env.scope.kind = .function) : Cx w mg mb base (env :: outer) (hideAll h xs) := by
  refine Ob33 (F.ns) fun oL es ep hL' hd r => ?_
  exact G.C.push ⟨oL, es, ep, hideAll_get _ hL' fun q => (hx L q).1 rfl, hd, r⟩ G.gLn hf hk fun b o e => hideAll_get _ (F.keep b o (G.gh b o e)) fun q => by rw [(hx b q).2] at e; cases e
theorem fr_kept {x : Addr} (F : Fr h₀ L h m) (k : Kept [x] h h') (hL : x ≠ L) (h0 : h₀.get? x = none) : Fr h₀ L h' m := by
  refine Ob32 (F.ns) fun oL es ep hL' r => ?_
  exact ⟨⟨oL, es, ep, k _ _ hL' fun q => hL (List.mem_singleton.mp q).symm, r⟩, fun b o e => k b o (F.keep b o e) fun q => (by rw [List.mem_singleton.mp q, h0] at e; cases e), F.above⟩
theorem fresh_news {y : Addr} {o : Obj} (F : Fr h₀ L h m) (e : h.get? y = none) (e' : h'.get? y = some o) : h'.get? y = some o ∧ y ≠ L ∧ h₀.get? y = none := by
  refine ⟨e', fun q => ?_, ?_⟩
  · refine Ob32 (F.ns) fun oL _ _ hL _ => ?_
    rw [q, hL] at e; cases e
  · cases q : h₀.get? y with
    | none => rfl
    | some o' => rw [F.keep _ _ q] at e; cases e
theorem foot_add (hn : n ∉ σ.ns) {x : Addr} (hx : x ∈ (A.set n r').foot (σ.add n).ns) : x ∈ A.foot σ.ns ∨ x ∈ r'.all := by
  rw [add_new hn] at hx
  rcases mem_foot.mp hx with q | q | q | q | ⟨m, hm, q⟩
  · exact .inl (by rw [q]; exact foot_m)
  · exact .inl (by rw [q]; exact foot_dm)
  · exact .inl (by rw [q]; exact foot_al)
  · exact .inl (by rw [q]; exact foot_ar)
  · by_cases e : m = n
    · rw [e, AD.set_r] at q; exact .inr q
    · rw [AD.set_ne e] at q
      rcases List.mem_append.mp hm with hm | hm
      · exact .inl (foot_r hm q)
      · exact absurd (List.mem_singleton.mp hm) e
theorem step_add {s s' : Shared} (hn : n ∉ σ.ns) (p : Post (A.hid σ.ns) s s') (new : ∀ y ∈ r'.all, s.heap.get? y = none) : Step A σ s (A.set n r') (σ.add n) s' where
  post := p
  em := rfl
  ra := fun m hm => by rw [AD.set_ne (show m ≠ n from fun q => hn (q ▸ hm))]
  ns := fun m hm => by rw [add_new hn]; exact List.mem_append_left _ hm
  fresh := fun x hx => (foot_add hn hx).imp id (new x)
end
end
section
section
variable {w : World} {mg mb : PySem.Str → Option Value} {base g h₀ h : Heap} {outer : List Env} {A₀ A A' : AD} {σ₀ σ σ' : SS} {s₀ s₁ s s' : Shared} {Mm M' : List Addr} {L : Addr} {m : PySem.Str → Option Value} {env : Env} {ex tl news : List (Addr × Obj)}
theorem fresh_at (F : Fr h₀ L h m) {y : Addr} (e : h.get? y = none) : y ≠ L ∧ h₀.get? y = none := by
  refine ⟨fun q => ?_, ?_⟩
  · refine Ob32 (F.ns) fun oL _ _ hL _ => ?_
    rw [q, hL] at e; cases e
  · cases q : h₀.get? y with
    | none => rfl
    | some o' => rw [F.keep _ _ q] at e; cases e
theorem Grd.fresh (G : Grd w mg mb base outer g s₀ Mm A σ s₁ L h₀ ex tl) (F : Fr h₀ L h m) {y : Addr} (e : h.get? y = none) : y ≠ L ∧ g.get? y = none := by
  refine ⟨(fresh_at F e).1, ?_⟩
  cases q : g.get? y with
  | none => rfl
  | some o' => rw [F.keep _ _ (G.gh _ _ q)] at e; cases e
theorem Grd.oldNone (G : Grd w mg mb base outer g s₀ Mm A σ s₁ L h₀ ex tl) (F : Fr h₀ L h m) (N : News h₀ L h news) (h1 : ∀ p ∈ ex, p ∈ news) (h2 : ∀ p ∈ tl, p ∈ news) {y : Addr} (e : h.get? y = none) : s₀.heap.get? y = none := by
  cases q : s₀.heap.get? y with
  | none => rfl
  | some o =>
    obtain ⟨o', e'⟩ := G.P.dom _ _ q
    have := G.kept F N h1 h2 y o' e' fun z => by rw [List.mem_singleton.mp z, G.L0] at q; cases q
    rw [e] at this; cases this
theorem Grd.backM (G : Grd w mg mb base outer g s₀ Mm A σ s₁ L h₀ ex tl) (F : Fr h₀ L h m) (N : News h₀ L h news) (h1 : ∀ p ∈ ex, p ∈ news) (h2 : ∀ p ∈ tl, p ∈ news) (p : Post M' s s') (e : s.heap = h) (ho : s.os = s₁.os) (hb : s.gens = s₁.gens)
    (hM : ∀ x ∈ M', x ∈ Mm ∨ s₀.heap.get? x = none) (hM2 : ∀ x ∈ M', x ∈ A.hid σ.ns) (R : Rep w A σ s'.heap)
    (ex' : List (Addr × Obj)) (hx : ∀ p ∈ ex', (s'.heap.get? p.1 = some p.2 ∧ p.1 ∈ A.foot σ.ns) ∨ (p ∈ news ∧ p.1 ∉ M') ∨ s'.heap.get? p.1 = some p.2 ∧ s.heap.get? p.1 = none) :
    ∃ h₀' tl', Grd w mg mb base outer g s₀ Mm A σ s' L h₀' ex' tl' ∧ Fr h₀' L s'.heap m ∧ News h₀' L s'.heap (ex' ++ tl') := by
  subst e
  refine G.back F N h1 h2 p rfl ho hb hM hM2 (fun _ q => .inl q) R ex' fun y hy => ?_
  rcases hx y hy with ⟨q, n⟩ | ⟨q, n⟩ | ⟨q, n⟩
  · exact ⟨q, .inl n⟩
  · exact ⟨p.keep _ _ (N _ q).1 n, .inr (G.priv N q)⟩
  · exact ⟨q, .inr (G.fresh F n)⟩
theorem Grd.back1 (G : Grd w mg mb base outer g s₀ Mm A σ s₁ L h₀ ex tl) (F : Fr h₀ L h m) (N : News h₀ L h news) (h1 : ∀ p ∈ ex, p ∈ news) (h2 : ∀ p ∈ tl, p ∈ news) (p : Post [] s s') (e : s.heap = h) (ho : s.os = s₁.os) (hb : s.gens = s₁.gens) (R : Rep w A σ s'.heap)
    (ex' : List (Addr × Obj)) (hx : ∀ p ∈ ex', (s'.heap.get? p.1 = some p.2 ∧ p.1 ∈ A.foot σ.ns) ∨ p ∈ news ∨ s'.heap.get? p.1 = some p.2 ∧ s.heap.get? p.1 = none) :
    ∃ h₀' tl', Grd w mg mb base outer g s₀ Mm A σ s' L h₀' ex' tl' ∧ Fr h₀' L s'.heap m ∧ News h₀' L s'.heap (ex' ++ tl') :=
  G.backM F N h1 h2 p e ho hb (fun _ q => nomatch q) (fun _ q => nomatch q) R ex' fun p hp => (hx p hp).imp id fun q => q.imp (fun q => ⟨q, fun z => nomatch z⟩) id
theorem Grd.backS (G : Grd w mg mb base outer g s₀ (A₀.hid σ₀.ns) A σ s₁ L h₀ ex tl) (S : Step A₀ σ₀ s₀ A σ s₁) (F : Fr h₀ L h m) (N : News h₀ L h news) (h1 : ∀ p ∈ ex, p ∈ news) (h2 : ∀ p ∈ tl, p ∈ news) (p : Step A σ s A' σ' s') (e : s.heap = h) (ho : s.os = s₁.os) (hb : s.gens = s₁.gens) (R : Rep w A' σ' s'.heap)
    (ex' : List (Addr × Obj)) (hx : ∀ p ∈ ex', (s'.heap.get? p.1 = some p.2 ∧ p.1 ∈ A'.foot σ'.ns) ∨ (p ∈ news ∧ p.1 ∉ A.hid σ.ns) ∨ s'.heap.get? p.1 = some p.2 ∧ s.heap.get? p.1 = none) :
    ∃ h₀' tl', Grd w mg mb base outer g s₀ (A₀.hid σ₀.ns) A' σ' s' L h₀' ex' tl' ∧ Step A₀ σ₀ s₀ A' σ' s' ∧ Fr h₀' L s'.heap m ∧ News h₀' L s'.heap (ex' ++ tl') := by
  subst e
  have P := G.post F N (fun p hp => .inl (h1 p hp)) h2 rfl ho (fun x => hb ▸ x)
  obtain ⟨h₀', tl', G', F', N'⟩ := G.back F N h1 h2 p.post rfl ho hb S.hid (fun _ q => q) p.fresh R ex' fun y hy => by
    rcases hx y hy with ⟨q, n⟩ | ⟨q, n⟩ | ⟨q, n⟩
    · exact ⟨q, .inl n⟩
    · exact ⟨p.post.keep _ _ (N _ q).1 n, .inr (G.priv N q)⟩
    · exact ⟨q, .inr (G.fresh F n)⟩
  exact ⟨h₀', tl', G', (Step.mk (s' := s) P S.em S.ra S.ns S.fresh).trans p, F', N'⟩
theorem Step.refl (s : Shared) : Step A σ s A σ s := Step.of_post (Post.refl s) fun _ q => nomatch q
theorem Step.post' (S : Step A σ s A' σ' s₁) (p : Post (A.hid σ.ns) s s') : Step A σ s A' σ' s' := ⟨p, S.em, S.ra, S.ns, S.fresh⟩
theorem notHid {x : Addr} (R : Rep w A σ h) (e : h.get? x = none) : x ∉ A.hid σ.ns := fun q => by
  obtain ⟨o, e'⟩ := R.hidden q; rw [e] at e'; cases e'
theorem Grd.newHid {l : Addr} {o : Obj} (G : Grd w mg mb base outer g s₀ Mm A σ s₁ L h₀ ex tl) (N : News h₀ L h news) (hm : (l, o) ∈ news) (hx : ∀ p ∈ ex, @Ne Nat p.1 l) (ht : ∀ p ∈ tl, @Ne Nat p.1 l) : l ∉ A.hid σ.ns :=
  notHid G.Z.R (G.new N hm hx ht).1
theorem Grd.priv_hid {p : Addr × Obj} (G : Grd w mg mb base outer g s₀ (A₀.hid σ₀.ns) A σ s₁ L h₀ ex tl) (S : Step A₀ σ₀ s₀ A σ s₁) (e : s₀.heap.get? p.1 = some p.2) (n : p.1 ∉ A₀.hid σ₀.ns) : p.1 ∉ A.hid σ.ns := S.notin e n
def inX (A : AD) (σ : SS) (xs : List Addr) (h : Heap) : Heap := hideAll h (xs ++ A.hid σ.ns)
theorem inX_none {xs : List Addr} {x : Addr} (hx : x ∈ xs) : (inX A σ xs h).get? x = none := hideAll_none _ (List.mem_append_left _ hx)
theorem Grd.cxx {xs : List Addr} (G : Grd w mg mb base outer g s₀ Mm A σ s₁ L h₀ ex tl) (F : Fr h₀ L h m) (hx : ∀ x ∈ xs, x ≠ L ∧ g.get? x = none) (hf : env.frame = some L) (hk : env.scope.kind = .function) : Cx w mg mb base (env :: outer) (inX A σ xs h) :=
  G.cxX F (fun x q => (List.mem_append.mp q).elim (hx x) fun q => ⟨fun y => G.Lh (y ▸ q), G.Z.off x q⟩) hf hk
theorem Grd.stx {xs : List Addr} (G : Grd w mg mb base outer g s₀ Mm A σ s₁ L h₀ ex tl) (F : Fr h₀ L h m) (N : News h₀ L h news) (h1 : ∀ p ∈ ex, p ∈ news) (h2 : ∀ p ∈ tl, p ∈ news) (e : s.heap = h) : Stand w (inX A σ xs h) A σ s := by
  subst e
  exact ⟨fun b o e => of_hideAll _ e, fun x hx => hideAll_none _ (List.mem_append_right _ hx), G.rep F N h1 h2⟩
end
end
section
section
variable {w : World} {mg mb : PySem.Str → Option Value} {base g h₀ h : Heap} {outer : List Env} {A₀ A A' : AD} {σ₀ σ σ' : SS} {s₀ s₁ s s' : Shared} {Mm M' xs : List Addr} {L : Addr} {m : PySem.Str → Option Value} {env : Env} {ex tl news : List (Addr × Obj)}
def OwnL (A : AD) (σ : SS) (s₀ s₁ : Shared) (x : Addr) : Prop := s₀.heap.get? x = none ∧ x ∉ A.hid σ.ns ∧ ∃ its k, s₁.heap.get? x = some (listOf its k)
theorem OwnL.at {x : Addr} {s₂ : Shared} (o : OwnL A σ s₀ s₁ x) {its : Array Value} {k : Nat} (e : s₂.heap.get? x = some (listOf its k)) : OwnL A σ s₀ s₂ x := ⟨o.1, o.2.1, _, _, e⟩
theorem Grd.postX (G : Grd w mg mb base outer g s₀ Mm A σ s₁ L h₀ ex tl) (F : Fr h₀ L h m) (N : News h₀ L h news) (h1 : ∀ p ∈ ex, p ∈ news ∨ p.1 ∈ xs ∧ ∃ o, (p.1, o) ∈ news) (h2 : ∀ p ∈ tl, p ∈ news) (hx : ∀ x ∈ xs, s₀.heap.get? x = none) (e : s.heap = h) (ho : s.os = s₁.os) (hb : AllBare s₁.gens → AllBare s.gens) : Post Mm s₀ s := by
  subst e
  have kk : Kept (L :: xs) s₁.heap s.heap := G.keptM F N (fun p hp => (h1 p hp).imp id (·.1)) h2
  have no : ∀ b o, s₀.heap.get? b = some o → b ∉ L :: xs := fun b o e q => by
    rcases List.mem_cons.mp q with rfl | q
    · rw [G.L0] at e; cases e
    · rw [hx b q] at e; cases e
  refine ⟨fun b o e n => kk b o (G.P.keep b o e n) (no b o e), fun b o e => ?_, ho.trans G.P.os, fun x => hb (G.P.bare x)⟩
  obtain ⟨o', e'⟩ := G.P.dom b o e
  exact ⟨o', kk b o' e' (no b o e)⟩
theorem Grd.repX (G : Grd w mg mb base outer g s₀ Mm A σ s₁ L h₀ ex tl) (F : Fr h₀ L h m) (N : News h₀ L h news) (h1 : ∀ p ∈ ex, p ∈ news ∨ p.1 ∈ xs) (h2 : ∀ p ∈ tl, p ∈ news) (hx : ∀ x ∈ xs, OwnL A σ s₀ s₁ x) : Rep w A σ h := by
  refine G.Z.R.kept (M := L :: xs) (G.keptM F N h1 h2) (fun b o vs n e ht hd q => ?_) (fun x hx' q => ?_) (fun q => ?_) (fun q => ?_)
  · rcases List.mem_cons.mp q with q | q
    · exact G.Ld b o vs n e ht hd (List.mem_singleton.mpr q)
    · obtain ⟨_, _, its, k, e'⟩ := hx b q
      rw [e'] at e; cases e
      exact absurd ht (ne_tup (by decide))
  · rcases List.mem_cons.mp q with q | q
    · exact G.Lh (q ▸ hx')
    · exact (hx x q).2.1 hx'
  · rcases List.mem_cons.mp q with q | q
    · exact G.L4.1 q.symm
    · obtain ⟨_, _, its, k, e'⟩ := hx _ q
      refine Ob44 (TabOk.two G.Z.R.t7) fun o1 vs op ps ho hd1 _ _ => ?_
      rw [ho] at e'; cases e'; cases hd1
  · rcases List.mem_cons.mp q with q | q
    · exact G.L4.2 q.symm
    · obtain ⟨_, _, its, k, e'⟩ := hx _ q
      refine Ob44 (TabOk.two G.Z.R.t9) fun o1 vs op ps ho hd1 _ _ => ?_
      rw [ho] at e'; cases e'; cases hd1
theorem Grd.ownNew {l : Addr} {its : Array Value} {k : Nat} (G : Grd w mg mb base outer g s₀ Mm A σ s₁ L h₀ ex tl) (N : News h₀ L h news) (hm : (l, listOf its k) ∈ news) (hx : ∀ p ∈ ex, @Ne Nat p.1 l) (ht : ∀ p ∈ tl, @Ne Nat p.1 l) : s₀.heap.get? l = none ∧ l ∉ A.hid σ.ns :=
  ⟨(G.new N hm hx ht).2, G.newHid N hm hx ht⟩
end
end
section
structure Grows (c P : Addr) (s s' : Shared) : Prop where
  post : Post [P] s s'
  tab : TabOk s'.heap c P
theorem Grows.keep {c P : Addr} {s s' : Shared} (x : Grows c P s s') {b : Addr} {o : Obj} (n : b ≠ P) (e : s.heap.get? b = some o) : s'.heap.get? b = some o := x.post.keep b o e fun q => n (List.mem_singleton.mp q)
section
variable {w : World} {A : Around} {E : Value → Shared → Prop} {s : Shared} {env : Env}
theorem lc_cell {iter test : Expr} {x : PySem.Str} {px pe : Pos} {scope : Scope} {cl : List (PySem.Str × Addr)} {pos : Pos} {Q : Value → Shared → Prop} {c P : Addr} (p : Value → Bool) (hh : A.handled = none)
    (hclos : closureFor scope env = pure cl) (hkind : scope.kind = .function) (hnames : ∀ y ∈ scope.names, y.2 = .local → scope.names.lookup y.1 = some .local)
    (hcs : ∀ n, cellsFrom n scope.names cl = (x, n) :: cl) (hpc : ∀ h, pushCells h scope.names = h.push { cls := .type "cell", data := .cell none })
    (hx : ∀ C cs, (compEnvC scope cs C env).kindOf x = some .cell) (hd : (x == ("__debug__" : PySem.Str)) = false)
    (h : wpAny (model pw_ae0023_01 w) A (eval iter env) (fun xv s₁ => ∃ ax items, xv = .ref ax ∧ s₁.heap.IsList ax items ∧ items.size ≤ sizeLine ∧ ax ≠ P ∧ TabOk s₁.heap c P ∧
      (∀ C cx v s₂ m₂ E', @LE.le Nat _ s₁.heap.objs.size C → @LE.le Nat _ s₁.heap.objs.size cx → v ∈ items.toList → s₂.heap.Ns C m₂ → s₂.heap.IsCell cx (some v) → (∀ b o, b ≠ P → s₁.heap.get? b = some o → s₂.heap.get? b = some o) → TabOk s₂.heap c P →
        wpAny (model pw_ae0023_01 w) A (isTrue test (compEnvC scope ((x, cx) :: cl) C env) (eval test (compEnvC scope ((x, cx) :: cl) C env))) (fun ok s₃ => ok = p v ∧ Grows c P s₂ s₃) E' s₂) ∧
      (∀ D s' n, Grows c P s₁ s' → s₁.heap.get? D = none → s'.heap.get? D = some (listOf (items.toList.filter p).toArray n) → Q (.ref D) s')) E s)
    (hs : ∀ x, foldedSetIterable iter env x = pure x := by intro _; rfl) :
    wpAny (model pw_ae0023_01 w) A (eval (.ListComp (.Name x pe) [⟨.Name x px, iter, [test], 0⟩] scope pos) env) Q E s := by
  rw [eval_ListComp]
  refine wpAny_comprehension_free (use := none) rfl hs hclos hkind hnames (wpAny_mono h (fun xv s₁ h₁ => ?_) fun _ _ e => e)
  refine Ob2_7 (h₁) fun ax items e9 hl hsz haP htab ht hQ => ?_
  clear h₁
  subst e9
  have hP0 : ∃ o, s₁.heap.get? P = some o := Ob44 htab.two fun _ _ op _ _ _ hop _ => ⟨op, hop⟩
  have hc0 : ∃ o, s₁.heap.get? c = some o := Ob44 htab.two fun o _ _ _ ho _ _ _ => ⟨o, ho⟩
  refine wpAny_pyIter_list hl ?_
  refine wpAny_newObj_type ?_
  dsimp only
  simp only [newFunctionEnv, Option.isSome_some, if_true]
  refine wpAny_bind (wpAny_alloc ?_)
  refine wpAny_bind (wpAny_layCells _ (fun name kind cells => by cases hkc : kind == NameKind.cell <;> simp) _ _ _ _ ?_)
  rw [hcs, hpc]
  simp only [List.forIn_nil]
  refine wpAny_bind (wpAny_pure ?_)
  refine wpAny_pure ?_
  dsimp only
  simp only [Heap.size_push]
  generalize hH : (((s₁.heap.push { cls := .type "list_iterator", data := .fields #[.ref ax, .int 0 0] }).push { cls := .type "list", data := .seq ([] : List Value).toArray }).push { cls := .type "dict", data := .dict #[] }).push { cls := .type "cell", data := .cell none } = H
  have sz1 : s₁.heap.objs.size < s₁.heap.objs.size + 1 := Nat.lt_succ_self _
  have gI : H.get? s₁.heap.objs.size = some { cls := .type "list_iterator", data := .fields #[.ref ax, .int 0 0] } := by
    rw [← hH]; exact Heap.get?_push_of_some _ (Heap.get?_push_of_some _ (Heap.get?_push_of_some _ (Heap.get?_push_size _ rfl)))
  have gD : H.get? (s₁.heap.objs.size + 1) = some (listOf #[] 0) := by
    rw [← hH]; refine Heap.get?_push_of_some _ (Heap.get?_push_of_some _ ?_)
    have := Heap.get?_push_size (s₁.heap.push { cls := .type "list_iterator", data := .fields #[.ref ax, .int 0 0] }) (o := { cls := .type "list", data := .seq ([] : List Value).toArray }) rfl
    rw [Heap.size_push] at this; exact this
  have gC : H.get? (s₁.heap.objs.size + 1 + 1) = some { cls := .type "dict", data := .dict #[] } := by
    rw [← hH]; refine Heap.get?_push_of_some _ ?_
    have := Heap.get?_push_size ((s₁.heap.push { cls := .type "list_iterator", data := .fields #[.ref ax, .int 0 0] }).push { cls := .type "list", data := .seq ([] : List Value).toArray }) (o := { cls := .type "dict", data := .dict #[] }) rfl
    rw [Heap.size_push, Heap.size_push] at this; exact this
  have gx : H.get? (s₁.heap.objs.size + 1 + 1 + 1) = some { cls := .type "cell", data := .cell none } := by
    rw [← hH]
    have := Heap.get?_push_size (((s₁.heap.push { cls := .type "list_iterator", data := .fields #[.ref ax, .int 0 0] }).push { cls := .type "list", data := .seq ([] : List Value).toArray }).push { cls := .type "dict", data := .dict #[] }) (o := { cls := .type "cell", data := .cell none }) rfl
    rw [Heap.size_push, Heap.size_push, Heap.size_push] at this; exact this
  have old : ∀ b o, s₁.heap.get? b = some o → H.get? b = some o := fun b o e => by
    rw [← hH]; exact Heap.get?_push_of_some _ (Heap.get?_push_of_some _ (Heap.get?_push_of_some _ (Heap.get?_push_of_some _ e)))
  have nC : H.Ns (s₁.heap.objs.size + 1 + 1) (fun _ => none) := ⟨_, _, _, gC, rfl, by simp [StrKeys], fun _ => rfl⟩
  have lt : ∀ {b : Addr} {o : Obj}, s₁.heap.get? b = some o → @LT.lt Nat _ b s₁.heap.objs.size := fun e => Heap.lt_size e
  have hPlt : @LT.lt Nat _ P s₁.heap.objs.size := by obtain ⟨o, e⟩ := hP0; exact lt e
  have haxlt : @LT.lt Nat _ ax s₁.heap.objs.size := by obtain ⟨o, e, _⟩ := hl; exact lt e
  have hctlt : @LT.lt Nat _ c s₁.heap.objs.size := by obtain ⟨o, e⟩ := hc0; exact lt e
  have fresh : ∀ a : Addr, @LE.le Nat _ s₁.heap.objs.size a → s₁.heap.get? a = none := fun a ha => Heap.get?_none_of_le ha
  generalize hI : s₁.heap.objs.size = I at *
  generalize hD : I + 1 = D at *
  generalize hC : D + 1 = C at *
  generalize hcx : C + 1 = cx at *
  have e1 : @Eq Nat D (I + 1) := hD.symm
  have e2 : @Eq Nat C (D + 1) := hC.symm
  have e3 : @Eq Nat cx (C + 1) := hcx.symm
  have ne : ∀ {a b : Addr}, @Ne Nat a b → a ≠ b := fun h => h
  have lq1 : @LT.lt Nat _ I D := Nat.lt_of_lt_of_eq (Nat.lt_succ_self _) e1.symm
  have nq1 : @Ne Nat I D := Nat.ne_of_lt lq1
  have mq1 : @Ne Nat D I := Nat.ne_of_gt lq1
  have kq1 : @LE.le Nat _ I D := Nat.le_of_lt lq1
  have lq4 : @LT.lt Nat _ D C := Nat.lt_of_lt_of_eq (Nat.lt_succ_self _) e2.symm
  have nq4 : @Ne Nat D C := Nat.ne_of_lt lq4
  have mq4 : @Ne Nat C D := Nat.ne_of_gt lq4
  have lq6 : @LT.lt Nat _ C cx := Nat.lt_of_lt_of_eq (Nat.lt_succ_self _) e3.symm
  have nq6 : @Ne Nat C cx := Nat.ne_of_lt lq6
  have mq6 : @Ne Nat cx C := Nat.ne_of_gt lq6
  have lq2 : @LT.lt Nat _ I C := Nat.lt_trans lq1 lq4
  have nq2 : @Ne Nat I C := Nat.ne_of_lt lq2
  have mq2 : @Ne Nat C I := Nat.ne_of_gt lq2
  have kq2 : @LE.le Nat _ I C := Nat.le_of_lt lq2
  have lq5 : @LT.lt Nat _ D cx := Nat.lt_trans lq4 lq6
  have nq5 : @Ne Nat D cx := Nat.ne_of_lt lq5
  have mq5 : @Ne Nat cx D := Nat.ne_of_gt lq5
  have lq3 : @LT.lt Nat _ I cx := Nat.lt_trans lq2 lq6
  have nq3 : @Ne Nat I cx := Nat.ne_of_lt lq3
  have mq3 : @Ne Nat cx I := Nat.ne_of_gt lq3
  have kq3 : @LE.le Nat _ I cx := Nat.le_of_lt lq3
  have nPI : @Ne Nat P I := Nat.ne_of_lt hPlt
  have mPI : @Ne Nat I P := Nat.ne_of_gt hPlt
  have nPD : @Ne Nat P D := Nat.ne_of_lt (Nat.lt_trans hPlt lq1)
  have mPD : @Ne Nat D P := Nat.ne_of_gt (Nat.lt_trans hPlt lq1)
  have nPC : @Ne Nat P C := Nat.ne_of_lt (Nat.lt_trans hPlt lq2)
  have mPC : @Ne Nat C P := Nat.ne_of_gt (Nat.lt_trans hPlt lq2)
  have nPcx : @Ne Nat P cx := Nat.ne_of_lt (Nat.lt_trans hPlt lq3)
  have mPcx : @Ne Nat cx P := Nat.ne_of_gt (Nat.lt_trans hPlt lq3)
  have ncI : @Ne Nat c I := Nat.ne_of_lt hctlt
  have mcI : @Ne Nat I c := Nat.ne_of_gt hctlt
  have ncD : @Ne Nat c D := Nat.ne_of_lt (Nat.lt_trans hctlt lq1)
  have mcD : @Ne Nat D c := Nat.ne_of_gt (Nat.lt_trans hctlt lq1)
  have ncC : @Ne Nat c C := Nat.ne_of_lt (Nat.lt_trans hctlt lq2)
  have mcC : @Ne Nat C c := Nat.ne_of_gt (Nat.lt_trans hctlt lq2)
  have nccx : @Ne Nat c cx := Nat.ne_of_lt (Nat.lt_trans hctlt lq3)
  have mccx : @Ne Nat cx c := Nat.ne_of_gt (Nat.lt_trans hctlt lq3)
  have ltb : ∀ {b : Addr} {o : Obj}, s₁.heap.get? b = some o → @Ne Nat b I ∧ @Ne Nat b D ∧ @Ne Nat b C ∧ @Ne Nat b cx := fun e => ⟨Nat.ne_of_lt (lt e), Nat.ne_of_lt (Nat.lt_trans (lt e) lq1), Nat.ne_of_lt (Nat.lt_trans (lt e) lq2), Nat.ne_of_lt (Nat.lt_trans (lt e) lq3)⟩
  have loop : ∀ s₃ : Shared, s₃ = { s₁ with heap := H } →
      codeAny (model pw_ae0023_01 w) A (.compLoop (.ListComp (.Name x pe) [⟨.Name x px, iter, [test], 0⟩] scope pos) 0 (.ref I) (.ref D) (compEnvC scope ((x, cx) :: cl) C env))
        (compPost (model pw_ae0023_01 w) A E none Q (.ref D) C) s₃ := by
    rintro s₃ rfl
    refine codeAny_compLoop_tests
      (fun k s' => ∃ i ys m' v₀, k = items.size + 1 - i ∧ i ≤ items.size ∧ s'.heap.IsListIter I ax i ∧ s'.heap.get? D = some (listOf ys.toArray ys.length) ∧ s'.heap.Ns C m' ∧ s'.heap.IsCell cx v₀ ∧
        (∀ b o, b ≠ P → s₁.heap.get? b = some o → s'.heap.get? b = some o) ∧ TabOk s'.heap c P ∧ s'.os = s₁.os ∧ (AllBare s₁.gens → AllBare s'.gens) ∧ ys = (items.toList.take i).filter p) ?_ (items.size + 1)
      ⟨0, [], _, none, rfl, Nat.zero_le _, ⟨_, gI, rfl, rfl⟩, gD, nC, ⟨_, gx, rfl⟩, fun b o _ e => old b o e, htab.kept (M := []) (fun b o e _ => old b o e) (by simp) (by simp), rfl, id, by simp⟩
    intro k s' hk9
    refine Ob4_11 hk9 fun i ys m' v₀ e9 hi hit hD' hC' hcx' hk htab' hos hg hys => ?_
    clear hk9
    subst e9
    have hl' : s'.heap.IsList ax items := by obtain ⟨o, e, r⟩ := hl; exact ⟨o, hk _ _ haP e, r⟩
    by_cases hlt : i < items.size
    · refine wpAny_pyNext_list_item hit hl' (x := items[i]) (by simp [hlt]) fun h₁ hit₁ hs₁ => ?_
      refine wpAny_assign_Name (wpAny_storeName_cell (c := cx) (by simp [compEnvC, relabel, hkind]) (hx _ _) (by simp [compEnvC]) (hcx'.sameBut hs₁ (ne (by first | assumption | omega))) fun h₂ hc₂ hs₂ => ?_)
      have up : ∀ b o, @Ne Nat b I → @Ne Nat b cx → s'.heap.get? b = some o → h₂.get? b = some o := fun b o n1 n2 e => (hs₂.2 b n2).trans ((hs₁.2 b n1).trans e)
      have old₂ : ∀ b o, b ≠ P → s₁.heap.get? b = some o → h₂.get? b = some o := fun b o n e => up b o (by first | exact (ltb e).1 | exact (ltb e).2.1 | exact (ltb e).2.2.1 | exact (ltb e).2.2.2 | (have := lt e; omega)) (by first | exact (ltb e).1 | exact (ltb e).2.1 | exact (ltb e).2.2.1 | exact (ltb e).2.2.2 | (have := lt e; omega)) (hk b o n e)
      have tab₂ : TabOk h₂ c P := htab'.kept (M := [I, cx]) (fun b o e n => up b o (fun q => n (by rw [show b = I from q]; exact List.mem_cons_self)) (fun q => n (by rw [show b = cx from q]; exact List.mem_cons_of_mem _ List.mem_cons_self)) e)
        (by simp only [List.mem_cons, List.not_mem_nil, or_false, not_or]; exact ⟨ne (by first | assumption | omega), ne (by first | assumption | omega)⟩) (by simp only [List.mem_cons, List.not_mem_nil, or_false, not_or]; exact ⟨ne (by first | assumption | omega), ne (by first | assumption | omega)⟩)
      have ns₂ : h₂.Ns C m' := (hC'.sameBut hs₁ (ne (by first | assumption | omega))).sameBut hs₂ (ne (by first | assumption | omega))
      refine wpAny_mono (wpAny_tests_one (ht C cx items[i] { s' with heap := h₂ } m' _ (by first | assumption | omega) (by first | assumption | omega) (Array.getElem_mem_toList hlt) ns₂ hc₂ old₂ tab₂)) (fun ok s₃ h₃ => ?_) fun _ _ e => e
      obtain ⟨rfl, gr⟩ := h₃
      have hD₃ : s₃.heap.get? D = some (listOf ys.toArray ys.length) := gr.keep (ne (by first | assumption | omega)) (up D _ (by first | assumption | omega) (by first | assumption | omega) hD')
      have hI₃ : s₃.heap.IsListIter I ax (i + 1) := by obtain ⟨o, e, r⟩ := hit₁; exact ⟨o, gr.keep (ne (by first | assumption | omega)) ((hs₂.2 I (ne (by first | assumption | omega))).trans e), r⟩
      have hC₃ : s₃.heap.Ns C m' := by obtain ⟨o, es, ep, e, r⟩ := ns₂; exact ⟨o, es, ep, gr.keep (ne (by first | assumption | omega)) e, r⟩
      have hx₃ : s₃.heap.IsCell cx (some items[i]) := by obtain ⟨o, e, r⟩ := hc₂; exact ⟨o, gr.keep (ne (by first | assumption | omega)) e, r⟩
      have old₃ : ∀ b o, b ≠ P → s₁.heap.get? b = some o → s₃.heap.get? b = some o := fun b o n e => gr.keep n (old₂ b o n e)
      have hos₃ : s₃.os = s₁.os := gr.post.os.trans hos
      have hg₃ : AllBare s₁.gens → AllBare s₃.gens := fun z => gr.post.bare (hg z)
      have htk : items.toList.take (i + 1) = items.toList.take i ++ [items[i]] := by
        rw [List.take_add_one, Array.getElem?_toList, Array.getElem?_eq_getElem hlt]; rfl
      cases hp : p items[i] with
      | false =>
        simp only [Bool.false_eq_true, if_false]
        exact ⟨_, by first | exact Nat.sub_lt_sub_left (Nat.lt_succ_of_lt hlt) (Nat.lt_succ_self _) | omega, i + 1, ys, m', _, rfl, hlt, hI₃, hD₃, hC₃, hx₃, old₃, gr.tab, hos₃, hg₃, by rw [htk, List.filter_append, ← hys]; simp [hp]⟩
      | true =>
        simp only [if_true]
        refine wpAny_Name (wpAny_loadName_cell (c := cx) (by simp [compEnvC, relabel, hkind]) (hx _ _) (by simp [compEnvC]) hx₃ ?_) hd
        refine append_at (hsz := by rw [List.size_toArray, hys]; exact Nat.le_trans (Nat.le_trans (List.length_filter_le _ _) (by rw [List.length_take]; exact Nat.le_trans (Nat.min_le_left _ _) hi)) hsz) hD₃ fun h₅ hs₅ hD₅ => ?_
        refine ⟨_, by first | exact Nat.sub_lt_sub_left (Nat.lt_succ_of_lt hlt) (Nat.lt_succ_self _) | omega, i + 1, ys ++ [items[i]], m', _, rfl, hlt, ?_, ?_, hC₃.sameBut hs₅ (ne (by first | assumption | omega)), hx₃.sameBut hs₅ (ne (by first | assumption | omega)), fun b o n e => (hs₅.2 b (ne (by first | exact (ltb e).1 | exact (ltb e).2.1 | exact (ltb e).2.2.1 | exact (ltb e).2.2.2 | (have := lt e; omega)))).trans (old₃ b o n e), ?_, hos₃, hg₃, by rw [htk, List.filter_append, ← hys]; simp [hp]⟩
        · obtain ⟨o, e, r⟩ := hI₃; exact ⟨o, (hs₅.2 I (ne (by first | assumption | omega))).trans e, r⟩
        · refine hD₅.trans ?_
          show some (listOf (ys.toArray.push items[i]) (ys.length + 1)) = some (listOf (ys ++ [items[i]]).toArray (ys ++ [items[i]]).length)
          rw [List.length_append, List.length_singleton, List.push_toArray]
        · exact gr.tab.kept (M := [D]) (fun b o e n => (hs₅.2 b fun q => n (List.mem_singleton.mpr q)).trans e) (by simp only [List.mem_singleton]; exact ne (by omega)) (by simp only [List.mem_singleton]; exact ne (by omega))
    · have hi' : i = items.size := by omega
      subst hi'
      refine wpAny_pyNext_list_end hh hit hl' (by simp) fun h₁ he₁ => ?_
      refine ⟨m', hC'.at' fun o e => he₁ _ o (ne (by first | assumption | omega)) e, fun h₂ hs₂ => ?_⟩
      have up : ∀ b o, @Ne Nat b I → @Ne Nat b C → s'.heap.get? b = some o → h₂.get? b = some o := fun b o n1 n2 e => (hs₂.2 b n2).trans (he₁ b o n1 e)
      have hall : (items.toList.take items.size) = items.toList := by rw [← Array.length_toList, List.take_length]
      rw [hall] at hys
      have tab₂ : TabOk h₂ c P := htab'.kept (M := [I, C]) (fun b o e n => up b o (fun q => n (by rw [show b = I from q]; exact List.mem_cons_self)) (fun q => n (by rw [show b = C from q]; exact List.mem_cons_of_mem _ List.mem_cons_self)) e)
        (by simp only [List.mem_cons, List.not_mem_nil, or_false, not_or]; exact ⟨ne (by first | assumption | omega), ne (by first | assumption | omega)⟩) (by simp only [List.mem_cons, List.not_mem_nil, or_false, not_or]; exact ⟨ne (by first | assumption | omega), ne (by first | assumption | omega)⟩)
      refine hQ D _ ys.length ⟨⟨fun b o e n => ?_, fun b o e => ?_, hos, hg⟩, tab₂⟩ (fresh _ (by first | assumption | omega)) (by rw [← hys]; exact up D _ (by first | assumption | omega) (by first | assumption | omega) hD')
      · exact up b o (by first | exact (ltb e).1 | exact (ltb e).2.1 | exact (ltb e).2.2.1 | exact (ltb e).2.2.2 | (have := lt e; omega)) (by first | exact (ltb e).1 | exact (ltb e).2.1 | exact (ltb e).2.2.1 | exact (ltb e).2.2.2 | (have := lt e; omega)) (hk b o (fun q => n (List.mem_singleton.mpr q)) e)
      · by_cases q : b = P
        · subst q
          exact Ob44 (TabOk.two tab₂) fun _ _ op _ _ _ hop _ => ⟨op, hop⟩
        · exact ⟨o, up b o (by first | exact (ltb e).1 | exact (ltb e).2.1 | exact (ltb e).2.2.1 | exact (ltb e).2.2.2 | (have := lt e; omega)) (by first | exact (ltb e).1 | exact (ltb e).2.1 | exact (ltb e).2.2.1 | exact (ltb e).2.2.2 | (have := lt e; omega)) (hk b o q e)⟩
  exact codeAny_compStart_list (loop _ rfl) (wpAny_pyIter_listiter ⟨_, gI, rfl, rfl⟩ (loop _ rfl))
end
end
section
structure Own (g : Heap) (A : AD) (σ : SS) (s₀ : Shared) (L x : Addr) : Prop where
  fr : s₀.heap.get? x = none
  gn : g.get? x = none
  off : x ∉ A.hid σ.ns
  far : x ≠ 784 ∧ x ≠ 1000
  nL : x ≠ L
theorem Rep.farNone {w : World} {A : AD} {σ : SS} {h : Heap} (R : Rep w A σ h) {x : Addr} (e : h.get? x = none) : x ≠ 784 ∧ x ≠ 1000 := by
  refine Ob44 (TabOk.two R.t7) fun o vs op ps ho _ _ _ => ?_
  refine Ob44 (TabOk.two R.t9) fun o' vs' op' ps' ho' _ _ _ => ?_
  exact ⟨fun q => (by rw [q, ho] at e; cases e), fun q => (by rw [q, ho'] at e; cases e)⟩
section
variable {w : World} {mg mb : PySem.Str → Option Value} {base g h₀ h : Heap} {outer : List Env} {A₀ A A' : AD} {σ₀ σ σ' : SS} {s₀ s₁ s s' : Shared} {Mm M' xs : List Addr} {L : Addr} {m : PySem.Str → Option Value} {env : Env} {ex tl news : List (Addr × Obj)}
def At (w : World) (mg mb : PySem.Str → Option Value) (base : Heap) (outer : List Env) (g : Heap) (s₀ : Shared) (Mm : List Addr) (A : AD) (σ : SS) (L : Addr) (m : PySem.Str → Option Value) (ex : List (Addr × Obj)) (s : Shared) : Prop :=
  ∃ h₀ tl, Grd w mg mb base outer g s₀ Mm A σ s L h₀ ex tl ∧ Fr h₀ L s.heap m ∧ News h₀ L s.heap (ex ++ tl)
theorem Grd.re (G : Grd w mg mb base outer g s₀ Mm A σ s₁ L h₀ ex tl) (k : Kept (L :: xs) s₁.heap s.heap) (hn : s.heap.Ns L m) (hx : ∀ x ∈ xs, Own g A σ s₀ L x) (ht : NoTup xs s₁.heap) (ho : s.os = s₁.os) (hb : AllBare s₁.gens → AllBare s.gens)
    (ex' : List (Addr × Obj)) (hx' : ∀ p ∈ ex', s.heap.get? p.1 = some p.2 ∧ p.1 ≠ L ∧ g.get? p.1 = none) : At w mg mb base outer g s₀ Mm A σ L m ex' s := by
  have gk : g.StaysIn s.heap := fun b o e => k b o (G.Z.hg b o e) fun q => by
    rcases List.mem_cons.mp q with q | q
    · rw [q, G.gLn] at e; cases e
    · rw [(hx b q).gn] at e; cases e
  have no : ∀ b o, s₀.heap.get? b = some o → b ∉ L :: xs := fun b o e q => by
    rcases List.mem_cons.mp q with rfl | q
    · rw [G.L0] at e; cases e
    · rw [(hx b q).fr] at e; cases e
  have nt : NoTup (L :: xs) s₁.heap := fun b o vs n e hc hd q => by
    rcases List.mem_cons.mp q with q | q
    · exact G.Ld b o vs n e hc hd (List.mem_singleton.mpr q)
    · exact ht b o vs n e hc hd q
  have R : Rep w A σ s.heap := G.Z.R.kept k nt (fun x hx' q => (List.mem_cons.mp q).elim (fun q => G.Lh (q ▸ hx')) fun q => (hx x q).off hx')
    (fun q => (List.mem_cons.mp q).elim (fun q => G.L4.1 q.symm) fun q => (hx _ q).far.1 rfl) (fun q => (List.mem_cons.mp q).elim (fun q => G.L4.2 q.symm) fun q => (hx _ q).far.2 rfl)
  refine Ob33 (hn) fun oL es ep hL' hd r => ?_
  obtain ⟨h₀', tl', F', N', C', gh', cov', tx'⟩ := reseg (m := m) ex' G.C gk G.gL ⟨oL, es, ep, hL', hd, r⟩ hx'
  refine ⟨h₀', tl', ⟨G.C, ⟨gk, G.Z.off, R⟩, ⟨fun b o e n => k b o (G.P.keep b o e n) (no b o e), fun b o e => ?_, ho.trans G.P.os, fun x => hb (G.P.bare x)⟩, G.L0, G.gL, G.Lh, G.L4, fun b o _ _ e _ hds q => ?_, fun p hp => (hx' p hp).1, cov', tx', gh', C'⟩, F', N'⟩
  · obtain ⟨o', e'⟩ := G.P.dom b o e
    exact ⟨o', k b o' e' (no b o e)⟩
  · rw [List.mem_singleton.mp q] at e
    obtain rfl : oL = o := Option.some.inj (hL'.symm.trans e)
    rw [hd] at hds; cases hds
theorem Grd.own (G : Grd w mg mb base outer g s₀ Mm A σ s₁ L h₀ ex tl) (F : Fr h₀ L h m) (N : News h₀ L h news) (h1 : ∀ p ∈ ex, p ∈ news) (h2 : ∀ p ∈ tl, p ∈ news) {y : Addr} (e : h.get? y = none) : Own g A σ s₀ L y :=
  ⟨G.oldNone F N h1 h2 e, (G.fresh F e).2, notHid (G.rep F N h1 h2) e, (G.rep F N h1 h2).farNone e, (G.fresh F e).1⟩
theorem At.re (a : At w mg mb base outer g s₀ Mm A σ L m ex s) {m' : PySem.Str → Option Value} (k : Kept (L :: xs) s.heap s'.heap) (hn : s'.heap.Ns L m') (hx : ∀ x ∈ xs, Own g A σ s₀ L x) (ht : NoTup xs s.heap) (ho : s'.os = s.os) (hb : AllBare s.gens → AllBare s'.gens)
    (ex' : List (Addr × Obj)) (hx' : ∀ p ∈ ex', s'.heap.get? p.1 = some p.2 ∧ p.1 ≠ L ∧ g.get? p.1 = none) : At w mg mb base outer g s₀ Mm A σ L m' ex' s' := by
  refine Ob23 (a) fun h₀ tl G F N => ?_
  exact G.re k hn hx ht ho hb ex' hx'
theorem At.get (a : At w mg mb base outer g s₀ Mm A σ L m ex s) {p : Addr × Obj} (hp : p ∈ ex) : s.heap.get? p.1 = some p.2 := by
  obtain ⟨h₀, tl, G, F, N⟩ := a; exact G.hex p hp
theorem At.priv (a : At w mg mb base outer g s₀ Mm A σ L m ex s) {p : Addr × Obj} (hp : p ∈ ex) : p.1 ≠ L ∧ g.get? p.1 = none := by
  obtain ⟨h₀, tl, G, F, N⟩ := a; exact G.priv N (List.mem_append_left _ hp)
theorem At.ns (a : At w mg mb base outer g s₀ Mm A σ L m ex s) : s.heap.Ns L m := by obtain ⟨h₀, tl, G, F, N⟩ := a; exact F.ns
theorem At.frame (a : At w mg mb base outer g s₀ Mm A σ L m ex s) {m' : PySem.Str → Option Value} (e : ∀ y, m y = m' y) : At w mg mb base outer g s₀ Mm A σ L m' ex s := by
  rw [← show m = m' from funext e]; exact a
theorem At.sub (a : At w mg mb base outer g s₀ Mm A σ L m ex s) (ex' : List (Addr × Obj)) (h : ∀ p ∈ ex', p ∈ ex) : At w mg mb base outer g s₀ Mm A σ L m ex' s :=
  a.re (xs := []) (fun b o e _ => e) a.ns (fun _ q => nomatch q) NoTup.nil rfl id ex' fun p hp => ⟨a.get (h p hp), a.priv (h p hp)⟩
theorem Grd.at (G : Grd w mg mb base outer g s₀ Mm A σ s₁ L h₀ ex tl) (F : Fr h₀ L s.heap m) (N : News h₀ L s.heap news) (h1 : ∀ p ∈ ex, p ∈ news ∨ p.1 ∈ xs) (h2 : ∀ p ∈ tl, p ∈ news) (hx : ∀ x ∈ xs, Own g A σ s₀ L x) (ht : NoTup xs s₁.heap) (ho : s.os = s₁.os) (hb : AllBare s₁.gens → AllBare s.gens)
    (ex' : List (Addr × Obj)) (hx' : ∀ p ∈ ex', p ∈ news) : At w mg mb base outer g s₀ Mm A σ L m ex' s :=
  G.re (G.keptM F N h1 h2) F.ns hx ht ho hb ex' fun p hp => ⟨(N p (hx' p hp)).1, G.priv N (hx' p hp)⟩
theorem noTup1 {x : Addr} {o : Obj} (e : h.get? x = some o) (n : o.cls ≠ .type "tuple") : NoTup [x] h := fun b o' _ _ e' hc _ q => by
  rw [List.mem_singleton.mp q, e] at e'; cases e'; exact n hc
abbrev iterO (ax : Addr) (i : Nat) : Obj := { cls := .type "list_iterator", data := .fields #[.ref ax, .int i 0] }
theorem isIter {I ax : Addr} {i : Nat} (h1 : h.IsListIter I ax i) : ∃ o, h.get? I = some o ∧ o.cls = .type "list_iterator" := let ⟨o, e, c, _⟩ := h1; ⟨o, e, c⟩
theorem for_at {x : PySem.Str} {px : Pos} {A₁ : Around} {body : List Stmt} {R : Result → Shared → Prop} {I ax : Addr} {items : Array Value} {k : Nat} (hh : A₁.handled = none) (hL : env.locals = L) (hxl : env.kindOf x = some .local) (hp : (env.scope.kind == .class || (env.scope.kind == .module && env.locals != env.globals)) = false)
    (T : Nat → (PySem.Str → Option Value) → List (Addr × Obj) → Prop)
    (hit : s.heap.IsListIter I ax 0) (oI : Own g A σ s₀ L I) (hax : ∀ j m ex, T j m ex → (ax, listOf items k) ∈ ex) (hI : ∀ j m ex, T j m ex → ∀ p ∈ ex, p.1 ≠ I)
    (h0 : ∃ m ex, T 0 m ex ∧ At w mg mb base outer g s₀ Mm A σ L m ex s)
    (turn : ∀ j v m ex s' E', items[j]? = some v → T j m ex → At w mg mb base outer g s₀ Mm A σ L (fun y => if y = x then some v else m y) ex s' → s'.heap.IsListIter I ax (j + 1) →
      wpAny (model pw_ae0023_01 w) A₁ (execs body env) (fun f s₃ => match f with
        | .next | .cont => ∃ m' ex', T (j + 1) m' ex' ∧ At w mg mb base outer g s₀ Mm A σ L m' ex' s₃ ∧ s₃.heap.IsListIter I ax (j + 1)
        | .brk => R (.ok .next) s₃
        | .ret v => R (.ok (.ret v)) s₃) E' s')
    (hR : ∀ m ex s', T items.size m ex → At w mg mb base outer g s₀ Mm A σ L m ex s' → R (.ok .next) s') :
    codeAny (model pw_ae0023_01 w) A₁ (.forLoop (.Name x px) (.ref I) body [] env) R s := by
  obtain ⟨m₀, ex₀, T₀, a₀⟩ := h0
  refine codeAny_forLoop (fun n s' => ∃ j m ex, n = items.size + 1 - j ∧ j ≤ items.size ∧ T j m ex ∧ At w mg mb base outer g s₀ Mm A σ L m ex s' ∧ s'.heap.IsListIter I ax j) ?_ (items.size + 1)
    ⟨0, m₀, ex₀, rfl, Nat.zero_le _, T₀, a₀, hit⟩
  rintro n s' ⟨j, m, ex, rfl, hj, Tj, a, hit'⟩
  have hl : s'.heap.IsList ax items := ⟨_, a.get (hax j m ex Tj), rfl, _, rfl⟩
  have ntI : NoTup [I] s'.heap := by
    obtain ⟨o, e, c⟩ := isIter hit'
    exact noTup1 e (by rw [c]; exact ne_tup (by decide))
  have exI : ∀ p ∈ ex, p.1 ≠ I := hI j m ex Tj
  by_cases hlt : j < items.size
  · have hv : items[j]? = some items[j] := Array.getElem?_eq_getElem hlt
    refine wpAny_pyNext_list_item hit' hl hv fun h₁ hit₁ hs₁ => ?_
    subst hL
    refine wpAny_assign_Name (wpAny_storeName_local hxl (a.ns.sameBut hs₁ (Ne.symm oI.nL)) (fun h₂ hn₂ hs₂ => ?_) hp)
    have a₂ : At w mg mb base outer g s₀ Mm A σ env.locals (fun y => if y = x then some items[j] else m y) ex { s' with heap := h₂, toks := s'.toks + 1 } := by
      refine a.re (s' := { s' with heap := h₂, toks := s'.toks + 1 }) (xs := [I]) (fun b o e n => ?_) hn₂ (fun x hx => by rw [List.mem_singleton.mp hx]; exact oI) ntI rfl id ex fun p hp => ?_
      · exact (hs₂.2 b fun q => n (by rw [show b = env.locals from q]; exact List.mem_cons_self)).trans ((hs₁.2 b fun q => n (by rw [show b = I from q]; exact List.mem_cons_of_mem _ List.mem_cons_self)).trans e)
      · exact ⟨(hs₂.2 _ (a.priv hp).1).trans ((hs₁.2 _ (exI p hp)).trans (a.get hp)), a.priv hp⟩
    have it₂ : h₂.IsListIter I ax (j + 1) := by obtain ⟨o, e, r⟩ := hit₁; exact ⟨o, (hs₂.2 I oI.nL).trans e, r⟩
    refine wpAny_mono (turn j items[j] m ex _ _ hv Tj a₂ it₂) (fun f s₃ h₃ => ?_) fun _ _ e => e
    cases f with
    | next => obtain ⟨m', ex', T', a', it'⟩ := h₃; exact ⟨_, by first | exact Nat.sub_lt_sub_left (Nat.lt_succ_of_lt hlt) (Nat.lt_succ_self _) | omega, j + 1, m', ex', rfl, hlt, T', a', it'⟩
    | cont => obtain ⟨m', ex', T', a', it'⟩ := h₃; exact ⟨_, by first | exact Nat.sub_lt_sub_left (Nat.lt_succ_of_lt hlt) (Nat.lt_succ_self _) | omega, j + 1, m', ex', rfl, hlt, T', a', it'⟩
    | brk => exact h₃
    | ret v => exact h₃
  · obtain rfl : j = items.size := by first | exact Nat.le_antisymm (by assumption) (Nat.le_of_not_lt (by assumption)) | omega
    refine wpAny_pyNext_list_end hh hit' hl (by simp) fun h₁ he₁ => wpAny_execs_nil ?_
    refine hR m ex _ Tj (a.re (s' := { s' with heap := h₁ }) (xs := [I]) (fun b o e n => ?_) (a.ns.at' fun o e => he₁ _ o (Ne.symm oI.nL) e) (fun x hx => by rw [List.mem_singleton.mp hx]; exact oI) ntI rfl id ex fun p hp => ?_)
    · exact he₁ b o (fun q => n (by rw [show b = I from q]; exact List.mem_cons_of_mem _ List.mem_cons_self)) e
    · exact ⟨he₁ _ _ (exI p hp) (a.get hp), a.priv hp⟩
end
end
section
section
variable {w : World} {mg mb : PySem.Str → Option Value} {base g : Heap} {outer : List Env} {d u : Nat} {gs : Option (List Code)} {E : Value → Shared → Prop} {s : Shared} {A : AD} {σ : SS}
theorem getRole_old {n : Fin 5} {t : Nat} {Q : Value → Shared → Prop} (C : Cx w mg mb base outer g) (Z : Stand w g A σ s) (hd : d + 3 < recursionLimit) (hu : u + 8 < cLine) (hn : n ∈ σ.ns)
  (h : ∀ s', Rep w A σ s'.heap → Post [] s s' → Q (.ref (A.r n).a) s') :
  wpAny (model pw_ae0023_01 w) (Ar d outer gs u) (call (.ref 901) [.ref A.m, .str (nmS n) t]) Q E s := by
  walk_at "f"
  refine Ob11 (Z.R.mdO) fun t1T md => ?_
  have hl : ∀ p ∈ [(A.m, instObj 1061 A.dm), (A.dm, mgrO w A σ t1T)], s.heap.get? p.1 = some p.2 ∧ g.get? p.1 = none := allCons ⟨Z.R.mi, off_of Z foot_m⟩ (allCons ⟨md, off_of Z foot_dm⟩ allNil)
  refine wpAny_call ?_
  refine' enter_def C Z.hg hl ?k6 ?k7 (room0 hd) ?k9 ?kB ?_ ?c2 ?c3 ?c4 ?c5
  walk_at "e"
  intro L' h' hL hgL F' N' C' l1
  refine hideE fun E9 => ?_
  have G := Grd.enter [] C Z hl hL hgL C'
  have X' := G.X
  have T' := G.T
  k_lt l1
  clear hl hL hgL C' md
  (repeat (walk_at "S2"; (fail_if_success (with_reducible (first | show wpAny _ _ (call (Value.ref _) _) _ _ _ | show wpAny _ _ (compareOp CmpOp.NotIn _ _) _ _ _))); walk_at "w"))
  refine notIn_ns (G.rep F' N' (by walk_at "h") (by walk_at "H")) ?_
  rw [decide_eq_true hn]
  (repeat (walk_at "S2"; (fail_if_success (with_reducible (first | show wpAny _ _ (call (Value.ref _) _) _ _ _ | show wpAny _ _ (compareOp CmpOp.NotIn _ _) _ _ _))); walk_at "w"))
  rename Fr _ _ _ _ => F1
  rename News _ _ _ _ => N1
  refine item_ns (G.rep F1 N1 (by walk_at "h") (by walk_at "H")) hn ?_ (by with_unfolding_all rfl)
  dsimp only
  exact h _ (G.rep F1 N1 (by walk_at "h") (by walk_at "H")) (G.post F1 N1 (fun p hp => .inl (by revert p; walk_at "h")) (by walk_at "H") rfl rfl id)
end
end
section
section
variable {w : World} {mg mb : PySem.Str → Option Value} {base g : Heap} {outer : List Env} {d u : Nat} {gs : Option (List Code)} {E : Value → Shared → Prop} {s : Shared} {A : AD} {σ : SS}
theorem role_get_cond {a b : Fin 5} {dm : Fin 3} {td : Nat} {Q : Value → Shared → Prop} (C : Cx w mg mb base outer g) (Z : Stand w g A σ s) (hd : d + 3 < recursionLimit) (hu : u + 8 < cLine) (ha : a ∈ σ.ns) (hb : b ∈ σ.ns)
  (h : ∀ s', Rep w A σ s'.heap → Post [] s s' → Q (condV (σ.cond a b dm)) s') :
  wpAny (model pw_ae0023_01 w) (Ar d outer gs u) (call (.ref 837) [.ref (A.r a).a, .ref (A.r b).a, .str (domS dm) td]) Q E s := by
  walk_at "f"
  refine Ob11 ((Z.R.ro a ha).dO) fun t1T da => ?_
  refine Ob11 ((Z.R.ro b hb).dO) fun t1T' db => ?_
  have hl : ∀ p ∈ [((A.r a).a, instObj 854 (A.r a).dx), ((A.r a).dx, roleO w A a t1T), ((A.r b).a, instObj 854 (A.r b).dx), ((A.r b).dx, roleO w A b t1T')], s.heap.get? p.1 = some p.2 ∧ g.get? p.1 = none := allCons ⟨(Z.R.ro a ha).i, off_of Z (foot_a ha)⟩ (allCons ⟨da, off_of Z (foot_dx ha)⟩ (allCons ⟨(Z.R.ro b hb).i, off_of Z (foot_a hb)⟩ (allCons ⟨db, off_of Z (foot_dx hb)⟩ allNil)))
  refine wpAny_call ?_
  refine' enter_def C Z.hg hl ?k6 ?k7 (room0 hd) ?k9 ?kB ?_ ?c2 ?c3 ?c4 ?c5
  walk_at "e"
  intro L' h' hL hgL F' N' C' l1
  refine hideE fun E9 => ?_
  have G := Grd.enter [] C Z hl hL hgL C'
  have X' := G.X
  have T' := G.T
  k_lt l1
  clear hl hL hgL C' da db
  walk_at "g2"
  rename Fr _ _ _ _ => F1
  rename News _ _ _ _ => N1
  have R1 := G.rep F1 N1 (by walk_at "h") (by walk_at "H")
  obtain ⟨xs, hx, _⟩ := (R1.ro a ha).cm
  refine dictMethod_H hx ?_
  walk_at "g2"
  refine cond_get (R1.ro a ha).cm (R1.sm ha cm_ds) (roomU hu) (tup2 (N1.get (.head _))) fun tk' => ?_
  exact h _ R1 (G.post F1 N1 (fun p hp => .inl (by revert p; walk_at "h")) (by walk_at "H") rfl rfl id)
theorem role_get_prm {a b : Fin 5} {dm : Fin 3} {td : Nat} {Q : Value → Shared → Prop} (C : Cx w mg mb base outer g) (Z : Stand w g A σ s) (hd : d + 3 < recursionLimit) (hu : u + 8 < cLine) (ha : a ∈ σ.ns) (hb : b ∈ σ.ns)
  (h : ∀ s' l its k, Rep w A σ s'.heap → Post [] s s' → s'.heap.get? l = some (listOf its k) → ItemsAre (PySem.strKind pw_ae0023_01 w) (wordsOf (σ.prm a b dm)) its.toList → s.heap.get? l = none → Q (.ref l) s') :
  wpAny (model pw_ae0023_01 w) (Ar d outer gs u) (call (.ref 851) [.ref (A.r a).a, .ref (A.r b).a, .str (domS dm) td]) Q E s := by
  walk_at "f"
  refine Ob11 ((Z.R.ro a ha).dO) fun t1T da => ?_
  refine Ob11 ((Z.R.ro b hb).dO) fun t1T' db => ?_
  have hl : ∀ p ∈ [((A.r a).a, instObj 854 (A.r a).dx), ((A.r a).dx, roleO w A a t1T), ((A.r b).a, instObj 854 (A.r b).dx), ((A.r b).dx, roleO w A b t1T')], s.heap.get? p.1 = some p.2 ∧ g.get? p.1 = none := allCons ⟨(Z.R.ro a ha).i, off_of Z (foot_a ha)⟩ (allCons ⟨da, off_of Z (foot_dx ha)⟩ (allCons ⟨(Z.R.ro b hb).i, off_of Z (foot_a hb)⟩ (allCons ⟨db, off_of Z (foot_dx hb)⟩ allNil)))
  obtain ⟨xs, hx, _, hv⟩ := (Z.R.ro a ha).pm
  replace hv := hv b dm
  refine wpAny_call ?_
  refine' enter_def C Z.hg hl ?k6 ?k7 (room0 hd) ?k9 ?kB ?_ ?c2 ?c3 ?c4 ?c5
  walk_at "e"
  intro L' h' hL hgL F' N' C' l1
  refine hideE fun E9 => ?_
  have G := Grd.enter [] C Z hl hL hgL C'
  have X' := G.X
  have T' := G.T
  k_lt l1
  clear hl hgL C' da db
  walk_at "g2"
  rename Fr _ _ _ _ => F1
  rename News _ _ _ _ => N1
  have hx1 := (G.kept F1 N1 (by walk_at "h") (by walk_at "H")).dictH G.Ld (fun q => G.Lh (by rw [← List.mem_singleton.mp q]; exact List.mem_cons_of_mem _ (List.mem_cons_of_mem _ (foot_pm ha)))) hx
  refine dictMethod_H hx1 ?_
  walk_at "g2"
  refine dict_get_H hx1 (G.Z.R.sm ha pm_ds) (roomU hu) (tup2 (N1.get (.head _))) (fun tk' => ?_)
  revert hv h
  cases hp : σ.prm a b dm with
  | none =>
    intro h hv
    rw [show atKey xs [nmS b, domS dm] = none from hv]
    clear hv hx1 hx
    dsimp only [Option.map_none, Option.getD_none]
    walk_at "g2"
    rename Fr _ _ _ _ => F2
    rename News _ _ _ _ => N2
    exact h _ _ _ _ (G.rep F2 N2 (by walk_at "h") (by walk_at "H")) (G.post F2 N2 (fun p hp => .inl (by revert p; walk_at "h")) (by walk_at "H") rfl rfl id) (N2.get (.head _)) .nil (G.new N2 (.head _) (by simp; omega) (by simp)).2
  | some r =>
    rintro h ⟨kk, tp, e1, ht⟩
    rw [e1]
    clear e1 hx1 hx
    dsimp only [Option.map_some, Option.getD_some]
    walk_at "g2"
    rename Fr _ _ _ _ => F2
    rename News _ _ _ _ => N2
    obtain ⟨its, hit, hi⟩ := isTup_of ((G.kept F2 N2 (by walk_at "h") (by walk_at "H")).tup G.Ld ht)
    refine list_copyKT F2 N2 hit (fun D c h' F3 N3 l3 => ?_) ?_
    · k_lt l3
      exact h _ _ _ _ (G.rep F3 N3 (by walk_at "h") (by walk_at "H")) (G.post F3 N3 (fun p hp => .inl (by revert p; walk_at "h")) (by walk_at "H") rfl rfl id) (N3.get (.head _)) hi (G.new N3 (.head _) (by simp; omega) (by simp)).2
    · rw [← Array.length_toList, ← hi.length]
      exact len_row r
end
end
section
section
variable {w : World} {mg mb : PySem.Str → Option Value} {base g : Heap} {outer : List Env} {d u : Nat} {gs : Option (List Code)} {E : Value → Shared → Prop} {s : Shared} {A : AD} {σ : SS}
theorem role_set_cond {a b : Fin 5} {dm f : Fin 3} {td : Nat} {Q : Value → Shared → Prop} (C : Cx w mg mb base outer g) (Z : Stand w g A σ s) (hd : d + 3 < recursionLimit) (hu : u + 8 < cLine) (ha : a ∈ σ.ns) (hb : b ∈ σ.ns)
  (h : ∀ s', Rep w A (σ.setC a b dm f) s'.heap → Post [(A.r a).cm] s s' → Q .none s') :
  wpAny (model pw_ae0023_01 w) (Ar d outer gs u) (call (.ref 830) [.ref (A.r a).a, .ref (A.r b).a, .str (domS dm) td, .ref (condF f)]) Q E s := by
  walk_at "f"
  refine Ob11 ((Z.R.ro a ha).dO) fun t1T da => ?_
  refine Ob11 ((Z.R.ro b hb).dO) fun t1T' db => ?_
  have hl : ∀ p ∈ [((A.r a).a, instObj 854 (A.r a).dx), ((A.r a).dx, roleO w A a t1T), ((A.r b).a, instObj 854 (A.r b).dx), ((A.r b).dx, roleO w A b t1T')], s.heap.get? p.1 = some p.2 ∧ g.get? p.1 = none := allCons ⟨(Z.R.ro a ha).i, off_of Z (foot_a ha)⟩ (allCons ⟨da, off_of Z (foot_dx ha)⟩ (allCons ⟨(Z.R.ro b hb).i, off_of Z (foot_a hb)⟩ (allCons ⟨db, off_of Z (foot_dx hb)⟩ allNil)))
  refine wpAny_call ?_
  refine' enter_def C Z.hg hl ?k6 ?k7 (room0 hd) ?k9 ?kB ?_ ?c2 ?c3 ?c4 ?c5
  walk_at "e"
  intro L' h' hL hgL F' N' C' l1
  refine hideE fun E9 => ?_
  have G := Grd.enter [(A.r a).cm] C Z hl hL hgL C'
  have X' := G.X
  have T' := G.T
  k_lt l1
  clear hl hL hgL C' da db
  walk_at "g3"
  rename Fr _ _ _ _ => F1
  rename News _ _ _ _ => N1
  refine setItem_cond (G.rep F1 N1 (by walk_at "h") (by walk_at "H")) ha (roomU hu) (tup2 (N1.get (.head _))) (fun h2 tk' R2 p2 => ?_)
  walk_at "g3"
  refine h _ R2 (Post.trans' ?_ p2 fun x hx => .inl hx)
  exact G.post F1 N1 (fun p hp => .inl (by revert p; walk_at "h")) (by walk_at "H") rfl rfl id
theorem role_set_prm {a b : Fin 5} {dm : Fin 3} {r : Fin 7} {ws : List Value} {td : Nat} {Q : Value → Shared → Prop} (C : Cx w mg mb base outer g) (Z : Stand w g A σ s) (hd : d + 3 < recursionLimit) (hu : u + 8 < cLine) (ha : a ∈ σ.ns) (hb : b ∈ σ.ns)
  (hw : ItemsAre (PySem.strKind pw_ae0023_01 w) (rowS r) ws)
  (h : ∀ s', Rep w A (σ.setP a b dm r) s'.heap → Post [(A.r a).pm] s s' → Q .none s') :
  codeAny (model pw_ae0023_01 w) (Ar d outer gs u) (.call (.ref 844) ⟨.ref (A.r a).a :: .ref (A.r b).a :: .str (domS dm) td :: ws, []⟩) (fun r s' => match r with | .ok (.ret v) => Q v s' | .ok _ => False | .error e => E e s') s := by
  walk_at "f"
  refine Ob11 ((Z.R.ro a ha).dO) fun t1T da => ?_
  refine Ob11 ((Z.R.ro b hb).dO) fun t1T' db => ?_
  have hl : ∀ p ∈ [((A.r a).a, instObj 854 (A.r a).dx), ((A.r a).dx, roleO w A a t1T), ((A.r b).a, instObj 854 (A.r b).dx), ((A.r b).dx, roleO w A b t1T')], s.heap.get? p.1 = some p.2 ∧ g.get? p.1 = none := allCons ⟨(Z.R.ro a ha).i, off_of Z (foot_a ha)⟩ (allCons ⟨da, off_of Z (foot_dx ha)⟩ (allCons ⟨(Z.R.ro b hb).i, off_of Z (foot_a hb)⟩ (allCons ⟨db, off_of Z (foot_dx hb)⟩ allNil)))
  have h3 : ws.length ≤ 3 := by rw [← hw.length]; exact len_row3 r
  refine' enter_rest (vs := ws) (g₁ := fun D => some [("self", .ref (A.r a).a), ("role", .ref (A.r b).a), ("domain", .str (domS dm) td), ("params", .ref D)]) C Z.hg hl ?k6 ?k7 (room0 hd) ?k9 (fun _ => rfl) ?kB ?_ ?c2 ?c3 ?c4 ?c5
  case k6 => k_dflt k_is
  case k7 => k_dflt k_is
  case k9 => k_dflt (rcases le3c h3 with rfl | ⟨_, rfl⟩ | ⟨_, _, rfl⟩ | ⟨_, _, _, rfl⟩ <;> rfl)
  case c5 => k_dflt decide
  case kB => k_dflt (exact fun _ => locs rfl)
  case c2 => exact rfl
  case c3 => exact rfl
  case c4 => exact rfl
  intro D' L' h' hD hL hgL F' N' C' l1 l2
  refine hideE fun E9 => ?_
  have G := Grd.enter [(A.r a).pm] C Z hl hL hgL C'
  have X' := G.X
  have T' := G.T
  k_lt l1
  k_lt l2
  clear hl hL hgL C' da db
  walk_at "g3"
  rename Fr _ _ _ _ => F1
  rename News _ _ _ _ => N1
  refine setItem_prm (r := r) (G.rep F1 N1 (by walk_at "h") (by walk_at "H")) ha (roomU hu) (tup2 (N1.get (.head _))) ⟨_, _, _, N1.get (.tail _ (.head _)), rfl, rfl, hw⟩ (fun h2 tk' R2 p2 => ?_)
  walk_at "g3"
  refine h _ R2 (Post.trans' ?_ p2 fun x hx => .inl hx)
  exact G.post F1 N1 (fun p hp => .inl (by revert p; walk_at "h")) (by walk_at "H") rfl rfl id
end
end
section
section
variable {w : World} {mg mb : PySem.Str → Option Value} {base g : Heap} {outer : List Env} {d u : Nat} {gs : Option (List Code)} {E : Value → Shared → Prop} {s : Shared} {A : AD} {σ : SS}
theorem role_add_user {a b : Fin 5} {xa xb : Addr} {Q : Value → Shared → Prop} (C : Cx w mg mb base outer g) (Z : Stand w g A σ s) (hd : d + 3 < recursionLimit) (hu : u + 8 < cLine) (ha : a ∈ σ.ns) (hb : b ∈ σ.ns) (exa : (A.r a).a = xa) (exb : (A.r b).a = xb)
  (h : ∀ l s', Rep w (A.set b { A.r b with ul := l }) σ s'.heap → s.heap.get? l = none → Post [(A.r b).dx] s s' → Q .none s') :
  wpAny (model pw_ae0023_01 w) (Ar d outer gs u) (call (.ref 790) [.ref xb, .ref xa]) Q E s := by
  subst exa exb
  walk_at "f"
  refine Ob11 ((Z.R.ro b hb).dO) fun t1T db => ?_
  refine Ob23 ((Z.R.ro b hb).ul) fun inn ku ul u1 u2 => ?_
  have hl : ∀ p ∈ [((A.r b).a, instObj 854 (A.r b).dx), ((A.r b).dx, roleO w A b t1T), ((A.r b).ul, listOf (refs A inn) ku)], s.heap.get? p.1 = some p.2 ∧ g.get? p.1 = none := by
    simp [db, ul, (Z.R.ro b hb).i, off_of Z (foot_a hb), off_of Z (foot_dx hb), off_of Z (foot_ul hb)]
  have q1 : @Ne Nat (A.r b).dx (A.r b).a := (Z.R.apart hb dx_ds).2.2.2.2.2.1
  have q3 : @Ne Nat (A.r b).dx (A.r b).ul := (Z.R.apart hb dx_ds).2.2.2.2.2.2.2
  refine wpAny_call ?_
  refine' enter_defC C Z.hg hl ?k6 ?k7 (room0 hd) ?k9 ?kB ?kD ?_ ?c2 ?c3 ?c4
  ((case k6 => k_dflt k_is); (case k7 => k_dflt k_is); (case k9 => k_dflt (exact BindsTo.of_eq rfl)); (case kB => k_dflt (exact rfl)); (case kD => k_dflt (decide +kernel)); (case c2 => exact rfl); (case c3 => exact rfl); (case c4 => exact rfl))
  intro L' h' tk' cells' hL hgL F' N' Y' C' l1
  refine hideE fun E9 => ?_
  have G := Grd.enter [(A.r b).dx] C Z hl hL hgL C'
  have X' := G.X
  have T' := G.T
  k_lt l1
  k_cells Y'
  dsimp only [List.cons_append, List.nil_append] at N'
  clear hl hL hgL C' db ul
  walk_at "g3"
  refine lc_filter (cl := [("user", L' + 1)]) (fun v => decide (v ≠ .ref (A.r a).a)) rfl (by with_unfolding_all rfl) (by decide) rfl (by decide) rfl (by decide) ?_
  walk_at "g3"
  rename Fr _ _ _ _ => F1
  rename News _ _ _ _ => N1
  rename Obj.data _ = Data.cell _ => hcd
  have R1 := G.rep F1 N1 (by walk_at "h") (by walk_at "H")
  refine ⟨_, _, rfl, ⟨_, N1.get (.tail _ (.tail _ (.tail _ (.head _)))), rfl, _, rfl⟩, ?sz, fun C v s₂ m₂ E' hC hv hn hm hk => ?_, fun D h2 tk2 n2 hk hD e => ?_⟩
  case sz => simp only [List.size_toArray, List.length_map]; exact Nat.le_trans (len_fin u1) (by decide)
  · simp only [List.mem_map] at hv
    obtain ⟨x, hx, rfl⟩ := hv
    refine isnot_test rfl rfl (by decide) (by decide) (by with_unfolding_all rfl) rfl ⟨_, hk _ _ (N1.get (.head _)), hcd⟩ hn hm (hk _ _ (R1.ro x (u2 x hx)).i) (hk _ _ (R1.ro a ha).i) (by intro q; cases q) ⟨?_, ?_⟩
    · simp
    · exact ⟨_, _, rfl, fun _ _ e => e⟩
  · obtain ⟨F2, N2, ne2⟩ := news_add F1 N1 hk hD e
    simp only [List.forall_mem_cons] at ne2
    clear F1 N1 hk hD e R1
    repeat ((fail_if_success (with_reducible show wpAny _ _ (binaryOp _ (Value.ref _) (Value.ref _)) _ _ _)); walk_at "w")
    rename Fr _ _ _ _ => F3
    rename News _ _ _ _ => N3
    refine kmk_add_lit (zs := (refs A (inn.filter (fun x => decide (x ≠ a)) ++ [a])).toList) F3 N3 ⟨_, N3.get (.tail _ (.head _)), rfl, _, rfl⟩ ⟨_, N3.get (.head _), rfl, _, rfl⟩ ?e (fun D2 h3 F4 N4 l4 => ?_) ?z
    case e => rw [filt_refs G.Z.R ha u2]; simp [refs]
    case z => rw [filt_refs G.Z.R ha u2]; simp only [List.length_map]; exact Nat.le_trans (Nat.add_le_add_right (Nat.le_trans (List.length_filter_le _ _) (len_fin u1)) 1) (by decide)
    k_lt l4
    clear F3 N3
    walk_at "g3"
    rename Fr _ _ _ _ => F5
    rename News _ _ _ _ => N5
    have hn2 : s.heap.get? D2 = none := (G.new N5 (mAt 0 rfl) (by first | exact allCons (Nat.ne_of_lt l4.2.2.2.1) (allCons (Nat.ne_of_lt l4.2.2.2.2.1) (allCons (Nat.ne_of_lt l4.2.2.2.2.2) allNil)) | (simp; omega)) (by simp)).2
    refine h D2 _ (Rep.modUl (inn := inn.filter (fun x => decide (x ≠ a)) ++ [a]) Z.R hb (G.keptE F5 N5 ?k1 (by simp)) (N5.get (mAt 5 rfl)) (N5.get (mAt 0 rfl)) hn2 (nodup_snoc u1) ?k2) hn2 (G.post F5 N5 ?k3 (by simp) rfl rfl id)
    case k1 =>
      exact allCons (.inl (mAt 4 rfl)) (allCons (.inr (List.mem_cons_self)) (allCons (.inl (mAt 6 rfl)) allNil))
    case k2 =>
      intro x hx
      rcases List.mem_append.mp hx with hx | hx
      · exact u2 x (List.mem_filter.mp hx).1
      · rw [List.mem_singleton.mp hx]; exact ha
    case k3 =>
      exact allCons (.inl (mAt 4 rfl)) (allCons (.inr ⟨List.mem_cons_self, _, mAt 5 rfl⟩) (allCons (.inl (mAt 6 rfl)) allNil))
theorem role_remove_user {a b : Fin 5} {xa xb : Addr} {Q : Value → Shared → Prop} (C : Cx w mg mb base outer g) (Z : Stand w g A σ s) (hd : d + 3 < recursionLimit) (hu : u + 8 < cLine) (ha : a ∈ σ.ns) (hb : b ∈ σ.ns) (exa : (A.r a).a = xa) (exb : (A.r b).a = xb)
  (h : ∀ l s', Rep w (A.set b { A.r b with ul := l }) σ s'.heap → s.heap.get? l = none → Post [(A.r b).dx] s s' → Q .none s') :
  wpAny (model pw_ae0023_01 w) (Ar d outer gs u) (call (.ref 795) [.ref xb, .ref xa]) Q E s := by
  subst exa exb
  walk_at "f"
  refine Ob11 ((Z.R.ro b hb).dO) fun t1T db => ?_
  refine Ob23 ((Z.R.ro b hb).ul) fun inn ku ul u1 u2 => ?_
  have hl : ∀ p ∈ [((A.r b).a, instObj 854 (A.r b).dx), ((A.r b).dx, roleO w A b t1T), ((A.r b).ul, listOf (refs A inn) ku)], s.heap.get? p.1 = some p.2 ∧ g.get? p.1 = none := by
    simp [db, ul, (Z.R.ro b hb).i, off_of Z (foot_a hb), off_of Z (foot_dx hb), off_of Z (foot_ul hb)]
  have q1 : @Ne Nat (A.r b).dx (A.r b).a := (Z.R.apart hb dx_ds).2.2.2.2.2.1
  have q3 : @Ne Nat (A.r b).dx (A.r b).ul := (Z.R.apart hb dx_ds).2.2.2.2.2.2.2
  refine wpAny_call ?_
  refine' enter_defC C Z.hg hl ?k6 ?k7 (room0 hd) ?k9 ?kB ?kD ?_ ?c2 ?c3 ?c4
  ((case k6 => k_dflt k_is); (case k7 => k_dflt k_is); (case k9 => k_dflt (exact BindsTo.of_eq rfl)); (case kB => k_dflt (exact rfl)); (case kD => k_dflt (decide +kernel)); (case c2 => exact rfl); (case c3 => exact rfl); (case c4 => exact rfl))
  intro L' h' tk' cells' hL hgL F' N' Y' C' l1
  refine hideE fun E9 => ?_
  have G := Grd.enter [(A.r b).dx] C Z hl hL hgL C'
  have X' := G.X
  have T' := G.T
  k_lt l1
  k_cells Y'
  dsimp only [List.cons_append, List.nil_append] at N'
  clear hl hL hgL C' db ul
  walk_at "g3"
  refine lc_filter (cl := [("user", L' + 1)]) (fun v => decide (v ≠ .ref (A.r a).a)) rfl (by with_unfolding_all rfl) (by decide) rfl (by decide) rfl (by decide) ?_
  walk_at "g3"
  rename Fr _ _ _ _ => F1
  rename News _ _ _ _ => N1
  rename Obj.data _ = Data.cell _ => hcd
  have R1 := G.rep F1 N1 (by walk_at "h") (by walk_at "H")
  refine ⟨_, _, rfl, ⟨_, N1.get (.tail _ (.tail _ (.tail _ (.head _)))), rfl, _, rfl⟩, ?sz, fun C v s₂ m₂ E' hC hv hn hm hk => ?_, fun D h2 tk2 n2 hk hD e => ?_⟩
  case sz => simp only [List.size_toArray, List.length_map]; exact Nat.le_trans (len_fin u1) (by decide)
  · simp only [List.mem_map] at hv
    obtain ⟨x, hx, rfl⟩ := hv
    refine isnot_test rfl rfl (by decide) (by decide) (by with_unfolding_all rfl) rfl ⟨_, hk _ _ (N1.get (.head _)), hcd⟩ hn hm (hk _ _ (R1.ro x (u2 x hx)).i) (hk _ _ (R1.ro a ha).i) (by intro q; cases q) ⟨?_, ?_⟩
    · simp
    · exact ⟨_, _, rfl, fun _ _ e => e⟩
  · obtain ⟨F2, N2, ne2⟩ := news_add F1 N1 hk hD e
    simp only [List.forall_mem_cons] at ne2
    clear F1 N1 hk hD e R1
    walk_at "g3"
    rename Fr _ _ _ _ => F5
    rename News _ _ _ _ => N5
    have hn2 : s.heap.get? D = none := (G.new N5 (mAt 0 rfl) (by first | exact allCons ne2.2.1 (allCons ne2.2.2.1 (allCons ne2.2.2.2.1 allNil)) | (simp; omega)) (by simp)).2
    refine h D _ (Rep.modUl (inn := inn.filter (fun x => decide (x ≠ a))) Z.R hb (G.keptE F5 N5 ?k1 (by simp)) (N5.get (mAt 3 rfl)) ((N5.get (mAt 0 rfl)).trans (by rw [filt_refs G.Z.R ha u2])) hn2 (u1.filter _) ?k2) hn2 (G.post F5 N5 ?k3 (by simp) rfl rfl id)
    case k1 =>
      exact allCons (.inl (mAt 2 rfl)) (allCons (.inr (List.mem_cons_self)) (allCons (.inl (mAt 4 rfl)) allNil))
    case k2 =>
      intro x hx
      exact u2 x (List.mem_filter.mp hx).1
    case k3 =>
      exact allCons (.inl (mAt 2 rfl)) (allCons (.inr ⟨List.mem_cons_self, _, mAt 3 rfl⟩) (allCons (.inl (mAt 4 rfl)) allNil))
end
end
section
section
variable {w : World} {mg mb : PySem.Str → Option Value} {base g : Heap} {outer : List Env} {d u : Nat} {gs : Option (List Code)} {E : Value → Shared → Prop} {s : Shared} {A : AD} {σ : SS}
theorem role_add_role {a b : Fin 5} {xa xb : Addr} {Q : Value → Shared → Prop} (C : Cx w mg mb base outer g) (Z : Stand w g A σ s) (hd : d + 6 < recursionLimit) (hu : u + 16 < cLine) (ha : a ∈ σ.ns) (hb : b ∈ σ.ns) (exa : (A.r a).a = xa) (exb : (A.r b).a = xb)
  (h : ∀ A' s', Rep w A' (σ.setO a ((σ.out a).filter (fun x => decide (x ≠ b)) ++ [b])) s'.heap → Step A σ s A' (σ.setO a ((σ.out a).filter (fun x => decide (x ≠ b)) ++ [b])) s' → Q .none s') :
  wpAny (model pw_ae0023_01 w) (Ar d outer gs u) (call (.ref 780) [.ref xa, .ref xb]) Q E s := by
  subst exa exb
  walk_at "f"
  refine Ob11 ((Z.R.ro a ha).dO) fun t1T da => ?_
  refine Ob11 ((Z.R.ro a ha).rl) fun ku rl => ?_
  have u1 := (Z.R.ro a ha).on
  have u2 := (Z.R.ro a ha).os
  have hl : ∀ p ∈ [((A.r a).a, instObj 854 (A.r a).dx), ((A.r a).dx, roleO w A a t1T), ((A.r a).rl, listOf (refs A (σ.out a)) ku)], s.heap.get? p.1 = some p.2 ∧ g.get? p.1 = none := by
    simp [da, rl, (Z.R.ro a ha).i, off_of Z (foot_a ha), off_of Z (foot_dx ha), off_of Z (foot_rl ha)]
  have q1 : @Ne Nat (A.r a).dx (A.r a).a := (Z.R.apart ha dx_ds).2.2.2.2.2.1
  have q3 : @Ne Nat (A.r a).dx (A.r a).rl := (Z.R.apart ha dx_ds).2.2.2.2.2.2.1
  refine wpAny_call ?_
  refine' enter_defC C Z.hg hl ?k6 ?k7 (room0 hd) ?k9 ?kB ?kD ?_ ?c2 ?c3 ?c4
  ((case k6 => k_dflt k_is); (case k7 => k_dflt k_is); (case k9 => k_dflt (exact BindsTo.of_eq rfl)); (case kB => k_dflt (exact rfl)); (case kD => k_dflt (decide +kernel)); (case c2 => exact rfl); (case c3 => exact rfl); (case c4 => exact rfl))
  intro L' h' tk' cells' hL hgL F' N' Y' C' l1
  refine hideE fun E9 => ?_
  have G := Grd.enter (A.hid σ.ns) C Z hl hL hgL C'
  have X' := G.X
  have T' := G.T
  k_lt l1
  k_cells Y'
  dsimp only [List.cons_append, List.nil_append] at N'
  clear hl hL hgL C' da rl
  walk_at "g3"
  refine lc_filter (cl := [("role", L' + 1)]) (fun v => decide (v ≠ .ref (A.r b).a)) rfl (by with_unfolding_all rfl) (by decide) rfl (by decide) rfl (by decide) ?_
  walk_at "g3"
  rename Fr _ _ _ _ => F1
  rename News _ _ _ _ => N1
  rename Obj.data _ = Data.cell _ => hcd
  have R1 := G.rep F1 N1 (by walk_at "h") (by walk_at "H")
  refine ⟨_, _, rfl, ⟨_, N1.get (.tail _ (.tail _ (.tail _ (.head _)))), rfl, _, rfl⟩, ?sz, fun C v s₂ m₂ E' hC hv hn hm hk => ?_, fun D h2 tk2 n2 hk hD e => ?_⟩
  case sz => simp only [List.size_toArray, List.length_map]; exact Nat.le_trans (len_fin u1) (by decide)
  · simp only [List.mem_map] at hv
    obtain ⟨x, hx, rfl⟩ := hv
    refine isnot_test rfl rfl (by decide) (by decide) (by with_unfolding_all rfl) rfl ⟨_, hk _ _ (N1.get (.head _)), hcd⟩ hn hm (hk _ _ (R1.ro x (u2 x hx)).i) (hk _ _ (R1.ro b hb).i) (by intro q; cases q) ⟨?_, ?_⟩
    · simp
    · exact ⟨_, _, rfl, fun _ _ e => e⟩
  · obtain ⟨F2, N2, ne2⟩ := news_add F1 N1 hk hD e
    simp only [List.forall_mem_cons] at ne2
    clear F1 N1 hk hD e R1
    repeat ((fail_if_success (with_reducible show wpAny _ _ (binaryOp _ (Value.ref _) (Value.ref _)) _ _ _)); walk_at "w")
    rename Fr _ _ _ _ => F3
    rename News _ _ _ _ => N3
    refine kmk_add_lit (zs := (refs A ((σ.out a).filter (fun x => decide (x ≠ b)) ++ [b])).toList) F3 N3 ⟨_, N3.get (.tail _ (.head _)), rfl, _, rfl⟩ ⟨_, N3.get (.head _), rfl, _, rfl⟩ ?e (fun D2 h3 F4 N4 l4 => ?_) ?z
    case e => rw [filt_refs G.Z.R hb u2]; simp [refs]
    case z => rw [filt_refs G.Z.R hb u2]; simp only [List.length_map]; exact Nat.le_trans (Nat.add_le_add_right (Nat.le_trans (List.length_filter_le _ _) (len_fin u1)) 1) (by decide)
    k_lt l4
    clear F3 N3
    repeat ((fail_if_success (with_reducible show wpAny _ _ (execs _ _) _ _ _)); first | walk1 | (dsimp only; walk1))
    rename Fr _ _ _ _ => F5
    rename News _ _ _ _ => N5
    have hn2 : s.heap.get? D2 = none := (G.new N5 (mAt 0 rfl) (by first | exact allCons (Nat.ne_of_lt l4.2.2.2.1) (allCons (Nat.ne_of_lt l4.2.2.2.2.1) (allCons (Nat.ne_of_lt l4.2.2.2.2.2) allNil)) | (simp; omega)) (by simp)).2
    have R5 := Rep.modRl (o := (σ.out a).filter (fun x => decide (x ≠ b)) ++ [b]) Z.R ha (G.keptE F5 N5 ?k1 (by simp)) (N5.get (mAt 5 rfl)) (N5.get (mAt 0 rfl)) hn2 (nodup_snoc u1) ?k2
    case k1 =>
      exact allCons (.inl (mAt 4 rfl)) (allCons (.inr (List.mem_cons_self)) (allCons (.inl (mAt 6 rfl)) allNil))
    case k2 =>
      intro x hx
      rcases List.mem_append.mp hx with hx | hx
      · exact u2 x (List.mem_filter.mp hx).1
      · rw [List.mem_singleton.mp hx]; exact hb
    refine Ob11 ((R5.ro b hb).dO) fun t1T' db => ?_
    have ib := (R5.ro b hb).i
    rw [set_rl_a] at ib
    rename Obj => oc
    have hL2 : D2 ≠ L' := (N5 _ (mAt 0 rfl)).2.1
    have TT := G.turn (s := { s with heap := _ }) F5 N5 ?k3 (by simp) rfl rfl rfl ?k4 R5 [(L' + 1, oc), ((A.r b).a, instObj 854 ((A.set a { A.r a with rl := D2 }).r b).dx), (((A.set a { A.r a with rl := D2 }).r b).dx, roleO w (A.set a { A.r a with rl := D2 }) b t1T')] ?k5
    case k3 =>
      exact allCons (.inl (mAt 4 rfl)) (allCons (.inr ⟨hid_foot (foot_dx ha), _, mAt 5 rfl⟩) (allCons (.inl (mAt 6 rfl)) allNil))
    case k4 =>
      intro x hx
      rcases foot_set (r' := { A.r a with rl := D2 }) ha ⟨rfl, rfl, rfl, rfl⟩ hx with q | q | q
      · exact .inl q
      · exact .inr (by rw [q]; exact ⟨hL2, hn2⟩)
      · exact .inl (by rw [q]; exact foot_ul ha)
    case k5 =>
      exact allCons (⟨N5.get (mAt 3 rfl), .inr (G.priv N5 (mAt 3 rfl))⟩) (allCons (⟨ib, .inl (by rw [← set_rl_a (A := A) (a := a) (l := D2)]; exact foot_a hb)⟩) (allCons (⟨db, .inl (foot_dx hb)⟩) allNil))
    refine Ob23 (TT) fun h₂ tl₂ G₂ F₂ N₂ => ?_
    clear F5 N5 R5 db ib X' T' ne2 l4 l1 q1 q3
    have X' := G₂.X
    have T' := G₂.T
    dsimp only [List.cons_append, List.nil_append] at N₂
    walk_at "g3"
    rename Fr _ _ _ _ => F6
    rename News _ _ _ _ => N6
    refine role_add_user (G₂.cx F6 N6 (fun p hp => List.mem_append_left tl₂ hp) (fun p hp => .tail _ (.tail _ (.tail _ hp))) ?c1 ?c2) (G₂.st F6 N6 (fun p hp => List.mem_append_left tl₂ hp) (fun p hp => .tail _ (.tail _ (.tail _ hp))) rfl) (roomD hd) (roomU hu) ha hb set_rl_a set_rl_a (fun l s₂ R2 hl2 p2 => ?_)
    case c1 => rfl
    case c2 => rfl
    walk_at "g3"
    exact h _ _ R2 (step_two ha hb rfl hn2 hl2 (G₂.post F6 N6 (fun p hp => .inl (List.mem_append_left tl₂ hp)) (fun p hp => .tail _ (.tail _ (.tail _ hp))) rfl rfl id) p2)
end
end
section
local macro_rules | `(tactic| k_all) => `(tactic| assumption)
section
variable {w : World} {mg mb : PySem.Str → Option Value} {base g : Heap} {outer : List Env} {d u : Nat} {gs : Option (List Code)} {E : Value → Shared → Prop} {s : Shared} {A : AD} {σ : SS}
theorem role_remove_role {a b : Fin 5} {xa xb : Addr} {Q : Value → Shared → Prop} (C : Cx w mg mb base outer g) (Z : Stand w g A σ s) (hd : d + 6 < recursionLimit) (hu : u + 16 < cLine) (ha : a ∈ σ.ns) (hb : b ∈ σ.ns) (hin : b ∈ σ.out a) (exa : (A.r a).a = xa) (exb : (A.r b).a = xb)
  (h : ∀ A' s', Rep w A' (σ.setO a ((σ.out a).filter (fun x => decide (x ≠ b)))) s'.heap → Step A σ s A' (σ.setO a ((σ.out a).filter (fun x => decide (x ≠ b)))) s' → Q .none s') :
  wpAny (model pw_ae0023_01 w) (Ar d outer gs u) (call (.ref 785) [.ref xa, .ref xb]) Q E s := by
  subst exa exb
  walk_at "f"
  refine Ob11 ((Z.R.ro a ha).dO) fun t1T da => ?_
  refine Ob11 ((Z.R.ro a ha).rl) fun ku rl => ?_
  have u1 := (Z.R.ro a ha).on
  have u2 := (Z.R.ro a ha).os
  have hl : ∀ p ∈ [((A.r a).a, instObj 854 (A.r a).dx), ((A.r a).dx, roleO w A a t1T), ((A.r a).rl, listOf (refs A (σ.out a)) ku)], s.heap.get? p.1 = some p.2 ∧ g.get? p.1 = none := by
    simp [da, rl, (Z.R.ro a ha).i, off_of Z (foot_a ha), off_of Z (foot_dx ha), off_of Z (foot_rl ha)]
  have q1 : @Ne Nat (A.r a).dx (A.r a).a := (Z.R.apart ha dx_ds).2.2.2.2.2.1
  have q3 : @Ne Nat (A.r a).dx (A.r a).rl := (Z.R.apart ha dx_ds).2.2.2.2.2.2.1
  refine wpAny_call ?_
  refine' enter_defC C Z.hg hl ?k6 ?k7 (room0 hd) ?k9 ?kB ?kD ?_ ?c2 ?c3 ?c4
  ((case k6 => k_dflt k_is); (case k7 => k_dflt k_is); (case k9 => k_dflt (exact BindsTo.of_eq rfl)); (case kB => k_dflt (exact rfl)); (case kD => k_dflt (decide +kernel)); (case c2 => exact rfl); (case c3 => exact rfl); (case c4 => exact rfl))
  intro L' h' tk' cells' hL hgL F' N' Y' C' l1
  refine hideE fun E9 => ?_
  have G := Grd.enter (A.hid σ.ns) C Z hl hL hgL C'
  have X' := G.X
  have T' := G.T
  k_lt l1
  k_cells Y'
  dsimp only [List.cons_append, List.nil_append] at N'
  clear hl hL hgL C' da rl
  walk_at "g3"
  refine any_gen (mg := mg) (mb := mb) (cl := [("role", L' + 1)]) (c := 784) (P := 782) (fun v => decide (v = .ref (A.r b).a)) rfl rfl rfl rfl (by with_unfolding_all rfl) (by decide) rfl rfl rfl (by show d + 1 < recursionLimit; omega) (by decide) ?_ (fun _ => rfl)
  walk_at "g3"
  rename Fr _ _ _ _ => F1
  rename News _ _ _ _ => N1
  rename Obj.data _ = Data.cell _ => hcd
  rename Obj => oc
  have R1 := G.rep F1 N1 (by walk_at "h") (by walk_at "H")
  refine ⟨_, _, rfl, ⟨_, N1.get (mAt 3 rfl), rfl, _, rfl⟩, (R1.foot_far (foot_rl ha)).1, R1.t7, X'.keeps F1.keep, T'.keeps F1.keep, fun C code E' A' v s₂ m₂ hA hv hn hm hk => ?_, fun av s₅ hany => ?_⟩
  · simp only [List.mem_map] at hv
    obtain ⟨x, hx, rfl⟩ := hv
    have hc7 : @Ne Nat (L' + 1) 782 := fun q => ?_
    · refine is_elt rfl rfl (by decide) (by decide) (by decide) rfl rfl ⟨_, hk _ _ hc7 (N1.get (mAt 0 rfl)), hcd⟩ hn hm (hk _ _ (R1.foot_far (foot_a (u2 x hx))).1 (R1.ro x (u2 x hx)).i) (hk _ _ (R1.foot_far (foot_a hb)).1 (R1.ro b hb).i) (by intro q; cases q) ⟨?_, ?_⟩
      · simp
      · exact ⟨_, _, rfl, fun _ _ e => e⟩
    · refine Ob44 (TabOk.two R1.t7) fun o1 vs' op ps ho hd1 hop hpd => ?_
      have e := N1.get (mAt 0 rfl)
      rw [show L' + 1 = 782 from q, hop] at e
      cases e
      rw [hpd] at hcd; cases hcd
  walk_at "g3"
  refine hany _ _ (fun s₂ p₂ t₂ => ?_)
  have eb : ((refs A (σ.out a)).toList.any fun v => decide (v = .ref (A.r b).a)) = true := List.any_eq_true.mpr ⟨.ref (A.r b).a, List.mem_map.mpr ⟨b, hin, rfl⟩, by simp⟩
  rw [eb]
  have R2 : Rep w A σ s₂.heap := R1.grown7 p₂.keep t₂
  have TT := G.back (M' := [782]) F1 N1 (by walk_at "h") (by walk_at "H") p₂ rfl rfl rfl (fun x hx => .inl (by rw [List.mem_singleton.mp hx]; exact List.mem_cons_self)) (fun x hx => by rw [List.mem_singleton.mp hx]; exact List.mem_cons_self) (fun _ q => .inl q) R2
    [(L' + 1, oc), ((A.r a).a, instObj 854 (A.r a).dx), ((A.r a).dx, roleO w A a t1T), ((A.r a).rl, listOf (refs A (σ.out a)) ku)] ?k5
  case k5 =>
    have ff : ∀ {x : Addr}, x ∈ A.foot σ.ns → x ∉ [782] := fun hx q => (R1.foot_far hx).1 (List.mem_singleton.mp q)
    intro p hp
    simp only [List.mem_cons, List.not_mem_nil, or_false] at hp
    rcases hp with rfl | rfl | rfl | rfl
    · refine ⟨p₂.keep _ _ (N1.get (mAt 0 rfl)) fun q => ?_, .inr (G.priv N1 (mAt 0 rfl))⟩
      refine Ob44 (TabOk.two R1.t7) fun o1 vs' op ps ho hd1 hop hpd => ?_
      have e := N1.get (mAt 0 rfl)
      rw [show L' + 1 = 782 from List.mem_singleton.mp q, hop] at e
      cases e
      rw [hpd] at hcd; cases hcd
    · exact ⟨p₂.keep _ _ (N1.get (mAt 1 rfl)) (ff (foot_a ha)), .inl (foot_a ha)⟩
    · exact ⟨p₂.keep _ _ (N1.get (mAt 2 rfl)) (ff (foot_dx ha)), .inl (foot_dx ha)⟩
    · exact ⟨p₂.keep _ _ (N1.get (mAt 3 rfl)) (ff (foot_rl ha)), .inl (foot_rl ha)⟩
  refine Ob23 (TT) fun h₂ tl₂ G₂ F₂ N₂ => ?_
  clear F1 N1 R1 R2 X' T' hany eb t₂
  have X' := G₂.X
  have T' := G₂.T
  dsimp only [List.cons_append, List.nil_append] at N₂
  have htl : ∀ p ∈ tl₂, p.1 ≠ (A.r a).dx := fun p hp => G₂.tx p hp _ (mAt 2 rfl)
  walk_at "g3"
  refine lc_filter (cl := [("role", L' + 1)]) (fun v => decide (v ≠ .ref (A.r b).a)) rfl (by with_unfolding_all rfl) (by decide) rfl (by decide) rfl (by decide) ?_
  walk_at "g3"
  rename Fr _ _ _ _ => F1
  rename News _ _ _ _ => N1
  have R1 := G₂.rep F1 N1 (fun p hp => List.mem_append_left tl₂ hp) (fun p hp => .tail _ (.tail _ (.tail _ (.tail _ hp))))
  refine ⟨_, _, rfl, ⟨_, N1.get (mAt 3 rfl), rfl, _, rfl⟩, ?sz, fun C v s₂ m₂ E' hC hv hn hm hk => ?_, fun D h2 tk2 n2 hk hD e => ?_⟩
  case sz => simp only [List.size_toArray, List.length_map]; exact Nat.le_trans (len_fin u1) (by decide)
  · simp only [List.mem_map] at hv
    obtain ⟨x, hx, rfl⟩ := hv
    refine isnot_test rfl rfl (by decide) (by decide) (by with_unfolding_all rfl) rfl ⟨_, hk _ _ (N1.get (mAt 0 rfl)), hcd⟩ hn hm (hk _ _ (R1.ro x (u2 x hx)).i) (hk _ _ (R1.ro b hb).i) (by intro q; cases q) ⟨?_, ?_⟩
    · simp
    · exact ⟨_, _, rfl, fun _ _ e => e⟩
  · obtain ⟨F2, N2, ne2⟩ := news_add F1 N1 hk hD e
    simp only [List.forall_mem_cons] at ne2
    clear F1 N1 hk hD e R1
    repeat ((fail_if_success (with_reducible show wpAny _ _ (execs _ _) _ _ _)); first | walk1 | (dsimp only; walk1))
    dsimp only
    rename Fr _ _ _ _ => F5
    rename News _ _ _ _ => N5
    have hnn := G₂.new N5 (mAt 0 rfl) (by simp only [List.forall_mem_cons]; exact ⟨ne2.1, ne2.2.1, ne2.2.2.1, ne2.2.2.2.1, fun _ q => nomatch q⟩) ne2.2.2.2.2
    have hn2 : s.heap.get? D = none := hnn.2
    have R5 := Rep.modRl (o := (σ.out a).filter (fun x => decide (x ≠ b))) G₂.repH ha (G₂.keptH F5 N5 ?k6 ?k7) (N5.get (mAt 3 rfl)) ((N5.get (mAt 0 rfl)).trans (by rw [filt_refs G.Z.R hb u2])) (hid_none hnn.1) (u1.filter _) (fun x hx => u2 x (List.mem_filter.mp hx).1)
    case k6 =>
      exact allCons (.inl (mAt 1 rfl)) (allCons (.inl (mAt 2 rfl)) (allCons (.inr List.mem_cons_self) (allCons (.inl (mAt 4 rfl)) allNil)))
    case k7 => exact fun p hp => .tail _ (.tail _ (.tail _ (.tail _ (.tail _ hp))))
    refine Ob11 ((R5.ro b hb).dO) fun t1T' db => ?_
    have ib := (R5.ro b hb).i
    rw [set_rl_a] at ib
    have hL2 : D ≠ L' := (N5 _ (mAt 0 rfl)).2.1
    have TT := G₂.turn (s := { s₂ with heap := _ }) F5 N5 ?k8 (fun p hp => .tail _ (.tail _ (.tail _ (.tail _ (.tail _ hp))))) rfl rfl rfl ?k4 R5 [(L' + 1, oc), ((A.r b).a, instObj 854 ((A.set a { A.r a with rl := D }).r b).dx), (((A.set a { A.r a with rl := D }).r b).dx, roleO w (A.set a { A.r a with rl := D }) b t1T')] ?k5
    case k4 =>
      intro x hx
      rcases foot_set (r' := { A.r a with rl := D }) ha ⟨rfl, rfl, rfl, rfl⟩ hx with q | q | q
      · exact .inl q
      · exact .inr (by rw [q]; exact ⟨hL2, hnn.1⟩)
      · exact .inl (by rw [q]; exact foot_ul ha)
    case k5 =>
      exact allCons (⟨N5.get (mAt 1 rfl), .inr (G₂.priv N5 (mAt 1 rfl))⟩) (allCons (⟨ib, .inl (by rw [← set_rl_a (A := A) (a := a) (l := D)]; exact foot_a hb)⟩) (allCons (⟨db, .inl (foot_dx hb)⟩) allNil))
    case k8 =>
      exact allCons (.inl (mAt 1 rfl)) (allCons (.inl (mAt 2 rfl)) (allCons (.inr ⟨hid_foot (foot_dx ha), _, mAt 3 rfl⟩) (allCons (.inl (mAt 4 rfl)) allNil)))
    refine Ob23 (TT) fun h₃ tl₃ G₃ F₃ N₃ => ?_
    clear F5 N5 R5 db ib X' T' ne2 l1 q1 q3
    have X' := G₃.X
    have T' := G₃.T
    dsimp only [List.cons_append, List.nil_append] at N₃
    walk_at "g3"
    rename Fr _ _ _ _ => F6
    rename News _ _ _ _ => N6
    refine role_remove_user (G₃.cx F6 N6 (fun p hp => List.mem_append_left tl₃ hp) (fun p hp => .tail _ (.tail _ (.tail _ hp))) ?c1 ?c2) (G₃.st F6 N6 (fun p hp => List.mem_append_left tl₃ hp) (fun p hp => .tail _ (.tail _ (.tail _ hp))) rfl) (roomD hd) (roomU hu) ha hb set_rl_a set_rl_a (fun l s₂ R2 hl2 p2 => ?_)
    case c1 => rfl
    case c2 => rfl
    walk_at "g3"
    exact h _ _ R2 (step_two ha hb rfl hn2 hl2 (G₃.post F6 N6 (fun p hp => .inl (List.mem_append_left tl₃ hp)) (fun p hp => .tail _ (.tail _ (.tail _ hp))) rfl rfl id) p2)
end
end
local macro_rules | `(tactic| walk_at "call type:list nil nil") => `(tactic| (k_here; (refine' list0_N ?k1 ?k2 ?_; (case k1 => k_asm); (case k2 => k_asm); k_whole); intro l' h' F' N' l1; (try k_lt l1); (try k_sweep)))
local macro_rules | `(tactic| walk_at "call type:dict nil nil") => `(tactic| (k_here; (refine' dict0_N ?k1 ?k2 ?_; (case k1 => k_asm); (case k2 => k_asm); k_whole); intro l' h' F' N' l1; (try k_lt l1); (try k_sweep)))
section
section
variable {w : World} {mg mb : PySem.Str → Option Value} {base g : Heap} {outer : List Env} {d u : Nat} {gs : Option (List Code)} {E : Value → Shared → Prop} {s : Shared} {A : AD} {σ : SS}
theorem neA {a b : Nat} (h : @Ne Nat a b) : (a : Addr) ≠ b := h
theorem role_init {x dx : Addr} {nm : PySem.Str} {t : Nat} {R : Result → Shared → Prop} (C : Cx w mg mb base outer g) (hg : g.StaysIn s.heap) (hd : d + 6 < recursionLimit) (hu : u + 16 < cLine)
  (hx : s.heap.get? x = some (instObj 854 dx) ∧ g.get? x = none) (hdx : s.heap.get? dx = some (dictOf [] 0) ∧ g.get? dx = none) (hlt : @LT.lt Nat _ dx x)
  (h : ∀ rl ul cm pm s', Post [dx] s s' → s'.gens = s.gens → s'.heap.get? rl = some (listOf #[] 0) → s'.heap.get? ul = some (listOf #[] 0) → s'.heap.get? cm = some (dictOf [] 0) → s'.heap.get? pm = some (dictOf [] 0) →
    (∃ t1 t2 t3 t4 t5, s'.heap.get? dx = some (roleD w.params t1 t2 t3 t4 t5 (.str nm t) rl ul cm pm)) → (∀ y ∈ [rl, ul, cm, pm], s.heap.get? y = none ∧ @LT.lt Nat _ x y) → @Ne Nat cm pm → R (.ok (.ret .none)) s') :
  codeAny (model pw_ae0023_01 w) (Ar d outer gs u) (.call (.ref 775) ⟨[.ref x, .str nm t], []⟩) R s := by
  walk_at "f"
  have hl : ∀ p ∈ [(x, instObj 854 dx), (dx, dictOf [] 0)], s.heap.get? p.1 = some p.2 ∧ g.get? p.1 = none := by
    simp [hx, hdx]
  refine' enter_def C hg hl ?k6 ?k7 (room0 hd) ?k9 ?kB ?_ ?c2 ?c3 ?c4 ?c5
  walk_at "e"
  intro L' h' hL hgL F' N' C' l1
  refine hideE fun E9 => ?_
  have X' := C'.X
  have T' := C'.T
  k_lt l1
  clear hl hgL C'
  walk_at "g3"
  rename Fr _ _ _ _ => F5
  rename News _ _ _ _ => N5
  have fr : ∀ (y : Addr) (o : Obj), (restH s.heap [(x, instObj 854 dx), (dx, dictOf [] 0)]).get? y = none → y ≠ x → y ≠ dx → s.heap.get? y = none := fun y o z n1 n2 => by
    cases e : s.heap.get? y with
    | none => rfl
    | some o' => rw [show (restH s.heap [(x, instObj 854 dx), (dx, dictOf [] 0)]).get? y = some o' from hideAll_get _ e (by simp [n1, n2])] at z; cases z
  refine h _ _ _ _ _ ⟨fun b o e n => ?_, fun b o e => ?_, rfl, id⟩ rfl (N5.get (mAt 3 rfl)) (N5.get (mAt 2 rfl)) (N5.get (mAt 1 rfl)) (N5.get (mAt 0 rfl)) ⟨_, _, _, _, _, N5.get (mAt 5 rfl)⟩ (fun y hy => ?_) (by omega)
  · by_cases q1 : b = x
    · subst q1; rw [hx.1] at e; cases e; exact N5.get (mAt 4 rfl)
    · exact F5.keep b o (hideAll_get _ e (by simp only [List.map_cons, List.map_nil, List.mem_cons, List.not_mem_nil, or_false, not_or]; exact ⟨q1, fun q => n (List.mem_singleton.mpr q)⟩))
  · by_cases q1 : b = x
    · subst q1; exact ⟨_, N5.get (mAt 4 rfl)⟩
    · by_cases q2 : b = dx
      · subst q2; exact ⟨_, N5.get (mAt 5 rfl)⟩
      · exact ⟨o, F5.keep b o (hideAll_get _ e (by simp only [List.map_cons, List.map_nil, List.mem_cons, List.not_mem_nil, or_false, not_or]; exact ⟨q1, q2⟩))⟩
  · simp only [List.mem_cons, List.not_mem_nil, or_false] at hy
    rcases hy with rfl | rfl | rfl | rfl
    · exact ⟨fr _ default (N5 _ (mAt 3 rfl)).2.2 (neA (by omega)) (neA (by omega)), by omega⟩
    · exact ⟨fr _ default (N5 _ (mAt 2 rfl)).2.2 (neA (by omega)) (neA (by omega)), by omega⟩
    · exact ⟨fr _ default (N5 _ (mAt 1 rfl)).2.2 (neA (by omega)) (neA (by omega)), by omega⟩
    · exact ⟨fr _ default (N5 _ (mAt 0 rfl)).2.2 (neA (by omega)) (neA (by omega)), by omega⟩
end
end
section
section
variable {w : World} {mg mb : PySem.Str → Option Value} {base g : Heap} {outer : List Env} {d u : Nat} {gs : Option (List Code)} {E : Value → Shared → Prop} {s : Shared} {A : AD} {σ : SS}
theorem getRole_new {n : Fin 5} {t : Nat} {Q : Value → Shared → Prop} (C : Cx w mg mb base outer g) (Z : Stand w g A σ s) (hd : d + 12 < recursionLimit) (hu : u + 40 < cLine) (hn : n ∉ σ.ns)
  (h : ∀ A' s', Rep w A' (σ.add n) s'.heap → Step A σ s A' (σ.add n) s' → Q (.ref (A'.r n).a) s') :
  wpAny (model pw_ae0023_01 w) (Ar d outer gs u) (call (.ref 901) [.ref A.m, .str (nmS n) t]) Q E s := by
  walk_at "f"
  refine Ob11 (Z.R.mdO) fun t1T md => ?_
  obtain ⟨oa, esa, epa, ear, ra⟩ := Z.R.ar
  have hl : ∀ p ∈ [(A.m, instObj 1061 A.dm), (A.dm, mgrO w A σ t1T), (A.ar, oa)], s.heap.get? p.1 = some p.2 ∧ g.get? p.1 = none := allCons ⟨Z.R.mi, off_of Z foot_m⟩ (allCons ⟨md, off_of Z foot_dm⟩ (allCons ⟨ear, off_of Z foot_ar⟩ allNil))
  refine wpAny_call ?_
  refine' enter_def C Z.hg hl ?k6 ?k7 (room0 hd) ?k9 ?kB ?_ ?c2 ?c3 ?c4 ?c5
  walk_at "e"
  intro L' h' hL hgL F' N' C' l1
  refine hideE fun E9 => ?_
  have G := Grd.enter (A.hid σ.ns) C Z hl hL hgL C'
  have X' := G.X
  have T' := G.T
  k_lt l1
  clear hl hL hgL C' md
  walk_at "g3"
  refine notIn_ns (G.rep F' N' (by walk_at "h") (by walk_at "H")) ?_
  rw [decide_eq_false hn]
  walk_at "g3"
  rename Fr _ _ _ _ => F1
  rename News _ _ _ _ => N1
  refine' call_cls F1 X' N1 ?k4 ?k5 ?k6 ?_
  case k4 => k_dflt k_is
  case k5 => k_dflt k_is
  case k6 => k_dflt k_is
  intro x dx h2 F2 N2 l2 l3
  k_lt l2
  have hpx := G.priv N2 (mAt 0 rfl)
  have hpd := G.priv N2 (mAt 1 rfl)
  refine role_init (G.cxX (xs := [x, dx]) F2 ?kx ?e1 ?e2) (fun b o e => of_hideAll _ e) ?r1 ?r2 ⟨N2.get (mAt 0 rfl), hideAll_none _ (by simp)⟩ ⟨N2.get (mAt 1 rfl), hideAll_none _ (by simp)⟩ l3 (fun rl ul cm pm s' p hgn e1 e2 e3 e4 hdd hf hne => ?_)
  case kx =>
    exact allCons (hpx) (allCons (hpd) allNil)
  case e1 => rfl
  case e2 => rfl
  case r1 => first | omega | (show d + 1 + 6 < recursionLimit; omega) | (show d + 1 + 0 + 6 < recursionLimit; omega) | (show d + 1 + 1 + 6 < recursionLimit; omega)
  case r2 => first | omega | (show u + 3 + 16 < cLine; omega) | (show u + 3 + 1 + 16 < cLine; omega) | (show u + 3 + 2 + 16 < cLine; omega) | (show u + 3 + 3 + 16 < cLine; omega)
  obtain ⟨t1', t2', t3', t4', t5', hdd⟩ := hdd
  have m1 : @LT.lt Nat _ A.m dx := l2.1
  have m2 : @LT.lt Nat _ A.dm dx := l2.2.1
  have m3 : @LT.lt Nat _ A.ar dx := l2.2.2
  have m4 : @LT.lt Nat _ dx x := l3
  have m5 : @LT.lt Nat _ 1 A.m := Z.R.gt.1
  simp only [List.forall_mem_cons] at hf
  have F3 := fr_kept F2 (p.keep) hpd.1 (N2 _ (mAt 1 rfl)).2.2
  have N3 : News (restH s.heap [(A.m, instObj 1061 A.dm), (A.dm, mgrO w A σ t1T), (A.ar, oa)]) L' s'.heap [(pm, dictOf [] 0), (cm, dictOf [] 0), (ul, listOf #[] 0), (rl, listOf #[] 0), (dx, roleD w.params t1' t2' t3' t4' t5' (.str (nmS n) t) rl ul cm pm), (x, instObj 854 dx), (A.m, instObj 1061 A.dm), (A.dm, mgrO w A σ t1T), (A.ar, oa)] := by
    intro q hq
    simp only [List.mem_cons, List.not_mem_nil, or_false] at hq
    have old : ∀ {y : Addr} {o : Obj}, (y, o) ∈ [(x, instObj 854 dx), (dx, dictOf [] 0), (A.m, instObj 1061 A.dm), (A.dm, mgrO w A σ t1T), (A.ar, oa)] → y ≠ dx → s'.heap.get? y = some o ∧ y ≠ L' ∧ (restH s.heap [(A.m, instObj 1061 A.dm), (A.dm, mgrO w A σ t1T), (A.ar, oa)]).get? y = none := fun hy n => ⟨p.keep _ _ (N2.get hy) fun q => n (List.mem_singleton.mp q), (N2 _ hy).2⟩
    rcases hq with rfl | rfl | rfl | rfl | rfl | rfl | rfl | rfl | rfl
    · exact fresh_news F2 hf.2.2.2.1.1 e4
    · exact fresh_news F2 hf.2.2.1.1 e3
    · exact fresh_news F2 hf.2.1.1 e2
    · exact fresh_news F2 hf.1.1 e1
    · exact ⟨hdd, (N2 _ (mAt 1 rfl)).2⟩
    · exact old (mAt 0 rfl) (neA (by omega))
    · exact old (mAt 2 rfl) (neA (by omega))
    · exact old (mAt 3 rfl) (neA (by omega))
    · exact old (mAt 4 rfl) (neA (by omega))
  have hm2 : ∀ {y : Addr} {o : Obj}, h2.get? y = none → s.heap.get? y = none := fun {y o} e => by
    cases e0 : s.heap.get? y with
    | none => rfl
    | some o' =>
      have kk := G.kept F2 N2 (by walk_at "h") (by walk_at "H") y o' e0 fun q => (by
        refine Ob32 (F2.ns) fun oL _ _ hL' _ => ?_
        rw [← List.mem_singleton.mp q, e] at hL'; cases hL')
      rw [e] at kk; cases kk
  have old2 : ∀ y ∈ [x, dx, rl, ul, cm, pm], s.heap.get? y = none := by
    simp only [List.forall_mem_cons]
    refine ⟨(G.new N2 (mAt 0 rfl) ?_ (fun _ q => nomatch q)).2, (G.new N2 (mAt 1 rfl) ?_ (fun _ q => nomatch q)).2, hm2 (o := default) hf.1.1, hm2 (o := default) hf.2.1.1, hm2 (o := default) hf.2.2.1.1, hm2 (o := default) hf.2.2.2.1.1, fun _ q => nomatch q⟩
    · simp only [List.forall_mem_cons]; exact ⟨by omega, by omega, by omega, fun _ q => nomatch q⟩
    · simp only [List.forall_mem_cons]; exact ⟨by omega, by omega, by omega, fun _ q => nomatch q⟩
  have hlt3 := hf.1.2
  have hlt4 := hf.2.1.2
  have hlt5 := hf.2.2.1.2
  have hlt6 := hf.2.2.2.1.2
  have lt2 : ∀ y ∈ [x, dx, rl, ul, cm, pm], @LT.lt Nat _ 1 y := by
    simp only [List.forall_mem_cons]
    refine ⟨by omega, by omega, by omega, by omega, by omega, by omega, fun _ q => nomatch q⟩
  clear F2 N2 F1 N1 hm2
  dsimp only [InitBack]
  walk_at "g3"
  rename Fr _ _ _ _ => F5
  rename News _ _ _ _ => N5
  refine wpAny_setItem_pairs (knd := PySem.strKind pw_ae0023_01 w) (strKind_is _ _ _ _) (d := A.ar) ⟨oa, esa, epa, N5.get (mAt 8 rfl), ra⟩ (fun h6 hd6 hs6 => ?_) ?sz
  case sz => rw [List.length_map]; exact Nat.le_trans (len_fin Z.R.nn) (by decide)
  rw [stored_new Z.R hn] at hd6
  have hd6' := hd6
  obtain ⟨o6, es6, ep6, e6, _⟩ := hd6'
  have k6 := kept_same hs6
  have F6 := fr_kept F5 k6 (N5 _ (mAt 8 rfl)).2.1 (N5 _ (mAt 8 rfl)).2.2
  have N6 : News (restH s.heap [(A.m, instObj 1061 A.dm), (A.dm, mgrO w A σ t1T), (A.ar, oa)]) L' h6 [(pm, dictOf [] 0), (cm, dictOf [] 0), (ul, listOf #[] 0), (rl, listOf #[] 0), (dx, roleD w.params t1' t2' t3' t4' t5' (.str (nmS n) t) rl ul cm pm), (x, instObj 854 dx), (A.m, instObj 1061 A.dm), (A.dm, mgrO w A σ t1T), (A.ar, o6)] := by
    have a1 := Z.R.ar_apart
    have old : ∀ {y : Addr} {o : Obj} (i : Nat), [(pm, dictOf [] 0), (cm, dictOf [] 0), (ul, listOf #[] 0), (rl, listOf #[] 0), (dx, roleD w.params t1' t2' t3' t4' t5' (.str (nmS n) t) rl ul cm pm), (x, instObj 854 dx), (A.m, instObj 1061 A.dm), (A.dm, mgrO w A σ t1T), (A.ar, oa)][i]? = some (y, o) → y ≠ A.ar → h6.get? y = some o ∧ y ≠ L' ∧ (restH s.heap [(A.m, instObj 1061 A.dm), (A.dm, mgrO w A σ t1T), (A.ar, oa)]).get? y = none := fun i hy n => ⟨k6 _ _ (N5.get (mAt i hy)) fun q => n (List.mem_singleton.mp q), (N5 _ (mAt i hy)).2⟩
    exact allCons (old 0 rfl (neA (by omega))) (allCons (old 1 rfl (neA (by omega))) (allCons (old 2 rfl (neA (by omega))) (allCons (old 3 rfl (neA (by omega))) (allCons (old 4 rfl (neA (by omega))) (allCons (old 5 rfl (neA (by omega))) (allCons (old 6 rfl (Ne.symm a1.1)) (allCons (old 7 rfl (Ne.symm a1.2.1)) (allCons (⟨e6, (N5 _ (mAt 8 rfl)).2⟩) allNil))))))))
  have hL6 : ∀ y ∈ [x, dx, rl, ul, cm, pm], y ≠ L' := by
    simp only [List.forall_mem_cons]
    exact ⟨(N6 _ (mAt 5 rfl)).2.1, (N6 _ (mAt 4 rfl)).2.1, (N6 _ (mAt 3 rfl)).2.1, (N6 _ (mAt 2 rfl)).2.1, (N6 _ (mAt 1 rfl)).2.1, (N6 _ (mAt 0 rfl)).2.1, fun _ q => nomatch q⟩
  have R6 := Rep.newRole (r' := ⟨x, dx, rl, ul, cm, pm⟩) G.repH hn (G.keptH F6 N6 ?k6 (fun _ q => nomatch q)) hd6 (fun y hy => ⟨hid_none (old2 y hy), lt2 y hy⟩) ?nd (N6.get (mAt 5 rfl)) ⟨_, _, _, _, _, _, N6.get (mAt 4 rfl)⟩ (N6.get (mAt 3 rfl)) (N6.get (mAt 2 rfl)) (N6.get (mAt 1 rfl)) (N6.get (mAt 0 rfl))
  case k6 =>
    exact allCons (.inl (mAt 6 rfl)) (allCons (.inl (mAt 7 rfl)) (allCons (.inr List.mem_cons_self) allNil))
  case nd =>
    simp only [RA.ds, List.nodup_cons, List.mem_cons, List.not_mem_nil, or_false, not_or, List.nodup_nil, and_true, not_false_eq_true]
    exact ⟨⟨neA (by omega), neA (by omega)⟩, hne⟩
  have TT := G.turn (s := { s' with heap := h6, toks := 0 }) F6 N6 ?k8 (fun _ q => nomatch q) rfl p.os hgn ?k4 R6 [(A.m, instObj 1061 A.dm), (A.dm, mgrO w A σ t1T), (A.ar, o6)] ?k5
  case k8 =>
    exact allCons (.inl (mAt 6 rfl)) (allCons (.inl (mAt 7 rfl)) (allCons (.inr ⟨hid_foot foot_ar, _, mAt 8 rfl⟩) allNil))
  case k4 =>
    intro y hy
    exact (foot_add hn hy).imp id fun q => ⟨hL6 y q, old2 y q⟩
  case k5 =>
    exact allCons (⟨N6.get (mAt 6 rfl), .inl foot_m⟩) (allCons (⟨N6.get (mAt 7 rfl), .inl foot_dm⟩) (allCons (⟨N6.get (mAt 8 rfl), .inl foot_ar⟩) allNil))
  refine Ob23 (TT) fun h₇ tl₇ G₇ F₇ N₇ => ?_
  clear F5 N5 F6 N6 R6 X' T' hL6 G hs6 hd6 k6
  have X' := G₇.X
  have T' := G₇.T
  dsimp only [List.cons_append, List.nil_append] at N₇
  dsimp only
  walk_at "g3"
  rename Fr _ _ _ _ => F8
  rename News _ _ _ _ => N8
  have h1 : ∀ p ∈ [(A.m, instObj 1061 A.dm), (A.dm, mgrO w A σ t1T), (A.ar, o6)], p ∈ [(A.m, instObj 1061 A.dm), (A.dm, mgrO w A σ t1T), (A.ar, o6)] ++ tl₇ := fun p hp => List.mem_append_left _ hp
  have h2 : ∀ p ∈ tl₇, p ∈ [(A.m, instObj 1061 A.dm), (A.dm, mgrO w A σ t1T), (A.ar, o6)] ++ tl₇ := fun p hp => List.mem_append_right _ hp
  have R8 := G₇.rep F8 N8 h1 h2
  refine item_ns (A := A.set n ⟨x, dx, rl, ul, cm, pm⟩) R8 (show n ∈ (σ.add n).ns by rw [add_new hn]; simp) ?_ (by with_unfolding_all rfl)
  dsimp only
  exact h _ _ R8 (step_add hn (G₇.post F8 N8 (fun p hp => .inl (h1 p hp)) h2 rfl rfl id) old2)
end
end
section
section
variable {w : World} {mg mb : PySem.Str → Option Value} {base g : Heap} {outer : List Env} {d u : Nat} {gs : Option (List Code)} {E : Value → Shared → Prop} {s : Shared} {A : AD} {σ : SS}
theorem getRole {n : Fin 5} {t : Nat} {xm : Addr} {Q : Value → Shared → Prop} (C : Cx w mg mb base outer g) (Z : Stand w g A σ s) (hd : d + 12 < recursionLimit) (hu : u + 40 < cLine) (em : A.m = xm)
  (h : ∀ A' s', Rep w A' (σ.add n) s'.heap → Step A σ s A' (σ.add n) s' → Q (.ref (A'.r n).a) s') :
  wpAny (model pw_ae0023_01 w) (Ar d outer gs u) (call (.ref 901) [.ref xm, .str (nmS n) t]) Q E s := by
  subst em
  by_cases hn : n ∈ σ.ns
  · rw [add_old hn] at h
    exact getRole_old C Z (by omega) (by omega) hn fun s' R p => h A s' R (Step.of_post p fun _ q => nomatch q)
  · exact getRole_new C Z hd hu hn h
theorem crm_dom_cond {a b : Fin 5} {dm : Fin 3} {ta tb td : Nat} {Q : Value → Shared → Prop} (C : Cx w mg mb base outer g) (Z : Stand w g A σ s) (hd : d + 6 < recursionLimit) (hu : u + 16 < cLine) (ha : a ∈ σ.ns) (hb : b ∈ σ.ns)
  (h : ∀ s', Rep w A σ s'.heap → Post [] s s' → Q (condV (σ.cond a b dm)) s') :
  wpAny (model pw_ae0023_01 w) (Ar d outer gs u) (call (.ref 1022) [.ref A.m, .str (nmS a) ta, .str (nmS b) tb, .str (domS dm) td]) Q E s := by
  walk_at "f"
  refine Ob11 (Z.R.mdO) fun t1T md => ?_
  have hl : ∀ p ∈ [(A.m, instObj 1061 A.dm), (A.dm, mgrO w A σ t1T)], s.heap.get? p.1 = some p.2 ∧ g.get? p.1 = none := allCons ⟨Z.R.mi, off_of Z foot_m⟩ (allCons ⟨md, off_of Z foot_dm⟩ allNil)
  refine wpAny_call ?_
  refine' enter_def C Z.hg hl ?k6 ?k7 (room0 hd) ?k9 ?kB ?_ ?c2 ?c3 ?c4 ?c5
  walk_at "e2"
  intro L' h' hL hgL F' N' C' l1
  refine hideE fun E9 => ?_
  have G := Grd.enter [] C Z hl hL hgL C'
  have X' := G.X
  have T' := G.T
  k_lt l1
  clear hl hL hgL C' 
  walk_at "g3"
  rename Fr _ _ _ _ => F1
  rename News _ _ _ _ => N1
  refine getRole_old (G.cx F1 N1 (by walk_at "h") (by walk_at "H") ?c1 ?c2) (G.st F1 N1 (by walk_at "h") (by walk_at "H") rfl) (roomD hd) (roomU hu) ha (fun s₂ R₂ p₂ => ?_)
  case c1 => rfl
  case c2 => rfl
  refine Ob23 (G.back1 F1 N1 (by walk_at "h") (by walk_at "H") p₂ rfl rfl rfl R₂ [(A.m, instObj 1061 A.dm), (A.dm, mgrO w A σ t1T)] (allCons (.inr (.inl (by walk_at "n"))) (allCons (.inr (.inl (by walk_at "n"))) (allNil)))) fun h₂ tl₂ G F₂ N₂ => ?_
  clear F1 N1 X' T' p₂ R₂ 
  have X' := G.X
  have T' := G.T
  dsimp only [List.cons_append, List.nil_append] at N₂
  walk_at "g3"
  rename Fr _ _ _ _ => F1
  rename News _ _ _ _ => N1
  refine getRole_old (G.cx F1 N1 (by walk_at "h") (by walk_at "H") ?c1 ?c2) (G.st F1 N1 (by walk_at "h") (by walk_at "H") rfl) (roomD hd) (roomU hu) hb (fun s₂ R₂ p₂ => ?_)
  case c1 => rfl
  case c2 => rfl
  refine Ob11 ((R₂.ro a ha).dO) fun r1aT rda => ?_
  refine Ob23 (G.back1 F1 N1 (by walk_at "h") (by walk_at "H") p₂ rfl rfl rfl R₂ [((A.r a).a, instObj 854 (A.r a).dx), ((A.r a).dx, roleO w A a r1aT), (A.m, instObj 1061 A.dm), (A.dm, mgrO w A σ t1T)] (allCons (.inl ⟨(R₂.ro a ha).i, foot_a ha⟩) (allCons (.inl ⟨rda, foot_dx ha⟩) (allCons (.inr (.inl (by walk_at "n"))) (allCons (.inr (.inl (by walk_at "n"))) (allNil)))))) fun h₂ tl₂ G F₂ N₂ => ?_
  clear F1 N1 X' T' p₂ R₂ rda
  have X' := G.X
  have T' := G.T
  dsimp only [List.cons_append, List.nil_append] at N₂
  walk_at "g3"
  rename Fr _ _ _ _ => F1
  rename News _ _ _ _ => N1
  refine role_get_cond (G.cx F1 N1 (by walk_at "h") (by walk_at "H") ?c1 ?c2) (G.st F1 N1 (by walk_at "h") (by walk_at "H") rfl) (roomD hd) (roomU hu) ha hb (fun s₂ R₂ p₂ => ?_)
  case c1 => rfl
  case c2 => rfl
  refine Ob23 (G.back1 F1 N1 (by walk_at "h") (by walk_at "H") p₂ rfl rfl rfl R₂ [(A.m, instObj 1061 A.dm), (A.dm, mgrO w A σ t1T)] (allCons (.inr (.inl (by walk_at "n"))) (allCons (.inr (.inl (by walk_at "n"))) (allNil)))) fun h₂ tl₂ G F₂ N₂ => ?_
  clear F1 N1 X' T' p₂ R₂ 
  have X' := G.X
  have T' := G.T
  dsimp only [List.cons_append, List.nil_append] at N₂
  walk_at "g3"
  rename Fr _ _ _ _ => F1
  rename News _ _ _ _ => N1
  exact h _ (G.rep F1 N1 (by walk_at "h") (by walk_at "H")) (G.post F1 N1 (fun p hp => .inl (by revert p; walk_at "h")) (by walk_at "H") rfl rfl id)
end
end
section
section
variable {w : World} {mg mb : PySem.Str → Option Value} {base g : Heap} {outer : List Env} {d u : Nat} {gs : Option (List Code)} {E : Value → Shared → Prop} {s : Shared} {A : AD} {σ : SS}
theorem crm_cond {a b : Fin 5} {ta tb : Nat} {Q : Value → Shared → Prop} (C : Cx w mg mb base outer g) (Z : Stand w g A σ s) (hd : d + 9 < recursionLimit) (hu : u + 24 < cLine) (ha : a ∈ σ.ns) (hb : b ∈ σ.ns)
  (h : ∀ s', Rep w A σ s'.heap → Post [] s s' → Q (condV (σ.cond a b 0)) s') :
  wpAny (model pw_ae0023_01 w) (Ar d outer gs u) (call (.ref 1015) [.ref A.m, .str (nmS a) ta, .str (nmS b) tb]) Q E s := by
  walk_at "f"
  refine Ob11 (Z.R.mdO) fun t1T md => ?_
  have hl : ∀ p ∈ [(A.m, instObj 1061 A.dm), (A.dm, mgrO w A σ t1T)], s.heap.get? p.1 = some p.2 ∧ g.get? p.1 = none := allCons ⟨Z.R.mi, off_of Z foot_m⟩ (allCons ⟨md, off_of Z foot_dm⟩ allNil)
  refine wpAny_call ?_
  have Xs := C.X.keeps Z.hg
  refine' enter_def C Z.hg hl ?k6 ?k7 (room0 hd) ?k9 ?kB ?_ ?c2 ?c3 ?c4 ?c5
  walk_at "e2"
  intro L' h' hL hgL F' N' C' l1
  refine hideE fun E9 => ?_
  have G := Grd.enter [] C Z hl hL hgL C'
  have X' := G.X
  have T' := G.T
  k_lt l1
  clear hl hL hgL C' Xs 
  walk_at "g3"
  rename Fr _ _ _ _ => F1
  rename News _ _ _ _ => N1
  refine crm_dom_cond (dm := 0) (G.cx F1 N1 (by walk_at "h") (by walk_at "H") ?c1 ?c2) (G.st F1 N1 (by walk_at "h") (by walk_at "H") rfl) (roomD hd) (roomU hu) ha hb (fun s₂ R₂ p₂ => ?_)
  case c1 => rfl
  case c2 => rfl
  refine Ob23 (G.back1 F1 N1 (by walk_at "h") (by walk_at "H") p₂ rfl rfl rfl R₂ [(A.m, instObj 1061 A.dm), (A.dm, mgrO w A σ t1T)] (allCons (.inr (.inl (by walk_at "n"))) (allCons (.inr (.inl (by walk_at "n"))) (allNil)))) fun h₂ tl₂ G F₂ N₂ => ?_
  clear F1 N1 X' T' p₂ R₂ 
  have X' := G.X
  have T' := G.T
  dsimp only [List.cons_append, List.nil_append] at N₂
  walk_at "g3"
  rename Fr _ _ _ _ => F1
  rename News _ _ _ _ => N1
  exact h _ (G.rep F1 N1 (by walk_at "h") (by walk_at "H")) (G.post F1 N1 (fun p hp => .inl (by revert p; walk_at "h")) (by walk_at "H") rfl rfl id)
theorem crm_prm0 {a b : Fin 5} {dm : Fin 3} {ta tb td k0 : Nat} {D : Addr} {Q : Value → Shared → Prop} (C : Cx w mg mb base outer g) (Z : Stand w g A σ s) (hd : d + 9 < recursionLimit) (hu : u + 24 < cLine) (ha : a ∈ σ.ns) (hb : b ∈ σ.ns)
  (h : ∀ s' l its k, Rep w A σ s'.heap → Post [] s s' → s'.heap.get? l = some (listOf its k) → ItemsAre (PySem.strKind pw_ae0023_01 w) (wordsOf (σ.prm a b 0)) its.toList → s.heap.get? l = none → Q (.ref l) s') :
  wpAny (model pw_ae0023_01 w) (Ar d outer gs u) (call (.ref 1030) [.ref A.m, .str (nmS a) ta, .str (nmS b) tb]) Q E s := by
  walk_at "f"
  refine Ob11 (Z.R.mdO) fun t1T md => ?_
  have hl : ∀ p ∈ [(A.m, instObj 1061 A.dm), (A.dm, mgrO w A σ t1T)], s.heap.get? p.1 = some p.2 ∧ g.get? p.1 = none := allCons ⟨Z.R.mi, off_of Z foot_m⟩ (allCons ⟨md, off_of Z foot_dm⟩ allNil)
  refine wpAny_call ?_
  have Xs := C.X.keeps Z.hg
  refine' enter_def C Z.hg hl ?k6 ?k7 (room0 hd) ?k9 ?kB ?_ ?c2 ?c3 ?c4 ?c5
  walk_at "e2"
  intro L' h' hL hgL F' N' C' l1
  refine hideE fun E9 => ?_
  have G := Grd.enter [] C Z hl hL hgL C'
  have X' := G.X
  have T' := G.T
  k_lt l1
  clear hl hL hgL C' Xs 
  walk_at "g3"
  rename Fr _ _ _ _ => F1
  rename News _ _ _ _ => N1
  rename_i lD _ _ _
  refine getRole_old (G.cx F1 N1 (by walk_at "h") (by walk_at "H") ?c1 ?c2) (G.st F1 N1 (by walk_at "h") (by walk_at "H") rfl) (roomD hd) (roomU hu) ha (fun s₂ R₂ p₂ => ?_)
  case c1 => rfl
  case c2 => rfl
  refine Ob23 (G.back1 F1 N1 (by walk_at "h") (by walk_at "H") p₂ rfl rfl rfl R₂ [(lD, listOf #[] 0), (A.m, instObj 1061 A.dm), (A.dm, mgrO w A σ t1T)] (allCons (.inr (.inl (by walk_at "n"))) (allCons (.inr (.inl (by walk_at "n"))) (allCons (.inr (.inl (by walk_at "n"))) (allNil))))) fun h₂ tl₂ G F₂ N₂ => ?_
  clear F1 N1 X' T' p₂ R₂ 
  have X' := G.X
  have T' := G.T
  dsimp only [List.cons_append, List.nil_append] at N₂
  walk_at "g3"
  rename Fr _ _ _ _ => F1
  rename News _ _ _ _ => N1
  refine getRole_old (G.cx F1 N1 (by walk_at "h") (by walk_at "H") ?c1 ?c2) (G.st F1 N1 (by walk_at "h") (by walk_at "H") rfl) (roomD hd) (roomU hu) hb (fun s₂ R₂ p₂ => ?_)
  case c1 => rfl
  case c2 => rfl
  refine Ob11 ((R₂.ro a ha).dO) fun r1aT rda => ?_
  refine Ob23 (G.back1 F1 N1 (by walk_at "h") (by walk_at "H") p₂ rfl rfl rfl R₂ [(lD, listOf #[] 0), ((A.r a).a, instObj 854 (A.r a).dx), ((A.r a).dx, roleO w A a r1aT), (A.m, instObj 1061 A.dm), (A.dm, mgrO w A σ t1T)] (allCons (.inr (.inl (by walk_at "n"))) (allCons (.inl ⟨(R₂.ro a ha).i, foot_a ha⟩) (allCons (.inl ⟨rda, foot_dx ha⟩) (allCons (.inr (.inl (by walk_at "n"))) (allCons (.inr (.inl (by walk_at "n"))) (allNil))))))) fun h₂ tl₂ G F₂ N₂ => ?_
  clear F1 N1 X' T' p₂ R₂ rda
  have X' := G.X
  have T' := G.T
  dsimp only [List.cons_append, List.nil_append] at N₂
  walk_at "G"
  rename Fr _ _ _ _ => F1
  rename News _ _ _ _ => N1
  refine role_get_prm (dm := 0) (G.cx F1 N1 (by walk_at "h") (by walk_at "H") ?c1 ?c2) (G.st F1 N1 (by walk_at "h") (by walk_at "H") rfl) (roomD hd) (roomU hu) ha hb (fun s₂ l its k R₂ p₂ hl2 hi2 hn2 => ?_)
  case c1 => rfl
  case c2 => rfl
  have hn3 := G.oldNone F1 N1 (by walk_at "h") (by walk_at "H") hn2
  refine Ob23 (G.back1 F1 N1 (by walk_at "h") (by walk_at "H") p₂ rfl rfl rfl R₂ [(l, listOf its k), (A.m, instObj 1061 A.dm), (A.dm, mgrO w A σ t1T)] (allCons (.inr (.inr ⟨hl2, hn2⟩)) (allCons (.inr (.inl (by walk_at "n"))) (allCons (.inr (.inl (by walk_at "n"))) (allNil))))) fun h₂ tl₂ G F₂ N₂ => ?_
  clear F1 N1 X' T' p₂ R₂ 
  have X' := G.X
  have T' := G.T
  dsimp only [List.cons_append, List.nil_append] at N₂
  walk_at "g3"
  rename Fr _ _ _ _ => F1
  rename News _ _ _ _ => N1
  exact h _ _ _ _ (G.rep F1 N1 (by walk_at "h") (by walk_at "H")) (G.post F1 N1 (fun p hp => .inl (by revert p; walk_at "h")) (by walk_at "H") rfl rfl id) (N1.get (mAt 0 rfl)) hi2 hn3
theorem crm_prmT {a b : Fin 5} {dm : Fin 3} {ta tb td k0 : Nat} {D : Addr} {Q : Value → Shared → Prop} (C : Cx w mg mb base outer g) (Z : Stand w g A σ s) (hd : d + 9 < recursionLimit) (hu : u + 24 < cLine) (ha : a ∈ σ.ns) (hb : b ∈ σ.ns) (hD : s.heap.get? D = some (tupOf [.str (domS dm) td]) ∧ g.get? D = none)
  (h : ∀ s' l its k, Rep w A σ s'.heap → Post [] s s' → s'.heap.get? l = some (listOf its k) → ItemsAre (PySem.strKind pw_ae0023_01 w) (wordsOf (σ.prm a b dm)) its.toList → s.heap.get? l = none → Q (.ref l) s') :
  wpAny (model pw_ae0023_01 w) (Ar d outer gs u) (call (.ref 1030) [.ref A.m, .str (nmS a) ta, .str (nmS b) tb, .ref D]) Q E s := by
  walk_at "f"
  refine Ob11 (Z.R.mdO) fun t1T md => ?_
  have hl : ∀ p ∈ [(D, tupOf [.str (domS dm) td]), (A.m, instObj 1061 A.dm), (A.dm, mgrO w A σ t1T)], s.heap.get? p.1 = some p.2 ∧ g.get? p.1 = none := allCons ⟨hD.1, hD.2⟩ (allCons ⟨Z.R.mi, off_of Z foot_m⟩ (allCons ⟨md, off_of Z foot_dm⟩ allNil))
  refine wpAny_call ?_
  have Xs := C.X.keeps Z.hg
  refine' enter_def C Z.hg hl ?k6 ?k7 (room0 hd) ?k9 ?kB ?_ ?c2 ?c3 ?c4 ?c5
  walk_at "e2"
  intro L' h' hL hgL F' N' C' l1
  refine hideE fun E9 => ?_
  have G := Grd.enter [] C Z hl hL hgL C'
  have X' := G.X
  have T' := G.T
  k_lt l1
  clear hl hL hgL C' Xs 
  walk_at "g3"
  rename Fr _ _ _ _ => F1
  rename News _ _ _ _ => N1
  refine getRole_old (G.cx F1 N1 (by walk_at "h") (by walk_at "H") ?c1 ?c2) (G.st F1 N1 (by walk_at "h") (by walk_at "H") rfl) (roomD hd) (roomU hu) ha (fun s₂ R₂ p₂ => ?_)
  case c1 => rfl
  case c2 => rfl
  refine Ob23 (G.back1 F1 N1 (by walk_at "h") (by walk_at "H") p₂ rfl rfl rfl R₂ [(D, tupOf [.str (domS dm) td]), (A.m, instObj 1061 A.dm), (A.dm, mgrO w A σ t1T)] (allCons (.inr (.inl (by walk_at "n"))) (allCons (.inr (.inl (by walk_at "n"))) (allCons (.inr (.inl (by walk_at "n"))) (allNil))))) fun h₂ tl₂ G F₂ N₂ => ?_
  clear F1 N1 X' T' p₂ R₂ 
  have X' := G.X
  have T' := G.T
  dsimp only [List.cons_append, List.nil_append] at N₂
  walk_at "g3"
  rename Fr _ _ _ _ => F1
  rename News _ _ _ _ => N1
  refine getRole_old (G.cx F1 N1 (by walk_at "h") (by walk_at "H") ?c1 ?c2) (G.st F1 N1 (by walk_at "h") (by walk_at "H") rfl) (roomD hd) (roomU hu) hb (fun s₂ R₂ p₂ => ?_)
  case c1 => rfl
  case c2 => rfl
  refine Ob11 ((R₂.ro a ha).dO) fun r1aT rda => ?_
  refine Ob23 (G.back1 F1 N1 (by walk_at "h") (by walk_at "H") p₂ rfl rfl rfl R₂ [(D, tupOf [.str (domS dm) td]), ((A.r a).a, instObj 854 (A.r a).dx), ((A.r a).dx, roleO w A a r1aT), (A.m, instObj 1061 A.dm), (A.dm, mgrO w A σ t1T)] (allCons (.inr (.inl (by walk_at "n"))) (allCons (.inl ⟨(R₂.ro a ha).i, foot_a ha⟩) (allCons (.inl ⟨rda, foot_dx ha⟩) (allCons (.inr (.inl (by walk_at "n"))) (allCons (.inr (.inl (by walk_at "n"))) (allNil))))))) fun h₂ tl₂ G F₂ N₂ => ?_
  clear F1 N1 X' T' p₂ R₂ rda
  have X' := G.X
  have T' := G.T
  dsimp only [List.cons_append, List.nil_append] at N₂
  walk_at "G"
  rename Fr _ _ _ _ => F1
  rename News _ _ _ _ => N1
  refine role_get_prm (dm := dm) (G.cx F1 N1 (by walk_at "h") (by walk_at "H") ?c1 ?c2) (G.st F1 N1 (by walk_at "h") (by walk_at "H") rfl) (roomD hd) (roomU hu) ha hb (fun s₂ l its k R₂ p₂ hl2 hi2 hn2 => ?_)
  case c1 => rfl
  case c2 => rfl
  have hn3 := G.oldNone F1 N1 (by walk_at "h") (by walk_at "H") hn2
  refine Ob23 (G.back1 F1 N1 (by walk_at "h") (by walk_at "H") p₂ rfl rfl rfl R₂ [(l, listOf its k), (A.m, instObj 1061 A.dm), (A.dm, mgrO w A σ t1T)] (allCons (.inr (.inr ⟨hl2, hn2⟩)) (allCons (.inr (.inl (by walk_at "n"))) (allCons (.inr (.inl (by walk_at "n"))) (allNil))))) fun h₂ tl₂ G F₂ N₂ => ?_
  clear F1 N1 X' T' p₂ R₂ 
  have X' := G.X
  have T' := G.T
  dsimp only [List.cons_append, List.nil_append] at N₂
  walk_at "g3"
  rename Fr _ _ _ _ => F1
  rename News _ _ _ _ => N1
  exact h _ _ _ _ (G.rep F1 N1 (by walk_at "h") (by walk_at "H")) (G.post F1 N1 (fun p hp => .inl (by revert p; walk_at "h")) (by walk_at "H") rfl rfl id) (N1.get (mAt 0 rfl)) hi2 hn3
theorem crm_prmL {a b : Fin 5} {dm : Fin 3} {ta tb td k0 : Nat} {D : Addr} {Q : Value → Shared → Prop} (C : Cx w mg mb base outer g) (Z : Stand w g A σ s) (hd : d + 9 < recursionLimit) (hu : u + 24 < cLine) (ha : a ∈ σ.ns) (hb : b ∈ σ.ns) (hD : s.heap.get? D = some (listOf #[.str (domS dm) td] k0) ∧ g.get? D = none)
  (h : ∀ s' l its k, Rep w A σ s'.heap → Post [] s s' → s'.heap.get? l = some (listOf its k) → ItemsAre (PySem.strKind pw_ae0023_01 w) (wordsOf (σ.prm a b dm)) its.toList → s.heap.get? l = none → Q (.ref l) s') :
  wpAny (model pw_ae0023_01 w) (Ar d outer gs u) (call (.ref 1030) [.ref A.m, .str (nmS a) ta, .str (nmS b) tb, .ref D]) Q E s := by
  walk_at "f"
  refine Ob11 (Z.R.mdO) fun t1T md => ?_
  have hl : ∀ p ∈ [(D, listOf #[.str (domS dm) td] k0), (A.m, instObj 1061 A.dm), (A.dm, mgrO w A σ t1T)], s.heap.get? p.1 = some p.2 ∧ g.get? p.1 = none := allCons ⟨hD.1, hD.2⟩ (allCons ⟨Z.R.mi, off_of Z foot_m⟩ (allCons ⟨md, off_of Z foot_dm⟩ allNil))
  refine wpAny_call ?_
  have Xs := C.X.keeps Z.hg
  refine' enter_def C Z.hg hl ?k6 ?k7 (room0 hd) ?k9 ?kB ?_ ?c2 ?c3 ?c4 ?c5
  walk_at "e2"
  intro L' h' hL hgL F' N' C' l1
  refine hideE fun E9 => ?_
  have G := Grd.enter [] C Z hl hL hgL C'
  have X' := G.X
  have T' := G.T
  k_lt l1
  clear hl hL hgL C' Xs 
  walk_at "g3"
  rename Fr _ _ _ _ => F1
  rename News _ _ _ _ => N1
  refine getRole_old (G.cx F1 N1 (by walk_at "h") (by walk_at "H") ?c1 ?c2) (G.st F1 N1 (by walk_at "h") (by walk_at "H") rfl) (roomD hd) (roomU hu) ha (fun s₂ R₂ p₂ => ?_)
  case c1 => rfl
  case c2 => rfl
  refine Ob23 (G.back1 F1 N1 (by walk_at "h") (by walk_at "H") p₂ rfl rfl rfl R₂ [(D, listOf #[.str (domS dm) td] k0), (A.m, instObj 1061 A.dm), (A.dm, mgrO w A σ t1T)] (allCons (.inr (.inl (by walk_at "n"))) (allCons (.inr (.inl (by walk_at "n"))) (allCons (.inr (.inl (by walk_at "n"))) (allNil))))) fun h₂ tl₂ G F₂ N₂ => ?_
  clear F1 N1 X' T' p₂ R₂ 
  have X' := G.X
  have T' := G.T
  dsimp only [List.cons_append, List.nil_append] at N₂
  walk_at "g3"
  rename Fr _ _ _ _ => F1
  rename News _ _ _ _ => N1
  refine getRole_old (G.cx F1 N1 (by walk_at "h") (by walk_at "H") ?c1 ?c2) (G.st F1 N1 (by walk_at "h") (by walk_at "H") rfl) (roomD hd) (roomU hu) hb (fun s₂ R₂ p₂ => ?_)
  case c1 => rfl
  case c2 => rfl
  refine Ob11 ((R₂.ro a ha).dO) fun r1aT rda => ?_
  refine Ob23 (G.back1 F1 N1 (by walk_at "h") (by walk_at "H") p₂ rfl rfl rfl R₂ [(D, listOf #[.str (domS dm) td] k0), ((A.r a).a, instObj 854 (A.r a).dx), ((A.r a).dx, roleO w A a r1aT), (A.m, instObj 1061 A.dm), (A.dm, mgrO w A σ t1T)] (allCons (.inr (.inl (by walk_at "n"))) (allCons (.inl ⟨(R₂.ro a ha).i, foot_a ha⟩) (allCons (.inl ⟨rda, foot_dx ha⟩) (allCons (.inr (.inl (by walk_at "n"))) (allCons (.inr (.inl (by walk_at "n"))) (allNil))))))) fun h₂ tl₂ G F₂ N₂ => ?_
  clear F1 N1 X' T' p₂ R₂ rda
  have X' := G.X
  have T' := G.T
  dsimp only [List.cons_append, List.nil_append] at N₂
  walk_at "G"
  rename Fr _ _ _ _ => F1
  rename News _ _ _ _ => N1
  refine role_get_prm (dm := dm) (G.cx F1 N1 (by walk_at "h") (by walk_at "H") ?c1 ?c2) (G.st F1 N1 (by walk_at "h") (by walk_at "H") rfl) (roomD hd) (roomU hu) ha hb (fun s₂ l its k R₂ p₂ hl2 hi2 hn2 => ?_)
  case c1 => rfl
  case c2 => rfl
  have hn3 := G.oldNone F1 N1 (by walk_at "h") (by walk_at "H") hn2
  refine Ob23 (G.back1 F1 N1 (by walk_at "h") (by walk_at "H") p₂ rfl rfl rfl R₂ [(l, listOf its k), (A.m, instObj 1061 A.dm), (A.dm, mgrO w A σ t1T)] (allCons (.inr (.inr ⟨hl2, hn2⟩)) (allCons (.inr (.inl (by walk_at "n"))) (allCons (.inr (.inl (by walk_at "n"))) (allNil))))) fun h₂ tl₂ G F₂ N₂ => ?_
  clear F1 N1 X' T' p₂ R₂ 
  have X' := G.X
  have T' := G.T
  dsimp only [List.cons_append, List.nil_append] at N₂
  walk_at "g3"
  rename Fr _ _ _ _ => F1
  rename News _ _ _ _ => N1
  exact h _ _ _ _ (G.rep F1 N1 (by walk_at "h") (by walk_at "H")) (G.post F1 N1 (fun p hp => .inl (by revert p; walk_at "h")) (by walk_at "H") rfl rfl id) (N1.get (mAt 0 rfl)) hi2 hn3
end
end
section
theorem rowOr : ∀ r : Option (Fin 7), r = none ∨ r = some 0 ∨ r = some 1 ∨ r = some 2 ∨ r = some 3 ∨ r = some 4 ∨ r = some 5 ∨ r = some 6
  | none => .inl rfl
  | some r => .inr (by revert r; decide)
section
variable {w : World} {mg mb : PySem.Str → Option Value} {base g : Heap} {outer : List Env} {d u : Nat} {gs : Option (List Code)} {E : Value → Shared → Prop} {s : Shared} {A : AD} {σ : SS}
def evenR : Option (Fin 7) → Bool := fun r => decide (r ∈ [none, some 0, some 2, some 4, some 5])
def twoR : Option (Fin 7) → Bool := fun r => decide (r ∈ [some 2, some 3])
def risingR : Option (Fin 7) → Bool := fun r => decide (r ∉ [some 2, some 4])
theorem ia0 {its : List Value} (hi : ItemsAre (PySem.strKind pw_ae0023_01 w) [] its) : its = [] := by cases hi; rfl
theorem ia1 {a : PySem.Str} {its : List Value} (hi : ItemsAre (PySem.strKind pw_ae0023_01 w) [a] its) : ∃ t, its = [.str a t] := by
  cases hi with | cons h hi => obtain ⟨t, rfl⟩ := Value.isStrOf_shape h; cases ia0 hi; exact ⟨t, rfl⟩
theorem ia2 {a b : PySem.Str} {its : List Value} (hi : ItemsAre (PySem.strKind pw_ae0023_01 w) [a, b] its) : ∃ t u, its = [.str a t, .str b u] := by
  cases hi with | cons h hi => obtain ⟨t, rfl⟩ := Value.isStrOf_shape h; obtain ⟨u, rfl⟩ := ia1 hi; exact ⟨t, u, rfl⟩
theorem ia3 {a b c : PySem.Str} {its : List Value} (hi : ItemsAre (PySem.strKind pw_ae0023_01 w) [a, b, c] its) : ∃ t u v, its = [.str a t, .str b u, .str c v] := by
  cases hi with | cons h hi => obtain ⟨t, rfl⟩ := Value.isStrOf_shape h; obtain ⟨u, v, rfl⟩ := ia2 hi; exact ⟨t, u, v, rfl⟩
theorem c_even_0 {Q : Value → Shared → Prop} (C : Cx w mg mb base outer g) (hg : g.StaysIn s.heap) (hd : d + 3 < recursionLimit) (hu : u + 8 < cLine)
  (h : ∀ s', Post [] s s' → Q (.bool (evenR (some 0))) s') :
  wpAny (model pw_ae0023_01 w) (Ar d outer gs u) (call (.ref 1092) []) Q E s := by
  walk_at "f"
  refine wpAny_call ?_
  refine' enter_rest (led := []) (vs := []) (g₁ := fun D => some [("words", .ref D)]) C hg (fun _ q => nomatch q) ?k6 ?k7 (room0 hd) ?k9 (fun _ => rfl) ?kB ?_ ?c2 ?c3 ?c4 ?c5
  case k6 => k_dflt k_is
  case k7 => k_dflt k_is
  case k9 => k_dflt (exact rfl)
  case c5 => k_dflt decide
  case kB => k_dflt (exact fun _ => locs rfl)
  case c2 => exact rfl
  case c3 => exact rfl
  case c4 => exact rfl
  intro D' L' h' hD hL hgL F' N' C' l1 l2
  refine hideE fun E9 => ?_
  have X' := C'.X
  have T' := C'.T
  k_lt l1
  clear l2 hgL C'
  walk_at "g3"
  rw [show Txt.join (PySem.Str.ofString "") [] = PySem.Str.ofString "" from by kernel_rfl]
  walk_at "G"
  rename Fr _ _ _ _ => F1
  refine h _ ⟨fun b o e _ => F1.keep b o (hideAll_get _ e (fun q => nomatch q)), fun b o e => ⟨o, F1.keep b o (hideAll_get _ e (fun q => nomatch q))⟩, rfl, id⟩
theorem c_even_1 {t0 : Nat} {Q : Value → Shared → Prop} (C : Cx w mg mb base outer g) (hg : g.StaysIn s.heap) (hd : d + 3 < recursionLimit) (hu : u + 8 < cLine)
  (h : ∀ s', Post [] s s' → Q (.bool (evenR (some 1))) s') :
  wpAny (model pw_ae0023_01 w) (Ar d outer gs u) (call (.ref 1092) [.str "a" t0]) Q E s := by
  walk_at "f"
  refine wpAny_call ?_
  refine' enter_rest (led := []) (vs := [.str "a" t0]) (g₁ := fun D => some [("words", .ref D)]) C hg (fun _ q => nomatch q) ?k6 ?k7 (room0 hd) ?k9 (fun _ => rfl) ?kB ?_ ?c2 ?c3 ?c4 ?c5
  case k6 => k_dflt k_is
  case k7 => k_dflt k_is
  case k9 => k_dflt (exact rfl)
  case c5 => k_dflt decide
  case kB => k_dflt (exact fun _ => locs rfl)
  case c2 => exact rfl
  case c3 => exact rfl
  case c4 => exact rfl
  intro D' L' h' hD hL hgL F' N' C' l1 l2
  refine hideE fun E9 => ?_
  have X' := C'.X
  have T' := C'.T
  k_lt l1
  clear l2 hgL C'
  walk_at "g3"
  rw [show Txt.join (PySem.Str.ofString "") [PySem.Str.ofString "a"] = PySem.Str.ofString "a" from by kernel_rfl]
  walk_at "G"
  rename Fr _ _ _ _ => F1
  refine h _ ⟨fun b o e _ => F1.keep b o (hideAll_get _ e (fun q => nomatch q)), fun b o e => ⟨o, F1.keep b o (hideAll_get _ e (fun q => nomatch q))⟩, rfl, id⟩
theorem c_even_2 {t0 t1 : Nat} {Q : Value → Shared → Prop} (C : Cx w mg mb base outer g) (hg : g.StaysIn s.heap) (hd : d + 3 < recursionLimit) (hu : u + 8 < cLine)
  (h : ∀ s', Post [] s s' → Q (.bool (evenR (some 2))) s') :
  wpAny (model pw_ae0023_01 w) (Ar d outer gs u) (call (.ref 1092) [.str "b" t0, .str "a" t1]) Q E s := by
  walk_at "f"
  refine wpAny_call ?_
  refine' enter_rest (led := []) (vs := [.str "b" t0, .str "a" t1]) (g₁ := fun D => some [("words", .ref D)]) C hg (fun _ q => nomatch q) ?k6 ?k7 (room0 hd) ?k9 (fun _ => rfl) ?kB ?_ ?c2 ?c3 ?c4 ?c5
  case k6 => k_dflt k_is
  case k7 => k_dflt k_is
  case k9 => k_dflt (exact rfl)
  case c5 => k_dflt decide
  case kB => k_dflt (exact fun _ => locs rfl)
  case c2 => exact rfl
  case c3 => exact rfl
  case c4 => exact rfl
  intro D' L' h' hD hL hgL F' N' C' l1 l2
  refine hideE fun E9 => ?_
  have X' := C'.X
  have T' := C'.T
  k_lt l1
  clear l2 hgL C'
  walk_at "g3"
  rw [show Txt.join (PySem.Str.ofString "") [PySem.Str.ofString "b", PySem.Str.ofString "a"] = PySem.Str.ofString "ba" from by kernel_rfl]
  walk_at "G"
  rename Fr _ _ _ _ => F1
  refine h _ ⟨fun b o e _ => F1.keep b o (hideAll_get _ e (fun q => nomatch q)), fun b o e => ⟨o, F1.keep b o (hideAll_get _ e (fun q => nomatch q))⟩, rfl, id⟩
theorem c_even_3 {t0 t1 : Nat} {Q : Value → Shared → Prop} (C : Cx w mg mb base outer g) (hg : g.StaysIn s.heap) (hd : d + 3 < recursionLimit) (hu : u + 8 < cLine)
  (h : ∀ s', Post [] s s' → Q (.bool (evenR (some 3))) s') :
  wpAny (model pw_ae0023_01 w) (Ar d outer gs u) (call (.ref 1092) [.str "a" t0, .str "bc" t1]) Q E s := by
  walk_at "f"
  refine wpAny_call ?_
  refine' enter_rest (led := []) (vs := [.str "a" t0, .str "bc" t1]) (g₁ := fun D => some [("words", .ref D)]) C hg (fun _ q => nomatch q) ?k6 ?k7 (room0 hd) ?k9 (fun _ => rfl) ?kB ?_ ?c2 ?c3 ?c4 ?c5
  case k6 => k_dflt k_is
  case k7 => k_dflt k_is
  case k9 => k_dflt (exact rfl)
  case c5 => k_dflt decide
  case kB => k_dflt (exact fun _ => locs rfl)
  case c2 => exact rfl
  case c3 => exact rfl
  case c4 => exact rfl
  intro D' L' h' hD hL hgL F' N' C' l1 l2
  refine hideE fun E9 => ?_
  have X' := C'.X
  have T' := C'.T
  k_lt l1
  clear l2 hgL C'
  walk_at "g3"
  rw [show Txt.join (PySem.Str.ofString "") [PySem.Str.ofString "a", PySem.Str.ofString "bc"] = PySem.Str.ofString "abc" from by kernel_rfl]
  walk_at "G"
  rename Fr _ _ _ _ => F1
  refine h _ ⟨fun b o e _ => F1.keep b o (hideAll_get _ e (fun q => nomatch q)), fun b o e => ⟨o, F1.keep b o (hideAll_get _ e (fun q => nomatch q))⟩, rfl, id⟩
theorem c_even_4 {t0 t1 t2 : Nat} {Q : Value → Shared → Prop} (C : Cx w mg mb base outer g) (hg : g.StaysIn s.heap) (hd : d + 3 < recursionLimit) (hu : u + 8 < cLine)
  (h : ∀ s', Post [] s s' → Q (.bool (evenR (some 4))) s') :
  wpAny (model pw_ae0023_01 w) (Ar d outer gs u) (call (.ref 1092) [.str "c" t0, .str "a" t1, .str "bb" t2]) Q E s := by
  walk_at "f"
  refine wpAny_call ?_
  refine' enter_rest (led := []) (vs := [.str "c" t0, .str "a" t1, .str "bb" t2]) (g₁ := fun D => some [("words", .ref D)]) C hg (fun _ q => nomatch q) ?k6 ?k7 (room0 hd) ?k9 (fun _ => rfl) ?kB ?_ ?c2 ?c3 ?c4 ?c5
  case k6 => k_dflt k_is
  case k7 => k_dflt k_is
  case k9 => k_dflt (exact rfl)
  case c5 => k_dflt decide
  case kB => k_dflt (exact fun _ => locs rfl)
  case c2 => exact rfl
  case c3 => exact rfl
  case c4 => exact rfl
  intro D' L' h' hD hL hgL F' N' C' l1 l2
  refine hideE fun E9 => ?_
  have X' := C'.X
  have T' := C'.T
  k_lt l1
  clear l2 hgL C'
  walk_at "g3"
  rw [show Txt.join (PySem.Str.ofString "") [PySem.Str.ofString "c", PySem.Str.ofString "a", PySem.Str.ofString "bb"] = PySem.Str.ofString "cabb" from by kernel_rfl]
  walk_at "G"
  rename Fr _ _ _ _ => F1
  refine h _ ⟨fun b o e _ => F1.keep b o (hideAll_get _ e (fun q => nomatch q)), fun b o e => ⟨o, F1.keep b o (hideAll_get _ e (fun q => nomatch q))⟩, rfl, id⟩
theorem c_even_5 {t0 : Nat} {Q : Value → Shared → Prop} (C : Cx w mg mb base outer g) (hg : g.StaysIn s.heap) (hd : d + 3 < recursionLimit) (hu : u + 8 < cLine)
  (h : ∀ s', Post [] s s' → Q (.bool (evenR (some 5))) s') :
  wpAny (model pw_ae0023_01 w) (Ar d outer gs u) (call (.ref 1092) [.str "ee" t0]) Q E s := by
  walk_at "f"
  refine wpAny_call ?_
  refine' enter_rest (led := []) (vs := [.str "ee" t0]) (g₁ := fun D => some [("words", .ref D)]) C hg (fun _ q => nomatch q) ?k6 ?k7 (room0 hd) ?k9 (fun _ => rfl) ?kB ?_ ?c2 ?c3 ?c4 ?c5
  case k6 => k_dflt k_is
  case k7 => k_dflt k_is
  case k9 => k_dflt (exact rfl)
  case c5 => k_dflt decide
  case kB => k_dflt (exact fun _ => locs rfl)
  case c2 => exact rfl
  case c3 => exact rfl
  case c4 => exact rfl
  intro D' L' h' hD hL hgL F' N' C' l1 l2
  refine hideE fun E9 => ?_
  have X' := C'.X
  have T' := C'.T
  k_lt l1
  clear l2 hgL C'
  walk_at "g3"
  rw [show Txt.join (PySem.Str.ofString "") [PySem.Str.ofString "ee"] = PySem.Str.ofString "ee" from by kernel_rfl]
  walk_at "G"
  rename Fr _ _ _ _ => F1
  refine h _ ⟨fun b o e _ => F1.keep b o (hideAll_get _ e (fun q => nomatch q)), fun b o e => ⟨o, F1.keep b o (hideAll_get _ e (fun q => nomatch q))⟩, rfl, id⟩
theorem c_even_6 {t0 t1 t2 : Nat} {Q : Value → Shared → Prop} (C : Cx w mg mb base outer g) (hg : g.StaysIn s.heap) (hd : d + 3 < recursionLimit) (hu : u + 8 < cLine)
  (h : ∀ s', Post [] s s' → Q (.bool (evenR (some 6))) s') :
  wpAny (model pw_ae0023_01 w) (Ar d outer gs u) (call (.ref 1092) [.str "a" t0, .str "d" t1, .str "a" t2]) Q E s := by
  walk_at "f"
  refine wpAny_call ?_
  refine' enter_rest (led := []) (vs := [.str "a" t0, .str "d" t1, .str "a" t2]) (g₁ := fun D => some [("words", .ref D)]) C hg (fun _ q => nomatch q) ?k6 ?k7 (room0 hd) ?k9 (fun _ => rfl) ?kB ?_ ?c2 ?c3 ?c4 ?c5
  case k6 => k_dflt k_is
  case k7 => k_dflt k_is
  case k9 => k_dflt (exact rfl)
  case c5 => k_dflt decide
  case kB => k_dflt (exact fun _ => locs rfl)
  case c2 => exact rfl
  case c3 => exact rfl
  case c4 => exact rfl
  intro D' L' h' hD hL hgL F' N' C' l1 l2
  refine hideE fun E9 => ?_
  have X' := C'.X
  have T' := C'.T
  k_lt l1
  clear l2 hgL C'
  walk_at "g3"
  rw [show Txt.join (PySem.Str.ofString "") [PySem.Str.ofString "a", PySem.Str.ofString "d", PySem.Str.ofString "a"] = PySem.Str.ofString "ada" from by kernel_rfl]
  walk_at "G"
  rename Fr _ _ _ _ => F1
  refine h _ ⟨fun b o e _ => F1.keep b o (hideAll_get _ e (fun q => nomatch q)), fun b o e => ⟨o, F1.keep b o (hideAll_get _ e (fun q => nomatch q))⟩, rfl, id⟩
theorem c_even {r : Option (Fin 7)} {its : List Value} {Q : Value → Shared → Prop} (C : Cx w mg mb base outer g) (hg : g.StaysIn s.heap) (hd : d + 3 < recursionLimit) (hu : u + 8 < cLine)
  (hi : ItemsAre (PySem.strKind pw_ae0023_01 w) (wordsOf r) its) (h : ∀ s', Post [] s s' → Q (.bool (evenR r)) s') :
  wpAny (model pw_ae0023_01 w) (Ar d outer gs u) (call (.ref 1092) its) Q E s := by
  rcases rowOr r with rfl | rfl | rfl | rfl | rfl | rfl | rfl | rfl
  · obtain rfl := ia0 hi; exact c_even_0 C hg hd hu h
  · obtain rfl := ia0 hi; exact c_even_0 C hg hd hu h
  · obtain ⟨t0, rfl⟩ := ia1 hi; exact c_even_1 C hg hd hu h
  · obtain ⟨t0, t1, rfl⟩ := ia2 hi; exact c_even_2 C hg hd hu h
  · obtain ⟨t0, t1, rfl⟩ := ia2 hi; exact c_even_3 C hg hd hu h
  · obtain ⟨t0, t1, t2, rfl⟩ := ia3 hi; exact c_even_4 C hg hd hu h
  · obtain ⟨t0, rfl⟩ := ia1 hi; exact c_even_5 C hg hd hu h
  · obtain ⟨t0, t1, t2, rfl⟩ := ia3 hi; exact c_even_6 C hg hd hu h
theorem c_two_0 {Q : Value → Shared → Prop} (C : Cx w mg mb base outer g) (hg : g.StaysIn s.heap) (hd : d + 3 < recursionLimit) (hu : u + 8 < cLine)
  (h : ∀ s', Post [] s s' → Q (.bool (twoR (some 0))) s') :
  wpAny (model pw_ae0023_01 w) (Ar d outer gs u) (call (.ref 1099) []) Q E s := by
  walk_at "f"
  refine wpAny_call ?_
  refine' enter_rest (led := []) (vs := []) (g₁ := fun D => some [("words", .ref D)]) C hg (fun _ q => nomatch q) ?k6 ?k7 (room0 hd) ?k9 (fun _ => rfl) ?kB ?_ ?c2 ?c3 ?c4 ?c5
  case k6 => k_dflt k_is
  case k7 => k_dflt k_is
  case k9 => k_dflt (exact rfl)
  case c5 => k_dflt decide
  case kB => k_dflt (exact fun _ => locs rfl)
  case c2 => exact rfl
  case c3 => exact rfl
  case c4 => exact rfl
  intro D' L' h' hD hL hgL F' N' C' l1 l2
  refine hideE fun E9 => ?_
  have X' := C'.X
  have T' := C'.T
  k_lt l1
  clear l2 hgL C'
  walk_at "g3"
  rename Fr _ _ _ _ => F1
  refine h _ ⟨fun b o e _ => F1.keep b o (hideAll_get _ e (fun q => nomatch q)), fun b o e => ⟨o, F1.keep b o (hideAll_get _ e (fun q => nomatch q))⟩, rfl, id⟩
theorem c_two_1 {t0 : Nat} {Q : Value → Shared → Prop} (C : Cx w mg mb base outer g) (hg : g.StaysIn s.heap) (hd : d + 3 < recursionLimit) (hu : u + 8 < cLine)
  (h : ∀ s', Post [] s s' → Q (.bool (twoR (some 1))) s') :
  wpAny (model pw_ae0023_01 w) (Ar d outer gs u) (call (.ref 1099) [.str "a" t0]) Q E s := by
  walk_at "f"
  refine wpAny_call ?_
  refine' enter_rest (led := []) (vs := [.str "a" t0]) (g₁ := fun D => some [("words", .ref D)]) C hg (fun _ q => nomatch q) ?k6 ?k7 (room0 hd) ?k9 (fun _ => rfl) ?kB ?_ ?c2 ?c3 ?c4 ?c5
  case k6 => k_dflt k_is
  case k7 => k_dflt k_is
  case k9 => k_dflt (exact rfl)
  case c5 => k_dflt decide
  case kB => k_dflt (exact fun _ => locs rfl)
  case c2 => exact rfl
  case c3 => exact rfl
  case c4 => exact rfl
  intro D' L' h' hD hL hgL F' N' C' l1 l2
  refine hideE fun E9 => ?_
  have X' := C'.X
  have T' := C'.T
  k_lt l1
  clear l2 hgL C'
  walk_at "g3"
  rename Fr _ _ _ _ => F1
  refine h _ ⟨fun b o e _ => F1.keep b o (hideAll_get _ e (fun q => nomatch q)), fun b o e => ⟨o, F1.keep b o (hideAll_get _ e (fun q => nomatch q))⟩, rfl, id⟩
theorem c_two_2 {t0 t1 : Nat} {Q : Value → Shared → Prop} (C : Cx w mg mb base outer g) (hg : g.StaysIn s.heap) (hd : d + 3 < recursionLimit) (hu : u + 8 < cLine)
  (h : ∀ s', Post [] s s' → Q (.bool (twoR (some 2))) s') :
  wpAny (model pw_ae0023_01 w) (Ar d outer gs u) (call (.ref 1099) [.str "b" t0, .str "a" t1]) Q E s := by
  walk_at "f"
  refine wpAny_call ?_
  refine' enter_rest (led := []) (vs := [.str "b" t0, .str "a" t1]) (g₁ := fun D => some [("words", .ref D)]) C hg (fun _ q => nomatch q) ?k6 ?k7 (room0 hd) ?k9 (fun _ => rfl) ?kB ?_ ?c2 ?c3 ?c4 ?c5
  case k6 => k_dflt k_is
  case k7 => k_dflt k_is
  case k9 => k_dflt (exact rfl)
  case c5 => k_dflt decide
  case kB => k_dflt (exact fun _ => locs rfl)
  case c2 => exact rfl
  case c3 => exact rfl
  case c4 => exact rfl
  intro D' L' h' hD hL hgL F' N' C' l1 l2
  refine hideE fun E9 => ?_
  have X' := C'.X
  have T' := C'.T
  k_lt l1
  clear l2 hgL C'
  walk_at "g3"
  rename Fr _ _ _ _ => F1
  refine h _ ⟨fun b o e _ => F1.keep b o (hideAll_get _ e (fun q => nomatch q)), fun b o e => ⟨o, F1.keep b o (hideAll_get _ e (fun q => nomatch q))⟩, rfl, id⟩
theorem c_two_3 {t0 t1 : Nat} {Q : Value → Shared → Prop} (C : Cx w mg mb base outer g) (hg : g.StaysIn s.heap) (hd : d + 3 < recursionLimit) (hu : u + 8 < cLine)
  (h : ∀ s', Post [] s s' → Q (.bool (twoR (some 3))) s') :
  wpAny (model pw_ae0023_01 w) (Ar d outer gs u) (call (.ref 1099) [.str "a" t0, .str "bc" t1]) Q E s := by
  walk_at "f"
  refine wpAny_call ?_
  refine' enter_rest (led := []) (vs := [.str "a" t0, .str "bc" t1]) (g₁ := fun D => some [("words", .ref D)]) C hg (fun _ q => nomatch q) ?k6 ?k7 (room0 hd) ?k9 (fun _ => rfl) ?kB ?_ ?c2 ?c3 ?c4 ?c5
  case k6 => k_dflt k_is
  case k7 => k_dflt k_is
  case k9 => k_dflt (exact rfl)
  case c5 => k_dflt decide
  case kB => k_dflt (exact fun _ => locs rfl)
  case c2 => exact rfl
  case c3 => exact rfl
  case c4 => exact rfl
  intro D' L' h' hD hL hgL F' N' C' l1 l2
  refine hideE fun E9 => ?_
  have X' := C'.X
  have T' := C'.T
  k_lt l1
  clear l2 hgL C'
  walk_at "g3"
  rename Fr _ _ _ _ => F1
  refine h _ ⟨fun b o e _ => F1.keep b o (hideAll_get _ e (fun q => nomatch q)), fun b o e => ⟨o, F1.keep b o (hideAll_get _ e (fun q => nomatch q))⟩, rfl, id⟩
theorem c_two_4 {t0 t1 t2 : Nat} {Q : Value → Shared → Prop} (C : Cx w mg mb base outer g) (hg : g.StaysIn s.heap) (hd : d + 3 < recursionLimit) (hu : u + 8 < cLine)
  (h : ∀ s', Post [] s s' → Q (.bool (twoR (some 4))) s') :
  wpAny (model pw_ae0023_01 w) (Ar d outer gs u) (call (.ref 1099) [.str "c" t0, .str "a" t1, .str "bb" t2]) Q E s := by
  walk_at "f"
  refine wpAny_call ?_
  refine' enter_rest (led := []) (vs := [.str "c" t0, .str "a" t1, .str "bb" t2]) (g₁ := fun D => some [("words", .ref D)]) C hg (fun _ q => nomatch q) ?k6 ?k7 (room0 hd) ?k9 (fun _ => rfl) ?kB ?_ ?c2 ?c3 ?c4 ?c5
  case k6 => k_dflt k_is
  case k7 => k_dflt k_is
  case k9 => k_dflt (exact rfl)
  case c5 => k_dflt decide
  case kB => k_dflt (exact fun _ => locs rfl)
  case c2 => exact rfl
  case c3 => exact rfl
  case c4 => exact rfl
  intro D' L' h' hD hL hgL F' N' C' l1 l2
  refine hideE fun E9 => ?_
  have X' := C'.X
  have T' := C'.T
  k_lt l1
  clear l2 hgL C'
  walk_at "g3"
  rename Fr _ _ _ _ => F1
  refine h _ ⟨fun b o e _ => F1.keep b o (hideAll_get _ e (fun q => nomatch q)), fun b o e => ⟨o, F1.keep b o (hideAll_get _ e (fun q => nomatch q))⟩, rfl, id⟩
theorem c_two_5 {t0 : Nat} {Q : Value → Shared → Prop} (C : Cx w mg mb base outer g) (hg : g.StaysIn s.heap) (hd : d + 3 < recursionLimit) (hu : u + 8 < cLine)
  (h : ∀ s', Post [] s s' → Q (.bool (twoR (some 5))) s') :
  wpAny (model pw_ae0023_01 w) (Ar d outer gs u) (call (.ref 1099) [.str "ee" t0]) Q E s := by
  walk_at "f"
  refine wpAny_call ?_
  refine' enter_rest (led := []) (vs := [.str "ee" t0]) (g₁ := fun D => some [("words", .ref D)]) C hg (fun _ q => nomatch q) ?k6 ?k7 (room0 hd) ?k9 (fun _ => rfl) ?kB ?_ ?c2 ?c3 ?c4 ?c5
  case k6 => k_dflt k_is
  case k7 => k_dflt k_is
  case k9 => k_dflt (exact rfl)
  case c5 => k_dflt decide
  case kB => k_dflt (exact fun _ => locs rfl)
  case c2 => exact rfl
  case c3 => exact rfl
  case c4 => exact rfl
  intro D' L' h' hD hL hgL F' N' C' l1 l2
  refine hideE fun E9 => ?_
  have X' := C'.X
  have T' := C'.T
  k_lt l1
  clear l2 hgL C'
  walk_at "g3"
  rename Fr _ _ _ _ => F1
  refine h _ ⟨fun b o e _ => F1.keep b o (hideAll_get _ e (fun q => nomatch q)), fun b o e => ⟨o, F1.keep b o (hideAll_get _ e (fun q => nomatch q))⟩, rfl, id⟩
theorem c_two_6 {t0 t1 t2 : Nat} {Q : Value → Shared → Prop} (C : Cx w mg mb base outer g) (hg : g.StaysIn s.heap) (hd : d + 3 < recursionLimit) (hu : u + 8 < cLine)
  (h : ∀ s', Post [] s s' → Q (.bool (twoR (some 6))) s') :
  wpAny (model pw_ae0023_01 w) (Ar d outer gs u) (call (.ref 1099) [.str "a" t0, .str "d" t1, .str "a" t2]) Q E s := by
  walk_at "f"
  refine wpAny_call ?_
  refine' enter_rest (led := []) (vs := [.str "a" t0, .str "d" t1, .str "a" t2]) (g₁ := fun D => some [("words", .ref D)]) C hg (fun _ q => nomatch q) ?k6 ?k7 (room0 hd) ?k9 (fun _ => rfl) ?kB ?_ ?c2 ?c3 ?c4 ?c5
  case k6 => k_dflt k_is
  case k7 => k_dflt k_is
  case k9 => k_dflt (exact rfl)
  case c5 => k_dflt decide
  case kB => k_dflt (exact fun _ => locs rfl)
  case c2 => exact rfl
  case c3 => exact rfl
  case c4 => exact rfl
  intro D' L' h' hD hL hgL F' N' C' l1 l2
  refine hideE fun E9 => ?_
  have X' := C'.X
  have T' := C'.T
  k_lt l1
  clear l2 hgL C'
  walk_at "g3"
  rename Fr _ _ _ _ => F1
  refine h _ ⟨fun b o e _ => F1.keep b o (hideAll_get _ e (fun q => nomatch q)), fun b o e => ⟨o, F1.keep b o (hideAll_get _ e (fun q => nomatch q))⟩, rfl, id⟩
theorem c_two {r : Option (Fin 7)} {its : List Value} {Q : Value → Shared → Prop} (C : Cx w mg mb base outer g) (hg : g.StaysIn s.heap) (hd : d + 3 < recursionLimit) (hu : u + 8 < cLine)
  (hi : ItemsAre (PySem.strKind pw_ae0023_01 w) (wordsOf r) its) (h : ∀ s', Post [] s s' → Q (.bool (twoR r)) s') :
  wpAny (model pw_ae0023_01 w) (Ar d outer gs u) (call (.ref 1099) its) Q E s := by
  rcases rowOr r with rfl | rfl | rfl | rfl | rfl | rfl | rfl | rfl
  · obtain rfl := ia0 hi; exact c_two_0 C hg hd hu h
  · obtain rfl := ia0 hi; exact c_two_0 C hg hd hu h
  · obtain ⟨t0, rfl⟩ := ia1 hi; exact c_two_1 C hg hd hu h
  · obtain ⟨t0, t1, rfl⟩ := ia2 hi; exact c_two_2 C hg hd hu h
  · obtain ⟨t0, t1, rfl⟩ := ia2 hi; exact c_two_3 C hg hd hu h
  · obtain ⟨t0, t1, t2, rfl⟩ := ia3 hi; exact c_two_4 C hg hd hu h
  · obtain ⟨t0, rfl⟩ := ia1 hi; exact c_two_5 C hg hd hu h
  · obtain ⟨t0, t1, t2, rfl⟩ := ia3 hi; exact c_two_6 C hg hd hu h
theorem c_rising_0 {Q : Value → Shared → Prop} (C : Cx w mg mb base outer g) (hg : g.StaysIn s.heap) (hd : d + 3 < recursionLimit) (hu : u + 8 < cLine)
  (h : ∀ s', Post [] s s' → Q (.bool (risingR (some 0))) s') :
  wpAny (model pw_ae0023_01 w) (Ar d outer gs u) (call (.ref 1106) []) Q E s := by
  walk_at "f"
  refine wpAny_call ?_
  refine' enter_rest (led := []) (vs := []) (g₁ := fun D => some [("words", .ref D)]) C hg (fun _ q => nomatch q) ?k6 ?k7 (room0 hd) ?k9 (fun _ => rfl) ?kB ?_ ?c2 ?c3 ?c4 ?c5
  case k6 => k_dflt k_is
  case k7 => k_dflt k_is
  case k9 => k_dflt (exact rfl)
  case c5 => k_dflt decide
  case kB => k_dflt (exact fun _ => locs rfl)
  case c2 => exact rfl
  case c3 => exact rfl
  case c4 => exact rfl
  intro D' L' h' hD hL hgL F' N' C' l1 l2
  refine hideE fun E9 => ?_
  have X' := C'.X
  have T' := C'.T
  k_lt l1
  clear l2 hgL C'
  walk_at "g3"
  rw [show Txt.join (PySem.Str.ofString "") [] = PySem.Str.ofString "" from by kernel_rfl]
  walk_at "G"
  rename Fr _ _ _ _ => F1
  refine h _ ⟨fun b o e _ => F1.keep b o (hideAll_get _ e (fun q => nomatch q)), fun b o e => ⟨o, F1.keep b o (hideAll_get _ e (fun q => nomatch q))⟩, rfl, id⟩
theorem c_rising_1 {t0 : Nat} {Q : Value → Shared → Prop} (C : Cx w mg mb base outer g) (hg : g.StaysIn s.heap) (hd : d + 3 < recursionLimit) (hu : u + 8 < cLine)
  (h : ∀ s', Post [] s s' → Q (.bool (risingR (some 1))) s') :
  wpAny (model pw_ae0023_01 w) (Ar d outer gs u) (call (.ref 1106) [.str "a" t0]) Q E s := by
  walk_at "f"
  refine wpAny_call ?_
  refine' enter_rest (led := []) (vs := [.str "a" t0]) (g₁ := fun D => some [("words", .ref D)]) C hg (fun _ q => nomatch q) ?k6 ?k7 (room0 hd) ?k9 (fun _ => rfl) ?kB ?_ ?c2 ?c3 ?c4 ?c5
  case k6 => k_dflt k_is
  case k7 => k_dflt k_is
  case k9 => k_dflt (exact rfl)
  case c5 => k_dflt decide
  case kB => k_dflt (exact fun _ => locs rfl)
  case c2 => exact rfl
  case c3 => exact rfl
  case c4 => exact rfl
  intro D' L' h' hD hL hgL F' N' C' l1 l2
  refine hideE fun E9 => ?_
  have X' := C'.X
  have T' := C'.T
  k_lt l1
  clear l2 hgL C'
  walk_at "g3"
  rw [show Txt.join (PySem.Str.ofString "") [PySem.Str.ofString "a"] = PySem.Str.ofString "a" from by kernel_rfl]
  walk_at "G"
  rename Fr _ _ _ _ => F1
  refine h _ ⟨fun b o e _ => F1.keep b o (hideAll_get _ e (fun q => nomatch q)), fun b o e => ⟨o, F1.keep b o (hideAll_get _ e (fun q => nomatch q))⟩, rfl, id⟩
theorem c_rising_2 {t0 t1 : Nat} {Q : Value → Shared → Prop} (C : Cx w mg mb base outer g) (hg : g.StaysIn s.heap) (hd : d + 3 < recursionLimit) (hu : u + 8 < cLine)
  (h : ∀ s', Post [] s s' → Q (.bool (risingR (some 2))) s') :
  wpAny (model pw_ae0023_01 w) (Ar d outer gs u) (call (.ref 1106) [.str "b" t0, .str "a" t1]) Q E s := by
  walk_at "f"
  refine wpAny_call ?_
  refine' enter_rest (led := []) (vs := [.str "b" t0, .str "a" t1]) (g₁ := fun D => some [("words", .ref D)]) C hg (fun _ q => nomatch q) ?k6 ?k7 (room0 hd) ?k9 (fun _ => rfl) ?kB ?_ ?c2 ?c3 ?c4 ?c5
  case k6 => k_dflt k_is
  case k7 => k_dflt k_is
  case k9 => k_dflt (exact rfl)
  case c5 => k_dflt decide
  case kB => k_dflt (exact fun _ => locs rfl)
  case c2 => exact rfl
  case c3 => exact rfl
  case c4 => exact rfl
  intro D' L' h' hD hL hgL F' N' C' l1 l2
  refine hideE fun E9 => ?_
  have X' := C'.X
  have T' := C'.T
  k_lt l1
  clear l2 hgL C'
  walk_at "g3"
  rw [show Txt.join (PySem.Str.ofString "") [PySem.Str.ofString "b", PySem.Str.ofString "a"] = PySem.Str.ofString "ba" from by kernel_rfl]
  walk_at "G"
  rename Fr _ _ _ _ => F1
  refine h _ ⟨fun b o e _ => F1.keep b o (hideAll_get _ e (fun q => nomatch q)), fun b o e => ⟨o, F1.keep b o (hideAll_get _ e (fun q => nomatch q))⟩, rfl, id⟩
theorem c_rising_3 {t0 t1 : Nat} {Q : Value → Shared → Prop} (C : Cx w mg mb base outer g) (hg : g.StaysIn s.heap) (hd : d + 3 < recursionLimit) (hu : u + 8 < cLine)
  (h : ∀ s', Post [] s s' → Q (.bool (risingR (some 3))) s') :
  wpAny (model pw_ae0023_01 w) (Ar d outer gs u) (call (.ref 1106) [.str "a" t0, .str "bc" t1]) Q E s := by
  walk_at "f"
  refine wpAny_call ?_
  refine' enter_rest (led := []) (vs := [.str "a" t0, .str "bc" t1]) (g₁ := fun D => some [("words", .ref D)]) C hg (fun _ q => nomatch q) ?k6 ?k7 (room0 hd) ?k9 (fun _ => rfl) ?kB ?_ ?c2 ?c3 ?c4 ?c5
  case k6 => k_dflt k_is
  case k7 => k_dflt k_is
  case k9 => k_dflt (exact rfl)
  case c5 => k_dflt decide
  case kB => k_dflt (exact fun _ => locs rfl)
  case c2 => exact rfl
  case c3 => exact rfl
  case c4 => exact rfl
  intro D' L' h' hD hL hgL F' N' C' l1 l2
  refine hideE fun E9 => ?_
  have X' := C'.X
  have T' := C'.T
  k_lt l1
  clear l2 hgL C'
  walk_at "g3"
  rw [show Txt.join (PySem.Str.ofString "") [PySem.Str.ofString "a", PySem.Str.ofString "bc"] = PySem.Str.ofString "abc" from by kernel_rfl]
  walk_at "G"
  rename Fr _ _ _ _ => F1
  refine h _ ⟨fun b o e _ => F1.keep b o (hideAll_get _ e (fun q => nomatch q)), fun b o e => ⟨o, F1.keep b o (hideAll_get _ e (fun q => nomatch q))⟩, rfl, id⟩
theorem c_rising_4 {t0 t1 t2 : Nat} {Q : Value → Shared → Prop} (C : Cx w mg mb base outer g) (hg : g.StaysIn s.heap) (hd : d + 3 < recursionLimit) (hu : u + 8 < cLine)
  (h : ∀ s', Post [] s s' → Q (.bool (risingR (some 4))) s') :
  wpAny (model pw_ae0023_01 w) (Ar d outer gs u) (call (.ref 1106) [.str "c" t0, .str "a" t1, .str "bb" t2]) Q E s := by
  walk_at "f"
  refine wpAny_call ?_
  refine' enter_rest (led := []) (vs := [.str "c" t0, .str "a" t1, .str "bb" t2]) (g₁ := fun D => some [("words", .ref D)]) C hg (fun _ q => nomatch q) ?k6 ?k7 (room0 hd) ?k9 (fun _ => rfl) ?kB ?_ ?c2 ?c3 ?c4 ?c5
  case k6 => k_dflt k_is
  case k7 => k_dflt k_is
  case k9 => k_dflt (exact rfl)
  case c5 => k_dflt decide
  case kB => k_dflt (exact fun _ => locs rfl)
  case c2 => exact rfl
  case c3 => exact rfl
  case c4 => exact rfl
  intro D' L' h' hD hL hgL F' N' C' l1 l2
  refine hideE fun E9 => ?_
  have X' := C'.X
  have T' := C'.T
  k_lt l1
  clear l2 hgL C'
  walk_at "g3"
  rw [show Txt.join (PySem.Str.ofString "") [PySem.Str.ofString "c", PySem.Str.ofString "a", PySem.Str.ofString "bb"] = PySem.Str.ofString "cabb" from by kernel_rfl]
  walk_at "G"
  rename Fr _ _ _ _ => F1
  refine h _ ⟨fun b o e _ => F1.keep b o (hideAll_get _ e (fun q => nomatch q)), fun b o e => ⟨o, F1.keep b o (hideAll_get _ e (fun q => nomatch q))⟩, rfl, id⟩
theorem c_rising_5 {t0 : Nat} {Q : Value → Shared → Prop} (C : Cx w mg mb base outer g) (hg : g.StaysIn s.heap) (hd : d + 3 < recursionLimit) (hu : u + 8 < cLine)
  (h : ∀ s', Post [] s s' → Q (.bool (risingR (some 5))) s') :
  wpAny (model pw_ae0023_01 w) (Ar d outer gs u) (call (.ref 1106) [.str "ee" t0]) Q E s := by
  walk_at "f"
  refine wpAny_call ?_
  refine' enter_rest (led := []) (vs := [.str "ee" t0]) (g₁ := fun D => some [("words", .ref D)]) C hg (fun _ q => nomatch q) ?k6 ?k7 (room0 hd) ?k9 (fun _ => rfl) ?kB ?_ ?c2 ?c3 ?c4 ?c5
  case k6 => k_dflt k_is
  case k7 => k_dflt k_is
  case k9 => k_dflt (exact rfl)
  case c5 => k_dflt decide
  case kB => k_dflt (exact fun _ => locs rfl)
  case c2 => exact rfl
  case c3 => exact rfl
  case c4 => exact rfl
  intro D' L' h' hD hL hgL F' N' C' l1 l2
  refine hideE fun E9 => ?_
  have X' := C'.X
  have T' := C'.T
  k_lt l1
  clear l2 hgL C'
  walk_at "g3"
  rw [show Txt.join (PySem.Str.ofString "") [PySem.Str.ofString "ee"] = PySem.Str.ofString "ee" from by kernel_rfl]
  walk_at "G"
  rename Fr _ _ _ _ => F1
  refine h _ ⟨fun b o e _ => F1.keep b o (hideAll_get _ e (fun q => nomatch q)), fun b o e => ⟨o, F1.keep b o (hideAll_get _ e (fun q => nomatch q))⟩, rfl, id⟩
theorem c_rising_6 {t0 t1 t2 : Nat} {Q : Value → Shared → Prop} (C : Cx w mg mb base outer g) (hg : g.StaysIn s.heap) (hd : d + 3 < recursionLimit) (hu : u + 8 < cLine)
  (h : ∀ s', Post [] s s' → Q (.bool (risingR (some 6))) s') :
  wpAny (model pw_ae0023_01 w) (Ar d outer gs u) (call (.ref 1106) [.str "a" t0, .str "d" t1, .str "a" t2]) Q E s := by
  walk_at "f"
  refine wpAny_call ?_
  refine' enter_rest (led := []) (vs := [.str "a" t0, .str "d" t1, .str "a" t2]) (g₁ := fun D => some [("words", .ref D)]) C hg (fun _ q => nomatch q) ?k6 ?k7 (room0 hd) ?k9 (fun _ => rfl) ?kB ?_ ?c2 ?c3 ?c4 ?c5
  case k6 => k_dflt k_is
  case k7 => k_dflt k_is
  case k9 => k_dflt (exact rfl)
  case c5 => k_dflt decide
  case kB => k_dflt (exact fun _ => locs rfl)
  case c2 => exact rfl
  case c3 => exact rfl
  case c4 => exact rfl
  intro D' L' h' hD hL hgL F' N' C' l1 l2
  refine hideE fun E9 => ?_
  have X' := C'.X
  have T' := C'.T
  k_lt l1
  clear l2 hgL C'
  walk_at "g3"
  rw [show Txt.join (PySem.Str.ofString "") [PySem.Str.ofString "a", PySem.Str.ofString "d", PySem.Str.ofString "a"] = PySem.Str.ofString "ada" from by kernel_rfl]
  walk_at "G"
  rename Fr _ _ _ _ => F1
  refine h _ ⟨fun b o e _ => F1.keep b o (hideAll_get _ e (fun q => nomatch q)), fun b o e => ⟨o, F1.keep b o (hideAll_get _ e (fun q => nomatch q))⟩, rfl, id⟩
theorem c_rising {r : Option (Fin 7)} {its : List Value} {Q : Value → Shared → Prop} (C : Cx w mg mb base outer g) (hg : g.StaysIn s.heap) (hd : d + 3 < recursionLimit) (hu : u + 8 < cLine)
  (hi : ItemsAre (PySem.strKind pw_ae0023_01 w) (wordsOf r) its) (h : ∀ s', Post [] s s' → Q (.bool (risingR r)) s') :
  wpAny (model pw_ae0023_01 w) (Ar d outer gs u) (call (.ref 1106) its) Q E s := by
  rcases rowOr r with rfl | rfl | rfl | rfl | rfl | rfl | rfl | rfl
  · obtain rfl := ia0 hi; exact c_rising_0 C hg hd hu h
  · obtain rfl := ia0 hi; exact c_rising_0 C hg hd hu h
  · obtain ⟨t0, rfl⟩ := ia1 hi; exact c_rising_1 C hg hd hu h
  · obtain ⟨t0, t1, rfl⟩ := ia2 hi; exact c_rising_2 C hg hd hu h
  · obtain ⟨t0, t1, rfl⟩ := ia2 hi; exact c_rising_3 C hg hd hu h
  · obtain ⟨t0, t1, t2, rfl⟩ := ia3 hi; exact c_rising_4 C hg hd hu h
  · obtain ⟨t0, rfl⟩ := ia1 hi; exact c_rising_5 C hg hd hu h
  · obtain ⟨t0, t1, t2, rfl⟩ := ia3 hi; exact c_rising_6 C hg hd hu h
def condB : Fin 3 → Option (Fin 7) → Bool
  | 0 => evenR | 1 => twoR | 2 => risingR
theorem cond_call {f : Fin 3} {r : Option (Fin 7)} {its : List Value} {Q : Value → Shared → Prop} (C : Cx w mg mb base outer g) (hg : g.StaysIn s.heap) (hd : d + 3 < recursionLimit) (hu : u + 8 < cLine)
  (hi : ItemsAre (PySem.strKind pw_ae0023_01 w) (wordsOf r) its) (h : ∀ s', Post [] s s' → Q (.bool (condB f r)) s') :
  wpAny (model pw_ae0023_01 w) (Ar d outer gs u) (call (.ref (condF f)) its) Q E s := by
  match f with
  | 0 => exact c_even C hg hd hu hi h
  | 1 => exact c_two C hg hd hu hi h
  | 2 => exact c_rising C hg hd hu hi h
end
end
section
section
variable {w : World} {mg mb : PySem.Str → Option Value} {base g : Heap} {outer : List Env} {d u : Nat} {gs : Option (List Code)} {E : Value → Shared → Prop} {s : Shared} {A : AD} {σ : SS}
theorem keep_cond (P : Params) (f : Fin 3) : keepIn (K P) (.ref (condF f)) = true := by
  match f with
  | 0 => kernel_rfl
  | 1 => kernel_rfl
  | 2 => kernel_rfl
theorem len_words (r : Option (Fin 7)) : (wordsOf r).length ≤ sizeLine := by
  match r with
  | none => decide
  | some r => exact len_row r
local macro_rules | `(tactic| k_all) => `(tactic| assumption)
def openB (σ : SS) (a b : Fin 5) (m : Fin 3) : Bool := match σ.cond a b m with | none => true | some f => condB f (σ.prm a b m)
theorem next0 {a b : Fin 5} {dm : Fin 3} {td : Nat} {D : Addr} {Q : Value → Shared → Prop} (C : Cx w mg mb base outer g) (Z : Stand w g A σ s) (hd : d + 15 < recursionLimit) (hu : u + 40 < cLine) (ha : a ∈ σ.ns) (hb : b ∈ σ.ns)
  (hD : s.heap.get? D = some (tupOf []) ∧ g.get? D = none)
  (h : ∀ s' l k, Rep w A σ s'.heap → Post [] s s' → s'.heap.get? l = some (listOf (if openB σ a b 0 then #[.ref (A.r b).a] else #[]) k) → s.heap.get? l = none → Q (.ref l) s') :
  wpAny (model pw_ae0023_01 w) (Ar d outer gs u) (call (.ref 1008) [.ref A.m, .ref (A.r a).a, .ref (A.r b).a, .ref D]) Q E s := by
  refine Ob11 ((Z.R.ro a ha).dO) fun r1aT rda => ?_
  refine Ob11 ((Z.R.ro b hb).dO) fun r1bT rdb => ?_
  walk_at "f"
  refine Ob11 (Z.R.mdO) fun t1T md => ?_
  have hl : ∀ p ∈ [(D, tupOf []), ((A.r a).a, instObj 854 (A.r a).dx), ((A.r a).dx, roleO w A a r1aT), ((A.r b).a, instObj 854 (A.r b).dx), ((A.r b).dx, roleO w A b r1bT), (A.m, instObj 1061 A.dm), (A.dm, mgrO w A σ t1T)], s.heap.get? p.1 = some p.2 ∧ g.get? p.1 = none := allCons ⟨hD.1, hD.2⟩ (allCons ⟨(Z.R.ro a ha).i, off_of Z (foot_a ha)⟩ (allCons ⟨rda, off_of Z (foot_dx ha)⟩ (allCons ⟨(Z.R.ro b hb).i, off_of Z (foot_a hb)⟩ (allCons ⟨rdb, off_of Z (foot_dx hb)⟩ (allCons ⟨Z.R.mi, off_of Z foot_m⟩ (allCons ⟨md, off_of Z foot_dm⟩ allNil))))))
  refine wpAny_call ?_
  have Xs := C.X.keeps Z.hg
  refine' enter_def C Z.hg hl ?k6 ?k7 (room0 hd) ?k9 ?kB ?_ ?c2 ?c3 ?c4 ?c5
  walk_at "e2"
  intro L' h' hL hgL F' N' C' l1
  refine hideE fun E9 => ?_
  have G := Grd.enter [] C Z hl hL hgL C'
  have X' := G.X
  have T' := G.T
  k_lt l1
  clear hl hL hgL C' Xs 
  walk_at "g4"
  rename Fr _ _ _ _ => F1
  rename News _ _ _ _ => N1
  rename_i lN _ _ _
  have ow := G.ownNew N1 (mAt 0 rfl) (by simp only [List.forall_mem_cons]; exact ⟨by omega, by omega, by omega, by omega, by omega, by omega, by omega, fun _ q => nomatch q⟩) (fun _ q => nomatch q)
  refine crm_cond (G.cx F1 N1 (by walk_at "h") (by walk_at "H") ?c1 ?c2) (G.st F1 N1 (by walk_at "h") (by walk_at "H") rfl) (roomD hd) (roomU hu) ha hb (fun s₂ R₂ p₂ => ?_)
  case c1 => rfl
  case c2 => rfl
  refine Ob11 ((R₂.ro a ha).dO) fun r1aT rda => ?_
  refine Ob11 ((R₂.ro b hb).dO) fun r1bT rdb => ?_
  refine Ob23 (G.back1 F1 N1 (by walk_at "h") (by walk_at "H") p₂ rfl rfl rfl R₂ [(D, tupOf []), ((A.r a).a, instObj 854 (A.r a).dx), ((A.r a).dx, roleO w A a r1aT), ((A.r b).a, instObj 854 (A.r b).dx), ((A.r b).dx, roleO w A b r1bT), (A.m, instObj 1061 A.dm), (A.dm, mgrO w A σ t1T), (lN, listOf #[] 0)] (allCons (.inr (.inl (by walk_at "n"))) (allCons (.inl ⟨(R₂.ro a ha).i, foot_a ha⟩) (allCons (.inl ⟨rda, foot_dx ha⟩) (allCons (.inl ⟨(R₂.ro b hb).i, foot_a hb⟩) (allCons (.inl ⟨rdb, foot_dx hb⟩) (allCons (.inr (.inl (by walk_at "n"))) (allCons (.inr (.inl (by walk_at "n"))) (allCons (.inr (.inl (by walk_at "n"))) (allNil)))))))))) fun h₂ tl₂ G F₂ N₂ => ?_
  clear F1 N1 X' T' p₂ R₂ rda rdb
  have X' := G.X
  have T' := G.T
  dsimp only [List.cons_append, List.nil_append] at N₂
  have eo : openB σ a b 0 = (match σ.cond a b 0 with | none => true | some f => condB f (σ.prm a b 0)) := rfl
  cases hc : σ.cond a b 0 with
  | none =>
    rw [hc] at eo
    dsimp only at eo
    dsimp only [condV]
    have htl : ∀ p ∈ tl₂, p.1 ≠ lN := fun p hp => G.tx p hp _ (mAt 7 rfl)
    walk_at "g4"
    rename Fr _ _ _ _ => F1
    rename News _ _ _ _ => N1
    have ow2 : ∀ x ∈ [lN], OwnL A σ s s₂ x := fun x hx => by rw [List.mem_singleton.mp hx]; exact ⟨ow.1, ow.2, _, _, G.hex _ (mAt 7 rfl)⟩
    rw [eo] at h
    exact h _ _ _ (G.repX F1 N1 (xs := [lN]) (allCons (.inl (by walk_at "n")) (allCons (.inl (by walk_at "n")) (allCons (.inl (by walk_at "n")) (allCons (.inl (by walk_at "n")) (allCons (.inl (by walk_at "n")) (allCons (.inl (by walk_at "n")) (allCons (.inl (by walk_at "n")) (allCons (.inr (List.mem_singleton.mpr rfl)) allNil)))))))) (by walk_at "H") ow2) (G.postX F1 N1 (xs := [lN]) (allCons (.inl (by walk_at "n")) (allCons (.inl (by walk_at "n")) (allCons (.inl (by walk_at "n")) (allCons (.inl (by walk_at "n")) (allCons (.inl (by walk_at "n")) (allCons (.inl (by walk_at "n")) (allCons (.inl (by walk_at "n")) (allCons (.inr ⟨List.mem_singleton.mpr rfl, _, (by walk_at "n")⟩) allNil)))))))) (by walk_at "H") (fun x hx => by rw [List.mem_singleton.mp hx]; exact ow.1) rfl rfl id) (N1.get (mAt 7 rfl)) ow.1
  | some f =>
    rw [hc] at eo
    dsimp only at eo
    dsimp only [condV]
    walk_at "g4"
    rename Fr _ _ _ _ => F1
    rename News _ _ _ _ => N1
    refine crm_prm0 (D := 0) (dm := 0) (td := 0) (k0 := 0) (G.cx F1 N1 (by walk_at "h") (by walk_at "H") ?c1 ?c2) (G.st F1 N1 (by walk_at "h") (by walk_at "H") rfl) (roomD hd) (roomU hu) ha hb (fun s₂ lp its kp R₂ p₂ hlp hip hnp => ?_)
    case c1 => rfl
    case c2 => rfl
    refine Ob11 ((R₂.ro a ha).dO) fun r1azT rdaz => ?_
    refine Ob11 ((R₂.ro b hb).dO) fun r1bzT rdbz => ?_
    refine Ob23 (G.back1 F1 N1 (by walk_at "h") (by walk_at "H") p₂ rfl rfl rfl R₂ [(lp, listOf its kp), (D, tupOf []), ((A.r a).a, instObj 854 (A.r a).dx), ((A.r a).dx, roleO w A a r1azT), ((A.r b).a, instObj 854 (A.r b).dx), ((A.r b).dx, roleO w A b r1bzT), (A.m, instObj 1061 A.dm), (A.dm, mgrO w A σ t1T), (lN, listOf #[] 0)] (allCons (.inr (.inr ⟨hlp, hnp⟩)) (allCons (.inr (.inl (by walk_at "n"))) (allCons (.inl ⟨(R₂.ro a ha).i, foot_a ha⟩) (allCons (.inl ⟨rdaz, foot_dx ha⟩) (allCons (.inl ⟨(R₂.ro b hb).i, foot_a hb⟩) (allCons (.inl ⟨rdbz, foot_dx hb⟩) (allCons (.inr (.inl (by walk_at "n"))) (allCons (.inr (.inl (by walk_at "n"))) (allCons (.inr (.inl (by walk_at "n"))) (allNil))))))))))) fun h₂ tl₂ G F₂ N₂ => ?_
    clear F1 N1 X' T' p₂ R₂ rdaz rdbz
    have X' := G.X
    have T' := G.T
    dsimp only [List.cons_append, List.nil_append] at N₂
    walk_at "g4"
    refine callWith_S X' (keep_cond _ f) ?_
    walk_at "g4"
    rename Fr _ _ _ _ => F1
    rename News _ _ _ _ => N1
    refine star_seq F1 N1 (by walk_at "n") rfl rfl (.inl rfl) rfl (by rw [← Array.length_toList, ← hip.length]; exact len_words _) (fun h' F' N' => ⟨X'.keeps F'.keep, ?_⟩)
    clear F1 N1
    rename Fr _ _ _ _ => F1
    rename News _ _ _ _ => N1
    refine cond_call (G.cx F1 N1 (by walk_at "h") (by walk_at "H") ?c1 ?c2) (G.st F1 N1 (by walk_at "h") (by walk_at "H") rfl).hg (roomD hd) (roomU hu) hip (fun s₂ p₂ => ?_)
    case c1 => rfl
    case c2 => rfl
    have R₂ : Rep w A σ s₂.heap := (G.rep F1 N1 (by walk_at "h") (by walk_at "H")).kept (M := []) (fun b o e n => p₂.keep b o e n) NoTup.nil (fun _ _ q => nomatch q) (fun q => nomatch q) (fun q => nomatch q)
    refine Ob11 ((R₂.ro a ha).dO) fun r1ayT rday => ?_
    refine Ob11 ((R₂.ro b hb).dO) fun r1byT rdby => ?_
    refine Ob23 (G.back1 F1 N1 (by walk_at "h") (by walk_at "H") p₂ rfl rfl rfl R₂ [(D, tupOf []), ((A.r a).a, instObj 854 (A.r a).dx), ((A.r a).dx, roleO w A a r1ayT), ((A.r b).a, instObj 854 (A.r b).dx), ((A.r b).dx, roleO w A b r1byT), (A.m, instObj 1061 A.dm), (A.dm, mgrO w A σ t1T), (lN, listOf #[] 0)] (allCons (.inr (.inl (by walk_at "n"))) (allCons (.inl ⟨(R₂.ro a ha).i, foot_a ha⟩) (allCons (.inl ⟨rday, foot_dx ha⟩) (allCons (.inl ⟨(R₂.ro b hb).i, foot_a hb⟩) (allCons (.inl ⟨rdby, foot_dx hb⟩) (allCons (.inr (.inl (by walk_at "n"))) (allCons (.inr (.inl (by walk_at "n"))) (allCons (.inr (.inl (by walk_at "n"))) (allNil)))))))))) fun h₂ tl₂ G F₂ N₂ => ?_
    clear F1 N1 X' T' p₂ R₂ rday rdby
    have X' := G.X
    have T' := G.T
    dsimp only [List.cons_append, List.nil_append] at N₂
    have htl : ∀ p ∈ tl₂, p.1 ≠ lN := fun p hp => G.tx p hp _ (mAt 7 rfl)
    rw [← eo]
    cases ho : openB σ a b 0 with
    | true =>
      rw [ho] at h
      walk_at "g4"
      rename Fr _ _ _ _ => F1
      rename News _ _ _ _ => N1
      have ow2 : ∀ x ∈ [lN], OwnL A σ s s₂ x := fun x hx => by rw [List.mem_singleton.mp hx]; exact ⟨ow.1, ow.2, _, _, G.hex _ (mAt 7 rfl)⟩
      dsimp only
      exact h _ _ _ (G.repX F1 N1 (xs := [lN]) (allCons (.inl (by walk_at "n")) (allCons (.inl (by walk_at "n")) (allCons (.inl (by walk_at "n")) (allCons (.inl (by walk_at "n")) (allCons (.inl (by walk_at "n")) (allCons (.inl (by walk_at "n")) (allCons (.inl (by walk_at "n")) (allCons (.inr (List.mem_singleton.mpr rfl)) allNil)))))))) (by walk_at "H") ow2) (G.postX F1 N1 (xs := [lN]) (allCons (.inl (by walk_at "n")) (allCons (.inl (by walk_at "n")) (allCons (.inl (by walk_at "n")) (allCons (.inl (by walk_at "n")) (allCons (.inl (by walk_at "n")) (allCons (.inl (by walk_at "n")) (allCons (.inl (by walk_at "n")) (allCons (.inr ⟨List.mem_singleton.mpr rfl, _, (by walk_at "n")⟩) allNil)))))))) (by walk_at "H") (fun x hx => by rw [List.mem_singleton.mp hx]; exact ow.1) rfl rfl id) (N1.get (mAt 7 rfl)) ow.1
    | false =>
      rw [ho] at h
      walk_at "g4"
      rename Fr _ _ _ _ => F1
      rename News _ _ _ _ => N1
      dsimp only
      exact h _ _ _ (G.rep F1 N1 (by walk_at "h") (by walk_at "H")) (G.post F1 N1 (fun p hp => .inl (by revert p; walk_at "h")) (by walk_at "H") rfl rfl id) (N1.get (mAt 7 rfl)) ow.1
theorem nextT {a b : Fin 5} {dm : Fin 3} {td : Nat} {D : Addr} {Q : Value → Shared → Prop} (C : Cx w mg mb base outer g) (Z : Stand w g A σ s) (hd : d + 15 < recursionLimit) (hu : u + 40 < cLine) (ha : a ∈ σ.ns) (hb : b ∈ σ.ns)
  (hD : s.heap.get? D = some (tupOf [.str (domS dm) td]) ∧ g.get? D = none)
  (h : ∀ s' l k, Rep w A σ s'.heap → Post [] s s' → s'.heap.get? l = some (listOf (if openB σ a b dm then #[.ref (A.r b).a] else #[]) k) → s.heap.get? l = none → Q (.ref l) s') :
  wpAny (model pw_ae0023_01 w) (Ar d outer gs u) (call (.ref 1008) [.ref A.m, .ref (A.r a).a, .ref (A.r b).a, .ref D]) Q E s := by
  refine Ob11 ((Z.R.ro a ha).dO) fun r1aT rda => ?_
  refine Ob11 ((Z.R.ro b hb).dO) fun r1bT rdb => ?_
  walk_at "f"
  refine Ob11 (Z.R.mdO) fun t1T md => ?_
  have hl : ∀ p ∈ [(D, tupOf [.str (domS dm) td]), ((A.r a).a, instObj 854 (A.r a).dx), ((A.r a).dx, roleO w A a r1aT), ((A.r b).a, instObj 854 (A.r b).dx), ((A.r b).dx, roleO w A b r1bT), (A.m, instObj 1061 A.dm), (A.dm, mgrO w A σ t1T)], s.heap.get? p.1 = some p.2 ∧ g.get? p.1 = none := allCons ⟨hD.1, hD.2⟩ (allCons ⟨(Z.R.ro a ha).i, off_of Z (foot_a ha)⟩ (allCons ⟨rda, off_of Z (foot_dx ha)⟩ (allCons ⟨(Z.R.ro b hb).i, off_of Z (foot_a hb)⟩ (allCons ⟨rdb, off_of Z (foot_dx hb)⟩ (allCons ⟨Z.R.mi, off_of Z foot_m⟩ (allCons ⟨md, off_of Z foot_dm⟩ allNil))))))
  refine wpAny_call ?_
  have Xs := C.X.keeps Z.hg
  refine' enter_def C Z.hg hl ?k6 ?k7 (room0 hd) ?k9 ?kB ?_ ?c2 ?c3 ?c4 ?c5
  walk_at "e2"
  intro L' h' hL hgL F' N' C' l1
  refine hideE fun E9 => ?_
  have G := Grd.enter [] C Z hl hL hgL C'
  have X' := G.X
  have T' := G.T
  k_lt l1
  clear hl hL hgL C' Xs 
  walk_at "g4"
  rename Fr _ _ _ _ => F1
  rename News _ _ _ _ => N1
  refine item_tupleT (j := 0) ⟨_, N1.get (by walk_at "n"), rfl, _, rfl⟩ (by decide) (by decide) rfl rfl ?_
  walk_at "g4"
  rename Fr _ _ _ _ => F1
  rename News _ _ _ _ => N1
  rename_i lN _ _ _
  have ow := G.ownNew N1 (mAt 0 rfl) (by simp only [List.forall_mem_cons]; exact ⟨by omega, by omega, by omega, by omega, by omega, by omega, by omega, fun _ q => nomatch q⟩) (fun _ q => nomatch q)
  refine crm_dom_cond (dm := dm) (G.cx F1 N1 (by walk_at "h") (by walk_at "H") ?c1 ?c2) (G.st F1 N1 (by walk_at "h") (by walk_at "H") rfl) (roomD hd) (roomU hu) ha hb (fun s₂ R₂ p₂ => ?_)
  case c1 => rfl
  case c2 => rfl
  refine Ob11 ((R₂.ro a ha).dO) fun r1aT rda => ?_
  refine Ob11 ((R₂.ro b hb).dO) fun r1bT rdb => ?_
  refine Ob23 (G.back1 F1 N1 (by walk_at "h") (by walk_at "H") p₂ rfl rfl rfl R₂ [(D, tupOf [.str (domS dm) td]), ((A.r a).a, instObj 854 (A.r a).dx), ((A.r a).dx, roleO w A a r1aT), ((A.r b).a, instObj 854 (A.r b).dx), ((A.r b).dx, roleO w A b r1bT), (A.m, instObj 1061 A.dm), (A.dm, mgrO w A σ t1T), (lN, listOf #[] 0)] (allCons (.inr (.inl (by walk_at "n"))) (allCons (.inl ⟨(R₂.ro a ha).i, foot_a ha⟩) (allCons (.inl ⟨rda, foot_dx ha⟩) (allCons (.inl ⟨(R₂.ro b hb).i, foot_a hb⟩) (allCons (.inl ⟨rdb, foot_dx hb⟩) (allCons (.inr (.inl (by walk_at "n"))) (allCons (.inr (.inl (by walk_at "n"))) (allCons (.inr (.inl (by walk_at "n"))) (allNil)))))))))) fun h₂ tl₂ G F₂ N₂ => ?_
  clear F1 N1 X' T' p₂ R₂ rda rdb
  have X' := G.X
  have T' := G.T
  dsimp only [List.cons_append, List.nil_append] at N₂
  have eo : openB σ a b dm = (match σ.cond a b dm with | none => true | some f => condB f (σ.prm a b dm)) := rfl
  cases hc : σ.cond a b dm with
  | none =>
    rw [hc] at eo
    dsimp only at eo
    dsimp only [condV]
    have htl : ∀ p ∈ tl₂, p.1 ≠ lN := fun p hp => G.tx p hp _ (mAt 7 rfl)
    walk_at "g4"
    rename Fr _ _ _ _ => F1
    rename News _ _ _ _ => N1
    have ow2 : ∀ x ∈ [lN], OwnL A σ s s₂ x := fun x hx => by rw [List.mem_singleton.mp hx]; exact ⟨ow.1, ow.2, _, _, G.hex _ (mAt 7 rfl)⟩
    rw [eo] at h
    exact h _ _ _ (G.repX F1 N1 (xs := [lN]) (allCons (.inl (by walk_at "n")) (allCons (.inl (by walk_at "n")) (allCons (.inl (by walk_at "n")) (allCons (.inl (by walk_at "n")) (allCons (.inl (by walk_at "n")) (allCons (.inl (by walk_at "n")) (allCons (.inl (by walk_at "n")) (allCons (.inr (List.mem_singleton.mpr rfl)) allNil)))))))) (by walk_at "H") ow2) (G.postX F1 N1 (xs := [lN]) (allCons (.inl (by walk_at "n")) (allCons (.inl (by walk_at "n")) (allCons (.inl (by walk_at "n")) (allCons (.inl (by walk_at "n")) (allCons (.inl (by walk_at "n")) (allCons (.inl (by walk_at "n")) (allCons (.inl (by walk_at "n")) (allCons (.inr ⟨List.mem_singleton.mpr rfl, _, (by walk_at "n")⟩) allNil)))))))) (by walk_at "H") (fun x hx => by rw [List.mem_singleton.mp hx]; exact ow.1) rfl rfl id) (N1.get (mAt 7 rfl)) ow.1
  | some f =>
    rw [hc] at eo
    dsimp only at eo
    dsimp only [condV]
    walk_at "g4"
    rename Fr _ _ _ _ => F1
    rename News _ _ _ _ => N1
    refine crm_prmT (dm := dm) (k0 := 0) (G.cxx (xs := [D]) F1 (fun x hx => by rw [List.mem_singleton.mp hx]; exact G.priv N1 (by walk_at "n")) ?c1 ?c2) (G.stx F1 N1 (by walk_at "h") (by walk_at "H") rfl) (roomD hd) (roomU hu) ha hb ⟨N1.get (by walk_at "n"), inX_none (by simp)⟩ (fun s₂ lp its kp R₂ p₂ hlp hip hnp => ?_)
    case c1 => rfl
    case c2 => rfl
    refine Ob11 ((R₂.ro a ha).dO) fun r1azT rdaz => ?_
    refine Ob11 ((R₂.ro b hb).dO) fun r1bzT rdbz => ?_
    refine Ob23 (G.back1 F1 N1 (by walk_at "h") (by walk_at "H") p₂ rfl rfl rfl R₂ [(lp, listOf its kp), (D, tupOf [.str (domS dm) td]), ((A.r a).a, instObj 854 (A.r a).dx), ((A.r a).dx, roleO w A a r1azT), ((A.r b).a, instObj 854 (A.r b).dx), ((A.r b).dx, roleO w A b r1bzT), (A.m, instObj 1061 A.dm), (A.dm, mgrO w A σ t1T), (lN, listOf #[] 0)] (allCons (.inr (.inr ⟨hlp, hnp⟩)) (allCons (.inr (.inl (by walk_at "n"))) (allCons (.inl ⟨(R₂.ro a ha).i, foot_a ha⟩) (allCons (.inl ⟨rdaz, foot_dx ha⟩) (allCons (.inl ⟨(R₂.ro b hb).i, foot_a hb⟩) (allCons (.inl ⟨rdbz, foot_dx hb⟩) (allCons (.inr (.inl (by walk_at "n"))) (allCons (.inr (.inl (by walk_at "n"))) (allCons (.inr (.inl (by walk_at "n"))) (allNil))))))))))) fun h₂ tl₂ G F₂ N₂ => ?_
    clear F1 N1 X' T' p₂ R₂ rdaz rdbz
    have X' := G.X
    have T' := G.T
    dsimp only [List.cons_append, List.nil_append] at N₂
    walk_at "g4"
    refine callWith_S X' (keep_cond _ f) ?_
    walk_at "g4"
    rename Fr _ _ _ _ => F1
    rename News _ _ _ _ => N1
    refine star_seq F1 N1 (by walk_at "n") rfl rfl (.inl rfl) rfl (by rw [← Array.length_toList, ← hip.length]; exact len_words _) (fun h' F' N' => ⟨X'.keeps F'.keep, ?_⟩)
    clear F1 N1
    rename Fr _ _ _ _ => F1
    rename News _ _ _ _ => N1
    refine cond_call (G.cx F1 N1 (by walk_at "h") (by walk_at "H") ?c1 ?c2) (G.st F1 N1 (by walk_at "h") (by walk_at "H") rfl).hg (roomD hd) (roomU hu) hip (fun s₂ p₂ => ?_)
    case c1 => rfl
    case c2 => rfl
    have R₂ : Rep w A σ s₂.heap := (G.rep F1 N1 (by walk_at "h") (by walk_at "H")).kept (M := []) (fun b o e n => p₂.keep b o e n) NoTup.nil (fun _ _ q => nomatch q) (fun q => nomatch q) (fun q => nomatch q)
    refine Ob11 ((R₂.ro a ha).dO) fun r1ayT rday => ?_
    refine Ob11 ((R₂.ro b hb).dO) fun r1byT rdby => ?_
    refine Ob23 (G.back1 F1 N1 (by walk_at "h") (by walk_at "H") p₂ rfl rfl rfl R₂ [(D, tupOf [.str (domS dm) td]), ((A.r a).a, instObj 854 (A.r a).dx), ((A.r a).dx, roleO w A a r1ayT), ((A.r b).a, instObj 854 (A.r b).dx), ((A.r b).dx, roleO w A b r1byT), (A.m, instObj 1061 A.dm), (A.dm, mgrO w A σ t1T), (lN, listOf #[] 0)] (allCons (.inr (.inl (by walk_at "n"))) (allCons (.inl ⟨(R₂.ro a ha).i, foot_a ha⟩) (allCons (.inl ⟨rday, foot_dx ha⟩) (allCons (.inl ⟨(R₂.ro b hb).i, foot_a hb⟩) (allCons (.inl ⟨rdby, foot_dx hb⟩) (allCons (.inr (.inl (by walk_at "n"))) (allCons (.inr (.inl (by walk_at "n"))) (allCons (.inr (.inl (by walk_at "n"))) (allNil)))))))))) fun h₂ tl₂ G F₂ N₂ => ?_
    clear F1 N1 X' T' p₂ R₂ rday rdby
    have X' := G.X
    have T' := G.T
    dsimp only [List.cons_append, List.nil_append] at N₂
    have htl : ∀ p ∈ tl₂, p.1 ≠ lN := fun p hp => G.tx p hp _ (mAt 7 rfl)
    rw [← eo]
    cases ho : openB σ a b dm with
    | true =>
      rw [ho] at h
      walk_at "g4"
      rename Fr _ _ _ _ => F1
      rename News _ _ _ _ => N1
      have ow2 : ∀ x ∈ [lN], OwnL A σ s s₂ x := fun x hx => by rw [List.mem_singleton.mp hx]; exact ⟨ow.1, ow.2, _, _, G.hex _ (mAt 7 rfl)⟩
      dsimp only
      exact h _ _ _ (G.repX F1 N1 (xs := [lN]) (allCons (.inl (by walk_at "n")) (allCons (.inl (by walk_at "n")) (allCons (.inl (by walk_at "n")) (allCons (.inl (by walk_at "n")) (allCons (.inl (by walk_at "n")) (allCons (.inl (by walk_at "n")) (allCons (.inl (by walk_at "n")) (allCons (.inr (List.mem_singleton.mpr rfl)) allNil)))))))) (by walk_at "H") ow2) (G.postX F1 N1 (xs := [lN]) (allCons (.inl (by walk_at "n")) (allCons (.inl (by walk_at "n")) (allCons (.inl (by walk_at "n")) (allCons (.inl (by walk_at "n")) (allCons (.inl (by walk_at "n")) (allCons (.inl (by walk_at "n")) (allCons (.inl (by walk_at "n")) (allCons (.inr ⟨List.mem_singleton.mpr rfl, _, (by walk_at "n")⟩) allNil)))))))) (by walk_at "H") (fun x hx => by rw [List.mem_singleton.mp hx]; exact ow.1) rfl rfl id) (N1.get (mAt 7 rfl)) ow.1
    | false =>
      rw [ho] at h
      walk_at "g4"
      rename Fr _ _ _ _ => F1
      rename News _ _ _ _ => N1
      dsimp only
      exact h _ _ _ (G.rep F1 N1 (by walk_at "h") (by walk_at "H")) (G.post F1 N1 (fun p hp => .inl (by revert p; walk_at "h")) (by walk_at "H") rfl rfl id) (N1.get (mAt 7 rfl)) ow.1
end
end
section
section
variable {w : World} {mg mb : PySem.Str → Option Value} {base g : Heap} {outer : List Env} {d u : Nat} {gs : Option (List Code)} {E : Value → Shared → Prop} {s : Shared} {led : List (Addr × Obj)}
  {R : Result → Shared → Prop} {name qual : PySem.Str} {params : Arguments} {body : List Stmt} {scope : Scope} {dV kV doc pm cdv ct oc : Value} {an od : Option Addr} {osl : Array (Option Value)} {f : Addr} {args : Args} {binds : Addr → List (PySem.Str × Value)}
  {vs : List Value} {g₁ : Addr → Option (List (PySem.Str × Value))}
theorem enter_restC (C : Cx w mg mb base outer g) (hg : g.StaysIn s.heap) (hl : ∀ p ∈ led, s.heap.get? p.1 = some p.2 ∧ g.get? p.1 = none)
    (ho : (K w.params).lookup f = some ⟨oc, od, .func (fnOf name qual params body scope dV kV doc pm an cdv ct), osl⟩) (hcd : codeIn (K w.params) cdv qual = true) (hroom : d < recursionLimit)
    (hp : peek1 (K w.params) ⟨pw_ae0023_01, w.params⟩ (bindArgs (fnOf name qual params body scope dV kV doc pm an cdv ct) args) = some (tupOf vs, g₁)) (hgg : ∀ D, g₁ D = some (binds D))
    (hkind : ∀ D, ((binds D).all fun y => scope.names.lookup y.1 == some .local || scope.names.lookup y.1 == some .cell) = true)
    (hnd : ((cellsFrom 0 scope.names []).map (·.1)).Nodup)
    (h : ∀ D L' h₁ tk cells, s.heap.get? D = none → s.heap.get? L' = none → (∀ b o, g.get? b = some o → b < L') → Fr (restH s.heap led) L' h₁ (bindL (envOfC qual scope L' f cdv).kindOf (binds D) fun _ => none) → News (restH s.heap led) L' h₁ (cells ++ (D, tupOf vs) :: led) →
      CellsAre (bindC (envOfC qual scope L' f cdv).kindOf (binds D) fun _ => none) (cellsFrom (L' + 1) scope.names []) cells → Cx w mg mb base outer (restH s.heap led) → (∀ p ∈ (D, tupOf vs) :: led, p.1 < L') → (∀ p ∈ led, p.1 < D) →
      wpAny (model pw_ae0023_01 w) ((Ar d outer gs u).deeper (envOfC qual scope L' f cdv)) (execs body (envOfC qual scope L' f cdv))
        (fun fl s' => R (.ok (.ret (match fl with | .ret v => v | _ => .none))) s')
        (fun e s' => wpAny (model pw_ae0023_01 w) ((Ar d outer gs u).deeper (envOfC qual scope L' f cdv)) (leaving (envOfC qual scope L' f cdv) e) (fun _ s'' => R (.error e) s'') (fun e' s'' => R (.error e') s'') s')
        { s with heap := h₁, toks := tk })
    (hco : scope.isCoroutine = false) (hgen : scope.isGenerator = false) (hk : scope.kind = .function) : codeAny (model pw_ae0023_01 w) (Ar d outer gs u) (.call (.ref f) args) R s := by
  have C' := C.keeps (restH_of hg hl)
  have X := C.X.keeps hg
  have T := C.T.keeps hg
  refine codeAny_call_function (fd := fnOf name qual params body scope dV kV doc pm an cdv ct) (body := body) hroom (X _ _ ho) rfl hco hgen rfl (codeRec_of X hcd) ?_
  refine wp_peekA (o := tupOf vs) (r := binds) X ?_ _ g₁ hp hgg
  have kp : ∀ b o, s.heap.get? b = some o → (s.heap.push (tupOf vs)).get? b = some o := fun b o e => Heap.get?_push_of_some _ e
  refine wpAny_newFunctionEnv_cells hk (kindsX (hkind _) _) fun env' he s' x => ?_
  subst he
  refine ⟨(T.nolimit.keeps kp).keeps x.toInCall.keep, codeAny_func ?_⟩
  obtain ⟨h₁, tk, rfl, _⟩ := x.done
  have hk₁ := x.toInCall.keep
  have hsz : (s.heap.push (tupOf vs)).objs.size = s.heap.objs.size + 1 := by rw [Heap.size_push]
  have hD : (s.heap.push (tupOf vs)).get? s.heap.objs.size = some (tupOf vs) := Heap.get?_push_size _ rfl
  have lt : s.heap.objs.size < (s.heap.push (tupOf vs)).objs.size := by rw [hsz]; exact Nat.lt_succ_self _
  obtain ⟨cells, NC, Y⟩ := Cl.news (h₀ := s.heap.push (tupOf vs)) (Nat.le_refl _) fun n c hm => ⟨x.cell n c (lookup_of_mem_nodup (cellsFrom_names scope.names 0 ((s.heap.push (tupOf vs)).objs.size + 1) [] [] rfl ▸ hnd) hm), x.above n c hm⟩
  refine h s.heap.objs.size (s.heap.push (tupOf vs)).objs.size h₁ tk cells (Heap.get?_none_of_le (Nat.le_refl _)) (Heap.get?_none_of_le (Nat.le_of_lt lt)) (fun b o e => Nat.lt_trans (Heap.lt_size (hg b o e)) lt)
    ⟨x.toInCall.ns, fun b o e => hk₁ b o (kp b o (of_hideAll _ e)), by rw [hideAll_size]; exact Nat.le_of_lt lt⟩ (fun p hp => ?_) Y C' (fun p hp => ?_) (fun p hp => Heap.lt_size (hl p hp).1)
  · rcases List.mem_append.mp hp with hp | hp
    · refine ⟨(NC p hp).1, (NC p hp).2.1, ?_⟩
      cases q : (restH s.heap led).get? p.1 with
      | none => rfl
      | some o => have := kp _ _ (of_hideAll _ q); rw [(NC p hp).2.2] at this; cases this
    · rcases List.mem_cons.mp hp with rfl | hp
      · refine ⟨hk₁ _ _ hD, Nat.ne_of_lt lt, ?_⟩
        cases q : (restH s.heap led).get? s.heap.objs.size with
        | none => rfl
        | some o => exact absurd (Heap.lt_size (of_hideAll _ q)) (Nat.lt_irrefl _)
      · exact ⟨hk₁ _ _ (kp _ _ (hl p hp).1), Nat.ne_of_lt (Nat.lt_trans (Heap.lt_size (hl p hp).1) lt), hideAll_none _ (List.mem_map_of_mem hp)⟩
  · rcases List.mem_cons.mp hp with rfl | hp
    · exact lt
    · exact Nat.lt_trans (Heap.lt_size (hl p hp).1) lt
end
def stepN (σ : SS) (m : Fin 3) (x : Fin 5) (nx : List (Fin 5)) (y : Fin 5) : List (Fin 5) := nx ++ (if openB σ x y m then [y] else []).filter fun v => decide (v ∉ nx)
def stepX (σ : SS) (m : Fin 3) (nx : List (Fin 5)) (x : Fin 5) : List (Fin 5) := (σ.out x).foldl (stepN σ m x) nx
noncomputable def hlF (σ : SS) (t : Fin 5) (m : Fin 3) : Nat → List (Fin 5) → Bool
  | 0, _ => false
  | n + 1, l => if t ∈ l then true else hlF σ t m n (l.foldl (stepX σ m) [])
end
section
section
variable {w : World} {A : Around} {E : Value → Shared → Prop} {s : Shared} {env : Env}
theorem is_elt2 {x y : PySem.Str} {px py pos : Pos} {scope : Scope} {cl : List (PySem.Str × Addr)} {C c a b bi : Addr} {code : Value} {oa ob : Obj} {m : PySem.Str → Option Value} {Q : Value → Shared → Prop}
    (hkind : scope.kind = .function) (hy : scope.names.lookup y = some .local) (hdx : (x == ("__debug__" : PySem.Str)) = false) (hdy : (y == ("__debug__" : PySem.Str)) = false) (hcd : (x == ("__classdict__" : PySem.Str)) = false)
    (hx : scope.names.lookup x = some .free) (hc : cl.lookup x = some c) (hcell : s.heap.IsCell c (some (.ref a))) (hn : s.heap.Ns C m) (hm : m y = some (.ref b))
    (ha : s.heap.get? a = some oa) (hb : s.heap.get? b = some ob) (hcls : oa.cls ≠ .type "tuple") (h : Q (.bool (decide (a = b))) s) :
    wpAny (model pw_ae0023_01 w) A (eval (.Compare (.Name x px) [.Is] [.Name y py] pos) (genEnv scope cl C code bi env)) Q E s := by
  have hk : (genEnv scope cl C code bi env).scope.kind = .function := hkind
  refine wpAny_Compare1 ?_
  refine wpAny_Name (wpAny_loadName_free hk hx hc hcell ?_ hcd) hdx
  refine wpAny_Name (wpAny_loadName_local hk hy hn hm ?_) hdy
  by_cases q : a = b
  · subst q
    refine wpAny_is_ref_self ?_
    rw [decide_eq_true rfl] at h
    exact h
  · refine wpAny_is_ref_other q ha hb hcls ?_
    rw [decide_eq_false q] at h
    exact h
end
section
variable {w : World} {A : AD} {σ : SS} {h : Heap}
theorem mem_refs (R : Rep w A σ h) {y : Fin 5} (hy : y ∈ σ.ns) {nx : List (Fin 5)} (hn : ∀ x ∈ nx, x ∈ σ.ns) : Value.ref (A.r y).a ∈ (refs A nx).toList ↔ y ∈ nx := by
  simp only [refs, List.mem_map]
  constructor
  · rintro ⟨z, hz, e⟩
    have := R.inj (hn z hz) hy (by injection e)
    subst this; exact hz
  · exact fun hz => ⟨y, hz, rfl⟩
theorem step_refs (R : Rep w A σ h) {x y : Fin 5} {m : Fin 3} (hy : y ∈ σ.ns) {nx : List (Fin 5)} (hn : ∀ x ∈ nx, x ∈ σ.ns) :
    (refs A nx) ++ ((if openB σ x y m then #[Value.ref (A.r y).a] else #[]).toList.filter fun v => !decide (v ∈ (refs A nx).toList)).toArray = refs A (stepN σ m x nx y) := by
  unfold stepN
  cases openB σ x y m with
  | false => simp [refs]
  | true =>
    by_cases q : y ∈ nx
    · have e : decide (Value.ref (A.r y).a ∈ (refs A nx).toList) = true := decide_eq_true ((mem_refs R hy hn).mpr q)
      simp only [if_true, List.filter_cons, e, List.filter_nil, q]
      simp
    · have e : decide (Value.ref (A.r y).a ∈ (refs A nx).toList) = false := decide_eq_false fun z => q ((mem_refs R hy hn).mp z)
      simp only [if_true, List.filter_cons, e, List.filter_nil, q]
      simp [refs]
theorem stepN_ok {x y : Fin 5} {m : Fin 3} {nx : List (Fin 5)} (hy : y ∈ σ.ns) (hn : nx.Nodup ∧ ∀ x ∈ nx, x ∈ σ.ns) : (stepN σ m x nx y).Nodup ∧ ∀ z ∈ stepN σ m x nx y, z ∈ σ.ns := by
  unfold stepN
  refine ⟨?_, fun z hz => ?_⟩
  · rw [List.nodup_append]
    refine ⟨hn.1, ?_, fun a ha b hb q => ?_⟩
    · have z : (if openB σ x y m = true then [y] else []).Nodup := by split <;> simp
      exact z.filter _
    · have := (List.mem_filter.mp hb).2
      simp only [decide_eq_true_eq] at this
      exact this (q ▸ ha)
  · rcases List.mem_append.mp hz with q | q
    · exact hn.2 z q
    · have := (List.mem_filter.mp q).1
      split at this
      · rw [List.mem_singleton.mp this]; exact hy
      · exact nomatch this
theorem refs_get {l : List (Fin 5)} {i : Nat} {v : Value} (h : (refs A l)[i]? = some v) : ∃ y, l[i]? = some y ∧ v = .ref (A.r y).a := by
  simp only [refs, List.getElem?_toArray, List.getElem?_map, Option.map_eq_some_iff] at h
  obtain ⟨y, e, r⟩ := h
  exact ⟨y, e, r.symm⟩
theorem take_succ_of {α : Type} {l : List α} {i : Nat} {y : α} (h : l[i]? = some y) : l.take (i + 1) = l.take i ++ [y] := by
  rw [List.take_add_one, h]; rfl
end
def mF (mB : PySem.Str → Option Value) (lr nr ro : Option Value) : PySem.Str → Option Value := fun y => if y = PySem.Str.ofString "linked_role" then lr else if y = PySem.Str.ofString "next_role" then nr else if y = PySem.Str.ofString "role" then ro else mB y
end
section
def mH (sv tv rv lv dv : Value) (lr nr ro : Option Value) : PySem.Str → Option Value := fun y =>
  if y = PySem.Str.ofString "linked_role" then lr else if y = PySem.Str.ofString "next_role" then nr else if y = PySem.Str.ofString "role" then ro else
  if y = PySem.Str.ofString "domains" then some dv else if y = PySem.Str.ofString "level" then some lv else if y = PySem.Str.ofString "roles" then some rv else if y = PySem.Str.ofString "target_name" then some tv else if y = PySem.Str.ofString "self" then some sv else none
section
variable {sv tv rv lv dv v : Value} {lr nr ro : Option Value} {y : PySem.Str}
theorem n_rl : ¬ PySem.Str.ofString "role" = PySem.Str.ofString "linked_role" := by decide +kernel
theorem n_rn : ¬ PySem.Str.ofString "role" = PySem.Str.ofString "next_role" := by decide +kernel
theorem n_nl : ¬ PySem.Str.ofString "next_role" = PySem.Str.ofString "linked_role" := by decide +kernel
theorem mH_role (y : PySem.Str) : (if y = PySem.Str.ofString "role" then some v else mH sv tv rv lv dv lr nr ro y) = mH sv tv rv lv dv lr nr (some v) y := by
  unfold mH
  by_cases h : y = PySem.Str.ofString "role"
  · subst h; simp only [if_neg n_rl, if_neg n_rn, if_true]
  · simp only [if_neg h]
theorem mH_next (y : PySem.Str) : (if y = PySem.Str.ofString "next_role" then some v else mH sv tv rv lv dv lr nr ro y) = mH sv tv rv lv dv lr (some v) ro y := by
  unfold mH
  by_cases h : y = PySem.Str.ofString "next_role"
  · subst h; simp only [if_neg n_nl, if_true]
  · simp only [if_neg h]
theorem mH_linked (y : PySem.Str) : (if y = PySem.Str.ofString "linked_role" then some v else mH sv tv rv lv dv lr nr ro y) = mH sv tv rv lv dv (some v) nr ro y := by
  unfold mH
  by_cases h : y = PySem.Str.ofString "linked_role"
  · subst h; simp only [if_true]
  · simp only [if_neg h]
theorem mH_start (y : PySem.Str) : (if y = PySem.Str.ofString "domains" then some dv else if y = PySem.Str.ofString "level" then some lv else if y = PySem.Str.ofString "roles" then some rv else if y = PySem.Str.ofString "target_name" then some tv else if y = PySem.Str.ofString "self" then some sv else none) = mH sv tv rv lv dv none none none y := by
  unfold mH
  by_cases h1 : y = PySem.Str.ofString "linked_role"
  · subst h1; rw [if_pos rfl, if_neg (by decide +kernel), if_neg (by decide +kernel), if_neg (by decide +kernel), if_neg (by decide +kernel), if_neg (by decide +kernel)]
  · rw [if_neg h1]
    by_cases h2 : y = PySem.Str.ofString "next_role"
    · subst h2; rw [if_pos rfl, if_neg (by decide +kernel), if_neg (by decide +kernel), if_neg (by decide +kernel), if_neg (by decide +kernel), if_neg (by decide +kernel)]
    · rw [if_neg h2]
      by_cases h3 : y = PySem.Str.ofString "role"
      · subst h3; rw [if_pos rfl, if_neg (by decide +kernel), if_neg (by decide +kernel), if_neg (by decide +kernel), if_neg (by decide +kernel), if_neg (by decide +kernel)]
      · rw [if_neg h3]
end
section
variable {w : World} {mg mb : PySem.Str → Option Value} {base g h₀ h : Heap} {outer : List Env} {A : AD} {σ : SS} {s₀ s₁ s s' : Shared} {Mm xs : List Addr} {L : Addr} {m : PySem.Str → Option Value} {ex tl news : List (Addr × Obj)}
theorem At.rep (a : At w mg mb base outer g s₀ Mm A σ L m ex s) : Rep w A σ s.heap := by obtain ⟨h₀, tl, G, F, N⟩ := a; exact G.Z.R
theorem At.foot (a : At w mg mb base outer g s₀ Mm A σ L m ex s) {x : Addr} (hx : x ∈ A.foot σ.ns) : x ≠ L ∧ g.get? x = none := by
  refine Ob23 (a) fun h₀ tl G F N => ?_
  exact ⟨fun q => G.Lh (q ▸ hid_foot hx), off_of G.Z hx⟩
theorem At.more (a : At w mg mb base outer g s₀ Mm A σ L m ex s) (ex' : List (Addr × Obj)) (h : ∀ p ∈ ex', p ∈ ex ∨ s.heap.get? p.1 = some p.2 ∧ p.1 ≠ L ∧ g.get? p.1 = none) : At w mg mb base outer g s₀ Mm A σ L m ex' s :=
  a.re (xs := []) (fun b o e _ => e) a.ns (fun _ q => nomatch q) NoTup.nil rfl id ex' fun p hp => (h p hp).elim (fun q => ⟨a.get q, a.priv q⟩) id
theorem At.ne (a : At w mg mb base outer g s₀ Mm A σ L m ex s) {x y : Addr} {o o' : Obj} (h1 : (x, o) ∈ ex) (h2 : (y, o') ∈ ex) (n : o.cls ≠ o'.cls) : x ≠ y := fun q => by
  have e1 := a.get h1
  have e2 := a.get h2
  have q : x = y := q
  subst q
  rw [e1] at e2
  exact n (congrArg Obj.cls (Option.some.inj e2))
theorem Grd.iter (G : Grd w mg mb base outer g s₀ Mm A σ s₁ L h₀ ex tl) (F : Fr h₀ L h m) (N : News h₀ L h news) (h1 : ∀ p ∈ ex, p ∈ news) (h2 : ∀ p ∈ tl, p ∈ news) (e : s.heap = h) (ho : s.os = s₁.os) (hb : AllBare s₁.gens → AllBare s.gens) (ax : Addr)
    (ex' : List (Addr × Obj)) (hx' : ∀ p ∈ ex', p ∈ news) :
    Own g A σ s₀ L h.objs.size ∧ At w mg mb base outer g s₀ Mm A σ L m ex' { s with heap := h.push { cls := .type "list_iterator", data := .fields #[.ref ax, .int 0 0] } } ∧ (∀ p ∈ ex', p.1 ≠ h.objs.size) ∧
      (h.push { cls := .type "list_iterator", data := .fields #[.ref ax, .int 0 0] }).IsListIter h.objs.size ax 0 := by
  subst e
  have k : Kept [L] s₁.heap (s.heap.push { cls := .type "list_iterator", data := .fields #[.ref ax, .int 0 0] }) := fun b o e n => Heap.get?_push_of_some _ (G.kept F N h1 h2 b o e n)
  refine ⟨G.own F N h1 h2 (Heap.get?_none_of_le (Nat.le_refl _)), ?_, fun p hp q => ?_, ⟨_, Heap.get?_push_size _ rfl, rfl, rfl⟩⟩
  · exact G.re (s := { s with heap := s.heap.push { cls := .type "list_iterator", data := .fields #[.ref ax, .int 0 0] } }) (xs := []) k (F.ns.push _) (fun _ q => nomatch q) NoTup.nil ho hb ex' fun p hp => ⟨Heap.get?_push_of_some _ (N _ (hx' p hp)).1, G.priv N (hx' p hp)⟩
  · have := Heap.lt_size (N _ (hx' p hp)).1
    rw [q] at this; exact absurd this (Nat.lt_irrefl _)
theorem ownEntry {l : Addr} {o : Obj} {s : Shared} (G : Grd w mg mb base outer g s Mm A σ s L h₀ ex tl) (N : News h₀ L h news) (hm : (l, o) ∈ news) (hx : ∀ p ∈ ex, @Ne Nat p.1 l) (ht : ∀ p ∈ tl, @Ne Nat p.1 l) : Own g A σ s L l :=
  have z := (G.new N hm hx ht).1
  ⟨z, (G.priv N hm).2, notHid G.Z.R z, G.Z.R.farNone z, (N _ hm).2.1⟩
end
end
section
section
variable {w : World} {mg mb : PySem.Str → Option Value} {base g h₀ h h' : Heap} {outer : List Env} {A : AD} {σ : SS} {s₀ s₁ s s' : Shared} {Mm xs : List Addr} {L : Addr} {m : PySem.Str → Option Value} {ex tl news : List (Addr × Obj)}
theorem ne998 (R : Rep w A σ h) {x : Addr} {o : Obj} (e : h.get? x = some o) (n : ∀ vs, o.data ≠ .fields vs) : x ∉ [998] := fun q => by
  refine Ob44 (TabOk.two R.t9) fun o1' vs' op' ps' ho' hd1' hop' hpd' => ?_
  rw [List.mem_singleton.mp q, hop'] at e
  cases e
  exact n _ hpd'
theorem Own.ne998 {x : Addr} (o : Own g A σ s₀ L x) : x ∉ [998] := fun q => o.off (by rw [List.mem_singleton.mp q]; exact List.mem_cons_of_mem _ List.mem_cons_self)
theorem Grd.store {c : Addr} {oc : Obj} {v0 : Option Value} {v : Value} (G : Grd w mg mb base outer g s₀ Mm A σ s₁ L h₀ ex tl) (F : Fr h₀ L h m) (N : News h₀ L h news) (h1 : ∀ p ∈ ex, p ∈ news) (h2 : ∀ p ∈ tl, p ∈ news) (oC : Own g A σ s₀ L c) (hce : (c, oc) ∈ ex) (hcd : oc.data = .cell v0)
    (hc' : h'.IsCell c (some v)) (hs : Heap.SameBut c h h') (e : s.heap = h') (ho : s.os = s₁.os) (hb : AllBare s₁.gens → AllBare s.gens) (ex1 : List (Addr × Obj)) (hx : ∀ p ∈ ex1, p ∈ news ∧ ∀ v, p.2.data ≠ .cell v) :
    ∃ oc', oc'.data = .cell (some v) ∧ At w mg mb base outer g s₀ Mm A σ L m ((c, oc') :: ex1) s := by
  subst e
  obtain ⟨oc', ec', hcd'⟩ := hc'
  have hcn := h1 _ hce
  refine ⟨oc', hcd', G.re (xs := [c]) (fun b o e n => ?_) (F.ns.sameBut hs (Ne.symm oC.nL)) (fun x hx => by rw [List.mem_singleton.mp hx]; exact oC) (fun b o vs k e _ hd q => ?_) ho hb _ (allCons ⟨ec', oC.nL, oC.gn⟩ fun p hp => ?_)⟩
  · exact (hs.2 b fun q => n (by rw [show b = c from q]; exact List.mem_cons_of_mem _ List.mem_cons_self)).trans (G.kept F N h1 h2 b o e fun q => n (by rw [List.mem_singleton.mp q]; exact List.mem_cons_self))
  · rw [List.mem_singleton.mp q, G.hex _ hce] at e
    cases e
    rw [hcd] at hd; cases hd
  · obtain ⟨hn, nd⟩ := hx p hp
    refine ⟨(hs.2 _ fun q => ?_).trans (N _ hn).1, G.priv N hn⟩
    have e1 := (N _ hn).1
    rw [show p.1 = c from q, (N _ hcn).1] at e1
    cases e1
    exact nd _ hcd
theorem Grd.ground (G : Grd w mg mb base outer g s₀ Mm A σ s₁ L h₀ ex tl) : ∃ gB : Heap, gB.objs.size ≤ L ∧ (∀ b, gB.get? b = g.get? b) ∧ (K w.params).In gB ∧ TopRead q (looseW q loose) mg mb gB := by
  have e : ∀ b, (lowH g L).get? b = g.get? b := fun b => by
    rw [lowH_get]
    by_cases hb : b < L
    · rw [if_pos hb]
    · rw [if_neg hb]
      cases q : g.get? b with
      | none => rfl
      | some o => exact absurd (G.gL b o q) hb
  exact ⟨lowH g L, lowH_size, e, G.C.X.keeps fun b o h => (e b).trans h, G.C.T.keeps fun b o h => (e b).trans h⟩
theorem any_refs {y : Fin 5} {ny : List (Fin 5)} : ((refs A ny).toList.any fun v => decide (v = .ref (A.r y).a)) = decide (Value.ref (A.r y).a ∈ (refs A ny).toList) := by
  rw [Bool.eq_iff_iff, List.any_eq_true, decide_eq_true_iff]
  constructor
  · rintro ⟨v, hv, e⟩
    rw [← of_decide_eq_true e]; exact hv
  · exact fun h => ⟨_, h, decide_eq_true rfl⟩
theorem cell998 (R : Rep w A σ h) {x : Addr} (e : @LE.le Nat _ h.objs.size x) : x ≠ 998 := fun q => by
  refine Ob44 (TabOk.two R.t9) fun o1' vs' op' ps' ho' hd1' hop' hpd' => ?_
  rw [← q] at hop'
  exact absurd (Heap.lt_size hop') (Nat.not_lt.mpr e)
end
theorem ne_lit : (Obj.cls (listOf (#[] : Array Value) 0)) ≠ Value.type "list_iterator" := fun q => by injection q with q; exact absurd q (by decide)
theorem any_none {P : Params} : nsIn (K P) mainGlobals "any" = some none := by kernel_rfl
theorem any_boot : bootBuiltins "any" = some (.builtin "any") := by kernel_rfl
end
section
abbrev Back (Q : Value → Shared → Prop) (E : Value → Shared → Prop) : Result → Shared → Prop := fun r s' => match r with | .ok (.ret v) => Q v s' | .ok _ => False | .error e => E e s'
section
variable {M : Model} {A : Around} {E : Value → Shared → Prop} {s : Shared} {env : Env} {Q : Value → Shared → Prop}
theorem methodCall_star {o : Expr} {name : PySem.Str} {apos pos : Pos} {args : List Expr}
    (h : wpAny M A (eval o env) (fun ov s₁ => wpAny M A (getAttr ov name true) (fun f s₂ => wpAny M A (callWith pos f [] (backTo pos (starEach args env)) []) Q E s₂) E s₁) E s)
    (he : eval (.Call (.Attribute o name apos) args [] pos) env = (do
      let ov ← eval o env
      standAt apos.atName
      let (f, first) ← holding [ov] (do pure (← getAttr ov name true, []))
      callWith pos f first (backTo pos (starEach args env)) []) := by rfl) :
    wpAny M A (eval (.Call (.Attribute o name apos) args [] pos) env) Q E s := by
  rw [he]
  refine wpAny_bind (wpAny_mono h (fun ov s₁ h₁ => wpAny_bind (wpAny_standAt (wpAny_bind (wpAny_holding (wpAny_bind (wpAny_mono h₁ (fun f s₂ h₂ => wpAny_pure ?_) fun _ _ x => x)))))) fun _ _ x => x)
  exact h₂
theorem callWith_MS {K : Frag} {pos : Pos} {first : List Value} {q g : Addr} {self : Value} {e : Expr} {rest : List Expr} (hf : fnIn K g = true)
    (h : wpAny M A (spliced (backTo pos (starEach (e :: rest) env))) (fun vs s₁ => MethP K q g self s₁.heap ∧ wpAny M A (call (.ref q) (first ++ vs)) Q E s₁) E s)
    (he : starEach (e :: rest) env = (false, eval e env) :: starEach rest env := by rfl) (hst : (backTo pos (starEach rest env)).any (·.1) = true := by rfl) :
    wpAny M A (callWith pos (.ref q) first (backTo pos (starEach (e :: rest) env)) []) Q E s := by
  rw [he] at h ⊢
  exact ks_call (by show (false || (backTo pos (starEach rest env)).any (·.1)) = true; rw [hst]; rfl) (keeps_M hf) (evalArgs_plain h)
end
section
variable {prog : Program} {w : World} {A : Around} {E : Value → Shared → Prop} {s : Shared} {Q : Value → Shared → Prop}
theorem call_bound {q f : Addr} {self : Value} {args : List Value} (hb : s.heap.get? q = some (methodObj (.ref f) self)) (h : codeAny (model prog w) A (.call (.ref f) ⟨self :: args, []⟩) (Back Q E) s) : wpAny (model prog w) A (call (.ref q) args) Q E s :=
  wpAny_call (ks_codeAny_call_bound hb h)
end
end
section
section
variable {w : World} {mg mb : PySem.Str → Option Value} {base g : Heap} {outer : List Env} {d u : Nat} {gs : Option (List Code)} {E : Value → Shared → Prop} {s : Shared} {A : AD} {σ : SS}
theorem hlF_nil {t : Fin 5} {m : Fin 3} : ∀ n, hlF σ t m n [] = false
  | 0 => rfl
  | n + 1 => by show (if t ∈ [] then true else _) = false; rw [if_neg (by simp)]; exact hlF_nil n
def NextOk (w : World) (mg mb : PySem.Str → Option Value) (A : AD) (σ : SS) (ws : List Value) (dm : Fin 3) : Prop := ∀ ⦃base g : Heap⦄ ⦃outer : List Env⦄ ⦃d u : Nat⦄ ⦃gs : Option (List Code)⦄ ⦃E : Value → Shared → Prop⦄ ⦃s : Shared⦄ ⦃a b : Fin 5⦄ ⦃D : Addr⦄ ⦃Q : Value → Shared → Prop⦄, Cx w mg mb base outer g → Stand w g A σ s → d + 15 < recursionLimit → u + 40 < cLine → a ∈ σ.ns → b ∈ σ.ns →
  (s.heap.get? D = some (tupOf ws) ∧ g.get? D = none) →
  (∀ s' l k, Rep w A σ s'.heap → Post [] s s' → s'.heap.get? l = some (listOf (if openB σ a b dm then #[.ref (A.r b).a] else #[]) k) → s.heap.get? l = none → Q (.ref l) s') →
  wpAny (model pw_ae0023_01 w) (Ar d outer gs u) (call (.ref 1008) [.ref A.m, .ref (A.r a).a, .ref (A.r b).a, .ref D]) Q E s
theorem nextT_ok {dm : Fin 3} {td : Nat} : NextOk w mg mb A σ [.str (domS dm) td] dm := fun _ _ _ _ _ _ _ _ _ _ _ _ C Z hd hu ha hb hD h => nextT C Z hd hu ha hb hD h
theorem next0_ok : NextOk w mg mb A σ [] 0 := fun _ _ _ _ _ _ _ _ _ _ _ _ C Z hd hu ha hb hD h => next0 (dm := 0) (td := 0) C Z hd hu ha hb hD h
theorem hl_G {t : Fin 5} {dm : Fin 3} {ws : List Value} (hw : ws.length ≤ 3) (nx9 : NextOk w mg mb A σ ws dm) (n : Nat) : ∀ {base g : Heap} {outer : List Env} {d u : Nat} {gs : Option (List Code)} {E : Value → Shared → Prop} {s : Shared} {l : List (Fin 5)} {rl : Addr} {k tt ti : Nat} {Q : Value → Shared → Prop} (C : Cx w mg mb base outer g) (Z : Stand w g A σ s)
  (hd : d + n + 20 < recursionLimit) (hu : u + 3 * n + 60 < cLine) (hl5 : ∀ x ∈ l, x ∈ σ.ns) (hlN : l.Nodup) (hrl : s.heap.get? rl = some (listOf (refs A l) k) ∧ g.get? rl = none)
  (h : ∀ s', Rep w A σ s'.heap → Post [998] s s' → Q (.bool (hlF σ t dm n l)) s'),
  codeAny (model pw_ae0023_01 w) (Ar d outer gs u) (.call (.ref 1001) ⟨.ref A.m :: .str (nmS t) tt :: .ref rl :: .int ((n : Int) - 1) ti :: ws, []⟩) (Back Q E) s := by
  induction n with
  | zero =>
    intro base g outer d u gs E s l rl k tt ti Q C Z hd hu hl5 hlN hrl h
    walk_at "f"
    refine Ob11 (Z.R.mdO) fun t1T md => ?_
    have hl : ∀ p ∈ [(rl, listOf (refs A l) k), (A.m, instObj 1061 A.dm), (A.dm, mgrO w A σ t1T)], s.heap.get? p.1 = some p.2 ∧ g.get? p.1 = none := by
      simp [md, Z.R.mi, off_of Z foot_m, off_of Z foot_dm, hrl.1, hrl.2]
    refine' enter_restC (vs := ws) (g₁ := fun D => some [("self", .ref A.m), ("target_name", .str (nmS t) tt), ("roles", .ref rl), ("level", .int (((0 : Nat) : Int) - 1) ti), ("domains", .ref D)]) C Z.hg hl ?k6 ?k7 (room0 (room0 hd)) ?k9 (fun _ => rfl) ?kB ?kD ?_ ?c2 ?c3 ?c4
    case k6 => k_dflt k_is
    case k7 => k_dflt k_is
    case k9 => k_dflt (rcases le3c hw with rfl | ⟨_, rfl⟩ | ⟨_, _, rfl⟩ | ⟨_, _, _, rfl⟩ <;> rfl)
    case kB => k_dflt (exact fun _ => rfl)
    case kD => k_dflt (decide +kernel)
    case c2 => exact rfl
    case c3 => exact rfl
    case c4 => exact rfl
    intro D L' h' tk' cells' hD hL hgL F' N' Y' C' l1 l2
    have G := Grd.enter [998] C Z hl hL hgL C'
    have X' := G.X
    have T' := G.T
    k_lt l1
    k_cells Y'
    dsimp only [List.cons_append, List.nil_append] at N'
    clear hl hL hgL C'
    walk_at "g5"
    rename Fr _ _ _ _ => F1
    rename News _ _ _ _ => N1
    dsimp only
    exact h _ (G.rep F1 N1 (by walk_at "h") (by walk_at "H")) (G.post F1 N1 (fun p hp => .inl (by revert p; walk_at "h")) (by walk_at "H") rfl rfl id)
  | succ n ih =>
    intro base g outer d u gs E s l rl k tt ti Q C Z hd hu hl5 hlN hrl h
    rw [show (((n + 1 : Nat) : Int) - 1) = (n : Int) from by omega]
    walk_at "f"
    refine Ob11 (Z.R.mdO) fun t1T md => ?_
    have hl : ∀ p ∈ [(rl, listOf (refs A l) k), (A.m, instObj 1061 A.dm), (A.dm, mgrO w A σ t1T)], s.heap.get? p.1 = some p.2 ∧ g.get? p.1 = none := by
      simp [md, Z.R.mi, off_of Z foot_m, off_of Z foot_dm, hrl.1, hrl.2]
    refine' enter_restC (vs := ws) (g₁ := fun D => some [("self", .ref A.m), ("target_name", .str (nmS t) tt), ("roles", .ref rl), ("level", .int (n : Int) ti), ("domains", .ref D)]) C Z.hg hl ?k6 ?k7 (room0 (room0 hd)) ?k9 (fun _ => rfl) ?kB ?kD ?_ ?c2 ?c3 ?c4
    case k6 => k_dflt k_is
    case k7 => k_dflt k_is
    case k9 => k_dflt (rcases le3c hw with rfl | ⟨_, rfl⟩ | ⟨_, _, rfl⟩ | ⟨_, _, _, rfl⟩ <;> rfl)
    case kB => k_dflt (exact fun _ => rfl)
    case kD => k_dflt (decide +kernel)
    case c2 => exact rfl
    case c3 => exact rfl
    case c4 => exact rfl
    intro D L' h' tk' cells' hD hL hgL F' N' Y' C' l1 l2
    have G := Grd.enter [998] C Z hl hL hgL C'
    have X' := G.X
    have T' := G.T
    k_lt l1
    k_cells Y'
    dsimp only [List.cons_append, List.nil_append] at N'
    clear hl hL hgL C'
    have hn0 : (0 : Int) ≤ (n : Int) := by omega
    by_cases hle : l = []
    · subst hle
      walk_at "g5"
      rename Fr _ _ _ _ => F1
      rename News _ _ _ _ => N1
      dsimp only
      rw [hlF_nil] at h
      exact h _ (G.rep F1 N1 (by walk_at "h") (by walk_at "H")) (G.post F1 N1 (fun p hp => .inl (by revert p; walk_at "h")) (by walk_at "H") rfl rfl id)
    · have hs0 : (refs A l).size ≠ 0 := by simpa using hle
      have hs1 : (refs A l).size ≤ 5 := by simpa using len_fin hlN
      have hs2 : (0 : Int) < ((refs A l).size : Int) := by omega
      walk_at "g5"
      all_goals (try (exfalso; omega))
      walk_at "g5"
      refine wpAny_For ?_ (by intro _; rfl)
      walk_at "g5"
      rename Fr _ _ _ _ => F1
      rename News _ _ _ _ => N1
      have hil : Heap.IsList _ rl (refs A l) := ⟨_, N1.get (show (rl, listOf (refs A l) k) ∈ _ from by walk_at "n"), rfl, _, rfl⟩
      refine wpAny_pyIter_list hil ?_
      rename_i nl0 hA lA hB oc0 hcd0
      have oC : Own g A σ s L' (L' + 1) := ownEntry G N1 (show (L' + 1, oc0) ∈ _ from by walk_at "n") (by simp only [List.forall_mem_cons]; exact ⟨by omega, by omega, by omega, fun _ q => nomatch q⟩) (fun _ q => nomatch q)
      refine Ob04 (G.iter (s := { s with heap := hB, toks := tk }) F1 N1 (by walk_at "h") (by walk_at "H") rfl rfl id rl [(nl0, listOf #[] 0), (L' + 1, oc0), (D, tupOf ws), (rl, listOf (refs A l) k), (A.m, instObj 1061 A.dm), (A.dm, mgrO w A σ t1T)] (fun p hp => hp)) fun oI1 a0 hne1 hit1 => ?_
      simp only [List.forall_mem_cons] at hne1
      clear F1 N1 hil X' T' lA hs0 hs1 hs2
      refine for_at (L := L') (s₀ := s) (Mm := [998]) (A := A) (σ := σ) (items := refs A l) (k := k) rfl rfl rfl rfl (fun j m ex => ∃ lr nr ro oc nl kn nx, m = mH (.ref A.m) (.str (nmS t) tt) (.ref rl) (.int (n : Int) ti) (.ref D) lr nr ro ∧ ex = (nl, listOf (refs A nx) kn) :: (L' + 1, oc) :: (D, tupOf ws) :: [(rl, listOf (refs A l) k), (A.m, instObj 1061 A.dm), (A.dm, mgrO w A σ t1T)] ∧ oc.data = .cell (some (.ref nl)) ∧
        nx = (l.take j).foldl (stepX σ dm) [] ∧ t ∉ l.take j ∧ nx.Nodup ∧ (∀ x ∈ nx, x ∈ σ.ns) ∧ nl ≠ hB.objs.size) hit1 oI1 ?hax ?hI ⟨_, _, ⟨none, none, none, oc0, nl0, 0, [], rfl, rfl, hcd0, rfl, by simp, List.nodup_nil, (fun _ q => nomatch q), hne1.1⟩, a0.frame fun y => mH_start y⟩ ?turn ?hR
      case hax => intro j m ex T9; refine Ob78 T9 fun lr nr ro oc nl kn nx _ ee9 _ _ _ _ _ _ => ?_; subst ee9; walk_at "n"
      case hI =>
        intro j m ex T9
        refine Ob78 T9 fun lr nr ro oc nl kn nx _ ee9 _ _ _ _ _ hnI => ?_
        subst ee9
        simp only [List.forall_mem_cons]
        exact ⟨hnI, hne1.2⟩
      case turn =>
        intro j v m ex s' E' hv Tj a' it'
        refine hideQ fun Q8 hQ8 => ?_
        refine Ob78 Tj fun lr nr ro oc nl kn nx em9 ee9 hcd hnx htj hnN hnS hnI => ?_
        subst em9 ee9
        obtain ⟨x, hx, rfl⟩ := refs_get hv
        have hxn := hl5 x (List.mem_of_getElem? hx)
        have a1 := a'.frame mH_role
        obtain ⟨o1, e1, c1, d1⟩ := it'
        refine Ob11 ((a1.rep.ro x hxn).dO) fun r1xT rdx => ?_
        refine Ob11 ((a1.rep.ro x hxn).rl) fun kx erl => ?_
        have fx := a1.foot (foot_a hxn)
        have a2 := a1.more ((nl, listOf (refs A nx) kn) :: (L' + 1, oc) :: (hB.objs.size, o1) :: ((A.r x).a, instObj 854 (A.r x).dx) :: ((A.r x).dx, roleO w A x r1xT) :: ((A.r x).rl, listOf (refs A (σ.out x)) kx) :: (D, tupOf ws) :: [(rl, listOf (refs A l) k), (A.m, instObj 1061 A.dm), (A.dm, mgrO w A σ t1T)])
          (allCons (.inl (by walk_at "n")) (allCons (.inl (by walk_at "n")) (allCons (.inr ⟨e1, oI1.nL, oI1.gn⟩) (allCons (.inr ⟨(a1.rep.ro x hxn).i, a1.foot (foot_a hxn)⟩) (allCons (.inr ⟨rdx, a1.foot (foot_dx hxn)⟩) (allCons (.inr ⟨erl, a1.foot (foot_rl hxn)⟩) (fun p hp => .inl (.tail _ (.tail _ hp)))))))))
        refine Ob23 (a2) fun h₂ tl₂ G F1 N1 => ?_
        have X' := G.X
        have T' := G.T
        dsimp only [List.cons_append, List.nil_append] at N1
        walk_at "g5"
        refine PyProof.Rows.eq_str ?_
        by_cases htx : t = x
        · subst htx
          rw [beq_self_eq_true]
          walk_at "g5"
          rename Fr _ _ _ _ => F1
          rename News _ _ _ _ => N1
          refine hQ8 _ _ ?_
          dsimp only
          have hh : hlF σ t dm (n + 1) l = true := if_pos (List.mem_of_getElem? hx)
          rw [hh] at h
          exact h _ (G.rep F1 N1 (by walk_at "h") (by walk_at "H")) (G.post F1 N1 (fun p hp => .inl (by revert p; walk_at "h")) (by walk_at "H") rfl rfl id)
        · rw [show (nmS t == nmS x) = false from beq_eq_false_iff_ne.mpr fun e => htx (nmS_inj e)]
          walk_at "g5"
          refine wpAny_For ?_ (by intro _; rfl)
          walk_at "g5"
          rename Fr _ _ _ _ => F2
          rename News _ _ _ _ => N2
          have hil : Heap.IsList _ (A.r x).rl (refs A (σ.out x)) := ⟨_, N2.get (show ((A.r x).rl, listOf (refs A (σ.out x)) kx) ∈ _ from by walk_at "n"), rfl, _, rfl⟩
          refine wpAny_pyIter_list hil ?_
          refine Ob04 (G.iter (s := { s' with toks := tk + 1 }) F2 N2 (by walk_at "h") (by walk_at "H") rfl rfl id (A.r x).rl ((nl, listOf (refs A nx) kn) :: (L' + 1, oc) :: (hB.objs.size, o1) :: ((A.r x).a, instObj 854 (A.r x).dx) :: ((A.r x).dx, roleO w A x r1xT) :: ((A.r x).rl, listOf (refs A (σ.out x)) kx) :: (D, tupOf ws) :: [(rl, listOf (refs A l) k), (A.m, instObj 1061 A.dm), (A.dm, mgrO w A σ t1T)]) (by (intro p hp; simp only [List.mem_cons, List.not_mem_nil, or_false] at hp; (repeat' (rcases hp with hp | hp)); all_goals ((try subst hp); walk_at "n")))) fun oI2 a3 hne2 hit2 => ?_
          simp only [List.forall_mem_cons] at hne2
          clear F2 N2 hil X' T' G
          refine for_at (L := L') (s₀ := s) (Mm := [998]) (A := A) (σ := σ) (items := refs A (σ.out x)) (k := kx) rfl rfl rfl rfl (fun i m ex => ∃ lr nr oc nl kn ny, m = mH (.ref A.m) (.str (nmS t) tt) (.ref rl) (.int (n : Int) ti) (.ref D) lr nr (some (.ref (A.r x).a)) ∧ ex = (nl, listOf (refs A ny) kn) :: (L' + 1, oc) :: (hB.objs.size, o1) :: ((A.r x).a, instObj 854 (A.r x).dx) :: ((A.r x).dx, roleO w A x r1xT) :: ((A.r x).rl, listOf (refs A (σ.out x)) kx) :: (D, tupOf ws) :: [(rl, listOf (refs A l) k), (A.m, instObj 1061 A.dm), (A.dm, mgrO w A σ t1T)] ∧ oc.data = .cell (some (.ref nl)) ∧
            ny = ((σ.out x).take i).foldl (stepN σ dm x) nx ∧ ny.Nodup ∧ (∀ z ∈ ny, z ∈ σ.ns) ∧ nl ≠ s'.heap.objs.size) hit2 oI2 ?hax2 ?hI2 ⟨_, _, ⟨lr, nr, oc, nl, kn, nx, rfl, rfl, hcd, rfl, hnN, hnS, hne2.1⟩, a3⟩ ?turn2 ?hR2
          case hax2 => intro i m ex T9; refine Ob67 T9 fun lr nr oc nl kn ny _ ee9 _ _ _ _ _ => ?_; subst ee9; walk_at "n"
          case hI2 =>
            intro i m ex T9
            refine Ob67 T9 fun lr nr oc nl kn ny _ ee9 _ _ _ _ hnI => ?_
            subst ee9
            simp only [List.forall_mem_cons]
            exact ⟨hnI, hne2.2⟩
          case turn2 =>
            clear hcd hnx hnN hnS hnI a3 a1 a'
            intro i v m ex s3 E3 hv3 Ti a' it'
            refine hideQ fun Q9 hQ9 => ?_
            refine Ob67 Ti fun lr nr oc nl kn ny em9 ee9 hcd hny hnN hnS hnI => ?_
            subst em9 ee9
            obtain ⟨y, hy, rfl⟩ := refs_get hv3
            have hyn := (a'.rep.ro x hxn).os y (List.mem_of_getElem? hy)
            have a1 := a'.frame mH_next
            obtain ⟨o2, e2, c2, d2⟩ := it'
            have a2 := a1.more ((nl, listOf (refs A ny) kn) :: (L' + 1, oc) :: (s'.heap.objs.size, o2) :: (hB.objs.size, o1) :: ((A.r x).a, instObj 854 (A.r x).dx) :: ((A.r x).dx, roleO w A x r1xT) :: ((A.r x).rl, listOf (refs A (σ.out x)) kx) :: (D, tupOf ws) :: [(rl, listOf (refs A l) k), (A.m, instObj 1061 A.dm), (A.dm, mgrO w A σ t1T)])
              (allCons (.inl (by walk_at "n")) (allCons (.inl (by walk_at "n")) (allCons (.inr ⟨e2, oI2.nL, oI2.gn⟩) (fun p hp => .inl (.tail _ (.tail _ hp))))))
            refine Ob23 (a2) fun h₂ tl₂ G F1 N1 => ?_
            clear a' a1
            have X' := G.X
            have T' := G.T
            dsimp only [List.cons_append, List.nil_append] at N1
            walk_at "g5"
            rename Fr _ _ _ _ => F1
            rename News _ _ _ _ => N1
            refine nx9 (G.cxx (xs := [D]) F1 (fun x hx => by rw [List.mem_singleton.mp hx]; exact G.priv N1 (show (D, tupOf ws) ∈ _ from by walk_at "n")) ?c1 ?c2) (G.stx F1 N1 (by walk_at "h") (by walk_at "H") rfl) (by show d + 1 + 15 < recursionLimit; omega) (by show u + 3 + 40 < cLine; omega) hxn hyn ⟨N1.get (by walk_at "n"), inX_none (by simp)⟩ (fun s₂ lk kk R₂ p₂ hlk hnk => ?_)
            case c1 => rfl
            case c2 => rfl
            obtain ⟨h₂, tl₂, G, F₂, N₂⟩ := G.back1 F1 N1 (by walk_at "h") (by walk_at "H") p₂ rfl rfl rfl R₂ ((lk, listOf (if openB σ x y dm then #[.ref (A.r y).a] else #[]) kk) :: (nl, listOf (refs A ny) kn) :: (L' + 1, oc) :: (s'.heap.objs.size, o2) :: (hB.objs.size, o1) :: ((A.r x).a, instObj 854 (A.r x).dx) :: ((A.r x).dx, roleO w A x r1xT) :: ((A.r x).rl, listOf (refs A (σ.out x)) kx) :: (D, tupOf ws) :: [(rl, listOf (refs A l) k), (A.m, instObj 1061 A.dm), (A.dm, mgrO w A σ t1T)])
              (allCons (.inr (.inr ⟨hlk, hnk⟩)) (fun p hp => .inr (.inl (by revert p; walk_at "h"))))
            clear F1 N1 X' T' p₂ R₂
            have X' := G.X
            have T' := G.T
            dsimp only [List.cons_append, List.nil_append] at N₂
            walk_at "g5"
            rename Fr _ _ _ _ => F1
            rename News _ _ _ _ => N1
            refine lc_cell (cl := [("next_roles", L' + 1)]) (c := 1000) (P := 998) (fun v => !decide (v ∈ (refs A ny).toList)) rfl (by with_unfolding_all rfl) rfl (by decide) (fun _ => rfl) (fun _ => rfl) (fun _ _ => rfl) (by decide) ?_ (fun _ => rfl)
            walk_at "g5"
            rename Fr _ _ _ _ => F1
            rename News _ _ _ _ => N1
            have R1 := G.rep F1 N1 (by walk_at "h") (by walk_at "H")
            refine ⟨lk, _, rfl, ⟨_, N1.get (show (lk, listOf (if openB σ x y dm then #[.ref (A.r y).a] else #[]) kk) ∈ _ from by walk_at "n"), rfl, _, rfl⟩, ?sz, ?n8, R1.t9, fun C4 cx v s4 m4 E4 hC hcx hv hn4 hc4 hk4 ht4 => ?_, fun D2 s5 n5 g5 hD2 e5 => ?_⟩
            case sz => split <;> exact Nat.le_of_ble_eq_true rfl
            case n8 => exact fun q => ne998 R1 (N1.get (show (lk, listOf (if openB σ x y dm then #[.ref (A.r y).a] else #[]) kk) ∈ _ from by walk_at "n")) (by intro vs q; cases q) (List.mem_singleton.mpr q)
            · have hv' : v = .ref (A.r y).a := by
                split at hv
                · exact List.mem_singleton.mp hv
                · exact absurd hv List.not_mem_nil
              subst hv'
              refine Ob14 (G.ground) fun gB gs1 ge1 X4 T4 => ?_
              have F4 : Fr gB C4 s4.heap m4 := ⟨hn4, fun b o e => hk4 b o (fun q => by rw [q, ge1, G.Z.off 998 (List.mem_cons_of_mem _ List.mem_cons_self)] at e; cases e) (F1.keep b o (G.gh b o ((ge1 b).symm.trans e))), Nat.le_trans gs1 (Nat.le_trans (Nat.le_of_lt F1.ns.lt) hC)⟩
              have N4 : News gB C4 s4.heap [(nl, listOf (refs A ny) kn)] := fun p hp => by
                rw [List.mem_singleton.mp hp]
                have z := N1 (nl, listOf (refs A ny) kn) (by walk_at "n")
                exact ⟨hk4 _ _ (fun q => ne998 R1 z.1 (by intro vs q; cases q) (List.mem_singleton.mpr q)) z.1, Nat.ne_of_lt (Nat.lt_of_lt_of_le (Heap.lt_size z.1) hC), (ge1 _).trans (G.priv (p := (nl, listOf (refs A ny) kn)) N1 (by walk_at "n")).2⟩
              have c4 : s4.heap.IsCell (L' + 1) (some (.ref nl)) := ⟨oc, hk4 _ _ (fun q => ne998 R1 (N1.get (show (L' + 1, oc) ∈ _ from by walk_at "n")) (by intro vs q; rw [hcd] at q; cases q) (List.mem_singleton.mpr q)) (N1.get (show (L' + 1, oc) ∈ _ from by walk_at "n")), hcd⟩
              have far : ∀ z ∈ σ.ns, s4.heap.get? (A.r z).a = some (instObj 854 (A.r z).dx) ∧ (A.r z).a ≠ 998 := fun z hz => ⟨hk4 _ _ (R1.foot_far (foot_a hz)).2.1 (R1.ro z hz).i, (R1.foot_far (foot_a hz)).2.1⟩
              have nl8 : nl ≠ 998 := fun q => ne998 R1 (N1.get (show (nl, listOf (refs A ny) kn) ∈ _ from by walk_at "n")) (by intro vs q; cases q) (List.mem_singleton.mpr q)
              have XS : (K w.params).In s4.heap := X4.keeps F4.keep
              have TS : TopRead q (looseW q loose) mg mb s4.heap := T4.keeps F4.keep
              clear X' T' F1 N1
              have ny2 := any_refs (A := A) (y := y) (ny := ny)
              repeat ((fail_if_success (with_reducible show wpAny _ _ (eval (Expr.Name (PySem.Str.ofString "any") _) _) _ _ _)); walk_at "w")
              refine Name_function_global rfl rfl (loadGlobal_builtin (TS.g) (mg_none_of XS TS.g any_none) (TS.b) ((TS.builtins "any" (by decide)).trans any_boot) ?_) (by decide)
              walk_at "g5"
              refine any_gen (mg := mg) (mb := mb) (cl := [("r", cx)]) (c := 1000) (P := 998) (fun v => decide (v = .ref (A.r y).a)) rfl rfl rfl rfl (by with_unfolding_all rfl) (by decide) rfl rfl rfl (by show d + 1 < recursionLimit; omega) (by decide) ?_ (fun _ => rfl)
              refine wpAny_Name (wpAny_loadName_cell rfl (by with_unfolding_all rfl) rfl c4 ?_) (by decide)
              refine ⟨nl, refs A ny, rfl, N4.isList List.mem_cons_self, nl8, ht4, XS, TS, fun C5 code E5 A5 v s6 m6 hA hv hn6 hm6 hk6 => ?_, fun av s5 hany => ?_⟩
              · simp only [List.mem_map] at hv
                obtain ⟨z, hz, rfl⟩ := hv
                have hzn := hnS z hz
                refine is_elt2 rfl rfl (by decide) (by decide) (by decide) rfl rfl (by obtain ⟨o, e, r⟩ := hc4; exact ⟨o, hk6 _ _ (cell998 R1 hcx) e, r⟩) hn6 hm6 (hk6 _ _ (far y hyn).2 (far y hyn).1) (hk6 _ _ (far z hzn).2 (far z hzn).1) (by intro q; cases q) ⟨?_, ?_⟩
                · congr 1
                  exact decide_eq_decide.mpr ⟨fun q => by rw [q], fun q => by injection q with q; exact q.symm⟩
                · exact ⟨_, _, rfl, fun _ _ e => e⟩
              · walk_at "g5"
                refine hany _ _ (fun s6 p6 t6 => ?_)
                rw [ny2]
                walk_at "g5"
                exact ⟨⟨p6.keep, p6.dom, p6.os, p6.bare⟩, t6⟩
            · have R5 : Rep w A σ s5.heap := R1.grown9 g5.post.keep g5.tab
              obtain ⟨h₂, tl₂, G, F₂, N₂⟩ := G.backM F1 N1 (by walk_at "h") (by walk_at "H") g5.post rfl rfl rfl (fun x hx => .inl hx) (fun x hx => by rw [List.mem_singleton.mp hx]; exact List.mem_cons_of_mem _ List.mem_cons_self) R5 ((D2, listOf ((if openB σ x y dm then #[Value.ref (A.r y).a] else #[]).toList.filter fun v => !decide (v ∈ (refs A ny).toList)).toArray n5) :: (nl, listOf (refs A ny) kn) :: (L' + 1, oc) :: (s'.heap.objs.size, o2) :: (hB.objs.size, o1) :: ((A.r x).a, instObj 854 (A.r x).dx) :: ((A.r x).dx, roleO w A x r1xT) :: ((A.r x).rl, listOf (refs A (σ.out x)) kx) :: (D, tupOf ws) :: [(rl, listOf (refs A l) k), (A.m, instObj 1061 A.dm), (A.dm, mgrO w A σ t1T)])
                (allCons (.inr (.inr ⟨e5, hD2⟩)) (allCons (.inr (.inl ⟨by walk_at "n", ne998 R1 (N1.get (by walk_at "n")) (by intro vs q; cases q)⟩)) (allCons (.inr (.inl ⟨by walk_at "n", ne998 R1 (N1.get (by walk_at "n")) (by intro vs q; rw [hcd] at q; cases q)⟩)) (allCons (.inr (.inl ⟨by walk_at "n", oI2.ne998⟩)) (allCons (.inr (.inl ⟨by walk_at "n", oI1.ne998⟩)) (allCons (.inr (.inl ⟨by walk_at "n", ne998 R1 (N1.get (by walk_at "n")) (by intro vs q; cases q)⟩)) (allCons (.inr (.inl ⟨by walk_at "n", ne998 R1 (N1.get (by walk_at "n")) (by intro vs q; cases q)⟩)) (allCons (.inr (.inl ⟨by walk_at "n", ne998 R1 (N1.get (by walk_at "n")) (by intro vs q; cases q)⟩)) (allCons (.inr (.inl ⟨by walk_at "n", ne998 R1 (N1.get (by walk_at "n")) (by intro vs q; cases q)⟩)) (allCons (.inr (.inl ⟨by walk_at "n", ne998 R1 (N1.get (by walk_at "n")) (by intro vs q; cases q)⟩)) (allCons (.inr (.inl ⟨by walk_at "n", ne998 R1 (N1.get (by walk_at "n")) (by intro vs q; cases q)⟩)) (allCons (.inr (.inl ⟨by walk_at "n", ne998 R1 (N1.get (by walk_at "n")) (by intro vs q; cases q)⟩)) (allNil)))))))))))))
              clear F1 N1 X' T' g5 R1
              have X' := G.X
              have T' := G.T
              dsimp only [List.cons_append, List.nil_append] at N₂
              have il1 : Heap.IsList _ nl (refs A ny) := ⟨_, N₂.get (show (nl, listOf (refs A ny) kn) ∈ _ from by walk_at "n"), rfl, _, rfl⟩
              have il2 : Heap.IsList _ D2 (((if openB σ x y dm then #[Value.ref (A.r y).a] else #[]).toList.filter fun v => !decide (v ∈ (refs A ny).toList)).toArray) := ⟨_, N₂.get (show (D2, listOf ((if openB σ x y dm then #[Value.ref (A.r y).a] else #[]).toList.filter fun v => !decide (v ∈ (refs A ny).toList)).toArray n5) ∈ _ from by walk_at "n"), rfl, _, rfl⟩
              have sz1 : (refs A ny).size ≤ 5 := by simpa using len_fin hnN
              have sz2 : (((if openB σ x y dm then #[Value.ref (A.r y).a] else #[]).toList.filter fun v => !decide (v ∈ (refs A ny).toList)).toArray).size ≤ 1 := by
                rw [List.size_toArray]
                refine Nat.le_trans (List.length_filter_le _ _) ?_
                split <;> simp
              have es : ((refs A ny).toList ++ (((if openB σ x y dm then #[Value.ref (A.r y).a] else #[]).toList.filter fun v => !decide (v ∈ (refs A ny).toList)).toArray).toList).toArray = refs A (stepN σ dm x ny y) := by rw [← step_refs R5 hyn hnS]; simp
              refine add_arrays F₂ N₂ il1 il2 (fun h6 F6 N6 => ?_) (Nat.le_trans (Nat.add_le_add sz1 sz2) (by decide))
              rw [es] at N6
              clear il1 il2 es F₂ N₂ sz1 sz2
              refine wpAny_storeName_cell (c := L' + 1) rfl (by with_unfolding_all rfl) rfl ⟨oc, N6.get (by walk_at "n"), hcd⟩ (fun h7 hc7 hs7 => ?_)
              refine Ob12 (G.store (s := { s5 with heap := h7 }) F6 N6 (by walk_at "h") (by walk_at "H") oC (show (L' + 1, oc) ∈ _ by walk_at "n") hcd hc7 hs7 rfl rfl id ((s5.heap.objs.size, listOf (refs A (stepN σ dm x ny y)) 0) :: (s'.heap.objs.size, o2) :: (hB.objs.size, o1) :: ((A.r x).a, instObj 854 (A.r x).dx) :: ((A.r x).dx, roleO w A x r1xT) :: ((A.r x).rl, listOf (refs A (σ.out x)) kx) :: (D, tupOf ws) :: [(rl, listOf (refs A l) k), (A.m, instObj 1061 A.dm), (A.dm, mgrO w A σ t1T)]) (allCons (⟨by walk_at "n", by intro v q; cases q⟩) (allCons (⟨by walk_at "n", by intro v q; rw [d2] at q; cases q⟩) (allCons (⟨by walk_at "n", by intro v q; rw [d1] at q; cases q⟩) (allCons (⟨by walk_at "n", by intro v q; cases q⟩) (allCons (⟨by walk_at "n", by intro v q; cases q⟩) (allCons (⟨by walk_at "n", by intro v q; cases q⟩) (allCons (⟨by walk_at "n", by intro v q; cases q⟩) (allCons (⟨by walk_at "n", by intro v q; cases q⟩) (allCons (⟨by walk_at "n", by intro v q; cases q⟩) (allCons (⟨by walk_at "n", by intro v q; cases q⟩) (allNil)))))))))))) fun oc' hcd' aN => ?_
              clear F6 N6 G X' T'
              have aF := aN.frame mH_linked
              walk_at "g5"
              refine hQ9 _ _ ?_
              dsimp only
              refine ⟨_, _, ⟨some (.ref lk), some (.ref (A.r y).a), oc', s5.heap.objs.size, 0, stepN σ dm x ny y, rfl, rfl, hcd', ?eq, (stepN_ok hyn ⟨hnN, hnS⟩).1, (stepN_ok hyn ⟨hnN, hnS⟩).2, ?ne⟩, aF.sub _ ?sub, o2, aF.get (p := (s'.heap.objs.size, o2)) (by walk_at "n"), c2, d2⟩
              case eq => rw [take_succ_of hy, List.foldl_append, ← hny]; rfl
              case ne => exact aF.ne (o := listOf (refs A (stepN σ dm x ny y)) 0) (o' := o2) (by walk_at "n") (by walk_at "n") (by rw [c2]; exact ne_lit)
              case sub => exact allCons (by walk_at "n") (allCons (by walk_at "n") (fun p hp => .tail _ (.tail _ (.tail _ hp))))
          case hR2 =>
            clear a3 hcd a1 a' hnN hnS hnI
            intro m ex s4 T9 a
            refine Ob67 T9 fun lr nr oc nl kn ny em9 ee9 hcd hny hnN hnS hnI => ?_
            subst em9 ee9
            have hsz : (refs A (σ.out x)).size = (σ.out x).length := by simp
            rw [hsz, List.take_length] at hny
            walk_at "g5"
            refine hQ8 _ _ ?_
            dsimp only
            refine ⟨_, _, ⟨lr, nr, some (.ref (A.r x).a), oc, nl, kn, ny, rfl, rfl, hcd, ?eq3, ?nt3, hnN, hnS, ?ne3⟩, a.sub _ ?sub3, o1, a.get (p := (hB.objs.size, o1)) (by walk_at "n"), c1, d1⟩
            case eq3 => rw [take_succ_of hx, List.foldl_append, ← hnx]; exact hny
            case nt3 => rw [take_succ_of hx]; simp only [List.mem_append, List.mem_singleton, not_or]; exact ⟨htj, htx⟩
            case ne3 => exact a.ne (o := listOf (refs A ny) kn) (o' := o1) (by walk_at "n") (by walk_at "n") (by rw [c1]; exact ne_lit)
            case sub3 => exact allCons (by walk_at "n") (allCons (by walk_at "n") (fun p hp => .tail _ (.tail _ (.tail _ (.tail _ (.tail _ (.tail _ hp)))))))
      case hR =>
        intro m ex s4 T9 a
        refine Ob78 T9 fun lr nr ro oc nl kn nx em9 ee9 hcd hnx htj hnN hnS hnI => ?_
        subst em9 ee9
        have hsz : (refs A l).size = l.length := by simp
        rw [hsz, List.take_length] at hnx htj
        refine Ob23 (a) fun h₂ tl₂ G F1 N1 => ?_
        have X' := G.X
        have T' := G.T
        dsimp only [List.cons_append, List.nil_append] at N1
        walk_at "q"
        refine methodCall_star ?_
        walk_at "Q"
        refine callWith_MS (K := K w.params) (g := 1001) (self := .ref A.m) ?hfn ?_
        case hfn => k_dflt k_is
        walk_at "g5"
        rename Fr _ _ _ _ => F1
        rename News _ _ _ _ => N1
        refine star_seq F1 N1 (show (D, tupOf ws) ∈ _ from by walk_at "n") rfl rfl (.inr rfl) (show ws.toArray.toList = ws by simp) (by rw [List.size_toArray]; exact Nat.le_trans hw (by decide)) (fun h8 F8 N8 => ?_)
        clear F1 N1
        refine spliced_none ⟨methP N8 (.head _) (X'.keeps F8.keep), ?_⟩
        · refine call_bound (N8.get (.head _)) ?_
          try simp only [List.append_nil, List.nil_append, List.cons_append]
          refine ih (G.cxx (xs := [nl]) F8 (fun x hx => by rw [List.mem_singleton.mp hx]; exact G.priv N8 (show (nl, listOf (refs A nx) kn) ∈ _ from by walk_at "n")) ?c1 ?c2) (G.stx F8 N8 (by walk_at "h") (by walk_at "H") rfl) (by show d + 1 + n + 20 < recursionLimit; omega) (by show u + 3 + 3 * n + 60 < cLine; omega) hnS hnN ⟨N8.get (by walk_at "n"), inX_none (by simp)⟩ (fun s₂ R₂ p₂ => ?_)
          case c1 => rfl
          case c2 => rfl
          have hh : hlF σ t dm (n + 1) l = hlF σ t dm n nx := by rw [hnx]; exact if_neg htj
          rw [hh] at h
          refine h _ R₂ (Post.trans' ?pp p₂ fun x hx => .inl hx)
          exact G.post F8 N8 (fun p hp => .inl (by revert p; walk_at "h")) (by walk_at "H") rfl rfl id
end
end
section
section
variable {w : World} {mg mb : PySem.Str → Option Value} {base g : Heap} {outer : List Env} {d u : Nat} {gs : Option (List Code)} {E : Value → Shared → Prop} {s : Shared} {A : AD} {σ : SS}
theorem mem_add {n : Fin 5} : n ∈ (σ.add n).ns := by
  by_cases h : n ∈ σ.ns
  · rw [add_old h]; exact h
  · rw [add_new h]; simp
theorem hlF_add {a : Fin 5} {t : Fin 5} {m : Fin 3} : ∀ n l, hlF (σ.add a) t m n l = hlF σ t m n l
  | 0, _ => rfl
  | n + 1, l => by
    show (if t ∈ l then true else hlF (σ.add a) t m n (l.foldl (stepX σ m) [])) = _
    rw [hlF_add n]; rfl
theorem hlT' {n : Nat} {t : Fin 5} {dm : Fin 3} {l : List (Fin 5)} {rl xm : Addr} {k tt ti td : Nat} {Q : Value → Shared → Prop} (em : A.m = xm) (C : Cx w mg mb base outer g) (Z : Stand w g A σ s)
  (hd : d + (n + 1) + 20 < recursionLimit) (hu : u + 3 * (n + 1) + 60 < cLine) (hl5 : ∀ x ∈ l, x ∈ σ.ns) (hlN : l.Nodup) (hrl : s.heap.get? rl = some (listOf (refs A l) k) ∧ g.get? rl = none)
  (h : ∀ s', Rep w A σ s'.heap → Post [998] s s' → Q (.bool (hlF σ t dm (n + 1) l)) s') :
  codeAny (model pw_ae0023_01 w) (Ar d outer gs u) (.call (.ref 1001) ⟨[.ref xm, .str (nmS t) tt, .ref rl, .int (n : Int) ti, .str (domS dm) td], []⟩) (Back Q E) s := by
  subst em
  have z := hl_G (Nat.le_of_ble_eq_true rfl) (nextT_ok (td := td)) (ti := ti) (tt := tt) (gs := gs) (E := E) (n + 1) C Z hd hu hl5 hlN hrl h
  rwa [show (((n + 1 : Nat) : Int) - 1) = (n : Int) from by omega] at z
theorem hlN' {n : Nat} {t : Fin 5} {l : List (Fin 5)} {rl xm : Addr} {k tt ti td : Nat} {Q : Value → Shared → Prop} (em : A.m = xm) (C : Cx w mg mb base outer g) (Z : Stand w g A σ s)
  (hd : d + (n + 1) + 20 < recursionLimit) (hu : u + 3 * (n + 1) + 60 < cLine) (hl5 : ∀ x ∈ l, x ∈ σ.ns) (hlN : l.Nodup) (hrl : s.heap.get? rl = some (listOf (refs A l) k) ∧ g.get? rl = none)
  (h : ∀ s', Rep w A σ s'.heap → Post [998] s s' → Q (.bool (hlF σ t 0 (n + 1) l)) s') :
  codeAny (model pw_ae0023_01 w) (Ar d outer gs u) (.call (.ref 1001) ⟨[.ref xm, .str (nmS t) tt, .ref rl, .int (n : Int) ti], []⟩) (Back Q E) s := by
  subst em
  have z := hl_G (Nat.le_of_ble_eq_true rfl) next0_ok (ti := ti) (tt := tt) (gs := gs) (E := E) (n + 1) C Z hd hu hl5 hlN hrl h
  rwa [show (((n + 1 : Nat) : Int) - 1) = (n : Int) from by omega] at z
noncomputable def hasL (σ : SS) (a b : Fin 5) (m : Fin 3) : Bool := if a = b then true else hlF σ b m (σ.lv + 1) [a]
theorem has_T {a b : Fin 5} {dm : Fin 3} {ta tb td : Nat} {xm : Addr} {Q : Value → Shared → Prop} (C : Cx w mg mb base outer g) (Z : Stand w g A σ s) (hd : d + 40 < recursionLimit) (hu : u + 100 < cLine) (hlv : σ.lv ≤ 5) (emm : A.m = xm)
  (h : ∀ A' σ' s', (σ' = σ ∨ σ' = (σ.add a).add b) → Rep w A' σ' s'.heap → Step A σ s A' σ' s' → Q (.bool (hasL σ a b dm)) s') :
  wpAny (model pw_ae0023_01 w) (Ar d outer gs u) (call (.ref 996) [.ref xm, .str (nmS a) ta, .str (nmS b) tb, .str (domS dm) td]) Q E s := by
  subst emm
  walk_at "f"
  refine Ob11 (Z.R.mdO) fun t1T md => ?_
  have hl : ∀ p ∈ [(A.m, instObj 1061 A.dm), (A.dm, mgrO w A σ t1T)], s.heap.get? p.1 = some p.2 ∧ g.get? p.1 = none := allCons ⟨Z.R.mi, off_of Z foot_m⟩ (allCons ⟨md, off_of Z foot_dm⟩ allNil)
  refine wpAny_call ?_
  refine' enter_rest (vs := [.str (domS dm) td]) (g₁ := fun D => some [("self", .ref A.m), ("name1", .str (nmS a) ta), ("name2", .str (nmS b) tb), ("domains", .ref D)]) C Z.hg hl ?k6 ?k7 (room0 hd) ?k9 (fun _ => rfl) ?kB ?_ ?c2 ?c3 ?c4 ?c5
  case k6 => k_dflt k_is
  case k7 => k_dflt k_is
  case k9 => k_dflt (exact rfl)
  case c5 => k_dflt decide
  case kB => k_dflt (exact fun _ => locs rfl)
  case c2 => exact rfl
  case c3 => exact rfl
  case c4 => exact rfl
  intro D L' h' hD hL hgL F' N' C' l1 l2
  refine hideE fun E9 => ?_
  have G := Grd.enter (A.hid σ.ns) C Z hl hL hgL C'
  have X' := G.X
  have T' := G.T
  have S0 : Step A σ s A σ s := Step.refl s
  have hDh : D ∉ A.hid σ.ns := notHid Z.R hD
  k_lt l1
  clear hl hL hgL C' l2
  walk_at "g5"
  refine PyProof.Rows.eq_str ?_
  by_cases hab : a = b
  · subst hab
    rw [beq_self_eq_true]
    walk_at "g5"
    rename Fr _ _ _ _ => F1
    rename News _ _ _ _ => N1
    dsimp only
    have hh : hasL σ a a dm = true := if_pos rfl
    rw [hh] at h
    refine h A σ _ (.inl rfl) (G.rep F1 N1 (by walk_at "h") (by walk_at "H")) (S0.post' ?pp)
    exact G.post F1 N1 (fun p hp => .inl (by revert p; walk_at "h")) (by walk_at "H") rfl rfl id
  · rw [show (nmS a == nmS b) = false from beq_eq_false_iff_ne.mpr fun e => hab (nmS_inj e)]
    have hh : hasL σ a b dm = hlF ((σ.add a).add b) b dm (σ.lv + 1) [a] := by rw [hlF_add, hlF_add]; exact if_neg hab
    rw [hh] at h
    walk_at "g5"
    rename Fr _ _ _ _ => F1
    rename News _ _ _ _ => N1
    refine getRole (G.cx F1 N1 (by walk_at "h") (by walk_at "H") ?c1 ?c2) (G.st F1 N1 (by walk_at "h") (by walk_at "H") rfl) (roomD hd) (roomU hu) rfl (fun A1 s1 R1 p1 => ?_)
    case c1 => rfl
    case c2 => rfl
    have em1 : A1.m = A.m := p1.em
    have DH1 : D ∉ A1.hid (σ.add a).ns := p1.notin (N1.get (show (D, tupOf [.str (domS dm) td]) ∈ _ from by walk_at "n")) hDh
    refine Ob11 (R1.mdO) fun m11T md1 => ?_
    obtain ⟨h₂, tl₂, G, S1, F₂, N₂⟩ := G.backS S0 F1 N1 (by walk_at "h") (by walk_at "H") p1 rfl rfl rfl R1 [(A.m, instObj 1061 A1.dm), (A1.dm, mgrO w A1 σ m11T), (D, tupOf [.str (domS dm) td])]
      (allCons (.inl ⟨by rw [← em1]; exact R1.mi, by rw [← em1]; exact foot_m⟩) (allCons (.inl ⟨md1, foot_dm⟩) (allCons (.inr (.inl ⟨by walk_at "n", hDh⟩)) allNil)))
    clear F1 N1 X' T' p1
    have X' := G.X
    have T' := G.T
    dsimp only [List.cons_append, List.nil_append] at N₂
    walk_at "g5"
    rename Fr _ _ _ _ => F1
    rename News _ _ _ _ => N1
    refine getRole (G.cx F1 N1 (by walk_at "h") (by walk_at "H") ?c1 ?c2) (G.st F1 N1 (by walk_at "h") (by walk_at "H") rfl) (roomD hd) (roomU hu) em1 (fun A2 s2 R2 p2 => ?_)
    case c1 => rfl
    case c2 => rfl
    have em2 : A2.m = A.m := p2.em.trans em1
    have ha1 : a ∈ (σ.add a).ns := mem_add
    have ha : a ∈ ((σ.add a).add b).ns := p2.ns a ha1
    have hb : b ∈ ((σ.add a).add b).ns := mem_add
    have ea : (A1.r a).a = (A2.r a).a := (p2.ra a ha1).symm
    refine Ob11 (R2.mdO) fun m21T md2 => ?_
    refine Ob11 ((R2.ro b hb).dO) fun n1T rd => ?_
    obtain ⟨h₂, tl₂, G, S2, F₂, N₂⟩ := G.backS S1 F1 N1 (by walk_at "h") (by walk_at "H") p2 rfl rfl rfl R2 [((A2.r b).a, instObj 854 (A2.r b).dx), ((A2.r b).dx, roleO w A2 b n1T), (A.m, instObj 1061 A2.dm), (A2.dm, mgrO w A2 σ m21T), (D, tupOf [.str (domS dm) td])]
      (allCons (.inl ⟨(R2.ro b hb).i, foot_a hb⟩) (allCons (.inl ⟨rd, foot_dx hb⟩) (allCons (.inl ⟨by rw [← em2]; exact R2.mi, by rw [← em2]; exact foot_m⟩) (allCons (.inl ⟨md2, foot_dm⟩) (allCons (.inr (.inl ⟨by walk_at "n", DH1⟩)) allNil)))))
    clear F1 N1 X' T' p2 S1 md1 md2 rd
    have X' := G.X
    have T' := G.T
    dsimp only [List.cons_append, List.nil_append] at N₂
    rw [ea] at F₂
    walk_at "q"
    refine methodCall_star ?_
    walk_at "Q"
    refine callWith_MS (K := K w.params) (g := 1001) (self := .ref A.m) ?hfn ?_
    case hfn => k_dflt k_is
    walk_at "g5"
    rename Fr _ _ _ _ => F1
    rename News _ _ _ _ => N1
    rename_i lU hU lUlt
    clear lUlt
    refine star_seq F1 N1 (show (D, tupOf [.str (domS dm) td]) ∈ _ from by walk_at "n") rfl rfl (.inr rfl) rfl (Nat.le_of_ble_eq_true rfl) (fun h8 F8 N8 => ?_)
    clear F1 N1
    refine spliced_none ⟨methP N8 (.tail _ (.head _)) (X'.keeps F8.keep), ?_⟩
    · refine call_bound (N8.get (.tail _ (.head _))) ?_
      refine hlT' (rl := lU)  em2 (G.cxx (xs := [lU]) F8 (fun x hx => by rw [List.mem_singleton.mp hx]; exact G.priv N8 (show (lU, listOf #[.ref (A2.r a).a] 0) ∈ _ from by walk_at "n")) ?c1 ?c2) (G.stx F8 N8 (by walk_at "h") (by walk_at "H") rfl) (by show d + 1 + (σ.lv + 1) + 20 < recursionLimit; omega) (by show u + 3 + 3 * (σ.lv + 1) + 60 < cLine; omega) (by simpa using ha) (by simp) ⟨N8.get (show (lU, listOf (refs A2 [a]) 0) ∈ _ by walk_at "n"), inX_none (by simp)⟩ (fun s₂ R₂ p₂ => ?_)
      case c1 => rfl
      case c2 => rfl
      refine h A2 _ _ (.inr rfl) R₂ (S2.post' (Post.trans' ?pq p₂ fun x hx => .inl (by rw [List.mem_singleton.mp hx]; exact List.mem_cons_of_mem _ List.mem_cons_self)))
      exact G.post F8 N8 (fun p hp => .inl (by revert p; walk_at "h")) (by walk_at "H") rfl rfl id
theorem has_N {a b : Fin 5} {dm : Fin 3} {ta tb td : Nat} {xm : Addr} {Q : Value → Shared → Prop} (C : Cx w mg mb base outer g) (Z : Stand w g A σ s) (hd : d + 40 < recursionLimit) (hu : u + 100 < cLine) (hlv : σ.lv ≤ 5) (emm : A.m = xm)
  (h : ∀ A' σ' s', (σ' = σ ∨ σ' = (σ.add a).add b) → Rep w A' σ' s'.heap → Step A σ s A' σ' s' → Q (.bool (hasL σ a b 0)) s') :
  wpAny (model pw_ae0023_01 w) (Ar d outer gs u) (call (.ref 996) [.ref xm, .str (nmS a) ta, .str (nmS b) tb]) Q E s := by
  subst emm
  walk_at "f"
  refine Ob11 (Z.R.mdO) fun t1T md => ?_
  have hl : ∀ p ∈ [(A.m, instObj 1061 A.dm), (A.dm, mgrO w A σ t1T)], s.heap.get? p.1 = some p.2 ∧ g.get? p.1 = none := allCons ⟨Z.R.mi, off_of Z foot_m⟩ (allCons ⟨md, off_of Z foot_dm⟩ allNil)
  refine wpAny_call ?_
  refine' enter_rest (vs := []) (g₁ := fun D => some [("self", .ref A.m), ("name1", .str (nmS a) ta), ("name2", .str (nmS b) tb), ("domains", .ref D)]) C Z.hg hl ?k6 ?k7 (room0 hd) ?k9 (fun _ => rfl) ?kB ?_ ?c2 ?c3 ?c4 ?c5
  case k6 => k_dflt k_is
  case k7 => k_dflt k_is
  case k9 => k_dflt (exact rfl)
  case c5 => k_dflt decide
  case kB => k_dflt (exact fun _ => locs rfl)
  case c2 => exact rfl
  case c3 => exact rfl
  case c4 => exact rfl
  intro D L' h' hD hL hgL F' N' C' l1 l2
  refine hideE fun E9 => ?_
  have G := Grd.enter (A.hid σ.ns) C Z hl hL hgL C'
  have X' := G.X
  have T' := G.T
  have S0 : Step A σ s A σ s := Step.refl s
  have hDh : D ∉ A.hid σ.ns := notHid Z.R hD
  k_lt l1
  clear hl hL hgL C' l2
  walk_at "g5"
  refine PyProof.Rows.eq_str ?_
  by_cases hab : a = b
  · subst hab
    rw [beq_self_eq_true]
    walk_at "g5"
    rename Fr _ _ _ _ => F1
    rename News _ _ _ _ => N1
    dsimp only
    have hh : hasL σ a a 0 = true := if_pos rfl
    rw [hh] at h
    refine h A σ _ (.inl rfl) (G.rep F1 N1 (by walk_at "h") (by walk_at "H")) (S0.post' ?pp)
    exact G.post F1 N1 (fun p hp => .inl (by revert p; walk_at "h")) (by walk_at "H") rfl rfl id
  · rw [show (nmS a == nmS b) = false from beq_eq_false_iff_ne.mpr fun e => hab (nmS_inj e)]
    have hh : hasL σ a b 0 = hlF ((σ.add a).add b) b 0 (σ.lv + 1) [a] := by rw [hlF_add, hlF_add]; exact if_neg hab
    rw [hh] at h
    walk_at "g5"
    rename Fr _ _ _ _ => F1
    rename News _ _ _ _ => N1
    refine getRole (G.cx F1 N1 (by walk_at "h") (by walk_at "H") ?c1 ?c2) (G.st F1 N1 (by walk_at "h") (by walk_at "H") rfl) (roomD hd) (roomU hu) rfl (fun A1 s1 R1 p1 => ?_)
    case c1 => rfl
    case c2 => rfl
    have em1 : A1.m = A.m := p1.em
    have DH1 : D ∉ A1.hid (σ.add a).ns := p1.notin (N1.get (show (D, tupOf []) ∈ _ from by walk_at "n")) hDh
    refine Ob11 (R1.mdO) fun m11T md1 => ?_
    obtain ⟨h₂, tl₂, G, S1, F₂, N₂⟩ := G.backS S0 F1 N1 (by walk_at "h") (by walk_at "H") p1 rfl rfl rfl R1 [(A.m, instObj 1061 A1.dm), (A1.dm, mgrO w A1 σ m11T), (D, tupOf [])]
      (allCons (.inl ⟨by rw [← em1]; exact R1.mi, by rw [← em1]; exact foot_m⟩) (allCons (.inl ⟨md1, foot_dm⟩) (allCons (.inr (.inl ⟨by walk_at "n", hDh⟩)) allNil)))
    clear F1 N1 X' T' p1
    have X' := G.X
    have T' := G.T
    dsimp only [List.cons_append, List.nil_append] at N₂
    walk_at "g5"
    rename Fr _ _ _ _ => F1
    rename News _ _ _ _ => N1
    refine getRole (G.cx F1 N1 (by walk_at "h") (by walk_at "H") ?c1 ?c2) (G.st F1 N1 (by walk_at "h") (by walk_at "H") rfl) (roomD hd) (roomU hu) em1 (fun A2 s2 R2 p2 => ?_)
    case c1 => rfl
    case c2 => rfl
    have em2 : A2.m = A.m := p2.em.trans em1
    have ha1 : a ∈ (σ.add a).ns := mem_add
    have ha : a ∈ ((σ.add a).add b).ns := p2.ns a ha1
    have hb : b ∈ ((σ.add a).add b).ns := mem_add
    have ea : (A1.r a).a = (A2.r a).a := (p2.ra a ha1).symm
    refine Ob11 (R2.mdO) fun m21T md2 => ?_
    refine Ob11 ((R2.ro b hb).dO) fun n1T rd => ?_
    obtain ⟨h₂, tl₂, G, S2, F₂, N₂⟩ := G.backS S1 F1 N1 (by walk_at "h") (by walk_at "H") p2 rfl rfl rfl R2 [((A2.r b).a, instObj 854 (A2.r b).dx), ((A2.r b).dx, roleO w A2 b n1T), (A.m, instObj 1061 A2.dm), (A2.dm, mgrO w A2 σ m21T), (D, tupOf [])]
      (allCons (.inl ⟨(R2.ro b hb).i, foot_a hb⟩) (allCons (.inl ⟨rd, foot_dx hb⟩) (allCons (.inl ⟨by rw [← em2]; exact R2.mi, by rw [← em2]; exact foot_m⟩) (allCons (.inl ⟨md2, foot_dm⟩) (allCons (.inr (.inl ⟨by walk_at "n", DH1⟩)) allNil)))))
    clear F1 N1 X' T' p2 S1 md1 md2 rd
    have X' := G.X
    have T' := G.T
    dsimp only [List.cons_append, List.nil_append] at N₂
    rw [ea] at F₂
    walk_at "q"
    refine methodCall_star ?_
    walk_at "Q"
    refine callWith_MS (K := K w.params) (g := 1001) (self := .ref A.m) ?hfn ?_
    case hfn => k_dflt k_is
    walk_at "g5"
    rename Fr _ _ _ _ => F1
    rename News _ _ _ _ => N1
    rename_i lU hU lUlt
    clear lUlt
    refine star_seq F1 N1 (show (D, tupOf []) ∈ _ from by walk_at "n") rfl rfl (.inr rfl) rfl (Nat.le_of_ble_eq_true rfl) (fun h8 F8 N8 => ?_)
    clear F1 N1
    refine spliced_none ⟨methP N8 (.tail _ (.head _)) (X'.keeps F8.keep), ?_⟩
    · refine call_bound (N8.get (.tail _ (.head _))) ?_
      refine hlN' (rl := lU) (td := 0) em2 (G.cxx (xs := [lU]) F8 (fun x hx => by rw [List.mem_singleton.mp hx]; exact G.priv N8 (show (lU, listOf #[.ref (A2.r a).a] 0) ∈ _ from by walk_at "n")) ?c1 ?c2) (G.stx F8 N8 (by walk_at "h") (by walk_at "H") rfl) (by show d + 1 + (σ.lv + 1) + 20 < recursionLimit; omega) (by show u + 3 + 3 * (σ.lv + 1) + 60 < cLine; omega) (by simpa using ha) (by simp) ⟨N8.get (show (lU, listOf (refs A2 [a]) 0) ∈ _ by walk_at "n"), inX_none (by simp)⟩ (fun s₂ R₂ p₂ => ?_)
      case c1 => rfl
      case c2 => rfl
      refine h A2 _ _ (.inr rfl) R₂ (S2.post' (Post.trans' ?pq p₂ fun x hx => .inl (by rw [List.mem_singleton.mp hx]; exact List.mem_cons_of_mem _ List.mem_cons_self)))
      exact G.post F8 N8 (fun p hp => .inl (by revert p; walk_at "h")) (by walk_at "H") rfl rfl id
end
end
section
open SeqAt
open PySem.AutoSeq1 (wpAny_loadPart')
open MeetsSeq MeetsSeq2 MeetsSeq3 SeqRoads2
theorem remove_loopAt (l : Addr) (items : Array Value) (n : Nat) (x : Value) (e : Value → Bool) (j : Nat) (hj : j < items.size) (hit : e items[j] = true) (k : Nat) (hs1 : items.size ≤ sizeLine) :
    ∀ i : Nat, j - i = k → i ≤ j → (∀ m (hm : m < items.size), i ≤ m → m < j → e items[m] = false) → Meets (Builtin.«list.remove.loop» ⟨[.ref l, x, rawInt i], []⟩)
      (fun A R s => s.heap.get? l = some { cls := .type "list", dict := none, data := .seq items n, slots := #[] } ∧ (∀ y, y ∈ items → EqAt A.in1 s y x (e y)) ∧ R (.ok (.ret .none)) { s with heap := s.heap.update l (Obj.mapSeq fun xs => xs.eraseIdxIfInBounds j) }) := by
  induction k with
  | zero =>
    intro i hk hij hno prog w A R s h
    obtain ⟨hp, g, d, tk, os⟩ := s; obtain ⟨hl, he, h⟩ := h
    have hij' : i = j := by omega
    subst hij'
    wp_walk using wpAny_loadPart' hl
    have hi : items[((i : Nat) : Int).toNat]? = some items[i] := by simp [hj]
    rw [hi]
    refine wpAny_bind (he _ (Array.getElem_mem hj) prog w _ _ ?_)
    rw [hit]
    have hz' : (items.eraseIdxIfInBounds i).size ≤ sizeLine + 1 := Nat.le_trans (size_erased items _) (Nat.le_succ_of_le hs1)
    wp_walk using (wpAny_updateSeq hl rfl (hz := hs1) (_hz' := hz')), wpAny_loadPart' hl
    simpa using h
  | succ k ih =>
    intro i hk hij hno prog w A R s h
    obtain ⟨hp, g, d, tk, os⟩ := s; obtain ⟨hl, he, h⟩ := h
    have hlt : i < items.size := by omega
    wp_walk using wpAny_loadPart' hl
    have hi : items[((i : Nat) : Int).toNat]? = some items[i] := by simp [hlt]
    have hc : ((i : Int) + 1) = ((i + 1 : Nat) : Int) := by push_cast; rfl
    rw [hi]
    refine wpAny_bind (he _ (Array.getElem_mem hlt) prog w _ _ ?_)
    rw [hno i hlt (Nat.le_refl _) (by omega)]
    wp_walk
    rw [hc]
    exact ⟨plainId_quiet plain_remove_loop _, codeAny_builtin entry_remove_loop (by
      rw [Around.under_plainId plain_remove_loop _]
      exact ih (i + 1) (by omega) (by omega) (fun m hm h1 h2 => hno m hm (by omega) h2) prog w A R _ ⟨hl, he, h⟩)⟩
theorem list_removeAt (l : Addr) (items : Array Value) (n : Nat) (x : Value) (e : Value → Bool) (j : Nat) (hj : j < items.size)
    (hit : e items[j] = true) (hno : ∀ m (hm : m < items.size), m < j → e items[m] = false) (hs1 : items.size ≤ sizeLine) :
    Meets (Builtin.«list.remove» ⟨[.ref l, x], []⟩)
      (fun A R s => s.heap.get? l = some { cls := .type "list", dict := none, data := .seq items n, slots := #[] } ∧ (∀ y, y ∈ items → EqAt A.in1 s y x (e y)) ∧ R (.ok (.ret .none)) { s with heap := s.heap.update l (Obj.mapSeq fun xs => xs.eraseIdxIfInBounds j) }) := by
  intro prog w A R s h
  obtain ⟨hp, g, d, tk, os⟩ := s; obtain ⟨hl, he, h⟩ := h
  wp_walk using wpAny_loadPart' hl
  exact ⟨plainId_quiet plain_remove_loop _, codeAny_builtin entry_remove_loop (by
    rw [Around.under_plainId plain_remove_loop _]
    exact remove_loopAt l items n x e j hj hit _ hs1 0 rfl (Nat.zero_le _) (fun m hm _ h2 => hno m hm h2) prog w A R _ ⟨hl, he, h⟩)⟩
section
variable {w : World} {A : Around} {s : Shared} {E : Value → Shared → Prop} {Q : Value → Shared → Prop}
abbrev sk (w : World) := PySem.strKind pw_ae0023_01 w
theorem call_remove {l : Addr} {items : Array Value} {n : Nat} {x : Value} (e : Value → Bool) (j : Nat) (hl : s.heap.get? l = some (listOf items n)) (hj : j < items.size) (hit : e items[j] = true) (hno : ∀ m (hm : m < items.size), m < j → e items[m] = false)
    (hs1 : items.size ≤ sizeLine) (he : ∀ y, y ∈ items → EqAt A.in1 s y x (e y)) (h : ∀ h', Heap.SameBut l s.heap h' → (∃ k, h'.get? l = some (listOf (items.eraseIdxIfInBounds j) k)) → Q .none { s with heap := h' }) :
    wpAny (model pw_ae0023_01 w) A (call (.builtin "list.remove") [.ref l, x]) Q E s := by
  refine call_meets F.slot_list_remove ⟨_, hl, rfl⟩ F.entry_list_remove (F.args_list_remove_2 _ _) (list_removeAt l items n x e j hj hit hno hs1) ⟨hl, he, h _ (Heap.SameBut.update ..) ?_⟩
  exact ⟨_, Heap.get?_update_self _ hl rfl⟩
theorem eqKeys {ks ks' : List PySem.Str} {a b : Addr} (h1 : IsTupleKey (sk w) s.heap ks a) (h2 : IsTupleKey (sk w) s.heap ks' b) (hu : A.units < cLine) : EqAt A s (.ref a) (.ref b) (decide (ks = ks')) := by
  by_cases q : a = b
  · subst q
    obtain ⟨o, its, n, ho, hc, hd, hi⟩ := h1
    obtain ⟨o', its', n', ho', hc', hd', hi'⟩ := h2
    rw [ho] at ho'; cases ho'
    rw [hd] at hd'; cases hd'
    rw [decide_eq_true (hi.inj hi')]
    exact EqAt.same _
  · obtain ⟨o, its, n, ho, hc, hd, hi⟩ := h1
    obtain ⟨o', its', n', ho', hc', hd', hi'⟩ := h2
    have key : ∀ {ks : List PySem.Str} {vs : List Value}, ItemsAre (sk w) ks vs → ∀ (j : Nat) (hj : j < vs.length), ∃ x t, ks[j]? = some x ∧ vs[j] = .str x t := by
      intro ks vs h
      induction h with
      | nil => intro j hj; exact absurd hj (Nat.not_lt_zero _)
      | @cons k v ks vs hk _ ih =>
        intro j hj
        cases j with
        | zero => obtain ⟨t, rfl⟩ := Value.isStrOf_shape hk; exact ⟨k, t, rfl, rfl⟩
        | succ j => exact ih j (Nat.lt_of_succ_lt_succ hj)
    have l1 : ks.length = its.size := hi.length.trans Array.length_toList
    have l2 : ks'.length = its'.size := hi'.length.trans Array.length_toList
    have z := EqAt.of_refs q (RcAt.tuples (e := fun j => decide (ks[j]? = ks'[j]?)) ⟨o, ho, hc, n, hd⟩ ⟨o', ho', hc', n', hd'⟩ hu fun j h1 h2 => by
      obtain ⟨x, t, e1, e2⟩ := key hi j (by rw [Array.length_toList]; exact h1)
      obtain ⟨x', t', e1', e2'⟩ := key hi' j (by rw [Array.length_toList]; exact h2)
      rw [Array.getElem_toList] at e2 e2'
      rw [e2, e2', e1, e1']
      have y := (EqGives.str x x' t t').at A.in1 s
      have hb : (x.cps.toList == x'.cps.toList) = decide (some x = some x') := by
        by_cases q : x = x'
        · subst q; simp
        · rw [decide_eq_false fun e => q (Option.some.inj e)]
          refine beq_eq_false_iff_ne.mpr fun hl => q ?_
          cases x; cases x'
          simp only [Str.mk.injEq]
          exact Array.toList_inj.mp hl
      rw [hb] at y
      exact y)
    have hv : ((List.range (min its.size its'.size)).all (fun j => decide (ks[j]? = ks'[j]?)) && its.size == its'.size) = decide (ks = ks') := by
      rw [← l1, ← l2]
      by_cases q : ks = ks'
      · subst q; simp
      · rw [decide_eq_false q]
        by_cases hlen : ks.length = ks'.length
        · rw [hlen, Nat.min_self, beq_self_eq_true, Bool.and_true]
          rw [Bool.eq_false_iff]
          intro hall
          apply q
          refine List.ext_getElem? fun j => ?_
          by_cases hj : j < ks'.length
          · exact of_decide_eq_true (List.all_eq_true.mp hall j (List.mem_range.mpr hj))
          · rw [List.getElem?_eq_none (by omega), List.getElem?_eq_none (by omega)]
        · rw [beq_eq_false_iff_ne.mpr hlen, Bool.and_false]
    rw [hv] at z
    exact z
end
end
section
open SeqAt
abbrev Pr := Fin 5 × Fin 5
abbrev prS (p : Pr) : List PySem.Str := [nmS p.1, nmS p.2]
abbrev prL (la : Pr → Addr) (ls : List Pr) : Array Value := (ls.map fun p => Value.ref (la p)).toArray
theorem eraseIdx_map' {α β : Type} {f : α → β} : ∀ (l : List α) (j : Nat), (l.map f).eraseIdx j = (l.eraseIdx j).map f
  | [], _ => rfl
  | a :: l, 0 => rfl
  | a :: l, j + 1 => by simp only [List.map_cons, List.eraseIdx_cons_succ, eraseIdx_map' l j]
theorem prS_inj {p p' : Pr} (e : prS p = prS p') : p = p' := by
  simp only [prS, List.cons.injEq, and_true] at e
  exact Prod.ext (nmS_inj e.1) (nmS_inj e.2)
def eP (la : Pr → Addr) (ls : List Pr) (p : Pr) (v : Value) : Bool := decide (p ∈ ls ∧ v = .ref (la p))
section
variable {w : World} {A : Around} {s : Shared} {h h' : Heap} {la : Pr → Addr} {ls : List Pr} {p : Pr} {T : Addr}
theorem la_inj (hk : ∀ p ∈ ls, IsTupleKey (sk w) h (prS p) (la p)) {p p' : Pr} (hp : p ∈ ls) (hp' : p' ∈ ls) (e : la p = la p') : p = p' := by
  obtain ⟨o, its, n, ho, hc, hd, hi⟩ := hk p hp
  obtain ⟨o', its', n', ho', hc', hd', hi'⟩ := hk p' hp'
  rw [e, ho'] at ho; cases ho
  rw [hd'] at hd; cases hd
  exact prS_inj (hi.inj hi')
theorem eP_at (hk : ∀ p ∈ ls, IsTupleKey (sk w) s.heap (prS p) (la p)) (hT : IsTupleKey (sk w) s.heap (prS p) T) (hu : A.units < cLine) : ∀ y, y ∈ prL la ls → EqAt A s y (.ref T) (eP la ls p y) := by
  intro y hy
  simp only [prL, List.mem_toArray, List.mem_map] at hy
  obtain ⟨p', hp', rfl⟩ := hy
  have z := eqKeys (hk p' hp') hT hu
  have e : eP la ls p (.ref (la p')) = decide (prS p' = prS p) := by
    unfold eP
    refine decide_eq_decide.mpr ⟨fun q => ?_, fun q => ?_⟩
    · rw [la_inj hk q.1 hp' (by have := q.2; injection this with this; exact this.symm)]
    · have := prS_inj q
      subst this; exact ⟨hp', rfl⟩
  rw [e]; exact z
theorem any_eP : (prL la ls).any (eP la ls p) = decide (p ∈ ls) := by
  rw [← Array.any_toList, Bool.eq_iff_iff, List.any_eq_true, decide_eq_true_iff]
  constructor
  · rintro ⟨v, hv, e⟩; exact (of_decide_eq_true e).1
  · exact fun q => ⟨.ref (la p), List.mem_map.mpr ⟨p, q, rfl⟩, decide_eq_true ⟨q, rfl⟩⟩
theorem len_pr (hn : ls.Nodup) : ls.length ≤ 25 := by
  have := len_sub hn (l' := (List.finRange 5).flatMap fun a => (List.finRange 5).map fun b => (a, b)) fun x _ => List.mem_flatMap.mpr ⟨x.1, List.mem_finRange _, List.mem_map.mpr ⟨x.2, List.mem_finRange _, rfl⟩⟩
  exact Nat.le_trans this (by decide)
theorem eP_idx (hk : ∀ p ∈ ls, IsTupleKey (sk w) h (prS p) (la p)) (hp : p ∈ ls) (hn : ls.Nodup) : ∃ j, ∃ hj : j < (prL la ls).size, eP la ls p (prL la ls)[j] = true ∧ (∀ m (hm : m < (prL la ls).size), m < j → eP la ls p (prL la ls)[m] = false) ∧
    (prL la ls).eraseIdxIfInBounds j = prL la (ls.filter fun x => decide (x ≠ p)) := by
  have hj : ls.idxOf p < ls.length := List.idxOf_lt_length_of_mem hp
  refine ⟨ls.idxOf p, by simpa using hj, ?_, fun m hm hlt => ?_, ?_⟩
  · unfold eP
    refine decide_eq_true ⟨hp, ?_⟩
    simp only [prL, List.getElem_toArray, List.getElem_map, List.getElem_idxOf]
  · unfold eP
    refine decide_eq_false fun q => ?_
    have hm' : m < ls.length := by simpa using hm
    have e : (prL la ls)[m] = .ref (la ls[m]) := by simp [prL]
    rw [e] at q
    have q2 : la ls[m] = la p := by have := q.2; injection this
    have := la_inj hk (List.getElem_mem hm') hp q2
    have h2 := List.not_of_lt_findIdx (p := fun x => x == p) (xs := ls) (i := m) (by simpa [List.idxOf] using hlt)
    simp [this] at h2
  · have e1 : (prL la ls).eraseIdxIfInBounds (ls.idxOf p) = ((ls.map fun p => Value.ref (la p)).eraseIdx (ls.idxOf p)).toArray := by
      simp [prL]
    rw [e1, eraseIdx_map']
    have e2 : ls.eraseIdx (ls.idxOf p) = ls.filter fun x => decide (x ≠ p) := by
      rw [← List.erase_eq_eraseIdx_of_idxOf rfl, List.Nodup.erase_eq_filter hn]
      congr 1
      funext x
      by_cases q : x = p <;> simp [q, bne]
    rw [e2]
end
section
variable {w : World} {mg mb : PySem.Str → Option Value} {base g h₀ h h' : Heap} {outer : List Env} {A : AD} {σ : SS} {s₀ s₁ s s' : Shared} {Mm xs : List Addr} {L : Addr} {m : PySem.Str → Option Value} {ex tl news : List (Addr × Obj)}
theorem Rep.al_apart (R : Rep w A σ h) : A.al ≠ A.m ∧ A.al ≠ A.dm ∧ A.al ≠ A.ar ∧ ∀ n ∈ σ.ns, A.al ∉ (A.r n).all := by
  refine Ob11 (R.al) fun k1 al => ?_
  have no : ∀ {y : Addr} {o' : Obj}, h.get? y = some o' → o'.cls ≠ .type "list" → A.al ≠ y := fun e nn q => by
    rw [← q, al] at e; cases e; exact nn rfl
  have nl : Value.type "dict" ≠ .type "list" := fun q => by injection q with q; exact absurd q (by decide)
  refine ⟨no R.mi (by intro q; cases q), ?_, Ne.symm R.ar_apart.2.2.1, fun n hn hy => ?_⟩
  · obtain ⟨t1, t2, t3, t4, t5, tl, md⟩ := R.md; exact no md nl
  · have z := R.ro n hn
    have dn : A.al ∉ (A.r n).ds := fun q => by
      have := (z.clsI al).2.2.2 q
      exact nl this.symm
    simp only [RA.ds, List.mem_cons, List.not_mem_nil, or_false, not_or] at dn
    simp only [RA.all, List.mem_cons, List.not_mem_nil, or_false] at hy
    rcases hy with q | q | q | q | q | q
    · exact no z.i (by intro q; cases q) q
    · exact dn.1 q
    · exact (R.ne n hn).1 q.symm
    · exact (R.ne n hn).2 q.symm
    · exact dn.2.1 q
    · exact dn.2.2 q
def SS.setLs (σ : SS) (ls : List Pr) : SS := { σ with ls := ls }
theorem Rep.setLs (R : Rep w A σ h) (k : Kept [A.al] h h') {ls' : List Pr} {la' : Pr → Addr} {kk : Nat} (e : h'.get? A.al = some (listOf (prL la' ls') kk)) (hla : ∀ p ∈ ls', IsTupleKey (sk w) h' (prS p) (la' p)) (nd : ls'.Nodup) :
    Rep w { A with la := la' } (σ.setLs ls') h' := by
  have t : NoTup [A.al] h := R.noTup fun y hy => by rw [List.mem_singleton.mp hy]; exact foot_al
  obtain ⟨a1, a2, a3, a4⟩ := R.al_apart
  have nm : ∀ {y : Addr}, A.al ≠ y → y ∉ [A.al] := fun q e => q (List.mem_singleton.mp e).symm
  have far := R.foot_far foot_al
  refine Ob61 (R.md) fun t1 t2 t3 t4 t5 tl md => ?_
  obtain ⟨o, es, ep, ar, r⟩ := R.ar
  exact { mi := k _ _ R.mi (nm a1), md := ⟨t1, t2, t3, t4, t5, tl, k _ _ md (nm a2)⟩, al := ⟨kk, e⟩, la := hla,
           ar := ⟨o, es, ep, k _ _ ar (nm a3), r⟩, ro := fun n hn => (R.ro n hn).kept k t (fun y hy q => a4 n hn (List.mem_singleton.mp q ▸ hy)) rfl (fun _ _ => rfl) rfl rfl rfl fun _ z => z,
           nd1 := R.nd1, nd2 := R.nd2, ne := R.ne, gt := R.gt, ab := R.ab, nn := R.nn, ln := nd,
           t7 := R.t7.kept k (nm far.2.2.1) (nm far.1), t9 := R.t9.kept k (nm far.2.2.2) (nm far.2.1) }
end
end
section
section
variable {w : World} {mg mb : PySem.Str → Option Value} {base g : Heap} {outer : List Env} {d u : Nat} {gs : Option (List Code)} {E : Value → Shared → Prop} {s : Shared} {A : AD} {σ : SS}
theorem Step.of_postS {σ' : SS} {M : List Addr} {s' : Shared} (p : Post M s s') (hM : ∀ x ∈ M, x ∈ A.hid σ.ns) (e : σ'.ns = σ.ns) : Step A σ s A σ' s' :=
  ⟨p.sub hM, rfl, fun _ _ => rfl, fun n h => e ▸ h, fun x h => .inl (e ▸ h)⟩
theorem crm_add_dcond {a b : Fin 5} {dm : Fin 3} {f : Fin 3} {ta tb td : Nat} {xm : Addr} {Q : Value → Shared → Prop} (C : Cx w mg mb base outer g) (Z : Stand w g A σ s) (hd : d + 30 < recursionLimit) (hu : u + 80 < cLine) (emm : A.m = xm)
  (h : ∀ A' s', Rep w A' (((σ.add a).add b).setC a b dm f) s'.heap → Step A σ s A' (((σ.add a).add b).setC a b dm f) s' → Q .none s') :
  wpAny (model pw_ae0023_01 w) (Ar d outer gs u) (call (.ref 1044) [.ref xm, .str (nmS a) ta, .str (nmS b) tb, .str (domS dm) td, .ref (condF f)]) Q E s := by
  subst emm
  walk_at "f"
  refine Ob11 (Z.R.mdO) fun t1T md => ?_
  have hl : ∀ p ∈ [(A.m, instObj 1061 A.dm), (A.dm, mgrO w A σ t1T)], s.heap.get? p.1 = some p.2 ∧ g.get? p.1 = none := allCons ⟨Z.R.mi, off_of Z foot_m⟩ (allCons ⟨md, off_of Z foot_dm⟩ allNil)
  refine wpAny_call ?_
  have Xs := C.X.keeps Z.hg
  refine' enter_def C Z.hg hl ?k6 ?k7 (room0 hd) ?k9 ?kB ?_ ?c2 ?c3 ?c4 ?c5
  walk_at "e2"
  intro L' h' hL hgL F' N' C' l1
  refine hideE fun E9 => ?_
  have G := Grd.enter (A.hid σ.ns) C Z hl hL hgL C'
  have X' := G.X
  have T' := G.T
  k_lt l1
  clear hl hL hgL C' Xs 
  have S0 : Step A σ s A σ s := Step.refl s
  walk_at "g5"
  rename Fr _ _ _ _ => F1
  rename News _ _ _ _ => N1
  refine getRole (G.cx F1 N1 (by walk_at "h") (by walk_at "H") ?c1 ?c2) (G.st F1 N1 (by walk_at "h") (by walk_at "H") rfl) (roomD hd) (roomU hu) rfl (fun A1 s1 R1 p1 => ?_)
  case c1 => rfl
  case c2 => rfl
  have em1 : A1.m = A.m := p1.em
  refine Ob11 (R1.mdO) fun m11T md1 => ?_
  refine Ob24 (G.backS S0 F1 N1 (by walk_at "h") (by walk_at "H") p1 rfl rfl rfl R1 [(A.m, instObj 1061 A1.dm), (A1.dm, mgrO w A1 σ m11T)] (allCons (.inl ⟨by rw [← em1]; exact R1.mi, by rw [← em1]; exact foot_m⟩) (allCons (.inl ⟨md1, foot_dm⟩) (allNil)))) fun h₂ tl₂ G S1 F₂ N₂ => ?_
  clear F1 N1 X' T' p1
  have X' := G.X
  have T' := G.T
  dsimp only [List.cons_append, List.nil_append] at N₂
  walk_at "g5"
  rename Fr _ _ _ _ => F1
  rename News _ _ _ _ => N1
  refine getRole (G.cx F1 N1 (by walk_at "h") (by walk_at "H") ?c1 ?c2) (G.st F1 N1 (by walk_at "h") (by walk_at "H") rfl) (roomD hd) (roomU hu) em1 (fun A2 s2 R2 p2 => ?_)
  case c1 => rfl
  case c2 => rfl
  have em2 : A2.m = A.m := p2.em.trans em1
  have ha1 : a ∈ (σ.add a).ns := mem_add
  have ha : a ∈ ((σ.add a).add b).ns := p2.ns a ha1
  have hb : b ∈ ((σ.add a).add b).ns := mem_add
  have ea : (A1.r a).a = (A2.r a).a := (p2.ra a ha1).symm
  refine Ob11 (R2.mdO) fun m12T md2 => ?_
  refine Ob11 ((R2.ro a ha).dO) fun n1a2T rda2 => ?_
  refine Ob24 (G.backS S1 F1 N1 (by walk_at "h") (by walk_at "H") p2 rfl rfl rfl R2 [((A2.r a).a, instObj 854 (A2.r a).dx), ((A2.r a).dx, roleO w A2 a n1a2T), (A.m, instObj 1061 A2.dm), (A2.dm, mgrO w A2 σ m12T)] (allCons (.inl ⟨(R2.ro a ha).i, foot_a ha⟩) (allCons (.inl ⟨rda2, foot_dx ha⟩) (allCons (.inl ⟨by rw [← em2]; exact R2.mi, by rw [← em2]; exact foot_m⟩) (allCons (.inl ⟨md2, foot_dm⟩) (allNil)))))) fun h₂ tl₂ G S2 F₂ N₂ => ?_
  clear F1 N1 X' T' p2 S1 md1 md2 rda2
  have X' := G.X
  have T' := G.T
  dsimp only [List.cons_append, List.nil_append] at N₂
  rw [ea] at F₂
  walk_at "g5"
  rename Fr _ _ _ _ => F1
  rename News _ _ _ _ => N1
  refine role_set_cond (G.cx F1 N1 (by walk_at "h") (by walk_at "H") ?c1 ?c2) (G.st F1 N1 (by walk_at "h") (by walk_at "H") rfl) (roomD hd) (roomU hu) ha hb (fun s3 R3 p3 => ?_)
  case c1 => rfl
  case c2 => rfl
  refine Ob24 (G.backS S2 F1 N1 (by walk_at "h") (by walk_at "H") (Step.of_postS (σ' := ((σ.add a).add b).setC a b dm f) p3 (fun x hx => by rw [List.mem_singleton.mp hx]; exact hid_foot (foot_cm ha)) rfl) rfl rfl rfl R3 [] allNil) fun h₂ tl₂ G S3 F₂ N₂ => ?_
  clear F1 N1 X' T' p3 S2
  have X' := G.X
  have T' := G.T
  simp only [List.nil_append] at N₂
  walk_at "g5"
  rename Fr _ _ _ _ => F1
  rename News _ _ _ _ => N1
  try dsimp only
  refine h A2 _ (G.rep F1 N1 (fun _ q => nomatch q) (fun p hp => hp)) (S3.post' ?pp)
  exact G.post F1 N1 (fun _ q => nomatch q) (fun p hp => hp) rfl rfl id
theorem crm_add_cond {a b : Fin 5} {f : Fin 3} {ta tb : Nat} {xm : Addr} {Q : Value → Shared → Prop} (C : Cx w mg mb base outer g) (Z : Stand w g A σ s) (hd : d + 40 < recursionLimit) (hu : u + 100 < cLine) (emm : A.m = xm)
  (h : ∀ A' s', Rep w A' (((σ.add a).add b).setC a b 0 f) s'.heap → Step A σ s A' (((σ.add a).add b).setC a b 0 f) s' → Q .none s') :
  wpAny (model pw_ae0023_01 w) (Ar d outer gs u) (call (.ref 1037) [.ref xm, .str (nmS a) ta, .str (nmS b) tb, .ref (condF f)]) Q E s := by
  subst emm
  walk_at "f"
  refine Ob11 (Z.R.mdO) fun t1T md => ?_
  have hl : ∀ p ∈ [(A.m, instObj 1061 A.dm), (A.dm, mgrO w A σ t1T)], s.heap.get? p.1 = some p.2 ∧ g.get? p.1 = none := allCons ⟨Z.R.mi, off_of Z foot_m⟩ (allCons ⟨md, off_of Z foot_dm⟩ allNil)
  refine wpAny_call ?_
  have Xs := C.X.keeps Z.hg
  refine' enter_def C Z.hg hl ?k6 ?k7 (room0 hd) ?k9 ?kB ?_ ?c2 ?c3 ?c4 ?c5
  walk_at "e2"
  intro L' h' hL hgL F' N' C' l1
  refine hideE fun E9 => ?_
  have G := Grd.enter (A.hid σ.ns) C Z hl hL hgL C'
  have X' := G.X
  have T' := G.T
  k_lt l1
  clear hl hL hgL C' Xs 
  have S0 : Step A σ s A σ s := Step.refl s
  walk_at "g5"
  rename Fr _ _ _ _ => F1
  rename News _ _ _ _ => N1
  refine crm_add_dcond (dm := 0) (G.cx F1 N1 (by walk_at "h") (by walk_at "H") ?c1 ?c2) (G.st F1 N1 (by walk_at "h") (by walk_at "H") rfl) (roomD hd) (roomU hu) rfl (fun A2 s3 R3 p3 => ?_)
  case c1 => rfl
  case c2 => rfl
  refine Ob24 (G.backS S0 F1 N1 (by walk_at "h") (by walk_at "H") p3 rfl rfl rfl R3 [] allNil) fun h₂ tl₂ G S3 F₂ N₂ => ?_
  clear F1 N1 X' T' p3 S0
  have X' := G.X
  have T' := G.T
  simp only [List.nil_append] at N₂
  walk_at "g5"
  rename Fr _ _ _ _ => F1
  rename News _ _ _ _ => N1
  try dsimp only
  refine h A2 _ (G.rep F1 N1 (fun _ q => nomatch q) (fun p hp => hp)) (S3.post' ?pp)
  exact G.post F1 N1 (fun _ q => nomatch q) (fun p hp => hp) rfl rfl id
end
end
section
section
variable {w : World} {mg mb : PySem.Str → Option Value} {base g : Heap} {outer : List Env} {d u : Nat} {gs : Option (List Code)} {E : Value → Shared → Prop} {s : Shared} {A : AD} {σ : SS}
theorem crm_set_dprm {a b : Fin 5} {dm : Fin 3} {r : Fin 7} {ws : List Value} {ta tb td : Nat} {xm : Addr} {Q : Value → Shared → Prop} (C : Cx w mg mb base outer g) (Z : Stand w g A σ s) (hd : d + 30 < recursionLimit) (hu : u + 80 < cLine) (emm : A.m = xm)
  (hw : ItemsAre (PySem.strKind pw_ae0023_01 w) (rowS r) ws)
  (h : ∀ A' s', Rep w A' (((σ.add a).add b).setP a b dm r) s'.heap → Step A σ s A' (((σ.add a).add b).setP a b dm r) s' → Q .none s') :
  codeAny (model pw_ae0023_01 w) (Ar d outer gs u) (.call (.ref 1058) ⟨.ref xm :: .str (nmS a) ta :: .str (nmS b) tb :: .str (domS dm) td :: ws, []⟩) (Back Q E) s := by
  subst emm
  walk_at "f"
  refine Ob11 (Z.R.mdO) fun t1T md => ?_
  have hl : ∀ p ∈ [(A.m, instObj 1061 A.dm), (A.dm, mgrO w A σ t1T)], s.heap.get? p.1 = some p.2 ∧ g.get? p.1 = none := allCons ⟨Z.R.mi, off_of Z foot_m⟩ (allCons ⟨md, off_of Z foot_dm⟩ allNil)
  have h3 : ws.length ≤ 3 := by rw [← hw.length]; exact len_row3 r
  refine' enter_rest (vs := ws) (g₁ := fun D => some [("self", .ref A.m), ("user_name", .str (nmS a) ta), ("role_name", .str (nmS b) tb), ("domain", .str (domS dm) td), ("params", .ref D)]) C Z.hg hl ?k6 ?k7 (room0 hd) ?k9 (fun _ => rfl) ?kB ?_ ?c2 ?c3 ?c4 ?c5
  case k6 => k_dflt k_is
  case k7 => k_dflt k_is
  case k9 => k_dflt (rcases le3c h3 with rfl | ⟨_, rfl⟩ | ⟨_, _, rfl⟩ | ⟨_, _, _, rfl⟩ <;> rfl)
  case c5 => k_dflt decide
  case kB => k_dflt (exact fun _ => locs rfl)
  case c2 => exact rfl
  case c3 => exact rfl
  case c4 => exact rfl
  intro D L' h' hD hL hgL F' N' C' l1 l2
  refine hideE fun E9 => ?_
  have G := Grd.enter (A.hid σ.ns) C Z hl hL hgL C'
  have X' := G.X
  have T' := G.T
  have S0 : Step A σ s A σ s := Step.refl s
  have hDh : D ∉ A.hid σ.ns := notHid Z.R hD
  k_lt l1
  clear hl hL hgL C' l2
  walk_at "g5"
  rename Fr _ _ _ _ => F1
  rename News _ _ _ _ => N1
  refine getRole (G.cx F1 N1 (by walk_at "h") (by walk_at "H") ?c1 ?c2) (G.st F1 N1 (by walk_at "h") (by walk_at "H") rfl) (roomD hd) (roomU hu) rfl (fun A1 s1 R1 p1 => ?_)
  case c1 => rfl
  case c2 => rfl
  have em1 : A1.m = A.m := p1.em
  have hDh1 := p1.notin (N1.get (show (D, tupOf ws) ∈ _ from by walk_at "n")) hDh
  refine Ob11 (R1.mdO) fun m11T md1 => ?_
  refine Ob24 (G.backS S0 F1 N1 (by walk_at "h") (by walk_at "H") p1 rfl rfl rfl R1 [(A.m, instObj 1061 A1.dm), (A1.dm, mgrO w A1 σ m11T), (D, tupOf ws)] (allCons (.inl ⟨by rw [← em1]; exact R1.mi, by rw [← em1]; exact foot_m⟩) (allCons (.inl ⟨md1, foot_dm⟩) (allCons (.inr (.inl ⟨by walk_at "n", hDh⟩)) (allNil))))) fun h₂ tl₂ G S1 F₂ N₂ => ?_
  clear F1 N1 X' T' p1
  have X' := G.X
  have T' := G.T
  dsimp only [List.cons_append, List.nil_append] at N₂
  walk_at "g5"
  rename Fr _ _ _ _ => F1
  rename News _ _ _ _ => N1
  refine getRole (G.cx F1 N1 (by walk_at "h") (by walk_at "H") ?c1 ?c2) (G.st F1 N1 (by walk_at "h") (by walk_at "H") rfl) (roomD hd) (roomU hu) em1 (fun A2 s2 R2 p2 => ?_)
  case c1 => rfl
  case c2 => rfl
  have em2 : A2.m = A.m := p2.em.trans em1
  have hDh2 := p2.notin (N1.get (show (D, tupOf ws) ∈ _ from by walk_at "n")) hDh1
  have ha1 : a ∈ (σ.add a).ns := mem_add
  have ha : a ∈ ((σ.add a).add b).ns := p2.ns a ha1
  have hb : b ∈ ((σ.add a).add b).ns := mem_add
  have ea : (A1.r a).a = (A2.r a).a := (p2.ra a ha1).symm
  refine Ob11 (R2.mdO) fun m12T md2 => ?_
  refine Ob11 ((R2.ro a ha).dO) fun n1a2T rda2 => ?_
  refine Ob24 (G.backS S1 F1 N1 (by walk_at "h") (by walk_at "H") p2 rfl rfl rfl R2 [((A2.r a).a, instObj 854 (A2.r a).dx), ((A2.r a).dx, roleO w A2 a n1a2T), (A.m, instObj 1061 A2.dm), (A2.dm, mgrO w A2 σ m12T), (D, tupOf ws)] (allCons (.inl ⟨(R2.ro a ha).i, foot_a ha⟩) (allCons (.inl ⟨rda2, foot_dx ha⟩) (allCons (.inl ⟨by rw [← em2]; exact R2.mi, by rw [← em2]; exact foot_m⟩) (allCons (.inl ⟨md2, foot_dm⟩) (allCons (.inr (.inl ⟨by walk_at "n", hDh1⟩)) (allNil))))))) fun h₂ tl₂ G S2 F₂ N₂ => ?_
  clear F1 N1 X' T' p2 S1 md1 md2 rda2
  have X' := G.X
  have T' := G.T
  dsimp only [List.cons_append, List.nil_append] at N₂
  rw [ea] at F₂
  walk_at "q"
  refine methodCall_star ?_
  walk_at "Q"
  refine callWith_MS (K := K w.params) (g := 844) (self := .ref (A2.r a).a) ?hfn ?_
  case hfn => k_dflt k_is
  walk_at "g5"
  rename Fr _ _ _ _ => F1
  rename News _ _ _ _ => N1
  refine star_seq F1 N1 (show (D, tupOf ws) ∈ _ from by walk_at "n") rfl rfl (.inr rfl) (show ws.toArray.toList = ws by simp) (by rw [List.size_toArray]; exact Nat.le_trans h3 (by decide)) (fun h8 F8 N8 => ?_)
  clear F1 N1
  refine spliced_none ⟨methP N8 (.head _) (X'.keeps F8.keep), ?_⟩
  · refine call_bound (N8.get (.head _)) ?_
    try simp only [List.append_nil, List.nil_append, List.cons_append]
    refine role_set_prm (G.cx F8 N8 (by walk_at "h") (by walk_at "H") ?c1 ?c2) (G.st F8 N8 (by walk_at "h") (by walk_at "H") rfl) (roomD hd) (roomU hu) ha hb hw (fun s3 R3 p3 => ?_)
    case c1 => rfl
    case c2 => rfl
    refine Ob24 (G.backS S2 F8 N8 (by walk_at "h") (by walk_at "H") (Step.of_postS (σ' := ((σ.add a).add b).setP a b dm r) p3 (fun x hx => by rw [List.mem_singleton.mp hx]; exact hid_foot (foot_pm ha)) rfl) rfl rfl rfl R3 [] allNil) fun h₂ tl₂ G S3 F₂ N₂ => ?_
    clear F8 N8 X' T' p3 S2
    have X' := G.X
    have T' := G.T
    simp only [List.nil_append] at N₂
    try dsimp only
    walk_at "g5"
    rename Fr _ _ _ _ => F1
    rename News _ _ _ _ => N1
    refine h A2 _ (G.rep F1 N1 (fun _ q => nomatch q) (fun p hp => hp)) (S3.post' ?pp)
    exact G.post F1 N1 (fun _ q => nomatch q) (fun p hp => hp) rfl rfl id
theorem crm_set_prm {a b : Fin 5} {dm : Fin 3} {r : Fin 7} {ws : List Value} {ta tb td : Nat} {xm : Addr} {Q : Value → Shared → Prop} (C : Cx w mg mb base outer g) (Z : Stand w g A σ s) (hd : d + 40 < recursionLimit) (hu : u + 100 < cLine) (emm : A.m = xm)
  (hw : ItemsAre (PySem.strKind pw_ae0023_01 w) (rowS r) ws)
  (h : ∀ A' s', Rep w A' (((σ.add a).add b).setP a b 0 r) s'.heap → Step A σ s A' (((σ.add a).add b).setP a b 0 r) s' → Q .none s') :
  codeAny (model pw_ae0023_01 w) (Ar d outer gs u) (.call (.ref 1051) ⟨.ref xm :: .str (nmS a) ta :: .str (nmS b) tb :: ws, []⟩) (Back Q E) s := by
  subst emm
  walk_at "f"
  refine Ob11 (Z.R.mdO) fun t1T md => ?_
  have hl : ∀ p ∈ [(A.m, instObj 1061 A.dm), (A.dm, mgrO w A σ t1T)], s.heap.get? p.1 = some p.2 ∧ g.get? p.1 = none := allCons ⟨Z.R.mi, off_of Z foot_m⟩ (allCons ⟨md, off_of Z foot_dm⟩ allNil)
  have h3 : ws.length ≤ 3 := by rw [← hw.length]; exact len_row3 r
  refine' enter_rest (vs := ws) (g₁ := fun D => some [("self", .ref A.m), ("user_name", .str (nmS a) ta), ("role_name", .str (nmS b) tb), ("params", .ref D)]) C Z.hg hl ?k6 ?k7 (room0 hd) ?k9 (fun _ => rfl) ?kB ?_ ?c2 ?c3 ?c4 ?c5
  case k6 => k_dflt k_is
  case k7 => k_dflt k_is
  case k9 => k_dflt (rcases le3c h3 with rfl | ⟨_, rfl⟩ | ⟨_, _, rfl⟩ | ⟨_, _, _, rfl⟩ <;> rfl)
  case c5 => k_dflt decide
  case kB => k_dflt (exact fun _ => locs rfl)
  case c2 => exact rfl
  case c3 => exact rfl
  case c4 => exact rfl
  intro D L' h' hD hL hgL F' N' C' l1 l2
  refine hideE fun E9 => ?_
  have G := Grd.enter (A.hid σ.ns) C Z hl hL hgL C'
  have X' := G.X
  have T' := G.T
  have S0 : Step A σ s A σ s := Step.refl s
  have hDh : D ∉ A.hid σ.ns := notHid Z.R hD
  k_lt l1
  clear hl hL hgL C' l2
  walk_at "q"
  refine methodCall_star ?_
  walk_at "Q"
  refine callWith_MS (K := K w.params) (g := 1058) (self := .ref A.m) ?hfn ?_
  case hfn => k_dflt k_is
  walk_at "g5"
  rename Fr _ _ _ _ => F1
  rename News _ _ _ _ => N1
  refine star_seq F1 N1 (show (D, tupOf ws) ∈ _ from by walk_at "n") rfl rfl (.inr rfl) (show ws.toArray.toList = ws by simp) (by rw [List.size_toArray]; exact Nat.le_trans h3 (by decide)) (fun h8 F8 N8 => ?_)
  clear F1 N1
  refine spliced_none ⟨methP N8 (.head _) (X'.keeps F8.keep), ?_⟩
  · refine call_bound (N8.get (.head _)) ?_
    try simp only [List.append_nil, List.nil_append, List.cons_append]
    refine crm_set_dprm (dm := 0) (G.cx F8 N8 (by walk_at "h") (by walk_at "H") ?c1 ?c2) (G.st F8 N8 (by walk_at "h") (by walk_at "H") rfl) (roomD hd) (roomU hu) rfl hw (fun A2 s3 R3 p3 => ?_)
    case c1 => rfl
    case c2 => rfl
    refine Ob24 (G.backS S0 F8 N8 (by walk_at "h") (by walk_at "H") p3 rfl rfl rfl R3 [] allNil) fun h₂ tl₂ G S3 F₂ N₂ => ?_
    clear F8 N8 X' T' p3 S0
    have X' := G.X
    have T' := G.T
    simp only [List.nil_append] at N₂
    try dsimp only
    walk_at "g5"
    rename Fr _ _ _ _ => F1
    rename News _ _ _ _ => N1
    refine h A2 _ (G.rep F1 N1 (fun _ q => nomatch q) (fun p hp => hp)) (S3.post' ?pp)
    exact G.post F1 N1 (fun _ q => nomatch q) (fun p hp => hp) rfl rfl id
end
end
section
section
variable {w : World} {mg mb : PySem.Str → Option Value} {base g : Heap} {outer : List Env} {d u : Nat} {gs : Option (List Code)} {E : Value → Shared → Prop} {s : Shared} {A : AD} {σ : SS}
theorem prL_snoc {la : Pr → Addr} {ls : List Pr} {p : Pr} {T : Addr} (hn : p ∉ ls) : prL (fun x => if x = p then T else la x) (ls ++ [p]) = (prL la ls).push (.ref T) := by
  simp only [prL, List.map_append, List.map_cons, List.map_nil, if_true, List.push_toArray]
  rw [List.map_congr_left (g := fun p => Value.ref (la p)) fun x hx => by rw [if_neg (fun q : x = p => hn (q ▸ hx))]]
theorem nodup_snoc' {ls : List Pr} {p : Pr} (h : ls.Nodup) (hn : p ∉ ls) : (ls ++ [p]).Nodup := by
  rw [List.nodup_append]
  exact ⟨h, by simp, fun x hx y hy q => hn (by rw [List.mem_singleton] at hy; subst hy; subst q; exact hx)⟩
def addL (σ : SS) (a b : Fin 5) : SS := (((σ.setLs (σ.ls ++ [(a, b)])).add a).add b).setO a ((σ.out a).filter (fun x => decide (x ≠ b)) ++ [b])
theorem crm_add_link {a b : Fin 5} {ta tb : Nat} {xm : Addr} {Q : Value → Shared → Prop} (C : Cx w mg mb base outer g) (Z : Stand w g A σ s) (hd : d + 40 < recursionLimit) (hu : u + 100 < cLine) (emm : A.m = xm) (hnl : (a, b) ∉ σ.ls)
  (h : ∀ A' s', Rep w A' (addL σ a b) s'.heap → Step A σ s A' (addL σ a b) s' → Q .none s') :
  wpAny (model pw_ae0023_01 w) (Ar d outer gs u) (call (.ref 930) [.ref xm, .str (nmS a) ta, .str (nmS b) tb]) Q E s := by
  subst emm
  walk_at "f"
  refine Ob11 (Z.R.mdO) fun t1T md => ?_
  refine Ob11 (Z.R.al) fun kal eal => ?_
  have hl : ∀ p ∈ [(A.m, instObj 1061 A.dm), (A.dm, mgrO w A σ t1T), (A.al, listOf (prL A.la σ.ls) kal)], s.heap.get? p.1 = some p.2 ∧ g.get? p.1 = none := by
    simp [md, Z.R.mi, eal, off_of Z foot_m, off_of Z foot_dm, off_of Z foot_al]
  refine wpAny_call ?_
  refine' enter_rest (vs := []) (g₁ := fun D => some [("self", .ref A.m), ("name1", .str (nmS a) ta), ("name2", .str (nmS b) tb), ("domain", .ref D)]) C Z.hg hl ?k6 ?k7 (room0 hd) ?k9 (fun _ => rfl) ?kB ?_ ?c2 ?c3 ?c4 ?c5
  case k6 => k_dflt k_is
  case k7 => k_dflt k_is
  case k9 => k_dflt (exact rfl)
  case c5 => k_dflt decide
  case kB => k_dflt (exact fun _ => locs rfl)
  case c2 => exact rfl
  case c3 => exact rfl
  case c4 => exact rfl
  intro D L' h' hD hL hgL F' N' C' l1 l2
  refine hideE fun E9 => ?_
  have G := Grd.enter (A.hid σ.ns) C Z hl hL hgL C'
  have X' := G.X
  have T' := G.T
  have a1 := Z.R.al_apart
  k_lt l1
  clear hl hL hgL C' l2
  walk_at "g6"
  rename Fr _ _ _ _ => F1
  rename News _ _ _ _ => N1
  rename_i T hB lT
  have gT := N1.get (show (T, ({ cls := .type "tuple", data := .seq #[.str (nmS a) ta, .str (nmS b) tb] } : Obj)) ∈ _ from by walk_at "n")
  have pT := N1 _ (show (T, ({ cls := .type "tuple", data := .seq #[.str (nmS a) ta, .str (nmS b) tb] } : Obj)) ∈ _ from by walk_at "n")
  have pA := N1 _ (show (A.al, listOf (prL A.la σ.ls) kal) ∈ _ from by walk_at "n")
  refine append_at pA.1 (fun h2 hs2 e2 => ?_) (by simpa using Nat.le_trans (len_pr Z.R.ln) (by decide))
  have k2 := kept_same hs2
  have R1 := G.rep F1 N1 (by walk_at "h") (by walk_at "H")
  have F2 := fr_kept F1 k2 pA.2.1 pA.2.2
  have hTal : T ≠ A.al := neA (by omega)
  have gT2 := k2 _ _ gT fun q => hTal (List.mem_singleton.mp q)
  have nt : NoTup [A.al] hB := R1.noTup fun y hy => by rw [List.mem_singleton.mp hy]; exact foot_al
  have R2 := R1.setLs (la' := fun p => if p = (a, b) then T else A.la p) (ls' := σ.ls ++ [(a, b)]) k2 (e2.trans (by rw [prL_snoc hnl])) (fun p hp => by
    by_cases q : p = (a, b)
    · rw [if_pos q, q]; exact tup2 gT2
    · rw [if_neg q]
      rcases List.mem_append.mp hp with z | z
      · exact k2.tup nt (R1.la p z)
      · exact absurd (List.mem_singleton.mp z) q) (nodup_snoc' Z.R.ln hnl)
  have N2 : News (restH s.heap [(A.m, instObj 1061 A.dm), (A.dm, mgrO w A σ t1T), (A.al, listOf (prL A.la σ.ls) kal)]) L' h2 [(A.m, instObj 1061 A.dm), (A.dm, mgrO w A σ t1T), (A.al, listOf ((prL A.la σ.ls).push (.ref T)) (kal + 1))] := by
    have old : ∀ {y : Addr} {o : Obj}, (y, o) ∈ [(A.m, instObj 1061 A.dm), (A.dm, mgrO w A σ t1T)] → y ≠ A.al → h2.get? y = some o ∧ y ≠ L' ∧ (restH s.heap [(A.m, instObj 1061 A.dm), (A.dm, mgrO w A σ t1T), (A.al, listOf (prL A.la σ.ls) kal)]).get? y = none := fun hy n => ⟨k2 _ _ (N1.get (.tail _ (.tail _ (List.mem_append_left [(A.al, listOf (prL A.la σ.ls) kal)] hy)))) fun q => n (List.mem_singleton.mp q), (N1 _ (.tail _ (.tail _ (List.mem_append_left [(A.al, listOf (prL A.la σ.ls) kal)] hy)))).2⟩
    exact allCons (old (.head _) (Ne.symm a1.1)) (allCons (old (.tail _ (.head _)) (Ne.symm a1.2.1)) (allCons ⟨e2, pA.2⟩ allNil))
  refine Ob23 (G.turn (A' := { A with la := fun p => if p = (a, b) then T else A.la p }) (σ' := σ.setLs (σ.ls ++ [(a, b)])) (s := { s with heap := h2 }) F2 N2 (allCons (.inl (by walk_at "n")) (allCons (.inl (by walk_at "n")) (allCons (.inr ⟨hid_foot foot_al, _, (by walk_at "n")⟩) allNil))) (by walk_at "H") rfl rfl rfl (fun x hx => .inl hx) R2 [(A.m, instObj 1061 A.dm), (A.dm, mgrO w A σ t1T)] (allCons ⟨N2.get (by walk_at "n"), .inl foot_m⟩ (allCons ⟨N2.get (by walk_at "n"), .inl foot_dm⟩ allNil))) fun h₃ tl₃ G₃ F₃ N₃ => ?_
  have S0 : Step A σ s { A with la := fun p => if p = (a, b) then T else A.la p } (σ.setLs (σ.ls ++ [(a, b)])) { s with heap := h2 } := ⟨G₃.P, rfl, fun _ _ => rfl, fun _ h => h, fun x h => .inl h⟩
  clear F1 N1 F2 N2 R1 R2 X' T' G gT pT pA gT2 nt hs2 e2 k2 lT
  have G := G₃
  clear G₃
  have X' := G.X
  have T' := G.T
  dsimp only [List.cons_append, List.nil_append] at N₃
  walk_at "g6"
  rename Fr _ _ _ _ => F1
  rename News _ _ _ _ => N1
  refine getRole (G.cx F1 N1 (by walk_at "h") (by walk_at "H") ?c1 ?c2) (G.st F1 N1 (by walk_at "h") (by walk_at "H") rfl) (roomD hd) (roomU hu) rfl (fun A1 s1 R1 p1 => ?_)
  case c1 => rfl
  case c2 => rfl
  have em1 : A1.m = A.m := p1.em
  refine Ob11 (R1.mdO) fun m11T md1 => ?_
  refine Ob24 (G.backS S0 F1 N1 (by walk_at "h") (by walk_at "H") p1 rfl rfl rfl R1 [(A.m, instObj 1061 A1.dm), (A1.dm, mgrO w A1 σ m11T)] (allCons (.inl ⟨by rw [← em1]; exact R1.mi, by rw [← em1]; exact foot_m⟩) (allCons (.inl ⟨md1, foot_dm⟩) (allNil)))) fun h₂ tl₂ G S1 F₂ N₂ => ?_
  clear F1 N1 X' T' p1
  have X' := G.X
  have T' := G.T
  dsimp only [List.cons_append, List.nil_append] at N₂
  walk_at "g6"
  rename Fr _ _ _ _ => F1
  rename News _ _ _ _ => N1
  refine getRole (G.cx F1 N1 (by walk_at "h") (by walk_at "H") ?c1 ?c2) (G.st F1 N1 (by walk_at "h") (by walk_at "H") rfl) (roomD hd) (roomU hu) em1 (fun A2 s2 R2 p2 => ?_)
  case c1 => rfl
  case c2 => rfl
  have em2 : A2.m = A.m := p2.em.trans em1
  have ha1 : a ∈ ((σ.setLs (σ.ls ++ [(a, b)])).add a).ns := mem_add
  have ha : a ∈ (((σ.setLs (σ.ls ++ [(a, b)])).add a).add b).ns := p2.ns a ha1
  have hb : b ∈ (((σ.setLs (σ.ls ++ [(a, b)])).add a).add b).ns := mem_add
  have ea : (A1.r a).a = (A2.r a).a := (p2.ra a ha1).symm
  refine Ob11 (R2.mdO) fun m12T md2 => ?_
  refine Ob11 ((R2.ro a ha).dO) fun n1a2T rda2 => ?_
  refine Ob24 (G.backS S1 F1 N1 (by walk_at "h") (by walk_at "H") p2 rfl rfl rfl R2 [((A2.r a).a, instObj 854 (A2.r a).dx), ((A2.r a).dx, roleO w A2 a n1a2T), (A.m, instObj 1061 A2.dm), (A2.dm, mgrO w A2 σ m12T)] (allCons (.inl ⟨(R2.ro a ha).i, foot_a ha⟩) (allCons (.inl ⟨rda2, foot_dx ha⟩) (allCons (.inl ⟨by rw [← em2]; exact R2.mi, by rw [← em2]; exact foot_m⟩) (allCons (.inl ⟨md2, foot_dm⟩) (allNil)))))) fun h₂ tl₂ G S2 F₂ N₂ => ?_
  clear F1 N1 X' T' p2 S1 md1 md2 rda2
  have X' := G.X
  have T' := G.T
  dsimp only [List.cons_append, List.nil_append] at N₂
  rw [ea] at F₂
  walk_at "g6"
  rename Fr _ _ _ _ => F1
  rename News _ _ _ _ => N1
  refine role_add_role (G.cx F1 N1 (by walk_at "h") (by walk_at "H") ?c1 ?c2) (G.st F1 N1 (by walk_at "h") (by walk_at "H") rfl) (roomD hd) (roomU hu) ha hb rfl rfl (fun A3 s3 R3 p3 => ?_)
  case c1 => rfl
  case c2 => rfl
  have em3 : A3.m = A.m := p3.em.trans em2
  refine Ob11 (R3.mdO) fun m13T md3 => ?_
  refine Ob24 (G.backS S2 F1 N1 (by walk_at "h") (by walk_at "H") p3 rfl rfl rfl R3 [(A.m, instObj 1061 A3.dm), (A3.dm, mgrO w A3 σ m13T)] (allCons (.inl ⟨by rw [← em3]; exact R3.mi, by rw [← em3]; exact foot_m⟩) (allCons (.inl ⟨md3, foot_dm⟩) allNil))) fun h₂ tl₂ G S3 F₂ N₂ => ?_
  clear F1 N1 X' T' p3 S2 md3
  have X' := G.X
  have T' := G.T
  dsimp only [List.cons_append, List.nil_append] at N₂
  walk_at "g6"
  rename Fr _ _ _ _ => F1
  rename News _ _ _ _ => N1
  try dsimp only
  refine h A3 _ (G.rep F1 N1 (by walk_at "h") (by walk_at "H")) (S3.post' ?pp)
  exact G.post F1 N1 (fun p hp => .inl (by revert p; walk_at "h")) (by walk_at "H") rfl rfl id
end
end
section
open SeqAt
theorem call_of_none : typeLookup (.type "NoneType") "__call__" = pure none := by rw [typeLookup_type, builtinLookup_eq_fast]; kernel_rfl
section
variable {prog : Program} {w : World} {A : Around} {E : Value → Shared → Prop} {s : Shared} {Q : Value → Shared → Prop}
theorem call_none_raises {args : List Value} (hh : A.handled = none) (h : ∀ h' tk e, Heap.NewExc s.heap h' e "TypeError" → E (.ref e) { s with heap := h', toks := tk }) : wpAny (model prog w) A (call .none args) Q E s := by
  refine wpAny_call (codeAny_of_tree ?_)
  show wpAny _ A.in1 (callAny .none ⟨args, []⟩) _ _ _
  unfold callAny
  show wpAny _ A.in1 (callAny.viaDunder .none ⟨args, []⟩) _ _ _
  unfold callAny.viaDunder specialOf
  refine wpAny_bind (wpAny_bind (wpAny_of_eq (a := Value.type "NoneType") rfl (wpAny_of_eq call_of_none ?_)))
  show wpAny _ A.in1 (callAny.notCallable .none) _ _ _
  unfold callAny.notCallable
  refine wpAny_bind (wpAny_rule ?_)
  refine wpAny_bind (wpAny_pure ?_)
  exact wpAny_raiseErrorMade plainExc_TypeError hh h (by decide +kernel)
theorem callWith_None {env : Env} {pos : Pos} {e : Expr} {rest : List Expr} (h : wpAny (model prog w) A (spliced (backTo pos (starEach (e :: rest) env))) (fun vs s₁ => wpAny (model prog w) A (call .none vs) Q E s₁) E s)
    (he : starEach (e :: rest) env = (false, eval e env) :: starEach rest env := by rfl) (hplain : (backTo pos (starEach rest env)).any (·.1) = false := by rfl) :
    wpAny (model prog w) A (callWith pos .none [] (backTo pos (starEach (e :: rest) env)) []) Q E s := by
  rw [he] at h ⊢
  exact callWith_of (P := fun _ => True) (by show ((false || (backTo pos (starEach rest env)).any (·.1)) || false) = false; rw [hplain]; rfl) (fun h _ => ⟨.machine, .inr (.inl rfl), .now⟩) (evalArgs_plain (wpAny_mono h (fun vs s₁ h₁ => ⟨trivial, h₁⟩) fun _ _ x => x))
end
end
section
open SeqAt
structure PostF (M : List Addr) (frs : List (Addr × Obj)) (s s' : Shared) : Prop where
  keep : ∀ b o, s.heap.get? b = some o → b ∉ M → b ∉ frs.map (·.1) → s'.heap.get? b = some o
  up : ∃ frs', TI.SameUp frs frs' ∧ ∀ p ∈ frs', s'.heap.get? p.1 = some p.2
  os : s'.os = s.os
  bare : AllBare s.gens → AllBare s'.gens
theorem sameUp_fst : ∀ {a b : List (Addr × Obj)}, TI.SameUp a b → b.map (·.1) = a.map (·.1)
  | [], [], _ => rfl
  | p :: ps, q :: qs, h => by rw [List.map_cons, List.map_cons, h.1, sameUp_fst h.2.2]
  | [], _ :: _, h => nomatch h
  | _ :: _, [], h => nomatch h
section
variable {prog : Program} {w : World} {A₀ : Around} {E : Value → Shared → Prop} {s' : Shared} {h₀ h : Heap} {L a e : Addr} {m : PySem.Str → Option Value} {name : PySem.Str} {scope : Scope} {cd : Value} {news : List (Addr × Obj)}
  {b₀ : Stmt} {suite : List Stmt} {pos np : Pos} {rest : List ExceptHandler} {Q : Flow → Shared → Prop} {X T' : String} {x n : PySem.Str} {p : Program} {loose : List PySem.Str} {mg mb : PySem.Str → Option Value}
theorem clause_hitR {fl : Value} (H : TT.HeldNA h₀ L s'.heap m e X news fl) (T : TopRead p loose mg mb h₀) (hv : bootBuiltins x = some (.type T'))
    (hexc : isSubtype (.type T') (.type "BaseException") = pure true) (hnt : isSubtype (.type ((Manifest.find? T').elim "type" fun y => y.metatype)) (.type "tuple") = pure false) (hsub : isSubtype (.type X) (.type T') = pure true)
    (k : ∀ h', Fr h₀ L h' m → News h₀ L h' news → wpAny (model prog w) ((A₀.deeper (envOf name scope L a cd)).mark (some (.ref e))) (execs (b₀ :: suite) (envOf name scope L a cd)) Q E { s' with heap := h' })
    (hm : mg x = none) (hn : x ≠ "__name__" := by decide +kernel)
    (hk : scope.kind = .function := by rfl) (hx : (envOf name scope L a cd).kindOf x = some .globalImplicit := by rfl) (hd : (x == ("__debug__" : PySem.Str)) = false := by decide)
    (hE : PassesOwnAt (model prog w) ((A₀.deeper (envOf name scope L a cd)).mark (some (.ref e))) (A₀.deeper (envOf name scope L a cd)) (envOf name scope L a cd) E := by passes_own) :
    wpAny (model prog w) (A₀.deeper (envOf name scope L a cd)) (handleBy (.ref e) (envOf name scope L a cd) (.ExceptHandler (some (.Name x np)) none (b₀ :: suite) pos :: rest)) Q E s' := by
  refine wpAny_handleBy_builtin (X := X) (T := T') (b := true) hexc hnt hsub (ld_builtin_at H.held.fr T.g hm T.b ((T.builtins x hn).trans hv) ⟨rfl, H.isA, ?_⟩ hk hx hd)
  rw [if_pos rfl]
  exact H.lands fun h' F' N' => wpAny_passesOwnAt hE (k h' F' N')
end
section
variable {w : World} {mg mb : PySem.Str → Option Value} {g : Heap} {outer : List Env} {d u : Nat} {gs : Option (List Code)} {E : Value → Shared → Prop} {s : Shared} {led : List (Addr × Obj)}
  {R : Result → Shared → Prop} {name qual : PySem.Str} {params : Arguments} {body : List Stmt} {scope : Scope} {dV kV doc pm cdv ct oc : Value} {an od : Option Addr} {osl : Array (Option Value)} {f : Addr} {args : Args} {binds : List (PySem.Str × Value)}
theorem enter_raw (X0 : (K w.params).In g) (T0 : TopRead q (looseW q loose) mg mb g) (hg : g.StaysIn s.heap) (hl : ∀ p ∈ led, s.heap.get? p.1 = some p.2 ∧ g.get? p.1 = none)
    (ho : (K w.params).lookup f = some ⟨oc, od, .func (fnOf name qual params body scope dV kV doc pm an cdv ct), osl⟩) (hcd : codeIn (K w.params) cdv qual = true) (hroom : d < recursionLimit)
    (hbind : BindsTo s (fnOf name qual params body scope dV kV doc pm an cdv ct) args binds) (hloc : ∀ y ∈ binds, scope.names.lookup y.1 = some .local)
    (h : ∀ L' h₁, s.heap.get? L' = none → Fr (restH s.heap led) L' h₁ (fun y => binds.reverse.lookup y) → News (restH s.heap led) L' h₁ led → (K w.params).In (restH s.heap led) → TopRead q (looseW q loose) mg mb (restH s.heap led) → (∀ p ∈ led, p.1 < L') →
      wpAny (model pw_ae0023_01 w) ((Ar d outer gs u).deeper (envOf qual scope L' f cdv)) (execs body (envOf qual scope L' f cdv))
        (fun fl s' => R (.ok (.ret (match fl with | .ret v => v | _ => .none))) s')
        (fun e s' => wpAny (model pw_ae0023_01 w) ((Ar d outer gs u).deeper (envOf qual scope L' f cdv)) (leaving (envOf qual scope L' f cdv) e) (fun _ s'' => R (.error e) s'') (fun e' s'' => R (.error e') s'') s')
        { s with heap := h₁, toks := s.toks + binds.length })
    (hco : scope.isCoroutine = false) (hgen : scope.isGenerator = false) (hk : scope.kind = .function)
    (hcell : ∀ x ∈ scope.names, x.2 ≠ .cell) : codeAny (model pw_ae0023_01 w) (Ar d outer gs u) (.call (.ref f) args) R s := by
  have X := X0.keeps hg
  have T := T0.keeps hg
  have hr := restH_of hg hl
  refine codeAny_call_def (fd := fnOf name qual params body scope dV kV doc pm an cdv ct) (body := body) (binds := binds) hroom (X _ _ ho) rfl T.nolimit (codeRec_of X hcd) rfl hbind hcell hloc (fun h₁ hns hk₁ => ?_) hco hgen hk
  exact h s.heap.objs.size h₁ (Heap.get?_none_of_le (Nat.le_refl _)) ⟨hns, fun b o e => hk₁ b o (of_hideAll _ e), Nat.le_of_eq (hideAll_size _ _)⟩
    (fun p hp => ⟨hk₁ _ _ (hl p hp).1, Nat.ne_of_lt (Heap.lt_size (hl p hp).1), hideAll_none _ (List.mem_map_of_mem hp)⟩) (X0.keeps hr) (T0.keeps hr) (fun p hp => Heap.lt_size (hl p hp).1)
end
theorem exc_sub : isSubtype (.type "TypeError") (.type "Exception") = pure true := by rw [isSubtype_type]; kernel_rfl
theorem exc_none {P : Params} : nsIn (K P) mainGlobals "Exception" = some none := by kernel_rfl
end
section
open SeqAt
section
variable {w : World} {A : Around} {E : Value → Shared → Prop} {s : Shared} {Q : Value → Shared → Prop}
theorem peek_type (P : Params) : peek (K P) ⟨pw_ae0023_01, P⟩ (typeOf (.ref 738)) = some (.ref 711) := by kernel_rfl
theorem peek_eq (P : Params) : peek (K P) ⟨pw_ae0023_01, P⟩ (typeLookup (.ref 711) "__eq__") = some (some (.builtin "object.__eq__")) := by kernel_rfl
theorem peek_chk (P : Params) : peek (K P) ⟨pw_ae0023_01, P⟩ (checkBuiltinCall "object.__eq__" ⟨[.ref 738, .ref 738], []⟩) = some () := by kernel_rfl
theorem eq_738 (X : (K w.params).In s.heap) (hu : A.units < cLine) (h : Q (.bool true) s) : wpAny (model pw_ae0023_01 w) A (compareOp .Eq (.ref 738) (.ref 738)) Q E s := by
  have L1 : Looks (model pw_ae0023_01 w) s.heap (typeOf (.ref 738)) (.ref 711) := Looks.of_peek X (peek_type _)
  have L2 : Looks (model pw_ae0023_01 w) s.heap (typeLookup (.ref 711) "__eq__") (some (.builtin "object.__eq__")) := Looks.of_peek X (peek_eq _)
  have L3 : Looks (model pw_ae0023_01 w) s.heap (checkBuiltinCall "object.__eq__" ⟨[.ref 738, .ref 738], []⟩) () := Looks.of_peek X (peek_chk _)
  have one : wpAny (model pw_ae0023_01 w) A (tryCompare (.ref 738) "__eq__" (.ref 738)) (fun r s' => r = some (.bool true) ∧ s' = s) E s := by
    unfold tryCompare
    refine wpAny_bind ?_
    simp only [callSpecialIfBound?, bindSpecialIfBound?, specialOf]
    refine wpAny_holding (wpAny_bind (wpAny_bind (wpAny_bind (L1.here (L2.here ?_)))))
    refine wpAny_bind (wpAny_askSetting (wpAny_ite ?_))
    have fin : ∀ {Q' : Option Value → Shared → Prop}, Q' (some (.bool true)) s → wpAny (model pw_ae0023_01 w) A (call (.builtin "object.__eq__") ([.ref 738] ++ [.ref 738]) >>= fun v => pure (some v)) Q' E s := fun hq =>
      wpAny_bind (wpAny_call (codeAny_call_builtin PySem.F.slot_object_eq.plain F.cmpEntry_eq (L3.here (objEq_entry_same (wpAny_pure hq)))))
    split
    · exact wpAny_bind (wpAny_of_eq (PySem.F.slot_object_eq.bind _) (wpAny_pure (fin (wpAny_pure ⟨rfl, rfl⟩))))
    · exact wpAny_tryCatch (wpAny_bind (wpAny_of_eq (PySem.F.slot_object_eq.bind _) (wpAny_pure (fin (wpAny_pure ⟨rfl, rfl⟩)))))
  show wpAny _ _ (richCompare .Eq (.ref 738) (.ref 738)) _ _ _
  unfold richCompare
  simp only [oneThing_ref]
  refine wpAny_holding (wpAny_bind (wpAny_cRoomFor hu ?_))
  refine wpAny_bind (L1.here (wpAny_bind (L1.here ?_)))
  rw [if_neg (by simp)]
  refine wpAny_bind (wpAny_pure ?_)
  simp only [Bool.false_eq_true, if_false]
  refine wpAny_bind (wpAny_mono one (fun r s' z => ?_) fun _ _ e => e)
  obtain ⟨rfl, rfl⟩ := z
  exact wpAny_pure h
end
theorem keepAll {s : Shared} {led : List (Addr × Obj)} {h : Heap} {L : Addr} {m : PySem.Str → Option Value} (F : Fr (restH s.heap led) L h m) (N : News (restH s.heap led) L h led) (hl : ∀ p ∈ led, s.heap.get? p.1 = some p.2) : ∀ b o, s.heap.get? b = some o → h.get? b = some o := fun b o e => by
  by_cases hb : b ∈ led.map (·.1)
  · obtain ⟨p, hp, rfl⟩ := List.mem_map.mp hb
    rw [hl p hp] at e; cases e
    exact (N p hp).1
  · exact F.keep b o (hideAll_get _ e hb)
theorem PostF.tail {frs : List (Addr × Obj)} {s s₁ s' : Shared} {L : Addr} {oL : Obj} {M : List Addr} (p : PostF M ((L, oL) :: frs) s₁ s') (hL : s.heap.get? L = none) (k : ∀ b o, s.heap.get? b = some o → s₁.heap.get? b = some o) (ho : s₁.os = s.os) (hb : AllBare s.gens → AllBare s₁.gens) : PostF M frs s s' := by
  refine ⟨fun b o e n1 n2 => p.keep b o (k b o e) n1 fun q => ?_, ?_, p.os.trans ho, fun x => p.bare (hb x)⟩
  · rcases List.mem_cons.mp q with q | q
    · rw [show b = L from q, hL] at e; cases e
    · exact n2 q
  · obtain ⟨frs', SU, hf⟩ := p.up
    match frs', SU with
    | q :: r, SU => exact ⟨r, SU.2.2, fun p hp => hf p (List.mem_cons_of_mem _ hp)⟩
end
section
section
variable {w : World} {mg mb : PySem.Str → Option Value} {base g : Heap} {outer : List Env} {d u : Nat} {gs : Option (List Code)} {E : Value → Shared → Prop} {s : Shared} {A : AD} {σ : SS}
theorem match_handler {frs : List (Addr × Obj)} {x y : PySem.Str} {tx ty : Nat} {Q : Value → Shared → Prop} (X0 : (K w.params).In g) (T0 : TopRead q (looseW q loose) mg mb g) (hg : g.StaysIn s.heap) (Fs : TI.Frs outer frs) (hf : ∀ p ∈ frs, s.heap.get? p.1 = some p.2 ∧ g.get? p.1 = none) (hd : d + 6 < recursionLimit) (hu : u + 20 < cLine)
  (h : ∀ s', PostF [] frs s s' → Q (.bool false) s') :
  wpAny (model pw_ae0023_01 w) (Ar d outer gs u) (call (.ref 982) [.none, .str x tx, .str y ty]) Q E s := by
  walk_at "f"
  refine wpAny_call ?_
  have Xs := X0.keeps hg
  refine' enter_raw (led := frs) X0 T0 hg hf ?k6 ?k7 (room0 hd) ?k9 ?kB ?_ ?c2 ?c3 ?c4 ?c5
  walk_at "e2"
  intro L' h' hL F' N' X' T' l1
  clear l1 Xs
  walk_at "g7"
  refine callWith_None ?_
  walk_at "g7"
  refine call_none_raises rfl (fun h2 tk e hne => ?_)
  rename Fr _ _ _ _ => F1
  rename News _ _ _ _ => N1
  refine TLg.noted_newA (l := outer) (frs := frs) (new := []) rfl Fs hne F1 N1 (fun _ q => nomatch q) (fun h3 frs3 SU3 Fs3 H3 => ?_)
  refine TT.HeldNA.land H3 (fun h4 H4 => ?_)
  refine clause_hitR (T' := "Exception") H4 T' PyProof.Rows.Boot.«Exception» PySem.F.isExc_Exception PySem.F.notTuple_Exception exc_sub (fun h5 F5 N5 => ?_) (mg_none_of X' T'.g exc_none)
  clear F1 N1 H3 H4 hne
  simp only [List.nil_append] at N5
  walk_at "g7"
  dsimp only
  exact h _ ⟨fun b o e _ hb => F5.keep b o (hideAll_get _ e hb), ⟨frs3, SU3, fun p hp => (N5 p hp).1⟩, rfl, id⟩
theorem matching_fn {frs : List (Addr × Obj)} {x y : PySem.Str} {tx ty t1 t2 t3 t4 t5 : Nat} {lv : Value} {Q : Value → Shared → Prop} (X0 : (K w.params).In g) (T0 : TopRead q (looseW q loose) mg mb g) (hg : g.StaysIn s.heap) (Fs : TI.Frs outer frs) (hf : ∀ p ∈ frs, s.heap.get? p.1 = some p.2 ∧ g.get? p.1 = none) (hd : d + 12 < recursionLimit) (hu : u + 40 < cLine)
  (hm : ∀ p ∈ [(A.m, instObj 1061 A.dm), (A.dm, mgrD w.params t1 t2 t3 t4 t5 lv A.al A.ar)], s.heap.get? p.1 = some p.2 ∧ g.get? p.1 = none)
  (h : ∀ s', PostF [] frs s s' → Q (.bool false) s') :
  wpAny (model pw_ae0023_01 w) (Ar d outer gs u) (call (.ref 888) [.ref A.m, .str x tx, .str y ty, .ref 738]) Q E s := by
  walk_at "f"
  refine wpAny_call ?_
  have Xs := X0.keeps hg
  refine' enter_raw (led := [(A.m, instObj 1061 A.dm), (A.dm, mgrD w.params t1 t2 t3 t4 t5 lv A.al A.ar)]) X0 T0 hg hm ?k6 ?k7 (room0 hd) ?k9 ?kB ?_ ?c2 ?c3 ?c4 ?c5
  walk_at "e2"
  intro L' h' hL F' N' X' T' l1
  k_lt l1
  clear Xs
  walk_at "g7"
  rename Fr _ _ _ _ => F1
  rename News _ _ _ _ => N1
  refine eq_738 (X'.keeps F1.keep) (by show u + 3 < cLine; omega) ?_
  walk_at "g7"
  rename Fr _ _ _ _ => F1
  rename News _ _ _ _ => N1
  have ka := keepAll F1 N1 (fun p hp => (hm p hp).1)
  refine Ob33 (F1.ns) fun oL esL epL gL dL _ => ?_
  have gn : g.get? L' = none := by
    cases e : g.get? L' with
    | none => rfl
    | some o => rw [hg _ _ e] at hL; cases hL
  refine match_handler (g := g) (frs := (L', oL) :: frs) X0 T0 (fun b o e => ka b o (hg b o e)) ⟨(by intro q; cases q), rfl, ⟨_, _, dL⟩, Fs⟩ (allCons ⟨gL, gn⟩ fun p hp => ⟨ka _ _ (hf p hp).1, (hf p hp).2⟩) (roomD hd) (roomU hu) (fun s2 p2 => ?_)
  refine h _ (p2.tail (s := s) hL ka ?q1 ?q2)
  case q1 => rfl
  case q2 => exact id
end
end
section
open SeqAt
theorem frs_up : ∀ {l : List Env} {a b : List (Addr × Obj)}, TI.Frs l a → TI.SameUp a b → TI.Frs l b
  | [], [], [], _, _ => trivial
  | e :: l, p :: a, q :: b, h, s => by
    obtain ⟨h1, h2, ⟨es, ep, h3⟩, h4⟩ := h
    obtain ⟨s1, ⟨sl, s2⟩, s3⟩ := s
    exact ⟨h1, by rw [s1]; exact h2, ⟨es, ep, by rw [s2]; exact h3⟩, frs_up h4 s3⟩
  | [], [], _ :: _, _, s => nomatch s
  | [], _ :: _, _, h, _ => nomatch h
  | _ :: _, [], _, h, _ => nomatch h
  | _ :: _, _ :: _, [], _, s => nomatch s
theorem frs_dict : ∀ {l : List Env} {a : List (Addr × Obj)}, TI.Frs l a → ∀ p ∈ a, ∃ es ep, p.2.data = .dict es ep
  | [], [], _, _, h => nomatch h
  | _ :: l, p :: a, h, q, hq => by
    rcases List.mem_cons.mp hq with rfl | hq
    · exact h.2.2.1
    · exact frs_dict h.2.2.2 q hq
  | [], _ :: _, h, _, _ => nomatch h
  | _ :: _, [], h, _, _ => nomatch h
structure LpE (w : World) (mg mb : PySem.Str → Option Value) (base : Heap) (outer : List Env) (frs : List (Addr × Obj)) (M : List Addr) (A : AD) (σ : SS) (L : Addr) (s : Shared) : Prop where
  X : (K w.params).In base
  T : TopRead q (looseW q loose) mg mb base
  Fs : TI.Frs outer frs
  hf : ∀ p ∈ frs, s.heap.get? p.1 = some p.2 ∧ base.get? p.1 = none
  bs : base.StaysIn s.heap
  bM : ∀ x ∈ M, base.get? x = none
  L0 : s.heap.get? L = none
  bl : ∀ b o, base.get? b = some o → b < L
  Lh : L ∉ A.hid σ.ns
  fh : ∀ p ∈ frs, p.1 ∉ A.hid σ.ns
  bh : ∀ x ∈ A.hid σ.ns, base.get? x = none
structure Lp (w : World) (frs : List (Addr × Obj)) (M : List Addr) (A : AD) (σ : SS) (L : Addr) (s : Shared) (m : PySem.Str → Option Value) (s' : Shared) : Prop where
  ns : s'.heap.Ns L m
  R : Rep w A σ s'.heap
  P : PostF M frs s s'
section
variable {w : World} {mg mb : PySem.Str → Option Value} {base : Heap} {outer : List Env} {frs : List (Addr × Obj)} {M : List Addr} {A : AD} {σ : SS} {L : Addr} {s s' s'' : Shared} {m m' : PySem.Str → Option Value}
theorem LpE.bL (e : LpE w mg mb base outer frs M A σ L s) : base.get? L = none := by
  cases q : base.get? L with
  | none => rfl
  | some o => have := e.bs _ _ q; rw [e.L0] at this; cases this
theorem Lp.bs (x : Lp w frs M A σ L s m s') (e : LpE w mg mb base outer frs M A σ L s) : base.StaysIn s'.heap := fun b o q =>
  x.P.keep b o (e.bs b o q) (fun h => by rw [e.bM b h] at q; cases q) fun h => by
    obtain ⟨p, hp, rfl⟩ := List.mem_map.mp h
    rw [(e.hf p hp).2] at q; cases q
theorem LpE.ground (e : LpE w mg mb base outer frs M A σ L s) : ∃ gB : Heap, gB.objs.size ≤ L ∧ (∀ b, gB.get? b = base.get? b) ∧ (K w.params).In gB ∧ TopRead q (looseW q loose) mg mb gB := by
  have k : ∀ b, (lowH base L).get? b = base.get? b := fun b => by
    rw [lowH_get]
    by_cases hb : b < L
    · rw [if_pos hb]
    · rw [if_neg hb]
      cases q : base.get? b with
      | none => rfl
      | some o => exact absurd (e.bl b o q) hb
  exact ⟨lowH base L, lowH_size, k, e.X.keeps fun b o h => (k b).trans h, e.T.keeps fun b o h => (k b).trans h⟩
theorem Lp.after {frs' : List (Addr × Obj)} {oL : Obj} (x : Lp w frs M A σ L s m s') (e : LpE w mg mb base outer frs M A σ L s) (SU : TI.SameUp frs frs') (hf' : ∀ p ∈ frs', s'.heap.get? p.1 = some p.2) (hL : s'.heap.get? L = some oL) (p : PostF [] ((L, oL) :: frs') s' s'') : Lp w frs M A σ L s m s'' := by
  have efst : frs'.map (·.1) = frs.map (·.1) := sameUp_fst SU
  have Fs' := frs_up e.Fs SU
  have kk : Kept (L :: frs.map (·.1)) s'.heap s''.heap := fun b o q n => p.keep b o q (fun h => nomatch h) (by rw [List.map_cons, efst]; exact n)
  have dat : ∀ b ∈ L :: frs.map (·.1), ∀ o, s'.heap.get? b = some o → ∃ es ep, o.data = .dict es ep := fun b hb o q => by
    rcases List.mem_cons.mp hb with rfl | hb
    · refine Ob33 (x.ns) fun o' es ep e1 e2 _ => ?_
      rw [q] at e1; cases e1; exact ⟨es, ep, e2⟩
    · rw [← efst] at hb
      obtain ⟨r, hr, rfl⟩ := List.mem_map.mp hb
      rw [hf' r hr] at q; cases q
      exact frs_dict Fs' r hr
  refine ⟨?_, ?_, ?_⟩
  · obtain ⟨up, SU2, hf2⟩ := p.up
    match up, SU2 with
    | r :: up, SU2 =>
      obtain ⟨e1, ⟨sl, e2⟩, _⟩ := SU2
      have := hf2 r List.mem_cons_self
      refine Ob33 (x.ns) fun o' es ep e3 e4 e5 => ?_
      rw [hL] at e3; cases e3
      rw [e1, e2] at this
      exact ⟨_, es, ep, this, e4, e5⟩
  · refine x.R.kept kk (fun b o vs n q hc hd hb => ?_) (fun y hy hm => ?_) (fun hm => ?_) (fun hm => ?_)
    · obtain ⟨es, ep, e1⟩ := dat b hb o q
      rw [e1] at hd; cases hd
    · rcases List.mem_cons.mp hm with q | q
      · exact e.Lh (q ▸ hy)
      · obtain ⟨r, hr, rfl⟩ := List.mem_map.mp q
        exact e.fh r hr hy
    · refine Ob44 (TabOk.two x.R.t7) fun o1 vs op ps ho hd1 _ _ => ?_
      obtain ⟨es, ep, e1⟩ := dat _ hm _ ho
      rw [e1] at hd1; cases hd1
    · refine Ob44 (TabOk.two x.R.t9) fun o1 vs op ps ho hd1 _ _ => ?_
      obtain ⟨es, ep, e1⟩ := dat _ hm _ ho
      rw [e1] at hd1; cases hd1
  · refine ⟨fun b o q n1 n2 => kk b o (x.P.keep b o q n1 n2) fun hb => ?_, ?_, p.os.trans x.P.os, fun z => p.bare (x.P.bare z)⟩
    · rcases List.mem_cons.mp hb with rfl | hb
      · rw [e.L0] at q; cases q
      · exact n2 hb
    · obtain ⟨up, SU2, hf2⟩ := p.up
      match up, SU2 with
      | r :: up, SU2 => exact ⟨up, SU.trans SU2.2.2, fun p hp => hf2 p (List.mem_cons_of_mem _ hp)⟩
theorem Lp.own {xs : List Addr} (x : Lp w frs M A σ L s m s') (e : LpE w mg mb base outer frs M A σ L s) (k : Kept (L :: xs) s'.heap s''.heap) (hn : s''.heap.Ns L m') (hx : ∀ y ∈ xs, s.heap.get? y = none ∧ y ∉ A.hid σ.ns ∧ y ≠ 784 ∧ y ≠ 1000) (ht : NoTup xs s'.heap) (ho : s''.os = s'.os) (hb : AllBare s'.gens → AllBare s''.gens) : Lp w frs M A σ L s m' s'' := by
  have no : ∀ b o, s.heap.get? b = some o → b ∉ L :: xs := fun b o q h => by
    rcases List.mem_cons.mp h with rfl | h
    · rw [e.L0] at q; cases q
    · rw [(hx b h).1] at q; cases q
  refine Ob33 (x.ns) fun oL es ep hL hd r => ?_
  refine ⟨hn, x.R.kept k (fun b o vs n q hc hd' h => ?_) (fun y hy h => ?_) (fun h => ?_) (fun h => ?_), ⟨fun b o q n1 n2 => k b o (x.P.keep b o q n1 n2) (no b o q), ?_, ho.trans x.P.os, fun z => hb (x.P.bare z)⟩⟩
  · rcases List.mem_cons.mp h with rfl | h
    · rw [hL] at q; cases q; rw [hd] at hd'; cases hd'
    · exact ht b o vs n q hc hd' h
  · rcases List.mem_cons.mp h with q | h
    · exact e.Lh (q ▸ hy)
    · exact (hx y h).2.1 hy
  · rcases List.mem_cons.mp h with q | h
    · refine Ob44 (TabOk.two x.R.t7) fun o1 vs op ps ho hd1 _ _ => ?_
      rw [q, hL] at ho; cases ho; rw [hd] at hd1; cases hd1
    · exact (hx _ h).2.2.1 rfl
  · rcases List.mem_cons.mp h with q | h
    · refine Ob44 (TabOk.two x.R.t9) fun o1 vs op ps ho hd1 _ _ => ?_
      rw [q, hL] at ho; cases ho; rw [hd] at hd1; cases hd1
    · exact (hx _ h).2.2.2 rfl
  · obtain ⟨frs', SU, hf'⟩ := x.P.up
    refine ⟨frs', SU, fun p hp => k _ _ (hf' p hp) ?_⟩
    have efst : frs'.map (·.1) = frs.map (·.1) := sameUp_fst SU
    have : p.1 ∈ frs.map (·.1) := by rw [← efst]; exact List.mem_map_of_mem hp
    obtain ⟨r, hr, e1⟩ := List.mem_map.mp this
    rw [← e1]
    exact no _ _ (e.hf r hr).1
end
end
section
open SeqAt
def fmap (m : PySem.Str → Option Value) (x : PySem.Str) (v : Value) : PySem.Str → Option Value := fun y => if y = x then some v else m y
def hS (L : Addr) (s : Shared) : Shared := { s with heap := hideAll s.heap [L] }
structure StepF (frs : List (Addr × Obj)) (A : AD) (σ : SS) (s : Shared) (A' : AD) (σ' : SS) (s' : Shared) : Prop where
  post : PostF (A.hid σ.ns) frs s s'
  em : A'.m = A.m
  ra : ∀ n ∈ σ.ns, (A'.r n).a = (A.r n).a
  ns : ∀ n ∈ σ.ns, n ∈ σ'.ns
  fresh : ∀ x ∈ A'.foot σ'.ns, x ∈ A.foot σ.ns ∨ s.heap.get? x = none
section
variable {w : World} {mg mb : PySem.Str → Option Value} {base g : Heap} {outer : List Env} {frs : List (Addr × Obj)} {M : List Addr} {A A' : AD} {σ σ' : SS} {L I : Addr} {s s₁ s' s'' : Shared} {m m' : PySem.Str → Option Value} {env : Env}
theorem Step.toF (S : Step A σ s A' σ' s') (hf : ∀ p ∈ frs, s.heap.get? p.1 = some p.2) (fh : ∀ p ∈ frs, p.1 ∉ A.hid σ.ns) : StepF frs A σ s A' σ' s' :=
  ⟨⟨fun b o e n _ => S.post.keep b o e n, ⟨frs, TI.SameUp.refl _, fun p hp => S.post.keep _ _ (hf p hp) (fh p hp)⟩, S.post.os, S.post.bare⟩, S.em, S.ra, S.ns, S.fresh⟩
theorem Step.thenF (S : Step A σ s A' σ' s₁) (p : PostF [L, I] frs s₁ s') (hL : s.heap.get? L = none) (hI : s.heap.get? I = none) : StepF frs A σ s A' σ' s' :=
  ⟨⟨fun b o e n n2 => p.keep b o (S.post.keep b o e n) (fun q => by
      rcases List.mem_cons.mp q with q | q
      · rw [show b = L from q, hL] at e; cases e
      · rw [show b = I from List.mem_singleton.mp q, hI] at e; cases e) n2, p.up, p.os.trans S.post.os, fun z => p.bare (S.post.bare z)⟩, S.em, S.ra, S.ns, S.fresh⟩
theorem for_lp {kvs : List (PySem.Str × Value)} {ep : Nat} {x : PySem.Str} {px : Pos} {A₁ : Around} {body : List Stmt} {R : Result → Shared → Prop} (hh : A₁.handled = none) (hL : env.locals = L) (hxl : env.kindOf x = some .local) (hp : (env.scope.kind == .class || (env.scope.kind == .module && env.locals != env.globals)) = false)
    (X : (K w.params).In base) (T : TopRead q (looseW q loose) mg mb base) (Fs : TI.Frs outer frs) (hf : ∀ p ∈ frs, s.heap.get? p.1 = some p.2 ∧ base.get? p.1 = none) (bs : base.StaysIn s.heap) (bl : ∀ b o, base.get? b = some o → b < L)
    (Lh : L ∉ A.hid σ.ns) (L4 : L ≠ 784 ∧ L ≠ 1000) (fh : ∀ p ∈ frs, p.1 ∉ A.hid σ.ns) (bh : ∀ x ∈ A.hid σ.ns, base.get? x = none) (fL : ∀ p ∈ frs, p.1 ≠ L) (fI : ∀ p ∈ frs, p.1 ≠ I) (IL : I ≠ L) (Ih : I ∉ A.hid σ.ns) (bI : base.get? I = none) (I4 : I ≠ 784 ∧ I ≠ 1000)
    (hit : s.heap.IsValIter I A.ar 0 kvs.length ep) (hd : s.heap.DictAt (strKind pw_ae0023_01 w) A.ar kvs ep) (hk : ∀ p ∈ kvs, ∃ n ∈ σ.ns, p.2 = .ref (A.r n).a) (hn : s.heap.Ns L m) (R0 : Rep w A σ s.heap)
    (turn : ∀ frs' n s' E', n ∈ σ.ns → LpE w mg mb base outer frs' [] A σ L (hS L s') → Lp w frs' [] A σ L (hS L s') (fmap m x (.ref (A.r n).a)) s' →
      wpAny (model pw_ae0023_01 w) A₁ (execs body env) (fun f s₃ => f = .next ∧ Lp w frs' [] A σ L (hS L s') (fmap m x (.ref (A.r n).a)) s₃) E' s')
    (hR : ∀ s', Rep w A σ s'.heap → PostF [L, I] frs s s' → (∃ m', s'.heap.Ns L m') → R (.ok .next) s') :
    codeAny (model pw_ae0023_01 w) A₁ (.forLoop (.Name x px) (.ref I) body [] env) R s := by
  subst hL
  have arH : A.ar ∈ A.hid σ.ns := hid_foot foot_ar
  refine codeAny_forLoop (fun n s' => ∃ j, n = kvs.length + 1 - j ∧ j ≤ kvs.length ∧ (∃ m', (∀ v, fmap m' x v = fmap m x v) ∧ s'.heap.Ns env.locals m') ∧ Rep w A σ s'.heap ∧ s'.heap.IsValIter I A.ar j kvs.length ep ∧ s'.heap.DictAt (strKind pw_ae0023_01 w) A.ar kvs ep ∧ PostF [env.locals, I] frs s s') ?_ (kvs.length + 1)
    ⟨0, rfl, Nat.zero_le _, ⟨m, fun _ => rfl, hn⟩, R0, hit, hd, ⟨fun b o e _ _ => e, ⟨frs, TI.SameUp.refl _, fun p hp => (hf p hp).1⟩, rfl, id⟩⟩
  rintro n s' ⟨j, rfl, hj, ⟨m', hm', hn'⟩, R', hit', hd', P'⟩
  obtain ⟨frs', SU, hf'⟩ := P'.up
  have efst : frs'.map (·.1) = frs.map (·.1) := sameUp_fst SU
  have fin : ∀ p ∈ frs', ∃ r ∈ frs, r.1 = p.1 := fun p hp => List.mem_map.mp (by rw [← efst]; exact List.mem_map_of_mem hp)
  obtain ⟨oI, eI, cI, dI⟩ := id hit'
  obtain ⟨oL, es, epL, eL, dL, rL⟩ := id hn'
  have keepR : ∀ {h : Heap}, (∀ b o, s'.heap.get? b = some o → b ≠ env.locals → b ≠ I → h.get? b = some o) → Rep w A σ h := fun {h} k =>
    R'.kept (M := [env.locals, I]) (fun b o e n => k b o e (fun q => n (by rw [show b = env.locals from q]; exact List.mem_cons_self)) fun q => n (by rw [show b = I from q]; exact List.mem_cons_of_mem _ List.mem_cons_self))
      (fun b o vs n e hc hds q => by
        rcases List.mem_cons.mp q with q | q
        · rw [show b = env.locals from q, eL] at e; cases e; rw [dL] at hds; cases hds
        · rw [show b = I from List.mem_singleton.mp q, eI] at e; cases e; rw [cI] at hc; exact absurd hc (ne_tup (by decide)))
      (fun y hy q => by
        rcases List.mem_cons.mp q with q | q
        · exact Lh (q ▸ hy)
        · exact Ih (List.mem_singleton.mp q ▸ hy))
      (fun q => by
        rcases List.mem_cons.mp q with q | q
        · exact L4.1 q.symm
        · exact I4.1 (List.mem_singleton.mp q).symm)
      (fun q => by
        rcases List.mem_cons.mp q with q | q
        · exact L4.2 q.symm
        · exact I4.2 (List.mem_singleton.mp q).symm)
  by_cases hlt : j < kvs.length
  · have hv : kvs[j]? = some (kvs[j].1, kvs[j].2) := List.getElem?_eq_getElem hlt
    refine wpAny_pyNext_values_item hit' hd' hv fun h₁ hit₁ hs₁ => ?_
    refine wpAny_assign_Name (wpAny_storeName_local hxl (hn'.sameBut hs₁ (Ne.symm IL)) (fun h₂ hn₂ hs₂ => ?_) hp)
    obtain ⟨n, hnn, hvn⟩ := hk _ (List.getElem_mem hlt)
    have kk : ∀ b o, s'.heap.get? b = some o → b ≠ env.locals → b ≠ I → h₂.get? b = some o := fun b o e n1 n2 => (hs₂.2 b n1).trans ((hs₁.2 b n2).trans e)
    have it₂ : h₂.IsValIter I A.ar (j + 1) kvs.length ep := by obtain ⟨o, e, r⟩ := hit₁; exact ⟨o, (hs₂.2 I IL).trans e, r⟩
    have d₂ : h₂.DictAt (strKind pw_ae0023_01 w) A.ar kvs ep := hd'.at' fun o e => kk _ _ e (fun q => Lh (q ▸ arH)) (fun q => Ih (q ▸ arH))
    have R₂ : Rep w A σ h₂ := keepR kk
    have f₂ : ∀ p ∈ frs', h₂.get? p.1 = some p.2 ∧ base.get? p.1 = none := fun p hp => by
      obtain ⟨r, hr, e⟩ := fin p hp
      exact ⟨kk _ _ (hf' p hp) (by rw [← e]; exact fL r hr) (by rw [← e]; exact fI r hr), by rw [← e]; exact (hf r hr).2⟩
    have b₂ : base.StaysIn h₂ := fun b o e => kk b o (P'.keep b o (bs b o e) (fun q => by
        rcases List.mem_cons.mp q with q | q
        · exact absurd (bl b o e) (by rw [show b = env.locals from q]; exact Nat.lt_irrefl _)
        · rw [show b = I from List.mem_singleton.mp q, bI] at e; cases e) fun q => by
          obtain ⟨r, hr, e2⟩ := List.mem_map.mp q
          rw [← e2, (hf r hr).2] at e; cases e) (fun q => absurd (bl b o e) (by rw [show b = env.locals from q]; exact Nat.lt_irrefl _)) (fun q => by rw [show b = I from q, bI] at e; cases e)
    have hne : ∀ p ∈ frs', p.1 ≠ env.locals := fun p hp => by obtain ⟨r, hr, e⟩ := fin p hp; rw [← e]; exact fL r hr
    have e₂ : LpE w mg mb base outer frs' [] A σ env.locals (hS env.locals { s' with heap := h₂, toks := s'.toks + 1 }) :=
      { X := X, T := T, Fs := frs_up Fs SU, hf := fun p hp => ⟨hideAll_get _ (f₂ p hp).1 fun q => hne p hp (List.mem_singleton.mp q), (f₂ p hp).2⟩, bs := fun b o e => hideAll_get _ (b₂ b o e) fun q => absurd (bl b o e) (by rw [show b = env.locals from List.mem_singleton.mp q]; exact Nat.lt_irrefl _),
        bM := (fun _ q => nomatch q), L0 := hideAll_none _ List.mem_cons_self, bl := bl, Lh := Lh, fh := fun p hp => by obtain ⟨r, hr, e⟩ := fin p hp; rw [← e]; exact fh r hr, bh := bh }
    have hfm : (fun y => if y = x then some kvs[j].2 else m' y) = fmap m x (.ref (A.r n).a) := by rw [← hm', ← hvn]; rfl
    have x₂ : Lp w frs' [] A σ env.locals (hS env.locals { s' with heap := h₂, toks := s'.toks + 1 }) (fmap m x (.ref (A.r n).a)) { s' with heap := h₂, toks := s'.toks + 1 } :=
      ⟨hfm ▸ hn₂, R₂, ⟨fun b o e _ _ => of_hideAll _ e, ⟨frs', TI.SameUp.refl _, fun p hp => (f₂ p hp).1⟩, rfl, id⟩⟩
    refine wpAny_mono (turn frs' n _ _ hnn e₂ x₂) (fun f s₃ h₃ => ?_) fun _ _ e => e
    obtain ⟨rfl, x₃⟩ := h₃
    have k3 : ∀ b o, h₂.get? b = some o → b ≠ env.locals → b ∉ frs.map (·.1) → s₃.heap.get? b = some o := fun b o e n1 n2 =>
      x₃.P.keep b o (hideAll_get _ e fun q => n1 (List.mem_singleton.mp q)) (fun q => nomatch q) (by rw [efst]; exact n2)
    have notf : ∀ {y : Addr}, (∀ p ∈ frs, p.1 ≠ y) → y ∉ frs.map (·.1) := fun h q => by obtain ⟨r, hr, e⟩ := List.mem_map.mp q; exact h r hr e
    refine ⟨_, ?_, j + 1, rfl, hlt, ⟨_, fun v => ?_, x₃.ns⟩, x₃.R, ?_, ?_, ?_⟩
    · omega
    · funext y
      unfold fmap
      split <;> rfl
    · obtain ⟨o, e, r⟩ := it₂
      exact ⟨o, k3 _ _ e IL (notf fI), r⟩
    · exact d₂.at' fun o e => k3 _ _ e (fun q => Lh (q ▸ arH)) fun q => by obtain ⟨r, hr, e⟩ := List.mem_map.mp q; exact fh r hr (e ▸ arH)
    · refine ⟨fun b o e n1 n2 => k3 b o (kk b o (P'.keep b o e n1 n2) (fun q => n1 (by rw [show b = env.locals from q]; exact List.mem_cons_self)) fun q => n1 (by rw [show b = I from q]; exact List.mem_cons_of_mem _ List.mem_cons_self)) (fun q => n1 (by rw [show b = env.locals from q]; exact List.mem_cons_self)) n2, ?_, ?_, fun z => x₃.P.bare (P'.bare z)⟩
      · obtain ⟨f3, SU3, h3⟩ := x₃.P.up
        exact ⟨f3, TI.SameUp.trans SU SU3, h3⟩
      · exact x₃.P.os.trans P'.os
  · obtain rfl : j = kvs.length := by omega
    refine wpAny_pyNext_values_end hh hit' hd' (by simp) fun h₁ he₁ => wpAny_execs_nil ?_
    refine hR _ (keepR fun b o e _ n2 => he₁ b o n2 e) ⟨fun b o e n1 n2 => he₁ b o (fun q => n1 (by rw [show b = I from q]; exact List.mem_cons_of_mem _ List.mem_cons_self)) (P'.keep b o e n1 n2), ⟨frs', SU, fun p hp => ?_⟩, P'.os, P'.bare⟩ ⟨m', oL, es, epL, he₁ _ _ (Ne.symm IL) eL, dL, rL⟩
    obtain ⟨r, hr, e⟩ := fin p hp
    exact he₁ _ _ (by rw [← e]; exact fI r hr) (hf' p hp)
end
end
section
open SeqAt
section
variable {w : World} {mg mb : PySem.Str → Option Value} {base g : Heap} {outer : List Env} {frs : List (Addr × Obj)} {M : List Addr} {A A' : AD} {σ σ' : SS} {L I v : Addr} {s s₁ s' s'' : Shared} {m m' : PySem.Str → Option Value} {env : Env} {Ar' : Around} {E : Value → Shared → Prop}
theorem values_method {pl : Sem Bool} {Q : Value × List Value → Shared → Prop} (R : Rep w A σ s.heap) (h : Q (.builtin "dict.values", [.ref A.ar]) s) : wpAny (model pw_ae0023_01 w) Ar' (getMethod (.ref A.ar) "values" pl) Q E s :=
  getMethod_builtin R.ar.typeIs PySem.F.plainAttrs_dict PySem.F.slot_dict_values PySem.F.type_dict_values (fun a e => by cases e; exact R.ar.mapOf.noDict _ rfl) h
theorem call_values {Q : Value → Shared → Prop} (R : Rep w A σ s.heap) (h : ∀ h' v, (∀ b o, s.heap.get? b = some o → h'.get? b = some o) → s.heap.get? v = none → h'.IsValuesView v A.ar → Q (.ref v) { s with heap := h' }) :
    wpAny (model pw_ae0023_01 w) Ar' (call (.builtin "dict.values") [.ref A.ar]) Q E s :=
  call_meetsIn PySem.F.slot_dict_values R.ar.typeIs PySem.F.entry_dict_values (PySem.F.args_dict_values_1 _) (meets_dict_values (strKind pw_ae0023_01 w) A.ar (ne_sys R.gt.2.1)) ⟨⟨_, R.ar⟩, h _ _ (fun b o e => Heap.get?_push_of_some _ e) (Heap.get?_none_of_le (Nat.le_refl _)) ⟨_, Heap.get?_push_size _ rfl, rfl, rfl⟩⟩
theorem iter_values {Q : Value → Shared → Prop} (hv : s.heap.IsValuesView v A.ar) (R : s.heap.DictOf (strKind pw_ae0023_01 w) A.ar (σ.ns.map fun n => (nmS n, Value.ref (A.r n).a)))
    (h : ∀ h' I ep, (∀ b o, s.heap.get? b = some o → h'.get? b = some o) → s.heap.get? I = none → h'.IsValIter I A.ar 0 (σ.ns.map fun n => (nmS n, Value.ref (A.r n).a)).length ep → h'.DictAt (strKind pw_ae0023_01 w) A.ar (σ.ns.map fun n => (nmS n, Value.ref (A.r n).a)) ep → Q (.ref I) { s with heap := h' }) :
    wpAny (model pw_ae0023_01 w) Ar' (pyIter (.ref v)) Q E s := by
  obtain ⟨o, es, ep, ho, hc, hd, r⟩ := R
  have hm : s.heap.DictAt (strKind pw_ae0023_01 w) A.ar (σ.ns.map fun n => (nmS n, Value.ref (A.r n).a)) ep := ⟨o, es, ho, hc, hd, r⟩
  exact wpAny_pyIter_values hv hm (h _ _ ep (fun b o e => Heap.get?_push_of_some _ e) (Heap.get?_none_of_le (Nat.le_refl _)) ⟨_, Heap.get?_push_size _ rfl, rfl, rfl⟩ (hm.at' fun o e => Heap.get?_push_of_some _ e))
theorem Post.grow {s s' : Shared} (k : ∀ b o, s.heap.get? b = some o → s'.heap.get? b = some o) (ho : s'.os = s.os) (hb : AllBare s.gens → AllBare s'.gens) : Post [] s s' := ⟨fun b o e _ => k b o e, fun b o e => ⟨o, k b o e⟩, ho, hb⟩
theorem Lp.toks {tk : Nat} (x : Lp w frs M A σ L s m s') : Lp w frs M A σ L s m { s' with toks := tk } := ⟨x.ns, x.R, x.P.keep, x.P.up, x.P.os, x.P.bare⟩
theorem execs_seg {P : Shared → Prop} {st : Stmt} {rest : List Stmt} (h1 : wpAny (model pw_ae0023_01 w) Ar' (exec st env) (fun f s => f = .next ∧ P s) E s) (h2 : ∀ s', P s' → wpAny (model pw_ae0023_01 w) Ar' (execs rest env) (fun f s => f = .next ∧ P s) E s') :
    wpAny (model pw_ae0023_01 w) Ar' (execs (st :: rest) env) (fun f s => f = .next ∧ P s) E s :=
  wpAny_execs_cons (wpAny_mono h1 (fun f s8 h8 => by obtain ⟨rfl, x8⟩ := h8; exact h2 _ x8) fun _ _ e => e)
end
end
section
open SeqAt
section
variable {w : World} {mg mb : PySem.Str → Option Value} {base g : Heap} {outer : List Env} {d u : Nat} {gs : Option (List Code)} {E : Value → Shared → Prop} {s : Shared} {A : AD} {σ : SS}
def delL (σ : SS) (a b : Fin 5) : SS := if (a, b) ∈ σ.ls then (((σ.setLs (σ.ls.filter fun x => decide (x ≠ (a, b)))).add a).add b).setO a ((σ.out a).filter (fun x => decide (x ≠ b))) else σ
theorem crm_delete_link {a b : Fin 5} {ta tb : Nat} {xm : Addr} {Q : Value → Shared → Prop} (C : Cx w mg mb base outer g) (Z : Stand w g A σ s) (hd : d + 60 < recursionLimit) (hu : u + 150 < cLine) (emm : A.m = xm) (X0 : (K w.params).In base) (T0 : TopRead q (looseW q loose) mg mb base) {frs : List (Addr × Obj)} (Fs : TI.Frs outer frs) (hf : ∀ p ∈ frs, s.heap.get? p.1 = some p.2 ∧ base.get? p.1 = none) (fh : ∀ p ∈ frs, p.1 ∉ A.hid σ.ns) (hin : (a, b) ∈ σ.ls → a ∈ σ.ns ∧ b ∈ σ.ns ∧ b ∈ σ.out a)
  (h : ∀ A' s', Rep w A' (delL σ a b) s'.heap → StepF frs A σ s A' (delL σ a b) s' → Q .none s') :
  wpAny (model pw_ae0023_01 w) (Ar d outer gs u) (call (.ref 937) [.ref xm, .str (nmS a) ta, .str (nmS b) tb]) Q E s := by
  subst emm
  walk_at "f"
  refine Ob11 (Z.R.mdO) fun t1T md => ?_
  refine Ob11 (Z.R.al) fun kal eal => ?_
  have hl : ∀ p ∈ [(A.m, instObj 1061 A.dm), (A.dm, mgrO w A σ t1T), (A.al, listOf (prL A.la σ.ls) kal)], s.heap.get? p.1 = some p.2 ∧ g.get? p.1 = none := by
    simp [md, Z.R.mi, eal, off_of Z foot_m, off_of Z foot_dm, off_of Z foot_al]
  refine wpAny_call ?_
  refine' enter_rest (vs := []) (g₁ := fun D => some [("self", .ref A.m), ("name1", .str (nmS a) ta), ("name2", .str (nmS b) tb), ("domain", .ref D)]) C Z.hg hl ?k6 ?k7 (room0 hd) ?k9 (fun _ => rfl) ?kB ?_ ?c2 ?c3 ?c4 ?c5
  case k6 => k_dflt k_is
  case k7 => k_dflt k_is
  case k9 => k_dflt (exact rfl)
  case c5 => k_dflt decide
  case kB => k_dflt (exact fun _ => locs rfl)
  case c2 => exact rfl
  case c3 => exact rfl
  case c4 => exact rfl
  intro D L' h' hD hL hgL F' N' C' l1 l2
  have G := Grd.enter (A.hid σ.ns) C Z hl hL hgL C'
  have X' := G.X
  have T' := G.T
  have gbl : ∀ b o, base.get? b = some o → b < L' := fun b o e => hgL b o (C.st b o e)
  have a1 := Z.R.al_apart
  k_lt l1
  clear hl hL hgL C' l2
  walk_at "g8"
  rename Fr _ _ _ _ => F1
  rename News _ _ _ _ => N1
  rename_i T hB lT
  have gT := N1.get (show (T, ({ cls := .type "tuple", data := .seq #[.str (nmS a) ta, .str (nmS b) tb] } : Obj)) ∈ _ from by walk_at "n")
  have gA := N1.get (show (A.al, listOf (prL A.la σ.ls) kal) ∈ _ from by walk_at "n")
  have R1 := G.rep F1 N1 (by walk_at "h") (by walk_at "H")
  refine notIn_listAt (eP A.la σ.ls (a, b)) ⟨_, gA, rfl, _, rfl⟩ (eP_at (w := w) R1.la (tup2 gT) (roomU hu)) ?_
  rw [any_eP]
  clear gT gA R1
  by_cases hm : (a, b) ∈ σ.ls
  · rw [decide_eq_true hm, Bool.not_true]
    obtain ⟨has, hbs, hbo⟩ := hin hm
    have hD : delL σ a b = (((σ.setLs (σ.ls.filter fun x => decide (x ≠ (a, b)))).add a).add b).setO a ((σ.out a).filter (fun x => decide (x ≠ b))) := if_pos hm
    rw [hD] at h
    walk_at "g8"
    rename Fr _ _ _ _ => F1
    rename News _ _ _ _ => N1
    rename_i T2 hB2 lT2
    have gT2 := N1.get (show (T2, ({ cls := .type "tuple", data := .seq #[.str (nmS a) ta, .str (nmS b) tb] } : Obj)) ∈ _ from by walk_at "n")
    have pA := N1 _ (show (A.al, listOf (prL A.la σ.ls) kal) ∈ _ from by walk_at "n")
    have R1 := G.rep F1 N1 (by walk_at "h") (by walk_at "H")
    obtain ⟨j, hj, j1, j2, j3⟩ := eP_idx (w := w) R1.la hm R1.ln
    refine call_remove (eP A.la σ.ls (a, b)) j pA.1 hj j1 j2 (by simpa using Nat.le_trans (len_pr Z.R.ln) (by decide)) (eP_at (w := w) R1.la (tup2 gT2) (roomU hu)) (fun h2 hs2 e2 => ?_)
    obtain ⟨kk2, e2⟩ := e2
    rw [j3] at e2
    have k2 := kept_same hs2
    have F2 := fr_kept F1 k2 pA.2.1 pA.2.2
    have nt : NoTup [A.al] hB2 := R1.noTup fun y hy => by rw [List.mem_singleton.mp hy]; exact foot_al
    have R2 := R1.setLs (la' := A.la) (ls' := σ.ls.filter fun x => decide (x ≠ (a, b))) k2 e2 (fun p hp => k2.tup nt (R1.la p (List.mem_filter.mp hp).1)) (Z.R.ln.filter _)
    have N2 : News (restH s.heap [(A.m, instObj 1061 A.dm), (A.dm, mgrO w A σ t1T), (A.al, listOf (prL A.la σ.ls) kal)]) L' h2 [(A.m, instObj 1061 A.dm), (A.dm, mgrO w A σ t1T), (A.al, listOf (prL A.la (σ.ls.filter fun x => decide (x ≠ (a, b)))) kk2)] := by
      have old : ∀ {y : Addr} {o : Obj}, (y, o) ∈ [(A.m, instObj 1061 A.dm), (A.dm, mgrO w A σ t1T)] → y ≠ A.al → h2.get? y = some o ∧ y ≠ L' ∧ (restH s.heap [(A.m, instObj 1061 A.dm), (A.dm, mgrO w A σ t1T), (A.al, listOf (prL A.la σ.ls) kal)]).get? y = none := fun hy n => ⟨k2 _ _ (N1.get (.tail _ (.tail _ (.tail _ (List.mem_append_left [(A.al, listOf (prL A.la σ.ls) kal)] hy))))) fun q => n (List.mem_singleton.mp q), (N1 _ (.tail _ (.tail _ (.tail _ (List.mem_append_left [(A.al, listOf (prL A.la σ.ls) kal)] hy))))).2⟩
      exact allCons (old (.head _) (Ne.symm a1.1)) (allCons (old (.tail _ (.head _)) (Ne.symm a1.2.1)) (allCons ⟨e2, pA.2⟩ allNil))
    refine Ob23 (G.turn (A' := { A with la := A.la }) (σ' := (σ.setLs (σ.ls.filter fun x => decide (x ≠ (a, b))))) (s := { s with heap := h2 }) F2 N2 (allCons (.inl (by walk_at "n")) (allCons (.inl (by walk_at "n")) (allCons (.inr ⟨hid_foot foot_al, _, (by walk_at "n")⟩) allNil))) (by walk_at "H") rfl rfl rfl (fun x hx => .inl hx) R2 [(A.m, instObj 1061 A.dm), (A.dm, mgrO w A σ t1T)] (allCons ⟨N2.get (by walk_at "n"), .inl foot_m⟩ (allCons ⟨N2.get (by walk_at "n"), .inl foot_dm⟩ allNil))) fun h₃ tl₃ G₃ F₃ N₃ => ?_
    have S0 : Step A σ s { A with la := A.la } (σ.setLs (σ.ls.filter fun x => decide (x ≠ (a, b)))) { s with heap := h2 } := ⟨G₃.P, rfl, fun _ _ => rfl, fun _ h => h, fun x h => .inl h⟩
    clear F1 N1 F2 N2 R1 R2 X' T' G gT2 pA nt hs2 e2 k2 lT2
    have G := G₃
    clear G₃
    have X' := G.X
    have T' := G.T
    dsimp only [List.cons_append, List.nil_append] at N₃
    walk_at "g8"
    rename Fr _ _ _ _ => F1
    rename News _ _ _ _ => N1
    refine getRole (G.cx F1 N1 (by walk_at "h") (by walk_at "H") ?c1 ?c2) (G.st F1 N1 (by walk_at "h") (by walk_at "H") rfl) (roomD hd) (roomU hu) rfl (fun A1 s1 R1 p1 => ?_)
    case c1 => rfl
    case c2 => rfl
    have em1 : A1.m = A.m := p1.em
    refine Ob11 (R1.mdO) fun m11T md1 => ?_
    refine Ob24 (G.backS S0 F1 N1 (by walk_at "h") (by walk_at "H") p1 rfl rfl rfl R1 [(A.m, instObj 1061 A1.dm), (A1.dm, mgrO w A1 σ m11T)] (allCons (.inl ⟨by rw [← em1]; exact R1.mi, by rw [← em1]; exact foot_m⟩) (allCons (.inl ⟨md1, foot_dm⟩) (allNil)))) fun h₂ tl₂ G S1 F₂ N₂ => ?_
    clear F1 N1 X' T' p1
    have X' := G.X
    have T' := G.T
    dsimp only [List.cons_append, List.nil_append] at N₂
    walk_at "g8"
    rename Fr _ _ _ _ => F1
    rename News _ _ _ _ => N1
    refine getRole (G.cx F1 N1 (by walk_at "h") (by walk_at "H") ?c1 ?c2) (G.st F1 N1 (by walk_at "h") (by walk_at "H") rfl) (roomD hd) (roomU hu) em1 (fun A2 s2 R2 p2 => ?_)
    case c1 => rfl
    case c2 => rfl
    have em2 : A2.m = A.m := p2.em.trans em1
    have ha1 : a ∈ ((σ.setLs (σ.ls.filter fun x => decide (x ≠ (a, b)))).add a).ns := mem_add
    have ha : a ∈ (((σ.setLs (σ.ls.filter fun x => decide (x ≠ (a, b)))).add a).add b).ns := p2.ns a ha1
    have hb : b ∈ (((σ.setLs (σ.ls.filter fun x => decide (x ≠ (a, b)))).add a).add b).ns := mem_add
    have ea : (A1.r a).a = (A2.r a).a := (p2.ra a ha1).symm
    refine Ob11 (R2.mdO) fun m12T md2 => ?_
    refine Ob11 ((R2.ro a ha).dO) fun n1a2T rda2 => ?_
    refine Ob24 (G.backS S1 F1 N1 (by walk_at "h") (by walk_at "H") p2 rfl rfl rfl R2 [((A2.r a).a, instObj 854 (A2.r a).dx), ((A2.r a).dx, roleO w A2 a n1a2T), (A.m, instObj 1061 A2.dm), (A2.dm, mgrO w A2 σ m12T)] (allCons (.inl ⟨(R2.ro a ha).i, foot_a ha⟩) (allCons (.inl ⟨rda2, foot_dx ha⟩) (allCons (.inl ⟨by rw [← em2]; exact R2.mi, by rw [← em2]; exact foot_m⟩) (allCons (.inl ⟨md2, foot_dm⟩) (allNil)))))) fun h₂ tl₂ G S2 F₂ N₂ => ?_
    clear F1 N1 X' T' p2 S1 md1 md2 rda2
    have X' := G.X
    have T' := G.T
    dsimp only [List.cons_append, List.nil_append] at N₂
    rw [ea] at F₂
    walk_at "g8"
    rename Fr _ _ _ _ => F1
    rename News _ _ _ _ => N1
    refine role_remove_role (G.cx F1 N1 (by walk_at "h") (by walk_at "H") ?c1 ?c2) (G.st F1 N1 (by walk_at "h") (by walk_at "H") rfl) (roomD hd) (roomU hu) ha hb hbo rfl rfl (fun A3 s3 R3 p3 => ?_)
    case c1 => rfl
    case c2 => rfl
    have em3 : A3.m = A.m := p3.em.trans em2
    have ea3 : (A3.r a).a = (A2.r a).a := p3.ra a ha
    have eb3 : (A3.r b).a = (A2.r b).a := p3.ra b hb
    refine Ob11 (R3.mdO) fun m13T md3 => ?_
    obtain ⟨oar, esar, epar, gar, rar⟩ := id R3.ar
    refine Ob24 (G.backS S2 F1 N1 (by walk_at "h") (by walk_at "H") p3 rfl rfl rfl R3 [(A3.m, instObj 1061 A3.dm), (A3.dm, mgrO w A3 σ m13T), (A3.ar, oar)] (allCons (.inl ⟨R3.mi, foot_m⟩) (allCons (.inl ⟨md3, foot_dm⟩) (allCons (.inl ⟨gar, foot_ar⟩) allNil)))) fun h₂ tl₂ G S3 F₂ N₂ => ?_
    clear F1 N1 X' T' p3 S2 md3 gar R3
    rw [← em3, ← ea3, ← eb3] at F₂
    have X' := G.X
    have T' := G.T
    dsimp only [List.cons_append, List.nil_append] at N₂
    have ha3 : a ∈ ((((σ.setLs (σ.ls.filter fun x => decide (x ≠ (a, b)))).add a).add b).setO a ((σ.out a).filter (fun x => decide (x ≠ b)))).ns := ha
    have hb3 : b ∈ ((((σ.setLs (σ.ls.filter fun x => decide (x ≠ (a, b)))).add a).add b).setO a ((σ.out a).filter (fun x => decide (x ≠ b)))).ns := hb
    clear ha hb ha1 ea ea3 eb3 em1 em2
    generalize hσ3 : (((σ.setLs (σ.ls.filter fun x => decide (x ≠ (a, b)))).add a).add b).setO a ((σ.out a).filter (fun x => decide (x ≠ b))) = σ3 at h ha3 hb3
    have hσ4 : (((σ.setLs (σ.ls.filter fun x => decide (x ≠ (a, b)))).add a).add b).setO a (((((σ.setLs (σ.ls.filter fun x => decide (x ≠ (a, b)))).add a).add b).out a).filter (fun x => decide (x ≠ b))) = σ3 := hσ3
    rw [hσ4] at G S3
    clear hσ3 hσ4 hD
    walk_at "g8"
    refine wpAny_For ?_ (by intro _; rfl)
    walk_at "g8"
    rename Fr _ _ _ _ => F1
    rename News _ _ _ _ => N1
    refine values_method (G.rep F1 N1 (by walk_at "h") (by walk_at "H")) ?_
    walk_at "g8"
    refine call_values (G.rep F1 N1 (by walk_at "h") (by walk_at "H")) (fun h4 v4 k4 n4 hv4 => ?_)
    have R4 := G.rep F1 N1 (by walk_at "h") (by walk_at "H")
    have P4 := S3.post' (G.post (s := { s3 with heap := s3.heap }) F1 N1 (fun p hp => .inl (by revert p; walk_at "h")) (by walk_at "H") rfl rfl id)
    refine iter_values hv4 (by obtain ⟨o, es, ep, e, r⟩ := R4.ar; exact ⟨o, es, ep, k4 _ _ e, r⟩) (fun h5 I ep k5 nI it5 d5 => ?_)
    have hL0 := G.L0
    have P5 : Step A σ s A3 σ3 { s3 with heap := h5, toks := s3.toks + 1 } := P4.post' ((P4.post.trans' (Post.grow (s' := { s3 with heap := h5, toks := s3.toks + 1 }) (fun b o e => k5 b o (k4 b o e)) rfl id) fun _ q => nomatch q))
    have R5 : Rep w A3 σ3 h5 := R4.kept (M := []) (fun b o e _ => k5 b o (k4 b o e)) NoTup.nil (fun _ _ q => nomatch q) (fun q => nomatch q) (fun q => nomatch q)
    have n5 : h5.Ns L' _ := F1.ns.at' fun o e => k5 _ _ (k4 _ _ e)
    have gI : s3.heap.get? I = none := by
      cases q : s3.heap.get? I with
      | none => rfl
      | some o => have := k4 _ _ q; rw [show h4.get? I = none from nI] at this; cases this
    have bsS : ∀ b o, base.get? b = some o → s.heap.get? b = some o ∧ b ∉ A.hid σ.ns := fun b o e => ⟨Z.hg b o (C.st b o e), fun q => by have := Z.off b q; rw [C.st b o e] at this; cases this⟩
    have sI : s.heap.get? I = none := P4.post.fresh gI
    have bN : ∀ x, s.heap.get? x = none → base.get? x = none := fun x e => by
      cases q : base.get? x with
      | none => rfl
      | some o => have := (bsS x o q).1; rw [e] at this; cases this
    refine Ob32 (id F1.ns) fun oL0 _ _ gL0 _ => ?_
    have hIL : I ≠ L' := fun q => by rw [q, gL0] at gI; cases gI
    clear F1 N1 X' T' n4 hv4
    refine for_lp (A := A3) (σ := σ3) (kvs := σ3.ns.map fun n => (nmS n, Value.ref (A3.r n).a)) (L := L') (I := I) (base := base) (s := { s3 with heap := h5, toks := s3.toks + 1 }) rfl rfl rfl rfl X0 T0 Fs (fun p hp => ⟨P5.post.keep _ _ (hf p hp).1 (fh p hp), (hf p hp).2⟩) (fun b o e => P5.post.keep _ _ (bsS b o e).1 (bsS b o e).2) gbl G.Lh G.L4
      (fun p hp => P5.notin (hf p hp).1 (fh p hp)) (fun x hx => (P5.hid x hx).elim (fun q => by
        cases z : base.get? x with
        | none => rfl
        | some o => exact absurd q (bsS x o z).2) fun q => bN x q)
      (fun p hp q => by have := (hf p hp).1; rw [q, hL0] at this; cases this) (fun p hp q => by have := (hf p hp).1; rw [q, sI] at this; cases this) hIL (notHid R4 gI) (bN I sI) (R4.farNone gI) it5 d5
      (fun p hp => by obtain ⟨n, hn, rfl⟩ := List.mem_map.mp hp; exact ⟨n, hn, rfl⟩) n5 R5 (fun frs' n s6 E6 hnn e x => ?turn) (fun s6 R6 p6 n6 => ?hR)
    case turn =>
      refine Ob14 (e.ground) fun gB gs1 ge1 XB TB => ?_
      refine execs_seg ?seg1 (fun s8 x8 => execs_seg ?seg2 (fun s9 x9 => wpAny_execs_nil ⟨rfl, x9⟩))
      case seg1 =>
        have y := x
        refine Ob11 ((y.R.ro n hnn).dO) fun t1nT rdn => ?_
        refine Ob11 ((y.R.ro a ha3).dO) fun t1aT rda => ?_
        refine Ob11 (y.R.mdO) fun u1T mdn => ?_
        have F4 : Fr gB L' _ _ := ⟨y.ns, fun b o e1 => y.bs e b o ((ge1 b).symm.trans e1), gs1⟩
        unfold fmap at F4
        have offB : ∀ z ∈ A3.foot σ3.ns, z ≠ L' ∧ gB.get? z = none := fun z hz => ⟨fun q => G.Lh (q ▸ hid_foot hz), (ge1 z).trans (e.bh z (hid_foot hz))⟩
        have N4 : News gB L' _ [((A3.r n).a, instObj 854 (A3.r n).dx), ((A3.r n).dx, roleO w A3 n t1nT), ((A3.r a).a, instObj 854 (A3.r a).dx), ((A3.r a).dx, roleO w A3 a t1aT), (A3.m, instObj 1061 A3.dm), (A3.dm, mgrO w A3 σ3 u1T)] :=
          allCons ⟨(y.R.ro n hnn).i, offB _ (foot_a hnn)⟩ (allCons ⟨rdn, offB _ (foot_dx hnn)⟩ (allCons ⟨(y.R.ro a ha3).i, offB _ (foot_a ha3)⟩ (allCons ⟨rda, offB _ (foot_dx ha3)⟩ (allCons ⟨y.R.mi, offB _ foot_m⟩ (allCons ⟨mdn, offB _ foot_dm⟩ allNil)))))
        walk_at "g8"
        refine PyProof.Rows.ne_str ?_
        by_cases q : n = a
        · rw [show (nmS n != nmS a) = false from by rw [q]; exact bne_self_eq_false _]
          walk_at "g8"
          exact y.toks
        · rw [show (nmS n != nmS a) = true from bne_iff_ne.mpr fun z => q (nmS_inj z)]
          walk_at "g8"
          obtain ⟨fr6, SU6, hf6⟩ := y.P.up
          refine Ob33 (id y.ns) fun oL esL epL gL dL rL => ?_
          have ef6 : fr6.map (·.1) = frs'.map (·.1) := sameUp_fst SU6
          have bf6 : ∀ p ∈ fr6, base.get? p.1 = none := fun p hp => by
            have : p.1 ∈ frs'.map (·.1) := by rw [← ef6]; exact List.mem_map_of_mem hp
            obtain ⟨r, hr, e1⟩ := List.mem_map.mp this
            rw [← e1]; exact (e.hf r hr).2
          refine matching_fn (A := A3) (g := base) (frs := (L', oL) :: fr6) e.X e.T (y.bs e) ⟨(by intro q; cases q), rfl, ⟨_, _, dL⟩, frs_up e.Fs SU6⟩ (allCons ⟨gL, e.bL⟩ fun p hp => ⟨hf6 p hp, bf6 p hp⟩) (roomD hd) (roomU hu) (allCons ⟨y.R.mi, e.bh _ (hid_foot foot_m)⟩ (allCons ⟨mdn, e.bh _ (hid_foot foot_dm)⟩ allNil)) (fun s7 p7 => ?_)
          have y7 := Lp.after y e SU6 hf6 gL ⟨p7.keep, p7.up, p7.os, p7.bare⟩
          clear F4 N4 rdn rda mdn
          have F4 : Fr gB L' _ _ := ⟨y7.ns, fun b o e1 => y7.bs e b o ((ge1 b).symm.trans e1), gs1⟩
          unfold fmap at F4
          have N4 : News gB L' s7.heap [] := allNil
          walk_at "g8"
          exact y7.toks
      case seg2 =>
        have y := x8
        refine Ob11 ((y.R.ro n hnn).dO) fun t1nT rdn => ?_
        refine Ob11 ((y.R.ro b hb3).dO) fun t1aT rda => ?_
        refine Ob11 (y.R.mdO) fun u1T mdn => ?_
        have F4 : Fr gB L' _ _ := ⟨y.ns, fun b o e1 => y.bs e b o ((ge1 b).symm.trans e1), gs1⟩
        unfold fmap at F4
        have offB : ∀ z ∈ A3.foot σ3.ns, z ≠ L' ∧ gB.get? z = none := fun z hz => ⟨fun q => G.Lh (q ▸ hid_foot hz), (ge1 z).trans (e.bh z (hid_foot hz))⟩
        have N4 : News gB L' _ [((A3.r n).a, instObj 854 (A3.r n).dx), ((A3.r n).dx, roleO w A3 n t1nT), ((A3.r b).a, instObj 854 (A3.r b).dx), ((A3.r b).dx, roleO w A3 b t1aT), (A3.m, instObj 1061 A3.dm), (A3.dm, mgrO w A3 σ3 u1T)] :=
          allCons ⟨(y.R.ro n hnn).i, offB _ (foot_a hnn)⟩ (allCons ⟨rdn, offB _ (foot_dx hnn)⟩ (allCons ⟨(y.R.ro b hb3).i, offB _ (foot_a hb3)⟩ (allCons ⟨rda, offB _ (foot_dx hb3)⟩ (allCons ⟨y.R.mi, offB _ foot_m⟩ (allCons ⟨mdn, offB _ foot_dm⟩ allNil)))))
        walk_at "g8"
        refine PyProof.Rows.ne_str ?_
        by_cases q : n = b
        · rw [show (nmS n != nmS b) = false from by rw [q]; exact bne_self_eq_false _]
          walk_at "g8"
          exact y.toks
        · rw [show (nmS n != nmS b) = true from bne_iff_ne.mpr fun z => q (nmS_inj z)]
          walk_at "g8"
          obtain ⟨fr6, SU6, hf6⟩ := y.P.up
          refine Ob33 (id y.ns) fun oL esL epL gL dL rL => ?_
          have ef6 : fr6.map (·.1) = frs'.map (·.1) := sameUp_fst SU6
          have bf6 : ∀ p ∈ fr6, base.get? p.1 = none := fun p hp => by
            have : p.1 ∈ frs'.map (·.1) := by rw [← ef6]; exact List.mem_map_of_mem hp
            obtain ⟨r, hr, e1⟩ := List.mem_map.mp this
            rw [← e1]; exact (e.hf r hr).2
          refine matching_fn (A := A3) (g := base) (frs := (L', oL) :: fr6) e.X e.T (y.bs e) ⟨(by intro q; cases q), rfl, ⟨_, _, dL⟩, frs_up e.Fs SU6⟩ (allCons ⟨gL, e.bL⟩ fun p hp => ⟨hf6 p hp, bf6 p hp⟩) (roomD hd) (roomU hu) (allCons ⟨y.R.mi, e.bh _ (hid_foot foot_m)⟩ (allCons ⟨mdn, e.bh _ (hid_foot foot_dm)⟩ allNil)) (fun s7 p7 => ?_)
          have y7 := Lp.after y e SU6 hf6 gL ⟨p7.keep, p7.up, p7.os, p7.bare⟩
          clear F4 N4 rdn rda mdn
          have F4 : Fr gB L' _ _ := ⟨y7.ns, fun b o e1 => y7.bs e b o ((ge1 b).symm.trans e1), gs1⟩
          unfold fmap at F4
          have N4 : News gB L' s7.heap [] := allNil
          walk_at "g8"
          exact y7.toks
    case hR =>
      exact wpAny_execs_nil (h A3 _ R6 (P5.thenF p6 hL0 sI))
  · rw [decide_eq_false hm, Bool.not_false]
    walk_at "g8"
    rename Fr _ _ _ _ => F1
    rename News _ _ _ _ => N1
    dsimp only
    have hD : delL σ a b = σ := if_neg hm
    rw [hD] at h
    refine h A _ (G.rep F1 N1 (by walk_at "h") (by walk_at "H")) (Step.toF (Step.post' (Step.refl s) ?pp) (fun p hp => (hf p hp).1) fh)
    exact G.post F1 N1 (fun p hp => .inl (by revert p; walk_at "h")) (by walk_at "H") rfl rfl id
end
end
section
section
variable {w : World} {mg mb : PySem.Str → Option Value} {base g : Heap} {outer : List Env} {d u : Nat} {gs : Option (List Code)} {E : Value → Shared → Prop} {s : Shared} {A : AD} {σ : SS}
theorem law_asked {a b : Fin 5} {m : Fin 3} {ta tb td : Nat} {xm : Addr} {Q : Value → Shared → Prop} (C : Cx w mg mb base outer g) (Z : Stand w g A σ s) (hd : d + 50 < recursionLimit) (hu : u + 120 < cLine) (hlv : σ.lv ≤ 5) (emm : A.m = xm)
  (h : ∀ A' σ' s', (σ' = σ ∨ σ' = (σ.add a).add b) → Rep w A' σ' s'.heap → Step A σ s A' σ' s' → Q (.bool (hasL σ a b m)) s') :
  wpAny (model pw_ae0023_01 w) (Ar d outer gs u) (call (.ref 1125) [.ref xm, .str (nmS a) ta, .str (nmS b) tb, .str (domS m) td]) Q E s := by
  subst emm
  match m with
  | 0 =>
    walk_at "f"
    refine Ob11 (Z.R.mdO) fun t1T md => ?_
    have hl : ∀ p ∈ [(A.m, instObj 1061 A.dm), (A.dm, mgrO w A σ t1T)], s.heap.get? p.1 = some p.2 ∧ g.get? p.1 = none := allCons ⟨Z.R.mi, off_of Z foot_m⟩ (allCons ⟨md, off_of Z foot_dm⟩ allNil)
    refine wpAny_call ?_
    have Xs := C.X.keeps Z.hg
    refine' enter_def C Z.hg hl ?k6 ?k7 (room0 hd) ?k9 ?kB ?_ ?c2 ?c3 ?c4 ?c5
    walk_at "e2"
    intro L' h' hL hgL F' N' C' l1
    have G := Grd.enter (A.hid σ.ns) C Z hl hL hgL C'
    have X' := G.X
    have T' := G.T
    k_lt l1
    clear hl hL hgL C' Xs 
    have S0 : Step A σ s A σ s := Step.refl s
    walk_at "g4"
    rename Fr _ _ _ _ => F1
    rename News _ _ _ _ => N1
    refine has_N (dm := 0) (td := 0) (G.cx F1 N1 (by walk_at "h") (by walk_at "H") ?c1 ?c2) (G.st F1 N1 (by walk_at "h") (by walk_at "H") rfl) (roomD hd) (roomU hu) hlv rfl (fun A2 σ2 s3 hσ R3 p3 => ?_)
    case c1 => rfl
    case c2 => rfl
    refine Ob24 (G.backS S0 F1 N1 (by walk_at "h") (by walk_at "H") p3 rfl rfl rfl R3 [] allNil) fun h₂ tl₂ G S3 F₂ N₂ => ?_
    clear F1 N1 X' T' p3 S0
    have X' := G.X
    have T' := G.T
    simp only [List.nil_append] at N₂
    walk_at "g4"
    rename Fr _ _ _ _ => F1
    rename News _ _ _ _ => N1
    try dsimp only
    refine h A2 σ2 _ hσ (G.rep F1 N1 (fun _ q => nomatch q) (fun p hp => hp)) (S3.post' ?pp0)
    exact G.post F1 N1 (fun _ q => nomatch q) (fun p hp => hp) rfl rfl id
  | 1 =>
    walk_at "f"
    refine Ob11 (Z.R.mdO) fun t1T md => ?_
    have hl : ∀ p ∈ [(A.m, instObj 1061 A.dm), (A.dm, mgrO w A σ t1T)], s.heap.get? p.1 = some p.2 ∧ g.get? p.1 = none := allCons ⟨Z.R.mi, off_of Z foot_m⟩ (allCons ⟨md, off_of Z foot_dm⟩ allNil)
    refine wpAny_call ?_
    have Xs := C.X.keeps Z.hg
    refine' enter_def C Z.hg hl ?k6 ?k7 (room0 hd) ?k9 ?kB ?_ ?c2 ?c3 ?c4 ?c5
    walk_at "e2"
    intro L' h' hL hgL F' N' C' l1
    have G := Grd.enter (A.hid σ.ns) C Z hl hL hgL C'
    have X' := G.X
    have T' := G.T
    k_lt l1
    clear hl hL hgL C' Xs 
    have S0 : Step A σ s A σ s := Step.refl s
    walk_at "g4"
    rename Fr _ _ _ _ => F1
    rename News _ _ _ _ => N1
    refine has_T (dm := 1) (G.cx F1 N1 (by walk_at "h") (by walk_at "H") ?c1 ?c2) (G.st F1 N1 (by walk_at "h") (by walk_at "H") rfl) (roomD hd) (roomU hu) hlv rfl (fun A2 σ2 s3 hσ R3 p3 => ?_)
    case c1 => rfl
    case c2 => rfl
    refine Ob24 (G.backS S0 F1 N1 (by walk_at "h") (by walk_at "H") p3 rfl rfl rfl R3 [] allNil) fun h₂ tl₂ G S3 F₂ N₂ => ?_
    clear F1 N1 X' T' p3 S0
    have X' := G.X
    have T' := G.T
    simp only [List.nil_append] at N₂
    walk_at "g4"
    rename Fr _ _ _ _ => F1
    rename News _ _ _ _ => N1
    try dsimp only
    refine h A2 σ2 _ hσ (G.rep F1 N1 (fun _ q => nomatch q) (fun p hp => hp)) (S3.post' ?pp1)
    exact G.post F1 N1 (fun _ q => nomatch q) (fun p hp => hp) rfl rfl id
  | 2 =>
    walk_at "f"
    refine Ob11 (Z.R.mdO) fun t1T md => ?_
    have hl : ∀ p ∈ [(A.m, instObj 1061 A.dm), (A.dm, mgrO w A σ t1T)], s.heap.get? p.1 = some p.2 ∧ g.get? p.1 = none := allCons ⟨Z.R.mi, off_of Z foot_m⟩ (allCons ⟨md, off_of Z foot_dm⟩ allNil)
    refine wpAny_call ?_
    have Xs := C.X.keeps Z.hg
    refine' enter_def C Z.hg hl ?k6 ?k7 (room0 hd) ?k9 ?kB ?_ ?c2 ?c3 ?c4 ?c5
    walk_at "e2"
    intro L' h' hL hgL F' N' C' l1
    have G := Grd.enter (A.hid σ.ns) C Z hl hL hgL C'
    have X' := G.X
    have T' := G.T
    k_lt l1
    clear hl hL hgL C' Xs 
    have S0 : Step A σ s A σ s := Step.refl s
    walk_at "g4"
    rename Fr _ _ _ _ => F1
    rename News _ _ _ _ => N1
    refine has_T (dm := 2) (G.cx F1 N1 (by walk_at "h") (by walk_at "H") ?c1 ?c2) (G.st F1 N1 (by walk_at "h") (by walk_at "H") rfl) (roomD hd) (roomU hu) hlv rfl (fun A2 σ2 s3 hσ R3 p3 => ?_)
    case c1 => rfl
    case c2 => rfl
    refine Ob24 (G.backS S0 F1 N1 (by walk_at "h") (by walk_at "H") p3 rfl rfl rfl R3 [] allNil) fun h₂ tl₂ G S3 F₂ N₂ => ?_
    clear F1 N1 X' T' p3 S0
    have X' := G.X
    have T' := G.T
    simp only [List.nil_append] at N₂
    walk_at "g4"
    rename Fr _ _ _ _ => F1
    rename News _ _ _ _ => N1
    try dsimp only
    refine h A2 σ2 _ hσ (G.rep F1 N1 (fun _ q => nomatch q) (fun p hp => hp)) (S3.post' ?pp2)
    exact G.post F1 N1 (fun _ q => nomatch q) (fun p hp => hp) rfl rfl id
end
end
section
section
variable {w : World} {mg mb : PySem.Str → Option Value} {base g : Heap} {outer : List Env} {d u : Nat} {gs : Option (List Code)} {E : Value → Shared → Prop} {s : Shared} {A : AD} {σ : SS}
theorem post_of {led : List (Addr × Obj)} {L : Addr} {m : PySem.Str → Option Value} {news : List (Addr × Obj)} {s s' : Shared} (F : Fr (restH s.heap led) L s'.heap m) (N : News (restH s.heap led) L s'.heap news) (hl : ∀ p ∈ led, s.heap.get? p.1 = some p.2 ∧ p ∈ news) (ho : s'.os = s.os) (hb : AllBare s.gens → AllBare s'.gens) : Post [] s s' := by
  have k : ∀ b o, s.heap.get? b = some o → s'.heap.get? b = some o := fun b o e => by
    by_cases q : b ∈ led.map (·.1)
    · obtain ⟨p, hp, rfl⟩ := List.mem_map.mp q
      obtain ⟨e1, n1⟩ := hl p hp
      rw [e1] at e; cases e
      exact (N _ n1).1
    · exact F.keep b o (hideAll_get _ e q)
  exact ⟨fun b o e _ => k b o e, fun b o e => ⟨o, k b o e⟩, ho, hb⟩
theorem restH_nil {h : Heap} {x : Addr} : (restH h []).get? x = h.get? x := by
  cases e : h.get? x with
  | none => cases q : (restH h []).get? x with
    | none => rfl
    | some o => rw [of_hideAll _ q] at e; cases e
  | some o => exact hideAll_get _ e (fun q => nomatch q)
theorem law_names {Q : Value → Shared → Prop} (C : Cx w mg mb base outer g) (hg : g.StaysIn s.heap) (hd : d + 3 < recursionLimit) (hu : u + 8 < cLine)
  (h : ∀ s' l k t0 t1 t2 t3 t4, Post [] s s' → s.heap.get? l = none → s'.heap.get? l = some (listOf #[.str (nmS 0) t0, .str (nmS 1) t1, .str (nmS 2) t2, .str (nmS 3) t3, .str (nmS 4) t4] k) → Q (.ref l) s') :
  wpAny (model pw_ae0023_01 w) (Ar d outer gs u) (call (.ref 1070) []) Q E s := by
  walk_at "f"
  refine wpAny_call ?_
  have Xs := C.X.keeps hg
  refine' enter_def (led := []) C hg (fun _ q => nomatch q) ?k6 ?k7 (room0 hd) ?k9 ?kB ?_ ?c2 ?c3 ?c4 ?c5
  walk_at "e2"
  intro L' h' hL hgL F' N' C' l1
  refine hideE fun E9 => ?_
  have X' := C'.X
  have T' := C'.T
  k_lt l1
  clear hgL C' Xs
  walk_at "g4"
  rename Fr _ _ _ _ => F1
  rename News _ _ _ _ => N1
  rename_i nl hh lt
  have e := N1.get (.head _)
  refine h _ _ _ _ _ _ _ _ (post_of F1 N1 (fun _ q => nomatch q) rfl id) ?fr e
  case fr =>
    have z := (N1 _ (.head _)).2.2
    rw [restH_nil] at z; exact z
theorem law_number {sc : Addr} {vs : List Value} {ns : List Int} {k : Nat} {i : Int} {ti : Nat} {Q : Value → Shared → Prop} (C : Cx w mg mb base outer g) (hg : g.StaysIn s.heap) (hd : d + 3 < recursionLimit) (hu : u + 8 < cLine)
  (hs : s.heap.get? sc = some (listOf vs.toArray k)) (hz : ns.length ≤ 63) (hI : IntsAre vs ns)
  (h : ∀ s' j t, Post [] s s' → Q (.int j t) s') :
  wpAny (model pw_ae0023_01 w) (Ar d outer gs u) (call (.ref 1085) [.ref sc, .int i ti]) Q E s := by
  walk_at "f"
  refine wpAny_call ?_
  have Xs := C.X.keeps hg
  refine' enter_def (led := []) C hg (fun _ q => nomatch q) ?k6 ?k7 (room0 hd) ?k9 ?kB ?_ ?c2 ?c3 ?c4 ?c5
  walk_at "e2"
  intro L' h' hL hgL F' N' C' l1
  refine hideE fun E9 => ?_
  have X' := C'.X
  have T' := C'.T
  k_lt l1
  clear hgL C' Xs
  have hlen : vs.length = ns.length := hI.length
  have hLs : (restH s.heap []).IsList sc vs.toArray := ⟨_, by rw [restH_nil]; exact hs, rfl, _, rfl⟩
  (repeat (walk_at "b"; walk_at "S4"; walk_at "w"))
  all_goals ((repeat (walk_at "b"; walk_at "S4"; walk_at "w")))
  all_goals (rename Fr _ _ _ _ => F1; rename News _ _ _ _ => N1)
  · exact h _ _ _ (post_of F1 N1 (fun _ q => nomatch q) rfl id)
  · exact h _ _ _ (post_of F1 N1 (fun _ q => nomatch q) rfl id)
end
end
section
open SeqAt
def rowA : Fin 7 → Addr
  | 0 => 1071 | 1 => 1072 | 2 => 1073 | 3 => 1074 | 4 => 1075 | 5 => 1076 | 6 => 1077
abbrev tri (a b : Fin 5) (m : Fin 3) : List PySem.Str := [nmS a, nmS b, domS m]
theorem tri_inj {a b a' b' : Fin 5} {m m' : Fin 3} (e : tri a b m = tri a' b' m') : a = a' ∧ b = b' ∧ m = m' := by
  simp only [tri, List.cons.injEq, and_true] at e
  exact ⟨nmS_inj e.1, nmS_inj e.2.1, domS_inj e.2.2⟩
def Keys3 (xs : List (List PySem.Str × Addr × Value)) : Prop := ∀ x ∈ xs, ∃ a b m, x.1 = tri a b m
def LaidAt (w : World) (h : Heap) (d : Addr) (c : Fin 5 → Fin 5 → Fin 3 → Option (Fin 3)) : Prop :=
  ∃ xs, h.DictOfH (tk w) d xs ∧ Keys3 xs ∧ ∀ a b m, match c a b m with
    | none => atKey xs (tri a b m) = none
    | some f => ∃ k t, atKey xs (tri a b m) = some (k, .int (f.val : Int) t)
def SaidAt (w : World) (h : Heap) (d : Addr) (p : Fin 5 → Fin 5 → Fin 3 → Option (Fin 7)) : Prop :=
  ∃ xs, h.DictOfH (tk w) d xs ∧ Keys3 xs ∧ ∀ a b m, match p a b m with
    | none => atKey xs (tri a b m) = none
    | some r => ∃ k, atKey xs (tri a b m) = some (k, .ref (rowA r))
theorem len_keys3 {xs : List (List PySem.Str × Addr × Value)} (hk : Keys3 xs) (hn : (xs.map (·.1)).Nodup) : xs.length ≤ 75 := by
  have := len_sub hn (l' := (List.finRange 5).flatMap fun a => (List.finRange 5).flatMap fun b => (List.finRange 3).map fun m => tri a b m) fun x hx => by
    obtain ⟨y, hy, rfl⟩ := List.mem_map.mp hx
    obtain ⟨a, b, m, e⟩ := hk y hy
    exact List.mem_flatMap.mpr ⟨a, List.mem_finRange _, List.mem_flatMap.mpr ⟨b, List.mem_finRange _, List.mem_map.mpr ⟨m, List.mem_finRange _, e.symm⟩⟩⟩
  rw [List.length_map] at this
  exact Nat.le_trans this (by decide)
section
variable {w : World} {h h' : Heap} {M : List Addr} {d k : Addr} {c : Fin 5 → Fin 5 → Fin 3 → Option (Fin 3)} {p : Fin 5 → Fin 5 → Fin 3 → Option (Fin 7)}
theorem LaidAt.kept (x : LaidAt w h d c) (k : Kept M h h') (n : NoTup M h) (hd : d ∉ M) : LaidAt w h' d c := let ⟨xs, hx, r⟩ := x; ⟨xs, k.dictH n hd hx, r⟩
theorem SaidAt.kept (x : SaidAt w h d p) (k : Kept M h h') (n : NoTup M h) (hd : d ∉ M) : SaidAt w h' d p := let ⟨xs, hx, r⟩ := x; ⟨xs, k.dictH n hd hx, r⟩
theorem tup3 {h : Heap} {a : Addr} {x y z : PySem.Str} {t u v n : Nat} (e : h.get? a = some { cls := .type "tuple", data := .seq #[.str x t, .str y u, .str z v] n }) : IsTupleKey (strKind pw_ae0023_01 w) h [x, y, z] a :=
  ⟨_, _, _, e, rfl, rfl, .cons (strKind_is _ _ _ _) (.cons (strKind_is _ _ _ _) (.cons (strKind_is _ _ _ _) .nil))⟩
end
section
variable {w : World} {s : Shared} {Ar : Around} {E : Value → Shared → Prop} {Q : Value → Shared → Prop} {d k : Addr} {a b : Fin 5} {m : Fin 3} {c : Fin 5 → Fin 5 → Fin 3 → Option (Fin 3)} {p : Fin 5 → Fin 5 → Fin 3 → Option (Fin 7)}
theorem in_said (L : SaidAt w s.heap d p) (lo : (d == sysModules) = false) (hu : Ar.units + 2 < cLine) (hk : IsTupleKey (strKind pw_ae0023_01 w) s.heap (tri a b m) k) (h : ∀ tk', Q (.bool (p a b m).isSome) { s with toks := tk' }) :
    wpAny (model pw_ae0023_01 w) Ar (compareOp .In (.ref k) (.ref d)) Q E s := by
  obtain ⟨xs, hd, _, hv⟩ := L
  refine wpAny_in_heap (knd := tk w) (tupleKind_room_in1 (by omega)) hk lo hd ?_
  have z := hv a b m
  cases e : p a b m with
  | none => rw [e] at z; rw [show atKey xs (tri a b m) = none from z]; have := h (s.toks + (tk w).draws (tri a b m)); rw [e] at this; exact this
  | some r => rw [e] at z; obtain ⟨k, z⟩ := z; rw [z]; have := h (s.toks + (tk w).draws (tri a b m)); rw [e] at this; exact this
theorem notIn_laid (L : LaidAt w s.heap d c) (lo : (d == sysModules) = false) (hu : Ar.units + 2 < cLine) (hk : IsTupleKey (strKind pw_ae0023_01 w) s.heap (tri a b m) k) (h : ∀ tk', Q (.bool (!(c a b m).isSome)) { s with toks := tk' }) :
    wpAny (model pw_ae0023_01 w) Ar (compareOp .NotIn (.ref k) (.ref d)) Q E s := by
  obtain ⟨xs, hd, _, hv⟩ := L
  refine wpAny_notIn_heap (knd := tk w) (tupleKind_room_in1 (by omega)) hk lo hd ?_
  have z := hv a b m
  cases e : c a b m with
  | none => rw [e] at z; rw [show atKey xs (tri a b m) = none from z]; have := h (s.toks + (tk w).draws (tri a b m)); rw [e] at this; exact this
  | some r => rw [e] at z; obtain ⟨k, t, z⟩ := z; rw [z]; have := h (s.toks + (tk w).draws (tri a b m)); rw [e] at this; exact this
theorem item_H {value slice : Expr} {xs : List (List PySem.Str × Addr × Value)} {ks : List PySem.Str} {pv : Addr × Value} (hd : s.heap.DictOfH (tk w) d xs) (hu : Ar.units + 2 < cLine) (hk : IsTupleKey (strKind pw_ae0023_01 w) s.heap ks k) (hp : atKey xs ks = some pv)
    (h : ∀ tk', Q pv.2 { s with toks := tk' }) (hs : subscripted slice false (.ref d) (.ref k) = operate [.ref d, .ref k] (getItem (.ref d) (.ref k)) := by with_unfolding_all rfl) :
    wpAny (model pw_ae0023_01 w) Ar (subscriptTail value slice (.ref d) (.ref k)) Q E s :=
  kba_turn (value' := PySem.Expr.Name (PySem.Str.ofString "_") ⟨0, 0, 0, 0⟩) (fun _ => rfl)
    (subscriptTail_builtin hd.typeIs slot_dict_getitem.lookup (wpAny_getItem_heap (knd := tk w) (tupleKind_room_in1 (by omega)) hk hd hp (h _)) hs (fun _ => rfl))
theorem item_laid {value slice : Expr} {f : Fin 3} (L : LaidAt w s.heap d c) (hu : Ar.units + 2 < cLine) (hk : IsTupleKey (strKind pw_ae0023_01 w) s.heap (tri a b m) k) (e : c a b m = some f)
    (h : ∀ t tk', Q (.int (f.val : Int) t) { s with toks := tk' }) (hs : subscripted slice false (.ref d) (.ref k) = operate [.ref d, .ref k] (getItem (.ref d) (.ref k)) := by with_unfolding_all rfl) :
    wpAny (model pw_ae0023_01 w) Ar (subscriptTail value slice (.ref d) (.ref k)) Q E s := by
  obtain ⟨xs, hd, _, hv⟩ := L
  have z := hv a b m
  rw [e] at z
  obtain ⟨k', t, z⟩ := z
  exact item_H hd hu hk z (h t) hs
theorem item_said {value slice : Expr} {r : Fin 7} (L : SaidAt w s.heap d p) (hu : Ar.units + 2 < cLine) (hk : IsTupleKey (strKind pw_ae0023_01 w) s.heap (tri a b m) k) (e : p a b m = some r)
    (h : ∀ tk', Q (.ref (rowA r)) { s with toks := tk' }) (hs : subscripted slice false (.ref d) (.ref k) = operate [.ref d, .ref k] (getItem (.ref d) (.ref k)) := by with_unfolding_all rfl) :
    wpAny (model pw_ae0023_01 w) Ar (subscriptTail value slice (.ref d) (.ref k)) Q E s := by
  obtain ⟨xs, hd, _, hv⟩ := L
  have z := hv a b m
  rw [e] at z
  obtain ⟨k', z⟩ := z
  exact item_H hd hu hk z h hs
theorem star_at {L' : Addr} {h₀ : Heap} {mm : PySem.Str → Option Value} {news : List (Addr × Obj)} {l : Addr} {its : Array Value} {n : Nat} {Q : List Value → Shared → Prop} (F : Fr h₀ L' s.heap mm) (N : News h₀ L' s.heap news) (D : s.heap.get? l = some (listOf its n))
    (hz : its.size ≤ sizeLine) (h : ∀ h', Fr h₀ L' h' mm → News h₀ L' h' news → Q its.toList { s with heap := h' }) : StarOf (model pw_ae0023_01 w) Ar E (.ref l) Q s := by
  have hT' : s.TypeIs (.ref l) "list" := ⟨_, D, rfl⟩
  have z : wpAny (model pw_ae0023_01 w) Ar (collect (.ref l)) Q E s := by
    refine wpAny_collect_seq l (.inl rfl) D rfl rfl (fun h' hk => h h' ?_ fun p hp => ⟨hk _ _ (N p hp).1, (N p hp).2⟩) hz
    refine Ob32 (F.ns) fun oL es ep hL r => ?_
    exact ⟨⟨oL, es, ep, hk _ _ hL, r⟩, fun b x q => hk _ _ (F.keep b x q), F.above⟩
  unfold StarOf notIterableAtAll
  exact wpAny_bind (wpAny_specialOf hT' PySem.F.slot_list_iter.lookup (wpAny_pure ⟨rfl, z⟩))
end
theorem row_in (w : World) (r : Fin 7) : ∃ its n, (K w.params).lookup (rowA r) = some (listOf its n) ∧ ItemsAre (strKind pw_ae0023_01 w) (rowS r) its.toList := by
  match r with
  | 0 => exact ⟨_, _, rfl, .nil⟩
  | 1 => exact ⟨_, _, rfl, .cons (strKind_is _ _ _ _) .nil⟩
  | 2 => exact ⟨_, _, rfl, .cons (strKind_is _ _ _ _) (.cons (strKind_is _ _ _ _) .nil)⟩
  | 3 => exact ⟨_, _, rfl, .cons (strKind_is _ _ _ _) (.cons (strKind_is _ _ _ _) .nil)⟩
  | 4 => exact ⟨_, _, rfl, .cons (strKind_is _ _ _ _) (.cons (strKind_is _ _ _ _) (.cons (strKind_is _ _ _ _) .nil))⟩
  | 5 => exact ⟨_, _, rfl, .cons (strKind_is _ _ _ _) .nil⟩
  | 6 => exact ⟨_, _, rfl, .cons (strKind_is _ _ _ _) (.cons (strKind_is _ _ _ _) (.cons (strKind_is _ _ _ _) .nil))⟩
theorem row_at {w : World} {h : Heap} (X : (K w.params).In h) (r : Fin 7) : ∃ its n, h.get? (rowA r) = some (listOf its n) ∧ ItemsAre (strKind pw_ae0023_01 w) (rowS r) its.toList :=
  let ⟨its, n, e, hi⟩ := row_in w r; ⟨its, n, X _ _ e, hi⟩
end
section
section
variable {w : World} {mg mb : PySem.Str → Option Value} {base g : Heap} {outer : List Env} {d u : Nat} {gs : Option (List Code)} {E : Value → Shared → Prop} {s : Shared} {A : AD} {σ : SS}
theorem kp0 {h₀ h : Heap} {L : Addr} {mm : PySem.Str → Option Value} (F : Fr (restH h₀ []) L h mm) : Kept [] h₀ h := fun b o e _ => F.keep b o (hideAll_get _ e (fun q => nomatch q))
theorem law_open {a b : Fin 5} {m : Fin 3} {dl ds k : Addr} {Q : Value → Shared → Prop} (C : Cx w mg mb base outer g) (hg : g.StaysIn s.heap) (hd : d + 5 < recursionLimit) (hu : u + 16 < cLine)
  (hL1 : LaidAt w s.heap dl σ.cond) (hS1 : SaidAt w s.heap ds σ.prm) (lo1 : (dl == sysModules) = false) (lo2 : (ds == sysModules) = false) (hk : IsTupleKey (strKind pw_ae0023_01 w) s.heap (tri a b m) k)
  (h : ∀ s', Post [] s s' → Q (.bool (openB σ a b m)) s') :
  wpAny (model pw_ae0023_01 w) (Ar d outer gs u) (call (.ref 1113) [.ref dl, .ref ds, .ref k]) Q E s := by
  walk_at "f"
  refine wpAny_call ?_
  have Xs := C.X.keeps hg
  refine' enter_def (led := []) C hg (fun _ q => nomatch q) ?k6 ?k7 (room0 hd) ?k9 ?kB ?_ ?c2 ?c3 ?c4 ?c5
  walk_at "e2"
  intro L' h' hL hgL F' N' C' l1
  refine hideE fun E9 => ?_
  have X' := C'.X
  have T' := C'.T
  clear l1 hgL Xs
  have hLn : (restH s.heap []).get? L' = none := by rw [restH_nil]; exact hL
  have eo : openB σ a b m = (match σ.cond a b m with | none => true | some f => condB f (σ.prm a b m)) := rfl
  walk_at "g9"
  rename Fr _ _ _ _ => F1
  rename News _ _ _ _ => N1
  refine in_said (hS1.kept (kp0 F1) NoTup.nil (fun q => nomatch q)) lo2 (roomU hu) ((kp0 F1).tup NoTup.nil hk) (fun tk' => ?_)
  cases hp : σ.prm a b m with
  | none =>
    rw [hp] at eo
    dsimp only [Option.isSome]
    walk_at "g9"
    rename Fr _ _ _ _ => F1
    rename News _ _ _ _ => N1
    refine notIn_laid (hL1.kept (kp0 F1) NoTup.nil (fun q => nomatch q)) lo1 (roomU hu) ((kp0 F1).tup NoTup.nil hk) (fun tk' => ?_)
    cases hc : σ.cond a b m with
    | none =>
      rw [hc] at eo
      rw [eo] at h
      dsimp only [Option.isSome, Bool.not]
      walk_at "g9"
      rename Fr _ _ _ _ => F1
      rename News _ _ _ _ => N1
      exact h _ (post_of F1 N1 (fun _ q => nomatch q) rfl id)
    | some f =>
      rw [hc] at eo
      dsimp only at eo
      rw [eo] at h
      dsimp only [Option.isSome, Bool.not]
      match f with
      | 0 =>
        walk_at "g9"
        rename Fr _ _ _ _ => F1
        rename News _ _ _ _ => N1
        refine item_laid (hL1.kept (kp0 F1) NoTup.nil (fun q => nomatch q)) (roomU hu) ((kp0 F1).tup NoTup.nil hk) hc (fun tf tk2 => ?_)
        dsimp only
        walk_at "g9"
        refine callWith_S X' (keep_cond _ 0) ?_
        walk_at "g9"
        rename Fr _ _ _ _ => F1
        rename News _ _ _ _ => N1
        have D := N1.get (show (_, listOf #[] 0) ∈ _ from by walk_at "n")
        have hip : ItemsAre (strKind pw_ae0023_01 w) (wordsOf none) (#[] : Array Value).toList := .nil
        refine star_at F1 N1 D (by decide) (fun h' F' N' => ⟨X'.keeps F'.keep, ?_⟩)
        clear F1 N1
        rename Fr _ _ _ _ => F1
        rename News _ _ _ _ => N1
        refine cond_call (f := 0) (r := none) (C'.push F1.ns hLn ?c1 ?c2 F1.keep) (fun b o e => e) (roomD hd) (roomU hu) hip (fun s₂ p₂ => ?_)
        case c1 => rfl
        case c2 => rfl
        exact h _ ((post_of (s' := { s with heap := h' }) F1 N1 (fun _ q => nomatch q) rfl id).trans' ⟨p₂.keep, p₂.dom, p₂.os, p₂.bare⟩ fun _ q => nomatch q)
      | 1 =>
        walk_at "g9"
        rename Fr _ _ _ _ => F1
        rename News _ _ _ _ => N1
        refine item_laid (hL1.kept (kp0 F1) NoTup.nil (fun q => nomatch q)) (roomU hu) ((kp0 F1).tup NoTup.nil hk) hc (fun tf tk2 => ?_)
        dsimp only
        walk_at "g9"
        rename Fr _ _ _ _ => F1
        rename News _ _ _ _ => N1
        refine item_laid (hL1.kept (kp0 F1) NoTup.nil (fun q => nomatch q)) (roomU hu) ((kp0 F1).tup NoTup.nil hk) hc (fun tf tk2 => ?_)
        dsimp only
        walk_at "g9"
        refine callWith_S X' (keep_cond _ 1) ?_
        walk_at "g9"
        rename Fr _ _ _ _ => F1
        rename News _ _ _ _ => N1
        have D := N1.get (show (_, listOf #[] 0) ∈ _ from by walk_at "n")
        have hip : ItemsAre (strKind pw_ae0023_01 w) (wordsOf none) (#[] : Array Value).toList := .nil
        refine star_at F1 N1 D (by decide) (fun h' F' N' => ⟨X'.keeps F'.keep, ?_⟩)
        clear F1 N1
        rename Fr _ _ _ _ => F1
        rename News _ _ _ _ => N1
        refine cond_call (f := 1) (r := none) (C'.push F1.ns hLn ?c1 ?c2 F1.keep) (fun b o e => e) (roomD hd) (roomU hu) hip (fun s₂ p₂ => ?_)
        case c1 => rfl
        case c2 => rfl
        exact h _ ((post_of (s' := { s with heap := h' }) F1 N1 (fun _ q => nomatch q) rfl id).trans' ⟨p₂.keep, p₂.dom, p₂.os, p₂.bare⟩ fun _ q => nomatch q)
      | 2 =>
        walk_at "g9"
        rename Fr _ _ _ _ => F1
        rename News _ _ _ _ => N1
        refine item_laid (hL1.kept (kp0 F1) NoTup.nil (fun q => nomatch q)) (roomU hu) ((kp0 F1).tup NoTup.nil hk) hc (fun tf tk2 => ?_)
        dsimp only
        walk_at "g9"
        rename Fr _ _ _ _ => F1
        rename News _ _ _ _ => N1
        refine item_laid (hL1.kept (kp0 F1) NoTup.nil (fun q => nomatch q)) (roomU hu) ((kp0 F1).tup NoTup.nil hk) hc (fun tf tk2 => ?_)
        dsimp only
        walk_at "g9"
        refine callWith_S X' (keep_cond _ 2) ?_
        walk_at "g9"
        rename Fr _ _ _ _ => F1
        rename News _ _ _ _ => N1
        have D := N1.get (show (_, listOf #[] 0) ∈ _ from by walk_at "n")
        have hip : ItemsAre (strKind pw_ae0023_01 w) (wordsOf none) (#[] : Array Value).toList := .nil
        refine star_at F1 N1 D (by decide) (fun h' F' N' => ⟨X'.keeps F'.keep, ?_⟩)
        clear F1 N1
        rename Fr _ _ _ _ => F1
        rename News _ _ _ _ => N1
        refine cond_call (f := 2) (r := none) (C'.push F1.ns hLn ?c1 ?c2 F1.keep) (fun b o e => e) (roomD hd) (roomU hu) hip (fun s₂ p₂ => ?_)
        case c1 => rfl
        case c2 => rfl
        exact h _ ((post_of (s' := { s with heap := h' }) F1 N1 (fun _ q => nomatch q) rfl id).trans' ⟨p₂.keep, p₂.dom, p₂.os, p₂.bare⟩ fun _ q => nomatch q)
  | some r =>
    rw [hp] at eo
    dsimp only [Option.isSome]
    walk_at "g9"
    rename Fr _ _ _ _ => F1
    rename News _ _ _ _ => N1
    refine item_said (hS1.kept (kp0 F1) NoTup.nil (fun q => nomatch q)) (roomU hu) ((kp0 F1).tup NoTup.nil hk) hp (fun tk' => ?_)
    dsimp only
    walk_at "g9"
    rename Fr _ _ _ _ => F1
    rename News _ _ _ _ => N1
    refine notIn_laid (hL1.kept (kp0 F1) NoTup.nil (fun q => nomatch q)) lo1 (roomU hu) ((kp0 F1).tup NoTup.nil hk) (fun tk' => ?_)
    cases hc : σ.cond a b m with
    | none =>
      rw [hc] at eo
      rw [eo] at h
      dsimp only [Option.isSome, Bool.not]
      walk_at "g9"
      rename Fr _ _ _ _ => F1
      rename News _ _ _ _ => N1
      exact h _ (post_of F1 N1 (fun _ q => nomatch q) rfl id)
    | some f =>
      rw [hc] at eo
      dsimp only at eo
      rw [eo] at h
      dsimp only [Option.isSome, Bool.not]
      match f with
      | 0 =>
        walk_at "g9"
        rename Fr _ _ _ _ => F1
        rename News _ _ _ _ => N1
        refine item_laid (hL1.kept (kp0 F1) NoTup.nil (fun q => nomatch q)) (roomU hu) ((kp0 F1).tup NoTup.nil hk) hc (fun tf tk2 => ?_)
        dsimp only
        walk_at "g9"
        refine callWith_S X' (keep_cond _ 0) ?_
        walk_at "g9"
        rename Fr _ _ _ _ => F1
        rename News _ _ _ _ => N1
        refine Ob22 (row_at (X'.keeps F1.keep) r) fun its nk D hip => ?_
        refine star_at F1 N1 D (by rw [← Array.length_toList, ← hip.length]; exact len_row r) (fun h' F' N' => ⟨X'.keeps F'.keep, ?_⟩)
        clear F1 N1
        rename Fr _ _ _ _ => F1
        rename News _ _ _ _ => N1
        refine cond_call (f := 0) (r := (some r)) (C'.push F1.ns hLn ?c1 ?c2 F1.keep) (fun b o e => e) (roomD hd) (roomU hu) hip (fun s₂ p₂ => ?_)
        case c1 => rfl
        case c2 => rfl
        exact h _ ((post_of (s' := { s with heap := h' }) F1 N1 (fun _ q => nomatch q) rfl id).trans' ⟨p₂.keep, p₂.dom, p₂.os, p₂.bare⟩ fun _ q => nomatch q)
      | 1 =>
        walk_at "g9"
        rename Fr _ _ _ _ => F1
        rename News _ _ _ _ => N1
        refine item_laid (hL1.kept (kp0 F1) NoTup.nil (fun q => nomatch q)) (roomU hu) ((kp0 F1).tup NoTup.nil hk) hc (fun tf tk2 => ?_)
        dsimp only
        walk_at "g9"
        rename Fr _ _ _ _ => F1
        rename News _ _ _ _ => N1
        refine item_laid (hL1.kept (kp0 F1) NoTup.nil (fun q => nomatch q)) (roomU hu) ((kp0 F1).tup NoTup.nil hk) hc (fun tf tk2 => ?_)
        dsimp only
        walk_at "g9"
        refine callWith_S X' (keep_cond _ 1) ?_
        walk_at "g9"
        rename Fr _ _ _ _ => F1
        rename News _ _ _ _ => N1
        refine Ob22 (row_at (X'.keeps F1.keep) r) fun its nk D hip => ?_
        refine star_at F1 N1 D (by rw [← Array.length_toList, ← hip.length]; exact len_row r) (fun h' F' N' => ⟨X'.keeps F'.keep, ?_⟩)
        clear F1 N1
        rename Fr _ _ _ _ => F1
        rename News _ _ _ _ => N1
        refine cond_call (f := 1) (r := (some r)) (C'.push F1.ns hLn ?c1 ?c2 F1.keep) (fun b o e => e) (roomD hd) (roomU hu) hip (fun s₂ p₂ => ?_)
        case c1 => rfl
        case c2 => rfl
        exact h _ ((post_of (s' := { s with heap := h' }) F1 N1 (fun _ q => nomatch q) rfl id).trans' ⟨p₂.keep, p₂.dom, p₂.os, p₂.bare⟩ fun _ q => nomatch q)
      | 2 =>
        walk_at "g9"
        rename Fr _ _ _ _ => F1
        rename News _ _ _ _ => N1
        refine item_laid (hL1.kept (kp0 F1) NoTup.nil (fun q => nomatch q)) (roomU hu) ((kp0 F1).tup NoTup.nil hk) hc (fun tf tk2 => ?_)
        dsimp only
        walk_at "g9"
        rename Fr _ _ _ _ => F1
        rename News _ _ _ _ => N1
        refine item_laid (hL1.kept (kp0 F1) NoTup.nil (fun q => nomatch q)) (roomU hu) ((kp0 F1).tup NoTup.nil hk) hc (fun tf tk2 => ?_)
        dsimp only
        walk_at "g9"
        refine callWith_S X' (keep_cond _ 2) ?_
        walk_at "g9"
        rename Fr _ _ _ _ => F1
        rename News _ _ _ _ => N1
        refine Ob22 (row_at (X'.keeps F1.keep) r) fun its nk D hip => ?_
        refine star_at F1 N1 D (by rw [← Array.length_toList, ← hip.length]; exact len_row r) (fun h' F' N' => ⟨X'.keeps F'.keep, ?_⟩)
        clear F1 N1
        rename Fr _ _ _ _ => F1
        rename News _ _ _ _ => N1
        refine cond_call (f := 2) (r := (some r)) (C'.push F1.ns hLn ?c1 ?c2 F1.keep) (fun b o e => e) (roomD hd) (roomU hu) hip (fun s₂ p₂ => ?_)
        case c1 => rfl
        case c2 => rfl
        exact h _ ((post_of (s' := { s with heap := h' }) F1 N1 (fun _ q => nomatch q) rfl id).trans' ⟨p₂.keep, p₂.dom, p₂.os, p₂.bare⟩ fun _ q => nomatch q)
end
end
section
open SeqAt
theorem loop_pairT {prog : Program} {w : World} {A : Around} {R : Result → Shared → Prop} {s : Shared} {elt iter : Expr} {elts : List Expr} {x1} {tp : Pos} {ifs : List Expr} {scope : Scope} {pos : Pos} {it acc : Value} {env : Env} (I : Nat → Shared → Prop)
    (turn : ∀ n s, I n s → wpAny (model prog w) A (pyNext it) (fun r s₁ => match r with
      | none => R (.ok .next) s₁
      | some v => wpAny (model prog w) A (letOwnedTupleGo (.Tuple elts x1 tp) it v) (fun _ s₁' => wpAny (model prog w) A (assign (.Tuple elts x1 tp) env v) (fun _ s₂ =>
          wpAny (model prog w) A (forIn ifs true fun c r => if r = true then do let ok ← isTrue c env (eval c env); pure (ForInStep.yield ok) else pure (ForInStep.yield r)) (fun ok s₃ =>
            if ok = true then wpAny (model prog w) A (eval elt env) (fun x s₄ =>
              wpAny (model prog w) A (call (.builtin "list.append") [acc, x]) (fun _ s₅ => ∃ m, m < n ∧ I m s₅) (notedBy (model prog w) A env fun e s' => R (.error e) s') s₄) (notedBy (model prog w) A env fun e s' => R (.error e) s') s₃
            else ∃ m, m < n ∧ I m s₃) (notedBy (model prog w) A env fun e s' => R (.error e) s') s₂) (notedBy (model prog w) A env fun e s' => R (.error e) s') s₁') (notedBy (model prog w) A env fun e s' => R (.error e) s') s₁) (notedBy (model prog w) A env fun e s' => R (.error e) s') s)
    (n : Nat) (h : I n s) : codeAny (model prog w) A (.compLoop (.ListComp elt [⟨.Tuple elts x1 tp, iter, ifs, 0⟩] scope pos) 0 it acc env) R s := by
  refine codeAny_loop rfl I (fun n s hI => ?_) n h
  show wpAny _ A ((compTurn (.ListComp elt [⟨.Tuple elts x1 tp, iter, ifs, 0⟩] scope pos) 0 it acc env).onRaise (fun x => do noteFrame x env; theTreesLotGoes x)) _ _ s
  refine wpAny_noted ?_
  rw [compTurn_list]
  refine wpAny_bind (wpAny_standAt (wpAny_bind (wpAny_mono (turn n s hI) (fun r s₁ h₁ => ?_) fun _ _ h' => h')))
  cases r with
  | none => exact wpAny_pure h₁
  | some v =>
    refine wpAny_bind (wpAny_mono h₁ (fun _ s₁' h₁' => ?_) fun _ _ h' => h')
    refine wpAny_bind (wpAny_mono h₁' (fun _ s₂ h₂ => wpAny_bind (wpAny_mono h₂ (fun ok s₃ h₃ => ?_) fun _ _ h' => h')) fun _ _ h' => h')
    cases ok with
    | false => exact wpAny_pure ⟨rfl, h₃⟩
    | true =>
      exact wpAny_bind (wpAny_bind (wpAny_mono h₃ (fun x s₄ h₄ => wpAny_bind (wpAny_mono h₄ (fun _ s₅ h₅ => wpAny_pure (wpAny_pure ⟨rfl, h₅⟩)) fun _ _ h' => h')) fun _ _ h' => h'))
abbrev TupsAt (w : World) (h : Heap) (vs : List Value) (ps : List Pr) : Prop := Paired (fun v p => ∃ a, v = .ref a ∧ IsTupleKey (strKind pw_ae0023_01 w) h (prS p) a) vs ps
section
variable {w : World} {h h' : Heap} {M : List Addr}
theorem paired_mono {α β : Type} {F G : α → β → Prop} (fg : ∀ a b, F a b → G a b) : ∀ {l₁ : List α} {l₂ : List β}, Paired F l₁ l₂ → Paired G l₁ l₂
  | _, _, .nil => .nil
  | _, _, .cons q t => .cons (fg _ _ q) (paired_mono fg t)
theorem paired_get {α β : Type} {F : α → β → Prop} : ∀ {l₁ : List α} {l₂ : List β}, Paired F l₁ l₂ → ∀ {j : Nat} {v : α}, l₁[j]? = some v → ∃ p, l₂[j]? = some p ∧ F v p
  | _, _, .nil, j, v, e => by simp at e
  | _, _, .cons q t, 0, v, e => by simp only [List.getElem?_cons_zero, Option.some.injEq] at e; subst e; exact ⟨_, rfl, q⟩
  | _, _, .cons q t, j + 1, v, e => paired_get t (by simpa using e)
theorem TupsAt.kept {vs : List Value} {ps : List Pr} (x : TupsAt w h vs ps) (k : Kept M h h') (n : NoTup M h) : TupsAt w h' vs ps := paired_mono (fun _ _ ⟨a, e, t⟩ => ⟨a, e, k.tup n t⟩) x
theorem isTup2 {a : Addr} {x y : PySem.Str} (t : IsTupleKey (strKind pw_ae0023_01 w) h [x, y] a) : ∃ tx ty, IsTup h a #[.str x tx, .str y ty] := by
  obtain ⟨o, its, n, ho, hc, hd, hi⟩ := t
  obtain ⟨tx, ty, e⟩ := ia2 hi
  exact ⟨tx, ty, o, ho, hc, n, by rw [hd, ← Array.toArray_toList (xs := its), e]⟩
end
section
variable {w : World} {A : Around} {E : Value → Shared → Prop} {s : Shared} {env : Env}
theorem lc_pair {iter test : Expr} {xa xb : PySem.Str} {pa pb tp ea eb ep : Pos} {k1 k2} {scope : Scope} {cl : List (PySem.Str × Addr)} {pos : Pos} {Q : Value → Shared → Prop} (P : Pr → Bool) (hh : A.handled = none)
    (hclos : closureFor scope env = pure cl) (hcell : ∀ y ∈ scope.names, y.2 ≠ .cell) (hkind : scope.kind = .function) (hnames : ∀ y ∈ scope.names, y.2 = .local → scope.names.lookup y.1 = some .local)
    (hxa : scope.names.lookup xa = some .local) (hxb : scope.names.lookup xb = some .local) (hab : xa ≠ xb) (hda : (xa == ("__debug__" : PySem.Str)) = false) (hdb : (xb == ("__debug__" : PySem.Str)) = false)
    (h : wpAny (model pw_ae0023_01 w) A (eval iter env) (fun xv s₁ => ∃ ax items ps, xv = .ref ax ∧ s₁.heap.IsList ax items ∧ items.size ≤ sizeLine ∧ TupsAt w s₁.heap items.toList ps ∧
      (∀ C p ta tb s₂ m₂ E', @LE.le Nat _ s₁.heap.objs.size C → p ∈ ps → s₂.heap.Ns C m₂ → m₂ xa = some (.str (nmS p.1) ta) → m₂ xb = some (.str (nmS p.2) tb) → (∀ b o, s₁.heap.get? b = some o → s₂.heap.get? b = some o) →
        wpAny (model pw_ae0023_01 w) A (isTrue test (compEnvC scope cl C env) (eval test (compEnvC scope cl C env))) (fun ok s₃ => ok = P p ∧ Keeps s₂ s₃) E' s₂) ∧
      (∀ D s' n ys, Post [] s₁ s' → s₁.heap.get? D = none → s'.heap.get? D = some (listOf ys n) → TupsAt w s'.heap ys.toList (ps.filter P) → Q (.ref D) s')) E s)
    (hs : ∀ x, foldedSetIterable iter env x = pure x := by intro _; rfl) :
    wpAny (model pw_ae0023_01 w) A (eval (.ListComp (.Tuple [.Name xa ea, .Name xb eb] k2 ep) [⟨.Tuple [.Name xa pa, .Name xb pb] k1 tp, iter, [test], 0⟩] scope pos) env) Q E s := by
  rw [eval_ListComp]
  refine wpAny_comprehension_free (use := none) rfl hs hclos hkind hnames (wpAny_mono h (fun xv s₁ h₁ => ?_) fun _ _ e => e)
  refine Ob3_6 (h₁) fun ax items ps e9 hl hsz hps ht hQ => ?_
  clear h₁
  subst e9
  refine wpAny_pyIter_list hl ?_
  refine wpAny_newObj_type (wpAny_newFunctionEnv hcell (by intro y hy; simp at hy) (fun h₁ hns₁ hsb₁ => ?_) hkind)
  dsimp only at hns₁ hsb₁ ⊢
  simp only [Heap.size_push] at hns₁ hsb₁ ⊢
  have lt : ∀ {b : Addr} {o : Obj}, s₁.heap.get? b = some o → @LT.lt Nat _ b s₁.heap.objs.size := fun e => Heap.lt_size e
  have ne : ∀ {a b : Addr}, @Ne Nat a b → a ≠ b := fun h => h
  have gI : h₁.get? s₁.heap.objs.size = some { cls := .type "list_iterator", data := .fields #[.ref ax, .int 0 0] } :=
    hsb₁.extBut _ _ (ne (by first | assumption | omega)) (Heap.get?_push_of_some _ (Heap.get?_push_of_some _ (Heap.get?_push_size _ rfl)))
  have gD : h₁.get? (s₁.heap.objs.size + 1) = some (listOf #[] 0) := by
    have := Heap.get?_push_size (s₁.heap.push { cls := .type "list_iterator", data := .fields #[.ref ax, .int 0 0] }) (o := { cls := .type "list", data := .seq ([] : List Value).toArray }) rfl
    rw [Heap.size_push] at this
    exact hsb₁.extBut _ _ (ne (by first | assumption | omega)) (Heap.get?_push_of_some _ this)
  have old : ∀ b o, s₁.heap.get? b = some o → h₁.get? b = some o := fun b o e => hsb₁.extBut _ _ (ne (by have := lt e; omega)) (Heap.get?_push_of_some _ (Heap.get?_push_of_some _ (Heap.get?_push_of_some _ e)))
  have haxlt : @LT.lt Nat _ ax s₁.heap.objs.size := by obtain ⟨o, e, _⟩ := hl; exact lt e
  have fresh : ∀ a : Addr, @LE.le Nat _ s₁.heap.objs.size a → s₁.heap.get? a = none := fun a ha => Heap.get?_none_of_le ha
  clear hsb₁
  generalize hI : s₁.heap.objs.size = I at *
  generalize hD : I + 1 = D at *
  generalize hC : D + 1 = C at *
  have e1 : @Eq Nat D (I + 1) := hD.symm
  have e2 : @Eq Nat C (D + 1) := hC.symm
  have lq1 : @LT.lt Nat _ I D := Nat.lt_of_lt_of_eq (Nat.lt_succ_self _) e1.symm
  have nq1 : @Ne Nat I D := Nat.ne_of_lt lq1
  have mq1 : @Ne Nat D I := Nat.ne_of_gt lq1
  have kq1 : @LE.le Nat _ I D := Nat.le_of_lt lq1
  have lq3 : @LT.lt Nat _ D C := Nat.lt_of_lt_of_eq (Nat.lt_succ_self _) e2.symm
  have nq3 : @Ne Nat D C := Nat.ne_of_lt lq3
  have mq3 : @Ne Nat C D := Nat.ne_of_gt lq3
  have lq2 : @LT.lt Nat _ I C := Nat.lt_trans lq1 lq3
  have nq2 : @Ne Nat I C := Nat.ne_of_lt lq2
  have mq2 : @Ne Nat C I := Nat.ne_of_gt lq2
  have kq2 : @LE.le Nat _ I C := Nat.le_of_lt lq2
  have ltb : ∀ {b : Addr} {o : Obj}, s₁.heap.get? b = some o → @Ne Nat b I ∧ @Ne Nat b D ∧ @Ne Nat b C := fun e => ⟨Nat.ne_of_lt (lt e), Nat.ne_of_lt (Nat.lt_trans (lt e) lq1), Nat.ne_of_lt (Nat.lt_trans (lt e) lq2)⟩
  have lp := hps.length
  rw [Array.length_toList] at lp
  have loop : ∀ s₃ : Shared, s₃ = { s₁ with heap := h₁, toks := s₁.toks + ([] : List (PySem.Str × Value)).length } →
      codeAny (model pw_ae0023_01 w) A (.compLoop (.ListComp (.Tuple [.Name xa ea, .Name xb eb] k2 ep) [⟨.Tuple [.Name xa pa, .Name xb pb] k1 tp, iter, [test], 0⟩] scope pos) 0 (.ref I) (.ref D) (compEnvC scope cl C env))
        (compPost (model pw_ae0023_01 w) A E none Q (.ref D) C) s₃ := by
    rintro s₃ rfl
    obtain ⟨Inv, hInv⟩ : ∃ Inv : Nat → Shared → Prop, ∀ k s', Inv k s' ↔ ∃ i ys n m', k = items.size + 1 - i ∧ i ≤ items.size ∧ s'.heap.IsListIter I ax i ∧ s'.heap.get? D = some (listOf ys n) ∧ ys.size ≤ i ∧ s'.heap.Ns C m' ∧
        (∀ b o, s₁.heap.get? b = some o → s'.heap.get? b = some o) ∧ s'.os = s₁.os ∧ (AllBare s₁.gens → AllBare s'.gens) ∧ TupsAt w s'.heap ys.toList ((ps.take i).filter P) := ⟨_, fun _ _ => Iff.rfl⟩
    refine loop_pairT Inv ?_ (items.size + 1) ((hInv _ _).mpr ⟨0, #[], 0, _, rfl, Nat.zero_le _, ⟨_, gI, rfl, rfl⟩, gD, Nat.zero_le _, hns₁, old, rfl, id, .nil⟩)
    intro k s' hk9
    refine Ob4_10 ((hInv _ _).mp hk9) fun i ys n m' e9 hi hit hD' hyz hC' hk hos hg hys => ?_
    subst e9
    have hl' : s'.heap.IsList ax items := by obtain ⟨o, e, r⟩ := hl; exact ⟨o, hk _ _ e, r⟩
    obtain ⟨oI, eI, cI, dI⟩ := id hit
    obtain ⟨oC, esC, epC, eC, dC, rC⟩ := id hC'
    have noT : NoTup [I, D, C] s'.heap := fun b o vs nn e hc hd q => by
      simp only [List.mem_cons, List.not_mem_nil, or_false] at q
      rcases q with rfl | rfl | rfl
      · rw [eI] at e; cases e; rw [cI] at hc; exact absurd hc (ne_tup (by decide))
      · rw [hD'] at e; cases e; exact absurd hc (ne_tup (by decide))
      · rw [eC] at e; cases e; rw [dC] at hd; cases hd
    by_cases hlt : i < items.size
    · have hv : items[i]? = some items[i] := Array.getElem?_eq_getElem hlt
      obtain ⟨p, hp, T, hT, kT⟩ := paired_get hps (by rw [Array.getElem?_toList]; exact hv)
      refine wpAny_pyNext_list_item hit hl' hv fun h₂ hit₂ hs₂ => ?_
      rw [hT]
      refine wpAny_letOwnedTupleGo_listiter hit₂ ?_
      have k2 : ∀ b o, s₁.heap.get? b = some o → h₂.get? b = some o := fun b o e => (hs₂.2 b (ne (by first | exact (ltb e).1 | exact (ltb e).2.1 | exact (ltb e).2.2 | (have := lt e; omega)))).trans (hk b o e)
      refine Ob21 (isTup2 ((fun b o e _ => k2 b o e : Kept [] s₁.heap h₂) |> fun k => Kept.tup k NoTup.nil kT)) fun ta tb tT => ?_
      refine assign_Tuple_tuple hh tT rfl rfl fun h₃ he₃ => ?_
      have ext₃ : ∀ b o, h₂.get? b = some o → h₃.get? b = some o := fun b o e => he₃ b o (Nat.ne_of_lt (Heap.lt_size e)) e
      have ns₃ : h₃.Ns C m' := (hC'.sameBut hs₂ (ne (by first | assumption | omega))).at' fun o e => ext₃ _ o e
      refine assignInOrder_cons (wpAny_assign_Name (wpAny_storeName_local (lookup_relabel_local hxa) ns₃ (fun h₄ hn₄ hs₄ => ?_) (by simp [compEnvC, relabel, hkind])))
      refine assignInOrder_cons (wpAny_assign_Name (wpAny_storeName_local (lookup_relabel_local hxb) hn₄ (fun h₅ hn₅ hs₅ => ?_) (by simp [compEnvC, relabel, hkind])))
      refine assignInOrder_nil ?_
      replace hs₄ : Heap.SameBut C h₃ h₄ := hs₄
      replace hs₅ : Heap.SameBut C h₄ h₅ := hs₅
      obtain ⟨m₅, em₅⟩ : ∃ m₅ : PySem.Str → Option Value, m₅ = fun y => if y = xb then some (.str (nmS p.2) tb) else if y = xa then some (.str (nmS p.1) ta) else m' y := ⟨_, rfl⟩
      have ma : m₅ xa = some (.str (nmS p.1) ta) := by rw [em₅]; simp [hab]
      have mb : m₅ xb = some (.str (nmS p.2) tb) := by rw [em₅]; simp
      replace hn₅ : h₅.Ns C m₅ := by rw [em₅]; exact hn₅
      have up : ∀ b o, @Ne Nat b I → @Ne Nat b C → s'.heap.get? b = some o → h₅.get? b = some o := fun b o n1 n2 e => (hs₅.2 b n2).trans ((hs₄.2 b n2).trans (ext₃ b o ((hs₂.2 b n1).trans e)))
      have old₅ : ∀ b o, s₁.heap.get? b = some o → h₅.get? b = some o := fun b o e => up b o (by first | exact (ltb e).1 | exact (ltb e).2.1 | exact (ltb e).2.2 | (have := lt e; omega)) (by first | exact (ltb e).1 | exact (ltb e).2.1 | exact (ltb e).2.2 | (have := lt e; omega)) (hk b o e)
      have hD₅ := up D _ (by first | assumption | omega) (by first | assumption | omega) hD'
      have hI₅ : h₅.IsListIter I ax (i + 1) := by obtain ⟨o, e, r⟩ := hit₂; exact ⟨o, (hs₅.2 I (ne (by first | assumption | omega))).trans ((hs₄.2 I (ne (by first | assumption | omega))).trans (ext₃ _ _ e)), r⟩
      have hpm : p ∈ ps := List.mem_of_getElem? hp
      have hys₅ : TupsAt w h₅ ys.toList ((ps.take i).filter P) := hys.kept (M := [I, D, C]) (fun b o e nn => up b o (fun q => nn (by simp [show b = I from q])) (fun q => nn (by simp [show b = C from q])) e) noT
      refine wpAny_mono (wpAny_tests_one (ht C p ta tb { s' with heap := h₅, toks := s'.toks + 1 + 1 } _ _ (by omega) hpm hn₅ ma mb old₅)) (fun ok s₆ h₆ => ?_) fun _ _ e => e
      obtain ⟨rfl, h₆, tk₆, rfl, k₆⟩ := h₆
      have htk : (ps.take (i + 1)).filter P = (ps.take i).filter P ++ (if P p then [p] else []) := take_succ_filter P ps i p hp
      have hC₆ : h₆.Ns C m₅ := hn₅.at' fun o e => k₆ _ o e
      have hI₆ : h₆.IsListIter I ax (i + 1) := by obtain ⟨o, e, r⟩ := hI₅; exact ⟨o, k₆ _ _ e, r⟩
      have hys₆ : TupsAt w h₆ ys.toList ((ps.take i).filter P) := hys₅.kept (M := []) (fun b o e _ => k₆ b o e) NoTup.nil
      cases hpp : P p with
      | false =>
        simp only [Bool.false_eq_true, if_false]
        exact ⟨_, by first | exact Nat.sub_lt_sub_left (Nat.lt_succ_of_lt hlt) (Nat.lt_succ_self _) | omega, (hInv _ _).mpr ⟨i + 1, ys, n, _, rfl, hlt, hI₆, k₆ _ _ hD₅, Nat.le_succ_of_le hyz, hC₆, fun b o e => k₆ b o (old₅ b o e), hos, hg, by rw [htk, hpp]; simpa using hys₆⟩⟩
      | true =>
        simp only [if_true]
        refine wpAny_Tuple_spliced (spliced_more (wpAny_Name (wpAny_loadName_local (by simp [compEnvC, relabel, hkind]) (lookup_relabel_local hxa) hC₆ ma (spliced_more (wpAny_Name (wpAny_loadName_local (by simp [compEnvC, relabel, hkind]) (lookup_relabel_local hxb) hC₆ mb (spliced_none ⟨Nat.le_of_ble_eq_true rfl, ?_⟩)) hdb))) hda))
        have kp : ∀ b o, h₆.get? b = some o → (h₆.push { cls := .type "tuple", data := .seq [Value.str (nmS p.1) ta, Value.str (nmS p.2) tb].toArray }).get? b = some o := fun b o e => Heap.get?_push_of_some _ e
        have gT := Heap.get?_push_size h₆ (o := { cls := .type "tuple", data := .seq [Value.str (nmS p.1) ta, Value.str (nmS p.2) tb].toArray }) rfl
        have nTD : @Ne Nat h₆.objs.size D := by have : @LT.lt Nat _ D h₆.objs.size := Heap.lt_size (k₆ _ _ hD₅); omega
        have nTI : @Ne Nat h₆.objs.size I := by obtain ⟨o, e, _⟩ := hI₆; have : @LT.lt Nat _ I h₆.objs.size := Heap.lt_size e; omega
        refine append_at (kp _ _ (k₆ _ _ hD₅)) (fun h₇ hs₇ hD₇ => ?_) (by omega)
        have up7 : ∀ b o, @Ne Nat b D → h₆.get? b = some o → h₇.get? b = some o := fun b o n1 e => (hs₇.2 b n1).trans (kp b o e)
        refine ⟨_, by first | exact Nat.sub_lt_sub_left (Nat.lt_succ_of_lt hlt) (Nat.lt_succ_self _) | omega, (hInv _ _).mpr ⟨i + 1, ys.push (.ref h₆.objs.size), n + 1, _, rfl, hlt, ?_, hD₇, by rw [Array.size_push]; omega, (hC₆.at' fun o e => kp _ o e).sameBut hs₇ (ne (by first | assumption | omega)), fun b o e => up7 b o (by first | exact (ltb e).1 | exact (ltb e).2.1 | exact (ltb e).2.2 | (have := lt e; omega)) (k₆ b o (old₅ b o e)), hos, hg, ?_⟩⟩
        · obtain ⟨o, e, r⟩ := hI₆; exact ⟨o, up7 _ _ (by omega) e, r⟩
        · rw [htk, hpp, Array.toList_push]
          have nT6 : NoTup [D] h₆ := noTup1 (k₆ _ _ hD₅) (ne_tup (by decide))
          exact (hys₆.kept (M := [D]) (fun b o e nn => up7 b o (fun q => nn (List.mem_singleton.mpr q)) e) nT6).snoc ⟨_, rfl, tup2 ((hs₇.2 _ nTD).trans gT)⟩
    · obtain rfl : i = items.size := by first | exact Nat.le_antisymm (by assumption) (Nat.le_of_not_lt (by assumption)) | omega
      refine wpAny_pyNext_list_end hh hit hl' (by simp) fun h₂ he₂ => ?_
      refine ⟨m', hC'.at' fun o e => he₂ _ o (ne (by first | assumption | omega)) e, fun h₃ hs₃ => ?_⟩
      have up : ∀ b o, @Ne Nat b I → @Ne Nat b C → s'.heap.get? b = some o → h₃.get? b = some o := fun b o n1 n2 e => (hs₃.2 b n2).trans (he₂ b o n1 e)
      have hall : ps.take items.size = ps := by rw [lp, List.take_length]
      rw [hall] at hys
      have up1 : ∀ b o, s₁.heap.get? b = some o → h₃.get? b = some o := fun b o e => up b o (by first | exact (ltb e).1 | exact (ltb e).2.1 | exact (ltb e).2.2 | (have := lt e; omega)) (by first | exact (ltb e).1 | exact (ltb e).2.1 | exact (ltb e).2.2 | (have := lt e; omega)) (hk b o e)
      exact hQ D _ n ys ⟨fun b o e _ => up1 b o e, fun b o e => ⟨o, up1 b o e⟩, hos, hg⟩ (fresh _ (by first | assumption | omega)) (up D _ (by first | assumption | omega) (by first | assumption | omega) hD') (hys.kept (M := [I, D, C]) (fun b o e nn => up b o (fun q => nn (by simp [show b = I from q])) (fun q => nn (by simp [show b = C from q])) e) noT)
  exact codeAny_compStart_list (loop _ rfl) (wpAny_pyIter_listiter ⟨_, gI, rfl, rfl⟩ (loop _ rfl))
end
end
section
open SeqAt
section
variable {w : World} {A : Around} {E : Value → Shared → Prop} {s : Shared} {env : Env} {L I : Addr} {R : Result → Shared → Prop}
theorem for_rng {x : PySem.Str} {px : Pos} {body : List Stmt} {n : Nat} (hh : A.handled = none) (hL : env.locals = L) (hxl : env.kindOf x = some .local) (hp : (env.scope.kind == .class || (env.scope.kind == .module && env.locals != env.globals)) = false)
    (hIL : I ≠ L) (J : Nat → (PySem.Str → Option Value) → Shared → Prop) (hJn : ∀ i m s', J i m s' → s'.heap.Ns L m)
    (hit : IsRangeIter s.heap I 0 n 1) (h0 : ∃ m, J 0 m s)
    (turn : ∀ i m s' h₂ tk₂ tk E', i < n → J i m s' → Kept [L, I] s'.heap h₂ → h₂.Ns L (fmap m x (.int (i : Int) tk)) → IsRangeIter h₂ I ((i + 1 : Nat) : Int) ((n : Int) - ((i + 1 : Nat) : Int)) 1 →
      wpAny (model pw_ae0023_01 w) A (execs body env) (fun f s₃ => f = .next ∧ (∃ m', J (i + 1) m' s₃) ∧ IsRangeIter s₃.heap I ((i + 1 : Nat) : Int) ((n : Int) - ((i + 1 : Nat) : Int)) 1) E' { s' with heap := h₂, toks := tk₂ })
    (hR : ∀ m s' h₂, J n m s' → Kept [I] s'.heap h₂ → h₂.Ns L m → R (.ok .next) { s' with heap := h₂ }) :
    codeAny (model pw_ae0023_01 w) A (.forLoop (.Name x px) (.ref I) body [] env) R s := by
  subst hL
  obtain ⟨m₀, h0⟩ := h0
  refine codeAny_forLoop (fun k s' => ∃ i m, k = n + 1 - i ∧ i ≤ n ∧ J i m s' ∧ IsRangeIter s'.heap I ((i : Nat) : Int) ((n : Int) - ((i : Nat) : Int)) 1) ?_ (n + 1) ⟨0, m₀, rfl, Nat.zero_le _, h0, by simpa using hit⟩
  rintro k s' ⟨i, m, rfl, hi, hJ, hit'⟩
  have hn' := hJn _ _ _ hJ
  by_cases hlt : i < n
  · refine wpAny_pyNext_range_item hit' (by omega) fun h₁ hit₁ hs₁ => ?_
    refine wpAny_assign_Name (wpAny_storeName_local hxl (hn'.sameBut hs₁ (Ne.symm hIL)) (fun h₂ hn₂ hs₂ => ?_) hp)
    have e1 : ((i + 1 : Nat) : Int) = (i : Int) + 1 := by omega
    have e2 : (n : Int) - ((i + 1 : Nat) : Int) = (n : Int) - (i : Int) - 1 := by omega
    have it₂ : IsRangeIter h₂ I ((i + 1 : Nat) : Int) ((n : Int) - ((i + 1 : Nat) : Int)) 1 := by
      rw [e2, e1]
      exact (hs₂.2 I hIL).trans hit₁
    refine wpAny_mono (turn i m s' h₂ _ _ _ hlt hJ (fun b o e nn => ?_) hn₂ it₂) (fun f s₃ h₃ => ?_) fun _ _ e => e
    · exact (hs₂.2 b fun q => nn (by rw [show b = env.locals from q]; exact List.mem_cons_self)).trans ((hs₁.2 b fun q => nn (by rw [show b = I from q]; exact List.mem_cons_of_mem _ List.mem_cons_self)).trans e)
    · obtain ⟨rfl, ⟨m', hJ'⟩, it'⟩ := h₃
      exact ⟨_, by first | exact Nat.sub_lt_sub_left (Nat.lt_succ_of_lt hlt) (Nat.lt_succ_self _) | omega, i + 1, m', rfl, hlt, hJ', it'⟩
  · obtain rfl : i = n := by first | exact Nat.le_antisymm (by assumption) (Nat.le_of_not_lt (by assumption)) | omega
    refine wpAny_pyNext_range_end hh hit' (by omega) fun h₁ he₁ => wpAny_execs_nil ?_
    exact hR m s' h₁ hJ (fun b o e nn => he₁ b o (fun q => nn (List.mem_singleton.mpr q)) e) (hn'.at' fun o e => he₁ _ o (Ne.symm hIL) e)
theorem for_pairs {xa xb : PySem.Str} {pa pb tp : Pos} {k1} {body : List Stmt} {ax : Addr} {items : Array Value} {ps : List Pr} (hh : A.handled = none) (hL : env.locals = L) (hxa : env.kindOf xa = some .local) (hxb : env.kindOf xb = some .local) (hp : (env.scope.kind == .class || (env.scope.kind == .module && env.locals != env.globals)) = false)
    (hIL : I ≠ L) (hlen : items.size = ps.length) (J : Nat → (PySem.Str → Option Value) → Shared → Prop) (hJn : ∀ i m s', J i m s' → s'.heap.Ns L m ∧ s'.heap.IsList ax items ∧ TupsAt w s'.heap items.toList ps)
    (hit : s.heap.IsListIter I ax 0) (h0 : ∃ m, J 0 m s)
    (turn : ∀ i p m s' h₂ tk₂ ta tb E', ps[i]? = some p → J i m s' → s'.heap.IsListIter I ax i → Kept [L, I] s'.heap h₂ → h₂.Ns L (fmap (fmap m xa (.str (nmS p.1) ta)) xb (.str (nmS p.2) tb)) → h₂.IsListIter I ax (i + 1) →
      wpAny (model pw_ae0023_01 w) A (execs body env) (fun f s₃ => f = .next ∧ (∃ m', J (i + 1) m' s₃) ∧ s₃.heap.IsListIter I ax (i + 1)) E' { s' with heap := h₂, toks := tk₂ })
    (hR : ∀ m s' h₂, J ps.length m s' → s'.heap.IsListIter I ax ps.length → Kept [I] s'.heap h₂ → h₂.Ns L m → R (.ok .next) { s' with heap := h₂ }) :
    codeAny (model pw_ae0023_01 w) A (.forLoop (.Tuple [.Name xa pa, .Name xb pb] k1 tp) (.ref I) body [] env) R s := by
  subst hL
  obtain ⟨m₀, h0⟩ := h0
  refine codeAny_forLoop_any (fun k s' => ∃ i m, k = ps.length + 1 - i ∧ i ≤ ps.length ∧ J i m s' ∧ s'.heap.IsListIter I ax i) ?_ (ps.length + 1) ⟨0, m₀, rfl, Nat.zero_le _, h0, hit⟩
  rintro k s' ⟨i, m, rfl, hi, hJ, hit'⟩
  obtain ⟨hn', hl', ht'⟩ := hJn _ _ _ hJ
  by_cases hlt : i < ps.length
  · have hlt' : i < items.size := by omega
    have hv : items[i]? = some items[i] := Array.getElem?_eq_getElem hlt'
    obtain ⟨p, hpp, T, hT, kT⟩ := paired_get ht' (by rw [Array.getElem?_toList]; exact hv)
    refine wpAny_pyNext_list_item hit' hl' hv fun h₁ hit₁ hs₁ => ?_
    rw [hT]
    refine wpAny_letOwnedTupleGo_listiter hit₁ ?_
    have nI : NoTup [I] s'.heap := by obtain ⟨o, e, c, d⟩ := hit'; exact noTup1 e (by rw [c]; exact ne_tup (by decide))
    have k1 : Kept [I] s'.heap h₁ := fun b o e nn => (hs₁.2 b fun q => nn (List.mem_singleton.mpr q)).trans e
    refine Ob21 (isTup2 (k1.tup nI kT)) fun ta tb tT => ?_
    refine assign_Tuple_tuple hh tT rfl rfl fun h₃ he₃ => ?_
    have ext₃ : ∀ b o, h₁.get? b = some o → h₃.get? b = some o := fun b o e => he₃ b o (Nat.ne_of_lt (Heap.lt_size e)) e
    have ns₃ := (hn'.sameBut hs₁ (Ne.symm hIL)).at' fun o e => ext₃ _ o e
    refine assignInOrder_cons (wpAny_assign_Name (wpAny_storeName_local hxa ns₃ (fun h₄ hn₄ hs₄ => ?_) hp))
    refine assignInOrder_cons (wpAny_assign_Name (wpAny_storeName_local hxb hn₄ (fun h₅ hn₅ hs₅ => ?_) hp))
    refine assignInOrder_nil ?_
    have it₅ : h₅.IsListIter I ax (i + 1) := by obtain ⟨o, e, r⟩ := hit₁; exact ⟨o, (hs₅.2 I hIL).trans ((hs₄.2 I hIL).trans (ext₃ _ _ e)), r⟩
    refine wpAny_mono (turn i p m s' h₅ _ ta tb _ hpp hJ hit' (fun b o e nn => ?_) hn₅ it₅) (fun f s₃ h₃ => ?_) fun _ _ e => e
    · have n1 : b ≠ env.locals := fun q => nn (by rw [show b = env.locals from q]; exact List.mem_cons_self)
      exact (hs₅.2 b n1).trans ((hs₄.2 b n1).trans (ext₃ b o (k1 b o e fun q => nn (by rw [show b = I from List.mem_singleton.mp q]; exact List.mem_cons_of_mem _ List.mem_cons_self))))
    · obtain ⟨rfl, ⟨m', hJ'⟩, it'⟩ := h₃
      exact ⟨_, by first | exact Nat.sub_lt_sub_left (Nat.lt_succ_of_lt hlt) (Nat.lt_succ_self _) | omega, i + 1, m', rfl, hlt, hJ', it'⟩
  · obtain rfl : i = ps.length := by first | exact Nat.le_antisymm (by assumption) (Nat.le_of_not_lt (by assumption)) | omega
    refine wpAny_pyNext_list_end hh hit' hl' (by simp [hlen]) fun h₁ he₁ => wpAny_execs_nil ?_
    exact hR m s' h₁ hJ hit' (fun b o e nn => he₁ b o (fun q => nn (List.mem_singleton.mpr q)) e) (hn'.at' fun o e => he₁ _ o (Ne.symm hIL) e)
end
end
section
open SeqAt
open MeetsSeq MeetsSeq2 MeetsSeq3 SeqRoads2
noncomputable def tabM : List (PySem.Str × Option Value) → PySem.Str → Option Value
  | [], _ => none
  | (x, v) :: r, y => if y = x then v else tabM r y
noncomputable def setM : List (PySem.Str × Option Value) → PySem.Str → Value → List (PySem.Str × Option Value)
  | [], _, _ => []
  | (x, v) :: r, y, u => if x = y then (x, some u) :: r else (x, v) :: setM r y u
theorem tabM_cons {x y : PySem.Str} {v : Option Value} {r : List (PySem.Str × Option Value)} : tabM ((x, v) :: r) y = if y = x then v else tabM r y := rfl
theorem setM_cons {x y : PySem.Str} {v : Option Value} {u : Value} {r : List (PySem.Str × Option Value)} : setM ((x, v) :: r) y u = if x = y then (x, some u) :: r else (x, v) :: setM r y u := rfl
theorem fmap_tabM {x : PySem.Str} {v : Value} : ∀ {l : List (PySem.Str × Option Value)}, (l.map (·.1)).contains x = true → fmap (tabM l) x v = tabM (setM l x v)
  | [], h => by simp at h
  | (z, u) :: r, h => by
    funext y
    rw [setM_cons]
    unfold fmap
    rw [tabM_cons]
    by_cases q : z = x
    · subst q
      rw [if_pos rfl, tabM_cons]
      by_cases q2 : y = z
      · rw [if_pos q2, if_pos q2]
      · rw [if_neg q2, if_neg q2, if_neg q2]
    · rw [if_neg q, tabM_cons]
      have hr : (r.map (·.1)).contains x = true := by
        simp only [List.map_cons, List.contains_cons, Bool.or_eq_true] at h
        exact h.resolve_left fun e => q (by simpa using e : x = z).symm
      have ih := congrFun (fmap_tabM (v := v) hr) y
      unfold fmap at ih
      by_cases q3 : y = z
      · rw [if_pos q3, if_neg (fun e => q (q3.symm.trans e)), if_pos q3]
      · rw [if_neg q3, if_neg q3]; exact ih
theorem tabM_none {y : PySem.Str} : ∀ {l : List (PySem.Str × Option Value)}, (∀ p ∈ l, p.2 = none) → tabM l y = none
  | [], _ => rfl
  | (x, v) :: r, h => by
    rw [tabM_cons, show v = none from h _ List.mem_cons_self, tabM_none fun p hp => h p (List.mem_cons_of_mem _ hp)]
    split <;> rfl
theorem tabM_pad {l' : List (PySem.Str × Option Value)} (h : ∀ p ∈ l', p.2 = none) : ∀ {l : List (PySem.Str × Option Value)}, tabM l = tabM (l ++ l')
  | [] => by funext y; rw [List.nil_append, tabM_none h]; rfl
  | (x, v) :: r => by
    funext y
    show _ = tabM ((x, v) :: (r ++ l')) y
    rw [tabM_cons, tabM_cons, tabM_pad h]
structure Gr (w : World) (mg mb : PySem.Str → Option Value) (base : Heap) (outer : List Env) (g : Heap) (s₁ : Shared) (L : Addr) (h₀ : Heap) (ex tl : List (Addr × Obj)) : Prop where
  C : Cx w mg mb base outer h₀
  hex : ∀ p ∈ ex, s₁.heap.get? p.1 = some p.2
  cov : Cov s₁.heap h₀ L ex tl
  gh : g.StaysIn h₀
  hL : h₀.get? L = none
section
variable {w : World} {mg mb : PySem.Str → Option Value} {base g h₀ h : Heap} {outer : List Env} {s s₁ s' : Shared} {L : Addr} {m : PySem.Str → Option Value} {env : Env} {ex tl news : List (Addr × Obj)} {M : List Addr}
theorem Gr.make (ex : List (Addr × Obj)) (C : Cx w mg mb base outer g) (hg : g.StaysIn s.heap) (hgL : ∀ b o, g.get? b = some o → b < L) (hn : s.heap.Ns L m) (hex : ∀ p ∈ ex, s.heap.get? p.1 = some p.2 ∧ p.1 ≠ L ∧ g.get? p.1 = none) :
    ∃ h₀ tl, Gr w mg mb base outer g s L h₀ ex tl ∧ Fr h₀ L s.heap m ∧ News h₀ L s.heap (ex ++ tl) := by
  obtain ⟨h₀, tl, F, N, C', gh, cov, tx⟩ := reseg ex C hg hgL hn hex
  refine ⟨h₀, tl, ⟨C', fun p hp => (hex p hp).1, cov, gh, Heap.get?_none_of_le F.above⟩, F, N⟩
theorem Gr.kept (G : Gr w mg mb base outer g s₁ L h₀ ex tl) (F : Fr h₀ L h m) (N : News h₀ L h news) (h1 : ∀ p ∈ ex, p ∈ news ∨ p.1 ∈ M) (h2 : ∀ p ∈ tl, p ∈ news) : Kept (L :: M) s₁.heap h := fun b o e n => by
  have n1 : b ≠ L := fun q => n (q ▸ List.mem_cons_self)
  by_cases hb : b ∈ ex.map (·.1)
  · obtain ⟨p, hp, rfl⟩ := List.mem_map.mp hb
    rw [G.hex p hp] at e; cases e
    rcases h1 p hp with q | q
    · exact (N _ q).1
    · exact absurd (List.mem_cons_of_mem _ q) n
  · rcases G.cov b o e n1 hb with q | q
    · exact F.keep b o q
    · exact (N _ (h2 _ q)).1
theorem Gr.cx (G : Gr w mg mb base outer g s₁ L h₀ ex tl) (F : Fr h₀ L h m) (hf : env.frame = some L) (hk : env.scope.kind = .function) : Cx w mg mb base (env :: outer) h := G.C.push F.ns G.hL hf hk F.keep
theorem Post.all {s s' : Shared} (p : Post [] s s') : ∀ b o, s.heap.get? b = some o → s'.heap.get? b = some o := fun b o e => p.keep b o e fun q => nomatch q
end
section
variable {w : World} {A : Around} {E : Value → Shared → Prop} {s : Shared} {Q : Value → Shared → Prop} {nl : Addr} {vs : Array Value} {k t : Nat} {near : List (Fin 5)} {x : Fin 5}
def eN (x : Fin 5) (v : Value) : Bool := match v with | .str y _ => decide (y = nmS x) | _ => false
theorem items_mem {ks : List PySem.Str} {l : List Value} (h : ItemsAre (strKind pw_ae0023_01 w) ks l) : ∀ v ∈ l, ∃ y t, v = .str y t ∧ y ∈ ks := by
  induction h with
  | nil => intro v hv; cases hv
  | @cons k v ks vs hk _ ih =>
    intro u hu
    obtain ⟨t, e⟩ := Value.isStrOf_shape hk
    rcases List.mem_cons.mp hu with rfl | hu
    · exact ⟨k, t, e, List.mem_cons_self⟩
    · obtain ⟨y, t', e', m'⟩ := ih u hu; exact ⟨y, t', e', List.mem_cons_of_mem _ m'⟩
theorem items_any {ks : List PySem.Str} {l : List Value} (h : ItemsAre (strKind pw_ae0023_01 w) ks l) : l.any (eN x) = decide (nmS x ∈ ks) := by
  induction h with
  | nil => simp
  | @cons k v ks vs hk _ ih =>
    obtain ⟨t, e⟩ := Value.isStrOf_shape hk
    rw [List.any_cons, ih, e]
    unfold eN
    by_cases q : k = nmS x
    · simp [q]
    · have : ¬ nmS x = k := fun z => q z.symm
      simp [q, this]
theorem eN_at (hi : ItemsAre (strKind pw_ae0023_01 w) (near.map nmS) vs.toList) : ∀ y, y ∈ vs → EqAt A s y (.str (nmS x) t) (eN x y) := fun y hy => by
  obtain ⟨z, u, rfl, _⟩ := items_mem hi y (by simpa using hy)
  have e := (EqGives.str z (nmS x) u t).at A s
  have hb : (z.cps.toList == (nmS x).cps.toList) = eN x (.str z u) := by
    show _ = decide (z = nmS x)
    by_cases q : z = nmS x
    · subst q; simp
    · rw [decide_eq_false q]
      refine beq_eq_false_iff_ne.mpr fun hl => q ?_
      cases z; 
      have : (nmS x) = ⟨(nmS x).cps⟩ := rfl
      rw [this]
      simp only [Str.mk.injEq]
      exact Array.toList_inj.mp hl
  rw [hb] at e; exact e
theorem mem_nm : (decide (nmS x ∈ near.map nmS)) = decide (x ∈ near) := by
  rw [decide_eq_decide]
  constructor
  · intro h
    obtain ⟨y, hy, e⟩ := List.mem_map.mp h
    rw [← nmS_inj e]; exact hy
  · exact fun h => List.mem_map_of_mem h
theorem any_eN (hi : ItemsAre (strKind pw_ae0023_01 w) (near.map nmS) vs.toList) : vs.any (eN x) = decide (x ∈ near) := by
  rw [← Array.any_toList, items_any hi, mem_nm]
theorem in_near (hl : s.heap.get? nl = some (listOf vs k)) (hi : ItemsAre (strKind pw_ae0023_01 w) (near.map nmS) vs.toList) (h : Q (.bool (decide (x ∈ near))) s) :
    wpAny (model pw_ae0023_01 w) A (compareOp .In (.str (nmS x) t) (.ref nl)) Q E s :=
  in_listAt (eN x) ⟨_, hl, rfl, _, rfl⟩ (eN_at hi) (by rw [any_eN hi]; exact h)
theorem notIn_near (hl : s.heap.get? nl = some (listOf vs k)) (hi : ItemsAre (strKind pw_ae0023_01 w) (near.map nmS) vs.toList) (h : Q (.bool (!decide (x ∈ near))) s) :
    wpAny (model pw_ae0023_01 w) A (compareOp .NotIn (.str (nmS x) t) (.ref nl)) Q E s :=
  notIn_listAt (eN x) ⟨_, hl, rfl, _, rfl⟩ (eN_at hi) (by rw [any_eN hi]; exact h)
theorem items_snoc {ks : List PySem.Str} {l : List Value} {y : PySem.Str} {t : Nat} (h : ItemsAre (strKind pw_ae0023_01 w) ks l) : ItemsAre (strKind pw_ae0023_01 w) (ks ++ [y]) (l ++ [.str y t]) := by
  induction h with
  | nil => exact .cons (strKind_is _ _ _ _) .nil
  | cons hk _ ih => exact .cons hk ih
theorem near_test {xa xn : PySem.Str} {px py pos : Pos} {scope : Scope} {cl : List (PySem.Str × Addr)} {C c : Addr} {oc : Obj} {m : PySem.Str → Option Value} {Q : Bool → Shared → Prop} {whole : Sem Value} {env : Env}
    (hkind : scope.kind = .function) (hx : scope.names.lookup xa = some .local) (hdx : (xa == ("__debug__" : PySem.Str)) = false) (hdy : (xn == ("__debug__" : PySem.Str)) = false)
    (hy : (compEnvC scope cl C env).kindOf xn = some .cell) (hc : cl.lookup xn = some c) (hcell : s.heap.get? c = some oc) (hcd : oc.data = .cell (some (.ref nl))) (hn : s.heap.Ns C m) (hm : m xa = some (.str (nmS x) t))
    (hl : s.heap.get? nl = some (listOf vs k)) (hi : ItemsAre (strKind pw_ae0023_01 w) (near.map nmS) vs.toList) (h : Q (decide (x ∈ near)) s) :
    wpAny (model pw_ae0023_01 w) A (isTrue (.Compare (.Name xa px) [.In] [.Name xn py] pos) (compEnvC scope cl C env) whole) Q E s := by
  have hk : (compEnvC scope cl C env).scope.kind = .function := by simp [compEnvC, relabel, hkind]
  refine wpAny_isTrue_Compare1 ?_
  refine wpAny_Name (wpAny_loadName_local hk (lookup_relabel_local hx) hn hm ?_) hdx
  refine wpAny_Name (wpAny_loadName_cell hk hy hc ⟨oc, hcell, hcd⟩ ?_) hdy
  exact in_near hl hi (wpAny_truthy_bool h)
end
def rdNear (σ : SS) (m : Fin 3) (near : List (Fin 5)) (p : Pr) : List (Fin 5) := if p.2 ∉ near ∧ openB σ p.1 p.2 m = true then near ++ [p.2] else near
def rdRound (σ : SS) (m : Fin 3) (near : List (Fin 5)) : List (Fin 5) := (σ.ls.filter fun p => decide (p.1 ∈ near)).foldl (rdNear σ m) near
noncomputable def rdAll (σ : SS) (m : Fin 3) (a : Fin 5) : Nat → List (Fin 5)
  | 0 => [a]
  | n + 1 => rdRound σ m (rdAll σ m a n)
theorem rdNear_nodup {σ : SS} {m : Fin 3} {near : List (Fin 5)} {p : Pr} (h : near.Nodup) : (rdNear σ m near p).Nodup := by
  unfold rdNear
  split
  · rename_i q
    rw [List.nodup_append]
    exact ⟨h, by simp, fun x hx y hy e => q.1 (by rw [List.mem_singleton] at hy; subst hy; subst e; exact hx)⟩
  · exact h
theorem rdFold_nodup {σ : SS} {m : Fin 3} : ∀ {ps : List Pr} {near : List (Fin 5)}, near.Nodup → (ps.foldl (rdNear σ m) near).Nodup
  | [], _, h => h
  | _ :: ps, _, h => rdFold_nodup (ps := ps) (rdNear_nodup h)
theorem rdAll_nodup {σ : SS} {m : Fin 3} {a : Fin 5} : ∀ n, (rdAll σ m a n).Nodup
  | 0 => by unfold rdAll; simp
  | n + 1 => rdFold_nodup (rdAll_nodup n)
end
section
open SeqAt
theorem small_lv {n : Nat} (h : n ≤ 5) : Builtin.Range.small 0 (n : Int) 1 = true := by
  match n, h with
  | 0, _ => rfl
  | 1, _ => rfl
  | 2, _ => rfl
  | 3, _ => rfl
  | 4, _ => rfl
  | 5, _ => rfl
  | n + 6, h => exact absurd h (by omega)
theorem range_lv {n : Nat} (h : n ≤ 5) : Builtin.Range.rangeSize 0 (n : Int) 1 = (n : Int) := by
  match n, h with
  | 0, _ => rfl
  | 1, _ => rfl
  | 2, _ => rfl
  | 3, _ => rfl
  | 4, _ => rfl
  | 5, _ => rfl
  | n + 6, h => exact absurd h (by omega)
abbrev tR (xl dl ds : Addr) (lv a b m : Value) (v1 v2 v3 : Option Value) : List (PySem.Str × Option Value) :=
  [("domain", some m), ("other", some b), ("name", some a), ("level", some lv), ("said", some (.ref ds)), ("laid", some (.ref dl)), ("links", some (.ref xl)), ("_", v1), ("a", v2), ("b", v3)]
structure NearI (w : World) (s : Shared) (L c nl : Addr) (oc : Obj) (m : PySem.Str → Option Value) (near : List (Fin 5)) (s' : Shared) : Prop where
  ns : s'.heap.Ns L m
  old : ∀ b o, s.heap.get? b = some o → s'.heap.get? b = some o
  os : s'.os = s.os
  bare : AllBare s.gens → AllBare s'.gens
  nl : ∃ vs k, s'.heap.get? nl = some (listOf vs k) ∧ ItemsAre (strKind pw_ae0023_01 w) (near.map nmS) vs.toList
  oc : s'.heap.get? c = some oc
theorem NearI.kept {w : World} {s s' : Shared} {L c nl : Addr} {oc : Obj} {m m' : PySem.Str → Option Value} {near : List (Fin 5)} {h₂ : Heap} {tk : Nat} {M : List Addr} (x : NearI w s L c nl oc m near s') (k : Kept M s'.heap h₂) (hn : h₂.Ns L m') (hM : ∀ y ∈ M, s.heap.get? y = none) (n1 : nl ∉ M) (n2 : c ∉ M) :
    NearI w s L c nl oc m' near { s' with heap := h₂, toks := tk } :=
  ⟨hn, fun b o e => k b o (x.old b o e) fun q => (by rw [hM b q] at e; cases e), x.os, x.bare, let ⟨vs, kk, e, i⟩ := x.nl; ⟨vs, kk, k _ _ e n1, i⟩, k _ _ x.oc n2⟩
theorem wrapZ (P : Shared → Prop) : ∃ Z : Shared → Prop, (∀ s, Z s → P s) ∧ (∀ s, P s → Z s) := ⟨P, fun _ h => h, fun _ h => h⟩
end
section
open SeqAt
inductive LR1 (w : World) (s : Shared) (L' nl : Addr) (oc : Obj) (R : Option Value → Option Value → Option Value → List (PySem.Str × Option Value)) (near : List (Fin 5)) (mm : PySem.Str → Option Value) (s' : Shared) : Prop
  | mk (v1 v2 v3 : Option Value) (e : mm = tabM (R v1 v2 v3)) (x : NearI w s L' (L' + 1) nl oc mm near s')
inductive LR2 (w : World) (s : Shared) (L' nl : Addr) (oc : Obj) (R : Option Value → Option Value → List (PySem.Str × Option Value)) (near : List (Fin 5)) (D I : Addr) (o : Obj) (ys : List Value) (ls : List (Fin 5 × Fin 5)) (p q : Int) (mm : PySem.Str → Option Value) (s' : Shared) : Prop
  | mk (v2 v3 : Option Value) (e : mm = tabM (R v2 v3)) (x : NearI w s L' (L' + 1) nl oc mm near s') (g : s'.heap.get? D = some o) (t : TupsAt w s'.heap ys ls) (it : IsRangeIter s'.heap I p q 1)
section
variable {w : World} {mg mb : PySem.Str → Option Value} {base g : Heap} {outer : List Env} {d u : Nat} {gs : Option (List Code)} {E : Value → Shared → Prop} {s : Shared} {A : AD} {σ : SS}
theorem law_reached {a b : Fin 5} {m : Fin 3} {xl dl ds : Addr} {items : Array Value} {kl tv ta tb tm : Nat} {Q : Value → Shared → Prop} (C : Cx w mg mb base outer g) (hg : g.StaysIn s.heap) (hd : d + 12 < recursionLimit) (hu : u + 40 < cLine)
  (hxl : s.heap.get? xl = some (listOf items kl)) (hz : items.size ≤ 25) (hls : TupsAt w s.heap items.toList σ.ls)
  (hL1 : LaidAt w s.heap dl σ.cond) (hS1 : SaidAt w s.heap ds σ.prm) (lo1 : (dl == sysModules) = false) (lo2 : (ds == sysModules) = false) (hlv : σ.lv ≤ 5)
  (h : ∀ s', Post [] s s' → Q (.bool (decide (b ∈ rdAll σ m a σ.lv))) s') :
  wpAny (model pw_ae0023_01 w) (Ar d outer gs u) (call (.ref 1118) [.ref xl, .ref dl, .ref ds, .int σ.lv tv, .str (nmS a) ta, .str (nmS b) tb, .str (domS m) tm]) Q E s := by
  walk_at "f"
  refine wpAny_call ?_
  have Xs := C.X.keeps hg
  refine' enter_defC (led := []) C hg (fun _ q => nomatch q) ?k6 ?k7 (room0 hd) ?k9 ?kB ?kD ?_ ?c2 ?c3 ?c4
  ((case k6 => k_dflt k_is); (case k7 => k_dflt k_is); (case k9 => k_dflt (first | exact BindsTo.of_eq rfl | exact binds_K (by k_in) rfl (by k_is) rfl rfl rfl)); (case kB => k_dflt (exact rfl)); (case kD => k_dflt (decide +kernel)); (case c2 => exact rfl); (case c3 => exact rfl); (case c4 => exact rfl))
  intro L' h' tk' cells' hL hgL F' N' Y' C' l1
  refine hideE fun E9 => ?_
  have X' := C'.X
  have T' := C'.T
  k_cells Y'
  simp only [List.cons_append, List.nil_append, List.append_nil] at N'
  clear l1 Xs
  walk_at "g10"
  refine wpAny_For ?_ (by intro _; rfl)
  walk_at "g10"
  rename IsRange _ _ _ _ _ _ _ _ => hr
  rename Fr _ _ _ _ => F1
  rename News _ _ _ _ => N1
  refine wpAny_pyIter_range hr (small_lv hlv) ?_
  rename_i nl hX l1 hA oc FX NX hcd0 hB tkX t1 u1 v1 kB
  have F2 : Fr (restH s.heap []) L' hB (tabM (tR xl dl ds (.int σ.lv tv) (.str (nmS a) ta) (.str (nmS b) tb) (.str (domS m) tm) none none none)) := by
    have z : Fr (restH s.heap []) L' hB (tabM [("domain", some (.str (domS m) tm)), ("other", some (.str (nmS b) tb)), ("name", some (.str (nmS a) ta)), ("level", some (.int σ.lv tv)), ("said", some (.ref ds)), ("laid", some (.ref dl)), ("links", some (.ref xl))]) := F1
    rw [tabM_pad (l' := [("_", none), ("a", none), ("b", none)]) (by simp)] at z
    exact z
  have gnl := N1 _ (show (nl, listOf #[.str (nmS a) ta] 0) ∈ _ from by walk_at "n")
  have gcl := N1 _ (show (L' + 1, oc) ∈ _ from by walk_at "n")
  have szL : @LE.le Nat _ s.heap.objs.size L' := by have := F1.above; rw [show (restH s.heap []).objs.size = s.heap.objs.size from hideAll_size _ _] at this; exact this
  have ltL : ∀ b o, (restH s.heap []).get? b = some o → b < L' := fun b o e => Nat.lt_of_lt_of_le (Heap.lt_size (of_hideAll _ e)) szL
  have n0 : ∀ {y : Addr}, (restH s.heap []).get? y = none → s.heap.get? y = none := fun e => by rw [restH_nil] at e; exact e
  have dNL : @LT.lt Nat _ (L' + 1) nl := l1
  have kb : ∀ b o, s.heap.get? b = some o → hB.get? b = some o := fun b o e => F1.keep b o (hideAll_get _ e (fun q => nomatch q))
  have hIsz : @LT.lt Nat _ nl hB.objs.size := Heap.lt_size gnl.1
  have ltI : @LT.lt Nat _ L' hB.objs.size := F1.ns.lt
  generalize hI : hB.objs.size = I at *
  have sI : s.heap.get? I = none := by
    cases q : s.heap.get? I with
    | none => rfl
    | some o => have := Heap.lt_size (kb _ _ q); rw [hI] at this; exact absurd this (Nat.lt_irrefl _)
  have gI : (hB.push { cls := .type "range_iterator", data := .fields #[rawInt 0, rawInt (Builtin.Range.rangeSize 0 (σ.lv : Int) 1), rawInt 1] }).get? I = some { cls := .type "range_iterator", data := .fields #[rawInt 0, rawInt (Builtin.Range.rangeSize 0 (σ.lv : Int) 1), rawInt 1] } := by
    rw [← hI]; exact Heap.get?_push_size _ rfl
  rw [range_lv hlv] at gI ⊢
  have snl := n0 gnl.2.2
  have scl := n0 gcl.2.2
  have nIL : I ≠ L' := fun q => by have q' : @Eq Nat I L' := q; omega
  have nInl : nl ≠ I := fun q => by have q' : @Eq Nat nl I := q; omega
  have nIc : (L' + 1 : Addr) ≠ I := fun q => by have q' : @Eq Nat (L' + 1) I := q; omega
  have nnl : nl ≠ L' := gnl.2.1
  have nc : (L' + 1 : Addr) ≠ L' := gcl.2.1
  have g0 : NearI w s L' (L' + 1) nl oc (tabM (tR xl dl ds (.int σ.lv tv) (.str (nmS a) ta) (.str (nmS b) tb) (.str (domS m) tm) none none none)) (rdAll σ m a 0) { s with heap := hB.push { cls := .type "range_iterator", data := .fields #[rawInt 0, rawInt (σ.lv : Int), rawInt 1] }, toks := tkX } :=
    ⟨F2.ns.push _, fun b o e => Heap.get?_push_of_some _ (kb b o e), rfl, id, ⟨_, _, Heap.get?_push_of_some _ gnl.1, .cons (strKind_is _ _ _ _) .nil⟩, Heap.get?_push_of_some _ gcl.1⟩
  clear X' T' F1 N1 F2 FX NX hr kB
  refine for_rng (n := σ.lv) (L := L') (I := I) rfl rfl rfl rfl nIL (fun i mm s' => LR1 w s L' nl oc (tR xl dl ds (.int σ.lv tv) (.str (nmS a) ta) (.str (nmS b) tb) (.str (domS m) tm)) (rdAll σ m a i) mm s') (fun i mm s' ⟨_, _, _, _, x⟩ => x.ns) gI ⟨_, none, none, none, rfl, g0⟩ ?turn ?hR
  case turn =>
    rintro i mm s' h₂ tk₂ tk E' hi ⟨v1, v2, v3, rfl, x1⟩ K2 hn2 it2
    rw [show fmap (tabM (tR xl dl ds (.int σ.lv tv) (.str (nmS a) ta) (.str (nmS b) tb) (.str (domS m) tm) v1 v2 v3)) "_" (.int (i : Int) tk) = tabM (tR xl dl ds (.int σ.lv tv) (.str (nmS a) ta) (.str (nmS b) tb) (.str (domS m) tm) (some (.int (i : Int) tk)) v2 v3) from fmap_tabM rfl] at hn2
    have x2 := x1.kept (tk := tk₂) K2 hn2 (by simp [hL, sI]) (by simp [nnl, nInl]) (by simp [nIc])
    clear x1 K2 hn2
    refine Ob22 (x2.nl) fun vs kv e1 i1 => ?_
    obtain ⟨h₀, tl, G, F1, N1⟩ := Gr.make (s := { s' with heap := h₂, toks := tk₂ }) [(nl, listOf vs kv), (L' + 1, oc), (I, { cls := .type "range_iterator", data := .fields #[rawInt ((i + 1 : Nat) : Int), rawInt ((σ.lv : Int) - ((i + 1 : Nat) : Int)), rawInt 1] })] C' (fun b o e => x2.old b o (of_hideAll _ e)) ltL x2.ns
      (allCons ⟨e1, nnl, gnl.2.2⟩ (allCons ⟨x2.oc, nc, gcl.2.2⟩ (allCons ⟨it2, nIL, by rw [restH_nil]; exact sI⟩ allNil)))
    have X' := G.C.X
    have T' := G.C.T
    dsimp only [List.cons_append, List.nil_append] at N1
    obtain ⟨Z, hZ1, hZ2⟩ := wrapZ fun s₃ => (∃ m', LR1 w s L' nl oc (tR xl dl ds (.int σ.lv tv) (.str (nmS a) ta) (.str (nmS b) tb) (.str (domS m) tm)) (rdAll σ m a (i + 1)) m' s₃) ∧ IsRangeIter s₃.heap I ((i + 1 : Nat) : Int) ((σ.lv : Int) - ((i + 1 : Nat) : Int)) 1
    refine wpAny_mono (Q := fun f s₃ => f = .next ∧ Z s₃) ?_ (fun f s₃ h₃ => ⟨h₃.1, hZ1 _ h₃.2⟩) fun _ _ e => e
    walk_at "g10"
    refine wpAny_For ?_ (by intro _; rfl)
    walk_at "g10"
    refine lc_pair (cl := [("near", L' + 1)]) (fun p => decide (p.1 ∈ rdAll σ m a i)) rfl (by with_unfolding_all rfl) (by decide) rfl (by decide) (by rfl) (by rfl) (by decide) rfl rfl ?_ (fun _ => rfl)
    walk_at "g10"
    rename Fr _ _ _ _ => F1
    rename News _ _ _ _ => N1
    refine ⟨xl, items, σ.ls, rfl, ⟨_, x2.old _ _ hxl, rfl, _, rfl⟩, Nat.le_trans hz (Nat.le_of_ble_eq_true rfl), hls.kept (M := []) (fun b o e _ => x2.old b o e) NoTup.nil, fun C4 p ta4 tb4 s4 m4 E4 hC4 hp4 hn4 ma4 mb4 hk4 => ?_, fun D s5 n5 ys p5 hD5 gD5 hT5 => ?_⟩
    · exact near_test (nl := nl) (near := rdAll σ m a i) rfl (by rfl) rfl rfl (by with_unfolding_all rfl) (by rfl) (hk4 _ _ x2.oc) hcd0 hn4 ma4 (hk4 _ _ e1) i1 ⟨rfl, _, _, rfl, fun b o e => e⟩
    refine wpAny_pyIter_list ⟨_, gD5, rfl, _, rfl⟩ ?_
    have x5 : NearI w s L' (L' + 1) nl oc (tabM (tR xl dl ds (.int σ.lv tv) (.str (nmS a) ta) (.str (nmS b) tb) (.str (domS m) tm) (some (.int (i : Int) tk)) v2 v3)) (rdAll σ m a i) { s5 with heap := s5.heap.push { cls := .type "list_iterator", data := .fields #[.ref D, .int 0 0] } } := by
      have x4 := x2.kept (M := []) (h₂ := s5.heap) (tk := s5.toks) (fun b o e _ => p5.all b o e) (x2.ns.at' fun o e => p5.all _ o e) (fun _ q => nomatch q) (fun q => nomatch q) (fun q => nomatch q)
      exact ⟨x4.ns.push _, fun b o e => Heap.get?_push_of_some _ (x4.old b o e), p5.os.trans x4.os, fun z => p5.bare (x4.bare z), let ⟨vs, kk, e, i⟩ := x4.nl; ⟨vs, kk, Heap.get?_push_of_some _ e, i⟩, Heap.get?_push_of_some _ x4.oc⟩
    have lt5 : ∀ b o, s5.heap.get? b = some o → @LT.lt Nat _ b s5.heap.objs.size := fun b o e => Heap.lt_size e
    have hD5' : @LT.lt Nat _ D s5.heap.objs.size := lt5 _ _ gD5
    have dNl5 : @LT.lt Nat _ nl s5.heap.objs.size := lt5 _ _ (p5.all _ _ e1)
    have it5 : s5.heap.get? I = _ := p5.all _ _ it2
    have dI5 : @LT.lt Nat _ I s5.heap.objs.size := lt5 _ _ it5
    have nI2 : ∀ y, (∃ o, s5.heap.get? y = some o) → y ≠ s5.heap.objs.size := fun y ⟨o, e⟩ q => Nat.lt_irrefl _ (q ▸ lt5 _ _ e)
    have hnL5 : L' ≠ s5.heap.objs.size := nI2 _ (by obtain ⟨o, _, _, e, _⟩ := x2.ns; exact ⟨o, p5.all _ _ e⟩)
    have nDL : D ≠ L' := fun q => by obtain ⟨o, _, _, e, _⟩ := x2.ns; rw [q, show h₂.get? L' = some o from e] at hD5; cases hD5
    have nDnl : D ≠ nl := fun q => by rw [q, show h₂.get? nl = some _ from e1] at hD5; cases hD5
    have nDc : D ≠ L' + 1 := fun q => by rw [q, show h₂.get? (L' + 1) = some _ from x2.oc] at hD5; cases hD5
    have nDI : D ≠ I := fun q => by rw [q, show h₂.get? I = some _ from it2] at hD5; cases hD5
    have sD : s.heap.get? D = none := by
      cases q : s.heap.get? D with
      | none => rfl
      | some o => have := x2.old _ _ q; rw [hD5] at this; cases this
    have sI2 : s.heap.get? s5.heap.objs.size = none := by
      cases q : s.heap.get? s5.heap.objs.size with
      | none => rfl
      | some o => have := p5.all _ _ (x2.old _ _ q); exact absurd (Heap.lt_size this) (Nat.lt_irrefl _)
    have n2nl : nl ≠ s5.heap.objs.size := nI2 _ ⟨_, p5.all _ _ e1⟩
    have n2c : (L' + 1 : Addr) ≠ s5.heap.objs.size := nI2 _ ⟨_, p5.all _ _ x2.oc⟩
    have n2D : D ≠ s5.heap.objs.size := nI2 _ ⟨_, gD5⟩
    have n2I : I ≠ s5.heap.objs.size := nI2 _ ⟨_, it5⟩
    have nI2L : s5.heap.objs.size ≠ L' := Ne.symm hnL5
    clear F1 N1 G X' T' x2 e1 i1
    have hlen := hT5.length
    rw [Array.length_toList] at hlen
    refine for_pairs (L := L') (I := s5.heap.objs.size) (ax := D) (items := ys) (ps := σ.ls.filter fun p => decide (p.1 ∈ rdAll σ m a i)) rfl rfl rfl rfl rfl nI2L hlen
      (fun j mm s6 => LR2 w s L' nl oc (tR xl dl ds (.int σ.lv tv) (.str (nmS a) ta) (.str (nmS b) tb) (.str (domS m) tm) (some (.int (i : Int) tk))) (((σ.ls.filter fun p => decide (p.1 ∈ rdAll σ m a i)).take j).foldl (rdNear σ m) (rdAll σ m a i)) D I (listOf ys n5) ys.toList (σ.ls.filter fun p => decide (p.1 ∈ rdAll σ m a i)) ((i + 1 : Nat) : Int) ((σ.lv : Int) - ((i + 1 : Nat) : Int)) mm s6)
      (fun j mm s6 ⟨_, _, _, x, e, t, _⟩ => ⟨x.ns, ⟨_, e, rfl, _, rfl⟩, t⟩) ⟨_, Heap.get?_push_size _ rfl, rfl, rfl⟩ ⟨_, v2, v3, rfl, by rw [List.take_zero]; exact x5, Heap.get?_push_of_some _ gD5, hT5.kept (M := []) (fun b o e _ => Heap.get?_push_of_some _ e) NoTup.nil, Heap.get?_push_of_some _ it5⟩ ?turn2 ?hR2
    case turn2 =>
      clear x5 v2 v3 hZ1 hZ2 Z hT5 gD5 it5
      rintro j p mm s6 h₇ tk₇ ta7 tb7 E7 hp7 ⟨v2, v3, rfl, x6, gD6, hT6, it6⟩ li6 K7 hn7 li7
      rw [show fmap (fmap (tabM (tR xl dl ds (.int σ.lv tv) (.str (nmS a) ta) (.str (nmS b) tb) (.str (domS m) tm) (some (.int (i : Int) tk)) v2 v3)) "a" (.str (nmS p.1) ta7)) "b" (.str (nmS p.2) tb7) = tabM (tR xl dl ds (.int σ.lv tv) (.str (nmS a) ta) (.str (nmS b) tb) (.str (domS m) tm) (some (.int (i : Int) tk)) (some (.str (nmS p.1) ta7)) (some (.str (nmS p.2) tb7))) from by rw [fmap_tabM rfl]; exact fmap_tabM rfl] at hn7
      have x7 := x6.kept (tk := tk₇) K7 hn7 (by simp [hL, sI2]) (by simp [nnl, n2nl]) (by simp [nc, n2c])
      have nt6 : NoTup [L', s5.heap.objs.size] s6.heap := fun b o vs nn e hc hd q => by
        rcases List.mem_cons.mp q with q | q
        · obtain ⟨o', es, ep, e', d', _⟩ := x6.ns; rw [show b = L' from q, e'] at e; cases e; rw [d'] at hd; cases hd
        · obtain ⟨o', e', c', _⟩ := li6; rw [show b = s5.heap.objs.size from List.mem_singleton.mp q, e'] at e; cases e; rw [c'] at hc; exact absurd hc (ne_tup (by decide))
      have gD7 : h₇.get? D = some (listOf ys n5) := K7 _ _ gD6 (by simp [nDL, n2D])
      have hT7 : TupsAt w h₇ ys.toList _ := hT6.kept K7 nt6
      have it7r : IsRangeIter h₇ I ((i + 1 : Nat) : Int) ((σ.lv : Int) - ((i + 1 : Nat) : Int)) 1 := K7 _ _ it6 (by simp [nIL, n2I])
      obtain ⟨oi2, e2i, c2i, d2i⟩ := li7
      clear x6 K7 hn7 gD6 hT6 it6 li6 nt6
      have htk : ((σ.ls.filter fun p => decide (p.1 ∈ rdAll σ m a i)).take (j + 1)).foldl (rdNear σ m) (rdAll σ m a i) = rdNear σ m (((σ.ls.filter fun p => decide (p.1 ∈ rdAll σ m a i)).take j).foldl (rdNear σ m) (rdAll σ m a i)) p := by
        rw [List.take_add_one, hp7, Option.toList_some, List.foldl_append]; rfl
      have nLt : NoTup [L'] h₇ := fun b o vs nn e hc hd q => by obtain ⟨o', es, ep, e', d', _⟩ := x7.ns; rw [show b = L' from List.mem_singleton.mp q, show h₇.get? L' = some o' from e'] at e; cases e; rw [d'] at hd; cases hd
      have nNd : (((σ.ls.filter fun p => decide (p.1 ∈ rdAll σ m a i)).take j).foldl (rdNear σ m) (rdAll σ m a i)).Nodup := rdFold_nodup (rdAll_nodup i)
      refine Ob22 (x7.nl) fun vs kv e1 i1 => ?_
      generalize hnear : ((σ.ls.filter fun p => decide (p.1 ∈ rdAll σ m a i)).take j).foldl (rdNear σ m) (rdAll σ m a i) = near at *
      have lenN : vs.size ≤ 5 := by rw [← Array.length_toList, ← i1.length, List.length_map]; exact len_fin nNd
      obtain ⟨h₀, tl, G, F1, N1⟩ := Gr.make (s := { s6 with heap := h₇, toks := tk₇ }) [(nl, listOf vs kv), (L' + 1, oc), (I, { cls := .type "range_iterator", data := .fields #[rawInt ((i + 1 : Nat) : Int), rawInt ((σ.lv : Int) - ((i + 1 : Nat) : Int)), rawInt 1] }), (s5.heap.objs.size, oi2), (D, listOf ys n5)] C' (fun b o e => x7.old b o (of_hideAll _ e)) ltL x7.ns
        (allCons ⟨e1, nnl, gnl.2.2⟩ (allCons ⟨x7.oc, nc, gcl.2.2⟩ (allCons ⟨it7r, nIL, by rw [restH_nil]; exact sI⟩ (allCons ⟨e2i, nI2L, by rw [restH_nil]; exact sI2⟩ (allCons ⟨gD7, nDL, by rw [restH_nil]; exact sD⟩ allNil)))))
      have X' := G.C.X
      have T' := G.C.T
      dsimp only [List.cons_append, List.nil_append] at N1
      obtain ⟨Z, hZ1, hZ2⟩ := wrapZ fun s₃ => (∃ m', LR2 w s L' nl oc (tR xl dl ds (.int σ.lv tv) (.str (nmS a) ta) (.str (nmS b) tb) (.str (domS m) tm) (some (.int (i : Int) tk))) (rdNear σ m near p) D I (listOf ys n5) ys.toList (σ.ls.filter fun p => decide (p.1 ∈ rdAll σ m a i)) ((i + 1 : Nat) : Int) ((σ.lv : Int) - ((i + 1 : Nat) : Int)) m' s₃) ∧ s₃.heap.IsListIter s5.heap.objs.size D (j + 1)
      rw [htk]
      refine wpAny_mono (Q := fun f s₃ => f = .next ∧ Z s₃) ?_ (fun f s₃ h₃ => ⟨h₃.1, hZ1 _ h₃.2⟩) fun _ _ e => e
      walk_at "g10"
      rename Fr _ _ _ _ => F1
      rename News _ _ _ _ => N1
      refine notIn_near e1 i1 ?_
      by_cases hb : p.2 ∈ near
      · rw [decide_eq_true hb, Bool.not_true]
        walk_at "g10"
        have er : rdNear σ m near p = near := if_neg fun q => q.1 hb
        have KE := G.kept (M := []) F1 N1 (fun p hp => .inl (by revert p; walk_at "h")) (by walk_at "H")
        exact hZ2 _ ⟨⟨_, _, _, rfl, (by rw [er]; exact x7.kept (m' := tabM (tR xl dl ds (.int σ.lv tv) (.str (nmS a) ta) (.str (nmS b) tb) (.str (domS m) tm) _ _ _)) KE F1.ns (by simp [hL]) (by simp [nnl]) (by simp [nc])), KE _ _ gD7 (by simp [nDL]), hT7.kept KE nLt, KE _ _ it7r (by simp [nIL])⟩, ⟨_, KE _ _ e2i (by simp [nI2L]), c2i, d2i⟩⟩
      · rw [decide_eq_false hb, Bool.not_false]
        walk_at "g10"
        rename Fr _ _ _ _ => F1
        rename News _ _ _ _ => N1
        rename_i T8 h8 l8
        have gT := N1.get (show (T8, ({ cls := .type "tuple", data := .seq #[.str (nmS p.1) ta7, .str (nmS p.2) tb7, .str (domS m) tm] } : Obj)) ∈ _ from by walk_at "n")
        have KE := G.kept (M := []) F1 N1 (fun p hp => .inl (by revert p; walk_at "h")) (by walk_at "H")
        have k8 : Kept [] s.heap h8 := fun b o e _ => KE b o (x7.old b o e) fun q => by rw [show b = L' from List.mem_singleton.mp q, hL] at e; cases e
        refine law_open (σ := σ) (a := p.1) (b := p.2) (m := m) (G.cx F1 ?c1 ?c2) (fun b o e => e) (roomD hd) (roomU hu) (hL1.kept k8 NoTup.nil (fun q => nomatch q)) (hS1.kept k8 NoTup.nil (fun q => nomatch q)) lo1 lo2 (tup3 gT) (fun s9 p9 => ?_)
        case c1 => rfl
        case c2 => rfl
        replace F1 := F1.keeps p9.all
        replace N1 := N1.grown p9.all
        clear KE k8 gT l8
        cases ho : openB σ p.1 p.2 m with
        | false =>
          walk_at "g10"
          have er : rdNear σ m near p = near := if_neg fun q => by rw [ho] at q; exact absurd q.2 (by decide)
          have KE := G.kept (M := []) F1 N1 (fun p hp => .inl (by revert p; walk_at "h")) (by walk_at "H")
          exact hZ2 _ ⟨⟨_, _, _, rfl, (by rw [er]; exact ⟨F1.ns, fun b o e => KE b o (x7.old b o e) fun q => (by rw [show b = L' from List.mem_singleton.mp q, hL] at e; cases e), p9.os.trans x7.os, fun z => p9.bare (x7.bare z), ⟨vs, kv, KE _ _ e1 (by simp [nnl]), i1⟩, KE _ _ x7.oc (by simp [nc])⟩), KE _ _ gD7 (by simp [nDL]), hT7.kept KE nLt, KE _ _ it7r (by simp [nIL])⟩, ⟨_, KE _ _ e2i (by simp [nI2L]), c2i, d2i⟩⟩
        | true =>
          walk_at "g10"
          rename Fr _ _ _ _ => F1
          rename News _ _ _ _ => N1
          have er : rdNear σ m near p = near ++ [p.2] := if_pos ⟨hb, ho⟩
          have gN := N1 _ (show (nl, listOf vs kv) ∈ _ from by walk_at "n")
          refine append_at gN.1 (fun h10 hs10 e10 => ?_) (Nat.le_trans lenN (Nat.le_of_ble_eq_true rfl))
          have KE := G.kept (M := []) F1 N1 (fun p hp => .inl (by revert p; walk_at "h")) (by walk_at "H")
          have k10 : Kept [L', nl] h₇ h10 := fun b o e nn => (hs10.2 b fun q => nn (by simp [show b = nl from q])).trans (KE b o e fun q => nn (by simp [List.mem_singleton.mp q]))
          have F3 := fr_kept F1 (kept_same hs10) gN.2.1 gN.2.2
          have nt10 : NoTup [L', nl] h₇ := fun b o vs' nn e hc hd q => by
            rcases List.mem_cons.mp q with q | q
            · exact nLt b o vs' nn e hc hd (List.mem_singleton.mpr q)
            · rw [show b = nl from List.mem_singleton.mp q, show h₇.get? nl = _ from e1] at e; cases e; exact absurd hc (ne_tup (by decide))
          clear F1 N1
          have N3 : News h₀ L' h10 [] := allNil
          walk_at "g10"
          exact hZ2 _ ⟨⟨_, _, _, rfl, (by rw [er]; exact ⟨F3.ns, fun b o e => k10 b o (x7.old b o e) fun q => (by
              rcases List.mem_cons.mp q with q | q
              · rw [show b = L' from q, hL] at e; cases e
              · rw [show b = nl from List.mem_singleton.mp q, snl] at e; cases e), p9.os.trans x7.os, fun z => p9.bare (x7.bare z), ⟨_, _, e10, (by rw [List.map_append, List.map_cons, List.map_nil, Array.toList_push]; exact items_snoc i1)⟩, k10 _ _ x7.oc (by simp [nc]; exact fun q => by have q' : @Eq Nat (L' + 1) nl := q; omega)⟩), k10 _ _ gD7 (by simp [nDL, nDnl]), hT7.kept k10 nt10, k10 _ _ it7r (by simp [nIL, Ne.symm nInl])⟩, ⟨_, k10 _ _ e2i (by simp [nI2L, Ne.symm n2nl]), c2i, d2i⟩⟩
    case hR2 =>
      rintro mm s6 h₇ ⟨v2, v3, rfl, x6, gD6, hT6, it6⟩ li6 K7 hn7
      have := x6.kept (tk := s6.toks) K7 hn7 (by simp [sI2]) (by simp [n2nl]) (by simp [n2c])
      rw [List.take_length] at this
      exact wpAny_execs_nil ⟨rfl, hZ2 _ ⟨⟨_, _, v2, v3, rfl, this⟩, K7 _ _ it6 (by simp [n2I])⟩⟩
  case hR =>
    rintro mm s6 h₇ ⟨v1, v2, v3, rfl, x6⟩ K7 hn7
    have x7 := x6.kept (tk := s6.toks) K7 hn7 (by simp [sI]) (by simp [nInl]) (by simp [nIc])
    refine Ob22 (x7.nl) fun vs kv e1 i1 => ?_
    obtain ⟨h₀, tl, G, F1, N1⟩ := Gr.make (s := { s6 with heap := h₇, toks := s6.toks }) [(nl, listOf vs kv), (L' + 1, oc)] C' (fun b o e => x7.old b o (of_hideAll _ e)) ltL x7.ns
      (allCons ⟨e1, nnl, gnl.2.2⟩ (allCons ⟨x7.oc, nc, gcl.2.2⟩ allNil))
    have X' := G.C.X
    have T' := G.C.T
    dsimp only [List.cons_append, List.nil_append] at N1
    walk_at "g10"
    rename Fr _ _ _ _ => F1
    rename News _ _ _ _ => N1
    refine in_near e1 i1 ?_
    walk_at "g10"
    rename Fr _ _ _ _ => F1
    exact h _ ⟨fun b o e _ => x7.old b o e, fun b o e => ⟨o, x7.old b o e⟩, x7.os, x7.bare⟩
end
end
section
section
variable {σ : SS} {m : Fin 3} {a b t x y : Fin 5}
noncomputable def layer (σ : SS) (m : Fin 3) (l : List (Fin 5)) : Nat → List (Fin 5)
  | 0 => l
  | n + 1 => (layer σ m l n).foldl (stepX σ m) []
theorem mem_stepN {nx : List (Fin 5)} : t ∈ stepN σ m x nx y ↔ t ∈ nx ∨ (t = y ∧ openB σ x y m = true) := by
  unfold stepN
  cases h : openB σ x y m <;> simp
  by_cases q : y ∈ nx
  · constructor
    · rintro (h | ⟨h, _⟩)
      · exact .inl h
      · exact .inr h
    · rintro (h | rfl)
      · exact .inl h
      · exact .inl q
  · constructor
    · rintro (h | ⟨h, _⟩)
      · exact .inl h
      · exact .inr h
    · rintro (h | rfl)
      · exact .inl h
      · exact .inr ⟨rfl, q⟩
theorem mem_foldN : ∀ {l : List (Fin 5)} {nx : List (Fin 5)}, t ∈ l.foldl (stepN σ m x) nx ↔ t ∈ nx ∨ (t ∈ l ∧ openB σ x t m = true)
  | [], nx => by simp
  | y :: l, nx => by
    rw [List.foldl_cons, mem_foldN, mem_stepN]
    constructor
    · rintro ((h | ⟨rfl, h⟩) | ⟨h, h2⟩)
      · exact .inl h
      · exact .inr ⟨List.mem_cons_self, h⟩
      · exact .inr ⟨List.mem_cons_of_mem _ h, h2⟩
    · rintro (h | ⟨h, h2⟩)
      · exact .inl (.inl h)
      · rcases List.mem_cons.mp h with rfl | h
        · exact .inl (.inr ⟨rfl, h2⟩)
        · exact .inr ⟨h, h2⟩
theorem mem_foldX : ∀ {l : List (Fin 5)} {nx : List (Fin 5)}, t ∈ l.foldl (stepX σ m) nx ↔ t ∈ nx ∨ ∃ x ∈ l, t ∈ σ.out x ∧ openB σ x t m = true
  | [], nx => by simp
  | y :: l, nx => by
    rw [List.foldl_cons, mem_foldX]
    unfold stepX
    rw [mem_foldN]
    constructor
    · rintro ((h | h) | ⟨x, hx, h⟩)
      · exact .inl h
      · exact .inr ⟨y, List.mem_cons_self, h⟩
      · exact .inr ⟨x, List.mem_cons_of_mem _ hx, h⟩
    · rintro (h | ⟨x, hx, h⟩)
      · exact .inl (.inl h)
      · rcases List.mem_cons.mp hx with rfl | hx
        · exact .inl (.inr h)
        · exact .inr ⟨x, hx, h⟩
theorem mem_layer {l : List (Fin 5)} {n : Nat} : t ∈ layer σ m l (n + 1) ↔ ∃ x ∈ layer σ m l n, t ∈ σ.out x ∧ openB σ x t m = true := by
  show t ∈ (layer σ m l n).foldl (stepX σ m) [] ↔ _
  rw [mem_foldX]; simp
theorem layer_shift {l : List (Fin 5)} : ∀ n, layer σ m (l.foldl (stepX σ m) []) n = layer σ m l (n + 1)
  | 0 => rfl
  | n + 1 => by show (layer σ m (l.foldl (stepX σ m) []) n).foldl _ [] = (layer σ m l (n + 1)).foldl _ []; rw [layer_shift n]
theorem hlF_iff : ∀ {n : Nat} {l : List (Fin 5)}, hlF σ t m n l = true ↔ ∃ k, k < n ∧ t ∈ layer σ m l k
  | 0, l => by simp [hlF]
  | n + 1, l => by
    show (if t ∈ l then true else hlF σ t m n (l.foldl (stepX σ m) [])) = true ↔ _
    by_cases q : t ∈ l
    · rw [if_pos q]; exact ⟨fun _ => ⟨0, Nat.succ_pos _, q⟩, fun _ => rfl⟩
    · rw [if_neg q, hlF_iff]
      constructor
      · rintro ⟨k, hk, h⟩; exact ⟨k + 1, Nat.succ_lt_succ hk, layer_shift k ▸ h⟩
      · rintro ⟨k, hk, h⟩
        match k, hk, h with
        | 0, _, h => exact absurd h q
        | k + 1, hk, h => exact ⟨k, Nat.lt_of_succ_lt_succ hk, (layer_shift k).symm ▸ h⟩
theorem mem_rdFold : ∀ {ps : List Pr} {near : List (Fin 5)}, t ∈ ps.foldl (rdNear σ m) near ↔ t ∈ near ∨ ∃ x, (x, t) ∈ ps ∧ openB σ x t m = true
  | [], near => by simp
  | p :: ps, near => by
    rw [List.foldl_cons, mem_rdFold]
    have h1 : t ∈ rdNear σ m near p ↔ t ∈ near ∨ (t = p.2 ∧ openB σ p.1 p.2 m = true) := by
      unfold rdNear
      split
      · rename_i q
        rw [List.mem_append, List.mem_singleton]
        exact ⟨fun h => h.imp id fun e => ⟨e, q.2⟩, fun h => h.imp id fun e => e.1⟩
      · rename_i q
        refine ⟨.inl, fun h => h.elim id fun ⟨e, o⟩ => ?_⟩
        by_cases z : p.2 ∈ near
        · rw [e]; exact z
        · exact absurd ⟨z, o⟩ q
    rw [h1]
    constructor
    · rintro ((h | ⟨e, o⟩) | ⟨x, hx, h⟩)
      · exact .inl h
      · exact .inr ⟨p.1, by rw [e]; exact List.mem_cons_self, by rw [e]; exact o⟩
      · exact .inr ⟨x, List.mem_cons_of_mem _ hx, h⟩
    · rintro (h | ⟨x, hx, h⟩)
      · exact .inl (.inl h)
      · rcases List.mem_cons.mp hx with e | hx
        · exact .inl (.inr (by rw [← e]; exact ⟨rfl, h⟩))
        · exact .inr ⟨x, hx, h⟩
theorem mem_rdAll (hio : ∀ a b, b ∈ σ.out a ↔ (a, b) ∈ σ.ls) : ∀ {n : Nat} {t : Fin 5}, t ∈ rdAll σ m a n ↔ ∃ k, k ≤ n ∧ t ∈ layer σ m [a] k
  | 0, t => by
    show t ∈ [a] ↔ _
    exact ⟨fun h => ⟨0, Nat.le_refl _, h⟩, fun ⟨k, hk, h⟩ => by obtain rfl := Nat.le_zero.mp hk; exact h⟩
  | n + 1, t => by
    show t ∈ rdRound σ m (rdAll σ m a n) ↔ _
    unfold rdRound
    rw [mem_rdFold, mem_rdAll hio]
    constructor
    · rintro (⟨k, hk, h⟩ | ⟨x, hx, o⟩)
      · exact ⟨k, Nat.le_succ_of_le hk, h⟩
      · obtain ⟨hx1, hx2⟩ := List.mem_filter.mp hx
        obtain ⟨k, hk, h⟩ := (mem_rdAll hio).mp (of_decide_eq_true hx2)
        exact ⟨k + 1, Nat.succ_le_succ hk, mem_layer.mpr ⟨x, h, (hio x t).mpr hx1, o⟩⟩
    · rintro ⟨k, hk, h⟩
      match k, hk, h with
      | 0, _, h => exact .inl ⟨0, Nat.zero_le _, h⟩
      | k + 1, hk, h =>
        obtain ⟨x, hx, h1, o⟩ := mem_layer.mp h
        exact .inr ⟨x, List.mem_filter.mpr ⟨(hio x t).mp h1, decide_eq_true ((mem_rdAll hio).mpr ⟨k, Nat.le_of_succ_le_succ hk, hx⟩)⟩, o⟩
theorem law_plain (hio : ∀ a b, b ∈ σ.out a ↔ (a, b) ∈ σ.ls) : hasL σ a b m = decide (b ∈ rdAll σ m a σ.lv) := by
  unfold hasL
  by_cases q : a = b
  · rw [if_pos q, decide_eq_true ((mem_rdAll hio).mpr ⟨0, Nat.zero_le _, by rw [q]; exact List.mem_singleton.mpr rfl⟩)]
  · rw [if_neg q, Bool.eq_iff_iff, hlF_iff, decide_eq_true_iff, mem_rdAll hio]
    exact ⟨fun ⟨k, hk, h⟩ => ⟨k, Nat.le_of_lt_succ hk, h⟩, fun ⟨k, hk, h⟩ => ⟨k, Nat.lt_succ_of_le hk, h⟩⟩
end
end
section
open SeqAt
structure SO where
  o : Obj
  x : List (Addr × Obj)
structure LawI (w : World) (base : Heap) (os₀ : OsState) (L sc : Addr) (so : SO) (A : AD) (σ : SS) (xl dl ds : Addr) (la : Pr → Addr) (ls : List Pr) (lc : Fin 5 → Fin 5 → Fin 3 → Option (Fin 3)) (lp : Fin 5 → Fin 5 → Fin 3 → Option (Fin 7))
    (m : PySem.Str → Option Value) (cu cr : Option Value) (s : Shared) : Prop where
  ns : s.heap.Ns L m
  bs : base.StaysIn s.heap
  R : Rep w A σ s.heap
  hso : s.heap.get? sc = some so.o ∧ so.o.cls ≠ .type "tuple"
  hx : ∀ p ∈ so.x, s.heap.get? p.1 = some p.2
  hf : ∀ p ∈ so.x, p.1 ∉ [L, L + 1, L + 2, sc, xl, dl, ds] ∧ p.1 ∉ A.hid σ.ns ∧ base.get? p.1 = none ∧ p.1 ≠ 784 ∧ p.1 ≠ 1000
  hxl : ∃ k, s.heap.get? xl = some (listOf (prL la ls) k)
  hla : ∀ p ∈ ls, IsTupleKey (sk w) s.heap (prS p) (la p)
  ln : ls.Nodup
  hdl : LaidAt w s.heap dl lc
  hds : SaidAt w s.heap ds lp
  hcu : ∃ o, s.heap.get? (L + 1) = some o ∧ o.data = .cell cu
  hcr : ∃ o, s.heap.get? (L + 2) = some o ∧ o.data = .cell cr
  osc : sc ∉ A.hid σ.ns
  off : ∀ x ∈ [L, L + 1, L + 2, xl, dl, ds], x ∉ A.hid σ.ns ∧ base.get? x = none ∧ x ≠ 784 ∧ x ≠ 1000
  bh : ∀ x ∈ A.hid σ.ns, base.get? x = none
  nd : [L, L + 1, L + 2, sc, xl, dl, ds].Nodup
  bl : ∀ b o, base.get? b = some o → b < L
  lo : @LT.lt Nat _ 1 dl ∧ @LT.lt Nat _ 1 ds
  os : s.os = os₀
  ge : AllBare s.gens
section
variable {w : World} {mg mb : PySem.Str → Option Value} {base h₀ h : Heap} {os₀ : OsState} {L sc xl dl ds xl' : Addr} {so : SO} {A A' : AD} {σ σ' : SS} {la la' : Pr → Addr} {ls ls' : List Pr} {lc lc' : Fin 5 → Fin 5 → Fin 3 → Option (Fin 3)} {lp lp' : Fin 5 → Fin 5 → Fin 3 → Option (Fin 7)}
  {m m' : PySem.Str → Option Value} {cu cr cu' cr' : Option Value} {s s' : Shared} {ex tl news : List (Addr × Obj)} {env : Env} {frs : List (Addr × Obj)}
theorem LawI.has (x : LawI w base os₀ L sc so A σ xl dl ds la ls lc lp m cu cr s) : ∀ y ∈ [L, L + 1, L + 2, sc, xl, dl, ds], ∃ o, s.heap.get? y = some o := by
  intro y hy
  simp only [List.mem_cons, List.not_mem_nil, or_false] at hy
  rcases hy with rfl | rfl | rfl | rfl | rfl | rfl | rfl
  · obtain ⟨o, _, _, e, _⟩ := x.ns; exact ⟨o, e⟩
  · obtain ⟨o, e, _⟩ := x.hcu; exact ⟨o, e⟩
  · obtain ⟨o, e, _⟩ := x.hcr; exact ⟨o, e⟩
  · exact ⟨_, x.hso.1⟩
  · obtain ⟨_, e⟩ := x.hxl; exact ⟨_, e⟩
  · obtain ⟨_, ⟨o, _, _, e, _⟩, _⟩ := x.hdl; exact ⟨o, e⟩
  · obtain ⟨_, ⟨o, _, _, e, _⟩, _⟩ := x.hds; exact ⟨o, e⟩
theorem LawI.nt3 (x : LawI w base os₀ L sc so A σ xl dl ds la ls lc lp m cu cr s) : NoTup [L, L + 1, L + 2] s.heap := fun b o vs n e hc hd q => by
  simp only [List.mem_cons, List.not_mem_nil, or_false] at q
  rcases q with rfl | rfl | rfl
  · obtain ⟨o', _, _, e', d', _⟩ := x.ns; rw [e'] at e; cases e; rw [d'] at hd; cases hd
  · obtain ⟨o', e', d'⟩ := x.hcu; rw [e'] at e; cases e; rw [d'] at hd; cases hd
  · obtain ⟨o', e', d'⟩ := x.hcr; rw [e'] at e; cases e; rw [d'] at hd; cases hd
theorem LawI.kept (x : LawI w base os₀ L sc so A σ xl dl ds la ls lc lp m cu cr s) (k : Kept [L, L + 1, L + 2] s.heap s'.heap) (hn : s'.heap.Ns L m') (c1 : ∃ o, s'.heap.get? (L + 1) = some o ∧ o.data = .cell cu') (c2 : ∃ o, s'.heap.get? (L + 2) = some o ∧ o.data = .cell cr')
    (ho : s'.os = s.os) (hb : AllBare s.gens → AllBare s'.gens) : LawI w base os₀ L sc so A σ xl dl ds la ls lc lp m' cu' cr' s' := by
  have nd := x.nd
  simp only [List.nodup_cons, List.mem_cons, List.not_mem_nil, or_false, not_or] at nd
  have off : ∀ y ∈ [L, L + 1, L + 2], y ∈ [L, L + 1, L + 2, xl, dl, ds] := allCons (.head _) (allCons (.tail _ (.head _)) (allCons (.tail _ (.tail _ (.head _))) allNil))
  have offs : ∀ y ∈ [L, L + 1, L + 2], y ∈ [L, L + 1, L + 2, sc, xl, dl, ds] := allCons (.head _) (allCons (.tail _ (.head _)) (allCons (.tail _ (.tail _ (.head _))) allNil))
  have n3 : ∀ {y : Addr}, L ≠ y → L + 1 ≠ y → L + 2 ≠ y → y ∉ [L, L + 1, L + 2] := fun h1 h2 h3 => neL (allCons (Ne.symm h1) (allCons (Ne.symm h2) (allCons (Ne.symm h3) allNil)))
  obtain ⟨a1, a2, a3, a4, a5, a6⟩ := nd
  have ksc := n3 a1.2.2.1 a2.2.1 a3.1
  have kxl := n3 a1.2.2.2.1 a2.2.2.1 a3.2.1
  have kdl := n3 a1.2.2.2.2.1 a2.2.2.2.1 a3.2.2.1
  have kds := n3 a1.2.2.2.2.2 a2.2.2.2.2 a3.2.2.2
  exact { ns := hn, bs := fun b o e => k b o (x.bs b o e) fun q => (by rw [(x.off b (off b q)).2.1] at e; cases e),
          R := x.R.kept k x.nt3 (fun y hy q => (x.off y (off y q)).1 hy) (fun q => (x.off _ (off _ q)).2.2.1 rfl) (fun q => (x.off _ (off _ q)).2.2.2 rfl),
          hso := ⟨k _ _ x.hso.1 ksc, x.hso.2⟩, hx := fun p hp => k _ _ (x.hx p hp) fun q => (x.hf p hp).1 (offs _ q), hf := x.hf, hxl := (let ⟨kk, e⟩ := x.hxl; ⟨kk, k _ _ e kxl⟩), hla := fun p hp => k.tup x.nt3 (x.hla p hp), ln := x.ln, hdl := x.hdl.kept k x.nt3 kdl, hds := x.hds.kept k x.nt3 kds,
          hcu := c1, hcr := c2, osc := x.osc, off := x.off, bh := x.bh, nd := x.nd, bl := x.bl, lo := x.lo, os := ho.trans x.os, ge := hb x.ge }
theorem cx0 (X0 : (K w.params).In base) (T0 : TopRead q (looseW q loose) mg mb base) : Cx w mg mb base [] base := ⟨X0, T0, fun _ _ e => e, trivial⟩
theorem LawI.gr (x : LawI w base os₀ L sc so A σ xl dl ds la ls lc lp m cu cr s) (X0 : (K w.params).In base) (T0 : TopRead q (looseW q loose) mg mb base) (ex : List (Addr × Obj)) (hx : ∀ p ∈ ex, s.heap.get? p.1 = some p.2 ∧ p.1 ≠ L ∧ base.get? p.1 = none) :
    ∃ h₀ tl, Gr w mg mb base [] base s L h₀ ex tl ∧ Fr h₀ L s.heap m ∧ News h₀ L s.heap (ex ++ tl) := Gr.make ex (cx0 X0 T0) x.bs x.bl x.ns hx
theorem LawI.cxx {xs : List Addr} (x : LawI w base os₀ L sc so A σ xl dl ds la ls lc lp m cu cr s) (X0 : (K w.params).In base) (T0 : TopRead q (looseW q loose) mg mb base) (hx : ∀ y ∈ xs, y ≠ L ∧ base.get? y = none) (hf : env.frame = some L) (hk : env.scope.kind = .function) : Cx w mg mb base [env] (hideAll s.heap xs) := by
  refine Ob32 (x.ns) fun oL es ep e r => ?_
  exact (cx0 X0 T0).push (h' := hideAll s.heap xs) ⟨oL, es, ep, hideAll_get _ e fun q => (hx L q).1 rfl, r⟩ (x.off L List.mem_cons_self).2.1 hf hk fun b o e' => hideAll_get _ (x.bs b o e') fun q => by rw [(hx b q).2] at e'; cases e'
theorem LawI.cx (x : LawI w base os₀ L sc so A σ xl dl ds la ls lc lp m cu cr s) (X0 : (K w.params).In base) (T0 : TopRead q (looseW q loose) mg mb base) (hf : env.frame = some L) (hk : env.scope.kind = .function) : Cx w mg mb base [env] (inG A σ s.heap) :=
  x.cxx X0 T0 (fun y hy => ⟨fun q => (x.off L List.mem_cons_self).1 (q ▸ hy), x.bh y hy⟩) hf hk
theorem LawI.st (x : LawI w base os₀ L sc so A σ xl dl ds la ls lc lp m cu cr s) : Stand w (inG A σ s.heap) A σ s := ⟨fun b o e => of_hideAll _ e, fun y hy => hideAll_none _ hy, x.R⟩
theorem Rep.nt {h : Heap} (R : Rep w A σ h) : NoTup (A.hid σ.ns) h := fun b o vs n e hc hd q => by
  have nf := R.noTup (M := A.foot σ.ns) fun y hy => hy
  simp only [AD.hid, List.mem_cons] at q
  rcases q with q | q | q
  · refine Ob44 (TabOk.two R.t7) fun o1 vs' op ps ho hd1 hop hpd => ?_
    rw [q, hop] at e; cases e; rw [hpd] at hd; cases hd
  · refine Ob44 (TabOk.two R.t9) fun o1 vs' op ps ho hd1 hop hpd => ?_
    rw [q, hop] at e; cases e; rw [hpd] at hd; cases hd
  · exact nf b o vs n e hc hd q
theorem ns_up (hn : s.heap.Ns L m) (S : StepF frs A σ s A' σ' s') (hfr : frs = [] ∨ ∃ oL, s.heap.get? L = some oL ∧ frs = [(L, oL)]) (hh : L ∉ A.hid σ.ns) : s'.heap.Ns L m := by
  refine Ob33 (hn) fun oL es ep e d r => ?_
  rcases hfr with rfl | ⟨oL', e', rfl⟩
  · exact ⟨oL, es, ep, S.post.keep _ _ e hh List.not_mem_nil, d, r⟩
  · rw [e] at e'; cases e'
    obtain ⟨up, SU, hf⟩ := S.post.up
    cases up with
    | nil => exact SU.elim
    | cons p up =>
      obtain ⟨e1, ⟨sl, e2⟩, _⟩ := SU
      have := hf p List.mem_cons_self
      rw [e1, e2] at this
      exact ⟨_, es, ep, this, d, r⟩
theorem LawI.step (x : LawI w base os₀ L sc so A σ xl dl ds la ls lc lp m cu cr s) (R' : Rep w A' σ' s'.heap) (S : StepF frs A σ s A' σ' s') (hfr : frs = [] ∨ ∃ oL, s.heap.get? L = some oL ∧ frs = [(L, oL)]) : LawI w base os₀ L sc so A' σ' xl dl ds la ls lc lp m cu cr s' := by
  have sub : ∀ b, b ∈ frs.map (·.1) → b = L := fun b hb => by
    rcases hfr with rfl | ⟨oL, _, rfl⟩
    · exact absurd hb List.not_mem_nil
    · exact List.mem_singleton.mp hb
  have kk : Kept (L :: A.hid σ.ns) s.heap s'.heap := fun b o e n => S.post.keep b o e (fun q => n (List.mem_cons_of_mem _ q)) fun q => n (by rw [sub b q]; exact List.mem_cons_self)
  have nt : NoTup (L :: A.hid σ.ns) s.heap := fun b o vs n e hc hd q => by
    rcases List.mem_cons.mp q with q | q
    · exact x.nt3 b o vs n e hc hd (by rw [q]; exact List.mem_cons_self)
    · exact x.R.nt b o vs n e hc hd q
  have nd := x.nd
  simp only [List.nodup_cons, List.mem_cons, List.not_mem_nil, or_false, not_or] at nd
  obtain ⟨a1, a2, a3, a4, a5, a6⟩ := nd
  have nm : ∀ {y : Addr}, y ∈ [L, L + 1, L + 2, xl, dl, ds] → L ≠ y → y ∉ L :: A.hid σ.ns := fun hy h1 q => by
    rcases List.mem_cons.mp q with q | q
    · exact h1 q.symm
    · exact (x.off _ hy).1 q
  have m1 : L + 1 ∈ [L, L + 1, L + 2, xl, dl, ds] := .tail _ (.head _)
  have m2 : L + 2 ∈ [L, L + 1, L + 2, xl, dl, ds] := .tail _ (.tail _ (.head _))
  have n3 : sc ∉ L :: A.hid σ.ns := fun q => (List.mem_cons.mp q).elim (fun q => a1.2.2.1 q.symm) x.osc
  have m4 : xl ∈ [L, L + 1, L + 2, xl, dl, ds] := .tail _ (.tail _ (.tail _ (.head _)))
  have m5 : dl ∈ [L, L + 1, L + 2, xl, dl, ds] := .tail _ (.tail _ (.tail _ (.tail _ (.head _))))
  have m6 : ds ∈ [L, L + 1, L + 2, xl, dl, ds] := .tail _ (.tail _ (.tail _ (.tail _ (.tail _ (.head _)))))
  have hid' : ∀ y ∈ A'.hid σ'.ns, y ∈ A.hid σ.ns ∨ s.heap.get? y = none := fun y hy => by
    simp only [AD.hid, List.mem_cons] at hy ⊢
    rcases hy with h | h | h
    · exact .inl (.inl h)
    · exact .inl (.inr (.inl h))
    · exact (S.fresh y h).imp (fun q => .inr (.inr q)) id
  refine { ns := ?_, bs := fun b o e => kk b o (x.bs b o e) fun q => ?_, R := R', hso := ⟨kk _ _ x.hso.1 n3, x.hso.2⟩, hx := fun p hp => kk _ _ (x.hx p hp) fun q => ?_, hf := fun p hp => ⟨(x.hf p hp).1, fun q => ?_, (x.hf p hp).2.2⟩, hxl := (let ⟨k, e⟩ := x.hxl; ⟨k, kk _ _ e (nm m4 a1.2.2.2.1)⟩), hla := fun p hp => kk.tup nt (x.hla p hp), ln := x.ln,
           hdl := x.hdl.kept kk nt (nm m5 a1.2.2.2.2.1), hds := x.hds.kept kk nt (nm m6 a1.2.2.2.2.2), hcu := (let ⟨o, e, d⟩ := x.hcu; ⟨o, kk _ _ e (nm m1 a1.1), d⟩), hcr := (let ⟨o, e, d⟩ := x.hcr; ⟨o, kk _ _ e (nm m2 a1.2.1), d⟩),
           osc := fun q => ?_, off := fun y hy => ⟨fun q => ?_, (x.off y hy).2⟩, bh := fun y hy => ?_, nd := x.nd, bl := x.bl, lo := x.lo, os := S.post.os.trans x.os, ge := S.post.bare x.ge }
  · exact ns_up x.ns S hfr (x.off L List.mem_cons_self).1
  · rcases List.mem_cons.mp q with q | q
    · rw [q, (x.off L List.mem_cons_self).2.1] at e; cases e
    · rw [x.bh b q] at e; cases e
  · rcases List.mem_cons.mp q with q | q
    · exact (x.hf p hp).1 (by rw [q]; exact List.mem_cons_self)
    · exact (x.hf p hp).2.1 q
  · rcases hid' _ q with q | q
    · exact (x.hf p hp).2.1 q
    · have := x.hx p hp; rw [q] at this; cases this
  · rcases hid' sc q with q | q
    · exact x.osc q
    · have := x.hso.1; rw [q] at this; cases this
  · rcases hid' y q with q | q
    · exact (x.off y hy).1 q
    · obtain ⟨o, e⟩ := x.has y (List.Sublist.subset (.cons_cons _ (.cons_cons _ (.cons_cons _ (.cons _ (List.Sublist.refl _))))) hy); rw [q] at e; cases e
  · rcases hid' y hy with q | q
    · exact x.bh y q
    · cases e : base.get? y with
      | none => rfl
      | some o => have := x.bs y o e; rw [q] at this; cases this
theorem LawI.post (x : LawI w base os₀ L sc so A σ xl dl ds la ls lc lp m cu cr s) (p : Post [] s s') : LawI w base os₀ L sc so A σ xl dl ds la ls lc lp m cu cr s' :=
  x.kept (fun b o e _ => p.all b o e) (x.ns.at' fun o e => p.all _ o e) (let ⟨o, e, d⟩ := x.hcu; ⟨o, p.all _ _ e, d⟩) (let ⟨o, e, d⟩ := x.hcr; ⟨o, p.all _ _ e, d⟩) p.os p.bare
end
end
section
open SeqAt
noncomputable section
abbrev lawScope : Scope := Scope.mk ScopeKind.function [(PySem.Str.ofString "script", NameKind.local), (PySem.Str.ofString "level", NameKind.local), (PySem.Str.ofString "manager", NameKind.local), (PySem.Str.ofString "links", NameKind.local), (PySem.Str.ofString "laid", NameKind.local), (PySem.Str.ofString "said", NameKind.local), (PySem.Str.ofString "k", NameKind.local), (PySem.Str.ofString "deed", NameKind.local), (PySem.Str.ofString "kind", NameKind.local), (PySem.Str.ofString "pick", NameKind.local), (PySem.Str.ofString "user", NameKind.cell), (PySem.Str.ofString "role", NameKind.cell), (PySem.Str.ofString "domain", NameKind.local), (PySem.Str.ofString "condition", NameKind.local), (PySem.Str.ofString "words", NameKind.local), (PySem.Str.ofString "name", NameKind.local), (PySem.Str.ofString "other", NameKind.local), (PySem.Str.ofString "where", NameKind.local), (PySem.Str.ofString "_law_number", NameKind.globalImplicit), (PySem.Str.ofString "ConditionalRoleManager_role_manager2", NameKind.globalImplicit), (PySem.Str.ofString "range", NameKind.globalImplicit), (PySem.Str.ofString "_law_names", NameKind.globalImplicit), (PySem.Str.ofString "len", NameKind.globalImplicit), (PySem.Str.ofString "_law_even", NameKind.globalImplicit), (PySem.Str.ofString "_law_two", NameKind.globalImplicit), (PySem.Str.ofString "_law_rising", NameKind.globalImplicit), (PySem.Str.ofString "_law_rows", NameKind.globalImplicit), (PySem.Str.ofString "_law_asked", NameKind.globalImplicit), (PySem.Str.ofString "_law_reached", NameKind.globalImplicit)] false false [(PySem.Str.ofString "fast", Const.str (PySem.Str.ofString "script")), (PySem.Str.ofString "fast", Const.str (PySem.Str.ofString "level")), (PySem.Str.ofString "fast", Const.str (PySem.Str.ofString "manager")), (PySem.Str.ofString "fast", Const.str (PySem.Str.ofString "links")), (PySem.Str.ofString "fast", Const.str (PySem.Str.ofString "laid")), (PySem.Str.ofString "fast", Const.str (PySem.Str.ofString "said")), (PySem.Str.ofString "fast", Const.str (PySem.Str.ofString "k")), (PySem.Str.ofString "fast", Const.str (PySem.Str.ofString "deed")), (PySem.Str.ofString "fast", Const.str (PySem.Str.ofString "kind")), (PySem.Str.ofString "fast", Const.str (PySem.Str.ofString "pick")), (PySem.Str.ofString "fast", Const.str (PySem.Str.ofString "user")), (PySem.Str.ofString "fast", Const.str (PySem.Str.ofString "role")), (PySem.Str.ofString "fast", Const.str (PySem.Str.ofString "domain")), (PySem.Str.ofString "fast", Const.str (PySem.Str.ofString "one")), (PySem.Str.ofString "fast", Const.str (PySem.Str.ofString "condition")), (PySem.Str.ofString "fast", Const.str (PySem.Str.ofString "words")), (PySem.Str.ofString "fast", Const.str (PySem.Str.ofString "name")), (PySem.Str.ofString "fast", Const.str (PySem.Str.ofString "other")), (PySem.Str.ofString "fast", Const.str (PySem.Str.ofString "where"))]
abbrev lawE (L : Addr) : Env := envOfC (S "law") lawScope L 1130 (r 1129)
def lawBody : List Stmt := match F 33 with | .FunctionDef _ _ b _ _ _ _ _ _ _ => b | _ => []
def turnBody : List Stmt := match lawBody.getD 5 default with | .For _ _ b _ _ => b | _ => []
def tS (i : Nat) : Stmt := turnBody.getD i default
end
abbrev tL (sc xl dl ds am : Addr) (lv : Value) (k deed kind pick dom cond words name other whr : Option Value) : List (PySem.Str × Option Value) :=
  [("script", some (.ref sc)), ("level", some lv), ("manager", some (.ref am)), ("links", some (.ref xl)), ("laid", some (.ref dl)), ("said", some (.ref ds)), ("k", k), ("deed", deed), ("kind", kind), ("pick", pick), ("domain", dom), ("condition", cond), ("words", words), ("name", name), ("other", other), ("where", whr)]
section
variable {w : World} {mg mb : PySem.Str → Option Value} {base : Heap} {os₀ : OsState} {d u : Nat} {gs : Option (List Code)} {E : Value → Shared → Prop} {s : Shared} {A : AD} {σ : SS} {L sc xl dl ds am : Addr} {so : SO} {la : Pr → Addr} {ls : List Pr} {lc : Fin 5 → Fin 5 → Fin 3 → Option (Fin 3)} {lp : Fin 5 → Fin 5 → Fin 3 → Option (Fin 7)}
  {lv : Value} {v6 v7 v8 v9 v10 v11 v12 v13 v14 v15 : Option Value} {cu cr : Option Value} {P : Shared → Prop}
theorem LawI.tk {mm : PySem.Str → Option Value} {t : Nat} (x : LawI w base os₀ L sc so A σ xl dl ds la ls lc lp mm cu cr s) : LawI w base os₀ L sc so A σ xl dl ds la ls lc lp mm cu cr { s with toks := t } := x.kept (fun _ _ e _ => e) x.ns x.hcu x.hcr rfl id
theorem LawI.mem {mm : PySem.Str → Option Value} (x : LawI w base os₀ L sc so A σ xl dl ds la ls lc lp mm cu cr s) {y : Addr} (hy : y ∈ [L + 1, L + 2, xl, dl, ds]) : y ≠ L ∧ base.get? y = none :=
  have hy' : y ∈ [L + 1, L + 2, sc, xl, dl, ds] := by
    simp only [List.mem_cons, List.not_mem_nil, or_false] at hy ⊢
    rcases hy with h | h | h | h | h
    · exact .inl h
    · exact .inr (.inl h)
    · exact .inr (.inr (.inr (.inl h)))
    · exact .inr (.inr (.inr (.inr (.inl h))))
    · exact .inr (.inr (.inr (.inr (.inr h))))
  ⟨fun q => (List.nodup_cons.mp x.nd).1 (q ▸ hy'), (x.off y (List.mem_cons_of_mem _ hy)).2.1⟩
theorem k3 {M : List Addr} {h h' : Heap} (k : Kept M h h') (hM : ∀ y ∈ M, y ∈ [L, L + 1, L + 2]) : Kept [L, L + 1, L + 2] h h' := fun b o e n => k b o e fun q => n (hM b q)
theorem LawI.kept1 {mm m' : PySem.Str → Option Value} {s' : Shared} (x : LawI w base os₀ L sc so A σ xl dl ds la ls lc lp mm cu cr s) (k : Kept [L] s.heap s'.heap) (hn : s'.heap.Ns L m') (ho : s'.os = s.os) (hb : AllBare s.gens → AllBare s'.gens) : LawI w base os₀ L sc so A σ xl dl ds la ls lc lp m' cu cr s' :=
  have n1 : L + 1 ∉ [L] := fun q => by have q' : @Eq Nat (L + 1) L := List.mem_singleton.mp q; omega
  have n2 : L + 2 ∉ [L] := fun q => by have q' : @Eq Nat (L + 2) L := List.mem_singleton.mp q; omega
  x.kept (k3 k (by simp)) hn (let ⟨o, e, d⟩ := x.hcu; ⟨o, k _ _ e n1, d⟩) (let ⟨o, e, d⟩ := x.hcr; ⟨o, k _ _ e n2, d⟩) ho hb
theorem seg_of {A₁ : Around} {st : Stmt} {env : Env} (h : ∀ Z : Flow → Shared → Prop, (∀ s, P s → Z .next s) → wpAny (model pw_ae0023_01 w) A₁ (exec st env) Z E s) : wpAny (model pw_ae0023_01 w) A₁ (exec st env) (fun f s' => f = .next ∧ P s') E s := h _ fun _ hp => ⟨rfl, hp⟩
theorem frTab {h₀ h : Heap} {x : PySem.Str} {v : Value} {l : List (PySem.Str × Option Value)} (F : Fr h₀ L h (fun y => if y = x then some v else tabM l y)) (hc : (l.map (·.1)).contains x = true) : Fr h₀ L h (tabM (setM l x v)) := by
  rw [← fmap_tabM hc]; exact F
theorem seg0 {vs : List Value} {ns : List Int} {ks i ti : Nat} (X0 : (K w.params).In base) (T0 : TopRead q (looseW q loose) mg mb base) (hd : d + 60 < recursionLimit) (hu : u + 150 < cLine) (x : LawI w base os₀ L sc so A σ xl dl ds la ls lc lp (tabM (tL sc xl dl ds am lv (some (.int i ti)) v7 v8 v9 v10 v11 v12 v13 v14 v15)) cu cr s)
  (hso : so.o = listOf vs.toArray ks) (hz : ns.length ≤ 63) (hI : IntsAre vs ns)
  (h : ∀ s' j t, LawI w base os₀ L sc so A σ xl dl ds la ls lc lp (tabM (tL sc xl dl ds am lv (some (.int i ti)) (some (.int j t)) v8 v9 v10 v11 v12 v13 v14 v15)) cu cr s' → P s') :
  wpAny (model pw_ae0023_01 w) ((Ar d [] gs u).deeper (lawE L)) (exec (tS 0) (lawE L)) (fun f s' => f = .next ∧ P s') E s := by
  refine seg_of fun Z hZ => ?_
  walk_at "f"
  refine Ob12 (id x.hcu) fun ou eu du => ?_
  refine Ob12 (id x.hcr) fun or er dr => ?_
  refine Ob23 (x.gr X0 T0 [(L + 1, ou), (L + 2, or)] (allCons ⟨eu, x.mem (by simp)⟩ (allCons ⟨er, x.mem (by simp)⟩ allNil))) fun h₀ tl G F1 N1 => ?_
  have X' := G.C.X
  have T' := G.C.T
  dsimp only [List.cons_append, List.nil_append] at N1
  show wpAny _ _ (exec (Stmt.Assign [_] _ _) _) _ _ _
  walk_at "g11"
  rename Fr _ _ _ _ => F1
  rename News _ _ _ _ => N1
  refine law_number (vs := vs) (ns := ns) (k := ks) (x.cxx (xs := []) X0 T0 (fun _ q => nomatch q) ?c1 ?c2) (fun b o e => of_hideAll _ e) (roomD hd) (roomU hu) (by rw [← hso]; exact x.hso.1) hz hI (fun s2 j t p2 => ?_)
  case c1 => rfl
  case c2 => rfl
  replace F1 := F1.keeps p2.all
  replace N1 := N1.grown p2.all
  walk_at "g11"
  rename Fr _ _ _ _ => F1
  rename News _ _ _ _ => N1
  have KE := G.kept (M := []) F1 N1 (fun p hp => .inl (by revert p; walk_at "h")) (by walk_at "H")
  have F9 := frTab F1 rfl
  exact hZ _ (h _ _ _ (x.kept1 (s' := { s2 with heap := _, toks := _ }) KE F9.ns p2.os p2.bare))
theorem seg1 {j : Int} {t : Nat} (X0 : (K w.params).In base) (T0 : TopRead q (looseW q loose) mg mb base) (hd : d + 60 < recursionLimit) (hu : u + 150 < cLine) (x : LawI w base os₀ L sc so A σ xl dl ds la ls lc lp (tabM (tL sc xl dl ds am lv v6 (some (.int j t)) v8 v9 v10 v11 v12 v13 v14 v15)) cu cr s)
  (h : ∀ s' t', LawI w base os₀ L sc so A σ xl dl ds la ls lc lp (tabM (tL sc xl dl ds am lv v6 (some (.int j t)) (some (.int (j.fmod 12) t')) v9 v10 v11 v12 v13 v14 v15)) cu cr s' → P s') :
  wpAny (model pw_ae0023_01 w) ((Ar d [] gs u).deeper (lawE L)) (exec (tS 1) (lawE L)) (fun f s' => f = .next ∧ P s') E s := by
  refine seg_of fun Z hZ => ?_
  walk_at "f"
  refine Ob12 (id x.hcu) fun ou eu du => ?_
  refine Ob12 (id x.hcr) fun or er dr => ?_
  refine Ob23 (x.gr X0 T0 [(L + 1, ou), (L + 2, or)] (allCons ⟨eu, x.mem (by simp)⟩ (allCons ⟨er, x.mem (by simp)⟩ allNil))) fun h₀ tl G F1 N1 => ?_
  have X' := G.C.X
  have T' := G.C.T
  dsimp only [List.cons_append, List.nil_append] at N1
  show wpAny _ _ (exec (Stmt.Assign [_] _ _) _) _ _ _
  walk_at "g11"
  rename Fr _ _ _ _ => F1
  rename News _ _ _ _ => N1
  have KE := G.kept (M := []) F1 N1 (fun p hp => .inl (by revert p; walk_at "h")) (by walk_at "H")
  have F9 := frTab F1 rfl
  exact hZ _ (h _ _ (x.kept1 (s' := { s with heap := _, toks := _ }) KE F9.ns rfl id))
theorem seg2 {j : Int} {t : Nat} (X0 : (K w.params).In base) (T0 : TopRead q (looseW q loose) mg mb base) (hd : d + 60 < recursionLimit) (hu : u + 150 < cLine) (x : LawI w base os₀ L sc so A σ xl dl ds la ls lc lp (tabM (tL sc xl dl ds am lv v6 (some (.int j t)) v8 v9 v10 v11 v12 v13 v14 v15)) cu cr s)
  (h : ∀ s' t', LawI w base os₀ L sc so A σ xl dl ds la ls lc lp (tabM (tL sc xl dl ds am lv v6 (some (.int j t)) v8 (some (.int (j.fdiv 900) t')) v10 v11 v12 v13 v14 v15)) cu cr s' → P s') :
  wpAny (model pw_ae0023_01 w) ((Ar d [] gs u).deeper (lawE L)) (exec (tS 2) (lawE L)) (fun f s' => f = .next ∧ P s') E s := by
  refine seg_of fun Z hZ => ?_
  walk_at "f"
  refine Ob12 (id x.hcu) fun ou eu du => ?_
  refine Ob12 (id x.hcr) fun or er dr => ?_
  refine Ob23 (x.gr X0 T0 [(L + 1, ou), (L + 2, or)] (allCons ⟨eu, x.mem (by simp)⟩ (allCons ⟨er, x.mem (by simp)⟩ allNil))) fun h₀ tl G F1 N1 => ?_
  have X' := G.C.X
  have T' := G.C.T
  dsimp only [List.cons_append, List.nil_append] at N1
  show wpAny _ _ (exec (Stmt.Assign [_] _ _) _) _ _ _
  walk_at "g11"
  rename Fr _ _ _ _ => F1
  rename News _ _ _ _ => N1
  have KE := G.kept (M := []) F1 N1 (fun p hp => .inl (by revert p; walk_at "h")) (by walk_at "H")
  have F9 := frTab F1 rfl
  exact hZ _ (h _ _ (x.kept1 (s' := { s with heap := _, toks := _ }) KE F9.ns rfl id))
end
end
section
open SeqAt
theorem fmod_lt (x : Int) {n : Int} (h : 0 < n) : 0 ≤ x.fmod n ∧ x.fmod n < n := ⟨Int.fmod_nonneg_of_pos x h, Int.fmod_lt_of_pos x h⟩
theorem int_all {n : Nat} {P : Int → Prop} {i : Int} (h : 0 ≤ i ∧ i < (n : Int)) (d : ∀ k : Fin n, P ((k : Nat) : Int)) : P i := Int.toNat_of_nonneg h.1 ▸ d ⟨i.toNat, (Int.toNat_lt h.1).mpr h.2⟩
section
variable {w : World} {A : Around} {E : Value → Shared → Prop} {s : Shared} {Q : Value → Shared → Prop} {l : Addr} {k u : Nat} {i : Int}
theorem item_nm {value slice : Expr} {t0 t1 t2 t3 t4 : Nat} (hl : s.heap.get? l = some (listOf #[.str (nmS 0) t0, .str (nmS 1) t1, .str (nmS 2) t2, .str (nmS 3) t3, .str (nmS 4) t4] k)) (hi : 0 ≤ i ∧ i < 5) (h : ∀ (x : Fin 5) t, Q (.str (nmS x) t) s)
    (hs : subscripted slice false (.ref l) (.int i u) = operate [.ref l, .int i u] (getItem (.ref l) (.int i u)) := by with_unfolding_all rfl) :
    wpAny (model pw_ae0023_01 w) A (subscriptTail value slice (.ref l) (.int i u)) Q E s := by
  have hL : s.heap.IsList l #[.str (nmS 0) t0, .str (nmS 1) t1, .str (nmS 2) t2, .str (nmS 3) t3, .str (nmS 4) t4] := ⟨_, hl, rfl, _, rfl⟩
  have hc : i = 0 ∨ i = 1 ∨ i = 2 ∨ i = 3 ∨ i = 4 := int_all (n := 5) (P := fun i => i = 0 ∨ i = 1 ∨ i = 2 ∨ i = 3 ∨ i = 4) hi (by decide)
  rcases hc with rfl | rfl | rfl | rfl | rfl
  · exact item_listR hL (by decide) (by decide) rfl (h 0 _) hs
  · exact item_listR hL (by decide) (by decide) rfl (h 1 _) hs
  · exact item_listR hL (by decide) (by decide) rfl (h 2 _) hs
  · exact item_listR hL (by decide) (by decide) rfl (h 3 _) hs
  · exact item_listR hL (by decide) (by decide) rfl (h 4 _) hs
theorem item_dom {value slice : Expr} {t0 t1 t2 : Nat} (hl : s.heap.get? l = some (listOf #[.str (domS 0) t0, .str (domS 1) t1, .str (domS 2) t2] k)) (hi : 0 ≤ i ∧ i < 3) (h : ∀ (x : Fin 3) t, Q (.str (domS x) t) s)
    (hs : subscripted slice false (.ref l) (.int i u) = operate [.ref l, .int i u] (getItem (.ref l) (.int i u)) := by with_unfolding_all rfl) :
    wpAny (model pw_ae0023_01 w) A (subscriptTail value slice (.ref l) (.int i u)) Q E s := by
  have hL : s.heap.IsList l #[.str (domS 0) t0, .str (domS 1) t1, .str (domS 2) t2] := ⟨_, hl, rfl, _, rfl⟩
  have hc : i = 0 ∨ i = 1 ∨ i = 2 := int_all (n := 3) (P := fun i => i = 0 ∨ i = 1 ∨ i = 2) hi (by decide)
  rcases hc with rfl | rfl | rfl
  · exact item_listR hL (by decide) (by decide) rfl (h 0 _) hs
  · exact item_listR hL (by decide) (by decide) rfl (h 1 _) hs
  · exact item_listR hL (by decide) (by decide) rfl (h 2 _) hs
theorem item_row {value slice : Expr} (X : (K w.params).In s.heap) (hi : 0 ≤ i ∧ i < 7) (h : ∀ (x : Fin 7), Q (.ref (rowA x)) s)
    (hs : subscripted slice false (.ref 1078) (.int i u) = operate [.ref 1078, .int i u] (getItem (.ref 1078) (.int i u)) := by with_unfolding_all rfl) :
    wpAny (model pw_ae0023_01 w) A (subscriptTail value slice (.ref 1078) (.int i u)) Q E s := by
  have hK : (K w.params).lookup 1078 = some (listOf #[.ref 1071, .ref 1072, .ref 1073, .ref 1074, .ref 1075, .ref 1076, .ref 1077] 0) := rfl
  have hL : s.heap.IsList 1078 #[.ref 1071, .ref 1072, .ref 1073, .ref 1074, .ref 1075, .ref 1076, .ref 1077] := ⟨_, X _ _ hK, rfl, _, rfl⟩
  have hc : i = 0 ∨ i = 1 ∨ i = 2 ∨ i = 3 ∨ i = 4 ∨ i = 5 ∨ i = 6 := int_all (n := 7) (P := fun i => i = 0 ∨ i = 1 ∨ i = 2 ∨ i = 3 ∨ i = 4 ∨ i = 5 ∨ i = 6) hi (by decide)
  rcases hc with rfl | rfl | rfl | rfl | rfl | rfl | rfl
  · exact item_listR hL (by decide) (by decide) rfl (h 0) hs
  · exact item_listR hL (by decide) (by decide) rfl (h 1) hs
  · exact item_listR hL (by decide) (by decide) rfl (h 2) hs
  · exact item_listR hL (by decide) (by decide) rfl (h 3) hs
  · exact item_listR hL (by decide) (by decide) rfl (h 4) hs
  · exact item_listR hL (by decide) (by decide) rfl (h 5) hs
  · exact item_listR hL (by decide) (by decide) rfl (h 6) hs
end
end
section
open SeqAt
section
variable {w : World} {mg mb : PySem.Str → Option Value} {base : Heap} {os₀ : OsState} {d u : Nat} {gs : Option (List Code)} {E : Value → Shared → Prop} {s : Shared} {A : AD} {σ : SS} {L sc xl dl ds am : Addr} {so : SO} {la : Pr → Addr} {ls : List Pr} {lc : Fin 5 → Fin 5 → Fin 3 → Option (Fin 3)} {lp : Fin 5 → Fin 5 → Fin 3 → Option (Fin 7)}
  {lv : Value} {v6 v7 v8 v9 v10 v11 v12 v13 v14 v15 : Option Value} {cu cr : Option Value} {P : Shared → Prop}
theorem LawI.stU {mm : PySem.Str → Option Value} {v : Value} {Ar' : Around} {Q : Unit → Shared → Prop} (x : LawI w base os₀ L sc so A σ xl dl ds la ls lc lp mm cu cr s)
    (h : ∀ h', LawI w base os₀ L sc so A σ xl dl ds la ls lc lp mm (some v) cr { s with heap := h' } → Q () { s with heap := h' }) : wpAny (model pw_ae0023_01 w) Ar' (storeName (lawE L) "user" v) Q E s := by
  refine wpAny_storeName_cell (c := L + 1) rfl rfl rfl x.hcu (fun h' hc hs => h h' (x.kept (fun b o e n => ?_) (x.ns.sameBut hs fun q => ?_) hc ?_ rfl id))
  · exact (hs.2 b fun q => n (by rw [show b = L + 1 from q]; simp)).trans e
  · have q' : @Eq Nat L (L + 1) := q; omega
  · refine Ob12 (x.hcr) fun o e d => ?_
    exact ⟨o, (hs.2 _ fun q => by have q' : @Eq Nat (L + 2) (L + 1) := q; omega).trans e, d⟩
theorem LawI.stR {mm : PySem.Str → Option Value} {v : Value} {Ar' : Around} {Q : Unit → Shared → Prop} (x : LawI w base os₀ L sc so A σ xl dl ds la ls lc lp mm cu cr s)
    (h : ∀ h', LawI w base os₀ L sc so A σ xl dl ds la ls lc lp mm cu (some v) { s with heap := h' } → Q () { s with heap := h' }) : wpAny (model pw_ae0023_01 w) Ar' (storeName (lawE L) "role" v) Q E s := by
  refine wpAny_storeName_cell (c := L + 2) rfl rfl rfl x.hcr (fun h' hc hs => h h' (x.kept (fun b o e n => ?_) (x.ns.sameBut hs fun q => ?_) ?_ hc rfl id))
  · exact (hs.2 b fun q => n (by rw [show b = L + 2 from q]; simp)).trans e
  · have q' : @Eq Nat L (L + 2) := q; omega
  · refine Ob12 (x.hcu) fun o e d => ?_
    exact ⟨o, (hs.2 _ fun q => by have q' : @Eq Nat (L + 1) (L + 2) := q; omega).trans e, d⟩
theorem LawI.stL {l : List (PySem.Str × Option Value)} {y : PySem.Str} {v : Value} {Ar' : Around} {Q : Unit → Shared → Prop} (x : LawI w base os₀ L sc so A σ xl dl ds la ls lc lp (tabM l) cu cr s) (hy : (lawE L).kindOf y = some .local) (hc : (l.map (·.1)).contains y = true)
    (h : ∀ h', LawI w base os₀ L sc so A σ xl dl ds la ls lc lp (tabM (setM l y v)) cu cr { s with heap := h', toks := s.toks + 1 } → Q () { s with heap := h', toks := s.toks + 1 }) : wpAny (model pw_ae0023_01 w) Ar' (storeName (lawE L) y v) Q E s := by
  refine wpAny_storeName_local hy x.ns (fun h' hn hs => h h' (x.kept1 (s' := { s with heap := h', toks := s.toks + 1 }) (fun b o e n => (hs.2 b fun q => n (List.mem_singleton.mpr q)).trans e) ?_ rfl id)) rfl
  rw [← fmap_tabM hc]; exact hn
theorem seg3 {j pk : Int} {t t2 : Nat} (X0 : (K w.params).In base) (T0 : TopRead q (looseW q loose) mg mb base) (hd : d + 60 < recursionLimit) (hu : u + 150 < cLine) (x : LawI w base os₀ L sc so A σ xl dl ds la ls lc lp (tabM (tL sc xl dl ds am lv v6 (some (.int j t)) v8 (some (.int pk t2)) v10 v11 v12 v13 v14 v15)) cu cr s)
  (h : ∀ s' a b m ta tb tm, LawI w base os₀ L sc so A σ xl dl ds la ls lc lp (tabM (tL sc xl dl ds am lv v6 (some (.int j t)) v8 (some (.int pk t2)) (some (.str (domS m) tm)) v11 v12 v13 v14 v15)) (some (.str (nmS a) ta)) (some (.str (nmS b) tb)) s' → P s') :
  wpAny (model pw_ae0023_01 w) ((Ar d [] gs u).deeper (lawE L)) (exec (tS 3) (lawE L)) (fun f s' => f = .next ∧ P s') E s := by
  refine seg_of fun Z hZ => ?_
  walk_at "f"
  refine Ob12 (id x.hcu) fun ou eu du => ?_
  refine Ob12 (id x.hcr) fun or er dr => ?_
  refine Ob23 (x.gr X0 T0 [(L + 1, ou), (L + 2, or)] (allCons ⟨eu, x.mem (by simp)⟩ (allCons ⟨er, x.mem (by simp)⟩ allNil))) fun h₀ tl G F1 N1 => ?_
  have X' := G.C.X
  have T' := G.C.T
  dsimp only [List.cons_append, List.nil_append] at N1
  show wpAny _ _ (exec (Stmt.Assign [_] _ _) _) _ _ _
  walk_at "g11"
  rename Fr _ _ _ _ => F1
  rename News _ _ _ _ => N1
  refine law_names (x.cxx (xs := []) X0 T0 (fun _ q => nomatch q) ?c1 ?c2) (fun b o e => of_hideAll _ e) (roomD hd) (roomU hu) (fun s3 l3 k3 ta3 tb3 tc3 td3 te3 p3 f3 e3 => ?_)
  case c1 => rfl
  case c2 => rfl
  replace F1 := F1.keeps p3.all
  replace N1 := N1.grown p3.all
  walk_at "g11"
  refine item_nm e3 (fmod_lt _ (by decide)) (fun x3 t3 => ?_)
  walk_at "g11"
  have x3 := x.post ⟨p3.keep, p3.dom, p3.os, p3.bare⟩
  rename Fr _ _ _ _ => F1
  rename News _ _ _ _ => N1
  refine law_names (x3.cxx (xs := []) X0 T0 (fun _ q => nomatch q) ?c3 ?c4) (fun b o e => of_hideAll _ e) (roomD hd) (roomU hu) (fun s4 l4 k4 ta4 tb4 tc4 td4 te4 p4 f4 e4 => ?_)
  case c3 => rfl
  case c4 => rfl
  replace F1 := F1.keeps p4.all
  replace N1 := N1.grown p4.all
  walk_at "g11"
  refine item_nm e4 (fmod_lt _ (by decide)) (fun x4 t4 => ?_)
  walk_at "g11"
  have x4 := x3.post ⟨p4.keep, p4.dom, p4.os, p4.bare⟩
  rename Fr _ _ _ _ => F1
  rename News _ _ _ _ => N1
  refine item_dom (N1.get (.head _)) (fmod_lt _ (by decide)) (fun xm tm => ?_)
  clear e3 e4 f3 f4
  walk_at "g11"
  rename Fr _ _ _ _ => F1
  rename News _ _ _ _ => N1
  have KE := G.kept (M := []) F1 N1 (fun p hp => .inl (by revert p; walk_at "h")) (by walk_at "H")
  refine (x.kept1 (s' := { s4 with heap := _, toks := _ }) KE F1.ns (p4.os.trans p3.os) (fun z => p4.bare (p3.bare z))).stU (fun h5 x5 => ?_)
  refine assignInOrder_cons (wpAny_assign_Name (x5.stR fun h6 x6 => ?_))
  refine assignInOrder_cons (wpAny_assign_Name (x6.stL rfl rfl fun h7 x7 => ?_))
  exact assignInOrder_nil (hZ _ (h _ _ _ _ _ _ _ x7))
end
end
section
open SeqAt
section
variable {w : World} {mg mb : PySem.Str → Option Value} {base : Heap} {os₀ : OsState} {d u : Nat} {gs : Option (List Code)} {E : Value → Shared → Prop} {s : Shared} {A : AD} {σ : SS} {L sc xl dl ds am : Addr} {so : SO} {la : Pr → Addr} {ls : List Pr} {lc : Fin 5 → Fin 5 → Fin 3 → Option (Fin 3)} {lp : Fin 5 → Fin 5 → Fin 3 → Option (Fin 7)}
  {lv : Value} {v6 v7 v8 v9 v10 v11 v12 v13 v14 v15 : Option Value} {cu cr : Option Value} {P : Shared → Prop}
theorem seg6 {j pk : Int} {t t2 : Nat} (X0 : (K w.params).In base) (T0 : TopRead q (looseW q loose) mg mb base) (hd : d + 60 < recursionLimit) (hu : u + 150 < cLine) (x : LawI w base os₀ L sc so A σ xl dl ds la ls lc lp (tabM (tL sc xl dl ds am lv v6 (some (.int j t)) v8 (some (.int pk t2)) v10 v11 v12 v13 v14 v15)) cu cr s)
  (h : ∀ s' a b m ta tb tm, LawI w base os₀ L sc so A σ xl dl ds la ls lc lp (tabM (tL sc xl dl ds am lv v6 (some (.int j t)) v8 (some (.int pk t2)) v10 v11 v12 (some (.str (nmS a) ta)) (some (.str (nmS b) tb)) (some (.str (domS m) tm)))) cu cr s' → P s') :
  wpAny (model pw_ae0023_01 w) ((Ar d [] gs u).deeper (lawE L)) (exec (tS 6) (lawE L)) (fun f s' => f = .next ∧ P s') E s := by
  refine seg_of fun Z hZ => ?_
  walk_at "f"
  refine Ob12 (id x.hcu) fun ou eu du => ?_
  refine Ob12 (id x.hcr) fun or er dr => ?_
  refine Ob23 (x.gr X0 T0 [(L + 1, ou), (L + 2, or)] (allCons ⟨eu, x.mem (by simp)⟩ (allCons ⟨er, x.mem (by simp)⟩ allNil))) fun h₀ tl G F1 N1 => ?_
  have X' := G.C.X
  have T' := G.C.T
  dsimp only [List.cons_append, List.nil_append] at N1
  show wpAny _ _ (exec (Stmt.Assign [_] _ _) _) _ _ _
  walk_at "g11"
  rename Fr _ _ _ _ => F1
  rename News _ _ _ _ => N1
  refine law_names (x.cxx (xs := []) X0 T0 (fun _ q => nomatch q) ?c1 ?c2) (fun b o e => of_hideAll _ e) (roomD hd) (roomU hu) (fun s3 l3 k3 ta3 tb3 tc3 td3 te3 p3 f3 e3 => ?_)
  case c1 => rfl
  case c2 => rfl
  replace F1 := F1.keeps p3.all
  replace N1 := N1.grown p3.all
  walk_at "g11"
  refine item_nm e3 (fmod_lt _ (by decide)) (fun x3 t3 => ?_)
  walk_at "g11"
  have x3 := x.post ⟨p3.keep, p3.dom, p3.os, p3.bare⟩
  rename Fr _ _ _ _ => F1
  rename News _ _ _ _ => N1
  refine law_names (x3.cxx (xs := []) X0 T0 (fun _ q => nomatch q) ?c3 ?c4) (fun b o e => of_hideAll _ e) (roomD hd) (roomU hu) (fun s4 l4 k4 ta4 tb4 tc4 td4 te4 p4 f4 e4 => ?_)
  case c3 => rfl
  case c4 => rfl
  replace F1 := F1.keeps p4.all
  replace N1 := N1.grown p4.all
  walk_at "g11"
  refine item_nm e4 (fmod_lt _ (by decide)) (fun x4 t4 => ?_)
  walk_at "g11"
  rename Fr _ _ _ _ => F1
  rename News _ _ _ _ => N1
  refine item_dom (N1.get (.head _)) (fmod_lt _ (by decide)) (fun xm tm => ?_)
  clear e3 e4 f3 f4
  repeat ((fail_if_success (with_reducible show wpAny _ _ (storeName _ _ _) _ _ _)); first | walk1 | (dsimp only; walk1))
  rename Fr _ _ _ _ => F1
  rename News _ _ _ _ => N1
  have KE := G.kept (M := []) F1 N1 (fun p hp => .inl (by revert p; walk_at "h")) (by walk_at "H")
  refine (x.kept1 (s' := { s4 with heap := _, toks := _ }) KE F1.ns (p4.os.trans p3.os) (fun z => p4.bare (p3.bare z))).stL (y := PySem.Str.ofString "where") rfl rfl (fun h5 x5 => ?_)
  refine assignInOrder_cons (bindName_ (x5.stL (y := PySem.Str.ofString "other") rfl rfl fun h6 x6 => ?_))
  refine assignInOrder_cons (bindName_ (x6.stL (y := PySem.Str.ofString "name") rfl rfl fun h7 x7 => ?_))
  exact assignInOrder_nil (hZ _ (h _ _ _ _ _ _ _ x7))
end
end
section
open SeqAt
section
variable {w : World} {mg mb : PySem.Str → Option Value} {base : Heap} {os₀ : OsState} {d u : Nat} {gs : Option (List Code)} {E : Value → Shared → Prop} {s : Shared} {A : AD} {σ : SS} {L sc xl dl ds am : Addr} {so : SO} {la : Pr → Addr} {ls : List Pr} {lc : Fin 5 → Fin 5 → Fin 3 → Option (Fin 3)} {lp : Fin 5 → Fin 5 → Fin 3 → Option (Fin 7)}
  {lv : Value} {v6 v7 v8 v9 v10 v11 v12 v13 v14 v15 : Option Value} {cu cr : Option Value} {P : Shared → Prop}
theorem tups_of {h : Heap} : ∀ {l : List Pr}, (∀ p ∈ l, IsTupleKey (sk w) h (prS p) (la p)) → TupsAt w h (l.map fun p => Value.ref (la p)) l
  | [], _ => .nil
  | p :: l, hk => .cons ⟨_, rfl, hk p List.mem_cons_self⟩ (tups_of fun p hp => hk p (List.mem_cons_of_mem _ hp))
theorem rdAll_add {n a : Fin 5} {m : Fin 3} : ∀ k, rdAll (σ.add n) m a k = rdAll σ m a k
  | 0 => rfl
  | k + 1 => by show rdRound (σ.add n) m (rdAll (σ.add n) m a k) = rdRound σ m (rdAll σ m a k); rw [rdAll_add k]; rfl
theorem seg7 {a b : Fin 5} {m : Fin 3} {ta tb tm tl : Nat} (X0 : (K w.params).In base) (T0 : TopRead q (looseW q loose) mg mb base) (hd : d + 80 < recursionLimit) (hu : u + 200 < cLine) (elv : lv = .int σ.lv tl) (hlv : σ.lv ≤ 5) (hio : ∀ a b, b ∈ σ.out a ↔ (a, b) ∈ σ.ls) (em : A.m = am) (x : LawI w base os₀ L sc so A σ xl dl ds la σ.ls σ.cond σ.prm (tabM (tL sc xl dl ds am lv v6 v7 v8 v9 v10 v11 v12 (some (.str (nmS a) ta)) (some (.str (nmS b) tb)) (some (.str (domS m) tm)))) cu cr s)
  (h : ∀ s' A' σ', (σ' = σ ∨ σ' = (σ.add a).add b) → A'.m = A.m → LawI w base os₀ L sc so A' σ' xl dl ds la σ'.ls σ'.cond σ'.prm (tabM (tL sc xl dl ds am lv v6 v7 v8 v9 v10 v11 v12 (some (.str (nmS a) ta)) (some (.str (nmS b) tb)) (some (.str (domS m) tm)))) cu cr s' → P s') :
  wpAny (model pw_ae0023_01 w) ((Ar d [] gs u).deeper (lawE L)) (exec (tS 7) (lawE L)) (fun f s' => f = .next ∧ P s') E s := by
  subst elv
  refine seg_of fun Z hZ => ?_
  walk_at "f"
  refine Ob12 (id x.hcu) fun ou eu du => ?_
  refine Ob12 (id x.hcr) fun or er dr => ?_
  refine Ob23 (x.gr X0 T0 [(L + 1, ou), (L + 2, or)] (allCons ⟨eu, x.mem (by simp)⟩ (allCons ⟨er, x.mem (by simp)⟩ allNil))) fun h₀ tl G F1 N1 => ?_
  have X' := G.C.X
  have T' := G.C.T
  dsimp only [List.cons_append, List.nil_append] at N1
  show wpAny _ _ (exec (Stmt.If _ _ _ _) _) _ _ _
  walk_at "g12"
  refine law_asked (x.cx X0 T0 ?c1 ?c2) ⟨fun b o e => of_hideAll _ e, fun y hy => hideAll_none _ hy, x.R⟩ (roomD hd) (roomU hu) hlv em (fun A2 σ2 s2 hσ R2 p2 => ?_)
  case c1 => rfl
  case c2 => rfl
  have x2' := x.step (frs := []) R2 (Step.toF (frs := []) (s := s) ⟨⟨p2.post.keep, p2.post.dom, p2.post.os, p2.post.bare⟩, p2.em, p2.ra, p2.ns, p2.fresh⟩ (fun _ q => nomatch q) (fun _ q => nomatch q)) (.inl rfl)
  have e1 : σ2.ls = σ.ls := by rcases hσ with rfl | rfl <;> rfl
  have e2 : σ2.cond = σ.cond := by rcases hσ with rfl | rfl <;> rfl
  have e3 : σ2.prm = σ.prm := by rcases hσ with rfl | rfl <;> rfl
  have e4 : σ2.lv = σ.lv := by rcases hσ with rfl | rfl <;> rfl
  have e5 : rdAll σ2 m a σ2.lv = rdAll σ m a σ.lv := by rcases hσ with rfl | rfl; rfl; exact (rdAll_add _).trans (rdAll_add _)
  have x2 := x2'
  rw [← e1, ← e2, ← e3] at x2
  clear F1 N1 G X' T' x x2'
  refine Ob12 (id x2.hcu) fun ou eu du => ?_
  refine Ob12 (id x2.hcr) fun or er dr => ?_
  refine Ob23 (x2.gr X0 T0 [(L + 1, ou), (L + 2, or)] (allCons ⟨eu, x2.mem (by simp)⟩ (allCons ⟨er, x2.mem (by simp)⟩ allNil))) fun h₀ tl G F1 N1 => ?_
  have X' := G.C.X
  have T' := G.C.T
  dsimp only [List.cons_append, List.nil_append] at N1
  walk_at "g12"
  refine Ob11 (id x2.hxl) fun kx ex => ?_
  rw [show (Value.int (σ.lv : Int) _) = Value.int (σ2.lv : Int) _ from by rw [e4]]
  refine law_reached (σ := σ2) (x2.cxx (xs := []) X0 T0 (fun _ q => nomatch q) ?c3 ?c4) (fun b o e => of_hideAll _ e) (roomD hd) (roomU hu) ex (by rw [show (prL la σ2.ls).size = σ2.ls.length from by simp [prL]]; exact len_pr x2.ln) (tups_of x2.hla) x2.hdl x2.hds (ne_sys x2.lo.1) (ne_sys x2.lo.2) (by rw [e4]; exact hlv) (fun s3 p3 => ?_)
  case c3 => rfl
  case c4 => rfl
  rw [e5, law_plain hio]
  replace F1 := F1.keeps p3.all
  replace N1 := N1.grown p3.all
  have x3 := x2.post p3
  clear x2
  generalize decide (b ∈ rdAll σ m a σ.lv) = bb
  cases bb
  · walk_at "g12"
    rename Fr _ _ _ _ => F1
    exact hZ _ (h _ _ _ hσ p2.em x3.tk)
  · walk_at "g12"
    rename Fr _ _ _ _ => F1
    exact hZ _ (h _ _ _ hσ p2.em x3.tk)
end
end
section
open SeqAt
open MeetsSeq MeetsSeq2 MeetsSeq3 SeqRoads2
section
variable {w : World} {A : Around} {E : Value → Shared → Prop} {s : Shared} {Q : Value → Shared → Prop} {l b : Addr} {items items2 : Array Value} {k k' : Nat}
theorem ne_empty (hl : s.heap.get? l = some (listOf items k)) (hb : s.heap.get? b = some (listOf #[] k')) (hu : A.units < cLine) (h : Q (.bool (decide (items.size ≠ 0))) s) : wpAny (model pw_ae0023_01 w) A (compareOp .NotEq (.ref l) (.ref b)) Q E s := by
  show wpAny _ _ (richCompare .NotEq _ _) _ _ _
  by_cases q : items.size = 0
  · have z := RcNeAt.lists (e := fun _ => true) ⟨_, hl, rfl, _, rfl⟩ ⟨_, hb, rfl, _, rfl⟩ (by rw [q]; rfl) hu (fun j h1 h2 => absurd h2 (Nat.not_lt_zero _))
    rw [decide_eq_false (by simp [q])] at h
    refine z pw_ae0023_01 w _ _ ?_
    rw [q]; exact h
  · have z := RcNeAt.lists_lengths (A := A) (s := s) ⟨_, hl, rfl, _, rfl⟩ ⟨_, hb, rfl, _, rfl⟩ (by simpa using q) hu
    rw [decide_eq_true q] at h
    exact z pw_ae0023_01 w _ _ h
theorem str_same (x : PySem.Str) (t u : Nat) : EqAt A s (.str x t) (.str x u) true := by
  have e := (EqGives.str x x t u).at A s
  rw [beq_self_eq_true] at e; exact e
theorem ne_words {ks : List PySem.Str} (hl : s.heap.get? l = some (listOf items k)) (hb : s.heap.get? b = some (listOf items2 k')) (i1 : ItemsAre (strKind pw_ae0023_01 w) ks items.toList) (i2 : ItemsAre (strKind pw_ae0023_01 w) ks items2.toList) (hu : A.units < cLine) (h : Q (.bool false) s) :
    wpAny (model pw_ae0023_01 w) A (compareOp .NotEq (.ref l) (.ref b)) Q E s := by
  show wpAny _ _ (richCompare .NotEq _ _) _ _ _
  have l1 : items.size = ks.length := by rw [← Array.length_toList, ← i1.length]
  have l2 : items2.size = ks.length := by rw [← Array.length_toList, ← i2.length]
  have key : ∀ {ks : List PySem.Str} {vs : List Value}, ItemsAre (strKind pw_ae0023_01 w) ks vs → ∀ (j : Nat) (hj : j < vs.length), ∃ x t, ks[j]? = some x ∧ vs[j] = .str x t := by
    intro ks vs h
    induction h with
    | nil => intro j hj; exact absurd hj (Nat.not_lt_zero _)
    | @cons k v ks vs hk _ ih =>
      intro j hj
      cases j with
      | zero => obtain ⟨t, rfl⟩ := Value.isStrOf_shape hk; exact ⟨k, t, rfl, rfl⟩
      | succ j => exact ih j (Nat.lt_of_succ_lt_succ hj)
  have z := RcNeAt.lists (A := A) (s := s) (e := fun _ => true) ⟨_, hl, rfl, _, rfl⟩ ⟨_, hb, rfl, _, rfl⟩ (l1.trans l2.symm) hu (fun j h1 h2 => by
    obtain ⟨x, t, e1, e2⟩ := key i1 j (by rw [Array.length_toList]; exact h1)
    obtain ⟨x', t', e1', e2'⟩ := key i2 j (by rw [Array.length_toList]; exact h2)
    rw [Array.getElem_toList] at e2 e2'
    rw [e1] at e1'; cases e1'
    rw [e2, e2']
    exact str_same x t t')
  refine z pw_ae0023_01 w _ _ ?_
  rw [show (List.range items.size).all (fun _ => true) = true from by simp]
  exact h
theorem neKeys {ks ks' : List PySem.Str} {a b : Addr} (hab : a ≠ b) (h1 : IsTupleKey (sk w) s.heap ks a) (h2 : IsTupleKey (sk w) s.heap ks' b) (hu : A.units < cLine) (h : Q (.bool (!decide (ks = ks'))) s) : wpAny (model pw_ae0023_01 w) A (compareOp .NotEq (.ref a) (.ref b)) Q E s := by
  show wpAny _ _ (richCompare .NotEq _ _) _ _ _
  obtain ⟨o, its, n, ho, hc, hd, hi⟩ := h1
  obtain ⟨o', its', n', ho', hc', hd', hi'⟩ := h2
  have key : ∀ {ks : List PySem.Str} {vs : List Value}, ItemsAre (strKind pw_ae0023_01 w) ks vs → ∀ (j : Nat) (hj : j < vs.length), ∃ x t, ks[j]? = some x ∧ vs[j] = .str x t := by
    intro ks vs h
    induction h with
    | nil => intro j hj; exact absurd hj (Nat.not_lt_zero _)
    | @cons k v ks vs hk _ ih =>
      intro j hj
      cases j with
      | zero => obtain ⟨t, rfl⟩ := Value.isStrOf_shape hk; exact ⟨k, t, rfl, rfl⟩
      | succ j => exact ih j (Nat.lt_of_succ_lt_succ hj)
  have l1 : ks.length = its.size := hi.length.trans Array.length_toList
  have l2 : ks'.length = its'.size := hi'.length.trans Array.length_toList
  have z := RcNeAt.tuples (A := A) (s := s) (e := fun j => decide (ks[j]? = ks'[j]?)) ⟨o, ho, hc, n, hd⟩ ⟨o', ho', hc', n', hd'⟩ hu fun j h1 h2 => by
    obtain ⟨x, t, e1, e2⟩ := key hi j (by rw [Array.length_toList]; exact h1)
    obtain ⟨x', t', e1', e2'⟩ := key hi' j (by rw [Array.length_toList]; exact h2)
    rw [Array.getElem_toList] at e2 e2'
    rw [e2, e2', e1, e1']
    have y := (EqGives.str x x' t t').at A.in1 s
    have hb : (x.cps.toList == x'.cps.toList) = decide (some x = some x') := by
      by_cases q : x = x'
      · subst q; simp
      · rw [decide_eq_false fun e => q (Option.some.inj e)]
        refine beq_eq_false_iff_ne.mpr fun hl => q ?_
        cases x; cases x'
        simp only [Str.mk.injEq]
        exact Array.toList_inj.mp hl
    rw [hb] at y
    exact y
  have hv : ((List.range (min its.size its'.size)).all (fun j => decide (ks[j]? = ks'[j]?)) && its.size == its'.size) = decide (ks = ks') := by
    rw [← l1, ← l2]
    by_cases q : ks = ks'
    · subst q; simp
    · rw [decide_eq_false q]
      by_cases hlen : ks.length = ks'.length
      · rw [hlen, Nat.min_self, beq_self_eq_true, Bool.and_true]
        rw [Bool.eq_false_iff]
        intro hall
        apply q
        refine List.ext_getElem? fun j => ?_
        by_cases hj : j < ks'.length
        · exact of_decide_eq_true (List.all_eq_true.mp hall j (List.mem_range.mpr hj))
        · rw [List.getElem?_eq_none (by omega), List.getElem?_eq_none (by omega)]
      · rw [beq_eq_false_iff_ne.mpr hlen, Bool.and_false]
  rw [hv] at z
  exact z pw_ae0023_01 w _ _ h
end
end
section
open SeqAt
section
variable {w : World} {base : Heap} {os₀ : OsState} {L sc xl dl ds xl' : Addr} {so : SO} {A : AD} {σ : SS} {la la' : Pr → Addr} {ls ls' : List Pr} {lc lc' : Fin 5 → Fin 5 → Fin 3 → Option (Fin 3)} {lp lp' : Fin 5 → Fin 5 → Fin 3 → Option (Fin 7)}
  {mm mm' : PySem.Str → Option Value} {cu cr : Option Value} {s s' : Shared}
theorem LawI.turned {y : Addr} (x : LawI w base os₀ L sc so A σ xl dl ds la ls lc lp mm cu cr s) (hy : y ∈ [xl, dl, ds]) (k : Kept [y] s.heap s'.heap) (nt : NoTup [y] s.heap)
    (exl : ∃ kk, s'.heap.get? xl = some (listOf (prL la' ls') kk)) (ela : ∀ p ∈ ls', IsTupleKey (sk w) s'.heap (prS p) (la' p)) (eln : ls'.Nodup) (edl : LaidAt w s'.heap dl lc') (eds : SaidAt w s'.heap ds lp') (ho : s'.os = s.os) (hb : AllBare s.gens → AllBare s'.gens) :
    LawI w base os₀ L sc so A σ xl dl ds la' ls' lc' lp' mm cu cr s' := by
  have t1 := List.nodup_cons.mp x.nd
  have t2 := List.nodup_cons.mp t1.2
  have t3 := List.nodup_cons.mp t2.2
  have t4 := List.nodup_cons.mp t3.2
  have my : y ∈ [L, L + 1, L + 2, xl, dl, ds] := .tail _ (.tail _ (.tail _ hy))
  have mys : y ∈ [L, L + 1, L + 2, sc, xl, dl, ds] := .tail _ (.tail _ (.tail _ (.tail _ hy)))
  have n1 : L ∉ [y] := fun q => t1.1 (.tail _ (.tail _ (.tail _ ((List.mem_singleton.mp q).symm ▸ hy))))
  have n2 : L + 1 ∉ [y] := fun q => t2.1 (.tail _ (.tail _ ((List.mem_singleton.mp q).symm ▸ hy)))
  have n3 : L + 2 ∉ [y] := fun q => t3.1 (.tail _ ((List.mem_singleton.mp q).symm ▸ hy))
  have n4 : sc ∉ [y] := fun q => t4.1 ((List.mem_singleton.mp q).symm ▸ hy)
  have off := x.off y my
  exact { ns := let ⟨o, es, ep, e, r⟩ := x.ns; ⟨o, es, ep, k _ _ e n1, r⟩, bs := fun b o e => k b o (x.bs b o e) fun q => (by rw [List.mem_singleton.mp q, off.2.1] at e; cases e),
          R := x.R.kept k nt (fun z hz q => off.1 (List.mem_singleton.mp q ▸ hz)) (fun q => off.2.2.1 (List.mem_singleton.mp q).symm) (fun q => off.2.2.2 (List.mem_singleton.mp q).symm),
          hso := ⟨k _ _ x.hso.1 n4, x.hso.2⟩, hx := fun p hp => k _ _ (x.hx p hp) fun q => (x.hf p hp).1 (List.mem_singleton.mp q ▸ mys), hf := x.hf, hxl := exl, hla := ela, ln := eln, hdl := edl, hds := eds, hcu := (let ⟨o, e, d⟩ := x.hcu; ⟨o, k _ _ e n2, d⟩), hcr := (let ⟨o, e, d⟩ := x.hcr; ⟨o, k _ _ e n3, d⟩),
          osc := x.osc, off := x.off, bh := x.bh, nd := x.nd, bl := x.bl, lo := x.lo, os := ho.trans x.os, ge := hb x.ge }
theorem LawI.ntx (x : LawI w base os₀ L sc so A σ xl dl ds la ls lc lp mm cu cr s) {y : Addr} (hy : y ∈ [xl, dl, ds]) : NoTup [y] s.heap := by
  simp only [List.mem_cons, List.not_mem_nil, or_false] at hy
  rcases hy with rfl | rfl | rfl
  · obtain ⟨k, e⟩ := x.hxl; exact noTup1 e (ne_tup (by decide))
  · obtain ⟨_, ⟨o, es, ep, e, hc, hd, _⟩, _⟩ := x.hdl
    exact fun b o' vs n e' hc' hd' q => by rw [List.mem_singleton.mp q, e] at e'; cases e'; rw [hd] at hd'; cases hd'
  · obtain ⟨_, ⟨o, es, ep, e, hc, hd, _⟩, _⟩ := x.hds
    exact fun b o' vs n e' hc' hd' q => by rw [List.mem_singleton.mp q, e] at e'; cases e'; rw [hd] at hd'; cases hd'
theorem LawI.append {T : Addr} {p : Pr} (x : LawI w base os₀ L sc so A σ xl dl ds la ls lc lp mm cu cr s) (hn : p ∉ ls) (k : Kept [xl] s.heap s'.heap) (hT : IsTupleKey (sk w) s'.heap (prS p) T) (e : ∃ kk, s'.heap.get? xl = some (listOf ((prL la ls).push (.ref T)) kk)) (ho : s'.os = s.os) (hb : AllBare s.gens → AllBare s'.gens) :
    LawI w base os₀ L sc so A σ xl dl ds (fun y => if y = p then T else la y) (ls ++ [p]) lc lp mm cu cr s' := by
  have nd := x.nd
  simp only [List.nodup_cons, List.mem_cons, List.not_mem_nil, or_false, not_or] at nd
  have nt := x.ntx (y := xl) (by simp)
  refine x.turned (y := xl) (by simp) k nt ?_ (fun q hq => ?_) ?_ (x.hdl.kept k nt fun q => nd.2.2.2.2.1.1 (List.mem_singleton.mp q).symm) (x.hds.kept k nt fun q => nd.2.2.2.2.1.2 (List.mem_singleton.mp q).symm) ho hb
  · obtain ⟨kk, e⟩ := e
    refine ⟨kk, ?_⟩
    rw [e, prL_snoc hn]
  · by_cases z : q = p
    · rw [if_pos z, z]; exact hT
    · rw [if_neg z]
      rcases List.mem_append.mp hq with h | h
      · exact k.tup nt (x.hla q h)
      · exact absurd (List.mem_singleton.mp h) z
  · rw [List.nodup_append]
    exact ⟨x.ln, by simp, fun z hz y hy q => hn (by rw [List.mem_singleton] at hy; subst hy; subst q; exact hz)⟩
end
end
section
open SeqAt
structure InvS (σ : SS) : Prop where
  io : ∀ a b, b ∈ σ.out a ↔ (a, b) ∈ σ.ls
  nn : ∀ p ∈ σ.ls, p.1 ∈ σ.ns ∧ p.2 ∈ σ.ns
  lv : σ.lv ≤ 5
section
variable {σ : SS} {a b n : Fin 5}
theorem mem_ns_add {x : Fin 5} (h : x ∈ σ.ns) : x ∈ (σ.add n).ns := by
  unfold SS.add
  show x ∈ (if n ∈ σ.ns then σ.ns else σ.ns ++ [n])
  split
  · exact h
  · exact List.mem_append_left _ h
theorem InvS.add (I : InvS σ) : InvS (σ.add n) := ⟨I.io, fun p hp => ⟨mem_ns_add (I.nn p hp).1, mem_ns_add (I.nn p hp).2⟩, I.lv⟩
theorem InvS.setC {m : Fin 3} {f : Fin 3} (I : InvS σ) : InvS (σ.setC a b m f) := ⟨I.io, I.nn, I.lv⟩
theorem InvS.setP {m : Fin 3} {r : Fin 7} (I : InvS σ) : InvS (σ.setP a b m r) := ⟨I.io, I.nn, I.lv⟩
theorem InvS.addL (I : InvS σ) : InvS (addL σ a b) where
  io := fun x y => by
    show y ∈ (if x = a then _ else σ.out x) ↔ (x, y) ∈ σ.ls ++ [(a, b)]
    by_cases q : x = a
    · subst q
      rw [if_pos rfl, List.mem_append, List.mem_filter, List.mem_append, List.mem_singleton, List.mem_singleton, I.io]
      constructor
      · rintro (⟨h, _⟩ | h)
        · exact .inl h
        · exact .inr (by rw [h])
      · rintro (h | h)
        · by_cases z : y = b
          · exact .inr z
          · exact .inl ⟨h, decide_eq_true z⟩
        · exact .inr (Prod.mk.inj h).2
    · rw [if_neg q, List.mem_append, List.mem_singleton, I.io]
      exact ⟨.inl, fun h => h.elim id fun e => absurd (Prod.mk.inj e).1 q⟩
  nn := fun p hp => by
    show p.1 ∈ (((σ.setLs (σ.ls ++ [(a, b)])).add a).add b).ns ∧ p.2 ∈ (((σ.setLs (σ.ls ++ [(a, b)])).add a).add b).ns
    rcases List.mem_append.mp (show p ∈ σ.ls ++ [(a, b)] from hp) with h | h
    · exact ⟨mem_ns_add (mem_ns_add (I.nn p h).1), mem_ns_add (mem_ns_add (I.nn p h).2)⟩
    · rw [List.mem_singleton.mp h]
      exact ⟨mem_ns_add mem_add, mem_add⟩
  lv := I.lv
theorem InvS.delL (I : InvS σ) : InvS (delL σ a b) := by
  unfold Mine.delL
  split
  · rename_i hm
    refine ⟨fun x y => ?_, fun p hp => ?_, I.lv⟩
    · show y ∈ (if x = a then _ else σ.out x) ↔ (x, y) ∈ σ.ls.filter fun x => decide (x ≠ (a, b))
      by_cases q : x = a
      · subst q
        rw [if_pos rfl, List.mem_filter, List.mem_filter, I.io]
        refine and_congr_right fun _ => ?_
        simp
      · rw [if_neg q, List.mem_filter, I.io]
        exact ⟨fun h => ⟨h, decide_eq_true fun e => q (Prod.mk.inj e).1⟩, fun h => h.1⟩
    · have h := (List.mem_filter.mp (show p ∈ σ.ls.filter fun x => decide (x ≠ (a, b)) from hp)).1
      exact ⟨mem_ns_add (mem_ns_add (I.nn p h).1), mem_ns_add (mem_ns_add (I.nn p h).2)⟩
  · exact I
theorem InvS.new {n : Nat} (h : n ≤ 5) : InvS ⟨n, [], [], fun _ => [], fun _ _ _ => none, fun _ _ _ => none⟩ := ⟨fun a b => by simp, (fun p hp => nomatch hp), h⟩
end
end
section
open SeqAt
section
variable {w : World} {mg mb : PySem.Str → Option Value} {base : Heap} {os₀ : OsState} {d u : Nat} {gs : Option (List Code)} {E : Value → Shared → Prop} {s : Shared} {A : AD} {σ : SS} {L sc xl dl ds am : Addr} {so : SO} {la : Pr → Addr} {ls : List Pr} {lc : Fin 5 → Fin 5 → Fin 3 → Option (Fin 3)} {lp : Fin 5 → Fin 5 → Fin 3 → Option (Fin 7)}
  {lv : Value} {v6 v7 v8 v9 v10 v11 v12 v13 v14 v15 : Option Value} {cu cr : Option Value} {P : Shared → Prop}
theorem seg5a {kd pk : Int} {t t2 ta tb tm : Nat} {a b : Fin 5} {m : Fin 3} (X0 : (K w.params).In base) (T0 : TopRead q (looseW q loose) mg mb base) (hd : d + 120 < recursionLimit) (hu : u + 300 < cLine) (I : InvS σ) (em : A.m = am) (hk : kd < 5) (x : LawI w base os₀ L sc so A σ xl dl ds la σ.ls σ.cond σ.prm (tabM (tL sc xl dl ds am lv v6 v7 (some (.int kd t)) (some (.int pk t2)) (some (.str (domS m) tm)) v11 v12 v13 v14 v15)) (some (.str (nmS a) ta)) (some (.str (nmS b) tb)) s)
  (h : ∀ s' A' σ' xl' la' c11 c12, InvS σ' → σ'.lv = σ.lv → A'.m = A.m → LawI w base os₀ L sc so A' σ' xl' dl ds la' σ'.ls σ'.cond σ'.prm (tabM (tL sc xl' dl ds am lv v6 v7 (some (.int kd t)) (some (.int pk t2)) (some (.str (domS m) tm)) c11 c12 v13 v14 v15)) (some (.str (nmS a) ta)) (some (.str (nmS b) tb)) s' → P s') :
  wpAny (model pw_ae0023_01 w) ((Ar d [] gs u).deeper (lawE L)) (exec (tS 5) (lawE L)) (fun f s' => f = .next ∧ P s') E s := by
  refine seg_of fun Z hZ => ?_
  subst em
  walk_at "f"
  refine Ob12 (id x.hcu) fun ou eu du => ?_
  refine Ob12 (id x.hcr) fun or er dr => ?_
  refine Ob11 (x.R.mdO) fun m1T md => ?_
  have mH : ∀ y ∈ A.hid σ.ns, y ≠ L ∧ base.get? y = none := fun y hy => ⟨fun q => (x.off L List.mem_cons_self).1 (q ▸ hy), x.bh y hy⟩
  refine Ob23 (x.gr X0 T0 [(A.m, instObj 1061 A.dm), (A.dm, mgrO w A σ m1T), (L + 1, ou), (L + 2, or)] (allCons ⟨x.R.mi, mH _ (hid_foot foot_m)⟩ (allCons ⟨md, mH _ (hid_foot foot_dm)⟩ (allCons ⟨eu, x.mem (by simp)⟩ (allCons ⟨er, x.mem (by simp)⟩ allNil))))) fun h₀ tl G F1 N1 => ?_
  have X' := G.C.X
  have T' := G.C.T
  dsimp only [List.cons_append, List.nil_append] at N1
  show wpAny _ _ (exec (Stmt.If _ _ _ _) _) _ _ _
  walk_at "g11"
  rename Fr _ _ _ _ => F1
  rename News _ _ _ _ => N1
  rename_i D hB lD
  have gT := N1.get (.head _)
  have KE := G.kept (M := []) F1 N1 (fun p hp => .inl (by revert p; walk_at "h")) (by walk_at "H")
  have xB := x.kept1 (s' := { s with heap := hB }) KE F1.ns rfl id
  refine Ob11 (id xB.hxl) fun kx ex => ?_
  refine notIn_listAt (eP la σ.ls (a, b)) ⟨_, ex, rfl, _, rfl⟩ (eP_at (w := w) xB.hla (tup2 gT) (roomU hu)) ?_
  rw [any_eP]
  clear KE gT
  by_cases hm : (a, b) ∈ σ.ls
  · rw [decide_eq_true hm, Bool.not_true]
    walk_at "g11"
    exact hZ _ (h _ _ _ _ _ _ _ I rfl rfl xB.tk)
  · rw [decide_eq_false hm, Bool.not_false]
    walk_at "g11"
    refine crm_add_link (xB.cx X0 T0 ?c1 ?c2) ⟨fun b o e => of_hideAll _ e, fun y hy => hideAll_none _ hy, xB.R⟩ (roomD hd) (roomU hu) rfl hm (fun A2 s2 R2 p2 => ?_)
    case c1 => rfl
    case c2 => rfl
    have x2 := xB.step (frs := []) R2 (Step.toF (frs := []) (s := { s with heap := hB }) ⟨⟨p2.post.keep, p2.post.dom, p2.post.os, p2.post.bare⟩, p2.em, p2.ra, p2.ns, p2.fresh⟩ (fun _ q => nomatch q) (fun _ q => nomatch q)) (.inl rfl)
    clear F1 N1 G X' T' x xB ex
    refine Ob12 (id x2.hcu) fun ou eu du => ?_
    refine Ob12 (id x2.hcr) fun or er dr => ?_
    refine Ob11 (id x2.hxl) fun kx ex => ?_
    refine Ob23 (x2.gr X0 T0 [(xl, listOf (prL la σ.ls) kx), (L + 1, ou), (L + 2, or)] (allCons ⟨ex, x2.mem (by simp)⟩ (allCons ⟨eu, x2.mem (by simp)⟩ (allCons ⟨er, x2.mem (by simp)⟩ allNil)))) fun h₀ tl G F1 N1 => ?_
    have X' := G.C.X
    have T' := G.C.T
    dsimp only [List.cons_append, List.nil_append] at N1
    walk_at "g11"
    rename Fr _ _ _ _ => F1
    rename News _ _ _ _ => N1
    rename_i T hB2 lT
    have gT := N1.get (.head _)
    have gL := N1 _ (show (xl, listOf (prL la σ.ls) kx) ∈ _ from by walk_at "n")
    have KE := G.kept (M := []) F1 N1 (fun p hp => .inl (by revert p; walk_at "h")) (by walk_at "H")
    refine append_at gL.1 (fun h9 hs9 e9 => ?_) (by simpa using Nat.le_trans (len_pr x2.ln) (by decide))
    have hTx : T ≠ xl := fun q => by have q' : @Eq Nat T xl := q; omega
    have x3 := x2.kept1 (s' := { s2 with heap := hB2 }) KE F1.ns rfl id
    have x4 := x3.append (s' := { s2 with heap := h9 }) (p := (a, b)) (T := T) hm (kept_same hs9) (tup2 ((hs9.2 T hTx).trans gT)) ⟨_, e9⟩ rfl id
    have F3 := fr_kept F1 (kept_same hs9) gL.2.1 gL.2.2
    clear F1 N1 gT gL KE x3 x2
    have N3 : News h₀ L h9 [] := allNil
    walk_at "g11"
    exact hZ _ (h _ _ _ _ _ _ _ I.addL rfl p2.em x4.tk)
end
end
section
open SeqAt
section
variable {w : World} {A : Around} {E : Value → Shared → Prop} {s : Shared} {env : Env}
theorem lc_assign {iter test : Expr} {x y : PySem.Str} {px pe py : Pos} {scope : Scope} {cl : List (PySem.Str × Addr)} {pos spos : Pos} {Q : Flow → Shared → Prop} (p : Value → Bool) (hh : A.handled = none)
    (hsw : swapsWith (.ListComp (.Name x pe) [⟨.Name x px, iter, [test], 0⟩] scope pos) (some (.Name y py)) spos.line env = pure true)
    (hclos : closureFor scope env = pure cl) (hcell : ∀ y ∈ scope.names, y.2 ≠ .cell) (hkind : scope.kind = .function)
    (hnames : ∀ y ∈ scope.names, y.2 = .local → scope.names.lookup y.1 = some .local) (hx : scope.names.lookup x = some .local) (hd : (x == ("__debug__" : PySem.Str)) = false)
    (hy : env.kindOf y = some .local) (hp : (env.scope.kind == .class || (env.scope.kind == .module && env.locals != env.globals)) = false)
    (h : wpAny (model pw_ae0023_01 w) A (eval iter env) (fun xv s₁ => ∃ ax items m, xv = .ref ax ∧ s₁.heap.IsList ax items ∧ items.size ≤ sizeLine ∧ s₁.heap.Ns env.locals m ∧
      (∀ C v s₂ m₂ E', s₁.heap.objs.size ≤ C → v ∈ items.toList → s₂.heap.Ns C m₂ → m₂ x = some v → (∀ b o, s₁.heap.get? b = some o → s₂.heap.get? b = some o) →
        wpAny (model pw_ae0023_01 w) A (isTrue test (compEnvC scope cl C env) (eval test (compEnvC scope cl C env))) (fun ok s₃ => ok = p v ∧ Keeps s₂ s₃) E' s₂) ∧
      (∀ D h' tk n, s₁.heap.get? D = none → h'.get? D = some (listOf (items.toList.filter p).toArray n) → h'.Ns env.locals (fun z => if z = y then some (.ref D) else m z) → (∀ b o, b ≠ env.locals → s₁.heap.get? b = some o → h'.get? b = some o) → Q .next { s₁ with heap := h', toks := tk })) E s)
    (hs : ∀ x, foldedSetIterable iter env x = pure x := by intro _; rfl) :
    wpAny (model pw_ae0023_01 w) A (exec (.Assign [.Name y py] (.ListComp (.Name x pe) [⟨.Name x px, iter, [test], 0⟩] scope pos) spos) env) Q E s := by
  refine wpAny_Assign_ListComp_free p (fun v y => y = v) hsw hclos hcell hkind hnames hx hy hp (wpAny_mono h (fun xv s₁ h₁ => ?_) fun _ _ e => e) hs
  refine Ob3_6 (h₁) fun ax items m e9 hl hsz hn ht hQ => ?_
  clear h₁
  subst e9
  have hlt : ax < s₁.heap.objs.size := by obtain ⟨_, e, _⟩ := hl; exact Heap.lt_size e
  have pk : ∀ b o, s₁.heap.get? b = some o → (s₁.heap.push { cls := .type "list_iterator", data := .fields #[.ref ax, .int 0 0] }).get? b = some o := fun b o e => Heap.get?_push_of_some _ e
  have up : ∀ (s₃ : Shared), (∀ b o, b ∉ [s₁.heap.objs.size] → (s₁.heap.push { cls := .type "list_iterator", data := .fields #[.ref ax, .int 0 0] }).get? b = some o → s₃.heap.get? b = some o) → ∀ b o, s₁.heap.get? b = some o → s₃.heap.get? b = some o :=
    fun s₃ hk b o e => hk b o (fun hm => by rcases List.mem_cons.mp hm with rfl | hm; exact Nat.lt_irrefl _ (Heap.lt_size e); cases hm) (pk b o e)
  refine wpAny_pyIter_list hl ⟨s₁.heap.objs.size, [s₁.heap.objs.size, ax], [s₁.heap.objs.size], items.size, _, _, m, rfl, Walks.list hh _ _ (Nat.ne_of_lt hlt) items, hsz, ⟨⟨_, Heap.get?_push_size _ rfl, rfl, rfl⟩, hl.push _⟩, ?_, ?_, hn.push _, ⟨?_, ?_⟩, ?_⟩
  · intro b hb
    show b < (s₁.heap.push _).objs.size
    rw [Heap.size_push]
    rcases List.mem_cons.mp hb with rfl | hb
    · exact Nat.lt_succ_self _
    · rw [List.mem_singleton.mp hb]; exact Nat.lt_succ_of_lt hlt
  · intro q
    have := hn.lt
    rw [List.mem_singleton.mp q] at this
    exact Nat.lt_irrefl _ this
  · intro C i v s₃ m₃ E' hC hv hn hm hk htk
    refine wpAny_tests_one (ht C v s₃ m₃ E' (Nat.le_trans (by show _ ≤ (s₁.heap.push _).objs.size; rw [Heap.size_push]; exact Nat.le_succ _) hC) ?_ hn hm (up s₃ hk))
    rw [← Array.getElem?_toList] at hv
    exact List.mem_of_getElem? hv
  · intro C i v s₃ m₃ E' hC hv hp hn hm hk htk
    refine wpAny_Name (wpAny_loadName_local (by simp [compEnvC, relabel, hkind]) (lookup_relabel_local hx) hn hm ⟨rfl, ⟨_, _, rfl, fun b o e => e⟩⟩) hd
  · intro D h' tk ys vs hD hlD hpl hlen hP hF hN hk
    obtain ⟨n, hpl⟩ := hpl
    have e1 := paired_eq hF
    rw [list_of_idx hlen hP] at e1
    refine hQ D h' tk n ?_ ?_ hN (fun b o hb e => ?_)
    · cases e : s₁.heap.get? D with
      | none => rfl
      | some o => rw [pk D o e] at hD; cases hD
    · rw [hpl, ← e1]
    · exact hk b o hb (fun hm => by rw [show b = s₁.heap.objs.size from List.mem_singleton.mp hm] at e; exact Nat.lt_irrefl _ (Heap.lt_size e)) (pk b o e)
theorem ne_test {xo xu xr : PySem.Str} {po pu pr pt pos : Pos} {k2} {scope : Scope} {cl : List (PySem.Str × Addr)} {C cu cr T : Addr} {m : PySem.Str → Option Value} {a b : Fin 5} {ta tb : Nat} {ks : List PySem.Str} {Q : Bool → Shared → Prop} {whole : Sem Value}
    (hkind : scope.kind = .function) (hx : scope.names.lookup xo = some .local) (hdo : (xo == ("__debug__" : PySem.Str)) = false) (hdu : (xu == ("__debug__" : PySem.Str)) = false) (hdr : (xr == ("__debug__" : PySem.Str)) = false)
    (hyu : (compEnvC scope cl C env).kindOf xu = some .cell) (hcu : cl.lookup xu = some cu) (gu : s.heap.IsCell cu (some (.str (nmS a) ta)))
    (hyr : (compEnvC scope cl C env).kindOf xr = some .cell) (hcr : cl.lookup xr = some cr) (gr : s.heap.IsCell cr (some (.str (nmS b) tb)))
    (hn : s.heap.Ns C m) (hm : m xo = some (.ref T)) (hT : IsTupleKey (sk w) s.heap ks T) (hu : A.units < cLine)
    (h : ∀ h', (∀ b o, s.heap.get? b = some o → h'.get? b = some o) → Q (!decide (ks = [nmS a, nmS b])) { s with heap := h' }) :
    wpAny (model pw_ae0023_01 w) A (isTrue (.Compare (.Name xo po) [.NotEq] [.Tuple [.Name xu pu, .Name xr pr] k2 pt] pos) (compEnvC scope cl C env) whole) Q E s := by
  have hk : (compEnvC scope cl C env).scope.kind = .function := by simp [compEnvC, relabel, hkind]
  refine wpAny_isTrue_Compare1 ?_
  refine wpAny_Name (wpAny_loadName_local hk (lookup_relabel_local hx) hn hm ?_) hdo
  refine wpAny_Tuple_spliced (spliced_more (wpAny_Name (wpAny_loadName_cell hk hyu hcu gu (spliced_more (wpAny_Name (wpAny_loadName_cell hk hyr hcr gr (spliced_none ⟨Nat.le_of_ble_eq_true rfl, ?_⟩)) hdr))) hdu))
  have kp : ∀ b' o, s.heap.get? b' = some o → (s.heap.push { cls := .type "tuple", data := .seq [Value.str (nmS a) ta, Value.str (nmS b) tb].toArray }).get? b' = some o := fun b' o e => Heap.get?_push_of_some _ e
  have gT := Heap.get?_push_size s.heap (o := { cls := .type "tuple", data := .seq [Value.str (nmS a) ta, Value.str (nmS b) tb].toArray }) rfl
  have hTl : T ≠ s.heap.objs.size := by obtain ⟨o, its, n, e, _⟩ := hT; exact Nat.ne_of_lt (Heap.lt_size e)
  refine neKeys hTl ((fun b' o e _ => kp b' o e : Kept [] s.heap _) |> fun k => Kept.tup k NoTup.nil hT) (tup2 gT) hu ?_
  exact wpAny_truthy_bool (h _ kp)
theorem eP_val {h : Heap} {la : Pr → Addr} {ls : List Pr} {p r : Pr} (hk : ∀ p ∈ ls, IsTupleKey (sk w) h (prS p) (la p)) (hp : p ∈ ls) : eP la ls r (.ref (la p)) = decide (p = r) := by
  unfold eP
  refine decide_eq_decide.mpr ⟨fun q => ?_, fun q => ?_⟩
  · exact la_inj hk hp q.1 (by have := q.2; injection this)
  · subst q; exact ⟨hp, rfl⟩
theorem filter_eP {h : Heap} {la : Pr → Addr} {ls : List Pr} {r : Pr} (hk : ∀ p ∈ ls, IsTupleKey (sk w) h (prS p) (la p)) : ((prL la ls).toList.filter fun v => !(eP la ls r v)).toArray = prL la (ls.filter fun p => decide (p ≠ r)) := by
  have key : ∀ l : List Pr, (∀ p ∈ l, p ∈ ls) → ((l.map fun p => Value.ref (la p)).filter fun v => !(eP la ls r v)) = (l.filter fun p => decide (p ≠ r)).map fun p => Value.ref (la p) := by
    intro l
    induction l with
    | nil => intro _; rfl
    | cons p l ih =>
      intro hl
      rw [List.map_cons, List.filter_cons, List.filter_cons, eP_val hk (hl p List.mem_cons_self), ih fun q hq => hl q (List.mem_cons_of_mem _ hq)]
      by_cases q : p = r <;> simp [q]
  show ((ls.map fun p => Value.ref (la p)).filter _).toArray = _
  rw [key ls fun _ h => h]
end
section
variable {w : World} {base : Heap} {os₀ : OsState} {L sc xl dl ds D : Addr} {so : SO} {A : AD} {σ : SS} {la : Pr → Addr} {ls ls' : List Pr} {lc : Fin 5 → Fin 5 → Fin 3 → Option (Fin 3)} {lp : Fin 5 → Fin 5 → Fin 3 → Option (Fin 7)}
  {mm mm' : PySem.Str → Option Value} {cu cr : Option Value} {s s' : Shared} {n : Nat}
theorem LawI.rebind (x : LawI w base os₀ L sc so A σ xl dl ds la ls lc lp mm cu cr s) (k : Kept [L] s.heap s'.heap) (hn : s'.heap.Ns L mm') (hD : s.heap.get? D = none) (gD : s'.heap.get? D = some (listOf (prL la ls') n)) (hs : ∀ p ∈ ls', p ∈ ls) (nd : ls'.Nodup)
    (ho : s'.os = s.os) (hb : AllBare s.gens → AllBare s'.gens) : LawI w base os₀ L sc so A σ D dl ds la ls' lc lp mm' cu cr s' := by
  have k3 : Kept [L, L + 1, L + 2] s.heap s'.heap := fun b o e q => k b o e fun z => q (by rw [List.mem_singleton.mp z]; exact List.mem_cons_self)
  have n1 : L + 1 ∉ [L] := fun q => by have q' : @Eq Nat (L + 1) L := List.mem_singleton.mp q; omega
  have n2 : L + 2 ∉ [L] := fun q => by have q' : @Eq Nat (L + 2) L := List.mem_singleton.mp q; omega
  have y := x.kept k3 hn (let ⟨o, e, d⟩ := x.hcu; ⟨o, k _ _ e n1, d⟩) (let ⟨o, e, d⟩ := x.hcr; ⟨o, k _ _ e n2, d⟩) ho hb
  have far : ∀ z ∈ [L, L + 1, L + 2, sc, xl, dl, ds], z ≠ D := fun z hz q => by obtain ⟨o, e⟩ := x.has z hz; rw [q, hD] at e; cases e
  have offD : D ∉ A.hid σ.ns ∧ base.get? D = none ∧ D ≠ 784 ∧ D ≠ 1000 := ⟨notHid x.R hD, (by
    cases q : base.get? D with
    | none => rfl
    | some o => have := x.bs _ _ q; rw [hD] at this; cases this), x.R.farNone hD⟩
  have nd' := x.nd
  simp only [List.nodup_cons, List.mem_cons, List.not_mem_nil, or_false, not_or] at nd'
  simp only [List.forall_mem_cons] at far
  obtain ⟨f1, f2, f3, f4, f5, f6, f7, _⟩ := far
  have HF : ∀ p ∈ so.x, p.1 ∉ [L, L + 1, L + 2, sc, D, dl, ds] ∧ p.1 ∉ A.hid σ.ns ∧ base.get? p.1 = none ∧ p.1 ≠ 784 ∧ p.1 ≠ 1000 := fun p hp => by
    have z := (x.hf p hp).1
    refine ⟨neL (allCons (fun e => z (e ▸ .head _)) (allCons (fun e => z (e ▸ .tail _ (.head _))) (allCons (fun e => z (e ▸ .tail _ (.tail _ (.head _)))) (allCons (fun e => z (e ▸ .tail _ (.tail _ (.tail _ (.head _))))) (allCons (fun e => ?_) (allCons (fun e => z (e ▸ .tail _ (.tail _ (.tail _ (.tail _ (.tail _ (.head _))))))) (allCons (fun e => z (e ▸ .tail _ (.tail _ (.tail _ (.tail _ (.tail _ (.tail _ (.head _)))))))) allNil))))))), (x.hf p hp).2⟩
    have := x.hx p hp; rw [e, hD] at this; cases this
  exact { ns := y.ns, bs := y.bs, R := y.R, hso := y.hso, hx := y.hx, hf := HF, hxl := ⟨n, gD⟩, hla := fun p hp => y.hla p (hs p hp), ln := nd, hdl := y.hdl, hds := y.hds, hcu := y.hcu, hcr := y.hcr,
          osc := x.osc,
          off := allCons (x.off _ (.head _)) (allCons (x.off _ (.tail _ (.head _))) (allCons (x.off _ (.tail _ (.tail _ (.head _)))) (allCons offD (allCons (x.off _ (.tail _ (.tail _ (.tail _ (.tail _ (.head _)))))) (allCons (x.off _ (.tail _ (.tail _ (.tail _ (.tail _ (.tail _ (.head _))))))) allNil))))),
          bh := x.bh, nd := by
            simp only [List.nodup_cons, List.mem_cons, List.not_mem_nil, or_false, not_or]
            exact ⟨⟨nd'.1.1, nd'.1.2.1, nd'.1.2.2.1, f1, nd'.1.2.2.2.2⟩, ⟨nd'.2.1.1, nd'.2.1.2.1, f2, nd'.2.1.2.2.2⟩, ⟨nd'.2.2.1.1, f3, nd'.2.2.1.2.2⟩, ⟨f4, nd'.2.2.2.1.2⟩, ⟨Ne.symm f6, Ne.symm f7⟩, nd'.2.2.2.2.2⟩,
          bl := x.bl, lo := x.lo, os := y.os, ge := y.ge }
end
end
section
open SeqAt
section
variable {w : World} {mg mb : PySem.Str → Option Value} {base : Heap} {os₀ : OsState} {d u : Nat} {gs : Option (List Code)} {E : Value → Shared → Prop} {s : Shared} {A : AD} {σ : SS} {L sc xl dl ds am : Addr} {so : SO} {la : Pr → Addr} {ls : List Pr} {lc : Fin 5 → Fin 5 → Fin 3 → Option (Fin 3)} {lp : Fin 5 → Fin 5 → Fin 3 → Option (Fin 7)}
  {lv : Value} {v6 v7 v8 v9 v10 v11 v12 v13 v14 v15 : Option Value} {cu cr : Option Value} {P : Shared → Prop}
theorem nsTab {h : Heap} {y : PySem.Str} {v : Value} {l : List (PySem.Str × Option Value)} (hn : h.Ns L (fun z => if z = y then some v else tabM l z)) (hc : (l.map (·.1)).contains y = true) : h.Ns L (tabM (setM l y v)) := by
  rw [← fmap_tabM hc]; exact hn
theorem seg5b {kd pk : Int} {t t2 ta tb tm : Nat} {a b : Fin 5} {m : Fin 3} (X0 : (K w.params).In base) (T0 : TopRead q (looseW q loose) mg mb base) (hd : d + 120 < recursionLimit) (hu : u + 300 < cLine) (I : InvS σ) (em : A.m = am) (hk : 5 ≤ kd ∧ kd < 7) (x : LawI w base os₀ L sc so A σ xl dl ds la σ.ls σ.cond σ.prm (tabM (tL sc xl dl ds am lv v6 v7 (some (.int kd t)) (some (.int pk t2)) (some (.str (domS m) tm)) v11 v12 v13 v14 v15)) (some (.str (nmS a) ta)) (some (.str (nmS b) tb)) s)
  (h : ∀ s' A' σ' xl' la' c11 c12, InvS σ' → σ'.lv = σ.lv → A'.m = A.m → LawI w base os₀ L sc so A' σ' xl' dl ds la' σ'.ls σ'.cond σ'.prm (tabM (tL sc xl' dl ds am lv v6 v7 (some (.int kd t)) (some (.int pk t2)) (some (.str (domS m) tm)) c11 c12 v13 v14 v15)) (some (.str (nmS a) ta)) (some (.str (nmS b) tb)) s' → P s') :
  wpAny (model pw_ae0023_01 w) ((Ar d [] gs u).deeper (lawE L)) (exec (tS 5) (lawE L)) (fun f s' => f = .next ∧ P s') E s := by
  refine seg_of fun Z hZ => ?_
  subst em
  walk_at "f"
  refine Ob12 (id x.hcu) fun ou eu du => ?_
  refine Ob12 (id x.hcr) fun or er dr => ?_
  refine Ob11 (x.R.mdO) fun m1T md => ?_
  have mH : ∀ y ∈ A.hid σ.ns, y ≠ L ∧ base.get? y = none := fun y hy => ⟨fun q => (x.off L List.mem_cons_self).1 (q ▸ hy), x.bh y hy⟩
  refine Ob23 (x.gr X0 T0 [(A.m, instObj 1061 A.dm), (A.dm, mgrO w A σ m1T), (L + 1, ou), (L + 2, or)] (allCons ⟨x.R.mi, mH _ (hid_foot foot_m)⟩ (allCons ⟨md, mH _ (hid_foot foot_dm)⟩ (allCons ⟨eu, x.mem (by simp)⟩ (allCons ⟨er, x.mem (by simp)⟩ allNil))))) fun h₀ tl G F1 N1 => ?_
  have X' := G.C.X
  have T' := G.C.T
  dsimp only [List.cons_append, List.nil_append] at N1
  show wpAny _ _ (exec (Stmt.If _ _ _ _) _) _ _ _
  walk_at "g13"
  rename Fr _ _ _ _ => F1
  rename News _ _ _ _ => N1
  refine Ob33 (id x.ns) fun oL esL epL gL dL rL => ?_
  refine crm_delete_link (x.cx X0 T0 ?c1 ?c2) ⟨fun b o e => of_hideAll _ e, fun y hy => hideAll_none _ hy, x.R⟩ (roomD hd) (roomU hu) rfl X0 T0 (frs := [(L, oL)]) ⟨(by intro q; cases q), rfl, ⟨_, _, dL⟩, trivial⟩ (allCons ⟨gL, (x.off L List.mem_cons_self).2.1⟩ allNil) (allCons (x.off L List.mem_cons_self).1 allNil) (fun q => ⟨(I.nn _ q).1, (I.nn _ q).2, (I.io _ _).mpr q⟩) (fun A2 s2 R2 p2 => ?_)
  case c1 => rfl
  case c2 => rfl
  have x2 := x.step (frs := [(L, oL)]) R2 ⟨⟨p2.post.keep, p2.post.up, p2.post.os, p2.post.bare⟩, p2.em, p2.ra, p2.ns, p2.fresh⟩ (.inr ⟨oL, gL, rfl⟩)
  clear F1 N1 G X' T' x
  refine Ob12 (id x2.hcu) fun ou eu du => ?_
  refine Ob12 (id x2.hcr) fun or er dr => ?_
  refine Ob11 (id x2.hxl) fun kx ex => ?_
  refine Ob23 (x2.gr X0 T0 [(xl, listOf (prL la σ.ls) kx), (L + 1, ou), (L + 2, or)] (allCons ⟨ex, x2.mem (by simp)⟩ (allCons ⟨eu, x2.mem (by simp)⟩ (allCons ⟨er, x2.mem (by simp)⟩ allNil)))) fun h₀ tl G F1 N1 => ?_
  have X' := G.C.X
  have T' := G.C.T
  dsimp only [List.cons_append, List.nil_append] at N1
  walk_at "g13"
  refine lc_assign (cl := _) (fun v => !(eP la σ.ls (a, b) v)) rfl (by with_unfolding_all rfl) (by with_unfolding_all rfl) (by decide) rfl (by decide) (by rfl) rfl rfl rfl ?_ (fun _ => rfl)
  walk_at "g13"
  rename Fr _ _ _ _ => F1
  refine ⟨xl, prL la σ.ls, _, rfl, ⟨_, ex, rfl, _, rfl⟩, by simpa using Nat.le_trans (len_pr x2.ln) (by decide), F1.ns, fun C4 v s4 m4 E4 hC4 hv hn4 hm4 hk4 => ?_, fun D h5 tk5 n5 hD5 gD5 hn5 hk5 => ?_⟩
  · obtain ⟨p, hp, rfl⟩ := List.mem_map.mp (show v ∈ σ.ls.map fun p => Value.ref (la p) from hv)
    refine ne_test (T := la p) (ks := prS p) (cu := L + 1) (cr := L + 2) (a := a) (b := b) rfl (by rfl) rfl rfl rfl (by with_unfolding_all rfl) (by rfl) ⟨ou, hk4 _ _ eu, du⟩ (by with_unfolding_all rfl) (by rfl) ⟨or, hk4 _ _ er, dr⟩ hn4 hm4 ((fun b o e _ => hk4 b o e : Kept [] s2.heap s4.heap) |> fun k => Kept.tup k NoTup.nil (x2.hla p hp)) (by show u + 3 < cLine; omega) (fun h' kh => ⟨?_, _, _, rfl, kh⟩)
    rw [eP_val x2.hla hp]
    congr 1
    exact decide_eq_decide.mpr ⟨fun e => prS_inj (p' := (a, b)) e, fun e => by rw [e]⟩
  · rw [filter_eP x2.hla] at gD5
    have e1 : (delL σ a b).ls = σ.ls.filter fun p => decide (p ≠ (a, b)) := by
      unfold delL
      split
      · rfl
      · rename_i hm
        exact (List.filter_eq_self.mpr fun p hp => by simp only [decide_eq_true_eq]; intro q; subst q; exact hm hp).symm
    have e2 : (delL σ a b).cond = σ.cond := by unfold delL; split <;> rfl
    have e3 : (delL σ a b).prm = σ.prm := by unfold delL; split <;> rfl
    have e4 : (delL σ a b).lv = σ.lv := by unfold delL; split <;> rfl
    have x5 := x2.rebind (s' := { s2 with heap := h5, toks := tk5 }) (fun b o e q => hk5 b o (fun z => q (List.mem_singleton.mpr z)) e) (nsTab hn5 rfl) hD5 gD5 (fun p hp => (List.mem_filter.mp hp).1) (x2.ln.filter _) rfl id
    rw [← e1, ← e2, ← e3] at x5
    walk_at "g13"
    exact hZ _ (h _ _ _ _ _ _ _ I.delL e4 p2.em x5.tk)
end
end
section
open SeqAt
theorem some_of_map {o : Option (Addr × Value)} {v : Value} (h : o.map (·.2) = some v) : ∃ k, o = some (k, v) := by
  cases o with
  | none => cases h
  | some p => exact ⟨p.1, by simp only [Option.map_some, Option.some.injEq] at h; rw [← h]⟩
theorem none_of_map {o : Option (Addr × Value)} (h : o.map (·.2) = none) : o = none := by
  cases o with
  | none => rfl
  | some p => cases h
theorem keys3_stored {xs : List (List PySem.Str × Addr × Value)} {a b : Fin 5} {m : Fin 3} (hk : Keys3 xs) (p : Addr) (v : Value) : Keys3 (storedH xs (tri a b m) p v) := fun x hx => by
  rcases mem_storedH hx with ⟨y, hy, e, _⟩ | ⟨e, _⟩
  · obtain ⟨a', b', m', e'⟩ := hk y hy; exact ⟨a', b', m', e.trans e'⟩
  · exact ⟨a, b, m, e⟩
section
variable {w : World} {s : Shared} {Ar' : Around} {E : Value → Shared → Prop} {Q : Unit → Shared → Prop} {d k : Addr} {a b : Fin 5} {m : Fin 3} {c : Fin 5 → Fin 5 → Fin 3 → Option (Fin 3)} {p : Fin 5 → Fin 5 → Fin 3 → Option (Fin 7)}
theorem setItem_laid {f : Fin 3} {t : Nat} (L : LaidAt w s.heap d c) (hu : Ar'.units + 2 < cLine) (hk : IsTupleKey (strKind pw_ae0023_01 w) s.heap (tri a b m) k)
    (h : ∀ h' tk', LaidAt w h' d (fun x y z => if x = a ∧ y = b ∧ z = m then some f else c x y z) → Heap.SameBut d s.heap h' → Q () { s with heap := h', toks := tk' }) :
    wpAny (model pw_ae0023_01 w) Ar' (setItem (.ref d) (.ref k) (.int (f.val : Int) t)) Q E s := by
  obtain ⟨xs, hx, hki, hv⟩ := L
  have nn : (xs.map (·.1)).Nodup := by obtain ⟨_, _, _, _, _, _, _, _, n⟩ := hx; exact n
  refine wpAny_setItem_heap (knd := tk w) (tupleKind_room_in1 (by omega)) hk hx (fun h' hd hs => h _ _ ⟨_, hd, keys3_stored hki _ _, fun a' b' m' => ?_⟩ hs) (Nat.le_trans (len_keys3 hki nn) (by decide))
  have z := atKey_stored xs (tri a b m) (tri a' b' m') k (.int (f.val : Int) t)
  dsimp only
  by_cases q : a' = a ∧ b' = b ∧ m' = m
  · rw [if_pos q]
    obtain ⟨rfl, rfl, rfl⟩ := q
    rw [if_pos rfl] at z
    obtain ⟨k', e⟩ := some_of_map z
    exact ⟨k', t, e⟩
  · rw [if_neg q]
    rw [if_neg fun e => q (tri_inj e)] at z
    have y := hv a' b' m'
    cases e : c a' b' m' with
    | none => rw [e] at y; rw [show atKey xs (tri a' b' m') = none from y] at z; exact none_of_map z
    | some f' =>
      rw [e] at y
      obtain ⟨k', t', y⟩ := y
      rw [y] at z
      obtain ⟨k2, e2⟩ := some_of_map z
      exact ⟨k2, t', e2⟩
theorem setItem_said {r : Fin 7} (L : SaidAt w s.heap d p) (hu : Ar'.units + 2 < cLine) (hk : IsTupleKey (strKind pw_ae0023_01 w) s.heap (tri a b m) k)
    (h : ∀ h' tk', SaidAt w h' d (fun x y z => if x = a ∧ y = b ∧ z = m then some r else p x y z) → Heap.SameBut d s.heap h' → Q () { s with heap := h', toks := tk' }) :
    wpAny (model pw_ae0023_01 w) Ar' (setItem (.ref d) (.ref k) (.ref (rowA r))) Q E s := by
  obtain ⟨xs, hx, hki, hv⟩ := L
  have nn : (xs.map (·.1)).Nodup := by obtain ⟨_, _, _, _, _, _, _, _, n⟩ := hx; exact n
  refine wpAny_setItem_heap (knd := tk w) (tupleKind_room_in1 (by omega)) hk hx (fun h' hd hs => h _ _ ⟨_, hd, keys3_stored hki _ _, fun a' b' m' => ?_⟩ hs) (Nat.le_trans (len_keys3 hki nn) (by decide))
  have z := atKey_stored xs (tri a b m) (tri a' b' m') k (.ref (rowA r))
  dsimp only
  by_cases q : a' = a ∧ b' = b ∧ m' = m
  · rw [if_pos q]
    obtain ⟨rfl, rfl, rfl⟩ := q
    rw [if_pos rfl] at z
    exact some_of_map z
  · rw [if_neg q]
    rw [if_neg fun e => q (tri_inj e)] at z
    have y := hv a' b' m'
    cases e : p a' b' m' with
    | none => rw [e] at y; rw [show atKey xs (tri a' b' m') = none from y] at z; exact none_of_map z
    | some r' =>
      rw [e] at y
      obtain ⟨k', y⟩ := y
      rw [y] at z
      exact some_of_map z
end
end
section
open SeqAt
noncomputable section
def thenS : Stmt → List Stmt
  | .If _ b _ _ => b
  | _ => []
def elseS : Stmt → List Stmt
  | .If _ _ e _ => e
  | _ => []
def if10 : Stmt := (elseS ((elseS (tS 5)).getD 0 default)).getD 0 default
def cS (i : Nat) : Stmt := (thenS if10).getD i default
def dS (i : Nat) : Stmt := (elseS if10).getD i default
end
section
variable {M : Model} {A₁ : Around} {st : Stmt} {rest body orelse : List Stmt} {env : Env} {Q : Flow → Shared → Prop} {E : Value → Shared → Prop} {s : Shared}
theorem run_cons (h : wpAny M A₁ (exec st env) (fun f s' => f = .next ∧ wpAny M A₁ (execs rest env) Q E s') E s) : wpAny M A₁ (execs (st :: rest) env) Q E s :=
  wpAny_execs_cons (wpAny_mono h (fun f s' hf => by obtain ⟨rfl, hf⟩ := hf; exact hf) fun _ _ e => e)
theorem run_one (h : wpAny M A₁ (exec st env) (fun f s' => f = .next ∧ Q .next s') E s) : wpAny M A₁ (execs [st] env) Q E s :=
  run_cons (wpAny_mono h (fun f s' hf => ⟨hf.1, wpAny_execs_nil hf.2⟩) fun _ _ e => e)
end
section
variable {w : World} {base : Heap} {os₀ : OsState} {L sc xl dl ds : Addr} {so : SO} {A : AD} {σ : SS} {la : Pr → Addr} {ls : List Pr} {lc : Fin 5 → Fin 5 → Fin 3 → Option (Fin 3)} {lp : Fin 5 → Fin 5 → Fin 3 → Option (Fin 7)}
  {l : List (PySem.Str × Option Value)} {cu cr : Option Value} {s : Shared} {A₁ : Around} {Q : Flow → Shared → Prop} {E : Value → Shared → Prop} {body orelse : List Stmt}
theorem kind_if {kd n : Int} {t k : Nat} {pn pc p pos : Pos} (x : LawI w base os₀ L sc so A σ xl dl ds la ls lc lp (tabM l) cu cr s) (hl : tabM l "kind" = some (.int kd t))
    (h : ∀ s', LawI w base os₀ L sc so A σ xl dl ds la ls lc lp (tabM l) cu cr s' → if kd < n then wpAny (model pw_ae0023_01 w) A₁ (execs body (lawE L)) Q E s' else wpAny (model pw_ae0023_01 w) A₁ (execs orelse (lawE L)) Q E s') :
    wpAny (model pw_ae0023_01 w) A₁ (exec (.If (.Compare (.Name "kind" pn) [.Lt] [.Constant (.int n) k pc] p) body orelse pos) (lawE L)) Q E s := by
  refine wpAny_If (wpAny_isTrue_Compare1 ?_)
  refine wpAny_Name (wpAny_loadName_local rfl rfl x.ns hl ?_)
  refine wpAny_Constant_int (PyProof.Rows.lt_int (wpAny_truthy_bool ?_))
  have := h _ (x.tk (t := s.toks + 1))
  by_cases q : kd < n
  · rw [decide_eq_true q]; rw [if_pos q] at this; exact this
  · rw [decide_eq_false q]; rw [if_neg q] at this; exact this
theorem dom_if {m : Fin 3} {t k : Nat} {pn pc p pos : Pos} (x : LawI w base os₀ L sc so A σ xl dl ds la ls lc lp (tabM l) cu cr s) (hl : tabM l "domain" = some (.str (domS m) t))
    (h : ∀ s', LawI w base os₀ L sc so A σ xl dl ds la ls lc lp (tabM l) cu cr s' → if m = 0 then wpAny (model pw_ae0023_01 w) A₁ (execs body (lawE L)) Q E s' else wpAny (model pw_ae0023_01 w) A₁ (execs orelse (lawE L)) Q E s') :
    wpAny (model pw_ae0023_01 w) A₁ (exec (.If (.Compare (.Name "domain" pn) [.Eq] [.Constant (.str "") k pc] p) body orelse pos) (lawE L)) Q E s := by
  refine wpAny_If (wpAny_isTrue_Compare1 ?_)
  refine wpAny_Name (wpAny_loadName_local rfl rfl x.ns hl ?_)
  refine wpAny_Constant_str (PyProof.Rows.eq_str (wpAny_truthy_bool ?_))
  have := h _ (x.tk (t := s.toks + 1))
  by_cases q : m = 0
  · rw [if_pos q] at this; subst q
    rw [show (domS 0 == ("" : PySem.Str)) = true from by decide +kernel]; exact this
  · rw [if_neg q] at this
    rw [show (domS m == ("" : PySem.Str)) = false from beq_eq_false_iff_ne.mpr fun e => q (domS_inj e)]; exact this
end
end
section
open SeqAt
section
variable {w : World} {mg mb : PySem.Str → Option Value} {base : Heap} {os₀ : OsState} {d u : Nat} {gs : Option (List Code)} {E : Value → Shared → Prop} {s : Shared} {A : AD} {σ : SS} {L sc xl dl ds am : Addr} {so : SO} {la : Pr → Addr} {ls : List Pr} {lc : Fin 5 → Fin 5 → Fin 3 → Option (Fin 3)} {lp : Fin 5 → Fin 5 → Fin 3 → Option (Fin 7)}
  {lv : Value} {v6 v7 v8 v9 v10 v11 v12 v13 v14 v15 : Option Value} {cu cr : Option Value} {P : Shared → Prop}
theorem seg5c0 {kd pk : Int} {t t2 ta tb tm : Nat} {a b : Fin 5} {m : Fin 3} {f : Fin 3} (X0 : (K w.params).In base) (T0 : TopRead q (looseW q loose) mg mb base) (hd : d + 120 < recursionLimit) (hu : u + 300 < cLine) (hf : kd = 7 + (f.val : Int)) (x : LawI w base os₀ L sc so A σ xl dl ds la σ.ls σ.cond σ.prm (tabM (tL sc xl dl ds am lv v6 v7 (some (.int kd t)) (some (.int pk t2)) (some (.str (domS m) tm)) v11 v12 v13 v14 v15)) (some (.str (nmS a) ta)) (some (.str (nmS b) tb)) s)
  (h : ∀ s', LawI w base os₀ L sc so A σ xl dl ds la σ.ls (fun x y z => if x = a ∧ y = b ∧ z = m then some f else σ.cond x y z) σ.prm (tabM (tL sc xl dl ds am lv v6 v7 (some (.int kd t)) (some (.int pk t2)) (some (.str (domS m) tm)) v11 v12 v13 v14 v15)) (some (.str (nmS a) ta)) (some (.str (nmS b) tb)) s' → P s') :
  wpAny (model pw_ae0023_01 w) ((Ar d [] gs u).deeper (lawE L)) (exec (cS 0) (lawE L)) (fun f s' => f = .next ∧ P s') E s := by
  refine seg_of fun Z hZ => ?_
  walk_at "f"
  refine Ob12 (id x.hcu) fun ou eu du => ?_
  refine Ob12 (id x.hcr) fun or er dr => ?_
  refine Ob23 (x.gr X0 T0 [(L + 1, ou), (L + 2, or)] (allCons ⟨eu, x.mem (by simp)⟩ (allCons ⟨er, x.mem (by simp)⟩ allNil))) fun h₀ tl G F1 N1 => ?_
  have X' := G.C.X
  have T' := G.C.T
  dsimp only [List.cons_append, List.nil_append] at N1
  show wpAny _ _ (exec (Stmt.Assign [_] _ _) _) _ _ _
  walk_at "g13"
  rename Fr _ _ _ _ => F1
  rename News _ _ _ _ => N1
  rename_i D hB lD
  have gT := N1.get (.head _)
  have KE := G.kept (M := []) F1 N1 (fun p hp => .inl (by revert p; walk_at "h")) (by walk_at "H")
  have xB := x.kept1 (s' := { s with heap := hB }) KE F1.ns rfl id
  rw [show kd - 7 = (f.val : Int) from by omega]
  refine setItem_laid (a := a) (b := b) (m := m) xB.hdl (roomU hu) (tup3 gT) (fun h5 tk5 hd5 hs5 => ?_)
  have nd := xB.nd
  simp only [List.nodup_cons, List.mem_cons, List.not_mem_nil, or_false, not_or] at nd
  have nt := xB.ntx (y := dl) (by simp)
  have x5 := xB.turned (y := dl) (s' := { s with heap := h5 }) (by simp) (kept_same hs5) nt (let ⟨k, e⟩ := xB.hxl; ⟨k, (hs5.2 _ nd.2.2.2.2.1.1).trans e⟩) (fun p hp => (kept_same hs5).tup nt (xB.hla p hp)) xB.ln hd5 (xB.hds.kept (kept_same hs5) nt fun q => nd.2.2.2.2.2.1 (List.mem_singleton.mp q).symm) rfl id
  clear F1 N1 G X' T' x xB KE gT nd nt hs5 hd5 eu er du dr
  walk_at "g13"
  exact hZ _ (h _ x5.tk)
theorem seg5c1 {kd pk : Int} {t t2 ta tb tm : Nat} {a b : Fin 5} {m : Fin 3} {f : Fin 3} (X0 : (K w.params).In base) (T0 : TopRead q (looseW q loose) mg mb base) (hd : d + 120 < recursionLimit) (hu : u + 300 < cLine) (hf : (kd = 7 ∧ f = 0) ∨ (kd = 8 ∧ f = 1) ∨ (kd = 9 ∧ f = 2)) (x : LawI w base os₀ L sc so A σ xl dl ds la ls lc lp (tabM (tL sc xl dl ds am lv v6 v7 (some (.int kd t)) (some (.int pk t2)) (some (.str (domS m) tm)) v11 v12 v13 v14 v15)) (some (.str (nmS a) ta)) (some (.str (nmS b) tb)) s)
  (h : ∀ s', LawI w base os₀ L sc so A σ xl dl ds la ls lc lp (tabM (tL sc xl dl ds am lv v6 v7 (some (.int kd t)) (some (.int pk t2)) (some (.str (domS m) tm)) (some (.ref (condF f))) v12 v13 v14 v15)) (some (.str (nmS a) ta)) (some (.str (nmS b) tb)) s' → P s') :
  wpAny (model pw_ae0023_01 w) ((Ar d [] gs u).deeper (lawE L)) (exec (cS 1) (lawE L)) (fun f s' => f = .next ∧ P s') E s := by
  rcases hf with ⟨rfl, rfl⟩ | ⟨rfl, rfl⟩ | ⟨rfl, rfl⟩
  all_goals (
  refine seg_of fun Z hZ => ?_
  walk_at "f"
  refine Ob12 (id x.hcu) fun ou eu du => ?_
  refine Ob12 (id x.hcr) fun or er dr => ?_
  refine Ob23 (x.gr X0 T0 [(L + 1, ou), (L + 2, or)] (allCons ⟨eu, x.mem (by simp)⟩ (allCons ⟨er, x.mem (by simp)⟩ allNil))) fun h₀ tl G F1 N1 => ?_
  have X' := G.C.X
  have T' := G.C.T
  dsimp only [List.cons_append, List.nil_append] at N1
  show wpAny _ _ (exec (Stmt.Assign [_] _ _) _) _ _ _
  (repeat (walk_at "b"; walk_at "B"; walk_at "S4"; walk_at "w"))
  rename Fr _ _ _ _ => F1
  rename News _ _ _ _ => N1
  have KE := G.kept (M := []) F1 N1 (fun p hp => .inl (by revert p; walk_at "h")) (by walk_at "H")
  have F9 := frTab F1 rfl
  exact hZ _ (h _ (x.kept1 (s' := { s with heap := _, toks := _ }) KE F9.ns rfl id)))
theorem seg5c2 {kd pk : Int} {t t2 ta tb tm : Nat} {a b : Fin 5} {m : Fin 3} {f : Fin 3} (X0 : (K w.params).In base) (T0 : TopRead q (looseW q loose) mg mb base) (hd : d + 120 < recursionLimit) (hu : u + 300 < cLine) (I : InvS σ) (em : A.m = am) (x : LawI w base os₀ L sc so A σ xl dl ds la σ.ls (fun x y z => if x = a ∧ y = b ∧ z = m then some f else σ.cond x y z) σ.prm (tabM (tL sc xl dl ds am lv v6 v7 (some (.int kd t)) (some (.int pk t2)) (some (.str (domS m) tm)) (some (.ref (condF f))) v12 v13 v14 v15)) (some (.str (nmS a) ta)) (some (.str (nmS b) tb)) s)
  (h : ∀ s' A' σ', InvS σ' → σ'.lv = σ.lv → A'.m = A.m → LawI w base os₀ L sc so A' σ' xl dl ds la σ'.ls σ'.cond σ'.prm (tabM (tL sc xl dl ds am lv v6 v7 (some (.int kd t)) (some (.int pk t2)) (some (.str (domS m) tm)) (some (.ref (condF f))) v12 v13 v14 v15)) (some (.str (nmS a) ta)) (some (.str (nmS b) tb)) s' → P s') :
  wpAny (model pw_ae0023_01 w) ((Ar d [] gs u).deeper (lawE L)) (exec (cS 2) (lawE L)) (fun f s' => f = .next ∧ P s') E s := by
  refine seg_of fun Z hZ => ?_
  subst em
  walk_at "f"
  show wpAny _ _ (exec (Stmt.If (Expr.Compare _ _ _ _) _ _ _) _) _ _ _
  refine dom_if (m := m) x rfl fun s1 x1 => ?_
  clear x s
  rename Shared => s
  by_cases hm : m = 0
  · rw [if_pos hm]
    subst hm
    refine Ob12 (id x1.hcu) fun ou eu du => ?_
    refine Ob12 (id x1.hcr) fun or er dr => ?_
    refine Ob11 (x1.R.mdO) fun m1T md => ?_
    have mH : ∀ y ∈ A.hid σ.ns, y ≠ L ∧ base.get? y = none := fun y hy => ⟨fun q => (x1.off L List.mem_cons_self).1 (q ▸ hy), x1.bh y hy⟩
    refine Ob23 (x1.gr X0 T0 [(A.m, instObj 1061 A.dm), (A.dm, mgrO w A σ m1T), (L + 1, ou), (L + 2, or)] (allCons ⟨x1.R.mi, mH _ (hid_foot foot_m)⟩ (allCons ⟨md, mH _ (hid_foot foot_dm)⟩ (allCons ⟨eu, x1.mem (by simp)⟩ (allCons ⟨er, x1.mem (by simp)⟩ allNil))))) fun h₀ tl G F1 N1 => ?_
    have X' := G.C.X
    have T' := G.C.T
    dsimp only [List.cons_append, List.nil_append] at N1
    walk_at "g13"
    rename Fr _ _ _ _ => F1
    rename News _ _ _ _ => N1
    refine crm_add_cond (f := f) (x1.cx X0 T0 ?c1 ?c2) ⟨fun b o e => of_hideAll _ e, fun y hy => hideAll_none _ hy, x1.R⟩ (roomD hd) (roomU hu) rfl (fun A2 s2 R2 p2 => ?_)
    case c1 => rfl
    case c2 => rfl
    have x2 := x1.step (frs := []) R2 (Step.toF (frs := []) ⟨⟨p2.post.keep, p2.post.dom, p2.post.os, p2.post.bare⟩, p2.em, p2.ra, p2.ns, p2.fresh⟩ (fun _ q => nomatch q) (fun _ q => nomatch q)) (.inl rfl)
    clear F1 N1 G X' T' x1 md mH eu er du dr
    refine Ob23 (x2.gr X0 T0 [] allNil) fun h₀ tl G F1 N1 => ?_
    have X' := G.C.X
    have T' := G.C.T
    walk_at "g13"
    exact hZ _ (h _ _ _ (I.add.add.setC) rfl p2.em x2.tk)
  · rw [if_neg hm]
    clear hm
    refine Ob12 (id x1.hcu) fun ou eu du => ?_
    refine Ob12 (id x1.hcr) fun or er dr => ?_
    refine Ob11 (x1.R.mdO) fun m1T md => ?_
    have mH : ∀ y ∈ A.hid σ.ns, y ≠ L ∧ base.get? y = none := fun y hy => ⟨fun q => (x1.off L List.mem_cons_self).1 (q ▸ hy), x1.bh y hy⟩
    refine Ob23 (x1.gr X0 T0 [(A.m, instObj 1061 A.dm), (A.dm, mgrO w A σ m1T), (L + 1, ou), (L + 2, or)] (allCons ⟨x1.R.mi, mH _ (hid_foot foot_m)⟩ (allCons ⟨md, mH _ (hid_foot foot_dm)⟩ (allCons ⟨eu, x1.mem (by simp)⟩ (allCons ⟨er, x1.mem (by simp)⟩ allNil))))) fun h₀ tl G F1 N1 => ?_
    have X' := G.C.X
    have T' := G.C.T
    dsimp only [List.cons_append, List.nil_append] at N1
    walk_at "g13"
    rename Fr _ _ _ _ => F1
    rename News _ _ _ _ => N1
    refine crm_add_dcond (f := f) (x1.cx X0 T0 ?c1 ?c2) ⟨fun b o e => of_hideAll _ e, fun y hy => hideAll_none _ hy, x1.R⟩ (roomD hd) (roomU hu) rfl (fun A2 s2 R2 p2 => ?_)
    case c1 => rfl
    case c2 => rfl
    have x2 := x1.step (frs := []) R2 (Step.toF (frs := []) ⟨⟨p2.post.keep, p2.post.dom, p2.post.os, p2.post.bare⟩, p2.em, p2.ra, p2.ns, p2.fresh⟩ (fun _ q => nomatch q) (fun _ q => nomatch q)) (.inl rfl)
    clear F1 N1 G X' T' x1 md mH eu er du dr
    refine Ob23 (x2.gr X0 T0 [] allNil) fun h₀ tl G F1 N1 => ?_
    have X' := G.C.X
    have T' := G.C.T
    walk_at "g13"
    exact hZ _ (h _ _ _ (I.add.add.setC) rfl p2.em x2.tk)
theorem seg5c {kd pk : Int} {t t2 ta tb tm : Nat} {a b : Fin 5} {m : Fin 3} (X0 : (K w.params).In base) (T0 : TopRead q (looseW q loose) mg mb base) (hd : d + 120 < recursionLimit) (hu : u + 300 < cLine) (I : InvS σ) (em : A.m = am) (hk : 7 ≤ kd ∧ kd < 10) (x : LawI w base os₀ L sc so A σ xl dl ds la σ.ls σ.cond σ.prm (tabM (tL sc xl dl ds am lv v6 v7 (some (.int kd t)) (some (.int pk t2)) (some (.str (domS m) tm)) v11 v12 v13 v14 v15)) (some (.str (nmS a) ta)) (some (.str (nmS b) tb)) s)
  (h : ∀ s' A' σ' xl' la' c11 c12, InvS σ' → σ'.lv = σ.lv → A'.m = A.m → LawI w base os₀ L sc so A' σ' xl' dl ds la' σ'.ls σ'.cond σ'.prm (tabM (tL sc xl' dl ds am lv v6 v7 (some (.int kd t)) (some (.int pk t2)) (some (.str (domS m) tm)) c11 c12 v13 v14 v15)) (some (.str (nmS a) ta)) (some (.str (nmS b) tb)) s' → P s') :
  wpAny (model pw_ae0023_01 w) ((Ar d [] gs u).deeper (lawE L)) (exec (tS 5) (lawE L)) (fun f s' => f = .next ∧ P s') E s := by
  obtain ⟨f, hf, hf'⟩ : ∃ f : Fin 3, kd = 7 + (f.val : Int) ∧ ((kd = 7 ∧ f = 0) ∨ (kd = 8 ∧ f = 1) ∨ (kd = 9 ∧ f = 2)) := by
    have : kd = 7 ∨ kd = 8 ∨ kd = 9 := by omega
    rcases this with q | q | q
    · exact ⟨0, q, .inl ⟨q, rfl⟩⟩
    · exact ⟨1, q, .inr (.inl ⟨q, rfl⟩)⟩
    · exact ⟨2, q, .inr (.inr ⟨q, rfl⟩)⟩
  show wpAny _ _ (exec (Stmt.If (Expr.Compare _ _ _ _) _ _ _) _) _ _ _
  refine kind_if x rfl fun s1 x1 => ?_
  rw [if_neg (by omega)]
  refine run_one ?_
  refine kind_if x1 rfl fun s2 x2 => ?_
  rw [if_neg (by omega)]
  refine run_one ?_
  refine kind_if x2 rfl fun s3 x3 => ?_
  rw [if_pos (by omega)]
  refine run_cons (seg5c0 X0 T0 hd hu hf x3 fun s4 x4 => ?_)
  refine run_cons (seg5c1 X0 T0 hd hu hf' x4 fun s5 x5 => ?_)
  refine run_one (seg5c2 X0 T0 hd hu I em x5 fun s6 A6 σ6 I6 l6 m6 x6 => ?_)
  exact ⟨rfl, rfl, rfl, h _ _ _ _ _ _ _ I6 l6 m6 x6⟩
end
end
section
open SeqAt
section
variable {w : World} {mg mb : PySem.Str → Option Value} {base : Heap} {os₀ : OsState} {d u : Nat} {gs : Option (List Code)} {E : Value → Shared → Prop} {s : Shared} {A : AD} {σ : SS} {L sc xl dl ds am : Addr} {so : SO} {la : Pr → Addr} {ls : List Pr} {lc : Fin 5 → Fin 5 → Fin 3 → Option (Fin 3)} {lp : Fin 5 → Fin 5 → Fin 3 → Option (Fin 7)}
  {lv : Value} {v6 v7 v8 v9 v10 v11 v12 v13 v14 v15 : Option Value} {cu cr : Option Value} {P : Shared → Prop}
theorem mem2a {a b : Fin 5} {m : Fin 3} {r : Fin 7} : a ∈ (((σ.add a).add b).setP a b m r).ns := mem_ns_add mem_add
theorem baseNone {h₀ : Heap} {mg mb : PySem.Str → Option Value} {ex tl : List (Addr × Obj)} {y : Addr} (G : Gr w mg mb base [] base s L h₀ ex tl) (e : h₀.get? y = none) : base.get? y = none := by
  cases q : base.get? y with
  | none => rfl
  | some o => have := G.gh y o q; rw [e] at this; cases this
theorem seg5d0 {kd pk : Int} {t t2 ta tb tm : Nat} {a b : Fin 5} {m : Fin 3} (X0 : (K w.params).In base) (T0 : TopRead q (looseW q loose) mg mb base) (hd : d + 120 < recursionLimit) (hu : u + 300 < cLine)  (x : LawI w base os₀ L sc so A σ xl dl ds la ls lc lp (tabM (tL sc xl dl ds am lv v6 v7 (some (.int kd t)) (some (.int pk t2)) (some (.str (domS m) tm)) v11 v12 v13 v14 v15)) (some (.str (nmS a) ta)) (some (.str (nmS b) tb)) s)
  (h : ∀ s' r, LawI w base os₀ L sc so A σ xl dl ds la ls lc lp (tabM (tL sc xl dl ds am lv v6 v7 (some (.int kd t)) (some (.int pk t2)) (some (.str (domS m) tm)) v11 (some (.ref (rowA r))) v13 v14 v15)) (some (.str (nmS a) ta)) (some (.str (nmS b) tb)) s' → P s') :
  wpAny (model pw_ae0023_01 w) ((Ar d [] gs u).deeper (lawE L)) (exec (dS 0) (lawE L)) (fun f s' => f = .next ∧ P s') E s := by
  refine seg_of fun Z hZ => ?_
  walk_at "f"
  refine Ob12 (id x.hcu) fun ou eu du => ?_
  refine Ob12 (id x.hcr) fun or er dr => ?_
  refine Ob23 (x.gr X0 T0 [(L + 1, ou), (L + 2, or)] (allCons ⟨eu, x.mem (by simp)⟩ (allCons ⟨er, x.mem (by simp)⟩ allNil))) fun h₀ tl G F1 N1 => ?_
  have X' := G.C.X
  have T' := G.C.T
  dsimp only [List.cons_append, List.nil_append] at N1
  show wpAny _ _ (exec (Stmt.Assign [_] _ _) _) _ _ _
  walk_at "g13"
  rename Fr _ _ _ _ => F1
  rename News _ _ _ _ => N1
  refine item_row (X'.keeps F1.keep) (fmod_lt _ (by decide)) (fun r => ?_)
  walk_at "g13"
  rename Fr _ _ _ _ => F1
  rename News _ _ _ _ => N1
  have KE := G.kept (M := []) F1 N1 (fun p hp => .inl (by revert p; walk_at "h")) (by walk_at "H")
  have F9 := frTab F1 rfl
  exact hZ _ (h _ _ (x.kept1 (s' := { s with heap := _, toks := _ }) KE F9.ns rfl id))
theorem seg5d1 {kd pk : Int} {t t2 ta tb tm : Nat} {a b : Fin 5} {m : Fin 3} {r : Fin 7} (X0 : (K w.params).In base) (T0 : TopRead q (looseW q loose) mg mb base) (hd : d + 120 < recursionLimit) (hu : u + 300 < cLine)  (x : LawI w base os₀ L sc so A σ xl dl ds la σ.ls σ.cond σ.prm (tabM (tL sc xl dl ds am lv v6 v7 (some (.int kd t)) (some (.int pk t2)) (some (.str (domS m) tm)) v11 (some (.ref (rowA r))) v13 v14 v15)) (some (.str (nmS a) ta)) (some (.str (nmS b) tb)) s)
  (h : ∀ s', LawI w base os₀ L sc so A σ xl dl ds la σ.ls σ.cond (fun x y z => if x = a ∧ y = b ∧ z = m then some r else σ.prm x y z) (tabM (tL sc xl dl ds am lv v6 v7 (some (.int kd t)) (some (.int pk t2)) (some (.str (domS m) tm)) v11 (some (.ref (rowA r))) v13 v14 v15)) (some (.str (nmS a) ta)) (some (.str (nmS b) tb)) s' → P s') :
  wpAny (model pw_ae0023_01 w) ((Ar d [] gs u).deeper (lawE L)) (exec (dS 1) (lawE L)) (fun f s' => f = .next ∧ P s') E s := by
  refine seg_of fun Z hZ => ?_
  walk_at "f"
  refine Ob12 (id x.hcu) fun ou eu du => ?_
  refine Ob12 (id x.hcr) fun or er dr => ?_
  refine Ob23 (x.gr X0 T0 [(L + 1, ou), (L + 2, or)] (allCons ⟨eu, x.mem (by simp)⟩ (allCons ⟨er, x.mem (by simp)⟩ allNil))) fun h₀ tl G F1 N1 => ?_
  have X' := G.C.X
  have T' := G.C.T
  dsimp only [List.cons_append, List.nil_append] at N1
  show wpAny _ _ (exec (Stmt.Assign [_] _ _) _) _ _ _
  walk_at "g13"
  rename Fr _ _ _ _ => F1
  rename News _ _ _ _ => N1
  rename_i D hB lD
  have gT := N1.get (.head _)
  have KE := G.kept (M := []) F1 N1 (fun p hp => .inl (by revert p; walk_at "h")) (by walk_at "H")
  have xB := x.kept1 (s' := { s with heap := hB }) KE F1.ns rfl id
  refine setItem_said (a := a) (b := b) (m := m) xB.hds (roomU hu) (tup3 gT) (fun h5 tk5 hd5 hs5 => ?_)
  have nd := xB.nd
  simp only [List.nodup_cons, List.mem_cons, List.not_mem_nil, or_false, not_or] at nd
  have nt := xB.ntx (y := ds) (by simp)
  have x5 := xB.turned (y := ds) (s' := { s with heap := h5 }) (by simp) (kept_same hs5) nt (let ⟨k, e⟩ := xB.hxl; ⟨k, (hs5.2 _ nd.2.2.2.2.1.2).trans e⟩) (fun p hp => (kept_same hs5).tup nt (xB.hla p hp)) xB.ln (xB.hdl.kept (kept_same hs5) nt fun q => nd.2.2.2.2.2.1 (List.mem_singleton.mp q)) hd5 rfl id
  clear F1 N1 G X' T' x xB KE gT nd nt hs5 hd5 eu er du dr
  walk_at "g13"
  exact hZ _ (h _ x5.tk)
theorem seg5d2 {kd pk : Int} {t t2 ta tb tm : Nat} {a b : Fin 5} {m : Fin 3} {r : Fin 7} (X0 : (K w.params).In base) (T0 : TopRead q (looseW q loose) mg mb base) (hd : d + 120 < recursionLimit) (hu : u + 300 < cLine) (I : InvS σ) (em : A.m = am) (x : LawI w base os₀ L sc so A σ xl dl ds la σ.ls σ.cond (fun x y z => if x = a ∧ y = b ∧ z = m then some r else σ.prm x y z) (tabM (tL sc xl dl ds am lv v6 v7 (some (.int kd t)) (some (.int pk t2)) (some (.str (domS m) tm)) v11 (some (.ref (rowA r))) v13 v14 v15)) (some (.str (nmS a) ta)) (some (.str (nmS b) tb)) s)
  (h : ∀ s' A' σ', InvS σ' → σ'.lv = σ.lv → A'.m = A.m → a ∈ σ'.ns → b ∈ σ'.ns → σ'.prm a b m = some r → LawI w base os₀ L sc so A' σ' xl dl ds la σ'.ls σ'.cond σ'.prm (tabM (tL sc xl dl ds am lv v6 v7 (some (.int kd t)) (some (.int pk t2)) (some (.str (domS m) tm)) v11 (some (.ref (rowA r))) v13 v14 v15)) (some (.str (nmS a) ta)) (some (.str (nmS b) tb)) s' → P s') :
  wpAny (model pw_ae0023_01 w) ((Ar d [] gs u).deeper (lawE L)) (exec (dS 2) (lawE L)) (fun f s' => f = .next ∧ P s') E s := by
  refine seg_of fun Z hZ => ?_
  subst em
  walk_at "f"
  show wpAny _ _ (exec (Stmt.If (Expr.Compare _ _ _ _) _ _ _) _) _ _ _
  refine dom_if (m := m) x rfl fun s1 x1 => ?_
  clear x s
  rename Shared => s
  by_cases hm : m = 0
  · rw [if_pos hm]
    subst hm
    refine Ob12 (id x1.hcu) fun ou eu du => ?_
    refine Ob12 (id x1.hcr) fun or er dr => ?_
    refine Ob11 (x1.R.mdO) fun m1T md => ?_
    have mH : ∀ y ∈ A.hid σ.ns, y ≠ L ∧ base.get? y = none := fun y hy => ⟨fun q => (x1.off L List.mem_cons_self).1 (q ▸ hy), x1.bh y hy⟩
    refine Ob23 (x1.gr X0 T0 [(A.m, instObj 1061 A.dm), (A.dm, mgrO w A σ m1T), (L + 1, ou), (L + 2, or)] (allCons ⟨x1.R.mi, mH _ (hid_foot foot_m)⟩ (allCons ⟨md, mH _ (hid_foot foot_dm)⟩ (allCons ⟨eu, x1.mem (by simp)⟩ (allCons ⟨er, x1.mem (by simp)⟩ allNil))))) fun h₀ tl G F1 N1 => ?_
    have X' := G.C.X
    have T' := G.C.T
    dsimp only [List.cons_append, List.nil_append] at N1
    walk_at "q"
    refine methodCall_star ?_
    walk_at "Q"
    refine callWith_MS (K := K w.params) (g := 1051) (self := .ref A.m) ?hfn ?_
    case hfn => k_dflt k_is
    walk_at "g13"
    rename Fr _ _ _ _ => F1
    rename News _ _ _ _ => N1
    refine Ob22 (row_at (X'.keeps F1.keep) r) fun its kw eW iW => ?_
    refine star_at F1 N1 eW (by rw [← Array.length_toList, ← iW.length]; exact Nat.le_trans (len_row3 r) (by decide)) (fun h8 F8 N8 => ?_)
    clear F1 N1
    refine spliced_none ⟨methP N8 (.head _) (X'.keeps F8.keep), ?_⟩
    · refine call_bound (N8.get (.head _)) ?_
      try simp only [List.append_nil, List.nil_append, List.cons_append]
      have KE := G.kept (M := []) F8 N8 (fun p hp => .inl (by revert p; walk_at "h")) (by walk_at "H")
      have x8 := x1.kept1 (s' := { s with heap := h8 }) KE F8.ns rfl id
      refine crm_set_prm (dm := 0) (td := 0) (r := r) (x8.cx X0 T0 ?c1 ?c2) ⟨fun b o e => of_hideAll _ e, fun y hy => hideAll_none _ hy, x8.R⟩ (roomD hd) (roomU hu) rfl iW (fun A2 s2 R2 p2 => ?_)
      case c1 => rfl
      case c2 => rfl
      have x2 := x8.step (frs := []) R2 (Step.toF (frs := []) (s := { s with heap := h8 }) ⟨⟨p2.post.keep, p2.post.dom, p2.post.os, p2.post.bare⟩, p2.em, p2.ra, p2.ns, p2.fresh⟩ (fun _ q => nomatch q) (fun _ q => nomatch q)) (.inl rfl)
      clear F8 N8 G X' T' x1 x8 KE md mH eu er du dr
      refine Ob23 (x2.gr X0 T0 [] allNil) fun h₀ tl G F1 N1 => ?_
      have X' := G.C.X
      have T' := G.C.T
      walk_at "g13"
      exact hZ _ (h _ _ _ (I.add.add.setP) rfl p2.em mem2a mem_add (by simp [SS.setP]) x2.tk)
  · rw [if_neg hm]
    clear hm
    refine Ob12 (id x1.hcu) fun ou eu du => ?_
    refine Ob12 (id x1.hcr) fun or er dr => ?_
    refine Ob11 (x1.R.mdO) fun m1T md => ?_
    have mH : ∀ y ∈ A.hid σ.ns, y ≠ L ∧ base.get? y = none := fun y hy => ⟨fun q => (x1.off L List.mem_cons_self).1 (q ▸ hy), x1.bh y hy⟩
    refine Ob23 (x1.gr X0 T0 [(A.m, instObj 1061 A.dm), (A.dm, mgrO w A σ m1T), (L + 1, ou), (L + 2, or)] (allCons ⟨x1.R.mi, mH _ (hid_foot foot_m)⟩ (allCons ⟨md, mH _ (hid_foot foot_dm)⟩ (allCons ⟨eu, x1.mem (by simp)⟩ (allCons ⟨er, x1.mem (by simp)⟩ allNil))))) fun h₀ tl G F1 N1 => ?_
    have X' := G.C.X
    have T' := G.C.T
    dsimp only [List.cons_append, List.nil_append] at N1
    walk_at "q"
    refine methodCall_star ?_
    walk_at "Q"
    refine callWith_MS (K := K w.params) (g := 1058) (self := .ref A.m) ?hfn ?_
    case hfn => k_dflt k_is
    walk_at "g13"
    rename Fr _ _ _ _ => F1
    rename News _ _ _ _ => N1
    refine Ob22 (row_at (X'.keeps F1.keep) r) fun its kw eW iW => ?_
    refine star_at F1 N1 eW (by rw [← Array.length_toList, ← iW.length]; exact Nat.le_trans (len_row3 r) (by decide)) (fun h8 F8 N8 => ?_)
    clear F1 N1
    refine spliced_none ⟨methP N8 (.head _) (X'.keeps F8.keep), ?_⟩
    · refine call_bound (N8.get (.head _)) ?_
      try simp only [List.append_nil, List.nil_append, List.cons_append]
      have KE := G.kept (M := []) F8 N8 (fun p hp => .inl (by revert p; walk_at "h")) (by walk_at "H")
      have x8 := x1.kept1 (s' := { s with heap := h8 }) KE F8.ns rfl id
      refine crm_set_dprm (dm := m) (r := r) (x8.cx X0 T0 ?c1 ?c2) ⟨fun b o e => of_hideAll _ e, fun y hy => hideAll_none _ hy, x8.R⟩ (roomD hd) (roomU hu) rfl iW (fun A2 s2 R2 p2 => ?_)
      case c1 => rfl
      case c2 => rfl
      have x2 := x8.step (frs := []) R2 (Step.toF (frs := []) (s := { s with heap := h8 }) ⟨⟨p2.post.keep, p2.post.dom, p2.post.os, p2.post.bare⟩, p2.em, p2.ra, p2.ns, p2.fresh⟩ (fun _ q => nomatch q) (fun _ q => nomatch q)) (.inl rfl)
      clear F8 N8 G X' T' x1 x8 KE md mH eu er du dr
      refine Ob23 (x2.gr X0 T0 [] allNil) fun h₀ tl G F1 N1 => ?_
      have X' := G.C.X
      have T' := G.C.T
      walk_at "g13"
      exact hZ _ (h _ _ _ (I.add.add.setP) rfl p2.em mem2a mem_add (by simp [SS.setP]) x2.tk)
theorem seg5d3 {kd pk : Int} {t t2 ta tb tm : Nat} {a b : Fin 5} {m : Fin 3} {r : Fin 7} (X0 : (K w.params).In base) (T0 : TopRead q (looseW q loose) mg mb base) (hd : d + 120 < recursionLimit) (hu : u + 300 < cLine) (em : A.m = am) (ha : a ∈ σ.ns) (hb : b ∈ σ.ns) (hr : σ.prm a b m = some r) (x : LawI w base os₀ L sc so A σ xl dl ds la σ.ls σ.cond σ.prm (tabM (tL sc xl dl ds am lv v6 v7 (some (.int kd t)) (some (.int pk t2)) (some (.str (domS m) tm)) v11 (some (.ref (rowA r))) v13 v14 v15)) (some (.str (nmS a) ta)) (some (.str (nmS b) tb)) s)
  (h : ∀ s', LawI w base os₀ L sc so A σ xl dl ds la σ.ls σ.cond σ.prm (tabM (tL sc xl dl ds am lv v6 v7 (some (.int kd t)) (some (.int pk t2)) (some (.str (domS m) tm)) v11 (some (.ref (rowA r))) v13 v14 v15)) (some (.str (nmS a) ta)) (some (.str (nmS b) tb)) s' → P s') :
  wpAny (model pw_ae0023_01 w) ((Ar d [] gs u).deeper (lawE L)) (exec (dS 3) (lawE L)) (fun f s' => f = .next ∧ P s') E s := by
  refine seg_of fun Z hZ => ?_
  subst em
  walk_at "f"
  have x1 := x
  refine Ob12 (id x1.hcu) fun ou eu du => ?_
  refine Ob12 (id x1.hcr) fun or er dr => ?_
  refine Ob11 (x1.R.mdO) fun m1T md => ?_
  have mH : ∀ y ∈ A.hid σ.ns, y ≠ L ∧ base.get? y = none := fun y hy => ⟨fun q => (x1.off L List.mem_cons_self).1 (q ▸ hy), x1.bh y hy⟩
  refine Ob23 (x1.gr X0 T0 [(A.m, instObj 1061 A.dm), (A.dm, mgrO w A σ m1T), (L + 1, ou), (L + 2, or)] (allCons ⟨x1.R.mi, mH _ (hid_foot foot_m)⟩ (allCons ⟨md, mH _ (hid_foot foot_dm)⟩ (allCons ⟨eu, x1.mem (by simp)⟩ (allCons ⟨er, x1.mem (by simp)⟩ allNil))))) fun h₀ tl G F1 N1 => ?_
  have X' := G.C.X
  have T' := G.C.T
  dsimp only [List.cons_append, List.nil_append] at N1
  show wpAny _ _ (exec (Stmt.If _ _ _ _) _) _ _ _
  walk_at "g13"
  rename Fr _ _ _ _ => F1
  rename News _ _ _ _ => N1
  rename_i D hB lD
  have gD := N1 _ (.head _)
  have KE := G.kept (M := []) F1 N1 (fun p hp => .inl (by revert p; walk_at "h")) (by walk_at "H")
  have xB := x.kept1 (s' := { s with heap := hB }) KE F1.ns rfl id
  refine crm_prmL (dm := m) (xB.cxx (xs := D :: A.hid σ.ns) X0 T0 (fun y hy => (List.mem_cons.mp hy).elim (fun q => q ▸ ⟨gD.2.1, baseNone G gD.2.2⟩) (mH y)) ?c1 ?c2) ⟨fun b o e => of_hideAll _ e, fun y hy => hideAll_none _ (List.mem_cons_of_mem _ hy), xB.R⟩ (roomD hd) (roomU hu) ha hb ⟨gD.1, hideAll_none _ List.mem_cons_self⟩ (fun s2 l its kk R2 p2 e2 i2 _ => ?_)
  case c1 => rfl
  case c2 => rfl
  rw [hr] at i2
  replace F1 := F1.keeps p2.all
  replace N1 := N1.grown p2.all
  have x2 := xB.post p2
  clear KE xB x x1
  walk_at "g13"
  refine Ob22 (row_at (X'.keeps F1.keep) r) fun it2 kw eW iW => ?_
  refine ne_words e2 eW i2 iW (by show u + 3 < cLine; omega) ?_
  walk_at "g13"
  exact hZ _ (h _ x2.tk)
theorem seg5d {kd pk : Int} {t t2 ta tb tm : Nat} {a b : Fin 5} {m : Fin 3} (X0 : (K w.params).In base) (T0 : TopRead q (looseW q loose) mg mb base) (hd : d + 120 < recursionLimit) (hu : u + 300 < cLine) (I : InvS σ) (em : A.m = am) (hk : 10 ≤ kd) (x : LawI w base os₀ L sc so A σ xl dl ds la σ.ls σ.cond σ.prm (tabM (tL sc xl dl ds am lv v6 v7 (some (.int kd t)) (some (.int pk t2)) (some (.str (domS m) tm)) v11 v12 v13 v14 v15)) (some (.str (nmS a) ta)) (some (.str (nmS b) tb)) s)
  (h : ∀ s' A' σ' xl' la' c11 c12, InvS σ' → σ'.lv = σ.lv → A'.m = A.m → LawI w base os₀ L sc so A' σ' xl' dl ds la' σ'.ls σ'.cond σ'.prm (tabM (tL sc xl' dl ds am lv v6 v7 (some (.int kd t)) (some (.int pk t2)) (some (.str (domS m) tm)) c11 c12 v13 v14 v15)) (some (.str (nmS a) ta)) (some (.str (nmS b) tb)) s' → P s') :
  wpAny (model pw_ae0023_01 w) ((Ar d [] gs u).deeper (lawE L)) (exec (tS 5) (lawE L)) (fun f s' => f = .next ∧ P s') E s := by
  show wpAny _ _ (exec (Stmt.If (Expr.Compare _ _ _ _) _ _ _) _) _ _ _
  refine kind_if x rfl fun s1 x1 => ?_
  rw [if_neg (by omega)]
  refine run_one ?_
  refine kind_if x1 rfl fun s2 x2 => ?_
  rw [if_neg (by omega)]
  refine run_one ?_
  refine kind_if x2 rfl fun s3 x3 => ?_
  rw [if_neg (by omega)]
  refine run_cons (seg5d0 X0 T0 hd hu x3 fun s4 r x4 => ?_)
  refine run_cons (seg5d1 X0 T0 hd hu x4 fun s5 x5 => ?_)
  refine run_cons (seg5d2 X0 T0 hd hu I em x5 fun s6 A6 σ6 I6 l6 m6 ha6 hb6 hr6 x6 => ?_)
  refine run_one (seg5d3 X0 T0 hd hu (m6.trans em) ha6 hb6 hr6 x6 fun s7 x7 => ?_)
  exact ⟨rfl, rfl, rfl, h _ _ _ _ _ _ _ I6 l6 m6 x7⟩
end
end
section
open SeqAt
section
variable {w : World} {mg mb : PySem.Str → Option Value} {base : Heap} {os₀ : OsState} {d u : Nat} {gs : Option (List Code)} {E : Value → Shared → Prop} {s : Shared} {A : AD} {σ : SS} {L sc xl dl ds am : Addr} {so : SO} {la : Pr → Addr} {ls : List Pr} {lc : Fin 5 → Fin 5 → Fin 3 → Option (Fin 3)} {lp : Fin 5 → Fin 5 → Fin 3 → Option (Fin 7)}
  {lv : Value} {v6 v7 v8 v9 v10 v11 v12 v13 v14 v15 : Option Value} {cu cr : Option Value} {P : Shared → Prop}
theorem seg4 {kd pk : Int} {t t2 ta tb : Nat} {a b : Fin 5} (X0 : (K w.params).In base) (T0 : TopRead q (looseW q loose) mg mb base) (hd : d + 60 < recursionLimit) (hu : u + 150 < cLine) (x : LawI w base os₀ L sc so A σ xl dl ds la ls lc lp (tabM (tL sc xl dl ds am lv v6 v7 (some (.int kd t)) (some (.int pk t2)) v10 v11 v12 v13 v14 v15)) (some (.str (nmS a) ta)) (some (.str (nmS b) tb)) s)
  (h : ∀ s' a b ta tb, LawI w base os₀ L sc so A σ xl dl ds la ls lc lp (tabM (tL sc xl dl ds am lv v6 v7 (some (.int kd t)) (some (.int pk t2)) v10 v11 v12 v13 v14 v15)) (some (.str (nmS a) ta)) (some (.str (nmS b) tb)) s' → P s') :
  wpAny (model pw_ae0023_01 w) ((Ar d [] gs u).deeper (lawE L)) (exec (tS 4) (lawE L)) (fun f s' => f = .next ∧ P s') E s := by
  refine seg_of fun Z hZ => ?_
  walk_at "f"
  refine Ob12 (id x.hcu) fun ou eu du => ?_
  refine Ob12 (id x.hcr) fun or er dr => ?_
  refine Ob11 (id x.hxl) fun kx ex => ?_
  refine Ob23 (x.gr X0 T0 [(xl, listOf (prL la ls) kx), (L + 1, ou), (L + 2, or)] (allCons ⟨ex, x.mem (by simp)⟩ (allCons ⟨eu, x.mem (by simp)⟩ (allCons ⟨er, x.mem (by simp)⟩ allNil)))) fun h₀ tl G F1 N1 => ?_
  have X' := G.C.X
  have T' := G.C.T
  dsimp only [List.cons_append, List.nil_append] at N1
  show wpAny _ _ (exec (Stmt.If _ _ _ _) _) _ _ _
  have lz : ls.length ≤ 25 := len_pr x.ln
  by_cases hk : 5 < kd
  · walk_at "g11"
    rename Fr _ _ _ _ => F1
    rename News _ _ _ _ => N1
    refine ne_empty (N1.get (show (xl, listOf (prL la ls) kx) ∈ _ from by walk_at "n")) (N1.get (.head _)) (by show u + 3 < cLine; omega) ?_
    have hsz : (prL la ls).size = ls.length := by simp [prL]
    by_cases hz : (prL la ls).size ≠ 0
    · rw [decide_eq_true hz]
      have hs1 : (prL la ls).size ≤ 25 := by omega
      have hs2 : (0 : Int) < ((prL la ls).size : Int) := by omega
      walk_at "g11"
      · rename Fr _ _ _ _ => F1
        rename News _ _ _ _ => N1
        have KE := G.kept (M := []) F1 N1 (fun p hp => .inl (by revert p; walk_at "h")) (by walk_at "H")
        have hf : 0 ≤ pk.fmod (ls.length : Int) ∧ pk.fmod (ls.length : Int) < (ls.length : Int) := fmod_lt _ (by omega)
        have hjl : (pk.fmod (ls.length : Int)).toNat < ls.length := by omega
        have hp : ls[(pk.fmod (ls.length : Int)).toNat] ∈ ls := List.getElem_mem hjl
        refine item_listR (x := .ref (la (ls[(pk.fmod (ls.length : Int)).toNat]))) ⟨_, N1.get (show (xl, listOf (prL la ls) kx) ∈ _ from by walk_at "n"), rfl, _, rfl⟩ hf.1 (by omega) (by simp [prL, hjl]) ?_
        walk_at "g11"
        have nL1 : NoTup [L] s.heap := fun b o vs n e hc hd q => x.nt3 b o vs n e hc hd (by rw [show b = L from List.mem_singleton.mp q]; simp)
        refine Ob21 (isTup2 (KE.tup nL1 (x.hla _ hp))) fun tu tr tT => ?_
        refine assign_Tuple_tuple rfl tT rfl rfl fun h5 he5 => ?_
        have ext5 : ∀ b o, _ = some o → h5.get? b = some o := fun b o e => he5 b o (Nat.ne_of_lt (Heap.lt_size e)) e
        refine assignInOrder_cons (wpAny_assign_Name ((x.kept1 (s' := { s with heap := h5, toks := _ }) (fun b o e n => ext5 b o (KE b o e n)) (F1.ns.at' fun o e => ext5 _ o e) rfl id).stU fun h6 x6 => ?_))
        refine assignInOrder_cons (wpAny_assign_Name (x6.stR fun h7 x7 => ?_))
        exact assignInOrder_nil (wpAny_execs_nil (hZ _ (h _ _ _ _ _ x7)))
      · walk_at "g11"
        rename Fr _ _ _ _ => F1
        rename News _ _ _ _ => N1
        have KE := G.kept (M := []) F1 N1 (fun p hp => .inl (by revert p; walk_at "h")) (by walk_at "H")
        exact hZ _ (h _ _ _ _ _ (x.kept1 (s' := { s with heap := _, toks := _ }) KE F1.ns rfl id))
    · rw [decide_eq_false hz]
      walk_at "g11"
      rename Fr _ _ _ _ => F1
      rename News _ _ _ _ => N1
      have KE := G.kept (M := []) F1 N1 (fun p hp => .inl (by revert p; walk_at "h")) (by walk_at "H")
      exact hZ _ (h _ _ _ _ _ (x.kept1 (s' := { s with heap := _, toks := _ }) KE F1.ns rfl id))
  · walk_at "g11"
    walk_at "g11"
    rename Fr _ _ _ _ => F1
    rename News _ _ _ _ => N1
    have KE := G.kept (M := []) F1 N1 (fun p hp => .inl (by revert p; walk_at "h")) (by walk_at "H")
    exact hZ _ (h _ _ _ _ _ (x.kept1 (s' := { s with heap := _, toks := _ }) KE F1.ns rfl id))
end
end
section
open SeqAt
section
variable {w : World} {base : Heap} {os₀ : OsState} {L sc xl dl ds D : Addr} {so o o' : Obj} {xs ys : List (Addr × Obj)} {A : AD} {σ : SS} {la : Pr → Addr} {ls : List Pr} {lc : Fin 5 → Fin 5 → Fin 3 → Option (Fin 3)} {lp : Fin 5 → Fin 5 → Fin 3 → Option (Fin 7)}
  {mm mm' : PySem.Str → Option Value} {cu cr : Option Value} {s s' : Shared}
theorem LawI.more (x : LawI w base os₀ L sc ⟨so, xs⟩ A σ xl dl ds la ls lc lp mm cu cr s) (k : Kept [L] s.heap s'.heap) (hn : s'.heap.Ns L mm') (hD : s.heap.get? D = none) (gD : s'.heap.get? D = some o) (ho : s'.os = s.os) (hb : AllBare s.gens → AllBare s'.gens) :
    LawI w base os₀ L sc ⟨so, (D, o) :: xs⟩ A σ xl dl ds la ls lc lp mm' cu cr s' := by
  have y := x.kept1 (s' := s') k hn ho hb
  have n1 : D ∉ [L, L + 1, L + 2, sc, xl, dl, ds] := fun q => by obtain ⟨o, e⟩ := x.has D q; rw [hD] at e; cases e
  have n2 : base.get? D = none := by
    cases q : base.get? D with
    | none => rfl
    | some o => have := x.bs _ _ q; rw [hD] at this; cases this
  exact { ns := y.ns, bs := y.bs, R := y.R, hso := y.hso, hxl := y.hxl, hla := y.hla, ln := y.ln, hdl := y.hdl, hds := y.hds, hcu := y.hcu, hcr := y.hcr, osc := y.osc, off := y.off, bh := y.bh, nd := y.nd, bl := y.bl, lo := y.lo, os := y.os, ge := y.ge,
          hx := fun p hp => (List.mem_cons.mp hp).elim (fun q => q ▸ gD) fun q => y.hx p q,
          hf := fun p hp => (List.mem_cons.mp hp).elim (fun q => q ▸ ⟨n1, notHid x.R hD, n2, x.R.farNone hD⟩) fun q => y.hf p q }
theorem LawI.push (x : LawI w base os₀ L sc ⟨so, xs⟩ A σ xl dl ds la ls lc lp mm cu cr s) (o : Obj) (hf : o.isFreed = false) {t : Nat} : LawI w base os₀ L sc ⟨so, (s.heap.objs.size, o) :: xs⟩ A σ xl dl ds la ls lc lp mm cu cr { s with heap := s.heap.push o, toks := t } :=
  x.more (s' := { s with heap := s.heap.push o, toks := t }) (fun b o e _ => Heap.get?_push_of_some _ e) (x.ns.push _) (Heap.get?_none_of_le (Nat.le_refl _)) (Heap.get?_push_size _ hf) rfl id
theorem LawI.drop (x : LawI w base os₀ L sc ⟨so, xs⟩ A σ xl dl ds la ls lc lp mm cu cr s) (h : ∀ p ∈ ys, p ∈ xs) : LawI w base os₀ L sc ⟨so, ys⟩ A σ xl dl ds la ls lc lp mm cu cr s :=
  { ns := x.ns, bs := x.bs, R := x.R, hso := x.hso, hxl := x.hxl, hla := x.hla, ln := x.ln, hdl := x.hdl, hds := x.hds, hcu := x.hcu, hcr := x.hcr, osc := x.osc, off := x.off, bh := x.bh, nd := x.nd, bl := x.bl, lo := x.lo, os := x.os, ge := x.ge,
    hx := fun p hp => x.hx p (h p hp), hf := fun p hp => x.hf p (h p hp) }
theorem LawI.last (x : LawI w base os₀ L sc ⟨so, (D, o) :: xs⟩ A σ xl dl ds la ls lc lp mm cu cr s) (k : Kept [L, D] s.heap s'.heap) (hn : s'.heap.Ns L mm') (nt : o.cls ≠ .type "tuple") (hne : ∀ p ∈ xs, p.1 ≠ D) (ho : s'.os = s.os) (hb : AllBare s.gens → AllBare s'.gens) :
    LawI w base os₀ L sc ⟨so, xs⟩ A σ xl dl ds la ls lc lp mm' cu cr s' := by
  have hD := x.hx (D, o) List.mem_cons_self
  obtain ⟨hf, h1, h2, h3, h4⟩ := x.hf (D, o) List.mem_cons_self
  dsimp only at hD hf h1 h2 h3 h4
  have hL0 := (x.off L List.mem_cons_self)
  simp only [List.mem_cons, List.not_mem_nil, or_false, not_or] at hf
  have nd := x.nd
  simp only [List.nodup_cons, List.mem_cons, List.not_mem_nil, or_false, not_or] at nd
  have nM : ∀ {y : Addr}, y ≠ L → y ≠ D → y ∉ [L, D] := fun a b q => by
    rcases List.mem_cons.mp q with q | q
    · exact a q
    · exact b (List.mem_singleton.mp q)
  have ntM : NoTup [L, D] s.heap := fun b oo vs n e hc hd q => by
    rcases List.mem_cons.mp q with q | q
    · exact x.nt3 b oo vs n e hc hd (by rw [q]; exact List.mem_cons_self)
    · rw [List.mem_singleton.mp q, hD] at e; cases e; exact nt hc
  exact { ns := hn,
          bs := fun b oo e => k b oo (x.bs b oo e) (nM (fun q => by rw [q, hL0.2.1] at e; cases e) fun q => by rw [q, h2] at e; cases e),
          R := x.R.kept k ntM (fun y hy q => (List.mem_cons.mp q).elim (fun q => hL0.1 (q ▸ hy)) fun q => h1 (List.mem_singleton.mp q ▸ hy)) (nM (fun q => hL0.2.2.1 q.symm) fun q => h3 q.symm) (nM (fun q => hL0.2.2.2 q.symm) fun q => h4 q.symm),
          hso := ⟨k _ _ x.hso.1 (nM (Ne.symm nd.1.2.2.1) (Ne.symm hf.2.2.2.1)), x.hso.2⟩,
          hxl := (let ⟨kk, e⟩ := x.hxl; ⟨kk, k _ _ e (nM (Ne.symm nd.1.2.2.2.1) (Ne.symm hf.2.2.2.2.1))⟩),
          hla := fun p hp => k.tup ntM (x.hla p hp), ln := x.ln,
          hdl := x.hdl.kept k ntM (nM (Ne.symm nd.1.2.2.2.2.1) (Ne.symm hf.2.2.2.2.2.1)), hds := x.hds.kept k ntM (nM (Ne.symm nd.1.2.2.2.2.2) (Ne.symm hf.2.2.2.2.2.2)),
          hcu := (let ⟨oo, e, d⟩ := x.hcu; ⟨oo, k _ _ e (nM (Ne.symm nd.1.1) (Ne.symm hf.2.1)), d⟩), hcr := (let ⟨oo, e, d⟩ := x.hcr; ⟨oo, k _ _ e (nM (Ne.symm nd.1.2.1) (Ne.symm hf.2.2.1)), d⟩),
          osc := x.osc, off := x.off, bh := x.bh, nd := x.nd, bl := x.bl, lo := x.lo, os := ho.trans x.os, ge := hb x.ge,
          hx := fun p hp => k _ _ (x.hx p (List.mem_cons_of_mem _ hp)) (nM (fun z => (x.hf p (List.mem_cons_of_mem _ hp)).1 (z ▸ List.mem_cons_self)) (hne p hp)),
          hf := fun p hp => x.hf p (List.mem_cons_of_mem _ hp) }
theorem LawI.iter (x : LawI w base os₀ L sc ⟨so, (D, o) :: xs⟩ A σ xl dl ds la ls lc lp mm cu cr s) (k : Kept [L, D] s.heap s'.heap) (hn : s'.heap.Ns L mm') (nt : o.cls ≠ .type "tuple") (gD : s'.heap.get? D = some o') (hne : ∀ p ∈ xs, p.1 ≠ D) (ho : s'.os = s.os) (hb : AllBare s.gens → AllBare s'.gens) :
    LawI w base os₀ L sc ⟨so, (D, o') :: xs⟩ A σ xl dl ds la ls lc lp mm' cu cr s' :=
  let y := x.last k hn nt hne ho hb
  { ns := y.ns, bs := y.bs, R := y.R, hso := y.hso, hxl := y.hxl, hla := y.hla, ln := y.ln, hdl := y.hdl, hds := y.hds, hcu := y.hcu, hcr := y.hcr, osc := y.osc, off := y.off, bh := y.bh, nd := y.nd, bl := y.bl, lo := y.lo, os := y.os, ge := y.ge,
    hx := fun p hp => (List.mem_cons.mp hp).elim (fun q => q ▸ gD) (y.hx p),
    hf := fun p hp => (List.mem_cons.mp hp).elim (fun q => q ▸ x.hf (D, o) List.mem_cons_self) (y.hf p) }
end
section
variable {w : World} {A : Around} {E : Value → Shared → Prop} {s : Shared} {env : Env} {L I : Addr} {R : Result → Shared → Prop}
theorem for_lst {x : PySem.Str} {px : Pos} {body : List Stmt} {ax : Addr} {items : Array Value} (hh : A.handled = none) (hL : env.locals = L) (hxl : env.kindOf x = some .local) (hp : (env.scope.kind == .class || (env.scope.kind == .module && env.locals != env.globals)) = false)
    (hIL : I ≠ L) (J : Nat → (PySem.Str → Option Value) → Shared → Prop) (hJn : ∀ i m s', J i m s' → s'.heap.Ns L m ∧ s'.heap.IsList ax items ∧ s'.heap.IsListIter I ax i)
    (h0 : ∃ m, J 0 m s)
    (turn : ∀ i v m s' h₂ tk₂ E', items[i]? = some v → J i m s' → Kept [L, I] s'.heap h₂ → h₂.Ns L (fmap m x v) → h₂.IsListIter I ax (i + 1) →
      wpAny (model pw_ae0023_01 w) A (execs body env) (fun f s₃ => f = .next ∧ ∃ m', J (i + 1) m' s₃) E' { s' with heap := h₂, toks := tk₂ })
    (hR : ∀ m s' h₂, J items.size m s' → Kept [I] s'.heap h₂ → h₂.Ns L m → R (.ok .next) { s' with heap := h₂ }) :
    codeAny (model pw_ae0023_01 w) A (.forLoop (.Name x px) (.ref I) body [] env) R s := by
  subst hL
  obtain ⟨m₀, h0⟩ := h0
  refine codeAny_forLoop (fun k s' => ∃ i m, k = items.size + 1 - i ∧ i ≤ items.size ∧ J i m s') ?_ (items.size + 1) ⟨0, m₀, rfl, Nat.zero_le _, h0⟩
  rintro k s' ⟨i, m, rfl, hi, hJ⟩
  obtain ⟨hn', hl', hit'⟩ := hJn _ _ _ hJ
  by_cases hlt : i < items.size
  · have hv : items[i]? = some items[i] := Array.getElem?_eq_getElem hlt
    refine wpAny_pyNext_list_item hit' hl' hv fun h₁ hit₁ hs₁ => ?_
    refine wpAny_assign_Name (wpAny_storeName_local hxl (hn'.sameBut hs₁ (Ne.symm hIL)) (fun h₂ hn₂ hs₂ => ?_) hp)
    have it₂ : h₂.IsListIter I ax (i + 1) := by obtain ⟨o, e, r⟩ := hit₁; exact ⟨o, (hs₂.2 I hIL).trans e, r⟩
    refine wpAny_mono (turn i items[i] m s' h₂ _ _ hv hJ (fun b o e nn => ?_) hn₂ it₂) (fun f s₃ h₃ => ?_) fun _ _ e => e
    · exact (hs₂.2 b fun q => nn (by rw [show b = env.locals from q]; exact List.mem_cons_self)).trans ((hs₁.2 b fun q => nn (by rw [show b = I from q]; exact List.mem_cons_of_mem _ List.mem_cons_self)).trans e)
    · obtain ⟨rfl, m', hJ'⟩ := h₃
      exact ⟨_, by first | exact Nat.sub_lt_sub_left (Nat.lt_succ_of_lt hlt) (Nat.lt_succ_self _) | omega, i + 1, m', rfl, hlt, hJ'⟩
  · obtain rfl : i = items.size := by first | exact Nat.le_antisymm (by assumption) (Nat.le_of_not_lt (by assumption)) | omega
    refine wpAny_pyNext_list_end hh hit' hl' (by simp) fun h₁ he₁ => wpAny_execs_nil ?_
    exact hR m s' h₁ hJ (fun b o e nn => he₁ b o (fun q => nn (List.mem_singleton.mpr q)) e) (hn'.at' fun o e => he₁ _ o (Ne.symm hIL) e)
end
end
section
open SeqAt
noncomputable section
def bS (i : Nat) : Stmt := lawBody.getD i default
end
theorem turnBody_is : turnBody = [tS 0, tS 1, tS 2, tS 3, tS 4, tS 5, tS 6, tS 7] := by kernel_rfl
theorem lawBody_is : lawBody = [bS 0, bS 1, bS 2, bS 3, bS 4, bS 5, bS 6, bS 7] := by kernel_rfl
abbrev rIt (i n : Nat) : Obj := { cls := .type "range_iterator", data := .fields #[rawInt ((i : Nat) : Int), rawInt ((n : Int) - ((i : Nat) : Int)), rawInt 1] }
inductive HaltAt (w : World) (base : Heap) (os₀ : OsState) (L sc : Addr) (so : Obj) (xs : List (Addr × Obj)) (dl ds am : Addr) (n tl : Nat) (m : PySem.Str → Option Value) (s : Shared) : Prop
  | mk (A : AD) (σ : SS) (xl : Addr) (la : Pr → Addr) (cu cr v6 v7 v8 v9 v10 v11 v12 v13 v14 v15 : Option Value) (I : InvS σ) (hn : σ.lv = n) (em : A.m = am) (e : m = tabM (tL sc xl dl ds am (.int n tl) v6 v7 v8 v9 v10 v11 v12 v13 v14 v15))
    (x : LawI w base os₀ L sc ⟨so, xs⟩ A σ xl dl ds la σ.ls σ.cond σ.prm m cu cr s) : HaltAt w base os₀ L sc so xs dl ds am n tl m s
theorem HaltAt.ns {w : World} {base : Heap} {os₀ : OsState} {L sc : Addr} {so : Obj} {xs : List (Addr × Obj)} {dl ds am : Addr} {n tl : Nat} {m : PySem.Str → Option Value} {s : Shared} (x : HaltAt w base os₀ L sc so xs dl ds am n tl m s) : s.heap.Ns L m := by
  obtain ⟨_, _, _, _, _, _, _, _, _, _, _, _, _, _, _, _, _, _, _, _, x⟩ := x; exact x.ns
theorem HaltAt.hx {w : World} {base : Heap} {os₀ : OsState} {L sc : Addr} {so : Obj} {xs : List (Addr × Obj)} {dl ds am : Addr} {n tl : Nat} {m : PySem.Str → Option Value} {s : Shared} (x : HaltAt w base os₀ L sc so xs dl ds am n tl m s) : ∀ p ∈ xs, s.heap.get? p.1 = some p.2 := by
  obtain ⟨_, _, _, _, _, _, _, _, _, _, _, _, _, _, _, _, _, _, _, _, x⟩ := x; exact x.hx
end
section
open SeqAt
section
variable {w : World} {mg mb : PySem.Str → Option Value} {base : Heap} {os₀ : OsState} {d u : Nat} {gs : Option (List Code)} {E : Value → Shared → Prop} {s : Shared} {A : AD} {σ : SS} {L sc xl dl ds am : Addr} {so : SO} {la : Pr → Addr} {ls : List Pr} {lc : Fin 5 → Fin 5 → Fin 3 → Option (Fin 3)} {lp : Fin 5 → Fin 5 → Fin 3 → Option (Fin 7)}
  {lv : Value} {v6 v7 v8 v9 v10 v11 v12 v13 v14 v15 : Option Value} {cu cr : Option Value} {P : Shared → Prop}
theorem seg5 {kd pk : Int} {t t2 ta tb tm : Nat} {a b : Fin 5} {m : Fin 3} (X0 : (K w.params).In base) (T0 : TopRead q (looseW q loose) mg mb base) (hd : d + 120 < recursionLimit) (hu : u + 300 < cLine) (I : InvS σ) (em : A.m = am)  (x : LawI w base os₀ L sc so A σ xl dl ds la σ.ls σ.cond σ.prm (tabM (tL sc xl dl ds am lv v6 v7 (some (.int kd t)) (some (.int pk t2)) (some (.str (domS m) tm)) v11 v12 v13 v14 v15)) (some (.str (nmS a) ta)) (some (.str (nmS b) tb)) s)
  (h : ∀ s' A' σ' xl' la' c11 c12, InvS σ' → σ'.lv = σ.lv → A'.m = A.m → LawI w base os₀ L sc so A' σ' xl' dl ds la' σ'.ls σ'.cond σ'.prm (tabM (tL sc xl' dl ds am lv v6 v7 (some (.int kd t)) (some (.int pk t2)) (some (.str (domS m) tm)) c11 c12 v13 v14 v15)) (some (.str (nmS a) ta)) (some (.str (nmS b) tb)) s' → P s') :
  wpAny (model pw_ae0023_01 w) ((Ar d [] gs u).deeper (lawE L)) (exec (tS 5) (lawE L)) (fun f s' => f = .next ∧ P s') E s := by
  by_cases h5 : kd < 5
  · exact seg5a X0 T0 hd hu I em h5 x h
  · by_cases h7 : kd < 7
    · exact seg5b X0 T0 hd hu I em ⟨by omega, h7⟩ x h
    · by_cases h10 : kd < 10
      · exact seg5c X0 T0 hd hu I em ⟨by omega, h10⟩ x h
      · exact seg5d X0 T0 hd hu I em (by omega) x h
end
section
variable {w : World} {mg mb : PySem.Str → Option Value} {base : Heap} {os₀ : OsState} {d u : Nat} {gs : Option (List Code)} {E : Value → Shared → Prop} {s : Shared} {A : AD} {σ : SS} {L sc xl dl ds am : Addr} {so : Obj} {xs : List (Addr × Obj)} {la : Pr → Addr}
  {lv : Value} {v6 v7 v8 v9 v10 v11 v12 v13 v14 v15 : Option Value} {cu cr : Option Value} {P : Shared → Prop} {vs : List Value} {ns : List Int} {ks n tv : Nat}
theorem turn {i ti : Nat} (X0 : (K w.params).In base) (T0 : TopRead q (looseW q loose) mg mb base) (hd : d + 120 < recursionLimit) (hu : u + 300 < cLine) (hso : so = listOf vs.toArray ks) (hz : ns.length ≤ 63) (hI : IntsAre vs ns)
  (I : InvS σ) (hn : σ.lv = n) (elv : lv = .int n tv) (em : A.m = am) (x : LawI w base os₀ L sc ⟨so, xs⟩ A σ xl dl ds la σ.ls σ.cond σ.prm (tabM (tL sc xl dl ds am lv (some (.int (i : Int) ti)) v7 v8 v9 v10 v11 v12 v13 v14 v15)) cu cr s)
  (h : ∀ s' m', HaltAt w base os₀ L sc so xs dl ds am n tv m' s' → P s') :
  wpAny (model pw_ae0023_01 w) ((Ar d [] gs u).deeper (lawE L)) (execs turnBody (lawE L)) (fun f s' => f = .next ∧ P s') E s := by
  rw [turnBody_is]
  refine run_cons (seg0 (vs := vs) (ns := ns) (ks := ks) X0 T0 (roomS hd) (roomS hu) x hso hz hI fun s0 j t0 x0 => ?_)
  refine run_cons (seg1 X0 T0 (roomS hd) (roomS hu) x0 fun s1 t1 x1 => ?_)
  refine run_cons (seg2 X0 T0 (roomS hd) (roomS hu) x1 fun s2 t2 x2 => ?_)
  refine run_cons (seg3 X0 T0 (roomS hd) (roomS hu) x2 fun s3 a b m ta tb tm x3 => ?_)
  refine run_cons (seg4 X0 T0 (roomS hd) (roomS hu) x3 fun s4 a4 b4 ta4 tb4 x4 => ?_)
  refine run_cons (seg5 X0 T0 (roomS hd) (roomS hu) I em x4 fun s5 A5 σ5 xl5 la5 c11 c12 I5 l5 m5 x5 => ?_)
  refine run_cons (seg6 X0 T0 (roomS hd) (roomS hu) x5 fun s6 a6 b6 m6 ta6 tb6 tm6 x6 => ?_)
  refine run_one (seg7 (tl := tv) X0 T0 (roomS hd) (roomS hu) (by rw [elv, l5, hn]) I5.lv I5.io (m5.trans em) x6 fun s7 A7 σ7 h7 m7 x7 => ?_)
  have I7 : InvS σ7 := by rcases h7 with rfl | rfl; exact I5; exact I5.add.add
  have l7 : σ7.lv = n := by rcases h7 with rfl | rfl; exact l5.trans hn; exact l5.trans hn
  subst elv
  exact ⟨rfl, h _ _ ⟨A7, σ7, xl5, la5, _, _, _, _, _, _, _, _, _, _, _, _, I7, l7, m7.trans (m5.trans em), rfl, x7⟩⟩
theorem loop12 (X0 : (K w.params).In base) (T0 : TopRead q (looseW q loose) mg mb base) (hd : d + 120 < recursionLimit) (hu : u + 300 < cLine) (hso : so = listOf vs.toArray ks) (hz : ns.length ≤ 63) (hI : IntsAre vs ns)
  (I : InvS σ) (hn : σ.lv = n) (elv : lv = .int n tv) (em : A.m = am) (x : LawI w base os₀ L sc ⟨so, []⟩ A σ xl dl ds la σ.ls σ.cond σ.prm (tabM (tL sc xl dl ds am lv v6 v7 v8 v9 v10 v11 v12 v13 v14 v15)) cu cr s)
  (h : ∀ s' m', HaltAt w base os₀ L sc so [] dl ds am n tv m' s' → P s') :
  wpAny (model pw_ae0023_01 w) ((Ar d [] gs u).deeper (lawE L)) (exec (bS 5) (lawE L)) (fun f s' => f = .next ∧ P s') E s := by
  subst elv
  refine seg_of fun Z hZ => ?_
  walk_at "f"
  refine Ob12 (id x.hcu) fun ou eu du => ?_
  refine Ob12 (id x.hcr) fun or er dr => ?_
  refine Ob23 (x.gr X0 T0 [(L + 1, ou), (L + 2, or)] (allCons ⟨eu, x.mem (by simp)⟩ (allCons ⟨er, x.mem (by simp)⟩ allNil))) fun h₀ tl G F1 N1 => ?_
  have X' := G.C.X
  have T' := G.C.T
  dsimp only [List.cons_append, List.nil_append] at N1
  show wpAny _ _ (exec (Stmt.For _ _ _ _ _) _) _ _ _
  refine wpAny_For ?_ (by intro _; rfl)
  walk_at "g13"
  rename IsRange _ _ _ _ _ _ _ _ => hr
  rename Fr _ _ _ _ => F1
  rename News _ _ _ _ => N1
  have KE := G.kept (M := []) F1 N1 (fun p hp => .inl (by revert p; walk_at "h")) (by walk_at "H")
  refine wpAny_pyIter_range hr rfl ?_
  rename_i hB tkB t1 u1 v1 kB
  rw [show Builtin.Range.rangeSize 0 12 1 = 12 from rfl]
  have xB := x.kept1 (s' := { s with heap := hB, toks := tkB }) KE F1.ns rfl id
  have xP := xB.push (rIt 0 12) rfl (t := tkB)
  have hIL : @Ne Addr hB.objs.size L := fun q => (xP.hf _ List.mem_cons_self).1 (by rw [show ((hB.objs.size, rIt 0 12) : Addr × Obj).1 = L from q]; exact List.mem_cons_self)
  clear F1 N1 G X' T' x xB KE hr eu er du dr
  refine for_rng (n := 12) (L := L) (I := hB.objs.size) rfl rfl rfl rfl hIL (fun i mm s' => HaltAt w base os₀ L sc so [(hB.objs.size, rIt i 12)] dl ds am n tv mm s') (fun i mm s' hx => hx.ns) (Heap.get?_push_size _ rfl) ⟨_, A, σ, xl, la, cu, cr, _, _, _, _, _, _, _, _, _, _, I, hn, em, rfl, xP⟩ ?turn ?hR
  case turn =>
    rintro i mm s' h₂ tk₂ tk E' hi ⟨A2, σ2, xl2, la2, cu2, cr2, w6, w7, w8, w9, w10, w11, w12, w13, w14, w15, I2, l2, m2, rfl, x2⟩ K2 hn2 it2
    rw [show fmap (tabM (tL sc xl2 dl ds am (.int n tv) w6 w7 w8 w9 w10 w11 w12 w13 w14 w15)) "k" (.int (i : Int) tk) = tabM (tL sc xl2 dl ds am (.int n tv) (some (.int (i : Int) tk)) w7 w8 w9 w10 w11 w12 w13 w14 w15) from fmap_tabM rfl] at hn2
    have x3 := x2.iter (s' := { s' with heap := h₂, toks := tk₂ }) K2 hn2 (ne_tup (by decide)) it2 (fun _ q => nomatch q) rfl id
    exact wpAny_mono (turn (P := fun s₃ => ∃ m', HaltAt w base os₀ L sc so [(hB.objs.size, rIt (i + 1) 12)] dl ds am n tv m' s₃) X0 T0 hd hu hso hz hI I2 l2 rfl m2 x3 fun s4 m4 h4 => ⟨m4, h4⟩) (fun f s₃ h₃ => ⟨h₃.1, h₃.2, let ⟨m', z⟩ := h₃.2; z.hx _ List.mem_cons_self⟩) fun _ _ e => e
  case hR =>
    rintro mm s' h₂ ⟨A2, σ2, xl2, la2, cu2, cr2, w6, w7, w8, w9, w10, w11, w12, w13, w14, w15, I2, l2, m2, rfl, x2⟩ K2 hn2
    exact hZ _ (h _ _ ⟨A2, σ2, xl2, la2, cu2, cr2, w6, w7, w8, w9, w10, w11, w12, w13, w14, w15, I2, l2, m2, rfl, x2.last (s' := { s' with heap := h₂ }) (fun b o e n => K2 b o e fun q => n (by rw [List.mem_singleton.mp q]; simp)) hn2 (ne_tup (by decide)) (fun _ q => nomatch q) rfl id⟩)
end
end
section
open SeqAt
noncomputable section
def forB : Stmt → List Stmt
  | .For _ _ b _ _ => b
  | _ => []
def eS (i : Nat) : Stmt := (forB ((forB (bS 6)).getD 0 default)).getD i default
end
theorem dom_small (m : Fin 3) : ¬ (((domS m).length : Nat) : Int) ≥ 2 ^ 63 := by
  match m with
  | 0 => decide +kernel
  | 1 => decide +kernel
  | 2 => decide +kernel
theorem e_is : forB ((forB (bS 6)).getD 0 default) = [eS 0, eS 1] := by kernel_rfl
section
variable {w : World} {mg mb : PySem.Str → Option Value} {base : Heap} {os₀ : OsState} {d u : Nat} {gs : Option (List Code)} {E : Value → Shared → Prop} {s : Shared} {A : AD} {σ : SS} {L sc xl dl ds am : Addr} {so : SO} {la : Pr → Addr} {ls : List Pr} {lc : Fin 5 → Fin 5 → Fin 3 → Option (Fin 3)} {lp : Fin 5 → Fin 5 → Fin 3 → Option (Fin 7)}
  {lv : Value} {v6 v7 v8 v9 v10 v11 v12 v13 v14 v15 : Option Value} {cu cr : Option Value} {P : Shared → Prop}
theorem segE0 {vs : List Value} {ns : List Int} {ks i ti tm : Nat} {m : Fin 3} (X0 : (K w.params).In base) (T0 : TopRead q (looseW q loose) mg mb base) (hd : d + 60 < recursionLimit) (hu : u + 150 < cLine) (hi : i < 5) (x : LawI w base os₀ L sc so A σ xl dl ds la ls lc lp (tabM (tL sc xl dl ds am lv (some (.int (i : Int) ti)) v7 v8 v9 v10 v11 v12 v13 v14 (some (.str (domS m) tm)))) cu cr s)
  (hso : so.o = listOf vs.toArray ks) (hz : ns.length ≤ 63) (hI : IntsAre vs ns)
  (h : ∀ s' a b ta tb, LawI w base os₀ L sc so A σ xl dl ds la ls lc lp (tabM (tL sc xl dl ds am lv (some (.int (i : Int) ti)) v7 v8 v9 v10 v11 v12 (some (.str (nmS a) ta)) (some (.str (nmS b) tb)) (some (.str (domS m) tm)))) cu cr s' → P s') :
  wpAny (model pw_ae0023_01 w) ((Ar d [] gs u).deeper (lawE L)) (exec (eS 0) (lawE L)) (fun f s' => f = .next ∧ P s') E s := by
  refine seg_of fun Z hZ => ?_
  walk_at "f"
  refine Ob12 (id x.hcu) fun ou eu du => ?_
  refine Ob12 (id x.hcr) fun or er dr => ?_
  refine Ob23 (x.gr X0 T0 [(L + 1, ou), (L + 2, or)] (allCons ⟨eu, x.mem (by simp)⟩ (allCons ⟨er, x.mem (by simp)⟩ allNil))) fun h₀ tl G F1 N1 => ?_
  have X' := G.C.X
  have T' := G.C.T
  dsimp only [List.cons_append, List.nil_append] at N1
  have hi2 : (0 : Int) ≤ (i : Int) ∧ (i : Int) < 5 := by omega
  show wpAny _ _ (exec (Stmt.Assign [_] _ _) _) _ _ _
  walk_at "g12"
  rename Fr _ _ _ _ => F1
  rename News _ _ _ _ => N1
  refine law_names (x.cxx (xs := []) X0 T0 (fun _ q => nomatch q) ?c1 ?c2) (fun b o e => of_hideAll _ e) (roomD hd) (roomU hu) (fun s3 l3 k3 ta3 tb3 tc3 td3 te3 p3 f3 e3 => ?_)
  case c1 => rfl
  case c2 => rfl
  replace F1 := F1.keeps p3.all
  replace N1 := N1.grown p3.all
  walk_at "g12"
  refine item_nm e3 hi2 (fun x3 t3 => ?_)
  walk_at "g12"
  have x3 := x.post ⟨p3.keep, p3.dom, p3.os, p3.bare⟩
  rename Fr _ _ _ _ => F1
  rename News _ _ _ _ => N1
  refine law_names (x3.cxx (xs := []) X0 T0 (fun _ q => nomatch q) ?c3 ?c4) (fun b o e => of_hideAll _ e) (roomD hd) (roomU hu) (fun s4 l4 k4 ta4 tb4 tc4 td4 te4 p4 f4 e4 => ?_)
  case c3 => rfl
  case c4 => rfl
  replace F1 := F1.keeps p4.all
  replace N1 := N1.grown p4.all
  walk_at "g12"
  have x4 := x3.post ⟨p4.keep, p4.dom, p4.os, p4.bare⟩
  rename Fr _ _ _ _ => F1
  rename News _ _ _ _ => N1
  refine law_number (vs := vs) (ns := ns) (k := ks) (x4.cxx (xs := []) X0 T0 (fun _ q => nomatch q) ?c5 ?c6) (fun b o e => of_hideAll _ e) (roomD hd) (roomU hu) (by rw [← hso]; exact x4.hso.1) hz hI (fun s5 j t p5 => ?_)
  case c5 => rfl
  case c6 => rfl
  replace F1 := F1.keeps p5.all
  replace N1 := N1.grown p5.all
  have e5 := p5.all _ _ e4
  clear e4
  walk_at "g12"
  refine PySem.P.len_str (dom_small m) ?_
  repeat ((fail_if_success (with_reducible show wpAny _ _ (subscriptTail _ _ _ _) _ _ _)); first | walk1 | (dsimp only; walk1))
  rename Fr _ _ _ _ => F1
  rename News _ _ _ _ => N1
  refine item_nm e5 (fmod_lt _ (by decide)) (fun xx t4 => ?_)
  clear e5 f3 f4
  repeat ((fail_if_success (with_reducible show wpAny _ _ (storeName _ _ _) _ _ _)); first | walk1 | (dsimp only; walk1))
  rename Fr _ _ _ _ => F1
  rename News _ _ _ _ => N1
  have KE := G.kept (M := []) F1 N1 (fun p hp => .inl (by revert p; walk_at "h")) (by walk_at "H")
  refine (x.kept1 (s' := { s5 with heap := _, toks := _ }) KE F1.ns (p5.os.trans (p4.os.trans p3.os)) (fun z => p5.bare (p4.bare (p3.bare z)))).stL (y := PySem.Str.ofString "other") rfl rfl (fun h6 x6 => ?_)
  refine assignInOrder_cons (bindName_ (x6.stL (y := PySem.Str.ofString "name") rfl rfl fun h7 x7 => ?_))
  exact assignInOrder_nil (hZ _ (h _ _ _ _ _ x7))
theorem segE1 {a b : Fin 5} {m : Fin 3} {ta tb tm tl : Nat} (X0 : (K w.params).In base) (T0 : TopRead q (looseW q loose) mg mb base) (hd : d + 80 < recursionLimit) (hu : u + 200 < cLine) (elv : lv = .int σ.lv tl) (hlv : σ.lv ≤ 5) (hio : ∀ a b, b ∈ σ.out a ↔ (a, b) ∈ σ.ls) (em : A.m = am) (x : LawI w base os₀ L sc so A σ xl dl ds la σ.ls σ.cond σ.prm (tabM (tL sc xl dl ds am lv v6 v7 v8 v9 v10 v11 v12 (some (.str (nmS a) ta)) (some (.str (nmS b) tb)) (some (.str (domS m) tm)))) cu cr s)
  (h : ∀ s' A' σ', (σ' = σ ∨ σ' = (σ.add a).add b) → A'.m = A.m → LawI w base os₀ L sc so A' σ' xl dl ds la σ'.ls σ'.cond σ'.prm (tabM (tL sc xl dl ds am lv v6 v7 v8 v9 v10 v11 v12 (some (.str (nmS a) ta)) (some (.str (nmS b) tb)) (some (.str (domS m) tm)))) cu cr s' → P s') :
  wpAny (model pw_ae0023_01 w) ((Ar d [] gs u).deeper (lawE L)) (exec (eS 1) (lawE L)) (fun f s' => f = .next ∧ P s') E s := by
  subst elv
  refine seg_of fun Z hZ => ?_
  walk_at "f"
  refine Ob12 (id x.hcu) fun ou eu du => ?_
  refine Ob12 (id x.hcr) fun or er dr => ?_
  refine Ob23 (x.gr X0 T0 [(L + 1, ou), (L + 2, or)] (allCons ⟨eu, x.mem (by simp)⟩ (allCons ⟨er, x.mem (by simp)⟩ allNil))) fun h₀ tl G F1 N1 => ?_
  have X' := G.C.X
  have T' := G.C.T
  dsimp only [List.cons_append, List.nil_append] at N1
  show wpAny _ _ (exec (Stmt.If _ _ _ _) _) _ _ _
  walk_at "g12"
  refine law_asked (x.cx X0 T0 ?c1 ?c2) ⟨fun b o e => of_hideAll _ e, fun y hy => hideAll_none _ hy, x.R⟩ (roomD hd) (roomU hu) hlv em (fun A2 σ2 s2 hσ R2 p2 => ?_)
  case c1 => rfl
  case c2 => rfl
  have x2' := x.step (frs := []) R2 (Step.toF (frs := []) (s := s) ⟨⟨p2.post.keep, p2.post.dom, p2.post.os, p2.post.bare⟩, p2.em, p2.ra, p2.ns, p2.fresh⟩ (fun _ q => nomatch q) (fun _ q => nomatch q)) (.inl rfl)
  have e1 : σ2.ls = σ.ls := by rcases hσ with rfl | rfl <;> rfl
  have e2 : σ2.cond = σ.cond := by rcases hσ with rfl | rfl <;> rfl
  have e3 : σ2.prm = σ.prm := by rcases hσ with rfl | rfl <;> rfl
  have e4 : σ2.lv = σ.lv := by rcases hσ with rfl | rfl <;> rfl
  have e5 : rdAll σ2 m a σ2.lv = rdAll σ m a σ.lv := by rcases hσ with rfl | rfl; rfl; exact (rdAll_add _).trans (rdAll_add _)
  have x2 := x2'
  rw [← e1, ← e2, ← e3] at x2
  clear F1 N1 G X' T' x x2'
  refine Ob12 (id x2.hcu) fun ou eu du => ?_
  refine Ob12 (id x2.hcr) fun or er dr => ?_
  refine Ob23 (x2.gr X0 T0 [(L + 1, ou), (L + 2, or)] (allCons ⟨eu, x2.mem (by simp)⟩ (allCons ⟨er, x2.mem (by simp)⟩ allNil))) fun h₀ tl G F1 N1 => ?_
  have X' := G.C.X
  have T' := G.C.T
  dsimp only [List.cons_append, List.nil_append] at N1
  walk_at "g12"
  refine Ob11 (id x2.hxl) fun kx ex => ?_
  rw [show (Value.int (σ.lv : Int) _) = Value.int (σ2.lv : Int) _ from by rw [e4]]
  refine law_reached (σ := σ2) (x2.cxx (xs := []) X0 T0 (fun _ q => nomatch q) ?c3 ?c4) (fun b o e => of_hideAll _ e) (roomD hd) (roomU hu) ex (by rw [show (prL la σ2.ls).size = σ2.ls.length from by simp [prL]]; exact len_pr x2.ln) (tups_of x2.hla) x2.hdl x2.hds (ne_sys x2.lo.1) (ne_sys x2.lo.2) (by rw [e4]; exact hlv) (fun s3 p3 => ?_)
  case c3 => rfl
  case c4 => rfl
  rw [e5, law_plain hio]
  replace F1 := F1.keeps p3.all
  replace N1 := N1.grown p3.all
  have x3 := x2.post p3
  clear x2
  generalize decide (b ∈ rdAll σ m a σ.lv) = bb
  cases bb
  · walk_at "g12"
    rename Fr _ _ _ _ => F1
    exact hZ _ (h _ _ _ hσ p2.em x3.tk)
  · walk_at "g12"
    rename Fr _ _ _ _ => F1
    exact hZ _ (h _ _ _ hσ p2.em x3.tk)
end
end
section
open SeqAt
inductive HaltK (w : World) (base : Heap) (os₀ : OsState) (L sc : Addr) (so : Obj) (xs : List (Addr × Obj)) (dl ds am : Addr) (n tl : Nat) (v6 : Option Value) (m : PySem.Str → Option Value) (s : Shared) : Prop
  | mk (A : AD) (σ : SS) (xl : Addr) (la : Pr → Addr) (cu cr v7 v8 v9 v10 v11 v12 v13 v14 v15 : Option Value) (I : InvS σ) (hn : σ.lv = n) (em : A.m = am) (e : m = tabM (tL sc xl dl ds am (.int n tl) v6 v7 v8 v9 v10 v11 v12 v13 v14 v15))
    (x : LawI w base os₀ L sc ⟨so, xs⟩ A σ xl dl ds la σ.ls σ.cond σ.prm m cu cr s) : HaltK w base os₀ L sc so xs dl ds am n tl v6 m s
theorem HaltK.ns {w : World} {base : Heap} {os₀ : OsState} {L sc : Addr} {so : Obj} {xs : List (Addr × Obj)} {dl ds am : Addr} {n tl : Nat} {v6 : Option Value} {m : PySem.Str → Option Value} {s : Shared} (x : HaltK w base os₀ L sc so xs dl ds am n tl v6 m s) : s.heap.Ns L m := by
  obtain ⟨_, _, _, _, _, _, _, _, _, _, _, _, _, _, _, _, _, _, _, x⟩ := x; exact x.ns
theorem HaltK.hx {w : World} {base : Heap} {os₀ : OsState} {L sc : Addr} {so : Obj} {xs : List (Addr × Obj)} {dl ds am : Addr} {n tl : Nat} {v6 : Option Value} {m : PySem.Str → Option Value} {s : Shared} (x : HaltK w base os₀ L sc so xs dl ds am n tl v6 m s) : ∀ p ∈ xs, s.heap.get? p.1 = some p.2 := by
  obtain ⟨_, _, _, _, _, _, _, _, _, _, _, _, _, _, _, _, _, _, _, x⟩ := x; exact x.hx
noncomputable section
def iS : Stmt := (forB (bS 6)).getD 0 default
end
theorem i_is : forB (bS 6) = [iS] := by kernel_rfl
section
variable {w : World} {mg mb : PySem.Str → Option Value} {base : Heap} {os₀ : OsState} {d u : Nat} {gs : Option (List Code)} {E : Value → Shared → Prop} {s : Shared} {A : AD} {σ : SS} {L sc xl dl ds am : Addr} {so : Obj} {xs : List (Addr × Obj)} {la : Pr → Addr}
  {lv : Value} {mm : PySem.Str → Option Value} {v6 v7 v8 v9 v10 v11 v12 v13 v14 v15 : Option Value} {cu cr : Option Value} {P : Shared → Prop} {vs : List Value} {ns : List Int} {ks n tv : Nat}
theorem turnE {i ti tm : Nat} {m : Fin 3} (X0 : (K w.params).In base) (T0 : TopRead q (looseW q loose) mg mb base) (hd : d + 120 < recursionLimit) (hu : u + 300 < cLine) (hi : i < 5) (hso : so = listOf vs.toArray ks) (hz : ns.length ≤ 63) (hI : IntsAre vs ns)
  (I : InvS σ) (hn : σ.lv = n) (elv : lv = .int n tv) (em : A.m = am) (x : LawI w base os₀ L sc ⟨so, xs⟩ A σ xl dl ds la σ.ls σ.cond σ.prm (tabM (tL sc xl dl ds am lv (some (.int (i : Int) ti)) v7 v8 v9 v10 v11 v12 v13 v14 (some (.str (domS m) tm)))) cu cr s)
  (h : ∀ s' m', HaltK w base os₀ L sc so xs dl ds am n tv (some (.int (i : Int) ti)) m' s' → P s') :
  wpAny (model pw_ae0023_01 w) ((Ar d [] gs u).deeper (lawE L)) (execs [eS 0, eS 1] (lawE L)) (fun f s' => f = .next ∧ P s') E s := by
  refine run_cons (segE0 (vs := vs) (ns := ns) (ks := ks) X0 T0 (roomS hd) (roomS hu) hi x hso hz hI fun s6 a6 b6 ta6 tb6 x6 => ?_)
  refine run_one (segE1 (tl := tv) X0 T0 (roomS hd) (roomS hu) (by rw [elv, hn]) I.lv I.io em x6 fun s7 A7 σ7 h7 m7 x7 => ?_)
  have I7 : InvS σ7 := by rcases h7 with rfl | rfl; exact I; exact I.add.add
  have l7 : σ7.lv = n := by rcases h7 with rfl | rfl; exact hn; exact hn
  subst elv
  exact ⟨rfl, h _ _ ⟨A7, σ7, xl, la, _, _, _, _, _, _, _, _, _, _, _, I7, l7, m7.trans em, rfl, x7⟩⟩
theorem loop3 {i ti : Nat} (X0 : (K w.params).In base) (T0 : TopRead q (looseW q loose) mg mb base) (hd : d + 120 < recursionLimit) (hu : u + 300 < cLine) (hi : i < 5) (hso : so = listOf vs.toArray ks) (hz : ns.length ≤ 63) (hI : IntsAre vs ns)
  (I : InvS σ) (hn : σ.lv = n) (elv : lv = .int n tv) (em : A.m = am) (x : LawI w base os₀ L sc ⟨so, xs⟩ A σ xl dl ds la σ.ls σ.cond σ.prm (tabM (tL sc xl dl ds am lv (some (.int (i : Int) ti)) v7 v8 v9 v10 v11 v12 v13 v14 v15)) cu cr s)
  (h : ∀ s' m', HaltK w base os₀ L sc so xs dl ds am n tv (some (.int (i : Int) ti)) m' s' → P s') :
  wpAny (model pw_ae0023_01 w) ((Ar d [] gs u).deeper (lawE L)) (exec iS (lawE L)) (fun f s' => f = .next ∧ P s') E s := by
  subst elv
  refine seg_of fun Z hZ => ?_
  walk_at "f"
  refine Ob12 (id x.hcu) fun ou eu du => ?_
  refine Ob12 (id x.hcr) fun or er dr => ?_
  refine Ob23 (x.gr X0 T0 [(L + 1, ou), (L + 2, or)] (allCons ⟨eu, x.mem (by simp)⟩ (allCons ⟨er, x.mem (by simp)⟩ allNil))) fun h₀ tl G F1 N1 => ?_
  have X' := G.C.X
  have T' := G.C.T
  dsimp only [List.cons_append, List.nil_append] at N1
  show wpAny _ _ (exec (Stmt.For _ _ _ _ _) _) _ _ _
  refine wpAny_For ?_ (by intro _; rfl)
  walk_at "g13"
  rename Fr _ _ _ _ => F1
  rename News _ _ _ _ => N1
  rename_i D hB lD
  have gD := N1 _ (.head _)
  have KE := G.kept (M := []) F1 N1 (fun p hp => .inl (by revert p; walk_at "h")) (by walk_at "H")
  have hD0 : s.heap.get? D = none := by
    cases q : s.heap.get? D with
    | none => rfl
    | some o =>
      have n1 : @Ne Addr D (L + 1) := fun q => by have q' : @Eq Nat D (L + 1) := q; have := lD.1; rw [q] at this; exact absurd this (Nat.lt_irrefl _)
      have n2 : @Ne Addr D (L + 2) := fun q => by have := lD.2.1; rw [q] at this; exact absurd this (Nat.lt_irrefl _)
      rcases G.cov D o q gD.2.1 (by simp only [List.map_cons, List.map_nil, List.mem_cons, List.not_mem_nil, or_false, not_or]; exact ⟨n1, n2⟩) with z | z
      · rw [show h₀.get? D = none from gD.2.2] at z; cases z
      · exact (tbn_neAll lD.2.2 _ z rfl).elim
  have xD := x.more (s' := { s with heap := hB, toks := s.toks + 1 + 1 + 1 }) KE F1.ns hD0 gD.1 rfl id
  refine wpAny_pyIter_list ⟨_, gD.1, rfl, _, rfl⟩ ?_
  have xP := xD.push { cls := .type "list_iterator", data := .fields #[.ref D, .int 0 0] } rfl (t := s.toks + 1 + 1 + 1)
  have hIL : @Ne Addr hB.objs.size L := fun q => (xP.hf _ List.mem_cons_self).1 (by rw [show ((hB.objs.size, ({ cls := .type "list_iterator", data := .fields #[.ref D, .int 0 0] } : Obj)) : Addr × Obj).1 = L from q]; exact List.mem_cons_self)
  have hDI : @Ne Addr D hB.objs.size := Nat.ne_of_lt (Heap.lt_size gD.1)
  have hxI : ∀ p ∈ xs, p.1 ≠ hB.objs.size := fun p hp => Nat.ne_of_lt (Heap.lt_size (xD.hx p (List.mem_cons_of_mem _ hp)))
  have hne : ∀ p ∈ (D, listOf #[.str (PySem.Str.ofString "") s.toks, .str (PySem.Str.ofString "s") (s.toks + 1), .str (PySem.Str.ofString "t") (s.toks + 1 + 1)] 0) :: xs, p.1 ≠ hB.objs.size := fun p hp => (List.mem_cons.mp hp).elim (fun q => q ▸ hDI) (hxI p)
  clear F1 N1 G X' T' x KE eu er du dr lD hD0 xD hDI hxI gD
  generalize hB.objs.size = I2 at *
  refine for_lst (L := L) (I := I2) (ax := D) (items := #[.str (PySem.Str.ofString "") s.toks, .str (PySem.Str.ofString "s") (s.toks + 1), .str (PySem.Str.ofString "t") (s.toks + 1 + 1)]) rfl rfl rfl rfl hIL
    (fun j mm s' => ∃ o, HaltK w base os₀ L sc so ((I2, o) :: (D, listOf #[.str (PySem.Str.ofString "") s.toks, .str (PySem.Str.ofString "s") (s.toks + 1), .str (PySem.Str.ofString "t") (s.toks + 1 + 1)] 0) :: xs) dl ds am n tv (some (.int (i : Int) ti)) mm s' ∧ s'.heap.IsListIter I2 D j ∧ o.cls ≠ .type "tuple")
    (fun j mm s' ⟨o, hx, it, no⟩ => ⟨hx.ns, ⟨_, hx.hx _ (.tail _ (.head _)), rfl, _, rfl⟩, it⟩)
    ⟨_, _, ⟨A, σ, xl, la, cu, cr, _, _, _, _, _, _, _, _, _, I, hn, em, rfl, xP⟩, ⟨_, xP.hx _ List.mem_cons_self, rfl, rfl⟩, ne_tup (by decide)⟩ ?turn ?hR
  case turn =>
    rintro j v mm s' h₂ tk₂ E' hv ⟨o, ⟨A2, σ2, xl2, la2, cu2, cr2, w7, w8, w9, w10, w11, w12, w13, w14, w15, I5, l2, m2, rfl, x2⟩, it, no⟩ K2 hn2 it2
    obtain ⟨o', eo', co', do'⟩ := it2
    obtain ⟨m, tm, rfl⟩ : ∃ (m : Fin 3) (tm : Nat), v = .str (domS m) tm := by
      match j, hv with
      | 0, hv => exact ⟨0, _, (Option.some.inj hv).symm⟩
      | 1, hv => exact ⟨1, _, (Option.some.inj hv).symm⟩
      | 2, hv => exact ⟨2, _, (Option.some.inj hv).symm⟩
      | j + 3, hv => cases hv
    rw [show fmap (tabM (tL sc xl2 dl ds am (.int n tv) (some (.int (i : Int) ti)) w7 w8 w9 w10 w11 w12 w13 w14 w15)) "where" (.str (domS m) tm) = tabM (tL sc xl2 dl ds am (.int n tv) (some (.int (i : Int) ti)) w7 w8 w9 w10 w11 w12 w13 w14 (some (.str (domS m) tm))) from fmap_tabM rfl] at hn2
    have x3 := x2.iter (s' := { s' with heap := h₂, toks := tk₂ }) K2 hn2 no eo' hne rfl id
    exact wpAny_mono (turnE (P := fun s₃ => ∃ m', ∃ o, HaltK w base os₀ L sc so ((I2, o) :: (D, listOf #[.str (PySem.Str.ofString "") s.toks, .str (PySem.Str.ofString "s") (s.toks + 1), .str (PySem.Str.ofString "t") (s.toks + 1 + 1)] 0) :: xs) dl ds am n tv (some (.int (i : Int) ti)) m' s₃ ∧ s₃.heap.IsListIter I2 D (j + 1) ∧ o.cls ≠ .type "tuple") X0 T0 hd hu hi hso hz hI I5 l2 rfl m2 x3
      fun s4 m4 h4 => ⟨m4, o', h4, ⟨o', h4.hx _ List.mem_cons_self, co', do'⟩, by rw [co']; exact ne_tup (by decide)⟩) (fun f s₃ h₃ => h₃) fun _ _ e => e
  case hR =>
    rintro mm s' h₂ ⟨o, ⟨A2, σ2, xl2, la2, cu2, cr2, w7, w8, w9, w10, w11, w12, w13, w14, w15, I5, l2, m2, rfl, x2⟩, it, no⟩ K2 hn2
    exact hZ _ (h _ _ ⟨A2, σ2, xl2, la2, cu2, cr2, w7, w8, w9, w10, w11, w12, w13, w14, w15, I5, l2, m2, rfl, (x2.last (s' := { s' with heap := h₂ }) (fun b o e n => K2 b o e fun q => n (by rw [List.mem_singleton.mp q]; simp)) hn2 no hne rfl id).drop fun p hp => List.mem_cons_of_mem _ hp⟩)
theorem loop5 (X0 : (K w.params).In base) (T0 : TopRead q (looseW q loose) mg mb base) (hd : d + 120 < recursionLimit) (hu : u + 300 < cLine) (hso : so = listOf vs.toArray ks) (hz : ns.length ≤ 63) (hI : IntsAre vs ns)
  (x : HaltAt w base os₀ L sc so [] dl ds am n tv mm s)
  (h : ∀ s' m', HaltAt w base os₀ L sc so [] dl ds am n tv m' s' → P s') :
  wpAny (model pw_ae0023_01 w) ((Ar d [] gs u).deeper (lawE L)) (exec (bS 6) (lawE L)) (fun f s' => f = .next ∧ P s') E s := by
  obtain ⟨A, σ, xl, la, cu, cr, v6, v7, v8, v9, v10, v11, v12, v13, v14, v15, I, hn, em, rfl, x⟩ := x
  refine seg_of fun Z hZ => ?_
  walk_at "f"
  refine Ob12 (id x.hcu) fun ou eu du => ?_
  refine Ob12 (id x.hcr) fun or er dr => ?_
  refine Ob23 (x.gr X0 T0 [(L + 1, ou), (L + 2, or)] (allCons ⟨eu, x.mem (by simp)⟩ (allCons ⟨er, x.mem (by simp)⟩ allNil))) fun h₀ tl G F1 N1 => ?_
  have X' := G.C.X
  have T' := G.C.T
  dsimp only [List.cons_append, List.nil_append] at N1
  show wpAny _ _ (exec (Stmt.For _ _ _ _ _) _) _ _ _
  refine wpAny_For ?_ (by intro _; rfl)
  walk_at "g13"
  rename IsRange _ _ _ _ _ _ _ _ => hr
  rename Fr _ _ _ _ => F1
  rename News _ _ _ _ => N1
  have KE := G.kept (M := []) F1 N1 (fun p hp => .inl (by revert p; walk_at "h")) (by walk_at "H")
  refine wpAny_pyIter_range hr rfl ?_
  rename_i hB tkB t1 u1 v1 kB
  rw [show Builtin.Range.rangeSize 0 5 1 = 5 from rfl]
  have xB := x.kept1 (s' := { s with heap := hB, toks := tkB }) KE F1.ns rfl id
  have xP := xB.push (rIt 0 5) rfl (t := tkB)
  have hIL : @Ne Addr hB.objs.size L := fun q => (xP.hf _ List.mem_cons_self).1 (by rw [show ((hB.objs.size, rIt 0 5) : Addr × Obj).1 = L from q]; exact List.mem_cons_self)
  clear F1 N1 G X' T' x xB KE hr eu er du dr
  refine for_rng (n := 5) (L := L) (I := hB.objs.size) rfl rfl rfl rfl hIL (fun i mm s' => HaltAt w base os₀ L sc so [(hB.objs.size, rIt i 5)] dl ds am n tv mm s') (fun i mm s' hx => hx.ns) (Heap.get?_push_size _ rfl) ⟨_, A, σ, xl, la, cu, cr, _, _, _, _, _, _, _, _, _, _, I, hn, em, rfl, xP⟩ ?turn ?hR
  case turn =>
    rintro i mm s' h₂ tk₂ tk E' hi ⟨A2, σ2, xl2, la2, cu2, cr2, w6, w7, w8, w9, w10, w11, w12, w13, w14, w15, I2, l2, m2, rfl, x2⟩ K2 hn2 it2
    rw [show fmap (tabM (tL sc xl2 dl ds am (.int n tv) w6 w7 w8 w9 w10 w11 w12 w13 w14 w15)) "k" (.int (i : Int) tk) = tabM (tL sc xl2 dl ds am (.int n tv) (some (.int (i : Int) tk)) w7 w8 w9 w10 w11 w12 w13 w14 w15) from fmap_tabM rfl] at hn2
    have x3 := x2.iter (s' := { s' with heap := h₂, toks := tk₂ }) K2 hn2 (ne_tup (by decide)) it2 (fun _ q => nomatch q) rfl id
    refine wpAny_mono (Q := fun f s₃ => f = .next ∧ ∃ m', HaltAt w base os₀ L sc so [(hB.objs.size, rIt (i + 1) 5)] dl ds am n tv m' s₃) (run_one (loop3 X0 T0 hd hu hi hso hz hI I2 l2 rfl m2 x3 fun s4 m4 h4 => ?_)) (fun f s₃ h₃ => ⟨h₃.1, h₃.2, let ⟨m', z⟩ := h₃.2; z.hx _ List.mem_cons_self⟩) fun _ _ e => e
    obtain ⟨A4, σ4, xl4, la4, cu4, cr4, y7, y8, y9, y10, y11, y12, y13, y14, y15, I4, l4, n4, e4, x4⟩ := h4
    exact ⟨rfl, m4, A4, σ4, xl4, la4, cu4, cr4, _, y7, y8, y9, y10, y11, y12, y13, y14, y15, I4, l4, n4, e4, x4⟩
  case hR =>
    rintro mm s' h₂ ⟨A2, σ2, xl2, la2, cu2, cr2, w6, w7, w8, w9, w10, w11, w12, w13, w14, w15, I2, l2, m2, rfl, x2⟩ K2 hn2
    exact hZ _ (h _ _ ⟨A2, σ2, xl2, la2, cu2, cr2, w6, w7, w8, w9, w10, w11, w12, w13, w14, w15, I2, l2, m2, rfl, x2.last (s' := { s' with heap := h₂ }) (fun b o e n => K2 b o e fun q => n (by rw [List.mem_singleton.mp q]; simp)) hn2 (ne_tup (by decide)) (fun _ q => nomatch q) rfl id⟩)
end
end
section
section
variable {w : World} {mg mb : PySem.Str → Option Value} {base g : Heap} {outer : List Env} {d u : Nat} {gs : Option (List Code)} {E : Value → Shared → Prop} {s : Shared} {A : AD} {σ : SS}
theorem neA' {a b : Nat} (h : @Ne Nat a b) : (a : Addr) ≠ b := h
theorem mgr_init {x dx : Addr} {lv : Int} {t : Nat} {R : Result → Shared → Prop} (C : Cx w mg mb base outer g) (hg : g.StaysIn s.heap) (hd : d + 6 < recursionLimit) (hu : u + 16 < cLine)
  (hx : s.heap.get? x = some (instObj 1061 dx) ∧ g.get? x = none) (hdx : s.heap.get? dx = some (dictOf [] 0) ∧ g.get? dx = none) (hlt : @LT.lt Nat _ dx x)
  (h : ∀ al ar s', Post [dx] s s' → s'.gens = s.gens → s'.heap.get? al = some (listOf #[] 0) → s'.heap.get? ar = some (dictOf [] 0) →
    (∃ t1 t2 t3 t4 t5, s'.heap.get? dx = some (mgrD w.params t1 t2 t3 t4 t5 (.int lv t) al ar)) → (∀ y ∈ [al, ar], s.heap.get? y = none ∧ @LT.lt Nat _ x y) → @Ne Nat al ar → R (.ok (.ret .none)) s') :
  codeAny (model pw_ae0023_01 w) (Ar d outer gs u) (.call (.ref 873) ⟨[.ref x, .int lv t], []⟩) R s := by
  walk_at "f"
  have hl : ∀ p ∈ [(x, instObj 1061 dx), (dx, dictOf [] 0)], s.heap.get? p.1 = some p.2 ∧ g.get? p.1 = none := by
    simp [hx, hdx]
  have Xs := C.X.keeps hg
  refine' enter_def C hg hl ?k6 ?k7 (room0 hd) ?k9 ?kB ?_ ?c2 ?c3 ?c4 ?c5
  walk_at "e2"
  intro L' h' hL hgL F' N' C' l1
  refine hideE fun E9 => ?_
  have X' := C'.X
  have T' := C'.T
  k_lt l1
  clear hl hgL C' Xs
  walk_at "g4"
  rename Fr _ _ _ _ => F5
  rename News _ _ _ _ => N5
  have fr : ∀ (y : Addr) (o : Obj), (restH s.heap [(x, instObj 1061 dx), (dx, dictOf [] 0)]).get? y = none → y ≠ x → y ≠ dx → s.heap.get? y = none := fun y o z n1 n2 => by
    cases e : s.heap.get? y with
    | none => rfl
    | some o' => rw [show (restH s.heap [(x, instObj 1061 dx), (dx, dictOf [] 0)]).get? y = some o' from hideAll_get _ e (by simp [n1, n2])] at z; cases z
  refine h _ _ _ ⟨fun b o e n => ?_, fun b o e => ?_, rfl, id⟩ rfl (N5.get (mAt 1 rfl)) (N5.get (mAt 0 rfl)) ⟨_, _, _, _, _, N5.get (mAt 3 rfl)⟩ (fun y hy => ?_) (by omega)
  · by_cases q1 : b = x
    · subst q1; rw [hx.1] at e; cases e; exact N5.get (mAt 2 rfl)
    · exact F5.keep b o (hideAll_get _ e (by simp only [List.map_cons, List.map_nil, List.mem_cons, List.not_mem_nil, or_false, not_or]; exact ⟨q1, fun q => n (List.mem_singleton.mpr q)⟩))
  · by_cases q1 : b = x
    · subst q1; exact ⟨_, N5.get (mAt 2 rfl)⟩
    · by_cases q2 : b = dx
      · subst q2; exact ⟨_, N5.get (mAt 3 rfl)⟩
      · exact ⟨o, F5.keep b o (hideAll_get _ e (by simp only [List.map_cons, List.map_nil, List.mem_cons, List.not_mem_nil, or_false, not_or]; exact ⟨q1, q2⟩))⟩
  · simp only [List.mem_cons, List.not_mem_nil, or_false] at hy
    rcases hy with rfl | rfl
    · exact ⟨fr _ default (N5 _ (mAt 1 rfl)).2.2 (neA' (by omega)) (neA' (by omega)), by omega⟩
    · exact ⟨fr _ default (N5 _ (mAt 0 rfl)).2.2 (neA' (by omega)) (neA' (by omega)), by omega⟩
def SS.new (lv : Nat) : SS := ⟨lv, [], [], fun _ => [], fun _ _ _ => none, fun _ _ _ => none⟩
def AD.new (m dm al ar : Addr) : AD := ⟨m, dm, al, ar, fun _ => 0, fun _ => ⟨0, 0, 0, 0, 0, 0⟩⟩
theorem Rep.start {h : Heap} {x dx al ar : Addr} {lv t1 t2 t3 t4 t5 t : Nat} (hx : h.get? x = some (instObj 1061 dx)) (hd : h.get? dx = some (mgrD w.params t1 t2 t3 t4 t5 (.int lv t) al ar)) (hal : h.get? al = some (listOf #[] 0)) (har : h.get? ar = some (dictOf [] 0))
  (h1 : @LT.lt Nat _ 1 x) (h2 : @LT.lt Nat _ 1 ar) (hne : dx ≠ ar) (t7 : TabOk h 784 782) (t9 : TabOk h 1000 998) : Rep w (AD.new x dx al ar) (SS.new lv) h :=
  { mi := hx, md := ⟨t1, t2, t3, t4, t5, t, hd⟩, al := ⟨0, hal⟩, la := (fun _ q => nomatch q), ar := ⟨_, #[], 0, har, ⟨rfl, rfl, rfl⟩, rfl, (fun _ q => absurd q (by simp)), .nil, List.nodup_nil⟩,
    ro := (fun _ q => nomatch q), nd1 := ⟨hne, fun _ q => nomatch q⟩, nd2 := (fun _ q => nomatch q), ne := (fun _ q => nomatch q), gt := ⟨h1, h2, fun _ q => nomatch q⟩, ab := fun _ _ => ⟨rfl, fun _ _ => rfl, fun _ _ => rfl⟩,
    nn := List.nodup_nil, ln := List.nodup_nil, t7 := t7, t9 := t9 }
end
end
section
open SeqAt
section
variable {w : World} {mg mb : PySem.Str → Option Value} {base g h h₀ : Heap} {outer : List Env} {os₀ : OsState} {L sc xl dl ds x dx al ar : Addr} {so : Obj} {la : Pr → Addr} {m : PySem.Str → Option Value} {s₀ s : Shared} {n : Nat} {env : Env} {news : List (Addr × Obj)} {xs : List Addr}
theorem Fr.cxx (C : Cx w mg mb base outer g) (F : Fr g L h m) (hL : g.get? L = none) (hx : ∀ y ∈ xs, y ≠ L ∧ g.get? y = none) (hf : env.frame = some L) (hk : env.scope.kind = .function) : Cx w mg mb base (env :: outer) (hideAll h xs) := by
  refine Ob32 (F.ns) fun oL es ep e r => ?_
  exact C.push (h' := hideAll h xs) ⟨oL, es, ep, hideAll_get _ e fun q => (hx L q).1 rfl, r⟩ hL hf hk fun b o e' => hideAll_get _ (F.keep b o e') fun q => by rw [(hx b q).2] at e'; cases e'
theorem emptyDict_D {d : Addr} {o : Obj} (e : h.get? d = some o) (i : o.IsDictOf (PySem.strKind pw_ae0023_01 w) []) : h.DictOfH (tk w) d [] := by
  obtain ⟨es, ep, hx, hd, _, hp, _⟩ := i
  exact ⟨o, es, ep, e, hx, hd, by (cases h : es.toList with
    | nil => rfl
    | cons a l => rw [h] at hp; cases hp), (fun _ q => nomatch q), List.nodup_nil⟩
theorem Rep.start' {h : Heap} {x dx al ar : Addr} {lv : Nat} (hx : h.get? x = some (instObj 1061 dx)) (hd : ∃ t1 t2 t3 t4 t5 t, h.get? dx = some (mgrD w.params t1 t2 t3 t4 t5 (.int lv t) al ar)) (hal : h.get? al = some (listOf #[] 0)) (har : h.get? ar = some (dictOf [] 0))
  (h1 : @LT.lt Nat _ 1 x) (h2 : @LT.lt Nat _ 1 ar) (hne : dx ≠ ar) (t7 : TabOk h 784 782) (t9 : TabOk h 1000 998) : Rep w (AD.new x dx al ar) (SS.new lv) h :=
  let ⟨_, _, _, _, _, _, hd⟩ := hd; Rep.start hx hd hal har h1 h2 hne t7 t9
theorem TabOk.at {c P : Addr} (x : TabOk h c P) : (∃ o, h.get? c = some o) ∧ ∃ o, h.get? P = some o := by
  exact Ob44 x.two fun o _ op _ ho _ hop _ => ⟨⟨o, ho⟩, ⟨op, hop⟩⟩
theorem nodup7 {a b c d e f g : Nat} (h1 : a < b) (h2 : b < c) (h3 : c < e) (h4 : e < f) (h5 : f < g) (n1 : d ≠ a) (n2 : d ≠ b) (n3 : d ≠ c) (n4 : d ≠ e) (n5 : d ≠ f) (n6 : d ≠ g) : [a, b, c, d, e, f, g].Nodup := by
  have l : ∀ {x y : Nat}, x < y → x ≠ y := fun h => Nat.ne_of_lt h
  have bc := Nat.lt_trans h2 h3
  have ac := Nat.lt_trans h1 bc
  have cf := Nat.lt_trans h3 h4
  have eg := Nat.lt_trans h4 h5
  refine List.nodup_cons.mpr ⟨?_, List.nodup_cons.mpr ⟨?_, List.nodup_cons.mpr ⟨?_, List.nodup_cons.mpr ⟨?_, List.nodup_cons.mpr ⟨?_, List.nodup_cons.mpr ⟨?_, List.nodup_cons.mpr ⟨List.not_mem_nil, List.nodup_nil⟩⟩⟩⟩⟩⟩⟩
  · exact neL (allCons (l h1) (allCons (l (Nat.lt_trans h1 h2)) (allCons n1.symm (allCons (l ac) (allCons (l (Nat.lt_trans ac h4)) (allCons (l (Nat.lt_trans ac eg)) allNil))))))
  · exact neL (allCons (l h2) (allCons n2.symm (allCons (l bc) (allCons (l (Nat.lt_trans bc h4)) (allCons (l (Nat.lt_trans bc eg)) allNil)))))
  · exact neL (allCons n3.symm (allCons (l h3) (allCons (l cf) (allCons (l (Nat.lt_trans cf h5)) allNil))))
  · exact neL (allCons n4 (allCons n5 (allCons n6 allNil)))
  · exact neL (allCons (l h4) (allCons (l eg) allNil))
  · exact neL (allCons (l h5) allNil)
theorem LawI.start (ns : s.heap.Ns L m) (keep : ∀ b o, s₀.heap.get? b = some o → s.heap.get? b = some o) (hb : base.StaysIn s₀.heap) (bl : ∀ b o, base.get? b = some o → b < L) (t7 : TabOk s₀.heap 784 782) (t9 : TabOk s₀.heap 1000 998)
    (b7 : base.get? 782 = none) (b9 : base.get? 998 = none) (hsc : s₀.heap.get? sc = some so ∧ so.cls ≠ .type "tuple") (n7 : sc ≠ 782) (n9 : sc ≠ 998) (frL : s₀.heap.get? L = none ∧ s₀.heap.get? (L + 1) = none ∧ s₀.heap.get? (L + 2) = none) (frM : ∀ y ∈ [x, dx, al, ar], s₀.heap.get? y = none) (frH : ∀ y ∈ [xl, dl, ds], s₀.heap.get? y = none)
    (mid : ∀ z ∈ [x, dx, al, ar], @LT.lt Nat _ (L + 2) z ∧ @LT.lt Nat _ z xl) (xd : @LT.lt Nat _ xl dl) (dd : @LT.lt Nat _ dl ds) (hda : dx ≠ ar) (l1 : @LT.lt Nat _ 1 L)
    (gx : s.heap.get? x = some (instObj 1061 dx)) (gd : ∃ t1 t2 t3 t4 t5 t, s.heap.get? dx = some (mgrD w.params t1 t2 t3 t4 t5 (.int n t) al ar)) (gal : s.heap.get? al = some (listOf #[] 0)) (gar : s.heap.get? ar = some (dictOf [] 0))
    (gxl : s.heap.get? xl = some (listOf #[] 0)) (gdl : s.heap.DictOfH (Mine.tk w) dl []) (gds : s.heap.DictOfH (Mine.tk w) ds []) (c1 : ∃ o, s.heap.get? (L + 1) = some o ∧ o.data = .cell none) (c2 : ∃ o, s.heap.get? (L + 2) = some o ∧ o.data = .cell none)
    (ho : s.os = s₀.os) (ge : AllBare s.gens) :
    LawI w base s₀.os L sc ⟨so, []⟩ (AD.new x dx al ar) (SS.new n) xl dl ds la [] (fun _ _ _ => none) (fun _ _ _ => none) m none none s := by
  have far : ∀ y, s₀.heap.get? y = none → y ≠ 782 ∧ y ≠ 998 ∧ base.get? y = none ∧ y ≠ 784 ∧ y ≠ 1000 := fun y e => by
    have k : ∀ {z : Addr}, (∃ o, s₀.heap.get? z = some o) → y ≠ z := fun ⟨o, e'⟩ q => by rw [q, e'] at e; cases e
    refine ⟨k t7.at.2, k t9.at.2, ?_, k t7.at.1, k t9.at.1⟩
    cases q : base.get? y with
    | none => rfl
    | some o => have := hb _ _ q; rw [e] at this; cases this
  have nsc : ∀ y, s₀.heap.get? y = none → sc ≠ y := fun y e q => by rw [← q, hsc.1] at e; cases e
  have k0 : Kept [] s₀.heap s.heap := fun b o e _ => keep b o e
  have lm : ∀ z ∈ [x, dx, al, ar], @LT.lt Nat _ 1 z := fun z hz => Nat.lt_trans (Nat.lt_of_lt_of_le l1 (Nat.le_add_right L 2)) (mid z hz).1
  have lL : @LT.lt Nat _ (L + 2) xl := Nat.lt_trans (mid x List.mem_cons_self).1 (mid x List.mem_cons_self).2
  have lx : @LT.lt Nat _ 1 xl := Nat.lt_trans (Nat.lt_of_lt_of_le l1 (Nat.le_add_right L 2)) lL
  have hidN : ∀ y, y ≠ 782 → y ≠ 998 → (∀ z ∈ [x, dx, al, ar], y ≠ z) → y ∉ (AD.new x dx al ar).hid (SS.new n).ns := fun y h7 h9 hm => neL (l := [782, 998, x, dx, al, ar]) (allCons h7 (allCons h9 hm))
  have lowN : ∀ y : Nat, y ≤ L + 2 → ∀ z ∈ [x, dx, al, ar], (y : Addr) ≠ z := fun y hy z hz => Nat.ne_of_lt (Nat.lt_of_le_of_lt hy (mid z hz).1)
  have highN : ∀ y : Nat, @LE.le Nat _ xl y → ∀ z ∈ [x, dx, al, ar], (y : Addr) ≠ z := fun y hy z hz => Nat.ne_of_gt (Nat.lt_of_lt_of_le (mid z hz).2 hy)
  have offY : ∀ y, s₀.heap.get? y = none → (∀ z ∈ [x, dx, al, ar], y ≠ z) → y ∉ (AD.new x dx al ar).hid (SS.new n).ns ∧ base.get? y = none ∧ y ≠ 784 ∧ y ≠ 1000 := fun y e hm => ⟨hidN y (far y e).1 (far y e).2.1 hm, (far y e).2.2⟩
  exact { ns := ns, bs := fun b o e => keep b o (hb b o e), R := Rep.start' gx gd gal gar (lm x List.mem_cons_self) (lm ar (.tail _ (.tail _ (.tail _ List.mem_cons_self)))) hda (t7.kept k0 (fun q => nomatch q) (fun q => nomatch q)) (t9.kept k0 (fun q => nomatch q) (fun q => nomatch q)),
           hso := ⟨keep _ _ hsc.1, hsc.2⟩, hx := (fun _ q => nomatch q), hf := (fun _ q => nomatch q), hxl := ⟨0, gxl⟩, hla := (fun _ q => nomatch q), ln := List.nodup_nil,
           hdl := ⟨[], gdl, (fun _ q => nomatch q), fun _ _ _ => rfl⟩, hds := ⟨[], gds, (fun _ q => nomatch q), fun _ _ _ => rfl⟩, hcu := c1, hcr := c2, osc := hidN sc n7 n9 fun z hz => nsc z (frM z hz),
           off := allCons (offY L frL.1 (lowN L (Nat.le_add_right L 2))) (allCons (offY (L + 1) frL.2.1 (lowN (L + 1) (Nat.le_succ _))) (allCons (offY (L + 2) frL.2.2 (lowN (L + 2) (Nat.le_refl _))) (allCons (offY xl (frH xl List.mem_cons_self) (highN xl (Nat.le_refl _)))
             (allCons (offY dl (frH dl (.tail _ List.mem_cons_self)) (highN dl (Nat.le_of_lt xd))) (allCons (offY ds (frH ds (.tail _ (.tail _ List.mem_cons_self))) (highN ds (Nat.le_of_lt (Nat.lt_trans xd dd)))) allNil))))),
           bh := (show ∀ y ∈ [782, 998, x, dx, al, ar], base.get? y = none from allCons b7 (allCons b9 fun y hy => (far y (frM y hy)).2.2.1)),
           nd := nodup7 (Nat.lt_succ_self L) (Nat.lt_succ_self (L + 1)) lL xd dd (nsc L frL.1) (nsc _ frL.2.1) (nsc _ frL.2.2) (nsc xl (frH xl List.mem_cons_self)) (nsc dl (frH dl (.tail _ List.mem_cons_self))) (nsc ds (frH ds (.tail _ (.tail _ List.mem_cons_self)))),
           bl := bl, lo := ⟨Nat.lt_trans lx xd, Nat.lt_trans lx (Nat.lt_trans xd dd)⟩, os := ho, ge := ge }
theorem SS.new_inv (h : n ≤ 5) : InvS (SS.new n) := InvS.new h
end
end
section
open SeqAt
section
variable {w : World} {mg mb : PySem.Str → Option Value} {base : Heap} {os₀ : OsState} {d u : Nat} {gs : Option (List Code)} {E : Value → Shared → Prop} {s : Shared} {A : AD} {σ : SS} {L xl dl ds am : Addr} {so : SO} {la : Pr → Addr} {ls : List Pr} {lc : Fin 5 → Fin 5 → Fin 3 → Option (Fin 3)} {lp : Fin 5 → Fin 5 → Fin 3 → Option (Fin 7)}
  {lv : Value} {v6 v7 v8 v9 v10 v11 v12 v13 v14 v15 : Option Value} {cu cr : Option Value} {P : Shared → Prop}
theorem law_walk {sc : Addr} {vs : List Value} {ns : List Int} {ks : Nat} {R : Result → Shared → Prop} (X0 : (K w.params).In base) (T0 : TopRead q (looseW q loose) mg mb base) (hb : base.StaysIn s.heap) (t7 : TabOk s.heap 784 782) (t9 : TabOk s.heap 1000 998) (b7 : base.get? 782 = none) (b9 : base.get? 998 = none)
  (hd : d + 150 < recursionLimit) (hu : u + 400 < cLine) (hs : s.heap.get? sc = some (listOf vs.toArray ks)) (n7 : sc ≠ 782) (n9 : sc ≠ 998) (hz : ns.length ≤ 63) (hI : IntsAre vs ns) (ge : AllBare s.gens)
  (h : ∀ s', s'.os = s.os → AllBare s'.gens → base.StaysIn s'.heap → TabOk s'.heap 784 782 → TabOk s'.heap 1000 998 → R (.ok (.ret (.bool true))) s') :
  codeAny (model pw_ae0023_01 w) (Ar d [] gs u) (.call (.ref 1130) ⟨[.ref sc], []⟩) R s := by
  walk_at "f"
  refine' enter_defC (led := []) (cx0 X0 T0) hb (fun _ q => nomatch q) ?k6 ?k7 (room0 hd) ?k9 ?kB ?kD ?_ ?c2 ?c3 ?c4
  ((case k6 => k_dflt k_is); (case k7 => k_dflt k_is); (case k9 => k_dflt (first | exact BindsTo.of_eq rfl | exact binds_K (by k_in) rfl (by k_is) rfl rfl rfl)); (case kB => k_dflt (exact rfl)); (case kD => k_dflt (decide +kernel)); (case c2 => exact rfl); (case c3 => exact rfl); (case c4 => exact rfl))
  intro L h' tk' cells' hL hgL F' N' Y' C' l1
  have X' := C'.X
  have T' := C'.T
  k_cells Y'
  rename_i oR oU hcR hcU
  have cR : oR.data = .cell none := hcR
  have cU : oU.data = .cell none := hcU
  clear hcR hcU
  simp only [List.cons_append, List.nil_append, List.append_nil] at N'
  show wpAny _ _ (execs lawBody (lawE L)) _ _ _
  rw [lawBody_is]
  have hL0 : (restH s.heap []).get? L = none := by rw [restH_nil]; exact hL
  have F2 : Fr (restH s.heap []) L h' (tabM [("script", some (.ref sc)), ("level", none), ("manager", none), ("links", none), ("laid", none), ("said", none), ("k", none), ("deed", none), ("kind", none), ("pick", none), ("domain", none), ("condition", none), ("words", none), ("name", none), ("other", none), ("where", none)]) := by
    have z : Fr (restH s.heap []) L h' (tabM [("script", some (.ref sc))]) := F'
    rw [tabM_pad (l' := [("level", none), ("manager", none), ("links", none), ("laid", none), ("said", none), ("k", none), ("deed", none), ("kind", none), ("pick", none), ("domain", none), ("condition", none), ("words", none), ("name", none), ("other", none), ("where", none)]) (by simp)] at z
    exact z
  clear F'
  have big : @LT.lt Nat _ 1 L := by
    have h1 : @LT.lt Nat _ 784 s.heap.objs.size := by obtain ⟨⟨o, e⟩, _⟩ := t7.at; exact Heap.lt_size e
    have h2 : @LE.le Nat _ s.heap.objs.size L := by have := F2.above; rw [show (restH s.heap []).objs.size = s.heap.objs.size from hideAll_size _ _] at this; exact this
    omega
  generalize hRr : (fun (fl : Flow) s' => R (.ok (.ret (match fl with | .ret v => v | _ => .none))) s') = RR
  generalize hEe : (fun (e : Value) s' => wpAny (model pw_ae0023_01 w) ((Ar d [] gs u).deeper (lawE L)) (leaving (lawE L) e) (fun _ s'' => R (.error e) s'') (fun e' s'' => R (.error e') s'') s') = EE
  show wpAny _ _ (execs (Stmt.Assign [_] _ _ :: Stmt.Assign [_] _ _ :: Stmt.Assign [_] _ _ :: Stmt.Assign [_] _ _ :: Stmt.Assign [_] _ _ :: Stmt.For _ _ _ _ _ :: _) _) _ _ _
  (repeat (walk_at "b"; walk_at "B"; walk_at "V"; (fail_if_success (with_reducible (first | show wpAny _ _ (execs (Stmt.For _ _ _ _ _ :: _) _) _ _ _ | show wpAny _ _ (exec (Stmt.Assign [Expr.Name _ _] (Expr.ListComp _ _ _ _) _) _) _ _ _ | show wpAny _ _ (compareOp CmpOp.NotEq (Value.ref _) (Value.ref _)) _ _ _ | show wpAny _ _ (compareOp CmpOp.NotEq (Value.bool _) (Value.bool _)) _ _ _))); walk_at "w"))
  rename Fr _ _ _ _ => F1
  rename News _ _ _ _ => N1
  refine law_number (vs := vs) (ns := ns) (k := ks) (Fr.cxx (xs := []) C' F1 hL0 (fun _ q => nomatch q) ?c5 ?c6) (fun b o e => of_hideAll _ e) (roomD hd) (roomU hu) (F1.keep _ _ (by rw [restH_nil]; exact hs)) hz hI (fun s2 j t p2 => ?_)
  case c5 => rfl
  case c6 => rfl
  replace F1 := F1.keeps p2.all
  replace N1 := N1.grown p2.all
  (repeat (walk_at "b"; walk_at "B"; walk_at "V"; (fail_if_success (with_reducible (first | show wpAny _ _ (execs (Stmt.For _ _ _ _ _ :: _) _) _ _ _ | show wpAny _ _ (exec (Stmt.Assign [Expr.Name _ _] (Expr.ListComp _ _ _ _) _) _) _ _ _ | show wpAny _ _ (compareOp CmpOp.NotEq (Value.ref _) (Value.ref _)) _ _ _ | show wpAny _ _ (compareOp CmpOp.NotEq (Value.bool _) (Value.bool _)) _ _ _))); walk_at "w"))
  rename Fr _ _ _ _ => F1
  rename News _ _ _ _ => N1
  obtain ⟨n, hn, h5⟩ : ∃ n : Nat, j.fmod 5 = (n : Int) ∧ n ≤ 5 := ⟨(j.fmod 5).toNat, by have := fmod_lt j (show (0 : Int) < 5 by decide); omega, by have := fmod_lt j (show (0 : Int) < 5 by decide); omega⟩
  rw [hn] at F1
  rw [hn]
  refine' call_cls F1 X' N1 ?k4 ?k5 ?k6 ?_
  case k4 => k_dflt k_is
  case k5 => k_dflt k_is
  case k6 => k_dflt k_is
  intro x dx h2 F2 N2 l2 l3
  k_lt l2
  refine mgr_init (Fr.cxx (xs := [x, dx]) C' F2 hL0 ?kx ?e1 ?e2) (fun b o e => of_hideAll _ e) ?r1 ?r2 ⟨N2.get (mAt 0 rfl), hideAll_none _ (by simp)⟩ ⟨N2.get (mAt 1 rfl), hideAll_none _ (by simp)⟩ l3 (fun al ar s3 p3 hg3 e1 e2 e3 hf hne => ?_)
  case kx =>
    exact allCons ((N2 _ (mAt 0 rfl)).2) (allCons ((N2 _ (mAt 1 rfl)).2) allNil)
  case e1 => rfl
  case e2 => rfl
  case r1 => first | (show d + 1 + 6 < recursionLimit; omega) | (show d + 1 + 0 + 6 < recursionLimit; omega) | (show d + 1 + 1 + 6 < recursionLimit; omega)
  case r2 => first | (show u + 3 + 16 < cLine; omega) | (show u + 3 + 1 + 16 < cLine; omega) | (show u + 3 + 2 + 16 < cLine; omega) | (show u + 3 + 3 + 16 < cLine; omega)
  obtain ⟨t1, t2, t3, t4, t5, e3⟩ := e3
  dsimp only [InitBack]
  have F3 : Fr (restH s.heap []) L h2 (tabM [("script", some (.ref sc)), ("level", some (.int (n : Int) _)), ("manager", none), ("links", none), ("laid", none), ("said", none), ("k", none), ("deed", none), ("kind", none), ("pick", none), ("domain", none), ("condition", none), ("words", none), ("name", none), ("other", none), ("where", none)]) := frTab F2 rfl
  refine ⟨rfl, ?_⟩
  have r0 : ∀ {y : Addr}, (restH s.heap []).get? y = none → s.heap.get? y = none := fun e => by rw [restH_nil] at e; exact e
  have fx := r0 (N2 _ (mAt 0 rfl)).2.2
  have fdx := r0 (N2 _ (mAt 1 rfl)).2.2
  have fR : s.heap.get? (L + 2) = none := r0 (N2 _ (mAt 2 rfl)).2.2
  have fU : s.heap.get? (L + 1) = none := r0 (N2 _ (mAt 3 rfl)).2.2
  have keep2 : ∀ b o, s.heap.get? b = some o → h2.get? b = some o := fun b o e => F3.keep b o (by rw [restH_nil]; exact e)
  have keep3 : ∀ b o, s.heap.get? b = some o → s3.heap.get? b = some o := fun b o e => p3.keep b o (keep2 b o e) fun q => by
    rw [List.mem_singleton.mp q, fdx] at e; cases e
  have fal : s.heap.get? al = none := by
    cases q : s.heap.get? al with
    | none => rfl
    | some o => have := (hf al (by simp)).1; rw [show h2.get? al = some o from keep2 _ _ q] at this; cases this
  have far : s.heap.get? ar = none := by
    cases q : s.heap.get? ar with
    | none => rfl
    | some o => have := (hf ar (by simp)).1; rw [show h2.get? ar = some o from keep2 _ _ q] at this; cases this
  have base0 : ∀ {y : Addr}, s.heap.get? y = none → base.get? y = none := fun {y} e => by
    cases q : base.get? y with
    | none => rfl
    | some o => have := hb _ _ q; rw [e] at this; cases this
  have dxL : @LT.lt Nat _ (L + 1 + 1) dx := l2.1
  have lxal : @LT.lt Nat _ x al := (hf al (by simp)).2
  have lxar : @LT.lt Nat _ x ar := (hf ar (by simp)).2
  have ldx : @LT.lt Nat _ dx x := l3
  have gx3 : s3.heap.get? x = some (instObj 1061 dx) := p3.keep _ _ (N2.get (mAt 0 rfl)) fun q => by have q' : @Eq Nat x dx := List.mem_singleton.mp q; omega
  have gR3 : s3.heap.get? (L + 2) = some oR := p3.keep _ _ (N2.get (mAt 2 rfl)) fun q => by have q' : @Eq Nat (L + 1 + 1) dx := List.mem_singleton.mp q; omega
  have gU3 : s3.heap.get? (L + 1) = some oU := p3.keep _ _ (N2.get (mAt 3 rfl)) fun q => by have q' : @Eq Nat (L + 1) dx := List.mem_singleton.mp q; omega
  have ns3 := F3.ns.at' (h' := s3.heap) fun o e => p3.keep _ o e fun q => by have q' : @Eq Nat L dx := List.mem_singleton.mp q; omega
  have bs3 : base.StaysIn s3.heap := fun b o e => keep3 b o (hb b o e)
  have nL : ∀ {y : Nat}, @LT.lt Nat _ L y → (y : Addr) ≠ L := fun h q => by have q' : @Eq Nat _ L := q; omega
  have ge3 : AllBare s3.gens := p3.bare (p2.bare ge)
  have os3 : s3.os = s.os := p3.os.trans p2.os
  obtain ⟨h₀, tl, G, F4, N4⟩ := Gr.make (s := s3) [(x, instObj 1061 dx), (dx, mgrD w.params t1 t2 t3 t4 t5 (.int (n : Int) (s2.toks + 1)) al ar), (al, listOf #[] 0), (ar, dictOf [] 0), (L + 2, oR), (L + 1, oU)] (cx0 X0 T0) bs3 hgL ns3
    (allCons ⟨gx3, nL (by omega), base0 fx⟩ (allCons ⟨e3, nL (by omega), base0 fdx⟩ (allCons ⟨e1, nL (by omega), base0 fal⟩ (allCons ⟨e2, nL (by omega), base0 far⟩ (allCons ⟨gR3, nL (by omega), base0 fR⟩ (allCons ⟨gU3, nL (by omega), base0 fU⟩ allNil))))))
  clear X' T' F3 N2 F2 N1 F1 C' hf p3 hg3 e1 e2 e3 gx3 gR3 gU3 ns3
  have X' := G.C.X
  have T' := G.C.T
  dsimp only [List.cons_append, List.nil_append] at N4
  (repeat (walk_at "b"; walk_at "B"; walk_at "V"; (fail_if_success (with_reducible (first | show wpAny _ _ (execs (Stmt.For _ _ _ _ _ :: _) _) _ _ _ | show wpAny _ _ (exec (Stmt.Assign [Expr.Name _ _] (Expr.ListComp _ _ _ _) _) _) _ _ _ | show wpAny _ _ (compareOp CmpOp.NotEq (Value.ref _) (Value.ref _)) _ _ _ | show wpAny _ _ (compareOp CmpOp.NotEq (Value.bool _) (Value.bool _)) _ _ _))); walk_at "w"))
  rename Fr _ _ _ _ => F5
  rename News _ _ _ _ => N5
  rename_i xl q1 lxl q2 dl q4 odl q5 idl q6 q7 q8 ldl q9 ds q10 ods q11 ids q12 q13 q14 lds hB
  have F9 : Fr h₀ L hB (fmap (fmap (fmap (fmap (tabM [("script", some (.ref sc)), ("level", some (.int (n : Int) (s2.toks + 1))), ("manager", none), ("links", none), ("laid", none), ("said", none), ("k", none), ("deed", none), ("kind", none), ("pick", none), ("domain", none), ("condition", none), ("words", none), ("name", none), ("other", none), ("where", none)]) "manager" (.ref x)) "links" (.ref xl)) "laid" (.ref dl)) "said" (.ref ds)) := F5
  rw [fmap_tabM rfl, fmap_tabM rfl, fmap_tabM rfl, fmap_tabM rfl] at F9
  have KE := G.kept (M := []) F5 N5 (fun p hp => .inl (by revert p; walk_at "h")) (by walk_at "H")
  have m3 : ∀ {y : Nat}, @LT.lt Nat _ L y → (y : Addr) ∉ [L] := fun h q => by have q' : @Eq Nat _ L := List.mem_singleton.mp q; omega
  have keep9 : ∀ b o, s.heap.get? b = some o → hB.get? b = some o := fun b o e => KE b o (keep3 b o e) fun q => by rw [List.mem_singleton.mp q, hL] at e; cases e
  have fr9 : ∀ {y : Addr}, @LT.lt Nat _ (L + 1 + 1) y → h₀.get? y = none → y ∉ [x, dx, al, ar] → AllLt y tl → s.heap.get? y = none := fun {y} hy e hn ht => by
    cases q : s.heap.get? y with
    | none => rfl
    | some o =>
      have hc := G.cov y o (keep3 _ _ q) (nL (by omega)) (by
        intro z
        revert z
        exact neL (allCons (fun q => hn (q ▸ .head _)) (allCons (fun q => hn (q ▸ .tail _ (.head _))) (allCons (fun q => hn (q ▸ .tail _ (.tail _ (.head _)))) (allCons (fun q => hn (q ▸ .tail _ (.tail _ (.tail _ (.head _))))) (allCons (Nat.ne_of_gt hy) (allCons (Nat.ne_of_gt (Nat.lt_trans (Nat.lt_succ_self _) hy)) allNil)))))))
      rcases hc with z | z
      · rw [e] at z; cases z
      · exact (tbn_neAll ht _ z rfl).elim
  have a1 : @LT.lt Nat _ x xl := lxl.1
  have a0 : @LT.lt Nat _ dx xl := lxl.2.1
  have a2 : @LT.lt Nat _ al xl := lxl.2.2.1
  have a3 : @LT.lt Nat _ ar xl := lxl.2.2.2.1
  have a4 : @LT.lt Nat _ xl dl := ldl.1
  have a5 : @LT.lt Nat _ dl ds := lds.1
  have a6 : @LT.lt Nat _ (L + 1 + 1) x := Nat.lt_trans dxL ldx
  have mid : ∀ z ∈ [x, dx, al, ar], @LT.lt Nat _ (L + 2) z ∧ @LT.lt Nat _ z xl := allCons ⟨a6, a1⟩ (allCons ⟨dxL, a0⟩ (allCons ⟨Nat.lt_trans a6 lxal, a2⟩ (allCons ⟨Nat.lt_trans a6 lxar, a3⟩ allNil)))
  have hiN : ∀ {y : Nat}, @LE.le Nat _ xl y → (y : Addr) ∉ [x, dx, al, ar] := fun hy => neL fun z hz => Nat.ne_of_gt (Nat.lt_of_lt_of_le (mid z hz).2 hy)
  have hiL : ∀ {y : Nat}, @LE.le Nat _ xl y → @LT.lt Nat _ (L + 1 + 1) y := fun hy => Nat.lt_of_lt_of_le (Nat.lt_trans a6 a1) hy
  have f1 : s.heap.get? xl = none := fr9 (hiL (Nat.le_refl _)) (N5 _ (mAt 2 rfl)).2.2 (hiN (Nat.le_refl _)) lxl.2.2.2.2.2.2
  have f2 : s.heap.get? dl = none := fr9 (hiL (Nat.le_of_lt a4)) (N5 _ (mAt 1 rfl)).2.2 (hiN (Nat.le_of_lt a4)) ldl.2.2.2.2.2.2.2
  have f3 : s.heap.get? ds = none := fr9 (hiL (Nat.le_of_lt (Nat.lt_trans a4 a5))) (N5 _ (mAt 0 rfl)).2.2 (hiN (Nat.le_of_lt (Nat.lt_trans a4 a5))) lds.2.2.2.2.2.2.2.2
  have x9 : LawI w base s.os L sc ⟨listOf vs.toArray ks, []⟩ (AD.new x dx al ar) (SS.new n) xl dl ds (fun _ => 0) [] (fun _ _ _ => none) (fun _ _ _ => none) (tabM (tL sc xl dl ds x (.int (n : Int) (s2.toks + 1)) none none none none none none none none none none)) none none { s3 with heap := hB } := by
    exact LawI.start (s₀ := s) F9.ns keep9 hb hgL t7 t9 b7 b9 ⟨hs, ne_tup (by decide)⟩ n7 n9 ⟨hL, fU, fR⟩ (allCons fx (allCons fdx (allCons fal (allCons far allNil)))) (allCons f1 (allCons f2 (allCons f3 allNil))) mid a4 a5 (Nat.ne_of_lt (Nat.lt_trans ldx lxar)) big (N5.get (mAt 3 rfl)) ⟨_, _, _, _, _, _, N5.get (mAt 4 rfl)⟩ (N5.get (mAt 5 rfl)) (N5.get (mAt 6 rfl)) (N5.get (mAt 2 rfl)) (emptyDict_D (N5.get (mAt 1 rfl)) idl) (emptyDict_D (N5.get (mAt 0 rfl)) ids) ⟨_, N5.get (mAt 8 rfl), cU⟩ ⟨_, N5.get (mAt 7 rfl), cR⟩ os3 ge3
  clear F5 N5 F9 KE G X' T'
  show wpAny _ _ (execs (_ :: _) _) _ _ _
  refine run_cons (loop12 (vs := vs) (ns := ns) (ks := ks) (n := n) (tv := s2.toks + 1) X0 T0 (roomS hd) (roomS hu) rfl hz hI (SS.new_inv h5) rfl rfl rfl x9.tk (fun s4 m4 h4 => ?_))
  refine run_cons (loop5 (vs := vs) (ns := ns) (ks := ks) X0 T0 (roomS hd) (roomS hu) rfl hz hI h4 (fun s5 m5 h6 => ?_))
  obtain ⟨A9, σ9, xl9, la9, cu9, cr9, w6, w7, w8, w9, w10, w11, w12, w13, w14, w15, I9, l9, e9, rfl, x10⟩ := h6
  refine Ob23 (x10.gr X0 T0 [] allNil) fun h₀' tl' G' F' N' => ?_
  have X' := G'.C.X
  have T' := G'.C.T
  show wpAny _ _ (execs [Stmt.Return _ _] _) _ _ _
  (repeat (walk_at "b"; walk_at "B"; walk_at "V"; (fail_if_success (with_reducible (first | show wpAny _ _ (execs (Stmt.For _ _ _ _ _ :: _) _) _ _ _ | show wpAny _ _ (exec (Stmt.Assign [Expr.Name _ _] (Expr.ListComp _ _ _ _) _) _) _ _ _ | show wpAny _ _ (compareOp CmpOp.NotEq (Value.ref _) (Value.ref _)) _ _ _ | show wpAny _ _ (compareOp CmpOp.NotEq (Value.bool _) (Value.bool _)) _ _ _))); walk_at "w"))
  rw [← hRr]
  exact h _ x10.os x10.ge x10.bs x10.R.t7 x10.R.t9
end
end
section
noncomputable section
abbrev K2 (P : Params) : Frag := (nat_lit 782, o782) :: (nat_lit 998, o998) :: K P
abbrev K2a : List Addr := 782 :: 998 :: Ka
theorem K2a_is : ∀ P : Params, K2a = (K2 P).map (·.1) := fun _ => by kernel_rfl
abbrev HK2 : Hook := kHook K2 K2a K2a_is
theorem got1 {t : BT} {n : Nat} {life : Life} {a : Nat} (h : a < n) : (absHeap t n life).get? a = alive ((t.get a).getD default) := by
  unfold Heap.get?
  rw [absHeap_at, if_pos h]
  generalize (t.get a).getD default = o
  obtain ⟨c, d, dt, sl⟩ := o
  cases dt <;> rfl
theorem got (t : BT) (n : Nat) (life : Life) : ∀ as : List Addr, as.all (Nat.blt · n) = true → as.map (absHeap t n life).get? = as.map fun a => alive ((t.get a).getD default)
  | [], _ => rfl
  | a :: as, h => by
    rw [List.all_cons, Bool.and_eq_true] at h
    rw [List.map_cons, List.map_cons, got t n life as h.2, got1 (Nat.blt_eq.mp h.1)]
theorem look12 (w : World) (os : OsState) : HK2.obs (E33 w os) = HK2.val w := (got (T33 w.params) 1131 {} K2a (by kernel_rfl)).trans (by kernel_rfl)
theorem looks_are2 (w : World) : (fun os => ((staticsOk (importedModules pw_ae0023_01.main.body) (boot_heap w.params) (H33 w.params) && namesBound pw_ae0023_01 (H33 w.params) && gensDone (E33 w os) && laidKept (boot_heap w.params) (H33 w.params)),
    openSeen q loose (importedModules pw_ae0023_01.main.body) (fun s => xlAt q [] s && recOk [] s) true (E33 w os), HK2.obs (E33 w os))) = fun _ => (true, openGood q loose, HK2.val w) := by
  funext os
  exact looks_pair (look1 w os) (looks_pair (looks_pair (look2 w os) (looks_pair (look3 w os) (looks_pair (look4 w os) (looks_pair (look5 w os) (looks_pair (look6 w os) (looks_pair (look7 w os) (looks_pair (look8 w os) (looks_pair (look9 w os) (look10 w os))))))))) (look12 w os))
theorem left2 : LeftO pw_ae0023_01 q loose (fun s => xlAt q [] s && recOk [] s) HK2.obs HK2.val 20502 true :=
  LeftO.of_pieces (H₁ := H33) (gs₁ := #[]) (d₁ := {}) (k₁ := 1742) open_is size_is run_is (by kernel_rfl) looks_are2
end
section
variable {w : World} {mg mb : PySem.Str → Option Value} {h h' : Heap}
theorem tab7 (X : (K2 w.params).In h) : TabOk h 784 782 :=
  TabOk.of (ps := #[]) ⟨o784, _, _, _, _, _, _, _, _, o782, X 784 _ rfl, rfl, rfl, rfl, rfl, rfl, rfl, X 782 _ rfl, rfl, trivial, by decide⟩ ⟨⟨o784, _, X 784 _ rfl, rfl, rfl, rfl⟩, X 782 _ rfl⟩
theorem tab9 (X : (K2 w.params).In h) : TabOk h 1000 998 :=
  TabOk.of (ps := #[]) ⟨o1000, _, _, _, _, _, _, _, _, o998, X 1000 _ rfl, rfl, rfl, rfl, rfl, rfl, rfl, X 998 _ rfl, rfl, trivial, by decide⟩ ⟨⟨o1000, _, X 1000 _ rfl, rfl, rfl, rfl⟩, X 998 _ rfl⟩
theorem K_none (P : Params) : (K P).lookup 782 = none ∧ (K P).lookup 998 = none := ⟨by kernel_rfl, by kernel_rfl⟩
theorem K_base (X : (K2 w.params).In h) : (K w.params).In (hideAll h [782, 998]) := fun a o e => by
  have n1 : a ≠ 782 := fun q => by rw [q, (K_none _).1] at e; cases e
  have n2 : a ≠ 998 := fun q => by rw [q, (K_none _).2] at e; cases e
  refine hideAll_get _ (X a o ?_) (by simp [n1, n2])
  have b1 : (a == (nat_lit 782 : Addr)) = false := beq_eq_false_iff_ne.mpr n1
  have b2 : (a == (nat_lit 998 : Addr)) = false := beq_eq_false_iff_ne.mpr n2
  show List.lookup a ((nat_lit 782, o782) :: (nat_lit 998, o998) :: K w.params) = some o
  rw [List.lookup_cons, b1]
  show List.lookup a ((nat_lit 998, o998) :: K w.params) = some o
  rw [List.lookup_cons, b2]
  exact e
theorem Ns.hide {a : Addr} {m : PySem.Str → Option Value} {xs : List Addr} (n : h.Ns a m) (ha : a ∉ xs) : (hideAll h xs).Ns a m :=
  let ⟨o, es, ep, e, r⟩ := n; ⟨o, es, ep, hideAll_get _ e ha, r⟩
theorem T_base (T : TopRead q (looseW q loose) mg mb h) : TopRead q (looseW q loose) mg mb (hideAll h [782, 998]) :=
  ⟨Ns.hide T.g (by decide), Ns.hide T.b (by decide), let ⟨mc, n, e⟩ := T.nolimit; ⟨mc, Ns.hide n (by decide), e⟩, T.builtins, T.free⟩
theorem law_addr (X : (K2 w.params).In h) (T : TopRead q (looseW q loose) mg mb h) : mg "law" = some (.ref 1130) := mg_of X T.g (by kernel_rfl)
theorem old_is (X : (K2 w.params).In h) (hb : (hideAll h [782, 998]).StaysIn h') (t7 : TabOk h' 784 782) (t9 : TabOk h' 1000 998) : OldK h h' := by
  obtain ⟨p7, _, _, g7⟩ := t7.code
  obtain ⟨p9, _, _, g9⟩ := t9.code
  obtain ⟨_, _, z7⟩ := (tab7 X).code
  obtain ⟨_, _, z9⟩ := (tab9 X).code
  have e7 := X 782 _ rfl
  have e9 := X 998 _ rfl
  refine ⟨fun b o e => ?_, fun b o e => ?_⟩
  · by_cases q7 : b = 782
    · subst q7
      rw [show h.get? 782 = _ from e7] at e; cases e
      exact .inr (.inl ⟨z7.isCodeTable, rfl, #[], p7, rfl, by rw [g7]; simp⟩)
    · by_cases q9 : b = 998
      · subst q9
        rw [show h.get? 998 = _ from e9] at e; cases e
        exact .inr (.inl ⟨z9.isCodeTable, rfl, #[], p9, rfl, by rw [g9]; simp⟩)
      · exact .inl (hb b o (hideAll_get _ e (by simp [q7, q9])))
  · by_cases q7 : b = 782
    · exact ⟨_, q7 ▸ g7⟩
    · by_cases q9 : b = 998
      · exact ⟨_, q9 ▸ g9⟩
      · exact ⟨o, hb b o (hideAll_get _ e (by simp [q7, q9]))⟩
end
end
section
theorem said2 : namesResolve rw_ae0023_01.row.prog = true := by rewrite [PySem.W.Fast.te8377067652309620493]; kernel_rfl
theorem said4b : (["vars", "dir", "locals"] : List PySem.Str).filter (readsOut rw_ae0023_01.row.prog rw_ae0023_01.row.prog.main.body) = [] := by rewrite [PySem.W.Fast.te13343964577679436407]; kernel_rfl
theorem said4 : noRoadLSs { strict := !(importedModules rw_ae0023_01.row.prog.main.body).all cThrough.contains, foot := none, bare := (["vars", "dir", "locals"] : List PySem.Str).filter (readsOut rw_ae0023_01.row.prog rw_ae0023_01.row.prog.main.body) } rw_ae0023_01.row.prog.main.body = true := by rewrite [PySem.W.Fast.te8326940854005059898, said4b]; kernel_rfl
theorem said5 : (namesMeet rw_ae0023_01.row.prog rw_ae0023_01.row.prog.main.body fun _ n => attrL n) = true := by rewrite [PySem.W.Fast.te17119622794617984870, PySem.W.Fast.te17868728402115742887]; kernel_rfl
theorem said37 : (namesMeet rw_ae0023_01.prog rw_ae0023_01.above fun _ n => !rw_ae0023_01.own.contains n) = true := by rewrite [PySem.W.Fast.te17119622794617984870]; kernel_rfl
theorem saidB : (rw_ae0023_01.bound'.all fun n => !builtinNamed n || rw_ae0023_01.about == [n] || !rw_ae0023_01.reads n) = true := by rewrite [Fast.named_eq, PySem.W.Fast.te6984425678791042302]; kernel_rfl
theorem saidO : (rw_ae0023_01.own.all fun n => !builtinNamed n) = true := by rewrite [Fast.named_eq]; kernel_rfl
theorem saidW : rw_ae0023_01.row.prog.tablesWhole = true := by
  unfold Program.tablesWhole TablesWhole.wProgram TablesWhole.holds
  rewrite [PySem.W.Fast.te6116379765354995101, PySem.W.Fast.te15985051520779696433]; kernel_rfl
theorem said : rw_ae0023_01.wellSaid = true := by
  unfold OpenLaw.wellSaid OpenRow.wellSaid OpenRow.partSaid looksOpen
  repeat' (with_reducible apply look_both)
  all_goals first | with_reducible exact said2 | with_reducible exact said4 | with_reducible exact said5 | with_reducible exact said37 | with_reducible exact saidB | with_reducible exact saidO | kernel_rfl
theorem script_at {P : Params} {h : Heap} {sc : Addr} {vs : List Value} {is : List WData} (w : Well P h (.ref sc) (.list is)) (hL : h.IsList sc vs.toArray) : h.get? sc = some (listOf vs.toArray 0) := by
  cases w with
  | list e _ =>
    obtain ⟨o, e2, _, n, d2⟩ := hL
    rw [e] at e2
    cases e2
    injection d2 with d2 _
    rw [e, d2]
theorem sc_ne {h : Heap} {sc a : Addr} {v : Array Value} {k : Nat} {o : Obj} (hs : h.get? sc = some (listOf v k)) (e : h.get? a = some o) (hc : o.cls = .none) : sc ≠ a := fun q => by
  rw [q, e] at hs; cases hs; cases hc
def LawSays : Prop := ∀ {w : World} {mg mb : PySem.Str → Option Value} {base : Heap} {d u : Nat} {gs : Option (List Code)} {s : Shared} {sc : Addr} {vs : List Value} {ns : List Int} {ks : Nat} {R : Result → Shared → Prop}, (K w.params).In base → TopRead q (looseW q loose) mg mb base → base.StaysIn s.heap → TabOk s.heap 784 782 → TabOk s.heap 1000 998 → base.get? 782 = none → base.get? 998 = none →
  d + 150 < recursionLimit → u + 400 < cLine → s.heap.get? sc = some (listOf vs.toArray ks) → sc ≠ 782 → sc ≠ 998 → ns.length ≤ 63 → IntsAre vs ns → AllBare s.gens →
  (∀ s', s'.os = s.os → AllBare s'.gens → base.StaysIn s'.heap → TabOk s'.heap 784 782 → TabOk s'.heap 1000 998 → R (.ok (.ret (.bool true))) s') →
  codeAny (model pw_ae0023_01 w) (Ar d [] gs u) (.call (.ref 1130) ⟨[.ref sc], []⟩) R s
theorem whole (law : LawSays) : rw_ae0023_01.Holds := by
  refine holds_law said fun said' => ?_
  refine holds_open (r := rw_ae0023_01.row) (q := q) (loose := loose) (Xt := fun s => xlAt q [] s && recOk [] s) (XP := XL q []) (Yf := HK2.obs) (Ya := HK2.val) (YP := HK2.says) (N := 20502) left2 HK2.of HK2.keeps
    (fun s e => xl_of s (Bool.and_eq_true_iff.mp e).1) XL.keeps (by rfl) (by rfl) (by rfl) (fun s e => recFacts_of (Bool.and_eq_true_iff.mp e).2) (by rfl) said' (by kernel_rfl) ⟨rfl, rfl, rfl, rfl, rfl, saidW⟩ ?hw ?hc
  case hw => w_witness2
  intro w s₀ s₁ mg mb G Y fa o pm cd doc dV kV ho hd hcd hD hmg hg args vals as hpre hlay hrd hwl hlo
  have X2 : (K2 w.params).In s₁.heap := kIn_of Y
  have TR := topRead_of G.T
  have hfa : fa = 1130 := by
    have z2 : mg "law" = some (.ref fa) := hmg
    exact Value.ref.inj (Option.some.inj (z2.symm.trans (law_addr X2 TR)))
  subst hfa
  clear ho hd hcd hD hmg
  wrow_args hpre hlay hrd hwl hlo
  rename_i ns hsx h1 h2 h3 h4 as1 as2 sc vs as3 hL ra w1 r0 hI hr hc1 hc2
  have w2 : Well w.params s₁.heap (.ref sc) (.list (ofPys (List.map PyData.int ns))) := w1
  have hsl := script_at w2 hL
  have n7 : sc ≠ 782 := sc_ne hsl (X2 782 _ rfl) rfl
  have n9 : sc ≠ 998 := sc_ne hsl (X2 998 _ rfl) rfl
  have hz : ns.length ≤ 63 := by omega
  clear hsx h1 h2 h3 h4 hL ra w1 r0 hr hc1 hc2 w2
  refine enter_call ?_
  refine law (base := hideAll s₁.heap [782, 998]) (d := 1 + claimMargin) (u := 4) (gs := some []) (ks := 0) (vs := vs) (ns := ns) (K_base X2) (T_base TR) (fun b o e => of_hideAll _ e) (tab7 X2) (tab9 X2) (hideAll_none _ (by simp)) (hideAll_none _ (by simp)) (by decide) (by decide) hsl n7 n9 hz hI (AllBare.of_eq hg) (fun s' ho hb hbs t7 t9 => ?_)
  refine ⟨.inl ⟨_, .bool true, [], rfl, raisesW_false ?_, .bool true, ?_, unshared_nil⟩, old_is X2 hbs t7 t9, ho, hb⟩
  · wrow_none_raised
  · wrow_post
end
end Mine
theorem PySem.Challenge.cw_ae0023_01_holds : PySem.Challenge.rw_ae0023_01.Holds :=
  Mine.whole Mine.law_walk
