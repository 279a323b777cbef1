import PyProof.Rows.All
import Wide.All
import OpenK.ZHead
import OpenK.KMore
import OpenK.KMake
import OpenK.KCls
import OpenK.KWalk
import KE.KFromBytes
import KE.IntText
import KE.KStopIter
import Wide.FinOn
import PySem.Challenge.RW_oh0108_01
set_option maxRecDepth 100000
set_option Elab.async false
set_option maxHeartbeats 2000000
set_option genSizeOf false
set_option genInjectivity false
set_option compiler.extract_closed false
set_option tactic.hygienic false
namespace Mine
theorem nope {α : Type} {x : α} {P : Prop} (e : none = some x) : P := by contradiction
theorem noep {α : Type} {x : α} {P : Prop} (e : some x = none) : P := by contradiction
theorem noff {P : Prop} (e : false = true) : P := by contradiction
theorem nott {P : Prop} (e : true = false) : P := by contradiction
theorem el02 {p1 p2 : Prop} {P : Prop} (h : p1 ∧ p2) (k : p1 → p2 → P) : P := k h.1 h.2
theorem el11 {α1 : Type} {p1 : α1 → Prop} {P : Prop} (h : ∃ x1, p1 x1) (k : ∀ x1, p1 x1 → P) : P := Exists.elim h fun x1 q1 => k x1 q1
theorem el03 {p1 p2 p3 : Prop} {P : Prop} (h : p1 ∧ p2 ∧ p3) (k : p1 → p2 → p3 → P) : P := k h.1 h.2.1 h.2.2
theorem el12 {α1 : Type} {p1 p2 : α1 → Prop} {P : Prop} (h : ∃ x1, p1 x1 ∧ p2 x1) (k : ∀ x1, p1 x1 → p2 x1 → P) : P := Exists.elim h fun x1 q1 => k x1 q1.1 q1.2
theorem el21 {α1 α2 : Type} {p1 : α1 → α2 → Prop} {P : Prop} (h : ∃ x1 x2, p1 x1 x2) (k : ∀ x1 x2, p1 x1 x2 → P) : P := Exists.elim h fun x1 q1 => Exists.elim q1 fun x2 q2 => k x1 x2 q2
theorem el04 {p1 p2 p3 p4 : Prop} {P : Prop} (h : p1 ∧ p2 ∧ p3 ∧ p4) (k : p1 → p2 → p3 → p4 → P) : P := k h.1 h.2.1 h.2.2.1 h.2.2.2
theorem el13 {α1 : Type} {p1 p2 p3 : α1 → Prop} {P : Prop} (h : ∃ x1, p1 x1 ∧ p2 x1 ∧ p3 x1) (k : ∀ x1, p1 x1 → p2 x1 → p3 x1 → P) : P := Exists.elim h fun x1 q1 => k x1 q1.1 q1.2.1 q1.2.2
theorem el22 {α1 α2 : Type} {p1 p2 : α1 → α2 → Prop} {P : Prop} (h : ∃ x1 x2, p1 x1 x2 ∧ p2 x1 x2) (k : ∀ x1 x2, p1 x1 x2 → p2 x1 x2 → P) : P := Exists.elim h fun x1 q1 => Exists.elim q1 fun x2 q2 => k x1 x2 q2.1 q2.2
theorem el05 {p1 p2 p3 p4 p5 : Prop} {P : Prop} (h : p1 ∧ p2 ∧ p3 ∧ p4 ∧ p5) (k : p1 → p2 → p3 → p4 → p5 → P) : P := k h.1 h.2.1 h.2.2.1 h.2.2.2.1 h.2.2.2.2
theorem el23 {α1 α2 : Type} {p1 p2 p3 : α1 → α2 → Prop} {P : Prop} (h : ∃ x1 x2, p1 x1 x2 ∧ p2 x1 x2 ∧ p3 x1 x2) (k : ∀ x1 x2, p1 x1 x2 → p2 x1 x2 → p3 x1 x2 → P) : P := Exists.elim h fun x1 q1 => Exists.elim q1 fun x2 q2 => k x1 x2 q2.1 q2.2.1 q2.2.2
theorem el32 {α1 α2 α3 : Type} {p1 p2 : α1 → α2 → α3 → Prop} {P : Prop} (h : ∃ x1 x2 x3, p1 x1 x2 x3 ∧ p2 x1 x2 x3) (k : ∀ x1 x2 x3, p1 x1 x2 x3 → p2 x1 x2 x3 → P) : P := Exists.elim h fun x1 q1 => Exists.elim q1 fun x2 q2 => Exists.elim q2 fun x3 q3 => k x1 x2 x3 q3.1 q3.2
theorem el41 {α1 α2 α3 α4 : Type} {p1 : α1 → α2 → α3 → α4 → Prop} {P : Prop} (h : ∃ x1 x2 x3 x4, p1 x1 x2 x3 x4) (k : ∀ x1 x2 x3 x4, p1 x1 x2 x3 x4 → P) : P := Exists.elim h fun x1 q1 => Exists.elim q1 fun x2 q2 => Exists.elim q2 fun x3 q3 => Exists.elim q3 fun x4 q4 => k x1 x2 x3 x4 q4
theorem el15 {α1 : Type} {p1 p2 p3 p4 p5 : α1 → Prop} {P : Prop} (h : ∃ x1, p1 x1 ∧ p2 x1 ∧ p3 x1 ∧ p4 x1 ∧ p5 x1) (k : ∀ x1, p1 x1 → p2 x1 → p3 x1 → p4 x1 → p5 x1 → P) : P := Exists.elim h fun x1 q1 => k x1 q1.1 q1.2.1 q1.2.2.1 q1.2.2.2.1 q1.2.2.2.2
theorem el24 {α1 α2 : Type} {p1 p2 p3 p4 : α1 → α2 → Prop} {P : Prop} (h : ∃ x1 x2, p1 x1 x2 ∧ p2 x1 x2 ∧ p3 x1 x2 ∧ p4 x1 x2) (k : ∀ x1 x2, p1 x1 x2 → p2 x1 x2 → p3 x1 x2 → p4 x1 x2 → P) : P := Exists.elim h fun x1 q1 => Exists.elim q1 fun x2 q2 => k x1 x2 q2.1 q2.2.1 q2.2.2.1 q2.2.2.2
theorem el33 {α1 α2 α3 : Type} {p1 p2 p3 : α1 → α2 → α3 → Prop} {P : Prop} (h : ∃ x1 x2 x3, p1 x1 x2 x3 ∧ p2 x1 x2 x3 ∧ p3 x1 x2 x3) (k : ∀ x1 x2 x3, p1 x1 x2 x3 → p2 x1 x2 x3 → p3 x1 x2 x3 → P) : P := Exists.elim h fun x1 q1 => Exists.elim q1 fun x2 q2 => Exists.elim q2 fun x3 q3 => k x1 x2 x3 q3.1 q3.2.1 q3.2.2
theorem el42 {α1 α2 α3 α4 : Type} {p1 p2 : α1 → α2 → α3 → α4 → Prop} {P : Prop} (h : ∃ x1 x2 x3 x4, p1 x1 x2 x3 x4 ∧ p2 x1 x2 x3 x4) (k : ∀ x1 x2 x3 x4, p1 x1 x2 x3 x4 → p2 x1 x2 x3 x4 → P) : P := Exists.elim h fun x1 q1 => Exists.elim q1 fun x2 q2 => Exists.elim q2 fun x3 q3 => Exists.elim q3 fun x4 q4 => k x1 x2 x3 x4 q4.1 q4.2
theorem el16 {α1 : Type} {p1 p2 p3 p4 p5 p6 : α1 → Prop} {P : Prop} (h : ∃ x1, p1 x1 ∧ p2 x1 ∧ p3 x1 ∧ p4 x1 ∧ p5 x1 ∧ p6 x1) (k : ∀ x1, p1 x1 → p2 x1 → p3 x1 → p4 x1 → p5 x1 → p6 x1 → P) : P := Exists.elim h fun x1 q1 => k x1 q1.1 q1.2.1 q1.2.2.1 q1.2.2.2.1 q1.2.2.2.2.1 q1.2.2.2.2.2
theorem el26 {α1 α2 : Type} {p1 p2 p3 p4 p5 p6 : α1 → α2 → Prop} {P : Prop} (h : ∃ x1 x2, p1 x1 x2 ∧ p2 x1 x2 ∧ p3 x1 x2 ∧ p4 x1 x2 ∧ p5 x1 x2 ∧ p6 x1 x2) (k : ∀ x1 x2, p1 x1 x2 → p2 x1 x2 → p3 x1 x2 → p4 x1 x2 → p5 x1 x2 → p6 x1 x2 → P) : P := Exists.elim h fun x1 q1 => Exists.elim q1 fun x2 q2 => k x1 x2 q2.1 q2.2.1 q2.2.2.1 q2.2.2.2.1 q2.2.2.2.2.1 q2.2.2.2.2.2
theorem el44 {α1 α2 α3 α4 : Type} {p1 p2 p3 p4 : α1 → α2 → α3 → α4 → Prop} {P : Prop} (h : ∃ x1 x2 x3 x4, p1 x1 x2 x3 x4 ∧ p2 x1 x2 x3 x4 ∧ p3 x1 x2 x3 x4 ∧ p4 x1 x2 x3 x4) (k : ∀ x1 x2 x3 x4, p1 x1 x2 x3 x4 → p2 x1 x2 x3 x4 → p3 x1 x2 x3 x4 → p4 x1 x2 x3 x4 → P) : P := Exists.elim h fun x1 q1 => Exists.elim q1 fun x2 q2 => Exists.elim q2 fun x3 q3 => Exists.elim q3 fun x4 q4 => k x1 x2 x3 x4 q4.1 q4.2.1 q4.2.2.1 q4.2.2.2
theorem el53 {α1 α2 α3 α4 α5 : Type} {p1 p2 p3 : α1 → α2 → α3 → α4 → α5 → Prop} {P : Prop} (h : ∃ x1 x2 x3 x4 x5, p1 x1 x2 x3 x4 x5 ∧ p2 x1 x2 x3 x4 x5 ∧ p3 x1 x2 x3 x4 x5) (k : ∀ x1 x2 x3 x4 x5, p1 x1 x2 x3 x4 x5 → p2 x1 x2 x3 x4 x5 → p3 x1 x2 x3 x4 x5 → P) : P := Exists.elim h fun x1 q1 => Exists.elim q1 fun x2 q2 => Exists.elim q2 fun x3 q3 => Exists.elim q3 fun x4 q4 => Exists.elim q4 fun x5 q5 => k x1 x2 x3 x4 x5 q5.1 q5.2.1 q5.2.2
noncomputable def Nl.gt (c : List Nat) : Nat → Nat := List.rec (fun _ => 0) (fun a _ ih n => Nat.rec a (fun m _ => ih m) n) c
noncomputable def Nl.dn (c : List Nat) (e : Nat.Internal.Linear.Expr) : Nat := Nat.Internal.Linear.Expr.rec (fun k => k) (fun i => Nl.gt c i) (fun _ _ a b => a + b) (fun k _ a => k * a) (fun _ k a => a * k) e
noncomputable def Nl.un (n : Nat) : List Nat := Nat.rec [1] (fun _ ih => 0 :: ih) n
noncomputable def Nl.ad (p : List Nat) : List Nat → List Nat := List.rec (fun q => q) (fun a p ih q => List.rec (a :: p) (fun b q _ => (a + b) :: ih q) q) p
noncomputable def Nl.lq (p : List Nat) : List Nat → Bool := List.rec (fun _ => true) (fun a _ ih q => List.rec (Nat.beq a 0 && ih []) (fun b q _ => Nat.ble a b && ih q) q) p
noncomputable def Nl.po (e : Nat.Internal.Linear.Expr) : List Nat := Nat.Internal.Linear.Expr.rec (fun k => [k]) (fun i => 0 :: Nl.un i) (fun _ _ a b => Nl.ad a b) (fun k _ a => a.map (k * ·)) (fun _ k a => a.map (k * ·)) e
noncomputable def Nl.pv (p : List Nat) : List Nat → Nat := List.rec (fun _ => 0) (fun a _ ih x => a * Nl.gt x 0 + ih x.tail) p
theorem Nl.gt_tail (x : List Nat) (i : Nat) : Nl.gt x.tail i = Nl.gt x (i + 1) := List.rec rfl (fun _ _ _ => rfl) x
theorem Nl.pv_un (i : Nat) : ∀ x, Nl.pv (Nl.un i) x = Nl.gt x i := by
 induction i with
 | zero => exact fun x => (Nat.one_mul _)
 | succ n ih => exact fun x => (show 0 * Nl.gt x 0 + Nl.pv (Nl.un n) x.tail = _ by exact Eq.trans (congrArg (· + _) (Nat.zero_mul _)) (Eq.trans (Nat.zero_add _) (Eq.trans (ih _) (Nl.gt_tail x n))))
theorem Nl.pv_ad (p : List Nat) : ∀ q x, Nl.pv (Nl.ad p q) x = Nl.pv p x + Nl.pv q x := by
 induction p with
 | nil => exact fun q x => (Nat.zero_add _).symm
 | cons a p ih =>
  intro q x
  cases q with
  | nil => rfl
  | cons b q =>
   show (a + b) * Nl.gt x 0 + Nl.pv (Nl.ad p q) x.tail = (a * Nl.gt x 0 + Nl.pv p x.tail) + (b * Nl.gt x 0 + Nl.pv q x.tail)
   exact Eq.trans (congr (congrArg _ (Nat.add_mul _ _ _)) (ih q _)) (Nat.add_add_add_comm _ _ _ _)
theorem Nl.pv_map (k : Nat) (p : List Nat) : ∀ x, Nl.pv (p.map (k * ·)) x = k * Nl.pv p x := by
 induction p with
 | nil => exact fun x => rfl
 | cons a p ih =>
  intro x
  show k * a * Nl.gt x 0 + Nl.pv (p.map (k * ·)) x.tail = k * (a * Nl.gt x 0 + Nl.pv p x.tail)
  exact Eq.trans (congr (congrArg _ (Nat.mul_assoc _ _ _)) (ih _)) (Nat.mul_add _ _ _).symm
theorem Nl.pv_le (p : List Nat) : ∀ q x, Nl.lq p q = true → Nl.pv p x ≤ Nl.pv q x := by
 induction p with
 | nil => exact fun q x _ => Nat.zero_le _
 | cons a p ih =>
  intro q x h
  cases q with
  | nil =>
   have h := Bool.and_eq_true_iff.mp h
   have e : a = 0 := Nat.eq_of_beq_eq_true h.1
   exact Nat.le_trans (Nat.le_of_eq (Eq.trans (congrArg (· * Nl.gt x 0 + Nl.pv p x.tail) e) (Eq.trans (congrArg (· + _) (Nat.zero_mul _)) (Nat.zero_add _)))) (ih [] x.tail h.2)
  | cons b q =>
   have h := Bool.and_eq_true_iff.mp h
   exact Nat.add_le_add (Nat.mul_le_mul_right _ (Nat.le_of_ble_eq_true h.1)) (ih q x.tail h.2)
theorem Nl.dn_po (c : List Nat) (e : Nat.Internal.Linear.Expr) : Nl.pv (Nl.po e) (1 :: c) = Nl.dn c e := by
 induction e with
 | num k => exact Nat.mul_one k
 | var i => exact (show 0 * 1 + Nl.pv (Nl.un i) c = Nl.gt c i from Eq.trans (congrArg (· + _) (Nat.zero_mul 1)) (Eq.trans (Nat.zero_add _) (Nl.pv_un i c)))
 | add a b iha ihb => exact Eq.trans (Nl.pv_ad (Nl.po a) (Nl.po b) _) (show _ = Nl.dn c a + Nl.dn c b from iha ▸ ihb ▸ rfl)
 | mulL k a ih => exact Eq.trans (Nl.pv_map k (Nl.po a) _) (congrArg (k * ·) ih)
 | mulR a k ih => exact Eq.trans (Nl.pv_map k (Nl.po a) _) (Eq.trans (congrArg (k * ·) ih) (Nat.mul_comm _ _))
theorem nl0 (c : List Nat) (g d : Nat.Internal.Linear.Expr) (h : Nl.lq (Nl.po g) (Nl.po d) = true) : Nl.dn c g ≤ Nl.dn c d :=
 Nl.dn_po c g ▸ Nl.dn_po c d ▸ Nl.pv_le _ _ _ h
theorem nl1 (c : List Nat) (a b g d : Nat.Internal.Linear.Expr) (h : Nl.lq (Nl.po (.add g b)) (Nl.po (.add d a)) = true) (h1 : Nl.dn c a ≤ Nl.dn c b) : Nl.dn c g ≤ Nl.dn c d :=
 Nat.le_of_add_le_add_right (b := Nl.dn c b) (Nat.le_trans (nl0 c (.add g b) (.add d a) h) (Nat.add_le_add_left h1 (Nl.dn c d)))
theorem nl2 (c : List Nat) (a1 b1 a2 b2 g d : Nat.Internal.Linear.Expr) (h : Nl.lq (Nl.po (.add g (.add b1 b2))) (Nl.po (.add d (.add a1 a2))) = true) (h1 : Nl.dn c a1 ≤ Nl.dn c b1) (h2 : Nl.dn c a2 ≤ Nl.dn c b2) : Nl.dn c g ≤ Nl.dn c d :=
 nl1 c (.add a1 a2) (.add b1 b2) g d h (Nat.add_le_add h1 h2)
theorem nl3 (c : List Nat) (a1 b1 a2 b2 a3 b3 g d : Nat.Internal.Linear.Expr) (h : Nl.lq (Nl.po (.add g (.add b1 (.add b2 b3)))) (Nl.po (.add d (.add a1 (.add a2 a3)))) = true) (h1 : Nl.dn c a1 ≤ Nl.dn c b1) (h2 : Nl.dn c a2 ≤ Nl.dn c b2) (h3 : Nl.dn c a3 ≤ Nl.dn c b3) : Nl.dn c g ≤ Nl.dn c d :=
 nl2 c a1 b1 (.add a2 a3) (.add b2 b3) g d h h1 (Nat.add_le_add h2 h3)
theorem nl4 (c : List Nat) (a1 b1 a2 b2 a3 b3 a4 b4 g d : Nat.Internal.Linear.Expr) (h : Nl.lq (Nl.po (.add g (.add b1 (.add b2 (.add b3 b4))))) (Nl.po (.add d (.add a1 (.add a2 (.add a3 a4))))) = true) (h1 : Nl.dn c a1 ≤ Nl.dn c b1) (h2 : Nl.dn c a2 ≤ Nl.dn c b2) (h3 : Nl.dn c a3 ≤ Nl.dn c b3) (h4 : Nl.dn c a4 ≤ Nl.dn c b4) : Nl.dn c g ≤ Nl.dn c d :=
 nl3 c a1 b1 a2 b2 (.add a3 a4) (.add b3 b4) g d h h1 h2 (Nat.add_le_add h3 h4)
noncomputable def vr0 : Nat.Internal.Linear.Expr := .var 0
noncomputable def vr1 : Nat.Internal.Linear.Expr := .var 1
noncomputable def vr2 : Nat.Internal.Linear.Expr := .var 2
noncomputable def vr3 : Nat.Internal.Linear.Expr := .var 3
noncomputable def vr4 : Nat.Internal.Linear.Expr := .var 4
noncomputable def vr5 : Nat.Internal.Linear.Expr := .var 5
noncomputable def vr6 : Nat.Internal.Linear.Expr := .var 6
noncomputable def vr7 : Nat.Internal.Linear.Expr := .var 7
theorem nl5 (c : List Nat) (a1 b1 a2 b2 a3 b3 a4 b4 a5 b5 g d : Nat.Internal.Linear.Expr) (h : Nl.lq (Nl.po (.add g (.add b1 (.add b2 (.add b3 (.add b4 b5)))))) (Nl.po (.add d (.add a1 (.add a2 (.add a3 (.add a4 a5)))))) = true) (h1 : Nl.dn c a1 ≤ Nl.dn c b1) (h2 : Nl.dn c a2 ≤ Nl.dn c b2) (h3 : Nl.dn c a3 ≤ Nl.dn c b3) (h4 : Nl.dn c a4 ≤ Nl.dn c b4) (h5 : Nl.dn c a5 ≤ Nl.dn c b5) : Nl.dn c g ≤ Nl.dn c d :=
 nl4 c a1 b1 a2 b2 a3 b3 (.add a4 a5) (.add b4 b5) g d h h1 h2 h3 (Nat.add_le_add h4 h5)
theorem Nl.sb (a b : Nat) : a ≤ a - b + b := Nat.le_add_of_sub_le (Nat.le_refl _)
open PySem in
theorem wif_f {m : Model} {A : Around} {α : Type} {c : Bool} {t e : Sem α} {Q : α → Shared → Prop} {E : Value → Shared → Prop} {s : Shared} (h : c = false) (k : wpAny m A e Q E s) : wpAny m A (if c = true then t else e) Q E s := by
 subst h; exact k
open PySem in
theorem wif_t {m : Model} {A : Around} {α : Type} {c : Bool} {t e : Sem α} {Q : α → Shared → Prop} {E : Value → Shared → Prop} {s : Shared} (h : c = true) (k : wpAny m A t Q E s) : wpAny m A (if c = true then t else e) Q E s := by
 subst h; exact k
theorem bcase {b : Bool} {P : Prop} (f : b = false → P) (t : b = true → P) : P := by cases b; exact f rfl; exact t rfl
theorem opq {P : Prop} (h : P) : P := h
open PySem in
theorem wp_gen {m : Model} {A : Around} {α : Type} {t : Sem α} {Q : α → Shared → Prop} {E : Value → Shared → Prop} {s : Shared} (k : ∀ Q' E', (∀ a s', Q a s' → Q' a s') → (∀ e s', E e s' → E' e s') → wpAny m A t Q' E' s) : wpAny m A t Q E s := k Q E (fun _ _ h => h) fun _ _ h => h

open PySem PySem.W PySem.Calls PyProof.Rows
set_option hygiene false in
local macro_rules | `(tactic| walk_at "vgoa") => `(tactic| with_reducible first
  | exact True.intro
  | (refine And.intro ?_ ?_ <;> walk_at "vgo")
  | refine Sd.mk ?_
  | (refine br_true (by assumption) ?_; walk_at "vgo")
  | (refine br_false (by assumption) ?_; walk_at "vgo")
  | (refine br_true (by with_unfolding_all exact Eq.refl true) ?_; walk_at "vgo")
  | (refine br_false (by with_unfolding_all exact Eq.refl false) ?_; walk_at "vgo")
  | (refine br_mk (fun hc => ?_) (fun hc => ?_) <;> walk_at "vgo")
  | (refine bool_rfl ?_; with_unfolding_all exact Eq.refl _)
  | skip)
set_option hygiene false in
local macro_rules | `(tactic| walk_at "vgo") => `(tactic| ((with_unfolding_all conv => whnf); walk_at "vgoa"))
section

noncomputable abbrev pr : Program := PySem.Challenge.pw_oh0108_01
inductive Dt where
 | none
 | bool (b : Bool)
 | int (i : Int)
 | str (x : Str)
 | strk (x : Str) (t : Tok)
 | tup (ds : List Dt)
 | list (ds : List Dt)
 | rng (n : Nat)
inductive AV where
 | none
 | bool (b : Bool)
 | int (i : Int)
 | str (x : Str)
 | strk (x : Str) (t : Tok)
 | ref (a : Addr)
 | typ (n : String)
 | blt (n : String)
 | own (k : Nat)
 | dat (d : Dt)
end

section

noncomputable def shxN : List Str := (["instream", "infile", "posix", "eof", "commenters", "wordchars", "whitespace", "whitespace_split", "quotes", "escape"] : List Str) ++ (["escapedquotes", "state", "pushback", "lineno", "debug", "token", "filestack", "source", "_punctuation_chars"] : List Str)
noncomputable def sioN : List Str := ["_StringIO__newline", "_StringIO__buf", "_StringIO__pos"]
noncomputable def shxM : List (Str × Addr) := [("get_token", 744), ("read_token", 751), ("__init__", 707), ("__next__", 780), ("__iter__", 773)]
noncomputable def sioM : List (Str × Addr) := [("read", 594), ("_StringIO__check", 432), ("_StringIO__translated", 425), ("__init__", 418)]
noncomputable def clsPl (K : Frag) (C : Addr) : Bool :=
 findIn K (.ref C) "__getattribute__" == some (some (.builtin "object.__getattribute__")) && findIn K (.ref C) "__getattr__" == some none && findIn K (.ref C) "__setattr__" == some (some (.builtin "object.__setattr__")) && plainOver K C && (clsIn K C).any (·.hasDict)
noncomputable def cls1 (K : Frag) (C : Addr) (names : List Str) (ms : List (Str × Addr)) : Bool :=
 clsPl K C && names.all (fun n => findIn K (.ref C) n == some none) && ms.all (fun p => findIn K (.ref C) p.1 == some (some (.ref p.2)) && typeIn K (.ref p.2) == some (.type "function"))
noncomputable def isSm (r : Option CFound) : Bool := match r with
 | some (.get (.builtin i) (.ref p) .none (.ref c)) => i == "staticmethod.__get__" && p == 145 && c == 648
 | _ => false
noncomputable def evL {α : Type} (K : Frag) : Sem α → Option α
 | .pure a => some a
 | .rule _ f => evL K (f ())
 | .at _ f => evL K (f ())
 | .point _ f => evL K (f ())
 | .load a _ f => (K.lookup a).bind fun o => evL K (f o)
 | _ => none
noncomputable def clsSio (K : Frag) : Bool := keepIn K (.ref 648) && keepIn K (.ref 783) && readsIn K 648 (.type "type") && isSm (findCls K (.ref 648) (.type "type") "__new__") && (recIn K 145 "staticmethod").any (fun l => l.head? == some (.ref 141)) && typeIn K (.ref 141) == some (.type "function") &&
 evL K (Bind.madeBy (.ref 648)) == some none && (evL K (Bind.madeHere "object.__new__" (.ref 648))).isSome && (evL K (mroOf (.ref 648))).any (fun l => !l.isEmpty) && evL K (specialOf (.ref 648) "__call__") == some (some (.builtin "type.__call__")) &&
 evL K (isInstance (.ref 648) (.type "type")) == some true && evL K (isSubtype (.ref 648) (.ref 648)) == some true && evL K (isSubtype (.ref 648) (.type "object")) == some true && (clsIn K 648).any (fun cd => !cd.abstract && !cd.hasDel) &&
 evL K (Bind.staticBase (.ref 648)) == some (.type "object") && evL K (Bind.madeBy (.type "object")) == some (some "object.__new__") && evL K (compareOp .IsNot (.ref 648) (.ref 401)) == some (.bool true) && evL K (compareOp .IsNot (.ref 648) (.ref 648)) == some (.bool false)
noncomputable def clsMk (K : Frag) : Bool := (makesIn K 783 && findIn K (.ref 783) "__len__" == some none && findIn K (.ref 783) "__length_hint__" == some none && clsSio K) && findIn K (.ref 783) "punctuation_chars" == some (some (.ref 715)) && typeIn K (.ref 715) == some (.type "property") && (recIn K 715 "property").any fun l => l.head? == some (.ref 714)
noncomputable def clsK (K : Frag) : Bool := cls1 K 783 shxN shxM && cls1 K 648 sioN sioM && clsMk K
end

section

noncomputable def fnOf : Stmt → Option (Arguments × List Stmt × Scope)
 | .FunctionDef _ a b _ _ _ sc _ _ _ => some (a, b, sc)
 | _ => none
noncomputable def clsOf : Stmt → List Stmt
 | .ClassDef _ _ _ b _ _ _ _ _ _ _ => b
 | _ => []
noncomputable def fn0 : Arguments × List Stmt × Scope := ({ posonlyargs := [], args := [], vararg := none, kwonlyargs := [], kw_defaults := [], kwarg := none, defaults := [] }, [], default)
noncomputable def fnAt (i : Nat) : Arguments × List Stmt × Scope := ((pr.main.body[i]?).bind fnOf).getD fn0
noncomputable def mthAt (i j : Nat) : Arguments × List Stmt × Scope := (((pr.main.body[i]?).map clsOf).bind fun l => (l[j]?).bind fnOf).getD fn0
noncomputable def fdAt (f : Arguments × List Stmt × Scope) (nm qn : Str) (df kd dc pm : Value) (an : Option Addr) (cd ct : Value) : FuncData :=
 { name := nm, qualname := qn, params := f.1, body := .stmts f.2.1, scope := f.2.2, globals := mainGlobals, closure := [], defaults := df, kwdefaults := kd, doc := dc, pyModule := pm, annotations := an, code := cd, closureTuple := ct, builtins := builtinsNs }
end

section
open PySem.Builtin PySem.Builtin.Str
noncomputable abbrev tx (l : List Nat) : Str := ⟨l.toArray⟩
end

section

noncomputable def glE (n : String) (v : AV) : Str × AV := (n, v)
noncomputable def glT : List (Str × AV) :=
 [glE "unquote" (AV.ref 67), glE "hexdigits" (AV.str "0123456789abcdefABCDEF"), glE "len" (AV.blt "len"), glE "chr" (AV.blt "chr"), glE "ord" (AV.blt "ord"), glE "int" (AV.typ "int"), glE "quote_quoprimime" (AV.ref 74), glE "body_encode" (AV.ref 87)] ++
 [glE "decode" (AV.ref 95), glE "CRLF" (AV.str "\r\n"), glE "_QUOPRI_MAP" (AV.ref 47), glE "_QUOPRI_BODY_ENCODE_MAP" (AV.ref 76), glE "S_IFMT" (AV.ref 810), glE "filemode" (AV.ref 850), glE "_filemode_table" (AV.ref 843), glE "_find_unsafe" (AV.ref 796)] ++
 [glE "quote_shlex" (AV.ref 803), glE "split" (AV.ref 795), glE "_law_name" (AV.ref 857), glE "_law_rights" (AV.ref 864), glE "_law_row" (AV.ref 869), glE "_law_heard" (AV.ref 876), glE "_law_arrived" (AV.ref 883), glE "_law_told" (AV.ref 890)] ++
 [glE "shlex" (AV.ref 783), glE "StringIO" (AV.ref 648), glE "BytesIO" (AV.ref 401), glE "deque" (AV.typ "collections.deque"), glE "_index" (AV.ref 114), glE "range" (AV.typ "range"), glE "enumerate" (AV.typ "enumerate"), glE "sum" (AV.blt "sum")] ++
 [glE "max" (AV.blt "max"), glE "list" (AV.typ "list"), glE "type" (AV.typ "type"), glE "str" (AV.typ "str"), glE "bool" (AV.typ "bool"), glE "isinstance" (AV.blt "isinstance"), glE "object" (AV.typ "object"), glE "ValueError" (AV.typ "ValueError")] ++
 [glE "StopIteration" (AV.typ "StopIteration")]
end

section
open PySem.Builtin PySem.Builtin.Re
noncomputable def reCode : Array Nat := #[14, 17, 4, 1, 1, 21, 9, 0, 604043296, 1, 0, 0, 0, 0, 0, 8, 4, 0, 13, 14, 21, 9, 0, 604043296, 1, 0, 0, 0, 0, 0, 8, 4, 0, 1]
end

section

noncomputable def hexU (n : Nat) : Nat := if n < 10 then 48 + n else 55 + n
noncomputable def esc (c : Nat) : List Nat := [61, hexU (c / 16), hexU (c % 16)]
noncomputable def plainC (c : Nat) : Bool := c == 9 || c == 10 || c == 13 || (decide (32 ≤ c) && decide (c ≤ 126) && c != 61)
noncomputable def encC (c : Nat) : List Nat := if plainC c then [c] else esc c
end

section

noncomputable def tabD : List (List (Int × Nat)) := [[(40960, 108), (49152, 115), (32768, 45), (24576, 98), (16384, 100), (8192, 99), (4096, 112)], [(256, 114)], [(128, 119)], [(2112, 115), (2048, 83), (64, 120)], [(32, 114)], [(16, 119)], [(1032, 115), (1024, 83), (8, 120)], [(4, 114)], [(2, 119)], [(513, 116), (512, 84), (1, 120)]]
noncomputable def cellD (p : Int × Nat) : Dt := .tup [.int p.1, .str (tx [p.2])]
noncomputable def rowD (r : List (Int × Nat)) : Dt := .tup (r.map cellD)
end

section
set_option backward.match.sparseCases false
open PySem.W.X
open Sem (wp)
noncomputable abbrev EvR (α : Type) := Option (Except Value α × Pos × KT × Nat × Nat)
noncomputable abbrev EvS := Pos → KT → Nat → Nat → EvR Fin
noncomputable def eIf (b : Bool) (x : EvR Fin) : EvR Fin := Bool.rec (motive := fun _ => EvR Fin) none x b
noncomputable def eGet (a : Addr) (h : Obj → EvS) : EvS := fun p K m k => Option.rec (motive := fun _ => EvR Fin) none (fun o => h o p K m k) (K.get a)
noncomputable def eUpd (wr : Nat → Bool) (a : Addr) (g : Obj → Obj) (h : EvS) (o : Obj) : EvS := fun p K m k => eIf (!(g o).isFreed) (eIf (Nat.blt a 1099511627775) (eIf (wr a) (h p (K.put 40 a (g o)) m k)))
noncomputable def eNew (o : Obj) (h : Addr → EvS) : EvS := fun p K m k => eIf (!o.isFreed) (eIf (Nat.blt m 1099511627775) (h m p (K.put 40 m o) (m + 1) k))
noncomputable def eEnd (den : Code → Sem Fin) (go : Bool → Ctx → Sem Fin → EvS) (md : Bool) (Γ : Ctx) (a : Fin) : EvS := fun p K m k =>
 Bool.rec (motive := fun _ => EvR Fin) (some (.ok a, p, K, m, k)) (PySem.Fin.rec (motive := fun _ => EvR Fin) (fun f => some (.ok (.done f), p, K, m, k)) (fun c => eIf c.quiet (go true (Γ.goto c) (den c) p K m k)) a) md
noncomputable def eRet (h : Result → EvS) (p : Pos) (x : Except Value Fin × Pos × KT × Nat × Nat) : EvR Fin :=
 Except.rec (motive := fun _ => EvR Fin) (fun e => h (.error e) p x.2.2.1 x.2.2.2.1 x.2.2.2.2) (fun a => PySem.Fin.rec (motive := fun _ => EvR Fin) (fun f => h (.ok f) p x.2.2.1 x.2.2.2.1 x.2.2.2.2) (fun _ => none) a) x.1
noncomputable def eCall (den : Code → Sem Fin) (go : Bool → Ctx → Sem Fin → EvS) (Γ : Ctx) (c : Code) (d : Option Value) (h : Result → EvS) : EvS := fun p K m k =>
 Option.rec (motive := fun _ => EvR Fin) none (eRet h p) (go true (Γ.enter c d p) (den c) p K m k)
noncomputable def evT (den : Code → Sem Fin) (st : Setting) (wr : Nat → Bool) (go : Bool → Ctx → Sem Fin → EvS) (md : Bool) (Γ : Ctx) (t : Sem Fin) : EvS :=
 Sem.rec (motive := fun _ => EvS) (eEnd den go md Γ) (fun e p K m k => some (.error e, p, K, m, k)) (fun _ _ _ _ _ => none) (fun _ _ _ _ _ => none) (fun _ _ i => i ()) (fun q _ i _ => i () q) (fun a _ _ i => eGet a i) (fun a _ g _ i => eGet a (eUpd wr a g (i ())))
  (fun o _ i => eNew o i) (fun a _ i => eGet a fun o => i (some o)) (fun _ _ i => i ()) (fun _ _ _ _ _ _ _ => none) (fun _ i p K m k => i k p K m (k + 1)) (fun _ i => i st) (fun _ _ _ _ _ _ _ _ => none) (fun _ _ _ _ _ _ _ _ => none) (fun c d _ _ _ i => eCall den go Γ c d i)
  (fun b _ i => Bool.rec (motive := fun _ => EvS) (i Γ.handled) (i Γ.own) b) (fun _ _ _ _ _ _ _ => none) (fun _ _ _ _ _ _ _ => none) (fun _ _ _ _ _ _ _ _ _ => none) (fun _ _ _ _ _ _ _ _ _ => none) (fun _ i p => i ((Γ.code, p) :: Γ.below) p) (fun _ _ _ _ _ _ _ => none)
  (fun _ i => i 0) (fun _ _ _ _ _ _ _ _ _ _ => none) t
noncomputable def evF (den : Code → Sem Fin) (st : Setting) (wr : Nat → Bool) (n : Nat) : Bool → Ctx → Sem Fin → EvS :=
 Nat.rec (motive := fun _ => Bool → Ctx → Sem Fin → EvS) (fun _ _ _ _ _ _ _ => none) (fun _ go => evT den st wr go) n
structure Kn (K : KT) (m k : Nat) (s : Shared) : Prop where
 objs : ∀ a o, K.get a = some o → s.heap.get? a = some o
 size : s.heap.objs.size = m
 toks : s.toks = k
structure Kp (wr : Nat → Bool) (K K' : KT) (m m' : Nat) (s s' : Shared) : Prop where
 kept : ∀ b o, wr b = false → s.heap.get? b = some o → s'.heap.get? b = some o
 old : ∀ b o, K.get b = none → s.heap.get? b = some o → s'.heap.get? b = some o
 dom : ∀ b, b < m → K.get b = none → K'.get b = none
 size : m ≤ m'
 gens : s'.gens = s.gens
 drawn : s'.drawn = s.drawn
 os : s'.os = s.os
 life : s'.heap.life = s.heap.life
theorem half_odd {i j : Nat} (p : i % 2 = 1) (q : j % 2 = 1) : j / 2 = i / 2 ↔ j = i := ⟨fun e => (Nat.div_add_mod j 2).symm.trans (Eq.trans (congr (congrArg (fun a b => 2 * a + b) e) (q.trans p.symm)) (Nat.div_add_mod i 2)), fun e => congrArg (· / 2) e⟩
theorem ev2 {i : Nat} (p : ¬ i % 2 = 1) : i = 2 * (i / 2) := by have := Nat.div_add_mod i 2; rw [(Nat.mod_two_eq_zero_or_one i).resolve_right p] at this; exact this.symm
theorem half_even {i j : Nat} (p : ¬ i % 2 = 1) (q : ¬ j % 2 = 1) (hi : ¬ i = 0) (hj : ¬ j = 0) : j / 2 - 1 = i / 2 - 1 ↔ j = i := by
 refine ⟨fun e => ?_, fun e => by rw [e]⟩
 rw [ev2 p, ev2 q, Nat.sub_one_cancel (Nat.pos_of_ne_zero fun z => hj ((ev2 q).trans (by rw [z]))) (Nat.pos_of_ne_zero fun z => hi ((ev2 p).trans (by rw [z]))) e]
theorem half_lt {i n : Nat} (h : i + 1 < 2 ^ (n + 1)) (hi : ¬ i = 0) : (i % 2 = 1 → i / 2 + 1 < 2 ^ n) ∧ (¬ i % 2 = 1 → i / 2 - 1 + 1 < 2 ^ n) :=
 have h : i + 1 < 2 ^ n * 2 := h
 have e := Nat.div_add_mod i 2
 ⟨fun p => Nat.lt_of_mul_lt_mul_left (a := 2) (show 2 * (i / 2 + 1) < 2 * 2 ^ n by exact nl3 [_, _, _, _] (.add (.mulL 2 vr0) vr1) vr2 (.add (.add vr2 (.num 1)) (.num 1)) (.mulR vr3 2) (.num 1) vr1 (.add (.mulL 2 (.add vr0 (.num 1))) (.num 1)) (.mulL 2 vr3) rfl (Nat.le_of_eq e) h (Nat.le_of_eq (Eq.symm p))), fun q => by
  rw [Nat.sub_add_cancel (Nat.pos_of_ne_zero fun z => hi ((ev2 q).trans (congrArg (2 * ·) z)))]
  have e2 := ev2 q
  exact Nat.lt_of_mul_lt_mul_left (a := 2) (show 2 * (i / 2) < 2 * 2 ^ n by exact nl2 [_, _, _, _] (.add (.mulL 2 vr0) vr1) vr2 (.add (.add vr2 (.num 1)) (.num 1)) (.mulR vr3 2) (.add (.mulL 2 vr0) (.num 1)) (.mulL 2 vr3) rfl (Nat.le_of_eq e) h)⟩
theorem put_node {o : Obj} {n : Nat} (ih : ∀ (t : KT) (i : Nat), i + 1 < 2 ^ n → ∀ j, (KT.put n t i o).get j = if j = i then some o else t.get j) (v : Option Obj) (l r : KT) (i : Nat) (h : i + 1 < 2 ^ (n + 1)) (j : Nat) :
  (KT.put (n + 1) (.node v l r) i o).get j = if j = i then some o else (KT.node v l r).get j := by
 unfold KT.put
 rw [BT.beq_eq, BT.beq_eq, KT.get_node]
 by_cases h0 : i = 0
 ·rw [decide_eq_true h0, h0]; dsimp only; rw [KT.get_node]; split <;> rfl
 ·refine el02 (half_lt h h0) fun a b => ?_
  rw [decide_eq_false h0]
  by_cases p : i % 2 = 1
  ·rw [decide_eq_true p]; dsimp only; rw [KT.get_node, ih l _ (a p)]
   by_cases hj : j = 0
   ·rw [if_pos hj, if_pos hj, if_neg fun e : j = i => h0 (e ▸ hj)]
   ·rw [if_neg hj, if_neg hj]
    by_cases q : j % 2 = 1
    ·rw [if_pos q, if_pos q]; simp only [half_odd p q]
    ·rw [if_neg q, if_neg q, if_neg fun e : j = i => q (e ▸ p)]
  ·rw [decide_eq_false p]; dsimp only; rw [KT.get_node, ih r _ (b p)]
   by_cases hj : j = 0
   ·rw [if_pos hj, if_pos hj, if_neg fun e : j = i => h0 (e ▸ hj)]
   ·rw [if_neg hj, if_neg hj]
    by_cases q : j % 2 = 1
    ·rw [if_pos q, if_pos q, if_neg fun e : j = i => p (e ▸ q)]
    ·rw [if_neg q, if_neg q]; simp only [half_even p q h0 hj]
theorem put_get (o : Obj) (n : Nat) : ∀ (t : KT) (i : Nat), i + 1 < 2 ^ n → ∀ j, (KT.put n t i o).get j = if j = i then some o else t.get j := by
 induction n with
 | zero => intro t i h; exact absurd (Nat.lt_of_succ_lt_succ h) (Nat.not_lt_zero _)
 | succ n ih =>
  intro t i h j
  induction t with
  | node v l r => exact put_node ih v l r i h j
  | nil =>
   refine (put_node ih none .nil .nil i h j).trans ?_
   rw [KT.get_node]
   show (if _ then _ else if _ then none else if _ then none else none) = (if _ then _ else none)
   simp only [ite_self]
theorem Kp.refl {wr : Nat → Bool} {K : KT} {m : Nat} {s : Shared} : Kp wr K K m m s s := ⟨fun _ _ _ e => e, fun _ _ _ e => e, fun _ _ e => e, Nat.le_refl _, rfl, rfl, rfl, rfl⟩
theorem Kp.trans {wr : Nat → Bool} {K K₁ K₂ : KT} {m m₁ m₂ k : Nat} {s s₁ s₂ : Shared} (N : Kn K m k s) (a : Kp wr K K₁ m m₁ s s₁) (b : Kp wr K₁ K₂ m₁ m₂ s₁ s₂) : Kp wr K K₂ m m₂ s s₂ :=
 ⟨fun x o hx e => b.kept x o hx (a.kept x o hx e), fun x o hx e => b.old x o (a.dom x (N.size ▸ Heap.lt_size e) hx) (a.old x o hx e), fun x hm hx => b.dom x (Nat.lt_of_lt_of_le hm a.size) (a.dom x hm hx), Nat.le_trans a.size b.size,
  b.gens.trans a.gens, b.drawn.trans a.drawn, b.os.trans a.os, b.life.trans a.life⟩
theorem lt40 {a : Nat} (h : Nat.blt a 1099511627775 = true) : a + 1 < 2 ^ 40 := by
 have : a < 1099511627775 := Nat.le_of_ble_eq_true h
 exact nl1 [_] (.add vr0 (.num 1)) (.num 1099511627775) (.add (.add vr0 (.num 1)) (.num 1)) (.num 1099511627776) rfl this
theorem kn_update {wr : Nat → Bool} {K : KT} {m k a : Nat} {s : Shared} {o : Obj} {f : Obj → Obj} (N : Kn K m k s) (e : K.get a = some o) (hf : (f o).isFreed = false) (ha : Nat.blt a 1099511627775 = true) (hw : wr a = true) :
  Kn (K.put 40 a (f o)) m k { s with heap := s.heap.update a f } ∧ Kp wr K (K.put 40 a (f o)) m m s { s with heap := s.heap.update a f } := by
 have ho := N.objs a o e
 have hs : Heap.SameBut a s.heap (s.heap.update a f) := Heap.SameBut.update ..
 refine ⟨⟨fun b o' e' => ?_, by show (s.heap.update a f).objs.size = m; rw [hs.1, N.size], N.toks⟩, ⟨fun b o' hb e' => (hs.2 b fun q => by rw [q, hw] at hb; contradiction).trans e', fun b o' hb e' => ?_, fun b hb hn => ?_, Nat.le_refl _, rfl, rfl, rfl, ?_⟩⟩
 ·rw [put_get _ 40 _ _ (lt40 ha)] at e'
  by_cases hb : b = a
  ·subst hb
   rw [if_pos rfl] at e'
   obtain rfl := Option.some.inj e'
   exact Heap.get?_update_self f ho hf
  ·rw [if_neg hb] at e'
   exact (hs.2 b hb).trans (N.objs b o' e')
 ·have : b ≠ a := fun q => by rw [q, e] at hb; contradiction
  exact (hs.2 b this).trans e'
 ·rw [put_get _ 40 _ _ (lt40 ha)]
  have : b ≠ a := fun q => by rw [q, e] at hn; contradiction
  rw [if_neg this]; exact hn
 ·rfl
theorem kn_alloc {wr : Nat → Bool} {K : KT} {m k : Nat} {s : Shared} {o : Obj} (N : Kn K m k s) (hf : o.isFreed = false) (ha : Nat.blt m 1099511627775 = true) :
  Kn (K.put 40 m o) (m + 1) k { s with heap := s.heap.push o } ∧ Kp wr K (K.put 40 m o) m (m + 1) s { s with heap := s.heap.push o } := by
 have hz := N.size
 refine ⟨⟨fun b o' e' => ?_, by show (s.heap.push o).objs.size = m + 1; rw [Heap.size_push, hz], N.toks⟩, ⟨fun b o' _ e' => Heap.get?_push_of_some _ e', fun b o' hb e' => Heap.get?_push_of_some _ e', fun b hb hn => ?_, Nat.le_succ _, rfl, rfl, rfl, rfl⟩⟩
 ·rw [put_get _ 40 _ _ (lt40 ha)] at e'
  by_cases hb : b = m
  ·subst hb
   rw [if_pos rfl] at e'
   obtain rfl := Option.some.inj e'
   have := Heap.get?_push_size s.heap hf
   rw [hz] at this; exact this
  ·rw [if_neg hb] at e'
   exact Heap.get?_push_of_some _ (N.objs b o' e')
 ·rw [put_get _ 40 _ _ (lt40 ha), if_neg (Nat.ne_of_lt hb)]
  exact hn
noncomputable def leafP (r : Except Value Fin) (Q : Fin → Pos → Shared → Prop) (E : Value → Pos → Shared → Prop) (p : Pos) (s : Shared) : Prop := match r with
 | .ok a => Q a p s
 | .error e => E e p s
noncomputable def leafC (r : Except Value Fin) (R : Result → Shared → Prop) (s : Shared) : Prop := match r with
 | .ok (.done f) => R (.ok f) s
 | .ok (.again _) => False
 | .error e => R (.error e) s
noncomputable def Owed (M : Model) (md : Bool) (Γ : Ctx) (t : Sem Fin) (p : Pos) (s : Shared) (r : Except Value Fin) (p' : Pos) (s' : Shared) : Prop := match md with
 | false => ∀ Q E, leafP r Q E p' s' → wp M Γ t Q E p s
 | true => ∀ R, leafC r R s' → wp M Γ t (Sem.finPost M Γ R) (fun e _ s' => R (.error e) s') p s
section
variable {M : Model} {wr : Nat → Bool}
noncomputable def Snd (M : Model) (wr : Nat → Bool) (md : Bool) (Γ : Ctx) (t : Sem Fin) (p : Pos) (K : KT) (m : Nat) (s : Shared) (x : EvR Fin) : Prop :=
 ∀ r p' K' m' k', x = some (r, p', K', m', k') → ∃ s', Kn K' m' k' s' ∧ Kp wr K K' m m' s s' ∧ Owed M md Γ t p s r p' s'
theorem Snd.none {md : Bool} {Γ : Ctx} {t : Sem Fin} {p : Pos} {K : KT} {m : Nat} {s : Shared} : Snd M wr md Γ t p K m s none := fun _ _ _ _ _ e => nomatch e
theorem Snd.mk {md : Bool} {Γ : Ctx} {t : Sem Fin} {p : Pos} {K : KT} {m k : Nat} {s : Shared} {r : Except Value Fin} (N : Kn K m k s) (o : Owed M md Γ t p s r p s) : Snd M wr md Γ t p K m s (some (r, p, K, m, k)) :=
 fun _ _ _ _ _ e => by cases e; exact ⟨s, N, .refl, o⟩
theorem Owed.tree {md : Bool} {Γ : Ctx} {t t' : Sem Fin} {p p₁ : Pos} {s s₁ : Shared} {r : Except Value Fin} {p' : Pos} {s' : Shared}
  (h : ∀ Q E, wp M Γ t' Q E p₁ s₁ → wp M Γ t Q E p s) (o : Owed M md Γ t' p₁ s₁ r p' s') : Owed M md Γ t p s r p' s' := by
 induction md with
 | false => exact fun Q E l => h _ _ (o Q E l)
 | true => exact fun R l => h _ _ (o R l)
theorem Snd.via {md : Bool} {Γ : Ctx} {t t' : Sem Fin} {p p₁ : Pos} {K K₁ : KT} {m m₁ k : Nat} {s s₁ : Shared} {x : EvR Fin} (N : Kn K m k s) (P : Kp wr K K₁ m m₁ s s₁) (h : ∀ Q E, wp M Γ t' Q E p₁ s₁ → wp M Γ t Q E p s) (y : Snd M wr md Γ t' p₁ K₁ m₁ s₁ x) : Snd M wr md Γ t p K m s x :=
 fun r p' K' m' k' e => let ⟨s', N', P', o⟩ := y r p' K' m' k' e; ⟨s', N', P.trans N P', o.tree h⟩
theorem Snd.tree {md : Bool} {Γ : Ctx} {t t' : Sem Fin} {p p₁ : Pos} {K : KT} {m : Nat} {s : Shared} {x : EvR Fin} (y : Snd M wr md Γ t' p₁ K m s x) (h : ∀ Q E, wp M Γ t' Q E p₁ s → wp M Γ t Q E p s) : Snd M wr md Γ t p K m s x :=
 fun r p' K' m' k' e => let ⟨s', N', P', o⟩ := y r p' K' m' k' e; ⟨s', N', P', o.tree h⟩
theorem eIf_snd {md b : Bool} {Γ : Ctx} {t : Sem Fin} {p : Pos} {K : KT} {m : Nat} {s : Shared} {x : EvR Fin} (y : b = true → Snd M wr md Γ t p K m s x) : Snd M wr md Γ t p K m s (eIf b x) := by
 cases b
 ·exact .none
 ·exact y rfl
theorem eGet_snd {md : Bool} {Γ : Ctx} {t : Sem Fin} {p : Pos} {K : KT} {m k : Nat} {s : Shared} {a : Addr} {h : Obj → EvS} (y : ∀ o, K.get a = some o → Snd M wr md Γ t p K m s (h o p K m k)) : Snd M wr md Γ t p K m s (eGet a h p K m k) := by
 unfold eGet
 cases e : K.get a with
 | none => exact .none
 | some o => exact y o e
theorem evF_snd (n : Nat) : ∀ (md : Bool) (Γ : Ctx) (t : Sem Fin) (p : Pos) (K : KT) (m k : Nat) (s : Shared), Kn K m k s → Snd M wr md Γ t p K m s (evF M.den ⟨M.prog, M.w.params⟩ wr n md Γ t p K m k) := by
 induction n with
 | zero => exact fun _ _ _ _ _ _ _ _ _ => .none
 | succ n go =>
  intro md Γ t
  induction t with
  | pure a =>
   intro p K m k s N
   induction md with
   | false => exact .mk N fun Q E l => l
   | true =>
    induction a with
    | done f => exact .mk N fun R l => l
    | again c =>
     refine eIf_snd fun hq r p' K' m' k' e => el13 (go true _ _ _ _ _ _ s N r p' K' m' k' e) fun s' N' P o => ⟨s', N', P, fun R l => ⟨hq, ?_⟩⟩
     rw [wpCode_iff_wp]
     exact o R l
  | raise e => exact fun p K m k s N => .mk N (by induction md with | false => exact fun Q E l => l | true => exact fun R l => l)
  | rule g f ih => exact fun p K m k s N => (ih () p K m k s N).tree fun Q E x => x
  | «at» q f ih => exact fun p K m k s N => (ih () q K m k s N).tree fun Q E x => x
  | point g f ih => exact fun p K m k s N => (ih () p K m k s N).tree fun Q E x => x
  | ask f ih => exact fun p K m k s N => (ih _ p K m k s N).tree fun Q E x => x
  | load a g f ih => exact fun p K m k s N => eGet_snd fun ob e => (ih ob p K m k s N).tree fun Q E x => ⟨ob, N.objs _ _ e, x⟩
  | loadIfAlive a f ih =>
   refine fun p K m k s N => eGet_snd fun ob e => (ih (some ob) p K m k s N).tree fun Q E x => ?_
   show wp M Γ (f (s.heap.get? a)) Q E p s
   rw [N.objs _ _ e]; exact x
  | update a g u f ih =>
   refine fun p K m k s N => eGet_snd fun ob e => eIf_snd fun hf => eIf_snd fun hb => eIf_snd fun hw => el02 (kn_update N e (Bool.not_eq_eq_eq_not.mp hf) hb hw) fun N₁ P₁ => ?_
   exact .via N P₁ (fun Q E x => ⟨by rw [N.objs _ _ e]; rfl, x⟩) (ih () p _ m k _ N₁)
  | alloc ob f ih =>
   refine fun p K m k s N => eIf_snd fun hf => eIf_snd fun hb => el02 (kn_alloc N (Bool.not_eq_eq_eq_not.mp hf) hb) fun N₁ P₁ => .via N P₁ (fun Q E x => ?_) (ih m p _ _ k _ N₁)
   show wp M Γ (f s.heap.objs.size) Q E p _
   rw [N.size]; exact x
  | fresh f ih =>
   refine fun p K m k s N => .via (s₁ := { s with toks := s.toks + 1 }) N ⟨fun _ _ _ e => e, fun _ _ _ e => e, fun _ _ e => e, Nat.le_refl _, rfl, rfl, rfl, rfl⟩ (fun Q E x => ?_) (ih k p K m (k + 1) _ ⟨N.objs, N.size, congrArg Nat.succ N.toks⟩)
   show wp M Γ (f s.toks) Q E p _
   rw [N.toks]; rw [N.toks] at x; exact x
  | handled own f ih =>
   intro p K m k s N
   induction own with
   | true => exact (ih _ p K m k s N).tree fun Q E x => x
   | false => exact (ih _ p K m k s N).tree fun Q E x => x
  | stack f ih => exact fun p K m k s N => (ih _ p K m k s N).tree fun Q E x => x
  | thread f ih => exact fun p K m k s N => (ih _ p K m k s N).tree fun Q E x => x
  | call c hd g l f ih =>
   intro p K m k s N
   have h := go true (Γ.enter c hd p) (M.den c) p K m k s N
   show Snd M wr _ _ _ _ _ _ _ (Option.rec (motive := fun _ => EvR Fin) none (eRet (fun r => evF M.den ⟨M.prog, M.w.params⟩ wr (n + 1) md Γ (f r)) p) (evF M.den ⟨M.prog, M.w.params⟩ wr n true (Γ.enter c hd p) (M.den c) p K m k))
   revert h
   cases evF M.den ⟨M.prog, M.w.params⟩ wr n true (Γ.enter c hd p) (M.den c) p K m k with
   | none => exact fun _ => .none
   | some x =>
    obtain ⟨r₁, p₁, K₁, m₁, k₁⟩ := x
    intro h
    refine el13 (h _ _ _ _ _ rfl) fun s₁ N₁ P₁ o₁ => ?_
    induction r₁ with
    | ok fin =>
     induction fin with
     | again _ => exact .none
     | done fl => exact .via N P₁ (fun Q E x => (wpCode_iff_wp ..).mpr (o₁ _ x)) (ih (.ok fl) p K₁ m₁ k₁ _ N₁)
    | error ex => exact .via N P₁ (fun Q E x => (wpCode_iff_wp ..).mpr (o₁ _ x)) (ih (.error ex) p K₁ m₁ k₁ _ N₁)
  | _ => exact fun _ _ _ _ _ _ => .none
theorem evF_sound (n : Nat) (md : Bool) (Γ : Ctx) (t : Sem Fin) (p : Pos) (K : KT) (m k : Nat) (r : Except Value Fin) (p' : Pos) (K' : KT) (m' k' : Nat)
  (h : evF M.den ⟨M.prog, M.w.params⟩ wr n md Γ t p K m k = some (r, p', K', m', k')) (s : Shared) (N : Kn K m k s) : ∃ s', Kn K' m' k' s' ∧ Kp wr K K' m m' s s' ∧ Owed M md Γ t p s r p' s' := evF_snd n md Γ t p K m k s N r p' K' m' k' h
end
end
section
open PySem.W.X
noncomputable abbrev pw : Program := PySem.Challenge.pw_oh0108_01
noncomputable def boundK (K : KT) (ns : Addr) (name : Str) : Option Value := match K.get ns with
 | some o => match o.data with
  | .dict es _ => (es.find? (·.key.isStr name)).map (·.val)
  | _ => none
 | none => none
noncomputable def fenceK1 (m : Str) (K : KT) : Option KT := match boundK K sysModules m, tameNamesOf? m with
 | some (.ref a), some row => (match K.get a with
  | some o => (match o.dict with
   | some D => (match K.get D with
    | some od => (match fenceDict? m row od with
     | some od' => (match od'.isFreed with
      | true => none
      | false => (match Nat.blt D 1099511627775 with
       | true => some (K.put 40 D od')
       | false => none))
     | none => none)
    | none => none)
   | none => none)
  | none => none)
 | _, _ => none
noncomputable def fenceK : List Str → KT → Option KT
 | [], K => some K
 | m :: r, K => match fenceK1 m K with
  | some K' => fenceK r K'
  | none => none
noncomputable def toHeap (K : KT) (m : Nat) : Heap := ⟨((List.range m).map fun a => (K.get a).getD default).toArray, {}⟩
noncomputable def total (K : KT) (m : Nat) : Bool := (List.range m).all fun a => (K.get a).isSome
noncomputable def isExit : Fin → Bool
 | .again (.builtin id ⟨[.int i 0], []⟩) => id == "proto.exit.begin" && i == 3
 | _ => false
noncomputable def wrTop (ann : Nat) (a : Nat) : Bool := Nat.ble 34 a || Nat.beq a 3 || Nat.beq a 2 || Nat.beq a ann
noncomputable def bootK (P : Program) (w : World) : Option KT := match evF (denote treeTable) ⟨opening P, w.params⟩ (fun _ => true) 1000000 false (Ctx.of (.builtin "boot" {}) []) (boot (opening P)) default .nil 0 1 with
 | some (.ok fin, _, K, m, k) => match isExit fin && Nat.beq m 34 && Nat.beq k 318 with
  | true => fenceK (importedModules P.main.body) K
  | false => none
 | _ => none
noncomputable def isNone : Fin → Bool
 | .done (.ret .none) => true
 | _ => false
noncomputable def topK (P : Program) (w : World) (K : KT) : Option KT := match evF (denote treeTable) ⟨P, w.params⟩ (wrTop 6) 1000000 false (Ctx.of (.builtin "claim.caller" {}) []) (topStub P).cur default K 34 318 with
 | some (.ok fin, _, K', m, k) => match isNone fin && Nat.beq m 896 && Nat.beq k 2996 with
  | true => some K'
  | false => none
 | _ => none
noncomputable def annIs (h : Heap) (a : Nat) : Bool := match globalOf h "__annotations__" with
 | some (.ref b) => b == a
 | _ => false
noncomputable def checks (P : Program) (K0 K1 : KT) : Bool :=
 let h0 := toHeap K0 34
 let h1 := toHeap K1 896
 let mods := importedModules P.main.body
 total K0 34 && total K1 896 && annIs h0 6 && h1.accountedOkI mods && h1.isNs mainGlobals && h1.isNs builtinsNs && h1.bmainOk && staticsOk mods h0 h1 && namesBound P h1 && laidKept h0 h1
noncomputable def headRun (P : Program) (w : World) : Option (KT × KT) := match bootK P w with
 | some K0 => match topK P w K0 with
  | some K1 => some (K0, K1)
  | none => none
 | none => none
end
section
open PySem.W.X PySem.Builtin
noncomputable def vO (v : Value) : Option AV := Value.casesOn (motive := fun _ => Option AV) v none none none (fun _ => none) (fun i _ => some (.int i)) (fun _ _ => none) (fun x _ => some (.str x)) (fun _ _ => none) (fun n => some (.typ n)) (fun n => some (.blt n)) (fun a => some (.ref a))
noncomputable def refD (v : Value) : Option Addr := Value.casesOn (motive := fun _ => Option Addr) v none none none (fun _ => none) (fun _ _ => none) (fun _ _ => none) (fun _ _ => none) (fun _ _ => none) (fun _ => none) (fun _ => none) some
noncomputable def keyS (e : DictEntry) : Bool := Value.casesOn (motive := fun _ => Bool) e.key false false false (fun _ => false) (fun _ _ => false) (fun _ _ => false) (fun _ _ => true) (fun _ _ => false) (fun _ => false) (fun _ => false) (fun _ => false)
noncomputable def seqD (d : Data) : Option (Array Value × Nat) := Data.casesOn (motive := fun _ => Option (Array Value × Nat)) d none (fun _ => none) (fun vs n => some (vs, n)) (fun _ _ => none) (fun _ _ _ => none) (fun _ _ => none) (fun _ => none) (fun _ => none) (fun _ => none) (fun _ => none) none
noncomputable def fldD (d : Data) : Option (Array Value) := Data.casesOn (motive := fun _ => Option (Array Value)) d none (fun _ => none) (fun _ _ => none) (fun _ _ => none) (fun _ _ _ => none) (fun _ _ => none) (fun _ => none) (fun _ => none) (fun _ => none) some none
noncomputable def funD (d : Data) : Option FuncData := Data.casesOn (motive := fun _ => Option FuncData) d none (fun _ => none) (fun _ _ => none) (fun _ _ => none) (fun _ _ _ => none) (fun _ _ => none) (fun _ => none) some (fun _ => none) (fun _ => none) none
noncomputable def dicD (d : Data) : Option (Array DictEntry) := Data.casesOn (motive := fun _ => Option (Array DictEntry)) d none (fun _ => none) (fun _ _ => none) (fun es _ => some es) (fun _ _ _ => none) (fun _ _ => none) (fun _ => none) (fun _ => none) (fun _ => none) (fun _ => none) none
noncomputable def noEx (o : Obj) : Bool := o.dict.isNone && Nat.beq o.slots.size 0
noncomputable def bareK (K : KT) (a : Addr) : Option (Option AV × Data) := (K.get a).bind fun o => cond (noEx o) (some (vO o.cls, o.data)) none
noncomputable def seqK (K : KT) (a : Addr) : Option (Option AV × Array Value × Nat) := (bareK K a).bind fun p => (seqD p.2).map fun q => (p.1, q)
noncomputable def fldK (K : KT) (a : Addr) : Option (Option AV × Array Value) := (bareK K a).bind fun p => (fldD p.2).map fun q => (p.1, q)
noncomputable def fnK (K : KT) (a : Addr) : Option FuncData := (K.get a).bind fun o => funD o.data
noncomputable def cdK (K : KT) (c : Value) : Option AV := (refD c).bind fun a => (K.get a).bind fun o => (fldD o.data).bind fun vs => (vs[1]?).bind vO
noncomputable def fo0 (fd : FuncData) : FuncData := { fd with name := "", qualname := "", kwdefaults := .none, doc := .none, pyModule := .none, annotations := none, code := .none, closureTuple := .none }
noncomputable def isS (x : Str) (v : AV) : Bool := AV.casesOn (motive := fun _ => Bool) v false (fun _ => false) (fun _ => false) (fun y => y == x) (fun _ _ => false) (fun _ => false) (fun _ => false) (fun _ => false) (fun _ => false) (fun _ => false)
noncomputable def foK (K : KT) (a : Addr) : Option FuncData := (fnK K a).bind fun fd => (cdK K fd.code).bind fun q => cond (isS fd.qualname q) (some (fo0 fd)) none
noncomputable def foS (s : Addr × (Arguments × List Stmt × Scope) × Value) : Option FuncData := some (fdAt s.2.1 "" "" s.2.2 .none .none .none none .none .none)
noncomputable def specs : List (Addr × (Arguments × List Stmt × Scope) × Value) :=
 [(67, fnAt 17, .none), (74, fnAt 18, .none), (87, fnAt 23, .ref 80), (95, fnAt 24, .ref 88), (803, fnAt 46, .none), (810, fnAt 49, .none), (850, fnAt 70, .none), (857, fnAt 72, .none), (864, fnAt 73, .none)] ++
 [(869, fnAt 74, .none), (876, fnAt 75, .none), (883, fnAt 76, .none), (890, fnAt 77, .none), (895, fnAt 78, .none), (751, mthAt 43 6, .none), (744, mthAt 43 5, .none), (780, mthAt 43 10, .none), (773, mthAt 43 9, .none)] ++
 [(714, mthAt 43 1, .none), (594, mthAt 34 25, .ref 587), (432, mthAt 34 3, .none), (114, fnAt 28, .none), (141, mthAt 30 1, .none), (418, mthAt 34 1, .ref 411), (425, mthAt 34 2, .none), (707, mthAt 43 0, .ref 700), (795, fnAt 44, .ref 788)]
noncomputable def fas : List Addr := [67, 74, 87, 95, 803, 810, 850, 857, 864] ++ [869, 876, 883, 890, 895, 751, 744, 780, 773] ++ [714, 594, 432, 114, 141, 418, 425, 707, 795]
noncomputable def nsK (K : KT) (a : Addr) : Option (Array DictEntry) := (K.get a).bind fun o => (dicD o.data).bind fun es => cond (es.toList.all keyS) (some es) none
noncomputable def nsFl (es : Array DictEntry) (x : Str) : Option Value := (es.toList.find? fun e => e.key.isStr x).map (·.val)
noncomputable def glK (K : KT) : Option (List (Option AV)) := (nsK K mainGlobals).bind fun eg => (nsK K builtinsNs).map fun eb => glT.map fun p => ((nsFl eg p.1).or (nsFl eb p.1)).bind vO
noncomputable def txK (K : KT) (a : Addr) : Option (Option AV × List (Option AV)) := (seqK K a).map fun p => (p.1, p.2.1.toList.map vO)
noncomputable def allO {α : Type} (l : List (Option α)) : Option (List α) := List.rec (motive := fun _ => Option (List α)) (some []) (fun o _ r => o.bind fun a => r.map (a :: ·)) l
noncomputable def isT (v : Option AV) : Bool := Option.casesOn (motive := fun _ => Bool) v false fun v => AV.casesOn (motive := fun _ => Bool) v false (fun _ => false) (fun _ => false) (fun _ => false) (fun _ _ => false) (fun _ => false) (fun n => n == "tuple") (fun _ => false) (fun _ => false) (fun _ => false)
noncomputable def deep (K : KT) (n : Nat) : Value → Option Dt := Nat.rec (motive := fun _ => Value → Option Dt) (fun _ => none) (fun _ f v => Value.casesOn (motive := fun _ => Option Dt) v none none none (fun _ => none) (fun i _ => some (.int i)) (fun _ _ => none) (fun x _ => some (.str x)) (fun _ _ => none) (fun _ => none) (fun _ => none)
 (fun a => (seqK K a).bind fun p => cond (isT p.1) ((allO (p.2.1.toList.map f)).map .tup) none)) n
noncomputable def fragOf (K : KT) (as : List Addr) : Frag := as.filterMap fun a => (K.get a).map fun o => (a, o)
noncomputable def tupA : List Addr := [80, 88, 411, 587, 700, 788]
noncomputable def clsAs : List Addr := [2, 141, 143, 144, 145, 170, 171, 401, 418, 425, 432] ++ [594, 647, 648, 707, 715, 744, 751, 773, 780, 782, 783]
set_option genSizeOf false in
set_option genInjectivity false in
structure Seen where
 gls : Option (List (Option AV))
 law : Option Value
 stc : Option (Option Value × Option Value)
 lw : Option (Str × Str × Value)
 tup : List (Option (Option AV × Array Value × Nat))
 t47 : Option (Option AV × List (Option AV))
 t76 : Option (Option AV × List (Option AV))
 tab : Option Dt
 p796 : Option (Option AV × Array Value)
 p100 : Option (Option AV × Value × Option AV × Option AV)
 p99 : Option (Array Nat)
 cls : Bool
 fos : List (Option FuncData)
noncomputable def seenK (K : KT) : Seen where
 gls := glK K
 law := (nsK K mainGlobals).bind fun eg => nsFl eg "law"
 stc := (nsK K cStatics).map fun es => (nsFl es "sys.recursionlimit", nsFl es sharingNotToldKey)
 lw := (fnK K 895).map fun fd => (fd.name, fd.qualname, fd.kwdefaults)
 tup := tupA.map (seqK K)
 t47 := txK K 47
 t76 := txK K 76
 tab := deep K 4 (.ref 843)
 p796 := fldK K 796
 p100 := (fldK K 100).map fun p => (p.1, p.2.getD 5 .none, vO (p.2.getD 2 .none), vO (p.2.getD 6 .none))
 p99 := (bareK K 99).bind fun p => (seqD p.2).map fun q => (q.1.map PySem.Builtin.Re.reRawOf).map (·.toNat)
 cls := clsK (fragOf K clsAs)
 fos := fas.map (foK K)
noncomputable def tupV : List (Array Value) := [#[.int 76 1900, .str "\n" 333], #[.str "\n" 333], #[.str "" 2357, .str "\n" 2358], #[.int (-1) 2550], #[.none, .none, .bool false, .bool false], #[.bool false, .bool true]]
noncomputable def tupX (vs : Array Value) : Option (Option AV × Array Value × Nat) := some (some (.typ "tuple"), vs, 0)
noncomputable def txX (f : Nat → Str) : Option (Option AV × List (Option AV)) := some (some (.typ "list"), (List.range 256).map fun c => some (.str (f c)))
noncomputable def hexF (n : Nat) : Nat := cond (Nat.blt n 10) (Nat.add 48 n) (Nat.add 55 n)
noncomputable def escF (c : Nat) : List Nat := [61, hexF (Nat.div c 16), hexF (Nat.mod c 16)]
noncomputable def encF (c : Nat) : List Nat := cond (or (or (or (Nat.beq c 9) (Nat.beq c 10)) (Nat.beq c 13)) (and (and (Nat.ble 32 c) (Nat.ble c 126)) (not (Nat.beq c 61)))) [c] (escF c)
noncomputable def seenX : Seen where
 gls := some (glT.map fun p => some p.2)
 law := some (.ref 895)
 stc := some (none, none)
 lw := some ("law", "law", .none)
 tup := tupV.map tupX
 t47 := txX fun c => tx (escF c)
 t76 := txX fun c => tx (encF c)
 tab := some (.tup (tabD.map rowD))
 p796 := some (some (.typ "builtin_function_or_method"), #[.builtin "re.Pattern.search", .ref 100])
 p100 := some (some (.typ "re.Pattern"), .ref 99, some (.int 0), some (.int 0))
 p99 := some reCode
 cls := true
 fos := specs.map foS
end

section
open PySem.W.X PySem.Builtin
noncomputable def headCk (P : Program) (w : World) : Option (Bool × (Option Str × List (Str × Value)) × KT) := match headRun P w with
 | some (K0, K1) => some (checks P K0 K1, (toHeap K1 896).bltView, K1)
 | none => none
noncomputable def headSeen (P : Program) (w : World) : Option (Bool × (Option Str × List (Str × Value)) × Seen) := (headCk P w).map fun p => (p.1, p.2.1, seenK p.2.2)
noncomputable def Good (w : World) : Prop := headSeen pw w = some (true, bltViewBooted, seenX)
end


lay_quick Mine.headCk
section
open PySem PySem.W PySem.W.X PySem.Calls PyProof.Rows PySem.Builtin
theorem seen_ck (w : World) : headSeen pw w = (PySem.W.Fast.tw14129720172415174986 pw w).map fun p => (p.1, p.2.1, seenK p.2.2) := by
  unfold headSeen
  rw [PySem.W.Fast.te14129720172415174986]
theorem good_ff (w : World) : Good ((w.withFollow "comprehension-iter-twice" false).withFollow "special-get-raises" false) := by
  unfold Good
  rw [seen_ck]
  kernel_rfl
theorem good_ft (w : World) : Good ((w.withFollow "comprehension-iter-twice" false).withFollow "special-get-raises" true) := by
  unfold Good
  rw [seen_ck]
  kernel_rfl
theorem good_tf (w : World) : Good ((w.withFollow "comprehension-iter-twice" true).withFollow "special-get-raises" false) := by
  unfold Good
  rw [seen_ck]
  kernel_rfl
theorem good_tt (w : World) : Good ((w.withFollow "comprehension-iter-twice" true).withFollow "special-get-raises" true) := by
  unfold Good
  rw [seen_ck]
  kernel_rfl
theorem good_all : ∀ w, Good w :=
  byRow2 "special-get-raises" (byRow2 "comprehension-iter-twice" good_ff good_tf) (byRow2 "comprehension-iter-twice" good_ft good_tt)
end

section
open PySem PySem.W PyProof.Rows
set_option maxHeartbeats 8000000
theorem said : PySem.Challenge.rw_oh0108_01.wellSaid = true := by
  rw [Fast.te9446332074065402090]
  delta Fast.tw9446332074065402090
  repeat' with_reducible apply look_both
  all_goals try (delta Fast.tw17960256430627541270; repeat' with_reducible apply look_both)
  all_goals try (delta Fast.tw2436336058641802641; repeat' with_reducible apply look_both)
  all_goals try (delta Fast.tw12908688711261696721; repeat' with_reducible apply look_both)
  all_goals decide +kernel
end

section
set_option tactic.hygienic true
open PySem.W.X
open Sem (wp)
theorem boundK_eq {K : KT} {m k : Nat} {s : Shared} (N : Kn K m k s) {ns : Addr} {name : Str} {v : Value} (h : boundK K ns name = some v) : boundIn s.heap ns name = some v := by
 unfold boundK at h
 cases e : K.get ns with
 | none => rw [e] at h; contradiction
 | some o =>
  rw [e] at h
  unfold boundIn
  rw [N.objs _ _ e]
  exact h
theorem kn_put {K : KT} {m k D : Nat} {s : Shared} {od od' : Obj} (N : Kn K m k s) (e : K.get D = some od) (hf : od'.isFreed = false) (hb : Nat.blt D 1099511627775 = true) :
  Kn (K.put 40 D od') m k { s with heap := s.heap.update D fun _ => od' } := (kn_update (wr := fun _ => true) (f := fun _ => od') N e hf hb rfl).1
theorem fenceK1_eq {K K' : KT} {m k : Nat} {s : Shared} (N : Kn K m k s) {x : Str} (h : fenceK1 x K = some K') : ∃ s', fenceModule? x s = some s' ∧ Kn K' m k s' ∧ s'.gens = s.gens ∧ s'.heap.life = s.heap.life ∧ s'.os = s.os := by
 unfold fenceK1 at h
 split at h
 ·rename_i a row hb ht
  split at h
  ·rename_i o ho
   split at h
   ·rename_i D hD
    split at h
    ·rename_i od hod
     split at h
     ·rename_i od' hod'
      split at h
      ·contradiction
      ·rename_i hf
       split at h
       ·rename_i hlt
        obtain rfl := Option.some.inj h
        refine ⟨{ s with heap := s.heap.update D fun _ => od' }, ?_, kn_put N hod hf hlt, rfl, rfl, rfl⟩
        unfold fenceModule?
        rw [boundK_eq N hb, ht]
        dsimp only
        rw [N.objs _ _ ho]
        dsimp only
        rw [hD]
        dsimp only
        rw [N.objs _ _ hod]
        dsimp only
        rw [hod']
        rfl
       ·contradiction
     ·contradiction
    ·contradiction
   ·contradiction
  ·contradiction
 ·contradiction
theorem fenceK_eq : ∀ (ms : List Str) {K K' : KT} {m k : Nat} {s : Shared}, Kn K m k s → fenceK ms K = some K' → ∃ s', fenceAll? ms s = some s' ∧ Kn K' m k s' ∧ s'.gens = s.gens ∧ s'.heap.life = s.heap.life ∧ s'.os = s.os
 | [], K, K', m, k, s, N, h => by
  obtain rfl := Option.some.inj h
  exact ⟨s, rfl, N, rfl, rfl, rfl⟩
 | x :: r, K, K', m, k, s, N, h => by
  unfold fenceK at h
  cases e : fenceK1 x K with
  | none => rw [e] at h; contradiction
  | some K₁ =>
   rw [e] at h
   refine el15 (fenceK1_eq N e) fun s₁ f₁ N₁ g₁ l₁ o₁ => ?_
   refine el15 (fenceK_eq r N₁ h) fun s₂ f₂ N₂ g₂ l₂ o₂ => ?_
   exact ⟨s₂, by simp only [fenceAll?, f₁]; exact f₂, N₂, g₂.trans g₁, l₂.trans l₁, o₂.trans o₁⟩
theorem get_objs {h : Heap} {a : Addr} {o : Obj} (e : h.get? a = some o) : h.objs[a]? = some o := by
 unfold Heap.get? at e
 split at e
 ·contradiction
 ·exact e
theorem exact_heap {K : KT} {m k : Nat} {s : Shared} (N : Kn K m k s) (t : total K m = true) (l : s.heap.life = {}) : s.heap = toHeap K m := by
 have hz := N.size
 have : s.heap.objs = (toHeap K m).objs := by
  apply Array.ext'
  apply List.ext_getElem?
  intro i
  unfold toHeap
  dsimp only
  by_cases hi : i < m
  ·have hs := List.all_eq_true.mp t i (List.mem_range.mpr hi)
   refine el11 (Option.isSome_iff_exists.mp hs) fun o ho => ?_
   rw [List.getElem?_map, List.getElem?_range hi]
   have := get_objs (N.objs i o ho)
   rw [Array.getElem?_toList, this]
   simp [ho]
  ·rw [List.getElem?_eq_none (by simp; exact nl2 [_, _, _] vr0 vr1 vr1 vr2 vr0 vr2 rfl (Nat.le_of_eq hz) (Nat.le_of_not_lt hi)), List.getElem?_eq_none (by simp; exact (Nat.le_of_not_lt hi))]
 cases hh : s.heap with
 | mk objs life =>
  rw [hh] at this l
  dsimp only at this l
  subst l
  unfold toHeap at this ⊢
  dsimp only at this
  rw [this]
theorem sched_of_wp {M : Model} {c : Code} {t : Sem Fin} {p : Pos} {s : Shared} {f : Flow} {P : Shared → Prop} (hz : s.asleep)
  (h : wp M ⟨c, none, none, [], none⟩ t (fun fin _ s' => fin = .done f ∧ P s' ∧ s'.gens = #[]) (fun _ _ _ => False) p s) :
  ∃ n s' t', schedN M.den M.prog M.w n (.single s ⟨t, c, p, []⟩) = .running (.single s' t') ∧ through t' = true ∧ P s' ∧ s'.gens = #[] := by
 have h1 : wp M ⟨c, none, none, [], none⟩ t (Sem.finPost M ⟨c, none, none, [], none⟩ fun r s' => (∃ f', r = .ok f') ∧ leftWithCleanup s'.gens = false)
   (fun e _ s' => (∃ f', (Except.error e : Result) = .ok f') ∧ leftWithCleanup s'.gens = false) p s :=
  Sem.wp_mono M _ t (fun a p' s' hq => by obtain ⟨rfl, _, hg⟩ := hq; exact ⟨⟨f, rfl⟩, by rw [hg]; simp [leftWithCleanup]⟩) (fun _ _ _ x => x.elim) p s h
 obtain ⟨n₁, r, s₁, hn₁, f₁, rfl⟩ := (wp_iff_halts (R := fun r _ => ∃ f', r = .ok f') t p s).mp h1
 refine el13 (runNI_real M.den M.prog M.w hn₁ (outcomeOf_ends _)) fun s₂ hr₂ hf₂ hc => ?_
 have hne : ∀ k s₃, runN M.den M.prog M.w k s ⟨t, c, p, []⟩ ≠ .halted (.unsupported "lifetime:generator-with-cleanup-left-suspended") s₃ := by
  intro k s₃ hk
  have a := runN_mono M.den M.prog M.w n₁ k s _ _ s₂ hr₂
  have b := runN_mono M.den M.prog M.w k n₁ s _ _ s₃ hk
  rw [Nat.add_comm, b] at a
  injection a with a1 _
  contradiction
 refine el53 (wp_reaches (M := M) (c := c) h) fun n s' σ p' leaf hn hfo hl => ?_
 rcases hl with ⟨a, rfl, rfl, hP, hg⟩ | ⟨e, _, hF⟩
 ·obtain rfl := Shared.eq_of_forget_eq hfo hg
  refine ⟨n, σ, ⟨.pure (.done f), c, p', []⟩, ?_, rfl, hP, hg⟩
  rw [schedN_eq_runN M.den M.prog M.w s _ hz ⟨hc, hne⟩ n, hn]
  rfl
 ·exact hF.elim
end
section
open PySem.W.X
open Sem (wp)
theorem isExit_eq {fin : Fin} (h : isExit fin = true) : fin = .again (.builtin "proto.exit.begin" ⟨[rawInt mainGlobals], []⟩) := by
 induction fin with
 | done f => exact noff h
 | again c =>
  induction c with
  | builtin id a =>
   rcases a with ⟨_ | ⟨v, r⟩, kw⟩
   ·exact noff h
   ·induction v with
    | int i t =>
     rcases t with _ | t
     ·rcases r with _ | ⟨_, _⟩
      ·rcases kw with _ | ⟨_, _⟩
       ·refine el02 (Bool.and_eq_true_iff.mp (show (id == "proto.exit.begin" && i == 3) = true from h)) fun h1 h2 => ?_
        rw [eq_of_beq h1, eq_of_beq h2]; rfl
       ·exact noff h
      ·exact noff h
     ·exact noff h
    | _ => exact noff h
  | _ => exact noff h
theorem isNone_eq {fin : Fin} (h : isNone fin = true) : fin = .done (.ret .none) := by
 induction fin with
 | done f =>
  induction f with
  | ret v =>
   induction v with
   | none => rfl
   | _ => exact noff h
  | _ => exact noff h
 | again c => exact noff h
theorem and3 {a b c : Bool} {α : Type} {x : Option α} {y : α} (h : (match a && b && c with | true => x | false => none) = some y) : a = true ∧ b = true ∧ c = true ∧ x = some y := by
 cases a with
 | false => exact nope h
 | true => cases b with
  | false => exact nope h
  | true => cases c with
   | false => exact nope h
   | true => exact ⟨rfl, rfl, rfl, h⟩
theorem boot_ok {w : World} {K0 : KT} (h : bootK pw w = some K0) (hnp : pw.main.body.any namesNumpy = false) :
  ∃ s, AfterRun (opening pw) w s ∧ (∀ s', AfterRun (opening pw) w s' → s' = s) ∧ ∃ s₀, fenceModules? pw s = some s₀ ∧ Kn K0 34 318 s₀ ∧ s₀.gens = #[] ∧ s₀.heap.life = {} := by
 unfold bootK at h
 rw [← table_eq_tree] at h
 rcases e : evF (denote table) ⟨opening pw, w.params⟩ (fun _ => true) 1000000 false (Ctx.of (.builtin "boot" {}) []) (boot (opening pw)) default .nil 0 1 with _ | ⟨x, p', K, m, k⟩
 ·rw [e] at h; exact nope h
 ·rw [e] at h
  rcases x with x | fin
  ·exact nope h
  ·refine el04 (and3 (show (match isExit fin && Nat.beq m 34 && Nat.beq k 318 with | true => fenceK (importedModules pw.main.body) K | false => none) = _ from h)) fun h1 h2 h3 h4 => ?_
   have h2' := Nat.eq_of_beq_eq_true h2
   have h3' := Nat.eq_of_beq_eq_true h3
   subst h2' h3'
   have N0 : Kn .nil 0 1 (start (opening pw)).1 := ⟨fun a o e => (nomatch e), rfl, rfl⟩
   refine el13 (evF_sound (M := model (opening pw) w) _ _ _ _ _ _ _ _ _ _ _ _ _ e _ N0) fun s' N' P o => ?_
   have hg : s'.gens = #[] := P.gens
   have hl : s'.heap.life = {} := P.life
   have A := AfterImport.of_wp (prog := opening pw) (w := w) (P := fun s => s = s') (o _ _ ⟨isExit_eq h1, rfl, hg⟩)
   obtain ⟨⟨s, hs⟩, hu⟩ := A
   obtain rfl := hu s hs
   refine el15 (fenceK_eq _ N' h4) fun s₀ hf N₀ g₀ l₀ _ => ?_
   refine ⟨s, hs, hu, s₀, ?_, N₀, g₀.trans hg, l₀.trans hl⟩
   unfold fenceModules?
   rw [hf, hnp]
   rfl
theorem wrTop_of {b ann : Nat} (h1 : b < 34) (h2 : b ≠ 3) (h3 : b ≠ 2) (h4 : b ≠ ann) : wrTop ann b = false := by
 unfold wrTop
 have a1 : Nat.ble 34 b = false := by
  cases q : Nat.ble 34 b with
  | false => rfl
  | true => exact absurd (Nat.le_of_ble_eq_true q) (by omega)
 rw [a1, BT.beq_eq, BT.beq_eq, BT.beq_eq, decide_eq_false h2, decide_eq_false h3, decide_eq_false h4]
 rfl
theorem annIs_eq {h : Heap} {a : Nat} (c : annIs h a = true) : globalOf h "__annotations__" = some (.ref a) := by
 unfold annIs at c
 revert c
 generalize globalOf h "__annotations__" = o
 intro c
 rcases o with _ | v
 ·exact noff c
 ·induction v with
  | ref b => exact congrArg (fun x => some (Value.ref x)) (eq_of_beq c)
  | _ => exact noff c
theorem top_ok {w : World} {K0 K1 : KT} (h : topK pw w K0 = some K1) (hc : checks pw K0 K1 = true) (hb : (toHeap K1 896).bltView = bltViewBooted) {s₀ : Shared} (N : Kn K0 34 318 s₀) (hg : s₀.gens = #[]) (hl : s₀.heap.life = {}) :
  ∃ s₁, TopRan pw w s₀ s₁ ∧ s₁.asleep ∧ s₁.gens = #[] ∧ s₁.heap.isNs mainGlobals = true ∧ s₁.heap = toHeap K1 896 ∧ Kn K1 896 2996 s₁ := by
 unfold topK at h
 rw [← table_eq_tree] at h
 rcases e : evF (denote table) ⟨pw, w.params⟩ (wrTop 6) 1000000 false (Ctx.of (.builtin "claim.caller" {}) []) (topStub pw).cur default K0 34 318 with _ | ⟨x, p', K, m, k⟩
 ·rw [e] at h; exact nope h
 ·rw [e] at h
  rcases x with x | fin
  ·exact nope h
  ·refine el04 (and3 (show (match isNone fin && Nat.beq m 896 && Nat.beq k 2996 with | true => some K | false => none) = _ from h)) fun h1 h2 h3 h4 => ?_
   have h2' := Nat.eq_of_beq_eq_true h2
   have h3' := Nat.eq_of_beq_eq_true h3
   subst h2' h3'
   obtain rfl := Option.some.inj h4
   refine el13 (evF_sound (M := model pw w) _ _ _ _ _ _ _ _ _ _ _ _ _ e _ N) fun s₁ N₁ P o => ?_
   have hz : s₀.asleep := by unfold Shared.asleep; rw [hl]; exact ⟨rfl, rfl⟩
   have g₁ : s₁.gens = #[] := P.gens.trans hg
   have l₁ : s₁.heap.life = {} := P.life.trans hl
   obtain ⟨n, s', t', hr, ht, rfl, _⟩ := sched_of_wp (M := model pw w) (c := .builtin "claim.caller" {}) (P := fun s => s = s₁) hz (o _ _ ⟨isNone_eq h1, rfl, g₁⟩)
   simp only [checks, Bool.and_eq_true] at hc
   obtain ⟨⟨⟨⟨⟨⟨⟨⟨⟨c1, c2⟩, c3⟩, c4⟩, c5⟩, c6⟩, c7⟩, c8⟩, c9⟩, c10⟩ := hc
   have e0 : s₀.heap = toHeap K0 34 := exact_heap N c1 hl
   have e1 : s'.heap = toHeap _ 896 := exact_heap N₁ c2 l₁
   rw [← e0] at c3 c8 c10
   rw [← e1] at c4 c5 c6 c7 c8 c9 c10 hb
   refine ⟨s', ⟨⟨n, t', hr, ht⟩, P.life, Shared.rest_eq P.os, fun b ob hb' hn => ?_, Heap.accountedI_of_ok c4, statics_of_ok c8, Pin.keysAreStrs_of c5, fun x hx => (Pin.builtinOf_eq c6 x).trans (Heap.of_bltView c6 hb x hx), ?_, fun g hg' => ?_, names_of_bound c9, laid_of_kept c10⟩, ?_, g₁, c5, e1, N₁⟩
   ·refine P.kept b ob (wrTop_of (N.size ▸ Heap.lt_size hb') (fun q => hn (.inl q)) (fun q => hn (.inr (.inl q))) fun q => hn (.inr (.inr ?_))) hb'
    exact (annIs_eq c3).trans (congrArg (fun x => some (Value.ref x)) q.symm)
   ·refine el26 (Heap.bmainOk_spec c7) fun bm ob a1 _ a3 a4 a5 _ => ?_
    exact ⟨bm, ob, (Pin.globalOf_eq c5 _).trans a1, a3, a4, a5⟩
   ·rw [g₁] at hg'; simp at hg'
   ·unfold Shared.asleep; rw [l₁]; exact ⟨rfl, rfl⟩
theorem own_anyX {r : RowW} {tree : List Value → Sem Fin} {defs kps : List Str} {f : Value} {Y : World → Shared → Prop}
  (hrec : r.records = []) (ok : (opensWell r.prog && (frees r && r.within.isEmpty)) = true) (hb : r.prog.bare) (hw : r.promised)
  (beh : ∀ w, (∃ s, AfterRun (opening r.prog) w s) ∧ ∀ s, AfterRun (opening r.prog) w s → ∃ s₀, fenceModules? r.prog s = some s₀ ∧ s₀.gens = #[] ∧ ∃ s₁, TopRan r.prog w s₀ s₁ ∧ s₁.asleep ∧ s₁.gens = #[] ∧ s₁.heap.isNs mainGlobals = true ∧ Y w s₁)
  (pin : ∀ w s, s.heap.isNs mainGlobals = true → Y w s → ∀ n ∈ defs, isTheDefsW r.prog s.heap n)
  (call : ∀ (w : World) (s₀ s₁ : Shared), s₀.heap.isNs mainGlobals = true → Y w s₀ → ∀ (args : List WData) (vs : List Value) (as : List Addr),
   r.claim.pre args = true → WData.layableAll args = true → Laid r.records w s₀ s₁ args vs as →
    wpAny (model r.prog w) callerA (tree vs) (fun fin s' => ∃ v, fin = .done (.ret v) ∧ GoodWG r.claim (classAt s₀.heap) (ExcName.means s₀.heap) args s₁ (.ok (.ret v)) s')
     (fun e s' => GoodWG r.claim (classAt s₀.heap) (ExcName.means s₀.heap) args s₁ (.error e) s') s₁) : r.claim.HoldsOpenBy (fun vs => ⟨tree vs, .builtin "claim.caller" {}, default, []⟩) defs kps false := by
 refine el02 (Bool.and_eq_true_iff.mp ok) fun o1 k5 => ?_
 refine el02 (Bool.and_eq_true_iff.mp k5) fun k5 k6 => ?_
 refine el05 (frees_parts k5) fun hsame hu ha hap hm => ?_
 refine ⟨⟨hb, o1, by show r.makers.map _ = []; rw [hm]; rfl⟩, hw.witness, fun w => ⟨(beh w).1, fun s' hs' => ?_⟩⟩
 obtain ⟨s₀, hf, hg0, s, hT, hz, hgens, hg, y⟩ := (beh w).2 s' hs'
 have RF : RecFacts r.records s.heap := recFacts_nil hrec
 refine ⟨s₀, hf, hg0, s, hT, pin w s hg y, RF.1, RF.2.1, ?_⟩
 refine ClaimW.callFrom_of_specG (c := r.claim) hz hgens fun args hpre hlay ord hord => ?_
 obtain ⟨⟨vs, s₁⟩, hlaid⟩ := Option.isSome_iff_exists.mp (layAllW_isSome (R := r.records) (cl := classAt s.heap) (P := w.params) (ord := ord) (by rw [hrec]; intro c hc; contradiction) args r.args s (pre_splitW hpre).1)
 have keeps := layAllW_keeps _ _ _ hlaid
 have hal := layAllW_rest _ _ _ hlaid
 refine el13 (reads_layAllW hord _ _ _ hlaid hlay s₁.heap (fun _ _ e => e)) fun as hrd hin hold => ?_
 have L : Laid r.records w s s₁ args vs as := ⟨⟨ord, hord, hlaid⟩, hrd, hin, hold, keeps, hal.1.trans hgens, hal.2.2.1⟩
 have h := call w s s₁ hg y args vs as hpre hlay L
 have hi := ident_freeW hu ha hap
 have hwi : r.claim.within = [] := List.isEmpty_iff.mp k6
 exact ⟨vs, s₁, hlaid, wpAny_mono h (fun fin s' ⟨v, e, g⟩ => ⟨_, e, have z := g.laid (c := r.claim) hsame hwi hi L; ⟨z.1, z.2.1, z.2.2, fun q => by contradiction⟩⟩) fun e s' g => have z := g.laid (c := r.claim) hsame hwi hi L; ⟨z.1, z.2.1, z.2.2, fun q => by contradiction⟩⟩
end
section
mutual
inductive IsD (P : Addr → Obj → Prop) : Value → Dt → Prop
 | none : IsD P .none .none
 | bool (b) : IsD P (.bool b) (.bool b)
 | int (i t) : IsD P (.int i t) (.int i)
 | str (x t) : IsD P (.str x t) (.str x)
 | strk (x t) : IsD P (.str x t) (.strk x t)
 | tup {a vs n ds} : P a { cls := .type "tuple", data := .seq vs n } → IsDs P vs.toList ds → IsD P (.ref a) (.tup ds)
 | list {a vs n ds} : P a { cls := .type "list", data := .seq vs n } → IsDs P vs.toList ds → IsD P (.ref a) (.list ds)
 | rng {a n t u v} : P a { cls := .type "range", data := .fields #[.int 0 t, .int (n : Nat) u, .int 1 v] } → IsD P (.ref a) (.rng n)
inductive IsDs (P : Addr → Obj → Prop) : List Value → List Dt → Prop
 | nil : IsDs P [] []
 | cons {v vs d ds} : IsD P v d → IsDs P vs ds → IsDs P (v :: vs) (d :: ds)
end
noncomputable def noDict (o : Obj) : Prop := ∀ es n, o.data ≠ .dict es n
section
variable {P P' : Addr → Obj → Prop}
theorem IsD.mono' (h : ∀ a o, noDict o → P a o → P' a o) {v : Value} {d : Dt} (x : IsD P v d) : IsD P' v d :=
 IsD.rec (motive_1 := fun v d _ => IsD P' v d) (motive_2 := fun vs ds _ => IsDs P' vs ds) .none .bool .int .str .strk (fun p _ q => .tup (h _ _ (fun _ _ e => by contradiction) p) q) (fun p _ q => .list (h _ _ (fun _ _ e => by contradiction) p) q)
  (fun p => .rng (h _ _ (fun _ _ e => by contradiction) p)) .nil (fun _ _ x y => .cons x y) x
theorem IsDs.mono' (h : ∀ a o, noDict o → P a o → P' a o) {vs : List Value} {ds : List Dt} (x : IsDs P vs ds) : IsDs P' vs ds := by
 induction vs generalizing ds with
 | nil => cases x; exact .nil
 | cons v r ih => cases x with | cons a b => exact .cons (a.mono' h) (ih b)
theorem IsD.mono (h : ∀ a o, P a o → P' a o) {v : Value} {d : Dt} (x : IsD P v d) : IsD P' v d := x.mono' fun a o _ => h a o
theorem IsDs.mono (h : ∀ a o, P a o → P' a o) {vs : List Value} {ds : List Dt} (x : IsDs P vs ds) : IsDs P' vs ds := x.mono' fun a o _ => h a o
end
inductive AO where
 | list (xs : List AV)
 | meth (k : Nat) (id : String)
 | inst (c : Addr) (d : Nat)
 | dict (es : List (Str × AV))
 | obj (o : Obj)
noncomputable def Frz (h : Heap) (L : Addr → Prop) (ρ : List Addr) (a : Addr) (o : Obj) : Prop := h.get? a = some o ∧ ¬ L a ∧ a ∉ ρ
noncomputable def Is (h : Heap) (L : Addr → Prop) (ρ : List Addr) : AV → Value → Prop
 | .none, v => v = .none
 | .bool b, v => v = .bool b
 | .int i, v => ∃ t, v = .int i t
 | .str x, v => ∃ t, v = .str x t
 | .strk x t, v => v = .str x t
 | .ref a, v => v = .ref a
 | .typ n, v => v = .type n
 | .blt n, v => v = .builtin n
 | .own k, v => ∃ a, ρ[k]? = some a ∧ v = .ref a
 | .dat d, v => IsD (Frz h L ρ) v d
inductive All2 {α β : Type} (R : α → β → Prop) : List α → List β → Prop
 | nil : All2 R [] []
 | cons {a b as bs} : R a b → All2 R as bs → All2 R (a :: as) (b :: bs)
theorem All2.mono {α β : Type} {R R' : α → β → Prop} (h : ∀ a b, R a b → R' a b) {as : List α} {bs : List β} (x : All2 R as bs) : All2 R' as bs := by
 induction x with
 | nil => exact .nil
 | cons p _ ih => exact .cons (h _ _ p) ih
theorem All2.length {α β : Type} {R : α → β → Prop} {as : List α} {bs : List β} (x : All2 R as bs) : as.length = bs.length := by
 induction x with
 | nil => rfl
 | cons _ _ ih => rw [List.length_cons, List.length_cons, ih]
noncomputable def IsO (h : Heap) (L : Addr → Prop) (ρ : List Addr) : AO → Obj → Prop
 | .list xs, o => ∃ vs n, o = { cls := .type "list", data := .seq vs n } ∧ All2 (Is h L ρ) xs vs.toList
 | .meth k id, o => ∃ a, ρ[k]? = some a ∧ o = { cls := .type "builtin_function_or_method", data := .fields #[.builtin id, .ref a] }
 | .inst c d, o => ∃ a, ρ[d]? = some a ∧ o = { cls := .ref c, dict := some a, data := .plain }
 | .dict es, o => ∃ m : Str → Option Value, (∃ xs n, o.data = .dict xs n ∧ StrKeys xs ∧ (∀ x, nsFind xs x = m x) ∧ xs.size ≤ es.length) ∧ o.cls = .type "dict" ∧ (∀ p ∈ es, ∃ v, m p.1 = some v ∧ Is h L ρ p.2 v) ∧ (∀ x, x ∉ es.map (·.1) → m x = none) ∧ (es.map (·.1)).Nodup
 | .obj o', o => o = o'
structure Cx where
 env : Env
 bad : Addr → Prop
 keep : Addr → Obj → Prop
 fr : Addr → Obj → Prop
 t0 : Nat
 g : Array GenState
 o : OsState
 r0 : List Addr
noncomputable def Cx.bd (C : Cx) (a : Addr) : Prop := a = C.env.locals ∨ C.bad a
noncomputable abbrev Fs := List (Str × Option AV)
inductive NsR (h : Heap) (B : Addr → Prop) (L : Addr) (ρ : List Addr) (fs : Fs) : Prop
 | mk (m : Str → Option Value) (hm : h.Ns L m) (hf : ∀ p ∈ fs, ∀ v, p.2 = some v → ∃ v', m p.1 = some v' ∧ Is h B ρ v v') : NsR h B L ρ fs
theorem NsR.el {h : Heap} {B : Addr → Prop} {L : Addr} {ρ : List Addr} {fs : Fs} {P : Prop} (x : NsR h B L ρ fs) (k : ∀ m, h.Ns L m → (∀ p ∈ fs, ∀ v, p.2 = some v → ∃ v', m p.1 = some v' ∧ Is h B ρ v v') → P) : P := match x with | .mk m a b => k m a b
inductive Own1 (h : Heap) (B : Addr → Prop) (ρ : List Addr) (k : Nat) (ao : AO) : Prop
 | mk (a : Addr) (o : Obj) (e1 : ρ[k]? = some a) (e2 : h.get? a = some o) (e3 : IsO h B ρ ao o) : Own1 h B ρ k ao
theorem Own1.el {h : Heap} {B : Addr → Prop} {ρ : List Addr} {i : Nat} {ao : AO} {P : Prop} (x : Own1 h B ρ i ao) (k : ∀ a o, ρ[i]? = some a → h.get? a = some o → IsO h B ρ ao o → P) : P := match x with | .mk a o e1 e2 e3 => k a o e1 e2 e3
structure Rx (C : Cx) (fs : Fs) (own : List AO) (ρ : List Addr) (s : Shared) : Prop where
 ns : NsR s.heap C.bd C.env.locals ρ fs
 nd : (fs.map (·.1)).Nodup
 up : ∀ b o, C.keep b o → s.heap.get? b = some o
 new : ∀ o, ¬ C.keep C.env.locals o
 len : own.length = ρ.length
 mine : ∀ (k : Nat) (ao : AO), own[k]? = some ao → Own1 s.heap C.bd ρ k ao
 fresh : ∀ a ∈ ρ, a ≠ C.env.locals ∧ (∀ o, ¬ C.keep a o) ∧ ¬ C.bad a
 apart : ρ.Nodup
 old : ∀ a, C.bad a → ∃ o, s.heap.get? a = some o
 gens : s.gens = C.g
 os : s.os = C.o
 frs : ∀ b o, C.fr b o → ∃ sl, s.heap.get? b = some { o with slots := sl }
 frn : ∀ b o, C.fr b o → b ≠ C.env.locals ∧ C.bad b ∧ ∀ o', ¬ C.keep b o'
 tk : C.t0 ≤ s.toks
 pr : ∃ t, ρ = C.r0 ++ t
theorem Heap.Ns.some {h : Heap} {a : Addr} {m : Str → Option Value} (x : h.Ns a m) : ∃ o, h.get? a = some o := by
 refine el32 (x) fun o _ _ ho _ => ?_
 exact ⟨o, ho⟩
section
variable {h h' : Heap} {L : Addr → Prop} {ρ ρ' : List Addr}
theorem Frz.keeps (k : ∀ b o, ¬ L b → b ∉ ρ → h.get? b = some o → h'.get? b = some o) {a : Addr} {o : Obj} (x : Frz h L ρ a o) : Frz h' L ρ a o := ⟨k _ _ x.2.1 x.2.2 x.1, x.2⟩
theorem Is.map' {B B' : Addr → Prop} (k : ∀ a o, noDict o → Frz h B ρ a o → Frz h' B' ρ a o) {av : AV} {v : Value} (x : Is h B ρ av v) : Is h' B' ρ av v := by
 induction av with
 | dat d => exact IsD.mono' k x
 | _ => exact x
theorem IsO.map' {B B' : Addr → Prop} (k : ∀ a o, noDict o → Frz h B ρ a o → Frz h' B' ρ a o) {ao : AO} {o : Obj} (x : IsO h B ρ ao o) : IsO h' B' ρ ao o := by
 induction ao with
 | list xs => obtain ⟨vs, n, e, a⟩ := x; exact ⟨vs, n, e, a.mono fun _ _ y => y.map' k⟩
 | dict es => obtain ⟨m, e, c, f, g⟩ := x; exact ⟨m, e, c, fun p hp => let ⟨v, e1, e2⟩ := f p hp; ⟨v, e1, e2.map' k⟩, g⟩
 | _ => exact x
theorem Is.keeps (k : ∀ b o, ¬ L b → b ∉ ρ → h.get? b = some o → h'.get? b = some o) {av : AV} {v : Value} (x : Is h L ρ av v) : Is h' L ρ av v := x.map' fun _ _ _ y => y.keeps k
theorem IsO.keeps (k : ∀ b o, ¬ L b → b ∉ ρ → h.get? b = some o → h'.get? b = some o) {ao : AO} {o : Obj} (x : IsO h L ρ ao o) : IsO h' L ρ ao o := x.map' fun _ _ _ y => y.keeps k
end
section
variable {C : Cx} {fs fs' : Fs} {own own' : List AO} {ρ ρ' : List Addr} {s s' : Shared}
theorem Rx.keeps (I : Rx C fs own ρ s) (k : ∀ b o, s.heap.get? b = some o → s'.heap.get? b = some o) (hg : s'.gens = s.gens) (ho : s'.os = s.os) (ht : C.t0 ≤ s'.toks) : Rx C fs own ρ s' := by
 refine NsR.el (I.ns) fun m hm hf => ?_
 have k' : ∀ b o, ¬ C.bd b → b ∉ ρ → s.heap.get? b = some o → s'.heap.get? b = some o := fun b o _ _ e => k b o e
 exact ⟨⟨m, hm.keeps k, fun p hp v e => let ⟨v', e1, e2⟩ := hf p hp v e; ⟨v', e1, e2.keeps k'⟩⟩, I.nd, fun b o e => k b o (I.up b o e), I.new, I.len,
  fun i ao e => let ⟨a, o, e1, e2, e3⟩ := I.mine i ao e; ⟨a, o, e1, k _ _ e2, e3.keeps k'⟩, I.fresh, I.apart, fun a h => let ⟨o, e⟩ := I.old a h; ⟨o, k _ _ e⟩, hg.trans I.gens, ho.trans I.os, fun b o h => let ⟨sl, e⟩ := I.frs b o h; ⟨sl, k _ _ e⟩, I.frn, ht, I.pr⟩
theorem Rx.toks (I : Rx C fs own ρ s) (k : Nat) (ht : C.t0 ≤ k) : Rx C fs own ρ { s with toks := k } := I.keeps (fun _ _ e => e) rfl rfl ht
theorem Rx.push (I : Rx C fs own ρ s) (o : Obj) (k : Nat) (ht : C.t0 ≤ k) : Rx C fs own ρ { s with heap := s.heap.push o, toks := k } := I.keeps (fun _ _ e => Heap.get?_push_of_some o e) rfl rfl ht
theorem Rx.moved (I : Rx C fs own ρ s) {L : Addr → Prop} (hL : ∀ a, L a → a = C.env.locals ∨ ∃ o, C.fr a o) (k : ∀ b o, ¬ L b → s.heap.get? b = some o → s'.heap.get? b = some o)
  (k2 : ∀ b o, L b → s.heap.get? b = some o → ∃ sl, s'.heap.get? b = some { o with slots := sl }) (hg : s'.gens = s.gens) (ho : s'.os = s.os) (ht : C.t0 ≤ s'.toks) : Rx C fs own ρ s' := by
 refine NsR.el (I.ns) fun m hm hf => ?_
 have k3 : ∀ b o, s.heap.get? b = some o → ∃ sl, s'.heap.get? b = some { o with slots := sl } := fun b o e => by
  by_cases q : L b
  ·exact k2 b o q e
  ·exact ⟨o.slots, k b o q e⟩
 have nb : ∀ b, ¬ C.bd b → ¬ L b := fun b hb q => by
  rcases hL b q with q | ⟨o, q⟩
  ·exact hb (.inl q)
  ·exact hb (.inr (I.frn b o q).2.1)
 have nρ : ∀ b ∈ ρ, ¬ L b := fun b hb => nb b fun q => q.elim (I.fresh b hb).1 (I.fresh b hb).2.2
 have k' : ∀ b o, ¬ C.bd b → b ∉ ρ → s.heap.get? b = some o → s'.heap.get? b = some o := fun b o hb _ e => k b o (nb b hb) e
 refine ⟨⟨m, ?_, fun p hp v e => let ⟨v', e1, e2⟩ := hf p hp v e; ⟨v', e1, e2.keeps k'⟩⟩, I.nd, fun b o e => k b o (fun q => ?_) (I.up b o e), I.new, I.len,
  fun i ao e => let ⟨a, o, e1, e2, e3⟩ := I.mine i ao e; ⟨a, o, e1, k _ _ (nρ a (List.mem_of_getElem? e1)) e2, e3.keeps k'⟩, I.fresh, I.apart, fun a h => let ⟨o, e⟩ := I.old a h; let ⟨_, e'⟩ := k3 _ _ e; ⟨_, e'⟩, hg.trans I.gens, ho.trans I.os,
  fun b o h => let ⟨_, e⟩ := I.frs b o h; let ⟨sl, e'⟩ := k3 _ _ e; ⟨sl, e'⟩, I.frn, ht, I.pr⟩
 ·refine el33 (hm) fun o es ep e hd r => ?_
  refine el11 (k3 _ _ e) fun sl e' => ?_
  exact ⟨_, es, ep, e', hd, r⟩
 ·rcases hL b q with rfl | ⟨o', q⟩
  ·exact I.new o e
  ·exact (I.frn b o' q).2.2 o e
noncomputable def putFs (x : Str) (v : AV) : Fs → Option Fs
 | [] => none
 | (y, u) :: r => if y = x then some ((x, some v) :: r) else (putFs x v r).map ((y, u) :: ·)
theorem putFs_names {x : Str} {v : AV} : ∀ {fs fs' : Fs}, putFs x v fs = some fs' → fs'.map (·.1) = fs.map (·.1)
 | [], _, h => by contradiction
 | (y, u) :: r, fs', h => by
  unfold putFs at h
  by_cases e : y = x
  ·rw [if_pos e] at h; obtain rfl := Option.some.inj h; simp [e]
  ·rw [if_neg e] at h
   obtain ⟨r', h1, rfl⟩ := Option.map_eq_some_iff.mp h
   simp [putFs_names h1]
theorem putFs_get {x : Str} {v : AV} : ∀ {fs fs' : Fs}, putFs x v fs = some fs' → (fs.map (·.1)).Nodup → ∀ p ∈ fs', (p.1 = x ∧ p.2 = some v) ∨ (p.1 ≠ x ∧ p ∈ fs)
 | [], _, h, _ => by contradiction
 | (y, u) :: r, fs', h, nd => by
  unfold putFs at h
  rw [List.map_cons, List.nodup_cons] at nd
  by_cases e : y = x
  ·rw [if_pos e] at h
   obtain rfl := Option.some.inj h
   intro p hp
   rcases List.mem_cons.mp hp with rfl | hp
   ·exact .inl ⟨rfl, rfl⟩
   ·exact .inr ⟨fun q => nd.1 (List.mem_map.mpr ⟨p, hp, q.trans e.symm⟩), List.mem_cons_of_mem _ hp⟩
  ·rw [if_neg e] at h
   obtain ⟨r', h1, rfl⟩ := Option.map_eq_some_iff.mp h
   intro p hp
   rcases List.mem_cons.mp hp with rfl | hp
   ·exact .inr ⟨e, List.mem_cons_self⟩
   ·rcases putFs_get h1 nd.2 p hp with q | ⟨q1, q2⟩
    ·exact .inl q
    ·exact .inr ⟨q1, List.mem_cons_of_mem _ q2⟩
theorem Rx.store (I : Rx C fs own ρ s) {x : Str} {v : AV} {v' : Value} (hp : putFs x v fs = some fs') (hv : Is s.heap C.bd ρ v v') {h' : Heap} {m : Str → Option Value}
  (hm : ∀ p ∈ fs, ∀ v, p.2 = some v → ∃ v', m p.1 = some v' ∧ Is s.heap C.bd ρ v v') (hn : h'.Ns C.env.locals (fun y => if y = x then some v' else m y)) (hs : Heap.SameBut C.env.locals s.heap h') (k : Nat) (ht : C.t0 ≤ k) :
  Rx C fs' own ρ { s with heap := h', toks := k } := by
 have k' : ∀ b o, ¬ C.bd b → b ∉ ρ → s.heap.get? b = some o → h'.get? b = some o := fun b o hb _ e => (hs.2 b fun q => hb (.inl q)).trans e
 have hold : ∀ a, C.bad a → ∃ o, h'.get? a = some o := fun a ha => by
  by_cases q : a = C.env.locals
  ·subst q; exact Heap.Ns.some hn
  ·obtain ⟨o, e⟩ := I.old a ha; exact ⟨o, (hs.2 a q).trans e⟩
 refine ⟨⟨_, hn, fun p hp' u e => ?_⟩, putFs_names hp ▸ I.nd, fun b o e => ?_, I.new, I.len, fun i ao e => ?_, I.fresh, I.apart, hold, I.gens, I.os, fun b o h => let ⟨sl, e⟩ := I.frs b o h; ⟨sl, (hs.2 b (I.frn b o h).1).trans e⟩, I.frn, ht, I.pr⟩
 ·rcases putFs_get hp I.nd p hp' with ⟨h1, h2⟩ | ⟨h1, h2⟩
  ·rw [h2] at e; obtain rfl := Option.some.inj e
   exact ⟨v', by rw [if_pos h1], hv.keeps k'⟩
  ·refine el12 (hm p h2 u e) fun v'' e1 e2 => ?_
   exact ⟨v'', by rw [if_neg h1]; exact e1, e2.keeps k'⟩
 ·have hb : b ≠ C.env.locals := fun q => I.new o (q ▸ e)
  exact (hs.2 b hb).trans (I.up b o e)
 ·refine Own1.el (I.mine i ao e) fun a o e1 e2 e3 => ?_
  exact ⟨a, o, e1, (hs.2 a (I.fresh a (List.mem_of_getElem? e1)).1).trans e2, e3.keeps k'⟩
theorem Is.grow {h : Heap} {L : Addr → Prop} {ρ : List Addr} {a : Addr} (ha : h.get? a = none) {av : AV} {v : Value} (x : Is h L ρ av v) : Is h L (ρ ++ [a]) av v := by
 induction av with
 | own k => obtain ⟨b, e, q⟩ := x; exact ⟨b, by rw [List.getElem?_append_left (List.getElem?_eq_some_iff.mp e).1]; exact e, q⟩
 | dat d => exact IsD.mono (fun b o y => ⟨y.1, y.2.1, fun hm => by
   rcases List.mem_append.mp hm with hm | hm
   ·exact y.2.2 hm
   ·rw [List.mem_singleton] at hm
    have z := y.1
    rw [hm, ha] at z
    contradiction⟩) x
 | _ => exact x
theorem IsO.grow {h : Heap} {L : Addr → Prop} {ρ : List Addr} {a : Addr} (ha : h.get? a = none) {ao : AO} {o : Obj} (x : IsO h L ρ ao o) : IsO h L (ρ ++ [a]) ao o := by
 have g : ∀ {k b : Nat}, ρ[k]? = some b → (ρ ++ [a])[k]? = some b := fun e => by rw [List.getElem?_append_left (List.getElem?_eq_some_iff.mp e).1]; exact e
 induction ao with
 | list xs => obtain ⟨vs, n, e, al⟩ := x; exact ⟨vs, n, e, al.mono fun _ _ y => y.grow ha⟩
 | meth k id => obtain ⟨b, e, q⟩ := x; exact ⟨b, g e, q⟩
 | inst c d => obtain ⟨b, e, q⟩ := x; exact ⟨b, g e, q⟩
 | dict es => obtain ⟨m, e, c, f, r⟩ := x; exact ⟨m, e, c, fun p hp => let ⟨v, e1, e2⟩ := f p hp; ⟨v, e1, e2.grow ha⟩, r⟩
 | obj o' => exact x
theorem Rx.alloc (I : Rx C fs own ρ s) (ao : AO) (o : Obj) (hf : o.isFreed = false) (ho : IsO (s.heap.push o) C.bd (ρ ++ [s.heap.objs.size]) ao o) (k : Nat) (ht : C.t0 ≤ k) :
  Rx C fs (own ++ [ao]) (ρ ++ [s.heap.objs.size]) { s with heap := s.heap.push o, toks := k } := by
 refine NsR.el (I.ns) fun m hm hff => ?_
 have hlt : ∀ b ob, s.heap.get? b = some ob → b ≠ s.heap.objs.size := fun b ob e => Nat.ne_of_lt (Heap.lt_size e)
 have hno : s.heap.get? s.heap.objs.size = none := by
  cases q : s.heap.get? s.heap.objs.size with
  | none => rfl
  | some ob => exact absurd rfl (hlt _ _ q)
 have kp : ∀ b ob, ¬ C.bd b → b ∉ ρ ++ [s.heap.objs.size] → s.heap.get? b = some ob → (s.heap.push o).get? b = some ob := fun b ob _ _ e => Heap.get?_push_of_some o e
 refine ⟨⟨m, hm.push o, fun p hp v e => let ⟨v', e1, e2⟩ := hff p hp v e; ⟨v', e1, (e2.grow hno).keeps kp⟩⟩, I.nd, fun b ob e => Heap.get?_push_of_some _ (I.up b ob e), I.new, by simp [I.len], fun i ao' e => ?_, fun a ha => ?_, ?_, fun a h => let ⟨ob, e⟩ := I.old a h; ⟨ob, Heap.get?_push_of_some _ e⟩, I.gens, I.os, fun b o h => let ⟨sl, e⟩ := I.frs b o h; ⟨sl, Heap.get?_push_of_some _ e⟩, I.frn, ht, (let ⟨t, e⟩ := I.pr; ⟨t ++ [s.heap.objs.size], by rw [e, List.append_assoc]⟩)⟩
 ·by_cases hi : i < own.length
  ·rw [List.getElem?_append_left hi] at e
   refine Own1.el (I.mine i ao' e) fun a ob e1 e2 e3 => ?_
   exact ⟨a, ob, by rw [List.getElem?_append_left (I.len ▸ hi)]; exact e1, Heap.get?_push_of_some _ e2, (e3.grow hno).keeps kp⟩
  ·have hi' : i = own.length := by
    have := (List.getElem?_eq_some_iff.mp e).1
    simp at this
    exact (Nat.le_antisymm (nl1 [_, _] (.add vr0 (.num 1)) (.add vr1 (.num 1)) vr0 vr1 rfl this) (Nat.le_of_not_lt hi))
   subst hi'
   rw [List.getElem?_append_right (Nat.le_refl _), Nat.sub_self] at e
   obtain rfl := Option.some.inj e
   exact ⟨s.heap.objs.size, o, by rw [I.len, List.getElem?_append_right (Nat.le_refl _), Nat.sub_self]; rfl, Heap.get?_push_size _ hf, ho⟩
 ·rcases List.mem_append.mp ha with ha | ha
  ·exact I.fresh a ha
  ·rw [List.mem_singleton] at ha
   subst ha
   exact ⟨(Nat.ne_of_lt hm.lt).symm, fun ob q => absurd rfl (hlt _ _ (I.up _ _ q)), fun q => let ⟨_, e⟩ := I.old _ q; absurd rfl (hlt _ _ e)⟩
 ·rw [List.nodup_append]
  refine ⟨I.apart, by simp, fun a ha b hb => ?_⟩
  rw [List.mem_singleton] at hb
  subst hb
  refine el11 (List.getElem?_of_mem ha) fun i hi => ?_
  have hl : i < own.length := I.len ▸ (List.getElem?_eq_some_iff.mp hi).1
  refine Own1.el (I.mine i _ (List.getElem?_eq_getElem hl)) fun a' ob e1 e2 _ => ?_
  rw [hi] at e1
  obtain rfl := Option.some.inj e1
  exact hlt _ _ e2
theorem Rx.update (I : Rx C fs own ρ s) {k : Nat} {a : Addr} {ao : AO} {o o' : Obj} (hk : k < own.length) (ha : ρ[k]? = some a) (ho : s.heap.get? a = some o) {f : Obj → Obj} (hf : f o = o') (hfr : o'.isFreed = false)
  (hi : IsO (s.heap.update a f) C.bd ρ ao o') (tk : Nat) (ht : C.t0 ≤ tk) : Rx C fs (own.set k ao) ρ { s with heap := s.heap.update a f, toks := tk } := by
 refine NsR.el (I.ns) fun m hm hff => ?_
 have hs : Heap.SameBut a s.heap (s.heap.update a f) := Heap.SameBut.update ..
 have hmem : a ∈ ρ := List.mem_of_getElem? ha
 have kp : ∀ b ob, ¬ C.bd b → b ∉ ρ → s.heap.get? b = some ob → (s.heap.update a f).get? b = some ob := fun b ob _ hb e => (hs.2 b fun q => hb (q ▸ hmem)).trans e
 have hL := (I.fresh a hmem).1
 refine ⟨⟨m, hm.sameBut hs (Ne.symm hL), fun p hp v e => let ⟨v', e1, e2⟩ := hff p hp v e; ⟨v', e1, e2.keeps kp⟩⟩, I.nd, fun b ob e => ?_, I.new, by simp [I.len], fun i ao' e => ?_, I.fresh, I.apart, fun b h => ?_, I.gens, I.os, fun b o h => let ⟨sl, e⟩ := I.frs b o h; ⟨sl, (hs.2 b fun q => (I.fresh a hmem).2.2 (q ▸ (I.frn b o h).2.1)).trans e⟩, I.frn, ht, I.pr⟩
 ·have : b ≠ a := fun q => (I.fresh a hmem).2.1 ob (q ▸ e)
  exact (hs.2 b this).trans (I.up b ob e)
 ·by_cases hik : i = k
  ·subst hik
   rw [List.getElem?_set_self hk] at e
   obtain rfl := Option.some.inj e
   subst hf
   exact ⟨a, f o, ha, Heap.get?_update_self f ho hfr, hi⟩
  ·rw [List.getElem?_set_ne (Ne.symm hik)] at e
   refine Own1.el (I.mine i ao' e) fun b ob e1 e2 e3 => ?_
   have : b ≠ a := fun q => by
    subst q
    exact hik ((List.getElem?_inj (List.getElem?_eq_some_iff.mp e1).1 I.apart).mp (e1.trans ha.symm))
   exact ⟨b, ob, e1, (hs.2 b this).trans e2, e3.keeps kp⟩
 ·by_cases q : b = a
  ·subst q; subst hf; exact ⟨_, Heap.get?_update_self f ho hfr⟩
  ·obtain ⟨ob, e⟩ := I.old b h; exact ⟨ob, (hs.2 b q).trans e⟩
end
end
section
set_option backward.match.sparseCases false
structure Sy where
 fs : Fs
 own : List AO
noncomputable def Ext (L : Addr → Prop) (h : Heap) (ρ : List Addr) (h' : Heap) (ρ' : List Addr) : Prop :=
 (∃ t, ρ' = ρ ++ t) ∧ ∀ a o, Frz h L ρ a o → Frz h' L ρ' a o
theorem Ext.refl {L h ρ} : Ext L h ρ h ρ := ⟨⟨[], by simp⟩, fun _ _ x => x⟩
theorem Ext.trans {L h ρ h' ρ' h'' ρ''} (x : Ext L h ρ h' ρ') (y : Ext L h' ρ' h'' ρ'') : Ext L h ρ h'' ρ'' := by
 obtain ⟨⟨t, ht⟩, x2⟩ := x
 obtain ⟨⟨u, hu⟩, y2⟩ := y
 exact ⟨⟨t ++ u, by rw [hu, ht, List.append_assoc]⟩, fun a o z => y2 a o (x2 a o z)⟩
theorem Ext.keeps {L : Addr → Prop} {h h' : Heap} {ρ : List Addr} (k : ∀ b o, ¬ L b → b ∉ ρ → h.get? b = some o → h'.get? b = some o) : Ext L h ρ h' ρ :=
 ⟨⟨[], by simp⟩, fun _ _ x => x.keeps k⟩
theorem Is.ext {L h ρ h' ρ'} (x : Ext L h ρ h' ρ') {av : AV} {v : Value} (y : Is h L ρ av v) : Is h' L ρ' av v := by
 induction av with
 | own k =>
  refine el12 (y) fun b e q => ?_
  obtain ⟨⟨t, rfl⟩, _⟩ := x
  exact ⟨b, by rw [List.getElem?_append_left (List.getElem?_eq_some_iff.mp e).1]; exact e, q⟩
 | dat d => exact IsD.mono (fun b o z => x.2 b o z) y
 | _ => exact y
inductive Fl where
 | next
 | brk
 | cont
 | ret (v : AV)
noncomputable def IsF (h : Heap) (L : Addr → Prop) (ρ : List Addr) : Fl → Flow → Prop
 | .next, f => f = .next
 | .brk, f => f = .brk
 | .cont, f => f = .cont
 | .ret v, f => ∃ v', f = .ret v' ∧ Is h L ρ v v'
noncomputable def IsB (_ : Heap) (_ : Addr → Prop) (_ : List Addr) (a b : Bool) : Prop := b = a
noncomputable def IsL (h : Heap) (L : Addr → Prop) (ρ : List Addr) (as : List AV) (vs : List Value) : Prop := All2 (Is h L ρ) as vs
noncomputable def iN (C : Addr) (n : Str) : Bool := if C = 783 then shxN.contains n else if C = 648 then sioN.contains n else false
noncomputable def mN (C : Addr) (n : Str) : Option Addr := if C = 783 then shxM.lookup n else if C = 648 then sioM.lookup n else none
theorem evL_ok {α : Type} {K : Frag} {M : Model} {h : Heap} (hK : K.In h) (t : Sem α) : ∀ {a : α}, evL K t = some a → Looks M h t a := by
 induction t with
 | pure a => intro b e; injection e with e; subst e; exact .now
 | rule g f ih => intro b e A Q E s k q; exact nd_rule (ih () e A Q E s k q)
 | «at» p' f ih => intro b e A Q E s k q Γ p hΓ; exact ih () e A Q E s k q Γ p' hΓ
 | point g f ih => intro b e A Q E s k q; exact nd_point (ih () e A Q E s k q)
 | load a g f ih =>
  intro b e A Q E s k q
  refine el12 (Option.bind_eq_some_iff.mp e) fun o h1 h2 => ?_
  exact nd_load (k _ _ (hK _ _ h1)) (ih o h2 A Q E s k q)
 | _ => intro b e; exact absurd e (by intro q; contradiction)
noncomputable def clsA (a : Addr) : Bool := a == 648 || a == 783
structure ClsOk (T : Addr → Obj → Prop) : Prop where
 ex : ∃ K : Frag, (∀ a o, K.lookup a = some o → T a o) ∧ clsK K = true
theorem find_lookup {α : Type} {x : Str} {v : α} : ∀ {l : List (Str × α)}, l.lookup x = some v → (x, v) ∈ l
 | [], h => by contradiction
 | (y, u) :: r, h => by
  rw [List.lookup_cons] at h
  cases e : x == y with
  | true => rw [e] at h; obtain rfl := Option.some.inj h; rw [eq_of_beq e]; exact List.mem_cons_self
  | false => rw [e] at h; exact List.mem_cons_of_mem _ (find_lookup h)
theorem clsK_inst {K : Frag} (h : clsK K = true) {C : Addr} {n : Str} (hn : iN C n = true) : clsPl K C = true ∧ findIn K (.ref C) n = some none := by
 simp only [clsK, cls1, Bool.and_eq_true] at h
 unfold iN at hn
 split at hn
 ·rename_i e; subst e
  exact ⟨h.1.1.1.1, beq_iff_eq.mp (List.all_eq_true.mp h.1.1.1.2 n (by simpa using hn))⟩
 ·split at hn
  ·rename_i e; subst e
   exact ⟨h.1.2.1.1, beq_iff_eq.mp (List.all_eq_true.mp h.1.2.1.2 n (by simpa using hn))⟩
  ·contradiction
theorem clsK_meth {K : Frag} (h : clsK K = true) {C f : Addr} {n : Str} (hn : mN C n = some f) : clsPl K C = true ∧ findIn K (.ref C) n = some (some (.ref f)) ∧ typeIn K (.ref f) = some (.type "function") := by
 simp only [clsK, cls1, Bool.and_eq_true] at h
 unfold mN at hn
 split at hn
 ·rename_i e; subst e
  have := List.all_eq_true.mp h.1.1.2 (n, f) (find_lookup hn)
  simp only [Bool.and_eq_true, beq_iff_eq] at this
  exact ⟨h.1.1.1.1, this⟩
 ·split at hn
  ·rename_i e; subst e
   have := List.all_eq_true.mp h.1.2.2 (n, f) (find_lookup hn)
   simp only [Bool.and_eq_true, beq_iff_eq] at this
   exact ⟨h.1.2.1.1, this⟩
  ·contradiction
structure Fx where
 w : World
 A : Around
 C : Cx
 E : Value → Shared → Prop
 sc : Scope
 gl : Str → Option AV
 T : Addr → Obj → Prop
 n : Nat
noncomputable def Rm (A : Around) (n : Nat) : Prop := A.handled = none ∧ A.depth + n ≤ 990 ∧ A.units + 10 * n ≤ 9890
noncomputable def Frms (C : Cx) (l : List Env) : Prop := ∀ e ∈ l, e.scope.kind ≠ .module ∧ ∃ L, e.frame = some L ∧ (L = C.env.locals ∨ ∃ o, C.fr L o ∧ ∀ vs, o.data ≠ .fields vs)
structure Fx.Ok (F : Fx) : Prop where
 frm : ∃ l, F.A.frames = some l ∧ Frms F.C l
 pos : 0 < F.C.t0
 sc : F.C.env.scope = F.sc
 kind : F.sc.kind = .function
 room : Rm F.A F.n
 top : ∀ a o, F.T a o → F.C.keep a o ∧ ¬ F.C.bad a
 lim : ∀ h : Heap, (∀ a o, F.T a o → h.get? a = some o) → h.NoLimit ∧ NoneBooked h
 gl : ∀ x v s (env : Env), env.globals = F.C.env.globals → env.builtins = F.C.env.builtins → (∀ b o, F.C.keep b o → s.heap.get? b = some o) → F.gl x = some v →
  ∃ v', (∀ h L ρ, Is h L ρ v v') ∧ ∀ (A : Around) (E : Value → Shared → Prop) (Q : Value → Shared → Prop), Q v' s → wpAny (model pr F.w) A (loadGlobal env x) Q E s
 cls : ClsOk F.T
inductive Pg {α β : Type} (C : Cx) (R : Heap → (Addr → Prop) → List Addr → α → β → Prop) (Q : α → Sy → Prop) (s : Shared) (ρ : List Addr) (b : β) (s' : Shared) : Prop
 | mk (a : α) (S' : Sy) (ρ' : List Addr) (q : Q a S') (I : Rx C S'.fs S'.own ρ' s') (r : R s'.heap C.bd ρ' a b) (x : Ext C.bd s.heap ρ s'.heap ρ') : Pg C R Q s ρ b s'
theorem Pg.el {α β : Type} {C : Cx} {R : Heap → (Addr → Prop) → List Addr → α → β → Prop} {Q : α → Sy → Prop} {s s' : Shared} {ρ : List Addr} {b : β} {P : Prop} (h : Pg C R Q s ρ b s') (k : ∀ a S' ρ', Q a S' → Rx C S'.fs S'.own ρ' s' → R s'.heap C.bd ρ' a b → Ext C.bd s.heap ρ s'.heap ρ' → P) : P :=
 match h with | .mk a S' ρ' q I r x => k a S' ρ' q I r x
noncomputable def Pt {α β : Type} (C : Cx) (R : Heap → (Addr → Prop) → List Addr → α → β → Prop) (Q : α → Sy → Prop) (s : Shared) (ρ : List Addr) : β → Shared → Prop :=
 fun b s' => C.t0 ≤ s'.toks → Pg C R Q s ρ b s'
noncomputable def Sm {α β : Type} (F : Fx) (R : Heap → (Addr → Prop) → List Addr → α → β → Prop) (t : Sem β) (S : Sy) (Q : α → Sy → Prop) : Prop :=
 ∀ s ρ, Rx F.C S.fs S.own ρ s → wpAny (model pr F.w) F.A t (Pt F.C R Q s ρ) F.E s
noncomputable abbrev SemE (F : Fx) (e : Expr) (S : Sy) (Q : AV → Sy → Prop) : Prop := Sm F Is (eval e F.C.env) S Q
noncomputable abbrev SemT (F : Fx) (e : Expr) (S : Sy) (Q : Bool → Sy → Prop) : Prop := Sm F IsB (isTrue e F.C.env (eval e F.C.env)) S Q
noncomputable abbrev SemS (F : Fx) (st : Stmt) (S : Sy) (Q : Fl → Sy → Prop) : Prop := Sm F IsF (exec st F.C.env) S Q
noncomputable abbrev SemSs (F : Fx) (st : List Stmt) (S : Sy) (Q : Fl → Sy → Prop) : Prop := Sm F IsF (execs st F.C.env) S Q
noncomputable def Sm1 {β γ : Type} (F : Fx) (R : Heap → (Addr → Prop) → List Addr → γ → β → Prop) (t : Value → Sem β) (a : AV) (S : Sy) (Q : γ → Sy → Prop) : Prop :=
 ∀ s ρ v, Rx F.C S.fs S.own ρ s → Is s.heap F.C.bd ρ a v → wpAny (model pr F.w) F.A (t v) (Pt F.C R Q s ρ) F.E s
noncomputable def Sm2 {β γ : Type} (F : Fx) (R : Heap → (Addr → Prop) → List Addr → γ → β → Prop) (t : Value → Value → Sem β) (a b : AV) (S : Sy) (Q : γ → Sy → Prop) : Prop :=
 ∀ s ρ v u, Rx F.C S.fs S.own ρ s → Is s.heap F.C.bd ρ a v → Is s.heap F.C.bd ρ b u → wpAny (model pr F.w) F.A (t v u) (Pt F.C R Q s ρ) F.E s
section
variable {α β : Type} {C : Cx} {R : Heap → (Addr → Prop) → List Addr → α → β → Prop} {Q : α → Sy → Prop} {s s' : Shared} {ρ ρ' : List Addr}
theorem Pg.ext {b : β} {s₂ : Shared} (x : Ext C.bd s.heap ρ s'.heap ρ') (h : Pg C R Q s' ρ' b s₂) : Pg C R Q s ρ b s₂ := by
 refine Pg.el h fun a S' ρ'' h1 h2 h3 h4 => ?_
 exact ⟨a, S', ρ'', h1, h2, h3, x.trans h4⟩
theorem Pt.ext {b : β} {s₂ : Shared} (x : Ext C.bd s.heap ρ s'.heap ρ') (h : Pt C R Q s' ρ' b s₂) : Pt C R Q s ρ b s₂ := fun ht => Pg.ext x (h ht)
theorem Pt.wp_ext {M : Model} {A : Around} {t : Sem β} {E : Value → Shared → Prop} {s₁ : Shared} (x : Ext C.bd s.heap ρ s'.heap ρ') (h : wpAny M A t (Pt C R Q s' ρ') E s₁) : wpAny M A t (Pt C R Q s ρ) E s₁ :=
 wpAny_mono h (fun _ _ y => Pt.ext x y) fun _ _ y => y
theorem wp_tk {M : Model} {A : Around} {γ : Type} {t : Sem γ} {P : γ → Shared → Prop} {E : Value → Shared → Prop} {n : Nat} (hn : n ≤ s.toks) (h : wpAny M A t (fun a s' => n ≤ s'.toks → P a s') E s) : wpAny M A t P E s :=
 wpAny_mono (wpAny_toks_of hn h) (fun _ _ x => x.2 x.1) (fun _ _ x => x.2)
theorem Pg.same {S : Sy} {a : α} {b : β} (I : Rx C S.fs S.own ρ s) (k : Nat) (h : Q a S) (hR : R s.heap C.bd ρ a b) : Pt C R Q s ρ b { s with toks := k } :=
 fun ht => ⟨a, S, ρ, h, I.toks k ht, hR, Ext.refl⟩
theorem Pg.same' {S : Sy} {a : α} {b : β} (I : Rx C S.fs S.own ρ s) (h : Q a S) (hR : R s.heap C.bd ρ a b) : Pt C R Q s ρ b s :=
 fun _ => ⟨a, S, ρ, h, I, hR, Ext.refl⟩
theorem Pg.grown {S : Sy} {a : α} {b : β} (I : Rx C S.fs S.own ρ s) (k : ∀ b o, s.heap.get? b = some o → s'.heap.get? b = some o) (hg : s'.gens = s.gens) (ho : s'.os = s.os) (h : Q a S) (hR : R s'.heap C.bd ρ a b) : Pt C R Q s ρ b s' :=
 fun ht => ⟨a, S, ρ, h, I.keeps k hg ho ht, hR, Ext.keeps fun b o _ _ e => k b o e⟩
end
noncomputable def getFs (x : Str) : Fs → Option AV
 | [] => none
 | (y, v) :: r => if y = x then v else getFs x r
theorem getFs_mem {x : Str} {v : AV} : ∀ {fs : Fs}, getFs x fs = some v → (x, some v) ∈ fs
 | [], h => by contradiction
 | (y, u) :: r, h => by
  unfold getFs at h
  by_cases e : y = x
  ·rw [if_pos e] at h; subst e; subst h; exact List.mem_cons_self
  ·rw [if_neg e] at h; exact List.mem_cons_of_mem _ (getFs_mem h)
noncomputable def br (c : Bool) (P R : Prop) : Prop := Bool.rec (motive := fun _ => Prop) R P c
theorem br.t {c : Bool} {P R : Prop} (h : br c P R) (e : c = true) : P := by subst e; exact h
theorem br.f {c : Bool} {P R : Prop} (h : br c P R) (e : c = false) : R := by subst e; exact h
noncomputable def gd (b : Bool) (P : Prop) : Prop := Bool.rec (motive := fun _ => Prop) False P b
theorem gd_ok {b : Bool} {P : Prop} (h : gd b P) : b = true ∧ P := by
 induction b with
 | true => exact ⟨rfl, h⟩
 | false => exact h.elim
structure Leaf (P : Prop) : Prop where
 out : P
structure Sd (P : Prop) : Prop where
 out : P
theorem br_ite {c : Bool} {P R : Prop} (h : br c P R) : if c = true then P else R := by
 induction c with
 | true => exact h.t rfl
 | false => exact h.f rfl
section
variable {F : Fx} {S : Sy} {s : Shared} {ρ : List Addr}
noncomputable def bnI (F : Fx) (op : Operator) (i j : Int) (S : Sy) (Q : AV → Sy → Prop) : Prop :=
 match op with
 | .Add => Q (.int (i + j)) S
 | .Sub => Q (.int (i - j)) S
 | .Mult => Sd (IntMulOk i j) ∧ Q (.int (i * j)) S
 | .Mod => Sd (j ≠ 0) ∧ Q (.int (i.fmod j)) S
 | .FloorDiv => Sd (j ≠ 0) ∧ gd (!Builtin.divisionGoesByPylong i j) (Q (.int (i.fdiv j)) S)
 | .BitAnd => Q (.int (Builtin.bitAnd i j)) S
 | .Pow => Sd (0 ≤ j) ∧ Sd ((Builtin.Int.intBits i : Int) * j ≤ 2 ^ 27) ∧ Q (.int (i ^ j.toNat)) S
 | op => Leaf (Sm2 F Is (binaryOp op) (.int i) (.int j) S Q)
theorem bnI_ok {op : Operator} {i j : Int} {Q : AV → Sy → Prop} (h : bnI F op i j S Q) : Sm2 F Is (binaryOp op) (.int i) (.int j) S Q := by
 rintro s ρ v u I ⟨t, rfl⟩ ⟨t', rfl⟩
 induction op with
 | Add => exact P.add_int (Pg.same I _ h ⟨_, rfl⟩)
 | Sub => exact P.sub_int (Pg.same I _ h ⟨_, rfl⟩)
 | Mult => exact P.mul_int (Pg.same I _ h.2 ⟨_, rfl⟩) h.1.out
 | Mod => exact mod_int' h.1.out (Pg.same I _ h.2 ⟨_, rfl⟩)
 | FloorDiv => exact floordiv_int h.1.out (Pg.same I _ (gd_ok h.2).2 ⟨_, rfl⟩) (.inl (Bool.not_eq_true' _ ▸ (gd_ok h.2).1))
 | BitAnd => exact and_int (Pg.same I _ h ⟨_, rfl⟩)
 | Pow => exact pow_int h.1.out h.2.1.out (Pg.same I _ h.2.2 ⟨_, rfl⟩)
 | _ => exact h.out s ρ _ _ I ⟨t, rfl⟩ ⟨t', rfl⟩
noncomputable def aInt : AV → Option Int
 | .int i => some i
 | _ => none
noncomputable def aStr : AV → Option Str
 | .str x => some x
 | _ => none
noncomputable def aNone : AV → Bool
 | .none => true
 | _ => false
theorem aInt_eq {a : AV} {i : Int} (h : (aInt a) = some i) : a = .int i := by cases a <;> (first | contradiction | obtain rfl := Option.some.inj h); rfl
theorem aStr_eq {a : AV} {x : Str} (h : (aStr a) = some x) : a = .str x := by cases a <;> (first | contradiction | obtain rfl := Option.some.inj h); rfl
theorem aNone_eq {a : AV} (h : (aNone a) = true) : a = .none := by cases a <;> first | rfl | contradiction
theorem two_int {β γ : Type} {R : Heap → (Addr → Prop) → List Addr → γ → β → Prop} {t : Value → Value → Sem β} {a b : AV} {Q : γ → Sy → Prop} {f : Int → Int → Prop} {g : Prop} (hf : ∀ i j, f i j → Sm2 F R t (.int i) (.int j) S Q) (hg : g → Sm2 F R t a b S Q)
  (h : match (aInt a) with | some i => (match (aInt b) with | some j => f i j | none => g) | none => g) : Sm2 F R t a b S Q := by
 cases ha : (aInt a) with
 | none => rw [ha] at h; exact hg h
 | some i =>
  rw [ha] at h
  cases hb : (aInt b) with
  | none => rw [hb] at h; exact hg h
  | some j => rw [hb] at h; rw [aInt_eq ha, aInt_eq hb]; exact hf i j h
theorem two_str {β γ : Type} {R : Heap → (Addr → Prop) → List Addr → γ → β → Prop} {t : Value → Value → Sem β} {a b : AV} {Q : γ → Sy → Prop} {f : Str → Str → Prop} {g : Prop} (hf : ∀ i j, f i j → Sm2 F R t (.str i) (.str j) S Q) (hg : g → Sm2 F R t a b S Q)
  (h : match (aStr a) with | some i => (match (aStr b) with | some j => f i j | none => g) | none => g) : Sm2 F R t a b S Q := by
 cases ha : (aStr a) with
 | none => rw [ha] at h; exact hg h
 | some i =>
  rw [ha] at h
  cases hb : (aStr b) with
  | none => rw [hb] at h; exact hg h
  | some j => rw [hb] at h; rw [aStr_eq ha, aStr_eq hb]; exact hf i j h
noncomputable def isAdd : Operator → Bool
 | .Add => true
 | _ => false
theorem isAdd_eq {op : Operator} (h : isAdd op = true) : op = .Add := by cases op <;> first | rfl | contradiction
noncomputable def bnS (F : Fx) (op : Operator) (x y : Str) (S : Sy) (Q : AV → Sy → Prop) : Prop :=
 match isAdd op with
 | true => Sd (x.length + y.length ≤ sizeLine) ∧ Q (.str (x ++ y)) S
 | false => Leaf (Sm2 F Is (binaryOp op) (.str x) (.str y) S Q)
theorem bnS_ok {op : Operator} {x y : Str} {Q : AV → Sy → Prop} (h : bnS F op x y S Q) : Sm2 F Is (binaryOp op) (.str x) (.str y) S Q := by
 unfold bnS at h
 cases hop : isAdd op with
 | true =>
  rw [hop] at h
  rw [isAdd_eq hop]
  rintro s ρ v u I ⟨t, rfl⟩ ⟨t', rfl⟩; exact SB.add (fun _ _ => Pg.same I _ h.2 ⟨_, rfl⟩) h.1.out
 | false => rw [hop] at h; exact h.out
noncomputable def bn (F : Fx) (op : Operator) (a b : AV) (S : Sy) (Q : AV → Sy → Prop) : Prop :=
 match (aInt a) with
 | some i => (match (aInt b) with | some j => bnI F op i j S Q | none => Leaf (Sm2 F Is (binaryOp op) a b S Q))
 | none => match (aStr a) with
  | some x => (match (aStr b) with | some y => bnS F op x y S Q | none => Leaf (Sm2 F Is (binaryOp op) a b S Q))
  | none => Leaf (Sm2 F Is (binaryOp op) a b S Q)
theorem either_ok {β γ : Type} {R : Heap → (Addr → Prop) → List Addr → γ → β → Prop} {t : Value → Value → Sem β} {a b : AV} {Q : γ → Sy → Prop} {f : Int → Int → Prop} {f' : Str → Str → Prop} (hf : ∀ i j, f i j → Sm2 F R t (.int i) (.int j) S Q) (hf' : ∀ i j, f' i j → Sm2 F R t (.str i) (.str j) S Q)
  (h : match (aInt a) with
   | some i => (match (aInt b) with | some j => f i j | none => Leaf (Sm2 F R t a b S Q))
   | none => match (aStr a) with
    | some x => (match (aStr b) with | some y => f' x y | none => Leaf (Sm2 F R t a b S Q))
    | none => Leaf (Sm2 F R t a b S Q)) : Sm2 F R t a b S Q := by
 cases ha : (aInt a) with
 | some i =>
  rw [ha] at h
  exact two_int (g := Leaf (Sm2 F R t a b S Q)) hf (fun q => q.out) (by rw [ha]; exact h)
 | none =>
  rw [ha] at h
  exact two_str (g := Leaf (Sm2 F R t a b S Q)) hf' (fun q => q.out) h
theorem bn_ok {op : Operator} {a b : AV} {Q : AV → Sy → Prop} (h : bn F op a b S Q) : Sm2 F Is (binaryOp op) a b S Q :=
 either_ok (fun _ _ => bnI_ok) (fun _ _ => bnS_ok) h
noncomputable def ibI (F : Fx) (op : Operator) (i j : Int) (S : Sy) (Q : AV → Sy → Prop) : Prop :=
 match isAdd op with
 | true => Q (.int (i + j)) S
 | false => Leaf (Sm2 F Is (inplaceOp op) (.int i) (.int j) S Q)
noncomputable def ibS (F : Fx) (op : Operator) (x y : Str) (S : Sy) (Q : AV → Sy → Prop) : Prop :=
 match isAdd op with
 | true => Sd (x.length + y.length ≤ sizeLine) ∧ Q (.str (x ++ y)) S
 | false => Leaf (Sm2 F Is (inplaceOp op) (.str x) (.str y) S Q)
noncomputable def ib (F : Fx) (op : Operator) (a b : AV) (S : Sy) (Q : AV → Sy → Prop) : Prop :=
 match (aInt a) with
 | some i => (match (aInt b) with | some j => ibI F op i j S Q | none => Leaf (Sm2 F Is (inplaceOp op) a b S Q))
 | none => match (aStr a) with
  | some x => (match (aStr b) with | some y => ibS F op x y S Q | none => Leaf (Sm2 F Is (inplaceOp op) a b S Q))
  | none => Leaf (Sm2 F Is (inplaceOp op) a b S Q)
theorem ib_ok {op : Operator} {a b : AV} {Q : AV → Sy → Prop} (h : ib F op a b S Q) : Sm2 F Is (inplaceOp op) a b S Q := by
 refine either_ok (fun i j h => ?_) (fun x y h => ?_) h
 ·unfold ibI at h
  cases hop : isAdd op with
  | true => rw [hop] at h; rw [isAdd_eq hop]; rintro s ρ v u I ⟨t, rfl⟩ ⟨t', rfl⟩; exact P.iadd_int (Pg.same I _ h ⟨_, rfl⟩)
  | false => rw [hop] at h; exact h.out
 ·unfold ibS at h
  cases hop : isAdd op with
  | true => rw [hop] at h; rw [isAdd_eq hop]; rintro s ρ v u I ⟨t, rfl⟩ ⟨t', rfl⟩; exact SB.iadd (fun _ _ => Pg.same I _ h.2 ⟨_, rfl⟩) h.1.out
  | false => rw [hop] at h; exact h.out
noncomputable def seq (x y : Str) : Bool := x.cps.toList == y.cps.toList
noncomputable def cmI (op : CmpOp) (i j : Int) : Option Bool :=
 match op with
 | .Eq => some (i == j)
 | .NotEq => some (i != j)
 | .Lt => some (decide (i < j))
 | .LtE => some (decide (i ≤ j))
 | .Gt => some (decide (i > j))
 | .GtE => some (decide (i ≥ j))
 | _ => none
noncomputable def cmS (op : CmpOp) (x y : Str) : Option Bool :=
 match op with
 | .Eq => some (seq x y)
 | .NotEq => some (!seq x y)
 | .In => some (Txt.contains y x)
 | .NotIn => some (!Txt.contains y x)
 | _ => none
noncomputable def cmN (op : CmpOp) (c : Bool) : Option Bool :=
 match op with
 | .Is => some c
 | .IsNot => some (!c)
 | .Eq => some c
 | _ => none
noncomputable def ans (Q : AV → Sy → Prop) (S : Sy) (L : Prop) : Option Bool → Prop
 | some c => Q (.bool c) S
 | none => L
noncomputable def aEqN (op : CmpOp) (a : AV) : Option Bool :=
 match op, a with
 | _, .none => some true
 | _, .str _ => some false
 | .Is, .ref _ => some false
 | .Is, .int _ => some false
 | .Is, .own _ => some false
 | .IsNot, .ref _ => some false
 | .IsNot, .own _ => some false
 | _, _ => none
noncomputable def cm (F : Fx) (op : CmpOp) (a b : AV) (S : Sy) (Q : AV → Sy → Prop) : Prop :=
 match (aNone b) with
 | true => ans Q S (Leaf (Sm2 F Is (compareOp op) a b S Q)) ((aEqN op a).bind (cmN op))
 | false => match (aInt a) with
  | some i => (match (aInt b) with | some j => ans Q S (Leaf (Sm2 F Is (compareOp op) (.int i) (.int j) S Q)) (cmI op i j) | none => Leaf (Sm2 F Is (compareOp op) a b S Q))
  | none => match (aStr a) with
   | some x => (match (aStr b) with | some y => ans Q S (Leaf (Sm2 F Is (compareOp op) (.str x) (.str y) S Q)) (cmS op x y) | none => Leaf (Sm2 F Is (compareOp op) a b S Q))
   | none => Leaf (Sm2 F Is (compareOp op) a b S Q)
theorem cmI_ok {op : CmpOp} {i j : Int} {Q : AV → Sy → Prop} (h : ans Q S (Leaf (Sm2 F Is (compareOp op) (.int i) (.int j) S Q)) (cmI op i j)) : Sm2 F Is (compareOp op) (.int i) (.int j) S Q := by
 rintro s ρ v u I ⟨t, rfl⟩ ⟨t', rfl⟩
 induction op with
 | Eq => exact P.eq_int (Pg.same' I h rfl)
 | NotEq => exact P.ne_int (Pg.same' I h rfl)
 | Lt => exact P.lt_int (Pg.same' I h rfl)
 | LtE => exact P.le_int (Pg.same' I h rfl)
 | Gt => exact P.gt_int (Pg.same' I h rfl)
 | GtE => exact P.ge_int (Pg.same' I h rfl)
 | _ => exact (show Leaf _ from h).out s ρ _ _ I ⟨t, rfl⟩ ⟨t', rfl⟩
theorem cmS_ok {op : CmpOp} {x y : Str} {Q : AV → Sy → Prop} (h : ans Q S (Leaf (Sm2 F Is (compareOp op) (.str x) (.str y) S Q)) (cmS op x y)) : Sm2 F Is (compareOp op) (.str x) (.str y) S Q := by
 rintro s ρ v u I ⟨t, rfl⟩ ⟨t', rfl⟩
 induction op with
 | Eq => exact P.eq_str (Pg.same' I h rfl)
 | NotEq => exact P.ne_str (Pg.same' I h rfl)
 | In => exact SB.contains (Pg.same' I h rfl)
 | NotIn => exact SB.notContains (Pg.same' I h rfl)
 | _ => exact (show Leaf _ from h).out s ρ _ _ I ⟨t, rfl⟩ ⟨t', rfl⟩
theorem isN {op : CmpOp} {v : Value} {c : Bool} {A : Around} {w : World} {E : Value → Shared → Prop} {P : Value → Shared → Prop} (hv : (v == .none) = c) (hop : op = .Is ∨ op = .IsNot) {d : Bool} (hd : cmN op c = some d) (h : P (.bool d) s) : wpAny (model pr w) A (compareOp op v .none) P E s := by
 subst hv
 rcases hop with rfl | rfl
 ·obtain rfl := Option.some.inj hd; exact is_none_gen h
 ·obtain rfl := Option.some.inj hd; exact isnot_none_gen h
theorem cmN_ok {op : CmpOp} {a : AV} {c d : Bool} {Q : AV → Sy → Prop} (h : Q (.bool d) S) (hc : aEqN op a = some c) (hd : cmN op c = some d) : Sm2 F Is (compareOp op) a .none S Q := by
 rintro s ρ v u I hv rfl
 have fin : ∀ {d'}, cmN op c = some d' → Pt F.C Is Q s ρ (.bool d') s := fun e => by rw [hd] at e; obtain rfl := Option.some.inj e; exact Pg.same' I h rfl
 induction op with
 | Is =>
  refine isN (c := c) ?_ (.inl rfl) hd (fin hd)
  cases a <;> (first | contradiction | obtain rfl := Option.some.inj hc) <;> first | ((first | subst hv | cases hv); rfl) | (obtain ⟨t, rfl⟩ := hv; rfl) | (obtain ⟨t, _, rfl⟩ := hv; rfl)
 | IsNot =>
  refine isN (c := c) ?_ (.inr rfl) hd (fin hd)
  cases a <;> (first | contradiction | obtain rfl := Option.some.inj hc) <;> first | ((first | subst hv | cases hv); rfl) | (obtain ⟨t, rfl⟩ := hv; rfl) | (obtain ⟨t, _, rfl⟩ := hv; rfl)
 | Eq =>
  cases a <;> (first | contradiction | obtain rfl := Option.some.inj hc)
  ·subst hv; exact PySem.EqNone.eq_none_none (fin rfl)
  ·obtain ⟨t, rfl⟩ := hv; exact PySem.EqNone.eq_str_none (fin rfl)
 | _ => contradiction
theorem cm_ok {op : CmpOp} {a b : AV} {Q : AV → Sy → Prop} (h : cm F op a b S Q) : Sm2 F Is (compareOp op) a b S Q := by
 unfold cm at h
 cases hb : (aNone b) with
 | true =>
  rw [hb] at h
  cases hc : aEqN op a with
  | none => rw [hc] at h; exact (show Leaf _ from h).out
  | some c =>
   rw [hc] at h
   cases hd : cmN op c with
   | none => rw [Option.bind_some, hd] at h; exact (show Leaf _ from h).out
   | some d =>
    rw [Option.bind_some, hd] at h
    rw [aNone_eq hb]
    exact cmN_ok h hc hd
 | false =>
  rw [hb] at h
  exact either_ok (fun _ _ => cmI_ok) (fun _ _ => cmS_ok) h
noncomputable def tv (F : Fx) (a : AV) (S : Sy) (Q : Bool → Sy → Prop) : Prop :=
 match a with
 | .bool b => Q b S
 | .none => Q false S
 | .int i => Q (i != 0) S
 | .str x => Sd (x.length ≤ sizeLine) ∧ Q ((x.length : Int) != 0) S
 | a => Leaf (Sm1 F IsB truthy a S Q)
theorem tv_ok {a : AV} {Q : Bool → Sy → Prop} (h : tv F a S Q) : Sm1 F IsB truthy a S Q := by
 induction a with
 | bool b => rintro s ρ v I rfl; exact wpAny_truthy_bool (Pg.same' I h rfl)
 | none => rintro s ρ v I rfl; exact truthy_none (Pg.same' I h rfl)
 | int i => rintro s ρ v I ⟨t, rfl⟩; exact P.truthy_int (Pg.same' I h rfl)
 | str x => rintro s ρ v I ⟨t, rfl⟩; exact SBL.truthy (by have := h.1.out; rw [sizeLine_eq] at this; lia) (Pg.same I _ h.2 rfl)
 | _ => exact h.out
end
end
section
set_option tactic.hygienic true
structure Rec where
 ev : Expr → Sy → (AV → Sy → Prop) → Prop
 ea : Expr → Sy → (AV → Sy → Prop) → Prop
 vt : Expr → Sy → (Bool → Sy → Prop) → Prop
 xs : List Stmt → Sy → (Fl → Sy → Prop) → Prop
structure Rec.Ok (F : Fx) (r : Rec) : Prop where
 ev : ∀ {e S Q}, r.ev e S Q → SemE F e S Q
 ea : ∀ {e S Q}, r.ea e S Q → SemE F e S Q
 vt : ∀ {e S Q}, r.vt e S Q → SemT F e S Q
 xs : ∀ {l S Q}, r.xs l S Q → SemSs F l S Q
section
variable {F : Fx} {r : Rec} {S : Sy} {s : Shared} {ρ : List Addr}
theorem Sm.go {α β : Type} {R : Heap → (Addr → Prop) → List Addr → α → β → Prop} {t : Sem β} {Q : α → Sy → Prop} {P : β → Shared → Prop} (h : Sm F R t S Q) (I : Rx F.C S.fs S.own ρ s)
  (k : ∀ a S₁ b s₁ ρ₁, Q a S₁ → Rx F.C S₁.fs S₁.own ρ₁ s₁ → R s₁.heap F.C.bd ρ₁ a b → Ext F.C.bd s.heap ρ s₁.heap ρ₁ → P b s₁) :
  wpAny (model pr F.w) F.A t P F.E s := wp_tk I.tk (wpAny_mono (h s ρ I) (fun _ _ g ht => let ⟨a, S₁, ρ₁, q, i, x, y⟩ := g ht; k a S₁ _ _ ρ₁ q i x y) fun _ _ e => e)
theorem Sm.get {α β : Type} {R : Heap → (Addr → Prop) → List Addr → α → β → Prop} {t : Sem β} {Q : α → Sy → Prop} (h : Sm F R t S Q) (I : Rx F.C S.fs S.own ρ s) : wpAny (model pr F.w) F.A t (Pg F.C R Q s ρ) F.E s := wp_tk I.tk (h s ρ I)
theorem Sm1.go {β γ : Type} {R : Heap → (Addr → Prop) → List Addr → γ → β → Prop} {t : Value → Sem β} {Q : γ → Sy → Prop} {P : β → Shared → Prop} {a : AV} {v : Value} (h : Sm1 F R t a S Q) (I : Rx F.C S.fs S.own ρ s) (hv : Is s.heap F.C.bd ρ a v)
  (k : ∀ a S₁ b s₁ ρ₁, Q a S₁ → Rx F.C S₁.fs S₁.own ρ₁ s₁ → R s₁.heap F.C.bd ρ₁ a b → Ext F.C.bd s.heap ρ s₁.heap ρ₁ → P b s₁) :
  wpAny (model pr F.w) F.A (t v) P F.E s := wp_tk I.tk (wpAny_mono (h s ρ v I hv) (fun _ _ g ht => let ⟨a, S₁, ρ₁, q, i, x, y⟩ := g ht; k a S₁ _ _ ρ₁ q i x y) fun _ _ e => e)
theorem Sm2.go {β γ : Type} {R : Heap → (Addr → Prop) → List Addr → γ → β → Prop} {t : Value → Value → Sem β} {Q : γ → Sy → Prop} {P : β → Shared → Prop} {a b : AV} {v u : Value} (h : Sm2 F R t a b S Q) (I : Rx F.C S.fs S.own ρ s) (hv : Is s.heap F.C.bd ρ a v) (hu : Is s.heap F.C.bd ρ b u)
  (k : ∀ a S₁ b s₁ ρ₁, Q a S₁ → Rx F.C S₁.fs S₁.own ρ₁ s₁ → R s₁.heap F.C.bd ρ₁ a b → Ext F.C.bd s.heap ρ s₁.heap ρ₁ → P b s₁) :
  wpAny (model pr F.w) F.A (t v u) P F.E s := wp_tk I.tk (wpAny_mono (h s ρ v u I hv hu) (fun _ _ g ht => let ⟨a, S₁, ρ₁, q, i, x, y⟩ := g ht; k a S₁ _ _ ρ₁ q i x y) fun _ _ e => e)
theorem Sm.done {α β : Type} {R : Heap → (Addr → Prop) → List Addr → α → β → Prop} {t : Sem β} {Q : α → Sy → Prop} {s₀ : Shared} {ρ₀ : List Addr} (h : Sm F R t S Q) (I : Rx F.C S.fs S.own ρ s) (x : Ext F.C.bd s₀.heap ρ₀ s.heap ρ) :
  wpAny (model pr F.w) F.A t (Pt F.C R Q s₀ ρ₀) F.E s := Pt.wp_ext x (h s ρ I)
end
noncomputable def wk : AV → AV
 | .strk x _ => .str x
 | a => a
theorem wk_ok {h : Heap} {B : Addr → Prop} {ρ : List Addr} {a : AV} {v : Value} (x : Is h B ρ a v) : Is h B ρ (wk a) v := by
 unfold wk
 split
 ·exact ⟨_, x⟩
 ·exact x
noncomputable def nm (F : Fx) (x : Str) (S : Sy) (Q : AV → Sy → Prop) : Prop :=
 if x == ("__debug__" : Str) then False else
 match F.sc.names.lookup x with
 | some .local => (match getFs x S.fs with | some v => Q (wk v) S | none => False)
 | some .globalImplicit => (match F.gl x with | some v => Q v S | none => False)
 | _ => False
theorem nm_ok {F : Fx} (hF : F.Ok) {x : Str} {pos : Pos} {S : Sy} {Q : AV → Sy → Prop} (h : nm F x S Q) : SemE F (.Name x pos) S Q := by
 intro s ρ I
 unfold nm at h
 split at h
 ·exact h.elim
 rename_i hd
 have hd' : (x == ("__debug__" : Str)) = false := by simpa using hd
 split at h
 ·rename_i hk
  split at h
  ·rename_i v hv
   refine NsR.el (I.ns) fun m hn hf => ?_
   refine el12 (hf _ (getFs_mem hv) v rfl) fun v' e1 e2 => ?_
   refine wpAny_Name (wpAny_loadName_local (by rw [hF.sc]; exact hF.kind) (by unfold Env.kindOf; rw [hF.sc]; exact hk) hn e1 (Pg.same' I h (wk_ok e2))) hd'
  ·exact h.elim
 ·rename_i hk
  split at h
  ·rename_i v hv
   refine el12 (hF.gl x v s F.C.env rfl rfl I.up hv) fun v' e1 e2 => ?_
   exact Name_function_global (by rw [hF.sc]; exact hF.kind) (by unfold Env.kindOf; rw [hF.sc]; exact hk) (e2 _ _ _ (Pg.same' I h (e1 _ _ _))) hd'
  ·exact h.elim
 ·exact h.elim
noncomputable def putK (x : Str) (v : AV) : Fs → (Fs → Prop) → Prop
 | [], _ => False
 | (y, u) :: r, k => if y = x then k ((x, some v) :: r) else putK x v r fun r' => k ((y, u) :: r')
theorem putK_ok {x : Str} {v : AV} : ∀ {fs : Fs} {k : Fs → Prop}, putK x v fs k → ∃ fs', putFs x v fs = some fs' ∧ k fs'
 | [], _, h => h.elim
 | (y, u) :: r, k, h => by
  unfold putK at h
  unfold putFs
  by_cases e : y = x
  ·rw [if_pos e] at h ⊢; exact ⟨_, rfl, h⟩
  ·rw [if_neg e] at h ⊢
   refine el12 (putK_ok h) fun r' h1 h2 => ?_
   exact ⟨_, by rw [h1]; rfl, h2⟩
noncomputable def st (F : Fx) (x : Str) (v : AV) (S : Sy) (Q : Sy → Prop) : Prop :=
 match F.sc.names.lookup x with
 | some .local => (match S with | ⟨fs, own⟩ => putK x v fs fun fs' => Q ⟨fs', own⟩)
 | _ => False
theorem st_ok {F : Fx} (hF : F.Ok) {x : Str} {v : AV} {S : Sy} {Q : Sy → Prop} (h : st F x v S Q) {s : Shared} {ρ : List Addr} {v' : Value} {P : Unit → Shared → Prop} (I : Rx F.C S.fs S.own ρ s) (hv : Is s.heap F.C.bd ρ v v')
  (k : ∀ S₁ s₁, Q S₁ → Rx F.C S₁.fs S₁.own ρ s₁ → Ext F.C.bd s.heap ρ s₁.heap ρ → P () s₁) : wpAny (model pr F.w) F.A (storeName F.C.env x v') P F.E s := by
 unfold st at h
 split at h
 ·rename_i hk
  refine el12 (putK_ok h) fun fs' hp h => ?_
  ·refine NsR.el (I.ns) fun m hn hf => ?_
   exact wpAny_storeName_local (by unfold Env.kindOf; rw [hF.sc]; exact hk) hn (fun h' hn' hs => k _ _ h (I.store hp hv hf hn' hs _ (Nat.le_succ_of_le I.tk)) (Ext.keeps fun b o hb _ e => (hs.2 b fun q => hb (.inl q)).trans e)) (by rw [hF.sc, hF.kind]; rfl)
 ·exact h.elim
theorem sub_op (sl : Expr) {o i : Value} : ∃ vs, subscripted sl false o i = operate vs (getItem o i) := by
 apply Expr.casesOn (motive_1 := fun sl => ∃ vs, subscripted sl false o i = operate vs (getItem o i)) sl
 all_goals first
  | (intros; exact ⟨_, rfl⟩)
  | (intro a b c d; rcases c with _ | c; exact ⟨_, rfl⟩; exact ⟨_, rfl⟩)
theorem Sub_any {M : Model} {A : Around} {E : Value → Shared → Prop} {s : Shared} {env : Env} {pos : Pos} {Q : Value → Shared → Prop} {value sl : Expr}
  (h : wpAny M A (eval value env) (fun o s₁ => wpAny M A (eval sl env) (fun i s₂ => (∀ r, letTemporaryGo value o r = pure ()) ∧ ItemOn M A E o i Q s₂) E s₁) E s) :
  wpAny M A (eval (.Subscript value sl pos) env) Q E s := by
 rw [eval_Subscript]
 refine wpAny_bind (wpAny_mono h (fun o s₁ h₁ => wpAny_bind (wpAny_holding (wpAny_mono h₁ (fun i s₂ h₂ => wpAny_bind (wpAny_standAt ?_)) fun _ _ x => x)))
  fun _ _ x => x)
 obtain ⟨ht, T, id, hl, hT, hg⟩ := h₂
 refine wpAny_bind ?_
 rw [getitemInPython_of_ne hT.not_modules]
 refine wpAny_bind (wpAny_specialOf hT hl ?_)
 have fin : ∀ vs, wpAny M A (operate vs (getItem o i)) (fun r s₃ => wpAny M A (letTemporaryGo value o r >>= fun _ => pure r) Q E s₃) E s₂ := fun vs =>
  wpAny_operating (wpAny_mono hg (fun r s₃ h₃ => wpAny_bind (wpAny_of_eq (ht r) (wpAny_pure h₃))) fun _ _ x => x)
 refine wpAny_pure (wpAny_bind ?_)
 refine el11 (sub_op sl (o := o) (i := i)) fun vs e => ?_
 rw [e]
 exact fin vs
noncomputable def isNm : Expr → Bool
 | .Name .. => true
 | _ => false
theorem let_nm {value : Expr} (h : isNm value = true) (o r : Value) : letTemporaryGo value o r = pure () := by
 revert h
 apply Expr.casesOn (motive_1 := fun value => isNm value = true → letTemporaryGo value o r = pure ()) value
 all_goals first
  | (intros; rfl)
  | (intros; exact noff ‹_›)
theorem let_str {value : Expr} (x : Str) (t : Tok) (r : Value) : letTemporaryGo value (.str x t) r = pure () := by
 apply Expr.casesOn (motive_1 := fun value => letTemporaryGo value (.str x t) r = pure ()) value <;> (intros; rfl)
noncomputable def IsP : Option Int → Value → Prop
 | none, v => v = .none
 | some i, v => ∃ t, v = .int i t
noncomputable def sbI (F : Fx) (value : Expr) (a b : AV) (S : Sy) (Q : AV → Sy → Prop) : Prop :=
 match a, b with
 | .str x, .int i => Sd (-(x.length : Int) ≤ i ∧ i < x.length) ∧ Sd (x.length ≤ sizeLine) ∧ Q (.str (Txt.item x i)) S
 | a, b => gd (isNm value) (Leaf (∀ s ρ v u, Rx F.C S.fs S.own ρ s → Is s.heap F.C.bd ρ a v → Is s.heap F.C.bd ρ b u → ItemOn (model pr F.w) F.A F.E v u (Pt F.C Is Q s ρ) s))
theorem sbI_ok {F : Fx} {value : Expr} {a b : AV} {S : Sy} {Q : AV → Sy → Prop} (h : sbI F value a b S Q) {s : Shared} {ρ : List Addr} {v u : Value} (I : Rx F.C S.fs S.own ρ s) (hv : Is s.heap F.C.bd ρ a v) (hu : Is s.heap F.C.bd ρ b u) :
  (∀ r, letTemporaryGo value v r = pure ()) ∧ ItemOn (model pr F.w) F.A F.E v u (Pt F.C Is Q s ρ) s := by
 unfold sbI at h
 split at h
 ·obtain ⟨t, rfl⟩ := hv; obtain ⟨t', rfl⟩ := hu
  obtain ⟨⟨h1, h2⟩, ⟨h3⟩, h4⟩ := h
  exact ⟨let_str _ _, SBL.item h1 h2 (by rw [sizeLine_eq] at h3; lia) fun _ => Pg.same I _ h4 ⟨_, rfl⟩⟩
 ·exact ⟨let_nm (gd_ok h).1 _, (gd_ok h).2.out s ρ v u I hv hu⟩
noncomputable def pt (r : Rec) (e : Option Expr) (S : Sy) (Q : Option Int → Sy → Prop) : Prop :=
 match e with
 | none => Q none S
 | some e => r.ev e S fun a S₁ => match a with | .int i => Q (some i) S₁ | _ => False
noncomputable def sbS (F : Fx) (value : Expr) (a : AV) (l u : Option Int) (S : Sy) (Q : AV → Sy → Prop) : Prop :=
 match a with
 | .str x => Sd (x.length ≤ sizeLine) ∧ Q (.str (Txt.slice x l u)) S
 | a => gd (isNm value) (Leaf (∀ s ρ v lv uv, Rx F.C S.fs S.own ρ s → Is s.heap F.C.bd ρ a v → IsP l lv → IsP u uv →
   ItemOn (model pr F.w) F.A F.E v (.ref s.heap.objs.size) (Pt F.C Is Q s ρ) { s with heap := s.heap.push { cls := .type "slice", data := .fields #[lv, uv, .none] } }))
theorem slice_item {prog : Program} {w : World} {A : Around} {E : Value → Shared → Prop} {s : Shared} {x : Str} {t : Tok} {Q : Value → Shared → Prop} {l u : Option Int} {lv uv : Value} (hl : IsP l lv)
  (hu : IsP u uv) (hsz : x.length ≤ sizeLine) (h : ∀ h' t' k, (∀ b o, s.heap.get? b = some o → h'.get? b = some o) → Q (.str (Txt.slice x l u) t') { s with heap := h', toks := k }) :
  ItemOn (model prog w) A E (.str x t) (.ref s.heap.objs.size) Q { s with heap := s.heap.push { cls := .type "slice", data := .fields #[lv, uv, .none] } } := by
 have kk : KeptH (fun h => ∀ b o, s.heap.get? b = some o → h.get? b = some o) := fun _ ob h b o e => Heap.get?_push_of_some ob (h b o e)
 induction l with
 | none =>
  induction u with
  | none => subst hl; subst hu; exact SBH.sliceItem_nn kk (fun _ _ e => e) (fun h' t' k hk => h h' t' k hk) hsz
  | some j => subst hl; obtain ⟨_, rfl⟩ := hu; exact SBH.sliceItem_ns kk (fun _ _ e => e) (fun h' t' k hk => h h' t' k hk) hsz
 | some i =>
  induction u with
  | none => subst hu; obtain ⟨_, rfl⟩ := hl; exact SBH.sliceItem_sn kk (fun _ _ e => e) (fun h' t' k hk => h h' t' k hk) hsz
  | some j => obtain ⟨_, rfl⟩ := hl; obtain ⟨_, rfl⟩ := hu; exact SBH.sliceItem_ss kk (fun _ _ e => e) (fun h' t' k hk => h h' t' k hk) hsz
theorem sbS_ok {F : Fx} {value : Expr} {a : AV} {l u : Option Int} {S : Sy} {Q : AV → Sy → Prop} (h : sbS F value a l u S Q) {s : Shared} {ρ : List Addr} {v lv uv : Value} (I : Rx F.C S.fs S.own ρ s) (hv : Is s.heap F.C.bd ρ a v)
  (hl : IsP l lv) (hu : IsP u uv) :
  (∀ r, letTemporaryGo value v r = pure ()) ∧ ItemOn (model pr F.w) F.A F.E v (.ref s.heap.objs.size) (Pt F.C Is Q s ρ) { s with heap := s.heap.push { cls := .type "slice", data := .fields #[lv, uv, .none] } } := by
 unfold sbS at h
 split at h
 ·obtain ⟨t, rfl⟩ := hv
  exact ⟨let_str _ _, slice_item hl hu h.1.out fun h' t' k hk => Pg.grown I hk rfl rfl h.2 ⟨_, rfl⟩⟩
 ·exact ⟨let_nm (gd_ok h).1 _, (gd_ok h).2.out s ρ v lv uv I hv hl hu⟩
theorem pt_ok {F : Fx} {r : Rec} (ok : r.Ok F) {e : Option Expr} {S : Sy} {Q : Option Int → Sy → Prop} (h : pt r e S Q) {s : Shared} {ρ : List Addr} {P : Value → Shared → Prop} (I : Rx F.C S.fs S.own ρ s)
  (k : ∀ l S₁ v s₁ ρ₁, Q l S₁ → Rx F.C S₁.fs S₁.own ρ₁ s₁ → IsP l v → Ext F.C.bd s.heap ρ s₁.heap ρ₁ → P v s₁) :
  wpAny (model pr F.w) F.A (evalPart e F.C.env) P F.E s := by
 unfold pt at h
 induction e with
 | none => exact evalPart_none_step (k none S .none s ρ h I rfl Ext.refl)
 | some e =>
  refine evalPart_some_step (Sm.go (ok.ev h) I ?_)
  intro a S₁ v s₁ ρ₁ q I₁ hv x
  split at q
  ·exact k _ _ _ _ _ q I₁ hv x
  ·exact q.elim
noncomputable def ofD : Dt → AV
 | .none => .none
 | .bool b => .bool b
 | .int i => .int i
 | .str x => .str x
 | .strk x t => .strk x t
 | .tup ds => .dat (.tup ds)
 | .list ds => .dat (.list ds)
 | .rng n => .dat (.rng n)
noncomputable def toD1 : AV → Option Dt
 | .none => some .none
 | .bool b => some (.bool b)
 | .int i => some (.int i)
 | .str x => some (.str x)
 | .strk x t => some (.strk x t)
 | .dat d => some d
 | _ => none
noncomputable def toDs : List AV → Option (List Dt)
 | [] => some []
 | a :: r => (match toD1 a, toDs r with | some d, some ds => some (d :: ds) | _, _ => none)
theorem Is.ofD {h : Heap} {B : Addr → Prop} {ρ : List Addr} {v : Value} {d : Dt} (x : IsD (Frz h B ρ) v d) : Is h B ρ (ofD d) v := by
 cases x with
 | none => rfl
 | bool => rfl
 | int => exact ⟨_, rfl⟩
 | str => exact ⟨_, rfl⟩
 | strk => rfl
 | tup p q => exact IsD.tup p q
 | list p q => exact IsD.list p q
 | rng p => exact IsD.rng p
theorem toD1_ok {h : Heap} {B : Addr → Prop} {ρ : List Addr} {v : Value} {a : AV} {d : Dt} (e : toD1 a = some d) (x : Is h B ρ a v) : IsD (Frz h B ρ) v d := by
 induction a with
 | none => obtain rfl := Option.some.inj e; subst x; exact .none
 | bool => obtain rfl := Option.some.inj e; subst x; exact .bool _
 | int => obtain rfl := Option.some.inj e; obtain ⟨t, rfl⟩ := x; exact .int _ t
 | str => obtain rfl := Option.some.inj e; obtain ⟨t, rfl⟩ := x; exact .str _ t
 | strk => obtain rfl := Option.some.inj e; subst x; exact .strk _ _
 | dat => obtain rfl := Option.some.inj e; exact x
 | _ => contradiction
theorem toDs_ok {h : Heap} {B : Addr → Prop} {ρ : List Addr} {as : List AV} {vs : List Value} (x : IsL h B ρ as vs) : ∀ {ds : List Dt}, toDs as = some ds → IsDs (Frz h B ρ) vs ds := by
 unfold IsL at x
 induction x with
 | nil => intro ds e; obtain rfl := Option.some.inj e; exact .nil
 | cons x y ih =>
  intro ds e
  unfold toDs at e
  split at e
  ·rename_i d ds' e1 e2; obtain rfl := Option.some.inj e; exact .cons (toD1_ok e1 x) (ih e2)
  ·contradiction
theorem Rx.has {C : Cx} {fs : Fs} {own : List AO} {ρ : List Addr} {s : Shared} (I : Rx C fs own ρ s) {a : Addr} (ha : a ∈ ρ) : ∃ o, s.heap.get? a = some o := by
 refine el11 (List.getElem?_of_mem ha) fun i hi => ?_
 have hl : i < own.length := I.len ▸ (List.getElem?_eq_some_iff.mp hi).1
 refine Own1.el (I.mine i _ (List.getElem?_eq_getElem hl)) fun a' ob e1 e2 _ => ?_
 rw [hi] at e1; obtain rfl := Option.some.inj e1
 exact ⟨ob, e2⟩
theorem Pg.newDat {C : Cx} {S : Sy} {ρ : List Addr} {s : Shared} {Q : AV → Sy → Prop} {T : String} {vs : Array Value} {k n : Nat} {d : Dt} (I : Rx C S.fs S.own ρ s)
  (hd : ∀ h' : Heap, h'.get? s.heap.objs.size = some { cls := .type T, data := .seq vs n } → (∀ b o, s.heap.get? b = some o → h'.get? b = some o) → ¬ C.bd s.heap.objs.size → s.heap.objs.size ∉ ρ → IsD (Frz h' C.bd ρ) (.ref s.heap.objs.size) d) (h : Q (.dat d) S) :
  Pt C Is Q s ρ (.ref s.heap.objs.size) { s with heap := s.heap.push { cls := .type T, data := .seq vs n }, toks := k } := by
 refine NsR.el (I.ns) fun m hm _ => ?_
 have hno : s.heap.get? s.heap.objs.size = none := by
  cases q : s.heap.get? s.heap.objs.size with
  | none => rfl
  | some ob => exact absurd rfl (Nat.ne_of_lt (Heap.lt_size q))
 refine Pg.grown I (fun _ _ e => Heap.get?_push_of_some _ e) rfl rfl h (hd _ (Heap.get?_push_size _ rfl) (fun _ _ e => Heap.get?_push_of_some _ e) (fun q => ?_) fun q => ?_)
 ·rcases q with q | q
  ·exact Nat.lt_irrefl _ (q ▸ hm.lt)
  ·obtain ⟨o, e⟩ := I.old _ q; rw [hno] at e; contradiction
 ·obtain ⟨o, e⟩ := I.has q; rw [hno] at e; contradiction
theorem IsDs.a2 {P : Addr → Obj → Prop} {vs : List Value} : ∀ {ds : List Dt}, IsDs P vs ds → All2 (IsD P) vs ds := by
 induction vs with
 | nil => intro ds x; cases x; exact .nil
 | cons v r ih => intro ds x; cases x with | cons a b => exact .cons a (ih b)
theorem All2.ds {P : Addr → Obj → Prop} {vs : List Value} {ds : List Dt} (x : All2 (IsD P) vs ds) : IsDs P vs ds := by
 induction x with
 | nil => exact .nil
 | cons a _ ih => exact .cons a ih
theorem All2.get {α β : Type} {R : α → β → Prop} {as : List α} {bs : List β} (x : All2 R as bs) : ∀ (i : Nat) {a : α}, as[i]? = some a → ∃ b, bs[i]? = some b ∧ R a b := by
 induction x with
 | nil => intro i a h; simp at h
 | cons x y ih =>
  intro i a h
  induction i with
  | zero => simp at h; subst h; exact ⟨_, rfl, x⟩
  | succ i => simpa using ih i (by simpa using h)
theorem All2.swap {α β : Type} {R : α → β → Prop} {as : List α} {bs : List β} (x : All2 R as bs) : All2 (fun b a => R a b) bs as := by
 induction x with
 | nil => exact .nil
 | cons a _ ih => exact .cons a ih
theorem All2.take {α β : Type} {R : α → β → Prop} {as : List α} {bs : List β} (x : All2 R as bs) : ∀ n, All2 R (as.take n) (bs.take n) := by
 induction x with
 | nil => intro n; simp; exact .nil
 | cons a _ ih => intro n; induction n with
  | zero => exact .nil
  | succ n => exact .cons a (ih n)
theorem All2.append {α β : Type} {R : α → β → Prop} {as cs : List α} {bs ds : List β} (x : All2 R as bs) (y : All2 R cs ds) : All2 R (as ++ cs) (bs ++ ds) := by
 induction x with
 | nil => exact y
 | cons a _ ih => exact .cons a ih
theorem IsDs.length {P : Addr → Obj → Prop} {vs : List Value} {ds : List Dt} (x : IsDs P vs ds) : vs.length = ds.length := x.a2.length
theorem IsDs.get {P : Addr → Obj → Prop} {vs : List Value} {ds : List Dt} (x : IsDs P vs ds) (i : Nat) {v : Value} (h : vs[i]? = some v) : ∃ d, ds[i]? = some d ∧ IsD P v d := x.a2.get i h
theorem IsDs.at {P : Addr → Obj → Prop} {vs : List Value} {ds : List Dt} (x : IsDs P vs ds) (i : Nat) {d : Dt} (h : ds[i]? = some d) : ∃ v, vs[i]? = some v ∧ IsD P v d := x.a2.swap.get i h
theorem IsDs.take {P : Addr → Obj → Prop} {vs : List Value} {ds : List Dt} (x : IsDs P vs ds) (n : Nat) : IsDs P (vs.take n) (ds.take n) := (x.a2.take n).ds
theorem IsDs.append {P : Addr → Obj → Prop} {vs us : List Value} {ds es : List Dt} (x : IsDs P vs ds) (y : IsDs P us es) : IsDs P (vs ++ us) (ds ++ es) := (x.a2.append y.a2).ds
theorem Rx.allocExt {C : Cx} {fs : Fs} {own : List AO} {ρ : List Addr} {s : Shared} (I : Rx C fs own ρ s) (o : Obj) : Ext C.bd s.heap ρ (s.heap.push o) (ρ ++ [s.heap.objs.size]) := by
 refine ⟨⟨_, rfl⟩, fun a ob y => ⟨Heap.get?_push_of_some _ y.1, y.2.1, fun q => ?_⟩⟩
 rcases List.mem_append.mp q with q | q
 ·exact y.2.2 q
 ·rw [List.mem_singleton] at q
  exact absurd q (Nat.ne_of_lt (Heap.lt_size y.1))
noncomputable def noStar : Expr → Bool
 | .Starred .. => false
 | _ => true
noncomputable def as (r : Rec) : List Expr → Sy → (List AV → Sy → Prop) → Prop
 | [], S, Q => Q [] S
 | e :: rest, S, Q => gd (noStar e) (r.ea e S fun a S₁ => as r rest S₁ fun vs S₂ => Q (a :: vs) S₂)
theorem starEach_no {e : Expr} {rest : List Expr} {env : Env} (h : noStar e = true) : starEach (e :: rest) env = (false, eval e env) :: starEach rest env := by
 cases e <;> first | rfl | exact absurd h Bool.false_ne_true
theorem as_star {r : Rec} : ∀ {l : List Expr} {S : Sy} {Q : List AV → Sy → Prop} {F : Fx} (_ : r.Ok F) {pos : Pos} {s : Shared} {ρ : List Addr} {P : List Value → Shared → Prop}, as r l S Q → Rx F.C S.fs S.own ρ s →
  (∀ vs S₁ us s₁ ρ₁, Q vs S₁ → Rx F.C S₁.fs S₁.own ρ₁ s₁ → IsL s₁.heap F.C.bd ρ₁ vs us → Ext F.C.bd s.heap ρ s₁.heap ρ₁ → P us s₁) →
  wpAny (model pr F.w) F.A (spliced (backTo pos (starEach l F.C.env))) P F.E s
 | [], S, Q, F, _, pos, s, ρ, P, h, I, k => spliced_nil (k [] S [] s ρ h I .nil Ext.refl)
 | e :: rest, S, Q, F, ok, pos, s, ρ, P, hh, I, k => by
  refine el02 (gd_ok hh) fun hs h => ?_
  rw [starEach_no hs]
  refine spliced_cons (Sm.go (ok.ea h) I fun a S₁ v s₁ ρ₁ q I₁ hv x => ?_)
  refine as_star ok q I₁ fun vs S₂ us s₂ ρ₂ q₂ I₂ hvs x₂ => ?_
  exact k _ _ _ _ _ q₂ I₂ (.cons (hv.ext x₂) hvs) (x.trans x₂)
noncomputable def SmL (F : Fx) (f : AV) (as : List AV) (S : Sy) (Q : AV → Sy → Prop) : Prop :=
 ∀ s ρ fv vs, Rx F.C S.fs S.own ρ s → Is s.heap F.C.bd ρ f fv → IsL s.heap F.C.bd ρ as vs → wpAny (model pr F.w) F.A (call fv vs) (Pt F.C Is Q s ρ) F.E s
noncomputable def isMth : Option AO → Bool
 | some (.meth _ _) => true
 | _ => false
noncomputable def stB (own : List AO) : AV → Bool
 | .own j => isMth own[j]?
 | _ => true
theorem isMth_eq {o : Option AO} (h : isMth o = true) : ∃ k id, o = some (.meth k id) := by
 induction o with
 | none => contradiction
 | some o => cases o <;> first | exact ⟨_, _, rfl⟩ | contradiction
noncomputable def okR (F : Fx) (a : Addr) : Prop :=
 match clsA a with
 | true => True
 | false => (∃ o fd, F.C.keep a o ∧ o.data = .func fd) ∨ ∃ id b, F.C.keep a { cls := .type "builtin_function_or_method", data := .fields #[.builtin id, .ref b] }
theorem cls_keeps {F : Fx} (hF : F.Ok) {a : Addr} (h : clsA a = true) : ∃ K : Frag, (∀ b o, K.lookup b = some o → F.C.keep b o) ∧ keepIn K (.ref a) = true := by
 refine el12 (hF.cls.ex) fun K h1 h2 => ?_
 refine ⟨K, fun b o e => (hF.top _ _ (h1 b o e)).1, ?_⟩
 simp only [clsK, clsMk, clsSio, Bool.and_eq_true] at h2
 obtain ⟨⟨⟨⟨⟨⟨⟨⟨⟨⟨⟨⟨⟨⟨⟨⟨⟨a1, a2⟩, _⟩, _⟩, _⟩, _⟩, _⟩, _⟩, _⟩, _⟩, _⟩, _⟩, _⟩, _⟩, _⟩, _⟩, _⟩, _⟩ := h2.2.1.1.1.2
 unfold clsA at h
 rcases Bool.or_eq_true_iff.mp h with h | h
 ·rw [eq_of_beq h]; exact a1
 ·rw [eq_of_beq h]; exact a2
noncomputable def okF (F : Fx) (own : List AO) : AV → Prop
 | .blt _ => True
 | .typ _ => True
 | .own j => stB own (.own j) = true
 | .ref a => okR F a
 | _ => False
noncomputable def okB (own : List AO) : AV → Bool
 | .blt _ => true
 | .typ _ => true
 | .own j => stB own (.own j)
 | .ref a => clsA a
 | _ => false
noncomputable def okG (F : Fx) (own : List AO) (f : AV) (P : Prop) : Prop := Bool.rec (motive := fun _ => Prop) (okF F own f ∧ P) P (okB own f)
theorem okG_ok {F : Fx} {own : List AO} {f : AV} {P : Prop} (h : okG F own f P) : okF F own f ∧ P := by
 unfold okG at h
 cases e : okB own f with
 | false => rw [e] at h; exact h
 | true =>
  rw [e] at h
  refine ⟨?_, h⟩
  induction f with
  | ref a => show okR F a; unfold okR; rw [show clsA a = true from e]; trivial
  | own j => exact e
  | blt _ => trivial
  | typ _ => trivial
  | _ => contradiction
theorem callWith_bm {M : Model} {A : Around} {E : Value → Shared → Prop} {s : Shared} {pos : Pos} {u : Addr} {first : List Value} {args : List (Bool × Sem Value)} {Q : Value → Shared → Prop} (hplain : args.any (·.1) = false)
  (h : wpAny M A (evalArgs (.ref u) true args []) (fun x s₁ => (∃ id a, s₁.heap.get? u = some { cls := .type "builtin_function_or_method", data := .fields #[.builtin id, .ref a] }) ∧ wpAny M A (call (.ref u) (first ++ x.pos) x.kw) Q E s₁) E s) : wpAny M A (callWith pos (.ref u) first args []) Q E s := by
 unfold callWith
 refine wpAny_bind (wpAny_holding (wpAny_mono h (fun x s₁ h₁ => wpAny_bind (wpAny_standAt ?_)) fun _ _ x => x))
 obtain ⟨⟨id, a, ho⟩, hcall⟩ := h₁
 simp only [hplain, List.any_nil, Bool.or_false]
 refine wpAny_bind (m := keeperOf (.ref u)) ?_
 unfold keeperOf
 refine wpAny_bind (wpAny_load ho ?_)
 simp only [show (Value.type "builtin_function_or_method" != Value.type "method") = true by decide, show (Value.type "builtin_function_or_method" == Value.type "builtin_function_or_method" || Value.type "builtin_function_or_method" == Value.type "method-wrapper") = true by decide, if_true]
 refine wpAny_pure ?_
 exact wpAny_bind (wpAny_mono hcall (fun r s₂ hr => wpAny_bind (wpAny_holding (wpAny_point (wpAny_pure hr)))) fun _ _ x => x)
noncomputable def lenOf (f : AV) (vs : List AV) : Option Str :=
 match f with
 | .blt id => (match vs with
  | [] => none
  | a :: r => if id = "len" then (match r with | [] => aStr a | _ :: _ => none) else none)
 | _ => none
theorem lenOf_eq {f : AV} {vs : List AV} {x : Str} (h : lenOf f vs = some x) : f = .blt "len" ∧ vs = [.str x] := by
 induction f with
 | blt id =>
  induction vs with
  | nil => contradiction
  | cons a r =>
   unfold lenOf at h
   by_cases e : id = "len"
   ·subst e
    induction r with
    | nil => exact ⟨rfl, by rw [aStr_eq (a := a) (by simpa using h)]⟩
    | cons _ _ => simp at h
   ·simp [e] at h
 | _ => contradiction
noncomputable def cl (F : Fx) (f : AV) (vs : List AV) (S : Sy) (Q : AV → Sy → Prop) : Prop :=
 match lenOf f vs with
 | some x => Sd (x.length ≤ sizeLine) ∧ Q (.int x.length) S
 | none => Leaf (SmL F f vs S Q)
theorem cl_ok {F : Fx} {f : AV} {vs : List AV} {S : Sy} {Q : AV → Sy → Prop} (h : cl F f vs S Q) : SmL F f vs S Q := by
 unfold cl at h
 cases e : lenOf f vs with
 | none => rw [e] at h; exact h.out
 | some x =>
  rw [e] at h
  obtain ⟨rfl, rfl⟩ := lenOf_eq e
  rintro s ρ fv vs I rfl hvs
  cases hvs with
  | cons hv hn =>
   cases hn
   obtain ⟨t, rfl⟩ := hv
   exact SBL.len (by have := h.1.out; rw [sizeLine_eq] at this; lia) (Pg.same I _ h.2 ⟨_, rfl⟩)
theorem any_star {pos : Pos} {env : Env} : ∀ {l : List Expr}, (l.all noStar = true) → (backTo pos (starEach l env)).any (·.1) = false
 | [], _ => rfl
 | e :: rest, h => by
  rw [List.all_cons, Bool.and_eq_true] at h
  rw [starEach_no h.1]
  show (false || (backTo pos (starEach rest env)).any (·.1)) = false
  rw [any_star h.2]; rfl
noncomputable def callN (F : Fx) (r : Rec) (f : Expr) (args : List Expr) (S : Sy) (Q : AV → Sy → Prop) : Prop :=
 gd (isNm f && args.all noStar) (r.ev f S fun fv S₁ => okG F S₁.own fv (as r args S₁ fun vs S₂ => gd (stB S₂.own fv) (cl F fv vs S₂ Q)))
theorem evalArgs_any {F : Fx} {r : Rec} (ok : r.Ok F) {f : Value} {l : List Expr} {pos : Pos} {S : Sy} {Q : List AV → Sy → Prop} {s : Shared} {ρ : List Addr} {P : Args → Shared → Prop} (hs : l.all noStar = true) (h : as r l S Q) (I : Rx F.C S.fs S.own ρ s)
  (k : ∀ vs S₁ us s₁ ρ₁, Q vs S₁ → Rx F.C S₁.fs S₁.own ρ₁ s₁ → IsL s₁.heap F.C.bd ρ₁ vs us → Ext F.C.bd s.heap ρ s₁.heap ρ₁ → P ⟨us, []⟩ s₁) :
  wpAny (model pr F.w) F.A (evalArgs f true (backTo pos (starEach l F.C.env)) []) P F.E s := by
 induction l with
 | nil => exact evalArgs_nil3 (k [] S [] s ρ h I .nil Ext.refl)
 | cons e rest =>
  have h' := as_star ok (pos := pos) (P := fun us s' => P ⟨us, []⟩ s') h I k
  rw [List.all_cons, Bool.and_eq_true] at hs
  rw [starEach_no hs.1] at h' ⊢
  exact evalArgs_plain h'
theorem callN_ok {F : Fx} (hF : F.Ok) {r : Rec} (ok : r.Ok F) {f : Expr} {args : List Expr} {pos : Pos} {S : Sy} {Q : AV → Sy → Prop} (h : callN F r f args S Q) : SemE F (.Call f args [] pos) S Q := by
 refine el02 (gd_ok h) fun hfs h => ?_
 refine el02 (Bool.and_eq_true_iff.mp hfs) fun hf hs => ?_
 intro s ρ I
 obtain ⟨x, p, rfl⟩ : ∃ x p, f = .Name x p := by
  cases f <;> first | (exact ⟨_, _, rfl⟩) | (exact Bool.noConfusion hf)
 refine Call_Name rfl (Sm.go (ok.ev h) I fun fv S₁ f' s₁ ρ₁ q I₁ hv x₁ => ?_)
 refine el02 (okG_ok q) fun hok q => ?_
 induction fv with
 | blt id =>
  subst hv
  refine callWith_builtin (any_star hs) (evalArgs_any ok hs q I₁ fun vs S₂ us s₂ ρ₂ q₂ I₂ hvs x₂ => ?_)
  exact Pt.wp_ext (x₁.trans x₂) (cl_ok (gd_ok q₂).2 s₂ ρ₂ _ us I₂ rfl hvs)
 | typ T =>
  subst hv
  refine PySem.callWith_type (any_star hs) (evalArgs_any ok hs q I₁ fun vs S₂ us s₂ ρ₂ q₂ I₂ hvs x₂ => ?_)
  exact Pt.wp_ext (x₁.trans x₂) (cl_ok (gd_ok q₂).2 s₂ ρ₂ _ us I₂ rfl hvs)
 | ref a =>
  subst hv
  change okR F a at hok
  unfold okR at hok
  split at hok
  ·rename_i ha
   refine el12 (cls_keeps hF ha) fun K hK hk => ?_
   refine callWith_of (P := fun h => K.In h) (by rw [any_star hs]; rfl) (keeps_K hk) (evalArgs_any ok hs q I₁ fun vs S₂ us s₂ ρ₂ q₂ I₂ hvs x₂ => ?_)
   exact ⟨fun b o e => I₂.up b o (hK b o e), Pt.wp_ext (x₁.trans x₂) (cl_ok (gd_ok q₂).2 s₂ ρ₂ _ us I₂ rfl hvs)⟩
  rcases hok with ⟨o, fd, ho, hd⟩ | ⟨id, b, ho⟩
  rotate_left
  ·refine callWith_bm (any_star hs) (evalArgs_any ok hs q I₁ fun vs S₂ us s₂ ρ₂ q₂ I₂ hvs x₂ => ?_)
   exact ⟨⟨id, b, I₂.up _ _ ho⟩, Pt.wp_ext (x₁.trans x₂) (cl_ok (gd_ok q₂).2 s₂ ρ₂ _ us I₂ rfl hvs)⟩
  refine callWith_function (o := o) (fd := fd) (evalArgs_any ok hs q I₁ fun vs S₂ us s₂ ρ₂ q₂ I₂ hvs x₂ => ?_)
  exact ⟨⟨I₂.up _ _ ho, hd⟩, Pt.wp_ext (x₁.trans x₂) (cl_ok (gd_ok q₂).2 s₂ ρ₂ _ us I₂ rfl hvs)⟩
 | own j =>
  obtain ⟨u, hu, rfl⟩ := hv
  refine callWith_bm (any_star hs) (evalArgs_any ok hs q I₁ fun vs S₂ us s₂ ρ₂ q₂ I₂ hvs x₂ => ?_)
  have hu₂ : ρ₂[j]? = some u := by
   obtain ⟨t, rfl⟩ := x₂.1
   rw [List.getElem?_append_left (List.getElem?_eq_some_iff.mp hu).1]; exact hu
  refine ⟨?_, Pt.wp_ext (x₁.trans x₂) (cl_ok (gd_ok q₂).2 s₂ ρ₂ _ us I₂ ⟨u, hu₂, rfl⟩ hvs)⟩
  refine el21 (isMth_eq (gd_ok q₂).1) fun k id hj => ?_
  obtain ⟨c, oc, g1, g2, b, hb, rfl⟩ := I₂.mine j _ hj
  rw [hu₂] at g1; obtain rfl := Option.some.inj g1
  exact ⟨id, b, g2⟩
 | _ => exact hok.elim
end
section
open PySem.Builtin PySem.Builtin.ObjectAttr
noncomputable def aoInst : AO → Option (Addr × Nat)
 | .inst c d => some (c, d)
 | _ => none
noncomputable def aoDict : AO → Option (List (Str × AV))
 | .dict es => some es
 | _ => none
noncomputable def aOwn : AV → Option Nat
 | .own k => some k
 | _ => none
noncomputable def instOf (own : List AO) (a : AV) : Option (Addr × Nat × List (Str × AV)) :=
 (aOwn a).bind fun k => (own[k]?).bind fun o => (aoInst o).bind fun p => (own[p.2]?).bind fun o' => (aoDict o').bind fun es => some (p.1, p.2, es)
theorem instOf_eq {own : List AO} {a : AV} {c : Addr} {d : Nat} {es : List (Str × AV)} (h : instOf own a = some (c, d, es)) : ∃ k, a = .own k ∧ own[k]? = some (.inst c d) ∧ own[d]? = some (.dict es) := by
 unfold instOf at h
 refine el12 (Option.bind_eq_some_iff.mp h) fun k h1 h => ?_
 refine el12 (Option.bind_eq_some_iff.mp h) fun o h2 h => ?_
 refine el12 (Option.bind_eq_some_iff.mp h) fun p h3 h => ?_
 refine el12 (Option.bind_eq_some_iff.mp h) fun o' h4 h => ?_
 refine el12 (Option.bind_eq_some_iff.mp h) fun es' h5 h => ?_
 cases h
 have e1 : a = .own k := by cases a <;> (first | contradiction | obtain rfl := Option.some.inj h1); rfl
 have e2 : o = .inst p.1 p.2 := by cases o <;> (first | contradiction | obtain rfl := Option.some.inj h3); rfl
 have e3 : o' = .dict es := by cases o' <;> (first | contradiction | obtain rfl := Option.some.inj h5); rfl
 subst e1 e2 e3
 exact ⟨k, rfl, h2, h4⟩
noncomputable def getE (n : Str) : List (Str × AV) → Option AV
 | [] => none
 | p :: r => if p.1 = n then some p.2 else getE n r
noncomputable def putE (n : Str) (v : AV) : List (Str × AV) → List (Str × AV)
 | [] => [(n, v)]
 | p :: r => if p.1 = n then (n, v) :: r else p :: putE n v r
noncomputable def short : Nat → List (Str × AV) → Bool
 | _, [] => true
 | 0, _ :: _ => false
 | n + 1, _ :: r => short n r
theorem short_le : ∀ {n : Nat} {l : List (Str × AV)}, short n l = true → l.length ≤ n
 | _, [], _ => Nat.zero_le _
 | 0, _ :: _, h => absurd h Bool.false_ne_true
 | _ + 1, _ :: _, h => Nat.succ_le_succ (short_le h)
theorem getE_some {n : Str} {v : AV} : ∀ {es : List (Str × AV)}, getE n es = some v → (n, v) ∈ es
 | [], h => by contradiction
 | p :: r, h => by
  unfold getE at h
  split at h
  ·rename_i e; obtain rfl := Option.some.inj h; subst e; exact List.mem_cons_self
  ·exact List.mem_cons_of_mem _ (getE_some h)
theorem getE_none {n : Str} : ∀ {es : List (Str × AV)}, getE n es = none → n ∉ es.map (·.1)
 | [], _ => by simp
 | p :: r, h => by
  unfold getE at h
  split at h
  ·contradiction
  ·rename_i e
   rw [List.map_cons, List.mem_cons, not_or]
   exact ⟨fun q => e q.symm, getE_none h⟩
theorem putE_spec {n : Str} {v : AV} : ∀ {es : List (Str × AV)}, (es.map (·.1)).Nodup → ((putE n v es).map (·.1)).Nodup ∧ (∀ p ∈ putE n v es, p = (n, v) ∨ (p ∈ es ∧ p.1 ≠ n)) ∧ (∀ x, x ∈ (putE n v es).map (·.1) ↔ x = n ∨ x ∈ es.map (·.1)) ∧
  (n ∈ es.map (·.1) → (putE n v es).length = es.length) ∧ (n ∉ es.map (·.1) → (putE n v es).length = es.length + 1)
 | [], _ => by simp [putE]
 | q :: r, nd => by
  rw [List.map_cons, List.nodup_cons] at nd
  unfold putE
  by_cases e : q.1 = n
  ·rw [if_pos e]
   subst e
   refine ⟨by simpa using nd, fun p hp => ?_, fun x => by simp, fun _ => rfl, fun h => absurd (List.mem_cons_self) h⟩
   rcases List.mem_cons.mp hp with rfl | hp
   ·exact .inl rfl
   ·exact .inr ⟨List.mem_cons_of_mem _ hp, fun q' => nd.1 (q' ▸ List.mem_map_of_mem hp)⟩
  ·rw [if_neg e]
   refine el05 (putE_spec (n := n) (v := v) nd.2) fun i1 i2 i3 i4 i5 => ?_
   refine ⟨?_, fun p hp => ?_, fun x => ?_, fun h => ?_, fun h => ?_⟩
   ·rw [List.map_cons, List.nodup_cons]
    exact ⟨fun h => ((i3 _).mp h).elim e nd.1, i1⟩
   ·rcases List.mem_cons.mp hp with rfl | hp
    ·exact .inr ⟨List.mem_cons_self, e⟩
    ·exact (i2 p hp).imp id fun h => ⟨List.mem_cons_of_mem _ h.1, h.2⟩
   ·rw [List.map_cons, List.mem_cons, i3, List.map_cons, List.mem_cons]
    exact ⟨fun h => h.elim (fun h => .inr (.inl h)) fun h => h.elim .inl fun h => .inr (.inr h), fun h => h.elim (fun h => .inr (.inl h)) fun h => h.elim .inl fun h => .inr (.inr h)⟩
   ·rw [List.map_cons, List.mem_cons] at h
    rw [List.length_cons, List.length_cons, i4 (h.resolve_left fun q' => e q'.symm)]
   ·rw [List.map_cons, List.mem_cons, not_or] at h
    rw [List.length_cons, List.length_cons, i5 h.2]
section
variable {F : Fx} {S : Sy} {s : Shared} {ρ : List Addr}
theorem Fx.Ok.frag (hF : F.Ok) (I : Rx F.C S.fs S.own ρ s) : ∃ K : Frag, K.In s.heap ∧ clsK K = true := by
 refine el12 (hF.cls.ex) fun K h1 h2 => ?_
 exact ⟨K, fun a o e => I.up _ _ (hF.top _ _ (h1 a o e)).1, h2⟩
structure InstS (F : Fx) (s : Shared) (ρ : List Addr) (c : Addr) (d : Nat) (es : List (Str × AV)) (x dx : Addr) (od : Obj) (xs : Array DictEntry) (n : Nat) (m : Str → Option Value) : Prop where
 hx : ρ[d]? = some dx
 ho : s.heap.get? dx = some od
 hd : od.data = .dict xs n
 hk : StrKeys xs
 hm : ∀ y, nsFind xs y = m y
 hz : xs.size ≤ es.length
 cl : od.cls = .type "dict"
 ev : ∀ p ∈ es, ∃ v, m p.1 = some v ∧ Is s.heap F.C.bd ρ p.2 v
 no : ∀ y, y ∉ es.map (·.1) → m y = none
 nd : (es.map (·.1)).Nodup
 ia : InstAt s.heap x (instObj c dx) c (some od)
inductive InstE (F : Fx) (s : Shared) (ρ : List Addr) (c : Addr) (d : Nat) (es : List (Str × AV)) (v : Value) : Prop
 | mk (x dx : Addr) (od : Obj) (xs : Array DictEntry) (n : Nat) (m : Str → Option Value) (hv : v = .ref x) (X : InstS F s ρ c d es x dx od xs n m) : InstE F s ρ c d es v
theorem inst_facts (I : Rx F.C S.fs S.own ρ s) {a : AV} {v : Value} {c : Addr} {d : Nat} {es : List (Str × AV)} (h : instOf S.own a = some (c, d, es)) (hv : Is s.heap F.C.bd ρ a v) : InstE F s ρ c d es v := by
 obtain ⟨k, rfl, h1, h2⟩ := instOf_eq h
 obtain ⟨x, hx, rfl⟩ := hv
 obtain ⟨x', ox, e1, e2, dx, hdx, rfl⟩ := I.mine k _ h1
 rw [hx] at e1; obtain rfl := Option.some.inj e1
 obtain ⟨dx', od, e3, e4, m, ⟨xs, n, g1, g2, g3, g4⟩, g5, g6, g7, g8⟩ := I.mine d _ h2
 rw [hdx] at e3; obtain rfl := Option.some.inj e3
 exact ⟨x, dx, od, xs, n, m, rfl, hdx, e4, g1, g2, g3, g4, g5, g6, g7, g8, e2, rfl, rfl, e4⟩
theorem noRefK {xs : Array DictEntry} (hk : StrKeys xs) : xs.any (·.refKey) = false := by
 rw [Array.any_eq_false']; intro e he; obtain ⟨n, t, h⟩ := hk e he; simp [DictEntry.refKey, h]
theorem lookIn_of {o : Obj} {xs : Array DictEntry} {n : Nat} (hd : o.data = .dict xs n) (hk : StrKeys xs) (y : Str) : lookIn y o = some (nsFind xs y) := by
 unfold lookIn nsFind findBy
 rw [hd]
 dsimp only
 rw [← Array.find?_toList]
 cases e : xs.toList.find? (·.key.isStr y) with
 | none =>
  have := noRefK hk
  rw [← Array.any_toList] at this
  rw [this]; rfl
 | some _ => rfl
theorem clsPl_of {K : Frag} {c : Addr} (h : clsPl K c = true) : findIn K (.ref c) "__getattribute__" = some (some (.builtin "object.__getattribute__")) ∧ findIn K (.ref c) "__getattr__" = some none ∧ findIn K (.ref c) "__setattr__" = some (some (.builtin "object.__setattr__")) ∧ plainOver K c = true ∧ ∃ cd, clsIn K c = some cd ∧ cd.hasDict = true := by
 simp only [clsPl, Bool.and_eq_true, beq_iff_eq] at h
 exact ⟨h.1.1.1.1, h.1.1.1.2, h.1.1.2, h.1.2, any_some h.2⟩
noncomputable def okV : AV → Bool
 | .blt _ => false
 | _ => true
theorem okV_ok {h : Heap} {B : Addr → Prop} {ρ : List Addr} {a : AV} {v : Value} (e : okV a = true) (x : Is h B ρ a v) : handedIn v = true := by
 induction a with
 | blt => exact absurd e Bool.false_ne_true
 | dat d => cases x <;> rfl
 | int => obtain ⟨t, rfl⟩ := x; rfl
 | str => obtain ⟨t, rfl⟩ := x; rfl
 | own => obtain ⟨t, _, rfl⟩ := x; rfl
 | _ => subst x; rfl
noncomputable def atV (own : List AO) (a : AV) (n : Str) : Option AV :=
 (instOf own a).bind fun p => match iN p.1 n with
  | true => (getE n p.2.2).bind fun v => if okV v then some v else none
  | false => none
noncomputable def «at» (F : Fx) (a : AV) (n : Str) (S : Sy) (Q : AV → Sy → Prop) : Prop :=
 match atV S.own a n with
 | some v => Q (wk v) S
 | none => Leaf (Sm1 F Is (fun u => getAttr u n true) a S Q)
theorem at_ok (hF : F.Ok) {a : AV} {n : Str} {Q : AV → Sy → Prop} (h : «at» F a n S Q) : Sm1 F Is (fun u => getAttr u n true) a S Q := by
 unfold «at» at h
 cases e : atV S.own a n with
 | none => rw [e] at h; exact h.out
 | some av =>
  rw [e] at h
  intro s ρ v I hv
  unfold atV at e
  obtain ⟨⟨c, d, es⟩, e1, e⟩ := Option.bind_eq_some_iff.mp e
  dsimp only at e
  cases hi : iN c n with
  | false => rw [hi] at e; contradiction
  | true =>
   rw [hi] at e
   refine el12 (Option.bind_eq_some_iff.mp e) fun av' e2 e => ?_
   split at e
   ·rename_i hok
    obtain rfl := Option.some.inj e
    obtain ⟨x, dx, od, xs, nn, m, rfl, X⟩ := inst_facts I e1 hv
    refine el12 (hF.frag I) fun K hK hc => ?_
    refine el02 (clsK_inst hc hi) fun c1 c2 => ?_
    obtain ⟨p1, p2, p3, p4, cd, p5, p6⟩ := clsPl_of c1
    refine el12 (X.ev _ (getE_some e2)) fun v' q1 q2 => ?_
    have hf : findObj K c (some od) n = some (.value v') := by
     unfold findObj W.ownOf
     rw [p5, Option.bind_some, c2]
     simp [p6, lookIn_of X.hd X.hk, X.hm, q1]
    exact get_value hK X.ia p1 hf (okV_ok hok q2) (Pg.same I _ h (wk_ok q2))
   ·contradiction
noncomputable def atP (own : List AO) (a : AV) (n : Str) (v : AV) : Option (Nat × List (Str × AV)) :=
 (instOf own a).bind fun p => match iN p.1 n && short 100 p.2.2 with
  | true => some (p.2.1, putE n v p.2.2)
  | false => none
noncomputable def stA (_F : Fx) (a : AV) (n : Str) (v : AV) (S : Sy) (Q : Sy → Prop) : Prop :=
 match atP S.own a n v with
 | some (d, es) => (match S with | ⟨fs, own⟩ => Q ⟨fs, own.set d (.dict es)⟩)
 | none => False
theorem stA_ok (hF : F.Ok) {a av : AV} {n : Str} {Q : Sy → Prop} (h : stA F a n av S Q) {u v : Value} {P : Unit → Shared → Prop} (I : Rx F.C S.fs S.own ρ s) (hu : Is s.heap F.C.bd ρ a u) (hv : Is s.heap F.C.bd ρ av v)
  (k : ∀ S₁ s₁, Q S₁ → Rx F.C S₁.fs S₁.own ρ s₁ → Ext F.C.bd s.heap ρ s₁.heap ρ → P () s₁) : wpAny (model pr F.w) F.A (setAttr u n v) P F.E s := by
 unfold stA at h
 cases e : atP S.own a n av with
 | none => rw [e] at h; exact h.elim
 | some q =>
  obtain ⟨d', es'⟩ := q
  rw [e] at h
  unfold atP at e
  obtain ⟨⟨c, d, es⟩, e1, e⟩ := Option.bind_eq_some_iff.mp e
  dsimp only at e
  cases hi : iN c n && short 100 es with
  | false => rw [hi] at e; contradiction
  | true =>
   rw [hi] at e
   cases e
   refine el02 (Bool.and_eq_true_iff.mp hi) fun hi hsh => ?_
   have hlen := short_le hsh
   obtain ⟨x, dx, od, xs, nn, m, rfl, X⟩ := inst_facts I e1 hu
   refine el12 (hF.frag I) fun K hK hc => ?_
   refine el02 (clsK_inst hc hi) fun c1 c2 => ?_
   obtain ⟨p1, p2, p3, p4, cd, p5, p6⟩ := clsPl_of c1
   refine el13 (instOf_eq e1) fun _ _ _ hd => ?_
   refine el05 (putE_spec (n := n) (v := av) X.nd) fun sp1 sp2 sp3 sp4 sp5 => ?_
   refine set_plain hK X.ia p3 (osa_open (s := { s with toks := s.toks + 1 }) hK X.ia p4 (r := none) (by unfold takerIn; rw [c2]; rfl) fun b => ?_)
   refine wpAny_bind (wpAny_pure (wpAny_bind (wpAny_bind (wpAny_loadPart X.ia.at_ (wpAny_bind (Looks.here (s := { s with toks := s.toks + 1 }) (looks_clsIn hK p5) ?_))))))
   rw [p6]
   refine wpAny_pure (a := some dx) (wpAny_bind (wpAny_pure (wpAny_bind ?_)))
   unfold nsSet
   refine wpAny_bind (wpAny_bind (wpAny_askSetting (wpAny_pure (wpAny_bind (wpAny_mkText (wpAny_bind (wpAny_loadPart (o := od) X.ho ?_)))))))
   rw [X.hd]
   dsimp only
   rw [aRefKeyMayBeTheName_at, noRefK X.hk, Bool.and_false]
   refine wpAny_updatePart X.ho ?_
   have fin : ∀ (R : Result → Shared → Prop) (od' : Obj) (xs' : Array DictEntry) (n' : Nat), (∀ s', P () s' → R (.ok (.ret .none)) s') → Obj.putName n (PyData.keyHash F.w.params n) (.str n (s.toks + 1)) v od = od' → od'.data = .dict xs' n' → od'.cls = .type "dict" → StrKeys xs' → (∀ y, nsFind xs' y = if y = n then some v else m y) → xs'.size ≤ (putE n av es).length →
     wpAny (model pr F.w) F.A.in1 (lookBehind dx (some (.str n 0)) >>= fun _ => ret .none) (fun fin s' => match fin with | .done f => R (.ok f) s' | .again c' => c'.quiet = true ∧ codeAny (model pr F.w) F.A c' R s') (fun e s' => R (.error e) s')
      { s with heap := s.heap.update dx (Obj.putName n (PyData.keyHash F.w.params n) (.str n (s.toks + 1)) v), toks := s.toks + 1 + 1 } := by
    intro R od' xs' n' hR h1 h2 h3 h4 h5 h6
    have hfr : od'.isFreed = false := by obtain ⟨_, _, dd, _⟩ := od'; subst h2; rfl
    have hdl : d' < S.own.length := (List.getElem?_eq_some_iff.mp hd).1
    have hsame : Heap.SameBut dx s.heap (s.heap.update dx (Obj.putName n (PyData.keyHash F.w.params n) (.str n (s.toks + 1)) v)) := Heap.SameBut.update ..
    have hmem : dx ∈ ρ := List.mem_of_getElem? X.hx
    have kp : ∀ b ob, ¬ F.C.bd b → b ∉ ρ → s.heap.get? b = some ob → (s.heap.update dx (Obj.putName n (PyData.keyHash F.w.params n) (.str n (s.toks + 1)) v)).get? b = some ob := fun b ob _ hb e => (hsame.2 b fun q => hb (q ▸ hmem)).trans e
    have I' := I.update (k := d') (ao := .dict (putE n av es)) hdl X.hx X.ho h1 hfr ⟨_, ⟨xs', n', h2, h4, h5, h6⟩, h3, fun p hp => ?_, fun y hy => ?_, sp1⟩ (s.toks + 1 + 1) (Nat.le_succ_of_le (Nat.le_succ_of_le I.tk))
    ·refine wpAny_bind (wpAny_lookBehind (o := od') ?_ (by rw [h2]; exact pastItsLine_dict (by
      have : (putE n av es).length ≤ es.length + 1 := by
       by_cases q : n ∈ es.map (·.1)
       ·rw [sp4 q]; exact Nat.le_succ _
       ·rw [sp5 q]; exact Nat.le_refl _
      rw [sizeLine_eq]; exact nl3 [_, _, _] vr0 vr1 vr1 (.add vr2 (.num 1)) vr2 (.num 100) vr0 (.add (.num 16777216) (.num 1)) rfl h6 this hlen)) ?_)
     ·rw [← h1]; exact Heap.get?_update_self _ X.ho (by rw [h1]; exact hfr)
     ·refine wpAny_pure ?_
      exact hR _ (k ⟨S.fs, S.own.set d' (.dict (putE n av es))⟩ _ h I' (Ext.keeps kp))
    ·rcases sp2 p hp with rfl | ⟨q1, q2⟩
     ·exact ⟨v, if_pos rfl, hv.keeps kp⟩
     ·refine el12 (X.ev p q1) fun v' r1 r2 => ?_
      exact ⟨v', by rw [if_neg q2]; exact r1, r2.keeps kp⟩
    ·rw [sp3, not_or] at hy
     rw [if_neg hy.1]; exact X.no y hy.2
   obtain ⟨oc, odd, oda, osl⟩ := od
   have hdd := X.hd
   have hcl := X.cl
   dsimp only at hdd hcl
   subst hdd hcl
   cases hix : xs.findIdx? (·.key.isStr n) with
   | some i =>
    have hin : n ∈ es.map (·.1) := by
     refine Classical.byContradiction fun q => ?_
     have := X.no n q
     rw [← X.hm] at this
     unfold nsFind at this
     rw [findBy_of_findIdx? (fun n v => v.isStr n) xs n, hix] at this
     have hlt : i < xs.size := (Array.findIdx?_eq_some_iff_getElem.mp hix).1
     simp [hlt] at this
    refine fin (fun r s' => match r with | .ok (.ret _) => P () s' | .ok _ => False | .error e => F.E e s') _ _ _ (fun _ z => z) rfl (by simp only [Obj.putName_eq, Obj.putNameByArray, hix]; rfl) (by simp only [Obj.putName_eq, Obj.putNameByArray, hix]) (X.hk.modify _ _) (fun y => ?_) ?_
    ·rw [← X.hm]; exact findBy_modify (fun n v => v.isStr n) Value.isStr_inj xs n y v i hix
    ·rw [sp4 hin, Array.size_modify]; exact X.hz
   | none =>
    have hout : n ∉ es.map (·.1) := fun q => by
     obtain ⟨p, hp, rfl⟩ := List.mem_map.mp q
     obtain ⟨v', r1, _⟩ := X.ev p hp
     rw [← X.hm] at r1
     unfold nsFind at r1
     rw [findBy_of_findIdx? (fun n v => v.isStr n) xs p.1, hix] at r1
     contradiction
    refine fin (fun r s' => match r with | .ok (.ret _) => P () s' | .ok _ => False | .error e => F.E e s') _ _ _ (fun _ z => z) rfl (by simp only [Obj.putName_eq, Obj.putNameByArray, hix]; rfl) (by simp only [Obj.putName_eq, Obj.putNameByArray, hix]) (X.hk.push _ _ _ _) (fun y => ?_) ?_
    ·rw [← X.hm]
     exact findBy_push (fun n v => v.isStr n) xs n y _ _ v (fun y => by
      show (n == y) = decide (y = n)
      rw [Bool.eq_iff_iff]; simp; exact eq_comm) hix
    ·rw [sp5 hout, Array.size_push]; exact Nat.succ_le_succ X.hz
noncomputable def mtO (own : List AO) (a : AV) (n : Str) : Option Addr :=
 (instOf own a).bind fun p => match getE n p.2.2 with
  | some _ => none
  | none => mN p.1 n
theorem mtO_ok (hF : F.Ok) {a : AV} {n : Str} {f : Addr} (h : mtO S.own a n = some f) {v : Value} {pl : Sem Bool} {P : Value × List Value → Shared → Prop} (I : Rx F.C S.fs S.own ρ s) (hv : Is s.heap F.C.bd ρ a v) (k : P (.ref f, [v]) s) :
  wpAny (model pr F.w) F.A (getMethod v n pl) P F.E s := by
 unfold mtO at h
 obtain ⟨⟨c, d, es⟩, e1, e⟩ := Option.bind_eq_some_iff.mp h
 dsimp only at e
 cases hg : getE n es with
 | some _ => rw [hg] at e; contradiction
 | none =>
  rw [hg] at e
  obtain ⟨x, dx, od, xs, nn, m, rfl, X⟩ := inst_facts I e1 hv
  refine el12 (hF.frag I) fun K hK hc => ?_
  refine el03 (clsK_meth hc e) fun c1 c2 c3 => ?_
  obtain ⟨p1, p2, p3, p4, cd, p5, p6⟩ := clsPl_of c1
  refine method_fn hK X.ia p1 p2 c2 c3 ?_ k
  show (lookIn n od).map _ = _
  rw [lookIn_of X.hd X.hk, X.hm, X.no n (getE_none hg)]; rfl
end
end
section
set_option backward.match.sparseCases false
set_option tactic.hygienic true
noncomputable def MethF (T : String) (name : Str) (id : String) : Prop := PlainAttrs T ∧ Slot T name id ∧ typeOf (.builtin id) = pure (.type "method_descriptor")
noncomputable def strMs : List (Str × String) := [("rstrip", "str.rstrip"), ("splitlines", "str.splitlines"), ("endswith", "str.endswith"), ("replace", "str.replace"), ("join", "str.join"), ("translate", "str.translate"), ("split", "str.split"), ("count", "str.count")]
noncomputable def lstMs : List (Str × String) := [("append", "list.append"), ("extend", "list.extend")]
noncomputable def mIdS (name : Str) : Option String := strMs.lookup name
noncomputable def mIdL (name : Str) : Option String := lstMs.lookup name
theorem all_list {α : Type} {P : α → Prop} {a : α} {l : List α} (h : P a) (t : ∀ x ∈ l, P x) : ∀ x ∈ a :: l, P x := fun x hx => by
 rcases List.mem_cons.mp hx with rfl | hx
 ·exact h
 ·exact t x hx
theorem no_list {α : Type} {P : α → Prop} : ∀ x ∈ ([] : List α), P x := fun x hx => by contradiction
theorem mIdS_ok {name : Str} {id : String} (h : mIdS name = some id) : MethF "str" name id :=
 all_list (P := fun p => MethF "str" p.1 p.2) ⟨F.plainAttrs_str, F.slot_str_rstrip, F.type_str_rstrip⟩ (all_list ⟨F.plainAttrs_str, F.slot_str_splitlines, F.type_str_splitlines⟩ (all_list ⟨F.plainAttrs_str, F.slot_str_endswith, F.type_str_endswith⟩
  (all_list ⟨F.plainAttrs_str, F.slot_str_replace, F.type_str_replace⟩ (all_list ⟨F.plainAttrs_str, F.slot_str_join, F.type_str_join⟩ (all_list ⟨F.plainAttrs_str, F.slot_str_translate, F.type_str_translate⟩
  (all_list ⟨F.plainAttrs_str, F.slot_str_split, F.type_str_split⟩ (all_list ⟨F.plainAttrs_str, F.slot_str_count, F.type_str_count⟩ no_list))))))) _ (find_lookup h)
theorem mIdL_ok {name : Str} {id : String} (h : mIdL name = some id) : MethF "list" name id :=
 all_list (P := fun p => MethF "list" p.1 p.2) ⟨F.plainAttrs_list, F.slot_list_append, F.type_list_append⟩ (all_list ⟨F.plainAttrs_list, F.slot_list_extend, F.type_list_extend⟩ no_list) _ (find_lookup h)
noncomputable def aoList : AO → Bool
 | .list _ => true
 | _ => false
noncomputable def mId (own : List AO) (ov : AV) (name : Str) : Option String :=
 match ov with
 | .str _ => mIdS name
 | .own k => (own[k]?).bind fun o => if aoList o then mIdL name else none
 | _ => none
theorem mId_ok {C : Cx} {fs : Fs} {own : List AO} {ρ : List Addr} {s : Shared} (I : Rx C fs own ρ s) {ov : AV} {v : Value} (hv : Is s.heap C.bd ρ ov v) {name : Str} {id : String} (h : mId own ov name = some id) :
  ∃ T, MethF T name id ∧ s.TypeIs v T ∧ ∀ a, v = .ref a → ∃ ob, s.heap.get? a = some ob ∧ ob.dict = none := by
 induction ov with
 | str x => obtain ⟨t, rfl⟩ := hv; exact ⟨"str", mIdS_ok h, typeIs_str _ _ _, fun _ e => nomatch e⟩
 | own k =>
  refine el12 (Option.bind_eq_some_iff.mp h) fun o' hk h => ?_
  induction o' with
  | list xs =>
   obtain ⟨a, ha, rfl⟩ := hv
   obtain ⟨b, o, e1, e2, vs, n, e3, _⟩ := I.mine k _ hk
   rw [ha] at e1; obtain rfl := Option.some.inj e1
   subst e3
   exact ⟨"list", mIdL_ok h, ⟨_, e2, rfl⟩, fun c e => by cases e; exact ⟨_, e2, rfl⟩⟩
  | _ => contradiction
 | _ => contradiction
noncomputable def noCall : Expr → Bool
 | .Call (.Attribute ..) _ _ _ => true
 | .Call .. => false
 | _ => true
theorem base_no {o : Expr} {name : Str} {env : Env} (h : noCall o = true) : attributeBase o name env (eval o env) = eval o env := by
 cases o with
 | Call f args kw p => cases f <;> first | rfl | exact absurd h Bool.false_ne_true
 | _ => rfl
noncomputable def callM (F : Fx) (r : Rec) (o : Expr) (name : Str) (apos : Pos) (args : List Expr) (pos : Pos) (S : Sy) (Q : AV → Sy → Prop) : Prop :=
 gd ((apos.endLine == pos.line) && noCall o && args.all noStar && decide (args.length < 30)) (r.ev o S fun ov S₁ => gd (mId S₁.own ov name).isSome (as r args S₁ fun vs S₂ => cl F (.blt ((mId S₁.own ov name).getD "")) (ov :: vs) S₂ Q))
theorem all_star {pos : Pos} {env : Env} : ∀ {l : List Expr}, (l.all noStar = true) → (backTo pos (starEach l env)).all (fun x => !x.1) = true
 | [], _ => rfl
 | e :: rest, h => by
  rw [List.all_cons, Bool.and_eq_true] at h
  rw [starEach_no h.1]
  show (true && (backTo pos (starEach rest env)).all (fun x => !x.1)) = true
  rw [all_star h.2]; rfl
theorem callM_ok {F : Fx} {r : Rec} (ok : r.Ok F) {o : Expr} {name : Str} {apos pos : Pos} {args : List Expr} {S : Sy} {Q : AV → Sy → Prop} (h : callM F r o name apos args pos S Q) : SemE F (.Call (.Attribute o name apos) args [] pos) S Q := by
 refine el02 (gd_ok h) fun h1 h => ?_
 simp only [Bool.and_eq_true, decide_eq_true_eq] at h1
 obtain ⟨⟨⟨hl, hc⟩, hs⟩, hn⟩ := h1
 intro s ρ I
 refine wpAny_Call_method_lateS (base_no hc) ?_ hl (Sm.go (ok.ev h) I fun ov S₁ v s₁ ρ₁ q I₁ hv x₁ => ?_)
 ·rw [all_star hs]
  show (true && decide (args.length + 0 + 0 < 30)) = true
  simp only [Bool.true_and, decide_eq_true_eq]; exact nl1 [_] (.add vr0 (.num 1)) (.num 30) (.add (.add (.add vr0 (.num 0)) (.num 0)) (.num 1)) (.num 30) rfl hn
 ·refine el02 (gd_ok q) fun hm q => ?_
  refine el11 (Option.isSome_iff_exists.mp hm) fun id hid => ?_
  rw [hid] at q
  obtain ⟨T, ⟨m1, m2, m3⟩, hT, hd⟩ := mId_ok I₁ hv hid
  refine ⟨T, id, m1, m2, m3, hT, hd, ?_⟩
  refine callWith_builtin (any_star hs) (evalArgs_any ok hs q I₁ fun vs S₂ us s₂ ρ₂ q₂ I₂ hvs x₂ => ?_)
  exact Pt.wp_ext (x₁.trans x₂) (cl_ok q₂ s₂ ρ₂ _ (v :: us) I₂ rfl (.cons (hv.ext x₂) hvs))
inductive Kd where
 | new
 | old (t : Tok)
noncomputable def kName (F : Fx) (S : Sy) (n : Str) : Option (Str × Tok) :=
 if n == ("__debug__" : Str) then none else
 match F.sc.names.lookup n, getFs n S.fs with
 | some .local, some (.strk y t) => some (y, t)
 | _, _ => none
noncomputable def exStr : Expr → Option Str
 | .Constant c _ _ => (match c with | .str y => some y | _ => none)
 | _ => none
noncomputable def exNm : Expr → Option Str
 | .Name n _ => some n
 | _ => none
theorem exStr_eq {e : Expr} {y : Str} (h : exStr e = some y) : ∃ k p, e = .Constant (.str y) k p := by
 cases e with
 | Constant c k p => induction c with
  | str x => obtain rfl := Option.some.inj h; exact ⟨k, p, rfl⟩
  | _ => contradiction
 | _ => contradiction
theorem exNm_eq {e : Expr} {n : Str} (h : exNm e = some n) : ∃ p, e = .Name n p := by
 cases e with
 | Name x p => obtain rfl := Option.some.inj h; exact ⟨p, rfl⟩
 | _ => contradiction
noncomputable def kSum (F : Fx) (S : Sy) (l : Expr) (op : Operator) (r : Expr) : Option (Str × Kd) :=
 (exStr l).bind fun a => (exNm r).bind fun n => (kName F S n).bind fun p => if !isAdd op || a.length == 0 || p.1.length == 0 || decide (1000 < a.length + p.1.length) then none else some (a ++ p.1, .new)
noncomputable def kArg (F : Fx) (S : Sy) (e : Expr) : Option (Str × Kd) :=
 match e with
 | .BinOp l op r _ => kSum F S l op r
 | e => match exStr e with
  | some y => some (y, .new)
  | none => (exNm e).bind fun n => (kName F S n).bind fun p => some (p.1, .old p.2)
noncomputable def KdIs (n n' : Nat) (u : Tok) : Kd → Prop
 | .new => n ≤ u ∧ u < n'
 | .old t => u = t
theorem kName_ok {F : Fx} (hF : F.Ok) {S : Sy} {n y : Str} {t : Tok} {p : Pos} (h : kName F S n = some (y, t)) {s : Shared} {ρ : List Addr} (I : Rx F.C S.fs S.own ρ s) {P : Value → Shared → Prop} (k : P (.str y t) s) : wpAny (model pr F.w) F.A (eval (.Name n p) F.C.env) P F.E s := by
 unfold kName at h
 split at h
 ·contradiction
 ·rename_i hd
  split at h
  ·rename_i hk hv
   cases h
   refine NsR.el (I.ns) fun m hn hf => ?_
   refine el12 (hf _ (getFs_mem hv) _ rfl) fun v' e1 e2 => ?_
   subst e2
   exact wpAny_Name (wpAny_loadName_local (by rw [hF.sc]; exact hF.kind) (by unfold Env.kindOf; rw [hF.sc]; exact hk) hn e1 k) (by simpa using hd)
  ·contradiction
theorem kArg_ok {F : Fx} (hF : F.Ok) {S : Sy} {e : Expr} {y : Str} {kd : Kd} (h : kArg F S e = some (y, kd)) {s : Shared} {ρ : List Addr} (I : Rx F.C S.fs S.own ρ s) {P : Value → Shared → Prop}
  (k : ∀ u n, s.toks ≤ n → KdIs s.toks n u kd → P (.str y u) { s with toks := n }) : wpAny (model pr F.w) F.A (eval e F.C.env) P F.E s := by
 have plain : ∀ e, (match exStr e with
  | some y => some (y, .new)
  | none => (exNm e).bind fun n => (kName F S n).bind fun p => some (p.1, .old p.2)) = some (y, kd) → wpAny (model pr F.w) F.A (eval e F.C.env) P F.E s := by
  intro e h
  cases h1 : exStr e with
  | some y' =>
   rw [h1] at h
   cases h
   obtain ⟨_, _, rfl⟩ := exStr_eq h1
   exact Constant_str (k _ _ (Nat.le_succ _) ⟨Nat.le_refl _, Nat.lt_succ_self _⟩)
  | none =>
   rw [h1] at h
   refine el12 (Option.bind_eq_some_iff.mp h) fun n h2 h => ?_
   obtain ⟨⟨y', t⟩, h3, h⟩ := Option.bind_eq_some_iff.mp h
   cases h
   obtain ⟨_, rfl⟩ := exNm_eq h2
   exact kName_ok hF h3 I (k _ s.toks (Nat.le_refl _) rfl)
 cases e with
 | BinOp l op r p =>
  refine el12 (Option.bind_eq_some_iff.mp h) fun a h1 h => ?_
  refine el12 (Option.bind_eq_some_iff.mp h) fun n h2 h => ?_
  obtain ⟨⟨y', t⟩, h3, h4⟩ := Option.bind_eq_some_iff.mp h
  obtain ⟨_, _, rfl⟩ := exStr_eq h1
  obtain ⟨_, rfl⟩ := exNm_eq h2
  split at h4
  ·contradiction
  ·rename_i hc
   cases h4
   simp only [Bool.or_eq_true, not_or, Bool.not_eq_true, Bool.not_eq_false', decide_eq_false_iff_not] at hc
   obtain ⟨⟨⟨c0, c1⟩, c2⟩, c3⟩ := hc
   rw [isAdd_eq c0]
   refine wpAny_BinOp (Constant_str (kName_ok hF h3 (I.toks _ (Nat.le_succ_of_le I.tk)) (PySem.P.add_str ?_)))
   rw [if_neg (by rw [c1]; decide), if_neg (by rw [c2]; decide)]
   exact ⟨by rw [PySem.Str.length_append]; have := sizeLine_eq; exact nl2 [_, _, _] (.add vr0 vr1) (.num 1000) (.num 16777216) vr2 (.add vr0 vr1) vr2 rfl (Nat.le_of_not_lt c3) (Nat.le_of_eq (Eq.symm this)), k _ _ (by show s.toks ≤ s.toks + 1 + 1; exact nl0 [_] vr0 (.add (.add vr0 (.num 1)) (.num 1)) rfl) ⟨by show s.toks ≤ s.toks + 1; exact nl0 [_] vr0 (.add vr0 (.num 1)) rfl, by show s.toks + 1 < s.toks + 1 + 1; exact nl0 [_] (.add (.add vr0 (.num 1)) (.num 1)) (.add (.add vr0 (.num 1)) (.num 1)) rfl⟩⟩
 | _ => exact plain _ h
noncomputable def kOk (F : Fx) : Kd → Kd → Prop
 | .new, .new => True
 | .old t, .new => Sd (0 < t ∧ t < F.C.t0)
 | _, _ => False
noncomputable def rep2 (F : Fx) (x : Str) (args : List Expr) (S : Sy) (Q : AV → Sy → Prop) : Prop :=
 match args with
 | [a1, a2] => (match kArg F S a1, kArg F S a2 with
  | some (y, k1), some (z, k2) => kOk F k1 k2 ∧ Sd (x.length + (x.length + 1) * z.length ≤ 16777216) ∧ Q (.str (Txt.replace x y z)) S
  | _, _ => False)
 | _ => False
noncomputable def callR (F : Fx) (r : Rec) (o : Expr) (apos : Pos) (args : List Expr) (pos : Pos) (S : Sy) (Q : AV → Sy → Prop) : Prop :=
 gd ((apos.endLine == pos.line) && noCall o && args.all noStar && decide (args.length < 30)) (r.ev o S fun ov S₁ => match ov with | .str x => rep2 F x args S₁ Q | _ => False)
theorem rep2_ok {F : Fx} (hF : F.Ok) {x : Str} {t : Tok} {args : List Expr} {S : Sy} {Q : AV → Sy → Prop} (h : rep2 F x args S Q) {pos : Pos} {s : Shared} {ρ : List Addr} (hs : args.all noStar = true) (I : Rx F.C S.fs S.own ρ s) :
  wpAny (model pr F.w) F.A (evalArgs (.builtin "str.replace") true (backTo pos (starEach args F.C.env)) []) (fun a s₁ => wpAny (model pr F.w) F.A (call (.builtin "str.replace") ([.str x t] ++ a.pos) a.kw) (Pt F.C Is Q s ρ) F.E s₁) F.E s := by
 unfold rep2 at h
 split at h
 ·rename_i a1 a2
  split at h
  ·rename_i y k1 z k2 h1 h2
   obtain ⟨hk, ⟨hz⟩, hq⟩ := h
   simp only [List.all_cons, Bool.and_eq_true] at hs
   rw [starEach_no hs.1, starEach_no hs.2.1]
   refine evalArgs_plain (spliced_cons (kArg_ok hF h1 I fun u n hn hu => ?_))
   have I₁ := I.toks n (Nat.le_trans I.tk hn)
   refine spliced_cons (kArg_ok hF h2 I₁ fun v n' hn' hv => spliced_nil ?_)
   have I₂ := I.toks n' (Nat.le_trans (Nat.le_trans I.tk hn) hn')
   have hp := hF.pos
   have ht := I.tk
   have key : u ≠ 0 ∧ v ≠ 0 ∧ u ≠ v := by
    induction k1 with
    | new =>
     induction k2 with
     | new =>
      refine el02 (hu) fun a b => ?_
      refine el02 (hv) fun c d => ?_
      change n ≤ v at c
      exact ⟨Nat.ne_of_gt (Nat.lt_of_lt_of_le (Nat.lt_of_lt_of_le hp ht) a), Nat.ne_of_gt (Nat.lt_of_lt_of_le (Nat.lt_of_lt_of_le hp (Nat.le_trans ht hn)) c), Nat.ne_of_lt (Nat.lt_of_lt_of_le b c)⟩
     | old _ => exact hk.elim
    | old t =>
     induction k2 with
     | new =>
      obtain ⟨⟨q1, q2⟩⟩ := hk
      refine el02 (hv) fun c d => ?_
      change n ≤ v at c
      subst hu
      exact ⟨Nat.ne_of_gt q1, Nat.ne_of_gt (Nat.lt_of_lt_of_le (Nat.lt_of_lt_of_le hp (Nat.le_trans ht hn)) c), Nat.ne_of_lt (Nat.lt_of_lt_of_le q2 (Nat.le_trans (Nat.le_trans ht hn) c))⟩
     | old _ => exact hk.elim
   exact SC.replaceA key.1 key.2.1 key.2.2 hz (fun t' k => Pt.ext (s' := { s with toks := n' }) Ext.refl (fun hh => Pg.same (R := Is) (s := { s with toks := n' }) I₂ _ hq ⟨_, rfl⟩ hh)) (hF.lim _ fun a o ho => I₂.up _ _ (hF.top a o ho).1).2
  ·exact h.elim
 ·exact h.elim
theorem callR_ok {F : Fx} (hF : F.Ok) {r : Rec} (ok : r.Ok F) {o : Expr} {apos pos : Pos} {args : List Expr} {S : Sy} {Q : AV → Sy → Prop} (h : callR F r o apos args pos S Q) : SemE F (.Call (.Attribute o "replace" apos) args [] pos) S Q := by
 refine el02 (gd_ok h) fun h1 h => ?_
 simp only [Bool.and_eq_true, decide_eq_true_eq] at h1
 obtain ⟨⟨⟨hl, hc⟩, hs⟩, hn⟩ := h1
 intro s ρ I
 refine wpAny_Call_method_lateS (base_no hc) ?_ hl (Sm.go (ok.ev h) I fun ov S₁ v s₁ ρ₁ q I₁ hv x₁ => ?_)
 ·rw [all_star hs]
  show (true && decide (args.length + 0 + 0 < 30)) = true
  simp only [Bool.true_and, decide_eq_true_eq]; exact nl1 [_] (.add vr0 (.num 1)) (.num 30) (.add (.add (.add vr0 (.num 0)) (.num 0)) (.num 1)) (.num 30) rfl hn
 ·split at q
  ·obtain ⟨t, rfl⟩ := hv
   refine ⟨"str", "str.replace", PySem.F.plainAttrs_str, PySem.F.slot_str_replace, PySem.F.type_str_replace, typeIs_str _ _ _, (fun _ e => nomatch e), ?_⟩
   refine callWith_builtin (any_star hs) ?_
   exact wpAny_mono (rep2_ok hF (t := t) q hs I₁) (fun a s₂ h₂ => Pt.wp_ext x₁ h₂) fun _ _ e => e
  ·exact q.elim
noncomputable def knownM (name : Str) : Bool := (mIdS name).isSome || (mIdL name).isSome
noncomputable def isSetE : Expr → Bool
 | .Set .. => true
 | _ => false
theorem marks_no {op : CmpOp} {e : Expr} (h : isSetE e = false) : behindInMarks op e = false := by
 cases e <;> first | rfl | exact absurd h (Ne.symm Bool.false_ne_true)
noncomputable def dsp (r : Rec) (elts : List Expr) (S : Sy) (Q : List Dt → Sy → Prop) : Prop :=
 as r elts S fun vs S₁ => match toDs vs with | some ds => Sd (ds.length ≤ sizeLine) ∧ Q ds S₁ | none => False
theorem dsp_ok {F : Fx} {r : Rec} (ok : r.Ok F) {elts : List Expr} {S : Sy} {Q : List Dt → Sy → Prop} (h : dsp r elts S Q) {pos : Pos} {s : Shared} {ρ : List Addr} {P : List Value → Shared → Prop} (I : Rx F.C S.fs S.own ρ s)
  (k : ∀ ds S₁ us s₁ ρ₁, Q ds S₁ → us.length ≤ sizeLine → Rx F.C S₁.fs S₁.own ρ₁ s₁ → IsDs (Frz s₁.heap F.C.bd ρ₁) us ds → Ext F.C.bd s.heap ρ s₁.heap ρ₁ → P us s₁) :
  wpAny (model pr F.w) F.A (spliced (backTo pos (starEach elts F.C.env))) P F.E s := by
 unfold dsp at h
 refine as_star ok h I fun vs S₁ us s₁ ρ₁ q I₁ hvs x₁ => ?_
 split at q
 ·rename_i ds hds
  have hD := toDs_ok hvs hds
  exact k ds S₁ us s₁ ρ₁ q.2 (by rw [hD.length]; exact q.1.out) I₁ hD x₁
 ·exact q.elim
section
variable {F : Fx} {r : Rec} {S : Sy}
noncomputable def boA (F : Fx) (r : Rec) (pos : Pos) (isAnd : Bool) (e₁ : Expr) (rest : List Expr) (S : Sy) (Q : AV → Sy → Prop) : Prop :=
 match rest with
 | [] => r.ev e₁ S Q
 | e₂ :: rest => r.ev e₁ S fun a S₁ => tv F a S₁ fun c S₂ => match isAnd with
  | true => br c (r.ev (.BoolOp .And (e₂ :: rest) pos) S₂ Q) (Q a S₂)
  | false => br c (Q a S₂) (r.ev (.BoolOp .Or (e₂ :: rest) pos) S₂ Q)
noncomputable def isAnd : BoolOp → Bool
 | .And => true
 | .Or => false
noncomputable def boE (F : Fx) (r : Rec) (op : BoolOp) (vs : List Expr) (pos : Pos) (S : Sy) (Q : AV → Sy → Prop) : Prop :=
 match vs with
 | [] => False
 | e :: rest => boA F r pos (isAnd op) e rest S Q
theorem boE_ok (ok : r.Ok F) {op : BoolOp} {vs : List Expr} {pos : Pos} {Q : AV → Sy → Prop} (h : boE F r op vs pos S Q) : SemE F (.BoolOp op vs pos) S Q := by
 intro s ρ I
 induction vs with
 | nil => exact h.elim
 | cons e₁ rest =>
  induction rest with
  | nil => exact BoolOp_one (ok.ev h s ρ I)
  | cons e₂ rest =>
   induction op with
   | And =>
    refine BoolOp_and (Sm.go (ok.ev h) I fun a S₁ v s₁ ρ₁ q I₁ hv x₁ => ?_)
    refine Sm1.go (tv_ok q) I₁ hv fun c' S₂ c s₂ ρ₂ q₂ I₂ hc x₂ => ?_
    cases hc
    induction c' with
    | true => exact Sm.done (ok.ev ((show br _ _ _ from q₂).t rfl)) I₂ (x₁.trans x₂)
    | false => exact fun _ => ⟨a, S₂, ρ₂, (show br _ _ _ from q₂).f rfl, I₂, hv.ext x₂, x₁.trans x₂⟩
   | Or =>
    refine BoolOp_or (Sm.go (ok.ev h) I fun a S₁ v s₁ ρ₁ q I₁ hv x₁ => ?_)
    refine Sm1.go (tv_ok q) I₁ hv fun c' S₂ c s₂ ρ₂ q₂ I₂ hc x₂ => ?_
    cases hc
    induction c' with
    | true => exact fun _ => ⟨a, S₂, ρ₂, (show br _ _ _ from q₂).t rfl, I₂, hv.ext x₂, x₁.trans x₂⟩
    | false => exact Sm.done (ok.ev ((show br _ _ _ from q₂).f rfl)) I₂ (x₁.trans x₂)
noncomputable def cst (c : Const) (S : Sy) (Q : AV → Sy → Prop) (L : Prop) : Prop :=
 match c with
 | .str x => Q (.str x) S
 | .int i => Q (.int i) S
 | .bool b => Q (.bool b) S
 | .none => Q .none S
 | _ => L
noncomputable def cmp1 (r : Rec) (l : Expr) (ops : List CmpOp) (xs : List Expr) (S : Sy) (k : CmpOp → AV → AV → Sy → Prop) (L : Prop) : Prop :=
 match ops with
 | [] => L
 | op :: ops => match ops with
  | _ :: _ => L
  | [] => match xs with
   | [] => L
   | x :: xs => match xs with
    | _ :: _ => L
    | [] => gd (!isSetE x) (r.ev l S fun a S₁ => r.ev x S₁ fun b S₂ => k op a b S₂)
theorem cmp1_ok {l : Expr} {ops : List CmpOp} {xs : List Expr} {k : CmpOp → AV → AV → Sy → Prop} {L P : Prop} (h : cmp1 r l ops xs S k L) (hL : L → P) (hk : ∀ op x, ops = [op] → xs = [x] → isSetE x = false → (r.ev l S fun a S₁ => r.ev x S₁ fun b S₂ => k op a b S₂) → P) : P := by
 induction ops with
 | nil => exact hL h
 | cons op ops =>
  induction ops with
  | cons _ _ => exact hL h
  | nil =>
   induction xs with
   | nil => exact hL h
   | cons x xs =>
    induction xs with
    | cons _ _ => exact hL h
    | nil => exact hk op x rfl rfl (by have := (gd_ok h).1; simpa using this) (gd_ok h).2
noncomputable def unE (F : Fx) (r : Rec) (op : UnaryOp) (x : Expr) (S : Sy) (Q : AV → Sy → Prop) (L : Prop) : Prop :=
 match op with
 | .Not => r.ev x S fun a S₁ => tv F a S₁ fun c S₂ => Q (.bool (!c)) S₂
 | .USub => r.ev x S fun a S₁ => (match aInt a with | some i => Q (.int (-i)) S₁ | none => False)
 | _ => L
noncomputable def noStep : Option Expr → Bool
 | none => true
 | some _ => false
noncomputable def sub (F : Fx) (r : Rec) (v i : Expr) (S : Sy) (Q : AV → Sy → Prop) : Prop :=
 match i with
 | .Slice l u st _ => gd (noStep st) (r.ev v S fun a S₁ => pt r l S₁ fun i S₂ => pt r u S₂ fun j S₃ => sbS F v a i j S₃ Q)
 | i => r.ev v S fun a S₁ => r.ev i S₁ fun b S₂ => sbI F v a b S₂ Q
noncomputable def kwNo : List Keyword → Bool
 | [] => true
 | _ :: _ => false
noncomputable def callI (F : Fx) (r : Rec) (o : Expr) (name : Str) (apos : Pos) (args : List Expr) (pos : Pos) (S : Sy) (Q : AV → Sy → Prop) : Prop :=
 gd ((apos.endLine == pos.line) && noCall o && args.all noStar && decide (args.length < 30)) (r.ev o S fun ov S₁ => match mtO S₁.own ov name with
  | some f => okG F S₁.own (.ref f) (as r args S₁ fun vs S₂ => cl F (.ref f) (ov :: vs) S₂ Q)
  | none => False)
theorem callI_ok (hF : F.Ok) (ok : r.Ok F) {o : Expr} {name : Str} {apos pos : Pos} {args : List Expr} {Q : AV → Sy → Prop} (h : callI F r o name apos args pos S Q) : SemE F (.Call (.Attribute o name apos) args [] pos) S Q := by
 refine el02 (gd_ok h) fun h1 h => ?_
 simp only [Bool.and_eq_true, decide_eq_true_eq] at h1
 obtain ⟨⟨⟨hl, hc⟩, hs⟩, hn⟩ := h1
 intro s ρ I
 rw [arm_eval_Call, base_no hc]
 refine wpAny_bind (Sm.go (ok.ev h) I fun ov S₁ v s₁ ρ₁ q I₁ hv x₁ => wpAny_bind (wpAny_standAt ?_))
 have hform : methodCallForm (args.length + ([] : List Keyword).length) (backTo pos (starEach args F.C.env)) (backToKw pos (keywordEach [] F.C.env)) = true := by
  show ((backTo pos (starEach args F.C.env)).all (fun x => !x.1) && true && decide (args.length + 0 + 0 < 30)) = true
  rw [all_star hs]; simp; exact hn
 have hpos : methodCallPos true o F.C.env apos pos = pure pos := by unfold methodCallPos; simp [hl]
 unfold methodCall
 rw [hform]
 cases hm : mtO S₁.own ov name with
 | none => rw [hm] at q; exact q.elim
 | some f =>
  rw [hm] at q
  refine el02 (okG_ok q) fun hok q => ?_
  refine wpAny_bind (wpAny_holding (mtO_ok hF hm I₁ hv (wpAny_bind (wpAny_of_eq hpos ?_))))
  change okR F f at hok
  unfold okR at hok
  split at hok
  ·rename_i ha
   refine el12 (cls_keeps hF ha) fun K hK hk => ?_
   refine callWith_of (P := fun h => K.In h) (by rw [any_star hs]; rfl) (keeps_K hk) (evalArgs_any ok hs q I₁ fun vs S₂ us s₂ ρ₂ q₂ I₂ hvs x₂ => ?_)
   exact ⟨fun b o e => I₂.up b o (hK b o e), Pt.wp_ext (x₁.trans x₂) (cl_ok q₂ s₂ ρ₂ _ (v :: us) I₂ rfl (.cons (hv.ext x₂) hvs))⟩
  rcases hok with ⟨o', fd, ho, hd⟩ | ⟨id, b, ho⟩
  ·refine callWith_function (o := o') (fd := fd) (evalArgs_any ok hs q I₁ fun vs S₂ us s₂ ρ₂ q₂ I₂ hvs x₂ => ?_)
   exact ⟨⟨I₂.up _ _ ho, hd⟩, Pt.wp_ext (x₁.trans x₂) (cl_ok q₂ s₂ ρ₂ _ (v :: us) I₂ rfl (.cons (hv.ext x₂) hvs))⟩
  ·refine callWith_bm (any_star hs) (evalArgs_any ok hs q I₁ fun vs S₂ us s₂ ρ₂ q₂ I₂ hvs x₂ => ?_)
   exact ⟨⟨id, b, I₂.up _ _ ho⟩, Pt.wp_ext (x₁.trans x₂) (cl_ok q₂ s₂ ρ₂ _ (v :: us) I₂ rfl (.cons (hv.ext x₂) hvs))⟩
noncomputable def cal (F : Fx) (r : Rec) (f : Expr) (args : List Expr) (kw : List Keyword) (pos : Pos) (S : Sy) (Q : AV → Sy → Prop) (L : Prop) : Prop :=
 match kwNo kw with
 | false => L
 | true => match f with
  | .Attribute o name apos => if name = ("__new__" : Str) then L else if name = ("replace" : Str) then callR F r o apos args pos S Q else if knownM name then callM F r o name apos args pos S Q else callI F r o name apos args pos S Q
  | .Name x p => callN F r (.Name x p) args S Q
  | _ => L
theorem cal_ok (hF : F.Ok) (ok : r.Ok F) {f : Expr} {args : List Expr} {kw : List Keyword} {pos : Pos} {Q : AV → Sy → Prop} {L : Prop} (h : cal F r f args kw pos S Q L) (hL : L → SemE F (.Call f args kw pos) S Q) : SemE F (.Call f args kw pos) S Q := by
 induction kw with
 | cons _ _ => exact hL h
 | nil =>
  cases f with
  | Attribute o name apos =>
   change (if name = ("__new__" : Str) then L else if name = ("replace" : Str) then callR F r o apos args pos S Q else if knownM name then callM F r o name apos args pos S Q else callI F r o name apos args pos S Q) at h
   split at h
   ·exact hL h
   ·split at h
    ·rename_i e; subst e; exact callR_ok hF ok h
    ·split at h
     ·exact callM_ok ok h
     ·exact callI_ok hF ok h
  | Name x p => exact callN_ok hF ok h
  | _ => exact hL h
noncomputable def lst (r : Rec) (elts : List Expr) (S : Sy) (Q : AV → Sy → Prop) : Prop :=
 match elts with
 | [] => (match S with | ⟨fs, own⟩ => Q (.own own.length) ⟨fs, own ++ [.list []]⟩)
 | e :: elts => dsp r (e :: elts) S fun ds S₁ => Q (.dat (.list ds)) S₁
noncomputable def evS (F : Fx) (r : Rec) (e : Expr) (S : Sy) (Q : AV → Sy → Prop) : Prop :=
 match e with
 | .Constant c k p => cst c S Q (Leaf (SemE F (.Constant c k p) S Q))
 | .Name x _ => nm F x S Q
 | .BinOp l op x _ => r.ev l S fun a S₁ => r.ev x S₁ fun b S₂ => bn F op a b S₂ Q
 | .Compare l ops xs p => cmp1 r l ops xs S (fun op a b S₂ => cm F op a b S₂ Q) (Leaf (SemE F (.Compare l ops xs p) S Q))
 | .UnaryOp op x p => unE F r op x S Q (Leaf (SemE F (.UnaryOp op x p) S Q))
 | .BoolOp op vs pos => boE F r op vs pos S Q
 | .IfExp t b o _ => r.vt t S fun c S₁ => br c (r.ev b S₁ Q) (r.ev o S₁ Q)
 | .Subscript v i _ => sub F r v i S Q
 | .Call f args kw pos => cal F r f args kw pos S Q (Leaf (SemE F (.Call f args kw pos) S Q))
 | .Attribute o n _ => gd (isNm o) (r.ev o S fun a S₁ => «at» F a n S₁ Q)
 | .List elts _ => lst r elts S Q
 | .Tuple elts _ _ => dsp r elts S fun ds S₁ => Q (.dat (.tup ds)) S₁
 | e => Leaf (SemE F e S Q)
theorem nm_any {x : Str} {Q : AV → Sy → Prop} (hF : F.Ok) (h : nm F x S Q) {P : Sem Value} (h1 : F.C.env.scope.kind = .function → F.C.env.kindOf x = some .local → P = loadName F.C.env x) (h2 : P = loadName F.C.env x) : Sm F Is P S Q := by
 subst h2
 intro s ρ I
 unfold nm at h
 split at h
 ·exact h.elim
 have hk2 : F.C.env.scope.kind = .function := by rw [hF.sc]; exact hF.kind
 cases hk : F.sc.names.lookup x with
 | none => rw [hk] at h; exact h.elim
 | some kd =>
  rw [hk] at h
  have hk' : F.C.env.kindOf x = some kd := by unfold Env.kindOf; rw [hF.sc]; exact hk
  induction kd with
  | «local» =>
   cases hv : getFs x S.fs with
   | none => rw [hv] at h; exact h.elim
   | some v =>
    rw [hv] at h
    refine NsR.el (I.ns) fun m hn hf => ?_
    refine el12 (hf _ (getFs_mem hv) v rfl) fun v' e1 e2 => ?_
    exact wpAny_loadName_local hk2 hk' hn e1 (Pg.same' I h (wk_ok e2))
  | globalImplicit =>
   cases hv : F.gl x with
   | none => rw [hv] at h; exact h.elim
   | some v =>
    rw [hv] at h
    refine el12 (hF.gl x v s F.C.env rfl rfl I.up hv) fun v' e1 e2 => ?_
    unfold loadName
    simp only [Env.blockKind, hk2, hk', ScopeKind.isAnnotationScope, Bool.false_and, Bool.false_eq_true, if_false]
    exact e2 _ _ _ (Pg.same' I h (e1 _ _ _))
  | _ => exact h.elim
theorem nmL_ok {x : Str} {Q : AV → Sy → Prop} (hF : F.Ok) (h : nm F x S Q) : Sm F Is (loadName F.C.env x) S Q := nm_any hF h (fun _ _ => rfl) rfl
theorem evS_ok (hF : F.Ok) (ok : r.Ok F) {e : Expr} {Q : AV → Sy → Prop} (h : evS F r e S Q) : SemE F e S Q := by
 cases e with
 | Constant c k p =>
  intro s ρ I
  induction c with
  | str => exact Constant_str (Pg.same I _ h ⟨_, rfl⟩)
  | int => exact wpAny_Constant_int (Pg.same I _ h ⟨_, rfl⟩)
  | bool => exact Constant_bool (Pg.same' I h rfl)
  | none => exact Constant_none (Pg.same' I h rfl)
  | _ => exact (show Leaf _ from h).out s ρ I
 | Name x p => exact nm_ok hF h
 | BinOp l op x p =>
  intro s ρ I
  refine wpAny_BinOp (Sm.go (ok.ev h) I fun a S₁ v s₁ ρ₁ q I₁ hv x₁ => Sm.go (ok.ev q) I₁ fun b S₂ u s₂ ρ₂ q₂ I₂ hu x₂ => ?_)
  exact Pt.wp_ext (x₁.trans x₂) (bn_ok q₂ _ _ _ _ I₂ (hv.ext x₂) hu)
 | Compare l ops xs p =>
  refine cmp1_ok h (fun q => q.out) fun op x e1 e2 hs h' => ?_
  subst e1 e2
  intro s ρ I
  refine wpAny_Compare1 (Sm.go (ok.ev h') I fun a S₁ v s₁ ρ₁ q I₁ hv x₁ => Sm.go (ok.ev q) I₁ fun b S₂ u s₂ ρ₂ q₂ I₂ hu x₂ => ?_) (marks_no hs)
  exact Pt.wp_ext (x₁.trans x₂) (cm_ok q₂ _ _ _ _ I₂ (hv.ext x₂) hu)
 | UnaryOp op x p =>
  intro s ρ I
  induction op with
  | Not =>
   refine UnaryOp_ (Sm.go (ok.ev h) I fun a S₁ v s₁ ρ₁ q I₁ hv x₁ => not_of ?_)
   refine Sm1.go (tv_ok q) I₁ hv fun c' S₂ c s₂ ρ₂ q₂ I₂ hc x₂ => ?_
   subst hc
   exact fun _ => ⟨_, S₂, ρ₂, q₂, I₂, rfl, x₁.trans x₂⟩
  | USub =>
   refine UnaryOp_ (Sm.go (ok.ev h) I fun a S₁ v s₁ ρ₁ q I₁ hv x₁ => ?_)
   cases ha : aInt a with
   | none => rw [ha] at q; exact q.elim
   | some i =>
    rw [ha] at q
    rw [aInt_eq ha] at hv
    obtain ⟨t, rfl⟩ := hv
    exact P.neg_int (Pt.ext x₁ (Pg.same I₁ _ q ⟨_, rfl⟩))
  | _ => exact (show Leaf _ from h).out s ρ I
 | BoolOp op vs p => exact boE_ok ok h
 | IfExp t b o p =>
  intro s ρ I
  refine IfExp_ (Sm.go (ok.vt h) I fun c S₁ c' s₁ ρ₁ q I₁ hc x₁ => ?_)
  cases hc
  induction c with
  | true => exact Sm.done (ok.ev (q.t rfl)) I₁ x₁
  | false => exact Sm.done (ok.ev (q.f rfl)) I₁ x₁
 | Subscript v i p =>
  intro s ρ I
  have plain : (r.ev v S fun a S₁ => r.ev i S₁ fun b S₂ => sbI F v a b S₂ Q) → wpAny (model pr F.w) F.A (eval (.Subscript v i p) F.C.env) (Pt F.C Is Q s ρ) F.E s := fun h => by
   refine Sub_any (Sm.go (ok.ev h) I fun a S₁ v s₁ ρ₁ q I₁ hv x₁ => Sm.go (ok.ev q) I₁ fun b S₂ u s₂ ρ₂ q₂ I₂ hu x₂ => ?_)
   obtain ⟨y1, T, id, z1, z2, z3⟩ := sbI_ok q₂ I₂ (hv.ext x₂) hu
   exact ⟨y1, T, id, z1, z2, Pt.wp_ext (x₁.trans x₂) z3⟩
  cases i with
  | Slice l u st p' =>
   induction st with
   | some _ => exact (show False from h).elim
   | none =>
    refine Sub_any (Sm.go (ok.ev (gd_ok (show gd (noStep none) _ from h)).2) I fun a S₁ v s₁ ρ₁ q I₁ hv x₁ => ?_)
    refine wpAny_Slice (pt_ok ok q I₁ fun i S₂ lv s₂ ρ₂ q₂ I₂ hl x₂ => pt_ok ok q₂ I₂ fun j S₃ uv s₃ ρ₃ q₃ I₃ hu x₃ => evalPart_none_step ?_)
    refine el02 (sbS_ok q₃ I₃ ((hv.ext x₂).ext x₃) hl hu) fun y1 y2 => ?_
    refine el23 (y2) fun T id z1 z2 z3 => ?_
    exact ⟨y1, T, id, z1, z2, Pt.wp_ext ((x₁.trans x₂).trans x₃) z3⟩
  | _ => exact plain h
 | Call f args kw p => exact cal_ok hF ok h fun q => q.out
 | Attribute o n p =>
  refine el02 (gd_ok h) fun hn h => ?_
  intro s ρ I
  cases o with
  | Name x p' =>
   refine Attribute_name (Sm.go (ok.ev h) I fun a S₁ v s₁ ρ₁ q I₁ hv x₁ => ?_)
   exact Pt.wp_ext x₁ (at_ok hF q s₁ ρ₁ v I₁ hv)
  | _ => exact absurd hn Bool.false_ne_true
 | List elts p =>
  intro s ρ I
  induction elts with
  | nil =>
   rw [arm_eval_List]
   refine wpAny_bind (wpAny_standAt (wpAny_bind (spliced_nil (wpAny_newList ?_ (Nat.zero_le _)))))
   exact fun _ => ⟨_, _, _, h, I.alloc (.list []) { cls := .type "list", data := .seq #[] } rfl ⟨#[], 0, rfl, .nil⟩ s.toks I.tk, ⟨s.heap.objs.size, by rw [I.len, List.getElem?_append_right (Nat.le_refl _), Nat.sub_self]; rfl, rfl⟩, I.allocExt _⟩
  | cons e elts =>
   rw [arm_eval_List]
   refine wpAny_bind (wpAny_standAt (wpAny_bind (dsp_ok ok h I fun ds S₁ us s₁ ρ₁ q hz I₁ hD x₁ => wpAny_newList (Pt.ext x₁ ?_) hz)))
   exact Pg.newDat (k := s₁.toks) (n := 0) I₁ (fun h' e hk hb hr => .list ⟨e, hb, hr⟩ (by simpa using hD.mono fun a o y => ⟨hk _ _ y.1, y.2⟩)) q
 | Tuple elts c p =>
  intro s ρ I
  rw [arm_eval_Tuple]
  refine wpAny_bind (wpAny_standAt (wpAny_bind (dsp_ok ok h I fun ds S₁ us s₁ ρ₁ q hz I₁ hD x₁ => wpAny_newTuple (Pt.ext x₁ ?_) hz)))
  exact Pg.newDat (k := s₁.toks) (n := 0) I₁ (fun h' e hk hb hr => .tup ⟨e, hb, hr⟩ (by simpa using hD.mono fun a o y => ⟨hk _ _ y.1, y.2⟩)) q
 | _ => exact h.out
noncomputable def plainT : Expr → Bool
 | .Name .. => true
 | .Call .. => true
 | .Subscript .. => true
 | .Attribute .. => true
 | .Constant .. => true
 | .BinOp .. => true
 | _ => false
theorem plainT_ok {e : Expr} {env : Env} {whole : Sem Value} (h : plainT e = true) : isTrue e env whole = (do let v ← whole; standAt e.pos; holding [v] (truthy v)) := by
 cases e <;> first | rfl | exact absurd h Bool.false_ne_true
noncomputable def vtB (F : Fx) (r : Rec) (op : BoolOp) (vs : List Expr) (pos : Pos) (S : Sy) (Q : Bool → Sy → Prop) : Prop :=
 match vs with
 | [] => Q (isAnd op) S
 | x :: rest => r.vt x S fun c S₁ => match op with
  | .And => br c (r.vt (.BoolOp .And rest pos) S₁ Q) (Q false S₁)
  | .Or => br c (Q true S₁) (r.vt (.BoolOp .Or rest pos) S₁ Q)
noncomputable def vtS (F : Fx) (r : Rec) (e : Expr) (S : Sy) (Q : Bool → Sy → Prop) : Prop :=
 match e with
 | .UnaryOp op x p => (match op with | .Not => r.vt x S fun c S₁ => Q (!c) S₁ | op => Leaf (SemT F (.UnaryOp op x p) S Q))
 | .BoolOp op vs pos => vtB F r op vs pos S Q
 | .Compare l ops xs p => cmp1 r l ops xs S (fun op a b S₂ => cm F op a b S₂ fun c S₃ => tv F c S₃ Q) (Leaf (SemT F (.Compare l ops xs p) S Q))
 | e => if plainT e then r.ev e S fun a S₁ => tv F a S₁ Q else Leaf (SemT F e S Q)
theorem vtS_ok (ok : r.Ok F) {e : Expr} {Q : Bool → Sy → Prop} (h : vtS F r e S Q) : SemT F e S Q := by
 have plain : ∀ e, (if plainT e then r.ev e S fun a S₁ => tv F a S₁ Q else Leaf (SemT F e S Q)) → SemT F e S Q := fun e h => by
  split at h
  ·rename_i hp
   intro s ρ I
   refine isTrue_plain (Sm.go (ok.ev h) I fun a S₁ v s₁ ρ₁ q I₁ hv x₁ => ?_) (plainT_ok hp)
   exact Pt.wp_ext x₁ (tv_ok q _ _ _ I₁ hv)
  ·exact h.out
 cases e with
 | UnaryOp op x p =>
  induction op with
  | Not =>
   intro s ρ I
   exact isTrue_not (Sm.go (ok.vt h) I fun c S₁ c' s₁ ρ₁ q I₁ hc x₁ => by subst hc; exact fun _ => ⟨_, S₁, ρ₁, q, I₁, rfl, x₁⟩)
  | _ => exact (show Leaf _ from h).out
 | BoolOp op vs pos =>
  intro s ρ I
  induction vs with
  | nil =>
   induction op with
   | And => exact isTrue_and_nil (Pg.same' I h rfl)
   | Or => exact isTrue_or_nil (Pg.same' I h rfl)
  | cons x rest =>
   induction op with
   | And =>
    refine isTrue_and (Sm.go (ok.vt h) I fun c S₁ c' s₁ ρ₁ q I₁ hc x₁ => ?_)
    cases hc
    induction c with
    | true => exact Sm.done (ok.vt (q.t rfl)) I₁ x₁
    | false => exact fun _ => ⟨_, S₁, ρ₁, q.f rfl, I₁, rfl, x₁⟩
   | Or =>
    refine isTrue_or (Sm.go (ok.vt h) I fun c S₁ c' s₁ ρ₁ q I₁ hc x₁ => ?_)
    cases hc
    induction c with
    | true => exact fun _ => ⟨_, S₁, ρ₁, q.t rfl, I₁, rfl, x₁⟩
    | false => exact Sm.done (ok.vt (q.f rfl)) I₁ x₁
 | Compare l ops xs p =>
  refine cmp1_ok h (fun q => q.out) fun op x e1 e2 hs h' => ?_
  subst e1 e2
  intro s ρ I
  refine wpAny_isTrue_Compare1 (Sm.go (ok.ev h') I fun a S₁ v s₁ ρ₁ q I₁ hv x₁ => Sm.go (ok.ev q) I₁ fun b S₂ u s₂ ρ₂ q₂ I₂ hu x₂ => ?_) (marks_no hs)
  refine Sm2.go (cm_ok q₂) I₂ (hv.ext x₂) hu fun c' S₃ c s₃ ρ₃ q₃ I₃ hc x₃ => ?_
  exact Pt.wp_ext ((x₁.trans x₂).trans x₃) (tv_ok q₃ _ _ _ I₃ hc)
 | _ => exact plain _ h
noncomputable def noSwap : Expr → Bool
 | .ListComp .. => false
 | .SetComp .. => false
 | .DictComp .. => false
 | _ => true
theorem noSwap_ok {e : Expr} (h : noSwap e = true) (t : Option Expr) (l : Nat) (env : Env) : swapsWith e t l env = pure false := by
 unfold swapsWith
 cases e <;> first | rfl | exact absurd h Bool.false_ne_true
noncomputable def noRef : AV → Bool
 | .none => true
 | .bool _ => true
 | .int _ => true
 | .str _ => true
 | _ => false
noncomputable def asg (F : Fx) (r : Rec) (tgs : List Expr) (e : Expr) (S : Sy) (Q : Fl → Sy → Prop) (L : Prop) : Prop :=
 match tgs with
 | [] => L
 | tg :: more => match more with
  | _ :: _ => L
  | [] => if noSwap e then (match tg with
   | .Name x _ => r.ev e S fun v S₁ => st F x v S₁ fun S₂ => Q .next S₂
   | .Attribute o n _ => r.ev e S fun v S₁ => r.ev o S₁ fun a S₂ => stA F a n v S₂ fun S₃ => Q .next S₃
   | _ => L) else L
noncomputable def aug (F : Fx) (r : Rec) (tg : Expr) (op : Operator) (e : Expr) (S : Sy) (Q : Fl → Sy → Prop) (L : Prop) : Prop :=
 match tg with
 | .Name x _ => nm F x S fun old S₁ => r.ev e S₁ fun v S₂ => ib F op old v S₂ fun u S₃ => st F x u S₃ fun S₄ => Q .next S₄
 | .Attribute o n _ => r.ev o S fun a S₁ => «at» F a n S₁ fun old S₂ => r.ev e S₂ fun v S₃ => ib F op old v S₃ fun u S₄ => stA F a n u S₄ fun S₅ => Q .next S₅
 | _ => L
noncomputable def x1 (F : Fx) (r : Rec) (t : Stmt) (S : Sy) (Q : Fl → Sy → Prop) : Prop :=
 match t with
 | .Assign tgs e p => asg F r tgs e S Q (Leaf (SemS F (.Assign tgs e p) S Q))
 | .AugAssign tg op e p => aug F r tg op e S Q (Leaf (SemS F (.AugAssign tg op e p) S Q))
 | .If t b o _ => r.vt t S fun c S₁ => br c (r.xs b S₁ Q) (r.xs o S₁ Q)
 | .Return e _ => (match e with | some e => r.ev e S fun v S₁ => Q (.ret v) S₁ | none => Q (.ret .none) S)
 | .Break _ => Q .brk S
 | .Continue _ => Q .cont S
 | .Pass _ => Q .next S
 | .Expr e p => if noSwap e then r.ev e S fun v S₁ => gd (noRef v) (Q .next S₁) else Leaf (SemS F (.Expr e p) S Q)
 | t => Leaf (SemS F t S Q)
theorem x1_ok (hF : F.Ok) (ok : r.Ok F) {t : Stmt} {Q : Fl → Sy → Prop} (h : x1 F r t S Q) : SemS F t S Q := by
 cases t with
 | Assign tgs e p =>
  induction tgs with
  | nil => exact (show Leaf _ from h).out
  | cons tg more =>
   induction more with
   | cons _ _ => exact (show Leaf _ from h).out
   | nil =>
    change ite _ _ _ at h
    by_cases hsw : noSwap e = true
    ·rw [if_pos hsw] at h
     cases tg with
     | Name x p' =>
      intro s ρ I
      refine wpAny_Assign_Name (Sm.go (ok.ev h) I fun v S₁ v' s₁ ρ₁ q I₁ hv x₁ => ?_) (noSwap_ok hsw _ _ _)
      exact st_ok hF q I₁ hv fun S₂ s₂ q₂ I₂ x₂ => fun _ => ⟨.next, S₂, ρ₁, q₂, I₂, rfl, x₁.trans x₂⟩
     | Attribute o n p' =>
      intro s ρ I
      refine plainObj_wpAny_Assign_Attribute (Sm.go (ok.ev h) I fun v S₁ v' s₁ ρ₁ q I₁ hv x₁ => Sm.go (ok.ev q) I₁ fun a S₂ u s₂ ρ₂ q₂ I₂ hu x₂ => ?_) (noSwap_ok hsw _ _ _)
      exact stA_ok hF q₂ I₂ hu (hv.ext x₂) fun S₃ s₃ q₃ I₃ x₃ => fun _ => ⟨.next, S₃, ρ₂, q₃, I₃, rfl, (x₁.trans x₂).trans x₃⟩
     | _ => exact (show Leaf _ from h).out
    ·rw [if_neg hsw] at h; exact h.out
 | AugAssign tg op e p =>
  cases tg with
  | Name x p' =>
   intro s ρ I
   refine wpAny_AugAssign_Name (Sm.go (nmL_ok hF (show nm F x S fun old S₁ => r.ev e S₁ fun v S₂ => ib F op old v S₂ fun u S₃ => st F x u S₃ fun S₄ => Q .next S₄ from h)) I fun old S₁ ov s₁ ρ₁ q₁ I₁ ho x₁ => Sm.go (ok.ev q₁) I₁ fun v S₂ v' s₂ ρ₂ q₂ I₂ hv x₂ => ?_)
   refine Sm2.go (ib_ok q₂) I₂ (ho.ext x₂) hv fun u S₃ u' s₃ ρ₃ q₃ I₃ hu x₃ => ?_
   exact st_ok hF q₃ I₃ hu fun S₄ s₄ q₄ I₄ x₄ => fun _ => ⟨.next, S₄, ρ₃, q₄, I₄, rfl, ((x₁.trans x₂).trans x₃).trans x₄⟩
  | Attribute o n p' =>
   intro s ρ I
   refine wpAny_AugAssign_AttributeAny (Sm.go (ok.ev h) I fun a S₁ u s₁ ρ₁ q₁ I₁ ha x₁ => Sm1.go (at_ok hF q₁) I₁ ha fun old S₂ ov s₂ ρ₂ q₂ I₂ ho x₂ => Sm.go (ok.ev q₂) I₂ fun v S₃ v' s₃ ρ₃ q₃ I₃ hv x₃ => ?_)
   refine Sm2.go (ib_ok q₃) I₃ (ho.ext x₃) hv fun w S₄ w' s₄ ρ₄ q₄ I₄ hw x₄ => ?_
   exact stA_ok hF q₄ I₄ (((ha.ext x₂).ext x₃).ext x₄) hw fun S₅ s₅ q₅ I₅ x₅ => fun _ => ⟨.next, S₅, ρ₄, q₅, I₅, rfl, (((x₁.trans x₂).trans x₃).trans x₄).trans x₅⟩
  | _ => exact (show Leaf _ from h).out
 | If t b o p =>
  intro s ρ I
  refine wpAny_If (Sm.go (ok.vt h) I fun c S₁ c' s₁ ρ₁ q I₁ hc x₁ => ?_)
  cases hc
  induction c with
  | true => exact Sm.done (ok.xs (q.t rfl)) I₁ x₁
  | false => exact Sm.done (ok.xs (q.f rfl)) I₁ x₁
 | Return e p =>
  intro s ρ I
  induction e with
  | some e => exact wpAny_Return_some (Sm.go (ok.ev h) I fun v S₁ v' s₁ ρ₁ q I₁ hv x₁ => fun _ => ⟨.ret v, S₁, ρ₁, q, I₁, ⟨v', rfl, hv⟩, x₁⟩)
  | none => exact wpAny_Return_none (Pg.same' I h ⟨.none, rfl, rfl⟩)
 | Break p => intro s ρ I; exact wpAny_Break (Pg.same' I h rfl)
 | Continue p => intro s ρ I; exact wpAny_Continue (Pg.same' I h rfl)
 | Pass p => intro s ρ I; exact wpAny_Pass (Pg.same' I h rfl)
 | Expr e p =>
  change ite _ _ _ at h
  by_cases hsw : noSwap e = true
  ·rw [if_pos hsw] at h
   intro s ρ I
   refine wpAny_Expr_any (Sm.go (ok.ev h) I fun v S₁ v' s₁ ρ₁ q I₁ hv x₁ => fun _ => ⟨.next, S₁, ρ₁, (gd_ok q).2, I₁, rfl, x₁⟩) ?_ (noSwap_ok hsw _ _ _)
   unfold interactive
   rw [hF.sc, hF.kind]; rfl
  ·rw [if_neg hsw] at h; exact h.out
 | _ => exact h.out
noncomputable def nxt (r : Rec) (rest : List Stmt) (Q : Fl → Sy → Prop) (f : Fl) (S₁ : Sy) : Prop :=
 match f with
 | .next => r.xs rest S₁ Q
 | .brk => Q .brk S₁
 | .cont => Q .cont S₁
 | .ret v => Q (.ret v) S₁
noncomputable def xsS (F : Fx) (r : Rec) (l : List Stmt) (S : Sy) (Q : Fl → Sy → Prop) : Prop :=
 match l with
 | [] => Q .next S
 | t :: rest => x1 F r t S (nxt r rest Q)
theorem xsS_ok (hF : F.Ok) (ok : r.Ok F) {l : List Stmt} {Q : Fl → Sy → Prop} (h : xsS F r l S Q) : SemSs F l S Q := by
 intro s ρ I
 induction l with
 | nil => exact wpAny_execs_nil (Pg.same' I h rfl)
 | cons t rest =>
  refine wpAny_execs_cons (Sm.go (x1_ok hF ok h) I fun f S₁ f' s₁ ρ₁ q I₁ hf x₁ => ?_)
  induction f with
  | next => subst hf; exact Sm.done (ok.xs q) I₁ x₁
  | brk => subst hf; exact fun _ => ⟨.brk, S₁, ρ₁, q, I₁, rfl, x₁⟩
  | cont => subst hf; exact fun _ => ⟨.cont, S₁, ρ₁, q, I₁, rfl, x₁⟩
  | ret v => obtain ⟨v', rfl, hv⟩ := hf; exact fun _ => ⟨.ret v, S₁, ρ₁, q, I₁, ⟨v', rfl, hv⟩, x₁⟩
noncomputable def eaS (F : Fx) (r : Rec) (e : Expr) (S : Sy) (Q : AV → Sy → Prop) : Prop :=
 match e with
 | .Name x p => (match kName F S x with
  | some q => Q (.strk q.1 q.2) S
  | none => evS F r (.Name x p) S Q)
 | e => evS F r e S Q
theorem eaS_ok (hF : F.Ok) (ok : r.Ok F) {e : Expr} {Q : AV → Sy → Prop} (h : eaS F r e S Q) : SemE F e S Q := by
 cases e with
 | Name x p =>
  cases hk : kName F S x with
  | none =>
   have h' : evS F r (.Name x p) S Q := by
    have : eaS F r (.Name x p) S Q = (match kName F S x with | some q => Q (.strk q.1 q.2) S | none => evS F r (.Name x p) S Q) := rfl
    rw [this, hk] at h; exact h
   exact evS_ok hF ok h'
  | some q =>
   have h' : Q (.strk q.1 q.2) S := by
    have : eaS F r (.Name x p) S Q = (match kName F S x with | some q => Q (.strk q.1 q.2) S | none => evS F r (.Name x p) S Q) := rfl
    rw [this, hk] at h; exact h
   intro s ρ I
   exact kName_ok hF hk I (Pg.same' I h' rfl)
 | _ => exact evS_ok hF ok h
noncomputable def run (F : Fx) : Nat → Rec
 | 0 => ⟨fun e S Q => Leaf (SemE F e S Q), fun e S Q => Leaf (SemE F e S Q), fun e S Q => Leaf (SemT F e S Q), fun l S Q => Leaf (SemSs F l S Q)⟩
 | n + 1 => ⟨evS F (run F n), eaS F (run F n), vtS F (run F n), xsS F (run F n)⟩
theorem run_ok (hF : F.Ok) : ∀ n, (run F n).Ok F
 | 0 => ⟨fun h => h.out, fun h => h.out, fun h => h.out, fun h => h.out⟩
 | n + 1 => ⟨fun h => evS_ok hF (run_ok hF n) h, fun h => eaS_ok hF (run_ok hF n) h, fun h => vtS_ok (run_ok hF n) h, fun h => xsS_ok hF (run_ok hF n) h⟩
end
end
section
set_option tactic.hygienic true
noncomputable def toD (own : List AO) : AV → Option Dt
 | .own k => (match own[k]? with | some (.list xs) => (match toDs xs with | some ds => some (.list ds) | none => none) | _ => none)
 | a => toD1 a
theorem toD_ok {C : Cx} {fs : Fs} {own : List AO} {ρ : List Addr} {s : Shared} {v : Value} (I : Rx C fs own ρ s) {a : AV} {d : Dt} (e : toD own a = some d) (hv : Is s.heap C.bd ρ a v) : IsD (fun b o => s.heap.get? b = some o ∧ ¬ C.bad b) v d := by
 have weak : ∀ {v d}, IsD (Frz s.heap C.bd ρ) v d → IsD (fun b o => s.heap.get? b = some o ∧ ¬ C.bad b) v d := fun x => x.mono fun b o y => ⟨y.1, fun z => y.2.1 (.inr z)⟩
 unfold toD at e
 split at e
 ·rename_i k
  split at e
  ·rename_i xs hk
   split at e
   ·rename_i ds hds
    obtain rfl := Option.some.inj e
    obtain ⟨b, hb, rfl⟩ := hv
    obtain ⟨b', o, e1, e2, vs, n, rfl, hal⟩ := I.mine k _ hk
    rw [hb] at e1; obtain rfl := Option.some.inj e1
    exact .list ⟨e2, (I.fresh b (List.mem_of_getElem? hb)).2.2⟩ ((toDs_ok hal hds).mono fun c o y => ⟨y.1, fun z => y.2.1 (.inr z)⟩)
   ·contradiction
  ·contradiction
 ·exact weak (toD1_ok e hv)
structure FnAt (T : Addr → Obj → Prop) (fa : Addr) (fd : FuncData) : Prop where
 obj : ∃ o, T fa o ∧ o.data = .func fd
 code : ∃ c o vs t, fd.code = .ref c ∧ T c o ∧ o.data = .fields vs ∧ vs[1]? = some (.str fd.qualname t)
 glob : fd.globals = mainGlobals
 blt : fd.builtins = builtinsNs
structure TopOk (w : World) (T : Addr → Obj → Prop) (gl : Str → Option AV) : Prop where
 lim : ∀ h : Heap, (∀ a o, T a o → h.get? a = some o) → h.NoLimit ∧ NoneBooked h
 gl : ∀ x v (s : Shared) (env : Env), env.globals = mainGlobals → env.builtins = builtinsNs → (∀ b o, T b o → s.heap.get? b = some o) → gl x = some v →
  ∃ v', (∀ h B ρ, Is h B ρ v v') ∧ ∀ (A : Around) (E : Value → Shared → Prop) (Q : Value → Shared → Prop), Q v' s → wpAny (model pr w) A (loadGlobal env x) Q E s
 cls : ClsOk T
noncomputable def frA (A : Around) (a : Addr) : Prop := ∃ l e, A.frames = some l ∧ e ∈ l ∧ e.frame = some a
noncomputable def StkOk (A : Around) (s : Shared) (B : Addr → Prop) : Prop := ∃ l, A.frames = some l ∧ ∀ e ∈ l, e.scope.kind ≠ .module ∧ ∃ L o, e.frame = some L ∧ s.heap.get? L = some o ∧ (∀ vs, o.data ≠ .fields vs) ∧ B L
noncomputable def Stay (A : Around) (s s' : Shared) : Prop := (∀ b o, ¬ frA A b → s.heap.get? b = some o → s'.heap.get? b = some o) ∧ (∀ b o, frA A b → s.heap.get? b = some o → ∃ sl, s'.heap.get? b = some { o with slots := sl }) ∧ s'.gens = s.gens ∧ s'.os = s.os
noncomputable def FnOkK (k : Nat) (w : World) (T : Addr → Obj → Prop) (n : Nat) (fa : Addr) (args : List Dt) (ret : Dt) : Prop :=
 (∃ o fd, T fa o ∧ o.data = .func fd) ∧
 ∀ (A : Around) (E : Value → Shared → Prop) (s : Shared) (B : Addr → Prop) (vs : List Value), Rm A n → StkOk A s B → 0 < s.toks → k ≤ s.toks → (∀ b o, T b o → s.heap.get? b = some o ∧ ¬ B b) → (∀ a, B a → ∃ o, s.heap.get? a = some o) →
  IsDs (fun a o => s.heap.get? a = some o ∧ ¬ B a) vs args →
  wpAny (model pr w) A (call (.ref fa) vs) (fun v s' => Stay A s s' ∧ IsD (fun a o => s'.heap.get? a = some o ∧ ¬ B a) v ret) E s
noncomputable abbrev FnOk (w : World) (T : Addr → Obj → Prop) (n : Nat) (fa : Addr) (args : List Dt) (ret : Dt) : Prop := FnOkK 0 w T n fa args ret
theorem Rm.le {A : Around} {n m : Nat} (h : Rm A n) (hm : m ≤ n) : Rm A m := ⟨h.1, by have := h.2.1; exact nl2 [_, _, _] (.add vr0 vr1) (.num 990) vr2 vr1 (.add vr0 vr2) (.num 990) rfl this hm, by have := h.2.2; lia⟩
theorem Rm.deeper {A : Around} {n : Nat} {env : Env} (h : Rm A (n + 1)) : Rm (A.deeper env) n := by
 refine el03 (h) fun h1 h2 h3 => ?_
 refine ⟨h1, ?_, ?_⟩
 ·show A.depth + 1 + n ≤ 990; exact nl1 [_, _] (.add vr0 (.add vr1 (.num 1))) (.num 990) (.add (.add vr0 (.num 1)) vr1) (.num 990) rfl h2
 ·show A.units + 3 + 10 * n ≤ 9890; exact nl1 [_, _] (.add vr0 (.mulL 10 (.add vr1 (.num 1)))) (.num 9890) (.add (.add vr0 (.num 3)) (.mulL 10 vr1)) (.num 9890) rfl h3
theorem Fx.Ok.frA {F : Fx} (hF : F.Ok) {a : Addr} (h : frA F.A a) : a = F.C.env.locals ∨ ∃ o, F.C.fr a o := by
 refine el12 (hF.frm) fun l h1 h3 => ?_
 refine el23 (h) fun l' e q1 q2 q3 => ?_
 rw [h1] at q1; obtain rfl := Option.some.inj q1
 obtain ⟨_, L, e1, e2⟩ := h3 e q2
 rw [e1] at q3; obtain rfl := Option.some.inj q3
 exact e2.imp id fun ⟨o, e3, _⟩ => ⟨o, e3⟩
theorem Ns_notFields {h : Heap} {a : Addr} {m : Str → Option Value} (x : h.Ns a m) : ∃ o, h.get? a = some o ∧ ∀ vs, o.data ≠ .fields vs := by
 refine el33 (x) fun o es ep ho hd _ => ?_
 exact ⟨o, ho, fun vs q => by rw [hd] at q; contradiction⟩
theorem Fx.Ok.stk {F : Fx} (hF : F.Ok) {S : Sy} {s : Shared} {ρ : List Addr} (I : Rx F.C S.fs S.own ρ s) {B : Addr → Prop} (hB : ∀ a, F.C.bd a → B a) : StkOk F.A s B := by
 refine el12 (hF.frm) fun l h1 h3 => ?_
 refine ⟨_, h1, fun e he => ?_⟩
 obtain ⟨g1, L, e1, e2⟩ := h3 e he
 rcases e2 with rfl | ⟨o, e2, e3⟩
 ·refine NsR.el (I.ns) fun m hm _ => ?_
  refine el12 (Ns_notFields hm) fun o q1 q2 => ?_
  exact ⟨g1, _, o, e1, q1, q2, hB _ (.inl rfl)⟩
 ·refine el11 (I.frs L o e2) fun sl e4 => ?_
  exact ⟨g1, L, _, e1, e4, e3, hB _ (.inr (I.frn L o e2).2.1)⟩
theorem fn_okF {F : Fx} (hF : F.Ok) {k n : Nat} {fa : Addr} {args : List Dt} {ret : Dt} (h : FnOkK k F.w F.T n fa args ret) : (∃ o fd, F.C.keep fa o ∧ o.data = .func fd) ∨ ∃ id b, F.C.keep fa { cls := .type "builtin_function_or_method", data := .fields #[.builtin id, .ref b] } :=
 let ⟨o, fd, h1, h2⟩ := h.1; .inl ⟨o, fd, (hF.top _ _ h1).1, h2⟩
theorem Rx.stay {F : Fx} (hF : F.Ok) {S : Sy} {s s' : Shared} {ρ : List Addr} (I : Rx F.C S.fs S.own ρ s) (y : Stay F.A s s') (ht : F.C.t0 ≤ s'.toks) : Rx F.C S.fs S.own ρ s' ∧ Ext F.C.bd s.heap ρ s'.heap ρ := by
 refine el04 (y) fun y1 y2 y3 y4 => ?_
 refine ⟨I.moved (L := frA F.A) (fun a h => hF.frA h) y1 y2 y3 y4 ht, Ext.keeps fun b o hb _ e => y1 b o (fun q => ?_) e⟩
 rcases hF.frA q with q | ⟨o, q⟩
 ·exact hb (.inl q)
 ·exact hb (.inr (I.frn b o q).2.1)
theorem fn_callK {F : Fx} (hF : F.Ok) {k n : Nat} {fa : Addr} {args : List Dt} {ret : Dt} (h : FnOkK k F.w F.T n fa args ret) (hk : k ≤ F.C.t0) (hn : n ≤ F.n) {as : List AV} {S : Sy} {Q : AV → Sy → Prop} (ha : toDs as = some args) (hq : Q (ofD ret) S) : SmL F (.ref fa) as S Q := by
 rintro s ρ fv vs I rfl hvs
 have hD := toDs_ok hvs ha
 refine wpAny_mono (h.2 F.A F.E s (fun a => F.C.bd a ∨ a ∈ ρ) vs (hF.room.le hn) (hF.stk I fun _ => .inl) (Nat.lt_of_lt_of_le hF.pos I.tk) (Nat.le_trans hk I.tk) (fun b o ho => ?_) (fun a ha => ?_) (hD.mono fun a o x => ⟨x.1, fun y => y.elim x.2.1 x.2.2⟩)) (fun v s' y ht => ?_) fun _ _ e => e
 ·refine el02 (hF.top b o ho) fun t1 t2 => ?_
  refine ⟨I.up b o t1, fun y => ?_⟩
  rcases y with (y | y) | y
  ·subst y; exact I.new _ t1
  ·exact t2 y
  ·exact (I.fresh b y).2.1 _ t1
 ·rcases ha with (ha | ha) | ha
  ·subst ha; obtain ⟨m, hm, _⟩ := I.ns; exact Heap.Ns.some hm
  ·exact I.old a ha
  ·exact I.has ha
 ·refine el02 (y) fun y1 y4 => ?_
  refine el02 (I.stay hF y1 ht) fun z1 z2 => ?_
  exact ⟨_, S, ρ, hq, z1, Is.ofD (y4.mono fun a o z => ⟨z.1, fun q => z.2 (.inl q), fun q => z.2 (.inr q)⟩), z2⟩
theorem fn_call {F : Fx} (hF : F.Ok) {n : Nat} {fa : Addr} {args : List Dt} {ret : Dt} (h : FnOk F.w F.T n fa args ret) (hn : n ≤ F.n) {as : List AV} {S : Sy} {Q : AV → Sy → Prop} (ha : toDs as = some args) (hq : Q (ofD ret) S) : SmL F (.ref fa) as S Q :=
 fn_callK hF h (Nat.zero_le _) hn ha hq
noncomputable def RetD (ret : Dt) : Fl → Sy → Prop
 | .ret v, S => toD S.own v = some ret
 | .next, _ => ret = .none
 | _, _ => False
theorem lookup_zip {names : List Str} {us : List Value} (hnd : names.Nodup) : ∀ (i : Nat) (x : Str) (u : Value), names[i]? = some x → us[i]? = some u → (names.zip us).reverse.lookup x = some u := by
 intro i x u h1 h2
 have key : ∀ (l : List (Str × Value)), (l.map (·.1)).Nodup → (x, u) ∈ l → l.lookup x = some u := by
  intro l
  induction l with
  | nil => intro _ h; contradiction
  | cons p r ih =>
   intro hn hm
   rw [List.map_cons, List.nodup_cons] at hn
   rcases List.mem_cons.mp hm with rfl | hm
   ·simp
   ·have : (x == p.1) = false := by
     refine beq_eq_false_iff_ne.mpr fun q => hn.1 ?_
     rw [← q]; exact List.mem_map.mpr ⟨_, hm, rfl⟩
    rw [List.lookup_cons, this]; exact ih hn.2 hm
 refine key _ ?_ ?_
 ·rw [List.map_reverse]
  refine List.pairwise_reverse.mpr (List.Pairwise.imp (fun h => Ne.symm h) ?_)
  have : ∀ (a : List Str) (b : List Value), a.Nodup → ((a.zip b).map (·.1)).Nodup := by
   intro a
   induction a with
   | nil => intro b _; simp
   | cons y r ih =>
    intro b hn
    induction b with
    | nil => simp
    | cons z t =>
     rw [List.nodup_cons] at hn
     simp only [List.zip_cons_cons, List.map_cons, List.nodup_cons]
     refine ⟨fun hm => hn.1 ?_, ih t hn.2⟩
     refine el12 (List.mem_map.mp hm) fun q hq e => ?_
     have := (List.of_mem_zip hq).1
     rw [e] at this; exact this
  exact this names us hnd
 ·rw [List.mem_reverse]
  refine List.mem_of_getElem? (i := i) ?_
  rw [List.getElem?_zip_eq_some]
  exact ⟨h1, h2⟩
noncomputable abbrev fs0 (names : List Str) (avs : List AV) (rest : List Str) : Fs := names.zip (avs.map some) ++ rest.map fun x => (x, none)
noncomputable def Hd (F : Fx) : Prop := (∃ outer, F.A.frames = some (F.C.env :: outer)) ∧ F.C.env.frame = some F.C.env.locals
theorem fn_of_semH {k : Nat} {w : World} {T : Addr → Obj → Prop} {gl : Str → Option AV} (hT : TopOk w T gl) {fa : Addr} {fd : FuncData} (hfn : FnAt T fa fd) {n : Nat} {body : List Stmt} {sc : Scope} {args : List Dt} {ret : Dt} {names rest : List Str} {avs : List AV}
  (hbody : fd.body = .stmts body) (hsc : fd.scope = sc)
  (hcell : (sc.names.all fun x => decide (x.2 ≠ .cell)) = true) (hloc : (names.all fun x => decide (sc.names.lookup x = some .local)) = true) (hk : sc.kind = .function) (hco : sc.isCoroutine = false) (hgen : sc.isGenerator = false)
  (hnd : decide (names ++ rest).Nodup = true) (hlen : avs.length = names.length)
  (hbind : ∀ (s : Shared) (B : Addr → Prop) (vs : List Value), (∀ b o, T b o → s.heap.get? b = some o ∧ ¬ B b) → IsL s.heap B [] (args.map ofD) vs → ∃ us, BindsTo s fd ⟨vs, []⟩ (names.zip us) ∧ IsL s.heap B [] avs us)
  (vc : ∀ (A : Around) (C : Cx) (E : Value → Shared → Prop), k ≤ C.t0 → (Fx.mk w A C E sc gl T n).Ok → Hd (Fx.mk w A C E sc gl T n) → SemSs ⟨w, A, C, E, sc, gl, T, n⟩ body ⟨fs0 names avs rest, []⟩ (RetD ret)) : FnOkK k w T (n + 1) fa args ret := by
 refine el12 (hfn.obj) fun o ho hd => ?_
 refine ⟨⟨o, fd, ho, hd⟩, fun A E s B vs hrm hst hp hk0 hup hB hvs => ?_⟩
 have hnd' : (names ++ rest).Nodup := of_decide_eq_true hnd
 have hargs : IsL s.heap B [] (args.map ofD) vs := by
  have : ∀ {vs : List Value} {ds : List Dt}, IsDs (fun a o => s.heap.get? a = some o ∧ ¬ B a) vs ds → IsL s.heap B [] (ds.map ofD) vs := by
   intro vs
   induction vs with
   | nil => intro ds h; cases h; exact .nil
   | cons v r ih => intro ds h; cases h with | cons x y => exact .cons (Is.ofD (x.mono fun a o z => ⟨z.1, z.2, by simp⟩)) (ih y)
  exact this hvs
 refine el12 (hbind s B vs hup hargs) fun us hbt hus => ?_
 subst hsc
 have hcd : s.heap.CodeRec fd.code fd.qualname := by
  refine el44 (hfn.code) fun c oc cs t e1 e2 e3 e4 => ?_
  exact ⟨c, oc, cs, t, e1, (hup _ _ e2).1, e3, e4⟩
 have hlim : s.heap.NoLimit := (hT.lim s.heap fun a o h => (hup a o h).1).1
 refine wpAny_call (codeAny_call_def (by have := hrm.2.1; show A.depth < 1000; exact nl1 [_, _] (.add vr0 (.add vr1 (.num 1))) (.num 990) (.add vr0 (.num 1)) (.num 1000) rfl this) (hup _ _ ho).1 hd hlim hcd hbody hbt (fun x hx => by simpa using List.all_eq_true.mp hcell x hx) (fun x hx => ?_) (fun h₀ hns hk₀ => ?_) hco hgen hk)
 ·have := (List.of_mem_zip hx).1
  exact of_decide_eq_true (List.all_eq_true.mp hloc _ this)
 ·have hL : s.heap.get? s.heap.objs.size = none := by
   cases q : s.heap.get? s.heap.objs.size with
   | none => rfl
   | some ob => exact absurd rfl (Nat.ne_of_lt (Heap.lt_size q))
  have nfr : ∀ b o, T b o → ¬ frA A b := fun b o hb q => by
   refine el12 (hst) fun l h1 h2 => ?_
   refine el23 (q) fun l' e q1 q2 q3 => ?_
   rw [h1] at q1; obtain rfl := Option.some.inj q1
   obtain ⟨_, L, o', e1, _, _, e4⟩ := h2 e q2
   rw [e1] at q3; cases q3
   exact (hup b o hb).2 e4
  let C : Cx := ⟨callEnv fd s.heap.objs.size fa, B, fun b o => s.heap.get? b = some o ∧ ¬ frA A b, fun b o => s.heap.get? b = some o ∧ frA A b, s.toks, s.gens, s.os, []⟩
  have hIs : ∀ {av v}, Is s.heap B [] av v → Is h₀ C.bd [] av v := fun {av v} x => by
   have x' : Is s.heap C.bd [] av v := by
    cases av <;> first | exact x | skip
    exact IsD.mono (fun a o z => ⟨z.1, fun q => q.elim (fun q => by rw [q] at z; have := z.1; change s.heap.get? s.heap.objs.size = some o at this; rw [hL] at this; contradiction) z.2.1, z.2.2⟩) x
   exact x'.keeps fun b o _ _ e => hk₀ b o e
  have I : Rx C (fs0 names avs rest) [] [] { s with heap := h₀, toks := s.toks + (names.zip us).length } := by
   refine ⟨⟨_, hns, fun p hp v e => ?_⟩, ?_, fun b o e => hk₀ b o e.1, fun o e => ?_, rfl, fun k ao e => by simp at e, fun a h => by simp at h, by simp, fun a h => ?_, rfl, rfl, fun b o h => ⟨o.slots, hk₀ b o h.1⟩, fun b o h => ⟨fun q => ?_, ?_, fun o' q => q.2 h.2⟩, Nat.le_add_right _ _, ⟨[], rfl⟩⟩
   ·rcases List.mem_append.mp hp with hp | hp
    ·refine el11 (List.getElem?_of_mem hp) fun i hi => ?_
     refine el02 (List.getElem?_zip_eq_some.mp hi) fun h1 h2 => ?_
     rw [List.getElem?_map] at h2
     refine el12 (Option.map_eq_some_iff.mp h2) fun av h3 h4 => ?_
     rw [e] at h4; obtain rfl := Option.some.inj h4
     refine el12 (hus.get i h3) fun u h5 h6 => ?_
     exact ⟨u, lookup_zip (List.nodup_append.mp hnd').1 i _ _ h1 h5, hIs h6⟩
    ·obtain ⟨x, _, rfl⟩ := List.mem_map.mp hp; contradiction
   ·have : (fs0 names avs rest).map (·.1) = names ++ rest := by
     have h1 : (names.zip (avs.map some)).map (·.1) = names := by
      rw [List.map_fst_zip]; simp [hlen]
     show List.map (fun p : Str × Option AV => p.1) (names.zip (avs.map some) ++ rest.map fun x => (x, none)) = _
     rw [List.map_append, h1, List.map_map]
     congr 1
     exact List.map_id _
    rw [this]; exact hnd'
   ·have e := e.1; change s.heap.get? s.heap.objs.size = some o at e; rw [hL] at e; contradiction
   ·obtain ⟨o, e⟩ := hB a h; exact ⟨o, hk₀ _ _ e⟩
   ·have e := h.1; rw [q] at e; change s.heap.get? s.heap.objs.size = some o at e; rw [hL] at e; contradiction
   ·refine el12 (hst) fun l h1 h2 => ?_
    refine el23 (h.2) fun l' e q1 q2 q3 => ?_
    rw [h1] at q1; obtain rfl := Option.some.inj q1
    obtain ⟨_, L, o', e1, _, _, e4⟩ := h2 e q2
    rw [e1] at q3; obtain rfl := Option.some.inj q3
    exact e4
  have hFok : ∀ E', (Fx.mk w (A.deeper (callEnv fd s.heap.objs.size fa)) C E' fd.scope gl T n).Ok := fun E' => by
   refine ⟨?_, hp, rfl, hk, hrm.deeper, fun a o h => ⟨⟨(hup a o h).1, nfr a o h⟩, (hup a o h).2⟩, hT.lim, fun x v s' env g1 g2 h1 h2 => ?_, hT.cls⟩
   ·refine el12 (hst) fun l h1 h2 => ?_
    refine ⟨_, Around.frames_deeper h1, fun e he => ?_⟩
    rcases List.mem_cons.mp he with rfl | he
    ·exact ⟨(by show fd.scope.kind ≠ .module; rw [hk]; exact fun q => nomatch q), _, rfl, .inl rfl⟩
    ·obtain ⟨g1, L, o', e1, e2, e3, e4⟩ := h2 e he
     exact ⟨g1, L, e1, .inr ⟨o', ⟨e2, l, e, h1, he, e1⟩, e3⟩⟩
   refine el12 (hT.gl x v s' env (g1.trans hfn.glob) (g2.trans hfn.blt) (fun b o h => h1 b o ⟨(hup b o h).1, nfr b o h⟩) h2) fun v' e1 e2 => ?_
   exact ⟨v', e1, e2⟩
  have hHd : ∀ E', Hd (Fx.mk w (A.deeper (callEnv fd s.heap.objs.size fa)) C E' fd.scope gl T n) := fun E' => by
   refine el12 (hst) fun l h1 _ => ?_
   exact ⟨⟨l, Around.frames_deeper h1⟩, rfl⟩
  refine Sm.go (vc _ C _ hk0 (hFok _) (hHd _)) I fun f' S' f s' ρ' q I' hf x => ?_
  have fin : ∀ v, IsD (fun b o => s'.heap.get? b = some o ∧ ¬ B b) v ret → Stay A s s' ∧ IsD (fun a o => s'.heap.get? a = some o ∧ ¬ B a) v ret :=
   fun v hv => ⟨⟨fun b o h e => I'.up b o ⟨e, h⟩, fun b o h e => I'.frs b o ⟨e, h⟩, I'.gens, I'.os⟩, hv⟩
  induction f' with
  | next => subst hf; change ret = .none at q; subst q; exact fin _ .none
  | brk => exact q.elim
  | cont => exact q.elim
  | ret v => obtain ⟨v', rfl, hv⟩ := hf; exact fin _ (toD_ok I' q hv)
theorem fn_of_semK {k : Nat} {w : World} {T : Addr → Obj → Prop} {gl : Str → Option AV} (hT : TopOk w T gl) {fa : Addr} {fd : FuncData} (hfn : FnAt T fa fd) {n : Nat} {body : List Stmt} {sc : Scope} {args : List Dt} {ret : Dt} {names rest : List Str} {avs : List AV}
  (hbody : fd.body = .stmts body) (hsc : fd.scope = sc)
  (hcell : (sc.names.all fun x => decide (x.2 ≠ .cell)) = true) (hloc : (names.all fun x => decide (sc.names.lookup x = some .local)) = true) (hk : sc.kind = .function) (hco : sc.isCoroutine = false) (hgen : sc.isGenerator = false)
  (hnd : decide (names ++ rest).Nodup = true) (hlen : avs.length = names.length)
  (hbind : ∀ (s : Shared) (B : Addr → Prop) (vs : List Value), (∀ b o, T b o → s.heap.get? b = some o ∧ ¬ B b) → IsL s.heap B [] (args.map ofD) vs → ∃ us, BindsTo s fd ⟨vs, []⟩ (names.zip us) ∧ IsL s.heap B [] avs us)
  (vc : ∀ (A : Around) (C : Cx) (E : Value → Shared → Prop), k ≤ C.t0 → (Fx.mk w A C E sc gl T n).Ok → SemSs ⟨w, A, C, E, sc, gl, T, n⟩ body ⟨fs0 names avs rest, []⟩ (RetD ret)) : FnOkK k w T (n + 1) fa args ret :=
 fn_of_semH hT hfn hbody hsc hcell hloc hk hco hgen hnd hlen hbind fun A C E h1 h2 _ => vc A C E h1 h2
theorem fn_of_vcK {k : Nat} {w : World} {T : Addr → Obj → Prop} {gl : Str → Option AV} (hT : TopOk w T gl) {fa : Addr} {fd : FuncData} (hfn : FnAt T fa fd) {n m : Nat} {body : List Stmt} {sc : Scope} {args : List Dt} {ret : Dt} {names rest : List Str} {avs : List AV}
  (hbody : fd.body = .stmts body) (hsc : fd.scope = sc)
  (hcell : (sc.names.all fun x => decide (x.2 ≠ .cell)) = true) (hloc : (names.all fun x => decide (sc.names.lookup x = some .local)) = true) (hk : sc.kind = .function) (hco : sc.isCoroutine = false) (hgen : sc.isGenerator = false)
  (hnd : decide (names ++ rest).Nodup = true) (hlen : avs.length = names.length)
  (hbind : ∀ (s : Shared) (B : Addr → Prop) (vs : List Value), (∀ b o, T b o → s.heap.get? b = some o ∧ ¬ B b) → IsL s.heap B [] (args.map ofD) vs → ∃ us, BindsTo s fd ⟨vs, []⟩ (names.zip us) ∧ IsL s.heap B [] avs us)
  (vc : ∀ (A : Around) (C : Cx) (E : Value → Shared → Prop), k ≤ C.t0 → (Fx.mk w A C E sc gl T n).Ok → (run ⟨w, A, C, E, sc, gl, T, n⟩ m).xs body ⟨fs0 names avs rest, []⟩ (RetD ret)) : FnOkK k w T (n + 1) fa args ret :=
 fn_of_semK hT hfn hbody hsc hcell hloc hk hco hgen hnd hlen hbind fun A C E h0 hF => (run_ok hF m).xs (vc A C E h0 hF)
noncomputable def CutQ (P : Sy → Prop) (Q : Fl → Sy → Prop) : Fl → Sy → Prop
 | .next, S => Leaf (P S)
 | f, S => Q f S
theorem sem_cut {F : Fx} (hF : F.Ok) (m : Nat) {t : Stmt} {rest : List Stmt} {S : Sy} {Q : Fl → Sy → Prop} (P : Sy → Prop) (h1 : x1 F (run F m) t S (CutQ P Q)) (h2 : ∀ S₁, P S₁ → SemSs F rest S₁ Q) : SemSs F (t :: rest) S Q := by
 intro s ρ I
 refine wpAny_execs_cons (Sm.go (x1_ok hF (run_ok hF m) h1) I fun f S₁ f' s₁ ρ₁ q I₁ hf x₁ => ?_)
 induction f with
 | next => subst hf; exact Sm.done (h2 S₁ q.out) I₁ x₁
 | brk => subst hf; exact fun _ => ⟨.brk, S₁, ρ₁, q, I₁, rfl, x₁⟩
 | cont => subst hf; exact fun _ => ⟨.cont, S₁, ρ₁, q, I₁, rfl, x₁⟩
 | ret v => obtain ⟨v', rfl, hv⟩ := hf; exact fun _ => ⟨.ret v, S₁, ρ₁, q, I₁, ⟨v', rfl, hv⟩, x₁⟩
theorem fn_of_vc {w : World} {T : Addr → Obj → Prop} {gl : Str → Option AV} (hT : TopOk w T gl) {fa : Addr} {fd : FuncData} (hfn : FnAt T fa fd) {n m : Nat} {body : List Stmt} {sc : Scope} {args : List Dt} {ret : Dt} {names rest : List Str} {avs : List AV}
  (hbody : fd.body = .stmts body) (hsc : fd.scope = sc)
  (hcell : (sc.names.all fun x => decide (x.2 ≠ .cell)) = true) (hloc : (names.all fun x => decide (sc.names.lookup x = some .local)) = true) (hk : sc.kind = .function) (hco : sc.isCoroutine = false) (hgen : sc.isGenerator = false)
  (hnd : decide (names ++ rest).Nodup = true) (hlen : avs.length = names.length)
  (hbind : ∀ (s : Shared) (B : Addr → Prop) (vs : List Value), (∀ b o, T b o → s.heap.get? b = some o ∧ ¬ B b) → IsL s.heap B [] (args.map ofD) vs → ∃ us, BindsTo s fd ⟨vs, []⟩ (names.zip us) ∧ IsL s.heap B [] avs us)
  (vc : ∀ (A : Around) (C : Cx) (E : Value → Shared → Prop), (Fx.mk w A C E sc gl T n).Ok → (run ⟨w, A, C, E, sc, gl, T, n⟩ m).xs body ⟨fs0 names avs rest, []⟩ (RetD ret)) : FnOk w T (n + 1) fa args ret :=
 fn_of_vcK hT hfn hbody hsc hcell hloc hk hco hgen hnd hlen hbind fun A C E _ => vc A C E
end
section
theorem br_true {c : Bool} {P R : Prop} (h : c = true) (p : P) : Bool.rec (motive := fun _ => Prop) R P c := by subst h; exact p
theorem br_false {c : Bool} {P R : Prop} (h : c = false) (p : R) : Bool.rec (motive := fun _ => Prop) R P c := by subst h; exact p
theorem br_mk {c : Bool} {P R : Prop} (t : c = true → P) (f : c = false → R) : Bool.rec (motive := fun _ => Prop) R P c := by
 induction c with
 | true => exact t rfl
 | false => exact f rfl
theorem bool_rfl {a b : Bool} (h : a = b) : a = b := h
noncomputable def FnIs (T : Addr → Obj → Prop) (fa : Addr) (f : Arguments × List Stmt × Scope) (df : Value) : Prop :=
 ∃ nm qn kd dc pm an cd ct, FnAt T fa (fdAt f nm qn df kd dc pm an cd ct)
noncomputable def scB (sc : Scope) (names rest : List Str) : Bool := sc.names.all (fun x => decide (x.2 ≠ .cell)) && names.all (fun x => decide (sc.names.lookup x = some .local)) && decide (sc.kind = .function) && !sc.isCoroutine && !sc.isGenerator && decide (names ++ rest).Nodup
structure ScB (sc : Scope) (names rest : List Str) : Prop where
 cell : (sc.names.all fun x => decide (x.2 ≠ .cell)) = true
 loc : (names.all fun x => decide (sc.names.lookup x = some .local)) = true
 k : sc.kind = .function
 co : sc.isCoroutine = false
 gen : sc.isGenerator = false
 nd : decide (names ++ rest).Nodup = true
theorem scB_ok {sc : Scope} {names rest : List Str} (h : scB sc names rest = true) : ScB sc names rest := by
 simp only [scB, Bool.and_eq_true, Bool.not_eq_true'] at h
 exact ⟨h.1.1.1.1.1, h.1.1.1.1.2, of_decide_eq_true h.1.1.1.2, h.1.1.2, h.1.2, h.2⟩
theorem fnI {k : Nat} {w : World} {T : Addr → Obj → Prop} {gl : Str → Option AV} (hT : TopOk w T gl) {fa : Addr} {f : Arguments × List Stmt × Scope} {df : Value} (hfn : FnIs T fa f df) {n : Nat} {args : List Dt} {ret : Dt} {names rest : List Str} {avs : List AV} (hck : scB f.2.2 names rest = true) (hlen : avs.length = names.length)
  (hbind : ∀ nm qn kd dc pm an cd ct (s : Shared) (B : Addr → Prop) (vs : List Value), (∀ b o, T b o → s.heap.get? b = some o ∧ ¬ B b) → IsL s.heap B [] (args.map ofD) vs → ∃ us, BindsTo s (fdAt f nm qn df kd dc pm an cd ct) ⟨vs, []⟩ (names.zip us) ∧ IsL s.heap B [] avs us)
  (vc : ∀ (A : Around) (C : Cx) (E : Value → Shared → Prop), k ≤ C.t0 → (Fx.mk w A C E f.2.2 gl T n).Ok → Hd (Fx.mk w A C E f.2.2 gl T n) → SemSs ⟨w, A, C, E, f.2.2, gl, T, n⟩ f.2.1 ⟨fs0 names avs rest, []⟩ (RetD ret)) : FnOkK k w T (n + 1) fa args ret := by
 have c := scB_ok hck
 obtain ⟨nm, qn, kd, dc, pm, an, cd, ct, h⟩ := hfn
 exact fn_of_semH hT h rfl rfl c.cell c.loc c.k c.co c.gen c.nd hlen (hbind nm qn kd dc pm an cd ct) vc
theorem IsL.one {h : Heap} {B : Addr → Prop} {ρ : List Addr} {a : AV} {vs : List Value} (x : IsL h B ρ [a] vs) : ∃ v, vs = [v] ∧ Is h B ρ a v := by
 cases x with | cons p q => cases q; exact ⟨_, rfl, p⟩
theorem IsL.two {h : Heap} {B : Addr → Prop} {ρ : List Addr} {a b : AV} {vs : List Value} (x : IsL h B ρ [a, b] vs) : ∃ v u, vs = [v, u] ∧ Is h B ρ a v ∧ Is h B ρ b u := by
 cases x with | cons p q => obtain ⟨u, rfl, r⟩ := IsL.one q; exact ⟨_, _, rfl, p, r⟩
theorem IsL.three {h : Heap} {B : Addr → Prop} {ρ : List Addr} {a b c : AV} {vs : List Value} (x : IsL h B ρ [a, b, c] vs) : ∃ v u t, vs = [v, u, t] ∧ Is h B ρ a v ∧ Is h B ρ b u ∧ Is h B ρ c t := by
 cases x with | cons p q => obtain ⟨u, t, rfl, r⟩ := IsL.two q; exact ⟨_, _, _, rfl, p, r⟩
theorem bind1 {s : Shared} {B : Addr → Prop} {ρ : List Addr} {fd : FuncData} {names : List Str} {a : AV} {vs : List Value} (h : IsL s.heap B ρ [a] vs) (hb : ∀ v, bindArgs fd ⟨[v], []⟩ = pure (names.zip [v])) : ∃ us, BindsTo s fd ⟨vs, []⟩ (names.zip us) ∧ IsL s.heap B ρ [a] us := by
 obtain ⟨v, rfl, _⟩ := IsL.one h; exact ⟨[v], BindsTo.of_eq (hb v), h⟩
theorem bind2 {s : Shared} {B : Addr → Prop} {ρ : List Addr} {fd : FuncData} {names : List Str} {a b : AV} {vs : List Value} (h : IsL s.heap B ρ [a, b] vs) (hb : ∀ v u, bindArgs fd ⟨[v, u], []⟩ = pure (names.zip [v, u])) : ∃ us, BindsTo s fd ⟨vs, []⟩ (names.zip us) ∧ IsL s.heap B ρ [a, b] us := by
 obtain ⟨v, u, rfl, _⟩ := IsL.two h; exact ⟨[v, u], BindsTo.of_eq (hb v u), h⟩
theorem bind3 {s : Shared} {B : Addr → Prop} {ρ : List Addr} {fd : FuncData} {names : List Str} {a b c : AV} {vs : List Value} (h : IsL s.heap B ρ [a, b, c] vs) (hb : ∀ v u t, bindArgs fd ⟨[v, u, t], []⟩ = pure (names.zip [v, u, t])) : ∃ us, BindsTo s fd ⟨vs, []⟩ (names.zip us) ∧ IsL s.heap B ρ [a, b, c] us := by
 obtain ⟨v, u, t, rfl, _⟩ := IsL.three h; exact ⟨[v, u, t], BindsTo.of_eq (hb v u t), h⟩
end
section
set_option tactic.hygienic true
noncomputable def LpQ (nx : Sy → Prop) (Q : Fl → Sy → Prop) : Fl → Sy → Prop
 | .next, S => Leaf (nx S)
 | .cont, S => Leaf (nx S)
 | .brk, S => Q .next S
 | .ret v, S => Q (.ret v) S
noncomputable abbrev Fx.at' (F : Fx) (C : Cx) (E : Value → Shared → Prop) : Fx := ⟨F.w, F.A, C, E, F.sc, F.gl, F.T, F.n⟩
theorem Fx.Ok.at' {F : Fx} (hF : F.Ok) (E : Value → Shared → Prop) : (F.at' F.C E).Ok := ⟨hF.frm, hF.pos, hF.sc, hF.kind, hF.room, hF.top, hF.lim, hF.gl, hF.cls⟩
theorem while_ok {F : Fx} (hF : F.Ok) {test : Expr} {body : List Stmt} {pos : Pos} {S : Sy} {Q : Fl → Sy → Prop} (k : Nat) (J : Nat → Sy → Prop) {n : Nat} (h0 : J n S)
  (turn : ∀ E' n S, (F.at' F.C E').Ok → J n S → (run (F.at' F.C E') k).vt test S fun c S₁ => br c ((run (F.at' F.C E') k).xs body S₁ (LpQ (fun S₂ => ∃ m, m < n ∧ J m S₂) Q)) (Q .next S₁)) : Leaf (SemS F (.While test body [] pos) S Q) := by
 refine ⟨fun s ρ I => ?_⟩
 refine wpAny_While ?_
 refine codeAny_whileLoop (fun n s' => ∃ S' ρ', J n S' ∧ Rx F.C S'.fs S'.own ρ' s' ∧ Ext F.C.bd s.heap ρ s'.heap ρ') ?_ n ⟨S, ρ, h0, I, Ext.refl⟩
 rintro n s' ⟨S', ρ', hJ, I', x'⟩
 have hF' := fun E' => hF.at' E'
 refine wpAny_mono (Sm.get (F := F.at' F.C fun _ _ => False) ((run_ok (hF' _) k).vt (turn (fun _ _ => False) n S' (hF' _) hJ)) I') (fun b s₂ h => ?_) (fun _ _ x => x.elim)
 refine Pg.el (h) fun c S₁ ρ₁ q I₁ hc x₁ => ?_
 subst hc
 have := br_ite q
 cases b with
 | false =>
  simp only [Bool.false_eq_true, if_false] at this ⊢
  exact wpAny_execs_nil fun _ => ⟨.next, S₁, ρ₁, this, I₁, rfl, x'.trans x₁⟩
 | true =>
  simp only [if_true] at this ⊢
  refine wpAny_mono (Sm.get (F := F.at' F.C fun _ _ => False) ((run_ok (hF' (fun _ _ => False)) k).xs this) I₁) (fun f s₃ h₃ => ?_) (fun _ _ x => x.elim)
  refine Pg.el (h₃) fun f' S₂ ρ₂ q₂ I₂ hf x₂ => ?_
  have xx := (x'.trans x₁).trans x₂
  cases f' with
  | next => subst hf; obtain ⟨m, hm, hj⟩ := q₂.out; exact ⟨m, hm, S₂, ρ₂, hj, I₂, xx⟩
  | cont => subst hf; obtain ⟨m, hm, hj⟩ := q₂.out; exact ⟨m, hm, S₂, ρ₂, hj, I₂, xx⟩
  | brk => subst hf; exact fun _ => ⟨.next, S₂, ρ₂, q₂, I₂, rfl, xx⟩
  | ret v => obtain ⟨v', rfl, hv⟩ := hf; exact fun _ => ⟨.ret v, S₂, ρ₂, q₂, I₂, ⟨v', rfl, hv⟩, xx⟩
noncomputable def itemsOf : AV → Option (List AV)
 | .str x => some (x.cps.toList.map fun c => .str ⟨#[c]⟩)
 | .dat (.list ds) => some (ds.map ofD)
 | .dat (.tup ds) => some (ds.map ofD)
 | .dat (.rng n) => if n ≤ 1000 then some ((List.range n).map fun i => .int ((i : Nat) : Int)) else none
 | _ => none
noncomputable def ownedIt (n : String) : Bool := ["enumerate", "zip", "dict_itemiterator", "dict_reverseitemiterator", "odict_iterator", "itertools.zip_longest", "itertools.pairwise"].contains n
inductive Goes (w : World) (A : Around) (C : Cx) (ρ : List Addr) (items : List AV) (s s₁ : Shared) (I : Addr) : Prop
 | mk (fp wr : List Addr) (P : Nat → Value → Prop) (St : Nat → Heap → Prop) (W : Walks pr w A I fp wr items.length P St) (h0 : St 0 s₁.heap) (hwr : ∀ b ∈ wr, s.heap.get? b = none) (hex : ∀ i h, St i h → ∀ b ∈ fp, ∃ o, h.get? b = some o) (hcl : ∀ i h, St i h → ∃ o n, h.get? I = some o ∧ o.cls = .type n ∧ ownedIt n = false) (hfp : ∀ b ∈ fp, (∃ o, s₁.heap.get? b = some o) ∧ ¬ C.bd b ∧ b ∉ ρ)
  (hP : ∀ i v, i < items.length → P i v → ∃ a, items[i]? = some a ∧ Is s.heap C.bd ρ a v) : Goes w A C ρ items s s₁ I
theorem iter_ok {F : Fx} (hF : F.Ok) {S : Sy} {s : Shared} {ρ : List Addr} {a : AV} {v : Value} {items : List AV} {Q : Value → Shared → Prop} {E : Value → Shared → Prop} (I : Rx F.C S.fs S.own ρ s) (hv : Is s.heap F.C.bd ρ a v) (hi : itemsOf a = some items)
  (k : ∀ o, Goes F.w F.A F.C ρ items s { s with heap := s.heap.push o } s.heap.objs.size → Q (.ref s.heap.objs.size) { s with heap := s.heap.push o }) : wpAny (model pr F.w) F.A (pyIter v) Q E s := by
 refine NsR.el (I.ns) fun m hm _ => ?_
 have hno : s.heap.get? s.heap.objs.size = none := by
  cases q : s.heap.get? s.heap.objs.size with
  | none => rfl
  | some ob => exact absurd rfl (Nat.ne_of_lt (Heap.lt_size q))
 have hnL : ¬ F.C.bd s.heap.objs.size := fun q => by
  rcases q with q | q
  ·exact Nat.lt_irrefl _ (q ▸ hm.lt)
  ·obtain ⟨o, e⟩ := I.old _ q; rw [hno] at e; contradiction
 have hnρ : s.heap.objs.size ∉ ρ := fun q => by
  refine el11 (List.getElem?_of_mem q) fun i hi => ?_
  have hl : i < S.own.length := I.len ▸ (List.getElem?_eq_some_iff.mp hi).1
  obtain ⟨a', ob, e1, e2, _⟩ := I.mine i _ (List.getElem?_eq_getElem hl)
  rw [hi] at e1; obtain rfl := Option.some.inj e1
  rw [hno] at e2; contradiction
 unfold itemsOf at hi
 split at hi
 ·obtain rfl := Option.some.inj hi
  rename_i x
  obtain ⟨t, rfl⟩ := hv
  have hlen : (List.map (fun c => AV.str ⟨#[c]⟩) x.cps.toList).length = x.cps.size := by simp
  have key : ∀ (o : Obj) (St : Nat → Heap → Prop), o.isFreed = false → Walks pr F.w F.A s.heap.objs.size [s.heap.objs.size] [s.heap.objs.size] x.cps.size (SignAt x) St → (∀ i h, St i h → ∃ o n, h.get? s.heap.objs.size = some o ∧ o.cls = .type n ∧ ownedIt n = false) → St 0 (s.heap.push o) → Q (.ref s.heap.objs.size) { s with heap := s.heap.push o } := fun o St hfr W hex hst => by
   refine k o ⟨[s.heap.objs.size], [s.heap.objs.size], SignAt x, St, by rw [hlen]; exact W, hst, fun b hb => ?_, (fun i h y b hb => by simp at hb; subst hb; obtain ⟨o, _, e, _⟩ := hex i h y; exact ⟨o, e⟩), hex, fun b hb => ?_, fun i v hil hp => ?_⟩
   ·simp at hb; subst hb; exact hno
   ·simp at hb; subst hb
    exact ⟨⟨o, Heap.get?_push_size _ hfr⟩, hnL, hnρ⟩
   ·obtain ⟨c, u, hc, rfl⟩ := hp
    refine ⟨.str ⟨#[c]⟩, ?_, ⟨u, rfl⟩⟩
    rw [List.getElem?_map, Array.getElem?_toList, hc]; rfl
  cases ha : x.cps.all (· < 128)
  ·exact wpAny_pyIter_wide ha (key _ _ rfl (Walks.strWide hF.room.1 _ x t) (fun _ _ y => by obtain ⟨o, e, c, _⟩ := y; exact ⟨o, _, e, c, by decide +kernel⟩) ⟨_, Heap.get?_push_size _ rfl, rfl, rfl⟩)
  ·exact wpAny_pyIter_ascii ha (key _ _ rfl (Walks.strAscii hF.room.1 _ x t) (fun _ _ y => by obtain ⟨o, e, c, _⟩ := y; exact ⟨o, _, e, c, by decide +kernel⟩) ⟨_, Heap.get?_push_size _ rfl, rfl, rfl⟩)
 ·obtain rfl := Option.some.inj hi
  rename_i ds
  cases hv with
  | list hp hds =>
   rename_i ax vs n
   have hne : ax ≠ s.heap.objs.size := Nat.ne_of_lt (Heap.lt_size hp.1)
   refine wpAny_pyIter_list ⟨_, hp.1, rfl, n, rfl⟩ (k _ ⟨[s.heap.objs.size, ax], [s.heap.objs.size], fun i v => vs[i]? = some v, fun i h => h.IsListIter s.heap.objs.size ax i ∧ h.IsList ax vs, ?_, ⟨⟨_, Heap.get?_push_size _ rfl, rfl, rfl⟩, _, Heap.get?_push_of_some _ hp.1, rfl, n, rfl⟩, fun b hb => ?_, (fun _ _ y b hb => by
    obtain ⟨⟨o, e, _⟩, o', e', _⟩ := y
    simp at hb; rcases hb with rfl | rfl
    ·exact ⟨o, e⟩
    ·exact ⟨o', e'⟩), (fun _ _ y => by obtain ⟨⟨o, e, c, _⟩, _⟩ := y; exact ⟨o, _, e, c, by decide +kernel⟩), fun b hb => ?_, fun i v hil hx => ?_⟩)
   ·have := Walks.list (prog := pr) (w := F.w) hF.room.1 s.heap.objs.size ax hne vs
    rwa [show vs.size = (ds.map ofD).length by rw [List.length_map, ← hds.length]; simp] at this
   ·simp at hb; subst hb; exact hno
   ·simp at hb
    rcases hb with rfl | rfl
    ·exact ⟨⟨_, Heap.get?_push_size _ rfl⟩, hnL, hnρ⟩
    ·exact ⟨⟨_, Heap.get?_push_of_some _ hp.1⟩, hp.2.1, hp.2.2⟩
   ·obtain ⟨d, e1, e2⟩ := hds.get i (v := v) (by rw [Array.getElem?_toList]; exact hx)
    exact ⟨ofD d, by rw [List.getElem?_map, e1]; rfl, Is.ofD e2⟩
 ·obtain rfl := Option.some.inj hi
  rename_i ds
  cases hv with
  | tup hp hds =>
   rename_i ax vs n
   have hne : ax ≠ s.heap.objs.size := Nat.ne_of_lt (Heap.lt_size hp.1)
   refine wpAny_pyIter_tuple ⟨_, hp.1, rfl, n, rfl⟩ (k _ ⟨[s.heap.objs.size, ax], [s.heap.objs.size], fun i v => vs[i]? = some v, fun i h => h.IsTupleIter s.heap.objs.size ax i ∧ h.IsTuple ax vs, ?_, ⟨⟨_, Heap.get?_push_size _ rfl, rfl, rfl⟩, _, Heap.get?_push_of_some _ hp.1, rfl, n, rfl⟩, fun b hb => ?_, (fun _ _ y b hb => by
    obtain ⟨⟨o, e, _⟩, o', e', _⟩ := y
    simp at hb; rcases hb with rfl | rfl
    ·exact ⟨o, e⟩
    ·exact ⟨o', e'⟩), (fun _ _ y => by obtain ⟨⟨o, e, c, _⟩, _⟩ := y; exact ⟨o, _, e, c, by decide +kernel⟩), fun b hb => ?_, fun i v hil hx => ?_⟩)
   ·have := Walks.tuple (prog := pr) (w := F.w) hF.room.1 s.heap.objs.size ax hne vs
    rwa [show vs.size = (ds.map ofD).length by rw [List.length_map, ← hds.length]; simp] at this
   ·simp at hb; subst hb; exact hno
   ·simp at hb
    rcases hb with rfl | rfl
    ·exact ⟨⟨_, Heap.get?_push_size _ rfl⟩, hnL, hnρ⟩
    ·exact ⟨⟨_, Heap.get?_push_of_some _ hp.1⟩, hp.2.1, hp.2.2⟩
   ·obtain ⟨d, e1, e2⟩ := hds.get i (v := v) (by rw [Array.getElem?_toList]; exact hx)
    exact ⟨ofD d, by rw [List.getElem?_map, e1]; rfl, Is.ofD e2⟩
 ·rename_i n
  split at hi
  ·rename_i hn
   obtain rfl := Option.some.inj hi
   cases hv with
   | rng hp =>
    rename_i ax t u v
    have hlen : (List.map (fun i => AV.int ((i : Nat) : Int)) (List.range n)).length = n := by simp
    have hsz : Builtin.Range.rangeSize 0 (n : Int) 1 = (n : Int) := by
     unfold Builtin.Range.rangeSize
     by_cases q : n = 0
     ·subst q; rfl
     ·rw [if_pos (by lia), if_pos (by lia)]; lia
    have hsm : Builtin.Range.small 0 (n : Int) 1 = true := by
     have key : ∀ n, n < 1001 → Builtin.Range.small 0 ((n : Nat) : Int) 1 = true := by decide +kernel
     exact key n (by exact nl1 [_] vr0 (.num 1000) (.add vr0 (.num 1)) (.num 1001) rfl hn)
    refine wpAny_pyIter_range hp.1 hsm ?_
    rw [hsz]
    refine k _ ⟨[s.heap.objs.size], [s.heap.objs.size], _, _, by rw [hlen]; exact Walks.range hF.room.1 _ 0 1 n, ?_, fun b hb => ?_, (fun _ _ y b hb => by simp at hb; subst hb; exact ⟨_, y⟩), (fun _ _ y => ⟨_, _, y, rfl, by decide +kernel⟩), fun b hb => ?_, fun i v hil hx => ?_⟩
    ·show Heap.get? _ _ = _
     simp
     exact Heap.get?_push_size _ rfl
    ·simp at hb; subst hb; exact hno
    ·simp at hb; subst hb
     exact ⟨⟨_, Heap.get?_push_size _ rfl⟩, hnL, hnρ⟩
    ·obtain ⟨t, rfl⟩ := hx
     rw [hlen] at hil
     refine ⟨.int (i : Int), ?_, ⟨t, by simp⟩⟩
     simp [hil]
  ·contradiction
 ·contradiction
theorem Is.map {h h' : Heap} {B B' : Addr → Prop} {ρ : List Addr} (k : ∀ a o, Frz h B ρ a o → Frz h' B' ρ a o) {av : AV} {v : Value} (x : Is h B ρ av v) : Is h' B' ρ av v := x.map' fun a o _ => k a o
theorem IsO.map {h h' : Heap} {B B' : Addr → Prop} {ρ : List Addr} (k : ∀ a o, Frz h B ρ a o → Frz h' B' ρ a o) {ao : AO} {o : Obj} (x : IsO h B ρ ao o) : IsO h' B' ρ ao o := x.map' fun a o _ => k a o
theorem Rx.to {C C' : Cx} {fs : Fs} {own : List AO} {ρ : List Addr} {s s' : Shared} (I : Rx C fs own ρ s) (he : C'.env = C.env ∧ C'.r0 = C.r0) (hL : ∀ o, s.heap.get? C.env.locals = some o → s'.heap.get? C.env.locals = some o)
  (hρ : ∀ a ∈ ρ, ∀ o, s.heap.get? a = some o → s'.heap.get? a = some o) (hfz : ∀ a o, Frz s.heap C.bd ρ a o → Frz s'.heap C'.bd ρ a o)
  (up : ∀ b o, C'.keep b o → s'.heap.get? b = some o) (new : ∀ o, ¬ C'.keep C.env.locals o) (fresh : ∀ a ∈ ρ, (∀ o, ¬ C'.keep a o) ∧ ¬ C'.bad a) (old : ∀ a, C'.bad a → ∃ o, s'.heap.get? a = some o) (hg : s'.gens = C'.g) (ho : s'.os = C'.o)
  (frs : ∀ b o, C'.fr b o → ∃ sl, s'.heap.get? b = some { o with slots := sl }) (frn : ∀ b o, C'.fr b o → b ≠ C.env.locals ∧ C'.bad b ∧ ∀ o', ¬ C'.keep b o') (tk : C'.t0 ≤ s'.toks) : Rx C' fs own ρ s' := by
 refine NsR.el (I.ns) fun m hm hf => ?_
 refine ⟨⟨m, he.1 ▸ hm.at' hL, fun p hp v e => let ⟨v', e1, e2⟩ := hf p hp v e; ⟨v', e1, e2.map hfz⟩⟩, I.nd, up, he.1 ▸ new, I.len, fun k ao e => ?_, fun a ha => ⟨he.1 ▸ (I.fresh a ha).1, fresh a ha⟩, I.apart, old, hg, ho, frs, he.1 ▸ frn, tk, by rw [he.2]; exact I.pr⟩
 refine Own1.el (I.mine k ao e) fun a o e1 e2 e3 => ?_
 exact ⟨a, o, e1, hρ a (List.mem_of_getElem? e1) o e2, e3.map hfz⟩
noncomputable def tgL (l : List Expr) : Option (Str × Str) :=
 match l with
 | [] => none
 | a :: l => (exNm a).bind fun x => match l with
  | [] => none
  | b :: l => (exNm b).bind fun y => match l with
   | [] => some (x, y)
   | _ :: _ => none
noncomputable def tg2 (e : Expr) : Option (Str × Str) :=
 match e with
 | .Tuple l _ _ => tgL l
 | _ => none
theorem tg2_eq {e : Expr} {x y : Str} (h : tg2 e = some (x, y)) : ∃ p p' c p'', e = .Tuple [.Name x p, .Name y p'] c p'' := by
 cases e with
 | Tuple l c p'' =>
  change tgL l = _ at h
  unfold tgL at h
  cases l with
  | nil => contradiction
  | cons a l =>
   refine el12 (Option.bind_eq_some_iff.mp h) fun x' h1 h => ?_
   cases l with
   | nil => contradiction
   | cons b l =>
    refine el12 (Option.bind_eq_some_iff.mp h) fun y' h2 h => ?_
    cases l with
    | nil =>
     cases h
     obtain ⟨p, rfl⟩ := exNm_eq h1
     obtain ⟨p', rfl⟩ := exNm_eq h2
     exact ⟨p, p', c, p'', rfl⟩
    | cons _ _ => contradiction
 | _ => contradiction
noncomputable def prL (l : List Dt) : Option (Dt × Dt) :=
 match l with
 | [] => none
 | a :: l => match l with
  | [] => none
  | b :: l => match l with
   | [] => some (a, b)
   | _ :: _ => none
noncomputable def pr2 (a : AV) : Option (Dt × Dt) :=
 match a with
 | .dat d => (match d with | .tup l => prL l | _ => none)
 | _ => none
theorem pr2_eq {a : AV} {d e : Dt} (h : pr2 a = some (d, e)) : a = .dat (.tup [d, e]) := by
 cases a with
 | dat x => cases x with
  | tup l =>
   change prL l = _ at h
   unfold prL at h
   cases l with
   | nil => contradiction
   | cons a l => cases l with
    | nil => contradiction
    | cons b l => cases l with
     | nil => cases h; rfl
     | cons _ _ => contradiction
  | _ => contradiction
 | _ => contradiction
noncomputable def stT (F : Fx) (tg : Expr) (a : AV) (S : Sy) (Q : Sy → Prop) : Prop :=
 match exNm tg with
 | some x => st F x a S Q
 | none => match tg2 tg with
  | none => False
  | some n => match pr2 a with
   | none => False
   | some v => st F n.1 (ofD v.1) S fun S₁ => st F n.2 (ofD v.2) S₁ Q
theorem stT_ok {F : Fx} (hF : F.Ok) {tg : Expr} {a : AV} {S : Sy} {Q : Sy → Prop} (h : stT F tg a S Q) {s : Shared} {ρ : List Addr} {v : Value} {P : Unit → Shared → Prop} (I : Rx F.C S.fs S.own ρ s) (hv : Is s.heap F.C.bd ρ a v)
  (k : ∀ S₁ s₁, Q S₁ → Rx F.C S₁.fs S₁.own ρ s₁ → Ext F.C.bd s.heap ρ s₁.heap ρ → P () s₁) : wpAny (model pr F.w) F.A (assign tg F.C.env v) P F.E s := by
 unfold stT at h
 cases e1 : exNm tg with
 | some x =>
  rw [e1] at h
  obtain ⟨p, rfl⟩ := exNm_eq e1
  rw [PySem.assign_Name]
  exact wpAny_bind (wpAny_standAt (wpAny_bindName (st_ok hF h I hv k)))
 | none =>
  rw [e1] at h
  cases e2 : tg2 tg with
  | none => rw [e2] at h; exact h.elim
  | some nn =>
  rw [e2] at h
  cases e3 : pr2 a with
  | none => rw [e3] at h; exact h.elim
  | some dd =>
  rw [e3] at h
  obtain ⟨x, y⟩ := nn
  obtain ⟨d, e⟩ := dd
  dsimp only at h
  obtain ⟨p, p', k', p'', rfl⟩ := tg2_eq e2
  obtain rfl := pr2_eq e3
  cases hv with | tup hp hds => ?_
  rename_i ad vs n
  obtain ⟨vs⟩ := vs
  cases hds with | cons h1 hds => ?_
  cases hds with | cons h2 hds => ?_
  cases hds
  rename_i u1 u2
  refine wpAny_assign_Tuple hF.room.1 (items := #[u1, u2]) ⟨_, hp.1, rfl, n, rfl⟩ rfl rfl fun h' hx => ?_
  have hk : ∀ b o, s.heap.get? b = some o → h'.get? b = some o := fun b o e => hx b o (Nat.ne_of_lt (Heap.lt_size e)) e
  have I₁ : Rx F.C S.fs S.own ρ { s with heap := h' } := I.keeps hk rfl rfl I.tk
  have x₁ : Ext F.C.bd s.heap ρ h' ρ := Ext.keeps fun b o _ _ e => hk b o e
  show wpAny _ _ (assignInOrder [assign (.Name x p) F.C.env, assign (.Name y p') F.C.env] [u1, u2]) _ _ _
  unfold assignInOrder
  rw [PySem.assign_Name]
  refine wpAny_bind (wpAny_holding (wpAny_bind (wpAny_standAt (wpAny_bindName (st_ok hF h I₁ ((Is.ofD h1).ext x₁) fun S₁ s₁ q₁ I₂ x₂ => ?_)))))
  unfold assignInOrder
  rw [PySem.assign_Name]
  refine wpAny_bind (wpAny_holding (wpAny_bind (wpAny_standAt (wpAny_bindName (st_ok hF q₁ I₂ (((Is.ofD h2).ext x₁).ext x₂) fun S₂ s₂ q₂ I₃ x₃ => ?_)))))
  unfold assignInOrder
  exact wpAny_pure (k S₂ s₂ q₂ I₃ ((x₁.trans x₂).trans x₃))
theorem letGo_ok {M : Model} {A : Around} {E : Value → Shared → Prop} {s : Shared} {tg : Expr} {I : Addr} {v : Value} {P : Unit → Shared → Prop} {o : Obj} {n : String} (ho : s.heap.get? I = some o) (hc : o.cls = .type n) (hn : ownedIt n = false) (h : P () s) :
  wpAny M A (letOwnedTupleGo tg (.ref I) v) P E s := by
 have key : wpAny M A (letOwnedTupleGo (.Tuple [] 0 default) (.ref I) v) P E s := by
  induction v with
  | ref a =>
   delta letOwnedTupleGo
   dsimp only
   refine wpAny_bind (wpAny_load ho ?_)
   rw [hc]
   rcases o.data with _ | _ | _ | _ | _ | _ | _ | _ | _ | vs | _
   case fields =>
    dsimp only
    rw [show (["enumerate", "zip", "dict_itemiterator", "dict_reverseitemiterator", "odict_iterator", "itertools.zip_longest", "itertools.pairwise"].contains n) = false from hn]
    exact wpAny_pure h
   all_goals exact wpAny_pure h
  | _ => exact wpAny_pure h
 apply Expr.casesOn (motive_1 := fun tg => wpAny M A (letOwnedTupleGo tg (.ref I) v) P E s) tg
 all_goals first
  | (intros; exact wpAny_pure h)
  | (intros; exact key)
end
section
set_option tactic.hygienic true
section
variable {prog : Program} {w : World} {A : Around} {E : Value → Shared → Prop} {s : Shared}
theorem nextOf_tuple_item {it t : Addr} {i : Nat} {items : Array Value} {x : Value} {Q : Value → Shared → Prop} (hit : s.heap.IsTupleIter it t i) (ht : s.heap.IsTuple t items) (hx : items[i]? = some x)
  (hQ : ∀ h', h'.IsTupleIter it t (i + 1) → Heap.SameBut it s.heap h' → Q x { s with heap := h' }) : wpAny (model prog w) A (Builtin.SmallTypes.nextOf (.ref it)) Q E s := by
 refine el13 (id hit) fun o ho hc hd => ?_
 obtain ⟨ol, hol, _, nl, hdl⟩ := ht
 unfold Builtin.SmallTypes.nextOf
 refine wpAny_bind (wpAny_callSpecial?_slot (name := Str.ofString "__next__") hit.typeIs F.slot_tuple_iterator_next
  (wpAny_call_entry F.slot_tuple_iterator_next hit.typeIs F.entry_tuple_iterator_next ?_ (F.args_tuple_iterator_next_1 _)))
 show wpAny _ _ (field (.ref it) 0 >>= _) _ _ s
 refine wpAny_bind (wpAny_field ho hd (x := .ref t) rfl ?_)
 show wpAny _ _ (if (Value.ref t == Value.none) = true then _ else _) _ _ s
 rw [if_neg (show ¬ ((Value.ref t == Value.none) = true) from Bool.false_ne_true)]
 show wpAny _ _ (field (.ref it) 1 >>= _) _ _ s
 refine wpAny_bind (wpAny_field ho hd (x := .int i 0) rfl ?_)
 show wpAny _ _ (seqItems? (.ref t) >>= _) _ _ s
 refine wpAny_bind (wpAny_seqItems hol hdl ?_)
 simp only [Int.toNat_natCast, hx]
 refine wpAny_bind (wpAny_setField ho hd (by simp) (wpAny_pure ⟨x, rfl, wpAny_pure (hQ _ ?_ (Heap.SameBut.update ..))⟩))
 exact ⟨_, Heap.get?_update_self _ ho (Obj.isFreed_of_fields (Obj.data_mapFields hd _)), (Obj.cls_mapFields ..).trans hc, by
  rw [Obj.data_mapFields hd]; simp [rawInt]⟩
theorem nextOf_tuple_end {it t : Addr} {i : Nat} {items : Array Value} {Q : Value → Shared → Prop} (hh : A.handled = none) (hit : s.heap.IsTupleIter it t i) (ht : s.heap.IsTuple t items) (hx : items[i]? = none)
  (hE : ∀ h' e, Heap.ExtBut it s.heap h' → (∃ o, h'.get? e = some o ∧ o.cls = .type "StopIteration") → E (.ref e) { s with heap := h' }) : wpAny (model prog w) A (Builtin.SmallTypes.nextOf (.ref it)) Q E s := by
 refine el13 (id hit) fun o ho hc hd => ?_
 obtain ⟨ol, hol, _, nl, hdl⟩ := ht
 unfold Builtin.SmallTypes.nextOf
 refine wpAny_bind (wpAny_callSpecial?_slot (name := Str.ofString "__next__") hit.typeIs F.slot_tuple_iterator_next
  (wpAny_call_entry F.slot_tuple_iterator_next hit.typeIs F.entry_tuple_iterator_next ?_ (F.args_tuple_iterator_next_1 _)))
 show wpAny _ _ (field (.ref it) 0 >>= _) _ _ s
 refine wpAny_bind (wpAny_field ho hd (x := .ref t) rfl ?_)
 show wpAny _ _ (if (Value.ref t == Value.none) = true then _ else _) _ _ s
 rw [if_neg (show ¬ ((Value.ref t == Value.none) = true) from Bool.false_ne_true)]
 show wpAny _ _ (field (.ref it) 1 >>= _) _ _ s
 refine wpAny_bind (wpAny_field ho hd (x := .int i 0) rfl ?_)
 show wpAny _ _ (seqItems? (.ref t) >>= _) _ _ s
 refine wpAny_bind (wpAny_seqItems hol hdl ?_)
 simp only [Int.toNat_natCast, hx]
 refine wpAny_bind (wpAny_rule (wpAny_bind (wpAny_setField ho hd (by simp) ?_)))
 show wpAny _ _ (newExc (.type "StopIteration") [] >>= _) _ _ _
 refine wpAny_bind ?_
 simp only [newExc, newTuple]
 refine wpAny_bind (wpAny_newObj_type ?_ (by size_fits))
 refine wpAny_bind (m := firstArgMember _ _) (wpAny_of_eq (a := Value.none) (by first | rfl | (simp only [firstArgMember]; rfl)) ?_)
 refine wpAny_newObj_type ?_ (by size_fits)
 simp only [raiseNew]
 refine wpAny_bind (wpAny_handled ?_)
 first | rw [show A.in1.handled = none from hh] | rw [hh]
 refine wpAny_bind (wpAny_pure (wpAny_throw ?_))
 exact hE _ _ (((Heap.SameBut.update ..).extBut.push _).push _) ⟨_, Heap.get?_push_size _ rfl, rfl⟩
end
theorem drawsTuple {prog : Program} {w : World} {A : Around} (hh : A.handled = none) (it t : Addr) (hne : t ≠ it) (items : Array Value) :
  Draws prog w A it [it, t] items.size (fun i v => items[i]? = some v) (fun i h => h.IsTupleIter it t i ∧ h.IsTuple t items) where
 live := fun _ _ st => let ⟨o, ho, _⟩ := st.1; ⟨o, ho⟩
 frame := fun _ _ _ st hk => ⟨(let ⟨o, ho, r⟩ := st.1; ⟨o, hk it (by simp) _ ho, r⟩), (let ⟨o, ho, r⟩ := st.2; ⟨o, hk t (by simp) _ ho, r⟩)⟩
 item := fun i s Q E hi st hQ => by
  refine nextOf_tuple_item st.1 st.2 (x := items[i]) (by simp [hi]) fun h' hit' hs' => ?_
  exact hQ _ h' s.toks (by simp [hi]) ⟨hit', st.2.extBut hs'.extBut hne⟩ hs'
 done := fun s Q E st hE => nextOf_tuple_end hh st.1 st.2 (by simp) hE
theorem meets_enum_tuple (l : Addr) (items : Array Value) (n : Nat) :
  Meets (Builtin.«enumerate.__new__» ⟨[.type "enumerate", .ref l], []⟩) (fun _ R s => s.heap.get? l = some { cls := .type "tuple", dict := none, data := .seq items n, slots := #[] } ∧
   R (.ok (.ret (.ref (s.heap.push { cls := .type "tuple_iterator", data := .fields #[.ref l, .int 0 0] }).objs.size)))
    { s with heap := (s.heap.push { cls := .type "tuple_iterator", data := .fields #[.ref l, .int 0 0] }).push { cls := .type "enumerate", data := .fields #[.none, .bool false, .ref s.heap.objs.size, rawInt 0, .none, .none] } }) :=
 .of_wp fun prog w A R s h => by
  obtain ⟨hp, g, d, tk, os⟩ := s; refine el02 (h) fun hl h => ?_
  have hsub := sub_enumerate
  have hL : Heap.IsTuple (Shared.heap ⟨hp, g, d, tk, os⟩) l items := ⟨_, hl, rfl, n, rfl⟩
  wp_walk using AutoSeq1.wpAny_loadPart' hl
  refine wpAny_stack_any fun st => wpAny_pure ?_
  split
  ·rename_i c _ _ _ _ _
   cases (c == Value.type "enumerate")
   ·wp_walk using AutoSeq1.wpAny_loadPart' hl, wpAny_pyIter_tuple hL
    exact ⟨_, rfl, h⟩
   ·wp_walk using AutoSeq1.wpAny_loadPart' hl, wpAny_pyIter_tuple hL
    exact ⟨_, rfl, h⟩
  ·wp_walk using AutoSeq1.wpAny_loadPart' hl, wpAny_pyIter_tuple hL
   exact ⟨_, rfl, h⟩
theorem call_enum_tuple {prog : Program} {w : World} {A : Around} {E : Value → Shared → Prop} {s : Shared} {l : Addr} {items : Array Value} {n : Nat} {Q : Value → Shared → Prop}
  (hl : s.heap.get? l = some { cls := .type "tuple", dict := none, data := .seq items n, slots := #[] })
  (h : ∀ h', IsEnum h' (s.heap.objs.size + 1) s.heap.objs.size 0 .none → h'.IsTupleIter s.heap.objs.size l 0 → h'.objs.size = s.heap.objs.size + 2 →
   (∀ b o, s.heap.get? b = some o → h'.get? b = some o) → Q (.ref (s.heap.objs.size + 1)) { s with heap := h' }) :
  wpAny (model prog w) A (call (.type "enumerate") [.ref l]) Q E s := by
 refine callType_new F.called_enumerate (by decide) (F.typeCall_enumerate_1 _) (F.newCall_enumerate_1 _) (fun obj => F.args_object_init_2 obj _) F.entry_enumerate_new
  (meets_enum_tuple l items n) ⟨hl, ?_⟩
 have hz : (s.heap.push { cls := .type "tuple_iterator", data := .fields #[.ref l, .int 0 0] }).objs.size = s.heap.objs.size + 1 := Heap.size_push ..
 show _ ∧ _
 rw [hz]
 have he : IsEnum ((s.heap.push { cls := .type "tuple_iterator", data := .fields #[.ref l, .int 0 0] }).push
   { cls := .type "enumerate", data := .fields #[.none, .bool false, .ref s.heap.objs.size, rawInt 0, .none, .none] }) (s.heap.objs.size + 1) s.heap.objs.size 0 .none := by
  have := Heap.get?_push_size (s.heap.push { cls := .type "tuple_iterator", data := .fields #[.ref l, .int 0 0] })
   (o := { cls := .type "enumerate", data := .fields #[.none, .bool false, .ref s.heap.objs.size, rawInt 0, .none, .none] }) rfl
  rw [hz] at this; exact this
 refine ⟨⟨_, he, rfl⟩, h _ he ⟨_, Heap.get?_push_of_some _ (Heap.get?_push_size _ rfl), rfl, rfl⟩ (by rw [Heap.size_push, hz]) fun b o x => Heap.get?_push_of_some _ (Heap.get?_push_of_some _ x)⟩
end
section
theorem for_enum {F : Fx} (hF : F.Ok) {x y en tb : Str} {px py pt p1 p2 p3 : Pos} {kk : Nat} {body orelse : List Stmt} {pos : Pos} {S : Sy} {Q : Fl → Sy → Prop} (k : Nat) (J : Nat → Sy → Prop) {ta : Addr} {vs : Array Value} {nn : Nat} {ds : List Dt}
  (hs : ∀ v, foldedSetIterable (.Call (.Name en p1) [.Name tb p2] [] p3) F.C.env v = pure v) (hen : nm F en S fun v S₁ => Leaf (v = .typ "enumerate" ∧ S₁ = S)) (htb : nm F tb S fun v S₁ => Leaf (v = .ref ta ∧ S₁ = S)) (hta : F.T ta { cls := .type "tuple", data := .seq vs nn }) (hds : IsDs F.T vs.toList ds) (h0 : J 0 S)
  (turn : ∀ C' E' i d S, (F.at' C' E').Ok → ds[i]? = some d → J i S → stT (F.at' C' E') (.Tuple [.Name x px, .Name y py] kk pt) (.dat (.tup [.int i, d])) S fun S₁ => (run (F.at' C' E') k).xs body S₁ (LpQ (J (i + 1)) Q))
  (fin : ∀ E' S, (F.at' F.C E').Ok → J ds.length S → (run (F.at' F.C E') k).xs orelse S Q) : Leaf (SemS F (.For (.Tuple [.Name x px, .Name y py] kk pt) (.Call (.Name en p1) [.Name tb p2] [] p3) body orelse pos) S Q) := by
 refine ⟨fun s ρ I => ?_⟩
 refine wpAny_For (Call_Name rfl (Sm.go (nm_ok hF hen) I fun fv S₁ f' sA ρA q IA hv xA => ?_)) hs
 obtain ⟨rfl, rfl⟩ := q.out
 subst hv
 refine PySem.callWith_type rfl (evalArgs_plain (spliced_cons (Sm.go (nm_ok hF htb) IA fun tv S₁ t' s₁ ρ₁ q I₁ hv xB => spliced_nil ?_)))
 obtain ⟨rfl, rfl⟩ := q.out
 subst hv
 have x₁ := xA.trans xB
 have hTk := I₁.up _ _ (hF.top _ _ hta).1
 refine call_enum_tuple hTk fun h₂ hE hI hsz hkp => ?_
 refine wpAny_pyIter_enum hE ?_
 have hvsl : vs.size = ds.length := by have := hds.length; simpa using this
 have hnone : ∀ a, s₁.heap.objs.size ≤ a → s₁.heap.get? a = none := fun a ha => by
  cases e : s₁.heap.get? a with
  | none => rfl
  | some o' => exact absurd (Heap.lt_size e) (Nat.not_lt.mpr ha)
 refine NsR.el (I₁.ns) fun m₁ hm₁ _ => ?_
 have htl := Heap.lt_size hTk
 obtain ⟨e, he⟩ : ∃ e, s₁.heap.objs.size + 1 = e := ⟨_, rfl⟩
 obtain ⟨it, hit⟩ : ∃ it, s₁.heap.objs.size = it := ⟨_, rfl⟩
 have hei : e ≠ it := by rw [← he, ← hit]; exact Nat.succ_ne_self _
 have hti : ta ≠ it := hit ▸ Nat.ne_of_lt htl
 have hte : ta ≠ e := he ▸ Nat.ne_of_lt (Nat.lt_succ_of_lt htl)
 have hen1 : s₁.heap.get? e = none := hnone e (by rw [← he]; exact Nat.le_succ _)
 have hin1 : s₁.heap.get? it = none := hnone it (by rw [← hit]; exact Nat.le_refl _)
 rw [he, hit] at hE
 rw [hit] at hI
 rw [he]
 have D := drawsTuple (prog := pr) (w := F.w) (A := F.A.in1) hF.room.1 it ta hti vs
 have hef : e ∉ [it, ta] := by simp; exact ⟨hei, hte.symm⟩
 let St : Nat → Heap → Prop := fun i h => (∃ old, IsEnum h e it i old) ∧ h.IsTupleIter it ta i ∧ h.IsTuple ta vs
 have hst : St 0 h₂ := ⟨⟨_, hE⟩, hI, ⟨_, hkp _ _ hTk, rfl, nn, rfl⟩⟩
 let wr : List Addr := [e, it]
 have hwr : ∀ b ∈ wr, s₁.heap.get? b = none := fun b hb => by
  rcases List.mem_cons.mp hb with rfl | hb
  ·exact hen1
  ·rw [List.mem_singleton.mp hb]; exact hin1
 have out : ∀ {b ob}, s₁.heap.get? b = some ob → b ∉ wr := fun {b ob} q hb => by rw [hwr b hb] at q; contradiction
 have bdx : ∀ b, F.C.bd b → ∃ o, s₁.heap.get? b = some o := fun b hb => hb.elim (fun q => by rw [q]; exact Heap.Ns.some hm₁) (I₁.old b)
 have nbd : ∀ b, s₁.heap.get? b = none → ¬ F.C.bd b := fun b hb q => by obtain ⟨o, z⟩ := bdx b q; rw [hb] at z; contradiction
 have hwx : ∀ i h, St i h → ∀ b ∈ wr, ∃ o, h.get? b = some o := fun i h y b hb => by
  obtain ⟨⟨old, y1⟩, ⟨o, y2, _⟩, _⟩ := y
  rcases List.mem_cons.mp hb with rfl | hb
  ·exact ⟨_, y1⟩
  ·rw [List.mem_singleton.mp hb]; exact ⟨o, y2⟩
 have tbd : ¬ F.C.bd ta := fun q => q.elim (fun q => I₁.new _ (q ▸ (hF.top _ _ hta).1)) (hF.top _ _ hta).2
 let Cb : Cx := ⟨F.C.env, fun a => F.C.bad a ∨ a ∈ wr, F.C.keep, F.C.fr, F.C.t0, F.C.g, F.C.o, F.C.r0⟩
 have frw : ∀ b o, F.C.fr b o → b ∉ wr := fun b o h => by obtain ⟨sl, z⟩ := I₁.frs b o h; exact out z
 have bdb : ∀ {a}, ¬ F.C.bd a → a ∉ wr → ¬ Cb.bd a := fun h1 h2 h3 => h3.elim (fun q => h1 (.inl q)) fun q => q.elim (fun q => h1 (.inr q)) h2
 have bdw : ∀ {a}, ¬ Cb.bd a → ¬ F.C.bd a := fun h1 h2 => h1 (h2.elim .inl fun q => .inr (.inl q))
 have I₂ : Rx Cb S₁.fs S₁.own ρ₁ { s₁ with heap := h₂ } := by
  refine I₁.to ⟨rfl, rfl⟩ (fun _ z => hkp _ _ z) (fun _ _ _ z => hkp _ _ z) (fun a ob y => ⟨hkp _ _ y.1, bdb y.2.1 (out y.1), y.2.2⟩) (fun b ob z => hkp _ _ (I₁.up b ob z)) I₁.new
   (fun a ha => ⟨(I₁.fresh a ha).2.1, fun q => q.elim (I₁.fresh a ha).2.2 fun q => let ⟨_, z⟩ := I₁.has ha; out z q⟩) (fun a ha => ?_) I₁.gens I₁.os (fun b o h => let ⟨sl, z⟩ := I₁.frs b o h; ⟨sl, hkp _ _ z⟩) (fun b o h => ⟨(I₁.frn b o h).1, .inl (I₁.frn b o h).2.1, (I₁.frn b o h).2.2⟩) I₁.tk
  rcases ha with ha | ha
  ·obtain ⟨ob, z⟩ := I₁.old a ha; exact ⟨ob, hkp _ _ z⟩
  ·exact hwx _ _ hst a ha
 have back : ∀ {S' : Sy} {ρ' : List Addr} {s' : Shared}, Rx Cb S'.fs S'.own ρ' s' → Rx F.C S'.fs S'.own ρ' s' := fun {S' ρ' s'} I' =>
  I'.to ⟨rfl, rfl⟩ (fun _ e => e) (fun _ _ _ e => e) (fun a ob y => ⟨y.1, bdw y.2.1, y.2.2⟩) I'.up I'.new (fun a ha => ⟨(I'.fresh a ha).2.1, fun q => (I'.fresh a ha).2.2 (.inl q)⟩) (fun a ha => I'.old a (.inl ha)) I'.gens I'.os I'.frs I₁.frn I'.tk
 have backx : ∀ {ρ' : List Addr} {h' : Heap}, Ext Cb.bd h₂ ρ₁ h' ρ' → Ext F.C.bd s.heap ρ h' ρ' := fun {ρ' h'} y =>
  ⟨(let ⟨t₁, e₁⟩ := x₁.1; let ⟨t₂, e₂⟩ := y.1; ⟨t₁ ++ t₂, by rw [e₂, e₁, List.append_assoc]⟩),
   fun a ob z => by
   have z₁ := x₁.2 a ob z
   have z₂ := y.2 a ob ⟨hkp _ _ z₁.1, bdb z₁.2.1 (out z₁.1), z₁.2.2⟩
   exact ⟨z₂.1, bdw z₂.2.1, z₂.2.2⟩⟩
 refine codeAny_forLoop_any (fun n s' => ∃ i S' ρ', n = ds.length + 1 - i ∧ i ≤ ds.length ∧ J i S' ∧ Rx Cb S'.fs S'.own ρ' s' ∧ Ext Cb.bd h₂ ρ₁ s'.heap ρ' ∧ St i s'.heap ∧ ∀ b ∈ wr, b ∉ ρ') ?_ (ds.length + 1)
  ⟨0, S₁, ρ₁, rfl, Nat.zero_le _, h0, I₂, Ext.refl, hst, fun b hb q => let ⟨_, z⟩ := I₁.has q; out z hb⟩
 rintro n s' ⟨i, S', ρ', rfl, hi, hJ, I', x', hst', hwρ⟩
 obtain ⟨⟨old, hEn⟩, hIt, hTp⟩ := id hst'
 refine wp_gen fun QA EA hQA _ => ?_
 by_cases hlt : i < ds.length
 ·refine wp_tk I'.tk ?_
  refine wpAny_pyNext_enum_itemD D hEn ⟨hIt, hTp⟩ (by rw [hvsl]; exact hlt) hei hef fun xv h' tk hPx hOut hSt' hTobj _ hk ht => ?_
  change F.C.t0 ≤ tk + 1 at ht
  refine hQA _ _ ?_
  refine wpAny_letOwnedTupleGo_enum (s := { s' with heap := h', toks := tk + 1 }) hOut fun h'' hEn'' hs'' => ?_
  refine wp_gen fun QB EB hQB _ => ?_
  have hT0 : s'.heap.get? s'.heap.objs.size = none := by
   cases z : s'.heap.get? s'.heap.objs.size with
   | none => rfl
   | some ob => exact absurd rfl (Nat.ne_of_lt (Heap.lt_size z))
  have hTe : s'.heap.objs.size ≠ e := Nat.ne_of_gt (Heap.lt_size hEn)
  have hkk : ∀ b o, b ∉ wr → s'.heap.get? b = some o → h''.get? b = some o := fun b o hb z =>
   (hs''.2 b fun q => hb (q ▸ List.mem_cons_self)).trans (hk b o (fun q => hb (q ▸ List.mem_cons_self)) (fun q => hb (q ▸ List.mem_cons_of_mem _ (List.mem_singleton.mpr rfl))) z)
  have hst'' : St (i + 1) h'' := ⟨⟨xv, by have := hEn''; rw [show (((i + 1 : Nat)) : Int) = (i : Int) + 1 by omega]; exact this⟩, hSt'.1.extBut hs''.extBut hei.symm, hSt'.2.extBut hs''.extBut hte⟩
  have hTo : h''.get? s'.heap.objs.size = some { cls := .type "tuple", data := .seq #[.int i tk, xv] } := (hs''.2 _ hTe).trans hTobj
  obtain ⟨d, hd, hxd⟩ := hds.get i (v := xv) (by rw [Array.getElem?_toList]; exact hPx)
  have hw : ∀ b ∈ wr, ∃ ob, h''.get? b = some ob := hwx _ _ hst''
  refine NsR.el (I'.ns) fun m' hm' _ => ?_
  have hLw : F.C.env.locals ∉ wr := out (Heap.Ns.some hm₁).choose_spec
  have I₃ : Rx Cb S'.fs S'.own ρ' { s' with heap := h'', toks := tk + 1 } := by
   refine I'.to ⟨rfl, rfl⟩ (fun ob z => hkk _ _ hLw z) (fun a ha ob z => hkk _ _ (fun q => hwρ a q ha) z) (fun a ob y => ⟨hkk _ _ (fun q => y.2.1 (.inr (.inr q))) y.1, y.2⟩)
    (fun b ob z => hkk _ _ (out (I₁.up b ob z)) (I'.up b ob z)) I'.new (fun a ha => (I'.fresh a ha).2) (fun a ha => ?_) I'.gens I'.os (fun b o h => let ⟨sl, z⟩ := I'.frs b o h; ⟨sl, hkk _ _ (frw b o h) z⟩) I'.frn ht
   by_cases q : a ∈ wr
   ·exact hw a q
   ·obtain ⟨ob, z⟩ := I'.old a ha; exact ⟨ob, hkk _ _ q z⟩
  have x₃ : Ext Cb.bd h₂ ρ₁ h'' ρ' := x'.trans (Ext.keeps fun b ob hb _ z => hkk b ob (fun q => hb (.inr (.inr q))) z)
  let Ci : Cx := ⟨F.C.env, fun a => F.C.bad a ∨ a ∈ wr, fun b ob => F.C.keep b ob ∨ (b ∈ wr ∧ h''.get? b = some ob), F.C.fr, F.C.t0, F.C.g, F.C.o, F.C.r0⟩
  have I₄ : Rx Ci S'.fs S'.own ρ' { s' with heap := h'', toks := tk + 1 } :=
   I₃.to ⟨rfl, rfl⟩ (fun _ e => e) (fun _ _ _ e => e) (fun _ _ y => y) (fun b ob z => z.elim (I₃.up b ob) fun q => q.2) (fun ob z => z.elim (I₃.new ob) fun q => hLw q.1)
    (fun a ha => ⟨fun ob z => z.elim ((I₃.fresh a ha).2.1 ob) fun q => hwρ a q.1 ha, (I₃.fresh a ha).2.2⟩) I₃.old I₃.gens I₃.os I₃.frs (fun b o h => ⟨(I₁.frn b o h).1, .inl (I₁.frn b o h).2.1, fun o' z => z.elim ((I₁.frn b o h).2.2 o') fun q => frw b o h q.1⟩) ht
  have hIs₄ : Is h'' Ci.bd ρ' (.dat (.tup [.int i, d])) (.ref s'.heap.objs.size) := by
   refine .tup ⟨hTo, fun q => ?_, fun q => ?_⟩ (.cons (.int _ _) (.cons (hxd.mono fun a o y => ?_) .nil))
   ·rcases q with q | q | q
    ·obtain ⟨o, z⟩ := Heap.Ns.some hm'; change s'.heap.get? F.C.env.locals = some o at z; rw [← show s'.heap.objs.size = F.C.env.locals from q, hT0] at z; contradiction
    ·obtain ⟨o, z⟩ := I'.old _ (.inl q); rw [hT0] at z; contradiction
    ·obtain ⟨o, z⟩ := hwx _ _ hst' _ q; rw [hT0] at z; contradiction
   ·obtain ⟨o, z⟩ := I'.has q; rw [hT0] at z; contradiction
   ·refine el02 (hF.top a o y) fun t1 t2 => ?_
    have z := I₁.up a o t1
    refine ⟨hkk a o (out z) (I'.up a o t1), ?_, fun q => (I'.fresh a q).2.1 o t1⟩
    rintro (q | q | q)
    ·exact I₁.new o (show F.C.keep F.C.env.locals o from q ▸ t1)
    ·exact t2 q
    ·exact out z q
  have hF' : (F.at' Ci (fun _ _ => False)).Ok := ⟨hF.frm, hF.pos, hF.sc, hF.kind, hF.room, fun a ob h => ⟨.inl (hF.top a ob h).1, fun q => q.elim (hF.top a ob h).2 fun q => out (I₁.up a ob (hF.top a ob h).1) q⟩, hF.lim, fun y u s' env g1 g2 h1 h2 => hF.gl y u s' env g1 g2 (fun b ob e => h1 b ob (.inl e)) h2, hF.cls⟩
  refine wpAny_mono (stT_ok hF' (turn Ci (fun _ _ => False) i d S' hF' hd hJ) I₄ hIs₄ (P := fun _ s₃ => ∃ S₂, (run (F.at' Ci fun _ _ => False) k).xs body S₂ (LpQ (J (i + 1)) Q) ∧ Rx Ci S₂.fs S₂.own ρ' s₃ ∧ Ext Ci.bd h'' ρ' s₃.heap ρ') fun S₂ s₃ q₃ I₅ x₅ => ⟨S₂, q₃, I₅, x₅⟩) (fun _ s₃ h₃ => ?_) (fun _ _ e => e.elim)
  refine el13 (h₃) fun S₂ q₃ I₅ x₅ => hQB _ _ (wp_gen fun QC EC hQC _ => ?_)
  refine wpAny_mono (Sm.get (F := F.at' Ci fun _ _ => False) ((run_ok hF' k).xs q₃) I₅) (fun f s₄ h₄ => ?_) (fun _ _ e => e.elim)
  refine Pg.el (h₄) fun f' S₃ ρ₃ q₄ I₆ hf x₆ => ?_
  have I₇ : Rx Cb S₃.fs S₃.own ρ₃ s₄ := I₆.to ⟨rfl, rfl⟩ (fun _ e => e) (fun _ _ _ e => e) (fun _ _ y => y) (fun b ob e => I₆.up b ob (.inl e)) (fun ob e => I₆.new ob (.inl e)) (fun a ha => ⟨fun ob e => (I₆.fresh a ha).2.1 ob (.inl e), (I₆.fresh a ha).2.2⟩) I₆.old I₆.gens I₆.os I₆.frs (fun b o h => ⟨(I₆.frn b o h).1, (I₆.frn b o h).2.1, fun o' e => (I₆.frn b o h).2.2 o' (.inl e)⟩) I₆.tk
  have x₇ : Ext Cb.bd h₂ ρ₁ s₄.heap ρ₃ := (x₃.trans x₅).trans x₆
  have hst4 : St (i + 1) s₄.heap := by
   obtain ⟨⟨o1, y1⟩, ⟨o2, y2, y3⟩, _⟩ := hst''
   exact ⟨⟨o1, I₆.up e _ (.inr ⟨List.mem_cons_self, y1⟩)⟩, ⟨o2, I₆.up it _ (.inr ⟨List.mem_cons_of_mem _ (List.mem_singleton.mpr rfl), y2⟩), y3⟩, ⟨_, I₆.up ta _ (.inl (hF.top _ _ hta).1), rfl, nn, rfl⟩⟩
  have again : J (i + 1) S₃ → ∃ m, m < ds.length + 1 - i ∧ ∃ i S' ρ', m = ds.length + 1 - i ∧ i ≤ ds.length ∧ J i S' ∧ Rx Cb S'.fs S'.own ρ' s₄ ∧ Ext Cb.bd h₂ ρ₁ s₄.heap ρ' ∧ St i s₄.heap ∧ ∀ b ∈ wr, b ∉ ρ' := fun hj =>
   ⟨ds.length + 1 - (i + 1), by exact nl2 [_, _, _, _] (.add vr0 (.add vr1 (.num 1))) (.add vr2 (.num 1)) (.add vr2 (.num 1)) (.add vr3 vr1) (.add vr0 (.num 1)) vr3 rfl (Nat.le_of_eq (Nat.sub_add_cancel (nl1 [_, _] vr0 vr1 (.add vr0 (.num 1)) (.add vr1 (.num 1)) rfl hi))) (Nl.sb _ _), i + 1, S₃, ρ₃, rfl, hlt, hj, I₇, x₇, hst4, fun b hb q => by obtain ⟨ob, z⟩ := hw b hb; exact (I₆.fresh b q).2.1 ob (.inr ⟨hb, z⟩)⟩
  induction f' with
  | next => subst hf; exact hQC _ _ (again q₄.out)
  | cont => subst hf; exact hQC _ _ (again q₄.out)
  | brk => subst hf; exact hQC _ _ fun _ => ⟨.next, S₃, ρ₃, q₄, back I₇, rfl, backx x₇⟩
  | ret u => obtain ⟨u', rfl, hu⟩ := hf; exact hQC _ _ fun _ => ⟨.ret u, S₃, ρ₃, q₄, back I₇, ⟨u', rfl, hu.map fun a ob y => ⟨y.1, bdw y.2.1, y.2.2⟩⟩, backx x₇⟩
 ·have hie : i = ds.length := by exact (Nat.le_antisymm hi (Nat.le_of_not_lt hlt))
  subst hie
  refine wp_tk I'.tk ?_
  refine wpAny_pyNext_enum_endD D hEn (by rw [hvsl]; exact ⟨hIt, hTp⟩) fun h' hex ht => ?_
  change F.C.t0 ≤ s'.toks at ht
  have hk : ∀ b o, b ∉ wr → s'.heap.get? b = some o → h'.get? b = some o := fun b o hb z => hex b o (fun q => hb (q ▸ List.mem_cons_of_mem _ (List.mem_singleton.mpr rfl))) z
  have hLw : F.C.env.locals ∉ wr := out (Heap.Ns.some hm₁).choose_spec
  have I₃ : Rx F.C S'.fs S'.own ρ' { s' with heap := h' } := by
   have I₀ := back I'
   refine I'.to ⟨rfl, rfl⟩ (fun ob z => hk _ _ hLw z) (fun a ha ob z => hk _ _ (fun q => hwρ a q ha) z) (fun a ob y => ⟨hk _ _ (fun q => y.2.1 (.inr (.inr q))) y.1, bdw y.2.1, y.2.2⟩)
    (fun b ob z => hk _ _ (out (I₁.up b ob z)) (I'.up b ob z)) I'.new (fun a ha => (I₀.fresh a ha).2) (fun a ha => ?_) I'.gens I'.os (fun b o h => let ⟨sl, z⟩ := I'.frs b o h; ⟨sl, hk _ _ (frw b o h) z⟩) I₁.frn ht
   refine el11 (I₀.old a ha) fun ob z => ?_
   refine el11 (I₁.old a ha) fun _ z' => ?_
   exact ⟨ob, hk _ _ (out z') z⟩
  have x₃ : Ext Cb.bd h₂ ρ₁ h' ρ' := x'.trans (Ext.keeps fun b ob hb _ z => hk b ob (fun q => hb (.inr (.inr q))) z)
  refine hQA _ _ (wp_gen fun QB EB hQB _ => ?_)
  have hF' := hF.at' (fun _ _ => False)
  refine wpAny_mono (Sm.get (F := F.at' F.C fun _ _ => False) ((run_ok hF' k).xs (fin _ S' hF' hJ)) I₃) (fun f s₄ h₄ => ?_) (fun _ _ e => e.elim)
  refine Pg.el (h₄) fun f' S₃ ρ₃ q₄ I₆ hf x₆ => ?_
  exact hQB _ _ fun _ => ⟨f', S₃, ρ₃, q₄, I₆, hf, (backx x₃).trans x₆⟩
end
section
noncomputable abbrev cxW (C : Cx) (wr : List Addr) : Cx := ⟨C.env, fun a => C.bad a ∨ a ∈ wr, C.keep, C.fr, C.t0, C.g, C.o, C.r0⟩
noncomputable abbrev cxI (C : Cx) (fp wr : List Addr) (h' : Heap) : Cx := ⟨C.env, fun a => C.bad a ∨ a ∈ wr, fun b ob => C.keep b ob ∨ (b ∈ fp ∧ h'.get? b = some ob), C.fr, C.t0, C.g, C.o, C.r0⟩
structure LC (F : Fx) (items : List AV) (S₁ : Sy) (s₁ : Shared) (ρ₁ : List Addr) (Ia : Addr) (h₁ : Heap) (fp wr : List Addr) (P : Nat → Value → Prop) (St : Nat → Heap → Prop) : Prop where
 I₁ : Rx F.C S₁.fs S₁.own ρ₁ s₁
 up : ∀ b o, s₁.heap.get? b = some o → h₁.get? b = some o
 W : Walks pr F.w F.A Ia fp wr items.length P St
 hst : St 0 h₁
 hwr : ∀ b ∈ wr, s₁.heap.get? b = none
 hex : ∀ i h, St i h → ∀ b ∈ fp, ∃ o, h.get? b = some o
 hcl : ∀ i h, St i h → ∃ o n, h.get? Ia = some o ∧ o.cls = .type n ∧ ownedIt n = false
 hfp : ∀ b ∈ fp, (∃ o', h₁.get? b = some o') ∧ ¬ F.C.bd b ∧ b ∉ ρ₁
 hP : ∀ i v, i < items.length → P i v → ∃ a, items[i]? = some a ∧ Is s₁.heap F.C.bd ρ₁ a v
structure LInv (F : Fx) (J : Nat → Sy → Prop) (h₁ : Heap) (ρ₁ : List Addr) (fp wr : List Addr) (St : Nat → Heap → Prop) (i : Nat) (s' : Shared) (S' : Sy) (ρ' : List Addr) : Prop where
 j : J i S'
 rx : Rx (cxW F.C wr) S'.fs S'.own ρ' s'
 ext : Ext (cxW F.C wr).bd h₁ ρ₁ s'.heap ρ'
 st : St i s'.heap
 fx : ∀ b ∈ fp, (∃ ob, s'.heap.get? b = some ob) ∧ b ≠ F.C.env.locals ∧ b ∉ ρ'
section
variable {F : Fx} {items : List AV} {S₁ : Sy} {s₁ : Shared} {ρ₁ : List Addr} {Ia : Addr} {h₁ : Heap} {fp wr : List Addr} {P : Nat → Value → Prop} {St : Nat → Heap → Prop} {J : Nat → Sy → Prop}
theorem Goes.lc {o : Obj} (I₁ : Rx F.C S₁.fs S₁.own ρ₁ s₁) (G : Goes F.w F.A F.C ρ₁ items s₁ { s₁ with heap := s₁.heap.push o } s₁.heap.objs.size) : ∃ fp wr P St, LC F items S₁ s₁ ρ₁ s₁.heap.objs.size (s₁.heap.push o) fp wr P St := by
 obtain ⟨fp, wr, P, St, W, hst, hwr, hex, hcl, hfpB, hP⟩ := G
 exact ⟨fp, wr, P, St, I₁, fun _ _ e => Heap.get?_push_of_some _ e, W, hst, hwr, hex, hcl, fun b hb => ⟨(hfpB b hb).1, (hfpB b hb).2.1, (hfpB b hb).2.2⟩, hP⟩
theorem LC.out (L : LC F items S₁ s₁ ρ₁ Ia h₁ fp wr P St) {b : Addr} {ob : Obj} (e : s₁.heap.get? b = some ob) : b ∉ wr := fun hb => by rw [L.hwr b hb] at e; contradiction
theorem cxW_bd {C : Cx} {a : Addr} (h1 : ¬ C.bd a) (h2 : a ∉ wr) : ¬ (cxW C wr).bd a := fun h3 => h3.elim (fun q => h1 (.inl q)) fun q => q.elim (fun q => h1 (.inr q)) h2
theorem cxW_nb {C : Cx} {a : Addr} (h1 : ¬ (cxW C wr).bd a) : ¬ C.bd a := fun h2 => h1 (h2.elim .inl fun q => .inr (.inl q))
theorem loop_start (L : LC F items S₁ s₁ ρ₁ Ia h₁ fp wr P St) (h0 : J 0 S₁) : LInv F J h₁ ρ₁ fp wr St 0 { s₁ with heap := h₁ } S₁ ρ₁ := by
 have I₁ := L.I₁
 refine ⟨h0, ?_, Ext.refl, L.hst, fun b hb => ⟨(L.hfp b hb).1, fun q => (L.hfp b hb).2.1 (.inl q), (L.hfp b hb).2.2⟩⟩
 refine I₁.to ⟨rfl, rfl⟩ (fun _ e => L.up _ _ e) (fun _ _ _ e => L.up _ _ e) (fun a ob y => ⟨L.up _ _ y.1, cxW_bd y.2.1 (L.out y.1), y.2.2⟩) (fun b ob e => L.up _ _ (I₁.up b ob e)) I₁.new
  (fun a ha => ⟨(I₁.fresh a ha).2.1, fun q => q.elim (I₁.fresh a ha).2.2 fun q => let ⟨_, e⟩ := I₁.has ha; L.out e q⟩) (fun a ha => ?_) I₁.gens I₁.os (fun b o h => let ⟨sl, e⟩ := I₁.frs b o h; ⟨sl, L.up _ _ e⟩) (fun b o h => ⟨(I₁.frn b o h).1, .inl (I₁.frn b o h).2.1, (I₁.frn b o h).2.2⟩) I₁.tk
 rcases ha with ha | ha
 ·obtain ⟨ob, e⟩ := I₁.old a ha; exact ⟨ob, L.up _ _ e⟩
 ·exact (L.hfp a (L.W.sub a ha)).1
theorem loop_back (I₁ : Rx F.C S₁.fs S₁.own ρ₁ s₁) {S' : Sy} {ρ' : List Addr} {s' : Shared} (I' : Rx (cxW F.C wr) S'.fs S'.own ρ' s') : Rx F.C S'.fs S'.own ρ' s' :=
 I'.to ⟨rfl, rfl⟩ (fun _ e => e) (fun _ _ _ e => e) (fun a ob y => ⟨y.1, cxW_nb y.2.1, y.2.2⟩) I'.up I'.new (fun a ha => ⟨(I'.fresh a ha).2.1, fun q => (I'.fresh a ha).2.2 (.inl q)⟩) (fun a ha => I'.old a (.inl ha)) I'.gens I'.os I'.frs I₁.frn I'.tk
theorem loop_backx (L : LC F items S₁ s₁ ρ₁ Ia h₁ fp wr P St) {ρ' : List Addr} {h' : Heap} (y : Ext (cxW F.C wr).bd h₁ ρ₁ h' ρ') : Ext F.C.bd s₁.heap ρ₁ h' ρ' :=
 ⟨y.1, fun a ob z₁ => by
  have z₂ := y.2 a ob ⟨L.up _ _ z₁.1, cxW_bd z₁.2.1 (L.out z₁.1), z₁.2.2⟩
  exact ⟨z₂.1, cxW_nb z₂.2.1, z₂.2.2⟩⟩
variable {i : Nat} {s' : Shared} {S' : Sy} {ρ' : List Addr}
theorem loop_moved (L : LC F items S₁ s₁ ρ₁ Ia h₁ fp wr P St) (V : LInv F J h₁ ρ₁ fp wr St i s' S' ρ') {h' : Heap} {tk : Nat} (ht : F.C.t0 ≤ tk) (hk : ∀ b ob, b ∉ wr → s'.heap.get? b = some ob → h'.get? b = some ob) (hw : ∀ b ∈ wr, ∃ ob, h'.get? b = some ob) : Rx (cxW F.C wr) S'.fs S'.own ρ' { s' with heap := h', toks := tk } := by
 have I' := V.rx
 have I₁ := L.I₁
 refine I'.to ⟨rfl, rfl⟩ (fun ob e => hk _ _ (fun q => (V.fx _ (L.W.sub _ q)).2.1 rfl) e) (fun a ha ob e => hk _ _ (fun q => (V.fx _ (L.W.sub _ q)).2.2 ha) e) (fun a ob y => ⟨hk _ _ (fun q => y.2.1 (.inr (.inr q))) y.1, y.2⟩)
  (fun b ob e => hk _ _ (L.out (I₁.up b ob e)) (I'.up b ob e)) I'.new (fun a ha => (I'.fresh a ha).2) (fun a ha => ?_) I'.gens I'.os (fun b o h => let ⟨sl, e⟩ := I'.frs b o h; ⟨sl, hk _ _ (let ⟨sl, e⟩ := I₁.frs b o h; L.out e) e⟩) I'.frn ht
 by_cases q : a ∈ wr
 ·exact hw a q
 ·obtain ⟨ob, e⟩ := I'.old a ha; exact ⟨ob, hk _ _ q e⟩
theorem loop_movedx (V : LInv F J h₁ ρ₁ fp wr St i s' S' ρ') {h' : Heap} (hk : ∀ b ob, b ∉ wr → s'.heap.get? b = some ob → h'.get? b = some ob) : Ext (cxW F.C wr).bd h₁ ρ₁ h' ρ' :=
 V.ext.trans (Ext.keeps fun b ob hb _ e => hk b ob (fun q => hb (.inr (.inr q))) e)
theorem loop_turn (hF : F.Ok) (L : LC F items S₁ s₁ ρ₁ Ia h₁ fp wr P St) (V : LInv F J h₁ ρ₁ fp wr St i s' S' ρ') (hlt : i < items.length) {Q : Option Value → Shared → Prop} {E : Value → Shared → Prop}
  (K : ∀ (h' : Heap) (tk : Nat) (v : Value) (av : AV), items[i]? = some av → (∀ E', (F.at' (cxI F.C fp wr h') E').Ok) → Rx (cxI F.C fp wr h') S'.fs S'.own ρ' { s' with heap := h', toks := tk } → Is h' (cxI F.C fp wr h').bd ρ' av v → (∃ oI n, h'.get? Ia = some oI ∧ oI.cls = .type n ∧ ownedIt n = false) →
   (∀ {J' : Nat → Sy → Prop} (S₃ : Sy) (ρ₃ : List Addr) (s₄ : Shared), J' (i + 1) S₃ → Rx (cxI F.C fp wr h') S₃.fs S₃.own ρ₃ s₄ → Ext (cxI F.C fp wr h').bd h' ρ' s₄.heap ρ₃ → LInv F J' h₁ ρ₁ fp wr St (i + 1) s₄ S₃ ρ₃) → Q (some v) { s' with heap := h', toks := tk }) :
  wpAny (model pr F.w) F.A (pyNext (.ref Ia)) Q E s' := by
 have I₁ := L.I₁
 refine wp_tk V.rx.tk ?_
 refine L.W.item i s' _ _ hlt V.st fun v' h' tk hPv hst'' hk ht => ?_
 change F.C.t0 ≤ tk at ht
 refine el12 (L.hP i v' hlt hPv) fun av hav hIs => ?_
 have hw : ∀ b ∈ wr, ∃ ob, h'.get? b = some ob := fun b hb => L.hex _ _ hst'' b (L.W.sub b hb)
 have I₃ := loop_moved L V (tk := tk) ht hk hw
 have x₃ := loop_movedx V hk
 have frf : ∀ b o, F.C.fr b o → b ∉ fp := fun b o h q => (L.hfp b q).2.1 (.inr (I₁.frn b o h).2.1)
 have I₄ : Rx (cxI F.C fp wr h') S'.fs S'.own ρ' { s' with heap := h', toks := tk } :=
  I₃.to ⟨rfl, rfl⟩ (fun _ e => e) (fun _ _ _ e => e) (fun _ _ y => y) (fun b ob e => e.elim (I₃.up b ob) fun q => q.2) (fun ob e => e.elim (I₃.new ob) fun q => (V.fx _ q.1).2.1 rfl)
   (fun a ha => ⟨fun ob e => e.elim ((I₃.fresh a ha).2.1 ob) fun q => (V.fx _ q.1).2.2 ha, (I₃.fresh a ha).2.2⟩) I₃.old I₃.gens I₃.os I₃.frs (fun b o h => ⟨(I₁.frn b o h).1, .inl (I₁.frn b o h).2.1, fun o' e => e.elim ((I₁.frn b o h).2.2 o') fun q => frf b o h q.1⟩) ht
 have hIs₄ : Is h' (cxI F.C fp wr h').bd ρ' av v' := by
  have y₁ : Is h₁ (cxW F.C wr).bd ρ₁ av v' := hIs.map fun a ob y => ⟨L.up _ _ y.1, cxW_bd y.2.1 (L.out y.1), y.2.2⟩
  exact y₁.ext x₃
 have hF' : ∀ E', (F.at' (cxI F.C fp wr h') E').Ok := fun E' => ⟨hF.frm, hF.pos, hF.sc, hF.kind, hF.room, fun a ob h => ⟨.inl (hF.top a ob h).1, fun q => q.elim (hF.top a ob h).2 fun q => L.out (I₁.up a ob (hF.top a ob h).1) q⟩, hF.lim, fun y u s' env g1 g2 h1 h2 => hF.gl y u s' env g1 g2 (fun b ob e => h1 b ob (.inl e)) h2, hF.cls⟩
 have hfp₃ : ∀ b ∈ fp, ∃ ob, h'.get? b = some ob := fun b hb => by
  by_cases q : b ∈ wr
  ·exact hw b q
  ·obtain ⟨ob, e⟩ := (V.fx b hb).1; exact ⟨ob, hk b ob q e⟩
 refine K h' tk v' av hav hF' I₄ hIs₄ (L.hcl _ _ hst'') fun S₃ ρ₃ s₄ hj I₆ x₆ => ⟨hj, ?_, x₃.trans x₆, L.W.frame _ _ _ hst'' (fun b hb ob e => I₆.up b ob (.inr ⟨hb, e⟩)), fun b hb => ?_⟩
 ·exact I₆.to ⟨rfl, rfl⟩ (fun _ e => e) (fun _ _ _ e => e) (fun _ _ y => y) (fun b ob e => I₆.up b ob (.inl e)) (fun ob e => I₆.new ob (.inl e)) (fun a ha => ⟨fun ob e => (I₆.fresh a ha).2.1 ob (.inl e), (I₆.fresh a ha).2.2⟩) I₆.old I₆.gens I₆.os I₆.frs (fun b o h => ⟨(I₆.frn b o h).1, (I₆.frn b o h).2.1, fun o' e => (I₆.frn b o h).2.2 o' (.inl e)⟩) I₆.tk
 ·refine el11 (hfp₃ b hb) fun ob e => ?_
  exact ⟨⟨ob, I₆.up b ob (.inr ⟨hb, e⟩)⟩, (V.fx b hb).2.1, fun q => (I₆.fresh b q).2.1 ob (.inr ⟨hb, e⟩)⟩
theorem loop_done (L : LC F items S₁ s₁ ρ₁ Ia h₁ fp wr P St) (V : LInv F J h₁ ρ₁ fp wr St items.length s' S' ρ') {Q : Option Value → Shared → Prop} {E : Value → Shared → Prop}
  (K : ∀ s₄ : Shared, Rx F.C S'.fs S'.own ρ' s₄ → Ext F.C.bd s₁.heap ρ₁ s₄.heap ρ' → Q none s₄) : wpAny (model pr F.w) F.A (pyNext (.ref Ia)) Q E s' := by
 have I₁ := L.I₁
 have I' := V.rx
 refine wp_tk I'.tk ?_
 refine L.W.done s' _ _ V.st fun h' tk hk ht => ?_
 change F.C.t0 ≤ tk at ht
 have I₀ := loop_back I₁ I'
 refine K _ (I'.to ⟨rfl, rfl⟩ (fun ob e => hk _ _ (fun q => (V.fx _ (L.W.sub _ q)).2.1 rfl) e) (fun a ha ob e => hk _ _ (fun q => (V.fx _ (L.W.sub _ q)).2.2 ha) e) (fun a ob y => ⟨hk _ _ (fun q => y.2.1 (.inr (.inr q))) y.1, cxW_nb y.2.1, y.2.2⟩)
  (fun b ob e => hk _ _ (L.out (I₁.up b ob e)) (I'.up b ob e)) I'.new (fun a ha => (I₀.fresh a ha).2) (fun a ha => ?_) I'.gens I'.os (fun b o h => let ⟨sl, e⟩ := I'.frs b o h; ⟨sl, hk _ _ (let ⟨sl, e⟩ := I₁.frs b o h; L.out e) e⟩) I₁.frn ht) (loop_backx L (loop_movedx V hk))
 refine el11 (I₀.old a ha) fun ob e => ?_
 refine el11 (I₁.old a ha) fun _ e' => ?_
 exact ⟨ob, hk _ _ (L.out e') e⟩
end
end
section
theorem for_okT {F : Fx} (hF : F.Ok) {tg iter : Expr} {body orelse : List Stmt} {pos : Pos} {S : Sy} {Q : Fl → Sy → Prop} (k : Nat) (J : Nat → Sy → Prop) (items : List AV) {S₀ : Sy} (hs : ∀ v, foldedSetIterable iter F.C.env v = pure v)
  (hit : (run F k).ev iter S fun a S₁ => Leaf (itemsOf a = some items ∧ S₁ = S₀)) (h0 : J 0 S₀)
  (turn : ∀ C' E' i a S, C'.t0 = F.C.t0 → (F.at' C' E').Ok → items[i]? = some a → J i S → stT (F.at' C' E') tg a S fun S₁ => (run (F.at' C' E') k).xs body S₁ (LpQ (J (i + 1)) Q))
  (fin : ∀ E' S, (F.at' F.C E').Ok → J items.length S → (run (F.at' F.C E') k).xs orelse S Q) : Leaf (SemS F (.For tg iter body orelse pos) S Q) := by
 refine ⟨fun s ρ I => ?_⟩
 refine wpAny_For (Sm.go ((run_ok hF k).ev hit) I fun a S₁ v s₁ ρ₁ q I₁ hv x₁ => ?_) hs
 obtain ⟨hq, rfl⟩ := q.out
 refine iter_ok hF I₁ hv hq fun o G => ?_
 obtain ⟨fp, wr, P, St, L⟩ := G.lc I₁
 refine codeAny_forLoop_any (fun n s' => ∃ i S' ρ', n = items.length + 1 - i ∧ i ≤ items.length ∧ LInv F J (s₁.heap.push o) ρ₁ fp wr St i s' S' ρ') ?_ (items.length + 1) ⟨0, S₁, ρ₁, rfl, Nat.zero_le _, loop_start L h0⟩
 rintro n s' ⟨i, S', ρ', rfl, hi, V⟩
 refine wp_gen fun QA EA hQA _ => ?_
 by_cases hlt : i < items.length
 ·refine loop_turn hF L V hlt fun h' tk v av hav hF' I₄ hIs₄ hcl done => ?_
  refine el23 (hcl) fun oI nI g1 g2 g3 => hQA _ _ ?_
  refine letGo_ok g1 g2 g3 (wp_gen fun QB EB hQB _ => ?_)
  refine wpAny_mono (stT_ok (hF' _) (turn _ (fun _ _ => False) i av S' rfl (hF' _) hav V.j) I₄ hIs₄ (P := fun _ s₃ => ∃ S₂, (run (F.at' (cxI F.C fp wr h') fun _ _ => False) k).xs body S₂ (LpQ (J (i + 1)) Q) ∧ Rx (cxI F.C fp wr h') S₂.fs S₂.own ρ' s₃ ∧ Ext (cxI F.C fp wr h').bd h' ρ' s₃.heap ρ') fun S₂ s₃ q₃ I₅ x₅ => ⟨S₂, q₃, I₅, x₅⟩) (fun _ s₃ h₃ => ?_) (fun _ _ e => e.elim)
  refine el13 (h₃) fun S₂ q₃ I₅ x₅ => hQB _ _ (wp_gen fun QC EC hQC _ => ?_)
  refine wpAny_mono (Sm.get (F := F.at' (cxI F.C fp wr h') fun _ _ => False) ((run_ok (hF' _) k).xs q₃) I₅) (fun f s₄ h₄ => ?_) (fun _ _ e => e.elim)
  refine Pg.el (h₄) fun f' S₃ ρ₃ q₄ I₆ hf x₆ => ?_
  have x₇ := x₅.trans x₆
  have V' := done (J' := fun _ _ => True) S₃ ρ₃ s₄ trivial I₆ x₇
  have again : J (i + 1) S₃ → ∃ m, m < items.length + 1 - i ∧ ∃ i S' ρ', m = items.length + 1 - i ∧ i ≤ items.length ∧ LInv F J (s₁.heap.push o) ρ₁ fp wr St i s₄ S' ρ' := fun hj =>
   ⟨items.length + 1 - (i + 1), by exact nl2 [_, _, _, _] (.add vr0 (.add vr1 (.num 1))) (.add vr2 (.num 1)) (.add vr2 (.num 1)) (.add vr3 vr1) (.add vr0 (.num 1)) vr3 rfl (Nat.le_of_eq (Nat.sub_add_cancel (nl1 [_, _] vr0 vr1 (.add vr0 (.num 1)) (.add vr1 (.num 1)) rfl hi))) (Nl.sb _ _), i + 1, S₃, ρ₃, rfl, hlt, done S₃ ρ₃ s₄ hj I₆ x₇⟩
  have rx := loop_back I₁ V'.rx
  have ex := x₁.trans (loop_backx L V'.ext)
  induction f' with
  | next => subst hf; exact hQC _ _ (again q₄.out)
  | cont => subst hf; exact hQC _ _ (again q₄.out)
  | brk => subst hf; exact hQC _ _ fun _ => ⟨.next, S₃, ρ₃, q₄, rx, rfl, ex⟩
  | ret u => obtain ⟨u', rfl, hu⟩ := hf; exact hQC _ _ fun _ => ⟨.ret u, S₃, ρ₃, q₄, rx, ⟨u', rfl, hu.map fun a ob y => ⟨y.1, cxW_nb y.2.1, y.2.2⟩⟩, ex⟩
 ·have hie : i = items.length := by exact (Nat.le_antisymm hi (Nat.le_of_not_lt hlt))
  subst hie
  refine loop_done L V fun s₄ I₃ x₃ => ?_
  refine hQA _ _ (wp_gen fun QB EB hQB _ => ?_)
  have hF' := hF.at' (fun _ _ => False)
  refine wpAny_mono (Sm.get (F := F.at' F.C fun _ _ => False) ((run_ok hF' k).xs (fin _ S' hF' V.j)) I₃) (fun f s₄ h₄ => ?_) (fun _ _ e => e.elim)
  refine Pg.el (h₄) fun f' S₃ ρ₃ q₄ I₆ hf x₆ => ?_
  exact hQB _ _ fun _ => ⟨f', S₃, ρ₃, q₄, I₆, hf, (x₁.trans x₃).trans x₆⟩
theorem for_ok' {F : Fx} (hF : F.Ok) {tg iter : Expr} {body orelse : List Stmt} {pos : Pos} {S : Sy} {Q : Fl → Sy → Prop} (k : Nat) (J : Nat → Sy → Prop) (items : List AV) {S₀ : Sy} (hs : ∀ v, foldedSetIterable iter F.C.env v = pure v)
  (hit : (run F k).ev iter S fun a S₁ => Leaf (itemsOf a = some items ∧ S₁ = S₀)) (h0 : J 0 S₀)
  (turn : ∀ C' E' i a S, (F.at' C' E').Ok → items[i]? = some a → J i S → stT (F.at' C' E') tg a S fun S₁ => (run (F.at' C' E') k).xs body S₁ (LpQ (J (i + 1)) Q))
  (fin : ∀ E' S, (F.at' F.C E').Ok → J items.length S → (run (F.at' F.C E') k).xs orelse S Q) : Leaf (SemS F (.For tg iter body orelse pos) S Q) :=
 for_okT hF k J items hs hit h0 (fun C' E' i a S _ => turn C' E' i a S) fin
theorem for_ok {F : Fx} (hF : F.Ok) {x : Str} {px : Pos} {iter : Expr} {body orelse : List Stmt} {pos : Pos} {S : Sy} {Q : Fl → Sy → Prop} (k : Nat) (J : Nat → Sy → Prop) (items : List AV) {S₀ : Sy} (hs : ∀ v, foldedSetIterable iter F.C.env v = pure v)
  (hit : (run F k).ev iter S fun a S₁ => Leaf (itemsOf a = some items ∧ S₁ = S₀)) (h0 : J 0 S₀)
  (turn : ∀ C' E' i a S, (F.at' C' E').Ok → items[i]? = some a → J i S → st (F.at' C' E') x a S fun S₁ => (run (F.at' C' E') k).xs body S₁ (LpQ (J (i + 1)) Q))
  (fin : ∀ E' S, (F.at' F.C E').Ok → J items.length S → (run (F.at' F.C E') k).xs orelse S Q) : Leaf (SemS F (.For (.Name x px) iter body orelse pos) S Q) :=
 for_ok' hF k J items hs hit h0 turn fin
end
section
noncomputable def hexs : List Nat := [48, 49, 50, 51, 52, 53, 54, 55, 56, 57, 97, 98, 99, 100, 101, 102, 65, 66, 67, 68, 69, 70]
noncomputable def hexv (c : Nat) : Nat := if c < 58 then c - 48 else if c < 71 then c - 55 else c - 87
theorem read16 : ∀ c ∈ hexs, ∀ d ∈ hexs, (int_private% "readNumeral") 0 16 [c, d] = (int_private% "Numeral.value") ((hexv c * 16 + hexv d : Nat) : Int) := by
 have h : hexs.map (fun c => hexs.map fun d => (int_private% "readNumeral") 0 16 [c, d]) = hexs.map fun c => hexs.map fun d => (int_private% "Numeral.value") ((hexv c * 16 + hexv d : Nat) : Int) := by kernel_rfl
 exact fun c hc => List.map_inj_left.mp (List.map_inj_left.mp h c hc)
theorem g16 {c d : Nat} (hc : c < 128) (hd : d < 128) (h0 : c ≠ 0) (h1 : d ≠ 0) (n : Nat) (hr : (int_private% "readNumeral") 0 16 [c, d] = (int_private% "Numeral.value") (n : Int)) (t u : Tok) : Gives (Builtin.«int.__new__» ⟨[.type "int", .str ⟨#[c, d]⟩ t, .int 16 u], []⟩) (.int n) :=
 .of_wp fun M A E s Q h => by
  obtain ⟨hp, g, dd, tk, os⟩ := s
  have f1 := F.conv_sub_int
  have f2 := F.madeHere_int
  repeat (any_goals (first | assumption | wp_step))
  have e2 : (if ((⟨#[c, d]⟩ : Str).cps.all fun x => decide (x < 128)) = true then (⟨#[c, d]⟩ : Str).cps.toList else Unicode.numberText (⟨#[c, d]⟩ : Str).cps.toList) = [c, d] := by
   rw [if_pos (by simp [hc, hd])]
  rw [e2]
  rw [show List.takeWhile (fun x => x != 0) [c, d] = [c, d] by rw [List.takeWhile_cons_of_pos (by simpa using h0), List.takeWhile_cons_of_pos (by simpa using h1)]; rfl]
  rw [show (int_private% "readNumeral") 0 (Int.toNat 16) [c, d] = (int_private% "Numeral.value") (n : Int) from hr]
  dsimp only
  rw [if_pos (by simp)]
  refine wpAny_mkInt ?_
  dsimp only
  rw [if_pos (by decide +kernel)]
  exact wpAny_pure ⟨_, rfl, h⟩
theorem call_int16 {w : World} {A : Around} {E : Value → Shared → Prop} {s : Shared} {c d : Nat} (hc : c ∈ hexs) (hd : d ∈ hexs) {t u : Tok} {Q : Value → Shared → Prop} (h : ∀ tk k, Q (.int ((hexv c * 16 + hexv d : Nat) : Int) tk) { s with toks := k }) :
  wpAny (model pr w) A (call (.type "int") [.str ⟨#[c, d]⟩ t, .int 16 u]) Q E s := by
 have lt : ∀ x ∈ hexs, x < 128 ∧ x ≠ 0 := by decide +kernel
 refine callType_new F.called_int F.newNe_int (show checkTypeCall "int" ⟨[_, _], []⟩ = pure () by kernel_rfl) (show checkBuiltinCall "int.__new__" ⟨[.type "int", _, _], []⟩ = pure () by kernel_rfl) (fun obj => ?_) F.entry_int_new (g16 (lt c hc).1 (lt d hd).1 (lt c hc).2 (lt d hd).2 _ (read16 c hc d hd) t u).meets ?_
 ·unfold argsOk; kernel_rfl
 ·exact ⟨rfl, h _ _⟩
end
section
open PySem.Builtin PySem.Builtin.Str
section
variable {F : Fx} {S : Sy} {Q : AV → Sy → Prop} {x y z : Str}
theorem l_rstrip (hz : x.length ≤ sizeLine) (h : Q (.str (Txt.rstrip x)) S) : Leaf (SmL F (.blt "str.rstrip") [.str x] S Q) := by
 refine ⟨?_⟩
 rintro s ρ fv vs I rfl hvs
 cases hvs with | cons hv hn => cases hn; obtain ⟨t, rfl⟩ := hv; exact SC.rstrip (fun _ _ => Pg.same I _ h ⟨_, rfl⟩) hz
theorem l_endswith (h : Q (.bool (Txt.endswith x y)) S) : Leaf (SmL F (.blt "str.endswith") [.str x, .str y] S Q) := by
 refine ⟨?_⟩
 rintro s ρ fv vs I rfl hvs
 cases hvs with | cons hv hn => cases hn with | cons hu hn => cases hn; obtain ⟨t, rfl⟩ := hv; obtain ⟨u, rfl⟩ := hu; exact SC.endswith (Pg.same' I h rfl)
theorem l_count (h : Q (.int (Txt.count x y)) S) : Leaf (SmL F (.blt "str.count") [.str x, .str y] S Q) := by
 refine ⟨?_⟩
 rintro s ρ fv vs I rfl hvs
 cases hvs with | cons hv hn => cases hn with | cons hu hn => cases hn; obtain ⟨t, rfl⟩ := hv; obtain ⟨u, rfl⟩ := hu; exact SC.count (Pg.same I _ h ⟨_, rfl⟩)
theorem l_chr {i : Int} (h0 : 0 ≤ i) (h1 : i ≤ 1114111) (h : Q (.str ⟨#[i.toNat]⟩) S) : Leaf (SmL F (.blt "chr") [.int i] S Q) := by
 refine ⟨?_⟩
 rintro s ρ fv vs I rfl hvs
 cases hvs with | cons hv hn => cases hn; obtain ⟨t, rfl⟩ := hv; exact chr_of_range h0 h1 (Pg.same I _ h ⟨_, rfl⟩)
theorem l_ord (h1 : x.length = 1) (h : Q (.int (x.cps.getD 0 0 : Nat)) S) : Leaf (SmL F (.blt "ord") [.str x] S Q) := by
 refine ⟨?_⟩
 rintro s ρ fv vs I rfl hvs
 cases hvs with | cons hv hn => cases hn; obtain ⟨t, rfl⟩ := hv; exact ord_of_one h1 (Pg.same I _ h ⟨_, rfl⟩)
theorem l_int16 {c d : Nat} (hx : x = ⟨#[c, d]⟩) (hc : c ∈ hexs) (hd : d ∈ hexs) (h : Q (.int ((hexv c * 16 + hexv d : Nat) : Int)) S) : Leaf (SmL F (.typ "int") [.str x, .int 16] S Q) := by
 refine ⟨?_⟩
 subst hx
 rintro s ρ fv vs I rfl hvs
 cases hvs with | cons hv hn => cases hn with | cons hu hn => cases hn; obtain ⟨t, rfl⟩ := hv; obtain ⟨u, rfl⟩ := hu; exact call_int16 hc hd fun _ _ => Pg.same I _ h ⟨_, rfl⟩
end
theorem strs_isDs {P : Addr → Obj → Prop} : ∀ (l : List (Str × Tok)), IsDs P (strValues l) ((l.map (·.1)).map Dt.str)
 | [] => .nil
 | (x, t) :: r => .cons (.str x t) (strs_isDs r)
theorem Pg.newStrs {C : Cx} {S : Sy} {ρ : List Addr} {s : Shared} {Q : AV → Sy → Prop} {k : Nat} (l : List (Str × Tok)) (I : Rx C S.fs S.own ρ s) {xs : List Str} (hl : l.map (·.1) = xs) (h : Q (.dat (.list (xs.map Dt.str))) S) :
  Pt C Is Q s ρ (.ref s.heap.objs.size) { s with heap := s.heap.push { cls := .type "list", data := .seq (strValues l).toArray }, toks := k } :=
 Pg.newDat I (fun h' e _ hb hr => by subst hl; exact .list ⟨e, hb, hr⟩ (strs_isDs l)) h
theorem l_splitlines {F : Fx} {S : Sy} {Q : AV → Sy → Prop} {x : Str} (hz : x.length ≤ sizeLine) (hz2 : (lineCuts x).length ≤ sizeLine) (h : Q (.dat (.list ((Txt.lines x).map Dt.str))) S) : Leaf (SmL F (.blt "str.splitlines") [.str x] S Q) := by
 refine ⟨?_⟩
 rintro s ρ fv vs I rfl hvs
 cases hvs with | cons hv hn => ?_
 cases hn
 obtain ⟨t, rfl⟩ := hv
 refine call_meets PySem.F.slot_str_splitlines (typeIs_str _ _ _) PySem.F.entry_str_splitlines (PySem.F.args_str_splitlines_1 _) (meets_str_splitlines x t hz hz2) ?_
 cases hw : lineCuts x == [(0, x.length)]
 ·simp only [Bool.false_eq_true, if_false]
  rw [strsFrom_eq]
  exact Pg.newStrs _ I ((numbered_texts _ _).trans (if_neg (ne_true_of_eq_false hw)).symm) h
 ·simp only [if_true]
  exact Pg.newStrs (k := s.toks) [(x, t)] I (if_pos hw).symm h
end
section
open PySem.Builtin PySem.Builtin.Str
theorem txl (l : List Nat) : (tx l).length = l.length := by simp [PySem.Str.length]
theorem txa (a b : List Nat) : tx a ++ tx b = tx (a ++ b) := by
 show (⟨a.toArray ++ b.toArray⟩ : PySem.Str) = _
 simp
theorem tx_seq (a b : List Nat) : seq (tx a) (tx b) = (a == b) := by simp [seq]
theorem tx_item {l : List Nat} {i : Nat} {c : Nat} (h : l[i]? = some c) : Txt.item (tx l) (i : Int) = tx [c] :=
 item_meets (Int.natCast_nonneg i) (by simpa using h)
theorem tx_item' {l : List Nat} {i : Int} {c : Nat} (h0 : 0 ≤ i) (h : l[i.toNat]? = some c) : Txt.item (tx l) i = tx [c] :=
 item_meets h0 (by simpa using h)
theorem tx_contains (l : List Nat) (c : Nat) : Txt.contains (tx l) (tx [c]) = decide (c ∈ l) := by
 have := StrLaws.found_one (tx l) c
 simpa [Txt.contains] using this
theorem tx_slice {l : List Nat} {i j : Nat} (h : i ≤ j) (h2 : j ≤ l.length) : Txt.slice (tx l) (some (i : Int)) (some (j : Int)) = tx ((l.drop i).take (j - i)) := by
 have := slice_closes (x := tx l) (i := i) (j := j) ⟨Int.natCast_nonneg i, Int.ofNat_le.2 h, by simpa using h2⟩
 have e := eq_of_beq this
 rw [e]
 congr 1
 simp
noncomputable def clp (n : Nat) (v : Option Int) (d : Int) : Int := match v with
 | none => d
 | some i => max 0 (min (if i < 0 then i + n else i) n)
theorem sliceIdx_clp (lo hi : Option Int) (n : Nat) : strSliceIndices lo hi 1 n = sliceRange (clp n lo 0) (clp n hi n) 1 := by
 induction lo with
 | none => induction hi with | none => rfl | some _ => rfl
 | some _ => induction hi with | none => rfl | some _ => rfl
theorem clp_nat {a n : Nat} (h : a ≤ n) (d : Int) : clp n (some (a : Int)) d = a :=
 Eq.trans (congrArg (fun x => max 0 (min x (n : Int))) (if_neg (c := (a : Int) < 0) (Int.not_lt_of_ge (Int.natCast_nonneg a)))) (Eq.trans (congrArg (max 0) (Int.min_eq_left (Int.ofNat_le.2 h))) (Int.max_eq_right (Int.natCast_nonneg a)))
theorem clp_neg (n : Nat) {k : Nat} (hk : 0 < k) (d : Int) : clp n (some (-(k : Int))) d = (n - k : Nat) :=
 Eq.trans (congrArg (fun x => max 0 (min x (n : Int))) ((if_pos (c := -(k : Int) < 0) (Int.neg_neg_of_pos (Int.natCast_pos.2 hk))).trans (Int.add_comm _ _)))
  (Eq.trans (congrArg (max 0) (Int.min_eq_left (Int.sub_le_self (n : Int) (Int.natCast_nonneg k)))) ((Int.max_comm _ _).trans (Int.ofNat_toNat _ ▸ congrArg Int.ofNat (Int.toNat_sub n k))))
theorem slice_clp {l : List Nat} {lo hi : Option Int} (a b : Nat) (h1 : clp l.length lo 0 = a) (h2 : clp l.length hi l.length = b) (hab : a ≤ b) (hb : b ≤ l.length) : Txt.slice (tx l) lo hi = tx ((l.drop a).take (b - a)) := by
 refine Eq.trans ?_ (tx_slice hab hb)
 have e : strSliceIndices lo hi 1 (tx l).length = strSliceIndices (some (a : Int)) (some (b : Int)) 1 (tx l).length := by
  rw [txl]
  refine (sliceIdx_clp lo hi _).trans (Eq.trans ?_ (sliceIdx_clp _ _ _).symm)
  rw [h1, h2, clp_nat (Nat.le_trans hab hb), clp_nat hb]
 show (if ((1 : Int) == 1 && (strSliceIndices lo hi 1 (tx l).length).length == (tx l).length) = true then tx l else ⟨((strSliceIndices lo hi 1 (tx l).length).filterMap ((tx l).cps[·]?)).toArray⟩) = _
 rw [e]; rfl
theorem tx_last {l : List Nat} (h : l ≠ []) : Txt.item (tx l) (-1) = tx [l.getLast h] := by
 have := item_last_right PySem.Str.empty l.dropLast (l.getLast h)
 rw [List.dropLast_concat_getLast h, PySem.Str.empty_append] at this
 exact this
theorem tx_endswith (l : List Nat) (c : Nat) : Txt.endswith (tx l) (tx [c]) = decide (l.getLast? = some c) := by
 unfold Txt.endswith
 rw [Bool.eq_iff_iff]
 have h1 : (tx [c]).length = 1 := rfl
 have key := StrLaws.subAt_one (tx l) c ((tx l).length - 1)
 rw [show (tx [c]) = (⟨#[c]⟩ : PySem.Str) from rfl] at *
 simp only [Bool.and_eq_true, decide_eq_true_eq, h1]
 rw [List.getLast?_eq_getElem?]
 constructor
 ·rintro ⟨a, b⟩
  have := key.mp ⟨by rw [h1]; exact (Nat.le_of_eq (Nat.sub_add_cancel (nl1 [_] (.add (.num 0) (.num 1)) vr0 (.num 1) vr0 rfl a))), b⟩
  simpa [txl] using this
 ·intro e
  have := key.mpr (by simpa [txl] using e)
  rw [h1] at this
  refine ⟨?_, this.2⟩
  have := this.1
  have hl : l ≠ [] := by rintro rfl; simp at e
  have : 0 < (tx l).length := by rw [txl]; exact List.length_pos_iff.mpr hl
  exact nl1 [_, _] (.add vr0 (.num 1)) vr1 (.add (.num 0) (.num 1)) vr1 rfl (by assumption)
theorem tx_dropLast {l : List Nat} (h : l ≠ []) : Txt.slice (tx l) none (some (-1)) = tx l.dropLast :=
 Eq.trans (slice_clp (lo := none) (hi := some (-1)) 0 (l.length - 1) rfl (clp_neg _ (k := 1) (Nat.zero_lt_succ _) _) (Nat.zero_le _) (Nat.sub_le _ _)) (congrArg tx List.dropLast_eq_take.symm)
theorem tx_slice_from {l : List Nat} {i : Nat} (h : i ≤ l.length) : Txt.slice (tx l) (some (i : Int)) none = tx (l.drop i) :=
 Eq.trans (slice_clp (lo := some (i : Int)) (hi := none) i l.length (clp_nat h _) rfl h (Nat.le_refl _)) (congrArg tx (List.take_of_length_le (Nat.le_of_eq List.length_drop)))
theorem tx_slice_neg {l : List Nat} {i : Nat} (h : i < l.length) : Txt.slice (tx l) (some (i : Int)) (some (-1)) = tx ((l.drop i).dropLast) :=
 Eq.trans (slice_clp (lo := some (i : Int)) (hi := some (-1)) i (l.length - 1) (clp_nat (Nat.le_of_lt h) _) (clp_neg _ (k := 1) (Nat.zero_lt_succ _) _) (Nat.le_sub_one_of_lt h) (Nat.sub_le _ _)) (congrArg tx (Eq.trans (congrArg (List.take · _) ((Nat.sub_right_comm _ _ _).trans (congrArg (· - 1) List.length_drop.symm))) List.dropLast_eq_take.symm))
end
section
noncomputable def gl (x : Str) : Option AV := glT.lookup x
variable {w : World} {T : Addr → Obj → Prop}
theorem slice13 (c d : Nat) : Txt.slice ⟨#[61, c, d]⟩ (some 1) (some 3) = ⟨#[c, d]⟩ := by rfl
theorem unquote_ok (hT : TopOk w T gl) (hfn : FnIs T 67 (fnAt 17) .none) {c d : Nat} (hc : c ∈ hexs) (hd : d ∈ hexs) : FnOk w T 1 67 [.str ⟨#[61, c, d]⟩] (.str ⟨#[hexv c * 16 + hexv d]⟩) := by
 refine fnI hT hfn (names := ["s"]) (rest := []) (avs := [.str ⟨#[61, c, d]⟩]) (by kernel_rfl) rfl ?_ ?_
 ·exact fun _ _ _ _ _ _ _ _ _ _ _ _ hv => bind1 hv fun _ => by kernel_rfl
 ·intro A C E _ hF _
  refine (run_ok hF 20).xs ?_
  walk_at "vgo"
  ·show 3 ≤ sizeLine
   rw [sizeLine_eq]; exact nl0 [] (.num 3) (.num 16777216) rfl
  ·refine l_int16 (slice13 c d) hc hd ?_
   walk_at "vgo"
   have hv : ∀ x ∈ hexs, hexv x < 16 := by decide +kernel
   have h1 := hv c hc
   have h2 := hv d hd
   refine l_chr (by lia) (by lia) ?_
   walk_at "vgo"
   rfl
end
section
set_option tactic.hygienic true
section
variable {F : Fx} {S : Sy} {Q : AV → Sy → Prop}
noncomputable abbrev ItL (F : Fx) (a b : AV) (S : Sy) (Q : AV → Sy → Prop) : Prop :=
 Leaf (∀ s ρ v u, Rx F.C S.fs S.own ρ s → Is s.heap F.C.bd ρ a v → Is s.heap F.C.bd ρ b u → ItemOn (model pr F.w) F.A F.E v u (Pt F.C Is Q s ρ) s)
theorem l_item_list {ds : List Dt} {i : Int} {d : Dt} (h0 : 0 ≤ i) (h63 : i < 2 ^ 63) (hd : ds[i.toNat]? = some d) (h : Q (ofD d) S) : ItL F (.dat (.list ds)) (.int i) S Q := by
 refine ⟨?_⟩
 rintro s ρ v u I hv ⟨t, rfl⟩
 cases hv with | list hp hds => ?_
 refine el12 (hds.at _ hd) fun x hx hxd => ?_
 have hl : s.heap.IsList _ _ := ⟨_, hp.1, rfl, _, rfl⟩
 exact ⟨"list", _, slot_list_getitem.lookup, hl.typeIs, wpAny_getItem_list hl h0 h63 (by rw [← Array.getElem?_toList]; exact hx) (Pg.same' I h (Is.ofD hxd))⟩
theorem append_post {k : Nat} {a : AV} {xs : List AV} {s : Shared} {ρ : List Addr} {b : Addr} {its : Array Value} {n : Nat} {u : Value} (I : Rx F.C S.fs S.own ρ s) (hk : S.own[k]? = some (.list xs)) (hb : ρ[k]? = some b) (e2 : s.heap.get? b = some { cls := .type "list", data := .seq its n })
  (hal : All2 (Is s.heap F.C.bd ρ) xs its.toList) (hu : Is s.heap F.C.bd ρ a u) (h : Q .none { S with own := S.own.set k (.list (xs ++ [a])) }) : Pt F.C Is Q s ρ .none { s with heap := s.heap.update b (Obj.mapSeq (·.push u)) } := by
 have hkl : k < S.own.length := (List.getElem?_eq_some_iff.mp hk).1
 have hd' := Obj.mapSeq_push_plain its n u
 have hs : Heap.SameBut b s.heap (s.heap.update b (Obj.mapSeq (·.push u))) := Heap.SameBut.update ..
 have hmem : b ∈ ρ := List.mem_of_getElem? hb
 have kp : ∀ c ob, ¬ F.C.bd c → c ∉ ρ → s.heap.get? c = some ob → (s.heap.update b (Obj.mapSeq (·.push u))).get? c = some ob := fun c ob _ hc e => (hs.2 c fun q => hc (q ▸ hmem)).trans e
 refine fun _ => ⟨.none, _, ρ, h, ?_, rfl, Ext.keeps kp⟩
 refine I.update (ao := .list (xs ++ [a])) (f := Obj.mapSeq (·.push u)) (o' := { cls := .type "list", data := .seq (its.push u) (n + 1) }) hkl hb e2 ?_ rfl ⟨its.push u, n + 1, rfl, ?_⟩ s.toks I.tk
 ·exact hd'
 ·rw [Array.toList_push]
  have app : ∀ {as : List AV} {vs : List Value}, All2 (Is (s.heap.update b (Obj.mapSeq (·.push u))) F.C.bd ρ) as vs → All2 (Is (s.heap.update b (Obj.mapSeq (·.push u))) F.C.bd ρ) (as ++ [a]) (vs ++ [u]) := by
   intro as vs x
   induction x with
   | nil => exact .cons (hu.keeps kp) .nil
   | cons y _ ih => exact .cons y ih
  exact app (hal.mono fun _ _ y => y.keeps kp)
theorem l_append {k : Nat} {a : AV} {xs : List AV} (hk : S.own[k]? = some (.list xs)) (hz : xs.length ≤ sizeLine) (h : Q .none { S with own := S.own.set k (.list (xs ++ [a])) }) : Leaf (SmL F (.blt "list.append") [.own k, a] S Q) := by
 refine ⟨?_⟩
 rintro s ρ fv vs I rfl hvs
 cases hvs with | cons hv hn => ?_
 cases hn with | cons hu hn => ?_
 cases hn
 rename_i u
 obtain ⟨b, hb, rfl⟩ := hv
 obtain ⟨b', o, e1, e2, its, n, rfl, hal⟩ := I.mine k _ hk
 rw [hb] at e1; obtain rfl := Option.some.inj e1
 have hsz : its.size ≤ sizeLine := by have := hal.length; simp at this; exact nl2 [_, _, _] vr0 vr1 vr1 vr2 vr0 vr2 rfl (Nat.le_of_eq (Eq.symm this)) hz
 refine wpAny_call_entry slot_list_append (⟨_, e2, rfl⟩ : s.TypeIs (.ref b) "list") entry_list_append ?_ (args_list_append _ _)
 show wpAny _ _ (updateSeq b (·.push u) >>= fun _ => ret .none) _ _ s
 exact wpAny_bind (wpAny_updateSeq e2 rfl (wpAny_pure ⟨.none, rfl, append_post I hk hb e2 hal hu h⟩))
theorem l_range {n : Nat} (h : Q (.dat (.rng n)) S) : Leaf (SmL F (.typ "range") [.int (n : Int)] S Q) := by
 refine ⟨?_⟩
 rintro s ρ fv vs I rfl hvs
 cases hvs with | cons hv hn => ?_
 cases hn
 obtain ⟨t, rfl⟩ := hv
 refine PySem.call_range_1 ?_
 refine NsR.el (I.ns) fun m hm _ => ?_
 have hno : s.heap.get? s.heap.objs.size = none := by
  cases q : s.heap.get? s.heap.objs.size with
  | none => rfl
  | some ob => exact absurd rfl (Nat.ne_of_lt (Heap.lt_size q))
 refine Pg.grown I (fun _ _ e => Heap.get?_push_of_some _ e) rfl rfl h (.rng ⟨Heap.get?_push_size _ rfl, fun q => ?_, fun q => ?_⟩)
 ·rcases q with q | q
  ·exact Nat.lt_irrefl _ (q ▸ hm.lt)
  ·obtain ⟨o, e⟩ := I.old _ q; rw [hno] at e; contradiction
 ·obtain ⟨o, e⟩ := I.has q; rw [hno] at e; contradiction
end
end
section
variable {w : World} {T : Addr → Obj → Prop}
theorem S_IFMT_ok (hT : TopOk w T gl) (hfn : FnIs T 810 (fnAt 49) .none) (m : Int) : FnOk w T 1 810 [.int m] (.int (Builtin.bitAnd m 61440)) := by
 refine fnI hT hfn (names := ["mode"]) (rest := []) (avs := [.int m]) (by kernel_rfl) rfl ?_ ?_
 ·exact fun _ _ _ _ _ _ _ _ _ _ _ _ hv => bind1 hv fun _ => by kernel_rfl
 ·intro A C E _ hF _
  refine (run_ok hF 20).xs ?_
  walk_at "vgo"
  rfl
noncomputable def signsL : List (List Nat) := [[], [39], [32], [61], [10], [9], [233], [34], [92], [95], [126], [97], [35], [7], [46], [45]]
noncomputable def sg (i : Int) : List Nat := (signsL[i.toNat]?).getD []
noncomputable def nameF (m : Int) : List Nat := sg (m.fmod 16) ++ sg ((m.fdiv 16).fmod 16) ++ sg ((m.fdiv 256).fmod 16)
theorem fmod16 (m : Int) : 0 ≤ m.fmod 16 ∧ m.fmod 16 < 16 := ⟨Int.fmod_nonneg_of_pos _ (by omega), Int.fmod_lt_of_pos _ (by omega)⟩
theorem pick16 {ds : List Dt} (hds : ds = signsL.map fun l => Dt.str (tx l)) {i : Int} (h : 0 ≤ i ∧ i < 16) : ds[i.toNat]? = some (Dt.str (tx (sg i))) := by
 subst hds
 obtain ⟨n, rfl⟩ := Int.eq_ofNat_of_zero_le h.1
 have hn : n < 16 := by omega
 rw [List.getElem?_map]
 unfold sg
 have : n < signsL.length := hn
 simp [this]
theorem sg_len (i : Int) : (sg i).length ≤ 1 := by
 unfold sg
 have key : ∀ l ∈ signsL, l.length ≤ 1 := by decide
 cases q : signsL[i.toNat]? with
 | none => simp
 | some l => exact key l (List.mem_of_getElem? q)
theorem name_ok (hT : TopOk w T gl) (hfn : FnIs T 857 (fnAt 72) .none) (m : Int) : FnOk w T 1 857 [.int m] (.str (tx (nameF m))) := by
 refine fnI hT hfn (names := ["mode"]) (rest := ["signs"]) (avs := [.int m]) (by kernel_rfl) rfl ?_ ?_
 ·exact fun _ _ _ _ _ _ _ _ _ _ _ _ hv => bind1 hv fun _ => by kernel_rfl
 ·intro A C E _ hF _
  refine (run_ok hF 30).xs ?_
  have s1 := sg_len (m.fmod 16)
  have s2 := sg_len ((m.fdiv 16).fmod 16)
  have s3 := sg_len ((m.fdiv 256).fmod 16)
  have h16 : 16 ≤ sizeLine := by rw [sizeLine_eq]; exact nl0 [] (.num 16) (.num 16777216) rfl
  walk_at "vgo"
  all_goals try first | exact h16 | (simp only [txl, PySem.Str.length_append]; omega) | omega
  refine l_item_list (fmod16 m).1 (by have := (fmod16 m).2; omega) (pick16 (by kernel_rfl) (fmod16 m)) ?_
  walk_at "vgo"
  all_goals try first | exact h16 | (simp only [txl, PySem.Str.length_append]; omega) | omega
  refine l_item_list (fmod16 (m.fdiv 16)).1 (by have := (fmod16 (m.fdiv 16)).2; omega) (pick16 (by kernel_rfl) (fmod16 _)) ?_
  walk_at "vgo"
  all_goals try first | exact h16 | (simp only [txl, PySem.Str.length_append]; (first | exact nl3 [_, _, _] vr0 (.num 1) vr1 (.num 1) (.num 16) vr2 (.add vr0 vr1) vr2 rfl s1 s2 h16 | omega)) | omega
  refine l_item_list (fmod16 (m.fdiv 256)).1 (by have := (fmod16 (m.fdiv 256)).2; omega) (pick16 (by kernel_rfl) (fmod16 _)) ?_
  walk_at "vgo"
  all_goals try first | exact h16 | (simp only [txl, PySem.Str.length_append]; (first | exact nl4 [_, _, _, _] vr0 (.num 1) vr1 (.num 1) vr2 (.num 1) (.num 16) vr3 (.add (.add vr0 vr1) vr2) vr3 rfl s1 s2 s3 h16 | omega)) | omega
  show some (Dt.str (tx _ ++ tx _ ++ tx _)) = _
  rw [txa, txa]; rfl
end
section
set_option tactic.hygienic true
theorem list_at {C : Cx} {fs : Fs} {own : List AO} {ρ : List Addr} {s : Shared} (I : Rx C fs own ρ s) {a : AV} {ds : List Dt} {v : Value} (e : toD own a = some (.list ds)) (hv : Is s.heap C.bd ρ a v) :
  ∃ b vs n, v = .ref b ∧ s.heap.get? b = some { cls := .type "list", data := .seq vs n } ∧ IsDs (Frz s.heap C.bd ρ) vs.toList ds := by
 unfold toD at e
 split at e
 ·rename_i k
  split at e
  ·rename_i xs hk
   split at e
   ·rename_i ds' hds
    cases e
    obtain ⟨b, hb, rfl⟩ := hv
    obtain ⟨b', o, e1, e2, vs, n, rfl, hal⟩ := I.mine k _ hk
    rw [hb] at e1; obtain rfl := Option.some.inj e1
    exact ⟨b, vs, n, rfl, e2, toDs_ok hal hds⟩
   ·contradiction
  ·contradiction
 ·have := toD1_ok e hv
  cases this with
  | list hp hds => exact ⟨_, _, _, rfl, hp.1, hds⟩
theorem l_addL {F : Fx} {S : Sy} {Q : AV → Sy → Prop} {a b : AV} {ds es : List Dt} (ha : toD S.own a = some (.list ds)) (hb : toD S.own b = some (.list es)) (hz : ds.length + es.length ≤ sizeLine) (h : Q (.dat (.list (ds ++ es))) S) : Leaf (Sm2 F Is (binaryOp .Add) a b S Q) := by
 refine ⟨?_⟩
 rintro s ρ v u I hv hu
 obtain ⟨p, vs, n, rfl, e1, h1⟩ := list_at I ha hv
 obtain ⟨q, us, n2, rfl, e2, h2⟩ := list_at I hb hu
 have hl : s.TypeIs (.ref p) "list" := ⟨_, e1, rfl⟩
 have hr : s.TypeIs (.ref q) "list" := ⟨_, e2, rfl⟩
 have hsz : vs.size + us.size ≤ sizeLine := by
  have a1 := h1.length; have a2 := h2.length
  simp at a1 a2; exact nl3 [_, _, _, _, _] vr0 vr1 vr2 vr3 (.add vr1 vr3) vr4 (.add vr0 vr2) vr4 rfl (Nat.le_of_eq a1) (Nat.le_of_eq a2) hz
 refine concat_meets hl hr noFill_list_add seq_list_add PySem.F.slot_list_add PySem.F.entry_list_add (PySem.F.args_list_add_2 _ _) (list_addW p q vs us n n2 none none #[] #[] hsz) ⟨e1, e2, ?_⟩
 exact Pg.newDat (k := s.toks) (n := 0) I (fun h' e hk hb' hr' => .list ⟨e, hb', hr'⟩ (by
  rw [Array.toList_append]
  exact (h1.append h2).mono fun c o y => ⟨hk _ _ y.1, y.2⟩)) h
end
section
open PySem.Builtin PySem.Builtin.Str
theorem strs_of {P : Addr → Obj → Prop} : ∀ {texts : List Str} {vs : List Value}, IsDs P vs (texts.map Dt.str) → ∃ l, vs = strValues l ∧ l.map (·.1) = texts
 | [], _, .nil => ⟨[], rfl, rfl⟩
 | x :: r, _, .cons h1 h2 => by
  cases h1 with | str _ t => ?_
  refine el12 (strs_of h2) fun l e1 e2 => ?_
  exact ⟨(x, t) :: l, by rw [e1]; rfl, by rw [List.map_cons, e2]⟩
theorem l_join {F : Fx} {S : Sy} {Q : AV → Sy → Prop} {x : Str} {a : AV} {texts : List Str} (ha : toD S.own a = some (.list (texts.map Dt.str))) (hok : JoinOk x texts = true) (h : Q (.str (Txt.join x texts)) S) : Leaf (SmL F (.blt "str.join") [.str x, a] S Q) := by
 refine ⟨?_⟩
 rintro s ρ fv vs I rfl hvs
 cases hvs with | cons hv hn => ?_
 cases hn with | cons hu hn => ?_
 cases hn
 obtain ⟨t, rfl⟩ := hv
 obtain ⟨p, vs, n, rfl, e1, h1⟩ := list_at I ha hu
 obtain ⟨l, el, et⟩ := strs_of h1
 refine SC.join (l := l) (texts := texts) ⟨_, e1, rfl, n, ?_⟩ et hok fun t' k => Pg.same I _ h ⟨_, rfl⟩
 show Data.seq vs n = _
 rw [← el]
noncomputable def trans (tab : Nat → Str) (l : List Nat) : List Nat := l.flatMap fun c => (tab c).cps.toList
theorem tableLookup_list {w : World} {A : Around} {E : Value → Shared → Prop} {s : Shared} {a : Addr} {vs : Array Value} {c : Nat} {x : Str} {t : Tok} {Q : Mapped → Shared → Prop}
  (hl : s.heap.IsList a vs) (hc : c < 2 ^ 63) (hx : vs[c]? = some (.str x t)) (h : Q (.text x) { s with toks := s.toks + 1 }) : wpAny (model pr w) A (tableLookup (.ref a) c) Q E s := by
 unfold tableLookup
 refine wpAny_bind (wpAny_attempt (wpAny_bind (wpAny_mkInt ?_)))
 refine wpAny_getItem_list (k := (c : Int)) (s := { s with toks := s.toks + 1 }) hl (by lia) (by lia) (by simpa using hx) ?_
 exact wpAny_pure h
noncomputable abbrev TrSt := List Str × Nat × Bool × List (Nat × Option Nat) × Bool
noncomputable def trOut (b : TrSt) : List Nat := b.1.reverse.flatMap fun p => p.cps.toList
structure TrInv (tab : Nat → Str) (x : List Nat) (s : Shared) (rest : List Nat) (b : TrSt) (s' : Shared) : Prop where
 noDrop : b.2.2.2.2 = false
 tot : b.2.1 = (trOut b).length
 out : trOut b ++ trans tab rest = trans tab x
 kn : ∀ c e, b.2.2.2.1.lookup c = some e → ∃ d, e = some d ∧ tab c = ⟨#[d]⟩
 sub : ∀ c ∈ rest, c ∈ x
 st : ∃ k, s' = { s with toks := k }
theorem TrInv.next {tab : Nat → Str} {x : List Nat} {s : Shared} {c : Nat} {rest : List Nat} {b : TrSt} {s' : Shared} (h : TrInv tab x s (c :: rest) b s') (k : Nat) (fast : Bool) (known : List (Nat × Option Nat)) (hk : ∀ c e, known.lookup c = some e → ∃ d, e = some d ∧ tab c = ⟨#[d]⟩) (n : Nat) (hn : n = b.2.1 + (tab c).length) :
  TrInv tab x s rest (tab c :: b.1, n, fast, known, false) { s with toks := k } := by
 obtain ⟨h1, h2, h3, h4, h5, _⟩ := h
 have e : trOut (tab c :: b.1, n, fast, known, false) = trOut b ++ (tab c).cps.toList := by simp [trOut]
 refine ⟨rfl, ?_, ?_, hk, fun d hd => h5 d (List.mem_cons_of_mem _ hd), ⟨k, rfl⟩⟩
 ·rw [e, hn, h2, List.length_append]; simp [PySem.Str.length]
 ·rw [e, ← h3]; simp [trans]
theorem tr_step {m : Model} {A : Around} {α : Type} {f : TrSt → Sem α} {Q : α → Shared → Prop} {E : Value → Shared → Prop} {tab : Nat → Str} {x : List Nat} {s : Shared} {rest : List Nat}
  (k : ∀ pieces total fast known k, TrInv tab x s rest (pieces, total, fast, known, false) { s with toks := k } → wpAny m A (f (pieces, total, fast, known, false)) Q E { s with toks := k }) : ∀ b s', TrInv tab x s rest b s' → wpAny m A (f b) Q E s' := by
 rintro ⟨pieces, total, fast, known, ad⟩ s' hI
 obtain ⟨n, rfl⟩ := hI.st
 have := hI.noDrop
 dsimp only at this
 subst this
 exact k _ _ _ _ n hI
theorem tr_len {tab : Nat → Str} {x : List Nat} {s : Shared} {c : Nat} {rest : List Nat} {pieces : List Str} {total : Nat} {fast : Bool} {known : List (Nat × Option Nat)} {s' : Shared} (hI : TrInv tab x s (c :: rest) (pieces, total, fast, known, false) s') (hz : (trans tab x).length ≤ sizeLine) : tooLong total = false := by
 have h2 := hI.tot
 have := congrArg List.length hI.out
 rw [List.length_append] at this
 exact decide_eq_false (Nat.not_lt_of_le (Nat.le_trans (Nat.le_of_eq h2) (Nat.le_trans (Nat.le_add_right _ _) (Nat.le_trans (Nat.le_of_eq this) hz))))
theorem one_of {y : Str} (ha : (y.length == 1 && y.cps.all fun x => decide (x < 128)) = true) : ∃ d, y = ⟨#[d]⟩ := by
 have h1 : y.cps.size = 1 := eq_of_beq (Bool.and_eq_true_iff.mp ha).1
 obtain ⟨⟨l⟩⟩ := y
 rw [List.size_toArray] at h1
 match l, h1 with
 | [d], _ => exact ⟨d, rfl⟩
theorem kn_add {tab : Nat → Str} {c d : Nat} {known : List (Nat × Option Nat)} (h4 : ∀ c e, known.lookup c = some e → ∃ d, e = some d ∧ tab c = ⟨#[d]⟩) (hd : tab c = ⟨#[d]⟩) (c' : Nat) (e : Option Nat) (q : ((c, some d) :: known).lookup c' = some e) : ∃ d, e = some d ∧ tab c' = ⟨#[d]⟩ := by
 rw [List.lookup_cons] at q
 by_cases hcc : c' = c
 ·subst hcc; rw [beq_self_eq_true] at q; exact ⟨d, (Option.some.inj q).symm, hd⟩
 ·rw [beq_eq_false_iff_ne.mpr hcc] at q; exact h4 c' e q
theorem tr_key (l : List Str) : ∀ acc : Array Nat, (⟨l.foldl (fun acc p => acc ++ p.cps) acc⟩ : PySem.Str) = tx (acc.toList ++ l.flatMap fun p => p.cps.toList) := by
 induction l with
 | nil => exact fun acc => by rw [List.flatMap_nil, List.append_nil]; rfl
 | cons p r ih => intro acc; rw [List.foldl_cons, ih, List.flatMap_cons, Array.toList_append, List.append_assoc]
theorem call_translate {w : World} {A : Around} {E : Value → Shared → Prop} {s : Shared} {a : Addr} {vs : Array Value} {x : Str} {t : Tok} {tab : Nat → Str} {Q : Value → Shared → Prop}
  (hl : s.heap.IsList a vs) (hx : ∀ c ∈ x.cps.toList, c < 2 ^ 63 ∧ ∃ t, vs[c]? = some (.str (tab c) t)) (hz : (trans tab x.cps.toList).length ≤ sizeLine) (hp : 0 < x.length)
  (h : ∀ t' k, Q (.str (tx (trans tab x.cps.toList)) t') { s with toks := k }) : wpAny (model pr w) A (call (.builtin "str.translate") [.str x t, .ref a]) Q E s := by
 refine wpAny_call_entry PySem.F.slot_str_translate (typeIs_str _ _ _) PySem.F.entry_str_translate ?_ (PySem.F.args_str_translate_2 _ _)
 unfold «str.translate»
 refine wpAny_bind (show wpAny _ _ (pure (Value.str x t, x, Value.ref a)) _ _ _ from wpAny_pure ?_)
 refine wif_f (beq_eq_false_iff_ne.mpr (Nat.ne_of_gt hp)) ?_
 refine wpAny_bind (wpAny_mono (wpAny_forIn_array' (β := TrSt) _ (TrInv tab x.cps.toList s) (fun b s' => TrInv tab x.cps.toList s [] b s') (fun c rest => tr_step fun pieces total fast known k hI => ?_) (fun _ _ h => h) _ _ ?_) (tr_step fun pieces total fast known k hI => ?_) fun _ _ e => e)
 ·refine wif_f (tr_len hI hz) ?_
  refine el11 (hx c (hI.sub c List.mem_cons_self)).2 fun t' hct => ?_
  have look : ∀ {E : Value → Shared → Prop} (P : Mapped → Shared → Prop) (k : Nat), P (.text (tab c)) { s with toks := k + 1 } → wpAny (model pr w) A.in1 (tableLookup (.ref a) c) P E { s with toks := k } := fun P k hP =>
   tableLookup_list (s := { s with toks := k }) hl (hx c (hI.sub c List.mem_cons_self)).1 hct hP
  refine bcase (b := fast) (fun hf => ?_) fun hf => ?_
  ·refine wif_f hf ?_
   refine wpAny_bind (look _ _ (wpAny_pure ?_))
   exact hI.next _ _ _ hI.kn _ rfl
  ·refine wif_t hf ?_
   subst hf
   cases hlk : known.lookup c with
   | some e =>
    refine el12 (hI.kn c e hlk) fun d e1 hd => ?_
    subst e1
    refine wpAny_bind (wpAny_pure (wpAny_pure ?_))
    exact hd ▸ hI.next k true known hI.kn (total + 1) (by rw [hd]; rfl)
   | none =>
    refine wpAny_bind (look _ _ ?_)
    refine bcase (b := (tab c).length == 1 && (tab c).cps.all fun x => decide (x < 128)) (fun ha => ?_) fun ha => ?_
    ·dsimp only
     rw [if_neg (by rw [ha]; exact noff)]
     refine wpAny_bind (wpAny_pure (wpAny_bind (wpAny_rule (wpAny_bind (look _ _ (wpAny_pure ?_))))))
     exact hI.next _ _ _ hI.kn _ rfl
    ·dsimp only
     rw [if_pos ha]
     refine el11 (one_of ha) fun d hd => ?_
     have e0 : (tab c).cps[0]? = some d := by rw [hd]; rfl
     rw [e0]
     refine wpAny_bind (wpAny_pure (wpAny_pure ?_))
     exact hd ▸ hI.next (k + 1) true ((c, some d) :: known) (kn_add hI.kn hd) (total + 1) (by rw [hd]; rfl)
 ·refine ⟨rfl, rfl, by simp [trOut], fun c e q => by simp at q, fun _ h => h, s.toks, rfl⟩
 ·have e3 : trOut (pieces, total, fast, known, false) = trans tab x.cps.toList := (List.append_nil _).symm.trans hI.out
  refine wif_f (decide_eq_false (by rw [show total = _ from hI.tot, e3]; exact (Nat.not_lt_of_le hz))) ?_
  rw [tr_key]
  rw [show (#[] : Array Nat).toList ++ (pieces.reverse.flatMap fun p => p.cps.toList) = trans tab x.cps.toList from e3]
  show wpAny _ _ (mkStr _ >>= fun v => ret v) _ _ _
  exact wpAny_bind (wpAny_mkStr (wpAny_pure ⟨_, rfl, h _ _⟩) (by rw [txl]; exact hz))
theorem l_translate {F : Fx} (hF : F.Ok) {S : Sy} {Q : AV → Sy → Prop} {a : Addr} {vs : Array Value} {n : Nat} (hT : F.T a { cls := .type "list", data := .seq vs n }) {x : List Nat} {tab : Nat → Str}
  (hx : ∀ c ∈ x, c < 2 ^ 63 ∧ ∃ t, vs[c]? = some (.str (tab c) t)) (hz : (trans tab x).length ≤ sizeLine) (hp : 0 < x.length) (h : Q (.str (tx (trans tab x))) S) : Leaf (SmL F (.blt "str.translate") [.str (tx x), .ref a] S Q) := by
 refine ⟨?_⟩
 rintro s ρ fv vs I rfl hvs
 cases hvs with | cons hv hn => ?_
 cases hn with | cons hu hn => ?_
 cases hn
 obtain ⟨t, rfl⟩ := hv
 subst hu
 exact call_translate (x := tx x) ⟨_, I.up _ _ (hF.top _ _ hT).1, rfl, n, rfl⟩ (by simpa using hx) (by simpa using hz) (by rw [txl]; exact hp) fun t' k => Pg.same (a := AV.str (tx (trans tab x))) I _ h ⟨t', rfl⟩
end
section
variable {w : World} {T : Addr → Obj → Prop}
noncomputable def joinL (e : List Nat) : List (List Nat) → List Nat
 | [] => []
 | x :: r => x ++ r.flatMap fun y => e ++ y
theorem join_tx (e : List Nat) (ls : List (List Nat)) : Txt.join (tx e) (ls.map tx) = tx (joinL e ls) := by
 have key : ∀ (r : List (List Nat)) (acc : Array Nat), (⟨(r.map tx).foldl (fun acc p => acc ++ (tx e).cps ++ p.cps) acc⟩ : PySem.Str) = tx (acc.toList ++ r.flatMap fun y => e ++ y) := by
  intro r
  induction r with
  | nil => intro acc; simp
  | cons x r ih => intro acc; rw [List.map_cons, List.foldl_cons, ih]; simp
 induction ls with
 | nil => rfl
 | cons x r =>
  show (⟨((x :: r).map tx |>.drop 1).foldl (fun acc p => acc ++ (tx e).cps ++ p.cps) (((x :: r).map tx).headD PySem.Str.empty).cps⟩ : PySem.Str) = _
  rw [List.map_cons, List.drop_one, List.tail_cons, List.headD_cons, key]
  simp [joinL]
theorem joinOk_of {e : List Nat} {ls : List (List Nat)} {n : Nat} (h1 : ls.length ≤ n) (h2 : (ls.flatMap id).length ≤ n) (h3 : e.length ≤ 10) (hn : n ≤ 100000) : JoinOk (tx e) (ls.map tx) = true := by
 have key : ∀ (r : List (List Nat)) (k : Nat), (r.map tx).foldl (fun acc (p : Str) => acc + p.length + (tx e).length) k = k + (r.flatMap id).length + r.length * e.length := by
  intro r
  induction r with
  | nil => intro k; simp
  | cons x r ih =>
   intro k
   rw [List.map_cons, List.foldl_cons, ih]
   simp only [txl, List.flatMap_cons, List.length_append, List.length_cons, id, Nat.succ_mul]
   exact (Nat.le_antisymm (nl0 [_, _, _, _, _] (.add (.add (.add (.add vr0 vr1) vr2) vr3) vr4) (.add (.add vr0 (.add vr1 vr3)) (.add vr4 vr2)) rfl) (nl0 [_, _, _, _, _] (.add (.add vr0 (.add vr1 vr2)) (.add vr3 vr4)) (.add (.add (.add (.add vr0 vr1) vr4) vr2) vr3) rfl))
 unfold JoinOk
 have : (ls.map tx).toArray.foldl (fun acc (p : Str) => acc + p.length + (tx e).length) 0 = (ls.flatMap id).length + ls.length * e.length := by
  rw [List.foldl_toArray', key]; exact (Nat.le_antisymm (nl0 [_, _] (.add (.add (.num 0) vr0) vr1) (.add vr0 vr1) rfl) (nl0 [_, _] (.add vr0 vr1) (.add (.add (.num 0) vr0) vr1) rfl))
  rfl
 rw [this]
 unfold Builtin.Str.tooLong
 have h4 : ls.length * e.length ≤ n * 10 := Nat.mul_le_mul h1 h3
 have := sizeLine_eq
 generalize (ls.flatMap id).length = g at *
 generalize ls.length * e.length = g2 at *
 rw [decide_eq_false (by exact (Nat.not_lt_of_le (nl5 [_, _, _, _] vr0 vr1 vr1 (.num 100000) (.num 16777216) vr2 vr3 (.mulR vr1 10) (.mulL 10 vr1) (.mulL 10 (.num 100000)) (.add vr0 vr3) vr2 rfl h2 hn (Nat.le_of_eq (Eq.symm (by assumption))) h4 (Nat.mul_le_mul_left 10 hn))))]; rfl
noncomputable def hitB (m : Int) (i : Nat) (b : Int) : Bool := if i = 0 then Builtin.bitAnd m 61440 == b else Builtin.bitAnd m b == b
noncomputable def pick (m : Int) (i : Nat) : List (Int × Nat) → Nat
 | [] => if i = 0 then 63 else 45
 | (b, c) :: r => if hitB m i b then c else pick m i r
theorem pick_nil (m : Int) (i : Nat) : pick m i [] = if i = 0 then 63 else 45 := rfl
theorem pick_cons (m : Int) (i : Nat) (b : Int) (c : Nat) (r : List (Int × Nat)) : pick m i ((b, c) :: r) = if hitB m i b then c else pick m i r := rfl
noncomputable def fmF (m : Int) (i : Nat) : List Nat := (List.range i).map fun j => pick m j ((tabD[j]?).getD [])
noncomputable def stF (m : Int) (acc : List Nat) (idx tbl bit ch : Option AV) : Sy :=
 ⟨[("mode", some (.int m)), ("perm", some (.own 0)), ("index", idx), ("table", tbl), ("bit", bit), ("char", ch)], [.list (acc.map fun c => AV.str (tx [c]))]⟩
theorem filemode_ok (hT : TopOk w T gl) (hS : FnIs T 810 (fnAt 49) .none) (hfn : FnIs T 850 (fnAt 70) .none) {vs : Array Value} {n : Nat} (hta : T 843 { cls := .type "tuple", data := .seq vs n }) (hds : IsDs T vs.toList (tabD.map rowD)) (m : Int) : FnOk w T 2 850 [.int m] (.str (tx (fmF m 10))) := by
 have hsl : 1000000 ≤ sizeLine := by rw [sizeLine_eq]; exact nl0 [] (.num 1000000) (.num 16777216) rfl
 refine fnI hT hfn (names := ["mode"]) (rest := ["perm", "index", "table", "bit", "char"]) (avs := [.int m]) (by kernel_rfl) rfl ?_ ?_
 ·exact fun _ _ _ _ _ _ _ _ _ _ _ _ hv => bind1 hv fun _ => by kernel_rfl
 ·intro A C E _ hF _
  refine (run_ok hF 40).xs ?_
  have hS1 := S_IFMT_ok hT hS m
  walk_at "vgo"
  refine for_enum (ta := 843) (ds := tabD.map rowD) hF 40 (fun i S => ∃ a b c d, S = stF m (fmF m i) a b c d) (fun _ => rfl) (by walk_at "vgo"; exact ⟨rfl, rfl⟩) (by walk_at "vgo"; exact ⟨rfl, rfl⟩) hta hds ⟨none, none, none, none, rfl⟩ ?_ ?_
  ·rintro C' E' i d S hF' hd ⟨a0, b0, c0, d0, rfl⟩
   obtain ⟨row, hrow, rfl⟩ : ∃ row, tabD[i]? = some row ∧ d = rowD row := by
    rw [List.getElem?_map] at hd
    refine el12 (Option.map_eq_some_iff.mp hd) fun y h1 h2 => ?_
    exact ⟨y, h1, h2.symm⟩
   have hi : i < 10 := (List.getElem?_eq_some_iff.mp hrow).1
   have hnext : fmF m (i + 1) = fmF m i ++ [pick m i row] := by unfold fmF; rw [List.range_succ]; simp [hrow]
   have hacl : (fmF m i).length ≤ 10 := by simp [fmF]; exact nl1 [_] (.add vr0 (.num 1)) (.num 10) vr0 (.num 10) rfl hi
   show stT _ _ _ _ (fun S₁ => (run _ _).xs _ _ (LpQ (fun S => ∃ a b c d, S = stF m (fmF m (i + 1)) a b c d) _))
   rw [hnext]
   generalize fmF m i = acc at *
   walk_at "vgo"
   refine for_ok' hF' 40 (fun j S => pick m i row = pick m i (row.drop j) ∧ ∃ c d, S = stF m acc (some (.int i)) (some (.dat (rowD row))) c d) ((row.map cellD).map ofD) (S₀ := stF m acc (some (.int i)) (some (.dat (rowD row))) c0 d0) (fun _ => rfl) (by walk_at "vgo"; exact ⟨rfl, rfl⟩) ⟨rfl, _, _, rfl⟩ ?_ ?_
   ·rintro C2 E2 j a S hF2 ha ⟨hpk, c1, d1, rfl⟩
    obtain ⟨⟨b, ch⟩, hp, rfl⟩ : ∃ p, row[j]? = some p ∧ a = .dat (cellD p) := by
     rw [List.map_map, List.getElem?_map] at ha
     refine el12 (Option.map_eq_some_iff.mp ha) fun p h1 h2 => ?_
     exact ⟨p, h1, h2.symm⟩
    have hdr : row.drop j = (b, ch) :: row.drop (j + 1) := by
     obtain ⟨hj, e⟩ := List.getElem?_eq_some_iff.mp hp
     rw [List.drop_eq_getElem_cons hj, e]
    rw [hdr, pick_cons] at hpk
    have hTi : ((i : Int) == 0) = decide (i = 0) := by rw [Bool.eq_iff_iff]; simp
    have hfin : ∀ S', hitB m i b = true → S' = stF m (acc ++ [ch]) (some (.int i)) (some (.dat (rowD row))) (some (.int b)) (some (.str (tx [ch]))) → Leaf (∃ a b c d, S' = stF m (acc ++ [pick m i row]) a b c d) := fun S' hh e => by
     rw [if_pos hh] at hpk
     rw [hpk]; exact ⟨⟨_, _, _, _, e⟩⟩
    have hgo : ∀ S', hitB m i b = false → S' = stF m acc (some (.int i)) (some (.dat (rowD row))) (some (.int b)) (some (.str (tx [ch]))) → Leaf (pick m i row = pick m i (row.drop (j + 1)) ∧ ∃ c d, S' = stF m acc (some (.int i)) (some (.dat (rowD row))) c d) := fun S' hh e => by
     rw [if_neg (by rw [hh]; decide)] at hpk
     exact ⟨⟨hpk, _, _, e⟩⟩
    by_cases h0 : i = 0
    ·rw [decide_eq_true h0] at hTi
     have hhb : hitB m i b = (Builtin.bitAnd m 61440 == b) := by unfold hitB; rw [if_pos h0]
     walk_at "vgo"
     ·exact fn_okF hF2 hS1
     ·refine ⟨fn_call hF2 hS1 (Nat.le_refl _) rfl ?_⟩
      cases hz : (Builtin.bitAnd m 61440 == b) with
      | true =>
       walk_at "vgo"
       refine l_append (k := 0) (a := .str (tx [ch])) (xs := acc.map fun c => AV.str (tx [c])) rfl (by simp; exact nl2 [_, _] vr0 (.num 10) (.num 1000000) vr1 vr0 vr1 rfl hacl hsl) ?_
       walk_at "vgo"
       exact hfin _ (hhb.trans hz) (by unfold stF; rw [List.map_append]; rfl)
      | false =>
       walk_at "vgo"
       exact hgo _ (hhb.trans hz) rfl
    ·rw [decide_eq_false h0] at hTi
     have hhb : hitB m i b = (Builtin.bitAnd m b == b) := by unfold hitB; rw [if_neg h0]
     cases hz : (Builtin.bitAnd m b == b) with
     | true =>
      walk_at "vgo"
      refine l_append (k := 0) (a := .str (tx [ch])) (xs := acc.map fun c => AV.str (tx [c])) rfl (by simp; exact nl2 [_, _] vr0 (.num 10) (.num 1000000) vr1 vr0 vr1 rfl hacl hsl) ?_
      walk_at "vgo"
      exact hfin _ (hhb.trans hz) (by unfold stF; rw [List.map_append]; rfl)
     | false =>
      walk_at "vgo"
      exact hgo _ (hhb.trans hz) rfl
   ·rintro E2 S hF2 ⟨hpk, c1, d1, rfl⟩
    rw [show ((row.map cellD).map ofD).length = row.length by simp, List.drop_length, pick_nil] at hpk
    have hTi : ((i : Int) == 0) = decide (i = 0) := by rw [Bool.eq_iff_iff]; simp
    by_cases h0 : i = 0
    ·rw [decide_eq_true h0] at hTi
     rw [if_pos h0] at hpk
     walk_at "vgo"
     refine l_append (k := 0) (a := .str (tx [63])) (xs := acc.map fun c => AV.str (tx [c])) rfl (by simp; exact nl2 [_, _] vr0 (.num 10) (.num 1000000) vr1 vr0 vr1 rfl hacl hsl) ?_
     walk_at "vgo"
     rw [hpk]
     exact ⟨⟨_, _, c1, d1, by unfold stF; rw [List.map_append]; rfl⟩⟩
    ·rw [decide_eq_false h0] at hTi
     rw [if_neg h0] at hpk
     walk_at "vgo"
     refine l_append (k := 0) (a := .str (tx [45])) (xs := acc.map fun c => AV.str (tx [c])) rfl (by simp; exact nl2 [_, _] vr0 (.num 10) (.num 1000000) vr1 vr0 vr1 rfl hacl hsl) ?_
     walk_at "vgo"
     rw [hpk]
     exact ⟨⟨_, _, c1, d1, by unfold stF; rw [List.map_append]; rfl⟩⟩
  ·rintro E' S hF' ⟨a0, b0, c0, d0, rfl⟩
   rw [show (tabD.map rowD).length = 10 from rfl]
   have hlen : (fmF m 10).length = 10 := by simp [fmF]
   generalize fmF m 10 = acc at *
   have hflat : ∀ L : List Nat, (L.map fun c => [c]).flatMap id = L := fun L => by
    induction L with
    | nil => rfl
    | cons c r ih => rw [List.map_cons, List.flatMap_cons, ih]; rfl
   have hmap : ∀ L : List Nat, toDs (L.map fun c => AV.str (tx [c])) = some (((L.map fun c => [c]).map tx).map Dt.str) := by
    intro L
    induction L with
    | nil => rfl
    | cons c r ih =>
     show (match toD1 (AV.str (tx [c])), toDs (r.map fun c => AV.str (tx [c])) with | some d, some ds => some (d :: ds) | _, _ => none) = _
     rw [ih]; rfl
   walk_at "vgo"
   refine l_join (x := tx []) (texts := (acc.map fun c => [c]).map tx) ?_ (joinOk_of (n := 100) (by simp; exact nl1 [_] vr0 (.num 10) vr0 (.num 100) rfl (Nat.le_of_eq hlen)) (by rw [hflat]; exact nl1 [_] vr0 (.num 10) vr0 (.num 100) rfl (Nat.le_of_eq hlen)) (by simp) (by exact nl0 [] (.num 100) (.num 100000) rfl)) ?_
   ·show (match toDs (acc.map fun c => AV.str (tx [c])) with | some ds => some (Dt.list ds) | none => none) = _
    rw [hmap]
   ·rw [join_tx]
    walk_at "vgo"
    show some (Dt.str _) = _
    have : joinL [] (acc.map fun c => [c]) = acc := by
     induction acc with
     | nil => rfl
     | cons c r =>
      show [c] ++ ((r.map fun c => [c]).flatMap fun y => [] ++ y) = c :: r
      have := hflat r
      rw [show (fun y : List Nat => [] ++ y) = id from rfl, this]; rfl
    rw [this]
end
section
open PySem.Builtin PySem.Builtin.Str PySem.StrLaws
inductive Sp (y : List Nat) : List Nat → List (List Nat) → Prop
 | nil : Sp y [] [[]]
 | hit {r ps} : Sp y r ps → Sp y (y ++ r) ([] :: ps)
 | skip {c r p ps} : ¬ y <+: (c :: r) → Sp y r (p :: ps) → Sp y (c :: r) ((c :: p) :: ps)
theorem at_iff {X y : List Nat} (hy : y ≠ []) (i : Nat) : At (tx X) (tx y) (tx X).length i ↔ y <+: X.drop i := by
 have hl : 0 < y.length := List.length_pos_iff.mpr hy
 have e : subAt (tx X) (tx y) i = ((X.drop i).take y.length == y) := by rw [subAt_eq, txl]
 unfold At
 rw [e, txl, txl, List.prefix_iff_eq_take, beq_iff_eq]
 refine ⟨fun h => h.2.symm, fun h => ⟨?_, h.symm⟩⟩
 have h1 := congrArg List.length h
 rw [List.length_take, List.length_drop] at h1
 have h1 := Nat.le_trans (Nat.le_of_eq h1) (Nat.min_le_right _ _)
 have h2 := Nat.sub_add_cancel (Nat.le_of_lt (Nat.lt_of_sub_pos (Nat.lt_of_lt_of_le hl h1)))
 exact nl2 [_, _, _, _] (.add vr0 vr1) vr2 vr3 vr0 (.add vr1 vr3) vr2 rfl (Nat.le_of_eq h2) h1
theorem strSub_tx (X : List Nat) (a c : Nat) : strSub (tx X) a c = tx ((X.drop a).take (c - a)) := by
 have := strSub_toList (tx X) a c
 exact StrLaws.mk_of_toList this
theorem Sp.parts {y : List Nat} (hy : y ≠ []) {l : List Nat} {ps : List (List Nat)} (h : Sp y l ps) : ∀ (X pre : List Nat) (a : Nat) (cuts : List Nat) (f : Nat), X = pre ++ l → a ≤ pre.length →
  (∀ k, a ≤ k → k < pre.length → ¬ y <+: X.drop k) → ChainG (tx X) (tx y) (tx X).length a cuts f → (∀ k, f ≤ k → ¬ y <+: X.drop k) →
  ∃ p qs, ps = p :: qs ∧ partsFrom (tx X) y.length a cuts = tx (pre.drop a ++ p) :: qs.map tx ∧ qs.length = cuts.length := by
 have hl : 0 < y.length := List.length_pos_iff.mpr hy
 induction h with
 | nil =>
  intro X pre a cuts f hX ha hn hc hf
  rw [List.append_nil] at hX
  subst hX
  induction cuts with
  | nil =>
   refine ⟨[], [], rfl, ?_, rfl⟩
   show [strSub (tx X) a (tx X).length] = _
   rw [strSub_tx, txl, List.take_of_length_le (by simp), List.append_nil]; rfl
  | cons c r =>
   exfalso
   have h1 := hc.2.1.1
   rw [txl, txl] at h1
   exact hn c hc.1 (by exact nl2 [_, _, _] (.add vr0 vr1) vr2 (.add (.num 0) (.num 1)) vr1 (.add vr0 (.num 1)) vr2 rfl h1 hl) ((at_iff hy c).mp hc.2.1)
 | @hit r ps _ ih =>
  intro X pre a cuts f hX ha hn hc hf
  have hat : y <+: X.drop pre.length := by rw [hX, List.drop_left]; exact ⟨r, rfl⟩
  induction cuts with
  | nil => exact absurd hat (hf _ (by rw [show f = a from hc]; exact ha))
  | cons c cs =>
   refine el04 (hc) fun h1 h2 h3 h4 => ?_
   have h2' := (at_iff hy c).mp h2
   have hce : c = pre.length := by
    rcases Nat.lt_trichotomy c pre.length with q | q | q
    ·exact absurd h2' (hn c h1 q)
    ·exact q
    ·exact absurd ((at_iff hy _).mpr hat) (h3 _ ha q)
   subst hce
   rw [txl y] at h4
   obtain ⟨p, qs, e1, e2, e3⟩ := ih X (pre ++ y) (pre.length + y.length) cs f (by rw [hX, List.append_assoc]) (by simp) (fun k k1 k2 => by simp at k2; exact (Nat.not_succ_le_zero 0 (nl2 [_, _, _] (.add vr0 (.num 1)) (.add vr1 vr2) (.add vr1 vr2) vr0 (.num 1) (.num 0) rfl k2 k1)).elim) h4 hf
   refine ⟨[], ps, rfl, ?_, by rw [e1]; simp [e3]⟩
   show strSub (tx X) a pre.length :: partsFrom (tx X) y.length (pre.length + y.length) cs = _
   rw [e2, e1, strSub_tx, hX, List.drop_append_of_le_length ha, List.take_left' (by simp)]
   simp
 | @skip c r p ps hns _ ih =>
  intro X pre a cuts f hX ha hn hc hf
  obtain ⟨p', qs, e1, e2, e3⟩ := ih X (pre ++ [c]) a cuts f (by rw [hX]; simp) (by simp; exact nl1 [_, _] vr0 vr1 vr0 (.add vr1 (.num 1)) rfl ha) (fun k k1 k2 => by
   by_cases q : k < pre.length
   ·exact hn k k1 q
   ·have : k = pre.length := by simp at k2; exact (Nat.le_antisymm (nl1 [_, _] (.add vr0 (.num 1)) (.add vr1 (.num 1)) vr0 vr1 rfl k2) (Nat.le_of_not_lt q))
    subst this
    rw [hX, List.drop_left]; exact hns) hc hf
  cases e1
  refine ⟨_, _, rfl, ?_, e3⟩
  rw [e2, List.drop_append_of_le_length ha]
  simp
theorem Sp.cuts {y : List Nat} (hy : y ≠ []) {l : List Nat} {ps : List (List Nat)} (h : Sp y l ps) :
  partsBetween (tx l) (occurrences (tx l) (tx y) 0 (tx l).length ((tx l).length + 1)) (tx y).length = ps.map tx ∧ ps.length = (occurrences (tx l) (tx y) 0 (tx l).length ((tx l).length + 1)).length + 1 := by
 have hl : 0 < y.length := List.length_pos_iff.mpr hy
 obtain ⟨f, h1, h2⟩ := occ_tight (tx l) (tx y) (by rw [txl]; exact hl)
 refine el23 (h.parts hy l [] 0 _ f rfl (Nat.le_refl 0) (fun k _ k2 => by simp at k2) h1 (fun k hk q => h2 k hk ((at_iff hy k).mpr q))) fun p qs e1 e2 e3 => ?_
 rw [partsBetween_eq, txl y, e2, e1]
 exact ⟨rfl, by simp [e3]⟩
theorem Sp.count {y : List Nat} (hy : y ≠ []) {l : List Nat} {ps : List (List Nat)} (h : Sp y l ps) : Txt.count (tx l) (tx y) = ((ps.length - 1 : Nat) : Int) := by
 unfold Txt.count
 rw [(h.cuts hy).2]; rfl
theorem strKind_le (x : PySem.Str) : 1 ≤ Builtin.Str.strKind x := by unfold Builtin.Str.strKind; split <;> (try split) <;> (first | exact nl0 [] (.num 1) (.num 1) rfl | exact nl0 [] (.num 1) (.num 2) rfl | exact nl0 [] (.num 1) (.num 4) rfl | lia)
theorem Sp.split {y : List Nat} (hy : y ≠ []) (hk : Builtin.Str.strKind (tx y) = 1) {l : List Nat} {ps : List (List Nat)} (h : Sp y l ps) : Txt.split (tx l) (tx y) = ps.map tx := by
 refine el02 (h.cuts hy) fun h1 h2 => ?_
 have hemp : (occurrences (tx l) (tx y) 0 (tx l).length ((tx l).length + 1)) = [] → [tx l] = ps.map tx := fun q => by
  rw [q] at h1
  rw [← h1]
  show _ = [strSub (tx l) 0 (tx l).length]
  rw [sub_whole]
 have hkk : decide (Builtin.Str.strKind (tx l) < Builtin.Str.strKind (tx y)) = false := by have := strKind_le (tx l); rw [hk]; simp; exact (Nat.ne_of_gt (nl1 [_] (.num 1) vr0 (.add (.num 0) (.num 1)) vr0 rfl this))
 unfold Txt.split
 rw [hkk, Bool.or_false]
 by_cases q : (tx l).length < (tx y).length
 ·rw [if_pos (decide_eq_true q)]
  refine hemp ?_
  obtain ⟨f, g1, g2⟩ := occ_tight (tx l) (tx y) (by rw [txl]; exact List.length_pos_iff.mpr hy)
  cases e : occurrences (tx l) (tx y) 0 (tx l).length ((tx l).length + 1) with
  | nil => rfl
  | cons c r => rw [e] at g1; have := g1.2.1.1; exact (Nat.not_succ_le_zero 0 (nl2 [_, _, _] (.add vr0 (.num 1)) vr1 (.add vr2 vr1) vr0 (.num 1) (.num 0) rfl q this)).elim
 ·rw [if_neg (by simpa using q)]
  cases e : occurrences (tx l) (tx y) 0 (tx l).length ((tx l).length + 1) with
  | nil => exact hemp e
  | cons c r => rw [e] at h1; exact h1
theorem Sp.replace {y : List Nat} (hy : y ≠ []) (z : List Nat) {l : List Nat} {ps : List (List Nat)} (h : Sp y l ps) : Txt.replace (tx l) (tx y) (tx z) = tx (joinL z ps) := by
 refine el02 (h.cuts hy) fun h1 h2 => ?_
 have hl : (tx y).length ≠ 0 := by rw [txl]; exact fun q => hy (List.eq_nil_of_length_eq_zero q)
 have e0 : ((tx y).length == 0) = false := by simpa using hl
 unfold Txt.replace
 rw [e0, Bool.false_and, Bool.or_false]
 cases e : occurrences (tx l) (tx y) 0 (tx l).length ((tx l).length + 1) with
 | nil =>
  rw [e] at h1 h2
  have h1' : [strSub (tx l) 0 (tx l).length] = ps.map tx := h1
  rw [sub_whole] at h1'
  show tx l = _
  rw [← join_tx, ← h1']; rfl
 | cons c r =>
  rw [e] at h1
  show Txt.join (tx z) _ = _
  rw [h1, join_tx]
theorem Sp.ne {y l : List Nat} {ps : List (List Nat)} (h : Sp y l ps) : ∃ p qs, ps = p :: qs := by cases h <;> exact ⟨_, _, rfl⟩
theorem joinL_hit (z : List Nat) {ps : List (List Nat)} (h : ∃ p qs, ps = p :: qs) : joinL z ([] :: ps) = z ++ joinL z ps := by
 obtain ⟨p, qs, rfl⟩ := h
 simp [joinL]
theorem joinL_skip (z : List Nat) (c : Nat) (p : List Nat) (ps : List (List Nat)) : joinL z ((c :: p) :: ps) = c :: joinL z (p :: ps) := by simp [joinL]
noncomputable def nb (a : List Nat) : Prop := ∀ c ∈ a, Unicode.isLineBreak c = false
inductive Ls : List Nat → List (List Nat) → Prop
 | nil : Ls [] []
 | last {a} : a ≠ [] → nb a → Ls a [a]
 | lf {a r ps} : nb a → Ls r ps → Ls (a ++ 10 :: r) (a :: ps)
 | crlf {a r ps} : nb a → Ls r ps → Ls (a ++ 13 :: 10 :: r) (a :: ps)
 | cr {a} : nb a → Ls (a ++ [13]) [a]
noncomputable def lsR (X : List Nat) (i : Nat) (st : LsSt) : LsSt := Id.run (forIn (m := Id) (List.range' i (X.length - i)) st (lsBody (tx X)))
theorem lsR_step {X : List Nat} {i : Nat} {st : LsSt} {c : Nat} (hc : X[i]? = some c) :
  lsR X i st = lsR X (i + 1) (if (decide (st.2 ≤ i) && Unicode.isLineBreak c) = true then (st.1.push (st.2, i, lsNext (tx X) i), lsNext (tx X) i) else st) := by
 obtain ⟨hi, he⟩ := List.getElem?_eq_some_iff.mp hc
 have hg : (tx X).cps.getD i 0 = c := by simp [Array.getD, hi, he]
 unfold lsR
 rw [show X.length - i = (X.length - (i + 1)) + 1 by exact (Nat.le_antisymm (nl2 [_, _, _, _] (.add vr0 vr1) vr2 vr2 (.add vr3 (.add vr1 (.num 1))) vr0 (.add vr3 (.num 1)) rfl (Nat.le_of_eq (Nat.sub_add_cancel (nl1 [_, _] (.add vr0 (.num 1)) vr1 vr0 vr1 rfl hi))) (Nl.sb _ _)) (nl2 [_, _, _, _] (.add vr0 (.add vr1 (.num 1))) vr2 vr2 (.add vr3 vr1) (.add vr0 (.num 1)) vr3 rfl (Nat.le_of_eq (Nat.sub_add_cancel hi)) (Nl.sb _ _))), List.range'_succ, List.forIn_cons]
 unfold lsBody
 rw [hg]
 by_cases q : (decide (st.2 ≤ i) && Unicode.isLineBreak c) = true
 ·rw [if_pos q, if_pos q]; rfl
 ·rw [if_neg q, if_neg q]; rfl
theorem lsR_end {X : List Nat} {i : Nat} (h : X.length ≤ i) (st : LsSt) : lsR X i st = st := by
 unfold lsR
 rw [show X.length - i = 0 by exact (Nat.le_antisymm (Nat.le_of_eq (Nat.sub_eq_zero_of_le h)) (nl0 [_] (.num 0) vr0 rfl))]; rfl
theorem lsR_skip {X : List Nat} (st : LsSt) : ∀ (a : List Nat) (i : Nat), nb a → (∀ k, k < a.length → X[i + k]? = a[k]?) → lsR X i st = lsR X (i + a.length) st
 | [], _, _, _ => rfl
 | c :: r, i, hn, hk => by
  have h0 : X[i]? = some c := hk 0 (by simp)
  rw [lsR_step h0, hn c List.mem_cons_self, Bool.and_false, if_neg (by decide), lsR_skip st r (i + 1) (fun d hd => hn d (List.mem_cons_of_mem _ hd)) (fun k q => by have := hk (k + 1) (by simpa using q); rw [Nat.add_right_comm, Nat.add_assoc]; simpa using this)]
  rw [List.length_cons, Nat.add_right_comm, Nat.add_assoc]
noncomputable abbrev subs (X : List Nat) (l : List (Nat × Nat × Nat)) : List Str := l.map fun p => strSub (tx X) p.1 p.2.1
theorem sub_mid {X pre a r : List Nat} (h : X = pre ++ (a ++ r)) : strSub (tx X) pre.length (pre.length + a.length) = tx a := by
 rw [strSub_tx, h, List.drop_left, Nat.add_sub_cancel_left, List.take_left]
theorem mid_at {X pre a r : List Nat} (h : X = pre ++ (a ++ r)) : ∀ k, k < a.length → X[pre.length + k]? = a[k]? := fun k hk => by
 rw [h, List.getElem?_append_right (Nat.le_add_right _ _), Nat.add_sub_cancel_left, List.getElem?_append_left hk]
theorem after_at {X pre a r : List Nat} (h : X = pre ++ (a ++ r)) (k : Nat) : X[pre.length + a.length + k]? = r[k]? := by
 rw [h, ← List.append_assoc, List.getElem?_append_right (by simp)]; simp
theorem next_lf {X : List Nat} {i : Nat} (h : X[i]? = some 10) : lsNext (tx X) i = i + 1 := by
 obtain ⟨hi, he⟩ := List.getElem?_eq_some_iff.mp h
 have hg : (tx X).cps.getD i 0 = 10 := by simp [Array.getD, hi, he]
 unfold lsNext; rw [hg]; rfl
theorem next_cr {X : List Nat} {i : Nat} (h : X[i]? = some 13) : lsNext (tx X) i = if X[i + 1]? = some 10 then i + 2 else i + 1 := by
 obtain ⟨hi, he⟩ := List.getElem?_eq_some_iff.mp h
 have hg : (tx X).cps.getD i 0 = 13 := by simp [Array.getD, hi, he]
 have h2 : (tx X).cps[i + 1]? = X[i + 1]? := by simp
 unfold lsNext; rw [hg, h2]; simp
theorem Ls.run {l : List Nat} {ps : List (List Nat)} (h : Ls l ps) : ∀ (X pre : List Nat) (acc : Array (Nat × Nat × Nat)), X = pre ++ l → subs X (lsEnd (tx X) (lsR X pre.length (acc, pre.length))) = subs X acc.toList ++ ps.map tx := by
 induction h with
 | nil =>
  intro X pre acc hX
  rw [List.append_nil] at hX
  subst hX
  rw [lsR_end (Nat.le_refl _)]
  unfold lsEnd
  rw [if_neg (by rw [txl]; exact Nat.lt_irrefl _)]
  simp
 | @last a ha hn =>
  intro X pre acc hX
  have hX' : X = pre ++ (a ++ []) := by rw [hX, List.append_nil]
  have hlen : X.length = pre.length + a.length := by rw [hX]; simp
  rw [lsR_skip _ a _ hn (mid_at hX'), lsR_end (by exact (Nat.le_of_eq hlen))]
  unfold lsEnd
  have : 0 < a.length := List.length_pos_iff.mpr ha
  rw [if_pos (by rw [txl]; show pre.length < _; exact nl2 [_, _, _] (.add vr0 vr1) vr2 (.add (.num 0) (.num 1)) vr1 (.add vr0 (.num 1)) vr2 rfl (Nat.le_of_eq (Eq.symm hlen)) this)]
  rw [Array.toList_push]
  simp only [List.map_append, List.map_cons, List.map_nil, txl, hlen, sub_mid hX']
 | @lf a r ps hn _ ih =>
  intro X pre acc hX
  have h10 : X[pre.length + a.length]? = some 10 := by have := after_at hX 0; simpa using this
  rw [lsR_skip _ a _ hn (mid_at hX), lsR_step h10, if_pos (by simp; decide +kernel), next_lf h10]
  have := ih X (pre ++ (a ++ [10])) (acc.push (pre.length, pre.length + a.length, pre.length + a.length + 1)) (by rw [hX]; simp)
  have e : (pre ++ (a ++ [10])).length = pre.length + a.length + 1 := by simp [Nat.add_assoc]
  rw [e] at this
  rw [this, Array.toList_push]
  simp only [List.map_append, List.map_cons, List.map_nil, sub_mid hX, List.append_assoc, List.singleton_append]
 | @crlf a r ps hn _ ih =>
  intro X pre acc hX
  have h13 : X[pre.length + a.length]? = some 13 := by have := after_at hX 0; simpa using this
  have h10 : X[pre.length + a.length + 1]? = some 10 := by have := after_at hX 1; simpa using this
  rw [lsR_skip _ a _ hn (mid_at hX), lsR_step h13, if_pos (by simp; decide +kernel), next_cr h13, if_pos h10, lsR_step h10, if_neg (by simp)]
  have := ih X (pre ++ (a ++ [13, 10])) (acc.push (pre.length, pre.length + a.length, pre.length + a.length + 2)) (by rw [hX]; simp)
  have e : (pre ++ (a ++ [13, 10])).length = pre.length + a.length + 2 := by simp [Nat.add_assoc]
  rw [e] at this
  rw [this, Array.toList_push]
  simp only [List.map_append, List.map_cons, List.map_nil, sub_mid hX, List.append_assoc, List.singleton_append]
 | @cr a hn =>
  intro X pre acc hX
  have h13 : X[pre.length + a.length]? = some 13 := by have := after_at hX 0; simpa using this
  have h10 : ¬ X[pre.length + a.length + 1]? = some 10 := by have := after_at hX 1; rw [this]; simp
  have hlen : X.length = pre.length + a.length + 1 := by rw [hX]; simp; exact (Nat.le_antisymm (nl0 [_, _] (.add vr0 (.add vr1 (.num 1))) (.add (.add vr0 vr1) (.num 1)) rfl) (nl0 [_, _] (.add (.add vr0 vr1) (.num 1)) (.add vr0 (.add vr1 (.num 1))) rfl))
  rw [lsR_skip _ a _ hn (mid_at hX), lsR_step h13, if_pos (by simp; decide +kernel), next_cr h13, if_neg h10, lsR_end (by exact (Nat.le_of_eq hlen))]
  unfold lsEnd
  rw [if_neg (by rw [txl, hlen]; exact Nat.lt_irrefl _), Array.toList_push]
  simp only [List.map_append, List.map_cons, List.map_nil, sub_mid hX]
theorem lines_eq (x : Str) : Txt.lines x = (lineSpans x).map fun p => strSub x p.1 p.2.1 := by
 have e : linesOf x = (lineSpans x).map fun p => strSub x p.1 p.2.1 := by
  unfold linesOf lineCuts
  rw [List.map_map]
  rfl
 unfold Txt.lines
 split
 ·rename_i h
  have h1 : linesOf x = [strSub x 0 x.length] := by unfold linesOf; rw [eq_of_beq h]; rfl
  rw [← e, h1, sub_whole]
 ·exact e
theorem Ls.lines {l : List Nat} {ps : List (List Nat)} (h : Ls l ps) : Txt.lines (tx l) = ps.map tx := by
 rw [lines_eq, ls_eq]
 have := h.run l [] #[] rfl
 unfold lsR at this
 simpa [txl, subs] using this
theorem rstrip_tx (a ws : List Nat) (h1 : ∀ c ∈ ws, Unicode.isSpace c = true) (h2 : ∀ c, a.getLast? = some c → Unicode.isSpace c = false) : Txt.rstrip (tx (a ++ ws)) = tx a := by
 have htw : ((a ++ ws).reverse.takeWhile Unicode.isSpace).length = ws.length := by
  rw [List.reverse_append, List.takeWhile_append_of_pos (by simpa using h1), List.length_append, List.length_reverse]
  suffices a.reverse.takeWhile Unicode.isSpace = [] by rw [this]; rfl
  cases e : a.reverse with
  | nil => rfl
  | cons c r =>
   have : a.getLast? = some c := by rw [List.getLast?_eq_head?_reverse, e]; rfl
   rw [List.takeWhile_cons, h2 c this]; rfl
 have hhi : stripHi Unicode.isSpace true (tx (a ++ ws)) 0 = a.length := by
  show (tx (a ++ ws)).length - (((a ++ ws).drop 0).reverse.takeWhile Unicode.isSpace).length = _
  rw [List.drop_zero, htw, txl, List.length_append]; exact (Nat.le_antisymm (nl1 [_, _, _] (.add vr0 vr1) (.add vr2 vr1) vr0 vr2 rfl (Nat.le_of_eq (Nat.sub_add_cancel (nl0 [_, _] vr0 (.add vr1 vr0) rfl)))) (nl1 [_, _, _] (.add vr0 vr1) (.add vr2 vr1) vr0 vr2 rfl (Nl.sb _ _)))
 have hst : PySem.stripped Unicode.isSpace false true (tx (a ++ ws)) = tx a := by
  show strSub _ 0 (stripHi Unicode.isSpace true (tx (a ++ ws)) 0) = _
  rw [hhi, strSub_tx]; simp
 show (if stripSame Unicode.isSpace false true (tx (a ++ ws)) = true then _ else PySem.stripped Unicode.isSpace false true (tx (a ++ ws))) = _
 split
 ·rename_i q
  have q2 : ((0 == 0) && stripHi Unicode.isSpace true (tx (a ++ ws)) 0 == (tx (a ++ ws)).length) = true := q
  rw [hhi, txl] at q2
  simp at q2
  rw [q2, List.append_nil]
 ·exact hst
end
section
noncomputable def lineOut (e : List Nat) : List Nat → List Nat
  | [] => []
  | [c] => if c = 61 then [] else c :: e
  | [c, d] => c :: lineOut e [d]
  | c :: a :: b :: r => if c = 61 ∧ a ∈ hexs ∧ b ∈ hexs then (hexv a * 16 + hexv b) :: (if r.isEmpty then e else lineOut e r) else c :: lineOut e (a :: b :: r)
noncomputable def stD (x d l : List Nat) (i : Int) (n : Int) (c0 : Option AV) : Sy :=
  ⟨[("encoded", some (.str (tx x))), ("eol", some (.str (tx [10]))), ("decoded", some (.str (tx d))), ("line", some (.str (tx l))), ("i", some (.int i)), ("n", some (.int n)), ("c", c0)], []⟩
theorem hex_lit : (Str.ofString "0123456789abcdefABCDEF") = tx hexs := by kernel_rfl
theorem crlf_lit : (Str.ofString "\r\n") = tx [13, 10] := by kernel_rfl
theorem eq_lit : (Str.ofString "=") = tx [61] := by kernel_rfl
variable {w : World} {T : Addr → Obj → Prop}
noncomputable def lnAdd (d : List Nat) (y : Str) : List Nat := if (Txt.rstrip y).length = 0 then d ++ [10] else d ++ lineOut [10] (Txt.rstrip y).cps.toList
noncomputable def decAll (x : List Nat) : List Nat := (Txt.lines (tx x)).foldl lnAdd []
noncomputable def decF (x : List Nat) : List Nat :=
  if x.isEmpty then x else if (decide (x.getLast? = some 10 ∨ x.getLast? = some 13)) = false ∧ (decAll x).getLast? = some 10 then (decAll x).dropLast else decAll x
noncomputable def stE (x d : List Nat) (l i n c : Option AV) : Sy :=
  ⟨[("encoded", some (.str (tx x))), ("eol", some (.str (tx [10]))), ("decoded", some (.str (tx d))), ("line", l), ("i", i), ("n", n), ("c", c)], []⟩
theorem nl_lit : (Str.ofString "\n") = tx [10] := by kernel_rfl
structure DecOk (x : List Nat) : Prop where
  len : x.length ≤ sizeLine
  cuts : (lineCuts (tx x)).length ≤ sizeLine
  each : ∀ y ∈ Txt.lines (tx x), y.length ≤ sizeLine
  fold : ∀ i, (((Txt.lines (tx x)).take i).foldl lnAdd []).length + 10 ≤ sizeLine
theorem tx_of (y : Str) : y = tx y.cps.toList := by cases y; simp
theorem lineOut_nil (e : List Nat) : lineOut e [] = [] := by unfold lineOut; rfl
theorem lineOut_plain (e : List Nat) {c : Nat} (h : c ≠ 61) (r : List Nat) : lineOut e (c :: r) = c :: (if r.isEmpty then e else lineOut e r) := by
  match r with
  | [] => unfold lineOut; rw [if_neg h]; rfl
  | [d] => conv => lhs; unfold lineOut
           rfl
  | a :: b :: r => conv => lhs; unfold lineOut
                   rw [if_neg (fun q => h q.1)]; rfl
theorem lineOut_soft (e : List Nat) : lineOut e [61] = [] := by unfold lineOut; rfl
theorem lineOut_esc (e : List Nat) {a b : Nat} (ha : a ∈ hexs) (hb : b ∈ hexs) (r : List Nat) : lineOut e (61 :: a :: b :: r) = (hexv a * 16 + hexv b) :: (if r.isEmpty then e else lineOut e r) := by
  conv => lhs; unfold lineOut
  rw [if_pos ⟨rfl, ha, hb⟩]
theorem lineOut_two (e : List Nat) (a : Nat) : lineOut e [61, a] = 61 :: lineOut e [a] := by conv => lhs; unfold lineOut
theorem lineOut_lone (e : List Nat) {a b : Nat} (h : ¬ (a ∈ hexs ∧ b ∈ hexs)) (r : List Nat) : lineOut e (61 :: a :: b :: r) = 61 :: lineOut e (a :: b :: r) := by
  conv => lhs; unfold lineOut
  rw [if_neg (fun q => h q.2)]
theorem drop_at {l : List Nat} {i c : Nat} (h : l[i]? = some c) : l.drop i = c :: l.drop (i + 1) := by
  obtain ⟨hi, e⟩ := List.getElem?_eq_some_iff.mp h
  rw [List.drop_eq_getElem_cons hi, e]
theorem ixT {l : List Nat} {i : Nat} (h : i < l.length) : -((tx l).length : Int) ≤ (i : Int) ∧ (i : Int) < ((tx l).length : Int) := by
  rw [txl]; exact ⟨Int.le_trans (Int.neg_nonpos_of_nonneg (Int.natCast_nonneg _)) (Int.natCast_nonneg _), Int.ofNat_lt.mpr h⟩
theorem ixM {l : List Nat} (h : 0 < l.length) : -((tx l).length : Int) ≤ -1 ∧ -1 < ((tx l).length : Int) := by
  rw [txl]; exact ⟨Int.neg_le_neg (Int.ofNat_le.mpr h), Int.lt_of_lt_of_le (by decide) (Int.natCast_nonneg _)⟩
theorem szA {a b m : Nat} {l : List Nat} (h : l.length ≤ b) (hb : b + 10 ≤ m) (ha : a ≤ 10) : (tx l).length + a ≤ m := by
  rw [txl]; exact Nat.le_trans (Nat.add_le_add h ha) hb
theorem eqT (a n : Nat) : ((a : Int) == (n : Int)) = decide (a = n) := Bool.eq_iff_iff.mpr (by rw [beq_iff_eq, decide_eq_true_eq]; exact Int.ofNat_inj)
theorem dropE {l : List Nat} {i : Nat} (h : i < l.length) : (l.drop i).isEmpty = false := by
  rw [List.drop_eq_getElem_cons h]; rfl
theorem decode_ok (hT : TopOk w T gl) (hu : FnIs T 67 (fnAt 17) .none) {df : Addr} {tk : Tok} (hdf : T df { cls := .type "tuple", data := .seq #[.str (tx [10]) tk] }) (hfn : FnIs T 95 (fnAt 24) (.ref df)) {x : List Nat} (hx : DecOk x) : FnOk w T 2 95 [.str (tx x)] (.str (tx (decF x))) := by
  refine fnI hT hfn (names := ["encoded", "eol"]) (rest := ["decoded", "line", "i", "n", "c"]) (avs := [.str (tx x), .str (tx [10])]) (by kernel_rfl) rfl ?_ ?_
  · intro _ _ _ _ _ _ _ _ s B vs hup hv
    obtain ⟨v, rfl, h1⟩ := IsL.one hv
    exact ⟨[v, .str (tx [10]) tk], BindsTo.of_defaults rfl (hup _ _ hdf).1 rfl (by with_unfolding_all rfl) (by kernel_rfl), .cons h1 (.cons ⟨_, rfl⟩ .nil)⟩
  · intro A C E _ hF _
    refine (run_ok hF 20).xs ?_
    walk_at "vgo"
    · rw [txl]; exact hx.len
    · show some (Dt.str (tx x)) = _
      simp [txl] at hc
      subst hc
      rfl
    · have hne : x ≠ [] := by rintro rfl; simp [txl] at hc
      refine for_ok hF 20 (fun i S => ∃ l ii n c, S = stE x (((Txt.lines (tx x)).take i).foldl lnAdd []) l ii n c) (((Txt.lines (tx x)).map Dt.str).map ofD) (S₀ := stE x [] none none none none) (fun _ => rfl) ?_ ⟨none, none, none, none, rfl⟩ ?_ ?_
      · walk_at "vgo"
        refine l_splitlines (by rw [txl]; exact hx.len) hx.cuts ?_
        walk_at "vgo"
        exact ⟨rfl, rfl⟩
      · rintro C' E' i a S hF' ha ⟨l, ii, n, c, rfl⟩
        obtain ⟨y, hy, rfl⟩ : ∃ y, (Txt.lines (tx x))[i]? = some y ∧ a = .str y := by
          rw [List.map_map, List.getElem?_map] at ha
          obtain ⟨y, h1, h2⟩ := Option.map_eq_some_iff.mp ha
          exact ⟨y, h1, h2.symm⟩
        have hnext : ((Txt.lines (tx x)).take (i + 1)).foldl lnAdd [] = lnAdd (((Txt.lines (tx x)).take i).foldl lnAdd []) y := by
          rw [List.take_add_one, hy]; simp
        have hb := hx.fold (i + 1)
        have hb0 := hx.fold i
        rw [hnext] at hb
        generalize ((Txt.lines (tx x)).take i).foldl lnAdd [] = d at *
        have hyl := hx.each y (List.mem_of_getElem? hy)
        obtain ⟨ln, hln⟩ : ∃ ln, Txt.rstrip y = tx ln := ⟨_, tx_of _⟩
        have hlen : ln.length ≤ sizeLine := by
          have := len_rstrip y; rw [hln, txl] at this; exact nl2 [_, _, _] vr0 vr1 vr1 vr2 vr0 vr2 rfl this hyl
        clear ha hy hx
        generalize hR0 : LpQ _ _ = R0
        revert R0; refine opq ?_; intro R0 hR0
        have hll : (tx ln).length ≤ sizeLine := by rw [txl]; exact hlen
        walk_at "vgo"
        refine l_rstrip hyl ?_
        rw [hln]
        walk_at "vgo"
        · rw [txl]; exact hlen
        · rw [txl, txl]; show d.length + 1 ≤ sizeLine; exact nl1 [_, _] (.add vr0 (.num 10)) vr1 (.add vr0 (.num 1)) vr1 rfl hb0
        · subst hR0
          show Leaf _
          refine ⟨some (.str (tx ln)), ii, n, c, ?_⟩
          rw [hnext]
          unfold lnAdd
          rw [hln, txl, if_pos (by simpa [txl] using hc)]
          unfold stE
          rw [← txa]
        · rw [txl]; exact hlen
        · have hne' : ln ≠ [] := by rintro rfl; simp [txl] at hc
          have hadd : lnAdd d y = d ++ lineOut [10] ln := by
            unfold lnAdd
            rw [hln, if_neg (by rw [txl]; simpa using hne')]
          rw [hadd] at hb hnext
          refine while_ok hF' 20 (fun m S => ∃ (i : Nat) (d' : List Nat) (c : Option AV), m = ln.length - i ∧ i ≤ ln.length ∧ S = stD x d' ln i (tx ln).length c ∧ d' ++ lineOut [10] (ln.drop i) = d ++ lineOut [10] ln) (n := ln.length) ⟨0, d, _, rfl, by exact nl0 [_] (.num 0) vr0 rfl, rfl, rfl⟩ ?_
          clear hc hF'
          rintro E'' m S hF' ⟨j, d', c, rfl, hj, rfl, hd⟩
          generalize hR : LpQ _ _ = R
          revert R; refine opq ?_; intro R hR
          have hd' : d'.length ≤ (d ++ lineOut [10] ln).length := by rw [← hd]; simp
          have hQ : ∀ (S₂ : Sy) (k : Nat) (d₂ : List Nat) (c₂ : Option AV), j < k → k ≤ ln.length → S₂ = stD x d₂ ln k (tx ln).length c₂ → d₂ ++ lineOut [10] (ln.drop k) = d ++ lineOut [10] ln →
              R .next S₂ :=
            fun S₂ k d₂ c₂ h1 h2 h3 h4 => by
              subst hR
              show Leaf _
              exact ⟨ln.length - k, by exact nl3 [_, _, _, _, _] (.add vr0 vr1) vr2 (.add vr3 (.num 1)) vr1 vr2 (.add vr4 vr3) (.add vr0 (.num 1)) vr4 rfl (Nat.le_of_eq (Nat.sub_add_cancel h2)) h1 (Nl.sb _ _), k, d₂, c₂, rfl, h2, h3, h4⟩
          by_cases hjl : j < ln.length
          · obtain ⟨ch, hch⟩ : ∃ ch, ln[j]? = some ch := ⟨ln[j], by simp [hjl]⟩
            have hit : Txt.item (tx ln) (j : Int) = tx [ch] := tx_item hch
            have hi0 := ixT hjl
            have hA : (tx d').length + (Txt.item (tx ln) (j : Int)).length ≤ sizeLine := by rw [hit]; exact szA hd' hb (by decide : 1 ≤ 10)
            have hB : (tx d' ++ Txt.item (tx ln) (j : Int)).length + (tx [10]).length ≤ sizeLine := by rw [hit, txa, txl, List.length_append]; exact Nat.le_trans (Nat.add_le_add_right (Nat.add_le_add_right hd' 1) 1) (Nat.le_trans (Nat.add_le_add_left (by decide : 2 ≤ 10) _) hb)
            have hC : ∀ v : Nat, (tx d').length + (tx [v]).length ≤ sizeLine := fun v => szA hd' hb (by decide : 1 ≤ 10)
            have hD : ∀ v : Nat, (tx d' ++ tx [v]).length + (tx [10]).length ≤ sizeLine := fun v => by rw [txa, txl, List.length_append]; exact Nat.le_trans (Nat.add_le_add_right (Nat.add_le_add_right hd' 1) 1) (Nat.le_trans (Nat.add_le_add_left (by decide : 2 ≤ 10) _) hb)
            rw [drop_at hch] at hd
            have hT1 : decide ((j : Int) < ((tx ln).length : Int)) = true := decide_eq_true (Int.ofNat_lt.mpr hjl)
            have hT2 : ((j : Int) + 1 == ((tx ln).length : Int)) = decide (j + 1 = ln.length) := eqT (j + 1) ln.length
            have hT3 : (!seq (Txt.item (tx ln) (j : Int)) (Str.ofString "=")) = !decide (ch = 61) := by rw [hit, eq_lit, tx_seq]; congr 1; rw [Bool.eq_iff_iff]; simp
            by_cases h61 : ch = 61
            · rw [decide_eq_true h61] at hT3
              change _ = false at hT3
              subst h61
              by_cases hend : j + 1 = ln.length
              · rw [decide_eq_true hend] at hT2
                have hr : ln.drop (j + 1) = [] := by rw [hend]; simp
                walk_at "vgo"
                all_goals try first | exact hll | exact hi0 | exact hi1 | exact hi2 | exact hA | exact hB | exact hC _ | exact hD _ | exact hxl | exact hiM | exact h10 | exact hdl
                rw [hr, lineOut_soft] at hd
                subst hR
                show Leaf _
                exact ⟨ln.length - (j + 1), Nat.sub_lt_sub_left hjl (Nat.lt_succ_self j), j + 1, d', some (.str (Txt.item (tx ln) (j : Int))), rfl, hjl, rfl, by rw [hr, lineOut_nil]; exact hd⟩
              · rw [decide_eq_false hend] at hT2
                have hlone : ∀ S₂, S₂ = stD x (d' ++ [61]) ln ((j + 1 : Nat) : Int) (tx ln).length (some (.str (Txt.item (tx ln) (j : Int)))) → lineOut [10] (61 :: ln.drop (j + 1)) = 61 :: lineOut [10] (ln.drop (j + 1)) → R .next S₂ := fun S₂ e1 e2 =>
                  hQ S₂ (j + 1) (d' ++ [61]) _ (by exact nl0 [_] (.add vr0 (.num 1)) (.add vr0 (.num 1)) rfl) (by exact hjl) e1 (by rw [e2] at hd; rw [← hd]; simp)
                obtain ⟨a, ha⟩ : ∃ a, ln[j + 1]? = some a := ⟨ln[j + 1]'(Nat.lt_of_le_of_ne hjl hend), by rw [List.getElem?_eq_getElem]⟩
                have hi1 := ixT (Nat.lt_of_le_of_ne hjl hend)
                have hia : Txt.item (tx ln) ((j : Int) + 1) = tx [a] := tx_item (i := j + 1) ha
                by_cases h2 : j + 2 < ln.length
                · have hT4 : decide ((j : Int) + 2 < ((tx ln).length : Int)) = true := decide_eq_true (Int.ofNat_lt.mpr h2)
                  obtain ⟨b, hb'⟩ : ∃ b, ln[j + 2]? = some b := ⟨ln[j + 2]'(by exact h2), by rw [List.getElem?_eq_getElem]⟩
                  have hi2 := ixT h2
                  have hib : Txt.item (tx ln) ((j : Int) + 2) = tx [b] := tx_item (i := j + 2) hb'
                  have hT5 : Txt.contains (Str.ofString "0123456789abcdefABCDEF") (Txt.item (tx ln) ((j : Int) + 1)) = decide (a ∈ hexs) := by rw [hia, hex_lit, tx_contains]
                  have hT6 : Txt.contains (Str.ofString "0123456789abcdefABCDEF") (Txt.item (tx ln) ((j : Int) + 2)) = decide (b ∈ hexs) := by rw [hib, hex_lit, tx_contains]
                  have hdr : ln.drop (j + 1) = a :: b :: ln.drop (j + 3) := by rw [drop_at ha, drop_at hb']
                  by_cases hab : a ∈ hexs ∧ b ∈ hexs
                  · rw [decide_eq_true hab.1] at hT5
                    rw [decide_eq_true hab.2] at hT6
                    have hsl : Txt.slice (tx ln) (some (j : Int)) (some ((j : Int) + 3)) = tx [61, a, b] := by
                      have := tx_slice (l := ln) (i := j) (j := j + 3) (by exact nl0 [_] vr0 (.add vr0 (.num 3)) rfl) (by exact nl1 [_, _] (.add (.add vr0 (.num 2)) (.num 1)) vr1 (.add vr0 (.num 3)) vr1 rfl h2)
                      rw [show (((j + 3 : Nat)) : Int) = (j : Int) + 3 from rfl] at this
                      rw [this, drop_at hch, hdr]
                      congr 1
                      simp
                    have hT7 : ((j : Int) + 3 == ((tx ln).length : Int)) = decide (j + 3 = ln.length) := eqT (j + 3) ln.length
                    rw [hdr, lineOut_esc [10] hab.1 hab.2] at hd
                    have hU := unquote_ok hT hu hab.1 hab.2
                    walk_at "vgo"
                    all_goals try first | exact hll | exact hi0 | exact hi1 | exact hi2 | exact hA | exact hB | exact hC _ | exact hD _ | exact hxl | exact hiM | exact h10 | exact hdl
                    · exact fn_okF hF' hU
                    · refine ⟨fn_call hF' hU (Nat.le_refl _) (by rw [hsl]; rfl) ?_⟩
                      by_cases h3 : j + 3 = ln.length
                      · rw [decide_eq_true h3] at hT7
                        have hr : ln.drop (j + 3) = [] := by rw [h3]; simp
                        walk_at "vgo"
                        all_goals try first | exact hll | exact hi0 | exact hi1 | exact hi2 | exact hA | exact hB | exact hC _ | exact hD _ | exact hxl | exact hiM | exact h10 | exact hdl
                        rw [hr] at hd
                        refine hQ _ (j + 3) (d' ++ [hexv a * 16 + hexv b] ++ [10]) (some (.str (Txt.item (tx ln) (j : Int)))) (by exact nl0 [_] (.add vr0 (.num 1)) (.add vr0 (.num 3)) rfl) (by exact nl1 [_, _] (.add (.add vr0 (.num 2)) (.num 1)) vr1 (.add vr0 (.num 3)) vr1 rfl h2) ?_ (by rw [hr, lineOut_nil, ← hd]; simp)
                        unfold stD
                        rw [← txa, ← txa]
                        rfl
                      · rw [decide_eq_false h3] at hT7
                        have hr : (ln.drop (j + 3)).isEmpty = false := dropE (Nat.lt_of_le_of_ne h2 h3)
                        walk_at "vgo"
                        all_goals try first | exact hll | exact hi0 | exact hi1 | exact hi2 | exact hA | exact hB | exact hC _ | exact hD _ | exact hxl | exact hiM | exact h10 | exact hdl
                        rw [hr] at hd
                        refine hQ _ (j + 3) (d' ++ [hexv a * 16 + hexv b]) (some (.str (Txt.item (tx ln) (j : Int)))) (by exact nl0 [_] (.add vr0 (.num 1)) (.add vr0 (.num 3)) rfl) (by exact nl1 [_, _] (.add (.add vr0 (.num 2)) (.num 1)) vr1 (.add vr0 (.num 3)) vr1 rfl h2) ?_ (by rw [← hd]; simp)
                        unfold stD
                        rw [← txa]
                        rfl
                  · have hlo : lineOut [10] (61 :: ln.drop (j + 1)) = 61 :: lineOut [10] (ln.drop (j + 1)) := by rw [hdr]; exact lineOut_lone _ hab _
                    by_cases haa : a ∈ hexs
                    · rw [decide_eq_true haa] at hT5
                      rw [decide_eq_false (fun q => hab ⟨haa, q⟩)] at hT6
                      walk_at "vgo"
                      all_goals try first | exact hll | exact hi0 | exact hi1 | exact hi2 | exact hA | exact hB | exact hC _ | exact hD _ | exact hxl | exact hiM | exact h10 | exact hdl
                      refine hlone _ ?_ hlo
                      unfold stD
                      rw [← txa, ← hit]
                      rfl
                    · rw [decide_eq_false haa] at hT5
                      walk_at "vgo"
                      all_goals try first | exact hll | exact hi0 | exact hi1 | exact hi2 | exact hA | exact hB | exact hC _ | exact hD _ | exact hxl | exact hiM | exact h10 | exact hdl
                      refine hlone _ ?_ hlo
                      unfold stD
                      rw [← txa, ← hit]
                      rfl
                · have hT4 : decide ((j : Int) + 2 < ((tx ln).length : Int)) = false := decide_eq_false fun q => h2 (Int.ofNat_lt.mp q)
                  have hlo : lineOut [10] (61 :: ln.drop (j + 1)) = 61 :: lineOut [10] (ln.drop (j + 1)) := by
                    have : ln.drop (j + 1 + 1) = [] := by apply List.drop_eq_nil_of_le; exact nl1 [_, _] vr0 (.add vr1 (.num 2)) vr0 (.add (.add vr1 (.num 1)) (.num 1)) rfl (Nat.le_of_not_lt h2)
                    rw [drop_at ha, this]; exact lineOut_two _ _
                  walk_at "vgo"
                  all_goals try first | exact hll | exact hi0 | exact hi1 | exact hi2 | exact hA | exact hB | exact hC _ | exact hD _ | exact hxl | exact hiM | exact h10 | exact hdl
                  refine hlone _ ?_ hlo
                  unfold stD
                  rw [← txa, ← hit]
                  rfl
            · rw [decide_eq_false h61] at hT3
              change _ = true at hT3
              rw [lineOut_plain _ h61] at hd
              by_cases hend : j + 1 = ln.length
              · rw [decide_eq_true hend] at hT2
                have hr : ln.drop (j + 1) = [] := by rw [hend]; simp
                walk_at "vgo"
                all_goals try first | exact hll | exact hi0 | exact hi1 | exact hi2 | exact hA | exact hB | exact hC _ | exact hD _ | exact hxl | exact hiM | exact h10 | exact hdl
                rw [hr] at hd
                refine hQ _ (j + 1) (d' ++ [ch] ++ [10]) (some (.str (Txt.item (tx ln) (j : Int)))) (by exact nl0 [_] (.add vr0 (.num 1)) (.add vr0 (.num 1)) rfl) (by exact hjl) ?_ (by rw [hr, lineOut_nil, ← hd]; simp)
                unfold stD
                rw [← txa, ← txa, ← hit]
                rfl
              · rw [decide_eq_false hend] at hT2
                have hr : (ln.drop (j + 1)).isEmpty = false := dropE (Nat.lt_of_le_of_ne hjl hend)
                walk_at "vgo"
                all_goals try first | exact hll | exact hi0 | exact hi1 | exact hi2 | exact hA | exact hB | exact hC _ | exact hD _ | exact hxl | exact hiM | exact h10 | exact hdl
                rw [hr] at hd
                refine hQ _ (j + 1) (d' ++ [ch]) (some (.str (Txt.item (tx ln) (j : Int)))) (by exact nl0 [_] (.add vr0 (.num 1)) (.add vr0 (.num 1)) rfl) (by exact hjl) ?_ (by rw [← hd]; simp)
                unfold stD
                rw [← txa, ← hit]
                rfl
          · have hT1 : decide ((j : Int) < ((tx ln).length : Int)) = false := decide_eq_false fun q => hjl (Int.ofNat_lt.mp q)
            have hje : j = ln.length := by exact (Nat.le_antisymm hj (Nat.le_of_not_lt hjl))
            subst hje
            rw [List.drop_length, lineOut_nil, List.append_nil] at hd
            walk_at "vgo"
            subst hR0
            show Leaf _
            refine ⟨some (.str (tx ln)), some (.int ln.length), some (.int (tx ln).length), c, ?_⟩
            rw [hnext, ← hd]
            rfl
      · rintro E' S hF' ⟨l, ii, n, c, rfl⟩
        rw [show ((List.map ofD (List.map Dt.str (Txt.lines (tx x)))).length) = (Txt.lines (tx x)).length by simp, List.take_length]
        have hfold := hx.fold (Txt.lines (tx x)).length
        rw [List.take_length] at hfold
        have hpos : 0 < x.length := List.length_pos_iff.mpr hne
        have hlx := hx.len
        have hlast : Txt.contains (Str.ofString "\r\n") (Txt.item (tx x) (-1)) = decide (x.getLast hne ∈ [13, 10]) := by
          rw [tx_last hne, crlf_lit, tx_contains]
        have hgl : x.getLast? = some (x.getLast hne) := List.getLast?_eq_some_getLast hne
        have hda : (Txt.lines (tx x)).foldl lnAdd [] = decAll x := rfl
        rw [hda] at hfold ⊢
        have hxl : (tx x).length ≤ sizeLine := by rw [txl]; exact hlx
        have hiM := ixM hpos
        have h10 : (tx [10]).length ≤ sizeLine := Nat.le_trans (by decide : 1 ≤ 10) (Nat.le_trans (Nat.le_add_left _ _) hfold)
        have hdl : (tx (decAll x)).length ≤ sizeLine := szA (a := 0) (Nat.le_refl _) hfold (by decide)
        have hret : ∀ S : Sy, S.own = [] → x.getLast hne ∈ [13, 10] ∨ (decAll x).getLast? ≠ some 10 → toD S.own (.str (tx (decAll x))) = some (Dt.str (tx (decF x))) := fun S _ hh => by
          show some (Dt.str (tx (decAll x))) = _
          unfold decF
          rw [if_neg (by simpa using hne), hgl]
          rw [if_neg]
          rintro ⟨q1, q2⟩
          rcases hh with hh | hh
          · simp at q1 hh; rcases hh with hh | hh
            · exact q1.2 hh
            · exact q1.1 hh
          · exact hh q2
        by_cases hl2 : x.getLast hne ∈ [13, 10]
        · have hT1 : (!Txt.contains (Str.ofString "\r\n") (Txt.item (tx x) (-1))) = false := by rw [hlast, decide_eq_true hl2]; rfl
          walk_at "vgo"
          all_goals try first | exact hll | exact hi0 | exact hi1 | exact hi2 | exact hA | exact hB | exact hC _ | exact hD _ | exact hxl | exact hiM | exact h10 | exact hdl
          exact hret _ rfl (.inl hl2)
        · have hT1 : (!Txt.contains (Str.ofString "\r\n") (Txt.item (tx x) (-1))) = true := by rw [hlast, decide_eq_false hl2]; rfl
          walk_at "vgo"
          all_goals try first | exact hll | exact hi0 | exact hi1 | exact hi2 | exact hA | exact hB | exact hC _ | exact hD _ | exact hxl | exact hiM | exact h10 | exact hdl
          refine l_endswith ?_
          have hE := tx_endswith (decAll x) 10
          by_cases hl3 : (decAll x).getLast? = some 10
          · rw [decide_eq_true hl3] at hE
            have hne3 : decAll x ≠ [] := by intro q; rw [q] at hl3; simp at hl3
            walk_at "vgo"
            all_goals try first | exact hll | exact hi0 | exact hi1 | exact hi2 | exact hA | exact hB | exact hC _ | exact hD _ | exact hxl | exact hiM | exact h10 | exact hdl
            rw [show (-(((tx [10]).length : Nat) : Int)) = -1 from rfl, tx_dropLast hne3]
            show some (Dt.str (tx (decAll x).dropLast)) = _
            unfold decF
            rw [if_neg (by simpa using hne), hgl, if_pos]
            refine ⟨?_, hl3⟩
            simp at hl2 ⊢
            exact ⟨hl2.2, hl2.1⟩
          · rw [decide_eq_false hl3] at hE
            walk_at "vgo"
            all_goals try first | exact hll | exact hi0 | exact hi1 | exact hi2 | exact hA | exact hB | exact hC _ | exact hD _ | exact hxl | exact hiM | exact h10 | exact hdl
            exact hret _ rfl (.inr hl3)
end
section
set_option tactic.hygienic true
open PySem.Builtin PySem.Builtin.Str PySem.Builtin.ObjectAttr
noncomputable abbrev bmObj (id : String) (a : Addr) : Obj := { cls := .type "builtin_function_or_method", data := .fields #[.builtin id, .ref a] }
theorem slot_mdg : Slot "method_descriptor" "__get__" "method_descriptor.__get__" :=
 .of (owner := "method_descriptor") (n := "__get__") (by rw [typeLookup_type, builtinLookup_eq_fast]; kernel_rfl) (by decide +kernel) (by decide +kernel) (by decide +kernel)
  (by first | exact .inl (by decide +kernel) | exact .inr (by decide +kernel)) (by rw [isSubtype_type]; kernel_rfl)
theorem entry_mdg : entryFor table "method_descriptor.__get__" = some Builtin.«method_descriptor.__get__» := entryFor_of_tree (by kernel_rfl)
theorem args_mdg (a b c : Value) : argsOk "method_descriptor.__get__" ⟨[a, b, c], []⟩ := by unfold argsOk; kernel_rfl
theorem type_la : typeOf (.builtin "list.append") = pure (.type "method_descriptor") := by show builtinType _ = _; rw [builtinType_eq_fast]; kernel_rfl
theorem mds_none : typeLookup (.type "method_descriptor") "__set__" = pure none := by rw [typeLookup_type, builtinLookup_eq_fast]; kernel_rfl
theorem mdd_none : typeLookup (.type "method_descriptor") "__delete__" = pure none := by rw [typeLookup_type, builtinLookup_eq_fast]; kernel_rfl
theorem owner_la : (kfb_private% "ownerAndName") "list.append" = ("list", "append") := by first | decide +kernel | kernel_rfl
theorem told_la : Manifest.toldItsClass.contains "list.append" = false := by decide +kernel
theorem sub_ll : isSubtype (.type "list") (.type "list") = pure true := by rw [isSubtype_type]; kernel_rfl
theorem nac_la : (kfb_private% "nameAndClass") (.builtin "list.append") = (pure (Str.ofString "append", Value.type "list") : Sem (Str × Value)) := by kernel_rfl
theorem run_mdg {w : World} {A : Around} {E : Value → Shared → Prop} {hh : Heap} {g : Array GenState} {d : Drawn} {t : Nat} {os : OsState} {a : Addr} {vs : Array Value} {n : Nat} {P : Fin → Shared → Prop} (ho : hh.get? a = some { cls := .type "list", data := .seq vs n })
  (h : P (.done (.ret (.ref hh.objs.size))) ⟨hh.push (bmObj "list.append" a), g, d, t, os⟩) :
  wpAny (model pr w) A (Builtin.«method_descriptor.__get__» ⟨[.builtin "list.append", .ref a, .type "list"], []⟩) P E ⟨hh, g, d, t, os⟩ := by
 have hT : (⟨hh, g, d, t, os⟩ : Shared).TypeIs (.ref a) "list" := ⟨_, ho, rfl⟩
 have f1 := sub_ll
 unfold Builtin.«method_descriptor.__get__»
 refine wpAny_bind (wpAny_of_eq (a := (.builtin "list.append", some (.ref a), some (.type "list"))) (by first | rfl | kernel_rfl) ?_)
 dsimp only
 rw [told_la]
 simp only [Bool.false_eq_true, if_false]
 show wpAny _ _ ((kfb_private% "checkInstance") (.builtin "list.append") (.ref a) >>= fun _ => newFields "builtin_function_or_method" [.builtin "list.append", .ref a] >>= fun v => ret v) _ _ _
 refine wpAny_bind ?_
 show wpAny _ _ ((kfb_private% "nameAndClass") (.builtin "list.append") >>= fun x => isInstance (.ref a) x.2 >>= fun b => _) _ _ _
 rw [nac_la]
 refine wpAny_bind (wpAny_pure (wpAny_bind (wpAny_isInstance hT f1 ?_)))
 refine wpAny_pure ?_
 unfold newFields
 exact wpAny_bind (wpAny_newObj_type (wpAny_pure h) (by show (2 : Nat) ≤ _; rw [sizeLine_eq]; exact nl0 [] (.num 2) (.add (.num 16777216) (.num 2)) rfl))
theorem get_append {w : World} {A : Around} {E : Value → Shared → Prop} {s : Shared} {a : Addr} {vs : Array Value} {n : Nat} {expr : Bool} {Q : Value → Shared → Prop} (ho : s.heap.get? a = some { cls := .type "list", data := .seq vs n })
  (h : Q (.ref s.heap.objs.size) { s with heap := s.heap.push (bmObj "list.append" a), toks := s.toks + 1 }) : wpAny (model pr w) A (getAttr (.ref a) "append" expr) Q E s := by
 obtain ⟨hh, g, d, t, os⟩ := s
 dsimp only at ho h
 have hT : ∀ t', (⟨hh, g, d, t', os⟩ : Shared).TypeIs (.ref a) "list" := fun _ => ⟨_, ho, rfl⟩
 have f3 := F.slot_list_getattribute.lookup
 have f4 := F.slot_list_getattribute.bind (.ref a)
 unfold getAttr getAttrBy
 refine wpAny_bind (wpAny_mkText (wpAny_holding (wpAny_bind (wpAny_typeOf (hT _) (wpAny_bind (wpAny_of_eq f3 ?_))))))
 show wpAny _ _ (getAttrByItsOwn (.ref a) (.str "append" t) (.type "list") (.builtin "list.__getattribute__") true expr) _ _ _
 unfold getAttrByItsOwn hookBefore callGetattribute boundAndCalled
 refine wpAny_bind (wpAny_of_eq (show (if onTheHeap (.type "list") then typeLookup (.type "list") "__getattr__" else pure none) = pure none from rfl) ?_)
 refine wpAny_bind (wpAny_attempt (wpAny_holding ?_))
 have e1 : (expr && onTheHeap (.builtin "list.__getattribute__")) = false := by cases expr <;> rfl
 rw [e1]
 simp only [Bool.false_eq_true, if_false]
 refine wpAny_bind (wpAny_of_eq f4 ?_)
 refine wpAny_mono (Q := fun v s' => v = .ref hh.objs.size ∧ s' = ⟨hh.push (bmObj "list.append" a), g, d, t + 1, os⟩) (E := fun _ _ => False)
  (wpAny_call_entry F.slot_list_getattribute (hT _) F.entry_list_ga ?_ (F.args_list_getattribute_2 _ _)) (fun v s' hv => ?_) fun _ _ z => z.elim
 ·have hT' := hT (t + 1)
  have g1 := F.slot_list_append.lookup
  have g2 := type_la
  have g3 := slot_mdg.lookup
  have g4 := mds_none
  have g5 := mdd_none
  unfold Builtin.«object.__getattribute__»
  repeat (any_goals (first | assumption | wp_step))
  refine codeAny_call_builtin slot_mdg.plain entry_mdg (slot_mdg.check _ _ _ _ _ _ _ _ (show Shared.TypeIs _ (.builtin "list.append") "method_descriptor" from type_la) (args_mdg _ _ _) (run_mdg ho ?_))
  exact wpAny_pure ⟨_, rfl, rfl, rfl⟩
 ·obtain ⟨rfl, rfl⟩ := hv
  exact wpAny_pure h
theorem sub_lm : isSubtype (.type "list") (.type "module") = pure false := by rw [isSubtype_type]; kernel_rfl
theorem check_bound {w : World} {A : Around} {E : Value → Shared → Prop} {s : Shared} {a : Addr} {o : Obj} {cn id : String} {rest : List Value} {sig : Manifest.Signature} {Q : Unit → Shared → Prop} (e1 : Manifest.signature? id = some sig) (e2 : builtinKind id = some .method) (e3 : Manifest.varargsMethods.contains id = false)
  (hsub : isSubtype (.type cn) (.type "module") = pure false) (ho : s.heap.get? a = some o) (hc : o.cls = .type cn) (hn : notCls o = true)
  (e4 : Bind.checkArgs id { sig with full := s!"{Bind.lastOf cn}.{Bind.lastOf id}" } ⟨.ref a :: rest, []⟩ = pure ()) (h : Q () s) : wpAny (model pr w) A (checkBoundCall id ⟨.ref a :: rest, []⟩) Q E s := by
 have hT : s.TypeIs (.ref a) cn := ⟨_, ho, hc⟩
 unfold checkBoundCall
 rw [e1, e2]
 dsimp only
 rw [if_neg (by decide)]
 refine wpAny_bind (wpAny_isInstance hT hsub ?_)
 rw [e3, if_neg (by decide)]
 unfold isType
 refine wpAny_bind (wpAny_bind (wpAny_loadPart ho (wpAny_pure ?_)))
 unfold notCls at hn
 generalize o.data = dt at hn ⊢
 have fin : ∀ (f : Value → Sem Unit), f (.type cn) = Bind.checkArgs id { sig with full := s!"{Bind.lastOf cn}.{Bind.lastOf id}" } ⟨.ref a :: rest, []⟩ → wpAny (model pr w) A (typeOf (.ref a) >>= f) Q E s := fun f hf =>
  wpAny_bind (wpAny_typeOf hT (by rw [hf, e4]; exact wpAny_pure h))
 induction dt with
 | cls _ => contradiction
 | _ => exact fin _ rfl
noncomputable def sigLa : Manifest.Signature := (Manifest.signature? "list.append").getD ⟨.hand, "", "", .cls, []⟩
theorem check_la {w : World} {A : Around} {E : Value → Shared → Prop} {s : Shared} {a : Addr} {vs : Array Value} {n : Nat} {x : Value} {Q : Unit → Shared → Prop} (ho : s.heap.get? a = some { cls := .type "list", data := .seq vs n }) (h : Q () s) : wpAny (model pr w) A (checkBoundCall "list.append" ⟨[.ref a, x], []⟩) Q E s :=
 check_bound (sig := sigLa) (by kernel_rfl) (by decide +kernel) (by decide +kernel) sub_lm ho rfl rfl (by kernel_rfl) h
theorem quiet_la {as : Args} : (Code.builtin "list.append" as).quiet = true := Code.quiet_builtin _ (by decide +kernel)
theorem l_bm {F : Fx} {S : Sy} {Q : AV → Sy → Prop} {j k : Nat} {a : AV} {xs : List AV} (hj : S.own[j]? = some (.meth k "list.append")) (hk : S.own[k]? = some (.list xs)) (hz : xs.length ≤ sizeLine) (h : Q .none { S with own := S.own.set k (.list (xs ++ [a])) }) : Leaf (SmL F (.own j) [a] S Q) := by
 refine ⟨?_⟩
 rintro s ρ fv vs I ⟨c, hc, rfl⟩ hvs
 cases hvs with | cons hu hn => ?_
 cases hn
 rename_i u
 obtain ⟨c', oc, q1, q2, b, hb, rfl⟩ := I.mine j _ hj
 rw [hc] at q1; obtain rfl := Option.some.inj q1
 obtain ⟨b', o, e1, e2, its, n, rfl, hal⟩ := I.mine k _ hk
 rw [hb] at e1; obtain rfl := Option.some.inj e1
 have hsz : its.size ≤ sizeLine := by have := hal.length; simp at this; exact nl2 [_, _, _] vr0 vr1 vr1 vr2 vr0 vr2 rfl (Nat.le_of_eq (Eq.symm this)) hz
 refine wpAny_call (codeAny_of_tree ?_)
 show wpAny _ F.A.in1 (callAny (.ref c) ⟨[u], []⟩) _ _ s
 simp only [callAny]
 refine wpAny_bind (wpAny_load q2 ?_)
 simp only [show (Value.type "builtin_function_or_method" == Value.type "method" || Value.type "builtin_function_or_method" == Value.type "builtin_function_or_method" || Value.type "builtin_function_or_method" == Value.type "method-wrapper") = true by decide, if_true]
 refine KFB.if_so (by decide) ?_
 refine wpAny_bind (check_la e2 ?_)
 refine wpAny_bind (wpAny_pure ?_)
 refine wpAny_pure ?_
 refine ⟨quiet_la, codeAny_builtin entry_list_append ?_⟩
 show wpAny _ _ (updateSeq b (·.push u) >>= fun _ => ret .none) _ _ s
 exact wpAny_bind (wpAny_updateSeq e2 rfl (wpAny_pure (append_post I hk hb e2 hal hu h)))
theorem l_attr_append {F : Fx} {S : Sy} {Q : AV → Sy → Prop} {k : Nat} {xs : List AV} (hk : S.own[k]? = some (.list xs))
  (h : Q (.own S.own.length) { S with own := S.own ++ [.meth k "list.append"] }) : Leaf (Sm1 F Is (fun u => getAttr u "append" true) (.own k) S Q) := by
 refine ⟨fun s ρ v I₁ hv => ?_⟩
 obtain ⟨b, hb, rfl⟩ := hv
 obtain ⟨b', o, e1, e2, its, n, rfl, hal⟩ := I₁.mine k _ hk
 rw [hb] at e1; obtain rfl := Option.some.inj e1
 refine get_append e2 fun ht => ?_
 exact ⟨_, _, _, h, I₁.alloc (.meth k "list.append") (bmObj "list.append" b) rfl ⟨b, by rw [List.getElem?_append_left (List.getElem?_eq_some_iff.mp hb).1]; exact hb, rfl⟩ _ ht, ⟨s.heap.objs.size, by rw [I₁.len, List.getElem?_append_right (Nat.le_refl _), Nat.sub_self]; rfl, rfl⟩, I₁.allocExt _⟩
end
section
variable {w : World} {T : Addr → Obj → Prop}
theorem l_item_top {F : Fx} (hF : F.Ok) {S : Sy} {Q : AV → Sy → Prop} {a : Addr} {vs : Array Value} {n : Nat} (hT : F.T a { cls := .type "list", data := .seq vs n }) {i : Int} (h0 : 0 ≤ i) (h63 : i < 2 ^ 63) {x : Str} {t : Tok} (hx : vs[i.toNat]? = some (.str x t)) (h : Q (.str x) S) : ItL F (.ref a) (.int i) S Q := by
 refine ⟨?_⟩
 rintro s ρ v u I rfl ⟨t', rfl⟩
 have hl : s.heap.IsList a vs := ⟨_, I.up _ _ (hF.top _ _ hT).1, rfl, n, rfl⟩
 exact ⟨"list", _, slot_list_getitem.lookup, hl.typeIs, wpAny_getItem_list hl h0 h63 hx (Pg.same' I h ⟨t, rfl⟩)⟩
theorem quoteq_ok (hT : TopOk w T gl) (hfn : FnIs T 74 (fnAt 18) .none) {vs : Array Value} {n : Nat} (hm : T 47 { cls := .type "list", data := .seq vs n }) {c : Nat} (hc : c < 2 ^ 63) {y : Str} {t : Tok} (hy : vs[c]? = some (.str y t)) : FnOk w T 1 74 [.str (tx [c])] (.str y) := by
 refine fnI hT hfn (names := ["c"]) (rest := []) (avs := [.str (tx [c])]) (by kernel_rfl) rfl ?_ ?_
 ·exact fun _ _ _ _ _ _ _ _ _ _ _ _ hv => bind1 hv fun _ => by kernel_rfl
 ·intro A C E _ hF _
  refine (run_ok hF 20).xs ?_
  walk_at "vgo"
  refine l_ord rfl ?_
  walk_at "vgo"
  refine l_item_top hF hm (by show (0 : Int) ≤ (c : Nat); lia) (by show ((c : Nat) : Int) < 2 ^ 63; lia) (by show vs[((c : Nat) : Int).toNat]? = _; simpa using hy) ?_
  walk_at "vgo"
  rfl
end
section
variable {w : World} {T : Addr → Obj → Prop}
noncomputable def cutK (W : Nat) (r : List Nat) : Nat := if r[W - 3]? = some 61 then W - 3 else if r[W - 2]? = some 61 then W - 2 else W - 1
noncomputable def cutRows (W : Nat) : Nat → List Nat → List (List Nat) × List Nat
 | 0, r => ([], r)
 | n + 1, r => if r.length ≤ W then ([], r) else ((r.take (cutK W r) ++ [61]) :: (cutRows W n (r.drop (cutK W r))).1, (cutRows W n (r.drop (cutK W r))).2)
noncomputable def lastRow (W : Nat) (e : List Nat) (r : List Nat) : List Nat :=
 match r.getLast? with
 | none => r
 | some c => if c = 32 ∨ c = 9 then r.dropLast ++ (if r.length + 2 ≤ W then esc c else if r.length + 1 = W then [c] ++ ([61] ++ e) else ([61] ++ e) ++ esc c) else r
noncomputable abbrev cutR (W : Nat) (r : List Nat) : List (List Nat) × List Nat := cutRows W r.length r
section
variable {W st n k m : Nat}
theorem le3 (h : 4 ≤ W) : 3 ≤ W := Nat.le_of_succ_le h
theorem le2 (h : 4 ≤ W) : 2 ≤ W := Nat.le_of_succ_le (le3 h)
theorem le1 (h : 4 ≤ W) : 1 ≤ W := Nat.le_of_succ_le (le2 h)
theorem w3 (h : 4 ≤ W) : (st : Int) + ((W : Int) - 1) - 2 = ((st + (W - 3) : Nat) : Int) := by
 rw [Int.natCast_add, Int.ofNat_sub (le3 h), Int.add_sub_assoc, Int.sub_sub]; rfl
theorem w2 (h : 4 ≤ W) : (st : Int) + ((W : Int) - 1) - 1 = ((st + (W - 2) : Nat) : Int) := by
 rw [Int.natCast_add, Int.ofNat_sub (le2 h), Int.add_sub_assoc, Int.sub_sub]; rfl
theorem w1 (h : 4 ≤ W) : (st : Int) + ((W : Int) - 1) = ((st + (W - 1) : Nat) : Int) := by
 rw [Int.natCast_add, Int.ofNat_sub (le1 h)]; rfl
theorem stW (h : W < n - st) (j : Nat) : st + (W - j) < n := Nat.lt_of_le_of_lt (Nat.add_le_add_left (Nat.sub_le W j) st) (Nat.add_lt_of_lt_sub' h)
theorem stn (h : W < n - st) : st < n := Nat.lt_of_le_of_lt (Nat.le_add_right st W) (Nat.add_lt_of_lt_sub' h)
theorem stk (h : W < n - st) (hk : 1 ≤ k ∧ k ≤ W - 1) : st + k < n := Nat.lt_of_le_of_lt (Nat.add_le_add_left (Nat.le_trans hk.2 (Nat.sub_le W 1)) st) (Nat.add_lt_of_lt_sub' h)
theorem stl (h : W < n - st) (hk : 1 ≤ k ∧ k ≤ W - 1) : n - (st + k) < n - st := Nat.sub_lt_sub_left (stn h) (Nat.lt_add_of_pos_right hk.1)
theorem ixN (h : m < n) : -(n : Int) ≤ (m : Int) ∧ (m : Int) < n := ⟨Int.le_trans (Int.neg_nonpos_of_nonneg (Int.natCast_nonneg n)) (Int.natCast_nonneg m), Int.ofNat_lt.mpr h⟩
theorem e23 (h : 4 ≤ W) : W - 2 = (W - 3) + 1 := by obtain ⟨v, rfl⟩ := Nat.exists_eq_add_of_le' h; rfl
theorem e12 (h : 4 ≤ W) : W - 1 = (W - 2) + 1 := by obtain ⟨v, rfl⟩ := Nat.exists_eq_add_of_le' h; rfl
theorem mn1 (h : W ≤ 1000) (hs : 1000000 ≤ sizeLine) : min (W - 1) m + 1 ≤ sizeLine :=
 Nat.le_trans (Nat.succ_le_succ (Nat.le_trans (Nat.min_le_left _ _) (Nat.le_trans (Nat.sub_le W 1) h))) (Nat.le_trans (by decide) hs)
theorem sz1 {a b : Nat} (h : n ≤ 100000) (ha : a ≤ b) (hb : 100000 + b ≤ 1000000) (hs : 1000000 ≤ sizeLine) : n - st - 1 + a ≤ sizeLine :=
 Nat.le_trans (Nat.add_le_add (Nat.le_trans (Nat.sub_le _ _) (Nat.le_trans (Nat.sub_le _ _) h)) ha) (Nat.le_trans hb hs)
theorem dT1 : decide ((st : Int) ≤ (n : Int) - 1 - (W : Int)) = decide (W < n - st) := decide_eq_decide.mpr (by rw [Nat.lt_sub_iff_add_lt]; lia)
theorem dT2 (h : st ≤ n) : decide ((st : Int) - ((n : Int) - 1 - (W : Int)) ≥ 3) = decide (n - st + 2 ≤ W) := by
 obtain ⟨d, rfl⟩ := Nat.exists_eq_add_of_le h
 rw [Nat.add_sub_cancel_left]; exact decide_eq_decide.mpr (by lia)
theorem dT3 (h : st ≤ n) : ((st : Int) - ((n : Int) - 1 - (W : Int)) == 2) = decide (n - st + 1 = W) := by
 obtain ⟨d, rfl⟩ := Nat.exists_eq_add_of_le h
 rw [Nat.add_sub_cancel_left]; exact decide_eq_decide.mpr (by lia)
theorem p3 (h : 4 ≤ W) : 1 ≤ W - 3 ∧ W - 3 ≤ W - 1 := by obtain ⟨v, rfl⟩ := Nat.exists_eq_add_of_le' h; exact ⟨Nat.le_add_left 1 v, Nat.le_add_right (v + 1) 2⟩
theorem p2 (h : 4 ≤ W) : 1 ≤ W - 2 ∧ W - 2 ≤ W - 1 := by obtain ⟨v, rfl⟩ := Nat.exists_eq_add_of_le' h; exact ⟨Nat.le_add_left 1 (v + 1), Nat.le_add_right (v + 2) 1⟩
theorem p1 (h : 4 ≤ W) : 1 ≤ W - 1 ∧ W - 1 ≤ W - 1 := by obtain ⟨v, rfl⟩ := Nat.exists_eq_add_of_le' h; exact ⟨Nat.le_add_left 1 (v + 2), Nat.le_refl _⟩
end
theorem cutK_pos {W : Nat} (hW : 4 ≤ W) (r : List Nat) : 1 ≤ cutK W r ∧ cutK W r ≤ W - 1 := by unfold cutK; split <;> (try split) <;> first | exact p3 hW | exact p2 hW | exact p1 hW
theorem cutRows_fuel {W : Nat} (hW : 4 ≤ W) : ∀ (n m : Nat) (r : List Nat), r.length ≤ n → r.length ≤ m → cutRows W n r = cutRows W m r
 | 0, m, r, h, _ => by
  have : r = [] := List.eq_nil_of_length_eq_zero (by exact (Nat.le_antisymm h (nl0 [_] (.num 0) vr0 rfl)))
  subst this
  cases m <;> simp [cutRows]
 | n + 1, 0, r, _, h => by
  have : r = [] := List.eq_nil_of_length_eq_zero (by exact (Nat.le_antisymm h (nl0 [_] (.num 0) vr0 rfl)))
  subst this
  simp [cutRows]
 | n + 1, m + 1, r, h1, h2 => by
  unfold cutRows
  by_cases q : r.length ≤ W
  ·rw [if_pos q, if_pos q]
  ·have := cutK_pos hW r
   rw [if_neg q, if_neg q, cutRows_fuel hW n m (r.drop (cutK W r)) (by simp; exact nl2 [_, _, _] vr0 (.add vr1 (.num 1)) (.num 1) vr2 vr0 (.add vr1 vr2) rfl h1 this.1) (by simp; exact nl2 [_, _, _] vr0 (.add vr1 (.num 1)) (.num 1) vr2 vr0 (.add vr1 vr2) rfl h2 this.1)]
theorem cutR_done {W : Nat} {r : List Nat} (h : r.length ≤ W) : cutR W r = ([], r) := by
 unfold cutR
 cases q : r.length with
 | zero => rfl
 | succ n => unfold cutRows; rw [if_pos h]
theorem cutR_step {W : Nat} (hW : 4 ≤ W) {r : List Nat} (h : W < r.length) : cutR W r = ((r.take (cutK W r) ++ [61]) :: (cutR W (r.drop (cutK W r))).1, (cutR W (r.drop (cutK W r))).2) := by
 have hk := cutK_pos hW r
 have : ∀ n, r.length = n + 1 → cutRows W (n + 1) r = ((r.take (cutK W r) ++ [61]) :: (cutR W (r.drop (cutK W r))).1, (cutR W (r.drop (cutK W r))).2) := fun n hn => by
  conv => lhs; unfold cutRows
  rw [if_neg (by exact (Nat.not_le_of_gt h)), cutRows_fuel hW n _ (r.drop (cutK W r)) (by simp; exact nl2 [_, _, _] vr0 (.add vr1 (.num 1)) (.num 1) vr2 vr0 (.add vr1 vr2) rfl (Nat.le_of_eq hn) hk.1) (Nat.le_refl _)]
 unfold cutR
 cases q : r.length with
 | zero => exact (Nat.not_succ_le_zero 0 (nl2 [_, _] (.add vr0 (.num 1)) vr1 vr1 (.num 0) (.num 1) (.num 0) rfl h (Nat.le_of_eq q))).elim
 | succ n => rw [← this n q]
noncomputable def encRows (W : Nat) (e : List Nat) (ln : List Nat) : List (List Nat) := (cutR W ln).1 ++ [lastRow W e (cutR W ln).2]
noncomputable def encLines (W : Nat) (e : List Nat) (ls : List (List Nat)) : List (List Nat) := ls.flatMap (encRows W e)
noncomputable def encAll (W : Nat) (e : List Nat) (x : List Nat) : List (List Nat) := encLines W e ((Txt.lines (tx x)).map fun y => y.cps.toList) ++ (if x.getLast? = some 10 ∨ x.getLast? = some 13 then [[]] else [])
structure EncOk (W : Nat) (e : List Nat) (l : List Nat) : Prop where
 pos : l ≠ []
 byte : ∀ c ∈ l, c < 256
 W4 : 4 ≤ W
 W1 : W ≤ 1000
 elen : e.length ≤ 10
 len : (l.flatMap encC).length ≤ 100000
 cuts : (lineCuts (tx (l.flatMap encC))).length ≤ 100000
 each : ∀ y ∈ Txt.lines (tx (l.flatMap encC)), y.length ≤ 100000
 rows : (encAll W e (l.flatMap encC)).length ≤ 100000
 join : JoinOk (tx e) ((encAll W e (l.flatMap encC)).map tx) = true
noncomputable def stBe (x : List Nat) (W : Int) (e : List Nat) (t : Tok) (acc : List (List Nat)) (ln st la sp ro q : Option AV) : Sy :=
 ⟨[("body", some (.str (tx x))), ("maxlinelen", some (.int W)), ("eol", some (.strk (tx e) t)), ("soft_break", some (.str (tx ([61] ++ e)))), ("maxlinelen1", some (.int (W - 1))), ("encoded_body", some (.own 0)), ("append", some (.own 1)), ("line", ln), ("start", st), ("laststart", la), ("stop", sp), ("room", ro), ("q", q)],
  [.list (acc.map fun r => AV.str (tx r)), .meth 0 "list.append"]⟩
set_option maxHeartbeats 1000000 in
theorem body_encode_ok (hT : TopOk w T gl) (hq : FnIs T 74 (fnAt 18) .none) {vs vs76 : Array Value} {n n76 : Nat} (hm : T 47 { cls := .type "list", data := .seq vs n }) (hvs : ∀ c, c < 256 → ∃ t, vs[c]? = some (.str (tx (esc c)) t))
  (hm76 : T 76 { cls := .type "list", data := .seq vs76 n76 }) (hvs76 : ∀ c, c < 256 → ∃ t, vs76[c]? = some (.str (tx (encC c)) t))
  {df : Addr} {d1 d2 : Value} (hdf : T df { cls := .type "tuple", data := .seq #[d1, d2] }) (hfn : FnIs T 87 (fnAt 23) (.ref df)) {W : Nat} {e l : List Nat} {tk : Tok} (hx : EncOk W e l) : FnOk w T 2 87 [.str (tx l), .int W, .strk (tx e) tk] (.str (Txt.join (tx e) ((encAll W e (l.flatMap encC)).map tx))) := by
 refine fnI hT hfn (names := ["body", "maxlinelen", "eol"]) (rest := ["soft_break", "maxlinelen1", "encoded_body", "append", "line", "start", "laststart", "stop", "room", "q"]) (avs := [.str (tx l), .int W, .strk (tx e) tk]) (by kernel_rfl) rfl ?_ ?_
 ·intro _ _ _ _ _ _ _ _ s B vs hup hv
  obtain ⟨v1, v2, v3, rfl, h1, h2, h3⟩ := IsL.three hv
  exact ⟨[v1, v2, v3], BindsTo.of_defaults rfl (hup _ _ hdf).1 rfl (by with_unfolding_all rfl) (by kernel_rfl), .cons h1 (.cons h2 (.cons h3 .nil))⟩
 ·intro A C E _ hF _
  refine (run_ok hF 40).xs ?_
  have hsl : 1000000 ≤ sizeLine := by rw [sizeLine_eq]; exact nl0 [] (.num 1000000) (.num 16777216) rfl
  have hW : decide ((W : Int) < 4) = false := decide_eq_false (Int.not_lt_of_ge (Int.ofNat_le.mpr hx.W4))
  have hne := hx.pos
  have hll : l.length ≤ (l.flatMap encC).length := by
   clear hx hne
   induction l with
   | nil => simp
   | cons c r ih =>
    have : 1 ≤ (encC c).length := by unfold encC esc; split <;> simp
    simp only [List.flatMap_cons, List.length_append, List.length_cons]; exact nl2 [_, _, _] vr0 vr1 (.num 1) vr2 (.add vr0 (.num 1)) (.add vr2 vr1) rfl ih this
  have hlen := hx.len
  have htr : trans (fun c => tx (encC c)) l = l.flatMap encC := by simp [trans]
  obtain ⟨x, hxe⟩ : ∃ x, l.flatMap encC = x := ⟨_, rfl⟩
  have hxne : x ≠ [] := by
   rintro rfl
   rw [hxe] at hll
   exact hne (List.eq_nil_of_length_eq_zero (by simpa using hll))
  have hcuts := hx.cuts
  have heach := hx.each
  have hrows := hx.rows
  have hjoin := hx.join
  have hW4 := hx.W4
  have hW1 := hx.W1
  have hel := hx.elen
  rw [hxe] at hll hlen htr hcuts heach hrows hjoin
  rw [hxe]
  walk_at "vgo"
  ·rw [txl]; exact nl3 [_, _, _] vr0 vr1 vr1 (.num 100000) (.num 1000000) vr2 vr0 vr2 rfl hll hlen hsl
  ·exfalso
   simp [txl] at hc
   exact hne hc
  ·refine l_translate hF hm76 (tab := fun c => tx (encC c)) (fun c hc => ⟨by have := hx.byte c hc; exact nl1 [_] (.add vr0 (.num 1)) (.num 256) (.add vr0 (.num 1)) (.num 9223372036854775808) rfl this, hvs76 c (hx.byte c hc)⟩) (by rw [htr]; exact nl2 [_, _] vr0 (.num 100000) (.num 1000000) vr1 vr0 vr1 rfl hlen hsl) (List.length_pos_iff.mpr hne) ?_
   rw [htr]
   walk_at "vgo"
   ·have := hx.elen
    rw [txl, eq_lit, txl]; simp; exact nl2 [_, _] (.num 1000000) vr0 vr1 (.num 10) (.add (.num 1) vr1) vr0 rfl hsl hel
   ·refine l_attr_append (k := 0) (xs := []) rfl ?_
    walk_at "vgo"
    refine for_ok hF 40 (fun i S => ∃ ln st la sp ro q, S = stBe x W e tk (encLines W e (((Txt.lines (tx x)).map fun y => y.cps.toList).take i)) ln st la sp ro q) (((Txt.lines (tx x)).map Dt.str).map ofD) (S₀ := stBe x W e tk [] none none none none none none) (fun _ => rfl) ?_ ⟨none, none, none, none, none, none, rfl⟩ ?_ ?_
    ·walk_at "vgo"
     refine l_splitlines (by rw [txl]; exact nl2 [_, _] vr0 (.num 100000) (.num 1000000) vr1 vr0 vr1 rfl hlen hsl) (by exact nl2 [_, _] vr0 (.num 100000) (.num 1000000) vr1 vr0 vr1 rfl hcuts hsl) ?_
     walk_at "vgo"
     refine ⟨⟨rfl, ?_⟩⟩
     unfold stBe
     rw [← txa, eq_lit]
     rfl
    ·rintro C' E' i a S hF' ha ⟨ln0, st0, la0, sp0, ro0, q0, rfl⟩
     obtain ⟨y, hy, rfl⟩ : ∃ y, (Txt.lines (tx x))[i]? = some y ∧ a = .str y := by
      rw [List.map_map, List.getElem?_map] at ha
      obtain ⟨y, h1, h2⟩ := Option.map_eq_some_iff.mp ha
      exact ⟨y, h1, h2.symm⟩
     obtain ⟨ln, rfl⟩ : ∃ ln, y = tx ln := ⟨_, tx_of y⟩
     have hnext : encLines W e (((Txt.lines (tx x)).map fun y => y.cps.toList).take (i + 1)) = encLines W e (((Txt.lines (tx x)).map fun y => y.cps.toList).take i) ++ encRows W e ln := by
      rw [List.take_add_one, List.getElem?_map, hy]; simp [encLines]
     have hpre : (encLines W e (((Txt.lines (tx x)).map fun y => y.cps.toList).take (i + 1))).length ≤ 100000 := by
      refine Nat.le_trans ?_ hrows
      unfold encAll
      rw [List.length_append]
      refine Nat.le_trans ?_ (Nat.le_add_right _ _)
      conv => rhs; rw [← List.take_append_drop (i + 1) ((Txt.lines (tx x)).map fun y => y.cps.toList)]
      rw [encLines, encLines, List.flatMap_append, List.length_append]
      exact Nat.le_add_right _ _
     have hlnl : ln.length ≤ 100000 := by have := heach _ (List.mem_of_getElem? hy); rwa [txl] at this
     show st _ _ _ _ (fun S₁ => (run _ _).xs _ _ (LpQ (fun S => ∃ ln st la sp ro q, S = stBe x W e tk (encLines W e (((Txt.lines (tx x)).map fun y => y.cps.toList).take (i + 1))) ln st la sp ro q) _))
     rw [hnext] at hpre ⊢
     generalize encLines W e (((Txt.lines (tx x)).map fun y => y.cps.toList).take i) = acc at *
     clear ha hy heach hrows hjoin hnext hx
     revert acc; refine opq ?_; intro acc hpre
     generalize hR0 : LpQ _ _ = R0
     revert R0; refine opq ?_; intro R0 hR0
     walk_at "vgo"
     ·rw [txl]; exact nl2 [_, _] vr0 (.num 100000) (.num 1000000) vr1 vr0 vr1 rfl hlnl hsl
     refine while_ok hF' 40 (fun m S => ∃ (st : Nat) (acc' : List (List Nat)) (sp : Option AV), m = ln.length - st ∧ st ≤ ln.length ∧ (ln = [] ∨ st < ln.length) ∧ S = stBe x W e tk acc' (some (.str (tx ln))) (some (.int st)) (some (.int (((tx ln).length : Int) - 1 - (W : Int)))) sp ro0 q0 ∧
      acc' ++ (cutR W (ln.drop st)).1 = acc ++ (cutR W ln).1 ∧ (cutR W (ln.drop st)).2 = (cutR W ln).2) (n := ln.length) ⟨0, acc, _, rfl, by exact nl0 [_] (.num 0) vr0 rfl, ?_, rfl, rfl, rfl⟩ ?_
     ·induction ln with
      | nil => exact .inl rfl
      | cons _ _ => exact .inr (by simp)
     ·rintro E'' m S hF'' ⟨st, acc', sp, rfl, hst, hst2, rfl, hac, hre⟩
      generalize hR : LpQ _ _ = R
      revert R; refine opq ?_; intro R hR
      have hrl : (ln.drop st).length = ln.length - st := by simp
      have hacl : acc'.length ≤ 100000 := by
       have e1 := congrArg List.length hac
       rw [List.length_append, List.length_append] at e1
       rw [encRows, List.length_append, List.length_append] at hpre
       exact nl2 [_, _, _, _] (.add vr0 vr1) (.add vr2 vr3) (.add vr2 (.add vr3 (.add (.num 0) (.num 1)))) (.num 100000) vr0 (.num 100000) rfl (Nat.le_of_eq e1) hpre
      have hT1 : decide ((st : Int) ≤ ((tx ln).length : Int) - 1 - (W : Int)) = decide (W < (ln.drop st).length) := by
       rw [txl, hrl]; exact dT1
      by_cases hlt : W < (ln.drop st).length
      ·rw [decide_eq_true hlt] at hT1
       have hlt' : W < ln.length - st := hrl ▸ hlt
       rw [cutR_step hW4 hlt] at hac hre
       have hk := cutK_pos hW4 (ln.drop st)
       obtain ⟨c1, hc1⟩ : ∃ c, ln[st + (W - 3)]? = some c := ⟨ln[st + (W - 3)]'(stW hlt' 3), by rw [List.getElem?_eq_getElem]⟩
       obtain ⟨c2, hc2⟩ : ∃ c, ln[st + (W - 2)]? = some c := ⟨ln[st + (W - 2)]'(stW hlt' 2), by rw [List.getElem?_eq_getElem]⟩
       have hr1 : (ln.drop st)[W - 3]? = some c1 := by rw [List.getElem?_drop]; exact hc1
       have hr2 : (ln.drop st)[W - 2]? = some c2 := by rw [List.getElem?_drop]; exact hc2
       have hT2 : seq (Txt.item (tx ln) ((st : Int) + ((W : Int) - 1) - 2)) (Str.ofString "=") = decide (c1 = 61) := by
        rw [show ((st : Int) + ((W : Int) - 1) - 2) = ((st + (W - 3) : Nat) : Int) from w3 hW4, tx_item hc1, eq_lit, tx_seq, Bool.eq_iff_iff]; simp
       have hT3 : seq (Txt.item (tx ln) ((st : Int) + ((W : Int) - 1) - 1)) (Str.ofString "=") = decide (c2 = 61) := by
        rw [show ((st : Int) + ((W : Int) - 1) - 1) = ((st + (W - 2) : Nat) : Int) from w2 hW4, tx_item hc2, eq_lit, tx_seq, Bool.eq_iff_iff]; simp
       have fin : ∀ (k : Nat) (S₂ : Sy) (sp : Option AV), k = cutK W (ln.drop st) → S₂ = stBe x W e tk (acc' ++ [(ln.drop st).take k ++ [61]]) (some (.str (tx ln))) (some (.int ((st + k : Nat) : Int))) (some (.int (((tx ln).length : Int) - 1 - (W : Int)))) sp ro0 q0 → R .next S₂ := fun k S₂ sp hkk e => by
        subst hkk hR
        show Leaf _
        refine ⟨ln.length - (st + cutK W (ln.drop st)), stl hlt' hk, st + cutK W (ln.drop st), _, sp, rfl, Nat.le_of_lt (stk hlt' hk), .inr (stk hlt' hk), e, ?_, ?_⟩
        ·rw [List.append_assoc, List.singleton_append, ← List.drop_drop]; exact hac
        ·rw [← List.drop_drop]; exact hre
       have hsl1 : Txt.slice (tx ln) (some (st : Int)) (some ((st : Int) + ((W : Int) - 1) - 1)) = tx ((ln.drop st).take (W - 2)) := by
        rw [show ((st : Int) + ((W : Int) - 1) - 1) = ((st + (W - 2) : Nat) : Int) from w2 hW4, tx_slice (Nat.le_add_right _ _) (Nat.le_of_lt (stW hlt' 2)), Nat.add_sub_cancel_left]
       have hsl2 : Txt.slice (tx ln) (some (st : Int)) (some ((st : Int) + ((W : Int) - 1))) = tx ((ln.drop st).take (W - 1)) := by
        rw [show ((st : Int) + ((W : Int) - 1)) = ((st + (W - 1) : Nat) : Int) from w1 hW4, tx_slice (Nat.le_add_right _ _) (Nat.le_of_lt (stW hlt' 1)), Nat.add_sub_cancel_left]
       have hidx : -((tx ln).length : Int) ≤ (st : Int) + ((W : Int) - 1) - 2 ∧ (st : Int) + ((W : Int) - 1) - 2 < ((tx ln).length : Int) := by rw [txl, w3 hW4]; exact ixN (stW hlt' 3)
       have hidx2 : -((tx ln).length : Int) ≤ (st : Int) + ((W : Int) - 1) - 1 ∧ (st : Int) + ((W : Int) - 1) - 1 < ((tx ln).length : Int) := by rw [txl, w2 hW4]; exact ixN (stW hlt' 2)
       have hll' : (tx ln).length ≤ sizeLine := by rw [txl]; exact nl2 [_, _] vr0 (.num 100000) (.num 1000000) vr1 vr0 vr1 rfl hlnl hsl
       by_cases h1 : c1 = 61
       ·rw [decide_eq_true h1] at hT2
        subst h1
        have hck : cutK W (ln.drop st) = W - 3 := by unfold cutK; rw [if_pos hr1]
        have htk : (ln.drop st).take (W - 2) = (ln.drop st).take (W - 3) ++ [61] := by
         rw [e23 hW4, List.take_add_one, hr1]; rfl
        walk_at "vgo"
        ·exact hidx
        ·exact hll'
        ·exact hll'
        ·refine l_bm (j := 1) (k := 0) (xs := acc'.map fun r => AV.str (tx r)) rfl rfl (by simp; exact nl2 [_, _] vr0 (.num 100000) (.num 1000000) vr1 vr0 vr1 rfl hacl hsl) ?_
         walk_at "vgo"
         refine fin (W - 3) _ (some (.int ((st : Int) + ((W : Int) - 1)))) hck.symm ?_
         rw [hsl1, htk]
         unfold stBe
         rw [show ((st + (W - 3) : Nat) : Int) = (st : Int) + ((W : Int) - 1) - 2 from (w3 hW4).symm, List.map_append]
         rfl
       ·rw [decide_eq_false h1] at hT2
        by_cases h2 : c2 = 61
        ·rw [decide_eq_true h2] at hT3
         subst h2
         have hck : cutK W (ln.drop st) = W - 2 := by unfold cutK; rw [if_neg (by rw [hr1]; simpa using h1), if_pos hr2]
         have htk : (ln.drop st).take (W - 1) = (ln.drop st).take (W - 2) ++ [61] := by
          rw [e12 hW4, List.take_add_one, hr2]; rfl
         walk_at "vgo"
         ·exact hidx
         ·exact hll'
         ·exact hidx2
         ·exact hll'
         ·exact hll'
         ·refine l_bm (j := 1) (k := 0) (xs := acc'.map fun r => AV.str (tx r)) rfl rfl (by simp; exact nl2 [_, _] vr0 (.num 100000) (.num 1000000) vr1 vr0 vr1 rfl hacl hsl) ?_
          walk_at "vgo"
          refine fin (W - 2) _ (some (.int ((st : Int) + ((W : Int) - 1)))) hck.symm ?_
          rw [hsl2, htk]
          unfold stBe
          rw [show ((st + (W - 2) : Nat) : Int) = (st : Int) + ((W : Int) - 1) - 1 from (w2 hW4).symm, List.map_append]
          rfl
        ·rw [decide_eq_false h2] at hT3
         have hck : cutK W (ln.drop st) = W - 1 := by unfold cutK; rw [if_neg (by rw [hr1]; simpa using h1), if_neg (by rw [hr2]; simpa using h2)]
         walk_at "vgo"
         ·exact hidx
         ·exact hll'
         ·exact hidx2
         ·exact hll'
         ·exact hll'
         ·rw [hsl2, eq_lit, txl, txl, List.length_take]; exact mn1 hW1 hsl
         ·refine l_bm (j := 1) (k := 0) (xs := acc'.map fun r => AV.str (tx r)) rfl rfl (by simp; exact nl2 [_, _] vr0 (.num 100000) (.num 1000000) vr1 vr0 vr1 rfl hacl hsl) ?_
          walk_at "vgo"
          refine fin (W - 1) _ (some (.int ((st : Int) + ((W : Int) - 1)))) hck.symm ?_
          rw [hsl2, eq_lit, txa]
          unfold stBe
          rw [show ((st + (W - 1) : Nat) : Int) = (st : Int) + ((W : Int) - 1) from (w1 hW4).symm, List.map_append]
          rfl
      ·rw [decide_eq_false hlt] at hT1
       rw [cutR_done (by exact (Nat.le_of_not_lt hlt))] at hac hre
       simp only [List.append_nil] at hac
       have hll' : (tx ln).length ≤ sizeLine := by rw [txl]; exact nl2 [_, _] vr0 (.num 100000) (.num 1000000) vr1 vr0 vr1 rfl hlnl hsl
       have hrow : acc ++ encRows W e ln = acc' ++ [lastRow W e (ln.drop st)] := by rw [encRows, ← hre, ← List.append_assoc, ← hac]
       have fin : ∀ (y : Str) (S₂ : Sy) (sp ro q : Option AV), y = tx (lastRow W e (ln.drop st)) → S₂ = ⟨(stBe x W e tk [] (some (.str (tx ln))) (some (.int (st : Int))) (some (.int (((tx ln).length : Int) - 1 - (W : Int)))) sp ro q).fs, [.list ((acc'.map fun r => AV.str (tx r)) ++ [.str y]), .meth 0 "list.append"]⟩ →
         R0 .next S₂ := fun y S₂ sp ro q hy hS => by
        subst hy hS hR0
        show Leaf _
        rw [hrow]
        refine ⟨some (.str (tx ln)), some (.int (st : Int)), some (.int (((tx ln).length : Int) - 1 - (W : Int))), sp, ro, q, ?_⟩
        unfold stBe
        rw [List.map_append]
        rfl
       have hfull : ∀ {y : Str}, y = tx (ln.drop st) → lastRow W e (ln.drop st) = ln.drop st → y = tx (lastRow W e (ln.drop st)) := fun h1 h2 => by rw [h2]; exact h1
       by_cases hnil : ln = []
       ·subst hnil
        have hst0 : st = 0 := by simpa using hst
        subst hst0
        walk_at "vgo"
        ·exact hll'
        ·exact hll'
        ·refine l_bm (j := 1) (k := 0) (xs := acc'.map fun r => AV.str (tx r)) rfl rfl (by simp; exact nl2 [_, _] vr0 (.num 100000) (.num 1000000) vr1 vr0 vr1 rfl hacl hsl) ?_
         walk_at "vgo"
         exact fin _ _ sp ro0 q0 (hfull (tx_slice_from (i := 0) (by simp)) rfl) rfl
       ·have hstl : st < ln.length := hst2.resolve_left hnil
        have hlast : ln.getLast? = some (ln.getLast hnil) := List.getLast?_eq_some_getLast hnil
        have hlast2 : (ln.drop st).getLast? = some (ln.getLast hnil) := by
         rw [List.getLast?_drop, if_neg (by exact (Nat.not_le_of_gt hstl)), hlast]
        obtain ⟨c, hcl⟩ : ∃ c, ln.getLast hnil = c := ⟨_, rfl⟩
        rw [hcl] at hlast2
        have hitm : Txt.item (tx ln) (-1) = tx [c] := by rw [tx_last hnil, hcl]
        have hTa : (((tx ln).length : Int) != 0) = true := bne_iff_ne.mpr (Int.ofNat_ne_zero.mpr (Nat.ne_of_gt (Nat.lt_of_le_of_lt (Nat.zero_le _) hstl)))
        have hTb : Txt.contains (Str.ofString " \t") (Txt.item (tx ln) (-1)) = decide (c = 32 ∨ c = 9) := by
         rw [hitm, show (Str.ofString " \t") = tx [32, 9] by kernel_rfl, tx_contains, Bool.eq_iff_iff]; simp
        have hidx : -((tx ln).length : Int) ≤ -1 ∧ -1 < ((tx ln).length : Int) := ixM (Nat.lt_of_le_of_lt (Nat.zero_le _) hstl)
        by_cases hbl : c = 32 ∨ c = 9
        ·rw [decide_eq_true hbl] at hTb
         have hc256 : c < 256 := hbl.elim (fun e => by rw [e]; decide) fun e => by rw [e]; decide
         have hQ := fun {y t} (hy : vs[c]? = some (Value.str y t)) => quoteq_ok hT hq hm (by exact nl1 [_] (.add vr0 (.num 1)) (.num 256) (.add vr0 (.num 1)) (.num 9223372036854775808) rfl hc256 : c < 2 ^ 63) hy
         obtain ⟨tq, htq⟩ := hvs c hc256
         have hQ := hQ htq
         have hsd : Txt.slice (tx ln) (some (st : Int)) (some (-1)) = tx ((ln.drop st).dropLast) := tx_slice_neg hstl
         have hdl : ((ln.drop st).dropLast).length ≤ 100000 := by simp; exact nl1 [_, _] vr0 (.num 100000) vr0 (.add (.num 100001) vr1) rfl hlnl
         have hR1 : decide ((st : Int) - (((tx ln).length : Int) - 1 - (W : Int)) ≥ 3) = decide ((ln.drop st).length + 2 ≤ W) := by rw [txl, hrl]; exact dT2 hst
         have hR2 : ((st : Int) - (((tx ln).length : Int) - 1 - (W : Int)) == 2) = decide ((ln.drop st).length + 1 = W) := by rw [txl, hrl]; exact dT3 hst
         have hlr : lastRow W e (ln.drop st) = (ln.drop st).dropLast ++ (if (ln.drop st).length + 2 ≤ W then esc c else if (ln.drop st).length + 1 = W then [c] ++ ([61] ++ e) else ([61] ++ e) ++ esc c) := by
          unfold lastRow; rw [hlast2]; simp only [if_pos hbl]
         by_cases h3 : (ln.drop st).length + 2 ≤ W
         ·rw [decide_eq_true h3] at hR1
          rw [if_pos h3] at hlr
          walk_at "vgo"
          all_goals try first | exact hll' | exact hidx | exact fn_okF hF' hQ
          refine ⟨fn_call hF' hQ (Nat.le_refl _) (by rw [hitm]; rfl) ?_⟩
          walk_at "vgo"
          all_goals try first | exact hll' | exact hidx | (rw [hsd, txl]; show _ + 3 ≤ _; exact nl2 [_, _] vr0 (.num 100000) (.num 1000000) vr1 (.add vr0 (.num 3)) vr1 rfl hdl hsl)
          refine l_bm (j := 1) (k := 0) (xs := acc'.map fun r => AV.str (tx r)) rfl rfl (by simp; exact nl2 [_, _] vr0 (.num 100000) (.num 1000000) vr1 vr0 vr1 rfl hacl hsl) ?_
          walk_at "vgo"
          exact fin _ _ sp (some (.int ((st : Int) - (((tx ln).length : Int) - 1 - (W : Int))))) (some (.str (tx (esc c)))) (by rw [hsd, txa, hlr]) rfl
         ·rw [decide_eq_false h3] at hR1
          rw [if_neg h3] at hlr
          by_cases h2 : (ln.drop st).length + 1 = W
          ·rw [decide_eq_true h2] at hR2
           rw [if_pos h2] at hlr
           walk_at "vgo"
           all_goals try first | exact hll' | exact hidx
           ·rw [hitm, txl, txl]; simp; exact nl2 [_, _] vr0 (.num 10) (.num 1000000) vr1 (.add (.num 1) (.add vr0 (.num 1))) vr1 rfl hel hsl
           ·rw [hsd, txl, hitm, txa, txl]; simp; exact nl5 [_, _, _, _, _] vr0 (.num 10) vr1 vr2 vr2 vr3 vr3 (.num 100000) (.num 1000000) vr4 (.add vr1 (.add (.add vr0 (.num 1)) (.num 1))) vr4 rfl hel (Nat.sub_le _ _) (Nat.sub_le _ _) hlnl hsl
           ·refine l_bm (j := 1) (k := 0) (xs := acc'.map fun r => AV.str (tx r)) rfl rfl (by simp; exact nl2 [_, _] vr0 (.num 100000) (.num 1000000) vr1 vr0 vr1 rfl hacl hsl) ?_
            walk_at "vgo"
            exact fin _ _ sp (some (.int ((st : Int) - (((tx ln).length : Int) - 1 - (W : Int))))) (some (.str (Txt.item (tx ln) (-1) ++ tx ([61] ++ e)))) (by rw [hsd, hitm, txa, txa, hlr]) rfl
          ·rw [decide_eq_false h2] at hR2
           rw [if_neg h2] at hlr
           walk_at "vgo"
           all_goals try first | exact hll' | exact hidx | exact fn_okF hF' hQ
           refine ⟨fn_call hF' hQ (Nat.le_refl _) (by rw [hitm]; rfl) ?_⟩
           walk_at "vgo"
           all_goals try first | exact hll' | exact hidx
           ·rw [txl]; show _ + 3 ≤ _; simp; exact nl2 [_, _] vr0 (.num 10) (.num 1000000) vr1 (.add (.add vr0 (.num 1)) (.num 3)) vr1 rfl hel hsl
           ·rw [hsd, txl]; show _ + (tx ([61] ++ e) ++ tx (esc c)).length ≤ _; rw [txa, txl]; simp [esc]; exact nl5 [_, _, _, _, _] vr0 (.num 10) vr1 vr2 (.num 1000000) vr3 vr2 vr4 vr4 (.num 100000) (.add vr1 (.add (.add vr0 (.num 3)) (.num 1))) vr3 rfl hel (Nat.sub_le _ _) hsl (Nat.sub_le _ _) hlnl
           ·refine l_bm (j := 1) (k := 0) (xs := acc'.map fun r => AV.str (tx r)) rfl rfl (by simp; exact nl2 [_, _] vr0 (.num 100000) (.num 1000000) vr1 vr0 vr1 rfl hacl hsl) ?_
            walk_at "vgo"
            exact fin _ _ sp (some (.int ((st : Int) - (((tx ln).length : Int) - 1 - (W : Int))))) (some (.str (tx ([61] ++ e) ++ tx (esc c)))) (by
             show _ ++ (tx ([61] ++ e) ++ tx (esc c)) = _
             rw [hsd, txa, txa, hlr]) rfl
        ·rw [decide_eq_false hbl] at hTb
         have hlr : lastRow W e (ln.drop st) = ln.drop st := by unfold lastRow; rw [hlast2]; simp only [if_neg hbl]
         walk_at "vgo"
         all_goals try first | exact hll' | exact hidx
         refine l_bm (j := 1) (k := 0) (xs := acc'.map fun r => AV.str (tx r)) rfl rfl (by simp; exact nl2 [_, _] vr0 (.num 100000) (.num 1000000) vr1 vr0 vr1 rfl hacl hsl) ?_
         walk_at "vgo"
         exact fin _ _ sp ro0 q0 (hfull (tx_slice_from hst) hlr) rfl
    ·rintro E' S hF' ⟨ln0, st0, la0, sp0, ro0, q0, rfl⟩
     have htake : ((Txt.lines (tx x)).map fun y => y.cps.toList).take (List.map ofD (List.map Dt.str (Txt.lines (tx x)))).length = (Txt.lines (tx x)).map fun y => y.cps.toList := by
      rw [List.take_of_length_le (by simp)]
     rw [htake]
     have hmap : ∀ (rows : List (List Nat)), toDs (rows.map fun r => AV.str (tx r)) = some ((rows.map tx).map Dt.str) := by
      intro rows
      induction rows with
      | nil => rfl
      | cons r rest ih =>
       show (match toD1 (AV.str (tx r)), toDs (rest.map fun r => AV.str (tx r)) with | some d, some ds => some (d :: ds) | _, _ => none) = _
       rw [ih]; rfl
     have hlast : Txt.contains (Str.ofString "\r\n") (Txt.item (tx x) (-1)) = decide (x.getLast? = some 10 ∨ x.getLast? = some 13) := by
      rw [tx_last hxne, crlf_lit, tx_contains, Bool.eq_iff_iff, List.getLast?_eq_some_getLast hxne]; simp; lia
     have hidx : -((tx x).length : Int) ≤ -1 ∧ -1 < ((tx x).length : Int) := by
      have := List.length_pos_iff.mpr hxne
      exact ixM this
     have hxl : (tx x).length ≤ sizeLine := by rw [txl]; exact nl2 [_, _] vr0 (.num 100000) (.num 1000000) vr1 vr0 vr1 rfl hlen hsl
     have hall : encAll W e x = encLines W e ((Txt.lines (tx x)).map fun y => y.cps.toList) ++ (if x.getLast? = some 10 ∨ x.getLast? = some 13 then [[]] else []) := rfl
     rw [hall] at hrows hjoin ⊢
     clear hall htake heach
     generalize encLines W e ((Txt.lines (tx x)).map fun y => y.cps.toList) = acc at *
     revert acc; refine opq ?_; intro acc hrows hjoin
     by_cases hcr : x.getLast? = some 10 ∨ x.getLast? = some 13
     ·rw [decide_eq_true hcr] at hlast
      rw [if_pos hcr] at hrows hjoin ⊢
      rw [List.length_append] at hrows
      walk_at "vgo"
      all_goals try first | exact hxl | exact hidx
      refine l_bm (j := 1) (k := 0) (xs := acc.map fun r => AV.str (tx r)) rfl rfl (by rw [List.length_map]; exact nl2 [_, _] (.add vr0 (.add (.num 0) (.num 1))) (.num 100000) (.num 1000000) vr1 vr0 vr1 rfl hrows hsl) ?_
      walk_at "vgo"
      refine l_join (texts := (acc ++ [[]]).map tx) ?_ hjoin ?_
      ·show (match toDs (acc.map (fun r => AV.str (tx r)) ++ [AV.str (tx [])]) with | some ds => some (Dt.list ds) | none => none) = _
       have := hmap (acc ++ [[]])
       rw [List.map_append] at this
       change toDs (acc.map (fun r => AV.str (tx r)) ++ [AV.str (tx [])]) = _ at this
       rw [this]
      ·walk_at "vgo"
       rfl
     ·rw [decide_eq_false hcr] at hlast
      rw [if_neg hcr, List.append_nil] at hrows hjoin ⊢
      walk_at "vgo"
      all_goals try first | exact hxl | exact hidx
      refine l_join (texts := acc.map tx) ?_ hjoin ?_
      ·show (match toDs (acc.map (fun r => AV.str (tx r))) with | some ds => some (Dt.list ds) | none => none) = _
       rw [hmap]
      ·walk_at "vgo"
       rfl
end
section
open PySem.Builtin PySem.Builtin.Str PySem.StrLaws
inductive Tk where
 | ch (c : Nat)
 | es (c : Nat)
 | so
 | ha
noncomputable def Tk.w (s e : List Nat) : Tk → List Nat
 | .ch c => [c]
 | .es c => esc c
 | .so => s
 | .ha => e
noncomputable abbrev rend (s e : List Nat) (ts : List Tk) : List Nat := ts.flatMap (Tk.w s e)
noncomputable def Tk.v : Tk → List Nat
 | .ch c => [c]
 | .es c => [c]
 | .so => []
 | .ha => [10]
noncomputable abbrev val (ts : List Tk) : List Nat := ts.flatMap Tk.v
noncomputable def blankC (c : Nat) : Bool := c == 32 || c == 9
noncomputable def Tk.b : Tk → Bool
 | .ch c => blankC c
 | _ => false
noncomputable def chOk (c : Nat) : Prop := (c = 9 ∨ 32 ≤ c ∧ c ≤ 126) ∧ c ≠ 61
noncomputable def okT (W : Nat) : Nat → Bool → List Tk → Prop
 | _, _, [] => True
 | n, _, .ch c :: ts => chOk c ∧ n + 1 ≤ W ∧ okT W (n + 1) (blankC c) ts
 | n, _, .es c :: ts => c < 256 ∧ n + 3 ≤ W ∧ okT W (n + 3) false ts
 | n, _, .so :: ts => n + 1 ≤ W ∧ okT W 0 false ts
 | _, b, .ha :: ts => b = false ∧ okT W 0 false ts
noncomputable def endsL (e : List Nat) : Prop := e = [10] ∨ e = [13, 10]
theorem hexU_ok : ∀ n, n < 16 → hexU n ∈ hexs ∧ hexv (hexU n) = n := by decide +kernel
theorem hexs_ok : ∀ c ∈ hexs, 48 ≤ c ∧ c ≤ 102 ∧ c ≠ 61 ∧ c ≠ 92 := by decide +kernel
theorem esc_ok {c : Nat} (h : c < 256) : ∃ a b, esc c = [61, a, b] ∧ a ∈ hexs ∧ b ∈ hexs ∧ hexv a * 16 + hexv b = c := by
 refine el02 (hexU_ok (c / 16) (Nat.div_lt_of_lt_mul (n := 16) (k := 16) h)) fun h1 h2 => ?_
 refine el02 (hexU_ok (c % 16) (by exact (Nat.mod_lt _ (Nat.zero_lt_succ _)))) fun h3 h4 => ?_
 exact ⟨_, _, rfl, h1, h3, by rw [h2, h4]; exact Nat.div_add_mod' c 16⟩
theorem brk_no : ∀ c, c < 127 → (c = 9 ∨ 32 ≤ c) → Unicode.isLineBreak c = false := by decide +kernel
theorem spc_is : ∀ c, c < 127 → (c = 9 ∨ 32 ≤ c) → Unicode.isSpace c = blankC c := by decide +kernel
noncomputable def plT : Tk → Prop
 | .ch c => chOk c
 | .es c => c < 256
 | _ => False
noncomputable def rowT (us : List Tk) : Prop := ∀ t ∈ us, plT t
theorem row_nil : rowT [] := fun _ h => nomatch h
theorem pl_signs {s e : List Nat} {t : Tk} (h : plT t) : ∃ l c, t.w s e = l ++ [c] ∧ (∀ x ∈ l ++ [c], x < 127 ∧ (x = 9 ∨ 32 ≤ x)) ∧ blankC c = t.b := by
 induction t with
 | ch c => exact ⟨[], c, rfl, fun x hx => by rw [List.mem_singleton.mp hx]; have := h.1; exact ⟨(Or.elim this (fun hy0 => (nl1 [_] vr0 (.num 9) (.add vr0 (.num 1)) (.num 127) rfl (Nat.le_of_eq hy0))) fun hy0 => (nl1 [_] vr0 (.num 126) (.add vr0 (.num 1)) (.num 127) rfl hy0.2)), (Or.elim this (fun hy0 => (Or.inl (Nat.le_antisymm (Nat.le_of_eq hy0) (Nat.le_of_eq (Eq.symm hy0))))) fun hy0 => (Or.inr hy0.1))⟩, rfl⟩
 | es c =>
  refine el24 (esc_ok h) fun a b e1 e2 e3 _ => ?_
  have ha := hexs_ok a e2
  have hb := hexs_ok b e3
  refine ⟨[61, a], b, e1, fun x hx => ?_, ?_⟩
  ·simp at hx; exact ⟨(Or.elim hx (fun hy0 => (nl1 [_] vr0 (.num 61) (.add vr0 (.num 1)) (.num 127) rfl (Nat.le_of_eq hy0))) fun hy0 => (Or.elim hy0 (fun hy1 => (nl2 [_, _] vr0 vr1 vr1 (.num 102) (.add vr0 (.num 1)) (.num 127) rfl (Nat.le_of_eq hy1) ha.2.1)) fun hy1 => (nl2 [_, _] vr0 vr1 vr1 (.num 102) (.add vr0 (.num 1)) (.num 127) rfl (Nat.le_of_eq hy1) hb.2.1))), (Or.elim hx (fun hy0 => (Or.inr (nl1 [_] (.num 61) vr0 (.num 32) vr0 rfl (Nat.le_of_eq (Eq.symm hy0))))) fun hy0 => (Or.elim hy0 (fun hy1 => (Or.inr (nl2 [_, _] (.num 48) vr0 vr0 vr1 (.num 32) vr1 rfl ha.1 (Nat.le_of_eq (Eq.symm hy1))))) fun hy1 => (Or.inr (nl2 [_, _] (.num 48) vr0 vr0 vr1 (.num 32) vr1 rfl hb.1 (Nat.le_of_eq (Eq.symm hy1))))))⟩
  ·simp [blankC, Tk.b]; exact ⟨(Nat.ne_of_gt (nl1 [_] (.num 48) vr0 (.add (.num 32) (.num 1)) vr0 rfl hb.1)), (Nat.ne_of_gt (nl1 [_] (.num 48) vr0 (.add (.num 9) (.num 1)) vr0 rfl hb.1))⟩
 | so => exact h.elim
 | ha => exact h.elim
theorem row_signs {s e : List Nat} {us : List Tk} (h : rowT us) : ∀ c ∈ rend s e us, c < 127 ∧ (c = 9 ∨ 32 ≤ c) := fun c hc => by
 refine el12 (List.mem_flatMap.mp hc) fun t ht hc => ?_
 refine el23 (pl_signs (s := s) (e := e) (h t ht)) fun l d e1 e2 _ => ?_
 rw [e1] at hc; exact e2 c hc
theorem row_nb {s e : List Nat} {us : List Tk} (h : rowT us) : nb (rend s e us) := fun c hc => let ⟨h1, h2⟩ := row_signs h c hc; brk_no c h1 h2
theorem nb_append {a b : List Nat} (ha : nb a) (hb : nb b) : nb (a ++ b) := fun c hc => (List.mem_append.mp hc).elim (ha c) (hb c)
noncomputable def lnF (y : List Nat) : List Nat := if y = [] then [10] else lineOut [10] y
noncomputable def Lnd (l y : List Nat) : Prop := ∃ ws, l = y ++ ws ∧ (∀ c ∈ ws, c = 32 ∨ c = 9) ∧ ∀ c, y.getLast? = some c → Unicode.isSpace c = false
theorem lnAdd_eq {l y : List Nat} (h : Lnd l y) (d : List Nat) : lnAdd d (tx l) = d ++ lnF y := by
 obtain ⟨ws, rfl, h1, h2⟩ := h
 have : Txt.rstrip (tx (y ++ ws)) = tx y := rstrip_tx y ws (fun c hc => by rcases h1 c hc with rfl | rfl <;> decide +kernel) h2
 unfold lnAdd lnF
 rw [this, txl]
 induction y with
 | nil => rfl
 | cons _ _ => rfl
theorem decAll_eq {l : List Nat} {ps : List (List Nat)} (h : Ls l ps) : decAll l = (ps.map tx).foldl lnAdd [] := by unfold decAll; rw [h.lines]
theorem foldl_pre : ∀ (ps : List Str) (d : List Nat), ps.foldl lnAdd d = d ++ ps.foldl lnAdd []
 | [], d => by simp
 | p :: r, d => by
  rw [List.foldl_cons, List.foldl_cons, foldl_pre r, foldl_pre r (lnAdd [] p), ← List.append_assoc]
  congr 1
  unfold lnAdd; split <;> simp
theorem decAll_lf {l y r : List Nat} {ps : List (List Nat)} {e : List Nat} (he : endsL e) (hn : nb l) (hl : Lnd l y) (h : Ls r ps) : Ls (l ++ (e ++ r)) (l :: ps) ∧ decAll (l ++ (e ++ r)) = lnF y ++ decAll r := by
 have h1 : Ls (l ++ (e ++ r)) (l :: ps) := by
  rcases he with rfl | rfl
  ·exact .lf hn h
  ·exact .crlf hn h
 refine ⟨h1, ?_⟩
 rw [decAll_eq h1, decAll_eq h, List.map_cons, List.foldl_cons, foldl_pre, lnAdd_eq hl]; rfl
theorem ls_last {l : List Nat} (hn : nb l) : ∃ ps, Ls l ps := by
 by_cases h : l = []
 ·exact ⟨[], h ▸ .nil⟩
 ·exact ⟨_, .last h hn⟩
theorem decAll_last {l y : List Nat} (hn : nb l) (hl : Lnd l y) (h0 : l ≠ []) : decAll l = lnF y := by
 rw [decAll_eq (.last h0 hn), List.map_cons, List.map_nil, List.foldl_cons, List.foldl_nil, lnAdd_eq hl]; rfl
theorem pl_out {s e : List Nat} {t : Tk} (h : plT t) : ∃ c, t.v = [c] ∧ ∀ q, lineOut [10] (t.w s e ++ q) = c :: (if q.isEmpty then [10] else lineOut [10] q) := by
 induction t with
 | ch c => exact ⟨c, rfl, fun q => lineOut_plain _ h.2 q⟩
 | es c =>
  refine el24 (esc_ok h) fun a b e1 e2 e3 e4 => ?_
  refine ⟨c, rfl, fun q => ?_⟩
  show lineOut [10] (esc c ++ q) = _
  rw [e1, ← e4]
  exact lineOut_esc _ e2 e3 q
 | so => exact h.elim
 | ha => exact h.elim
theorem rend_ne {s e : List Nat} {t : Tk} (h : plT t) (x : List Nat) : (t.w s e ++ x).isEmpty = false := by
 refine el22 (pl_signs (s := s) (e := e) h) fun l c e1 _ => ?_
 rw [e1]; simp
theorem lineOut_row {s e : List Nat} (q : List Nat) : ∀ (us : List Tk), rowT us → lineOut [10] (rend s e us ++ q) = val us ++ (if us ≠ [] ∧ q = [] then [10] else lineOut [10] q)
 | [], _ => by simp
 | t :: r, h => by
  have ih := lineOut_row (s := s) (e := e) q r (fun u hu => h u (List.mem_cons_of_mem _ hu))
  refine el12 (pl_out (s := s) (e := e) (h t List.mem_cons_self)) fun c e1 e2 => ?_
  rw [show val (t :: r) = c :: val r from by rw [val, List.flatMap_cons, e1]; rfl]
  show lineOut [10] (t.w s e ++ rend s e r ++ q) = _
  rw [List.append_assoc, e2, List.cons_append]
  congr 1
  induction r with
  | nil => cases q <;> simp
  | cons u r =>
   have : (rend s e (u :: r) ++ q).isEmpty = false := by
    show (u.w s e ++ rend s e r ++ q).isEmpty = false
    rw [List.append_assoc]; exact rend_ne (h u (by simp)) _
   rw [this, if_neg (by decide), ih]; simp
noncomputable def lastB : Bool → List Tk → Bool
 | b, [] => b
 | _, t :: r => lastB t.b r
theorem lastB_snoc : ∀ (us : List Tk) (b : Bool) (t : Tk), lastB b (us ++ [t]) = t.b
 | [], b, t => by cases t <;> rfl
 | u :: r, b, t => lastB_snoc r _ t
theorem snoc_cases {α : Type} (l : List α) : l = [] ∨ ∃ r t, l = r ++ [t] := by
 rcases List.eq_nil_or_concat l with h | ⟨r, t, h⟩
 ·exact .inl h
 ·exact .inr ⟨r, t, by rw [h, List.concat_eq_append]⟩
theorem row_last {s e : List Nat} (us : List Tk) (h : rowT us) (hb : lastB false us = false) : ∀ c, (rend s e us).getLast? = some c → Unicode.isSpace c = false := by
 intro c hc
 rcases snoc_cases us with rfl | ⟨r, t, rfl⟩
 ·simp at hc
 ·refine el23 (pl_signs (s := s) (e := e) (h t (by simp))) fun l d e1 e2 e3 => ?_
  rw [lastB_snoc] at hb
  rw [rend, List.flatMap_append, List.flatMap_singleton, e1, ← List.append_assoc, List.getLast?_concat] at hc
  cases hc
  rw [spc_is c (e2 c (by simp)).1 (e2 c (by simp)).2, e3]; exact hb
theorem Lnd.of {l ws : List Nat} (h : ∀ c, l.getLast? = some c → Unicode.isSpace c = false) (hw : ∀ c ∈ ws, c = 32 ∨ c = 9) : Lnd (l ++ ws) l := ⟨ws, rfl, hw, h⟩
theorem lnF_row {s e : List Nat} (us : List Tk) (h : rowT us) : lnF (rend s e us) = val us ++ [10] := by
 unfold lnF
 induction us with
 | nil => rfl
 | cons t r =>
  have h0 := rend_ne (s := s) (e := e) (h t (by simp)) (rend s e r)
  rw [if_neg (fun q => by rw [show t.w s e ++ rend s e r = [] from q] at h0; contradiction)]
  have := lineOut_row (s := s) (e := e) [] _ h
  simpa using this
theorem cut_row {W : Nat} (z : List Tk) : ∀ (ts : List Tk) (n : Nat) (b : Bool), okT W n b (ts ++ z) → rowT ts ∨ ∃ us t rest, ts = us ++ t :: rest ∧ rowT us ∧ (t = .so ∨ t = .ha ∧ lastB b us = false) ∧ okT W 0 false (rest ++ z)
 | [], _, _, _ => .inl row_nil
 | .so :: r, _, _, h => .inr ⟨[], .so, r, rfl, row_nil, .inl rfl, h.2⟩
 | .ha :: r, _, _, h => .inr ⟨[], .ha, r, rfl, row_nil, .inr ⟨rfl, h.1⟩, h.2⟩
 | .ch c :: r, n, b, h => (cut_row z r _ _ h.2.2).imp (fun h1 => List.forall_mem_cons.mpr ⟨h.1, h1⟩) fun ⟨us, t, rest, e, h1, h2⟩ => ⟨.ch c :: us, t, rest, by rw [e]; rfl, List.forall_mem_cons.mpr ⟨h.1, h1⟩, h2⟩
 | .es c :: r, n, b, h => (cut_row z r _ _ h.2.2).imp (fun h1 => List.forall_mem_cons.mpr ⟨h.1, h1⟩) fun ⟨us, t, rest, e, h1, h2⟩ => ⟨.es c :: us, t, rest, by rw [e]; rfl, List.forall_mem_cons.mpr ⟨h.1, h1⟩, h2⟩
theorem ha_last {W : Nat} {r : List Tk} : ∀ (us : List Tk) (n : Nat) (b : Bool), rowT us → okT W n b (us ++ .ha :: r) → lastB b us = false
 | [], _, _, _, h => h.1
 | .ch _ :: us, _, _, hu, h => ha_last us _ _ (fun t ht => hu t (List.mem_cons_of_mem _ ht)) h.2.2
 | .es _ :: us, _, _, hu, h => ha_last us _ _ (fun t ht => hu t (List.mem_cons_of_mem _ ht)) h.2.2
 | .so :: _, _, _, hu, _ => (hu .so (by simp)).elim
 | .ha :: _, _, _, hu, _ => (hu .ha (by simp)).elim
noncomputable abbrev rendP (pad e : List Nat) (ts : List Tk) : List Nat := rend (61 :: (pad ++ e)) (pad ++ e) ts
theorem dec_line {e pad : List Nat} (hp : ∀ c ∈ pad, c = 32 ∨ c = 9) {us : List Tk} {t : Tk} (hu : rowT us) (ht : t = .so ∨ t = .ha ∧ lastB false us = false) :
  ∃ l y, (∀ r, rendP pad e us ++ (t.w (61 :: (pad ++ e)) (pad ++ e) ++ r) = l ++ (e ++ r)) ∧ nb l ∧ Lnd l y ∧ lnF y = val us ++ t.v := by
 have hpn : nb pad := fun c hc => by rcases hp c hc with rfl | rfl <;> decide +kernel
 rcases ht with rfl | ⟨rfl, hb⟩
 ·refine ⟨rendP pad e us ++ [61] ++ pad, rendP pad e us ++ [61], fun r => by simp [Tk.w], nb_append (nb_append (row_nb hu) (fun c hc => by rw [List.mem_singleton.mp hc]; decide +kernel)) hpn,
   Lnd.of (fun c hc => by rw [List.getLast?_concat] at hc; obtain rfl := Option.some.inj hc; decide +kernel) hp, ?_⟩
  unfold lnF
  rw [if_neg (by simp), lineOut_row _ _ hu, if_neg (by simp), lineOut_soft]
  rfl
 ·exact ⟨rendP pad e us ++ pad, rendP pad e us, fun r => by simp [Tk.w], nb_append (row_nb hu) hpn, Lnd.of (row_last us hu hb) hp, lnF_row us hu⟩
theorem dec_toks {W : Nat} {e pad : List Nat} (he : endsL e) (hp : ∀ c ∈ pad, c = 32 ∨ c = 9) (q : List Nat) (hq : ∀ us, rowT us → ∃ ps, Ls (rendP pad e us ++ q) ps) (z : List Tk) : ∀ (m : Nat) (ts : List Tk), ts.length ≤ m → okT W 0 false (ts ++ z) →
  ∃ v seg pre, val ts = v ++ val seg ∧ rowT seg ∧ ts = pre ++ seg ∧ okT W 0 false (seg ++ z) ∧ (∃ ps, Ls (rendP pad e ts ++ q) ps) ∧ decAll (rendP pad e ts ++ q) = v ++ decAll (rendP pad e seg ++ q) ∧ (seg = [] → ts = [] ∨ (rendP pad e ts).getLast? = some 10)
 | 0, ts, hm, h => by
  have : ts = [] := List.eq_nil_of_length_eq_zero (by exact (Nat.le_antisymm hm (nl0 [_] (.num 0) vr0 rfl)))
  subst this
  exact ⟨[], [], [], rfl, row_nil, rfl, h, hq [] row_nil, rfl, fun _ => .inl rfl⟩
 | m + 1, ts, hm, h => by
  rcases cut_row z ts 0 false h with hr | ⟨us, t, rest, rfl, hu, ht, hrest⟩
  ·exact ⟨[], ts, [], rfl, hr, rfl, h, hq ts hr, rfl, .inl⟩
  ·obtain ⟨v, seg, pre, h1, h2, rfl, h3, ⟨ps, h4⟩, h5, h6⟩ := dec_toks he hp q hq z m rest (by simp at hm; exact nl1 [_, _, _] (.add vr0 (.add vr1 (.num 1))) (.add vr2 (.num 1)) vr1 vr2 rfl hm) hrest
   refine el24 (dec_line (e := e) hp hu ht) fun l y k1 k2 k3 k4 => ?_
   have er : ∀ x, rendP pad e (us ++ t :: (pre ++ seg)) ++ x = l ++ (e ++ (rendP pad e (pre ++ seg) ++ x)) := fun x => by rw [← k1]; simp
   refine el02 (decAll_lf he k2 k3 h4) fun g1 g2 => ?_
   refine ⟨val us ++ t.v ++ v, seg, us ++ t :: pre, ?_, h2, by simp, h3, ⟨_, by rw [er]; exact g1⟩, ?_, fun hs => .inr ?_⟩
   ·rw [List.append_assoc, ← h1]; simp
   ·rw [er, g2, h5, k4, List.append_assoc (val us ++ t.v)]
   ·have := er []
    rw [List.append_nil, List.append_nil] at this
    rw [this, List.getLast?_append, List.getLast?_append]
    rcases h6 hs with h6 | h6
    ·rw [h6]; rcases he with rfl | rfl <;> rfl
    ·rw [h6]; rfl
end
section
variable {w : World} {T : Addr → Obj → Prop}
inductive Deed where
 | stays
 | parts
 | turns
noncomputable def deedS : Deed → Str
 | .stays => "stays"
 | .parts => "parts"
 | .turns => "turns"
noncomputable abbrev Sgn := List Nat × Deed
noncomputable def sgnD (p : Sgn) : Dt := .tup [.str (tx p.1), .str (deedS p.2)]
structure HrS where
 words : List (Option (List Nat))
 begun : Option (List Nat)
 within : Bool
noncomputable def hdStep (h : HrS) : Sgn → HrS
 | (_, .parts) => ⟨h.words ++ [h.begun], none, h.within⟩
 | (_, .turns) => ⟨h.words, some (h.begun.getD []), !h.within⟩
 | (x, .stays) => ⟨h.words, some (h.begun.getD [] ++ x), h.within⟩
noncomputable def hdAll (l : List Sgn) : HrS := l.foldl hdStep ⟨[], none, false⟩
noncomputable def oD : Option (List Nat) → Dt
 | none => .none
 | some l => .str (tx l)
noncomputable def oA (o : Option (List Nat)) : AV := ofD (oD o)
noncomputable def heardD (l : List Sgn) : Dt :=
 if (hdAll l).within then .none else .list (((hdAll l).words ++ (match (hdAll l).begun with | none => [] | some b => [some b])).map oD)
theorem oA_toD (o : Option (List Nat)) : toD1 (oA o) = some (oD o) := by cases o <;> rfl
theorem toDs_oA : ∀ (l : List (Option (List Nat))), toDs (l.map oA) = some (l.map oD)
 | [] => rfl
 | o :: r => by
  show (match toD1 (oA o), toDs (r.map oA) with | some d, some ds => some (d :: ds) | _, _ => none) = _
  rw [oA_toD, toDs_oA r]; rfl
structure HeardOk (l : List Sgn) : Prop where
 len : l.length + 2 ≤ sizeLine
 begun : ∀ i b, (hdAll (l.take i)).begun = some b → b.length ≤ sizeLine
noncomputable def stH (l : List Sgn) (h : HrS) (a b : Option AV) : Sy :=
 ⟨[("signs", some (.dat (.list (l.map sgnD)))), ("words", some (.own 0)), ("begun", some (oA h.begun)), ("within", some (.bool h.within)), ("sign", a), ("deed", b)], [.list (h.words.map oA)]⟩
theorem words_len (l : List Sgn) : ∀ h : HrS, (l.foldl hdStep h).words.length ≤ h.words.length + l.length := by
 induction l with
 | nil => intro h; simp
 | cons p r ih =>
  intro h
  have := ih (hdStep h p)
  obtain ⟨x, d⟩ := p
  cases d <;> simp [hdStep] at this ⊢ <;> (first | exact nl1 [_, _, _] vr0 (.add vr1 vr2) vr0 (.add vr1 (.add vr2 (.num 1))) rfl this | exact nl1 [_, _, _] vr0 (.add (.add vr1 (.num 1)) vr2) vr0 (.add vr1 (.add vr2 (.num 1))) rfl this | lia)
theorem heard_ok (hT : TopOk w T gl) (hfn : FnIs T 876 (fnAt 75) .none) {l : List Sgn} (hl : HeardOk l) : FnOk w T 1 876 [.list (l.map sgnD)] (heardD l) := by
 refine fnI hT hfn (names := ["signs"]) (rest := ["words", "begun", "within", "sign", "deed"]) (avs := [.dat (.list (l.map sgnD))]) (by kernel_rfl) rfl ?_ ?_
 ·exact fun _ _ _ _ _ _ _ _ _ _ _ _ hv => bind1 hv fun _ => by kernel_rfl
 ·intro A C E _ hF _
  refine (run_ok hF 20).xs ?_
  walk_at "vgo"
  refine for_ok' hF 20 (fun i S => ∃ a b, S = stH l (hdAll (l.take i)) a b) ((l.map sgnD).map ofD) (S₀ := stH l ⟨[], none, false⟩ none none) (fun _ => rfl) ?_ ⟨none, none, rfl⟩ ?_ ?_
  ·walk_at "vgo"
   exact ⟨rfl, rfl⟩
  ·rintro C' E' i a S hF' ha ⟨a1, b1, rfl⟩
   obtain ⟨p, hp, rfl⟩ : ∃ p, l[i]? = some p ∧ a = .dat (sgnD p) := by
    rw [List.map_map, List.getElem?_map] at ha
    refine el12 (Option.map_eq_some_iff.mp ha) fun p h1 h2 => ?_
    exact ⟨p, h1, h2.symm⟩
   have hnext : hdAll (l.take (i + 1)) = hdStep (hdAll (l.take i)) p := by
    unfold hdAll
    rw [List.take_add_one, hp]; simp
   have hb := hl.begun i
   have hb2 := hl.begun (i + 1)
   have hw := words_len (l.take i) ⟨[], none, false⟩
   change (hdAll (l.take i)).words.length ≤ _ at hw
   have hlen := hl.len
   have hil : (l.take i).length ≤ l.length := by simp; exact (Nat.min_le_right _ _)
   rw [hnext] at hb2
   show stT _ _ _ _ (fun S₁ => (run _ _).xs _ _ (LpQ (fun S => ∃ a b, S = stH l (hdAll (l.take (i + 1))) a b) _))
   rw [hnext]
   generalize hdAll (l.take i) = hd at *
   obtain ⟨ws, bg, wi⟩ := hd
   obtain ⟨x, d⟩ := p
   induction d with
   | parts =>
    have fin : ∀ S, S = stH l ⟨ws ++ [bg], none, wi⟩ (some (.str (tx x))) (some (.str (deedS .parts))) → Leaf (∃ a b, S = stH l (hdStep ⟨ws, bg, wi⟩ (x, Deed.parts)) a b) := fun S e => ⟨⟨_, _, e⟩⟩
    induction bg with
    | none =>
     walk_at "vgo"
     refine l_append (k := 0) (a := .none) (xs := ws.map oA) ?_ ?_ ?_
     ·rfl
     ·simp at hw ⊢; exact nl3 [_, _, _, _] vr0 vr1 vr1 vr2 (.add vr2 (.num 2)) vr3 vr0 vr3 rfl hw (Nat.min_le_right _ _) hlen
     walk_at "vgo"
     refine fin _ ?_
     unfold stH
     rw [List.map_append]
     rfl
    | some b =>
     walk_at "vgo"
     refine l_append (k := 0) (a := .str (tx b)) (xs := ws.map oA) ?_ ?_ ?_
     ·rfl
     ·simp at hw ⊢; exact nl3 [_, _, _, _] vr0 vr1 vr1 vr2 (.add vr2 (.num 2)) vr3 vr0 vr3 rfl hw (Nat.min_le_right _ _) hlen
     walk_at "vgo"
     refine fin _ ?_
     unfold stH
     rw [List.map_append]
     rfl
   | turns =>
    induction bg with
    | none =>
     walk_at "vgo"
     refine ⟨⟨some (.str (tx x)), some (.str (deedS .turns)), ?_⟩⟩
     show _ = stH l ⟨ws, some [], !wi⟩ _ _
     rfl
    | some b =>
     have hbb := hb b rfl
     walk_at "vgo"
     ·rw [txl]; exact hbb
     ·refine ⟨⟨some (.str (tx x)), some (.str (deedS .turns)), ?_⟩⟩
      show _ = stH l ⟨ws, some b, !wi⟩ _ _
      rfl
     ·refine ⟨⟨some (.str (tx x)), some (.str (deedS .turns)), ?_⟩⟩
      have : b = [] := by simpa [txl] using hc
      subst this
      show _ = stH l ⟨ws, some [], !wi⟩ _ _
      rfl
   | stays =>
    have hb3 := hb2 _ rfl
    simp at hb3
    induction bg with
    | none =>
     walk_at "vgo"
     ·simp only [txl]; show 0 + _ ≤ _; simpa using hb3
     ·refine ⟨⟨some (.str (tx x)), some (.str (deedS .stays)), ?_⟩⟩
      show _ = stH l ⟨ws, some ([] ++ x), wi⟩ _ _
      have e : tx ([] ++ x) = tx [] ++ tx x := (txa [] x).symm
      unfold stH oA oD ofD
      dsimp only
      rw [e]
      rfl
    | some b =>
     have hbb := hb b rfl
     walk_at "vgo"
     ·rw [txl]; exact hbb
     ·simp only [txl]; simpa using hb3
     ·refine ⟨⟨some (.str (tx x)), some (.str (deedS .stays)), ?_⟩⟩
      show _ = stH l ⟨ws, some (b ++ x), wi⟩ _ _
      unfold stH oA oD ofD
      dsimp only
      rw [← txa]
     ·have : b = [] := by simpa [txl] using hc
      subst this
      simp only [txl]; show 0 + _ ≤ _; simpa using hb3
     ·refine ⟨⟨some (.str (tx x)), some (.str (deedS .stays)), ?_⟩⟩
      have : b = [] := by simpa [txl] using hc
      subst this
      show _ = stH l ⟨ws, some ([] ++ x), wi⟩ _ _
      have e : tx ([] ++ x) = tx [] ++ tx x := (txa [] x).symm
      unfold stH oA oD ofD
      dsimp only
      rw [e]
      rfl
  ·rintro E' S hF' ⟨a1, b1, rfl⟩
   rw [show ((List.map ofD (List.map sgnD l)).length) = l.length by simp, List.take_length]
   have hw := words_len l ⟨[], none, false⟩
   change (hdAll l).words.length ≤ _ at hw
   have hlen := hl.len
   unfold heardD
   generalize hdAll l = hd at *
   obtain ⟨ws, bg, wi⟩ := hd
   have hown : toD (stH l ⟨ws, bg, wi⟩ a1 b1).own (.own 0) = some (.list (ws.map oD)) := by
    show (match toDs (ws.map oA) with | some ds => some (Dt.list ds) | none => none) = _
    rw [toDs_oA]
   induction wi with
   | true => walk_at "vgo"; rfl
   | false =>
    induction bg with
    | none =>
     walk_at "vgo"
     simp only [List.append_nil]
     exact hown
    | some b =>
     walk_at "vgo"
     ·show 1 ≤ sizeLine; rw [sizeLine_eq]; exact nl0 [] (.num 1) (.num 16777216) rfl
     ·refine l_addL hown rfl (by simp at hw ⊢; exact nl2 [_, _, _] vr0 vr1 (.add vr1 (.num 2)) vr2 (.add vr0 (.num 1)) vr2 rfl hw hlen) ?_
      walk_at "vgo"
      show some (Dt.list _) = _
      simp [oD]
end
section
set_option tactic.hygienic true
variable {w : World} {T : Addr → Obj → Prop}
theorem isPart_none : IsPart .none none := by first | rfl | exact .none | constructor
theorem isPart_int (i : Int) (t : Tok) : IsPart (.int i t) (some i) := by first | rfl | constructor
theorem l_slice_upto {F : Fx} {S : Sy} {Q : AV → Sy → Prop} {ds : List Dt} {k : Int} (h0 : 0 ≤ k) (hz : ds.length ≤ sizeLine) (h : Q (.dat (.list (ds.take k.toNat))) S) :
  Leaf (∀ s ρ v lv uv, Rx F.C S.fs S.own ρ s → Is s.heap F.C.bd ρ (.dat (.list ds)) v → IsP none lv → IsP (some k) uv →
   ItemOn (model pr F.w) F.A F.E v (.ref s.heap.objs.size) (Pt F.C Is Q s ρ) { s with heap := s.heap.push { cls := .type "slice", data := .fields #[lv, uv, .none] } }) := by
 refine ⟨?_⟩
 rintro s ρ v lv uv I hv rfl ⟨t, rfl⟩
 cases hv with | list hp hds => ?_
 rename_i ax vs n
 have hl : (s.heap.push { cls := .type "slice", data := .fields #[.none, .int k t, .none] }).IsList ax vs := ⟨_, Heap.get?_push_of_some _ hp.1, rfl, n, rfl⟩
 refine ⟨"list", _, slot_list_getitem.lookup, hl.typeIs, ?_⟩
 refine wpAny_getItem_list_slice (s := { s with heap := s.heap.push { cls := .type "slice", data := .fields #[.none, .int k t, .none] } }) hl ⟨_, Heap.get?_push_size _ rfl, rfl, rfl⟩ isPart_none (isPart_int k t) isPart_none (by simp) ?_ (by have := hds.length; simp at this; lia)
 have ek : k = (k.toNat : Int) := by lia
 have hsp : slicePick vs none (some k) none = (vs.toList.take k.toNat).toArray := by rw [ek]; exact slicePick_upto' vs k.toNat
 rw [hsp]
 intro ht
 have I₁ : Rx F.C S.fs S.own ρ { s with heap := s.heap.push { cls := .type "slice", data := .fields #[.none, .int k t, .none] } } := I.keeps (fun _ _ e => Heap.get?_push_of_some _ e) rfl rfl I.tk
 have := Pg.newDat (k := s.toks) (n := 0) (T := "list") (vs := (vs.toList.take k.toNat).toArray) (d := .list (ds.take k.toNat)) I₁ (fun h' e hk hb hr => .list ⟨e, hb, hr⟩ (by
  have := hds.take k.toNat
  simpa using this.mono fun c o y => ⟨hk _ _ (Heap.get?_push_of_some _ y.1), y.2⟩)) h ht
 exact Pg.ext (Ext.keeps fun b o _ _ e => Heap.get?_push_of_some _ e) this
end
section
variable {w : World} {T : Addr → Obj → Prop}
noncomputable def arrP1 (x : Str) : Str := if seq (Txt.slice x (some (-1)) none) (Str.ofString "\r") then x ++ Str.ofString "\n" else x
noncomputable def arrP (x y : Str) : Str := Txt.replace (Txt.replace (arrP1 x) y (Str.ofString "\n")) (Str.ofString "=\n") (Str.ofString "")
noncomputable def arrQ (p : Str) : Str := if seq (Txt.slice p (some (-1)) none) (Str.ofString "=") then Txt.slice p none (some (-1)) else if seq (Txt.slice p (some (-2)) (some (-1))) (Str.ofString "=") then Txt.slice p none (some (-2)) else p
noncomputable def arrR (p : Str) : List Sgn := if seq (Txt.slice p (some (-1)) none) (Str.ofString "=") then [] else if seq (Txt.slice p (some (-2)) (some (-1))) (Str.ofString "=") then [((Txt.slice p (some (-2)) none).cps.toList, .stays)] else []
noncomputable def arrN (p : Str) : Int := (p.length : Int) - 2 * Txt.count p (Str.ofString "=")
noncomputable def arr (x y : Str) (l : List Sgn) : List Sgn := l.take (arrN (arrQ (arrP x y))).toNat ++ arrR (arrP x y)
structure ArrOk (x y : Str) (l : List Sgn) (t : Tok) (k : Nat) : Prop where
 lx : x.length ≤ 100000
 l1 : (Txt.replace (arrP1 x) y (Str.ofString "\n")).length ≤ 100000
 l2 : (arrP x y).length ≤ 100000
 l3 : (arrQ (arrP x y)).length ≤ 100000
 cnt : Txt.count (arrQ (arrP x y)) (Str.ofString "=") ≤ 100000
 pos : 0 ≤ arrN (arrQ (arrP x y))
 ll : l.length ≤ 100000
 tok : 0 < t ∧ t < k
 heard : HeardOk (arr x y l)
noncomputable def stArr (p y : Str) (t : Tok) (l : List Sgn) (r : Option AV) (own : List AO) : Sy := ⟨[("part", some (.str p)), ("end", some (.strk y t)), ("signs", some (.dat (.list (l.map sgnD)))), ("rest", r)], own⟩
theorem arrived_ok (hT : TopOk w T gl) (hh : FnIs T 876 (fnAt 75) .none) (hfn : FnIs T 883 (fnAt 76) .none) {x y : Str} {l : List Sgn} {t : Tok} {k : Nat} (hx : ArrOk x y l t k) : FnOkK k w T 2 883 [.str x, .strk y t, .list (l.map sgnD)] (heardD (arr x y l)) := by
 refine fnI hT hfn (names := ["part", "end", "signs"]) (rest := ["rest"]) (avs := [.str x, .strk y t, .dat (.list (l.map sgnD))]) (by kernel_rfl) rfl ?_ ?_
 ·exact fun _ _ _ _ _ _ _ _ _ _ _ _ hv => bind3 hv fun _ _ _ => by kernel_rfl
 ·intro A C E hk0 hF _
  have hsl : 1000000 ≤ sizeLine := by rw [sizeLine_eq]; exact nl0 [] (.num 1000000) (.num 16777216) rfl
  have hH := heard_ok hT hh hx.heard
  have h1 := hx.lx
  have hp1 : (arrP1 x).length ≤ 100001 := by
   unfold arrP1
   split
   ·rw [PySem.Str.length_append]; show _ + 1 ≤ _; exact nl1 [_] vr0 (.num 100000) (.add vr0 (.num 1)) (.num 100001) rfl h1
   ·exact nl1 [_] vr0 (.num 100000) vr0 (.num 100001) rfl h1
  have hl1 := hx.l1
  have hl2 := hx.l2
  have hl3 := hx.l3
  have hcnt := hx.cnt
  have hpos := hx.pos
  have hll := hx.ll
  have htok : 0 < t ∧ t < C.t0 := ⟨hx.tok.1, Nat.lt_of_lt_of_le hx.tok.2 hk0⟩
  clear hx
  have hpe : arrP x y = Txt.replace (Txt.replace (arrP1 x) y (Str.ofString "\n")) (Str.ofString "=\n") (Str.ofString "") := rfl
  have tail : ∀ (p : Str), p = arrP x y → SemSs ⟨w, A, C, E, (fnAt 76).2.2, gl, T, 1⟩ ((fnAt 76).2.1.drop 2) (stArr p y t l none []) (RetD (heardD (arr x y l))) := by
   intro p hp
   refine (run_ok (F := ⟨w, A, C, E, (fnAt 76).2.2, gl, T, 1⟩) hF 28).xs ?_
   have harr : arr x y l = l.take (arrN (arrQ p)).toNat ++ arrR p := by rw [hp]; rfl
   rw [harr] at hH ⊢
   rw [← hp] at hl2 hl3 hcnt hpos
   clear hp hpe harr hl1
   obtain ⟨b1, hb1⟩ : ∃ b, seq (Txt.slice p (some (-1)) none) (Str.ofString "=") = b := ⟨_, rfl⟩
   obtain ⟨b2, hb2⟩ : ∃ b, seq (Txt.slice p (some (-2)) (some (-1))) (Str.ofString "=") = b := ⟨_, rfl⟩
   have hmul : ∀ z : Int, IntMulOk 2 z := fun z => IntMulOk.of_left (by decide +kernel)
   have hlT : (l.map sgnD).length ≤ sizeLine := by rw [List.length_map]; exact nl2 [_, _] vr0 (.num 100000) (.num 1000000) vr1 vr0 vr1 rfl hll hsl
   have htk : ∀ n, (l.map sgnD).take n = (l.take n).map sgnD := fun n => List.map_take.symm
   induction b1 with
   | true =>
    have hq : arrQ p = Txt.slice p none (some (-1)) := by unfold arrQ; rw [if_pos hb1]
    have hr : arrR p = [] := by unfold arrR; rw [if_pos hb1]
    rw [hq] at hpos hl3 hcnt
    rw [hq, hr, List.append_nil] at hH ⊢
    walk_at "vgo"
    all_goals try first | (first | exact nl2 [_, _] vr0 (.num 100000) (.num 1000000) vr1 vr0 vr1 rfl hl2 hsl | exact nl2 [_, _] vr0 (.num 100000) (.num 1000000) vr1 vr0 vr1 rfl hl3 hsl | lia) | exact fn_okF hF hH
    refine l_count ?_
    walk_at "vgo"
    all_goals try first | lia | exact hmul _
    refine l_slice_upto hpos hlT ?_
    walk_at "vgo"
    refine l_addL (ds := ((l.map sgnD).take (arrN (Txt.slice p none (some (-1)))).toNat)) (es := []) rfl rfl (by simp; exact nl3 [_, _, _] vr0 vr1 vr1 (.num 100000) (.num 1000000) vr2 vr0 vr2 rfl (Nat.min_le_right _ _) hll hsl) ?_
    walk_at "vgo"
    refine ⟨fn_call hF hH (Nat.le_refl _) ?_ ?_⟩
    ·show some [Dt.list _] = _
     rw [htk, List.append_nil]
    ·walk_at "vgo"
     cases heardD (List.take (arrN (Txt.slice p none (some (-1)))).toNat l) <;> rfl
   | false =>
    induction b2 with
    | true =>
     have hq : arrQ p = Txt.slice p none (some (-2)) := by unfold arrQ; rw [if_neg (by rw [hb1]; decide), if_pos hb2]
     have hr : arrR p = [((Txt.slice p (some (-2)) none).cps.toList, .stays)] := by unfold arrR; rw [if_neg (by rw [hb1]; decide), if_pos hb2]
     rw [hq] at hpos hl3 hcnt
     rw [hq, hr] at hH ⊢
     walk_at "vgo"
     all_goals try first | (first | exact nl2 [_, _] vr0 (.num 100000) (.num 1000000) vr1 vr0 vr1 rfl hl2 hsl | exact nl1 [_] (.num 1000000) vr0 (.add (.add (.num 0) (.num 1)) (.num 1)) vr0 rfl hsl | exact nl1 [_] (.num 1000000) vr0 (.add (.num 0) (.num 1)) vr0 rfl hsl | exact nl2 [_, _] vr0 (.num 100000) (.num 1000000) vr1 vr0 vr1 rfl hl3 hsl | lia) | exact fn_okF hF hH | (show 1 ≤ _; exact nl1 [_] (.num 1000000) vr0 (.num 1) vr0 rfl hsl) | (show 2 ≤ _; exact nl1 [_] (.num 1000000) vr0 (.num 2) vr0 rfl hsl)
     refine l_count ?_
     walk_at "vgo"
     all_goals try first | lia | exact hmul _
     refine l_slice_upto hpos hlT ?_
     walk_at "vgo"
     refine l_addL (ds := ((l.map sgnD).take (arrN (Txt.slice p none (some (-2)))).toNat)) (es := [.tup [.str (Txt.slice p (some (-2)) none), .str (Str.ofString "stays")]]) rfl rfl (by simp; exact nl3 [_, _, _] (.num 1000000) vr0 vr1 vr2 vr2 (.num 100000) (.add vr1 (.num 1)) vr0 rfl hsl (Nat.min_le_right _ _) hll) ?_
     walk_at "vgo"
     refine ⟨fn_call hF hH (Nat.le_refl _) ?_ ?_⟩
     ·show some [Dt.list _] = _
      rw [htk, List.map_append]
      simp only [List.map_cons, List.map_nil, sgnD]
      rw [show tx (Txt.slice p (some (-2)) none).cps.toList = Txt.slice p (some (-2)) none by simp]
      rfl
     ·walk_at "vgo"
      cases heardD (List.take (arrN (Txt.slice p none (some (-2)))).toNat l ++ [((Txt.slice p (some (-2)) none).cps.toList, Deed.stays)]) <;> rfl
    | false =>
     have hq : arrQ p = p := by unfold arrQ; rw [if_neg (by rw [hb1]; decide), if_neg (by rw [hb2]; decide)]
     have hr : arrR p = [] := by unfold arrR; rw [if_neg (by rw [hb1]; decide), if_neg (by rw [hb2]; decide)]
     rw [hq] at hpos hl3 hcnt
     rw [hq, hr, List.append_nil] at hH ⊢
     walk_at "vgo"
     all_goals try first | (first | exact nl2 [_, _] vr0 (.num 100000) (.num 1000000) vr1 vr0 vr1 rfl hl3 hsl | lia) | exact fn_okF hF hH
     refine l_count ?_
     walk_at "vgo"
     all_goals try first | lia | exact hmul _
     refine l_slice_upto hpos hlT ?_
     walk_at "vgo"
     refine l_addL (ds := ((l.map sgnD).take (arrN p).toNat)) (es := []) rfl rfl (by simp; exact nl3 [_, _, _] vr0 vr1 vr1 (.num 100000) (.num 1000000) vr2 vr0 vr2 rfl (Nat.min_le_right _ _) hll hsl) ?_
     walk_at "vgo"
     refine ⟨fn_call hF hH (Nat.le_refl _) ?_ ?_⟩
     ·show some [Dt.list _] = _
      rw [htk, List.append_nil]
     ·walk_at "vgo"
      cases heardD (List.take (arrN p).toNat l) <;> rfl
  have hsz : ∀ (n : Nat), n ≤ 100001 → n + (n + 1) * (Str.ofString "\n").length ≤ 16777216 := fun n hn => by show n + (n + 1) * 1 ≤ _; exact nl2 [_] vr0 (.num 100001) vr0 (.num 100001) (.add vr0 (.mulR (.add vr0 (.num 1)) 1)) (.num 16777216) rfl hn hn
  have hsz2 : ∀ (n : Nat), n ≤ 100001 → n + (n + 1) * (Str.ofString "").length ≤ 16777216 := fun n hn => by show n + (n + 1) * 0 ≤ _; exact nl1 [_] vr0 (.num 100001) (.add vr0 (.mulR (.add vr0 (.num 1)) 0)) (.num 16777216) rfl hn
  refine sem_cut (t := ((fnAt 76).2.1[0]?).getD (Stmt.Pass ⟨0, 0, 0, 0⟩)) (rest := (fnAt 76).2.1.drop 1) hF 28 (fun S₁ => S₁ = stArr (arrP1 x) y t l none []) ?_ ?_
  ·cases hb : seq (Txt.slice x (some (-1)) none) (Str.ofString "\r") with
   | true =>
    have hpx : arrP1 x = x ++ Str.ofString "\n" := by unfold arrP1; rw [if_pos hb]
    walk_at "vgo"
    ·exact nl2 [_, _] vr0 (.num 100000) (.num 1000000) vr1 vr0 vr1 rfl h1 hsl
    ·show _ + 1 ≤ _; exact nl2 [_, _] vr0 (.num 100000) (.num 1000000) vr1 (.add vr0 (.num 1)) vr1 rfl h1 hsl
    ·exact ⟨by rw [hpx]; rfl⟩
   | false =>
    have hpx : arrP1 x = x := by unfold arrP1; rw [if_neg (by rw [hb]; decide)]
    walk_at "vgo"
    ·exact nl2 [_, _] vr0 (.num 100000) (.num 1000000) vr1 vr0 vr1 rfl h1 hsl
    ·exact ⟨by rw [hpx]; rfl⟩
  ·rintro S₁ rfl
   refine sem_cut (t := ((fnAt 76).2.1[1]?).getD (Stmt.Pass ⟨0, 0, 0, 0⟩)) (rest := (fnAt 76).2.1.drop 2) hF 28 (fun S₁ => S₁ = stArr (arrP x y) y t l none []) ?_ ?_
   ·walk_at "vgo"
    ·exact htok
    ·exact hsz _ hp1
    ·exact hsz2 _ (Nat.le_succ_of_le hl1)
    ·exact ⟨rfl⟩
   ·rintro S₁ rfl
    exact tail _ rfl
end
section
open PySem.Builtin PySem.Builtin.Str PySem.StrLaws
noncomputable def wsp (ws : List Nat) : Prop := ∀ c ∈ ws, c = 32 ∨ c = 9 ∨ c = 10
theorem val_append (a b : List Tk) : val (a ++ b) = val a ++ val b := List.flatMap_append
theorem rend_append (s e : List Nat) (a b : List Tk) : rend s e (a ++ b) = rend s e a ++ rend s e b := List.flatMap_append
theorem nb61 : nb [61] := fun c hc => by rw [List.mem_singleton.mp hc]; decide +kernel
theorem wsp_nil : wsp [] := fun _ h => nomatch h
theorem okT_drop {W : Nat} {z : List Tk} : ∀ (ts : List Tk) {n : Nat} {b : Bool}, okT W n b (ts ++ z) → ∃ n' b', okT W n' b' z
 | [], n, b, h => ⟨n, b, h⟩
 | .ch _ :: ts, _, _, h => okT_drop ts h.2.2
 | .es _ :: ts, _, _, h => okT_drop ts h.2.2
 | .so :: ts, _, _, h => okT_drop ts h.2
 | .ha :: ts, _, _, h => okT_drop ts h.2
inductive Cut (e : List Nat) (z : List Tk) : List Nat → Prop
 | none : Cut e z []
 | eq : Cut e z [61]
 | hex {a} : a ∈ hexs → Cut e z [61, a]
 | so {r} : e = [13, 10] → z = .so :: r → Cut e z [61, 13]
 | ha {r} : e = [13, 10] → z = .ha :: r → Cut e z [13]
theorem cut_tok {e : List Nat} (he : endsL e) {t : Tk} {r : List Tk} {q l : List Nat} (ht : ∀ c, t = .es c → c < 256) (hq : q ≠ []) (hl : l ≠ []) (h : t.w (61 :: e) e = q ++ l) : Cut e (t :: r) q := by
 obtain ⟨x, q, rfl⟩ := List.exists_cons_of_ne_nil hq
 obtain ⟨y, l, rfl⟩ := List.exists_cons_of_ne_nil hl
 have two : ∀ {a b : Nat}, [a, b] = x :: q ++ y :: l → x :: q = [a] := fun {a b} h => by
  cases q with
  | nil => cases h; rfl
  | cons _ q => cases q <;> cases h
 have three : ∀ {a b c : Nat}, [a, b, c] = x :: q ++ y :: l → x :: q = [a] ∨ x :: q = [a, b] := fun {a b c} h => by
  cases q with
  | nil => cases h; exact .inl rfl
  | cons _ q => cases q with
   | nil => cases h; exact .inr rfl
   | cons _ q => cases q <;> cases h
 cases t with
 | ch c =>
  exfalso
  have := congrArg List.length h
  simp [Tk.w] at this
 | es c =>
  obtain ⟨a, b, e1, e2, _⟩ := esc_ok (ht c rfl)
  change esc c = _ at h
  rw [e1] at h
  rcases three h with h | h
  ·rw [h]; exact .eq
  ·rw [h]; exact .hex e2
 | so =>
  rcases he with rfl | rfl
  ·rw [two h]; exact .eq
  ·rcases three h with h | h
   ·rw [h]; exact .eq
   ·rw [h]; exact .so rfl rfl
 | ha =>
  rcases he with rfl | rfl
  ·exfalso
   have := congrArg List.length h
   simp [Tk.w] at this
  ·rw [two h]; exact .ha rfl rfl
theorem take_toks {W : Nat} {e : List Nat} (he : endsL e) : ∀ (ts : List Tk) (n : Nat) (b : Bool) (k : Nat), okT W n b ts → ∃ t1 t2 q, ts = t1 ++ t2 ∧ (rend (61 :: e) e ts).take k = rend (61 :: e) e t1 ++ q ∧ Cut e t2 q
 | [], _, _, k, _ => ⟨[], [], [], rfl, by simp, .none⟩
 | t :: ts, n, b, k, hok => by
  have hok' : (∃ n b, okT W n b ts) ∧ ∀ c, t = .es c → c < 256 := by
   refine ⟨okT_drop [t] hok, fun c hc => ?_⟩
   subst hc; exact hok.1
  by_cases h : (t.w (61 :: e) e).length ≤ k
  ·obtain ⟨⟨n', b', hr⟩, _⟩ := hok'
   refine el33 (take_toks he ts n' b' (k - (t.w (61 :: e) e).length) hr) fun t1 t2 q h1 h2 h3 => ?_
   refine ⟨t :: t1, t2, q, by rw [h1]; rfl, ?_, h3⟩
   show (t.w (61 :: e) e ++ rend (61 :: e) e ts).take k = t.w (61 :: e) e ++ rend (61 :: e) e t1 ++ q
   rw [List.take_append, List.take_of_length_le h, h2, List.append_assoc]
  ·refine ⟨[], t :: ts, (t.w (61 :: e) e).take k, rfl, ?_, ?_⟩
   ·show (t.w (61 :: e) e ++ rend (61 :: e) e ts).take k = _
    rw [List.take_append_of_le_length (by exact nl1 [_, _] (.add vr0 (.num 1)) vr1 vr0 vr1 rfl (Nat.lt_of_not_le h))]; rfl
   ·by_cases h0 : k = 0
    ·rw [h0]; exact .none
    ·exact cut_tok he hok'.2 (fun q => by have := congrArg List.length q; rw [List.length_take, List.length_nil] at this; exact (Nat.not_succ_le_zero 0 (nl3 [_, _] (.num 1) vr0 vr0 vr1 vr1 (.num 0) (.num 1) (.num 0) rfl (Nat.pos_of_ne_zero h0) (Nat.le_of_eq (Nat.min_eq_left (nl1 [_, _] (.add vr0 (.num 1)) vr1 vr0 vr1 rfl (Nat.lt_of_not_le h))).symm) (Nat.le_of_eq this))).elim) (fun q => by have := congrArg List.length q; rw [List.length_drop, List.length_nil] at this; exact (Nat.not_succ_le_zero 0 (nl3 [_, _, _] (.add vr0 (.num 1)) vr1 vr1 (.add vr2 vr0) vr2 (.num 0) (.num 1) (.num 0) rfl (Nat.lt_of_not_le h) (Nl.sb _ _) (Nat.le_of_eq this))).elim) (List.take_append_drop ..).symm
theorem decF_brk {x d : List Nat} (h : x.getLast? = some 10 ∨ x.getLast? = some 13) (hd : decAll x = d) : decF x = d := by
 unfold decF
 rw [if_neg (by cases x <;> simp at h ⊢), if_neg (fun q => by rw [decide_eq_true h] at q; cases q.1), hd]
theorem decF_no {x d : List Nat} (h : x.getLast? ≠ some 10 ∧ x.getLast? ≠ some 13) (h0 : x ≠ []) (hd : decAll x = d) : decF x = if d.getLast? = some 10 then d.dropLast else d := by
 unfold decF
 rw [hd, if_neg (by cases x <;> simp at h0 ⊢), decide_eq_false (fun q => q.elim h.1 h.2)]
 simp
theorem strip_row : ∀ (m : Nat) (seg : List Tk), seg.length ≤ m → rowT seg → ∃ us bl, seg = us ++ bl.map Tk.ch ∧ (∀ c ∈ bl, c = 32 ∨ c = 9) ∧ lastB false us = false ∧ (lastB false seg = false → bl = [])
 | 0, seg, hm, _ => by
  have : seg = [] := List.eq_nil_of_length_eq_zero (by exact (Nat.le_antisymm hm (nl0 [_] (.num 0) vr0 rfl)))
  subst this
  exact ⟨[], [], rfl, fun _ h => (nomatch h), rfl, fun _ => rfl⟩
 | m + 1, seg, hm, h => by
  by_cases hb : lastB false seg = false
  ·exact ⟨seg, [], by simp, fun _ h => (nomatch h), hb, fun _ => rfl⟩
  ·rcases snoc_cases seg with rfl | ⟨r, t, rfl⟩
   ·exact absurd rfl hb
   ·obtain ⟨us, bl, h1, h2, h3, _⟩ := strip_row m r (by simp at hm; exact hm) (fun t ht => h t (List.mem_append_left _ ht))
    have hbt := hb
    rw [lastB_snoc] at hbt
    cases t with
    | ch c =>
     refine ⟨us, bl ++ [c], by rw [h1]; simp, fun d hd => ?_, h3, fun q => absurd q hb⟩
     rcases List.mem_append.mp hd with hd | hd
     ·exact h2 d hd
     ·rw [List.mem_singleton.mp hd]
      have : blankC c = true := by simpa [Tk.b] using hbt
      simpa [blankC] using this
    | _ => exact absurd rfl hbt
theorem val_bl (bl : List Nat) : val (bl.map Tk.ch) = bl ∧ ∀ s e, rend s e (bl.map Tk.ch) = bl := by
 induction bl with
 | nil => exact ⟨rfl, fun _ _ => rfl⟩
 | cons c r ih => exact ⟨congrArg (c :: ·) ih.1, fun s e => congrArg (c :: ·) (ih.2 s e)⟩
theorem last_row {s e : List Nat} {seg : List Tk} (h : rowT seg) (h0 : seg ≠ []) (pre : List Nat) : (pre ++ rend s e seg).getLast? ≠ some 10 ∧ (pre ++ rend s e seg).getLast? ≠ some 13 ∧ rend s e seg ≠ [] := by
 rcases snoc_cases seg with rfl | ⟨r, t, rfl⟩
 ·exact absurd rfl h0
 ·refine el23 (pl_signs (s := s) (e := e) (h t (by simp))) fun l d e1 e2 _ => ?_
  have e3 : rend s e (r ++ [t]) = (rend s e r ++ l) ++ [d] := by rw [rend, List.flatMap_append, List.flatMap_singleton, e1, ← List.append_assoc]
  have := (e2 d (by simp)).2
  rw [e3, ← List.append_assoc, List.getLast?_concat]
  refine ⟨fun q => ?_, fun q => ?_, by simp⟩ <;> (injection q with q; (first | exact (Or.elim this (fun hy0 => (Nat.not_succ_le_zero 0 (nl2 [_] (.num 10) vr0 vr0 (.num 9) (.num 1) (.num 0) rfl (Nat.le_of_eq (Eq.symm q)) (Nat.le_of_eq hy0))).elim) fun hy0 => (Nat.not_succ_le_zero 0 (nl2 [_] (.num 32) vr0 vr0 (.num 10) (.num 1) (.num 0) rfl hy0 (Nat.le_of_eq q))).elim) | exact (Or.elim this (fun hy0 => (Nat.not_succ_le_zero 0 (nl2 [_] (.num 13) vr0 vr0 (.num 9) (.num 1) (.num 0) rfl (Nat.le_of_eq (Eq.symm q)) (Nat.le_of_eq hy0))).elim) fun hy0 => (Nat.not_succ_le_zero 0 (nl2 [_] (.num 32) vr0 vr0 (.num 13) (.num 1) (.num 0) rfl hy0 (Nat.le_of_eq q))).elim) | lia))
theorem nil_ch {P : Nat → Prop} : ∀ c ∈ ([] : List Nat), P c := fun _ h => nomatch h
section
variable {W : Nat} {e : List Nat} {ts z : List Tk}
theorem ls_row {e pad : List Nat} {q : List Nat} (hq : nb q) (us : List Tk) (h : rowT us) : ∃ ps, Ls (rendP pad e us ++ q) ps := ls_last (nb_append (row_nb h) hq)
theorem dec_whole {pad : List Nat} (he : endsL e) (hp : ∀ c ∈ pad, c = 32 ∨ c = 9) (h : okT W 0 false (ts ++ z)) :
  ∃ ws, wsp ws ∧ val ts = decF (rendP pad e ts) ++ ws ∧ (∀ r t, ts = r ++ [t] → t.b = false → ws = []) := by
 obtain ⟨v, seg, pre, h1, h2, h3, h4, _, h5, h6⟩ := dec_toks (pad := pad) he hp [] (ls_row nil_ch) z _ ts (Nat.le_refl _) h
 rw [List.append_nil, List.append_nil] at h5
 by_cases h0 : seg = []
 ·subst h0
  rcases h6 rfl with rfl | h6
  ·exact ⟨[], wsp_nil, rfl, fun _ _ _ _ => rfl⟩
  ·refine ⟨[], wsp_nil, ?_, fun _ _ _ _ => rfl⟩
   rw [decF_brk (.inl h6) h5, h1, List.append_nil, show decAll (rendP pad e []) = [] from decAll_eq .nil]; rfl
 ·refine el24 (strip_row _ seg (Nat.le_refl _) h2) fun us bl g1 g2 g3 g4 => ?_
  have hu : rowT us := fun t ht => h2 t (by rw [g1]; exact List.mem_append_left _ ht)
  have hl := last_row (s := 61 :: (pad ++ e)) (e := pad ++ e) h2 h0 (rendP pad e pre)
  have er : rendP pad e ts = rendP pad e pre ++ rendP pad e seg := by rw [h3]; exact rend_append ..
  rw [← er] at hl
  have ed : decAll (rendP pad e seg) = val us ++ [10] := by
   have e1 : rendP pad e seg = rendP pad e us ++ bl := by
    rw [g1]
    exact (rend_append ..).trans (congrArg (_ ++ ·) ((val_bl bl).2 _ _))
   have hL := Lnd.of (row_last (s := 61 :: (pad ++ e)) (e := pad ++ e) us hu g3) g2
   rw [← e1] at hL
   rw [decAll_last (row_nb h2) hL hl.2.2]
   exact lnF_row us hu
  rw [ed, ← List.append_assoc] at h5
  refine ⟨bl, fun c hc => (g2 c hc).imp id .inl, ?_, fun r t hr hb => g4 ?_⟩
  ·rw [decF_no ⟨hl.1, hl.2.1⟩ (fun q => by rw [er] at q; exact hl.2.2 (List.append_eq_nil_iff.mp q).2) h5, List.getLast?_concat, if_pos rfl, List.dropLast_concat, h1, g1]
   rw [val_append, (val_bl bl).1, List.append_assoc]
  ·rcases snoc_cases seg with q | ⟨r', t', q⟩
   ·exact absurd q h0
   ·rw [q, ← List.append_assoc, hr] at h3
    refine el02 (List.append_inj' h3 rfl) fun _ h3 => ?_
    cases h3
    rw [q, lastB_snoc]; exact hb
theorem dec_broken (he : endsL e) (h : okT W 0 false (ts ++ z)) {q y : List Nat} (hq : ∀ us, rowT us → ∃ ps, Ls (rendP [] e us ++ q) ps) (hl : ∀ seg, rowT seg → okT W 0 false (seg ++ z) → decAll (rendP [] e seg ++ q) = val seg ++ y) : decAll (rendP [] e ts ++ q) = val ts ++ y := by
 obtain ⟨v, seg, pre, h1, h2, h3, h4, _, h5, _⟩ := dec_toks (pad := []) he nil_ch q hq z _ ts (Nat.le_refl _) h
 rw [h5, hl seg h2 h4, h1, List.append_assoc]
theorem nb_of {l : List Nat} (h : ∀ c ∈ l, c < 127 ∧ (c = 9 ∨ 32 ≤ c)) : nb l := fun c hc => brk_no c (h c hc).1 (h c hc).2
theorem lnd_of {l : List Nat} {c : Nat} (h : c < 127 ∧ 33 ≤ c) : Lnd (l ++ [c]) (l ++ [c]) := by
 have := Lnd.of (l := l ++ [c]) (ws := []) (fun d hd => by
  rw [List.getLast?_concat] at hd; obtain rfl := Option.some.inj hd
  rw [spc_is c h.1 (by exact (Or.inr (nl1 [_] (.num 33) vr0 (.num 32) vr0 rfl h.2)))]; unfold blankC; simp; exact ⟨(Nat.ne_of_gt (nl1 [_] (.num 33) vr0 (.add (.num 32) (.num 1)) vr0 rfl h.2)), (Nat.ne_of_gt (nl1 [_] (.num 33) vr0 (.add (.num 9) (.num 1)) vr0 rfl h.2))⟩) (fun _ h => nomatch h)
 rwa [List.append_nil] at this
theorem dec_cut (he : endsL e) (h : okT W 0 false (ts ++ z)) {q : List Nat} (hc : Cut e z q) :
  ∃ t' z' q' ws br, ts ++ z = t' ++ z' ∧ wsp ws ∧ val t' ++ br = decF (rend (61 :: e) e ts ++ q) ++ ws ∧
   (if (rend (61 :: e) e ts ++ q).getLast? = some 13 then rend (61 :: e) e ts ++ q ++ [10] else rend (61 :: e) e ts ++ q) = rend (61 :: e) e t' ++ q' ∧ (q' = [] ∧ br = [] ∨ q' = [61] ∧ br = [] ∨ ∃ a ∈ hexs, q' = [61, a] ∧ br = [61, a]) := by
 have hr : ∀ us, rend (61 :: e) e us = rendP [] e us := fun _ => rfl
 have n13 : ∀ {l : List Nat} {c : Nat}, c ≠ 13 → (if (l ++ [c]).getLast? = some 13 then l ++ [c] ++ [10] else l ++ [c]) = l ++ [c] := fun {l c} hc => if_neg (by rw [List.getLast?_concat]; simpa using hc)
 cases hc with
 | none =>
  refine el13 (dec_whole (pad := []) he nil_ch h) fun ws h1 h2 _ => ?_
  refine ⟨ts, z, [], ws, [], rfl, h1, by rw [List.append_nil, List.append_nil]; exact h2, ?_, .inl ⟨rfl, rfl⟩⟩
  refine if_neg fun q => ?_
  obtain ⟨v, seg, pre, _, g2, g3, _, _, _, g6⟩ := dec_toks (pad := []) he nil_ch [] (ls_row nil_ch) z _ ts (Nat.le_refl _) h
  rw [List.append_nil] at q
  by_cases h0 : seg = []
  ·rcases g6 h0 with rfl | g6
   ·contradiction
   ·rw [hr, g6] at q; contradiction
  ·have := (last_row (s := 61 :: e) (e := e) g2 h0 (rend (61 :: e) e pre)).2.1
   rw [← List.flatMap_append, ← g3] at this
   exact this q
 | eq =>
  have hd := dec_broken (q := [61]) (y := []) he h (ls_row nb61) fun seg hs _ => by
   rw [decAll_last (y := rendP [] e seg ++ [61]) (nb_append (row_nb hs) nb61) (lnd_of (by exact ⟨(nl0 [] (.add (.num 61) (.num 1)) (.num 127) rfl), (nl0 [] (.num 33) (.num 61) rfl)⟩)) (by simp), List.append_nil]
   unfold lnF
   rw [if_neg (by simp), lineOut_row _ _ hs, if_neg (by simp), lineOut_soft, List.append_nil]
  rw [List.append_nil] at hd
  have hf := decF_no (x := rendP [] e ts ++ [61]) (by rw [List.getLast?_concat]; simp) (by simp) hd
  by_cases h10 : (val ts).getLast? = some 10
  ·rw [if_pos h10] at hf
   refine ⟨ts, z, [61], [10], [], rfl, fun c hc => by simp at hc; exact (Or.inr (Or.inr (Nat.le_antisymm (Nat.le_of_eq hc) (Nat.le_of_eq (Eq.symm hc))))), ?_, n13 (by exact (Nat.ne_of_gt (nl0 [] (.add (.num 13) (.num 1)) (.num 61) rfl))), .inr (.inl ⟨rfl, rfl⟩)⟩
   rw [hr, hf, List.append_nil]
   refine el11 (List.getLast?_eq_some_iff.mp h10) fun l hl => ?_
   rw [hl]; simp
  ·rw [if_neg h10] at hf
   exact ⟨ts, z, [61], [], [], rfl, wsp_nil, by rw [hr, hf], n13 (by exact (Nat.ne_of_gt (nl0 [] (.add (.num 13) (.num 1)) (.num 61) rfl))), .inr (.inl ⟨rfl, rfl⟩)⟩
 | @hex a ha =>
  have ha' := hexs_ok a ha
  have hn : nb [61, a] := nb_of fun c hc => by simp at hc; exact ⟨(Or.elim hc (fun hy0 => (nl1 [_] vr0 (.num 61) (.add vr0 (.num 1)) (.num 127) rfl (Nat.le_of_eq hy0))) fun hy0 => (nl2 [_, _] vr0 vr1 vr1 (.num 102) (.add vr0 (.num 1)) (.num 127) rfl (Nat.le_of_eq hy0) ha'.2.1)), (Or.elim hc (fun hy0 => (Or.inr (nl1 [_] (.num 61) vr0 (.num 32) vr0 rfl (Nat.le_of_eq (Eq.symm hy0))))) fun hy0 => (Or.inr (nl2 [_, _] (.num 48) vr0 vr0 vr1 (.num 32) vr1 rfl ha'.1 (Nat.le_of_eq (Eq.symm hy0)))))⟩
  have hd := dec_broken (q := [61, a]) (y := [61, a] ++ [10]) he h (ls_row hn) fun seg hs _ => by
   have el : rendP [] e seg ++ [61, a] = (rendP [] e seg ++ [61]) ++ [a] := by simp
   rw [decAll_last (y := rendP [] e seg ++ [61, a]) (nb_append (row_nb hs) hn) (by rw [el]; exact lnd_of (by exact ⟨(nl1 [_] vr0 (.num 102) (.add vr0 (.num 1)) (.num 127) rfl ha'.2.1), (nl1 [_] (.num 48) vr0 (.num 33) vr0 rfl ha'.1)⟩)) (by simp)]
   unfold lnF
   rw [if_neg (by simp), lineOut_row _ _ hs, if_neg (by simp), lineOut_two, lineOut_plain _ ha'.2.2.1]
   rfl
  rw [← List.append_assoc] at hd
  have el : rend (61 :: e) e ts ++ [61, a] = (rend (61 :: e) e ts ++ [61]) ++ [a] := by simp
  have hf := decF_no (x := rendP [] e ts ++ [61, a]) (by rw [← hr, el, List.getLast?_concat]; simp; exact ⟨(Nat.ne_of_gt (nl1 [_] (.num 48) vr0 (.add (.num 10) (.num 1)) vr0 rfl ha'.1)), (Nat.ne_of_gt (nl1 [_] (.num 48) vr0 (.add (.num 13) (.num 1)) vr0 rfl ha'.1))⟩) (by simp) hd
  rw [List.getLast?_concat, if_pos rfl, List.dropLast_concat] at hf
  exact ⟨ts, z, [61, a], [], [61, a], rfl, wsp_nil, by rw [hr, hf, List.append_nil], by rw [el]; exact n13 (by exact (Nat.ne_of_gt (nl1 [_] (.num 48) vr0 (.add (.num 13) (.num 1)) vr0 rfl ha'.1))), .inr (.inr ⟨a, ha, rfl, rfl⟩)⟩
 | @so r hee hz =>
  subst hz
  have hd := dec_broken (q := [61, 13]) (y := []) he h (fun us hu => ⟨_, by have := Ls.cr (a := rendP [] e us ++ [61]) (nb_append (row_nb hu) nb61); simpa using this⟩) fun seg hs _ => by
   have hn : nb (rendP [] e seg ++ [61]) := nb_append (row_nb hs) nb61
   have : rendP [] e seg ++ [61, 13] = (rendP [] e seg ++ [61]) ++ [13] := by simp
   rw [this, decAll_eq (Ls.cr hn), List.map_cons, List.map_nil, List.foldl_cons, List.foldl_nil, lnAdd_eq (lnd_of (by exact ⟨(nl0 [] (.add (.num 61) (.num 1)) (.num 127) rfl), (nl0 [] (.num 33) (.num 61) rfl)⟩)), List.nil_append, List.append_nil]
   unfold lnF
   rw [if_neg (by simp), lineOut_row _ _ hs, if_neg (by simp), lineOut_soft, List.append_nil]
  have el : rend (61 :: e) e ts ++ [61, 13] = (rend (61 :: e) e ts ++ [61]) ++ [13] := by simp
  refine ⟨ts ++ [.so], r, [], [], [], by simp, wsp_nil, ?_, ?_, .inl ⟨rfl, rfl⟩⟩
  ·rw [hr, decF_brk (.inr (by rw [← hr, el, List.getLast?_concat])) hd]
   simp [Tk.v]
  ·rw [if_pos (by rw [el, List.getLast?_concat])]
   subst hee
   simp [Tk.w]
 | @ha r hee hz =>
  subst hz
  have hd := dec_broken (q := [13]) (y := [10]) he h (fun us hu => ⟨_, Ls.cr (row_nb hu)⟩) fun seg hs hok => by
   have hL := Lnd.of (ws := []) (row_last (s := 61 :: ([] ++ e)) (e := [] ++ e) seg hs (ha_last _ _ _ hs hok)) nil_ch
   rw [List.append_nil] at hL
   rw [decAll_eq (Ls.cr (row_nb hs)), List.map_cons, List.map_nil, List.foldl_cons, List.foldl_nil, lnAdd_eq hL, List.nil_append]
   exact lnF_row seg hs
  refine ⟨ts ++ [.ha], r, [], [], [], by simp, wsp_nil, ?_, ?_, .inl ⟨rfl, rfl⟩⟩
  ·rw [hr, decF_brk (.inr (by rw [List.getLast?_concat])) hd]
   simp [Tk.v]
  ·rw [if_pos (by rw [List.getLast?_concat])]
   subst hee
   simp [Tk.w]
end
end
section
open PySem.Builtin PySem.Builtin.Str PySem.StrLaws
theorem Sp.step {y0 : Nat} {ys : List Nat} {c : Nat} {r p : List Nat} {ps : List (List Nat)} (hc : c ≠ y0) (h : Sp (y0 :: ys) r (p :: ps)) : Sp (y0 :: ys) (c :: r) ((c :: p) :: ps) :=
 .skip (fun q => hc (by obtain ⟨t, e⟩ := q; injection e with e _; exact e.symm)) h
theorem Sp.steps {y0 : Nat} {ys r p : List Nat} {ps : List (List Nat)} : ∀ (l : List Nat), (∀ c ∈ l, c ≠ y0) → Sp (y0 :: ys) r (p :: ps) → Sp (y0 :: ys) (l ++ r) ((l ++ p) :: ps)
 | [], _, h => h
 | c :: l, hl, h => Sp.step (hl c List.mem_cons_self) (Sp.steps l (fun d hd => hl d (List.mem_cons_of_mem _ hd)) h)
theorem Sp.free {y0 : Nat} {ys : List Nat} (l : List Nat) (h : ∀ c ∈ l, c ≠ y0) : Sp (y0 :: ys) l [l] := by
 have := Sp.steps (ys := ys) l h .nil
 simpa using this
theorem joinL_skips (z p : List Nat) (ps : List (List Nat)) : ∀ l : List Nat, joinL z ((l ++ p) :: ps) = l ++ joinL z (p :: ps) := fun l => by simp [joinL]
noncomputable def noBr (l : List Nat) : Prop := ∀ c ∈ l, c ≠ 13 ∧ c ≠ 10
noncomputable def SpE (W : Nat) (e q : List Nat) (n : Nat) (ts : List Tk) : Prop := ∃ p ps, Sp e (rend (61 :: e) e ts ++ q) (p :: ps) ∧ (∀ z, joinL z (p :: ps) = rend (61 :: z) z ts ++ q) ∧ n + p.length ≤ W + q.length ∧ ∀ x ∈ ps, x.length ≤ W + q.length
theorem sp_end {W : Nat} {e : List Nat} (he : endsL e) {q : List Nat} (hq : noBr q) : ∀ (ts : List Tk) (n : Nat) (b : Bool), n ≤ W → okT W n b ts → SpE W e q n ts
 | [], n, _, hn, _ => by
  refine ⟨q, [], ?_, fun z => by simp [joinL], by exact nl1 [_, _, _] vr0 vr1 (.add vr0 vr2) (.add vr1 vr2) rfl hn, fun x h => nomatch h⟩
  rcases he with rfl | rfl
  ·exact Sp.free q fun c hc => (hq c hc).2
  ·exact Sp.free q fun c hc => (hq c hc).1
 | t :: ts, n, b, hn, h => by
  have go : ∀ (l : List Nat) (b' : Bool), noBr l → (∀ s z, t.w s z = l) → n + l.length ≤ W → okT W (n + l.length) b' ts → SpE W e q n (t :: ts) := fun l b' hl hw hn' h' => by
   refine el24 (sp_end he hq ts (n + l.length) b' hn' h') fun p ps h1 h2 h3 h4 => ?_
   refine ⟨l ++ p, ps, ?_, fun z => ?_, by rw [List.length_append]; exact nl1 [_, _, _, _, _] (.add (.add vr0 vr1) vr2) (.add vr3 vr4) (.add vr0 (.add vr1 vr2)) (.add vr3 vr4) rfl h3, h4⟩
   ·show Sp e (t.w (61 :: e) e ++ rend (61 :: e) e ts ++ q) _
    rw [hw, List.append_assoc]
    rcases he with rfl | rfl
    ·exact Sp.steps l (fun c hc => (hl c hc).2) h1
    ·exact Sp.steps l (fun c hc => (hl c hc).1) h1
   ·show _ = t.w (61 :: z) z ++ rend (61 :: z) z ts ++ q
    rw [joinL_skips, h2, hw, List.append_assoc]
  have br : ∀ (l : List Nat), noBr l → (∀ z, t.w (61 :: z) z = l ++ z) → n + l.length ≤ W → okT W 0 false ts → SpE W e q n (t :: ts) := fun l hl hw hn' h' => by
   refine el24 (sp_end he hq ts 0 false (Nat.zero_le _) h') fun p ps h1 h2 h3 h4 => ?_
   refine ⟨l, p :: ps, ?_, fun z => ?_, by exact nl1 [_, _, _, _] (.add vr0 vr1) vr2 (.add vr0 vr1) (.add vr2 vr3) rfl hn', fun x hx => ?_⟩
   ·show Sp e (t.w (61 :: e) e ++ rend (61 :: e) e ts ++ q) _
    rw [hw, List.append_assoc, List.append_assoc]
    have h1' := Sp.hit h1
    rcases he with rfl | rfl
    ·have := Sp.steps l (fun c hc => (hl c hc).2) h1'; rwa [List.append_nil] at this
    ·have := Sp.steps l (fun c hc => (hl c hc).1) h1'; rwa [List.append_nil] at this
   ·show _ = t.w (61 :: z) z ++ rend (61 :: z) z ts ++ q
    have := joinL_skips z [] (p :: ps) l
    rw [List.append_nil, joinL_hit z ⟨_, _, rfl⟩, h2] at this
    rw [this, hw]; simp
   ·rcases List.mem_cons.mp hx with rfl | hx
    ·exact nl1 [_, _, _] (.add (.num 0) vr0) (.add vr1 vr2) vr0 (.add vr1 vr2) rfl h3
    ·exact h4 x hx
  induction t with
  | ch c => exact go [c] _ (fun d hd => by rw [List.mem_singleton.mp hd]; have := h.1.1; lia) (fun _ _ => rfl) h.2.1 h.2.2
  | es c =>
   refine el24 (esc_ok h.1) fun x y e1 e2 e3 _ => ?_
   have hx := hexs_ok x e2
   have hy := hexs_ok y e3
   exact go (esc c) _ (fun d hd => by rw [e1] at hd; simp at hd; lia) (fun _ _ => rfl) h.2.1 h.2.2
  | so => exact br [61] (fun d hd => by rw [List.mem_singleton.mp hd]; exact ⟨(Nat.ne_of_gt (nl0 [] (.add (.num 13) (.num 1)) (.num 61) rfl)), (Nat.ne_of_gt (nl0 [] (.add (.num 10) (.num 1)) (.num 61) rfl))⟩) (fun _ => rfl) h.1 h.2
  | ha => exact br [] nil_ch (fun _ => rfl) hn h.2
noncomputable def brk (q : List Nat) : Prop := q = [] ∨ q = [61] ∨ ∃ a ∈ hexs, q = [61, a]
theorem not61 {c : Nat} {r : List Nat} (h : r.head? ≠ some 10) : ¬ [61, 10] <+: c :: r := fun q => by
 refine el11 (q) fun t e => ?_
 injection e with _ e
 exact h (by rw [← e]; rfl)
theorem sp_soft {W : Nat} {q : List Nat} (hq : brk q) : ∀ (ts : List Tk) (n : Nat) (b : Bool), okT W n b ts → ∃ p ps, Sp [61, 10] (rend [61, 10] [10] ts ++ q) (p :: ps) ∧ joinL [] (p :: ps) = rend [] [10] ts ++ q
 | [], _, _, _ => by
  rcases hq with rfl | rfl | ⟨a, ha, rfl⟩
  ·exact ⟨_, _, .nil, rfl⟩
  ·exact ⟨_, _, .skip (not61 (by simp)) .nil, rfl⟩
  ·have := hexs_ok a ha
   exact ⟨_, _, .skip (not61 (by simp; exact (Nat.ne_of_gt (nl1 [_] (.num 48) vr0 (.add (.num 10) (.num 1)) vr0 rfl this.1)))) (.step (by lia) .nil), rfl⟩
 | .ch c :: ts, _, _, h => let ⟨p, ps, h1, h2⟩ := sp_soft hq ts _ _ h.2.2; ⟨_, _, .step h.1.2 h1, (joinL_skip ..).trans (congrArg (c :: ·) h2)⟩
 | .es c :: ts, _, _, h => by
  refine el22 (sp_soft hq ts _ _ h.2.2) fun p ps h1 h2 => ?_
  refine el24 (esc_ok h.1) fun x y e1 e2 e3 _ => ?_
  have hx := hexs_ok x e2
  have hy := hexs_ok y e3
  refine ⟨61 :: x :: y :: p, ps, ?_, ?_⟩
  ·show Sp _ (esc c ++ rend [61, 10] [10] ts ++ q) _
   rw [e1]
   exact .skip (not61 (by simp; exact (Nat.ne_of_gt (nl1 [_] (.num 48) vr0 (.add (.num 10) (.num 1)) vr0 rfl hx.1)))) (.step (by lia) (.step (by lia) h1))
  ·show _ = esc c ++ rend [] [10] ts ++ q
   rw [joinL_skip, joinL_skip, joinL_skip, h2, e1]; rfl
 | .so :: ts, _, _, h => let ⟨p, ps, h1, h2⟩ := sp_soft hq ts _ _ h.2; ⟨_, _, .hit h1, (joinL_hit _ ⟨_, _, rfl⟩).trans h2⟩
 | .ha :: ts, _, _, h => let ⟨p, ps, h1, h2⟩ := sp_soft hq ts _ _ h.2; ⟨_, _, .step (by exact (Nat.ne_of_lt (nl0 [] (.add (.num 10) (.num 1)) (.num 61) rfl))) h1, (joinL_skip ..).trans (congrArg (10 :: ·) h2)⟩
theorem sp_esc {W : Nat} : ∀ (ts : List Tk) (n : Nat) (b : Bool), okT W n b ts → ∃ p ps, Sp [61] (rend [] [10] ts) (p :: ps) ∧ (rend [] [10] ts).length = (val ts).length + 2 * ps.length
 | [], _, _, _ => ⟨_, _, .nil, rfl⟩
 | .ch c :: ts, _, _, h => let ⟨p, ps, h1, h2⟩ := sp_esc ts _ _ h.2.2; ⟨_, _, .step h.1.2 h1, by show (rend [] [10] ts).length + 1 = (val ts).length + 1 + _; exact (Nat.le_antisymm (nl1 [_, _, _] vr0 (.add vr1 (.mulL 2 vr2)) (.add vr0 (.num 1)) (.add (.add vr1 (.num 1)) (.mulL 2 vr2)) rfl (Nat.le_of_eq h2)) (nl1 [_, _, _] (.add vr0 (.mulL 2 vr1)) vr2 (.add (.add vr0 (.num 1)) (.mulL 2 vr1)) (.add vr2 (.num 1)) rfl (Nat.le_of_eq (Eq.symm h2))))⟩
 | .es c :: ts, _, _, h => by
  refine el22 (sp_esc ts _ _ h.2.2) fun p ps h1 h2 => ?_
  refine el24 (esc_ok h.1) fun x y e1 e2 e3 _ => ?_
  have hx := hexs_ok x e2
  have hy := hexs_ok y e3
  refine ⟨[], (x :: y :: p) :: ps, ?_, ?_⟩
  ·show Sp _ (esc c ++ rend [] [10] ts) _
   rw [e1]
   exact .hit (r := x :: y :: rend [] [10] ts) (.step (by lia) (.step (by lia) h1))
  ·show (rend [] [10] ts).length + 3 = (val ts).length + 1 + 2 * (ps.length + 1)
   exact (Nat.le_antisymm (nl1 [_, _, _] vr0 (.add vr1 (.mulL 2 vr2)) (.add vr0 (.num 3)) (.add (.add vr1 (.num 1)) (.mulL 2 (.add vr2 (.num 1)))) rfl (Nat.le_of_eq h2)) (nl1 [_, _, _] (.add vr0 (.mulL 2 vr1)) vr2 (.add (.add vr0 (.num 1)) (.mulL 2 (.add vr1 (.num 1)))) (.add vr2 (.num 3)) rfl (Nat.le_of_eq (Eq.symm h2))))
 | .so :: ts, _, _, h => sp_esc ts _ _ h.2
 | .ha :: ts, _, _, h => let ⟨p, ps, h1, h2⟩ := sp_esc ts _ _ h.2; ⟨_, _, .step (by exact (Nat.ne_of_lt (nl0 [] (.add (.num 10) (.num 1)) (.num 61) rfl))) h1, by show (rend [] [10] ts).length + 1 = (val ts).length + 1 + _; exact (Nat.le_antisymm (nl1 [_, _, _] vr0 (.add vr1 (.mulL 2 vr2)) (.add vr0 (.num 1)) (.add (.add vr1 (.num 1)) (.mulL 2 vr2)) rfl (Nat.le_of_eq h2)) (nl1 [_, _, _] (.add vr0 (.mulL 2 vr1)) vr2 (.add (.add vr0 (.num 1)) (.mulL 2 vr1)) (.add vr2 (.num 1)) rfl (Nat.le_of_eq (Eq.symm h2))))⟩
theorem slice_m1 (l : List Nat) : Txt.slice (tx l) (some (-1)) none = tx (l.drop (l.length - 1)) :=
 Eq.trans (slice_clp (lo := some (-1)) (hi := none) (l.length - 1) l.length (clp_neg _ (k := 1) (Nat.zero_lt_succ _) _) rfl (Nat.sub_le _ _) (Nat.le_refl _)) (congrArg tx (List.take_of_length_le (Nat.le_of_eq List.length_drop)))
theorem slice_m2 (l : List Nat) : Txt.slice (tx l) (some (-2)) none = tx (l.drop (l.length - 2)) :=
 Eq.trans (slice_clp (lo := some (-2)) (hi := none) (l.length - 2) l.length (clp_neg _ (k := 2) (Nat.zero_lt_succ _) _) rfl (Nat.sub_le _ _) (Nat.le_refl _)) (congrArg tx (List.take_of_length_le (Nat.le_of_eq List.length_drop)))
theorem slice_m21 (l : List Nat) : Txt.slice (tx l) (some (-2)) (some (-1)) = tx ((l.drop (l.length - 2)).take (l.length - 1 - (l.length - 2))) :=
 slice_clp (lo := some (-2)) (hi := some (-1)) (l.length - 2) (l.length - 1) (clp_neg _ (k := 2) (Nat.zero_lt_succ _) _) (clp_neg _ (k := 1) (Nat.zero_lt_succ _) _) (Nat.sub_le_sub_left (Nat.le_succ 1) _) (Nat.sub_le _ _)
theorem slice_to {l : List Nat} (k : Nat) (hk : 0 < k) (h : k ≤ l.length) : Txt.slice (tx l) none (some (-(k : Int))) = tx (l.take (l.length - k)) :=
 slice_clp (lo := none) (hi := some (-(k : Int))) 0 (l.length - k) rfl (clp_neg _ hk _) (Nat.zero_le _) (Nat.sub_le _ _)
noncomputable def L2 (l : List Nat) : Prop := ∀ i, l.length ≤ i + 2 → l[i]? ≠ some 61
theorem L2.snoc {l : List Nat} (h : L2 l) {c : Nat} (hc : c ≠ 61) : L2 (l ++ [c]) := fun i hi => by
 rw [List.length_append, List.length_singleton] at hi
 rw [List.getElem?_append]
 split
 ·exact h i (by exact nl1 [_, _] (.add vr0 (.num 1)) (.add vr1 (.num 2)) vr0 (.add vr1 (.num 2)) rfl hi)
 ·rw [List.getElem?_singleton]; split <;> simp <;> exact hc
theorem L2.two (l : List Nat) {a b : Nat} (ha : a ≠ 61) (hb : b ≠ 61) : L2 (l ++ [a, b]) := fun i hi => by
 rw [List.length_append] at hi
 rw [List.getElem?_append_right (by simp at hi; exact hi)]
 generalize i - l.length = j
 match j with
 | 0 => simpa using ha
 | 1 => simpa using hb
 | j + 2 => simp
theorem L2.toks {W : Nat} : ∀ (ts : List Tk) (n : Nat) (b : Bool) (pre : List Nat), L2 pre → okT W n b ts → L2 (pre ++ rend [] [10] ts)
 | [], _, _, pre, hp, _ => by simpa using hp
 | .ch c :: ts, _, _, pre, hp, h => by have := L2.toks ts _ _ _ (hp.snoc h.1.2) h.2.2; rw [List.append_assoc] at this; exact this
 | .es c :: ts, _, _, pre, hp, h => by
  refine el24 (esc_ok h.1) fun x y e1 e2 e3 _ => ?_
  have := L2.toks ts _ _ _ (L2.two (pre ++ [61]) (hexs_ok x e2).2.2.1 (hexs_ok y e3).2.2.1) h.2.2
  rw [List.append_assoc, List.append_assoc] at this
  show L2 (pre ++ (esc c ++ rend [] [10] ts))
  rw [e1]; exact this
 | .so :: ts, _, _, pre, hp, h => L2.toks ts _ _ pre hp h.2
 | .ha :: ts, _, _, pre, hp, h => by have := L2.toks ts _ _ _ (hp.snoc (by exact (Nat.ne_of_lt (nl0 [] (.add (.num 10) (.num 1)) (.num 61) rfl)) : (10 : Nat) ≠ 61)) h.2; rw [List.append_assoc] at this; exact this
theorem okT_take {W : Nat} {z : List Tk} : ∀ (ts : List Tk) {n : Nat} {b : Bool}, okT W n b (ts ++ z) → okT W n b ts
 | [], _, _, _ => trivial
 | .ch _ :: ts, _, _, h => ⟨h.1, h.2.1, okT_take ts h.2.2⟩
 | .es _ :: ts, _, _, h => ⟨h.1, h.2.1, okT_take ts h.2.2⟩
 | .so :: ts, _, _, h => ⟨h.1, okT_take ts h.2⟩
 | .ha :: ts, _, _, h => ⟨h.1, okT_take ts h.2⟩
noncomputable def brS (q : List Nat) : List Sgn := if q.length = 2 then [(q, .stays)] else []
theorem arrQ_eq {z q : List Nat} (hz : L2 z) (hq : brk q) : arrQ (tx (z ++ q)) = tx z ∧ arrR (tx (z ++ q)) = brS q := by
 have e1 : Str.ofString "=" = tx [61] := eq_lit
 unfold arrQ arrR
 rw [e1, slice_m1, slice_m21, tx_seq, tx_seq]
 rcases hq with rfl | rfl | ⟨a, ha, rfl⟩
 ·rw [List.append_nil]
  have h1 : (z.drop (z.length - 1) == [61]) = false := beq_eq_false_iff_ne.mpr fun q => hz (z.length - 1) (by exact nl1 [_, _] vr0 (.add vr1 (.num 1)) vr0 (.add vr1 (.num 2)) rfl (Nl.sb _ _)) (by
   have := congrArg (·[0]?) q
   simpa using this)
  have h2 : ((z.drop (z.length - 2)).take (z.length - 1 - (z.length - 2)) == [61]) = false := beq_eq_false_iff_ne.mpr fun q => hz (z.length - 2) (by exact (Nl.sb _ _)) (by
   have := congrArg (·[0]?) q
   rw [List.getElem?_take] at this
   split at this
   ·simpa using this
   ·contradiction)
  rw [h1, h2]; exact ⟨rfl, rfl⟩
 ·have e2 := slice_to (l := z ++ [61]) 1 (by exact nl0 [] (.add (.num 0) (.num 1)) (.num 1) rfl) (by simp)
  have h1 : ((z ++ [61]).drop ((z ++ [61]).length - 1) == [61]) = true := by simp
  rw [h1]
  refine ⟨e2.trans ?_, rfl⟩
  simp
 ·have hx := hexs_ok a ha
  have e2 := slice_to (l := z ++ [61, a]) 2 (by exact nl0 [] (.add (.num 0) (.num 1)) (.num 2) rfl) (by simp)
  have h1 : ((z ++ [61, a]).drop ((z ++ [61, a]).length - 1) == [61]) = false := by
   have : (z ++ [61, a]).drop ((z ++ [61, a]).length - 1) = [a] := by simp [List.drop_append]
   rw [this]; exact beq_eq_false_iff_ne.mpr fun q => hx.2.2.1 (by injection q)
  have h2 : (((z ++ [61, a]).drop ((z ++ [61, a]).length - 2)).take ((z ++ [61, a]).length - 1 - ((z ++ [61, a]).length - 2)) == [61]) = true := by simp
  rw [h1, h2, slice_m2]
  refine ⟨e2.trans ?_, ?_⟩
  ·simp
  ·simp [brS]
theorem rend_le {s e s' e' : List Nat} (hs : s.length ≤ s'.length) (he : e.length ≤ e'.length) : ∀ ts, (rend s e ts).length ≤ (rend s' e' ts).length
 | [] => Nat.le_refl _
 | t :: ts => by
  have := rend_le hs he ts
  show (t.w s e ++ rend s e ts).length ≤ (t.w s' e' ++ rend s' e' ts).length
  rw [List.length_append, List.length_append]
  cases t <;> simp only [Tk.w] <;> (first | exact nl1 [_, _] vr0 vr1 (.add (.add (.num 0) (.num 1)) vr0) (.add (.add (.num 0) (.num 1)) vr1) rfl this | exact nl1 [_, _, _] vr0 vr1 (.add vr2 vr0) (.add vr2 vr1) rfl this | exact nl2 [_, _, _, _] vr0 vr1 vr2 vr3 (.add vr0 vr2) (.add vr1 vr3) rfl hs this | exact nl2 [_, _, _, _] vr0 vr1 vr2 vr3 (.add vr0 vr2) (.add vr1 vr3) rfl he this | lia)
theorem arr_cut {W : Nat} {e : List Nat} (he : endsL e) {ts : List Tk} (h : okT W 0 false ts) {q : List Nat} (hq : brk q) {x : Str} (hx : arrP1 x = tx (rend (61 :: e) e ts ++ q)) {l : List Sgn} {t : Tok} {k : Nat} (hl : l.length ≤ 100000) (hxl : x.length ≤ 90000) (ht : 0 < t ∧ t < k) (hh : HeardOk (l.take (val ts).length ++ brS q)) :
  arr x (tx e) l = l.take (val ts).length ++ brS q ∧ ArrOk x (tx e) l t k := by
 have hqn : noBr q := by
  rcases hq with rfl | rfl | ⟨a, ha, rfl⟩
  ·exact nil_ch
  ·intro c hc; rw [List.mem_singleton.mp hc]; exact ⟨(Nat.ne_of_gt (nl0 [] (.add (.num 13) (.num 1)) (.num 61) rfl)), (Nat.ne_of_gt (nl0 [] (.add (.num 10) (.num 1)) (.num 61) rfl))⟩
  ·have := hexs_ok a ha
   intro c hc; simp at hc; lia
 refine el23 (sp_end he hqn ts 0 false (Nat.zero_le _) h) fun p ps h1 h2 _ => ?_
 refine el22 (sp_soft hq ts _ _ h) fun p2 ps2 h3 h4 => ?_
 refine el22 (sp_esc ts _ _ h) fun p3 ps3 h5 h6 => ?_
 have hne : e ≠ [] := by rcases he with rfl | rfl <;> simp
 have r1 : Txt.replace (arrP1 x) (tx e) (Str.ofString "\n") = tx (rend [61, 10] [10] ts ++ q) := by rw [hx, nl_lit, h1.replace hne [10], h2]
 have r2 : arrP x (tx e) = tx (rend [] [10] ts ++ q) := by
  unfold arrP
  rw [r1, show Str.ofString "=\n" = tx [61, 10] from by kernel_rfl, show Str.ofString "" = tx [] from rfl, h3.replace (by simp), h4]
 have r3 := arrQ_eq (L2.toks ts _ _ [] (fun i _ => by simp) h) hq
 rw [List.nil_append, ← r2] at r3
 have r4 : Txt.count (arrQ (arrP x (tx e))) (Str.ofString "=") = (ps3.length : Nat) := by rw [r3.1, eq_lit, h5.count (by simp)]; rfl
 have r5 : arrN (arrQ (arrP x (tx e))) = ((val ts).length : Nat) := by unfold arrN; rw [r4, r3.1, txl]; lia
 have r6 : arr x (tx e) l = l.take (val ts).length ++ brS q := by unfold arr; rw [r5, r3.2]; rfl
 have b0 : (arrP1 x).length ≤ 90001 := by
  unfold arrP1
  split
  ·rw [PySem.Str.length_append]; show _ + 1 ≤ _; exact nl1 [_] vr0 (.num 90000) (.add vr0 (.num 1)) (.num 90001) rfl hxl
  ·exact nl1 [_] vr0 (.num 90000) vr0 (.num 90001) rfl hxl
 rw [hx, txl, List.length_append] at b0
 have he1 : 1 ≤ e.length := List.length_pos_iff.mpr hne
 have b1 := rend_le (s := [61, 10]) (e := [10]) (s' := 61 :: e) (e' := e) (by simp; exact he1) he1 ts
 have b2 := rend_le (s := []) (e := [10]) (s' := 61 :: e) (e' := e) (by simp) he1 ts
 refine ⟨r6, by exact nl1 [_] vr0 (.num 90000) vr0 (.num 100000) rfl hxl, ?_, ?_, ?_, ?_, ?_, hl, ht, by rw [r6]; exact hh⟩
 ·rw [r1, txl, List.length_append]; exact nl2 [_, _, _] vr0 vr1 (.add vr1 vr2) (.num 90001) (.add vr0 vr2) (.num 100000) rfl b1 b0
 ·rw [r2, txl, List.length_append]; exact nl2 [_, _, _] (.add vr0 vr1) (.num 90001) vr2 vr0 (.add vr2 vr1) (.num 100000) rfl b0 b2
 ·rw [r3.1, txl]; exact nl2 [_, _, _] vr0 vr1 (.add vr1 vr2) (.num 90001) vr0 (.num 100000) rfl b2 b0
 ·rw [r4]; lia
 ·rw [r5]; lia
theorem arrP1_eq (p : List Nat) : arrP1 (tx p) = tx (if p.getLast? = some 13 then p ++ [10] else p) := by
 have e : (p.drop (p.length - 1) == [13]) = decide (p.getLast? = some 13) := by
  rcases snoc_cases p with rfl | ⟨r, c, rfl⟩
  ·rfl
  ·rw [List.getLast?_concat]
   have : (r ++ [c]).drop ((r ++ [c]).length - 1) = [c] := by simp
   rw [this]
   by_cases hc : c = 13
   ·subst hc; rfl
   ·rw [decide_eq_false (fun q => hc (by injection q)), beq_eq_false_iff_ne.mpr fun q => hc (by injection q)]
 unfold arrP1
 rw [slice_m1, show Str.ofString "\r" = tx [13] from by kernel_rfl, nl_lit, tx_seq, e]
 by_cases h : p.getLast? = some 13
 ·rw [if_pos (decide_eq_true h), if_pos h, txa]
 ·rw [if_neg (by simpa using h), if_neg h]
end
section
noncomputable def avP : AV → Bool
 | .dat _ => false
 | _ => true
noncomputable def aoP : AO → Bool
 | .list xs => xs.all avP
 | .dict es => es.all fun p => avP p.2
 | _ => true
noncomputable def plF : Fs → Bool
 | [] => true
 | p :: r => (match p.2 with | some v => avP v | none => true) && plF r
noncomputable def plS (S : Sy) : Bool := plF S.fs && S.own.all aoP
theorem plF_mem {v : AV} : ∀ {fs : Fs}, plF fs = true → ∀ {p : Str × Option AV}, p ∈ fs → p.2 = some v → avP v = true
 | [], _, _, h, _ => by contradiction
 | q :: r, h, p, hm, e => by
  refine el02 (Bool.and_eq_true_iff.mp h) fun h1 h2 => ?_
  rcases List.mem_cons.mp hm with rfl | hm
  ·rw [e] at h1; exact h1
  ·exact plF_mem h2 hm e
theorem Is.pl {h h' : Heap} {L L' : Addr → Prop} {ρ : List Addr} {av : AV} {v : Value} (hp : avP av = true) (x : Is h L ρ av v) : Is h' L' ρ av v := by
 induction av with
 | dat d => exact absurd hp Bool.false_ne_true
 | _ => exact x
theorem All2.mem {α β : Type} {R R' : α → β → Prop} {as : List α} {bs : List β} (x : All2 R as bs) : (∀ a ∈ as, ∀ b, R a b → R' a b) → All2 R' as bs := by
 induction x with
 | nil => intro _; exact .nil
 | cons a _ ih => intro h; exact .cons (h _ List.mem_cons_self _ a) (ih fun a ha => h a (List.mem_cons_of_mem _ ha))
theorem IsO.pl {h h' : Heap} {L L' : Addr → Prop} {ρ : List Addr} {ao : AO} {o : Obj} (hp : aoP ao = true) (x : IsO h L ρ ao o) : IsO h' L' ρ ao o := by
 induction ao with
 | list xs => obtain ⟨vs, n, e, a⟩ := x; exact ⟨vs, n, e, a.mem fun a ha b y => y.pl (List.all_eq_true.mp hp a ha)⟩
 | dict es => obtain ⟨m, e, c, f, g⟩ := x; exact ⟨m, e, c, fun p hm => let ⟨v, e1, e2⟩ := f p hm; ⟨v, e1, e2.pl (List.all_eq_true.mp hp p hm)⟩, g⟩
 | _ => exact x
noncomputable def Rel (C : Cx) (ρ : List Addr) (b : Addr) : Prop := (∃ o, C.keep b o) ∨ b ∈ ρ ∨ C.bad b
noncomputable def Cov (A : Around) (C : Cx) (ρ : List Addr) (B h : Heap) : Prop := ∀ b o, Rel C ρ b → h.get? b = some o → ¬ frA A b → B.get? b = some o
theorem frA_mem {A : Around} {l : List Env} (hl : A.frames = some l) {b : Addr} : frA A b ↔ b ∈ l.filterMap (·.frame) := by
 rw [List.mem_filterMap]
 constructor
 ·rintro ⟨l', e, h1, h2, h3⟩; rw [hl] at h1; obtain rfl := Option.some.inj h1; exact ⟨e, h2, h3⟩
 ·rintro ⟨e, h2, h3⟩; exact ⟨l, e, hl, h2, h3⟩
theorem Rx.fly {F : Fx} (hF : F.Ok) {S : Sy} {ρ : List Addr} {s : Shared} {B h' : Heap} {l : List Env} (I : Rx F.C S.fs S.own ρ s) (hp : plS S = true) (cov : Cov F.A F.C ρ B s.heap) (hl : F.A.frames = some l) (hfr : s.heap.FunFrames B l) (hst : B.StaysIn h') (hU : s.heap.UpToSlots h') :
  Rx F.C S.fs S.own ρ { s with heap := h' } ∧ Cov F.A F.C ρ B h' := by
 refine el02 (Bool.and_eq_true_iff.mp hp) fun hp1 hp2 => ?_
 have nfr : ∀ b, frA F.A b → b = F.C.env.locals ∨ ∃ o, F.C.fr b o := fun b q => hF.frA q
 have nk : ∀ {b o}, F.C.keep b o → ¬ frA F.A b := fun {b o} k q => (nfr b q).elim (fun e => I.new o (e ▸ k)) fun z => z.elim fun o1 e => (I.frn b o1 e).2.2 o k
 have nρ : ∀ {b}, b ∈ ρ → ¬ frA F.A b := fun {b} m q => (nfr b q).elim (I.fresh b m).1 fun z => z.elim fun o1 e => (I.fresh b m).2.2 (I.frn b o1 e).2.1
 have kp : ∀ {b o}, Rel F.C ρ b → s.heap.get? b = some o → ¬ frA F.A b → h'.get? b = some o := fun {b o} r e n => hst b o (cov b o r e n)
 have fk : ∀ {b o}, frA F.A b → s.heap.get? b = some o → ∃ sl, h'.get? b = some { o with slots := sl } := fun {b o} q e => by
  obtain ⟨_, o', e', hn⟩ := hfr.mem ((frA_mem hl).mp q)
  rw [e] at e'; obtain rfl := Option.some.inj e'
  exact hU b o e hn
 refine NsR.el (I.ns) fun m hm hf => ?_
 refine ⟨⟨⟨m, hU.ns hm, fun p hpp v e => let ⟨v', e1, e2⟩ := hf p hpp v e; ⟨v', e1, e2.pl (plF_mem hp1 hpp e)⟩⟩, I.nd, fun b o k => kp (.inl ⟨o, k⟩) (I.up b o k) (nk k), I.new, I.len, fun i ao e => ?_, I.fresh, I.apart, fun b hb => ?_, I.gens, I.os, fun b o h => ?_, I.frn, I.tk, I.pr⟩, fun b o r e n => ?_⟩
 ·refine Own1.el (I.mine i ao e) fun a o e1 e2 e3 => ?_
  have hm := List.mem_of_getElem? e1
  exact ⟨a, o, e1, kp (.inr (.inl hm)) e2 (nρ hm), e3.pl (List.all_eq_true.mp hp2 _ (List.mem_of_getElem? e))⟩
 ·refine el11 (I.old b hb) fun o e => ?_
  by_cases q : frA F.A b
  ·obtain ⟨sl, e'⟩ := fk q e; exact ⟨_, e'⟩
  ·exact ⟨o, kp (.inr (.inr hb)) e q⟩
 ·refine el11 (I.frs b o h) fun sl e => ?_
  by_cases q : frA F.A b
  ·obtain ⟨sl', e'⟩ := fk q e; exact ⟨sl', e'⟩
  ·exact ⟨sl, kp (.inr (.inr (I.frn b o h).2.1)) e q⟩
 ·obtain ⟨o1, e'⟩ : ∃ o1, s.heap.get? b = some o1 := by
   rcases r with ⟨o2, r⟩ | r | r
   ·exact ⟨o2, I.up b o2 r⟩
   ·exact I.has r
   ·exact I.old b r
  have := kp r e' n
  rw [e] at this; obtain rfl := Option.some.inj this
  exact cov b _ r e' n
noncomputable def Ex (k : Nat) (C : Cx) (B : Heap) (l : List Env) (ea : Addr) (cls : String) (h : Heap) : Prop := match k with
 | 0 => ∃ h0 args, Heap.MadeExcOf h0 h ea (.type cls) args ∧ B.StaysIn h0 ∧ h0.FunFrames B l
 | 1 => ∃ a0, Heap.FlyingW B l ea (.type cls) a0 h
 | _ => ∃ a0, Heap.HeldW B l ea (.type cls) a0 C.env.locals h
structure EXs (k : Nat) (A : Around) (C : Cx) (X : String → Sy → Prop) (e : Value) (s : Shared) (cls : String) (S : Sy) (ρ : List Addr) (B : Heap) (l : List Env) (ea : Addr) : Prop where
 ev : e = .ref ea
 x : X cls S
 pl : plS S = true
 rx : Rx C S.fs S.own ρ s
 fl : A.frames = some l
 cov : Cov A C ρ B s.heap
 ff : s.heap.FunFrames B l
 st : B.StaysIn s.heap
 ex : Ex k C B l ea cls s.heap
noncomputable def EX (k : Nat) (A : Around) (C : Cx) (X : String → Sy → Prop) (e : Value) (s : Shared) : Prop := ∃ cls S ρ B l ea, EXs k A C X e s cls S ρ B l ea
section
variable {F : Fx} {X : String → Sy → Prop} {S : Sy} {s : Shared} {ρ : List Addr}
theorem ex_made (hF : F.Ok) (I : Rx F.C S.fs S.own ρ s) (hp : plS S = true) {h' : Heap} {e : Addr} {cls : String} {args : List Value} (hm : Heap.MadeExcOf s.heap h' e (.type cls) args) (hX : X cls S) : EX 0 F.A F.C X (.ref e) { s with heap := h' } := by
 refine el12 (hF.stk I (B := fun _ => True) (fun _ _ => trivial)) fun l hl h3 => ?_
 let as := l.filterMap (·.frame)
 have hff : s.heap.FunFrames (hideAll s.heap as) l := by
  have : ∀ l' : List Env, (∀ e ∈ l', e ∈ l) → s.heap.FunFrames (hideAll s.heap as) l' := by
   intro l'
   induction l' with
   | nil => intro _; trivial
   | cons env r ih =>
    intro hs
    have he := hs env List.mem_cons_self
    obtain ⟨g1, L, o, e1, e2, e3, _⟩ := h3 env he
    exact ⟨g1, ⟨L, o, e1, hideAll_none _ (List.mem_filterMap.mpr ⟨env, he, e1⟩), e2, e3⟩, ih fun x hx => hs x (List.mem_cons_of_mem _ hx)⟩
  exact this l fun _ h => h
 have hst : (hideAll s.heap as).StaysIn s.heap := fun b o h => of_hideAll _ h
 have hup : s.heap.UpToSlots h' := Heap.UpToSlots.of_keeps hm.keeps
 have cov : Cov F.A F.C ρ (hideAll s.heap as) s.heap := fun b o _ h n => hideAll_get _ h fun q => n ((frA_mem hl).mpr q)
 refine el02 (I.fly hF hp cov hl hff (fun b o h => hm.keeps b o (hst b o h)) hup) fun I' cov' => ?_
 exact ⟨cls, S, ρ, _, l, e, rfl, hX, hp, I', hl, cov', hff.of_keeps fun b o h _ => ⟨o, hm.keeps b o h, rfl⟩, fun b o h => hm.keeps b o (hst b o h), _, _, hm, hst, hff⟩
theorem EXs.move {k k' : Nat} {e : Value} {cls : String} {B : Heap} {l : List Env} {ea : Addr} (hF : F.Ok) (x : EXs k F.A F.C X e s cls S ρ B l ea) {h' : Heap} (hst : B.StaysIn h') (hff : h'.FunFrames B l) (hU : s.heap.UpToSlots h') (hx : Ex k' F.C B l ea cls h') : EXs k' F.A F.C X e { s with heap := h' } cls S ρ B l ea := by
 refine el02 (x.rx.fly hF x.pl x.cov x.fl x.ff hst hU) fun I cov => ?_
 exact ⟨x.ev, x.x, x.pl, I, x.fl, cov, hff, hst, hx⟩
theorem note_ok {M : Model} {E : Value → Shared → Prop} {Q : Unit → Shared → Prop} {k : Nat} {e : Value} (hF : F.Ok) (hH : Hd F) (hk : k = 0 ∨ k = 1) (h : EX k F.A F.C X e s) (hQ : ∀ s', EX 2 F.A F.C X e s' → Q () s') : wpAny M F.A (noteFrame e F.C.env) Q E s := by
 obtain ⟨cls, S, ρ, B, l, ea, x⟩ := h
 obtain ⟨⟨outer, ho⟩, hf⟩ := hH
 have hl := x.fl
 rw [ho] at hl; obtain rfl := Option.some.inj hl
 obtain rfl := x.ev
 have ex := x.ex
 rcases hk with rfl | rfl
 ·refine el23 (ex) fun h0 args hm b1 b2 => ?_
  refine el13 (hm.there) fun t he htn ht => ?_
  have hen : B.get? ea = none := by
   cases hq : B.get? ea with
   | none => rfl
   | some o' => have := b1 ea o' hq; rw [hm.new] at this; contradiction
  unfold noteFrame
  simp only [hf]
  refine wpAny_bind (wpAny_field (x := .none) he rfl rfl ?_)
  rw [if_neg (by decide)]
  refine wpAny_entryW (a0 := .ref t) ho x.ff hf he x.st hen rfl (by show 1 < 6; decide) rfl fun h' hN => ?_
  refine el04 (hN) fun k1 k2 k3 k4 => ?_
  exact hQ _ ⟨cls, S, ρ, B, _, ea, x.move hF k1 k2 k4 ⟨_, k1, hen, k2, k3⟩⟩
 ·refine el11 (ex) fun a0 hfl => ?_
  refine wpAny_looks_onW ho hf hfl fun h' hH hU => ?_
  exact hQ _ ⟨cls, S, ρ, B, _, ea, x.move hF hH.1 hH.2.2.1 hU ⟨a0, hH⟩⟩
theorem back_ok {M : Model} {E : Value → Shared → Prop} {e : Value} (hF : F.Ok) (hH : Hd F) (h : EX 2 F.A F.C X e s) (hQ : ∀ s', EX 2 F.A F.C X e s' → E e s') : cameBackBy M F.A F.C.env E e s := by
 obtain ⟨cls, S, ρ, B, l, ea, x⟩ := h
 obtain ⟨⟨outer, ho⟩, hf⟩ := hH
 have hl := x.fl
 rw [ho] at hl; obtain rfl := Option.some.inj hl
 obtain rfl := x.ev
 obtain ⟨a0, f1, f2, f3, oe, vs, T, oT, ts, he, ⟨hcls, h0⟩, hd, h1, hnT, hTe, hT, hdT, h3⟩ := x.ex
 have hsz3 : 3 < ts.size := (Array.getElem?_eq_some_iff.mp h3).1
 unfold cameBackBy
 refine wpAny_bind (wpAny_field he hd h1 ?_)
 rw [if_neg (by simp)]
 unfold setFlight
 rw [hf]
 refine wpAny_bind (wpAny_field he hd h1 ?_)
 rw [if_pos (show (Value.ref T != Value.none) = true from by simp)]
 change wpAny M F.A (setField (.ref T) 3 (rawInt F.C.env.locals)) _ _ _
 refine wpAny_setField hT hdT hsz3 ?_
 generalize hg : Obj.mapFields (·.setIfInBounds 3 (rawInt F.C.env.locals)) = g
 have hgd : (g oT).data = .fields (ts.setIfInBounds 3 (rawInt F.C.env.locals)) := by rw [← hg]; exact Obj.data_mapFields hdT _
 have other : ∀ b, b ≠ T → (s.heap.update T g).get? b = s.heap.get? b := fun b hb => Heap.get?_update_other _ _ (Ne.symm hb)
 have noRecord : ∀ b o, s.heap.get? b = some o → (∀ vs, o.data ≠ .fields vs) → b ≠ T := fun b o hb hnf q => by
  rw [q, hT] at hb; injection hb with hb; subst hb; exact hnf ts hdT
 have g1 : B.StaysIn (s.heap.update T g) := fun b o hbo => (other b fun q => by rw [q, hnT] at hbo; contradiction).trans (f1 b o hbo)
 have g2 := x.ff.of_keeps (h' := s.heap.update T g) fun b o hb hnf => ⟨o, (other b (noRecord b o hb hnf)).trans hb, rfl⟩
 have e1 : (s.heap.update T g).get? ea = some oe := (other ea (Ne.symm hTe)).trans he
 have e2 : (s.heap.update T g).get? T = some (g oT) := Heap.get?_update_self _ hT (Obj.isFreed_of_fields hgd)
 have e3 : (ts.setIfInBounds 3 (rawInt F.C.env.locals))[3]? = some (rawInt F.C.env.locals) := by rw [Array.getElem?_setIfInBounds_self_of_lt hsz3]
 have hh : Heap.HeldW B (F.C.env :: outer) ea (.type cls) a0 F.C.env.locals (s.heap.update T g) := ⟨g1, f2, g2, oe, vs, T, g oT, _, e1, ⟨hcls, h0⟩, hd, h1, hnT, hTe, e2, hgd, e3⟩
 exact hQ _ ⟨cls, S, ρ, B, _, ea, x.move hF g1 g2 (fun b o hb hnf => ⟨o.slots, (other b (noRecord b o hb hnf)).trans hb⟩) ⟨a0, hh⟩⟩
theorem leave_ok {M : Model} {E : Value → Shared → Prop} {Q : Unit → Shared → Prop} {k : Nat} {e : Value} (hF : F.Ok) (hH : Hd F) (hk : k ≤ 2) (h : EX k F.A F.C X e s)
  (hQ : ∀ (s' : Shared) (cls : String) (S : Sy) (ρ : List Addr) (B : Heap) (outer : List Env) (ea : Addr) (a0 : Value), F.A.frames = some (F.C.env :: outer) → e = .ref ea → X cls S → plS S = true → Rx F.C S.fs S.own ρ s' → Cov F.A F.C ρ B s'.heap → Heap.FlyingW B outer ea (.type cls) a0 s'.heap → Q () s') : wpAny M F.A (leaving F.C.env e) Q E s := by
 obtain ⟨cls, S, ρ, B, l, ea, x⟩ := h
 obtain ⟨⟨outer, ho⟩, hf⟩ := hH
 have hl := x.fl
 rw [ho] at hl; obtain rfl := Option.some.inj hl
 obtain rfl := x.ev
 have fin : ∀ h' a0, Heap.FlyingW B outer ea (.type cls) a0 h' → s.heap.UpToSlots h' → Q () { s with heap := h' } := fun h' a0 hfl hU => by
  refine el02 (x.rx.fly hF x.pl x.cov x.fl x.ff hfl.1 hU) fun I cov => ?_
  exact hQ _ cls S ρ B outer ea a0 ho rfl x.x x.pl I cov hfl
 have ex := x.ex
 rcases k with _ | _ | _ | k
 ·refine el23 (ex) fun h0 args hm b1 b2 => ?_
  exact wpAny_leaves_madeW ho hf b1 b2 hm fun h' t hfl _ _ hU => fin h' _ hfl hU
 ·refine el11 (ex) fun a0 hfl => ?_
  exact wpAny_leaves_onW ho hf hfl fun h' hfl hU => fin h' a0 hfl hU
 ·refine el11 (ex) fun a0 hh => ?_
  unfold leaving
  refine wpAny_bind (wpAny_noteFrame_againW hf hh.2.2.2 (wpAny_landsW hh fun h' hfl hU => ?_))
  obtain ⟨k1, k2, ⟨k3, k5, k6⟩, k4⟩ := hfl
  exact fin h' a0 ⟨k1, k2, k6, k4⟩ hU
 ·exact (Nat.not_succ_le_zero 0 (nl1 [_] (.add (.add (.add vr0 (.num 1)) (.num 1)) (.num 1)) (.num 2) (.num 1) (.num 0) rfl hk)).elim
end
end
section
noncomputable def RetO (Q : AV → Sy → Prop) (S : Sy) : Fl → Sy → Prop
 | .ret v, S' => Q v ⟨S.fs, S'.own⟩
 | .next, S' => Q .none ⟨S.fs, S'.own⟩
 | _, _ => False
noncomputable def SmC (F : Fx) (fa : Addr) (as : List AV) (S : Sy) (Q : AV → Sy → Prop) : Prop :=
 ∀ s ρ vs, Rx F.C S.fs S.own ρ s → IsL s.heap F.C.bd ρ as vs → codeAny (model pr F.w) F.A (.call (.ref fa) ⟨vs, []⟩) (fun r s' => match r with | .ok (.ret v) => Pt F.C Is Q s ρ v s' | .ok _ => False | .error e => F.E e s') s
theorem SmC.call {F : Fx} {fa : Addr} {as : List AV} {S : Sy} {Q : AV → Sy → Prop} (h : SmC F fa as S Q) : SmL F (.ref fa) as S Q := by
 rintro s ρ fv vs I rfl hvs
 exact wpAny_call (h s ρ vs I hvs)
theorem own_body {F : Fx} (hF : F.Ok) (hT : TopOk F.w F.T F.gl) {fa : Addr} {fd : FuncData} (hfn : FnAt F.T fa fd) {n : Nat} {body : List Stmt} {names rest : List Str} {avs : List AV} {S : Sy} {Q : AV → Sy → Prop} {X : String → Sy → Prop}
  (hk : fd.scope.kind = .function) (hnd : decide (names ++ rest).Nodup = true) (hlen : avs.length = names.length) (hn : n + 1 ≤ F.n)
  (hpl : ∀ cls S', X cls S' → plF S.fs = true) (hE : ∀ e s', EX 1 F.A F.C X e s' → F.E e s')
  (vc : ∀ (A : Around) (C : Cx) (E : Value → Shared → Prop), F.C.t0 ≤ C.t0 → (Fx.mk F.w A C E fd.scope F.gl F.T n).Ok → Hd (Fx.mk F.w A C E fd.scope F.gl F.T n) → (∀ k ≤ 2, ∀ e s', EX k A C (fun cls S' => X cls ⟨S.fs, S'.own⟩) e s' → E e s') →
   SemSs ⟨F.w, A, C, E, fd.scope, F.gl, F.T, n⟩ body ⟨fs0 names avs rest, S.own⟩ (RetO Q S))
  {s : Shared} {ρ : List Addr} (I : Rx F.C S.fs S.own ρ s) {us : List Value} (hus : IsL s.heap F.C.bd ρ avs us) {binds : List (Str × Value)} (hlk : ∀ (i : Nat) (x : Str) (u : Value), names[i]? = some x → us[i]? = some u → binds.reverse.lookup x = some u)
  {h₀ : Heap} (hns : h₀.Ns s.heap.objs.size fun x => binds.reverse.lookup x) (hk₀ : ∀ b o, s.heap.get? b = some o → h₀.get? b = some o) {nt : Nat} {R : Result → Shared → Prop} (hRv : ∀ v s', Pt F.C Is Q s ρ v s' → R (.ok (.ret v)) s') (hRe : ∀ e s', F.E e s' → R (.error e) s') :
  wpAny (model pr F.w) (F.A.deeper (callEnv fd s.heap.objs.size fa)) (execs body (callEnv fd s.heap.objs.size fa)) (fun f s' => R (.ok (.ret (match f with | .ret v => v | _ => .none))) s')
   (fun e s' => wpAny (model pr F.w) (F.A.deeper (callEnv fd s.heap.objs.size fa)) (leaving (callEnv fd s.heap.objs.size fa) e) (fun _ s'' => R (.error e) s'') (fun e' s'' => R (.error e') s'') s') { s with heap := h₀, toks := s.toks + nt } := by
  have hnd' : (names ++ rest).Nodup := of_decide_eq_true hnd
  have hup : ∀ b o, F.T b o → s.heap.get? b = some o := fun b o h => I.up _ _ (hF.top b o h).1
  have hrm := hF.room.le hn
  have hL : s.heap.get? s.heap.objs.size = none := by
   cases q : s.heap.get? s.heap.objs.size with
   | none => rfl
   | some ob => exact absurd rfl (Nat.ne_of_lt (Heap.lt_size q))
  have neL : ∀ {b o}, s.heap.get? b = some o → b ≠ s.heap.objs.size := fun {b o} e => Nat.ne_of_lt (Heap.lt_size e)
  refine NsR.el (I.ns) fun mL hmL hfL => ?_
  refine el11 (Heap.Ns.some hmL) fun oL hoL => ?_
  have bdx : ∀ b, F.C.bd b → ∃ o, s.heap.get? b = some o := fun b hb => hb.elim (fun q => by rw [q]; exact ⟨oL, hoL⟩) (I.old b)
  let frm : Addr → Prop := fun b => frA F.A b ∨ b = F.C.env.locals ∨ ∃ o, F.C.fr b o
  have frbd : ∀ b, frm b → F.C.bd b := fun b hb => by
   rcases hb with hb | hb | ⟨o, hb⟩
   ·exact (hF.frA hb).elim .inl fun ⟨o, h⟩ => .inr (I.frn b o h).2.1
   ·exact .inl hb
   ·exact .inr (I.frn b o hb).2.1
  have frk : ∀ b o, frm b → ¬ F.C.keep b o := fun b o hb q => by
   have : b = F.C.env.locals ∨ ∃ o, F.C.fr b o := by
    rcases hb with hb | hb | hb
    ·exact hF.frA hb
    ·exact .inl hb
    ·exact .inr hb
   rcases this with rfl | ⟨o', h⟩
   ·exact I.new o q
   ·exact (I.frn b o' h).2.2 o q
  let C : Cx := ⟨callEnv fd s.heap.objs.size fa, F.C.bd, fun b o => F.C.keep b o ∨ Frz s.heap F.C.bd ρ b o, fun b o => s.heap.get? b = some o ∧ frm b, F.C.t0, F.C.g, F.C.o, ρ⟩
  have keepx : ∀ b o, C.keep b o → s.heap.get? b = some o := fun b o h => h.elim (I.up b o) fun q => q.1
  have fz : ∀ a o, Frz s.heap F.C.bd ρ a o → Frz h₀ C.bd ρ a o := fun a o y => ⟨hk₀ _ _ y.1, fun q => q.elim (fun q => neL y.1 q) y.2.1, y.2.2⟩
  have I₀ : Rx C (fs0 names avs rest) S.own ρ { s with heap := h₀, toks := s.toks + nt } := by
   refine ⟨⟨_, hns, fun p hp v e => ?_⟩, ?_, fun b o e => hk₀ b o (keepx b o e), fun o e => neL (keepx _ o e) rfl, I.len, fun i ao e => ?_, fun a ha => ⟨?_, fun o q => ?_, ?_⟩, I.apart, fun a h => ?_, I.gens, I.os, fun b o h => ⟨o.slots, hk₀ b o h.1⟩, fun b o h => ⟨neL h.1, frbd b h.2, fun o' q => ?_⟩, Nat.le_add_right_of_le I.tk, ⟨[], (List.append_nil ρ).symm⟩⟩
   ·rcases List.mem_append.mp hp with hp | hp
    ·refine el11 (List.getElem?_of_mem hp) fun i hi => ?_
     refine el02 (List.getElem?_zip_eq_some.mp hi) fun h1 h2 => ?_
     rw [List.getElem?_map] at h2
     refine el12 (Option.map_eq_some_iff.mp h2) fun av h3 h4 => ?_
     rw [e] at h4; obtain rfl := Option.some.inj h4
     refine el12 (hus.get i h3) fun u h5 h6 => ?_
     exact ⟨u, hlk i _ _ h1 h5, h6.map fz⟩
    ·obtain ⟨x, _, rfl⟩ := List.mem_map.mp hp; contradiction
   ·have : (fs0 names avs rest).map (·.1) = names ++ rest := by
     have h1 : (names.zip (avs.map some)).map (·.1) = names := by
      rw [List.map_fst_zip]; simp [hlen]
     show List.map (fun p : Str × Option AV => p.1) (names.zip (avs.map some) ++ rest.map fun x => (x, none)) = _
     rw [List.map_append, h1, List.map_map]
     congr 1
     exact List.map_id _
    rw [this]; exact hnd'
   ·refine Own1.el (I.mine i ao e) fun a ob e1 e2 e3 => ?_
    exact ⟨a, ob, e1, hk₀ _ _ e2, e3.map fz⟩
   ·obtain ⟨ob, z⟩ := I.has ha; exact neL z
   ·exact q.elim ((I.fresh a ha).2.1 o) fun q => q.2.2 ha
   ·exact fun q => q.elim (I.fresh a ha).1 (I.fresh a ha).2.2
   ·obtain ⟨ob, z⟩ := bdx a h; exact ⟨ob, hk₀ _ _ z⟩
   ·exact q.elim (frk b o' h.2) fun q => q.2.1 (frbd b h.2)
  have hFok : ∀ E', (Fx.mk F.w (F.A.deeper (callEnv fd s.heap.objs.size fa)) C E' fd.scope F.gl F.T n).Ok := fun E' => by
   have tk2 : ∀ a o, F.T a o → C.keep a o ∧ ¬ C.bad a := fun a o h => by
    refine el02 (hF.top a o h) fun t1 t2 => ?_
    exact ⟨.inl t1, fun q => q.elim (fun q => I.new o (q ▸ t1)) t2⟩
   refine ⟨?_, hF.pos, rfl, hk, hrm.deeper, tk2, hT.lim, fun x v s' env g1 g2 h1 h2 => ?_, hT.cls⟩
   ·refine el12 (hF.stk I (B := fun _ => True) (fun _ _ => trivial)) fun l h1 h2 => ?_
    refine ⟨_, Around.frames_deeper h1, fun e he => ?_⟩
    rcases List.mem_cons.mp he with rfl | he
    ·exact ⟨(by show fd.scope.kind ≠ .module; rw [hk]; exact fun q => nomatch q), _, rfl, .inl rfl⟩
    ·obtain ⟨g1, L, o', e1, e2, e3, _⟩ := h2 e he
     exact ⟨g1, L, e1, .inr ⟨o', ⟨e2, .inl ⟨l, e, h1, he, e1⟩⟩, e3⟩⟩
   ·exact hT.gl x v s' env (g1.trans hfn.glob) (g2.trans hfn.blt) (fun b o h => h1 b o (tk2 b o h).1) h2
  have fzb : ∀ {ρ' : List Addr} {s' : Shared}, ∀ a o, Frz s'.heap C.bd ρ' a o → Frz s'.heap F.C.bd ρ' a o := fun a o y => ⟨y.1, fun q => y.2.1 (.inr q), y.2.2⟩
  have bk : ∀ {S' : Sy} {ρ' : List Addr} {s' : Shared}, Rx C S'.fs S'.own ρ' s' → Rx F.C S.fs S'.own ρ' s' ∧ Ext F.C.bd s.heap ρ s'.heap ρ' := fun {S' ρ' s'} I' => by
   refine el11 (I'.pr) fun tl hρ' => ?_
   have fzu : ∀ a o, Frz s.heap F.C.bd ρ a o → Frz s'.heap F.C.bd ρ' a o := fun a o y => ⟨I'.up a o (.inr y), y.2.1, fun q => (I'.fresh a q).2.1 o (.inr y)⟩
   have hxx : Ext F.C.bd s.heap ρ s'.heap ρ' := ⟨⟨tl, hρ'⟩, fzu⟩
   refine ⟨?_, hxx⟩
   refine el11 (I'.frs F.C.env.locals oL ⟨hoL, .inr (.inl rfl)⟩) fun sl hLs => ?_
   refine ⟨⟨mL, ?_, fun p hp v e => let ⟨v', e1, e2⟩ := hfL p hp v e; ⟨v', e1, e2.ext hxx⟩⟩, I.nd, fun b o e => I'.up b o (.inl e), I.new, I'.len, fun i ao e => ?_, fun a ha => ⟨fun z => (I'.fresh a ha).2.2 (.inl z), fun o z => (I'.fresh a ha).2.1 o (.inl z), fun z => (I'.fresh a ha).2.2 (.inr z)⟩, I'.apart, fun a h => I'.old a (.inr h), I'.gens, I'.os, fun b o h => ?_, I.frn, I'.tk, (let ⟨t, e⟩ := I.pr; ⟨t ++ tl, by rw [hρ']; show ρ ++ tl = _; rw [e, List.append_assoc]⟩)⟩
   ·refine el33 (hmL) fun o1 es ep z1 z2 z3 => ?_
    rw [hoL] at z1; obtain rfl := Option.some.inj z1
    exact ⟨_, es, ep, hLs, z2, z3⟩
   ·refine Own1.el (I'.mine i ao e) fun a ob e1 e2 e3 => ?_
    exact ⟨a, ob, e1, e2, e3.map fzb⟩
   ·refine el11 (I.frs b o h) fun sl1 z1 => ?_
    refine el11 (I'.frs b _ ⟨z1, .inr (.inr ⟨o, h⟩)⟩) fun sl2 z2 => ?_
    exact ⟨sl2, z2⟩
  have deep : ∀ b, frA (F.A.deeper (callEnv fd s.heap.objs.size fa)) b → b = s.heap.objs.size ∨ frA F.A b := fun b q => by
   refine el12 (hF.stk I (B := fun _ => True) (fun _ _ => trivial)) fun l h1 _ => ?_
   refine el23 (q) fun l' e q1 q2 q3 => ?_
   rw [Around.frames_deeper h1] at q1; obtain rfl := Option.some.inj q1
   rcases List.mem_cons.mp q2 with rfl | q2
   ·obtain rfl := Option.some.inj q3; exact .inl rfl
   ·exact .inr ⟨l, e, h1, q2, q3⟩
  have hHd : ∀ E', Hd (Fx.mk F.w (F.A.deeper (callEnv fd s.heap.objs.size fa)) C E' fd.scope F.gl F.T n) := fun E' => by
   refine el12 (hF.stk I (B := fun _ => True) (fun _ _ => trivial)) fun l h1 _ => ?_
   exact ⟨⟨l, Around.frames_deeper h1⟩, rfl⟩
  refine Sm.go (vc _ C _ (Nat.le_refl _) (hFok _) (hHd _) fun k hk e s' hx => leave_ok (hFok fun _ _ => False) (hHd _) hk hx fun s'' cls S' ρ' B outer ea a0 ho he hX hp I' cov hfl => ?_) I₀ fun f' S' f s' ρ' q I' hf x => ?_
  ·refine el02 (bk I') fun I'' hxx => ?_
   refine el12 (hF.stk I (B := fun _ => True) (fun _ _ => trivial)) fun l h1 _ => ?_
   have ho := ho
   rw [Around.frames_deeper h1] at ho
   obtain rfl : l = outer := by injection ho with ho; injection ho
   refine hRe e s'' (hE e s'' ⟨cls, ⟨S.fs, S'.own⟩, ρ', B, l, ea, he, hX, ?_, I'', h1, fun b o r e n => ?_, hfl.2.2.1, hfl.1, a0, hfl⟩)
   ·refine el02 (Bool.and_eq_true_iff.mp hp) fun _ hp2 => ?_
    exact Bool.and_eq_true_iff.mpr ⟨hpl _ _ hX, hp2⟩
   ·have hr : Rel C ρ' b := r.elim (fun ⟨o, z⟩ => .inl ⟨o, .inl z⟩) fun z => z.elim (fun z => .inr (.inl z)) fun z => .inr (.inr (.inr z))
    refine cov b o hr e fun q => (deep b q).elim (fun z => ?_) n
    rcases r with ⟨o', r⟩ | r | r
    ·exact neL (I.up b o' r) z
    ·exact (I'.fresh b r).1 z
    ·obtain ⟨o', y⟩ := I.old b r; exact neL y z
  induction f' with
  | next => subst hf; exact hRv _ _ fun _ => ⟨.none, ⟨S.fs, S'.own⟩, ρ', q, (bk I').1, rfl, (bk I').2⟩
  | brk => exact q.elim
  | cont => exact q.elim
  | ret v => obtain ⟨v', rfl, hv⟩ := hf; exact hRv _ _ fun _ => ⟨v, ⟨S.fs, S'.own⟩, ρ', q, (bk I').1, hv.map fzb, (bk I').2⟩
theorem call_ownX {F : Fx} (hF : F.Ok) (hT : TopOk F.w F.T F.gl) {fa : Addr} {fd : FuncData} (hfn : FnAt F.T fa fd) {n : Nat} {body : List Stmt} {sc : Scope} {names rest : List Str} {as avs : List AV} {S : Sy} {Q : AV → Sy → Prop} {X : String → Sy → Prop}
  (hbody : fd.body = .stmts body) (hsc : fd.scope = sc)
  (hcell : (sc.names.all fun x => decide (x.2 ≠ .cell)) = true) (hloc : (names.all fun x => decide (sc.names.lookup x = some .local)) = true) (hk : sc.kind = .function) (hco : sc.isCoroutine = false) (hgen : sc.isGenerator = false)
  (hnd : decide (names ++ rest).Nodup = true) (hlen : avs.length = names.length) (hn : n + 1 ≤ F.n)
  (hpl : ∀ cls S', X cls S' → plF S.fs = true) (hE : ∀ e s', EX 1 F.A F.C X e s' → F.E e s')
  (hbind : ∀ (s : Shared) (B : Addr → Prop) (ρ : List Addr) (vs : List Value), (∀ b o, F.T b o → s.heap.get? b = some o) → IsL s.heap B ρ as vs → ∃ us, BindsTo s fd ⟨vs, []⟩ (names.zip us) ∧ IsL s.heap B ρ avs us)
  (vc : ∀ (A : Around) (C : Cx) (E : Value → Shared → Prop), F.C.t0 ≤ C.t0 → (Fx.mk F.w A C E sc F.gl F.T n).Ok → Hd (Fx.mk F.w A C E sc F.gl F.T n) → (∀ k ≤ 2, ∀ e s', EX k A C (fun cls S' => X cls ⟨S.fs, S'.own⟩) e s' → E e s') →
   SemSs ⟨F.w, A, C, E, sc, F.gl, F.T, n⟩ body ⟨fs0 names avs rest, S.own⟩ (RetO Q S)) : SmC F fa as S Q := by
 rintro s ρ vs I hvs
 refine el12 (hfn.obj) fun o ho hd => ?_
 have hnd' : (names ++ rest).Nodup := of_decide_eq_true hnd
 have hup : ∀ b o, F.T b o → s.heap.get? b = some o := fun b o h => I.up _ _ (hF.top b o h).1
 refine el12 (hbind s F.C.bd ρ vs hup hvs) fun us hbt hus => ?_
 subst hsc
 have hcd : s.heap.CodeRec fd.code fd.qualname := by
  refine el44 (hfn.code) fun c oc cs t e1 e2 e3 e4 => ?_
  exact ⟨c, oc, cs, t, e1, hup _ _ e2, e3, e4⟩
 have hrm := hF.room.le hn
 refine codeAny_call_def (by have := hrm.2.1; show F.A.depth < 1000; exact nl1 [_, _] (.add vr0 (.add vr1 (.num 1))) (.num 990) (.add vr0 (.num 1)) (.num 1000) rfl this) (hup _ _ ho) hd (hT.lim s.heap hup).1 hcd hbody hbt (fun x hx => by simpa using List.all_eq_true.mp hcell x hx) (fun x hx => ?_) (fun h₀ hns hk₀ => ?_) hco hgen hk
 ·have := (List.of_mem_zip hx).1
  exact of_decide_eq_true (List.all_eq_true.mp hloc _ this)
 ·exact own_body (R := fun r s' => match r with | .ok (.ret v) => Pt F.C Is Q s ρ v s' | .ok _ => False | .error e => F.E e s') hF hT hfn hk hnd hlen hn hpl hE vc I hus (fun i x u h1 h2 => lookup_zip (List.nodup_append.mp hnd').1 i x u h1 h2) hns hk₀ (fun v s' z => z) fun e s' z => z
theorem call_ownC {F : Fx} (hF : F.Ok) (hT : TopOk F.w F.T F.gl) {fa : Addr} {fd : FuncData} (hfn : FnAt F.T fa fd) {n : Nat} {body : List Stmt} {sc : Scope} {names rest : List Str} {as avs : List AV} {S : Sy} {Q : AV → Sy → Prop}
  (hbody : fd.body = .stmts body) (hsc : fd.scope = sc)
  (hcell : (sc.names.all fun x => decide (x.2 ≠ .cell)) = true) (hloc : (names.all fun x => decide (sc.names.lookup x = some .local)) = true) (hk : sc.kind = .function) (hco : sc.isCoroutine = false) (hgen : sc.isGenerator = false)
  (hnd : decide (names ++ rest).Nodup = true) (hlen : avs.length = names.length) (hn : n + 1 ≤ F.n)
  (hbind : ∀ (s : Shared) (B : Addr → Prop) (ρ : List Addr) (vs : List Value), (∀ b o, F.T b o → s.heap.get? b = some o) → IsL s.heap B ρ as vs → ∃ us, BindsTo s fd ⟨vs, []⟩ (names.zip us) ∧ IsL s.heap B ρ avs us)
  (vc : ∀ (A : Around) (C : Cx) (E : Value → Shared → Prop), F.C.t0 ≤ C.t0 → (Fx.mk F.w A C E sc F.gl F.T n).Ok → SemSs ⟨F.w, A, C, E, sc, F.gl, F.T, n⟩ body ⟨fs0 names avs rest, S.own⟩ (RetO Q S)) : SmC F fa as S Q :=
 call_ownX (X := fun _ _ => False) hF hT hfn hbody hsc hcell hloc hk hco hgen hnd hlen hn (fun _ _ h => h.elim) (fun _ _ ⟨_, _, _, _, _, _, x⟩ => x.x.elim) hbind fun A C E h1 h2 _ _ => vc A C E h1 h2
theorem call_own {F : Fx} (hF : F.Ok) (hT : TopOk F.w F.T F.gl) {fa : Addr} {fd : FuncData} (hfn : FnAt F.T fa fd) {n : Nat} {body : List Stmt} {sc : Scope} {names rest : List Str} {as avs : List AV} {S : Sy} {Q : AV → Sy → Prop}
  (hbody : fd.body = .stmts body) (hsc : fd.scope = sc)
  (hcell : (sc.names.all fun x => decide (x.2 ≠ .cell)) = true) (hloc : (names.all fun x => decide (sc.names.lookup x = some .local)) = true) (hk : sc.kind = .function) (hco : sc.isCoroutine = false) (hgen : sc.isGenerator = false)
  (hnd : decide (names ++ rest).Nodup = true) (hlen : avs.length = names.length) (hn : n + 1 ≤ F.n)
  (hbind : ∀ (s : Shared) (B : Addr → Prop) (ρ : List Addr) (vs : List Value), (∀ b o, F.T b o → s.heap.get? b = some o) → IsL s.heap B ρ as vs → ∃ us, BindsTo s fd ⟨vs, []⟩ (names.zip us) ∧ IsL s.heap B ρ avs us)
  (vc : ∀ (A : Around) (C : Cx) (E : Value → Shared → Prop), F.C.t0 ≤ C.t0 → (Fx.mk F.w A C E sc F.gl F.T n).Ok → SemSs ⟨F.w, A, C, E, sc, F.gl, F.T, n⟩ body ⟨fs0 names avs rest, S.own⟩ (RetO Q S)) : SmL F (.ref fa) as S Q :=
 (call_ownC hF hT hfn hbody hsc hcell hloc hk hco hgen hnd hlen hn hbind vc).call
end
section
section
variable {F : Fx} {S : Sy} {X : String → Sy → Prop}
theorem while_okX (hF : F.Ok) (hH : Hd F) {test : Expr} {body : List Stmt} {pos : Pos} {Q : Fl → Sy → Prop} (k : Nat) (J : Nat → Sy → Prop) {n : Nat} (h0 : J n S) (hE : ∀ e s', EX 2 F.A F.C X e s' → F.E e s')
  (turn : ∀ E' n S, (F.at' F.C E').Ok → (∀ k ≤ 1, ∀ e s', EX k F.A F.C X e s' → E' e s') → J n S → (run (F.at' F.C E') k).vt test S fun c S₁ => br c ((run (F.at' F.C E') k).xs body S₁ (LpQ (fun S₂ => ∃ m, m < n ∧ J m S₂) Q)) (Q .next S₁)) : Leaf (SemS F (.While test body [] pos) S Q) := by
 refine ⟨fun s ρ I => ?_⟩
 refine wpAny_While ?_
 let E₂ : Value → Shared → Prop := notedBy (model pr F.w) F.A F.C.env (cameBackBy (model pr F.w) F.A F.C.env F.E)
 have hE₂ : ∀ k ≤ 1, ∀ e s', EX k F.A F.C X e s' → E₂ e s' := fun k hk e s' hx => by
  show wpAny _ F.A (noteFrame e F.C.env) _ _ s'
  exact note_ok hF hH (by lia) hx fun s'' hx' => back_ok hF hH hx' fun s3 hx'' => hE e s3 hx''
 have hF' := hF.at' E₂
 refine codeAny_whileLoop (fun n s' => ∃ S' ρ', J n S' ∧ Rx F.C S'.fs S'.own ρ' s' ∧ Ext F.C.bd s.heap ρ s'.heap ρ') ?_ n ⟨S, ρ, h0, I, Ext.refl⟩
 rintro n s' ⟨S', ρ', hJ, I', x'⟩
 refine wpAny_mono (Sm.get (F := F.at' F.C E₂) ((run_ok hF' k).vt (turn E₂ n S' hF' hE₂ hJ)) I') (fun b s₂ h => ?_) (fun _ _ x => x)
 refine Pg.el (h) fun c S₁ ρ₁ q I₁ hc x₁ => ?_
 subst hc
 induction b with
 | false =>
  refine (if_neg Bool.false_ne_true).mpr ?_
  exact wpAny_execs_nil fun _ => ⟨.next, S₁, ρ₁, q.f rfl, I₁, rfl, x'.trans x₁⟩
 | true =>
  refine (if_pos rfl).mpr ?_
  refine wpAny_mono (Sm.get (F := F.at' F.C E₂) ((run_ok hF' k).xs (q.t rfl)) I₁) (fun f s₃ h₃ => ?_) (fun _ _ x => x)
  refine Pg.el (h₃) fun f' S₂ ρ₂ q₂ I₂ hf x₂ => ?_
  have xx := (x'.trans x₁).trans x₂
  induction f' with
  | next => subst hf; obtain ⟨m, hm, hj⟩ := q₂.out; exact ⟨m, hm, S₂, ρ₂, hj, I₂, xx⟩
  | cont => subst hf; obtain ⟨m, hm, hj⟩ := q₂.out; exact ⟨m, hm, S₂, ρ₂, hj, I₂, xx⟩
  | brk => subst hf; exact fun _ => ⟨.next, S₂, ρ₂, q₂, I₂, rfl, xx⟩
  | ret v => obtain ⟨v', rfl, hv⟩ := hf; exact fun _ => ⟨.ret v, S₂, ρ₂, q₂, I₂, ⟨v', rfl, hv⟩, xx⟩
theorem gl_name (hF : F.Ok) {x : Str} {v : AV} {p : Pos} (hk : F.sc.names.lookup x = some .globalImplicit) (hd : (x == ("__debug__" : Str)) = false) (hv : F.gl x = some v) {s : Shared} {ρ : List Addr} (I : Rx F.C S.fs S.own ρ s) :
  ∃ v', (∀ h L ρ, Is h L ρ v v') ∧ ∀ (Q : Value → Shared → Prop), Q v' s → wpAny (model pr F.w) F.A (eval (.Name x p) F.C.env) Q F.E s := by
 refine el12 (hF.gl x v s F.C.env rfl rfl I.up hv) fun v' e1 e2 => ?_
 exact ⟨v', e1, fun Q hq => Name_function_global (by rw [hF.sc]; exact hF.kind) (by unfold Env.kindOf; rw [hF.sc]; exact hk) (e2 _ _ _ hq) hd⟩
theorem l_raiseV (hF : F.Ok) {np cpos pos p : Pos} {m : Str} {k : Nat} {Q : Fl → Sy → Prop} (hk : F.sc.names.lookup ("ValueError" : Str) = some .globalImplicit) (hv : F.gl "ValueError" = some (.typ "ValueError")) (hp : plS S = true) (hX : X "ValueError" S) (hE : ∀ e s', EX 0 F.A F.C X e s' → F.E e s') :
  Leaf (SemS F (.Raise (some (.Call (.Name "ValueError" np) [.Constant (.str m) k p] [] cpos)) none pos) S Q) := by
 refine ⟨fun s ρ I => ?_⟩
 refine el12 (gl_name hF (p := np) hk (by decide +kernel) hv I) fun v' h1 h2 => ?_
 obtain rfl : v' = .type "ValueError" := h1 s.heap (fun _ => False) []
 refine wpAny_Raise_call PySem.F.excCall_ValueError PySem.F.excRaise_ValueError hF.room.1 rfl (h2 _ ⟨rfl, ?_⟩)
 refine evalArgs_plain (spliced_cons (Constant_str (k := k) (pos := p) (spliced_nil ⟨rfl, by show 1 ≤ sizeLine; rw [sizeLine_eq]; exact nl0 [] (.num 1) (.num 16777216) rfl, fun h' e hm => hE _ _ ?_⟩)))
 have I₂ := I.toks (s.toks + 1) (Nat.le_succ_of_le I.tk)
 exact ex_made hF I₂ hp hm.of hX
theorem l_raiseS (hF : F.Ok) {np pos : Pos} {Q : Fl → Sy → Prop} (hk : F.sc.names.lookup ("StopIteration" : Str) = some .globalImplicit) (hv : F.gl "StopIteration" = some (.typ "StopIteration")) (hp : plS S = true) (hX : X "StopIteration" S) (hE : ∀ e s', EX 0 F.A F.C X e s' → F.E e s') :
  Leaf (SemS F (.Raise (some (.Name "StopIteration" np)) none pos) S Q) := by
 refine ⟨fun s ρ I => ?_⟩
 refine el12 (gl_name hF (p := np) hk (by decide +kernel) hv I) fun v' h1 h2 => ?_
 obtain rfl : v' = .type "StopIteration" := h1 s.heap (fun _ => False) []
 exact owsi_raiseC hF.room.1 (h2 _ ⟨rfl, rfl⟩) fun h' e hm => hE _ _ (ex_made hF I hp hm.of hX)
end
end
section
set_option tactic.hygienic true
section
variable {F : Fx} {S : Sy} {Q : AV → Sy → Prop}
theorem l_type_int {i : Int} (h : Q (.typ "int") S) : Leaf (SmL F (.typ "type") [.int i] S Q) := by
 refine ⟨?_⟩
 rintro s ρ fv vs I rfl hvs
 cases hvs with | cons hv hn => cases hn; obtain ⟨t, rfl⟩ := hv; exact call_type_of (typeIs_int _ _ _) (by decide +kernel) (Pg.same' I h rfl)
theorem l_int_int {i : Int} (h : Q (.int i) S) : Leaf (SmL F (.typ "int") [.int i] S Q) := by
 refine ⟨?_⟩
 rintro s ρ fv vs I rfl hvs
 cases hvs with | cons hv hn => cases hn; obtain ⟨t, rfl⟩ := hv; exact call_int_int (Pg.same' I h ⟨_, rfl⟩)
theorem l_isnot_typ {X : String} (h : Q (.bool false) S) : Leaf (Sm2 F Is (compareOp .IsNot) (.typ X) (.typ X) S Q) := by
 refine ⟨?_⟩
 rintro s ρ v u I rfl rfl
 exact isnot_type_same (Pg.same' I h rfl)
end
noncomputable def sioD (x : Str) (p : Int) : List (Str × AV) := [("_StringIO__newline", .str "\n"), ("_StringIO__buf", .str x), ("_StringIO__pos", .int p)]
noncomputable def ownX (sh : List (Str × AV)) (x : Str) (p : Int) (tl : List AO) : List AO := .dict sh :: .inst 783 0 :: .dict (sioD x p) :: .inst 648 2 :: tl
section
variable {w : World} {T : Addr → Obj → Prop}
theorem index1_ok (hT : TopOk w T gl) (hfn : FnIs T 114 (fnAt 28) .none) {m : Str} : FnOk w T 1 114 [.int 1, .str m] (.int 1) := by
 refine fnI hT hfn (names := ["n", "what"]) (rest := []) (avs := [.int 1, .str m]) (by kernel_rfl) rfl ?_ ?_
 ·exact fun _ _ _ _ _ _ _ _ _ _ _ _ hv => bind2 hv fun _ _ => by kernel_rfl
 ·intro A C E _ hF _
  refine (run_ok hF 20).xs ?_
  walk_at "vgo"
  refine l_type_int ?_
  walk_at "vgo"
  refine l_isnot_typ ?_
  walk_at "vgo"
  refine l_int_int ?_
  walk_at "vgo"
  rfl
theorem fnIs_ok {F : Fx} (hF : F.Ok) {fa : Addr} {f : Arguments × List Stmt × Scope} {df : Value} (h : FnIs F.T fa f df) : (∃ o fd, F.C.keep fa o ∧ o.data = .func fd) ∨ ∃ id b, F.C.keep fa { cls := .type "builtin_function_or_method", data := .fields #[.builtin id, .ref b] } := by
 obtain ⟨nm, qn, kd, dc, pm, an, cd, ct, hf⟩ := h
 refine el12 (hf.obj) fun o h1 h2 => ?_
 exact .inl ⟨o, _, (hF.top _ _ h1).1, h2⟩
variable {F : Fx} {sh : List (Str × AV)} {x : Str} {p : Int} {tl : List AO} {fs : Fs}
theorem check_ok (hF : F.Ok) (hT : TopOk F.w F.T F.gl) (hfn : FnIs F.T 432 (mthAt 34 3) .none) (hn : 1 ≤ F.n) {Q : AV → Sy → Prop} (h : Q .none ⟨fs, ownX sh x p tl⟩) : SmL F (.ref 432) [.own 3] ⟨fs, ownX sh x p tl⟩ Q := by
 obtain ⟨nm, qn, kd, dc, pm, an, cd, ct, hf⟩ := hfn
 refine call_own hF hT hf (n := F.n - 1) (names := ["self"]) (rest := []) (avs := [.own 3]) rfl rfl (by kernel_rfl) (by kernel_rfl) (by kernel_rfl) (by kernel_rfl) (by kernel_rfl) (by kernel_rfl) rfl (by exact (Nat.le_of_eq (Nat.sub_add_cancel hn))) ?_ ?_
 ·intro s B ρ vs _ hv
  cases hv with | cons h1 h2 => cases h2; rename_i v1; exact ⟨[v1], BindsTo.of_eq (by kernel_rfl), .cons h1 .nil⟩
 ·intro A C E _ hF'
  refine (run_ok hF' 20).xs ?_
  walk_at "vgo"
  exact h
theorem read_ok (hF : F.Ok) (hT : TopOk F.w F.T F.gl) (hgl : F.gl = gl) (hfn : FnIs F.T 594 (mthAt 34 25) (.ref 587)) (hck : FnIs F.T 432 (mthAt 34 3) .none) (hix : FnIs F.T 114 (fnAt 28) .none) {tk : Tok} (hdf : F.T 587 { cls := .type "tuple", data := .seq #[.int (-1) tk] }) (hn : 2 ≤ F.n)
  (h0 : 0 ≤ p) (hp : p ≤ x.length) (hx : x.length ≤ 1000000) {Q : AV → Sy → Prop} (he : p = x.length → Q (.str "") ⟨fs, ownX sh x p tl⟩) (hlt' : p < x.length → Q (.str (Txt.slice x (some p) (some (p + 1)))) ⟨fs, ownX sh x (p + 1) tl⟩) :
  Leaf (SmL F (.ref 594) [.own 3, .int 1] ⟨fs, ownX sh x p tl⟩ Q) := by
 refine ⟨?_⟩
 obtain ⟨nm, qn, kd, dc, pm, an, cd, ct, hf⟩ := hfn
 refine call_own hF hT hf (n := F.n - 1) (names := ["self", "size"]) (rest := ["start", "stop"]) (avs := [.own 3, .int 1]) rfl rfl (by kernel_rfl) (by kernel_rfl) (by kernel_rfl) (by kernel_rfl) (by kernel_rfl) (by kernel_rfl) rfl (by exact (Nat.le_of_eq (Nat.sub_add_cancel (nl1 [_] (.num 2) vr0 (.num 1) vr0 rfl hn)))) ?_ ?_
 ·intro s B ρ vs hup hv
  cases hv with | cons h1 h2 => cases h2 with | cons h2 h3 => cases h3; rename_i v1 v2; exact ⟨[v1, v2], BindsTo.of_defaults rfl (hup _ _ hdf) rfl (by with_unfolding_all rfl) (by kernel_rfl), .cons h1 (.cons h2 .nil)⟩
 ·intro A C E _ hF'
  obtain ⟨w, FA, FC, FE, fsc, fgl, T, n⟩ := F
  dsimp only at hgl hT hix hn hF' hck hdf
  subst hgl
  have hI := index1_ok (m := "StringIO.read of a size that is no exact int") hT hix
  have hsl : 1000000 ≤ sizeLine := by rw [sizeLine_eq]; exact nl0 [] (.num 1000000) (.num 16777216) rfl
  refine (run_ok hF' 20).xs ?_
  walk_at "vgo"
  ·exact fn_okF hF' hI
  ·refine ⟨fn_call hF' hI (by show 1 ≤ n - 1; exact nl2 [_, _] (.num 2) vr0 vr0 (.add vr1 (.num 1)) (.num 1) vr1 rfl hn (Nl.sb _ _)) rfl ?_⟩
   walk_at "vgo"
   ·exact fnIs_ok hF' hck
   ·refine ⟨check_ok hF' hT hck (by show 1 ≤ n - 1; exact nl2 [_, _] (.num 2) vr0 vr0 (.add vr1 (.num 1)) (.num 1) vr1 rfl hn (Nl.sb _ _)) ?_⟩
    rcases Int.lt_or_eq_of_le hp with hlt | heq
    ·have h1 : decide (p ≥ (x.length : Int)) = false := by simpa using hlt
     walk_at "vgo"
     ·exact nl2 [_, _] vr0 (.num 1000000) (.num 1000000) vr1 vr0 vr1 rfl hx hsl
     ·exact nl2 [_, _] vr0 (.num 1000000) (.num 1000000) vr1 vr0 vr1 rfl hx hsl
     ·exact hlt' hlt
     ·exact nl2 [_, _] vr0 (.num 1000000) (.num 1000000) vr1 vr0 vr1 rfl hx hsl
     ·have e : (x.length : Int) = p + 1 := by simp at hc; lia
      rw [e]; exact hlt' hlt
    ·have h1 : decide (p ≥ (x.length : Int)) = true := by simp [heq]
     walk_at "vgo"
     ·exact nl2 [_, _] vr0 (.num 1000000) (.num 1000000) vr1 vr0 vr1 rfl hx hsl
     ·exact he heq
end
end
section
set_option tactic.hygienic true
noncomputable def wchA : Str := "abcdfeghijklmnopqrstuvwxyzABCDEFGHIJKLMNOPQRSTUVWXYZ0123456789_"
noncomputable def wch : Str := wchA ++ "ßàáâãäåæçèéêëìíîïðñòóôõöøùúûüýþÿÀÁÂÃÄÅÆÇÈÉÊËÌÍÎÏÐÑÒÓÔÕÖØÙÚÛÜÝÞ"
noncomputable def shD (st tok : AV) (ln : Int) : List (Str × AV) :=
 [("instream", .own 3), ("infile", .none), ("posix", .bool true), ("eof", .none), ("commenters", .str ""), ("wordchars", .str wch), ("whitespace", .str " \t\r\n"), ("whitespace_split", .bool true), ("quotes", .str "'\""), ("escape", .str "\\"),
  ("escapedquotes", .str "\""), ("state", st), ("pushback", .own 4), ("lineno", .int ln), ("debug", .int 0), ("token", tok), ("filestack", .own 5), ("source", .none), ("_punctuation_chars", .str "")]
section
variable {F : Fx}
theorem Fx.Ok.in1 (hF : F.Ok) {n : Nat} (hn : n + 1 ≤ F.n) (E : Value → Shared → Prop) : (Fx.mk F.w F.A.in1 F.C E F.sc F.gl F.T n).Ok :=
 ⟨hF.frm, hF.pos, hF.sc, hF.kind, ⟨hF.room.1, by have := hF.room.2.1; show F.A.depth + n ≤ 990; exact nl2 [_, _, _] (.add vr0 vr1) (.num 990) (.add vr2 (.num 1)) vr1 (.add vr0 vr2) (.num 990) rfl this hn, by have := hF.room.2.2; show F.A.units + 1 + 10 * n ≤ 9890; exact nl3 [_, _, _] (.add vr0 (.mulL 10 vr1)) (.num 9890) (.add vr2 (.num 1)) vr1 (.mulL 9 (.add vr2 (.num 1))) (.mulL 9 vr1) (.add (.add vr0 (.num 1)) (.mulL 10 vr2)) (.num 9890) rfl this hn (Nat.mul_le_mul_left 9 hn)⟩, hF.top, hF.lim, hF.gl, hF.cls⟩
variable {st tok : AV} {ln : Int} {x : Str} {p : Int} {tl : List AO} {fs : Fs}
theorem pget_ok (hF : F.Ok) (hT : TopOk F.w F.T F.gl) (hfn : FnIs F.T 714 (mthAt 43 1) .none) (hn : 1 ≤ F.n) {Q : AV → Sy → Prop} (h : Q (.str "") ⟨fs, ownX (shD st tok ln) x p tl⟩) : SmC F 714 [.own 1] ⟨fs, ownX (shD st tok ln) x p tl⟩ Q := by
 obtain ⟨nm, qn, kd, dc, pm, an, cd, ct, hf⟩ := hfn
 refine call_ownC hF hT hf (n := F.n - 1) (names := ["self"]) (rest := []) (avs := [.own 1]) rfl rfl (by kernel_rfl) (by kernel_rfl) (by kernel_rfl) (by kernel_rfl) (by kernel_rfl) (by kernel_rfl) rfl (by exact (Nat.le_of_eq (Nat.sub_add_cancel hn))) ?_ ?_
 ·intro s B ρ vs _ hv
  cases hv with | cons h1 h2 => cases h2; rename_i v1; exact ⟨[v1], BindsTo.of_eq (by kernel_rfl), .cons h1 .nil⟩
 ·intro A C E _ hF'
  refine (run_ok hF' 20).xs ?_
  walk_at "vgo"
  exact h
theorem l_pc (hF : F.Ok) (hT : TopOk F.w F.T F.gl) (hfn : FnIs F.T 714 (mthAt 43 1) .none) (hn : 2 ≤ F.n) {Q : AV → Sy → Prop} (h : Q (.str "") ⟨fs, ownX (shD st tok ln) x p tl⟩) :
  Leaf (Sm1 F Is (fun u => getAttr u "punctuation_chars" true) (.own 1) ⟨fs, ownX (shD st tok ln) x p tl⟩ Q) := by
 refine ⟨fun s ρ v I hv => ?_⟩
 obtain ⟨xx, dx, od, xs, nn, m, rfl, X⟩ := inst_facts (S := ⟨fs, ownX (shD st tok ln) x p tl⟩) (c := 783) (d := 0) (es := shD st tok ln) I rfl hv
 obtain ⟨K, hK, hc⟩ := hF.frag I
 have hc' := hc
 simp only [clsK, clsMk, Bool.and_eq_true, beq_iff_eq] at hc'
 obtain ⟨p1, p2, p3, p4, cd, p5, p6⟩ := clsPl_of (clsK_inst hc (C := 783) (n := "state") (by decide +kernel)).1
 obtain ⟨l, hr, hl⟩ := any_some hc'.2.2
 obtain ⟨rest, rfl⟩ : ∃ rest, l = .ref 714 :: rest := by
  induction l with
  | nil => contradiction
  | cons a r => exact ⟨r, by rw [show a = .ref 714 by simpa using hl]⟩
 have hty := hc'.2.1.2
 have hsp : ∀ n r, fastLookup "property" n = some r → specialIn K (.ref 715) n = some r := fun n r e => by unfold specialIn; rw [hty]; exact e
 have hn' := hsp "__get__" (some (.builtin "property.__get__")) (by kernel_rfl)
 have ht : takesIn K (.ref 715) = some true := by unfold takesIn; rw [hsp "__set__" (some (.builtin "property.__set__")) (by kernel_rfl)]
 refine get_bind hK X.ia p1 (findObj_data (by rw [p5]; rfl) hc'.2.1.1.2 hn' ht) p2 (wpAny_call (prop_get (s := { s with toks := s.toks + 1 }) hK hr ?_))
 have hin := hF.in1 (n := F.n - 1) (by exact (Nat.le_of_eq (Nat.sub_add_cancel (nl1 [_] (.num 2) vr0 (.num 1) vr0 rfl hn)))) (fun _ _ => False)
 have I₁ := I.toks (s.toks + 1) (Nat.le_succ_of_le I.tk)
 refine codeAny_mono (codeAny_toks_of (s := { s with toks := s.toks + 1 }) (Nat.le_succ_of_le I.tk) (pget_ok (Q := fun a S' => a = .str "" ∧ S' = ⟨fs, ownX (shD st tok ln) x p tl⟩) hin hT hfn (by show 1 ≤ F.n - 1; exact nl2 [_, _] (.num 2) vr0 vr0 (.add vr1 (.num 1)) (.num 1) vr1 rfl hn (Nl.sb _ _)) ⟨rfl, rfl⟩ _ ρ [.ref xx] I₁ (.cons hv .nil))) fun r s' z => ?_
 obtain ⟨ht, z⟩ := z
 rcases r with e | (_ | _ | _ | v)
 ·exact z.elim
 ·exact z.elim
 ·exact z.elim
 ·exact z.elim
 ·obtain ⟨a, S', ρ', ⟨rfl, rfl⟩, I', hv', x'⟩ := z ht
  obtain ⟨tt, rfl⟩ := hv'
  exact wpAny_pure fun _ => ⟨_, _, ρ', h, I', ⟨tt, rfl⟩, x'⟩
end
end
section
open PySem.Builtin PySem.Builtin.ObjectAttr
noncomputable abbrev dqT := "collections.deque"
noncomputable def dqO : Obj := { cls := .type "collections.deque", data := .fields #[.none, rawInt 0] }
theorem dq_called : TypeCalled dqT "collections.deque.__new__" "collections.deque.__init__" where
 notType := by decide +kernel
 canCreate := by kernel_rfl
 mro := ⟨.type dqT, [.type "object"], by rw [mroOf_type]; kernel_rfl⟩
 made := by kernel_rfl
 plain := by decide +kernel
 sub := by rw [isSubtype_type]; kernel_rfl
 init := .of (owner := dqT) (n := "__init__") (by rw [typeLookup_type, builtinLookup_eq_fast]; kernel_rfl) (by decide +kernel) (by decide +kernel) (by decide +kernel) (by first | exact .inl (by decide +kernel) | exact .inr (by decide +kernel)) (by rw [isSubtype_type]; kernel_rfl)
theorem dq_tcall : checkTypeCall dqT ⟨[], []⟩ = pure () := by kernel_rfl
theorem dq_ncall : checkBuiltinCall "collections.deque.__new__" ⟨[.type dqT], []⟩ = pure () := by kernel_rfl
theorem dq_entryN : entryFor table "collections.deque.__new__" = some Builtin.«collections.deque.__new__» := entryFor_of_tree (by kernel_rfl)
theorem dq_entryI : entryFor table "collections.deque.__init__" = some Builtin.«collections.deque.__init__» := entryFor_of_tree (by kernel_rfl)
theorem dq_args (a : Value) : argsOk "collections.deque.__init__" ⟨[a], []⟩ := by unfold argsOk; kernel_rfl
theorem dq_noDict : typeHasDict (.type dqT) = false := by kernel_rfl
theorem dq_len : Slot dqT "__len__" "collections.deque.__len__" := .of (owner := dqT) (n := "__len__") (by rw [typeLookup_type, builtinLookup_eq_fast]; kernel_rfl) (by decide +kernel) (by decide +kernel) (by decide +kernel) (by first | exact .inl (by decide +kernel) | exact .inr (by decide +kernel)) (by rw [isSubtype_type]; kernel_rfl)
theorem dq_entryL : entryFor table "collections.deque.__len__" = some Builtin.«collections.deque.__len__» := entryFor_of_tree (by kernel_rfl)
theorem dq_argsL (a : Value) : argsOk "collections.deque.__len__" ⟨[a], []⟩ := by unfold argsOk; kernel_rfl
theorem dq_noBool : typeLookup (.type dqT) "__bool__" = pure none := by rw [typeLookup_type, builtinLookup_eq_fast]; kernel_rfl
section
variable {w : World} {A : Around} {E : Value → Shared → Prop} {s : Shared}
theorem dq_truthy {a : Addr} {Q : Bool → Shared → Prop} (ho : s.heap.get? a = some dqO) (h : Q false { s with toks := s.toks + 1 + 1 }) : wpAny (model pr w) A (truthy (.ref a)) Q E s := by
 have hT : s.TypeIs (.ref a) dqT := ⟨_, ho, rfl⟩
 have body : wpAny (model pr w) A.in1 (Builtin.«len» ⟨[.ref a], []⟩) (fun fin s' => ∃ r, fin = .done (.ret r) ∧ (r = .int 0 (s.toks + 1) ∧ Q false s')) E s := by
  unfold Builtin.«len»
  refine wpAny_bind (m := oneArg "len" _) (wpAny_pure ?_)
  refine wpAny_bind (m := callSpecial? (.ref a) (Str.ofString "__len__")) (wpAny_callSpecial?_slot (name := Str.ofString "__len__") hT dq_len (wpAny_call_entry dq_len hT dq_entryL ?_ (dq_argsL _)))
  show wpAny _ _ (do retInt (← (do return (← fieldsOf (.ref a)).size - 2))) _ _ s
  refine wpAny_bind (wpAny_bind (wpAny_bind (wpAny_load ho (wpAny_pure (wpAny_pure (wpAny_bind (wpAny_mkInt (wpAny_pure ⟨_, rfl, ?_⟩))))))))
  refine wpAny_bind (wpAny_holding (wpAny_pure ?_))
  refine wpAny_bind (wpAny_letGo ?_)
  show wpAny _ _ (if ((0 : Nat) : Int) < 0 then _ else _) _ _ _
  rw [if_neg (by lia)]
  show wpAny _ _ (if ((0 : Nat) : Int) ≥ 2 ^ 63 then _ else _) _ _ _
  rw [if_neg (by lia)]
  exact wpAny_bind (wpAny_mkInt (wpAny_pure ⟨_, rfl, rfl, h⟩))
 have key : wpAny (model pr w) A (runValue (.builtin "len" ⟨[.ref a], []⟩)) (fun r s' => r = .int 0 (s.toks + 1) ∧ Q false s') E s := by
  refine wpAny_runValue (codeAny_builtin entry_len ?_)
  rw [Around.under_plainId plain_len _]
  exact wpAny_mono body (fun fin s' h' => by obtain ⟨r, rfl, hq⟩ := h'; exact hq) fun _ _ e => e
 unfold truthy
 first
  | refine wpAny_bind (wpAny_callSpecial?_none (name := Str.ofString "__bool__") hT dq_noBool ?_)
  | refine wpAny_bind (wpAny_pure (wpAny_bind (wpAny_callSpecial?_none (name := Str.ofString "__bool__") hT dq_noBool ?_)))
 first
  | refine wpAny_bind (wpAny_specialOf (name := Str.ofString "__len__") hT dq_len.lookup ?_)
  | refine wpAny_bind (wpAny_pure (wpAny_bind (wpAny_specialOf (name := Str.ofString "__len__") hT dq_len.lookup ?_)))
 first
  | exact wpAny_bind (wpAny_mono key (fun r s' h' => by obtain ⟨rfl, hq⟩ := h'; exact wpAny_pure hq) fun _ _ e => e)
  | exact wpAny_bind (wpAny_pure (wpAny_bind (wpAny_mono key (fun r s' h' => by obtain ⟨rfl, hq⟩ := h'; exact wpAny_pure hq) fun _ _ e => e)))
noncomputable abbrev dqU : Obj → Obj := Obj.mapFields fun x => x.setIfInBounds 0 Value.none
theorem dq_call {Q : Value → Shared → Prop} (h : Q (.ref s.heap.objs.size) { s with heap := (s.heap.push dqO).update s.heap.objs.size dqU }) : wpAny (model pr w) A (call (.type dqT) []) Q E s := by
 refine callType_codes (Q₁ := fun v s₁ => v = .ref s.heap.objs.size ∧ s₁ = { s with heap := s.heap.push dqO }) dq_called dq_tcall dq_entryI ?_ fun obj s₁ h₁ => ?_
 ·refine codeAny_of_tree ?_
  show wpAny _ A.in1.in1 (do checkBuiltinCall "collections.deque.__new__" ⟨[.type dqT], []⟩; again (.builtin "collections.deque.__new__" ⟨[.type dqT], []⟩)) _ _ s
  refine wpAny_bind (wpAny_of_eq dq_ncall (wpAny_pure ⟨plainId_quiet dq_called.plain _, codeAny_builtin dq_entryN ?_⟩))
  rw [Around.under_plainId dq_called.plain _]
  have hsub : isSubtype (.type dqT) (.type Deque.ty) = pure true := dq_called.sub
  obtain ⟨hp, g, d, tk, os⟩ := s
  unfold Builtin.«collections.deque.__new__» Deque.newArgs
  refine wpAny_bind (wpAny_bind (wpAny_pure ?_))
  repeat (any_goals (first | assumption | wp_step))
  exact ⟨rfl, rfl⟩
 ·obtain ⟨rfl, rfl⟩ := h₁
  have ho : (s.heap.push dqO).get? s.heap.objs.size = some dqO := Heap.get?_push_size _ rfl
  refine ⟨⟨_, ho, rfl⟩, dq_args _, ?_⟩
  obtain ⟨hp, g, d, tk, os⟩ := s
  unfold Builtin.«collections.deque.__init__»
  repeat (any_goals (first | assumption | wp_step))
  exact ⟨rfl, h⟩
end
section
variable {F : Fx}
theorem l_deque {fs : Fs} {own : List AO} {Q : AV → Sy → Prop} (h : Q (.own own.length) ⟨fs, own ++ [.obj dqO]⟩) : Leaf (SmL F (.typ dqT) [] ⟨fs, own⟩ Q) := by
 refine ⟨?_⟩
 rintro s ρ fv vs I rfl hvs
 cases hvs
 refine dq_call fun ht => ?_
 have hl : own.length = ρ.length := I.len
 have I₁ := I.alloc (.obj dqO) dqO rfl rfl s.toks I.tk
 have I₂ := I₁.update (k := own.length) (a := s.heap.objs.size) (ao := .obj dqO) (o := dqO) (o' := dqO) (f := dqU) (by simp) (by rw [hl, List.getElem?_append_right (Nat.le_refl _), Nat.sub_self]; rfl) (Heap.get?_push_size _ rfl) rfl rfl rfl s.toks I.tk
 rw [show (own ++ [AO.obj dqO]).set own.length (.obj dqO) = own ++ [.obj dqO] by rw [List.set_append_right _ _ (Nat.le_refl _), Nat.sub_self]; rfl] at I₂
 refine ⟨_, _, _, h, I₂, ⟨s.heap.objs.size, by rw [hl, List.getElem?_append_right (Nat.le_refl _), Nat.sub_self]; rfl, rfl⟩, ?_⟩
 have hs : Heap.SameBut s.heap.objs.size (s.heap.push dqO) ((s.heap.push dqO).update s.heap.objs.size dqU) := Heap.SameBut.update ..
 exact (I.allocExt dqO).trans (Ext.keeps fun b o _ hb e => (hs.2 b fun q => hb (by rw [q]; exact List.mem_append_right _ List.mem_cons_self)).trans e)
theorem l_dqT {S : Sy} {Q : Bool → Sy → Prop} {k : Nat} (hk : S.own[k]? = some (.obj dqO)) (h : Q false S) : Leaf (Sm1 F IsB truthy (.own k) S Q) := by
 refine ⟨fun s ρ v I hv => ?_⟩
 obtain ⟨a, ha, rfl⟩ := hv
 obtain ⟨a', o, e1, e2, rfl⟩ := I.mine k _ hk
 rw [ha] at e1; obtain rfl := Option.some.inj e1
 exact dq_truthy e2 (Pg.same I _ h rfl)
theorem l_isstr {S : Sy} {Q : AV → Sy → Prop} {x : Str} (h : Q (.bool true) S) : Leaf (SmL F (.blt "isinstance") [.str x, .typ "str"] S Q) := by
 refine ⟨?_⟩
 rintro s ρ fv vs I rfl hvs
 cases hvs with | cons hv hn => cases hn with | cons hu hn => cases hn; obtain ⟨t, rfl⟩ := hv; subst hu; exact PySem.IsiPair.str_str (Pg.same' I h rfl)
end
end
section
inductive Md where
 | sp
 | wd
 | q (c : Nat)
 | en
noncomputable def wsC (c : Nat) : Bool := c == 32 || c == 9 || c == 13 || c == 10
noncomputable def qtC (c : Nat) : Bool := c == 39 || c == 34
noncomputable abbrev TokR := Option (Option (List Nat) × List Nat × Bool)
noncomputable def rdm : Md → List Nat → List Nat → TokR
 | .sp, _, [] => some (none, [], true)
 | .wd, tok, [] => some (some tok, [], true)
 | .q _, _, [] => none
 | .en, _, _ => some (none, [], true)
 | .sp, _, c :: r => if wsC c then rdm .sp [] r else if qtC c then rdm (.q c) [] r else rdm .wd [c] r
 | .wd, tok, c :: r => if wsC c then some (some tok, r, false) else if qtC c then rdm (.q c) tok r else rdm .wd (tok ++ [c]) r
 | .q d, tok, c :: r => if c = d then rdm .wd tok r else rdm (.q d) (tok ++ [c]) r
noncomputable def okm : Md → List Nat → Bool
 | _, [] => true
 | .en, _ => true
 | .sp, c :: r => if wsC c then okm .sp r else if qtC c then okm (.q c) r else c != 92 && okm .wd r
 | .wd, c :: r => if wsC c then okm .sp r else if qtC c then okm (.q c) r else c != 92 && okm .wd r
 | .q d, c :: r => (d == 39 || d == 34 && c != 92) && (if c = d then okm .wd r else okm (.q d) r)
noncomputable def mst : Md → AV
 | .sp => .str " "
 | .wd => .str "a"
 | .q c => .str (tx [c])
 | .en => .none
noncomputable def inv : Md → List Nat → Bool → Prop
 | .sp, tok, qd => tok = [] ∧ qd = false
 | .wd, tok, qd => qd = true ∨ tok ≠ []
 | .q c, _, _ => c = 39 ∨ c = 34
 | .en, tok, qd => tok = [] ∧ qd = false
noncomputable def stR (m : Md) (tok : List Nat) (qd : Bool) (l : List Nat) (i : Nat) (ln : Int) (nc : Option AV) (tl : List AO) : Sy :=
 ⟨[("self", some (.own 1)), ("quoted", some (.bool qd)), ("escapedstate", some (.str " ")), ("nextchar", nc), ("result", none)], ownX (shD (mst m) (.str (tx tok)) ln) (tx l) (i : Int) tl⟩
theorem leaf_then {F : Fx} {t : Stmt} {S : Sy} {Q' : Fl → Sy → Prop} (P : Sy → Prop) (h : Leaf (SemS F t S (fun f S' => f = .next ∧ P S'))) (k : ∀ S', P S' → Q' .next S') : Leaf (SemS F t S Q') := by
 refine ⟨fun s ρ I => wpAny_mono (h.out s ρ I) (fun b s' y ht => ?_) fun _ _ e => e⟩
 obtain ⟨a, S', ρ', ⟨rfl, hP⟩, r1, r2, r3⟩ := y ht
 exact ⟨_, S', ρ', k S' hP, r1, r2, r3⟩
noncomputable def endT (t : Option (List Nat)) (qd : Bool) : Prop := match t with | none => qd = false | some t => qd = true ∨ t ≠ []
noncomputable def endM (m : Md) (i : Nat) (l : List Nat) : Prop := match m with | .en => i = l.length | _ => True
inductive InvR (R : TokR) (l : List Nat) (tl : List AO) (n : Nat) (S₂ : Sy) : Prop
 | mk (m : Md) (tok : List Nat) (qd : Bool) (i : Nat) (ln : Int) (nc : Option AV) (hn : n = l.length - i) (hi : i ≤ l.length) (hm : endM m i l) (hR : rdm m tok (l.drop i) = R) (hok : okm m (l.drop i) = true) (hv : inv m tok qd) (ht : tok.length ≤ i) (hS : S₂ = stR m tok qd l i ln nc tl) : InvR R l tl n S₂
inductive EndR (R : TokR) (l : List Nat) (tl : List AO) (S : Sy) : Prop
 | mk (t : Option (List Nat)) (i : Nat) (en : Bool) (qd : Bool) (ln : Int) (nc : AV) (hi : i ≤ l.length) (hR : R = some (t, l.drop i, en)) (he : en = true → i = l.length) (ht : endT t qd)
  (hS : S = stR (if en then .en else .sp) (t.getD []) qd l i ln (some nc) tl) : EndR R l tl S
theorem ct_ws (c : Nat) : Txt.contains (Str.ofString " \t\r\n") (tx [c]) = wsC c := by
 rw [show (Str.ofString " \t\r\n") = tx [32, 9, 13, 10] by kernel_rfl, tx_contains, Bool.eq_iff_iff]; simp [wsC]; lia
theorem ct_qt (c : Nat) : Txt.contains (Str.ofString "'\"") (tx [c]) = qtC c := by
 rw [show (Str.ofString "'\"") = tx [39, 34] by kernel_rfl, tx_contains, Bool.eq_iff_iff]; simp [qtC]
theorem ct_no (c : Nat) : Txt.contains (Str.ofString "") (tx [c]) = false := by
 rw [show (Str.ofString "") = tx [] by kernel_rfl, tx_contains]; simp
theorem ct_esc (c : Nat) : Txt.contains (Str.ofString "\\") (tx [c]) = decide (c = 92) := by
 rw [show (Str.ofString "\\") = tx [92] by kernel_rfl, tx_contains]; simp
theorem ct_eq (c : Nat) : Txt.contains (Str.ofString "\"") (tx [c]) = decide (c = 34) := by
 rw [show (Str.ofString "\"") = tx [34] by kernel_rfl, tx_contains]; simp
theorem ct_w {c : Nat} (h : qtC c = true) : Txt.contains wch (tx [c]) = false := by
 have : c = 39 ∨ c = 34 := by simpa [qtC] using h
 rcases this with rfl | rfl <;> decide +kernel
theorem sq_nl (c : Nat) : seq (tx [c]) (Str.ofString "\n") = decide (c = 10) := by
 rw [show (Str.ofString "\n") = tx [10] by kernel_rfl, tx_seq, Bool.eq_iff_iff]; simp
theorem sq_sp {c : Nat} (h : c = 39 ∨ c = 34) : seq (tx [c]) (Str.ofString " ") = false := by
 rcases h with rfl | rfl <;> decide +kernel
theorem strsAre_of {P : Addr → Obj → Prop} {vs : List Value} : ∀ {ys : List Str}, IsDs P vs (ys.map Dt.str) → StrsAre vs ys := by
 induction vs with
 | nil => intro ys h; induction ys with | nil => exact .nil | cons _ _ => contradiction
 | cons v r ih =>
  intro ys h
  induction ys with
  | nil => contradiction
  | cons y t => cases h with | cons a b => cases a; exact .cons _ _ (ih b)
theorem l_inTup {F : Fx} {S : Sy} {Q : AV → Sy → Prop} {x : Str} {ds : List Dt} (ys : List Str) (e : ds = ys.map Dt.str) (h : Q (.bool (ys.any (· == x))) S) : Leaf (Sm2 F Is (compareOp .In) (.str x) (.dat (.tup ds)) S Q) := by
 refine ⟨?_⟩
 subst e
 rintro s ρ v u I ⟨t, rfl⟩ hu
 cases hu with | tup hp hds => exact in_tuple_strs ⟨_, hp.1, rfl, _, rfl⟩ (strsAre_of hds) (Pg.same' I h rfl)
section
variable {F : Fx} {tl : List AO} {fs : Fs}
structure LexFs (T : Addr → Obj → Prop) : Prop where
 tok : FnIs T 751 (mthAt 43 6) .none
 get : FnIs T 744 (mthAt 43 5) .none
 nxt : FnIs T 780 (mthAt 43 10) .none
 itr : FnIs T 773 (mthAt 43 9) .none
 pun : FnIs T 714 (mthAt 43 1) .none
 read : FnIs T 594 (mthAt 34 25) (.ref 587)
 chk : FnIs T 432 (mthAt 34 3) .none
 idx : FnIs T 114 (fnAt 28) .none
 df : ∃ tk, T 587 { cls := .type "tuple", data := .seq #[.int (-1) tk] }
theorem turn_ok (hF : F.Ok) (hT : TopOk F.w F.T F.gl) (hgl : F.gl = gl) (hL : LexFs F.T) (hn : 3 ≤ F.n) {l : List Nat} (hl : l.length ≤ 1000000) {X : String → Sy → Prop} (htl : tl.all aoP = true)
  (hE : ∀ k ≤ 1, ∀ e s', EX k F.A F.C X e s' → F.E e s') {R : TokR} (hX : R = none → ∀ S, X "ValueError" S)
  {m : Md} {tok : List Nat} {qd : Bool} {i : Nat} {ln : Int} {nc : Option AV} (hi : i ≤ l.length) (hen : (match m with | .en => i = l.length | _ => True)) (hR : rdm m tok (l.drop i) = R) (hok : okm m (l.drop i) = true) (hinv : inv m tok qd) (hti : tok.length ≤ i)
  {body : List Stmt} (hb : ∃ test pos rest, (mthAt 43 6).2.1[2]? = some (.While test body rest pos)) (hsc : F.sc = (mthAt 43 6).2.2) :
  (run F 32).xs body (stR m tok qd l i ln nc tl) (LpQ (fun S₂ => ∃ n, n < l.length - i ∧ InvR R l tl n S₂)
   (fun f S' => f = .next ∧ EndR R l tl S')) := by
 obtain ⟨test, pos, rest, hb⟩ := hb
 obtain ⟨w, A, C, E, sc, fgl, T, n⟩ := F
 dsimp only at hgl hsc hT hL hn hE
 subst hgl hsc
 injection hb with hb
 injection hb with h1 h2 h3 h4
 subst h2
 clear h1 h3 h4
 generalize hG : LpQ _ _ = G
 revert G; refine opq ?_; intro G hG
 have hBrk : ∀ S', EndR R l tl S' → G .brk S' := fun S' h => by subst hG; exact ⟨rfl, h⟩
 obtain ⟨tk, hdf⟩ := hL.df
 walk_at "vgo"
 refine l_pc hF hT hL.pun (by show 2 ≤ n; exact nl1 [_] (.num 3) vr0 (.num 2) vr0 rfl hn) ?_
 walk_at "vgo"
 ·exact Nat.zero_le _
 ·exact fnIs_ok hF hL.read
 ·refine read_ok hF hT rfl hL.read hL.chk hL.idx hdf (by show 2 ≤ n; exact nl1 [_] (.num 3) vr0 (.num 2) vr0 rfl hn) (Int.natCast_nonneg i) (by rw [txl]; exact Int.ofNat_le.mpr hi) (by rw [txl]; exact hl) (fun he => ?_) fun hlt => ?_
  ·
   have hie : i = l.length := Int.ofNat_inj.mp he
   subst hie
   rw [List.drop_length] at hR
   have hend : ∀ (t : Option (List Nat)) (qd' : Bool) (ln' : Int), R = some (t, [], true) → (match t with | none => qd' = false | some t => qd' = true ∨ t ≠ []) → G .brk (stR .en (t.getD []) qd' l l.length ln' (some (.str "")) tl) := fun t qd' ln' h1 h2 =>
    hBrk _ ⟨t, l.length, true, qd', ln', .str "", Nat.le_refl _, by rw [List.drop_length]; exact h1, fun _ => rfl, h2, rfl⟩
   induction m with
   | en =>
    obtain ⟨rfl, rfl⟩ := hinv
    walk_at "vgo"
    exact hend none false ln hR.symm rfl
   | sp =>
    obtain ⟨rfl, rfl⟩ := hinv
    walk_at "vgo"
    all_goals try exact Nat.zero_le _
    exact hend none false ln hR.symm rfl
   | wd =>
    walk_at "vgo"
    all_goals try exact Nat.zero_le _
    ·show 2 ≤ sizeLine; rw [sizeLine_eq]; exact nl0 [] (.num 2) (.num 16777216) rfl
    refine l_inTup ["a", "c"] rfl ?_
    walk_at "vgo"
    all_goals try exact Nat.zero_le _
    exact hend (some tok) qd ln hR.symm hinv
   | q d =>
    have f1 : seq (tx [d]) (Str.ofString " ") = false := sq_sp hinv
    have f2 : Txt.contains (Str.ofString "'\"") (tx [d]) = true := by rw [ct_qt]; rcases hinv with rfl | rfl <;> rfl
    walk_at "vgo"
    all_goals try exact Nat.zero_le _
    exact l_raiseV hF (by kernel_rfl) rfl (by with_unfolding_all exact htl) (hX hR.symm _) (hE 0 (by exact nl0 [] (.num 0) (.num 1) rfl))
  ·
   have hil : i < l.length := Int.ofNat_lt.mp hlt
   obtain ⟨c, hc0⟩ : ∃ c, l[i]? = some c := ⟨l[i], by simp [hil]⟩
   have hdr : l.drop i = c :: l.drop (i + 1) := drop_at hc0
   have hsl : Txt.slice (tx l) (some (i : Int)) (some ((i : Int) + 1)) = tx [c] := by
    rw [show ((i : Int) + 1) = ((i + 1 : Nat) : Int) from rfl, tx_slice (by exact nl0 [_] vr0 (.add vr0 (.num 1)) rfl) (by exact hil), hdr]
    rw [show i + 1 - i = 1 by exact (Nat.le_antisymm (nl1 [_, _] (.add vr0 vr1) (.add vr1 (.num 1)) vr0 (.num 1) rfl (Nat.le_of_eq (Nat.sub_add_cancel (nl0 [_] vr0 (.add vr0 (.num 1)) rfl)))) (nl1 [_, _] (.add vr0 (.num 1)) (.add vr1 vr0) (.num 1) vr1 rfl (Nl.sb _ _)))]; rfl
   rw [hsl]
   rw [hdr] at hR hok
   have hnl := sq_nl c
   have hws := ct_ws c
   have hqt := ct_qt c
   have hno := ct_no c
   have hes := ct_esc c
   have go' : ∀ (m' : Md) (tok' : List Nat) (qd' : Bool) (ln' : Int), rdm m' tok' (l.drop (i + 1)) = R → okm m' (l.drop (i + 1)) = true → inv m' tok' qd' → tok'.length ≤ i + 1 → (match m' with | .en => i + 1 = l.length | _ => True) →
     G .next (stR m' tok' qd' l (i + 1) ln' (some (.str (tx [c]))) tl) ∧ G .cont (stR m' tok' qd' l (i + 1) ln' (some (.str (tx [c]))) tl) :=
    fun m' tok' qd' ln' h1 h2 h3 h5 h4 => by
     subst hG
     exact ⟨⟨⟨l.length - (i + 1), by exact nl2 [_, _, _, _] (.add vr0 (.add vr1 (.num 1))) vr2 vr2 (.add vr3 vr1) (.add vr0 (.num 1)) vr3 rfl (Nat.le_of_eq (Nat.sub_add_cancel hil)) (Nl.sb _ _), m', tok', qd', i + 1, ln', _, rfl, hil, h4, h1, h2, h3, h5, rfl⟩⟩, ⟨⟨l.length - (i + 1), by exact nl2 [_, _, _, _] (.add vr0 (.add vr1 (.num 1))) vr2 vr2 (.add vr3 vr1) (.add vr0 (.num 1)) vr3 rfl (Nat.le_of_eq (Nat.sub_add_cancel hil)) (Nl.sb _ _), m', tok', qd', i + 1, ln', _, rfl, hil, h4, h1, h2, h3, h5, rfl⟩⟩⟩
   have go := fun m' tok' qd' ln' h1 h2 h3 h5 h4 => (go' m' tok' qd' ln' h1 h2 h3 h5 h4).1
   have hstep : ∀ (t : List Nat) (qd' : Bool) (ln' : Int), R = some (some t, l.drop (i + 1), false) → (qd' = true ∨ t ≠ []) → G .brk (stR .sp t qd' l (i + 1) ln' (some (.str (tx [c]))) tl) := fun t qd' ln' h1 h2 =>
    hBrk _ ⟨some t, i + 1, false, qd', ln', _, hil, h1, (fun q => by contradiction), h2, rfl⟩
   induction m with
   | en => exact absurd hen (Nat.ne_of_lt hil)
   | sp =>
    obtain ⟨rfl, rfl⟩ := hinv
    unfold rdm at hR
    unfold okm at hok
    cases hw : wsC c with
    | true =>
     rw [hw] at hws hR hok
     by_cases h10 : c = 10
     ·rw [decide_eq_true h10] at hnl
      walk_at "vgo"
      all_goals try exact Nat.zero_le _
      all_goals try exact Nat.le_of_ble_eq_true rfl
      exact (go' .sp [] false (ln + 1) hR hok ⟨rfl, rfl⟩ (Nat.zero_le _) trivial).2
     ·rw [decide_eq_false h10] at hnl
      walk_at "vgo"
      all_goals try first | exact Nat.zero_le _ | exact Nat.le_of_ble_eq_true rfl
      exact (go' .sp [] false ln hR hok ⟨rfl, rfl⟩ (Nat.zero_le _) trivial).2
    | false =>
     rw [hw] at hws hR hok
     have h10 : c ≠ 10 := fun q => by subst q; simp [wsC] at hw
     rw [decide_eq_false h10] at hnl
     cases hq : qtC c with
     | true =>
      rw [hq] at hqt hR hok
      have hwc := ct_w hq
      have hcq : c = 39 ∨ c = 34 := by simpa [qtC] using hq
      rw [decide_eq_false (by lia)] at hes
      walk_at "vgo"
      all_goals try first | exact Nat.zero_le _ | exact Nat.le_of_ble_eq_true rfl
      refine l_pc hF hT hL.pun (by show 2 ≤ n; exact nl1 [_] (.num 3) vr0 (.num 2) vr0 rfl hn) ?_
      walk_at "vgo"
      exact go (.q c) [] false ln hR hok hcq (Nat.zero_le _) trivial
     | false =>
      rw [hq] at hqt hR hok
      obtain ⟨h92, hok⟩ := Bool.and_eq_true_iff.mp hok
      rw [decide_eq_false (by simpa using h92)] at hes
      have fin := go .wd [c] false ln hR hok (.inr (List.cons_ne_nil _ _)) (Nat.succ_le_succ (Nat.zero_le _)) trivial
      cases hwc : Txt.contains wch (tx [c]) with
      | true =>
       walk_at "vgo"
       all_goals try first | exact Nat.zero_le _ | exact Nat.le_of_ble_eq_true rfl
       exact fin
      | false =>
       walk_at "vgo"
       all_goals try first | exact Nat.zero_le _ | exact Nat.le_of_ble_eq_true rfl
       refine l_pc hF hT hL.pun (by show 2 ≤ n; exact nl1 [_] (.num 3) vr0 (.num 2) vr0 rfl hn) ?_
       walk_at "vgo"
       exact fin
   | wd =>
    unfold rdm at hR
    unfold okm at hok
    have htl1 : (tx tok).length ≤ sizeLine := by rw [txl, sizeLine_eq]; exact nl3 [_, _, _] vr0 vr1 vr1 vr2 vr2 (.num 1000000) vr0 (.num 16777216) rfl hti hi hl
    have htl2 : (tx tok).length + (tx [c]).length ≤ sizeLine := by rw [txl, txl, sizeLine_eq]; show tok.length + 1 ≤ _; exact nl3 [_, _, _] vr0 vr1 vr1 vr2 vr2 (.num 1000000) (.add vr0 (.num 1)) (.num 16777216) rfl hti hi hl
    cases hw : wsC c with
    | true =>
     rw [hw] at hws hR hok
     have fin : ∀ ln', G .brk (stR .sp tok qd l (i + 1) ln' (some (.str (tx [c]))) tl) := fun ln' => hstep tok qd ln' hR.symm hinv
     by_cases hne : tok = []
     ·subst hne
      have hqd : qd = true := hinv.resolve_right fun h => h rfl
      subst hqd
      by_cases h10 : c = 10
      ·rw [decide_eq_true h10] at hnl
       walk_at "vgo"
       all_goals try first | exact Nat.zero_le _ | exact Nat.le_of_ble_eq_true rfl | exact htl1 | exact htl2
       refine l_inTup ["a", "c"] rfl ?_
       walk_at "vgo"
       all_goals try first | exact Nat.zero_le _ | exact Nat.le_of_ble_eq_true rfl | exact htl1 | exact htl2
       exact fin _
      ·rw [decide_eq_false h10] at hnl
       walk_at "vgo"
       all_goals try first | exact Nat.zero_le _ | exact Nat.le_of_ble_eq_true rfl | exact htl1 | exact htl2
       refine l_inTup ["a", "c"] rfl ?_
       walk_at "vgo"
       all_goals try first | exact Nat.zero_le _ | exact Nat.le_of_ble_eq_true rfl | exact htl1 | exact htl2
       exact fin _
     ·have hne' : (((tx tok).length : Int) != 0) = true := by
       have := List.length_pos_iff.mpr hne
       exact bne_iff_ne.mpr (Int.ofNat_ne_zero.mpr (Nat.ne_of_gt this))
      by_cases h10 : c = 10
      ·rw [decide_eq_true h10] at hnl
       walk_at "vgo"
       all_goals try first | exact Nat.zero_le _ | exact Nat.le_of_ble_eq_true rfl | exact htl1 | exact htl2
       refine l_inTup ["a", "c"] rfl ?_
       walk_at "vgo"
       all_goals try first | exact Nat.zero_le _ | exact Nat.le_of_ble_eq_true rfl | exact htl1 | exact htl2
       exact fin _
      ·rw [decide_eq_false h10] at hnl
       walk_at "vgo"
       all_goals try first | exact Nat.zero_le _ | exact Nat.le_of_ble_eq_true rfl | exact htl1 | exact htl2
       refine l_inTup ["a", "c"] rfl ?_
       walk_at "vgo"
       all_goals try first | exact Nat.zero_le _ | exact Nat.le_of_ble_eq_true rfl | exact htl1 | exact htl2
       exact fin _
    | false =>
     rw [hw] at hws hR hok
     have h10 : c ≠ 10 := fun q => by subst q; simp [wsC] at hw
     rw [decide_eq_false h10] at hnl
     cases hq : qtC c with
     | true =>
      rw [hq] at hqt hR hok
      have hcq : c = 39 ∨ c = 34 := by simpa [qtC] using hq
      walk_at "vgo"
      all_goals try first | exact Nat.zero_le _ | exact Nat.le_of_ble_eq_true rfl | exact htl1 | exact htl2
      refine l_inTup ["a", "c"] rfl ?_
      walk_at "vgo"
      all_goals try first | exact Nat.zero_le _ | exact Nat.le_of_ble_eq_true rfl | exact htl1 | exact htl2
      exact go (.q c) tok qd ln hR hok hcq (by exact nl1 [_, _] vr0 vr1 vr0 (.add vr1 (.num 1)) rfl hti) trivial
     | false =>
      rw [hq] at hqt hR hok
      obtain ⟨h92, hok⟩ := Bool.and_eq_true_iff.mp hok
      rw [decide_eq_false (by simpa using h92)] at hes
      have fin := go .wd (tok ++ [c]) qd ln hR hok (.inr (by simp)) (by simp; exact hti) trivial
      cases hwc : Txt.contains wch (tx [c]) with
      | true =>
       walk_at "vgo"
       all_goals try first | exact Nat.zero_le _ | exact Nat.le_of_ble_eq_true rfl | exact htl1 | exact htl2
       refine l_inTup ["a", "c"] rfl ?_
       walk_at "vgo"
       all_goals try first | exact Nat.zero_le _ | exact Nat.le_of_ble_eq_true rfl | exact htl1 | exact htl2
       rw [txa]
       exact fin
      | false =>
       walk_at "vgo"
       all_goals try first | exact Nat.zero_le _ | exact Nat.le_of_ble_eq_true rfl | exact htl1 | exact htl2
       refine l_inTup ["a", "c"] rfl ?_
       walk_at "vgo"
       all_goals try first | exact Nat.zero_le _ | exact Nat.le_of_ble_eq_true rfl | exact htl1 | exact htl2
       refine l_pc hF hT hL.pun (by show 2 ≤ n; exact nl1 [_] (.num 3) vr0 (.num 2) vr0 rfl hn) ?_
       walk_at "vgo"
       all_goals try first | exact Nat.zero_le _ | exact Nat.le_of_ble_eq_true rfl | exact htl1 | exact htl2
       rw [txa]
       exact fin
   | q d =>
    unfold rdm at hR
    unfold okm at hok
    have htl1 : (tx tok).length ≤ sizeLine := by rw [txl, sizeLine_eq]; exact nl3 [_, _, _] vr0 vr1 vr1 vr2 vr2 (.num 1000000) vr0 (.num 16777216) rfl hti hi hl
    have htl2 : (tx tok).length + (tx [c]).length ≤ sizeLine := by rw [txl, txl, sizeLine_eq]; show tok.length + 1 ≤ _; exact nl3 [_, _, _] vr0 vr1 vr1 vr2 vr2 (.num 1000000) (.add vr0 (.num 1)) (.num 16777216) rfl hti hi hl
    have f1 : seq (tx [d]) (Str.ofString " ") = false := sq_sp hinv
    have f2 : Txt.contains (Str.ofString "'\"") (tx [d]) = true := by rw [ct_qt]; rcases hinv with rfl | rfl <;> rfl
    have f3 : seq (tx [c]) (tx [d]) = decide (c = d) := by rw [tx_seq, Bool.eq_iff_iff]; simp
    have f4 := ct_eq d
    obtain ⟨hesc, hok⟩ := Bool.and_eq_true_iff.mp hok
    by_cases hcd : c = d
    ·rw [decide_eq_true hcd] at f3
     rw [if_pos hcd] at hR hok
     have hd39 : d = 39 ∨ d = 34 := hinv
     have h10 : c ≠ 10 := by lia
     rw [decide_eq_false h10] at hnl
     walk_at "vgo"
     all_goals try first | exact Nat.zero_le _ | exact Nat.le_of_ble_eq_true rfl | exact htl1 | exact htl2
     exact go .wd tok true ln hR hok (.inl rfl) (by exact nl1 [_, _] vr0 vr1 vr0 (.add vr1 (.num 1)) rfl hti) trivial
    ·rw [decide_eq_false hcd] at f3
     rw [if_neg hcd] at hR hok
     have fin := fun ln' => go (.q d) (tok ++ [c]) true ln' hR hok hinv (by simp; exact hti) trivial
     by_cases h10 : c = 10
     ·rw [decide_eq_true h10] at hnl
      rw [decide_eq_false (by exact (Nat.ne_of_lt (nl1 [_] vr0 (.num 10) (.add vr0 (.num 1)) (.num 92) rfl (Nat.le_of_eq h10))))] at hes
      walk_at "vgo"
      all_goals try first | exact Nat.zero_le _ | exact Nat.le_of_ble_eq_true rfl | exact htl1 | exact htl2
      rw [txa]
      exact fin _
     ·rw [decide_eq_false h10] at hnl
      by_cases h92 : c = 92
      ·rw [decide_eq_true h92] at hes
       have hd : d ≠ 34 := fun q => by subst q; simp [h92] at hesc
       rw [decide_eq_false hd] at f4
       walk_at "vgo"
       all_goals try first | exact Nat.zero_le _ | exact Nat.le_of_ble_eq_true rfl | exact htl1 | exact htl2
       rw [txa]
       exact fin _
      ·rw [decide_eq_false h92] at hes
       walk_at "vgo"
       all_goals try first | exact Nat.zero_le _ | exact Nat.le_of_ble_eq_true rfl | exact htl1 | exact htl2
       rw [txa]
       exact fin _
end
end
section
set_option tactic.hygienic true
noncomputable def tokV : Option (List Nat) → AV
 | none => .none
 | some t => .str (tx t)
noncomputable def mEn (en : Bool) : Md := if en then .en else .sp
theorem empty_tx : Str.ofString "" = tx [] := by kernel_rfl
section
variable {F : Fx} {tl : List AO} {fs : Fs} {l : List Nat} {en : Bool} {i : Nat} {ln : Int} {R : TokR} {X : String → Sy → Prop}
theorem rtok_ok (hF : F.Ok) (hT : TopOk F.w F.T F.gl) (hgl : F.gl = gl) (hL : LexFs F.T) (hn : 4 ≤ F.n) (hl : l.length ≤ 1000000) (hi : i ≤ l.length) (hen : en = true → i = l.length) (hok : okm (mEn en) (l.drop i) = true) (hR : rdm (mEn en) [] (l.drop i) = R)
  (hpl : ∀ cls S', X cls S' → plF fs = true) (hE : ∀ e s', EX 1 F.A F.C X e s' → F.E e s') (hX : R = none → ∀ own', X "ValueError" ⟨fs, own'⟩) (htl : tl.all aoP = true) {Q : AV → Sy → Prop}
  (hQ : ∀ t j en' ln', R = some (t, l.drop j, en') → j ≤ l.length → (en' = true → j = l.length) → Q (tokV t) ⟨fs, ownX (shD (mst (mEn en')) (.str "") ln') (tx l) (j : Nat) tl⟩) :
  SmL F (.ref 751) [.own 1] ⟨fs, ownX (shD (mst (mEn en)) (.str "") ln) (tx l) (i : Nat) tl⟩ Q := by
 obtain ⟨nm, qn, kd, dc, pm, an, cd, ct, hf⟩ := hL.tok
 refine (call_ownX (X := X) hF hT hf (n := F.n - 1) (names := ["self"]) (rest := ["quoted", "escapedstate", "nextchar", "result"]) (avs := [.own 1]) rfl rfl (by kernel_rfl) (by kernel_rfl) (by kernel_rfl) (by kernel_rfl) (by kernel_rfl) (by kernel_rfl) rfl (by exact (Nat.le_of_eq (Nat.sub_add_cancel (nl1 [_] (.num 4) vr0 (.num 1) vr0 rfl hn)))) hpl hE ?_ ?_).call
 ·intro s B ρ vs _ hv
  cases hv with | cons h1 h2 => cases h2; rename_i v1; exact ⟨[v1], BindsTo.of_eq (by kernel_rfl), .cons h1 .nil⟩
 ·intro A C E _ hF' hH hE'
  obtain ⟨w, FA, FC, FE, fsc, fgl, T, n⟩ := F
  dsimp only at hgl hT hL hn
  subst hgl
  refine (run_ok hF' 34).xs ?_
  walk_at "vgo"
  refine leaf_then (EndR R l tl) (while_okX hF' hH 32 (InvR R l tl)
   (n := l.length - i) ⟨mEn en, [], false, i, ln, none, rfl, hi, ?_, hR, hok, ?_, Nat.zero_le _, ?_⟩ (fun e s' hx => hE' 2 (by exact nl0 [] (.num 2) (.num 2) rfl) e s' hx) ?_) ?_
  ·induction en with
   | true => exact hen rfl
   | false => trivial
  ·cases en <;> exact ⟨rfl, rfl⟩
  ·rw [empty_tx]; rfl
  ·rintro E'' n' S hF'' hE'' ⟨m, tok, qd, i, ln, nc, rfl, h1, h2, h3, h4, h5, h6, rfl⟩
   exact turn_ok hF'' hT rfl hL (by show 3 ≤ n - 1; exact nl2 [_, _] (.num 4) vr0 vr0 (.add vr1 (.num 1)) (.num 3) vr1 rfl hn (Nl.sb _ _)) hl htl hE'' (fun h S => hX h S.own) h1 h2 h3 h4 h5 h6 ⟨_, _, _, rfl⟩ rfl
  ·rintro S' ⟨t, j, en', qd, ln', nc, h1, h2, h3, h4, rfl⟩
   have fin := hQ t j en' ln' h2 h1 h3
   induction t with
   | none =>
    change qd = false at h4
    subst h4
    walk_at "vgo"
    exact fin
   | some t =>
    change qd = true ∨ t ≠ [] at h4
    have ht : seq (tx ((some t).getD [])) (Str.ofString "") = decide (t = []) := by rw [empty_tx, tx_seq, Bool.eq_iff_iff]; simp
    induction qd with
    | true => walk_at "vgo"; exact fin
    | false =>
     rw [decide_eq_false (by simpa using h4)] at ht
     walk_at "vgo"
     exact fin
noncomputable abbrev dqs (tl : List AO) : List AO := .obj dqO :: .obj dqO :: tl
theorem dqs_pl (h : tl.all aoP = true) : (dqs tl).all aoP = true := h
theorem gtok_ok (hF : F.Ok) (hT : TopOk F.w F.T F.gl) (hgl : F.gl = gl) (hL : LexFs F.T) (hn : 5 ≤ F.n) (hl : l.length ≤ 1000000) (hi : i ≤ l.length) (hen : en = true → i = l.length) (hok : okm (mEn en) (l.drop i) = true) (hR : rdm (mEn en) [] (l.drop i) = R)
  (hpl : ∀ cls S', X cls S' → plF fs = true) (hE : ∀ e s', EX 1 F.A F.C X e s' → F.E e s') (hX : R = none → ∀ own', X "ValueError" ⟨fs, own'⟩) (htl : tl.all aoP = true) {Q : AV → Sy → Prop}
  (hQ : ∀ t j en' ln', R = some (t, l.drop j, en') → j ≤ l.length → (en' = true → j = l.length) → Q (tokV t) ⟨fs, ownX (shD (mst (mEn en')) (.str "") ln') (tx l) (j : Nat) (dqs tl)⟩) :
  SmL F (.ref 744) [.own 1] ⟨fs, ownX (shD (mst (mEn en)) (.str "") ln) (tx l) (i : Nat) (dqs tl)⟩ Q := by
 obtain ⟨nm, qn, kd, dc, pm, an, cd, ct, hf⟩ := hL.get
 refine (call_ownX (X := X) hF hT hf (n := F.n - 1) (names := ["self"]) (rest := ["tok", "raw", "spec", "newfile", "newstream"]) (avs := [.own 1]) rfl rfl (by kernel_rfl) (by kernel_rfl) (by kernel_rfl) (by kernel_rfl) (by kernel_rfl) (by kernel_rfl) rfl (by exact (Nat.le_of_eq (Nat.sub_add_cancel (nl1 [_] (.num 5) vr0 (.num 1) vr0 rfl hn)))) hpl hE ?_ ?_).call
 ·intro s B ρ vs _ hv
  cases hv with | cons h1 h2 => cases h2; rename_i v1; exact ⟨[v1], BindsTo.of_eq (by kernel_rfl), .cons h1 .nil⟩
 ·intro A C E _ hF' hH hE'
  obtain ⟨w, FA, FC, FE, fsc, fgl, T, n⟩ := F
  dsimp only at hgl hT hL hn
  subst hgl
  refine (run_ok hF' 34).xs ?_
  walk_at "vgo"
  refine l_dqT (k := 4) rfl ?_
  walk_at "vgo"
  ·exact fnIs_ok hF' hL.tok
  ·refine ⟨rtok_ok (R := R) (X := fun cls S' => X cls ⟨fs, S'.own⟩) hF' hT rfl hL (by show 4 ≤ n - 1; exact nl2 [_, _] (.num 5) vr0 vr0 (.add vr1 (.num 1)) (.num 4) vr1 rfl hn (Nl.sb _ _)) hl hi hen hok hR (fun _ _ _ => rfl) (hE' 1 (by exact nl0 [] (.num 1) (.num 2) rfl)) (fun h own' => hX h own') (dqs_pl htl) fun t j en' ln' h1 h2 h3 => ?_⟩
   have fin := hQ t j en' ln' h1 h2 h3
   induction t with
   | none =>
    walk_at "vgo"
    refine while_ok hF' 20 (fun _ S₂ => S₂ = ⟨[("self", some (.own 1)), ("tok", none), ("raw", some .none), ("spec", none), ("newfile", none), ("newstream", none)], ownX (shD (mst (mEn en')) (.str "") ln') (tx l) (j : Nat) (dqs tl)⟩) (n := 0) rfl ?_
    rintro E'' n' S hF'' rfl
    walk_at "vgo"
    refine l_dqT (k := 5) rfl ?_
    walk_at "vgo"
    exact fin
   | some t =>
    walk_at "vgo"
    refine while_ok hF' 20 (fun _ S₂ => S₂ = ⟨[("self", some (.own 1)), ("tok", none), ("raw", some (.str (tx t))), ("spec", none), ("newfile", none), ("newstream", none)], ownX (shD (mst (mEn en')) (.str "") ln') (tx l) (j : Nat) (dqs tl)⟩) (n := 0) rfl ?_
    rintro E'' n' S hF'' rfl
    walk_at "vgo"
    exact fin
theorem next_ok (hF : F.Ok) (hT : TopOk F.w F.T F.gl) (hgl : F.gl = gl) (hL : LexFs F.T) (hn : 6 ≤ F.n) (hl : l.length ≤ 1000000) (hi : i ≤ l.length) (hen : en = true → i = l.length) (hok : okm (mEn en) (l.drop i) = true) (hR : rdm (mEn en) [] (l.drop i) = R)
  (hpl : ∀ cls S', X cls S' → plF fs = true) (hE : ∀ e s', EX 1 F.A F.C X e s' → F.E e s') (hX : R = none → ∀ own', X "ValueError" ⟨fs, own'⟩) (htl : tl.all aoP = true) {Q : AV → Sy → Prop}
  (hS : ∀ j en' ln', R = some (none, l.drop j, en') → X "StopIteration" ⟨fs, ownX (shD (mst (mEn en')) (.str "") ln') (tx l) (j : Nat) (dqs tl)⟩)
  (hQ : ∀ t j en' ln', R = some (some t, l.drop j, en') → j ≤ l.length → (en' = true → j = l.length) → Q (.str (tx t)) ⟨fs, ownX (shD (mst (mEn en')) (.str "") ln') (tx l) (j : Nat) (dqs tl)⟩) :
  SmL F (.ref 780) [.own 1] ⟨fs, ownX (shD (mst (mEn en)) (.str "") ln) (tx l) (i : Nat) (dqs tl)⟩ Q := by
 obtain ⟨nm, qn, kd, dc, pm, an, cd, ct, hf⟩ := hL.nxt
 refine (call_ownX (X := X) hF hT hf (n := F.n - 1) (names := ["self"]) (rest := ["token"]) (avs := [.own 1]) rfl rfl (by kernel_rfl) (by kernel_rfl) (by kernel_rfl) (by kernel_rfl) (by kernel_rfl) (by kernel_rfl) rfl (by exact (Nat.le_of_eq (Nat.sub_add_cancel (nl1 [_] (.num 6) vr0 (.num 1) vr0 rfl hn)))) hpl hE ?_ ?_).call
 ·intro s B ρ vs _ hv
  cases hv with | cons h1 h2 => cases h2; rename_i v1; exact ⟨[v1], BindsTo.of_eq (by kernel_rfl), .cons h1 .nil⟩
 ·intro A C E _ hF' hH hE'
  obtain ⟨w, FA, FC, FE, fsc, fgl, T, n⟩ := F
  dsimp only at hgl hT hL hn
  subst hgl
  refine (run_ok hF' 34).xs ?_
  walk_at "vgo"
  ·exact fnIs_ok hF' hL.get
  ·refine ⟨gtok_ok (R := R) (X := fun cls S' => X cls ⟨fs, S'.own⟩) hF' hT rfl hL (by show 5 ≤ n - 1; exact nl2 [_, _] (.num 6) vr0 vr0 (.add vr1 (.num 1)) (.num 5) vr1 rfl hn (Nl.sb _ _)) hl hi hen hok hR (fun _ _ _ => rfl) (hE' 1 (by exact nl0 [] (.num 1) (.num 2) rfl)) (fun h own' => hX h own') htl fun t j en' ln' h1 h2 h3 => ?_⟩
   induction t with
   | none =>
    walk_at "vgo"
    exact l_raiseS hF' (by kernel_rfl) rfl (by cases en' <;> with_unfolding_all exact htl) (hS j en' ln' h1) (hE' 0 (by exact nl0 [] (.num 0) (.num 2) rfl))
   | some t =>
    have fin := hQ t j en' ln' h1 h2 h3
    walk_at "vgo"
    exact fin
end
end
section
set_option tactic.hygienic true
open PySem.Builtin
inductive Wd : Bool → List Nat → Option (List (List Nat)) → Prop
 | err {en r} : rdm (mEn en) [] r = none → Wd en r none
 | fin {en r r' e'} : rdm (mEn en) [] r = some (none, r', e') → Wd en r (some [])
 | cons {en r r' e' t W} : rdm (mEn en) [] r = some (some t, r', e') → Wd e' r' W → Wd en r (W.map (t :: ·))
theorem rdm_some : ∀ (r : List Nat) (m : Md) (tok : List Nat) {t : Option (List Nat)} {r' : List Nat} {en' : Bool}, rdm m tok r = some (t, r', en') → (∃ n, r' = r.drop n ∧ (m = .sp → t ≠ none → 0 < n ∧ 0 < r.length)) ∧ (en' = true → r' = [] ∨ m = .en) := by
 intro r
 induction r with
 | nil =>
  intro m tok t r' en' e
  cases m <;> simp [rdm] at e <;> obtain ⟨rfl, rfl, rfl⟩ := e <;> exact ⟨⟨0, rfl, by simp⟩, by simp⟩
 | cons c r ih =>
  intro m tok t r' en' e
  have up : ∀ m', rdm m' = rdm m' → ((∃ n, r' = r.drop n ∧ (m' = .sp → t ≠ none → 0 < n ∧ 0 < r.length)) ∧ (en' = true → r' = [] ∨ m' = .en)) → m' ≠ .en → (∃ n, r' = (c :: r).drop n ∧ (m = .sp → t ≠ none → 0 < n ∧ 0 < (c :: r).length)) ∧ (en' = true → r' = [] ∨ m = .en) := by
   rintro m' - ⟨⟨n, h1, _⟩, h2⟩ hm
   exact ⟨⟨n + 1, h1, fun _ _ => ⟨Nat.succ_pos _, Nat.succ_pos _⟩⟩, fun h => .inl ((h2 h).resolve_right hm)⟩
  induction m with
  | en => simp [rdm] at e; obtain ⟨rfl, rfl, rfl⟩ := e; exact ⟨⟨r.length + 1, by simp, by simp⟩, by simp⟩
  | sp =>
   unfold rdm at e
   split at e
   ·exact up _ rfl (ih _ _ e) (by simp)
   ·split at e
    ·exact up _ rfl (ih _ _ e) (by simp)
    ·exact up _ rfl (ih _ _ e) (by simp)
  | wd =>
   unfold rdm at e
   split at e
   ·simp at e; obtain ⟨rfl, rfl, rfl⟩ := e; exact ⟨⟨1, rfl, by simp⟩, by simp⟩
   ·split at e
    ·exact up _ rfl (ih _ _ e) (by simp)
    ·exact up _ rfl (ih _ _ e) (by simp)
  | q d =>
   unfold rdm at e
   split at e
   ·exact up _ rfl (ih _ _ e) (by simp)
   ·exact up _ rfl (ih _ _ e) (by simp)
noncomputable abbrev Cx.re (C : Cx) (s : Shared) (ρ : List Addr) : Cx := ⟨C.env, C.bad, fun b o => C.keep b o ∨ Frz s.heap C.bd ρ b o, C.fr, C.t0, C.g, C.o, ρ⟩
theorem Rx.re {C : Cx} {fs : Fs} {own : List AO} {ρ : List Addr} {s : Shared} (I : Rx C fs own ρ s) : Rx (C.re s ρ) fs own ρ s :=
 ⟨I.ns, I.nd, fun b o k => k.elim (I.up b o) fun y => y.1, fun o k => k.elim (I.new o) fun y => y.2.1 (.inl rfl), I.len, I.mine, fun a ha => ⟨(I.fresh a ha).1, fun o k => k.elim ((I.fresh a ha).2.1 o) fun y => y.2.2 ha, (I.fresh a ha).2.2⟩, I.apart, I.old, I.gens, I.os, I.frs,
  fun b o h => ⟨(I.frn b o h).1, (I.frn b o h).2.1, fun o' k => k.elim ((I.frn b o h).2.2 o') fun y => y.2.1 (.inr (I.frn b o h).2.1)⟩, I.tk, ⟨[], (List.append_nil ρ).symm⟩⟩
theorem Rx.un {C : Cx} {fs fs' : Fs} {own own' : List AO} {r ρ : List Addr} {s s' : Shared} (I₀ : Rx C fs own r s) (I : Rx (C.re s r) fs' own' ρ s') : Rx C fs' own' ρ s' ∧ Ext C.bd s.heap r s'.heap ρ :=
 ⟨⟨I.ns, I.nd, fun b o k => I.up b o (.inl k), I₀.new, I.len, I.mine, fun a ha => ⟨(I.fresh a ha).1, fun o k => (I.fresh a ha).2.1 o (.inl k), (I.fresh a ha).2.2⟩, I.apart, I.old, I.gens, I.os, I.frs, I₀.frn, I.tk, (let ⟨t, e⟩ := I₀.pr; let ⟨u, e'⟩ := I.pr; ⟨t ++ u, by rw [e', ← List.append_assoc, ← e]⟩)⟩,
  I.pr, fun a o y => ⟨I.up a o (.inr y), y.2.1, fun q => (I.fresh a q).2.1 o (.inr y)⟩⟩
theorem Fx.Ok.re {F : Fx} (hF : F.Ok) (s : Shared) (ρ : List Addr) (E : Value → Shared → Prop) : (Fx.mk F.w F.A (F.C.re s ρ) E F.sc F.gl F.T F.n).Ok :=
 ⟨hF.frm, hF.pos, hF.sc, hF.kind, hF.room, fun a o h => ⟨.inl (hF.top a o h).1, (hF.top a o h).2⟩, hF.lim, fun x v s' env g1 g2 h1 h2 => hF.gl x v s' env g1 g2 (fun b o h => h1 b o (.inl h)) h2, hF.cls⟩
theorem okm_next {l : List Nat} {en : Bool} {i j : Nat} {t : Option (List Nat)} {en' : Bool} (h : okm (mEn en) (l.drop i) = true) (e : rdm (mEn en) [] (l.drop i) = some (t, l.drop j, en')) : okm (mEn en') (l.drop j) = true := by
 have key : ∀ (r : List Nat) (m : Md) (tok : List Nat) (t : Option (List Nat)) (r' : List Nat) (en' : Bool), okm m r = true → rdm m tok r = some (t, r', en') → okm (mEn en') r' = true := by
  intro r
  induction r with
  | nil =>
   intro m tok t r' en' _ e
   cases m <;> simp [rdm] at e <;> obtain ⟨_, rfl, rfl⟩ := e <;> rfl
  | cons c r ih =>
   intro m tok t r' en' h e
   induction m with
   | en => simp [rdm] at e; obtain ⟨_, rfl, rfl⟩ := e; rfl
   | sp =>
    unfold okm at h; unfold rdm at e
    split at h
    ·rename_i hw; rw [if_pos hw] at e; exact ih _ _ _ _ _ h e
    ·rename_i hw
     rw [if_neg hw] at e
     split at h
     ·rename_i hq; rw [if_pos hq] at e; exact ih _ _ _ _ _ h e
     ·rename_i hq; rw [if_neg hq] at e; exact ih _ _ _ _ _ (Bool.and_eq_true_iff.mp h).2 e
   | wd =>
    unfold okm at h; unfold rdm at e
    split at h
    ·rename_i hw; rw [if_pos hw] at e; simp at e; obtain ⟨_, rfl, rfl⟩ := e; exact h
    ·rename_i hw
     rw [if_neg hw] at e
     split at h
     ·rename_i hq; rw [if_pos hq] at e; exact ih _ _ _ _ _ h e
     ·rename_i hq; rw [if_neg hq] at e; exact ih _ _ _ _ _ (Bool.and_eq_true_iff.mp h).2 e
   | q d =>
    unfold okm at h; unfold rdm at e
    have h := (Bool.and_eq_true_iff.mp h).2
    split at h
    ·rename_i hw; rw [if_pos hw] at e; exact ih _ _ _ _ _ h e
    ·rename_i hw; rw [if_neg hw] at e; exact ih _ _ _ _ _ h e
 exact key _ _ _ _ _ _ h e
section
variable {F : Fx} {fs : Fs} {l : List Nat} {X : String → Sy → Prop}
theorem iter_lex (hF : F.Ok) (hT : TopOk F.w F.T F.gl) (hL : LexFs F.T) (hn : 1 ≤ F.n) {own : List AO} {Q : AV → Sy → Prop} (h : Q (.own 1) ⟨fs, own⟩) : SmL F (.ref 773) [.own 1] ⟨fs, own⟩ Q := by
 obtain ⟨nm, qn, kd, dc, pm, an, cd, ct, hf⟩ := hL.itr
 refine call_own hF hT hf (n := F.n - 1) (names := ["self"]) (rest := []) (avs := [.own 1]) rfl rfl (by kernel_rfl) (by kernel_rfl) (by kernel_rfl) (by kernel_rfl) (by kernel_rfl) (by kernel_rfl) rfl (by exact (Nat.le_of_eq (Nat.sub_add_cancel hn))) ?_ ?_
 ·intro s B ρ vs _ hv
  cases hv with | cons h1 h2 => cases h2; rename_i v1; exact ⟨[v1], BindsTo.of_eq (by kernel_rfl), .cons h1 .nil⟩
 ·intro A C E _ hF'
  refine (run_ok hF' 20).xs ?_
  walk_at "vgo"
  exact h
noncomputable abbrev lstS (en : Bool) (ln : Int) (l : List Nat) (i : Nat) (ws : List (List Nat)) (fs : Fs) : Sy := ⟨fs, ownX (shD (mst (mEn en)) (.str "") ln) (tx l) (i : Nat) (dqs [.list (ws.map fun t => .str (tx t))])⟩
theorem lstS_pl (ws : List (List Nat)) : [AO.list (ws.map fun t => AV.str (tx t))].all aoP = true := by
 have : (ws.map fun t => AV.str (tx t)).all avP = true := by simp [avP]
 show (aoP _ && true) = true
 rw [Bool.and_true]; exact this
theorem lst_upd {C : Cx} {en : Bool} {ln : Int} {i : Nat} {xs : List AV} {s : Shared} {ρ : List Addr} {L : Addr} {its : Array Value} {n : Nat} {f : Array Value → Array Value} {xs' : List AV}
  (I : Rx C fs (ownX (shD (mst (mEn en)) (.str "") ln) (tx l) (i : Nat) (dqs [.list xs])) ρ s) (hL : ρ[6]? = some L) (ho : s.heap.get? L = some { cls := .type "list", data := .seq its n })
  (hal : All2 (Is (s.heap.update L (Obj.mapSeq f)) C.bd ρ) xs' (f its).toList) : ∃ n', Rx C fs (ownX (shD (mst (mEn en)) (.str "") ln) (tx l) (i : Nat) (dqs [.list xs'])) ρ { s with heap := s.heap.update L (Obj.mapSeq f) } ∧ (s.heap.update L (Obj.mapSeq f)).get? L = some { cls := .type "list", data := .seq (f its) n' } ∧
   Ext C.bd s.heap ρ (s.heap.update L (Obj.mapSeq f)) ρ := by
 have hs : Heap.SameBut L s.heap (s.heap.update L (Obj.mapSeq f)) := Heap.SameBut.update ..
 refine ⟨_, I.update (k := 6) (ao := .list xs') (f := Obj.mapSeq f) (by show 6 < 7; exact nl0 [] (.add (.num 6) (.num 1)) (.num 7) rfl) hL ho rfl rfl ⟨f its, _, rfl, hal⟩ s.toks I.tk, Heap.get?_update_self _ ho rfl, Ext.keeps fun b o _ hb e => (hs.2 b fun q => hb (q ▸ List.mem_of_getElem? hL)).trans e⟩
theorem cls_facts {K : Frag} (h : clsK K = true) : findIn K (.ref 783) "__next__" = some (some (.ref 780)) ∧ typeIn K (.ref 780) = some (.type "function") ∧ findIn K (.ref 783) "__iter__" = some (some (.ref 773)) ∧ typeIn K (.ref 773) = some (.type "function") := by
 have h1 := clsK_meth h (C := 783) (f := 780) (n := "__next__") (by decide +kernel)
 have h2 := clsK_meth h (C := 783) (f := 773) (n := "__iter__") (by decide +kernel)
 exact ⟨h1.2.1, h1.2.2, h2.2.1, h2.2.2⟩
theorem EX.to {k : Nat} {A A' : Around} {C C' : Cx} {X X' : String → Sy → Prop} {e : Value} {s : Shared} (h : EX k A C X e s) (hfr : A'.frames = A.frames) (hrel : ∀ ρ b, Rel C' ρ b → Rel C ρ b) (hloc : C'.env.locals = C.env.locals) (hX : ∀ cls S, X cls S → X' cls S) (hrx : ∀ (S : Sy) (ρ : List Addr), Rx C S.fs S.own ρ s → Rx C' S.fs S.own ρ s) : EX k A' C' X' e s := by
 obtain ⟨cls, S, ρ, B, l, ea, x⟩ := h
 have hfA : ∀ a, frA A a → frA A' a := fun a ⟨l', e', q1, q2, q3⟩ => ⟨l', e', hfr.trans q1, q2, q3⟩
 refine ⟨cls, S, ρ, B, l, ea, x.ev, hX _ _ x.x, x.pl, hrx _ _ x.rx, hfr.trans x.fl, fun b o r g n => x.cov b o (hrel _ _ r) g fun q => n (hfA b q), x.ff, x.st, ?_⟩
 have := x.ex
 rcases k with _ | _ | k
 ·exact this
 ·exact this
 ·obtain ⟨a0, h⟩ := this; exact ⟨a0, by rw [hloc]; exact h⟩
theorem sub_vs : isSubtype (.type "ValueError") (.type "StopIteration") = pure false := by rw [isSubtype_type]; kernel_rfl
theorem sub_ss : isSubtype (.type "StopIteration") (.type "StopIteration") = pure true := by rw [isSubtype_type]; kernel_rfl
theorem lens {α : Type} {l : List α} {i j n k : Nat} (g1 : l.drop j = (l.drop i).drop n) (g3 : 0 < n) (g4 : 0 < (l.drop i).length) (hj : j ≤ l.length) (hws : k ≤ i) : k + 1 ≤ j := by
 have g1 := congrArg List.length g1
 rw [List.length_drop, List.length_drop, List.length_drop] at g1
 rw [List.length_drop] at g4
 have h := Nat.sub_pos_iff_lt.mp g4
 have e1 := Nat.sub_add_cancel hj
 have e2 := Nat.sub_add_cancel (Nat.le_of_lt h)
 by_cases q : n ≤ l.length - i
 ·have := Nat.sub_add_cancel q; lia
 ·have := Nat.sub_eq_zero_of_le (Nat.le_of_not_le q); exact nl5 [_, _, _, _, _, _] vr0 vr1 (.add vr1 (.num 1)) vr2 vr2 (.add vr3 vr4) vr3 vr5 vr5 (.num 0) (.add vr0 (.num 1)) vr4 rfl hws h (Nat.le_of_eq (Eq.symm e1)) (Nat.le_of_eq g1) (Nat.le_of_eq this)
theorem list_loop (hF : F.Ok) (hT : TopOk F.w F.T F.gl) (hgl : F.gl = gl) (hL : LexFs F.T) (hn : 9 ≤ F.n) (hl : l.length ≤ 1000000) (hpl : plF fs = true) (hE : ∀ e s', EX 1 F.A F.C X e s' → F.E e s') {R : Result → Shared → Prop}
  {s₀ : Shared} {ρ₀ : List Addr} {L x : Addr} (hRE : ∀ e s', F.E e s' → R (.error e) s') {en : Bool} {r : List Nat} {W : Option (List (List Nat))} (hW : Wd en r W) :
  (W = none → ∀ own', X "ValueError" ⟨fs, own'⟩) → ∀ (i : Nat) (ln : Int) (ws : List (List Nat)) (s : Shared) (ρ : List Addr), r = l.drop i → i ≤ l.length → (en = true → i = l.length) → okm (mEn en) r = true → ws.length ≤ i →
   (∀ ws' s' ρ' en ln i, W = some ws' → F.C.t0 ≤ s'.toks → Rx F.C fs (lstS en ln l i (ws ++ ws') fs).own ρ' s' → ρ'[6]? = some L → Ext F.C.bd s₀.heap ρ₀ s'.heap ρ' → R (.ok (.ret .none)) s') →
   Rx F.C fs (lstS en ln l i ws fs).own ρ s → ρ[6]? = some L → ρ[1]? = some x → Ext F.C.bd s₀.heap ρ₀ s.heap ρ → codeAny (model pr F.w) F.A.in1 (.builtin "list.extend.loop" ⟨[.ref L, .ref x, .none], []⟩) R s := by
 have step : ∀ {en : Bool} {R1 : TokR} (i : Nat) (ln : Int) (ws : List (List Nat)) (s : Shared) (ρ : List Addr), i ≤ l.length → (en = true → i = l.length) → okm (mEn en) (l.drop i) = true → rdm (mEn en) [] (l.drop i) = R1 → (R1 = none → ∀ own', X "ValueError" ⟨fs, own'⟩) →
   (∀ s' ρ' en' ln' j r', R1 = some (none, r', en') → F.C.t0 ≤ s'.toks → Rx F.C fs (lstS en' ln' l j ws fs).own ρ' s' → ρ'[6]? = some L → Ext F.C.bd s₀.heap ρ₀ s'.heap ρ' → R (.ok (.ret .none)) s') →
   (∀ t j en' ln' s' ρ', R1 = some (some t, l.drop j, en') → j ≤ l.length → (en' = true → j = l.length) → Rx F.C fs (lstS en' ln' l j (ws ++ [t]) fs).own ρ' s' → ρ'[6]? = some L → ρ'[1]? = some x → Ext F.C.bd s₀.heap ρ₀ s'.heap ρ' → codeAny (model pr F.w) F.A.in1 (.builtin "list.extend.loop" ⟨[.ref L, .ref x, .none], []⟩) R s') →
   ws.length ≤ 1000001 → Rx F.C fs (lstS en ln l i ws fs).own ρ s → ρ[6]? = some L → ρ[1]? = some x → Ext F.C.bd s₀.heap ρ₀ s.heap ρ → codeAny (model pr F.w) F.A.in1 (.builtin "list.extend.loop" ⟨[.ref L, .ref x, .none], []⟩) R s := by
  intro en R1 i ln ws s ρ hi hen hok hR1 hX1 hfin hcons hws I hL6 hx1 hx
  refine codeAny_builtin PySem.F.entry_extend_loop ?_
  rw [Around.under_plainId PySem.F.plain_extend_loop _]
  show wpAny _ F.A.in1.in1 (pyNext (.ref x) >>= _) _ _ s
  refine el12 (hF.frag (S := lstS en ln l i ws fs) I) fun K hK hc => ?_
  obtain ⟨k1, k2, -, -⟩ := cls_facts hc
  have hv : Is s.heap F.C.bd ρ (.own 1) (.ref x) := ⟨x, hx1, rfl⟩
  obtain ⟨x', dx, od, xs, nn, m, hxx, Xi⟩ := inst_facts (F := F) (S := lstS en ln l i ws fs) (c := 783) (d := 0) I rfl hv
  cases hxx
  let C2 := F.C.re s ρ
  let X2 : String → Sy → Prop := fun cls S' => S'.fs = fs ∧ ((cls = "ValueError" ∧ R1 = none) ∨ (cls = "StopIteration" ∧ ∃ j en' ln', R1 = some (none, l.drop j, en') ∧ S'.own = (lstS en' ln' l j ws fs).own))
  let Q2 : AV → Sy → Prop := fun a S1 => ∃ t j en' ln', a = .str (tx t) ∧ R1 = some (some t, l.drop j, en') ∧ j ≤ l.length ∧ (en' = true → j = l.length) ∧ S1 = lstS en' ln' l j ws fs
  have hF2 := ((hF.in1 (n := F.n - 1) (by exact (Nat.le_of_eq (Nat.sub_add_cancel (nl1 [_] (.num 9) vr0 (.num 1) vr0 rfl hn)))) (fun _ _ => False)).in1 (n := F.n - 2) (by show F.n - 2 + 1 ≤ F.n - 1; exact nl2 [_, _, _] (.add vr0 (.num 2)) vr1 vr1 (.add vr2 (.num 1)) (.add vr0 (.num 1)) vr2 rfl (Nat.le_of_eq (Nat.sub_add_cancel (nl1 [_] (.num 9) vr0 (.num 2) vr0 rfl hn))) (Nl.sb _ _)) (fun _ _ => False)).re s ρ (fun e s' => EX 1 F.A.in1.in1 C2 X2 e s')
  have hcall := next_ok (X := X2) (Q := Q2) hF2 hT hgl hL (by show 6 ≤ F.n - 2; exact nl2 [_, _] (.num 9) vr0 vr0 (.add vr1 (.num 2)) (.num 6) vr1 rfl hn (Nl.sb _ _)) hl hi hen hok hR1 (fun _ _ _ => hpl) (fun _ _ z => z) (fun q own' => ⟨rfl, .inl ⟨rfl, q⟩⟩) (lstS_pl ws) (fun j en' ln' q => ⟨rfl, .inr ⟨rfl, j, en', ln', q, rfl⟩⟩) (fun t j en' ln' q h1 h2 => ⟨t, j, en', ln', rfl, q, h1, h2, rfl⟩) s ρ (.ref 780) [.ref x] I.re rfl (.cons hv .nil)
  have hcall := wp_tk I.tk hcall
  have pref : ∀ {ρ' : List Addr} {k : Nat} {a : Addr}, (∃ u, ρ' = ρ ++ u) → ρ[k]? = some a → ρ'[k]? = some a := fun {ρ' k a} h e => by
   obtain ⟨u, rfl⟩ := h
   rw [List.getElem?_append_left (List.getElem?_eq_some_iff.mp e).1]; exact e
  unfold pyNext
  refine wpAny_bind (wpAny_bind (wpAny_attempt (special_fn (name := "__next__") (args := []) hK Xi.ia k1 k2 (wpAny_mono hcall (fun v s1 hq => ?_) (fun e s1 he => ?_)))))
  ·obtain ⟨a, S1, ρ1, ⟨t, j, en', ln', rfl, q1, q2, q3, rfl⟩, I1, hav, x1⟩ := hq
   refine el02 (Rx.un I I1) fun I1 x1' => ?_
   obtain ⟨tt, rfl⟩ := hav
   have h6 := pref x1'.1 hL6
   obtain ⟨L', oL, e1, e2, its, nL, rfl, hal⟩ := I1.mine 6 (.list (ws.map fun t => .str (tx t))) rfl
   rw [h6] at e1; obtain rfl := Option.some.inj e1
   refine wpAny_pure ?_
   show wpAny _ _ (updateSeq L (·.push (.str (tx t) tt)) >>= fun _ => again (.builtin "list.extend.loop" ⟨[.ref L, .ref x, .none], []⟩)) _ _ s1
   have hsz : its.size = ws.length := by have := hal.length; simp at this; exact this.symm
   obtain ⟨n', I2, e3, x2⟩ := lst_upd (f := fun y => y.push (.str (tx t) tt)) (xs' := (ws ++ [t]).map fun t => .str (tx t)) I1 h6 e2 (by
    rw [List.map_append, Array.toList_push]
    exact (hal.mem fun a ha b y => y.pl (by obtain ⟨t, _, rfl⟩ := List.mem_map.mp ha; rfl)).append (.cons ⟨tt, rfl⟩ .nil))
   refine wpAny_bind (wpAny_updateSeq e2 rfl (wpAny_pure ⟨plainId_quiet PySem.F.plain_extend_loop _, hcons t j en' ln' _ ρ1 q1 q2 q3 I2 h6 (pref x1'.1 hx1) ((hx.trans x1').trans x2)⟩) ?_ ?_)
   ·rw [hsz, sizeLine_eq]; exact nl1 [_] vr0 (.num 1000001) vr0 (.num 16777216) rfl hws
   ·show (its.push _).size ≤ sizeLine + 1; rw [Array.size_push, hsz, sizeLine_eq]; exact nl1 [_] vr0 (.num 1000001) (.add vr0 (.num 1)) (.add (.num 16777216) (.num 1)) rfl hws
  ·obtain ⟨cls, S', ρ', B, l', ea, xx⟩ := he
   refine el02 (Rx.un I xx.rx) fun I1 x1' => ?_
   refine el11 (xx.ex) fun a0 hfl => ?_
   refine el12 (hfl.there) fun ob hob hcl => ?_
   obtain rfl := xx.ev
   refine el02 (xx.x) fun hfs hx2 => ?_
   rcases hx2 with ⟨rfl, hR0⟩ | ⟨rfl, j, en', ln', q1, q2⟩
   ·refine wpAny_bind (wpAny_isInstance ⟨ob, hob, hcl⟩ sub_vs ?_)
    refine wpAny_throw (hRE _ _ (hE _ _ ⟨"ValueError", S', ρ', B, l', ea, rfl, ?_, xx.pl, I1, xx.fl, ?_, xx.ff, xx.st, a0, hfl⟩))
    ·have := hX1 hR0 S'.own; rw [← hfs] at this; exact this
    ·exact fun b o rl g n => xx.cov b o (rl.elim (fun ⟨o', z⟩ => .inl ⟨o', .inl z⟩) .inr) g fun q => n q
   ·refine wpAny_bind (wpAny_isInstance ⟨ob, hob, hcl⟩ sub_ss ?_)
    refine wpAny_pure (wpAny_pure ?_)
    exact hfin s1 ρ' en' ln' j _ q1 I1.tk (by rw [← hfs, ← q2]; exact I1) (pref x1'.1 hL6) (hx.trans x1')
 intro hX
 induction hW with
 | err e =>
  intro i ln ws s ρ hr hi hen hok hws hR I h6 h1 hx
  subst hr
  exact step i ln ws s ρ hi hen hok e (fun _ => hX rfl) (fun _ _ _ _ _ _ q => by contradiction) (fun _ _ _ _ _ _ q => by contradiction) (by exact nl3 [_, _, _] vr0 vr1 vr1 vr2 vr2 (.num 1000000) vr0 (.num 1000001) rfl hws hi hl) I h6 h1 hx
 | fin e =>
  intro i ln ws s ρ hr hi hen hok hws hR I h6 h1 hx
  subst hr
  exact step i ln ws s ρ hi hen hok e (fun q => by contradiction) (fun s' ρ' en' ln' j r' q ht I' h6' hx' => hR [] s' ρ' en' ln' j rfl ht (by rw [List.append_nil]; exact I') h6' hx') (fun _ _ _ _ _ _ q => by cases q) (by exact nl3 [_, _, _] vr0 vr1 vr1 vr2 vr2 (.num 1000000) vr0 (.num 1000001) rfl hws hi hl) I h6 h1 hx
 | @cons en r r' e' t W e _ ih =>
  intro i ln ws s ρ hr hi hen hok hws hR I h6 h1 hx
  subst hr
  refine step i ln ws s ρ hi hen hok e (fun q => by contradiction) (fun _ _ _ _ _ _ q => by cases q) (fun t' j en' ln' s' ρ' q hj hen' I' h6' h1' hx' => ?_) (by exact nl3 [_, _, _] vr0 vr1 vr1 vr2 vr2 (.num 1000000) vr0 (.num 1000001) rfl hws hi hl) I h6 h1 hx
  injection q with q; injection q with q1 q2; injection q2 with q2 q3
  injection q1 with q1
  subst q1 q3 q2
  refine ih (fun q => hX (by rw [q]; rfl)) j ln' (ws ++ [t]) s' ρ' rfl hj hen' (okm_next hok e) ?_ (fun ws' s'' ρ'' en'' ln'' i'' q ht I'' => hR (t :: ws') s'' ρ'' en'' ln'' i'' (by rw [q]; rfl) ht (by rw [List.append_assoc] at I''; exact I'')) I' h6' h1' hx'
  induction en with
  | true => simp [mEn, rdm] at e
  | false =>
   obtain ⟨⟨n, g1, g2⟩, _⟩ := rdm_some _ _ _ e
   refine el02 (g2 rfl (by simp)) fun g3 g4 => ?_
   rw [List.length_append]; exact lens g1 g3 g4 hj hws
end
end
section
open PySem.Builtin
theorem cls_noLen {K : Frag} (h : clsK K = true) : findIn K (.ref 783) "__len__" = some none ∧ findIn K (.ref 783) "__length_hint__" = some none := by
 simp only [clsK, clsMk, Bool.and_eq_true, beq_iff_eq] at h
 exact ⟨h.2.1.1.1.1.1.2, h.2.1.1.1.1.2⟩
theorem iter_own {M : Model} {A : Around} {E : Value → Shared → Prop} {s : Shared} {K : Frag} {x C f : Addr} {ox : Obj} {od : Option Obj} {P : Value → Shared → Prop} (hK : K.In s.heap) (I : InstAt s.heap x ox C od) (h1 : findIn K (.ref C) "__iter__" = some (some (.ref f))) (h2 : typeIn K (.ref f) = some (.type "function"))
  (h : wpAny M A (call (.ref f) [.ref x]) (fun v s' => ∃ C' g, Looks M s'.heap (typeOf v) C' ∧ Looks M s'.heap (typeLookup C' "__next__") (some g) ∧ P v s') E s) : wpAny M A (pyIter (.ref x)) P E s := by
 have bound : Looks M s.heap (bindSpecialIfBound? (.ref x) "__iter__") (some (.ref f, [.ref x])) := by
  intro A Q E s' k q
  have b := (bind_fn (M := M) hK (.ref x) h2).keeps k
  refine wpAny_bind (wpAny_bind ((I.type.keeps k).here (((looks_findIn hK h1).keeps k).here (wpAny_bind (wpAny_askSetting ?_)))))
  cases M.w.params.followText "special-get-raises" with
  | true => rw [if_pos rfl]; exact wpAny_bind (b.here (wpAny_pure q))
  | false => rw [if_neg Bool.false_ne_true]; exact wpAny_tryCatch (wpAny_bind (b.here (wpAny_pure q)))
 unfold pyIter
 refine wpAny_bind (wpAny_bind (I.type.here ((looks_findIn hK h1).here ?_)))
 show wpAny M A (callSpecialIfBoundUnlessNone? (.ref x) "__iter__" _ >>= _) P E s
 refine wpAny_bind (wpAny_holding (wpAny_bind (bound.here ?_)))
 show wpAny M A (if (Value.ref f == Value.none) = true then _ else _) _ _ _
 rw [if_neg (show ¬ (Value.ref f == Value.none) = true from Bool.false_ne_true)]
 refine wpAny_bind (wpAny_mono h (fun v s' hv => wpAny_pure ?_) fun _ _ e => e)
 refine el23 (hv) fun C' g t1 t2 hp => ?_
 exact wpAny_bind (wpAny_bind (t1.here (t2.here (wpAny_pure hp))))
section
variable {F : Fx} {fs : Fs} {l : List Nat} {X : String → Sy → Prop}
theorem list_init (hF : F.Ok) (hT : TopOk F.w F.T F.gl) (hL : LexFs F.T) (hn : 9 ≤ F.n) {P : Fin → Shared → Prop} {E : Value → Shared → Prop} {s₁ : Shared} {ρ : List Addr} {L x : Addr} (hS : s₁.heap.get? L = some { cls := .type "list", data := .seq #[] })
  (I1 : Rx F.C fs (lstS false 1 l 0 [] fs).own ρ s₁) (h6 : ρ[6]? = some L) (h1 : ρ[1]? = some x)
  (fin : ∀ s' ρ', Rx F.C fs (lstS false 1 l 0 [] fs).own ρ' s' → ρ'[6]? = some L → ρ'[1]? = some x → Ext F.C.bd s₁.heap ρ s'.heap ρ' → P (.again (.builtin "list.extend.loop" ⟨[.ref L, .ref x, .none], []⟩)) s') :
  wpAny (model pr F.w) F.A.in1.in1 («list.__init__» { pos := [.ref L, .ref x] }) P E s₁ := by
 show wpAny _ F.A.in1.in1 (do let old ← Builtin.List.listItems (.ref L); Builtin.List.listUpdate (.ref L) (fun _ => #[]); letGo old.toList.reverse; Builtin.List.listExtendWith (.ref L) (.ref x) .none) _ _ _
 refine wpAny_bind ?_
 unfold Builtin.List.listItems
 refine wpAny_bind (wpAny_seqItems hS rfl (wpAny_pure ?_))
 show wpAny _ F.A.in1.in1 (updateSeq L (fun _ => #[]) >>= fun _ => letGo (#[] : Array Value).toList.reverse >>= fun _ => Builtin.List.listExtendWith (.ref L) (.ref x) .none) _ _ _
 refine el13 (lst_upd (f := fun _ => (#[] : Array Value)) (xs' := []) I1 h6 hS .nil) fun n1 I2 hS2 x2 => ?_
 refine wpAny_bind (wpAny_updateSeq hS rfl (wpAny_bind (wpAny_letGo ?_)))
 have Xf : ∀ {s' : Shared} {ρ' : List Addr} {ws : List (List Nat)} {en : Bool} {ln : Int} {i : Nat}, Rx F.C fs (lstS en ln l i ws fs).own ρ' s' → ρ'[1]? = some x → (∃ K : Frag, K.In s'.heap ∧ clsK K = true) ∧ ∃ dx od, InstAt s'.heap x (instObj 783 dx) 783 (some od) := fun {s' ρ' ws en ln i} I' e => by
  refine ⟨hF.frag (S := lstS en ln l i ws fs) I', ?_⟩
  obtain ⟨x', dx, od, xs, nn, m, hxx, Xi⟩ := inst_facts (F := F) (S := lstS en ln l i ws fs) (a := .own 1) (v := .ref x) (c := 783) (d := 0) I' rfl ⟨x, e, rfl⟩
  cases hxx
  exact ⟨dx, od, Xi.ia⟩
 unfold Builtin.List.listExtendWith
 obtain ⟨⟨K2, hK2, hc2⟩, dx2, od2, Xi2⟩ := Xf (ws := []) (en := false) (ln := 1) (i := 0) I2 h1
 obtain ⟨-, -, k3, k4⟩ := cls_facts hc2
 refine wpAny_bind (Xi2.type.here ?_)
 have hne : L ≠ x := fun q => by
  subst q
  have := (List.getElem?_inj (i := 6) (j := 1) (List.getElem?_eq_some_iff.mp h6).1 I2.apart).mp (h6.trans h1.symm)
  exact (Nat.not_succ_le_zero 0 (nl1 [] (.num 6) (.num 1) (.num 1) (.num 0) rfl (Nat.le_of_eq this))).elim
 refine wif_f (Bool.or_eq_false_iff.mpr ⟨Bool.or_eq_false_iff.mpr ⟨decide_eq_false hne, by decide⟩, by decide⟩) ?_
 let A2 := F.A.in1.in1
 have hF2 := ((hF.in1 (n := F.n - 1) (by exact (Nat.le_of_eq (Nat.sub_add_cancel (nl1 [_] (.num 9) vr0 (.num 1) vr0 rfl hn)))) (fun _ _ => False)).in1 (n := F.n - 2) (by show F.n - 2 + 1 ≤ F.n - 1; exact nl2 [_, _, _] (.add vr0 (.num 2)) vr1 vr1 (.add vr2 (.num 1)) (.add vr0 (.num 1)) vr2 rfl (Nat.le_of_eq (Nat.sub_add_cancel (nl1 [_] (.num 9) vr0 (.num 2) vr0 rfl hn))) (Nl.sb _ _)) (fun _ _ => False))
 have hit := iter_lex (Q := fun a S1 => a = .own 1 ∧ S1 = lstS false 1 l 0 [] fs) hF2 hT hL (by show 1 ≤ F.n - 2; exact nl2 [_, _] (.num 9) vr0 vr0 (.add vr1 (.num 2)) (.num 1) vr1 rfl hn (Nl.sb _ _)) ⟨rfl, rfl⟩ _ _ (.ref 773) [.ref x] I2 rfl (.cons ⟨x, h1, rfl⟩ .nil)
 have hit := wp_tk I2.tk hit
 refine wpAny_bind (iter_own hK2 Xi2 k3 k4 (wpAny_mono hit (fun v s3 hq => ?_) fun _ _ z => z.elim))
 obtain ⟨a, S3, ρ3, ⟨rfl, rfl⟩, I3, hav, x3⟩ := hq
 refine el11 (x3.1) fun u hu => ?_
 obtain ⟨x', hx', rfl⟩ := hav
 have pref : ∀ {k : Nat} {a : Addr}, ρ[k]? = some a → ρ3[k]? = some a := fun {k a} e => by
  rw [hu, List.getElem?_append_left (List.getElem?_eq_some_iff.mp e).1]; exact e
 have h13 := pref h1
 rw [hx'] at h13; cases h13
 have h63 := pref h6
 obtain ⟨⟨K3, hK3, hc3⟩, dx3, od3, Xi3⟩ := Xf (ws := []) (en := false) (ln := 1) (i := 0) I3 hx'
 refine ⟨_, _, Xi3.type, looks_findIn hK3 (cls_facts hc3).1, ?_⟩
 refine wpAny_bind (wpAny_holding ?_)
 refine el02 (cls_noLen hc3) fun l1 l2 => ?_
 unfold Builtin.List.listLengthHint
 refine wpAny_bind (wpAny_bind (Xi3.type.here ((looks_findIn hK3 l1).here ?_)))
 show wpAny _ A2 (specialOf (Value.ref x) (Str.ofString "__length_hint__") >>= _) _ _ _
 refine wpAny_bind (wpAny_bind (Xi3.type.here ((looks_findIn hK3 l2).here ?_)))
 refine wpAny_pure ?_
 show wpAny _ A2 (rule "list.extend.makes-room" >>= fun _ => Builtin.List.listTouch (.ref L) >>= fun _ => again (.builtin "list.extend.loop" ⟨[.ref L, .ref x, .none], []⟩)) _ _ _
 refine wpAny_bind (wpAny_rule (wpAny_bind ?_))
 show wpAny _ A2 (updateSeq L (·.push .none) >>= fun _ => updateSeq L (·.pop)) _ _ _
 obtain ⟨L', oL, e1, e2, its, nL, rfl, hal⟩ := I3.mine 6 (.list []) rfl
 rw [h63] at e1; obtain rfl := Option.some.inj e1
 have hits : its = #[] := by have := hal.length; simp at this; exact Array.eq_empty_of_size_eq_zero this.symm
 subst hits
 refine el13 (lst_upd (f := fun y => y.push Value.none) (xs' := [.none]) I3 h63 e2 (.cons rfl .nil)) fun n4 I4 hS4 x4 => ?_
 refine wpAny_bind (wpAny_updateSeq e2 rfl ?_)
 refine el13 (lst_upd (f := fun y => y.pop) (xs' := []) I4 h63 hS4 .nil) fun n5 I5 hS5 x5 => ?_
 refine wpAny_updateSeq (hz := by seq_fits) hS4 rfl ?_
 exact wpAny_pure (fin _ _ I5 h63 hx' (((x2.trans x3).trans x4).trans x5))
theorem l_list (hF : F.Ok) (hT : TopOk F.w F.T F.gl) (hgl : F.gl = gl) (hL : LexFs F.T) (hn : 9 ≤ F.n) (hl : l.length ≤ 1000000) (hpl : plF fs = true) (hE : ∀ e s', EX 1 F.A F.C X e s' → F.E e s') {W : Option (List (List Nat))} (hW : Wd false l W) (hok : okm .sp l = true)
  (hX : W = none → ∀ own', X "ValueError" ⟨fs, own'⟩) {Q : AV → Sy → Prop} (hQ : ∀ ws en ln i, W = some ws → Q (.own 6) (lstS en ln l i ws fs)) :
  Leaf (SmL F (.typ "list") [.own 1] ⟨fs, ownX (shD (.str " ") (.str "") 1) (tx l) ((0 : Nat) : Int) (dqs [])⟩ Q) := by
 refine ⟨?_⟩
 rintro s ρ fv vs I rfl hvs
 cases hvs with | cons hv hvn => ?_
 cases hvn
 have hv' := hv
 obtain ⟨x, hx1, rfl⟩ := hv
 have hlen : ρ.length = 6 := I.len.symm
 let ob0 : Obj := { cls := .type "list", data := .seq #[] }
 refine callType_codes (Q₁ := fun obj s₁ => obj = .ref s.heap.objs.size ∧ s₁ = { s with heap := s.heap.push ob0 }) PySem.F.called_list (PySem.F.typeCall_list_1 _) PySem.F.entry_list_init (code_list_new _ ⟨rfl, rfl⟩) fun obj s₁ h₁ => ?_
 obtain ⟨rfl, rfl⟩ := h₁
 have hS : (s.heap.push ob0).get? s.heap.objs.size = some ob0 := Heap.get?_push_size _ rfl
 have I1 : Rx F.C fs (lstS false 1 l 0 [] fs).own (ρ ++ [s.heap.objs.size]) { s with heap := s.heap.push ob0 } := I.alloc (.list []) ob0 rfl ⟨#[], 0, rfl, .nil⟩ s.toks I.tk
 have x1 : Ext F.C.bd s.heap ρ (s.heap.push ob0) (ρ ++ [s.heap.objs.size]) := I.allocExt _
 have h6 : (ρ ++ [s.heap.objs.size])[6]? = some s.heap.objs.size := by rw [List.getElem?_append_right (by lia), hlen]; rfl
 have h1 : (ρ ++ [s.heap.objs.size])[1]? = some x := by rw [List.getElem?_append_left (by exact nl1 [_] (.num 6) vr0 (.add (.num 1) (.num 1)) vr0 rfl (Nat.le_of_eq (Eq.symm hlen)))]; exact hx1
 refine ⟨⟨_, hS, rfl⟩, PySem.F.args_list_init_2 _ _, list_init hF hT hL hn hS I1 h6 h1 fun s' ρ' I5 h63 hx' x5 => ?_⟩
 generalize s.heap.objs.size = L at *
 refine ⟨plainId_quiet PySem.F.plain_extend_loop _, ?_⟩
 refine list_loop (F := F) (X := X) (R := wants (fun r s₂ => r = .none ∧ Pt F.C Is Q s ρ (.ref L) s₂) F.E) (s₀ := s) (ρ₀ := ρ) hF hT hgl hL hn hl hpl hE (fun e s' z => z) hW hX 0 1 [] _ _ rfl (Nat.zero_le _) (fun q => by contradiction) hok (Nat.zero_le _) ?_ I5 h63 hx' (x1.trans x5)
 intro ws' s' ρ' en ln i hw ht I' h6' hx
 exact ⟨rfl, fun _ => ⟨.own 6, _, ρ', hQ ws' en ln i hw, I', ⟨L, h6', rfl⟩, hx⟩⟩
end
end
section
open PySem.Builtin PySem.Builtin.ObjectAttr
structure SioK (K : Frag) : Prop where
 rd : readsIn K 648 (.type "type") = true
 sm : findCls K (.ref 648) (.type "type") "__new__" = some (.get (.builtin "staticmethod.__get__") (.ref 145) .none (.ref 648))
 rc : ∃ rest, recIn K 145 "staticmethod" = some (.ref 141 :: rest)
 ty : typeIn K (.ref 141) = some (.type "function")
 mb : evL K (Bind.madeBy (.ref 648)) = some none
 mh : evL K (Bind.madeHere "object.__new__" (.ref 648)) = some ()
 mr : ∃ l, evL K (mroOf (.ref 648)) = some l ∧ l.isEmpty = false
 cl : evL K (specialOf (.ref 648) "__call__") = some (some (.builtin "type.__call__"))
 it : evL K (isInstance (.ref 648) (.type "type")) = some true
 sf : evL K (isSubtype (.ref 648) (.ref 648)) = some true
 so : evL K (isSubtype (.ref 648) (.type "object")) = some true
 cd : ∃ cd, clsIn K 648 = some cd ∧ cd.abstract = false ∧ cd.hasDel = false
 sb : evL K (Bind.staticBase (.ref 648)) = some (.type "object")
 mo : evL K (Bind.madeBy (.type "object")) = some (some "object.__new__")
 i1 : evL K (compareOp .IsNot (.ref 648) (.ref 401)) = some (.bool true)
 i2 : evL K (compareOp .IsNot (.ref 648) (.ref 648)) = some (.bool false)
theorem isSm_eq {r : Option CFound} (h : isSm r = true) : r = some (.get (.builtin "staticmethod.__get__") (.ref 145) .none (.ref 648)) := by
 rcases r with _ | c
 ·exact noff h
 ·induction c with
  | get v1 v2 v3 v4 =>
   induction v1 with
   | builtin i =>
    induction v2 with
    | ref p =>
     induction v3 with
     | none =>
      induction v4 with
      | ref c =>
       refine el02 (Bool.and_eq_true_iff.mp (show (i == "staticmethod.__get__" && p == 145 && c == 648) = true from h)) fun h1 h3 => ?_
       refine el02 (Bool.and_eq_true_iff.mp h1) fun h1 h2 => ?_
       rw [eq_of_beq h1, eq_of_beq h2, eq_of_beq h3]
      | _ => exact noff h
     | _ => exact noff h
    | _ => exact noff h
   | _ => exact noff h
  | _ => exact noff h
theorem sioK {K : Frag} (h : clsK K = true) : SioK K := by
 simp only [clsK, clsMk, clsSio, Bool.and_eq_true, beq_iff_eq] at h
 obtain ⟨⟨⟨⟨⟨⟨⟨⟨⟨⟨⟨⟨⟨⟨⟨a1, a2⟩, a3⟩, a4⟩, a5⟩, a6⟩, a7⟩, a8⟩, a9⟩, a10⟩, a11⟩, a12⟩, a13⟩, a14⟩, a15⟩, a16⟩ := h.2.1.1.1.2
 refine ⟨a1.2, ?_, ?_, a4, a5, ?_, ?_, a8, a9, a10, a11, ?_, a13, a14, a15, a16⟩
 ·exact isSm_eq a2
 ·refine el12 (any_some a3) fun l h1 h2 => ?_
  induction l with
  | nil => contradiction
  | cons a r => exact ⟨r, by rw [h1, show a = .ref 141 by simpa using h2]⟩
 ·obtain ⟨u, hu⟩ := Option.isSome_iff_exists.mp a6; exact hu
 ·obtain ⟨l, h1, h2⟩ := any_some a7; exact ⟨l, h1, by simpa using h2⟩
 ·refine el12 (any_some a12) fun cd h1 h2 => ?_
  exact ⟨cd, h1, by simpa using h2⟩
section
variable {w : World} {A : Around} {K : Frag} {R : Result → Shared → Prop} {h : Heap} {g : Array GenState} {d : Drawn} {t : Nat} {os : OsState}
theorem sio_raw (hK : K.In h) (Y : SioK K) (hq : R (.ok (.ret (.ref (h.objs.size + 1)))) ⟨(h.push emptyDict).push (instObj 648 h.objs.size), g, d, t, os⟩) :
  codeAny (model pr w) A (.call (.builtin "object.__new__") ⟨[.ref 648], []⟩) R ⟨h, g, d, t, os⟩ := by
 have F := PySem.F.objNew
 refine el13 (Y.cd) fun cd hc e1 e2 => ?_
 have self : Looks (model pr w) h (isSubtype (.ref 648) (.ref 648)) true := evL_ok hK _ Y.sf
 have top : Looks (model pr w) h (isSubtype (.ref 648) (.type "object")) true := evL_ok hK _ Y.so
 have typ : Looks (model pr w) h (isInstance (.ref 648) (.type "type")) true := evL_ok hK _ Y.it
 have here : Looks (model pr w) h (Bind.madeHere "object.__new__" (.ref 648)) () := evL_ok hK _ Y.mh
 have sb : Looks (model pr w) h (Bind.staticBase (.ref 648)) (.type "object") := evL_ok hK _ Y.sb
 have mo : Looks (model pr w) h (Bind.madeBy (.type "object")) (some "object.__new__") := evL_ok hK _ Y.mo
 have clsd : Looks (model pr w) h (classData 648) cd := looks_clsIn hK hc
 obtain ⟨oc, od, sl, hC⟩ : ∃ oc od sl, h.get? 648 = some ⟨oc, od, .cls cd, sl⟩ := by
  unfold clsIn at hc
  split at hc
  ·rename_i ho; obtain rfl := Option.some.inj hc; exact ⟨_, _, _, hK _ _ ho⟩
  ·contradiction
 refine codeAny_call_builtin_code (Code.quiet_builtin _ F.quiet) ?_
 simp only [checkBuiltinCall, F.kind, F.split, F.row]
 have args : Bind.checkArgs "object.__new__" ⟨.hand, "object.__new__", "__new__", .cls, []⟩ ⟨[.ref 648], []⟩ = pure () := by kernel_rfl
 rw [args]
 repeat (first | simp only [bne_self_eq_false, Bool.false_eq_true, if_false] | lk)
 refine codeAny_builtin F.entry ?_
 unfold Builtin.«object.__new__»
 have fin : ∀ A', wpAny (model pr w) A' (do
   let d ← if typeHasDict (.ref 648) then some <$> alloc { cls := .type "dict", data := .dict #[] } else pure none
   ret (← newObj (.ref 648) .plain d)) (fun fin s' => match fin with | .done f => R (.ok f) s' | .again c' => c'.quiet = true ∧ codeAny (model pr w) A c' R s') (fun e s' => R (.error e) s') ⟨h, g, d, t, os⟩ := by
  intro A'
  show wpAny _ _ ((alloc emptyDict >>= fun x => pure (some x)) >>= _) _ _ _
  refine wpAny_bind (wpAny_bind (wpAny_alloc (wpAny_pure (wpAny_bind ?_))))
  show wpAny _ _ (newObjAsIs _ _ _) _ _ _
  unfold newObjAsIs classHasDel
  refine wpAny_bind (wpAny_alloc (wpAny_bind (wpAny_bind (wpAny_load (Heap.get?_push_of_some _ (Heap.get?_push_of_some _ hC)) (wpAny_pure ?_)))))
  rw [e2]
  refine wpAny_pure (wpAny_pure ?_)
  show R _ _
  rw [Heap.size_push]
  exact hq
 repeat (first | simp only [e1, Bool.false_eq_true, if_false] | exact fin _ | lk)
end
theorem objT : typeOf (.type "object") = pure (.type "type") := by kernel_rfl
theorem objStub : Manifest.isStub "object" = false := by decide +kernel
theorem objNewIn : findCls [] (.type "object") (.type "type") "__new__" = some (.val (.builtin "object.__new__")) := by kernel_rfl
theorem emptyIn (h : Heap) : Frag.In [] h := fun a o e => by contradiction
theorem objHand : handedIn (.builtin "object.__new__") = true := by kernel_rfl
theorem new_meth {T : String} {v : Value} {w : World} {A : Around} {E : Value → Shared → Prop} {s : Shared} {h₀ : Heap} {L : Addr} {m : Str → Option Value} {pl : Sem Bool} {Q : Value × List Value → Shared → Prop} 
 (h1 : typeOf (.type T) = pure (.type "type")) (h2 : Manifest.isStub T = false) (h3 : findCls [] (.type T) (.type "type") "__new__" = some (.val v)) (h4 : handedIn v = true) (F : Fr h₀ L s.heap m) (h : Q (v, []) { s with toks := s.toks + 1 }) : wpAny (model pr w) A (getMethod (.type T) "__new__" pl) Q E s :=
 method_type F (emptyIn h₀) h1 h2 h3 h4 h
section
variable {F : Fx} {S : Sy}
theorem Rx.frEmpty {C : Cx} {fs : Fs} {own : List AO} {ρ : List Addr} {s : Shared} (I : Rx C fs own ρ s) : ∃ m, Fr ⟨#[], {}⟩ C.env.locals s.heap m := by
 refine NsR.el (I.ns) fun m hm _ => ?_
 exact ⟨m, hm, fun b o e => by simp [Heap.get?] at e, Nat.zero_le _⟩
theorem sem_meth {M : Model} {A : Around} {E : Value → Shared → Prop} {env : Env} {o : Expr} {name : Str} {apos pos : Pos} {args : List Expr} {P : Value → Shared → Prop} {s : Shared} (hl : (apos.endLine == pos.line) = true) (hc : noCall o = true) (hs : args.all noStar = true) (hn : args.length < 30)
  (h : wpAny M A (eval o env) (fun ov s₁ => ∀ pl, wpAny M A (getMethod ov name pl) (fun fx s₂ => wpAny M A (callWith pos fx.1 fx.2 (backTo pos (starEach args env)) (backToKw pos (keywordEach [] env))) P E s₂) E s₁) E s) :
  wpAny M A (eval (.Call (.Attribute o name apos) args [] pos) env) P E s := by
 rw [arm_eval_Call, base_no hc]
 refine wpAny_bind (wpAny_mono h (fun ov s₁ h₁ => wpAny_bind (wpAny_standAt ?_)) fun _ _ e => e)
 have hform : methodCallForm (args.length + ([] : List Keyword).length) (backTo pos (starEach args env)) (backToKw pos (keywordEach [] env)) = true := by
  show ((backTo pos (starEach args env)).all (fun x => !x.1) && true && decide (args.length + 0 + 0 < 30)) = true
  rw [all_star hs]; simp; exact hn
 have hpos : methodCallPos true o env apos pos = pure pos := by unfold methodCallPos; simp [hl]
 unfold methodCall
 rw [hform]
 exact wpAny_bind (wpAny_holding (wpAny_mono (h₁ _) (fun fx s₂ h₂ => wpAny_bind (wpAny_of_eq hpos h₂)) fun _ _ e => e))
theorem Rx.alloc2 {C : Cx} {fs : Fs} {own : List AO} {ρ : List Addr} {s : Shared} (I : Rx C fs own ρ s) (c : Addr) : Rx C fs (own ++ [.dict [], .inst c own.length]) (ρ ++ [s.heap.objs.size, s.heap.objs.size + 1]) { s with heap := (s.heap.push emptyDict).push (instObj c s.heap.objs.size) } ∧
  Ext C.bd s.heap ρ ((s.heap.push emptyDict).push (instObj c s.heap.objs.size)) (ρ ++ [s.heap.objs.size, s.heap.objs.size + 1]) := by
 have I1 := I.alloc (.dict []) emptyDict rfl ⟨fun _ => none, ⟨#[], 0, rfl, (fun e he => absurd he (Array.not_mem_empty e)), fun _ => rfl, Nat.le_refl _⟩, rfl, no_list, fun _ _ => rfl, .nil⟩ s.toks I.tk
 have x1 := I.allocExt emptyDict
 have h1 : (ρ ++ [s.heap.objs.size] ++ [(s.heap.push emptyDict).objs.size])[own.length]? = some s.heap.objs.size := by
  rw [show own.length = ρ.length from I.len, List.append_assoc, List.getElem?_append_right (Nat.le_refl _), Nat.sub_self]; rfl
 have I2 := I1.alloc (.inst c own.length) (instObj c s.heap.objs.size) rfl ⟨_, h1, rfl⟩ s.toks I.tk
 have x2 := I1.allocExt (instObj c s.heap.objs.size)
 have e : ρ ++ [s.heap.objs.size] ++ [(s.heap.push emptyDict).objs.size] = ρ ++ [s.heap.objs.size, s.heap.objs.size + 1] := by
  rw [Heap.size_push, List.append_assoc]; rfl
 have e' : own ++ [AO.dict []] ++ [AO.inst c own.length] = own ++ [.dict [], .inst c own.length] := by rw [List.append_assoc]; rfl
 rw [e'] at I2
 change Rx C fs _ (ρ ++ [s.heap.objs.size] ++ [(s.heap.push emptyDict).objs.size]) _ at I2
 change Ext C.bd (s.heap.push emptyDict) (ρ ++ [s.heap.objs.size]) _ (ρ ++ [s.heap.objs.size] ++ [(s.heap.push emptyDict).objs.size]) at x2
 rw [e] at I2 x2
 exact ⟨I2, x1.trans x2⟩
theorem l_objnew (hF : F.Ok) {fs : Fs} {own : List AO} {np p apos pos : Pos} {Q : AV → Sy → Prop} (hk : F.sc.names.lookup ("object" : Str) = some .globalImplicit) (hv : F.gl "object" = some (.typ "object")) (hline : (apos.endLine == pos.line) = true) (hc : nm F "cls" ⟨fs, own⟩ fun v S₁ => v = .ref 648 ∧ S₁ = ⟨fs, own⟩)
  (h : Q (.own (own.length + 1)) ⟨fs, own ++ [.dict [], .inst 648 own.length]⟩) : Leaf (SemE F (.Call (.Attribute (.Name "object" np) "__new__" apos) [.Name "cls" p] [] pos) ⟨fs, own⟩ Q) := by
 refine ⟨fun s ρ I => ?_⟩
 refine el12 (gl_name hF (p := np) hk (by decide +kernel) hv I) fun v' h1 h2 => ?_
 obtain rfl : v' = .type "object" := h1 s.heap (fun _ => False) []
 refine sem_meth hline rfl rfl (by show 1 < 30; exact nl0 [] (.add (.num 1) (.num 1)) (.num 30) rfl) (h2 _ fun pl => ?_)
 refine el11 (I.frEmpty) fun m hm => ?_
 have k1 := @new_meth "object" (.builtin "object.__new__") F.w F.A F.E s ⟨#[], {}⟩ F.C.env.locals m pl
 have k2 := fun Q => @k1 Q objT objStub objNewIn objHand hm
 refine @k2 _ ?_
 have I1 : Rx F.C fs own ρ { s with toks := s.toks + 1 } := I.toks _ (Nat.le_succ_of_le I.tk)
 refine callWith_builtin rfl (evalArgs_plain (spliced_cons (Sm.go (nm_ok hF hc) I1 fun a S₁ v s₁ ρ₁ q I₁ hv x => spliced_nil ?_)))
 obtain ⟨rfl, rfl⟩ := q
 obtain rfl : v = .ref 648 := hv
 refine el12 (hF.frag I₁) fun K hK hc => ?_
 refine wpAny_call ?_
 show codeAny (model pr F.w) F.A (.call (.builtin "object.__new__") ⟨[.ref 648], []⟩) _ s₁
 refine el02 (I₁.alloc2 648) fun J x2 => ?_
 refine sio_raw hK (sioK hc) fun _ => ⟨_, _, _, h, J, ⟨_, ?_, rfl⟩, x.trans x2⟩
 rw [show own.length = ρ₁.length from I₁.len, List.getElem?_append_right (by exact nl0 [_] vr0 (.add vr0 (.num 1)) rfl), Nat.add_sub_cancel_left]
 rfl
end
end
section
set_option tactic.hygienic true
open PySem.Builtin PySem.Builtin.ObjectAttr
structure MkFs (T : Addr → Obj → Prop) : Prop where
 new : FnIs T 141 (mthAt 30 1) .none
 si : FnIs T 418 (mthAt 34 1) (.ref 411)
 tr : FnIs T 425 (mthAt 34 2) .none
 xi : FnIs T 707 (mthAt 43 0) (.ref 700)
 sp : FnIs T 795 (fnAt 44) (.ref 788)
 d1 : ∃ t1 t2, T 411 { cls := .type "tuple", data := .seq #[.str "" t1, .str "\n" t2] }
 d2 : T 700 { cls := .type "tuple", data := .seq #[.none, .none, .bool false, .bool false] }
 d3 : T 788 { cls := .type "tuple", data := .seq #[.bool false, .bool true] }
theorem under_tc (A : Around) (c : Addr) (vs : List Value) (kw : List (Str × Value)) : (A.under (.builtin "type.__call__" ⟨.ref c :: vs, kw⟩)).frames = A.frames ∧ (A.under (.builtin "type.__call__" ⟨.ref c :: vs, kw⟩)).depth = A.depth + 1 ∧ (A.under (.builtin "type.__call__" ⟨.ref c :: vs, kw⟩)).units = A.units + 1 ∧ (A.under (.builtin "type.__call__" ⟨.ref c :: vs, kw⟩)).handled = A.handled := by
 obtain ⟨hd, d, fr, gs, u⟩ := A
 have e1 : Code.weight (.builtin "type.__call__" ⟨.ref c :: vs, kw⟩) = 1 := by kernel_rfl
 have e2 : Code.cUnits (.builtin "type.__call__" ⟨.ref c :: vs, kw⟩) = 1 := by kernel_rfl
 have e3 : Code.envs (.builtin "type.__call__" ⟨.ref c :: vs, kw⟩) = [] := by kernel_rfl
 refine ⟨?_, by show d + Code.weight _ = _; rw [e1], by show u + Code.cUnits _ = _; rw [e2], rfl⟩
 unfold Around.under
 rw [e3]; cases fr <;> rfl
section
variable {F : Fx} {S : Sy}
theorem Fx.Ok.tc (hF : F.Ok) {n : Nat} (hn : n + 1 ≤ F.n) (E : Value → Shared → Prop) (c : Addr) (vs : List Value) (kw : List (Str × Value)) : (Fx.mk F.w (F.A.under (.builtin "type.__call__" ⟨.ref c :: vs, kw⟩)) F.C E F.sc F.gl F.T n).Ok := by
 refine el04 (under_tc F.A c vs kw) fun u1 u2 u3 u4 => ?_
 refine el12 (hF.frm) fun l h1 h2 => ?_
 exact ⟨⟨l, u1.trans h1, h2⟩, hF.pos, hF.sc, hF.kind, ⟨u4.trans hF.room.1, by have := hF.room.2.1; show (F.A.under _).depth + n ≤ 990; exact nl3 [_, _, _, _] vr0 (.add vr1 (.num 1)) (.add vr2 (.num 1)) vr3 (.add vr1 vr3) (.num 990) (.add vr0 vr2) (.num 990) rfl (Nat.le_of_eq u2) hn this, by have := hF.room.2.2; show (F.A.under _).units + 10 * n ≤ 9890; exact nl3 [_, _, _, _] vr0 (.add vr1 (.num 1)) (.mulL 10 (.add vr2 (.num 1))) (.mulL 10 vr3) (.add vr1 (.mulL 10 vr3)) (.num 9890) (.add vr0 (.mulL 10 vr2)) (.num 9890) rfl (Nat.le_of_eq u3) (Nat.mul_le_mul_left 10 hn) this⟩, hF.top, hF.lim, hF.gl, hF.cls⟩
theorem l_isnot_sio (hF : F.Ok) {a : Addr} {b : Bool} (hb : (a = 401 ∧ b = true) ∨ (a = 648 ∧ b = false)) {Q : AV → Sy → Prop} (h : Q (.bool b) S) : Leaf (Sm2 F Is (compareOp .IsNot) (.ref 648) (.ref a) S Q) := by
 refine ⟨?_⟩
 rintro s ρ v u I rfl rfl
 refine el12 (hF.frag I) fun K hK hc => ?_
 have Y := sioK hc
 rcases hb with ⟨rfl, rfl⟩ | ⟨rfl, rfl⟩
 ·exact (evL_ok (M := model pr F.w) hK _ Y.i1).here (Pg.same' I h rfl)
 ·exact (evL_ok (M := model pr F.w) hK _ Y.i2).here (Pg.same' I h rfl)
theorem iobase_new (hF : F.Ok) (hT : TopOk F.w F.T F.gl) (hgl : F.gl = gl) (hM : MkFs F.T) (hn : 1 ≤ F.n) {fs : Fs} {own : List AO} {x : Str} {Q : AV → Sy → Prop} (h : Q (.own (own.length + 1)) ⟨fs, own ++ [.dict [], .inst 648 own.length]⟩) : SmC F 141 [.ref 648, .str x] ⟨fs, own⟩ Q := by
 obtain ⟨w, FA, FC, FE, fsc, fgl, T, n⟩ := F
 dsimp only at hgl hT hM hn
 subst hgl
 obtain ⟨nm, qn, kd, dc, pm, an, cd, ct, hfn⟩ := hM.new
 rintro s ρ vs I hvs
 cases hvs with | cons h1 h2 => ?_
 cases h2 with | cons h2 h3 => ?_
 cases h3
 rename_i v1 v2
 obtain rfl : v1 = .ref 648 := h1
 refine el12 (hfn.obj) fun o ho hd => ?_
 have hup : ∀ b o, T b o → s.heap.get? b = some o := fun b o h => I.up _ _ (hF.top b o h).1
 have hcd : s.heap.CodeRec cd qn := by
  refine el44 (hfn.code) fun c oc cs t e1 e2 e3 e4 => ?_
  exact ⟨c, oc, cs, t, e1, hup _ _ e2, e3, e4⟩
 have hrm := hF.room
 have kp : ∀ b o, s.heap.get? b = some o → ((s.heap.push { cls := .type "tuple", data := .seq #[v2] }).push emptyDict).get? b = some o := fun b o e => Heap.get?_push_of_some _ (Heap.get?_push_of_some _ e)
 have I2 : Rx FC fs own ρ { s with heap := (s.heap.push { cls := .type "tuple", data := .seq #[v2] }).push emptyDict } := I.keeps kp rfl rfl I.tk
 have x2 : Ext FC.bd s.heap ρ ((s.heap.push { cls := .type "tuple", data := .seq #[v2] }).push emptyDict) ρ := Ext.keeps fun b o _ _ e => kp b o e
 have hb : bindArgs (fdAt (mthAt 30 1) nm qn .none kd dc pm an cd ct) ⟨[.ref 648, v2], []⟩ = (newTuple [v2] >>= fun t => alloc emptyDict >>= fun d => pure ([("cls", .ref 648), ("args", t), ("kwargs", .ref d)] : List (Str × Value))) := by kernel_rfl
 refine codeAny_call_function (by have := hrm.2.1; show FA.depth < 1000; dsimp only at this; exact nl1 [_, _] (.add vr0 vr1) (.num 990) (.add vr0 (.num 1)) (.num 1000) rfl this) (hup _ _ ho) hd (by kernel_rfl) (by kernel_rfl) rfl hcd ?_
 rw [hb]
 refine wpAny_bind (wpAny_newObj_type (hd := by size_fits) (wpAny_bind (wpAny_alloc (wpAny_pure ?_))))
 have hcell : (((mthAt 30 1).2.2.names).all fun x => decide (x.2 ≠ .cell)) = true := by kernel_rfl
 have hloc : ((["cls", "args", "kwargs"] : List Str).all fun x => decide ((mthAt 30 1).2.2.names.lookup x = some .local)) = true := by kernel_rfl
 have I3 := I2
 refine wpAny_newFunctionEnv (fun y hy => of_decide_eq_true (List.all_eq_true.mp hcell y hy)) (fun y hy => ?_) (fun h₀ hns hsb => ⟨(hT.lim _ fun b o h => I2.up _ _ (hF.top b o h).1).1.fresh _ hsb, codeAny_func ?_⟩) (by kernel_rfl)
 ·exact of_decide_eq_true (List.all_eq_true.mp hloc y.1 (by
   rcases hy with _ | ⟨_, hy⟩; · simp
   rcases hy with _ | ⟨_, hy⟩; · simp
   rcases hy with _ | ⟨_, hy⟩; · simp
   contradiction))
 ·refine own_body (F := ⟨w, FA, FC, FE, fsc, gl, T, n⟩) (S := ⟨fs, own⟩) (s := { s with heap := (s.heap.push { cls := .type "tuple", data := .seq #[v2] }).push emptyDict }) (ρ := ρ) (n := n - 1) (names := ["cls"]) (rest := ["args", "kwargs"]) (avs := [.ref 648]) (us := [.ref 648]) (X := fun _ _ => False) (Q := Q)
   (R := fun r s' => match r with | .ok (.ret v) => Pt FC Is Q s ρ v s' | .ok _ => False | .error e => FE e s') hF hT hfn (by kernel_rfl) (by kernel_rfl) rfl (by dsimp only; exact (Nat.le_of_eq (Nat.sub_add_cancel hn))) (fun _ _ h => h.elim) (fun _ _ ⟨_, _, _, _, _, _, x⟩ => x.x.elim) ?_ I2 (.cons rfl .nil) (fun i y u e1 e2 => ?_) hns (fun b o e => hsb.extBut b o (Nat.ne_of_lt (Heap.lt_size e)) (Heap.get?_push_of_some _ e)) (fun v s' z => Pt.ext x2 z) fun e s' z => z
  ·intro A C E _ hF' _ _
   refine (run_ok hF' 20).xs ?_
   walk_at "vgo"
   refine l_isnot_sio hF' (.inl ⟨rfl, rfl⟩) ?_
   walk_at "vgo"
   refine l_isnot_sio hF' (.inr ⟨rfl, rfl⟩) ?_
   walk_at "vgo"
   refine l_objnew hF' (by kernel_rfl) (by kernel_rfl) (by rfl) ?_ ?_
   ·exact ⟨rfl, rfl⟩
   ·walk_at "vgo"
    exact h
  ·induction i with
   | zero => obtain rfl := Option.some.inj e1; obtain rfl := Option.some.inj e2; rfl
   | succ i => contradiction
theorem l_type_str {x : Str} {Q : AV → Sy → Prop} (h : Q (.typ "str") S) : Leaf (SmL F (.typ "type") [.str x] S Q) := by
 refine ⟨?_⟩
 rintro s ρ fv vs I rfl hvs
 cases hvs with | cons hv hn => cases hn; obtain ⟨t, rfl⟩ := hv; exact call_type_of (typeIs_str _ _ _) (by decide +kernel) (Pg.same' I h rfl)
theorem trans_ok (hF : F.Ok) (hT : TopOk F.w F.T F.gl) (hM : MkFs F.T) (hn : 1 ≤ F.n) {x y : Str} {fs : Fs} {Q : AV → Sy → Prop}
  (h : Q (.str y) ⟨fs, ownX [] x 0 []⟩) : Leaf (SmL F (.ref 425) [.own 3, .str y] ⟨fs, ownX [] x 0 []⟩ Q) := by
 obtain ⟨nm, qn, kd, dc, pm, an, cd, ct, hf⟩ := hM.tr
 refine ⟨call_own hF hT hf (n := F.n - 1) (names := ["self", "s"]) (rest := ["newline"]) (avs := [.own 3, .str y]) rfl rfl (by kernel_rfl) (by kernel_rfl) (by kernel_rfl) (by kernel_rfl) (by kernel_rfl) (by kernel_rfl) rfl (by exact (Nat.le_of_eq (Nat.sub_add_cancel hn))) ?_ ?_⟩
 ·intro s B ρ vs _ hv
  cases hv with | cons h1 h2 => cases h2 with | cons h2 h3 => cases h3; rename_i v1 v2; exact ⟨[v1, v2], BindsTo.of_eq (by kernel_rfl), .cons h1 (.cons h2 .nil)⟩
 ·intro A C E _ hF'
  refine (run_ok hF' 20).xs ?_
  walk_at "vgo"
  exact h
theorem sinit_ok (hF : F.Ok) (hT : TopOk F.w F.T F.gl) (hgl : F.gl = gl) (hM : MkFs F.T) (hn : 2 ≤ F.n) {x : Str} {fs : Fs} {Q : AV → Sy → Prop}
  (h : Q .none ⟨fs, ownX [] x 0 []⟩) : SmC F 418 [.own 3, .str x] ⟨fs, [.dict [], .inst 783 0, .dict [], .inst 648 2]⟩ Q := by
 obtain ⟨w, FA, FC, FE, fsc, fgl, T, n⟩ := F
 dsimp only at hgl hT hM hn
 subst hgl
 obtain ⟨nm, qn, kd, dc, pm, an, cd, ct, hf⟩ := hM.si
 refine el21 (hM.d1) fun t1 t2 hd => ?_
 refine call_ownC hF hT hf (n := n - 1) (names := ["self", "initial_value", "newline"]) (rest := []) (avs := [.own 3, .str x, .str "\n"]) rfl rfl (by kernel_rfl) (by kernel_rfl) (by kernel_rfl) (by kernel_rfl) (by kernel_rfl) (by kernel_rfl) rfl (by dsimp only; exact (Nat.le_of_eq (Nat.sub_add_cancel (nl1 [_] (.num 2) vr0 (.num 1) vr0 rfl hn)))) ?_ ?_
 ·intro s B ρ vs hup hv
  cases hv with | cons h1 h2 => cases h2 with | cons h2 h3 => cases h3; rename_i v1 v2; exact ⟨[v1, v2, .str "\n" t2], BindsTo.of_defaults rfl (hup _ _ hd) rfl (by with_unfolding_all rfl) (by kernel_rfl), .cons h1 (.cons h2 (.cons ⟨_, rfl⟩ .nil))⟩
 ·intro A C E _ hF'
  refine (run_ok hF' 20).xs ?_
  walk_at "vgo"
  refine l_type_str ?_
  walk_at "vgo"
  refine l_isnot_typ ?_
  walk_at "vgo"
  refine l_type_str ?_
  walk_at "vgo"
  refine l_isnot_typ ?_
  walk_at "vgo"
  ·exact fnIs_ok hF' hM.tr
  ·refine trans_ok hF' hT hM (by show 1 ≤ n - 1; exact nl2 [_, _] (.num 2) vr0 vr0 (.add vr1 (.num 1)) (.num 1) vr1 rfl hn (Nl.sb _ _)) ?_
   walk_at "vgo"
   exact h
end
end
section
set_option tactic.hygienic true
open PySem.Builtin PySem.Builtin.ObjectAttr
theorem code_run {M : Model} {A : Around} {E : Value → Shared → Prop} {s : Shared} {c : Code} {P : Value → Shared → Prop} (h : codeAny M A c (fun r s' => match r with | .ok (.ret v) => P v s' | .ok _ => False | .error e => E e s') s) {R : Result → Shared → Prop}
  (h1 : ∀ v s', P v s' → R (.ok (.ret v)) s') (h2 : ∀ e s', E e s' → R (.error e) s') : codeAny M A c R s :=
 codeAny_mono h fun r s' z => by
  rcases r with e | (v | _ | _ | _)
  ·exact h2 _ _ z
  ·exact z.elim
  ·exact z.elim
  ·exact z.elim
  ·exact h1 _ _ z
section
variable {F : Fx}
theorem l_sio (hF : F.Ok) (hT : TopOk F.w F.T F.gl) (hgl : F.gl = gl) (hM : MkFs F.T) (hn : 3 ≤ F.n) {x : Str} {fs : Fs} {Q : AV → Sy → Prop} (h : Q (.own 3) ⟨fs, ownX [] x 0 []⟩) : Leaf (SmL F (.ref 648) [.str x] ⟨fs, [.dict [], .inst 783 0]⟩ Q) := by
 refine ⟨SmC.call ?_⟩
 rintro s ρ vs I hvs
 have hvs0 := hvs
 cases hvs with | cons h1 h2 => ?_
 cases h2
 rename_i v
 refine el12 (hF.frag I) fun K hK hc => ?_
 have Y := sioK hc
 refine el13 (Y.cd) fun cd hcd1 e1 e2 => ?_
 refine el12 (Y.mr) fun l hm hl => ?_
 refine el11 (Y.rc) fun rs hrc => ?_
 have typ : Looks (model pr F.w) s.heap (isInstance (.ref 648) (.type "type")) true := evL_ok hK _ Y.it
 have call : Looks (model pr F.w) s.heap (specialOf (.ref 648) "__call__") (some (.builtin "type.__call__")) := evL_ok hK _ Y.cl
 have made : Looks (model pr F.w) s.heap (Bind.madeBy (.ref 648)) none := evL_ok hK _ Y.mb
 have mro : Looks (model pr F.w) s.heap (mroOf (.ref 648)) l := evL_ok hK _ hm
 obtain ⟨oc, od, sl, hC⟩ : ∃ oc od sl, s.heap.get? 648 = some ⟨oc, od, .cls cd, sl⟩ := by
  unfold clsIn at hcd1
  split at hcd1
  ·rename_i ho; obtain rfl := Option.some.inj hcd1; exact ⟨_, _, _, hK _ _ ho⟩
  ·contradiction
 refine codeAny_of_tree ?_
 show wpAny _ _ (callAny (.ref 648) _) _ _ _
 refine nd_load hC ?_
 show wpAny _ _ (callAny.viaDunder (.ref 648) _) _ _ _
 unfold callAny.viaDunder
 refine wpAny_bind (call.here ?_)
 dsimp only
 rw [tc_bind]
 refine wpAny_bind (wpAny_pure (wpAny_bind (wpAny_pure ?_)))
 refine wpAny_pure (a := Fin.again (.call (.builtin "type.__call__") ⟨.ref 648 :: [v], []⟩)) (And.intro rfl ?_)
 refine codeAny_call_builtin_at (Code.quiet_builtin _ (by decide +kernel)) entry_typeCall (check_slot tc_kind tc_split typ (tc_args _ _ _) ?_)
 unfold Builtin.«type.__call__»
 dsimp only
 rw [if_neg (show ¬ ((Value.ref 648 == Value.type "type") = true) from by decide)]
 refine wpAny_bind (mro.here ?_)
 rw [hl, if_neg Bool.false_ne_true]
 refine wpAny_bind (made.here ?_)
 dsimp only
 have hFt := hF.tc (n := F.n - 1) (by exact (Nat.le_of_eq (Nat.sub_add_cancel (nl1 [_] (.num 3) vr0 (.num 1) vr0 rfl hn)))) F.E 648 [v] []
 have hnew := (iobase_new (Q := fun a S1 => a = .own 3 ∧ S1 = ⟨fs, [.dict [], .inst 783 0, .dict [], .inst 648 2]⟩) (own := [.dict [], .inst 783 0]) (fs := fs) (x := x) hFt hT hgl hM (by show 1 ≤ F.n - 1; exact nl2 [_, _] (.num 3) vr0 vr0 (.add vr1 (.num 1)) (.num 1) vr1 rfl hn (Nl.sb _ _)) ⟨rfl, rfl⟩).call
 refine wpAny_bind (cls_bind hK Y.rd Y.sm (wpAny_call (sm_get (s := { s with toks := s.toks + 1 }) hK hrc (handed_on rfl ?_))))
 have I1 : Rx F.C fs [.dict [], .inst 783 0] ρ { s with toks := s.toks + 1 } := I.toks _ (Nat.le_succ_of_le I.tk)
 have hnew := wp_tk I1.tk (hnew _ ρ (.ref 141) [.ref 648, v] I1 rfl (.cons rfl (.cons h1 .nil)))
 refine wpAny_bind (wpAny_holding (wpAny_mono hnew (fun obj s2 hq => ?_) fun _ _ z => z))
 obtain ⟨a, S2, ρ2, ⟨rfl, rfl⟩, I2, hav, x2⟩ := hq
 obtain ⟨b, dx, od2, xs, nn, m, rfl, Xi⟩ := inst_facts (F := F) (S := ⟨fs, [.dict [], .inst 783 0, .dict [], .inst 648 2]⟩) (a := .own 3) (c := 648) (d := 2) I2 rfl hav
 refine el12 (hF.frag I2) fun K2 hK2 hc2 => ?_
 have sub : Looks (model pr F.w) s2.heap (isInstance (.ref b) (.ref 648)) true := Xi.ia.type.andThen (evL_ok hK2 _ (sioK hc2).sf)
 refine wpAny_bind (sub.here ?_)
 rw [if_neg (show ¬ ((!true) = true) from by decide)]
 refine el03 (clsK_meth hc2 (C := 648) (n := "__init__") (f := 418) rfl) fun c1 c2 c3 => ?_
 have hini := (sinit_ok (Q := fun a S1 => a = .none ∧ S1 = ⟨fs, ownX [] x 0 []⟩) (fs := fs) (x := x) hFt hT hgl hM (by show 2 ≤ F.n - 1; exact nl2 [_, _] (.num 3) vr0 vr0 (.add vr1 (.num 1)) (.num 2) vr1 rfl hn (Nl.sb _ _)) ⟨rfl, rfl⟩).call
 have hini := wp_tk I2.tk (hini _ ρ2 (.ref 418) [.ref b, v] I2 rfl (.cons hav (.cons (h1.ext x2) .nil)))
 refine wpAny_bind (wpAny_holding (special_fn hK2 Xi.ia c2 c3 (wpAny_mono hini (fun r s3 hr => ?_) fun _ _ z => z)))
 obtain ⟨a, S3, ρ3, ⟨rfl, rfl⟩, I3, hr', x3⟩ := hr
 subst hr'
 refine el12 (hav) fun b' hb' eb => ?_
 cases eb
 obtain ⟨t, rfl⟩ := x3.1
 have hb3 : (ρ2 ++ t)[3]? = some b := by rw [List.getElem?_append_left (List.getElem?_eq_some_iff.mp hb').1]; exact hb'
 refine wpAny_pure ?_
 exact fun _ => ⟨.own 3, _, _, h, I3, ⟨b, hb3, rfl⟩, x2.trans x3⟩
end
end
section
set_option tactic.hygienic true
open PySem.Builtin PySem.Builtin.ObjectAttr
noncomputable def shI : List (Str × AV) :=
 [("instream", .own 3), ("infile", .none), ("posix", .bool true), ("eof", .none), ("commenters", .str "#"), ("wordchars", .str wch), ("whitespace", .str " \t\r\n"), ("whitespace_split", .bool false), ("quotes", .str "'\""), ("escape", .str "\\"),
  ("escapedquotes", .str "\""), ("state", .str " "), ("pushback", .own 4), ("lineno", .int 1), ("debug", .int 0), ("token", .str ""), ("filestack", .own 5), ("source", .none), ("_punctuation_chars", .str "")]
section
variable {F : Fx}
theorem call_ownK (hF : F.Ok) (hT : TopOk F.w F.T F.gl) {fa : Addr} {fd : FuncData} (hfn : FnAt F.T fa fd) {n : Nat} {body : List Stmt} {sc : Scope} {names rest : List Str} {as avs : List AV} {kw : List (Str × Value)} {S : Sy} {Q : AV → Sy → Prop}
  (hbody : fd.body = .stmts body) (hsc : fd.scope = sc)
  (hcell : (sc.names.all fun x => decide (x.2 ≠ .cell)) = true) (hloc : (names.all fun x => decide (sc.names.lookup x = some .local)) = true) (hk : sc.kind = .function) (hco : sc.isCoroutine = false) (hgen : sc.isGenerator = false)
  (hnd : decide (names ++ rest).Nodup = true) (hlen : avs.length = names.length) (hn : n + 1 ≤ F.n)
  (hbind : ∀ (s : Shared) (B : Addr → Prop) (ρ : List Addr) (vs : List Value), (∀ b o, F.T b o → s.heap.get? b = some o) → IsL s.heap B ρ as vs → ∃ us, BindsTo s fd ⟨vs, kw⟩ (names.zip us) ∧ IsL s.heap B ρ avs us)
  (vc : ∀ (A : Around) (C : Cx) (E : Value → Shared → Prop), F.C.t0 ≤ C.t0 → (Fx.mk F.w A C E sc F.gl F.T n).Ok → SemSs ⟨F.w, A, C, E, sc, F.gl, F.T, n⟩ body ⟨fs0 names avs rest, S.own⟩ (RetO Q S))
  {s : Shared} {ρ : List Addr} {vs : List Value} (I : Rx F.C S.fs S.own ρ s) (hvs : IsL s.heap F.C.bd ρ as vs) :
  codeAny (model pr F.w) F.A (.call (.ref fa) ⟨vs, kw⟩) (fun r s' => match r with | .ok (.ret v) => Pt F.C Is Q s ρ v s' | .ok _ => False | .error e => F.E e s') s := by
 refine el12 (hfn.obj) fun o ho hd => ?_
 have hnd' : (names ++ rest).Nodup := of_decide_eq_true hnd
 have hup : ∀ b o, F.T b o → s.heap.get? b = some o := fun b o h => I.up _ _ (hF.top b o h).1
 refine el12 (hbind s F.C.bd ρ vs hup hvs) fun us hbt hus => ?_
 subst hsc
 have hcd : s.heap.CodeRec fd.code fd.qualname := by
  refine el44 (hfn.code) fun c oc cs t e1 e2 e3 e4 => ?_
  exact ⟨c, oc, cs, t, e1, hup _ _ e2, e3, e4⟩
 have hrm := hF.room.le hn
 refine codeAny_call_def (by have := hrm.2.1; show F.A.depth < 1000; exact nl1 [_, _] (.add vr0 (.add vr1 (.num 1))) (.num 990) (.add vr0 (.num 1)) (.num 1000) rfl this) (hup _ _ ho) hd (hT.lim s.heap hup).1 hcd hbody hbt (fun x hx => by simpa using List.all_eq_true.mp hcell x hx) (fun x hx => ?_) (fun h₀ hns hk₀ => ?_) hco hgen hk
 ·have := (List.of_mem_zip hx).1
  exact of_decide_eq_true (List.all_eq_true.mp hloc _ this)
 ·exact own_body (X := fun _ _ => False) (R := fun r s' => match r with | .ok (.ret v) => Pt F.C Is Q s ρ v s' | .ok _ => False | .error e => F.E e s') hF hT hfn hk hnd hlen hn (fun _ _ h => h.elim) (fun _ _ ⟨_, _, _, _, _, _, x⟩ => x.x.elim) (fun A C E h1 h2 _ _ => vc A C E h1 h2) I hus (fun i x u h1 h2 => lookup_zip (List.nodup_append.mp hnd').1 i x u h1 h2) hns hk₀ (fun v s' z => z) fun e s' z => z
theorem sems_cut' (hF : F.Ok) {l2 : List Stmt} {P : Sy → Prop} {Q : Fl → Sy → Prop} (h2 : ∀ S₁, P S₁ → SemSs F l2 S₁ Q) : ∀ (m : Nat) (l1 : List Stmt) (S : Sy), l1.length < m → (run F m).xs l1 S (CutQ P Q) → SemSs F (l1 ++ l2) S Q
 | 0, _, _, hm, _ => absurd hm (Nat.not_lt_zero _)
 | m + 1, [], S, _, h => h2 S (Leaf.out h)
 | m + 1, t :: rest, S, hm, h => by
  intro s ρ I
  refine wpAny_execs_cons (Sm.go (x1_ok hF (run_ok hF m) h) I fun f S₁ f' s₁ ρ₁ q I₁ hf x₁ => ?_)
  induction f with
  | next => subst hf; exact Sm.done (sems_cut' hF h2 m rest S₁ (Nat.lt_of_succ_lt_succ hm) q) I₁ x₁
  | brk => subst hf; exact fun _ => ⟨.brk, S₁, ρ₁, q, I₁, rfl, x₁⟩
  | cont => subst hf; exact fun _ => ⟨.cont, S₁, ρ₁, q, I₁, rfl, x₁⟩
  | ret v => obtain ⟨v', rfl, hv⟩ := hf; exact fun _ => ⟨.ret v, S₁, ρ₁, q, I₁, ⟨v', rfl, hv⟩, x₁⟩
theorem sems_cut (hF : F.Ok) (m k : Nat) (hk : k < m) {l : List Stmt} {S : Sy} {Q : Fl → Sy → Prop} (S₀ : Sy) (h1 : (run F m).xs (l.take k) S (CutQ (fun S₁ => S₁ = S₀) Q)) (h2 : SemSs F (l.drop k) S₀ Q) : SemSs F l S Q := by
 have := sems_cut' hF (l2 := l.drop k) (P := fun S₁ => S₁ = S₀) (fun S₁ e => e ▸ h2) m (l.take k) S (Nat.lt_of_le_of_lt (List.length_take_le _ _) hk) h1
 rwa [List.take_append_drop] at this
theorem xinit_ok (hF : F.Ok) (hT : TopOk F.w F.T F.gl) (hgl : F.gl = gl) (hM : MkFs F.T) (hn : 4 ≤ F.n) {x : Str} {fs : Fs} {Q : AV → Sy → Prop}
  (h : Q .none ⟨fs, ownX shI x 0 [.obj dqO, .obj dqO]⟩) {s : Shared} {ρ : List Addr} {vs : List Value} (I : Rx F.C fs [.dict [], .inst 783 0] ρ s) (hvs : IsL s.heap F.C.bd ρ [.own 1, .str x] vs) :
  codeAny (model pr F.w) F.A (.call (.ref 707) ⟨vs, [("posix", .bool true)]⟩) (fun r s' => match r with | .ok (.ret v) => Pt F.C Is Q s ρ v s' | .ok _ => False | .error e => F.E e s') s := by
 obtain ⟨w, FA, FC, FE, fsc, fgl, T, n⟩ := F
 dsimp only at hgl hT hM hn
 subst hgl
 obtain ⟨nm, qn, kd, dc, pm, an, cd, ct, hf⟩ := hM.xi
 have hd := hM.d2
 refine call_ownK (S := ⟨fs, [.dict [], .inst 783 0]⟩) (as := [.own 1, .str x]) hF hT hf (n := n - 1) (names := ["self", "instream", "infile", "posix", "punctuation_chars"]) (rest := ["t"]) (avs := [.own 1, .str x, .none, .bool true, .bool false]) rfl rfl (by kernel_rfl) (by kernel_rfl) (by kernel_rfl) (by kernel_rfl) (by kernel_rfl) (by kernel_rfl) rfl (by dsimp only; exact (Nat.le_of_eq (Nat.sub_add_cancel (nl1 [_] (.num 4) vr0 (.num 1) vr0 rfl hn)))) ?_ ?_ I hvs
 ·intro s B ρ vs hup hv
  cases hv with | cons h1 h2 => ?_
  cases h2 with | cons h2 h3 => ?_
  cases h3
  rename_i v1 v2
  exact ⟨[v1, v2, .none, .bool true, .bool false], BindsTo.of_defaults rfl (hup _ _ hd) rfl (by with_unfolding_all rfl) (by kernel_rfl), .cons h1 (.cons h2 (.cons rfl (.cons rfl (.cons rfl .nil))))⟩
 ·intro A C E _ hF'
  let fs1 : Fs := [("self", some (.own 1)), ("instream", some (.own 3)), ("infile", some .none), ("posix", some (.bool true)), ("punctuation_chars", some (.bool false)), ("t", none)]
  refine sems_cut hF' 40 7 (by decide) ⟨fs1, ownX (shI.take 6) x 0 []⟩ ?_ ?_
  ·walk_at "vgo"
   refine l_isstr ?_
   walk_at "vgo"
   refine l_sio hF' hT rfl hM (by show 3 ≤ n - 1; exact nl2 [_, _] (.num 4) vr0 vr0 (.add vr1 (.num 1)) (.num 3) vr1 rfl hn (Nl.sb _ _)) ?_
   walk_at "vgo"
   ·exact Nat.le_trans (m := 1000) (by decide +kernel) (by rw [sizeLine_eq]; exact nl0 [] (.num 1000) (.num 16777216) rfl)
   ·exact ⟨by kernel_rfl⟩
  ·refine sems_cut hF' 40 7 (by decide) ⟨fs1, ownX (shI.take 13) x 0 [.obj dqO]⟩ ?_ ?_
   ·walk_at "vgo"
    refine l_deque ?_
    walk_at "vgo"
    exact ⟨by kernel_rfl⟩
   ·refine (run_ok hF' 40).xs ?_
    walk_at "vgo"
    refine l_deque ?_
    walk_at "vgo"
    ·exact Nat.zero_le _
    ·exact h
end
end
section
open PySem.Builtin PySem.Builtin.ObjectAttr
theorem code_tk {M : Model} {A : Around} {c : Code} {R : Result → Shared → Prop} {s : Shared} {n : Nat} (hn : n ≤ s.toks) (h : codeAny M A c R s) : codeAny M A c (fun r s' => n ≤ s'.toks ∧ R r s') s :=
 fun Γ p e hb => let ⟨r, s', h1, h2⟩ := h Γ p e hb; ⟨r, s', h1, Nat.le_trans hn h1.toks_le, h2⟩
theorem cls_makes {K : Frag} (h : clsK K = true) : makesIn K 783 = true := by
 simp only [clsK, clsMk, Bool.and_eq_true] at h
 exact h.2.1.1.1.1.1.1
section
variable {F : Fx}
theorem l_shlex (hF : F.Ok) (hT : TopOk F.w F.T F.gl) (hgl : F.gl = gl) (hM : MkFs F.T) (hn : 5 ≤ F.n) {x : Str} {fs : Fs} {np p q r pos : Pos} {Q : AV → Sy → Prop} (hk : F.sc.names.lookup ("shlex" : Str) = some .globalImplicit)
  (hs : nm F "s" ⟨fs, []⟩ fun v S₁ => v = .str x ∧ S₁ = ⟨fs, []⟩) (hp : nm F "posix" ⟨fs, []⟩ fun v S₁ => v = .bool true ∧ S₁ = ⟨fs, []⟩) (h : Q (.own 1) ⟨fs, ownX shI x 0 [.obj dqO, .obj dqO]⟩) :
  Leaf (SemE F (.Call (.Name "shlex" np) [.Name "s" p] [⟨some "posix", .Name "posix" q, r⟩] pos) ⟨fs, []⟩ Q) := by
 refine ⟨fun s ρ I => ?_⟩
 obtain ⟨v', h1, h2⟩ := gl_name hF (p := np) hk (by decide +kernel) (v := .ref 783) (by rw [hgl]; kernel_rfl) I
 obtain rfl : v' = .ref 783 := h1 s.heap (fun _ => False) []
 obtain ⟨K, hK, hkp⟩ := cls_keeps hF (a := 783) rfl
 refine wpAny_Call_Name_kw (h2 _ (callWith_KW (K := K) (fun a o e => I.up a o (hK a o e)) hkp (by rfl) ?_))
 refine spliced_cons (Sm.go (nm_ok hF hs) I fun a S₁ v s₁ ρ₁ q₁ I₁ hv x₁ => spliced_nil ?_)
 obtain ⟨rfl, rfl⟩ := q₁
 refine kwAll_cons (Sm.go (nm_ok hF hp) I₁ fun a S₂ u s₂ ρ₂ q₂ I₂ hu x₂ => kwAll_nil ?_)
 obtain ⟨rfl, rfl⟩ := q₂
 obtain rfl : u = .bool true := hu
 refine ⟨fun a o e => I₂.up a o (hK a o e), ?_⟩
 refine el12 (hF.frag I₂) fun K2 hK2 hc => ?_
 refine el03 (clsK_meth hc (C := 783) (n := "__init__") (f := 707) rfl) fun c1 c2 c3 => ?_
 refine wpAny_call ?_
 refine el02 (I₂.alloc2 783) fun J x3 => ?_
 obtain ⟨hh, g, d, t, os⟩ := s₂
 refine make_core (makes_of hK2 (cls_makes hc)) (looks_findIn hK2 c2) (fun self => bind_fn hK2 self c3) (.inl rfl) ?_
 have hl0 : ρ₂.length = 0 := I₂.len.symm
 obtain rfl : ρ₂ = [] := List.eq_nil_of_length_eq_zero hl0
 have hv2 : Is ((hh.push emptyDict).push (instObj 783 hh.objs.size)) F.C.bd ([] ++ [hh.objs.size, hh.objs.size + 1]) (.str x) v := (hv.ext x₂).ext x3
 have hx := code_tk J.tk (xinit_ok (F := ⟨F.w, _, F.C, F.E, F.sc, F.gl, F.T, F.n - 1⟩) (Q := fun a S1 => a = .none ∧ S1 = ⟨fs, ownX shI x 0 [.obj dqO, .obj dqO]⟩) (hF.tc (n := F.n - 1) (by exact (Nat.le_of_eq (Nat.sub_add_cancel (nl1 [_] (.num 5) vr0 (.num 1) vr0 rfl hn)))) F.E 783 [v] [("posix", .bool true)]) hT hgl hM (by show 4 ≤ F.n - 1; exact nl2 [_, _] (.num 5) vr0 vr0 (.add vr1 (.num 1)) (.num 4) vr1 rfl hn (Nl.sb _ _)) ⟨rfl, rfl⟩ J (vs := [.ref (hh.objs.size + 1), v]) (.cons ⟨_, rfl, rfl⟩ (.cons hv2 .nil)))
 refine codeAny_mono hx fun r s' z => ?_
 rcases r with e | (_ | _ | _ | v')
 ·exact z.2
 ·exact z.2.elim
 ·exact z.2.elim
 ·exact z.2.elim
 refine el02 (z) fun ht z => ?_
 obtain ⟨a, S3, ρ3, ⟨rfl, rfl⟩, I3, hr, x4⟩ := z ht
 obtain rfl : v' = .none := hr
 obtain ⟨tl, rfl⟩ := x4.1
 exact ⟨rfl, fun _ => ⟨.own 1, _, _, h, I3, ⟨_, rfl, rfl⟩, ((x₁.trans x₂).trans x3).trans x4⟩⟩
end
end
section
set_option tactic.hygienic true
open PySem.Builtin
theorem split_ok {F : Fx} {fs : Fs} {l : List Nat} {X : String → Sy → Prop} (hF : F.Ok) (hT : TopOk F.w F.T F.gl) (hgl : F.gl = gl) (hL : LexFs F.T) (hM : MkFs F.T) (hn : 10 ≤ F.n) (hl : l.length ≤ 1000000) (hpl : plF fs = true) (hE : ∀ e s', EX 1 F.A F.C X e s' → F.E e s')
  {W : Option (List (List Nat))} (hW : Wd false l W) (hok : okm .sp l = true) (hX : W = none → ∀ own', X "ValueError" ⟨fs, own'⟩) {Q : AV → Sy → Prop} (hQ : ∀ ws en ln i, W = some ws → Q (.own 6) (lstS en ln l i ws fs)) : Leaf (SmL F (.ref 795) [.str (tx l)] ⟨fs, []⟩ Q) := by
 obtain ⟨w, FA, FC, FE, fsc, fgl, T, n⟩ := F
 dsimp only at hgl hT hM hn hL hE
 subst hgl
 obtain ⟨nm, qn, kd, dc, pm, an, cd, ct, hf⟩ := hM.sp
 have hd := hM.d3
 refine ⟨(call_ownX (X := X) (S := ⟨fs, []⟩) hF hT hf (n := n - 1) (names := ["s", "comments", "posix"]) (rest := ["lex"]) (as := [.str (tx l)]) (avs := [.str (tx l), .bool false, .bool true]) rfl rfl (by kernel_rfl) (by kernel_rfl) (by kernel_rfl) (by kernel_rfl) (by kernel_rfl) (by kernel_rfl) rfl (by dsimp only; exact (Nat.le_of_eq (Nat.sub_add_cancel (nl1 [_] (.num 10) vr0 (.num 1) vr0 rfl hn)))) (fun _ _ _ => hpl) hE ?_ ?_).call⟩
 ·intro s B ρ vs hup hv
  cases hv with | cons h1 h2 => ?_
  cases h2
  rename_i v1
  exact ⟨[v1, .bool false, .bool true], BindsTo.of_defaults rfl (hup _ _ hd) rfl (by with_unfolding_all rfl) (by kernel_rfl), .cons h1 (.cons rfl (.cons rfl .nil))⟩
 ·intro A C E _ hF' hHd hE'
  refine (run_ok hF' 40).xs ?_
  walk_at "vgo"
  refine l_shlex hF' hT rfl hM (x := tx l) (by show 5 ≤ n - 1; exact nl2 [_, _] (.num 10) vr0 vr0 (.add vr1 (.num 1)) (.num 5) vr1 rfl hn (Nl.sb _ _)) (by kernel_rfl) ?_ ?_ ?_
  ·exact ⟨rfl, rfl⟩
  ·exact ⟨rfl, rfl⟩
  ·walk_at "vgo"
   refine l_list (l := l) (W := W) (X := fun cls S' => X cls ⟨fs, S'.own⟩) (fs := [("s", some (.str (tx l))), ("comments", some (.bool false)), ("posix", some (.bool true)), ("lex", some (.own 1))]) hF' hT rfl hL (by show 9 ≤ n - 1; exact nl2 [_, _] (.num 10) vr0 vr0 (.add vr1 (.num 1)) (.num 9) vr1 rfl hn (Nl.sb _ _)) hl (by rfl) (hE' 1 (by decide)) hW hok (fun h own' => hX h own') ?_
   intro ws en ln i hw
   walk_at "vgo"
   exact hQ ws en ln i hw
end
section
open PySem.Builtin
section
variable {F : Fx} {X : String → Sy → Prop} {S : Sy} {s : Shared}
theorem land_ok {M : Model} {A' : Around} {E : Value → Shared → Prop} {Q : Unit → Shared → Prop} {k : Nat} {e : Value} (hF : F.Ok) (hk : k = 1 ∨ k = 2) (h : EX k F.A F.C X e s) (hQ : ∀ s', EX 1 F.A F.C X e s' → Q () s') : wpAny M A' (setFlight e none) Q E s := by
 obtain ⟨cls, S, ρ, B, l, ea, x⟩ := h
 obtain rfl := x.ev
 have fin : ∀ h' a0, Heap.FlyingW B l ea (.type cls) a0 h' → s.heap.UpToSlots h' → Q () { s with heap := h' } := fun h' a0 hfl hU =>
  hQ _ ⟨cls, S, ρ, B, l, ea, x.move hF hfl.1 hfl.2.2.1 hU ⟨a0, hfl⟩⟩
 have ex := x.ex
 rcases hk with rfl | rfl
 ·refine el11 (ex) fun a0 hfl => ?_
  exact lands_againW hfl fun h' h1 h2 => fin h' a0 h1 h2
 ·refine el11 (ex) fun a0 hh => ?_
  exact wpAny_landsW hh fun h' h1 h2 => fin h' a0 h1 h2
theorem gl_any (hF : F.Ok) {x : Str} {v : AV} {p : Pos} (hk : F.sc.names.lookup x = some .globalImplicit) (hd : (x == ("__debug__" : Str)) = false) (hv : F.gl x = some v) {ρ : List Addr} (I : Rx F.C S.fs S.own ρ s) :
  ∃ v', (∀ h L ρ, Is h L ρ v v') ∧ ∀ (A : Around) (E : Value → Shared → Prop) (Q : Value → Shared → Prop), Q v' s → wpAny (model pr F.w) A (eval (.Name x p) F.C.env) Q E s := by
 refine el12 (hF.gl x v s F.C.env rfl rfl I.up hv) fun v' e1 e2 => ?_
 exact ⟨v', e1, fun A E Q hq => Name_function_global (by rw [hF.sc]; exact hF.kind) (by unfold Env.kindOf; rw [hF.sc]; exact hk) (e2 _ _ _ hq) hd⟩
theorem ve_base : isSubtype (.type "ValueError") (.type "BaseException") = pure true := by rw [isSubtype_type]; kernel_rfl
theorem ve_self : isSubtype (.type "ValueError") (.type "ValueError") = pure true := by rw [isSubtype_type]; kernel_rfl
theorem ve_tup : isSubtype (.type ((Manifest.find? "ValueError").elim "type" fun x => x.metatype)) (.type "tuple") = pure false := by rw [isSubtype_type]; kernel_rfl
theorem l_tryV (hF : F.Ok) (hH : Hd F) {body : List Stmt} {np hp rp cp pos : Pos} {kd : Nat} {Q : Fl → Sy → Prop} (hk : F.sc.names.lookup ("ValueError" : Str) = some .globalImplicit) (hv : F.gl "ValueError" = some (.typ "ValueError"))
  (hX : ∀ cls S', X cls S' → cls = "ValueError" ∧ Q (.ret .none) S') (h1 : ∀ C : Cx, C.env = F.C.env → (Fx.mk F.w F.A C (EX 1 F.A C X) F.sc F.gl F.T F.n).Ok → SemSs ⟨F.w, F.A, C, EX 1 F.A C X, F.sc, F.gl, F.T, F.n⟩ body S fun f S₁ => f ≠ .next ∧ Q f S₁) :
  Leaf (SemS F (.Try body [.ExceptHandler (some (.Name "ValueError" np)) none [.Return (some (.Constant .none kd cp)) rp] hp] [] [] pos) S Q) := by
 refine ⟨fun s ρ I => ?_⟩
 let C2 := F.C.re s ρ
 have hF2 := hF.re s ρ (EX 1 F.A C2 X)
 have hH2 : Hd (Fx.mk F.w F.A C2 (EX 1 F.A C2 X) F.sc F.gl F.T F.n) := hH
 refine wpAny_Try_except (wpAny_mono (wp_tk I.tk (h1 C2 rfl hF2 s ρ I.re)) (fun f s₁ hf => ?_) fun e s₁ he => ?_)
 ·obtain ⟨f', S₁, ρ₁, ⟨hn, q⟩, I₁, hv, x⟩ := hf
  refine el02 (Rx.un I I₁) fun I₁ x => ?_
  induction f' with
  | next => exact (hn rfl).elim
  | brk => subst hv; exact fun _ => ⟨.brk, S₁, ρ₁, q, I₁, rfl, x⟩
  | cont => subst hv; exact fun _ => ⟨.cont, S₁, ρ₁, q, I₁, rfl, x⟩
  | ret v => obtain ⟨v', rfl, hv⟩ := hv; exact fun _ => ⟨.ret v, S₁, ρ₁, q, I₁, ⟨v', rfl, hv⟩, x⟩
 ·refine note_ok (F := ⟨F.w, F.A, F.C.re s ρ, EX 1 F.A C2 X, F.sc, F.gl, F.T, F.n⟩) hF2 hH2 (.inr rfl) he fun s₂ h₂ => land_ok hF2 (.inr rfl) h₂ fun s₃ h₃ => ?_
  obtain ⟨cls, S', ρ', B, l, ea, x⟩ := h₃
  obtain rfl := x.ev
  obtain ⟨rfl, hq⟩ := hX _ _ x.x
  obtain ⟨a0, hfl⟩ := x.ex
  obtain ⟨v', g1, g2⟩ := gl_any hF2 (p := np) hk (by decide +kernel) hv x.rx
  obtain rfl : v' = .type "ValueError" := g1 s₃.heap (fun _ => False) []
  refine wpAny_handleBy_builtin (X := "ValueError") (T := "ValueError") (b := true) ve_base ve_tup ve_self (g2 _ _ _ ⟨rfl, hfl.there, ?_⟩)
  show wpAny _ _ (setFlight (.ref ea) none) _ _ _
  refine land_ok hF2 (.inl rfl) ⟨_, S', ρ', B, l, ea, x⟩ fun s₄ h₄ => ?_
  obtain ⟨cls', S'', ρ'', B', l', ea', y⟩ := h₄
  obtain ⟨-, hq⟩ := hX _ _ y.x
  refine el02 (Rx.un I y.rx) fun I₄ x₄ => ?_
  refine wpAny_execs_cons (wpAny_Return_some (wpAny_Constant_none ?_))
  exact fun _ => ⟨.ret .none, S'', ρ'', hq, I₄, ⟨.none, rfl, rfl⟩, x₄⟩
end
end
section
open PySem.Builtin
variable {w : World} {T : Addr → Obj → Prop}
noncomputable def toldD : Option (List (List Nat)) → Dt
 | none => .none
 | some ws => .list (ws.map fun t => .str (tx t))
theorem toDs_ws : ∀ ws : List (List Nat), toDs (ws.map fun t => AV.str (tx t)) = some (ws.map fun t => Dt.str (tx t))
 | [] => rfl
 | t :: r => by
  show (match toD1 (AV.str (tx t)), toDs (r.map fun t => AV.str (tx t)) with | some d, some ds => some (d :: ds) | _, _ => none) = _
  rw [toDs_ws r]; rfl
theorem told_ok (hT : TopOk w T gl) (hL : LexFs T) (hM : MkFs T) (hfn : FnIs T 890 (fnAt 77) .none) {l : List Nat} (hl : l.length ≤ 1000000) {W : Option (List (List Nat))} (hW : Wd false l W) (hok : okm .sp l = true) : FnOk w T 11 890 [.str (tx l)] (toldD W) := by
 refine fnI hT hfn (names := ["text"]) (rest := []) (avs := [.str (tx l)]) (by kernel_rfl) rfl ?_ ?_
 ·exact fun _ _ _ _ _ _ _ _ _ _ _ _ hv => bind1 hv fun _ => by kernel_rfl
 ·intro A C E _ hF hH
  refine (run_ok hF 20).xs ?_
  walk_at "vgo"
  refine l_tryV (X := fun cls _ => cls = "ValueError" ∧ W = none) hF hH (by kernel_rfl) (by kernel_rfl) ?_ ?_
  ·rintro cls S' ⟨rfl, rfl⟩
   refine ⟨rfl, ?_⟩
   walk_at "vgo"
   rfl
  ·intro C' hC hF'
   refine (run_ok hF' 20).xs ?_
   walk_at "vgo"
   ·exact fnIs_ok hF' hM.sp
   ·refine split_ok (X := fun cls _ => cls = "ValueError" ∧ W = none) (fs := [("text", some (.str (tx l)))]) hF' hT rfl hL hM (by show 10 ≤ 10; exact nl0 [] (.num 10) (.num 10) rfl) hl rfl (fun _ _ z => z) hW hok (fun q _ => ⟨rfl, q⟩) ?_
    intro ws en ln i hw
    subst hw
    walk_at "vgo"
    ·exact fun q => nomatch q
    ·show (match toDs (ws.map fun t => AV.str (tx t)) with | some ds => some (Dt.list ds) | none => none) = _
     rw [toDs_ws]; rfl
end
section
theorem compLoop_go {w : World} {A : Around} {R : Result → Shared → Prop} {s : Shared} {elt target iter : Expr} {ifs : List Expr} {scope : Scope} {pos : Pos} {it acc : Value} {env : Env} (I : Nat → Shared → Prop)
  (turn : ∀ n s, I n s → wpAny (model pr w) A (pyNext it) (fun r s₁ => match r with
   | none => R (.ok .next) s₁
   | some v => wpAny (model pr w) A (letOwnedTupleGo target it v) (fun _ s₁ => wpAny (model pr w) A (assign target env v) (fun _ s₂ =>
     wpAny (model pr w) A (forIn ifs true fun c r => if r = true then do let ok ← isTrue c env (eval c env); pure (ForInStep.yield ok) else pure (ForInStep.yield r)) (fun ok s₃ =>
      if ok = true then wpAny (model pr w) A (eval elt env) (fun x s₄ =>
       wpAny (model pr w) A (call (.builtin "list.append") [acc, x]) (fun _ s₅ => ∃ m, m < n ∧ I m s₅) (fun _ _ => False) s₄) (fun _ _ => False) s₃
      else ∃ m, m < n ∧ I m s₃) (fun _ _ => False) s₂) (fun _ _ => False) s₁) (fun _ _ => False) s₁) (fun _ _ => False) s)
  (n : Nat) (h : I n s) :
  codeAny (model pr w) A (.compLoop (.ListComp elt [⟨target, iter, ifs, 0⟩] scope pos) 0 it acc env) R s := by
 refine codeAny_loop rfl I (fun n s hI => ?_) n h
 show wpAny _ A ((compTurn (.ListComp elt [⟨target, iter, ifs, 0⟩] scope pos) 0 it acc env).onRaise (fun x => do noteFrame x env; theTreesLotGoes x)) _ _ s
 refine wpAny_noted ?_
 rw [compTurn_list]
 refine wpAny_bind (wpAny_standAt (wpAny_bind (wpAny_mono (turn n s hI) (fun r s₁ h₁ => ?_) fun _ _ h' => h'.elim)))
 induction r with
 | none => exact wpAny_pure h₁
 | some v =>
  refine wpAny_bind (wpAny_mono h₁ (fun _ s₁ h₁ => ?_) fun _ _ h' => h'.elim)
  refine wpAny_bind (wpAny_mono h₁ (fun _ s₂ h₂ => wpAny_bind (wpAny_mono h₂ (fun ok s₃ h₃ => ?_) fun _ _ h' => h'.elim)) fun _ _ h' => h'.elim)
  induction ok with
  | false => exact wpAny_pure ⟨rfl, h₃⟩
  | true =>
   exact wpAny_bind (wpAny_bind (wpAny_mono h₃ (fun x s₄ h₄ => wpAny_bind (wpAny_mono h₄ (fun _ s₅ h₅ => wpAny_pure (wpAny_pure ⟨rfl, h₅⟩)) fun _ _ h' => h'.elim)) fun _ _ h' => h'.elim))
noncomputable def cmpT (r : Rec) (ifs : List Expr) (elt : Expr) (S : Sy) (Q : Option AV → Prop) : Prop :=
 match ifs with
 | [] => r.ev elt S fun v _ => Q (some v)
 | [c] => r.vt c S fun b S₁ => br b (r.ev elt S₁ fun v _ => Q (some v)) (Q none)
 | _ => False
noncomputable def CmpQ (d : Option Dt) : Option AV → Prop
 | some v => Leaf (toD1 v = d ∧ d.isSome = true)
 | none => Leaf (d = none)
theorem relabel_id {scope : Scope} {env : Env} (h : (scope.names.all fun x => decide (x.2 ≠ .free)) = true) : relabel scope env = scope := by
 unfold relabel
 have : (scope.names.map fun (n, k) => if (k == .free && env.scope.kind == .function && env.kindOf n == some .cell) then (n, NameKind.cell) else (n, k)) = scope.names := by
  rw [List.all_eq_true] at h
  have key : ∀ l : List (Str × NameKind), (∀ x ∈ l, decide (x.2 ≠ .free) = true) → (l.map fun (n, k) => if (k == .free && env.scope.kind == .function && env.kindOf n == some .cell) then (n, NameKind.cell) else (n, k)) = l := by
   intro l
   induction l with
   | nil => intro _; rfl
   | cons p r ih =>
    intro hl
    obtain ⟨n, k⟩ := p
    have hk := of_decide_eq_true (hl (n, k) List.mem_cons_self)
    dsimp only at hk
    rw [List.map_cons, ih fun x hx => hl x (List.mem_cons_of_mem _ hx)]
    dsimp only
    rw [if_neg]
    rw [show (k == NameKind.free) = false from beq_eq_false_iff_ne.mpr hk]
    simp
  exact key _ h
 rw [this]
structure CInv (F : Fx) (ρ : List Addr) (D C : Addr) (fp wr : List Addr) (St : Nat → Heap → Prop) (f : Nat → Option Dt) (s₁ : Shared) (i : Nat) (s' : Shared) : Prop where
 st : St i s'.heap
 k1 : ∀ b o, ¬ frA F.A b → b ∉ wr → s₁.heap.get? b = some o → s'.heap.get? b = some o
 k2 : ∀ b o, frA F.A b → s₁.heap.get? b = some o → ∃ sl, s'.heap.get? b = some { o with slots := sl }
 fpx : ∀ b ∈ fp, ∃ ob, s'.heap.get? b = some ob
 ns : ∃ m, s'.heap.Ns C m
 dd : ∃ vs n, s'.heap.get? D = some { cls := .type "list", data := .seq vs n } ∧ IsDs (fun a o => s'.heap.get? a = some o ∧ ¬ (F.C.bd a ∨ a ∈ ρ ∨ a ∈ wr ∨ a = D ∨ a = C)) vs.toList ((List.range i).filterMap f)
 gens : s'.gens = F.C.g
 os : s'.os = F.C.o
 tk : F.C.t0 ≤ s'.toks
section
variable {F : Fx} {elt tg iter : Expr} {ifs : List Expr} {scope : Scope} {k : Nat} {items : List AV} {f : Nat → Option Dt} {names : List Str} {ρ : List Addr} {D C : Addr} {fp wr : List Addr} {P : Nat → Value → Prop} {St : Nat → Heap → Prop} {S₁ : Sy} {s₁ : Shared} {Ia : Addr}
theorem comp_turn (hF : F.Ok) (hrel : relabel scope F.C.env = scope) (hkind : scope.kind = .function) (hnd : names.Nodup) (hsz : items.length ≤ 100000) (I₁ : Rx F.C S₁.fs S₁.own ρ s₁)
  (turn : ∀ C' E' i a, (Fx.mk F.w F.A C' E' scope F.gl F.T F.n).Ok → items[i]? = some a → stT ⟨F.w, F.A, C', E', scope, F.gl, F.T, F.n⟩ tg a ⟨names.map fun x => (x, none), []⟩ fun S₁ => cmpT (run ⟨F.w, F.A, C', E', scope, F.gl, F.T, F.n⟩ k) ifs elt S₁ (CmpQ (f i)))
  (W : Walks pr F.w F.A Ia fp wr items.length P St) (hwr : ∀ b ∈ wr, s₁.heap.get? b = none) (hex : ∀ i h, St i h → ∀ b ∈ fp, ∃ o, h.get? b = some o) (hcl : ∀ i h, St i h → ∃ o n, h.get? Ia = some o ∧ o.cls = .type n ∧ ownedIt n = false)
  (hP : ∀ i v, i < items.length → P i v → ∃ a, items[i]? = some a ∧ Is s₁.heap F.C.bd ρ a v) (hD : s₁.heap.get? D = none) (hC : s₁.heap.get? C = none) (hDC : D ≠ C) (hDf : D ∉ fp) (hCf : C ∉ fp) (hfb : ∀ b ∈ fp, ¬ F.C.bd b) (hno : ∀ j, AV.own j ∉ items)
  {i : Nat} {s' : Shared} (hi : i < items.length) (inv : CInv F ρ D C fp wr St f s₁ i s') {J N : Shared → Prop} (hJ : ∀ s₆, CInv F ρ D C fp wr St f s₁ (i + 1) s₆ → J s₆) :
  wpAny (model pr F.w) F.A (pyNext (.ref Ia)) (fun r s₂ => match r with
   | none => N s₂
   | some v => wpAny (model pr F.w) F.A (letOwnedTupleGo tg (.ref Ia) v) (fun _ s₂ => wpAny (model pr F.w) F.A (assign tg (compEnvC scope [] C F.C.env) v) (fun _ s₃ =>
     wpAny (model pr F.w) F.A (forIn ifs true fun c r => if r = true then do let ok ← isTrue c (compEnvC scope [] C F.C.env) (eval c (compEnvC scope [] C F.C.env)); pure (ForInStep.yield ok) else pure (ForInStep.yield r)) (fun ok s₄ =>
      if ok = true then wpAny (model pr F.w) F.A (eval elt (compEnvC scope [] C F.C.env)) (fun x s₅ =>
       wpAny (model pr F.w) F.A (call (.builtin "list.append") [.ref D, x]) (fun _ s₆ => J s₆) (fun _ _ => False) s₅) (fun _ _ => False) s₄
      else J s₄) (fun _ _ => False) s₃) (fun _ _ => False) s₂) (fun _ _ => False) s₂) (fun _ _ => False) s' := by
 have nfr : ∀ {b o}, s₁.heap.get? b = some o → b ∉ wr := fun {b o} e hb => by rw [hwr b hb] at e; contradiction
 have frx : ∀ b, frA F.A b → ∃ o, s₁.heap.get? b = some o ∧ ∀ vs, o.data ≠ .fields vs := fun b hb => by
  refine el12 (hF.stk I₁ (B := fun _ => True) (fun _ _ => trivial)) fun l h1 h2 => ?_
  refine el23 (hb) fun l' e q1 q2 q3 => ?_
  rw [h1] at q1; obtain rfl := Option.some.inj q1
  obtain ⟨_, L, o, e1, e2, e3, _⟩ := h2 e q2
  rw [e1] at q3; obtain rfl := Option.some.inj q3
  exact ⟨o, e2, e3⟩
 have frbd : ∀ b, frA F.A b → F.C.bd b := fun b hb => (hF.frA hb).elim .inl fun ⟨o, h⟩ => .inr (I₁.frn b o h).2.1
 have bdx : ∀ b, F.C.bd b → ∃ o, s₁.heap.get? b = some o := fun b hb => hb.elim (fun q => by obtain ⟨m, hm, _⟩ := I₁.ns; rw [q]; exact Heap.Ns.some hm) (I₁.old b)
 refine wp_tk inv.tk ?_
 refine W.item i s' _ _ hi inv.st fun v h' tk hPv hst' hk ht => ?_
 change F.C.t0 ≤ tk at ht
 refine el12 (hP i v hi hPv) fun av hav hIs => ?_
 have hw : ∀ b ∈ wr, ∃ ob, h'.get? b = some ob := fun b hb => hex _ _ hst' b (W.sub b hb)
 have kk1 : ∀ b o, ¬ frA F.A b → b ∉ wr → s₁.heap.get? b = some o → h'.get? b = some o := fun b o h1 h2 e => hk b o h2 (inv.k1 b o h1 h2 e)
 have kk2 : ∀ b o, frA F.A b → s₁.heap.get? b = some o → ∃ sl, h'.get? b = some { o with slots := sl } := fun b o h1 e => let ⟨sl, e'⟩ := inv.k2 b o h1 e; ⟨sl, hk b _ (nfr e) e'⟩
 have kx : ∀ b o, s₁.heap.get? b = some o → ∃ o', h'.get? b = some o' := fun b o e => by
  by_cases q : frA F.A b
  ·obtain ⟨sl, e'⟩ := kk2 b o q e; exact ⟨_, e'⟩
  ·exact ⟨_, kk1 b o q (nfr e) e⟩
 have hDw : D ∉ wr := fun q => hDf (W.sub D q)
 have hCw : C ∉ wr := fun q => hCf (W.sub C q)
 refine el22 (inv.dd) fun vs n hDo hds => ?_
 have hDo' : h'.get? D = some { cls := .type "list", data := .seq vs n } := hk D _ hDw hDo
 refine el11 (inv.ns) fun m hm => ?_
 have hm' : h'.Ns C m := hm.at' fun o e => hk C o hCw e
 have nD : ¬ F.C.bd D := fun q => by obtain ⟨o, e⟩ := bdx D q; rw [hD] at e; contradiction
 have nC : ¬ F.C.bd C := fun q => by obtain ⟨o, e⟩ := bdx C q; rw [hC] at e; contradiction
 let Ci : Cx := ⟨compEnvC scope [] C F.C.env, fun a => F.C.bd a ∨ a ∈ ρ ∨ a ∈ wr ∨ a = D, fun b o => h'.get? b = some o ∧ ¬ frA F.A b ∧ b ≠ C, fun b o => h'.get? b = some o ∧ frA F.A b, F.C.t0, F.C.g, F.C.o, []⟩
 have hFi : ∀ E', (Fx.mk F.w F.A Ci E' scope F.gl F.T F.n).Ok := fun E' => by
  refine ⟨?_, hF.pos, hrel, hkind, hF.room, fun a o h => ?_, hF.lim, fun x v s env g1 g2 h1 h2 => hF.gl x v s env g1 g2 (fun b o hb => ?_) h2, hF.cls⟩
  ·refine el12 (hF.frm) fun l h1 h3 => ?_
   refine ⟨l, h1, fun e he => ?_⟩
   obtain ⟨g1, L, e1, _⟩ := h3 e he
   have hfa : frA F.A L := ⟨l, e, h1, he, e1⟩
   refine el12 (frx L hfa) fun o e2 e3 => ?_
   refine el11 (kk2 L o hfa e2) fun sl e4 => ?_
   exact ⟨g1, L, e1, .inr ⟨_, ⟨e4, hfa⟩, e3⟩⟩
  ·refine el02 (hF.top a o h) fun t1 t2 => ?_
   have e := I₁.up a o t1
   have nb : ¬ F.C.bd a := fun q => q.elim (fun q => I₁.new o (q ▸ t1)) t2
   have nf : ¬ frA F.A a := fun q => nb (frbd a q)
   refine ⟨⟨kk1 a o nf (nfr e) e, nf, fun q => by rw [q, hC] at e; contradiction⟩, ?_⟩
   rintro (q | q | q | q)
   ·exact nb q
   ·exact (I₁.fresh a q).2.1 o t1
   ·exact nfr e q
   ·rw [q, hD] at e; contradiction
  ·have e := I₁.up b o hb
   have nf : ¬ frA F.A b := fun q => (hF.frA q).elim (fun q => I₁.new o (q ▸ hb)) fun ⟨o', q⟩ => (I₁.frn b o' q).2.2 o hb
   exact h1 b o ⟨kk1 b o nf (nfr e) e, nf, fun q => by rw [q, hC] at e; contradiction⟩
 have I₄ : Rx Ci (names.map fun x => (x, none)) [] [] { s' with heap := h', toks := tk } := by
  refine ⟨⟨m, hm', fun p hp v e => ?_⟩, ?_, fun b o e => e.1, fun o e => e.2.2 rfl, rfl, fun k ao e => by simp at e, fun a h => by simp at h, by simp, fun a h => ?_, inv.gens, inv.os, fun b o h => ⟨o.slots, h.1⟩, fun b o h => ⟨fun q => ?_, .inl (frbd b h.2), fun o' q => q.2.1 h.2⟩, ht, ⟨[], rfl⟩⟩
  ·obtain ⟨x, _, rfl⟩ := List.mem_map.mp hp; contradiction
  ·rw [List.map_map, show ((fun x : Str × Option AV => x.1) ∘ fun x : Str => (x, (none : Option AV))) = id from rfl, List.map_id]; exact hnd
  ·rcases h with h | h | h | h
   ·obtain ⟨o, e⟩ := bdx a h; exact kx a o e
   ·obtain ⟨o, e⟩ := I₁.has h; exact kx a o e
   ·exact hw a h
   ·subst h; exact ⟨_, hDo'⟩
  ·have q : b = C := q
   exact nC (q ▸ frbd b h.2)
 have hIs₄ : Is h' Ci.bd [] av v := by
  have fz : ∀ a o, Frz s₁.heap F.C.bd ρ a o → Frz h' Ci.bd [] a o := fun a o y => by
   have nf : ¬ frA F.A a := fun q => y.2.1 (frbd a q)
   refine ⟨kk1 a o nf (nfr y.1) y.1, ?_, by simp⟩
   rintro (q | q | q | q | q)
   ·have e := y.1; rw [show a = C from q, hC] at e; contradiction
   ·exact y.2.1 q
   ·exact y.2.2 q
   ·exact nfr y.1 q
   ·have e := y.1; rw [q, hD] at e; contradiction
  induction av with
  | own j => exact absurd (List.mem_of_getElem? hav) (hno j)
  | dat d => exact IsD.mono fz hIs
  | _ => exact hIs
 refine el23 (hcl _ _ hst') fun oI nI g1 g2 g3 => ?_
 refine letGo_ok g1 g2 g3 ?_
 have hF' := hFi fun _ _ => False
 have back : ∀ {s₅ : Shared} {fs : Fs} {ρ' : List Addr} {own : List AO}, Rx Ci fs own ρ' s₅ → (∀ b o, h'.get? b = some o → ¬ frA F.A b → b ≠ C → s₅.heap.get? b = some o) ∧ (∀ b o, frA F.A b → s₁.heap.get? b = some o → ∃ sl, s₅.heap.get? b = some { o with slots := sl }) := fun {s₅ fs ρ' own} I₅ =>
  ⟨fun b o e h1 h2 => I₅.up b o ⟨e, h1, h2⟩, fun b o h1 e => by
   refine el11 (kk2 b o h1 e) fun sl e' => ?_
   refine el11 (I₅.frs b _ ⟨e', h1⟩) fun sl' e'' => ?_
   exact ⟨sl', e''⟩⟩
 have inv' : ∀ {s₅ : Shared} {fs : Fs} {ρ' : List Addr} {own : List AO} {h₆ : Heap} {vs' : Array Value} {n' : Nat}, Rx Ci fs own ρ' s₅ → Heap.SameBut D s₅.heap h₆ → h₆.get? D = some { cls := .type "list", data := .seq vs' n' } →
   IsDs (fun a o => s₅.heap.get? a = some o ∧ ¬ (F.C.bd a ∨ a ∈ ρ ∨ a ∈ wr ∨ a = D ∨ a = C)) vs'.toList ((List.range (i + 1)).filterMap f) → CInv F ρ D C fp wr St f s₁ (i + 1) { s₅ with heap := h₆ } := fun {s₅ fs ρ' own h₆ vs' n'} I₅ hsb hD6 hds6 => by
  refine el02 (back I₅) fun b1 b2 => ?_
  have up6 : ∀ b o, h'.get? b = some o → ¬ frA F.A b → b ≠ C → b ≠ D → h₆.get? b = some o := fun b o e h1 h2 h3 => (hsb.2 b h3).trans (b1 b o e h1 h2)
  have neD : ∀ {b o}, s₁.heap.get? b = some o → b ≠ D := fun {b o} e q => by rw [q, hD] at e; contradiction
  have neC : ∀ {b o}, s₁.heap.get? b = some o → b ≠ C := fun {b o} e q => by rw [q, hC] at e; contradiction
  have upf : ∀ b ∈ fp, ∀ o, h'.get? b = some o → h₆.get? b = some o := fun b hb o e => up6 b o e (fun q => hfb b hb (frbd b q)) (fun q => hCf (q ▸ hb)) (fun q => hDf (q ▸ hb))
  refine ⟨W.frame _ _ _ hst' upf, fun b o h1 h2 e => up6 b o (kk1 b o h1 h2 e) h1 (neC e) (neD e), fun b o h1 e => ?_, fun b hb => ?_, ?_, ⟨vs', n', hD6, ?_⟩, I₅.gens, I₅.os, I₅.tk⟩
  ·refine el11 (b2 b o h1 e) fun sl e' => ?_
   exact ⟨sl, (hsb.2 b (neD e)).trans e'⟩
  ·refine el11 (hex _ _ hst' b hb) fun o e => ?_
   exact ⟨o, upf b hb o e⟩
  ·refine NsR.el (I₅.ns) fun m₅ hm₅ _ => ?_
   exact ⟨m₅, Heap.Ns.sameBut hm₅ hsb (Ne.symm hDC)⟩
  ·exact hds6.mono fun a o y => ⟨(hsb.2 a fun q => y.2 (.inr (.inr (.inr (.inl q))))).trans y.1, y.2⟩
 have hds5 : ∀ {s₅ : Shared} {fs : Fs} {ρ' : List Addr} {own : List AO}, Rx Ci fs own ρ' s₅ → s₅.heap.get? D = some { cls := .type "list", data := .seq vs n } ∧ IsDs (fun a o => s₅.heap.get? a = some o ∧ ¬ (F.C.bd a ∨ a ∈ ρ ∨ a ∈ wr ∨ a = D ∨ a = C)) vs.toList ((List.range i).filterMap f) := fun {s₅ fs ρ' own} I₅ => by
  refine el02 (back I₅) fun b1 b2 => ?_
  refine ⟨b1 D _ hDo' (fun q => nD (frbd D q)) hDC, hds.mono fun a o y => ⟨b1 a o (hk a o (fun q => y.2 (.inr (.inr (.inl q)))) y.1) (fun q => y.2 (.inl (frbd a q))) (fun q => y.2 (.inr (.inr (.inr (.inr q))))), y.2⟩⟩
 have hrange : (List.range (i + 1)).filterMap f = (List.range i).filterMap f ++ (f i).toList := by
  rw [List.range_succ, List.filterMap_append]
  congr 1
 have skip : ∀ {s₅ : Shared} {fs : Fs} {ρ' : List Addr} {own : List AO}, Rx Ci fs own ρ' s₅ → f i = none → CInv F ρ D C fp wr St f s₁ (i + 1) s₅ := fun {s₅ fs ρ' own} I₅ hfi => by
  refine el02 (hds5 I₅) fun c1 c2 => ?_
  exact inv' (h₆ := s₅.heap) I₅ ⟨rfl, fun _ _ => rfl⟩ c1 (by rw [hrange, hfi]; simpa using c2)
 have put : ∀ {s₅ : Shared} {fs : Fs} {ρ' : List Addr} {own : List AO} {av : AV} {x : Value}, Rx Ci fs own ρ' s₅ → Is s₅.heap Ci.bd ρ' av x → toD1 av = f i ∧ (f i).isSome = true →
   wpAny (model pr F.w) F.A (call (.builtin "list.append") [.ref D, x]) (fun _ s₆ => J s₆) (fun _ _ => False) s₅ := fun {s₅ fs ρ' own av x} I₅ hx hfi => by
  refine el02 (hds5 I₅) fun c1 c2 => ?_
  refine el11 (Option.isSome_iff_exists.mp hfi.2) fun d hd => ?_
  have hxd := toD1_ok (hfi.1.trans hd) hx
  have hsz' : vs.size ≤ sizeLine := by
   have e1 := c2.length
   have e2 : ((List.range i).filterMap f).length ≤ i := Nat.le_trans (List.length_filterMap_le _ _) (by simp)
   simp at e1
   have := sizeLine_eq
   exact nl5 [_, _, _, _, _] vr0 vr1 vr1 vr2 (.add vr2 (.num 1)) vr3 vr3 (.num 100000) (.num 16777216) vr4 vr0 vr4 rfl (Nat.le_of_eq e1) e2 hi hsz (Nat.le_of_eq (Eq.symm this))
  refine wpAny_call_entry slot_list_append (⟨_, c1, rfl⟩ : s₅.TypeIs (.ref D) "list") entry_list_append ?_ (args_list_append _ _)
  show wpAny _ _ (updateSeq D (·.push x) >>= fun _ => ret .none) _ _ s₅
  refine wpAny_bind (wpAny_updateSeq c1 rfl (wpAny_pure ⟨.none, rfl, hJ _ ?_⟩))
  refine inv' (h₆ := s₅.heap.update D (Obj.mapSeq (·.push x))) (vs' := vs.push x) (n' := n + 1) I₅ (Heap.SameBut.update ..) ?_ ?_
  ·rw [Heap.get?_update_self _ c1 (by rw [Obj.mapSeq_push_plain]; rfl), Obj.mapSeq_push_plain]
  ·rw [hrange, hd, Array.toList_push]
   refine c2.append (.cons (hxd.mono fun a o y => ⟨y.1, ?_⟩) .nil)
   rintro (q | q | q | q | q)
   ·exact y.2.1 (.inr (.inl q))
   ·exact y.2.1 (.inr (.inr (.inl q)))
   ·exact y.2.1 (.inr (.inr (.inr (.inl q))))
   ·exact y.2.1 (.inr (.inr (.inr (.inr q))))
   ·exact y.2.1 (.inl q)
 refine wpAny_mono (stT_ok hF' (turn Ci (fun _ _ => False) i av hF' hav) I₄ hIs₄ (P := fun _ s₃ => ∃ S₂, cmpT (run ⟨F.w, F.A, Ci, fun _ _ => False, scope, F.gl, F.T, F.n⟩ k) ifs elt S₂ (CmpQ (f i)) ∧ Rx Ci S₂.fs S₂.own [] s₃ ∧ Ext Ci.bd h' [] s₃.heap []) fun S₂ s₃ q₃ I₅ x₅ => ⟨S₂, q₃, I₅, x₅⟩) (fun _ s₃ h₃ => ?_) (fun _ _ e => e.elim)
 refine el13 (h₃) fun S₂ q₃ I₅ x₅ => ?_
 have element : ∀ {S : Sy} {s₅ : Shared} {ρ' : List Addr}, (run ⟨F.w, F.A, Ci, fun _ _ => False, scope, F.gl, F.T, F.n⟩ k).ev elt S (fun v _ => CmpQ (f i) (some v)) → Rx Ci S.fs S.own ρ' s₅ →
   wpAny (model pr F.w) F.A (eval elt (compEnvC scope [] C F.C.env)) (fun x s₆ => wpAny (model pr F.w) F.A (call (.builtin "list.append") [.ref D, x]) (fun _ s₇ => J s₇) (fun _ _ => False) s₆) (fun _ _ => False) s₅ := fun {S s₅ ρ'} q I =>
  Sm.go (F := ⟨F.w, F.A, Ci, fun _ _ => False, scope, F.gl, F.T, F.n⟩) ((run_ok hF' k).ev q) I fun av S₃ x s₆ ρ₆ q₆ I₆ hx x₆ => put I₆ hx q₆.out
 unfold cmpT at q₃
 split at q₃
 ·exact wpAny_tests_nil (by rw [if_pos rfl]; exact element q₃ I₅)
 ·refine wpAny_tests_one (Sm.go (F := ⟨F.w, F.A, Ci, fun _ _ => False, scope, F.gl, F.T, F.n⟩) ((run_ok hF' k).vt q₃) I₅ fun c S₃ c' s₅ ρ₅ q₅ I₆ hc x₆ => ?_)
  subst hc
  have := br_ite q₅
  split at this
  ·rename_i hc; rw [if_pos hc]; exact element this I₆
  ·rename_i hc; rw [if_neg hc]; exact hJ _ (skip I₆ this.out)
 ·exact q₃.elim
end
theorem itemsOf_noOwn {a : AV} {items : List AV} (h : itemsOf a = some items) (j : Nat) : AV.own j ∉ items := by
 unfold itemsOf at h
 split at h
 ·obtain rfl := Option.some.inj h; intro q; obtain ⟨c, _, e⟩ := List.mem_map.mp q; contradiction
 ·obtain rfl := Option.some.inj h; intro q; obtain ⟨d, _, e⟩ := List.mem_map.mp q; cases d <;> contradiction
 ·obtain rfl := Option.some.inj h; intro q; obtain ⟨d, _, e⟩ := List.mem_map.mp q; cases d <;> contradiction
 ·split at h
  ·obtain rfl := Option.some.inj h; intro q; obtain ⟨c, _, e⟩ := List.mem_map.mp q; contradiction
  ·contradiction
 ·contradiction
structure CDone (F : Fx) (S₀ : Sy) (ds : List Dt) (s : Shared) (ρ ρ₁ : List Addr) (D C : Addr) (s' : Shared) : Prop where
 rx : Rx F.C S₀.fs S₀.own ρ₁ s'
 ext : Ext F.C.bd s.heap ρ s'.heap ρ₁
 val : IsD (fun a o => Frz s'.heap F.C.bd ρ₁ a o ∧ a ≠ C) (.ref D) (.list ds)
 ns : ∃ m, s'.heap.Ns C m
 loc : C ≠ F.C.env.locals
 own : C ∉ ρ₁
 kp : ∀ o, ¬ F.C.keep C o
 bad : ¬ F.C.bad C
 frz : ∀ a o, Frz s.heap F.C.bd ρ a o → a ≠ C
theorem comp_core {F : Fx} (hF : F.Ok) {elt tg iter : Expr} {ifs : List Expr} {scope : Scope} {pos cp : Pos} {S S₀ : Sy} (k : Nat) (items : List AV) (f : Nat → Option Dt) (names : List Str) {s : Shared} {ρ : List Addr} {use : Option (Value → Sem Unit)} {QQ : Value → Shared → Prop}
  (hs : ∀ x, foldedSetIterable iter F.C.env x = pure x) (hclos : closureFor scope F.C.env = pure []) (hfree : (scope.names.all fun x => decide (x.2 ≠ .free)) = true) (hcell : (scope.names.all fun x => decide (x.2 ≠ .cell)) = true) (hkind : scope.kind = .function)
  (hnames : (scope.names.all fun x => decide (x.2 = .local → scope.names.lookup x.1 = some .local)) = true) (hnd : decide names.Nodup = true) (hsz : items.length ≤ 100000) (I : Rx F.C S.fs S.own ρ s)
  (hit : (run F k).ev iter S fun a S₁ => Leaf (itemsOf a = some items ∧ S₁ = S₀))
  (turn : ∀ C' E' i a, (Fx.mk F.w F.A C' E' scope F.gl F.T F.n).Ok → items[i]? = some a → stT ⟨F.w, F.A, C', E', scope, F.gl, F.T, F.n⟩ tg a ⟨names.map fun x => (x, none), []⟩ fun S₁ => cmpT (run ⟨F.w, F.A, C', E', scope, F.gl, F.T, F.n⟩ k) ifs elt S₁ (CmpQ (f i)))
  (fin : ∀ ρ₁ D C s', CDone F S₀ ((List.range items.length).filterMap f) s ρ ρ₁ D C s' → compPost (model pr F.w) F.A F.E use QQ (.ref D) C (.ok .next) s') :
  wpAny (model pr F.w) F.A (comprehension (.ListComp elt [⟨tg, iter, ifs, 0⟩] scope pos) scope F.C.env cp (newList []) false (eval iter F.C.env) use) QQ F.E s := by
 refine wpAny_comprehension_free rfl hs hclos hkind (fun x hx => of_decide_eq_true (List.all_eq_true.mp hnames x hx)) ?_
 refine Sm.go ((run_ok hF k).ev hit) I fun a S₁ v s₁ ρ₁ q I₁ hv x₁ => ?_
 obtain ⟨hq, rfl⟩ := q.out
 refine iter_ok hF I₁ hv hq fun o G => ?_
 obtain ⟨fp, wr, P, St, W, hst, hwr, hex, hcl, hfpB, hP⟩ := G
 have hcell' : ∀ y ∈ scope.names, y.2 ≠ .cell := fun y hy => of_decide_eq_true (List.all_eq_true.mp hcell y hy)
 refine wpAny_newObj_type (wpAny_newFunctionEnv hcell' (by intro y hy; simp at hy) (fun h₁ hns₁ hsb₁ => ?_) hkind)
 dsimp only at hns₁ hsb₁ ⊢
 generalize hH2 : (s₁.heap.push o).push { cls := .type "list", dict := none, data := .seq ([] : List Value).toArray } = H2 at hns₁ hsb₁ ⊢
 have hz1 : (s₁.heap.push o).objs.size = s₁.heap.objs.size + 1 := Heap.size_push ..
 have hz2 : H2.objs.size = s₁.heap.objs.size + 2 := by rw [← hH2, Heap.size_push, hz1]
 obtain ⟨D, hDe⟩ : ∃ D, (s₁.heap.push o).objs.size = D := ⟨_, rfl⟩
 obtain ⟨C, hCe⟩ : ∃ C, H2.objs.size = C := ⟨_, rfl⟩
 rw [hDe, hCe]
 rw [hCe] at hns₁ hsb₁
 have hDn : D = s₁.heap.objs.size + 1 := hDe.symm.trans hz1
 have hCn : C = s₁.heap.objs.size + 2 := hCe.symm.trans hz2
 have hDC : D ≠ C := by exact (Nat.ne_of_lt (nl2 [_, _, _] vr0 (.add vr1 (.num 1)) (.add vr1 (.num 2)) vr2 (.add vr0 (.num 1)) vr2 rfl (Nat.le_of_eq hDn) (Nat.le_of_eq (Eq.symm hCn))))
 have old2 : ∀ b ob, (s₁.heap.push o).get? b = some ob → h₁.get? b = some ob := fun b ob e => by
  have hb := Heap.lt_size e
  exact hsb₁.extBut b ob (Nat.ne_of_lt (Nat.lt_of_lt_of_le hb (hDe ▸ (by exact nl2 [_, _, _] vr0 (.add vr1 (.num 1)) (.add vr1 (.num 2)) vr2 vr0 vr2 rfl (Nat.le_of_eq hDn) (Nat.le_of_eq (Eq.symm hCn)) : D ≤ C)))) (Heap.get?_push_of_some _ (hH2 ▸ Heap.get?_push_of_some _ e))
 have old : ∀ b ob, s₁.heap.get? b = some ob → h₁.get? b = some ob := fun b ob e => old2 b ob (Heap.get?_push_of_some _ e)
 have hacc : h₁.get? D = some { cls := .type "list", data := .seq #[] 0 } := by
  refine hsb₁.extBut _ _ hDC (Heap.get?_push_of_some _ ?_)
  rw [← hH2, ← hDe]; exact Heap.get?_push_size _ rfl
 have fresh : ∀ a, s₁.heap.objs.size ≤ a → s₁.heap.get? a = none := fun a ha => by
  cases e : s₁.heap.get? a with
  | none => rfl
  | some o' => exact absurd (Heap.lt_size e) (Nat.not_lt.mpr ha)
 have hD := fresh D (by exact nl1 [_, _] (.add vr0 (.num 1)) vr1 vr0 vr1 rfl (Nat.le_of_eq (Eq.symm hDn)))
 have hC := fresh C (by exact nl1 [_, _] (.add vr0 (.num 2)) vr1 vr0 vr1 rfl (Nat.le_of_eq (Eq.symm hCn)))
 have hfl : ∀ b ∈ fp, b < (s₁.heap.push o).objs.size := fun b hb => by obtain ⟨ob, e⟩ := (hfpB b hb).1; exact Heap.lt_size e
 have hDf : D ∉ fp := fun q => Nat.lt_irrefl _ (hDe ▸ hfl D q)
 have hCf : C ∉ fp := fun q => Nat.lt_irrefl _ (Nat.lt_of_lt_of_le (hfl C q) (hDe ▸ (by exact nl2 [_, _, _] vr0 (.add vr1 (.num 1)) (.add vr1 (.num 2)) vr2 vr0 vr2 rfl (Nat.le_of_eq hDn) (Nat.le_of_eq (Eq.symm hCn)) : D ≤ C)))
 have nfr : ∀ {b ob}, s₁.heap.get? b = some ob → b ∉ wr := fun {b ob} e hb => by rw [hwr b hb] at e; contradiction
 have frbd : ∀ b, frA F.A b → F.C.bd b := fun b hb => (hF.frA hb).elim .inl fun ⟨o, h⟩ => .inr (I₁.frn b o h).2.1
 have bdx : ∀ b, F.C.bd b → ∃ o, s₁.heap.get? b = some o := fun b hb => hb.elim (fun q => by obtain ⟨m, hm, _⟩ := I₁.ns; rw [q]; exact Heap.Ns.some hm) (I₁.old b)
 have hst₁ : St 0 h₁ := W.frame _ _ _ hst fun b _ ob e => old2 b ob e
 have nD : ¬ F.C.bd D := fun q => by obtain ⟨o, e⟩ := bdx D q; rw [hD] at e; contradiction
 have nC : ¬ F.C.bd C := fun q => by obtain ⟨o, e⟩ := bdx C q; rw [hC] at e; contradiction
 have loop : ∀ s₃ : Shared, s₃ = { s₁ with heap := h₁, toks := s₁.toks + ([] : List (Str × Value)).length } →
   codeAny (model pr F.w) F.A (.compLoop (.ListComp elt [⟨tg, iter, ifs, 0⟩] scope pos) 0 (.ref s₁.heap.objs.size) (.ref D) (compEnvC scope [] C F.C.env)) (compPost (model pr F.w) F.A F.E use QQ (.ref D) C) s₃ := by
  rintro s₃ rfl
  have inv0 : CInv F ρ₁ D C fp wr St f s₁ 0 { s₁ with heap := h₁, toks := s₁.toks + ([] : List (Str × Value)).length } :=
   ⟨hst₁, fun b ob _ _ e => old b ob e, fun b ob _ e => ⟨ob.slots, old b ob e⟩, fun b hb => (hfpB b hb).1.imp fun ob e => old2 b ob e, ⟨_, hns₁⟩, ⟨#[], 0, hacc, .nil⟩, I₁.gens, I₁.os, I₁.tk⟩
  refine compLoop_go (fun n s' => ∃ i, n = items.length + 1 - i ∧ i ≤ items.length ∧ CInv F ρ₁ D C fp wr St f s₁ i s') ?_ (items.length + 1) ⟨0, rfl, Nat.zero_le _, inv0⟩
  rintro n s' ⟨i, rfl, hi, inv⟩
  by_cases hlt : i < items.length
  ·exact comp_turn hF (relabel_id hfree) hkind (of_decide_eq_true hnd) hsz I₁ turn W hwr hex hcl hP hD hC hDC hDf hCf (fun b hb => (hfpB b hb).2.1) (itemsOf_noOwn hq) hlt inv
    fun s₆ h₆ => ⟨items.length + 1 - (i + 1), by exact nl2 [_, _, _, _] (.add vr0 (.add vr1 (.num 1))) (.add vr2 (.num 1)) (.add vr2 (.num 1)) (.add vr3 vr1) (.add vr0 (.num 1)) vr3 rfl (Nat.le_of_eq (Nat.sub_add_cancel (nl1 [_, _] vr0 vr1 (.add vr0 (.num 1)) (.add vr1 (.num 1)) rfl hi))) (Nl.sb _ _), i + 1, rfl, hlt, h₆⟩
  ·have hie : i = items.length := by exact (Nat.le_antisymm hi (Nat.le_of_not_lt hlt))
   subst hie
   refine wp_tk inv.tk ?_
   refine W.done s' _ _ inv.st fun h' tk hk ht => ?_
   change F.C.t0 ≤ tk at ht
   obtain ⟨vs, n, hDo, hds⟩ := inv.dd
   have hDw : D ∉ wr := fun q => hDf (W.sub D q)
   have hCw : C ∉ wr := fun q => hCf (W.sub C q)
   refine fin ρ₁ D C _ ⟨?_, ?_, ?_, ?_, fun q => nC (.inl q), fun q => ?_, fun ob q => ?_, fun q => nC (.inr q), fun a ob y => ?_⟩
   ·exact I₁.moved (L := frA F.A) (fun a h => hF.frA h) (fun b ob h e => hk b ob (nfr e) (inv.k1 b ob h (nfr e) e)) (fun b ob h e => let ⟨sl, e'⟩ := inv.k2 b ob h e; ⟨sl, hk b _ (nfr e) e'⟩) (inv.gens.trans I₁.gens.symm) (inv.os.trans I₁.os.symm) ht
   ·exact x₁.trans (Ext.keeps fun b ob hb _ e => hk b ob (nfr e) (inv.k1 b ob (fun q => hb (frbd b q)) (nfr e) e))
   ·refine .list ⟨⟨hk D _ hDw hDo, nD, fun q => ?_⟩, hDC⟩ (hds.mono fun a ob y => ⟨⟨hk a ob (fun q => y.2 (.inr (.inr (.inl q)))) y.1, fun q => y.2 (.inl q), fun q => y.2 (.inr (.inl q))⟩, fun q => y.2 (.inr (.inr (.inr (.inr q))))⟩)
    obtain ⟨ob, e⟩ := I₁.has q; rw [hD] at e; contradiction
   ·refine el11 (inv.ns) fun m hm => ?_
    exact ⟨m, hm.at' fun ob e => hk C ob hCw e⟩
   ·obtain ⟨ob, e⟩ := I₁.has q; rw [hC] at e; contradiction
   ·have e := I₁.up C ob q; rw [hC] at e; contradiction
   ·intro q
    have e := (x₁.2 a ob y).1
    rw [q, hC] at e; contradiction
 exact codeAny_compStart_list (loop _ rfl) (W.self 0 _ _ _ hst₁ (loop _ rfl))
end
section
section
variable {h h' : Heap} {L : Addr → Prop} {ρ : List Addr}
theorem Is.keeps' (k : ∀ b o, noDict o → ¬ L b → b ∉ ρ → h.get? b = some o → h'.get? b = some o) {av : AV} {v : Value} (x : Is h L ρ av v) : Is h' L ρ av v := x.map' fun b o n y => ⟨k b o n y.2.1 y.2.2 y.1, y.2⟩
theorem IsO.keeps' (k : ∀ b o, noDict o → ¬ L b → b ∉ ρ → h.get? b = some o → h'.get? b = some o) {ao : AO} {o : Obj} (x : IsO h L ρ ao o) : IsO h' L ρ ao o := x.map' fun b o n y => ⟨k b o n y.2.1 y.2.2 y.1, y.2⟩
end
theorem Rx.other {C : Cx} {fs : Fs} {own : List AO} {ρ : List Addr} {s : Shared} (I : Rx C fs own ρ s) {c : Addr} {h' : Heap} (hn : ∃ m, s.heap.Ns c m) (hs : Heap.SameBut c s.heap h') (h1 : c ≠ C.env.locals) (h2 : c ∉ ρ) (h3 : ∀ o, ¬ C.keep c o) (h4 : ¬ C.bad c) : Rx C fs own ρ { s with heap := h' } := by
 obtain ⟨m, hm, hf⟩ := I.ns
 obtain ⟨mc, oc, es, ep, hoc, hdc, _⟩ := hn
 have k' : ∀ b o, noDict o → ¬ C.bd b → b ∉ ρ → s.heap.get? b = some o → h'.get? b = some o := fun b o hnd _ _ e => (hs.2 b fun q => by
  rw [q, hoc] at e; obtain rfl := Option.some.inj e; exact hnd _ _ hdc).trans e
 refine ⟨⟨m, hm.sameBut hs h1.symm, fun p hp v e => let ⟨v', e1, e2⟩ := hf p hp v e; ⟨v', e1, e2.keeps' k'⟩⟩, I.nd, fun b o e => (hs.2 b fun q => h3 o (q ▸ e)).trans (I.up b o e), I.new, I.len,
  fun i ao e => let ⟨a, o, e1, e2, e3⟩ := I.mine i ao e; ⟨a, o, e1, (hs.2 a fun q => h2 (q ▸ List.mem_of_getElem? e1)).trans e2, e3.keeps' k'⟩, I.fresh, I.apart, fun a h => let ⟨o, e⟩ := I.old a h; ⟨o, (hs.2 a fun q => h4 (q ▸ h)).trans e⟩, I.gens, I.os,
  fun b o h => let ⟨sl, e⟩ := I.frs b o h; ⟨sl, (hs.2 b fun q => h4 (q ▸ (I.frn b o h).2.1)).trans e⟩, I.frn, I.tk, I.pr⟩
section
variable {F : Fx} {elt tg iter : Expr} {ifs : List Expr} {scope : Scope} {pos cp : Pos} {S S₀ : Sy}
theorem CDone.out {ds : List Dt} {s : Shared} {ρ ρ₁ : List Addr} {D C : Addr} {s' : Shared} (d : CDone F S₀ ds s ρ ρ₁ D C s') {Q : AV → Sy → Prop} (hq : Q (.dat (.list ds)) S₀) {h' : Heap} (hs : Heap.SameBut C s'.heap h') : Pt F.C Is Q s ρ (.ref D) { s' with heap := h' } := fun _ => by
 refine ⟨_, S₀, ρ₁, hq, d.rx.other d.ns hs d.loc d.own d.kp d.bad, IsD.mono (fun a o y => ⟨(hs.2 a y.2).trans y.1.1, y.1.2⟩) d.val, d.ext.1, fun a o y => ?_⟩
 have z := d.ext.2 a o y
 exact ⟨(hs.2 a (d.frz a o y)).trans z.1, z.2⟩
theorem comp_ok (hF : F.Ok) {Q : AV → Sy → Prop} (k : Nat) (items : List AV) (f : Nat → Option Dt) (names : List Str)
  (hs : ∀ x, foldedSetIterable iter F.C.env x = pure x) (hclos : closureFor scope F.C.env = pure []) (hfree : (scope.names.all fun x => decide (x.2 ≠ .free)) = true) (hcell : (scope.names.all fun x => decide (x.2 ≠ .cell)) = true) (hkind : scope.kind = .function)
  (hnames : (scope.names.all fun x => decide (x.2 = .local → scope.names.lookup x.1 = some .local)) = true) (hnd : decide names.Nodup = true) (hsz : items.length ≤ 100000)
  (hit : (run F k).ev iter S fun a S₁ => Leaf (itemsOf a = some items ∧ S₁ = S₀))
  (turn : ∀ C' E' i a, (Fx.mk F.w F.A C' E' scope F.gl F.T F.n).Ok → items[i]? = some a → stT ⟨F.w, F.A, C', E', scope, F.gl, F.T, F.n⟩ tg a ⟨names.map fun x => (x, none), []⟩ fun S₁ => cmpT (run ⟨F.w, F.A, C', E', scope, F.gl, F.T, F.n⟩ k) ifs elt S₁ (CmpQ (f i)))
  (hq : Q (.dat (.list ((List.range items.length).filterMap f))) S₀) : Leaf (SemE F (.ListComp elt [⟨tg, iter, ifs, 0⟩] scope pos) S Q) := by
 refine ⟨fun s ρ I => ?_⟩
 rw [eval_ListComp]
 refine comp_core (use := none) hF k items f names hs hclos hfree hcell hkind hnames hnd hsz I hit turn fun ρ₁ D C s' d => ?_
 exact ⟨_, d.ns.choose_spec, fun h' hs' => d.out hq hs'⟩
theorem comp_assign (hF : F.Ok) {Q : Fl → Sy → Prop} {x : Str} {px sp : Pos} (k : Nat) (items : List AV) (f : Nat → Option Dt) (names : List Str)
  (hsw : swapsWith (.ListComp elt [⟨tg, iter, ifs, 0⟩] scope pos) (some (.Name x px)) sp.line F.C.env = pure true)
  (hs : ∀ x, foldedSetIterable iter F.C.env x = pure x) (hclos : closureFor scope F.C.env = pure []) (hfree : (scope.names.all fun x => decide (x.2 ≠ .free)) = true) (hcell : (scope.names.all fun x => decide (x.2 ≠ .cell)) = true) (hkind : scope.kind = .function)
  (hnames : (scope.names.all fun x => decide (x.2 = .local → scope.names.lookup x.1 = some .local)) = true) (hnd : decide names.Nodup = true) (hsz : items.length ≤ 100000)
  (hit : (run F k).ev iter S fun a S₁ => Leaf (itemsOf a = some items ∧ S₁ = S₀))
  (turn : ∀ C' E' i a, (Fx.mk F.w F.A C' E' scope F.gl F.T F.n).Ok → items[i]? = some a → stT ⟨F.w, F.A, C', E', scope, F.gl, F.T, F.n⟩ tg a ⟨names.map fun x => (x, none), []⟩ fun S₁ => cmpT (run ⟨F.w, F.A, C', E', scope, F.gl, F.T, F.n⟩ k) ifs elt S₁ (CmpQ (f i)))
  (hq : st F x (.dat (.list ((List.range items.length).filterMap f))) S₀ fun S₁ => Q .next S₁) : Leaf (SemS F (.Assign [.Name x px] (.ListComp elt [⟨tg, iter, ifs, 0⟩] scope pos) sp) S Q) := by
 refine ⟨fun s ρ I => ?_⟩
 rw [exec_Assign_Name_used _ _ _ _ hsw]
 refine wpAny_bind (wpAny_standAt (wpAny_bind ?_))
 show wpAny _ F.A (do let _ ← comprehension (.ListComp elt [⟨tg, iter, ifs, 0⟩] scope pos) scope F.C.env _ (newList []) false (eval iter F.C.env) (some (assign (.Name x px) F.C.env))) _ _ s
 refine wpAny_bind (wpAny_mono (comp_core (use := some (assign (.Name x px) F.C.env)) (QQ := fun _ s' => Pt F.C IsF Q s ρ .next s') hF k items f names hs hclos hfree hcell hkind hnames hnd hsz I hit turn fun ρ₁ D C s' d => ?_) (fun _ s' hq => wpAny_pure (wpAny_pure hq)) fun _ _ e => e)
 show wpAny _ F.A (assign (.Name x px) F.C.env (.ref D)) _ _ _
 rw [PySem.assign_Name]
 have hv : Is s'.heap F.C.bd ρ₁ (.dat (.list ((List.range items.length).filterMap f))) (.ref D) := IsD.mono (fun a o y => y.1) d.val
 refine wpAny_bind (wpAny_standAt (wpAny_bindName (st_ok hF hq d.rx hv fun S₁ s₂ q₂ I₂ x₂ => ?_)))
 obtain ⟨m, oc, es, ep, hoc, r⟩ := d.ns
 have hz : Frz s₂.heap F.C.bd ρ₁ C oc := x₂.2 C oc ⟨hoc, fun q => q.elim d.loc d.bad, d.own⟩
 have hns : ∃ m, s₂.heap.Ns C m := ⟨m, oc, es, ep, hz.1, r⟩
 refine ⟨hns.choose, hns.choose_spec, fun h' hs' => fun _ => ?_⟩
 refine ⟨.next, S₁, ρ₁, q₂, I₂.other hns hs' d.loc d.own d.kp d.bad, rfl, d.ext.1, fun a o y => ?_⟩
 have z := x₂.2 a o (d.ext.2 a o y)
 exact ⟨(hs'.2 a (d.frz a o y)).trans z.1, z.2⟩
end
end
section
set_option tactic.hygienic true
theorem Fx.Ok.units {F : Fx} (hF : F.Ok) : F.A.units < cLine := by have := hF.room.2.2; rw [cLine_is]; exact nl1 [_, _] (.add vr0 (.mulL 10 vr1)) (.num 9890) (.add vr0 (.num 1)) (.num 9900) rfl this
theorem l_eq_nil {F : Fx} (hF : F.Ok) {S : Sy} {Q : AV → Sy → Prop} {a b : AV} {ds : List Dt} (ha : toD S.own a = some (.list ds)) (hb : toD S.own b = some (.list [])) (h : Q (.bool ds.isEmpty) S) : Leaf (Sm2 F Is (compareOp .Eq) a b S Q) := by
 refine ⟨?_⟩
 rintro s ρ v u I hv hu
 obtain ⟨p, vs, n, rfl, e1, h1⟩ := list_at I ha hv
 obtain ⟨q, us, n2, rfl, e2, h2⟩ := list_at I hb hu
 have hl : s.heap.IsList p vs := ⟨_, e1, rfl, n, rfl⟩
 have hr : s.heap.IsList q us := ⟨_, e2, rfl, n2, rfl⟩
 have hus : us.size = 0 := by have := h2.length; simpa using this
 have hvs : vs.size = ds.length := by have := h1.length; simpa using this
 induction ds with
 | nil =>
  refine SeqAt.eq_listAt (e := fun _ => true) hl hr (by rw [hvs, hus]; rfl) hF.units (fun j g _ => by rw [hvs] at g; simp at g) ?_
  rw [hvs]
  exact Pg.same' I h rfl
 | cons d r =>
  refine SeqAt.eq_list_lengthsAt hl hr (by rw [hvs, hus]; simp) hF.units ?_
  exact Pg.same' I h rfl
theorem ofD_toDs : ∀ (ds : List Dt), toDs (ds.map ofD) = some ds
 | [] => rfl
 | d :: r => by
  show (match toD1 (ofD d), toDs (r.map ofD) with | some d, some ds => some (d :: ds) | _, _ => none) = _
  rw [ofD_toDs r]; cases d <;> rfl
theorem IsDs.all2 {h : Heap} {B : Addr → Prop} {ρ : List Addr} {vs : List Value} {ds : List Dt} (x : IsDs (Frz h B ρ) vs ds) : All2 (Is h B ρ) (ds.map ofD) vs := by
 induction vs generalizing ds with
 | nil => cases x; exact .nil
 | cons v r ih => cases x with | cons a b => exact .cons (Is.ofD a) (ih b)
theorem l_addO {F : Fx} {S : Sy} {Q : AV → Sy → Prop} {a b : AV} {ds es : List Dt} (ha : toD S.own a = some (.list ds)) (hb : toD S.own b = some (.list es)) (hz : ds.length + es.length ≤ sizeLine) (h : Q (.own S.own.length) { S with own := S.own ++ [.list ((ds ++ es).map ofD)] }) : Leaf (Sm2 F Is (binaryOp .Add) a b S Q) := by
 refine ⟨?_⟩
 rintro s ρ v u I hv hu
 obtain ⟨p, vs, n, rfl, e1, h1⟩ := list_at I ha hv
 obtain ⟨q, us, n2, rfl, e2, h2⟩ := list_at I hb hu
 have hl : s.TypeIs (.ref p) "list" := ⟨_, e1, rfl⟩
 have hr : s.TypeIs (.ref q) "list" := ⟨_, e2, rfl⟩
 have hsz : vs.size + us.size ≤ sizeLine := by
  have a1 := h1.length; have a2 := h2.length
  simp at a1 a2; exact nl3 [_, _, _, _, _] vr0 vr1 vr2 vr3 (.add vr1 vr3) vr4 (.add vr0 vr2) vr4 rfl (Nat.le_of_eq a1) (Nat.le_of_eq a2) hz
 refine concat_meets hl hr noFill_list_add seq_list_add PySem.F.slot_list_add PySem.F.entry_list_add (PySem.F.args_list_add_2 _ _) (list_addW p q vs us n n2 none none #[] #[] hsz) ⟨e1, e2, fun ht => ?_⟩
 have hno : s.heap.get? s.heap.objs.size = none := by
  cases q : s.heap.get? s.heap.objs.size with
  | none => rfl
  | some ob => exact absurd rfl (Nat.ne_of_lt (Heap.lt_size q))
 have hx := I.allocExt { cls := .type "list", data := .seq (vs ++ us) }
 refine ⟨_, _, _, h, I.alloc (.list ((ds ++ es).map ofD)) { cls := .type "list", data := .seq (vs ++ us) } rfl ⟨_, _, rfl, ?_⟩ s.toks I.tk, ⟨s.heap.objs.size, by rw [I.len, List.getElem?_append_right (Nat.le_refl _), Nat.sub_self]; rfl, rfl⟩, hx⟩
 rw [Array.toList_append]
 exact ((h1.append h2).mono fun c o y => hx.2 c o y).all2
theorem l_extend {F : Fx} {S : Sy} {Q : AV → Sy → Prop} {k : Nat} {b : AV} {xs : List AV} {es : List Dt} (hk : S.own[k]? = some (.list xs)) (hb : toD1 b = some (.list es)) (hz : xs.length + es.length ≤ 1000000) (h : Q .none { S with own := S.own.set k (.list (xs ++ es.map ofD)) }) : Leaf (SmL F (.blt "list.extend") [.own k, b] S Q) := by
 refine ⟨?_⟩
 rintro s ρ fv vs I rfl hvs
 cases hvs with | cons hv hn => ?_
 cases hn with | cons hu hn => ?_
 cases hn
 rename_i u
 obtain ⟨a, ha, rfl⟩ := hv
 obtain ⟨a', o, e1, e2, its, n, rfl, hal⟩ := I.mine k _ hk
 rw [ha] at e1; obtain rfl := Option.some.inj e1
 have hkl : k < S.own.length := (List.getElem?_eq_some_iff.mp hk).1
 have hD := toD1_ok hb hu
 cases hD with | list hp hds => ?_
 rename_i c us n2
 have hsl := sizeLine_eq
 have z1 : its.size = xs.length := by have := hal.length; simpa using this.symm
 have z2 : us.size = es.length := by have := hds.length; simpa using this
 refine call_meets PySem.F.slot_list_extend (⟨_, e2, rfl⟩ : s.TypeIs (.ref a) "list") PySem.F.entry_list_extend (PySem.F.args_list_extend_2 _ _) (AutoSeq1.list_extend_list_list_0 a its n c us n2 (by
  unfold Builtin.List.listTooLong
  simp only [Bool.and_eq_true, decide_eq_true_eq, not_and]
  intro _; exact (Nat.not_lt_of_le (nl4 [_, _, _, _, _] vr0 vr1 vr2 vr3 (.add vr1 vr3) (.num 1000000) (.num 16777216) vr4 (.add vr0 vr2) vr4 rfl (Nat.le_of_eq z1) (Nat.le_of_eq z2) hz (Nat.le_of_eq (Eq.symm hsl))))) (by exact nl3 [_, _, _, _] vr0 vr1 (.add vr1 vr2) (.num 1000000) (.num 16777216) vr3 vr0 vr3 rfl (Nat.le_of_eq z1) hz (Nat.le_of_eq (Eq.symm hsl))) (by exact nl4 [_, _, _, _, _] vr0 vr1 vr2 vr3 (.add vr1 vr3) (.num 1000000) (.num 16777216) vr4 (.add vr0 vr2) (.add vr4 (.num 1)) rfl (Nat.le_of_eq z1) (Nat.le_of_eq z2) hz (Nat.le_of_eq (Eq.symm hsl)))) ⟨e2, hp.1, fun ht => ?_⟩
 have hs : Heap.SameBut a s.heap (s.heap.update a (Obj.mapSeq fun x => x ++ us)) := Heap.SameBut.update ..
 have hmem : a ∈ ρ := List.mem_of_getElem? ha
 have kp : ∀ c ob, ¬ F.C.bd c → c ∉ ρ → s.heap.get? c = some ob → (s.heap.update a (Obj.mapSeq fun x => x ++ us)).get? c = some ob := fun c ob _ hc e => (hs.2 c fun q => hc (q ▸ hmem)).trans e
 refine ⟨.none, _, ρ, h, ?_, rfl, Ext.keeps kp⟩
 have all2_app : ∀ {R : AV → Value → Prop} {as bs : List AV} {vs us : List Value}, All2 R as vs → All2 R bs us → All2 R (as ++ bs) (vs ++ us) := by
  intro R as bs vs us x y
  induction x with
  | nil => exact y
  | cons z _ ih => exact .cons z ih
 refine I.update (ao := .list (xs ++ es.map ofD)) (f := Obj.mapSeq fun x => x ++ us) (o' := { cls := .type "list", data := .seq (its ++ us) (if (its ++ us).size == its.size then n else n + 1) }) hkl ha e2 rfl rfl ⟨its ++ us, _, rfl, ?_⟩ s.toks I.tk
 rw [Array.toList_append]
 exact all2_app (hal.mono fun _ _ y => y.keeps kp) ((hds.mono fun c o y => y.keeps kp).all2)
end
section
variable {w : World} {T : Addr → Obj → Prop}
noncomputable def kindL : List Nat := [63, 112, 99, 63, 100, 63, 98, 63, 45, 63, 108, 63, 115, 63, 63, 63]
noncomputable def kindC (m : Int) : Nat := (kindL[((m.fdiv 4096).fmod 16).toNat]?).getD 0
noncomputable abbrev figC (m : Int) (p : Nat) : Int := (m.fdiv (8 ^ ((2 : Int) - (p : Int)).toNat)).fmod 8
noncomputable abbrev abvC (m : Int) (p : Nat) : Int := (m.fdiv (2 ^ ((11 : Int) - (p : Int)).toNat)).fmod 2
noncomputable def tri (m : Int) (p : Nat) : List Nat :=
  [if figC m p ≥ 4 then 114 else 45, if (figC m p).fmod 4 ≥ 2 then 119 else 45,
   if abvC m p = 0 then (if (figC m p).fmod 2 = 0 then 45 else 120) else if p < 2 then (if (figC m p).fmod 2 = 0 then 83 else 115) else (if (figC m p).fmod 2 = 0 then 84 else 116)]
noncomputable def rightsF (m : Int) : List Nat := kindC m :: (tri m 0 ++ tri m 1 ++ tri m 2)
noncomputable def stRt (m : Int) (x : List Nat) (p f a : Option AV) : Sy := ⟨[("mode", some (.int m)), ("signs", some (.str (tx x))), ("place", p), ("figure", f), ("above", a)], []⟩
theorem fmod2 (m : Int) : m.fmod 2 = 0 ∨ m.fmod 2 = 1 := by
  have h1 := Int.fmod_nonneg_of_pos m (b := 2) (by omega)
  have h2 := Int.fmod_lt_of_pos m (b := 2) (by omega)
  omega
theorem pick2 {s : Str} {a b : Nat} (hs : s = tx [a, b]) {i : Int} (h : i = 0 ∨ i = 1) : Txt.item s i = tx [if i = 0 then a else b] := by
  subst hs
  rcases h with rfl | rfl
  · rfl
  · rfl
theorem ifC {c : Prop} [Decidable c] (a b : Nat) : tx [if c then a else b] = if c then tx [a] else tx [b] := by split <;> rfl
noncomputable def forBody : Stmt → List Stmt
  | .For _ _ b _ _ => b
  | _ => []
noncomputable def rBody : List Stmt := forBody (((fnAt 73).2.1[1]?).getD (Stmt.Pass ⟨0, 0, 0, 0⟩))
noncomputable def thC (m : Int) (p : Nat) : Nat := if abvC m p = 0 then (if (figC m p).fmod 2 = 0 then 45 else 120) else if p < 2 then (if (figC m p).fmod 2 = 0 then 83 else 115) else (if (figC m p).fmod 2 = 0 then 84 else 116)
section
variable {m : Int} {i : Nat}
theorem rgt (h : decide (figC m i ≥ 4) = true) : Str.ofString "r" = tx [if figC m i ≥ 4 then 114 else 45] := by rw [if_pos (of_decide_eq_true h)]; kernel_rfl
theorem rgf (h : decide (figC m i ≥ 4) = false) : Str.ofString "-" = tx [if figC m i ≥ 4 then 114 else 45] := by rw [if_neg (of_decide_eq_false h)]; kernel_rfl
theorem wgt (h : decide ((figC m i).fmod 4 ≥ 2) = true) : Str.ofString "w" = tx [if (figC m i).fmod 4 ≥ 2 then 119 else 45] := by rw [if_pos (of_decide_eq_true h)]; kernel_rfl
theorem wgf (h : decide ((figC m i).fmod 4 ≥ 2) = false) : Str.ofString "-" = tx [if (figC m i).fmod 4 ≥ 2 then 119 else 45] := by rw [if_neg (of_decide_eq_false h)]; kernel_rfl
theorem th0 (h : (abvC m i == 0) = true) : Txt.item (Str.ofString "-x") ((figC m i).fmod 2) = tx [thC m i] := by
  rw [thC, if_pos (eq_of_beq h)]; exact pick2 (by kernel_rfl) (fmod2 _)
theorem th1 (h : (abvC m i == 0) = false) (hi : decide ((i : Int) < 2) = true) : Txt.item (Str.ofString "Ss") ((figC m i).fmod 2) = tx [thC m i] := by
  rw [thC, if_neg (ne_of_beq_false h), if_pos (Int.ofNat_lt.mp (of_decide_eq_true hi))]; exact pick2 (by kernel_rfl) (fmod2 _)
theorem th2 (h : (abvC m i == 0) = false) (hi : decide ((i : Int) < 2) = false) : Txt.item (Str.ofString "Tt") ((figC m i).fmod 2) = tx [thC m i] := by
  rw [thC, if_neg (ne_of_beq_false h), if_neg fun q => of_decide_eq_false hi (Int.ofNat_lt.mpr q)]; exact pick2 (by kernel_rfl) (fmod2 _)
theorem rleaf {a b c : Str} {x : List Nat} (ha : a = tx [if figC m i ≥ 4 then 114 else 45]) (hb : b = tx [if (figC m i).fmod 4 ≥ 2 then 119 else 45]) (hc : c = tx [thC m i]) : tx x ++ a ++ b ++ c = tx (x ++ tri m i) := by
  rw [ha, hb, hc, txa, txa, txa, List.append_assoc, List.append_assoc]; rfl
theorem lnA {a : Str} {x : List Nat} (hx : x.length ≤ 100) (ha : a.length = 1) : (tx x).length + a.length ≤ sizeLine := by
  rw [ha, txl, sizeLine_eq]; exact Nat.le_trans (Nat.add_le_add_right hx 1) (by decide)
theorem lnB {a b : Str} {x : List Nat} (hx : x.length ≤ 100) (ha : a.length = 1) (hb : b.length = 1) : (tx x ++ a).length + b.length ≤ sizeLine := by
  rw [PySem.Str.length_append, ha, hb, txl, sizeLine_eq]; exact Nat.le_trans (Nat.add_le_add_right hx 2) (by decide)
theorem lnC {a b s : Str} {i : Int} {x : List Nat} (hx : x.length ≤ 100) (ha : a.length = 1) (hb : b.length = 1) : (tx x ++ a ++ b).length + (Txt.item s i).length ≤ sizeLine := by
  rw [PySem.Str.length_append, PySem.Str.length_append, ha, hb, txl, sizeLine_eq, len_item]; exact Nat.le_trans (Nat.add_le_add_right hx 3) (by decide)
theorem ix2 {s : Str} {i : Int} (hs : s.length = 2) (h : i = 0 ∨ i = 1) : -(s.length : Int) ≤ i ∧ i < s.length := by
  rw [hs]; rcases h with rfl | rfl <;> decide
theorem l2s {s : Str} (hs : s.length = 2) : s.length ≤ sizeLine := by rw [hs, sizeLine_eq]; decide
theorem sdA (h : i = 0 ∨ i = 1 ∨ i = 2) : (0 : Int) ≤ 2 - (i : Int) := by rcases h with rfl | rfl | rfl <;> decide
theorem sdB (h : i = 0 ∨ i = 1 ∨ i = 2) : (0 : Int) ≤ 11 - (i : Int) := by rcases h with rfl | rfl | rfl <;> decide
theorem sdC (h : i = 0 ∨ i = 1 ∨ i = 2) : (Builtin.Int.intBits 8 : Int) * (2 - (i : Int)) ≤ 2 ^ 27 := by rcases h with rfl | rfl | rfl <;> decide +kernel
theorem sdD (h : i = 0 ∨ i = 1 ∨ i = 2) : (Builtin.Int.intBits 2 : Int) * (11 - (i : Int)) ≤ 2 ^ 27 := by rcases h with rfl | rfl | rfl <;> decide +kernel
theorem pwN {b : Int} (k : Nat) (h : b ≠ 0) : b ^ k ≠ 0 := Int.pow_ne_zero h
end
theorem rights_turn {A : Around} {C : Cx} {E : Value → Shared → Prop} {n : Nat} {Q : Fl → Sy → Prop} (m : Int) (i : Nat) (hi : i = 0 ∨ i = 1 ∨ i = 2) (x : List Nat) (hx : x.length ≤ 100) (p f a : Option AV)
    (hQ : ∀ p f a, Q .next (stRt m (x ++ tri m i) p f a)) :
    st ⟨w, A, C, E, (fnAt 73).2.2, gl, T, n⟩ "place" (.int (i : Int)) (stRt m x p f a) fun S₁ => (run ⟨w, A, C, E, (fnAt 73).2.2, gl, T, n⟩ 30).xs rBody S₁ Q := by
  have h2 := fmod2 ((m.fdiv (8 ^ ((2 : Int) - (i : Int)).toNat)).fmod 8)
  have e1 : (Str.ofString "-x").length = 2 := by kernel_rfl
  have e2 : (Str.ofString "Ss").length = 2 := by kernel_rfl
  have e3 : (Str.ofString "Tt").length = 2 := by kernel_rfl
  have e4 : (Str.ofString "r").length = 1 := by kernel_rfl
  have e5 : (Str.ofString "w").length = 1 := by kernel_rfl
  have e6 : (Str.ofString "-").length = 1 := by kernel_rfl
  have fin : ∀ (y : Str) (p f a : Option AV) (S : Sy), y = tx (x ++ tri m i) → S = ⟨[("mode", some (.int m)), ("signs", some (.str y)), ("place", p), ("figure", f), ("above", a)], []⟩ → Q .next S := fun y p f a S h1 h2 => by
    subst h2; subst h1; exact hQ p f a
  have d8 : (!Builtin.divisionGoesByPylong m (8 ^ (2 - (i : Int)).toNat)) = true := by rcases hi with rfl | rfl | rfl <;> with_unfolding_all rfl
  have d2 : (!Builtin.divisionGoesByPylong m (2 ^ (11 - (i : Int)).toNat)) = true := by rcases hi with rfl | rfl | rfl <;> with_unfolding_all rfl
  walk_at "vgo"
  all_goals first
    | (refine fin _ _ _ _ _ ?_ rfl
       refine rleaf (by first | exact rgt (by assumption) | exact rgf (by assumption)) (by first | exact wgt (by assumption) | exact wgf (by assumption)) ?_
       first | exact th0 (by assumption) | exact th1 (by assumption) (by assumption) | exact th2 (by assumption) (by assumption))
    | exact lnA hx (by assumption)
    | exact lnB hx (by assumption) (by assumption)
    | exact lnC hx (by assumption) (by assumption)
    | exact ix2 (by assumption) h2
    | exact l2s (by assumption)
    | decide
    | exact pwN _ (by decide)
    | exact sdA hi
    | exact sdB hi
    | exact sdC hi
    | exact sdD hi
theorem kind_lit : (Str.ofString "?pc?d?b?-?l?s???") = tx kindL := by kernel_rfl
theorem kind_item {i : Int} (h : 0 ≤ i ∧ i < 16) : Txt.item (tx kindL) i = tx [(kindL[i.toNat]?).getD 0] := by
  have hn : i.toNat < kindL.length := by show i.toNat < 16; omega
  refine tx_item' h.1 ?_
  rw [List.getElem?_eq_getElem hn]; rfl
theorem tri_len (m : Int) (p : Nat) : (tri m p).length = 3 := rfl
theorem rights_ok (hT : TopOk w T gl) (hfn : FnIs T 864 (fnAt 73) .none) (m : Int) : FnOk w T 1 864 [.int m] (.str (tx (rightsF m))) := by
  refine fnI hT hfn (names := ["mode"]) (rest := ["signs", "place", "figure", "above"]) (avs := [.int m]) (by kernel_rfl) rfl ?_ ?_
  · exact fun _ _ _ _ _ _ _ _ _ _ _ _ hv => bind1 hv fun _ => by kernel_rfl
  · intro A C E _ hF _
    refine (run_ok hF 30).xs ?_
    have h16 := fmod16 (m.fdiv 4096)
    have hk := kind_item h16
    have hl16 : (Str.ofString "?pc?d?b?-?l?s???").length = 16 := by rw [kind_lit, txl]; rfl
    have hsl : 1000 ≤ sizeLine := by rw [sizeLine_eq]; exact nl0 [] (.num 1000) (.num 16777216) rfl
    walk_at "vgo"
    all_goals try (first | (first | exact nl2 [_, _] vr0 (.num 16) (.num 1000) vr1 vr0 vr1 rfl (Nat.le_of_eq hl16) hsl | omega) | (rw [hl16]; omega))
    refine for_ok hF 30 (fun i S => ∃ p f a, S = stRt m (kindC m :: (List.range i).flatMap (tri m)) p f a) ((List.range 3).map fun i => .int ((i : Nat) : Int)) (S₀ := stRt m [kindC m] none none none) (fun _ => rfl) ?_ ⟨none, none, none, rfl⟩ ?_ ?_
    · walk_at "vgo"
      refine l_range (n := 3) ?_
      walk_at "vgo"
      refine ⟨⟨rfl, ?_⟩⟩
      unfold stRt kindC
      rw [← hk, ← kind_lit]
      rfl
    · rintro C' E' i a S hF' ha ⟨p, f, ab, rfl⟩
      have hi : i < 3 := by
        have := (List.getElem?_eq_some_iff.mp ha).1
        simpa using this
      have ha' : a = .int (i : Int) := by
        rw [List.getElem?_map, List.getElem?_range hi] at ha
        exact (Option.some.inj ha).symm
      subst ha'
      refine rights_turn m i (by omega) _ ?_ p f ab fun p f a => ?_
      · have h3 : i = 0 ∨ i = 1 ∨ i = 2 := by omega
        rcases h3 with rfl | rfl | rfl <;> simp [List.range_succ, tri_len]
      · refine ⟨⟨p, f, a, ?_⟩⟩
        rw [List.range_succ]
        simp
    · rintro E' S hF' ⟨p, f, ab, rfl⟩
      walk_at "vgo"
      rfl
end
section
variable {w : World} {T : Addr → Obj → Prop}
noncomputable def safeN (c : Nat) : Bool := [61, 95, 97, 46, 45].contains c
noncomputable def sty (l : List Nat) : List Sgn := l.map fun c => ([c], .stays)
noncomputable def five : List Sgn := [([39], .turns), ([34], .turns), ([39], .stays), ([34], .turns), ([39], .turns)]
noncomputable def nameS (c : Nat) : List Sgn := if c = 39 then five else [([c], .stays)]
noncomputable def rowHead (m : Int) : List Sgn := sty (rightsF m) ++ [([32], .parts)]
noncomputable def rowF (m : Int) (l : List Nat) : List Sgn :=
 if l ≠ [] ∧ l.all safeN = true then rowHead m ++ sty l ++ [([10], .parts)] else rowHead m ++ [([39], Deed.turns)] ++ l.flatMap nameS ++ [([39], .turns), ([10], .parts)]
theorem rights_len (m : Int) : (rightsF m).length = 10 := rfl
noncomputable def chs (l : List Nat) : List AV := l.map fun c => AV.str (tx [c])
theorem items_str (l : List Nat) : itemsOf (.str (tx l)) = some (chs l) := by simp [itemsOf, chs]
theorem filterMap_range {α β : Type} (l : List α) (g : α → Option β) : (List.range l.length).filterMap (fun i => (l[i]?).bind g) = l.filterMap g := by
 induction l with
 | nil => rfl
 | cons a r ih =>
  rw [List.length_cons, List.range_succ_eq_map, List.filterMap_cons, List.filterMap_map]
  have : (fun i => ((a :: r)[i]?).bind g) ∘ Nat.succ = fun i => (r[i]?).bind g := by funext i; simp
  rw [this, ih]
  cases h : g a <;> simp [List.filterMap_cons, h]
theorem row_ok (hT : TopOk w T gl) (hr : FnIs T 864 (fnAt 73) .none) (hfn : FnIs T 869 (fnAt 74) .none) (m : Int) {l : List Nat} (hl : l.length ≤ 3) : FnOk w T 2 869 [.int m, .str (tx l)] (.list ((rowF m l).map sgnD)) := by
 have hsl : 1000000 ≤ sizeLine := by rw [sizeLine_eq]; exact nl0 [] (.num 1000000) (.num 16777216) rfl
 refine fnI hT hfn (names := ["mode", "name"]) (rest := ["row", "sign"]) (avs := [.int m, .str (tx l)]) (by kernel_rfl) rfl ?_ ?_
 ·exact fun _ _ _ _ _ _ _ _ _ _ _ _ hv => bind2 hv fun _ _ => by kernel_rfl
 ·intro A C E _ hF _
  have hR := rights_ok hT hr m
  refine sem_cut (t := ((fnAt 74).2.1[0]?).getD (Stmt.Pass ⟨0, 0, 0, 0⟩)) (rest := (fnAt 74).2.1.drop 1) hF 28 (fun S₁ => S₁ = ⟨[("mode", some (.int m)), ("name", some (.str (tx l))), ("row", some (.own 0)), ("sign", none)], [.list ((rowHead m).map fun p => ofD (sgnD p))]⟩) ?_ ?_
  ·walk_at "vgo"
   have hmap : (List.range (chs (rightsF m)).length).filterMap (fun i => ((rightsF m)[i]?).bind fun c => some (sgnD ([c], .stays))) = (sty (rightsF m)).map sgnD := by
    rw [show (chs (rightsF m)).length = (rightsF m).length by simp [chs], filterMap_range]
    simp [sty, List.filterMap_eq_map']
   refine comp_ok (S₀ := ⟨[("mode", some (.int m)), ("name", some (.str (tx l))), ("row", none), ("sign", none)], []⟩) hF 20 (chs (rightsF m)) (fun i => ((rightsF m)[i]?).bind fun c => some (sgnD ([c], .stays))) ["sign"] (fun _ => rfl) (by rfl) (by kernel_rfl) (by kernel_rfl) rfl (by kernel_rfl) (by kernel_rfl) (by simp [chs, rights_len]) ?_ ?_ ?_
   ·walk_at "vgo"
    ·exact fn_okF hF hR
    ·refine ⟨fn_call hF hR (Nat.le_refl _) rfl ?_⟩
     walk_at "vgo"
     exact ⟨items_str _, rfl⟩
   ·intro C' E' i a hF' ha
    obtain ⟨c, hc, rfl⟩ : ∃ c, (rightsF m)[i]? = some c ∧ a = .str (tx [c]) := by
     unfold chs at ha
     rw [List.getElem?_map] at ha
     refine el12 (Option.map_eq_some_iff.mp ha) fun c h1 h2 => ?_
     exact ⟨c, h1, h2.symm⟩
    rw [hc]
    walk_at "vgo"
    ·show 2 ≤ _; exact nl1 [_] (.num 1000000) vr0 (.num 2) vr0 rfl hsl
    ·exact ⟨⟨rfl, rfl⟩⟩
   ·rw [hmap]
    walk_at "vgo"
    ·show 2 ≤ _; exact nl1 [_] (.num 1000000) vr0 (.num 2) vr0 rfl hsl
    ·show 1 ≤ _; exact nl1 [_] (.num 1000000) vr0 (.num 1) vr0 rfl hsl
    ·refine l_addO (ds := (sty (rightsF m)).map sgnD) (es := [sgnD ([32], .parts)]) rfl rfl (by simp [sty, rights_len]; exact nl1 [_] (.num 1000000) vr0 (.num 11) vr0 rfl hsl) ?_
     walk_at "vgo"
     refine ⟨?_⟩
     have : ((sty (rightsF m)).map sgnD ++ [sgnD ([32], .parts)]).map ofD = (rowHead m).map fun p => ofD (sgnD p) := by simp [rowHead]
     rw [this]
     rfl
  ·rintro S₁ rfl
   have hhd : (rowHead m).length = 11 := by simp [rowHead, sty, rights_len]
   obtain ⟨hd, hhe⟩ : ∃ hd, rowHead m = hd := ⟨_, rfl⟩
   rw [hhe] at hhd ⊢
   have hown : ∀ (L : List Sgn), toDs (L.map fun p => ofD (sgnD p)) = some (L.map sgnD) := fun L => by have := ofD_toDs (L.map sgnD); rwa [List.map_map] at this
   refine sem_cut (t := ((fnAt 74).2.1[1]?).getD (Stmt.Pass ⟨0, 0, 0, 0⟩)) (rest := (fnAt 74).2.1.drop 2) hF 28 (fun S₁ => ¬ (l ≠ [] ∧ l.all safeN = true) ∧ ∃ own, S₁ = ⟨[("mode", some (.int m)), ("name", some (.str (tx l))), ("row", some (.own 0)), ("sign", none)], .list (hd.map fun p => ofD (sgnD p)) :: own⟩) ?_ ?_
   ·by_cases hnil : l = []
    ·subst hnil
     walk_at "vgo"
     exact ⟨⟨fun q => q.1 rfl, [], rfl⟩⟩
    ·have hT1 : (!seq (tx l) (Str.ofString "")) = true := by
      rw [show (Str.ofString "") = tx [] by kernel_rfl, tx_seq]; induction l with | nil => exact absurd rfl hnil | cons _ _ => rfl
     have hds : (List.range (chs l).length).filterMap (fun i => (l[i]?).bind fun c => if safeN c then none else some (Dt.str (tx [c]))) = (l.filter fun c => !safeN c).map fun c => Dt.str (tx [c]) := by
      rw [show (chs l).length = l.length by simp [chs], filterMap_range]
      clear hT1 hnil hl
      induction l with
      | nil => rfl
      | cons c r ih => cases hsf : safeN c <;> simp [List.filterMap_cons, List.filter_cons, hsf, ih]
     walk_at "vgo"
     refine comp_ok (S₀ := ⟨[("mode", some (.int m)), ("name", some (.str (tx l))), ("row", some (.own 0)), ("sign", none)], [.list (hd.map fun p => ofD (sgnD p))]⟩) hF 20 (chs l) (fun i => (l[i]?).bind fun c => if safeN c then none else some (Dt.str (tx [c]))) ["sign"] (fun _ => rfl) (by rfl) (by kernel_rfl) (by kernel_rfl) rfl (by kernel_rfl) (by kernel_rfl) (by simp [chs]; exact nl1 [_] vr0 (.num 3) vr0 (.num 100000) rfl hl) ?_ ?_ ?_
     ·walk_at "vgo"
      exact ⟨items_str _, rfl⟩
     ·intro C' E' i a hF' ha
      obtain ⟨c, hc, rfl⟩ : ∃ c, l[i]? = some c ∧ a = .str (tx [c]) := by
       unfold chs at ha
       rw [List.getElem?_map] at ha
       refine el12 (Option.map_eq_some_iff.mp ha) fun c h1 h2 => ?_
       exact ⟨c, h1, h2.symm⟩
      rw [hc]
      have hT2 : (!Txt.contains (Str.ofString "=_a.-") (tx [c])) = !safeN c := by
       rw [show (Str.ofString "=_a.-") = tx [61, 95, 97, 46, 45] by kernel_rfl, tx_contains]; congr 1; unfold safeN; rw [List.contains_eq_mem]
      cases hsf : safeN c with
      | true =>
       rw [hsf] at hT2
       change _ = false at hT2
       walk_at "vgo"
       exact ⟨if_pos hsf⟩
      | false =>
       rw [hsf] at hT2
       change _ = true at hT2
       walk_at "vgo"
       have e : ((some c).bind fun c => if safeN c = true then none else some (Dt.str (tx [c]))) = some (Dt.str (tx [c])) := if_neg (by rw [hsf]; decide)
       exact ⟨by rw [e]; exact ⟨rfl, rfl⟩⟩
     ·rw [hds]
      walk_at "vgo"
      refine l_eq_nil hF (ds := (l.filter fun c => !safeN c).map fun c => Dt.str (tx [c])) rfl rfl ?_
      have hemp : ((l.filter fun c => !safeN c).map fun c => Dt.str (tx [c])).isEmpty = l.all safeN := by
       rw [List.isEmpty_map]
       clear hds hT1 hnil hl
       induction l with
       | nil => rfl
       | cons c r ih => cases hsf : safeN c <;> simp [List.filter_cons, hsf] at ih ⊢; exact ih
      rw [hemp]
      cases hal : l.all safeN with
      | false =>
       walk_at "vgo"
       exact ⟨⟨(fun q => nomatch q.2), _, rfl⟩⟩
      | true =>
       have hmap : (List.range (chs l).length).filterMap (fun i => (l[i]?).bind fun c => some (sgnD ([c], .stays))) = (sty l).map sgnD := by
        rw [show (chs l).length = l.length by simp [chs], filterMap_range]
        simp [sty, List.filterMap_eq_map']
       walk_at "vgo"
       refine comp_ok (S₀ := ⟨[("mode", some (.int m)), ("name", some (.str (tx l))), ("row", some (.own 0)), ("sign", none)], [.list (hd.map fun p => ofD (sgnD p)), .list []]⟩) hF 20 (chs l) (fun i => (l[i]?).bind fun c => some (sgnD ([c], .stays))) ["sign"] (fun _ => rfl) (by rfl) (by kernel_rfl) (by kernel_rfl) rfl (by kernel_rfl) (by kernel_rfl) (by simp [chs]; exact nl1 [_] vr0 (.num 3) vr0 (.num 100000) rfl hl) ?_ ?_ ?_
       ·walk_at "vgo"
        exact ⟨items_str _, rfl⟩
       ·intro C' E' i a hF' ha
        obtain ⟨c, hc, rfl⟩ : ∃ c, l[i]? = some c ∧ a = .str (tx [c]) := by
         unfold chs at ha
         rw [List.getElem?_map] at ha
         refine el12 (Option.map_eq_some_iff.mp ha) fun c h1 h2 => ?_
         exact ⟨c, h1, h2.symm⟩
        rw [hc]
        walk_at "vgo"
        ·show 2 ≤ _; exact nl1 [_] (.num 1000000) vr0 (.num 2) vr0 rfl hsl
        ·exact ⟨⟨rfl, rfl⟩⟩
       ·rw [hmap]
        walk_at "vgo"
        refine l_addL (ds := hd.map sgnD) (es := (sty l).map sgnD) ?_ rfl (by simp [sty]; exact nl3 [_, _, _] vr0 (.num 11) vr1 (.num 3) (.num 1000000) vr2 (.add vr0 vr1) vr2 rfl (Nat.le_of_eq hhd) hl hsl) ?_
        ·show (match toDs (hd.map fun p => ofD (sgnD p)) with | some ds => some (Dt.list ds) | none => none) = _
         rw [hown]
        ·walk_at "vgo"
         ·show 2 ≤ _; exact nl1 [_] (.num 1000000) vr0 (.num 2) vr0 rfl hsl
         ·show 1 ≤ _; exact nl1 [_] (.num 1000000) vr0 (.num 1) vr0 rfl hsl
         ·refine l_addL (ds := hd.map sgnD ++ (sty l).map sgnD) (es := [sgnD ([10], .parts)]) rfl rfl (by simp [sty]; exact nl3 [_, _, _] vr0 (.num 11) vr1 (.num 3) (.num 1000000) vr2 (.add (.add vr0 vr1) (.num 1)) vr2 rfl (Nat.le_of_eq hhd) hl hsl) ?_
          walk_at "vgo"
          show some (Dt.list _) = _
          unfold rowF
          rw [if_pos ⟨hnil, hal⟩, hhe]
          simp
   ·rintro S₁ ⟨hno, own, rfl⟩
    refine (run_ok hF 28).xs ?_
    walk_at "vgo"
    ·show 2 ≤ _; exact nl1 [_] (.num 1000000) vr0 (.num 2) vr0 rfl hsl
    ·refine l_append (k := 0) (a := ofD (sgnD ([39], .turns))) (xs := hd.map fun p => ofD (sgnD p)) rfl (by simp; exact nl2 [_, _] vr0 (.num 11) (.num 1000000) vr1 vr0 vr1 rfl (Nat.le_of_eq hhd) hsl) ?_
     walk_at "vgo"
     refine for_ok hF 20 (fun i S => ∃ sg, S = ⟨[("mode", some (.int m)), ("name", some (.str (tx l))), ("row", some (.own 0)), ("sign", sg)], .list ((hd ++ [([39], Deed.turns)] ++ (l.take i).flatMap nameS).map fun p => ofD (sgnD p)) :: own⟩) (chs l)
      (S₀ := ⟨[("mode", some (.int m)), ("name", some (.str (tx l))), ("row", some (.own 0)), ("sign", none)], .list ((hd ++ [([39], Deed.turns)]).map fun p => ofD (sgnD p)) :: own⟩) (fun _ => rfl) ?_ ⟨none, by simp⟩ ?_ ?_
     ·walk_at "vgo"
      refine ⟨items_str _, ?_⟩
      rw [List.map_append]
      rfl
     ·rintro C' E' i a S hF' ha ⟨sg, rfl⟩
      obtain ⟨c, hc, rfl⟩ : ∃ c, l[i]? = some c ∧ a = .str (tx [c]) := by
       unfold chs at ha
       rw [List.getElem?_map] at ha
       refine el12 (Option.map_eq_some_iff.mp ha) fun c h1 h2 => ?_
       exact ⟨c, h1, h2.symm⟩
      have hnext : (l.take (i + 1)).flatMap nameS = (l.take i).flatMap nameS ++ nameS c := by rw [List.take_add_one, hc]; simp
      have hpl : ((l.take i).flatMap nameS).length ≤ 15 := by
       have h5 : ∀ c, (nameS c).length ≤ 5 := fun c => by unfold nameS five; split <;> simp
       have : ∀ L : List Nat, (L.flatMap nameS).length ≤ 5 * L.length := fun L => by
        induction L with
        | nil => simp
        | cons a r ih => rw [List.flatMap_cons, List.length_append, List.length_cons]; have := h5 a; exact nl2 [_, _, _] vr0 (.num 5) vr1 (.mulL 5 vr2) (.add vr0 vr1) (.mulL 5 (.add vr2 (.num 1))) rfl this ih
       have h2 := this (l.take i)
       have h3 : (l.take i).length ≤ 3 := by simp; exact nl2 [_, _] vr0 vr1 vr1 (.num 3) vr0 (.num 3) rfl (Nat.min_le_right _ _) hl
       exact nl2 [_, _] vr0 (.mulL 5 vr1) (.mulL 5 vr1) (.mulL 5 (.num 3)) vr0 (.num 15) rfl h2 (Nat.mul_le_mul_left 5 h3)
      show st _ _ _ _ (fun S₁ => (run _ _).xs _ _ (LpQ (fun S => ∃ sg, S = ⟨[("mode", some (.int m)), ("name", some (.str (tx l))), ("row", some (.own 0)), ("sign", sg)], .list ((hd ++ [([39], Deed.turns)] ++ (l.take (i + 1)).flatMap nameS).map fun p => ofD (sgnD p)) :: own⟩) _))
      rw [hnext]
      generalize (l.take i).flatMap nameS = pre at *
      have hT1 : seq (tx [c]) (Str.ofString "'") = decide (c = 39) := by rw [show (Str.ofString "'") = tx [39] by kernel_rfl, tx_seq, Bool.eq_iff_iff]; simp
      by_cases h39 : c = 39
      ·rw [decide_eq_true h39] at hT1
       subst h39
       walk_at "vgo"
       all_goals try (first | (show 2 ≤ _; exact nl1 [_] (.num 1000000) vr0 (.num 2) vr0 rfl hsl) | (show 5 ≤ _; exact nl1 [_] (.num 1000000) vr0 (.num 5) vr0 rfl hsl))
       refine l_extend (k := 0) (xs := (hd ++ [([39], Deed.turns)] ++ pre).map fun p => ofD (sgnD p)) (es := five.map sgnD) rfl rfl (by simp [five]; exact nl2 [_, _] vr0 (.num 11) vr1 (.num 15) (.add vr0 (.add vr1 (.num 1))) (.num 999995) rfl (Nat.le_of_eq hhd) hpl) ?_
       walk_at "vgo"
       refine ⟨⟨some (.str (tx [39])), ?_⟩⟩
       rw [show nameS 39 = five from rfl, ← List.append_assoc, List.map_append (l₂ := five)]
       simp only [List.map_map]
       rfl
      ·rw [decide_eq_false h39] at hT1
       walk_at "vgo"
       all_goals try (show 2 ≤ _; exact nl1 [_] (.num 1000000) vr0 (.num 2) vr0 rfl hsl)
       refine l_append (k := 0) (a := ofD (sgnD ([c], .stays))) (xs := (hd ++ [([39], Deed.turns)] ++ pre).map fun p => ofD (sgnD p)) rfl (by simp; exact nl3 [_, _, _] vr0 (.num 11) vr1 (.num 15) (.num 1000000) vr2 (.add vr0 (.add vr1 (.num 1))) vr2 rfl (Nat.le_of_eq hhd) hpl hsl) ?_
       walk_at "vgo"
       refine ⟨⟨some (.str (tx [c])), ?_⟩⟩
       rw [show nameS c = [([c], .stays)] by unfold nameS; rw [if_neg h39], ← List.append_assoc, List.map_append (l₂ := [([c], Deed.stays)])]
       rfl
     ·rintro E' S hF' ⟨sg, rfl⟩
      have hpl : (l.flatMap nameS).length ≤ 15 := by
       have h5 : ∀ c, (nameS c).length ≤ 5 := fun c => by unfold nameS five; split <;> simp
       have : ∀ L : List Nat, (L.flatMap nameS).length ≤ 5 * L.length := fun L => by
        induction L with
        | nil => simp
        | cons a r ih => rw [List.flatMap_cons, List.length_append, List.length_cons]; have := h5 a; exact nl2 [_, _, _] vr0 (.num 5) vr1 (.mulL 5 vr2) (.add vr0 vr1) (.mulL 5 (.add vr2 (.num 1))) rfl this ih
       have h2 := this l
       exact nl2 [_, _] vr0 (.mulL 5 vr1) (.mulL 5 vr1) (.mulL 5 (.num 3)) vr0 (.num 15) rfl h2 (Nat.mul_le_mul_left 5 hl)
      rw [show (chs l).length = l.length by simp [chs], List.take_length]
      walk_at "vgo"
      all_goals try (show 2 ≤ _; exact nl1 [_] (.num 1000000) vr0 (.num 2) vr0 rfl hsl)
      refine l_addL (ds := (hd ++ [([39], Deed.turns)] ++ l.flatMap nameS).map sgnD) (es := [sgnD ([39], .turns), sgnD ([10], .parts)]) ?_ rfl (by rw [List.length_map, List.length_append, List.length_append]; simp only [List.length_cons, List.length_nil]; exact nl3 [_, _, _] vr0 (.num 11) vr1 (.num 15) (.num 1000000) vr2 (.add (.add (.add vr0 (.add (.num 0) (.num 1))) vr1) (.add (.add (.num 0) (.num 1)) (.num 1))) vr2 rfl (Nat.le_of_eq hhd) hpl hsl) ?_
      ·show (match toDs ((hd ++ [([39], Deed.turns)] ++ l.flatMap nameS).map fun p => ofD (sgnD p)) with | some ds => some (Dt.list ds) | none => none) = _
       rw [hown]
      ·walk_at "vgo"
       show some (Dt.list _) = _
       unfold rowF
       rw [if_neg hno, hhe]
       simp
end
section
open PySem.Builtin
noncomputable def out : Md → List Nat → List Nat → Option (List (List Nat))
 | .wd, tok, [] => some [tok]
 | .q _, _, [] => none
 | .en, _, _ => some []
 | .sp, _, [] => some []
 | .sp, _, c :: r => if wsC c then out .sp [] r else if qtC c then out (.q c) [] r else out .wd [c] r
 | .wd, tok, c :: r => if wsC c then (out .sp [] r).map (tok :: ·) else if qtC c then out (.q c) tok r else out .wd (tok ++ [c]) r
 | .q d, tok, c :: r => if c = d then out .wd tok r else out (.q d) (tok ++ [c]) r
noncomputable def Rd (W : Option (List (List Nat))) (l : List Nat) : TokR → Prop
 | none => W = none
 | some (none, _, _) => W = some []
 | some (some t, r, e) => W = (if e then some [] else out .sp [] r).map (t :: ·) ∧ r.length ≤ l.length
theorem Rd.longer {W : Option (List (List Nat))} {l : List Nat} {c : Nat} : ∀ {R : TokR}, Rd W l R → Rd W (c :: l) R
 | none, h => h
 | some (none, _, _), h => h
 | some (some _, _, _), h => ⟨h.1, Nat.le_succ_of_le h.2⟩
theorem rdm_out : ∀ (l : List Nat) (m : Md) (tok : List Nat), m ≠ .en → Rd (out m tok l) l (rdm m tok l)
 | [], m, tok, hm => by
  induction m with
  | sp => rfl
  | wd => exact ⟨rfl, Nat.le_refl _⟩
  | q d => rfl
  | en => exact absurd rfl hm
 | c :: r, m, tok, hm => by
  induction m with
  | sp =>
   unfold out rdm
   split
   ·exact (rdm_out r _ _ (by intro h; contradiction)).longer
   ·split <;> exact (rdm_out r _ _ (by intro h; contradiction)).longer
  | wd =>
   unfold out rdm
   split
   ·exact ⟨rfl, Nat.le_succ _⟩
   ·split <;> exact (rdm_out r _ _ (by intro h; contradiction)).longer
  | q d =>
   unfold out rdm
   split <;> exact (rdm_out r _ _ (by intro h; contradiction)).longer
  | en => exact absurd rfl hm
theorem wd_out : ∀ (n : Nat) (l : List Nat), l.length ≤ n → Wd false l (out .sp [] l) := by
 have one : ∀ l, (∀ r t, rdm .sp [] l = some (some t, r, false) → Wd false r (out .sp [] r)) → Wd false l (out .sp [] l) := fun l ih => by
  have h := rdm_out l .sp [] (fun h => nomatch h)
  cases e : rdm .sp [] l with
  | none => rw [e] at h; rw [show out .sp [] l = none from h]; exact .err e
  | some p =>
   obtain ⟨t, r, en⟩ := p
   rw [e] at h
   induction t with
   | none => rw [show out .sp [] l = some [] from h]; exact .fin e
   | some t =>
    rw [h.1]
    induction en with
    | true => exact .cons e (.fin (en := true) (r' := []) (e' := true) (by cases r <;> rfl))
    | false => exact .cons e (ih r t e)
 intro n
 induction n with
 | zero =>
  intro l hl
  refine one l fun r t e => ?_
  have : l = [] := List.eq_nil_of_length_eq_zero (by exact (Nat.le_antisymm hl (nl0 [_] (.num 0) vr0 rfl)))
  subst this; cases e
 | succ n ih =>
  intro l hl
  refine one l fun r t e => ih r ?_
  obtain ⟨⟨k, h1, h2⟩, _⟩ := rdm_some l .sp [] e
  have := h2 rfl (fun h => nomatch h)
  rw [h1, List.length_drop]; exact Nat.sub_le_of_le_add (by have := this.1; exact nl2 [_, _, _] vr0 (.add vr1 (.num 1)) (.add (.num 0) (.num 1)) vr2 vr0 (.add vr1 vr2) rfl hl this)
theorem out_ws {c : Nat} (hc : wsC c = true) : ∀ (l : List Nat) (m : Md) (tok : List Nat), (∀ d, m = .q d → qtC d = true) → out m tok (l ++ [c]) = out m tok l
 | [], m, tok, hm => by
  induction m with
  | sp => show (if wsC c then _ else _) = _; rw [if_pos hc]; rfl
  | wd => show (if wsC c then _ else _) = _; rw [if_pos hc]; rfl
  | q d =>
   show (if c = d then _ else _) = _
   rw [if_neg]; · rfl
   rintro rfl
   have := hm c rfl
   unfold wsC at hc; unfold qtC at this
   simp at hc this; exact (Or.elim hc (fun hy0 => (Or.elim hy0 (fun hy1 => (Or.elim hy1 (fun hy2 => (Or.elim this (fun hy3 => (Nat.not_succ_le_zero 0 (nl2 [_] (.num 39) vr0 vr0 (.num 32) (.num 1) (.num 0) rfl (Nat.le_of_eq (Eq.symm hy3)) (Nat.le_of_eq hy2))).elim) fun hy3 => (Nat.not_succ_le_zero 0 (nl2 [_] (.num 34) vr0 vr0 (.num 32) (.num 1) (.num 0) rfl (Nat.le_of_eq (Eq.symm hy3)) (Nat.le_of_eq hy2))).elim)) fun hy2 => (Or.elim this (fun hy3 => (Nat.not_succ_le_zero 0 (nl2 [_] (.num 39) vr0 vr0 (.num 9) (.num 1) (.num 0) rfl (Nat.le_of_eq (Eq.symm hy3)) (Nat.le_of_eq hy2))).elim) fun hy3 => (Nat.not_succ_le_zero 0 (nl2 [_] (.num 34) vr0 vr0 (.num 9) (.num 1) (.num 0) rfl (Nat.le_of_eq (Eq.symm hy3)) (Nat.le_of_eq hy2))).elim))) fun hy1 => (Or.elim this (fun hy2 => (Nat.not_succ_le_zero 0 (nl2 [_] (.num 39) vr0 vr0 (.num 13) (.num 1) (.num 0) rfl (Nat.le_of_eq (Eq.symm hy2)) (Nat.le_of_eq hy1))).elim) fun hy2 => (Nat.not_succ_le_zero 0 (nl2 [_] (.num 34) vr0 vr0 (.num 13) (.num 1) (.num 0) rfl (Nat.le_of_eq (Eq.symm hy2)) (Nat.le_of_eq hy1))).elim))) fun hy0 => (Or.elim this (fun hy1 => (Nat.not_succ_le_zero 0 (nl2 [_] (.num 39) vr0 vr0 (.num 10) (.num 1) (.num 0) rfl (Nat.le_of_eq (Eq.symm hy1)) (Nat.le_of_eq hy0))).elim) fun hy1 => (Nat.not_succ_le_zero 0 (nl2 [_] (.num 34) vr0 vr0 (.num 10) (.num 1) (.num 0) rfl (Nat.le_of_eq (Eq.symm hy1)) (Nat.le_of_eq hy0))).elim))
  | en => rfl
 | x :: r, m, tok, hm => by
  have nq : ∀ {m : Md} {P : Nat → Prop}, (∀ d, m ≠ .q d) → ∀ d, m = .q d → P d := fun h d e => absurd e (h d)
  induction m with
  | sp =>
   show (if wsC x then _ else _) = (if wsC x then _ else _)
   split
   ·exact out_ws hc r _ _ fun _ e => nomatch e
   ·split
    ·rename_i h; exact out_ws hc r _ _ fun _ e => by cases e; exact h
    ·exact out_ws hc r _ _ fun _ e => nomatch e
  | wd =>
   show (if wsC x then _ else _) = (if wsC x then _ else _)
   split
   ·exact congrArg (Option.map _) (out_ws hc r _ _ fun _ e => nomatch e)
   ·split
    ·rename_i h; exact out_ws hc r _ _ fun _ e => by cases e; exact h
    ·exact out_ws hc r _ _ fun _ e => nomatch e
  | q d =>
   show (if x = d then _ else _) = (if x = d then _ else _)
   split
   ·exact out_ws hc r _ _ fun _ e => nomatch e
   ·exact out_ws hc r _ _ hm
  | en => rfl
theorem okm_pre : ∀ (l x : List Nat) (m : Md), okm m (l ++ x) = true → okm m l = true
 | [], _, m, _ => by cases m <;> rfl
 | c :: r, x, m, h => by
  induction m with
  | en => rfl
  | sp =>
   change (if wsC c then _ else if qtC c then _ else _) = true at h
   show (if wsC c then _ else if qtC c then _ else _) = true
   split at h
   ·rename_i q; rw [if_pos q]; exact okm_pre r x _ h
   ·rename_i q; rw [if_neg q]
    split at h
    ·rename_i q; rw [if_pos q]; exact okm_pre r x _ h
    ·rename_i q; rw [if_neg q]; rw [Bool.and_eq_true] at h ⊢; exact ⟨h.1, okm_pre r x _ h.2⟩
  | wd =>
   change (if wsC c then _ else if qtC c then _ else _) = true at h
   show (if wsC c then _ else if qtC c then _ else _) = true
   split at h
   ·rename_i q; rw [if_pos q]; exact okm_pre r x _ h
   ·rename_i q; rw [if_neg q]
    split at h
    ·rename_i q; rw [if_pos q]; exact okm_pre r x _ h
    ·rename_i q; rw [if_neg q]; rw [Bool.and_eq_true] at h ⊢; exact ⟨h.1, okm_pre r x _ h.2⟩
  | q d =>
   change ((d == 39 || d == 34 && c != 92) && (if c = d then _ else _)) = true at h
   show ((d == 39 || d == 34 && c != 92) && (if c = d then _ else _)) = true
   rw [Bool.and_eq_true] at h ⊢
   refine ⟨h.1, ?_⟩
   have h2 := h.2
   split at h2
   ·rename_i q; rw [if_pos q]; exact okm_pre r x _ h2
   ·rename_i q; rw [if_neg q]; exact okm_pre r x _ h2
noncomputable def plC (c : Nat) : Bool := !wsC c && !qtC c && c != 92
inductive Gd : Md → Sgn → Md → Prop
 | parts {c} : wsC c = true → Gd .wd ([c], .parts) .sp
 | opens {c} : qtC c = true → Gd .sp ([c], .turns) (.q c)
 | goes {c} : qtC c = true → Gd .wd ([c], .turns) (.q c)
 | shut {c} : qtC c = true → Gd (.q c) ([c], .turns) .wd
 | first {c x} : (c :: x).all plC = true → Gd .sp (c :: x, .stays) .wd
 | more {x} : x.all plC = true → Gd .wd (x, .stays) .wd
 | quoted {d x} : (d = 39 ∧ x.all (fun c => c != 39) = true ∨ d = 34 ∧ x.all (fun c => c != 34 && c != 92) = true) → Gd (.q d) (x, .stays) (.q d)
inductive Gds : Md → List Sgn → Md → Prop
 | nil {m} : Gds m [] m
 | cons {m p m' S m''} : Gd m p m' → Gds m' S m'' → Gds m (p :: S) m''
noncomputable def LkR (h : HrS) : Md → List Nat → Prop
 | .sp, tok => h.begun = none ∧ h.within = false ∧ tok = []
 | .wd, tok => h.begun = some tok ∧ h.within = false
 | .q _, tok => h.begun = some tok ∧ h.within = true
 | .en, _ => False
noncomputable def fin (h : HrS) : Option (List (Option (List Nat))) := if h.within then none else some (h.words ++ (match h.begun with | none => [] | some b => [some b]))
theorem qt_no {c : Nat} (h : qtC c = true) : wsC c = false ∧ (c = 39 ∨ c = 34) := by
 have : c = 39 ∨ c = 34 := by simpa [qtC] using h
 refine ⟨?_, this⟩
 rcases this with rfl | rfl <;> rfl
theorem out_plain {r : List Nat} : ∀ (x tok : List Nat), x.all plC = true → out .wd tok (x ++ r) = out .wd (tok ++ x) r ∧ (okm .wd r = true → okm .wd (x ++ r) = true)
 | [], tok, _ => ⟨by rw [List.append_nil]; rfl, id⟩
 | c :: x, tok, h => by
  rw [List.all_cons, Bool.and_eq_true] at h
  refine el02 (out_plain (r := r) x (tok ++ [c]) h.2) fun h1 h2 => ?_
  have hc := h.1
  unfold plC at hc
  simp only [Bool.and_eq_true, Bool.not_eq_true'] at hc
  refine ⟨?_, fun q => ?_⟩
  ·show (if wsC c then _ else if qtC c then _ else out .wd (tok ++ [c]) (x ++ r)) = _
   rw [hc.1.1, hc.1.2, if_neg (by decide), if_neg (by decide), h1, List.append_assoc]; rfl
  ·show (if wsC c then _ else if qtC c then _ else _) = true
   rw [hc.1.1, hc.1.2, if_neg (by decide), if_neg (by decide), hc.2]
   exact h2 q
theorem out_quote {d : Nat} {r : List Nat} : ∀ (x tok : List Nat), (d = 39 ∧ x.all (fun c => c != 39) = true ∨ d = 34 ∧ x.all (fun c => c != 34 && c != 92) = true) → out (.q d) tok (x ++ r) = out (.q d) (tok ++ x) r ∧ (okm (.q d) r = true → okm (.q d) (x ++ r) = true)
 | [], tok, _ => ⟨by rw [List.append_nil]; rfl, id⟩
 | c :: x, tok, h => by
  have hcd : c ≠ d ∧ (d == 39 || d == 34 && c != 92) = true ∧ (d = 39 ∧ x.all (fun c => c != 39) = true ∨ d = 34 ∧ x.all (fun c => c != 34 && c != 92) = true) := by
   rcases h with ⟨rfl, h⟩ | ⟨rfl, h⟩
   ·rw [List.all_cons, Bool.and_eq_true] at h
    exact ⟨by simpa using h.1, rfl, .inl ⟨rfl, h.2⟩⟩
   ·rw [List.all_cons, Bool.and_eq_true] at h
    have h1 := h.1
    simp at h1
    exact ⟨h1.1, by simpa using h1.2, .inr ⟨rfl, h.2⟩⟩
  refine el02 (out_quote (r := r) x (tok ++ [c]) hcd.2.2) fun h1 h2 => ?_
  refine ⟨?_, fun q => ?_⟩
  ·show (if c = d then _ else out (.q d) (tok ++ [c]) (x ++ r)) = _
   rw [if_neg hcd.1, h1, List.append_assoc]; rfl
  ·show ((d == 39 || d == 34 && c != 92) && (if c = d then _ else _)) = true
   rw [hcd.2.1, if_neg hcd.1]
   exact h2 q
noncomputable abbrev flat (S : List Sgn) : List Nat := S.flatMap (·.1)
theorem lock {m m2 : Md} {S : List Sgn} (hg : Gds m S m2) : ∀ (tok : List Nat) (h : HrS), LkR h m tok → fin (S.foldl hdStep h) = (out m tok (flat S)).map (fun ws => h.words ++ ws.map some) ∧ okm m (flat S) = true := by
 induction hg with
 | @nil m =>
  intro tok h hr
  induction m with
  | sp => obtain ⟨h1, h2, h3⟩ := hr; refine ⟨?_, rfl⟩; show fin h = _; unfold fin; rw [h1, h2]; simp [out]
  | wd => obtain ⟨h1, h2⟩ := hr; refine ⟨?_, rfl⟩; show fin h = _; unfold fin; rw [h1, h2]; simp [out]
  | q d => obtain ⟨h1, h2⟩ := hr; refine ⟨?_, rfl⟩; show fin h = _; unfold fin; rw [h2]; simp [out]
  | en => exact hr.elim
 | @cons m p m' S m'' hg _ ih =>
  intro tok h hr
  show fin (S.foldl hdStep (hdStep h p)) = (out m tok (p.1 ++ flat S)).map _ ∧ okm m (p.1 ++ flat S) = true
  induction hg with
  | @parts c hw =>
   refine el02 (ih [] (hdStep h ([c], .parts)) ⟨rfl, hr.2, rfl⟩) fun k1 k2 => ?_
   refine ⟨k1.trans ?_, ?_⟩
   ·show _ = Option.map _ (if wsC c then _ else _)
    rw [hw, if_pos rfl, Option.map_map]
    show Option.map (fun ws : List (List Nat) => (h.words ++ [h.begun]) ++ ws.map some) _ = _
    rw [hr.1]
    congr 1
    funext ws; simp
   ·show (if wsC c then _ else _) = true
    rw [hw, if_pos rfl]; exact k2
  | @opens c hq =>
   obtain ⟨k1, k2⟩ := ih [] (hdStep h ([c], .turns)) ⟨by show some (h.begun.getD []) = _; rw [hr.1]; rfl, by show (!h.within) = true; rw [hr.2.1]; rfl⟩
   have hw := (qt_no hq).1
   refine ⟨k1.trans ?_, ?_⟩
   ·show _ = Option.map _ (if wsC c then _ else if qtC c then _ else _)
    rw [hw, hq, if_neg (by decide), if_pos rfl]; rfl
   ·show (if wsC c then _ else if qtC c then _ else _) = true
    rw [hw, hq, if_neg (by decide), if_pos rfl]; exact k2
  | @goes c hq =>
   obtain ⟨k1, k2⟩ := ih tok (hdStep h ([c], .turns)) ⟨by show some (h.begun.getD []) = _; rw [hr.1]; rfl, by show (!h.within) = true; rw [hr.2]; rfl⟩
   have hw := (qt_no hq).1
   refine ⟨k1.trans ?_, ?_⟩
   ·show _ = Option.map _ (if wsC c then _ else if qtC c then _ else _)
    rw [hw, hq, if_neg (by decide), if_pos rfl]; rfl
   ·show (if wsC c then _ else if qtC c then _ else _) = true
    rw [hw, hq, if_neg (by decide), if_pos rfl]; exact k2
  | @shut c hq =>
   obtain ⟨k1, k2⟩ := ih tok (hdStep h ([c], .turns)) ⟨by show some (h.begun.getD []) = _; rw [hr.1]; rfl, by show (!h.within) = false; rw [hr.2]; rfl⟩
   refine ⟨k1.trans ?_, ?_⟩
   ·show _ = Option.map _ (if c = c then _ else _)
    rw [if_pos rfl]; rfl
   ·show ((c == 39 || c == 34 && c != 92) && (if c = c then _ else _)) = true
    rw [if_pos rfl]
    rcases (qt_no hq).2 with rfl | rfl <;> exact k2
  | @first c x hx =>
   rw [List.all_cons, Bool.and_eq_true] at hx
   obtain ⟨k1, k2⟩ := ih (c :: x) (hdStep h (c :: x, .stays)) ⟨by show some (h.begun.getD [] ++ _) = _; rw [hr.1]; rfl, hr.2.1⟩
   have hc := hx.1
   unfold plC at hc
   simp only [Bool.and_eq_true, Bool.not_eq_true'] at hc
   refine el02 (out_plain (r := flat S) x [c] hx.2) fun g1 g2 => ?_
   refine ⟨k1.trans ?_, ?_⟩
   ·show _ = Option.map _ (if wsC c then _ else if qtC c then _ else out .wd [c] (x ++ flat S))
    rw [hc.1.1, hc.1.2, if_neg (by decide), if_neg (by decide), g1]; rfl
   ·show (if wsC c then _ else if qtC c then _ else _) = true
    rw [hc.1.1, hc.1.2, if_neg (by decide), if_neg (by decide), hc.2]
    exact g2 k2
  | @more x hx =>
   obtain ⟨k1, k2⟩ := ih (tok ++ x) (hdStep h (x, .stays)) ⟨by show some (h.begun.getD [] ++ _) = _; rw [hr.1]; rfl, hr.2⟩
   refine el02 (out_plain (r := flat S) x tok hx) fun g1 g2 => ?_
   exact ⟨k1.trans (by rw [g1]; rfl), g2 k2⟩
  | @quoted d x hx =>
   obtain ⟨k1, k2⟩ := ih (tok ++ x) (hdStep h (x, .stays)) ⟨by show some (h.begun.getD [] ++ _) = _; rw [hr.1]; rfl, hr.2⟩
   refine el02 (out_quote (r := flat S) x tok hx) fun g1 g2 => ?_
   exact ⟨k1.trans (by rw [g1]; rfl), g2 k2⟩
theorem Gds.append {m m1 m2 : Md} {A B : List Sgn} (h : Gds m A m1) (h2 : Gds m1 B m2) : Gds m (A ++ B) m2 := by
 induction h with
 | nil => exact h2
 | cons g _ ih => exact .cons g (ih h2)
theorem Gds.take {m m2 : Md} {A : List Sgn} (h : Gds m A m2) : ∀ n, ∃ m1, Gds m (A.take n) m1 := by
 induction h with
 | nil => exact fun n => ⟨_, by rw [List.take_nil]; exact .nil⟩
 | cons g _ ih =>
  intro n
  induction n with
  | zero => exact ⟨_, .nil⟩
  | succ n => obtain ⟨m1, h1⟩ := ih n; exact ⟨m1, .cons g h1⟩
noncomputable def mdOk : Md → Prop
 | .q d => qtC d = true
 | .en => False
 | _ => True
theorem Gds.ok {m m2 : Md} {A : List Sgn} (h : Gds m A m2) (hm : mdOk m) : mdOk m2 := by
 induction h with
 | nil => exact hm
 | cons g _ ih =>
  refine ih ?_
  cases g <;> first | trivial | assumption
theorem told_heard {S : List Sgn} {m : Md} (hg : Gds .sp S m) {y ws : List Nat} (hy : flat S = y ++ ws) (hw : ∀ c ∈ ws, wsC c = true) : Wd false y (out .sp [] y) ∧ okm .sp y = true ∧ toldD (out .sp [] y) = heardD S := by
 refine el02 (lock hg [] ⟨[], none, false⟩ ⟨rfl, rfl, rfl⟩) fun h1 h2 => ?_
 have hws : ∀ ws : List Nat, (∀ c ∈ ws, wsC c = true) → ∀ y, out .sp [] (y ++ ws) = out .sp [] y := fun ws => by
  induction ws with
  | nil => intro _ y; rw [List.append_nil]
  | cons c r ih =>
   intro h y
   have := ih (fun d hd => h d (List.mem_cons_of_mem _ hd)) (y ++ [c])
   rw [List.append_assoc, List.singleton_append] at this
   rw [this, out_ws (h c List.mem_cons_self) _ _ _ (by intro d e; contradiction)]
 rw [hy] at h1 h2
 rw [hws ws hw] at h1
 refine ⟨wd_out _ y (Nat.le_refl _), okm_pre _ _ _ h2, ?_⟩
 have e : heardD S = (match fin (hdAll S) with | none => .none | some l => .list (l.map oD)) := by
  unfold heardD fin
  cases (hdAll S).within <;> rfl
 rw [e]
 change fin (hdAll S) = _ at h1
 rw [h1]
 cases out .sp [] y with
 | none => rfl
 | some l =>
  show Dt.list (l.map fun t => .str (tx t)) = Dt.list (([] ++ l.map some).map oD)
  rw [List.nil_append, List.map_map]; rfl
theorem begun_len : ∀ (S : List Sgn) (h : HrS) (b : List Nat), (S.foldl hdStep h).begun = some b → b.length ≤ (h.begun.getD []).length + (flat S).length
 | [], h, b, e => by change h.begun = _ at e; rw [e]; exact Nat.le_refl _
 | (x, d) :: S, h, b, e => by
  have := begun_len S _ b e
  rw [show flat ((x, d) :: S) = x ++ flat S from rfl, List.length_append]
  cases d <;> simp [hdStep] at this ⊢ <;> (first | exact nl1 [_, _, _, _] vr0 (.add (.add vr1 vr2) vr3) vr0 (.add vr1 (.add vr2 vr3)) rfl this | exact nl1 [_, _, _, _] vr0 vr1 vr0 (.add vr2 (.add vr3 vr1)) rfl this | exact nl1 [_, _, _, _] vr0 (.add vr1 vr2) vr0 (.add vr1 (.add vr3 vr2)) rfl this | lia)
theorem heardOk_of {S : List Sgn} (h1 : S.length ≤ 100000) (h2 : (flat S).length ≤ 100000) : HeardOk S := by
 refine ⟨by rw [sizeLine_eq]; exact nl1 [_] vr0 (.num 100000) (.add vr0 (.num 2)) (.num 16777216) rfl h1, fun i b e => ?_⟩
 have : b.length ≤ 0 + (flat (S.take i)).length := begun_len (S.take i) ⟨[], none, false⟩ b e
 have h3 : (flat (S.take i)).length ≤ (flat S).length := by
  conv => rhs; rw [← List.take_append_drop i S]
  rw [flat, flat, List.flatMap_append, List.length_append]; exact Nat.le_add_right _ _
 rw [sizeLine_eq]; exact nl3 [_, _, _] vr0 (.add (.num 0) vr1) vr1 vr2 vr2 (.num 100000) vr0 (.num 16777216) rfl this h3 h2
end
section
open PySem.Builtin
theorem nat_and (n a b : Nat) : n &&& (2 ^ a * (2 ^ b - 1)) = 2 ^ a * (n / 2 ^ a % 2 ^ b) := by
 apply Nat.eq_of_testBit_eq
 intro i
 simp only [Nat.testBit_and, Nat.testBit_two_pow_mul, Nat.testBit_two_pow_sub_one, Nat.testBit_mod_two_pow, Nat.testBit_div_two_pow]
 by_cases h : a ≤ i
 ·rw [decide_eq_true h, Nat.sub_add_cancel h, Bool.true_and, Bool.true_and, Bool.and_comm]
 ·rw [decide_eq_false h, Bool.false_and, Bool.false_and, Bool.and_false]
theorem ns_div (n : Nat) {c : Nat} (hc : 0 < c) : Int.negSucc n / (c : Int) = Int.negSucc (n / c) := by
 induction c with
 | zero => exact absurd hc (Nat.lt_irrefl _)
 | succ c => rfl
theorem ns_not (n : Nat) : (Builtin.bitNot (Int.negSucc n)).toNat = n := by unfold Builtin.bitNot; lia
theorem bitNeg (n k : Nat) : Builtin.bitAnd (Int.negSucc n) (k : Int) = (k : Int) - ((k &&& n : Nat) : Int) := by
 rw [bitAnd_np (Int.not_le.mpr (Int.negSucc_lt_zero n)) (Int.natCast_nonneg k), Int.toNat_natCast, ns_not]
theorem bitPos (n k : Nat) : Builtin.bitAnd (Int.ofNat n) (k : Int) = ((n &&& k : Nat) : Int) := bitAnd_pp (Int.natCast_nonneg n) (Int.natCast_nonneg k)
theorem int_and (m : Int) (a b : Nat) : Builtin.bitAnd m ((2 ^ a * (2 ^ b - 1) : Nat) : Int) = (2 ^ a : Nat) * (m / (2 ^ a : Nat) % (2 ^ b : Nat)) := by
 have hq : 0 < 2 ^ b := Nat.two_pow_pos b
 induction m with
 | ofNat n => rw [bitPos, nat_and]; exact Int.natCast_mul _ _
 | negSucc n =>
  rw [bitNeg, Nat.and_comm, nat_and, ns_div _ (Nat.two_pow_pos a), Int.negSucc_emod _ (Int.natCast_pos.mpr hq), Int.natCast_mul, Int.natCast_mul, ← Int.mul_sub, Int.natCast_sub hq]
  rfl
noncomputable def tb (m : Int) (i : Nat) : Bool := decide (m / (2 ^ i : Nat) % 2 = 1)
theorem tb_pos (n i : Nat) : tb (.ofNat n) i = n.testBit i := by
 rw [Nat.testBit_eq_decide_div_mod_eq]
 show decide (((n / 2 ^ i % 2 : Nat) : Int) = ((1 : Nat) : Int)) = _
 simp only [Int.ofNat_inj]
theorem tb_neg (n i : Nat) : tb (.negSucc n) i = !n.testBit i := by
 rw [Nat.testBit_eq_decide_div_mod_eq]
 unfold tb
 rw [ns_div _ (Nat.two_pow_pos i), Int.negSucc_emod _ (by decide)]
 rcases Nat.mod_two_eq_zero_or_one (n / 2 ^ i) with e | e
 ·rw [e, show ((n / 2 ^ i : Nat) : Int) % 2 = ((n / 2 ^ i % 2 : Nat) : Int) from rfl, e]; rfl
 ·rw [e, show ((n / 2 ^ i : Nat) : Int) % 2 = ((n / 2 ^ i % 2 : Nat) : Int) from rfl, e]; rfl
theorem and_all {n k : Nat} : n &&& k = k ↔ ∀ i, k.testBit i = true → n.testBit i = true :=
 ⟨fun h i e => by rw [← h, Nat.testBit_and, Bool.and_eq_true] at e; exact e.1, fun h => Nat.eq_of_testBit_eq fun i => by
  rw [Nat.testBit_and]
  cases e : k.testBit i with
  | true => rw [h i e]; rfl
  | false => rw [Bool.and_false]⟩
theorem and_no {n k : Nat} : k &&& n = 0 ↔ ∀ i, k.testBit i = true → n.testBit i = false :=
 ⟨fun h i e => by have := congrArg (·.testBit i) h; simpa [Nat.testBit_and, e] using this, fun h => Nat.eq_of_testBit_eq fun i => by
  rw [Nat.testBit_and, Nat.zero_testBit]
  cases e : k.testBit i with
  | true => rw [h i e]; rfl
  | false => rfl⟩
theorem hit_all (m : Int) (k : Nat) : Builtin.bitAnd m (k : Int) = k ↔ ∀ i, k.testBit i = true → tb m i = true := by
 induction m with
 | ofNat n => rw [bitPos, Int.ofNat_inj, and_all]; simp only [tb_pos]
 | negSucc n =>
  rw [bitNeg, show ((k : Int) - ((k &&& n : Nat) : Int) = k ↔ k &&& n = 0) by lia, and_no]
  simp only [tb_neg, Bool.not_eq_true']
theorem hit_two (m : Int) {i : Nat} (hi : i ≠ 0) {k : Int} (a b : Nat) (hk : k = ((2 ^ a ||| 2 ^ b : Nat) : Int)) : hitB m i k = (tb m a && tb m b) := by
 unfold hitB
 rw [if_neg hi, hk, Bool.eq_iff_iff, beq_iff_eq, hit_all, Bool.and_eq_true]
 simp only [Nat.testBit_or, Nat.testBit_two_pow, Bool.or_eq_true, decide_eq_true_eq]
 exact ⟨fun h => ⟨h a (.inl rfl), h b (.inr rfl)⟩, fun h i e => e.elim (fun e => e ▸ h.1) fun e => e ▸ h.2⟩
theorem hit_bit (m : Int) {i : Nat} (hi : i ≠ 0) {k : Int} (a : Nat) (hk : k = ((2 ^ a : Nat) : Int)) : hitB m i k = tb m a := by
 rw [hit_two m hi a a (by rw [hk, Nat.or_self]), Bool.and_self]
theorem pick_kind (m : Int) : pick m 0 ((tabD[0]?).getD []) = kindC m := by
 have e : ∀ b, hitB m 0 b = (4096 * (m / 4096 % 16) == b) := fun b => by
  unfold hitB
  rw [if_pos rfl, show (61440 : Int) = ((2 ^ 12 * (2 ^ 4 - 1) : Nat) : Int) from rfl, int_and]; rfl
 unfold kindC
 rw [Int.fdiv_eq_ediv_of_nonneg _ (by decide), Int.fmod_eq_emod_of_nonneg _ (by decide)]
 show pick m 0 [(40960, 108), (49152, 115), (32768, 45), (24576, 98), (16384, 100), (8192, 99), (4096, 112)] = _
 simp only [pick_cons, pick_nil, e]
 refine el11 (Int.eq_ofNat_of_zero_le (Int.emod_nonneg (m / 4096) (b := 16) (by decide))) fun v hv => ?_
 have h2 := Int.emod_lt_of_pos (m / 4096) (b := 16) (by decide)
 rw [hv] at h2 ⊢
 have : ∀ v : Nat, v < 16 → (if (4096 * (v : Int) == 40960) = true then 108 else if (4096 * (v : Int) == 49152) = true then 115 else if (4096 * (v : Int) == 32768) = true then 45 else if (4096 * (v : Int) == 24576) = true then 98 else if (4096 * (v : Int) == 16384) = true then 100 else if (4096 * (v : Int) == 8192) = true then 99 else if (4096 * (v : Int) == 4096) = true then 112 else if (0 : Nat) = 0 then 63 else 45) = (kindL[(v : Int).toNat]?).getD 0 := by decide
 exact this v (Int.ofNat_lt.mp h2)
theorem pick1 (m : Int) {j : Nat} (hj : j ≠ 0) (k : Int) (a c : Nat) (hk : k = ((2 ^ a : Nat) : Int)) : pick m j [(k, c)] = if tb m a then c else 45 := by
 rw [pick_cons, pick_nil, hit_bit m hj a hk, if_neg hj]
theorem pick3 (m : Int) {j : Nat} (hj : j ≠ 0) (k k2 k3 : Int) (a b c c2 c3 : Nat) (hk : k = ((2 ^ a ||| 2 ^ b : Nat) : Int)) (hk2 : k2 = ((2 ^ a : Nat) : Int)) (hk3 : k3 = ((2 ^ b : Nat) : Int)) :
  pick m j [(k, c), (k2, c2), (k3, c3)] = if tb m a then (if tb m b then c else c2) else (if tb m b then c3 else 45) := by
 rw [pick_cons, pick_cons, pick_cons, pick_nil, hit_two m hj a b hk, hit_bit m hj a hk2, hit_bit m hj b hk3, if_neg hj]
 cases tb m a <;> cases tb m b <;> rfl
theorem digit (x : Int) {n : Nat} (hn : 0 < n) : ∃ v : Nat, v < n ∧ ∃ q : Int, x = v + n * q := by
 have hp : (0 : Int) < n := Int.natCast_pos.mpr hn
 refine el11 (Int.eq_ofNat_of_zero_le (Int.emod_nonneg x (Int.ne_of_gt hp))) fun v hv => ?_
 refine ⟨v, Int.ofNat_lt.mp (hv ▸ Int.emod_lt_of_pos x hp), x / n, ?_⟩
 rw [← hv]; exact (Int.emod_add_mul_ediv x n).symm
theorem low (v : Nat) (q : Int) {n : Nat} (A B c : Nat) (hA : A ≠ 0) (h : n = A * (B * c)) : ((v : Int) + n * q) / (A : Int) % (B : Int) = ((v / A % B : Nat) : Int) := by
 rw [h, Int.natCast_mul, Int.mul_assoc, Int.add_mul_ediv_left _ _ (by exact Int.natCast_ne_zero.mpr hA), Int.natCast_mul, Int.mul_assoc, Int.add_mul_emod_self_left]
 rfl
theorem tb_low (m : Int) (c a : Nat) (v : Nat) (q : Int) (h : m / (2 ^ c : Nat) = v + (8 : Nat) * q) (d : Nat) (hd : 8 = 2 ^ a * (2 * d)) : tb m (c + a) = decide (v / 2 ^ a % 2 = 1) := by
 unfold tb
 have : m / ((2 ^ (c + a) : Nat) : Int) % 2 = ((v / 2 ^ a % 2 : Nat) : Int) := by
  rw [Nat.pow_add, Int.natCast_mul, ← Int.ediv_ediv_of_nonneg (Int.natCast_nonneg _), h]
  exact low v q (2 ^ a) 2 d (Nat.ne_of_gt (Nat.two_pow_pos a)) hd
 rw [this]
 show decide (((v / 2 ^ a % 2 : Nat) : Int) = ((1 : Nat) : Int)) = _
 simp only [Int.ofNat_inj]
theorem tri_eq (m : Int) (p c d s S : Nat) (h1 : ∀ x : Int, x.fdiv (8 ^ ((2 : Int) - (p : Int)).toNat) = x / (2 ^ c : Nat)) (h2 : ∀ x : Int, x.fdiv (2 ^ ((11 : Int) - (p : Int)).toNat) = x / (2 ^ d : Nat)) (h5 : (if p < 2 then 115 else 116) = s ∧ (if p < 2 then 83 else 84) = S) :
  [if tb m (c + 2) then 114 else 45, if tb m (c + 1) then 119 else 45, if tb m d then (if tb m c then s else S) else (if tb m c then 120 else 45)] = tri m p := by
 obtain ⟨v, hv, q, e⟩ := digit (m / (2 ^ c : Nat)) (n := 8) (by decide)
 obtain ⟨u, hu, q', e'⟩ := digit (m / (2 ^ d : Nat)) (n := 2) (by decide)
 have f : figC m p = v := by
  unfold figC
  rw [h1, Int.fmod_eq_emod_of_nonneg _ (by decide), e]
  exact (Int.add_mul_emod_self_left ..).trans (Int.emod_eq_of_lt (Int.natCast_nonneg v) (Int.ofNat_lt.mpr hv))
 have g : m / (2 ^ d : Nat) % 2 = u := by
  rw [e']
  exact (Int.add_mul_emod_self_left ..).trans (Int.emod_eq_of_lt (Int.natCast_nonneg u) (Int.ofNat_lt.mpr hu))
 have g' : abvC m p = u := by
  unfold abvC
  rw [h2, Int.fmod_eq_emod_of_nonneg _ (by decide), g]
 unfold tri
 rw [f, g', tb_low m c 2 v q e 1 rfl, tb_low m c 1 v q e 2 rfl, show tb m c = decide (v / 2 ^ 0 % 2 = 1) from tb_low m c 0 v q e 4 rfl, show tb m d = decide ((u : Int) = 1) from by unfold tb; rw [g], ← h5.1, ← h5.2]
 by_cases hp : p < 2
 ·simp only [if_pos hp]
  have : ∀ v < 8, ∀ u < 2, [if decide (v / 2 ^ 2 % 2 = 1) = true then 114 else 45, if decide (v / 2 ^ 1 % 2 = 1) = true then 119 else 45, if decide (((u : Nat) : Int) = 1) = true then (if decide (v / 2 ^ 0 % 2 = 1) = true then 115 else 83) else (if decide (v / 2 ^ 0 % 2 = 1) = true then 120 else 45)]
   = [if ((v : Nat) : Int) ≥ 4 then 114 else 45, if ((v : Nat) : Int).fmod 4 ≥ 2 then 119 else 45, if ((u : Nat) : Int) = 0 then (if ((v : Nat) : Int).fmod 2 = 0 then 45 else 120) else (if ((v : Nat) : Int).fmod 2 = 0 then 83 else 115)] := by decide
  exact this v hv u hu
 ·simp only [if_neg hp]
  have : ∀ v < 8, ∀ u < 2, [if decide (v / 2 ^ 2 % 2 = 1) = true then 114 else 45, if decide (v / 2 ^ 1 % 2 = 1) = true then 119 else 45, if decide (((u : Nat) : Int) = 1) = true then (if decide (v / 2 ^ 0 % 2 = 1) = true then 116 else 84) else (if decide (v / 2 ^ 0 % 2 = 1) = true then 120 else 45)]
   = [if ((v : Nat) : Int) ≥ 4 then 114 else 45, if ((v : Nat) : Int).fmod 4 ≥ 2 then 119 else 45, if ((u : Nat) : Int) = 0 then (if ((v : Nat) : Int).fmod 2 = 0 then 45 else 120) else (if ((v : Nat) : Int).fmod 2 = 0 then 84 else 116)] := by decide
  exact this v hv u hu
theorem fmF_rights (m : Int) : fmF m 10 = rightsF m := by
 have fd : ∀ (x : Int) (k : Nat), x.fdiv (k : Int) = x / (k : Int) := fun x k => Int.fdiv_eq_ediv_of_nonneg _ (Int.natCast_nonneg k)
 unfold rightsF
 rw [← tri_eq m 0 6 11 115 83 (fun x => fd x 64) (fun x => fd x 2048) (by decide), ← tri_eq m 1 3 10 115 83 (fun x => fd x 8) (fun x => fd x 1024) (by decide), ← tri_eq m 2 0 9 116 84 (fun x => fd x 1) (fun x => fd x 512) (by decide), ← pick_kind]
 show [pick m 0 _, pick m 1 [(256, 114)], pick m 2 [(128, 119)], pick m 3 [(2112, 115), (2048, 83), (64, 120)], pick m 4 [(32, 114)], pick m 5 [(16, 119)], pick m 6 [(1032, 115), (1024, 83), (8, 120)], pick m 7 [(4, 114)], pick m 8 [(2, 119)], pick m 9 [(513, 116), (512, 84), (1, 120)]] = _
 rw [pick1 m (by decide) 256 8 114 rfl, pick1 m (by decide) 128 7 119 rfl, pick3 m (by decide) 2112 2048 64 11 6 115 83 120 rfl rfl rfl, pick1 m (by decide) 32 5 114 rfl, pick1 m (by decide) 16 4 119 rfl, pick3 m (by decide) 1032 1024 8 10 3 115 83 120 rfl rfl rfl, pick1 m (by decide) 4 2 114 rfl, pick1 m (by decide) 2 1 119 rfl, pick3 m (by decide) 513 512 1 9 0 116 84 120 rfl rfl rfl]
 rfl
end
section
open PySem.Builtin PySem.Builtin.Re
noncomputable def drv : Nat → Sre.M → Option Sre.M
 | 0, _ => none
 | n + 1, m => if (m.runFor reTurnSteps).outcome.isSome then some (m.runFor reTurnSteps) else drv n (m.runFor reTurnSteps)
noncomputable def safeC (c : Nat) : Bool := [61, 95, 97, 46, 45].contains c
noncomputable def srch (t : Array Nat) : Option Bool := match drv 10 (Sre.forSearch reCode t 0 0 t.size false) with
 | some m => (match m.outcome with | some .matched => some true | some .failed => some false | _ => none)
 | none => none
noncomputable def okS (l : List Nat) : Bool := srch l.toArray == some (!(l.all safeC))
noncomputable def sgUns : List Nat := [39, 32, 10, 9, 233, 34, 92, 126, 35, 7]
noncomputable def sgSafe : List Nat := [61, 95, 97, 46, 45]
theorem ok_u1 : ∀ a ∈ sgUns, okS [a] = true := by
 simp only [sgUns, List.forall_mem_cons]
 repeat' apply And.intro
 all_goals first | kernel_rfl | (intro _ h; contradiction)
theorem ok_u2 : ∀ a ∈ sgUns, ∀ b, okS [a, b] = true := by
 simp only [sgUns, List.forall_mem_cons]
 repeat' apply And.intro
 all_goals first | (intro b; kernel_rfl) | (intro _ h; contradiction)
theorem ok_u3 : ∀ a ∈ sgUns, ∀ b c, okS [a, b, c] = true := by
 simp only [sgUns, List.forall_mem_cons]
 repeat' apply And.intro
 all_goals first | (intro b c; kernel_rfl) | (intro _ h; contradiction)
theorem ok_su3 : ∀ a ∈ sgSafe, ∀ b ∈ sgUns, ∀ c, okS [a, b, c] = true := by
 simp only [sgSafe, sgUns, List.forall_mem_cons]
 repeat' apply And.intro
 all_goals first | (intro c; kernel_rfl) | (intro _ h; contradiction)
theorem ok_s1 : (sgSafe.all fun a => okS [a]) = true := by kernel_rfl
theorem ok_s2 : (sgSafe.all fun a => (sgSafe ++ sgUns).all fun b => okS [a, b]) = true := by kernel_rfl
theorem ok_s3 : (sgSafe.all fun a => sgSafe.all fun b => (sgSafe ++ sgUns).all fun c => okS [a, b, c]) = true := by kernel_rfl
theorem okS_all : ∀ (l : List Nat), l.length ≤ 3 → (∀ c ∈ l, c ∈ sgSafe ++ sgUns) → okS l = true
 | [], _, _ => by kernel_rfl
 | [a], _, h => by
  rcases List.mem_append.mp (h a (by simp)) with q | q
  ·exact List.all_eq_true.mp ok_s1 a q
  ·exact ok_u1 a q
 | [a, b], _, h => by
  rcases List.mem_append.mp (h a (by simp)) with q | q
  ·exact List.all_eq_true.mp (List.all_eq_true.mp ok_s2 a q) b (h b (by simp))
  ·exact ok_u2 a q b
 | [a, b, c], _, h => by
  rcases List.mem_append.mp (h a (by simp)) with q | q
  ·rcases List.mem_append.mp (h b (by simp)) with q2 | q2
   ·exact List.all_eq_true.mp (List.all_eq_true.mp (List.all_eq_true.mp ok_s3 a q) b q2) c (h c (by simp))
   ·exact ok_su3 a q b q2 c
  ·exact ok_u3 a q b c
 | _ :: _ :: _ :: _ :: _, h, _ => by simp at h
end
section
set_option tactic.hygienic true
open PySem.Builtin PySem.Builtin.Re
variable {w : World} {T : Addr → Obj → Prop}
theorem reDrive_ok {A : Around} {E : Value → Shared → Prop} {s : Shared} {Q : Sre.M → Shared → Prop} {m' : Sre.M} (h : Q m' s) : ∀ (k N : Nat) (m : Sre.M), k ≤ N → drv k m = some m' → wpAny (model pr w) A (reDrive N m) Q E s
 | 0, _, _, _, e => by contradiction
 | k + 1, 0, _, hk, _ => by exact (Nat.not_succ_le_zero 0 (nl1 [_] (.add vr0 (.num 1)) (.num 0) (.num 1) (.num 0) rfl hk)).elim
 | k + 1, N + 1, m, hk, e => by
  unfold drv at e
  unfold reDrive
  dsimp only
  split at e
  ·rename_i hc; obtain rfl := Option.some.inj e; rw [if_pos hc]; exact wpAny_pure h
  ·rename_i hc; rw [if_neg hc]; exact wpAny_bind (wpAny_rule (reDrive_ok h k N _ (by exact nl1 [_, _] (.add vr0 (.num 1)) (.add vr1 (.num 1)) vr0 vr1 rfl hk) e))
theorem reRun_ok {A : Around} {E : Value → Shared → Prop} {s : Shared} {Q : Option Sre.M → Shared → Prop} {m m' : Sre.M} (e : drv 10 m = some m')
  (h : match m'.outcome with | some .matched => Q (some m') s | some .failed => Q none s | _ => False) : wpAny (model pr w) A (reRunToEnd m) Q E s := by
 unfold reRunToEnd
 refine wpAny_bind (reDrive_ok ?_ 10 (2 ^ 64) m (by decide) e)
 refine wpAny_bind (wpAny_mono (wpAny_forIn_list _ (fun _ _ s' => s' = s) (fun _ s' => s' = s) (fun x rest b s' hs => ?_) (fun _ _ hs => hs) _ _ rfl) (fun _ s' hs => ?_) fun _ _ e => e)
 ·subst hs
  split
  ·exact wpAny_bind (wpAny_rule (wpAny_pure rfl))
  ·exact wpAny_pure rfl
 ·subst hs
  revert h
  cases m'.outcome with
  | none => intro h; exact h.elim
  | some o =>
   induction o with
   | matched => intro h; exact wpAny_pure h
   | failed => intro h; exact wpAny_pure h
   | stuck _ => intro h; exact h.elim
structure PatOk (T : Addr → Obj → Prop) : Prop where
 bm : ∃ pa, T 796 (bmObj "re.Pattern.search" pa) ∧ ∃ fs ca its n t2 t6, T pa { cls := .type "re.Pattern", data := .fields fs } ∧ fs.getD 5 .none = .ref ca ∧ fs.getD 2 .none = .int 0 t2 ∧ fs.getD 6 .none = .int 0 t6 ∧
  (∃ c, T ca { cls := c, data := .seq its n }) ∧ (its.map reRawOf).map (·.toNat) = reCode
theorem run_search {A : Around} {E : Value → Shared → Prop} {s : Shared} {P : Fin → Shared → Prop} {pa ca : Addr} {fs its : Array Value} {n : Nat} {t t2 t6 : Tok} {c : Value} {x : Str} {b : Bool}
  (hp : s.heap.get? pa = some { cls := .type "re.Pattern", data := .fields fs }) (h5 : fs.getD 5 .none = .ref ca) (h2 : fs.getD 2 .none = .int 0 t2) (h6 : fs.getD 6 .none = .int 0 t6) (hc : s.heap.get? ca = some { cls := c, data := .seq its n }) (hi : (its.map reRawOf).map (·.toNat) = reCode)
  (hs : srch x.cps = some b) (hx : (x.length : Int) < 2 ^ 63) (h : ∀ v h', (∀ a o, s.heap.get? a = some o → h'.get? a = some o) → (if b then ∃ a, v = .ref a else v = .none) → P (.done (.ret v)) { s with heap := h' }) :
  wpAny (model pr w) A (Builtin.«re.Pattern.search» ⟨[.ref pa, .str x t], []⟩) P E s := by
 unfold Builtin.«re.Pattern.search» reTarget
 refine wpAny_bind ?_
 refine wpAny_bind (wpAny_of_eq (a := [some (.str x t), none, none]) (by kernel_rfl) ?_)
 dsimp only
 refine wpAny_bind (wpAny_pure (wpAny_bind (wpAny_pure ?_)))
 unfold fieldsOf
 refine wpAny_bind (wpAny_bind (wpAny_load hp (wpAny_pure ?_)))
 refine wpAny_bind (wpAny_of_eq (a := (x.cps, 0)) (by kernel_rfl) ?_)
 dsimp only
 rw [h6, h5, h2]
 rw [if_neg (by simp), if_neg (by simp [reRawNat])]
 refine wpAny_bind (wpAny_of_eq (a := ()) (by rfl) ?_)
 unfold reRawItems seqItems?
 refine wpAny_bind (wpAny_bind (wpAny_bind (wpAny_load hc (wpAny_pure (wpAny_pure (wpAny_pure ?_))))))
 show wpAny _ _ (reAnswer _ (Sre.forSearch ((its.map reRawOf).map (·.toNat)) x.cps _ (min (Int.toNat 0) x.cps.size) (min (2 ^ 63 - 1 : Int).toNat x.cps.size) false)) _ _ _
 rw [hi]
 have e1 : min (Int.toNat 0) x.cps.size = 0 := Nat.zero_min _
 have e2 : min (2 ^ 63 - 1 : Int).toNat x.cps.size = x.cps.size := Nat.min_eq_right (by
  have : x.cps.size = x.length := rfl
  lia)
 rw [e1, e2]
 unfold srch at hs
 unfold reAnswer
 split at hs
 ·rename_i m' hd
  refine wpAny_bind (reRun_ok hd ?_)
  split at hs
  ·rename_i ho; cases hs
   try rw [ho]
   dsimp only
   show wpAny _ _ (reNewMatch (.ref pa) (.str x t) 0 0 x.cps.size m' >>= fun v => ret v) _ _ _
   unfold reNewMatch
   show wpAny _ _ ((newTuple [rawInt m'.start, rawInt m'.handed] >>= fun tp => newFields "re.Match" [.str x t, .ref pa, rawInt 0, rawInt x.cps.size, rawInt m'.lastindex, tp]) >>= fun v => ret v) _ _ _
   refine wpAny_bind (wpAny_bind (wpAny_newTuple ?_ (by show (2 : Nat) ≤ _; rw [sizeLine_eq]; exact nl0 [] (.num 2) (.num 16777216) rfl)))
   unfold newFields
   refine wpAny_newObj_type (wpAny_pure ?_) (by show (6 : Nat) ≤ _; rw [sizeLine_eq]; exact nl0 [] (.num 6) (.add (.num 16777216) (.num 2)) rfl)
   exact h _ _ (fun a o e => Heap.get?_push_of_some _ (Heap.get?_push_of_some _ e)) ⟨_, rfl⟩
  ·rename_i ho; cases hs
   try rw [ho]
   dsimp only
   have := h .none s.heap (fun _ _ e => e) rfl
   exact wpAny_pure this
  ·cases hs
 ·cases hs
theorem sub_pm : isSubtype (.type "re.Pattern") (.type "module") = pure false := by rw [isSubtype_type]; kernel_rfl
theorem entry_ps : entryFor table "re.Pattern.search" = some Builtin.«re.Pattern.search» := entryFor_of_tree (by kernel_rfl)
theorem quiet_ps {as : Args} : (Code.builtin "re.Pattern.search" as).quiet = true := Code.quiet_builtin _ (by decide +kernel)
noncomputable def sigPs : Manifest.Signature := (Manifest.signature? "re.Pattern.search").getD ⟨.hand, "", "", .cls, []⟩
theorem ps1 : Manifest.signature? "re.Pattern.search" = some sigPs := by kernel_rfl
theorem ps2 : builtinKind "re.Pattern.search" = some .method := by kernel_rfl
theorem ps3 : Manifest.varargsMethods.contains "re.Pattern.search" = false := by kernel_rfl
theorem ps4 (a : Addr) (x : Str) (u : Tok) : Bind.checkArgs "re.Pattern.search" { sigPs with full := s!"{Bind.lastOf "re.Pattern"}.{Bind.lastOf "re.Pattern.search"}" } ⟨[.ref a, .str x u], []⟩ = pure () := by kernel_rfl
theorem check_ps {A : Around} {E : Value → Shared → Prop} {s : Shared} {a : Addr} {fs : Array Value} {x : Str} {u : Tok} {Q : Unit → Shared → Prop} (ho : s.heap.get? a = some { cls := .type "re.Pattern", data := .fields fs }) (h : Q () s) : wpAny (model pr w) A (checkBoundCall "re.Pattern.search" ⟨[.ref a, .str x u], []⟩) Q E s := by
 have e4 := ps4 a x u
 have key := @check_bound w A E s a { cls := .type "re.Pattern", data := .fields fs } "re.Pattern" "re.Pattern.search" [.str x u] sigPs Q ps1 ps2 ps3 sub_pm ho rfl rfl
 generalize Bind.checkArgs "re.Pattern.search" { sigPs with full := s!"{Bind.lastOf "re.Pattern"}.{Bind.lastOf "re.Pattern.search"}" } ⟨[.ref a, .str x u], []⟩ = z at key e4
 exact key e4 h
theorem l_search {F : Fx} (hF : F.Ok) (hP : PatOk F.T) {S : Sy} {Q : AV → Sy → Prop} {l : List Nat} {b : Bool} (hs : srch l.toArray = some b) (hl : l.length ≤ 1000) (h : if b then ∀ a, Q (.ref a) S else Q .none S) : Leaf (SmL F (.ref 796) [.str (tx l)] S Q) := by
 refine ⟨?_⟩
 rintro s ρ fv vs I rfl hvs
 cases hvs with | cons hu hn => ?_
 cases hn
 obtain ⟨t, rfl⟩ := hu
 obtain ⟨pa, h1, fs, ca, its, n, t2, t6, h2, h3, h4, h5, ⟨c, h6⟩, h7⟩ := hP.bm
 have g1 := I.up _ _ (hF.top _ _ h1).1
 have g2 := I.up _ _ (hF.top _ _ h2).1
 have g3 := I.up _ _ (hF.top _ _ h6).1
 refine wpAny_call (codeAny_of_tree ?_)
 show wpAny _ F.A.in1 (callAny (.ref 796) ⟨[.str (tx l) t], []⟩) _ _ s
 simp only [callAny]
 refine wpAny_bind (wpAny_load g1 ?_)
 simp only [show (Value.type "builtin_function_or_method" == Value.type "method" || Value.type "builtin_function_or_method" == Value.type "builtin_function_or_method" || Value.type "builtin_function_or_method" == Value.type "method-wrapper") = true by decide, if_true]
 refine KFB.if_so (by decide) ?_
 refine wpAny_bind (check_ps g2 ?_)
 refine wpAny_bind (wpAny_pure ?_)
 refine wpAny_pure ?_
 refine ⟨quiet_ps, codeAny_builtin entry_ps ?_⟩
 refine run_search g2 h3 h4 h5 g3 h7 (x := tx l) hs (by rw [txl]; lia) fun v h' hk hv => ?_
 induction b with
 | true =>
  obtain ⟨a, rfl⟩ := hv
  exact Pg.grown (a := AV.ref a) I hk rfl rfl (h a) rfl
 | false =>
  subst hv
  exact Pg.grown (a := AV.none) I hk rfl rfl h rfl
end
section
variable {w : World} {T : Addr → Obj → Prop}
noncomputable def quoteStr (l : List Nat) : Str :=
 if l = [] then tx [39, 39] else if l.all safeC then tx l else tx [39] ++ Txt.replace (tx l) (tx [39]) (tx [39, 34, 39, 34, 39]) ++ tx [39]
theorem quote_ok (hT : TopOk w T gl) (hP : PatOk T) (hfn : FnIs T 803 (fnAt 46) .none) {l : List Nat} (hl : l.length ≤ 3) (hcs : ∀ c ∈ l, c ∈ sgSafe ++ sgUns) (hz : (Txt.replace (tx l) (tx [39]) (tx [39, 34, 39, 34, 39])).length ≤ 1000) : FnOk w T 1 803 [.str (tx l)] (.str (quoteStr l)) := by
 have hsl : 100000 ≤ sizeLine := by rw [sizeLine_eq]; exact nl0 [] (.num 100000) (.num 16777216) rfl
 have e1 : Str.ofString "'" = tx [39] := by kernel_rfl
 have e2 : Str.ofString "'\"'\"'" = tx [39, 34, 39, 34, 39] := by kernel_rfl
 have e3 : Str.ofString "''" = tx [39, 39] := by kernel_rfl
 refine fnI hT hfn (names := ["s"]) (rest := []) (avs := [.str (tx l)]) (by kernel_rfl) rfl ?_ ?_
 ·exact fun _ _ _ _ _ _ _ _ _ _ _ _ hv => bind1 hv fun _ => by kernel_rfl
 ·intro A C E _ hF _
  refine (run_ok hF 20).xs ?_
  have hokS := okS_all l hl hcs
  have hs : srch l.toArray = some (!(l.all safeC)) := by unfold okS at hokS; exact eq_of_beq hokS
  walk_at "vgo"
  ·rw [txl]; exact nl2 [_, _] vr0 (.num 3) (.num 100000) vr1 vr0 vr1 rfl hl hsl
  ·show some (Dt.str (Str.ofString "''")) = _
   have : l = [] := by simpa [txl] using hc
   rw [e3]; unfold quoteStr; rw [if_pos this]
  ·refine el12 (hP.bm) fun pa h1 _ => ?_
   exact .inr ⟨_, pa, (hF.top _ _ h1).1⟩
  ·have hne : l ≠ [] := by
    intro q; subst q; simp [txl] at hc
   refine l_search hF hP hs (by exact nl1 [_] vr0 (.num 3) vr0 (.num 1000) rfl hl) ?_
   cases hal : l.all safeC with
   | true =>
    rw [if_neg (by decide)]
    walk_at "vgo"
    show some (Dt.str (tx l)) = _
    unfold quoteStr; rw [if_neg hne, if_pos hal]
   | false =>
    rw [if_pos (by decide)]
    intro a
    walk_at "vgo"
    ·show (tx l).length + ((tx l).length + 1) * (Str.ofString "'\"'\"'").length ≤ 16777216
     rw [e2, txl, txl]
     show l.length + (l.length + 1) * 5 ≤ _
     lia
    ·rw [e1, e2, txl]; show 1 + _ ≤ _; exact nl2 [_, _] (.num 100000) vr0 vr1 (.num 1000) (.add (.num 1) vr1) vr0 rfl hsl hz
    ·rw [e1, e2, PySem.Str.length_append, txl]; show 1 + _ + 1 ≤ _; exact nl2 [_, _] (.num 100000) vr0 vr1 (.num 1000) (.add (.add (.num 1) vr1) (.num 1)) vr0 rfl hsl hz
    ·show some (Dt.str (Str.ofString "'" ++ Txt.replace (tx l) (Str.ofString "'") (Str.ofString "'\"'\"'") ++ Str.ofString "'")) = _
     rw [e1, e2]
     unfold quoteStr; rw [if_neg hne, if_neg (by rw [hal]; decide)]
end
section
open PySem.Builtin PySem.Builtin.Str
theorem IsDs.ints {P : Addr → Obj → Prop} : ∀ {ns : List Int} {vs : List Value}, IsDs P vs (ns.map Dt.int) → IntsAre vs ns
 | [], vs, h => by cases h; exact .nil
 | n :: r, vs, h => by
  cases h with | cons x y => ?_
  cases x
  exact .cons _ _ (IsDs.ints y)
section
variable {F : Fx} {S : Sy} {Q : AV → Sy → Prop}
theorem l_sum (hF : F.Ok) {a : AV} {ns : List Int} (ha : toD S.own a = some (.list (ns.map Dt.int))) (h : Q (.int ns.sum) S) : Leaf (SmL F (.blt "sum") [a] S Q) := by
 refine ⟨?_⟩
 rintro s ρ fv vs I rfl hvs
 cases hvs with | cons hv hn => ?_
 cases hn
 obtain ⟨p, us, n, rfl, e1, h1⟩ := list_at I ha hv
 have hi : IntsAre us.toList ns := IsDs.ints h1
 have hl : s.heap.IsList p us := ⟨_, e1, rfl, n, rfl⟩
 obtain ⟨xs, e⟩ := hi.allInts.items
 have e : us = intItems xs := by rw [← e]
 subst e
 refine sum_intListG hF.room.1 hl fun h' tk t' hk => Pg.grown (a := AV.int ns.sum) (b := Value.int (preSum (numAt xs) xs.size) t') I hk rfl rfl h ⟨t', ?_⟩
 rw [preSum_eq, List.take_of_length_le (by simp), ← nums_intItems, hi.numsOf]
theorem l_max (hF : F.Ok) {a : AV} {ns : List Int} (ha : toD S.own a = some (.list (ns.map Dt.int))) (hne : 0 < ns.length) (h : ∀ M, M ∈ ns → (∀ a ∈ ns, a ≤ M) → Q (.int M) S) : Leaf (SmL F (.blt "max") [a] S Q) := by
 refine ⟨?_⟩
 rintro s ρ fv vs I rfl hvs
 cases hvs with | cons hv hn => ?_
 cases hn
 obtain ⟨p, us, n, rfl, e1, h1⟩ := list_at I ha hv
 have hi : IntsAre us.toList ns := IsDs.ints h1
 have hl : s.heap.IsList p us := ⟨_, e1, rfl, n, rfl⟩
 obtain ⟨xs, e⟩ := hi.allInts.items
 have e : us = intItems xs := by rw [← e]
 subst e
 have hns : ns = xs.toList.map (·.1) := by rw [← hi.numsOf, ← nums_intItems]
 have hsz : 0 < xs.size := by
  have h3 := hne; rw [hns, List.length_map, Array.length_toList] at h3; exact h3
 refine max_intList hF.room.1 hl hsz fun v h' tk hv hk => ?_
 obtain ⟨t, rfl⟩ := intItems_at hv
 obtain ⟨h1, h2⟩ := argBest_gt (numAt xs) (xs.size - 1)
 refine Pg.grown (a := AV.int (numAt xs (argBest (fun i j => decide (numAt xs i > numAt xs j)) (xs.size - 1)))) (b := Value.int (numAt xs (argBest (fun i j => decide (numAt xs i > numAt xs j)) (xs.size - 1))) t) I hk rfl rfl (h _ ?_ fun a ha => ?_) ⟨t, rfl⟩
 ·rw [hns, numAt_eq]; exact getD_mem (by rw [List.length_map, Array.length_toList]; exact nl2 [_, _, _] vr0 vr1 (.add vr1 (.num 1)) vr2 (.add vr0 (.num 1)) vr2 rfl h1 (Nat.le_of_eq (Nat.sub_add_cancel (nl1 [_] (.add (.num 0) (.num 1)) vr0 (.num 1) vr0 rfl hsz))))
 ·rw [hns] at ha
  obtain ⟨j, hj, rfl⟩ := mem_getD ha
  rw [List.length_map, Array.length_toList] at hj
  rw [← numAt_eq]; exact h2 j (by exact nl2 [_, _, _] (.add vr0 (.num 1)) vr1 vr1 (.add vr2 (.num 1)) vr0 vr2 rfl hj (Nl.sb _ _))
theorem l_split {x y : Str} (hy : (y.length == 0) = false) (hsz : x.length + 2 ≤ sizeLine) (h : Q (.dat (.list ((Txt.split x y).map Dt.str))) S) : Leaf (SmL F (.blt "str.split") [.str x, .str y] S Q) := by
 refine ⟨?_⟩
 rintro s ρ fv vs I rfl hvs
 cases hvs with | cons hv hn => ?_
 cases hn with | cons hu hn => ?_
 cases hn
 obtain ⟨t, rfl⟩ := hv
 obtain ⟨u, rfl⟩ := hu
 have hn : (partsBetween x (occurrences x y 0 x.length (x.length + 1)) y.length).length ≤ sizeLine := by
  have e1 := StrLaws.occ_length_le x y 0 x.length (x.length + 1)
  rw [length_partsBetween]; exact nl2 [_, _, _] vr0 (.add vr1 (.num 1)) (.add vr1 (.num 2)) vr2 (.add vr0 (.num 1)) vr2 rfl e1 hsz
 cases h1 : (decide (x.length < y.length) || decide (strKind x < strKind y))
 ·cases hf : (occurrences x y 0 x.length (x.length + 1)).isEmpty
  ·refine call_meets PySem.F.slot_str_split (typeIs_str _ _ _) PySem.F.entry_str_split (PySem.F.args_str_split_2 _ _) (meets_str_split_sep x y t u h1 hy hf (by exact nl1 [_, _] (.add vr0 (.num 2)) vr1 vr0 vr1 rfl hsz) hn) ?_
   show wants _ F.E _ { s with toks := _, heap := s.heap.push { cls := .type "list", data := .seq (strsFrom s.toks (partsBetween x (occurrences x y 0 x.length (x.length + 1)) y.length)).toArray } }
   rw [strsFrom_eq]
   exact Pg.newStrs (numbered s.toks _) I ((numbered_texts _ _).trans ((if_neg (ne_true_of_eq_false h1)).trans (if_neg (ne_true_of_eq_false hf))).symm) h
  ·exact call_meets PySem.F.slot_str_split (typeIs_str _ _ _) PySem.F.entry_str_split (PySem.F.args_str_split_2 _ _) (meets_str_split_not_found x y t u h1 hy hf)
    (Pg.newStrs (k := s.toks) [(x, t)] I ((if_neg (ne_true_of_eq_false h1)).trans (if_pos hf)).symm h)
 ·exact call_meets PySem.F.slot_str_split (typeIs_str _ _ _) PySem.F.entry_str_split (PySem.F.args_str_split_2 _ _) (meets_str_split_cannot_occur x y t u h1)
   (Pg.newStrs (k := s.toks) [(x, t)] I (if_pos h1).symm h)
end
end
section
theorem comp_enter {F : Fx} (hF : F.Ok) {elt tg iter : Expr} {ifs : List Expr} {gs : List Comprehension} {scope : Scope} {pos cp : Pos} {S S₀ : Sy} (k : Nat) (items : List AV) (ds : List Dt) (names : List Str) {s : Shared} {ρ : List Addr} {use : Option (Value → Sem Unit)} {QQ : Value → Shared → Prop}
  (hs : ∀ x, foldedSetIterable iter F.C.env x = pure x) (hclos : closureFor scope F.C.env = pure []) (hfree : (scope.names.all fun x => decide (x.2 ≠ .free)) = true) (hcell : (scope.names.all fun x => decide (x.2 ≠ .cell)) = true) (hkind : scope.kind = .function)
  (hnames : (scope.names.all fun x => decide (x.2 = .local → scope.names.lookup x.1 = some .local)) = true) (hnd : decide names.Nodup = true) (I : Rx F.C S.fs S.own ρ s)
  (hit : (run F k).ev iter S fun a S₁ => Leaf (itemsOf a = some items ∧ S₁ = S₀))
  (body : ∀ (C' : Cx) (D Ia : Addr) (h₁ : Heap) (fp wr : List Addr) (P : Nat → Value → Prop) (St : Nat → Heap → Prop) (sc : Shared), (∀ E', (Fx.mk F.w F.A C' E' scope F.gl F.T F.n).Ok) → C'.r0 = [D] → LC ⟨F.w, F.A, C', fun _ _ => False, scope, F.gl, F.T, F.n⟩ items ⟨names.map fun x => (x, none), [.list []]⟩ sc [D] Ia h₁ fp wr P St →
   ∀ (R : Result → Shared → Prop), (∀ (s₄ : Shared) (S' : Sy) (ρ' : List Addr) (xs : List AV), S'.own[0]? = some (.list xs) → toDs xs = some ds → Rx C' S'.fs S'.own ρ' s₄ → R (.ok .next) s₄) →
    codeAny (model pr F.w) F.A (.compLoop (.ListComp elt (⟨tg, iter, ifs, 0⟩ :: gs) scope pos) 0 (.ref Ia) (.ref D) C'.env) R { sc with heap := h₁ })
  (fin : ∀ ρ₁ D C s', CDone F S₀ ds s ρ ρ₁ D C s' → compPost (model pr F.w) F.A F.E use QQ (.ref D) C (.ok .next) s') :
  wpAny (model pr F.w) F.A (comprehension (.ListComp elt (⟨tg, iter, ifs, 0⟩ :: gs) scope pos) scope F.C.env cp (newList []) false (eval iter F.C.env) use) QQ F.E s := by
 refine wpAny_comprehension_free rfl hs hclos hkind (fun x hx => of_decide_eq_true (List.all_eq_true.mp hnames x hx)) ?_
 refine Sm.go ((run_ok hF k).ev hit) I fun a S₁ v s₁ ρ₁ q I₁ hv x₁ => ?_
 obtain ⟨hq, rfl⟩ := q.out
 refine iter_ok hF I₁ hv hq fun o G => ?_
 obtain ⟨fp, wr, P, St, W, hst, hwr, hex, hcl, hfpB, hP⟩ := G
 have hcell' : ∀ y ∈ scope.names, y.2 ≠ .cell := fun y hy => of_decide_eq_true (List.all_eq_true.mp hcell y hy)
 refine wpAny_newObj_type (wpAny_newFunctionEnv hcell' (by intro y hy; simp at hy) (fun h₁ hns₁ hsb₁ => ?_) hkind)
 dsimp only at hns₁ hsb₁ ⊢
 generalize hH2 : (s₁.heap.push o).push { cls := .type "list", dict := none, data := .seq ([] : List Value).toArray } = H2 at hns₁ hsb₁ ⊢
 have hz1 : (s₁.heap.push o).objs.size = s₁.heap.objs.size + 1 := Heap.size_push ..
 have hz2 : H2.objs.size = s₁.heap.objs.size + 2 := by rw [← hH2, Heap.size_push, hz1]
 obtain ⟨D, hDe⟩ : ∃ D, (s₁.heap.push o).objs.size = D := ⟨_, rfl⟩
 obtain ⟨C, hCe⟩ : ∃ C, H2.objs.size = C := ⟨_, rfl⟩
 rw [hDe, hCe]
 rw [hCe] at hns₁ hsb₁
 have hDn : D = s₁.heap.objs.size + 1 := hDe.symm.trans hz1
 have hCn : C = s₁.heap.objs.size + 2 := hCe.symm.trans hz2
 have hDC : D ≠ C := by exact (Nat.ne_of_lt (nl2 [_, _, _] vr0 (.add vr1 (.num 1)) (.add vr1 (.num 2)) vr2 (.add vr0 (.num 1)) vr2 rfl (Nat.le_of_eq hDn) (Nat.le_of_eq (Eq.symm hCn))))
 have old2 : ∀ b ob, (s₁.heap.push o).get? b = some ob → h₁.get? b = some ob := fun b ob e => by
  have hb := Heap.lt_size e
  exact hsb₁.extBut b ob (Nat.ne_of_lt (Nat.lt_of_lt_of_le hb (hDe ▸ (by exact nl2 [_, _, _] vr0 (.add vr1 (.num 1)) (.add vr1 (.num 2)) vr2 vr0 vr2 rfl (Nat.le_of_eq hDn) (Nat.le_of_eq (Eq.symm hCn)) : D ≤ C)))) (Heap.get?_push_of_some _ (hH2 ▸ Heap.get?_push_of_some _ e))
 have old : ∀ b ob, s₁.heap.get? b = some ob → h₁.get? b = some ob := fun b ob e => old2 b ob (Heap.get?_push_of_some _ e)
 have hacc : h₁.get? D = some { cls := .type "list", data := .seq #[] 0 } := by
  refine hsb₁.extBut _ _ hDC (Heap.get?_push_of_some _ ?_)
  rw [← hH2, ← hDe]; exact Heap.get?_push_size _ rfl
 have fresh : ∀ a, s₁.heap.objs.size ≤ a → s₁.heap.get? a = none := fun a ha => by
  cases e : s₁.heap.get? a with
  | none => rfl
  | some o' => exact absurd (Heap.lt_size e) (Nat.not_lt.mpr ha)
 have hD := fresh D (by exact nl1 [_, _] (.add vr0 (.num 1)) vr1 vr0 vr1 rfl (Nat.le_of_eq (Eq.symm hDn)))
 have hC := fresh C (by exact nl1 [_, _] (.add vr0 (.num 2)) vr1 vr0 vr1 rfl (Nat.le_of_eq (Eq.symm hCn)))
 have hfl : ∀ b ∈ fp, b < (s₁.heap.push o).objs.size := fun b hb => by obtain ⟨ob, e⟩ := (hfpB b hb).1; exact Heap.lt_size e
 have hDf : D ∉ fp := fun q => Nat.lt_irrefl _ (hDe ▸ hfl D q)
 have hCf : C ∉ fp := fun q => Nat.lt_irrefl _ (Nat.lt_of_lt_of_le (hfl C q) (hDe ▸ (by exact nl2 [_, _, _] vr0 (.add vr1 (.num 1)) (.add vr1 (.num 2)) vr2 vr0 vr2 rfl (Nat.le_of_eq hDn) (Nat.le_of_eq (Eq.symm hCn)) : D ≤ C)))
 have nfr : ∀ {b ob}, s₁.heap.get? b = some ob → b ∉ wr := fun {b ob} e hb => by rw [hwr b hb] at e; contradiction
 have frbd : ∀ b, frA F.A b → F.C.bd b := fun b hb => (hF.frA hb).elim .inl fun ⟨o, h⟩ => .inr (I₁.frn b o h).2.1
 have bdx : ∀ b, F.C.bd b → ∃ o, s₁.heap.get? b = some o := fun b hb => hb.elim (fun q => by obtain ⟨m, hm, _⟩ := I₁.ns; rw [q]; exact Heap.Ns.some hm) (I₁.old b)
 have frx : ∀ b, frA F.A b → ∃ o, s₁.heap.get? b = some o ∧ ∀ vs, o.data ≠ .fields vs := fun b hb => by
  obtain ⟨l, h1, h2⟩ := hF.stk I₁ (B := fun _ => True) (fun _ _ => trivial)
  obtain ⟨l', e, q1, q2, q3⟩ := hb
  rw [h1] at q1; obtain rfl := Option.some.inj q1
  obtain ⟨_, L, o, e1, e2, e3, _⟩ := h2 e q2
  rw [e1] at q3; obtain rfl := Option.some.inj q3
  exact ⟨o, e2, e3⟩
 have hst₁ : St 0 h₁ := W.frame _ _ _ hst fun b _ ob e => old2 b ob e
 have nD : ¬ F.C.bd D := fun q => by obtain ⟨o, e⟩ := bdx D q; rw [hD] at e; contradiction
 have nC : ¬ F.C.bd C := fun q => by obtain ⟨o, e⟩ := bdx C q; rw [hC] at e; contradiction
 have nDρ : D ∉ ρ₁ := fun q => by obtain ⟨ob, e⟩ := I₁.has q; rw [hD] at e; contradiction
 have nCρ : C ∉ ρ₁ := fun q => by obtain ⟨ob, e⟩ := I₁.has q; rw [hC] at e; contradiction
 have hDw : D ∉ wr := fun q => hDf (W.sub D q)
 have hCw : C ∉ wr := fun q => hCf (W.sub C q)
 let Cc : Cx := ⟨compEnvC scope [] C F.C.env, fun a => F.C.bd a ∨ a ∈ ρ₁, fun b o => s₁.heap.get? b = some o ∧ ¬ frA F.A b, fun b o => s₁.heap.get? b = some o ∧ frA F.A b, F.C.t0, F.C.g, F.C.o, [D]⟩
 have hid : ∀ {b ob}, s₁.heap.get? b = some ob → (hideAll h₁ wr).get? b = some ob := fun {b ob} e => hideAll_get wr (old b ob e) (nfr e)
 have hFi : ∀ E', (Fx.mk F.w F.A Cc E' scope F.gl F.T F.n).Ok := fun E' => by
  refine ⟨?_, hF.pos, relabel_id hfree, hkind, hF.room, fun a o h => ?_, hF.lim, fun x v s env g1 g2 h1 h2 => hF.gl x v s env g1 g2 (fun b o hb => ?_) h2, hF.cls⟩
  ·obtain ⟨l, h1, h3⟩ := hF.frm
   refine ⟨l, h1, fun e he => ?_⟩
   obtain ⟨g1, L, e1, _⟩ := h3 e he
   have hfa : frA F.A L := ⟨l, e, h1, he, e1⟩
   obtain ⟨o, e2, e3⟩ := frx L hfa
   exact ⟨g1, L, e1, .inr ⟨_, ⟨e2, hfa⟩, e3⟩⟩
  ·obtain ⟨t1, t2⟩ := hF.top a o h
   have nb : ¬ F.C.bd a := fun q => q.elim (fun q => I₁.new o (q ▸ t1)) t2
   exact ⟨⟨I₁.up a o t1, fun q => nb (frbd a q)⟩, fun q => q.elim nb fun q => (I₁.fresh a q).2.1 o t1⟩
  ·exact h1 b o ⟨I₁.up b o hb, fun q => (hF.frA q).elim (fun q => I₁.new o (q ▸ hb)) fun ⟨o', q⟩ => (I₁.frn b o' q).2.2 o hb⟩
 have Ic : Rx Cc (names.map fun x => (x, none)) [.list []] [D] { s₁ with heap := hideAll h₁ wr, toks := s₁.toks + ([] : List (Str × Value)).length } := by
  refine ⟨⟨_, Heap.Ns.at' hns₁ fun o e => hideAll_get wr e hCw, fun p hp v e => ?_⟩, ?_, fun b o e => hid e.1, fun o e => ?_, rfl, fun i ao e => ?_, fun a ha => ?_, (by simp), fun a h => ?_, I₁.gens, I₁.os, fun b o h => ⟨o.slots, hid h.1⟩, fun b o h => ⟨fun q => ?_, .inl (frbd b h.2), fun o' q => q.2 h.2⟩, I₁.tk, ⟨[], rfl⟩⟩
  ·obtain ⟨x, _, rfl⟩ := List.mem_map.mp hp; contradiction
  ·rw [List.map_map, show ((fun x : Str × Option AV => x.1) ∘ fun x : Str => (x, (none : Option AV))) = id from rfl, List.map_id]; exact of_decide_eq_true hnd
  ·have e := e.1; change s₁.heap.get? C = some o at e; rw [hC] at e; contradiction
  ·induction i with
   | zero => obtain rfl := Option.some.inj e; exact ⟨D, _, rfl, hideAll_get wr hacc hDw, #[], 0, rfl, .nil⟩
   | succ i => contradiction
  ·obtain rfl : a = D := by simpa using ha
   exact ⟨hDC, ⟨fun o e => (by have e := e.1; rw [hD] at e; contradiction), fun q => q.elim nD nDρ⟩⟩
  ·rcases h with h | h
   ·obtain ⟨o, e⟩ := bdx a h; exact ⟨o, hid e⟩
   ·obtain ⟨o, e⟩ := I₁.has h; exact ⟨o, hid e⟩
  ·exact nC ((show b = C from q) ▸ frbd b h.2)
 have hL : LC ⟨F.w, F.A, Cc, fun _ _ => False, scope, F.gl, F.T, F.n⟩ items ⟨names.map fun x => (x, none), [.list []]⟩ { s₁ with heap := hideAll h₁ wr, toks := s₁.toks + ([] : List (Str × Value)).length } [D] s₁.heap.objs.size h₁ fp wr P St := by
  refine ⟨Ic, fun b o e => of_hideAll wr e, W, hst₁, fun b hb => hideAll_none wr hb, hex, hcl, fun b hb => ⟨(hfpB b hb).1.imp fun ob e => old2 b ob e, fun q => ?_, fun q => ?_⟩, fun i v hi hp => ?_⟩
  ·rcases q with q | q | q
   ·exact hCf ((show b = C from q) ▸ hb)
   ·exact (hfpB b hb).2.1 q
   ·exact (hfpB b hb).2.2 q
  ·obtain rfl : b = D := by simpa using q
   exact hDf hb
  ·obtain ⟨av, hav, hIs⟩ := hP i v hi hp
   refine ⟨av, hav, ?_⟩
   have fz : ∀ a o, Frz s₁.heap F.C.bd ρ₁ a o → Frz (hideAll h₁ wr) Cc.bd [D] a o := fun a o y => by
    refine ⟨hid y.1, ?_, fun q => ?_⟩
    ·rintro (q | q | q)
     ·have e := y.1; rw [show a = C from q, hC] at e; contradiction
     ·exact y.2.1 q
     ·exact y.2.2 q
    ·obtain rfl : a = D := by simpa using q
     have e := y.1; rw [hD] at e; contradiction
   induction av with
   | own j => exact absurd (List.mem_of_getElem? hav) (itemsOf_noOwn hq j)
   | dat d => exact IsD.mono fz hIs
   | _ => exact hIs
 have loop : codeAny (model pr F.w) F.A (.compLoop (.ListComp elt (⟨tg, iter, ifs, 0⟩ :: gs) scope pos) 0 (.ref s₁.heap.objs.size) (.ref D) (compEnvC scope [] C F.C.env)) (compPost (model pr F.w) F.A F.E use QQ (.ref D) C) { s₁ with heap := h₁, toks := s₁.toks + ([] : List (Str × Value)).length } := by
  refine body Cc D _ h₁ fp wr P St _ hFi rfl hL _ fun s₄ S' ρ' xs hx hds I' => ?_
  obtain ⟨D', oD, g1, g2, vs, n, rfl, hal⟩ := I'.mine 0 _ hx
  obtain ⟨tl, hρ'⟩ := I'.pr
  have hDD : D' = D := by rw [hρ'] at g1; injection g1 with g1; exact g1.symm
  subst hDD
  have hdd := toDs_ok hal hds
  refine fin ρ₁ D' C _ ⟨?_, ?_, ?_, ?_, fun q => nC (.inl q), nCρ, fun ob q => ?_, fun q => nC (.inr q), fun a ob y => ?_⟩
  ·exact I₁.moved (L := frA F.A) (fun a h => hF.frA h) (fun b ob h e => I'.up b ob ⟨e, h⟩) (fun b ob h e => I'.frs b ob ⟨e, h⟩) (I'.gens.trans I₁.gens.symm) (I'.os.trans I₁.os.symm) I'.tk
  ·exact x₁.trans (Ext.keeps fun b ob hb _ e => I'.up b ob ⟨e, fun q => hb (frbd b q)⟩)
  ·refine .list ⟨⟨g2, nD, nDρ⟩, hDC⟩ (hdd.mono fun a ob y => ⟨⟨y.1, fun q => y.2.1 (.inr (.inl q)), fun q => y.2.1 (.inr (.inr q))⟩, fun q => y.2.1 (.inl q)⟩)
  ·refine NsR.el (I'.ns) fun m hm _ => ?_
   exact ⟨m, hm⟩
  ·have e := I₁.up C ob q; rw [hC] at e; contradiction
  ·intro q
   have e := (x₁.2 a ob y).1
   rw [q, hC] at e; contradiction
 exact codeAny_compStart_list loop (W.self 0 _ _ _ hst₁ loop)
end
section
section
variable {elt tg iter tg0 iter0 : Expr} {scope : Scope} {pos : Pos} {it acc : Value} {env : Env}
theorem compTurn_in : compTurn (.ListComp elt [⟨tg0, iter0, [], 0⟩, ⟨tg, iter, [], 0⟩] scope pos) 1 it acc env = (standAt iter.pos >>= fun _ => pyNext it >>= fun r => match r with
   | none => pure (.done .next)
   | some v => letOwnedTupleGo tg it v >>= fun _ => assign tg env v >>= fun _ =>
    (eval elt env >>= fun x => call (.builtin "list.append") [acc, x] >>= fun _ => pure ()) >>= fun _ =>
     again (.compLoop (.ListComp elt [⟨tg0, iter0, [], 0⟩, ⟨tg, iter, [], 0⟩] scope pos) 1 it acc env)) := by rfl
theorem compTurn_out : compTurn (.ListComp elt [⟨tg0, iter0, [], 0⟩, ⟨tg, iter, [], 0⟩] scope pos) 0 it acc env = (standAt iter0.pos >>= fun _ => pyNext it >>= fun r => match r with
   | none => pure (.done .next)
   | some v => letOwnedTupleGo tg0 it v >>= fun _ => assign tg0 env v >>= fun _ =>
    eval iter env >>= fun x => standAt iter.pos >>= fun _ => foldedSetIterable iter env x >>= fun x => holding [x] (pyIter x) >>= fun i => runOwn (.compStart (.ListComp elt [⟨tg0, iter0, [], 0⟩, ⟨tg, iter, [], 0⟩] scope pos) 1 i acc env) env >>= fun _ =>
     again (.compLoop (.ListComp elt [⟨tg0, iter0, [], 0⟩, ⟨tg, iter, [], 0⟩] scope pos) 0 it acc env)) := by rfl
theorem compStart_in {w : World} {A : Around} {R : Result → Shared → Prop} {s : Shared} (h0 : codeAny (model pr w) A (.compLoop (.ListComp elt [⟨tg0, iter0, [], 0⟩, ⟨tg, iter, [], 0⟩] scope pos) 1 it acc env) R s)
  (h : wpAny (model pr w) A (pyIter it) (fun it' s' => codeAny (model pr w) A (.compLoop (.ListComp elt [⟨tg0, iter0, [], 0⟩, ⟨tg, iter, [], 0⟩] scope pos) 1 it' acc env) R s') (fun _ _ => False) s) :
  codeAny (model pr w) A (.compStart (.ListComp elt [⟨tg0, iter0, [], 0⟩, ⟨tg, iter, [], 0⟩] scope pos) 1 it acc env) R s := by
 refine codeAny_of_tree ?_
 show wpAny _ _ ((compStart (.ListComp elt [⟨tg0, iter0, [], 0⟩, ⟨tg, iter, [], 0⟩] scope pos) 1 it acc env).onRaise (fun x => do noteFrame x env; standAt theWindowsPlace)) _ _ s
 refine wpAny_onRaise (wpAny_mono (E := fun _ _ => False) (Q := fun fin s' => match fin with | .done f => R (.ok f) s' | .again c' => c'.quiet = true ∧ codeAny (model pr w) A c' R s') ?_ (fun _ _ q => q) fun _ _ q => q.elim)
 unfold compStart
 show wpAny _ _ (ask >>= _) _ _ s
 refine wpAny_bind (wpAny_askSetting (wpAny_ite ?_))
 split
 ·first
   | exact wpAny_bind (wpAny_pure (wpAny_pure (And.intro rfl h0)))
   | exact wpAny_pure (And.intro rfl h0)
 ·first
   | exact wpAny_bind (wpAny_rule (wpAny_bind (wpAny_standAt (wpAny_bind (wpAny_mono h (fun it' s' h' => wpAny_pure (And.intro rfl h')) fun _ _ e => e)))))
   | exact wpAny_bind (wpAny_pure (wpAny_bind (wpAny_rule (wpAny_bind (wpAny_standAt (wpAny_bind (wpAny_mono h (fun it' s' h' => wpAny_pure (And.intro rfl h')) fun _ _ e => e)))))))
end
end
section
noncomputable def AppQ (J : Sy → Prop) (v : AV) (S : Sy) : Prop := ∃ xs, S.own[0]? = some (.list xs) ∧ xs.length ≤ 1000000 ∧ J ⟨S.fs, S.own.set 0 (.list (xs ++ [v]))⟩
theorem app0 {w : World} {A : Around} {C : Cx} {S : Sy} {s : Shared} {ρ : List Addr} {v : AV} {x : Value} {D : Addr} {J : Sy → Prop} (I : Rx C S.fs S.own ρ s) (hr : C.r0 = [D]) (hv : Is s.heap C.bd ρ v x) (h : AppQ J v S) {Q : Value → Shared → Prop} {E : Value → Shared → Prop}
  (k : ∀ (S' : Sy) (s' : Shared), J S' → Rx C S'.fs S'.own ρ s' → Ext C.bd s.heap ρ s'.heap ρ → Q .none s') : wpAny (model pr w) A (call (.builtin "list.append") [.ref D, x]) Q E s := by
 refine el13 (h) fun xs hx hz hj => ?_
 obtain ⟨D', oD, g1, g2, vs, n, rfl, hal⟩ := I.mine 0 _ hx
 refine el11 (I.pr) fun tl hρ => ?_
 have hDD : D' = D := by rw [hρ, hr] at g1; injection g1 with g1; exact g1.symm
 subst hDD
 have hkl : 0 < S.own.length := (List.getElem?_eq_some_iff.mp hx).1
 have hmem : D' ∈ ρ := List.mem_of_getElem? g1
 have hsz : vs.size ≤ sizeLine := by have := hal.length; simp at this; rw [sizeLine_eq]; exact nl2 [_, _] vr0 vr1 vr1 (.num 1000000) vr0 (.num 16777216) rfl (Nat.le_of_eq (Eq.symm this)) hz
 refine wpAny_call_entry slot_list_append (⟨_, g2, rfl⟩ : s.TypeIs (.ref D') "list") entry_list_append ?_ (args_list_append _ _)
 show wpAny _ _ (updateSeq D' (·.push x) >>= fun _ => ret .none) _ _ s
 have hs : Heap.SameBut D' s.heap (s.heap.update D' (Obj.mapSeq (·.push x))) := Heap.SameBut.update ..
 have kp : ∀ c ob, ¬ C.bd c → c ∉ ρ → s.heap.get? c = some ob → (s.heap.update D' (Obj.mapSeq (·.push x))).get? c = some ob := fun c ob _ hc e => (hs.2 c fun q => hc (q ▸ hmem)).trans e
 refine wpAny_bind (wpAny_updateSeq g2 rfl (wpAny_pure ⟨.none, rfl, k _ _ hj ?_ (Ext.keeps kp)⟩))
 refine I.update (ao := .list (xs ++ [v])) (f := Obj.mapSeq (·.push x)) (o' := { cls := .type "list", data := .seq (vs.push x) (n + 1) }) hkl g1 g2 (by rw [Obj.mapSeq_push_plain]) rfl ⟨_, _, rfl, ?_⟩ s.toks I.tk
 rw [Array.toList_push]
 exact (hal.mono fun _ _ y => y.keeps kp).append (.cons (hv.keeps kp) .nil)
section
variable {G : Fx} {elt tg iter tg0 iter0 : Expr} {scope : Scope} {pos : Pos} {items : List AV} {S₁ : Sy} {s₁ : Shared} {ρ₁ : List Addr} {Ia D : Addr} {h₁ : Heap} {fp wr : List Addr} {P : Nat → Value → Prop} {St : Nat → Heap → Prop} {R : Result → Shared → Prop}
theorem comp_in (hG : ∀ E', (G.at' G.C E').Ok) (k : Nat) (L : LC G items S₁ s₁ ρ₁ Ia h₁ fp wr P St) (hr : G.C.r0 = [D]) (J : Nat → Sy → Prop) (h0 : J 0 S₁)
  (turn : ∀ C' E' i a S, (G.at' C' E').Ok → items[i]? = some a → J i S → stT (G.at' C' E') tg a S fun S₂ => (run (G.at' C' E') k).ev elt S₂ fun v S₃ => Leaf (AppQ (J (i + 1)) v S₃))
  (fin : ∀ (s₄ : Shared) (S' : Sy) (ρ' : List Addr), J items.length S' → Rx G.C S'.fs S'.own ρ' s₄ → Ext G.C.bd s₁.heap ρ₁ s₄.heap ρ' → R (.ok .next) s₄) :
  codeAny (model pr G.w) G.A (.compLoop (.ListComp elt [⟨tg0, iter0, [], 0⟩, ⟨tg, iter, [], 0⟩] scope pos) 1 (.ref Ia) (.ref D) G.C.env) R { s₁ with heap := h₁ } := by
 refine codeAny_loop rfl (fun n s' => ∃ i S' ρ', n = items.length + 1 - i ∧ i ≤ items.length ∧ LInv G J h₁ ρ₁ fp wr St i s' S' ρ') ?_ (items.length + 1) ⟨0, S₁, ρ₁, rfl, Nat.zero_le _, loop_start L h0⟩
 rintro n s' ⟨i, S', ρ', rfl, hi, V⟩
 show wpAny _ G.A ((compTurn (.ListComp elt [⟨tg0, iter0, [], 0⟩, ⟨tg, iter, [], 0⟩] scope pos) 1 (.ref Ia) (.ref D) G.C.env).onRaise (fun x => do noteFrame x G.C.env; theTreesLotGoes x)) _ _ s'
 refine wpAny_noted ?_
 rw [compTurn_in]
 refine wpAny_bind (wpAny_standAt (wpAny_bind ?_))
 by_cases hlt : i < items.length
 ·refine loop_turn (F := G) (hG G.E) L V hlt fun h' tk v av hav hF' I₄ hIs hcl back => ?_
  refine el23 (hcl) fun oI nI g1 g2 g3 => ?_
  refine wpAny_bind (letGo_ok g1 g2 g3 (wpAny_bind ?_))
  refine stT_ok (hF' _) (turn _ _ i av S' (hF' _) hav V.j) I₄ hIs fun S₂ s₃ q₃ I₅ x₅ => ?_
  refine wpAny_bind (wpAny_bind (Sm.go ((run_ok (hF' _) k).ev q₃) I₅ fun u S₃ x s₄ ρ₄ q₄ I₆ hx x₆ => wpAny_bind (app0 I₆ hr hx q₄.out fun S₅ s₅ hj I₇ x₇ => wpAny_pure (wpAny_pure ⟨rfl, ?_⟩))))
  exact ⟨items.length + 1 - (i + 1), by exact nl2 [_, _, _, _] (.add vr0 (.add vr1 (.num 1))) (.add vr2 (.num 1)) (.add vr2 (.num 1)) (.add vr3 vr1) (.add vr0 (.num 1)) vr3 rfl (Nat.le_of_eq (Nat.sub_add_cancel (nl1 [_, _] vr0 vr1 (.add vr0 (.num 1)) (.add vr1 (.num 1)) rfl hi))) (Nl.sb _ _), i + 1, S₅, ρ₄, rfl, hlt, back S₅ ρ₄ s₅ hj I₇ ((x₅.trans x₆).trans x₇)⟩
 ·have hie : i = items.length := by exact (Nat.le_antisymm hi (Nat.le_of_not_lt hlt))
  subst hie
  exact loop_done L V fun s₄ I₄ x₄ => wpAny_pure (fin s₄ S' ρ' V.j I₄ x₄)
noncomputable def InQ (G : Fx) (k : Nat) (tg elt : Expr) (nx : Sy → Prop) (a : AV) (S : Sy) : Prop :=
 ∃ (its : List AV) (J : Nat → Sy → Prop), itemsOf a = some its ∧ J 0 S ∧ (∀ S', J its.length S' → nx S') ∧
  ∀ C' E' j b S', (G.at' C' E').Ok → its[j]? = some b → J j S' → stT (G.at' C' E') tg b S' fun S₂ => (run (G.at' C' E') k).ev elt S₂ fun v S₃ => Leaf (AppQ (J (j + 1)) v S₃)
theorem comp_out (hG : ∀ E', (G.at' G.C E').Ok) (k : Nat) (L : LC G items S₁ s₁ ρ₁ Ia h₁ fp wr P St) (hr : G.C.r0 = [D]) (hs : ∀ x, foldedSetIterable iter G.C.env x = pure x) (J : Nat → Sy → Prop) (h0 : J 0 S₁)
  (turn : ∀ C' E' i a S, (G.at' C' E').Ok → items[i]? = some a → J i S → stT (G.at' C' E') tg0 a S fun S₂ => (run (G.at' C' E') k).ev iter S₂ fun b S₃ => Leaf (InQ G k tg elt (J (i + 1)) b S₃))
  (fin : ∀ (s₄ : Shared) (S' : Sy) (ρ' : List Addr), J items.length S' → Rx G.C S'.fs S'.own ρ' s₄ → Ext G.C.bd s₁.heap ρ₁ s₄.heap ρ' → R (.ok .next) s₄) :
  codeAny (model pr G.w) G.A (.compLoop (.ListComp elt [⟨tg0, iter0, [], 0⟩, ⟨tg, iter, [], 0⟩] scope pos) 0 (.ref Ia) (.ref D) G.C.env) R { s₁ with heap := h₁ } := by
 refine codeAny_loop rfl (fun n s' => ∃ i S' ρ', n = items.length + 1 - i ∧ i ≤ items.length ∧ LInv G J h₁ ρ₁ fp wr St i s' S' ρ') ?_ (items.length + 1) ⟨0, S₁, ρ₁, rfl, Nat.zero_le _, loop_start L h0⟩
 rintro n s' ⟨i, S', ρ', rfl, hi, V⟩
 show wpAny _ G.A ((compTurn (.ListComp elt [⟨tg0, iter0, [], 0⟩, ⟨tg, iter, [], 0⟩] scope pos) 0 (.ref Ia) (.ref D) G.C.env).onRaise (fun x => do noteFrame x G.C.env; theTreesLotGoes x)) _ _ s'
 refine wpAny_noted ?_
 rw [compTurn_out]
 refine wpAny_bind (wpAny_standAt (wpAny_bind ?_))
 by_cases hlt : i < items.length
 ·refine loop_turn (F := G) (hG G.E) L V hlt fun h' tk v av hav hF' I₄ hIs hcl back => ?_
  refine el23 (hcl) fun oI nI g1 g2 g3 => ?_
  refine wpAny_bind (letGo_ok g1 g2 g3 (wpAny_bind ?_))
  refine stT_ok (hF' _) (turn _ _ i av S' (hF' _) hav V.j) I₄ hIs fun S₂ s₃ q₃ I₅ x₅ => ?_
  refine wpAny_bind (Sm.go ((run_ok (hF' _) k).ev q₃) I₅ fun u S₃ x s₄ ρ₄ q₄ I₆ hx x₆ => ?_)
  refine el24 (q₄.out) fun its J' hi' hj0 hjn turn' => ?_
  refine wpAny_bind (wpAny_standAt (wpAny_bind (wpAny_of_eq (hs x) (wpAny_bind (wpAny_holding (iter_ok (hF' G.E) I₆ hx hi' fun o Gs => ?_))))))
  refine el41 (Gs.lc (F := G.at' (cxI G.C fp wr h') G.E) I₆) fun fp' wr' P' St' L' => ?_
  refine wpAny_bind (wpAny_runOwn ?_)
  have loop : ∀ {R' : Result → Shared → Prop}, (∀ (s₅ : Shared) (S₅ : Sy) (ρ₅ : List Addr), J' its.length S₅ → Rx (cxI G.C fp wr h') S₅.fs S₅.own ρ₅ s₅ → Ext (cxI G.C fp wr h').bd s₄.heap ρ₄ s₅.heap ρ₅ → R' (.ok .next) s₅) →
    codeAny (model pr G.w) G.A (.compLoop (.ListComp elt [⟨tg0, iter0, [], 0⟩, ⟨tg, iter, [], 0⟩] scope pos) 1 (.ref s₄.heap.objs.size) (.ref D) G.C.env) R' { s₄ with heap := s₄.heap.push o } := fun {R'} hf =>
   comp_in (G := G.at' (cxI G.C fp wr h') G.E) hF' k L' hr J' hj0 turn' hf
  have key : ∀ {R' : Result → Shared → Prop}, (∀ (s₅ : Shared) (S₅ : Sy) (ρ₅ : List Addr), J' its.length S₅ → Rx (cxI G.C fp wr h') S₅.fs S₅.own ρ₅ s₅ → Ext (cxI G.C fp wr h').bd s₄.heap ρ₄ s₅.heap ρ₅ → R' (.ok .next) s₅) →
    codeAny (model pr G.w) G.A (.compStart (.ListComp elt [⟨tg0, iter0, [], 0⟩, ⟨tg, iter, [], 0⟩] scope pos) 1 (.ref s₄.heap.objs.size) (.ref D) G.C.env) R' { s₄ with heap := s₄.heap.push o } := fun {R'} hf => compStart_in (loop hf) (L'.W.self 0 _ _ _ L'.hst (loop hf))
  refine key fun s₅ S₅ ρ₅ hj I₇ x₇ => ?_
  exact wpAny_pure ⟨rfl, items.length + 1 - (i + 1), by exact nl2 [_, _, _, _] (.add vr0 (.add vr1 (.num 1))) (.add vr2 (.num 1)) (.add vr2 (.num 1)) (.add vr3 vr1) (.add vr0 (.num 1)) vr3 rfl (Nat.le_of_eq (Nat.sub_add_cancel (nl1 [_, _] vr0 vr1 (.add vr0 (.num 1)) (.add vr1 (.num 1)) rfl hi))) (Nl.sb _ _), i + 1, S₅, ρ₅, rfl, hlt, back S₅ ρ₅ s₅ (hjn _ hj) I₇ ((x₅.trans x₆).trans x₇)⟩
 ·have hie : i = items.length := by exact (Nat.le_antisymm hi (Nat.le_of_not_lt hlt))
  subst hie
  exact loop_done L V fun s₄ I₄ x₄ => wpAny_pure (fin s₄ S' ρ' V.j I₄ x₄)
end
end
section
theorem comp2_assign {F : Fx} (hF : F.Ok) {elt tg0 iter0 tg iter : Expr} {scope : Scope} {pos : Pos} {S S₀ : Sy} {Q : Fl → Sy → Prop} {x : Str} {px sp : Pos} (k : Nat) (items : List AV) (ds : List Dt) (names : List Str) (J : Nat → Sy → Prop)
  (hsw : swapsWith (.ListComp elt [⟨tg0, iter0, [], 0⟩, ⟨tg, iter, [], 0⟩] scope pos) (some (.Name x px)) sp.line F.C.env = pure true)
  (hs : ∀ env x, foldedSetIterable iter0 env x = pure x) (hs1 : ∀ env x, foldedSetIterable iter env x = pure x) (hclos : closureFor scope F.C.env = pure []) (hfree : (scope.names.all fun x => decide (x.2 ≠ .free)) = true) (hcell : (scope.names.all fun x => decide (x.2 ≠ .cell)) = true) (hkind : scope.kind = .function)
  (hnames : (scope.names.all fun x => decide (x.2 = .local → scope.names.lookup x.1 = some .local)) = true) (hnd : decide names.Nodup = true)
  (hit : (run F k).ev iter0 S fun a S₁ => Leaf (itemsOf a = some items ∧ S₁ = S₀)) (h0 : J 0 ⟨names.map fun x => (x, none), [.list []]⟩) (hJ : ∀ S', J items.length S' → ∃ xs, S'.own[0]? = some (.list xs) ∧ toDs xs = some ds)
  (turn : ∀ C' E' i a S, (Fx.mk F.w F.A C' E' scope F.gl F.T F.n).Ok → items[i]? = some a → J i S → stT ⟨F.w, F.A, C', E', scope, F.gl, F.T, F.n⟩ tg0 a S fun S₂ => (run ⟨F.w, F.A, C', E', scope, F.gl, F.T, F.n⟩ k).ev iter S₂ fun b S₃ => Leaf (InQ ⟨F.w, F.A, C', E', scope, F.gl, F.T, F.n⟩ k tg elt (J (i + 1)) b S₃))
  (hq : st F x (.dat (.list ds)) S₀ fun S₁ => Q .next S₁) : Leaf (SemS F (.Assign [.Name x px] (.ListComp elt [⟨tg0, iter0, [], 0⟩, ⟨tg, iter, [], 0⟩] scope pos) sp) S Q) := by
 refine ⟨fun s ρ I => ?_⟩
 rw [exec_Assign_Name_used _ _ _ _ hsw]
 refine wpAny_bind (wpAny_standAt (wpAny_bind ?_))
 show wpAny _ F.A (do let _ ← comprehension (.ListComp elt [⟨tg0, iter0, [], 0⟩, ⟨tg, iter, [], 0⟩] scope pos) scope F.C.env _ (newList []) false (eval iter0 F.C.env) (some (assign (.Name x px) F.C.env))) _ _ s
 refine wpAny_bind (wpAny_mono (comp_enter (use := some (assign (.Name x px) F.C.env)) (QQ := fun _ s' => Pt F.C IsF Q s ρ .next s') hF k items ds names (hs _) hclos hfree hcell hkind hnames hnd I hit ?_ fun ρ₁ D C s' d => ?_) (fun _ s' hq => wpAny_pure (wpAny_pure hq)) fun _ _ e => e)
 ·intro C' D Ia h₁ fp wr P St sc hF' hr L R fin
  exact comp_out (G := ⟨F.w, F.A, C', fun _ _ => False, scope, F.gl, F.T, F.n⟩) hF' k L hr (hs1 _) J h0 turn fun s₄ S' ρ' hj I' x' => by
   refine el12 (hJ S' hj) fun xs e1 e2 => ?_
   exact fin s₄ S' ρ' xs e1 e2 I'
 show wpAny _ F.A (assign (.Name x px) F.C.env (.ref D)) _ _ _
 rw [PySem.assign_Name]
 have hv : Is s'.heap F.C.bd ρ₁ (.dat (.list ds)) (.ref D) := IsD.mono (fun a o y => y.1) d.val
 refine wpAny_bind (wpAny_standAt (wpAny_bindName (st_ok hF hq d.rx hv fun S₁ s₂ q₂ I₂ x₂ => ?_)))
 refine el42 (d.ns) fun m oc es ep hoc r => ?_
 have hz : Frz s₂.heap F.C.bd ρ₁ C oc := x₂.2 C oc ⟨hoc, fun q => q.elim d.loc d.bad, d.own⟩
 have hns : ∃ m, s₂.heap.Ns C m := ⟨m, oc, es, ep, hz.1, r⟩
 refine ⟨hns.choose, hns.choose_spec, fun h' hs' => fun _ => ?_⟩
 refine ⟨.next, S₁, ρ₁, q₂, I₂.other hns hs' d.loc d.own d.kp d.bad, rfl, d.ext.1, fun a o y => ?_⟩
 have z := x₂.2 a o (d.ext.2 a o y)
 exact ⟨(hs'.2 a (d.frz a o y)).trans z.1, z.2⟩
end
section
theorem l_chain {F : Fx} {S : Sy} {Q : Bool → Sy → Prop} {e1 e2 e3 : Expr} {pos : Pos} {i j k : Int} (hb : behindInMarks .LtE e3 = false) (h1 : SemE F e1 S fun a S₁ => a = .int i ∧ S₁ = S) (h2 : SemE F e2 S fun a S₁ => a = .int j ∧ S₁ = S) (h3 : SemE F e3 S fun a S₁ => a = .int k ∧ S₁ = S)
  (h : Q (decide (i ≤ j) && decide (j ≤ k)) S) : Leaf (SemT F (.Compare e1 [.LtE, .LtE] [e2, e3] pos) S Q) := by
 refine ⟨fun s ρ I => ?_⟩
 show wpAny _ _ (eval e1 F.C.env >>= fun v => testChain pos v [.LtE, .LtE] [eval e2 F.C.env, markedBehindIn .LtE e3 (eval e3 F.C.env)]) _ _ _
 rw [markedBehindIn_of_false hb]
 refine wpAny_bind (Sm.go h1 I fun a S₁ v s₁ ρ₁ q I₁ hv x₁ => ?_)
 obtain ⟨rfl, rfl⟩ := q
 obtain ⟨t1, rfl⟩ := hv
 unfold testChain
 refine wpAny_bind (wpAny_holding (Sm.go h2 I₁ fun a S₂ v s₂ ρ₂ q I₂ hv x₂ => wpAny_bind (wpAny_standAt ?_)))
 obtain ⟨rfl, rfl⟩ := q
 obtain ⟨t2, rfl⟩ := hv
 refine wpAny_bind (wpAny_holding (le_int (wpAny_bind (wpAny_release (wpAny_bind (wpAny_holding (wpAny_truthy_bool ?_)))))))
 cases c1 : decide (i ≤ j) with
 | false =>
  rw [c1] at h
  exact wpAny_pure fun _ => ⟨false, S₂, ρ₂, h, I₂, rfl, x₁.trans x₂⟩
 | true =>
  rw [c1] at h
  rw [if_pos rfl]
  unfold testChain
  refine wpAny_bind (wpAny_holding (Sm.go h3 I₂ fun a S₃ v s₃ ρ₃ q I₃ hv x₃ => wpAny_bind (wpAny_standAt ?_)))
  obtain ⟨rfl, rfl⟩ := q
  obtain ⟨t3, rfl⟩ := hv
  refine wpAny_bind (wpAny_operating (le_int (wpAny_holding (wpAny_truthy_bool ?_))))
  exact fun _ => ⟨_, S₃, ρ₃, h, I₃, rfl, (x₁.trans x₂).trans x₃⟩
noncomputable def pyA : Dt → Option PyData
 | .none => some .none
 | .str x => some (.str x)
 | _ => none
noncomputable def pyL : List Dt → Option (List PyData)
 | [] => some []
 | d :: r => (pyA d).bind fun x => (pyL r).map fun xs => x :: xs
noncomputable def pyD : Dt → Option PyData
 | .list ds => (pyL ds).map .list
 | d => pyA d
theorem pyA_reads {P : Addr → Obj → Prop} {h : Heap} {v : Value} {d : Dt} {x : PyData} (y : IsD P v d) (e : pyA d = some x) : Reads h v x [] ∧ x.depth = 0 := by
 cases y <;> (first | contradiction | obtain rfl := Option.some.inj e)
 ·exact ⟨.none, rfl⟩
 ·exact ⟨.str _ _, rfl⟩
theorem pyL_reads {P : Addr → Obj → Prop} {h : Heap} : ∀ {ds : List Dt} {vs : List Value} {xs : List PyData}, IsDs P vs ds → pyL ds = some xs → ReadsAll h vs xs [] ∧ PyData.depthAll xs = 0
 | [], vs, xs, y, e => by cases y; obtain rfl := Option.some.inj e; exact ⟨.nil, rfl⟩
 | d :: r, vs, xs, y, e => by
  cases y with | cons a b => ?_
  refine el12 (Option.bind_eq_some_iff.mp e) fun x h1 e => ?_
  obtain ⟨xs', h2, rfl⟩ := Option.map_eq_some_iff.mp e
  obtain ⟨r1, d1⟩ := pyA_reads (h := h) a h1
  obtain ⟨r2, d2⟩ := pyL_reads (h := h) b h2
  exact ⟨.cons r1 r2, by show max _ _ = 0; rw [d1, d2]; rfl⟩
theorem pyD_reads {P : Addr → Obj → Prop} {h : Heap} (hP : ∀ a o, P a o → h.get? a = some o) {v : Value} {d : Dt} {x : PyData} (y : IsD P v d) (e : pyD d = some x) : ∃ as, Reads h v x as ∧ x.depth ≤ 1 := by
 cases y with
 | list hp hds =>
  obtain ⟨xs, h1, rfl⟩ := Option.map_eq_some_iff.mp e
  obtain ⟨r, dd⟩ := pyL_reads (h := h) hds h1
  exact ⟨_, .list (hP _ _ hp) rfl rfl r, by show PyData.depthAll xs + 1 ≤ 1; rw [dd]; exact nl0 [] (.add (.num 0) (.num 1)) (.num 1) rfl⟩
 | none => obtain ⟨r, dd⟩ := pyA_reads (h := h) (P := P) .none e; exact ⟨_, r, by exact nl1 [_] vr0 (.num 0) vr0 (.num 1) rfl (Nat.le_of_eq dd)⟩
 | str x t => obtain ⟨r, dd⟩ := pyA_reads (h := h) (P := P) (.str x t) e; exact ⟨_, r, by exact nl1 [_] vr0 (.num 0) vr0 (.num 1) rfl (Nat.le_of_eq dd)⟩
 | _ => contradiction
theorem l_ne {F : Fx} (hF : F.Ok) {S : Sy} {Q : AV → Sy → Prop} {a b : AV} {d1 d2 : Dt} {x y : PyData} (ha : toD S.own a = some d1) (hb : toD S.own b = some d2) (h1 : pyD d1 = some x) (h2 : pyD d2 = some y) (c1 : x.canLay0 = true) (c2 : y.canLay0 = true)
  (h : Q (.bool (!PyData.eqv x y)) S) : Leaf (Sm2 F Is (compareOp .NotEq) a b S Q) := by
 refine ⟨?_⟩
 rintro s ρ v u I hv hu
 refine el12 (pyD_reads (h := s.heap) (fun _ _ z => z.1) (toD_ok I ha hv) h1) fun as r1 e1 => ?_
 refine el12 (pyD_reads (h := s.heap) (fun _ _ z => z.1) (toD_ok I hb hu) h2) fun bs r2 e2 => ?_
 refine SeqAt.compareNe_reads r1 r2 c1 c2 ?_ (Pg.same' I h rfl)
 have := hF.room.2.2
 rw [cLine_is]; exact nl3 [_, _, _, _] (.add vr0 (.mulL 10 vr1)) (.num 9890) vr2 vr3 vr3 (.num 1) (.add (.add vr0 vr2) (.num 1)) (.num 9900) rfl this (Nat.min_le_left _ _) e1
end
section
noncomputable abbrev Cx.at (C : Cx) (k : Nat) : Cx := ⟨C.env, C.bad, C.keep, C.fr, k, C.g, C.o, C.r0⟩
theorem Rx.low {C : Cx} {k : Nat} {fs : Fs} {own : List AO} {ρ : List Addr} {s : Shared} (I : Rx (C.at k) fs own ρ s) (h : C.t0 ≤ k) : Rx C fs own ρ s :=
 ⟨I.ns, I.nd, I.up, I.new, I.len, I.mine, I.fresh, I.apart, I.old, I.gens, I.os, I.frs, I.frn, Nat.le_trans h I.tk, I.pr⟩
theorem Rx.high {C : Cx} {fs : Fs} {own : List AO} {ρ : List Addr} {s : Shared} (I : Rx C fs own ρ s) : Rx (C.at s.toks) fs own ρ s :=
 ⟨I.ns, I.nd, I.up, I.new, I.len, I.mine, I.fresh, I.apart, I.old, I.gens, I.os, I.frs, I.frn, Nat.le_refl _, I.pr⟩
theorem Fx.Ok.high {F : Fx} (hF : F.Ok) {k : Nat} (h : F.C.t0 ≤ k) : (Fx.mk F.w F.A (F.C.at k) F.E F.sc F.gl F.T F.n).Ok :=
 ⟨hF.frm, Nat.lt_of_lt_of_le hF.pos h, hF.sc, hF.kind, hF.room, hF.top, hF.lim, hF.gl, hF.cls⟩
theorem sem_up {F : Fx} {l : List Stmt} {S : Sy} {Q : Fl → Sy → Prop} {s : Shared} {ρ : List Addr} (h0 : F.C.t0 ≤ s.toks) (I : Rx (F.C.at s.toks) S.fs S.own ρ s) (h : SemSs ⟨F.w, F.A, F.C.at s.toks, F.E, F.sc, F.gl, F.T, F.n⟩ l S Q) :
  wpAny (model pr F.w) F.A (execs l F.C.env) (Pt F.C IsF Q s ρ) F.E s := by
 refine wp_tk (Nat.le_refl s.toks) (wpAny_mono (h s ρ I) (fun f s' hq ht _ => ?_) fun _ _ e => e)
 refine Pg.el (hq ht) fun a S₁ ρ₁ q I₁ r x => ?_
 exact ⟨a, S₁, ρ₁, q, I₁.low h0, r, x⟩
theorem assign_tok {F : Fx} (hF : F.Ok) (m : Nat) {x : Str} {test : Expr} {y1 y2 : Str} {k1 k2 : Nat} {p1 p2 p px pos : Pos} {rest : List Stmt} {S : Sy} {Q : Fl → Sy → Prop} (y : Str) (S2 : Tok → Sy)
  (ht : (run F m).vt test S fun b S₁ => Leaf (S₁ = S ∧ (if b then y1 else y2) = y)) (hst : ∀ t, st F x (.strk y t) S fun S₁ => S₁ = S2 t)
  (h : ∀ k t, F.C.t0 ≤ k → t ≠ 0 → t < k → (Fx.mk F.w F.A (F.C.at k) F.E F.sc F.gl F.T F.n).Ok → SemSs ⟨F.w, F.A, F.C.at k, F.E, F.sc, F.gl, F.T, F.n⟩ rest (S2 t) Q) :
  SemSs F (.Assign [.Name x px] (.IfExp test (.Constant (.str y1) k1 p1) (.Constant (.str y2) k2 p2) p) pos :: rest) S Q := by
 intro s ρ I
 refine wpAny_execs_cons (wpAny_Assign_Name (IfExp_ (Sm.go ((run_ok hF m).vt ht) I fun c S₁ c' s₁ ρ₁ q I₁ hc x₁ => ?_)) (noSwap_ok rfl _ _ _))
 obtain ⟨rfl, hy⟩ := q.out
 cases hc
 have hpos : 0 < s₁.toks := Nat.lt_of_lt_of_le hF.pos I₁.tk
 have hle : F.C.t0 ≤ s₁.toks + 1 := Nat.le_succ_of_le I₁.tk
 have I₂ : Rx (F.C.at (s₁.toks + 1)) S₁.fs S₁.own ρ₁ { s₁ with toks := s₁.toks + 1 } := (I₁.toks (s₁.toks + 1) hle).high
 have hF' := hF.high hle
 have fin : wpAny (model pr F.w) F.A (storeName F.C.env x (.str y s₁.toks)) (fun _ s₃ => wpAny (model pr F.w) F.A (execs rest F.C.env) (Pt F.C IsF Q s ρ) F.E s₃) F.E { s₁ with toks := s₁.toks + 1 } := by
  refine st_ok (F := ⟨F.w, F.A, F.C.at (s₁.toks + 1), F.E, F.sc, F.gl, F.T, F.n⟩) (x := x) (v := .strk y s₁.toks) (S := S₁) (Q := fun S' => S' = S2 s₁.toks) hF' (hst s₁.toks) I₂ rfl fun S₃ s₃ q₃ I₃ x₃ => ?_
  subst q₃
  refine wp_tk I₃.tk (wpAny_mono (h _ _ hle (Nat.ne_of_gt hpos) (Nat.lt_succ_self _) hF' s₃ ρ₁ I₃) (fun f s' hq ht' _ => ?_) fun _ _ e => e)
  refine Pg.el (hq ht') fun a S₄ ρ₄ q₄ I₄ r x₄ => ?_
  exact ⟨a, S₄, ρ₄, q₄, I₄.low hle, r, (x₁.trans x₃).trans x₄⟩
 induction c with
 | true => subst hy; exact Constant_str fin
 | false => subst hy; exact Constant_str fin
end
section
open PySem.Builtin
noncomputable abbrev lawB : List Stmt := (fnAt 78).2.1
noncomputable abbrev intsD (ns : List Int) : Dt := .list (ns.map Dt.int)
noncomputable def widthF (t : Int) : Int := if t.fmod 10 < 9 then 4 + t.fmod 10 else 80
noncomputable def crlf (t : Int) : Bool := !((t.fdiv 10).fmod 2 == 0)
noncomputable def endF (t : Int) : List Nat := if crlf t then [13, 10] else [10]
theorem widthF_lt {t : Int} (h : decide (t.fmod 10 < 9) = true) : widthF t = 4 + t.fmod 10 := if_pos (of_decide_eq_true h)
theorem widthF_ge {t : Int} (h : decide (t.fmod 10 < 9) = false) : widthF t = 80 := if_neg (of_decide_eq_false h)
theorem endF_lf {t : Int} (h : ((t.fdiv 10).fmod 2 == 0) = true) : endF t = [10] := by unfold endF crlf; rw [h]; rfl
theorem endF_crlf {t : Int} (h : ((t.fdiv 10).fmod 2 == 0) = false) : endF t = [13, 10] := by unfold endF crlf; rw [h]; rfl
variable {w : World} {T : Addr → Obj → Prop}
noncomputable def fsL (ns : List Int) (v : List (Option AV)) : Fs := ("script", some (.dat (intsD ns))) :: (["total", "width", "end", "files", "signs", "listing", "body", "size", "place"] : List Str).zip v
theorem law_a {A : Around} {C : Cx} {E : Value → Shared → Prop} {n : Nat} (hF : (Fx.mk w A C E (fnAt 78).2.2 gl T n).Ok) {ns : List Int} {Q : Fl → Sy → Prop}
  (h : SemSs ⟨w, A, C, E, (fnAt 78).2.2, gl, T, n⟩ (lawB.drop 2) ⟨fsL ns [some (.int ns.sum), some (.int (widthF ns.sum)), none, none, none, none, none, none, none], []⟩ Q) :
  SemSs ⟨w, A, C, E, (fnAt 78).2.2, gl, T, n⟩ lawB ⟨fsL ns [none, none, none, none, none, none, none, none, none], []⟩ Q := by
 refine sems_cut hF 30 2 (by decide) _ ?_ h
 walk_at "vgo"
 refine l_sum hF rfl ?_
 walk_at "vgo"
 all_goals first
  | exact (by decide : (10 : Int) ≠ 0)
  | skip
 all_goals first
  | exact ⟨by dsimp only; rw [widthF_lt hc]; rfl⟩
  | exact ⟨by dsimp only; rw [widthF_ge hc]; rfl⟩
theorem law_a2 {A : Around} {C : Cx} {E : Value → Shared → Prop} {n : Nat} (hF : (Fx.mk w A C E (fnAt 78).2.2 gl T n).Ok) {ns : List Int} {b : Option AV} {Q : Fl → Sy → Prop}
  (h : ∀ k t, C.t0 ≤ k → t ≠ 0 → t < k → (Fx.mk w A (C.at k) E (fnAt 78).2.2 gl T n).Ok → SemSs ⟨w, A, C.at k, E, (fnAt 78).2.2, gl, T, n⟩ (lawB.drop 3) ⟨fsL ns [some (.int ns.sum), b, some (.strk (tx (endF ns.sum)) t), none, none, none, none, none, none], []⟩ Q) :
  SemSs ⟨w, A, C, E, (fnAt 78).2.2, gl, T, n⟩ (lawB.drop 2) ⟨fsL ns [some (.int ns.sum), b, none, none, none, none, none, none, none], []⟩ Q := by
 refine assign_tok hF 20 (x := "end") (S := ⟨fsL ns [some (.int ns.sum), b, none, none, none, none, none, none, none], []⟩) (tx (endF ns.sum)) (fun t => ⟨fsL ns [some (.int ns.sum), b, some (.strk (tx (endF ns.sum)) t), none, none, none, none, none, none], []⟩) ?_ ?_ h
 ·walk_at "vgo"
  ·decide
  ·decide
  ·refine ⟨rfl, ?_⟩
   cases e : ((ns.sum.fdiv 10).fmod 2 == 0) with
   | true => rw [endF_lf e]; rfl
   | false => rw [endF_crlf e]; rfl
 ·intro t
  walk_at "vgo"
  rfl
end
section
open PySem.Builtin
noncomputable def modes (ns : List Int) : List Int := ns.take 2 ++ [33091]
theorem modes_len (ns : List Int) : (modes ns).length ≤ 3 := by simp [modes]; exact (Nat.min_le_left _ _)
noncomputable def fileD (m : Int) : Dt := .tup [.int m, .str (tx (nameF m))]
theorem swaps_ok {F : Fx} (hF : F.Ok) {elt : Expr} {gs : List Comprehension} {sc : Scope} {cp pos : Pos} {t : Str} {line : Nat} (h1 : F.sc.names.lookup t = some .local) (h2 : (pos.line == cp.line) = true) (h3 : (sc.names.any fun x => x.1 == t && (x.2 == .local || x.2 == .cell)) = false) :
  swapsWith (.ListComp elt gs sc cp) (some (.Name t pos)) line F.C.env = pure true := by
 have e1 : F.C.env.blockKind = .function := by unfold Env.blockKind; rw [hF.sc, hF.kind]; rfl
 have e2 : F.C.env.kindOf t = some .local := by unfold Env.kindOf; rw [hF.sc]; exact h1
 show (pure _ : Sem Bool) = pure true
 rw [e1, e2]
 show (pure (_ && (pos.line == cp.line) && !(sc.names.any fun x => x.1 == t && (x.2 == .local || x.2 == .cell))) : Sem Bool) = _
 rw [h2, h3]; rfl
variable {w : World} {T : Addr → Obj → Prop}
theorem law_b {A : Around} {C : Cx} {E : Value → Shared → Prop} {n : Nat} (hT : TopOk w T gl) (hN : FnIs T 857 (fnAt 72) .none) (hF : (Fx.mk w A C E (fnAt 78).2.2 gl T n).Ok) (hn : 2 ≤ n) {ns : List Int} (hl : ns.length ≤ 63) {Q : Fl → Sy → Prop} {a b c : Option AV}
  (h : SemSs ⟨w, A, C, E, (fnAt 78).2.2, gl, T, n⟩ (lawB.drop 4) ⟨fsL ns [a, b, c, some (.dat (.list ((modes ns).map fileD))), none, none, none, none, none], []⟩ Q) :
  SemSs ⟨w, A, C, E, (fnAt 78).2.2, gl, T, n⟩ (lawB.drop 3) ⟨fsL ns [a, b, c, none, none, none, none, none, none], []⟩ Q := by
 refine sems_cut hF 30 1 (by decide) _ ?_ h
 walk_at "vgo"
 refine comp_assign (S₀ := ⟨fsL ns [a, b, c, none, none, none, none, none, none], []⟩) hF 20 ((modes ns).map AV.int) (fun i => ((modes ns)[i]?).bind fun m => some (fileD m)) ["mode"] (swaps_ok hF (by kernel_rfl) (by kernel_rfl) (by kernel_rfl)) (fun _ => rfl) (by rfl) (by kernel_rfl) (by kernel_rfl) rfl (by kernel_rfl) (by kernel_rfl) (by simp; have := modes_len ns; exact nl1 [_] vr0 (.num 3) vr0 (.num 100000) rfl this) ?_ ?_ ?_
 ·walk_at "vgo"
  refine l_slice_upto (k := 2) (ds := ns.map Dt.int) (by decide) (by rw [List.length_map, sizeLine_eq]; exact nl1 [_] vr0 (.num 63) vr0 (.num 16777216) rfl hl) ?_
  walk_at "vgo"
  ·exact Nat.le_trans (m := 1000) (by show 1 ≤ 1000; exact nl0 [] (.num 1) (.num 1000) rfl) (by rw [sizeLine_eq]; exact nl0 [] (.num 1000) (.num 16777216) rfl)
  ·refine l_addL (ds := (ns.map Dt.int).take 2) (es := [.int 33091]) rfl rfl (by rw [sizeLine_eq]; simp; exact nl1 [_] vr0 (.num 2) vr0 (.num 16777215) rfl (Nat.min_le_left _ _)) ?_
   walk_at "vgo"
   refine ⟨⟨?_, rfl⟩⟩
   show some (((ns.map Dt.int).take 2 ++ [Dt.int 33091]).map ofD) = _
   rw [modes, List.map_append, List.map_append, ← List.map_take, List.map_map]; rfl
 ·intro C' E' i a hF' ha
  rw [List.getElem?_map] at ha
  obtain ⟨m, h1, rfl⟩ := Option.map_eq_some_iff.mp ha
  rw [h1]
  have hNm := name_ok hT hN m
  walk_at "vgo"
  ·exact fn_okF hF' hNm
  ·refine ⟨fn_call hF' hNm (by show 1 ≤ n; exact nl1 [_] (.num 2) vr0 (.num 1) vr0 rfl hn) rfl ?_⟩
   walk_at "vgo"
   ·exact Nat.le_trans (m := 1000) (by show 2 ≤ 1000; exact nl0 [] (.num 2) (.num 1000) rfl) (by rw [sizeLine_eq]; exact nl0 [] (.num 1000) (.num 16777216) rfl)
   ·exact ⟨rfl, rfl⟩
 ·have e : (List.range ((modes ns).map AV.int).length).filterMap (fun i => ((modes ns)[i]?).bind fun m => some (fileD m)) = (modes ns).map fileD := by
   rw [List.length_map, filterMap_range]; simp [List.filterMap_eq_map]
  rw [e]
  walk_at "vgo"
  exact ⟨rfl⟩
end
section
open PySem.Builtin
noncomputable def signsF (ms : List Int) : List Sgn := ms.flatMap fun m => rowF m (nameF m)
noncomputable def stS (ps : List Sgn) (x y z : Option AV) : Sy := ⟨[("mode", x), ("name", y), ("one", z)], [.list (ps.map fun p => ofD (sgnD p))]⟩
theorem toDs_sgn (L : List Sgn) : toDs (L.map fun p => ofD (sgnD p)) = some (L.map sgnD) := by have := ofD_toDs (L.map sgnD); rwa [List.map_map] at this
variable {w : World} {T : Addr → Obj → Prop}
theorem law_c {A : Around} {C : Cx} {E : Value → Shared → Prop} {n : Nat} (hT : TopOk w T gl) (hR : FnIs T 864 (fnAt 73) .none) (hW : FnIs T 869 (fnAt 74) .none) (hF : (Fx.mk w A C E (fnAt 78).2.2 gl T n).Ok) (hn : 2 ≤ n) {ns : List Int} (hz : (signsF (modes ns)).length ≤ 1000) (hnl : ∀ m, (nameF m).length ≤ 3) {Q : Fl → Sy → Prop} {a b c : Option AV}
  (h : SemSs ⟨w, A, C, E, (fnAt 78).2.2, gl, T, n⟩ (lawB.drop 5) ⟨fsL ns [a, b, c, some (.dat (.list ((modes ns).map fileD))), some (.dat (.list ((signsF (modes ns)).map sgnD))), none, none, none, none], []⟩ Q) :
  SemSs ⟨w, A, C, E, (fnAt 78).2.2, gl, T, n⟩ (lawB.drop 4) ⟨fsL ns [a, b, c, some (.dat (.list ((modes ns).map fileD))), none, none, none, none, none], []⟩ Q := by
 refine sems_cut hF 30 1 (by decide) _ ?_ h
 walk_at "vgo"
 refine comp2_assign (S₀ := ⟨fsL ns [a, b, c, some (.dat (.list ((modes ns).map fileD))), none, none, none, none, none], []⟩) hF 20 (((modes ns).map fileD).map ofD) ((signsF (modes ns)).map sgnD) ["mode", "name", "one"] (fun i S => ∃ x y z, S = stS (signsF ((modes ns).take i)) x y z)
  (swaps_ok hF (by kernel_rfl) (by kernel_rfl) (by kernel_rfl)) (fun _ _ => rfl) (fun _ _ => rfl) (by rfl) (by kernel_rfl) (by kernel_rfl) rfl (by kernel_rfl) (by kernel_rfl) ?_ ?_ ?_ ?_ ?_
 ·walk_at "vgo"
  exact ⟨rfl, rfl⟩
 ·exact ⟨none, none, none, rfl⟩
 ·rintro S' ⟨x, y, z, rfl⟩
  refine ⟨_, rfl, ?_⟩
  rw [List.length_map, List.length_map, List.take_length]
  exact toDs_sgn _
 ·rintro C' E' i a S hF' ha ⟨x, y, z, rfl⟩
  rw [List.map_map, List.getElem?_map] at ha
  obtain ⟨m, h1, rfl⟩ := Option.map_eq_some_iff.mp ha
  have hrow := row_ok hT hR hW m (hnl m)
  have htk : signsF ((modes ns).take (i + 1)) = signsF ((modes ns).take i) ++ rowF m (nameF m) := by
   unfold signsF
   rw [List.take_succ, h1, List.flatMap_append]; simp
  have hlen : (signsF ((modes ns).take i) ++ rowF m (nameF m)).length ≤ 1000 := by
   rw [← htk]
   have : signsF (modes ns) = signsF ((modes ns).take (i + 1)) ++ signsF ((modes ns).drop (i + 1)) := by
    unfold signsF; rw [← List.flatMap_append, List.take_append_drop]
   rw [this, List.length_append] at hz; exact nl1 [_, _] (.add vr0 vr1) (.num 1000) vr0 (.num 1000) rfl hz
  walk_at "vgo"
  ·exact fn_okF hF' hrow
  ·refine ⟨fn_call hF' hrow (by show 2 ≤ n; exact hn) rfl ?_⟩
   walk_at "vgo"
   refine ⟨((rowF m (nameF m)).map sgnD).map ofD, fun j S => ∃ z, S = stS (signsF ((modes ns).take i) ++ (rowF m (nameF m)).take j) (some (.int m)) (some (.str (tx (nameF m)))) z, rfl, ⟨z, ?_⟩, ?_, ?_⟩
   ·rw [List.take_zero, List.append_nil]; rfl
   ·rintro S' ⟨z', rfl⟩
    refine ⟨some (.int m), some (.str (tx (nameF m))), z', ?_⟩
    rw [htk, List.length_map, List.length_map, List.take_length]
   ·rintro C'' E'' j b S' hF'' hb ⟨z', rfl⟩
    rw [List.map_map, List.getElem?_map] at hb
    obtain ⟨p, hp, rfl⟩ := Option.map_eq_some_iff.mp hb
    walk_at "vgo"
    refine ⟨_, rfl, ?_, some (ofD (sgnD p)), ?_⟩
    ·rw [List.length_map]
     have : ((rowF m (nameF m)).take j).length ≤ (rowF m (nameF m)).length := by rw [List.length_take]; exact Nat.min_le_right _ _
     rw [List.length_append] at hlen ⊢
     exact nl2 [_, _, _] (.add vr0 vr1) (.num 1000) vr2 vr1 (.add vr0 vr2) (.num 1000000) rfl hlen this
    ·have e : (rowF m (nameF m)).take (j + 1) = (rowF m (nameF m)).take j ++ [p] := by rw [List.take_succ, hp]; rfl
     rw [e]
     simp only [stS, List.map_append, List.append_assoc, List.map_cons, List.map_nil, List.set_cons_zero]
     rfl
 ·walk_at "vgo"
  exact ⟨rfl⟩
end
section
open PySem.Builtin
noncomputable def quoteL (l : List Nat) : List Nat := (quoteStr l).cps.toList
theorem quoteL_tx (l : List Nat) : tx (quoteL l) = quoteStr l := rfl
noncomputable def lineF (m : Int) : List Nat := fmF m 10 ++ [32] ++ quoteL (nameF m) ++ [10]
noncomputable def listF (ms : List Int) : List Nat := ms.flatMap lineF
theorem flat_id {α : Type} (f : α → List Nat) : ∀ l : List α, (l.map f).flatMap id = l.flatMap f
 | [] => rfl
 | a :: l => by rw [List.map_cons, List.flatMap_cons, List.flatMap_cons, flat_id f l]; rfl
theorem joinL_nil {α : Type} (f : α → List Nat) : ∀ l : List α, joinL [] (l.map f) = l.flatMap f
 | [] => rfl
 | a :: l => by
  show f a ++ ((l.map f).flatMap fun y => [] ++ y) = _
  rw [List.flatMap_cons, ← flat_id f l]; rfl
variable {w : World} {T : Addr → Obj → Prop}
theorem law_d {A : Around} {C : Cx} {E : Value → Shared → Prop} {n : Nat} (hT : TopOk w T gl) (hfm : ∀ m, FnOk w T 2 850 [.int m] (.str (tx (fmF m 10)))) (hq : ∀ m, FnOk w T 1 803 [.str (tx (nameF m))] (.str (tx (quoteL (nameF m))))) (hF : (Fx.mk w A C E (fnAt 78).2.2 gl T n).Ok) (hn : 2 ≤ n) {ns : List Int} (hz : (listF (modes ns)).length ≤ 1000) {Q : Fl → Sy → Prop} {a b c e : Option AV}
  (h : SemSs ⟨w, A, C, E, (fnAt 78).2.2, gl, T, n⟩ (lawB.drop 6) ⟨fsL ns [a, b, c, some (.dat (.list ((modes ns).map fileD))), e, some (.str (tx (listF (modes ns)))), none, none, none], []⟩ Q) :
  SemSs ⟨w, A, C, E, (fnAt 78).2.2, gl, T, n⟩ (lawB.drop 5) ⟨fsL ns [a, b, c, some (.dat (.list ((modes ns).map fileD))), e, none, none, none, none], []⟩ Q := by
 refine sems_cut hF 30 1 (by decide) _ ?_ h
 walk_at "vgo"
 refine comp_ok (S₀ := ⟨fsL ns [a, b, c, some (.dat (.list ((modes ns).map fileD))), e, none, none, none, none], []⟩) hF 20 (((modes ns).map fileD).map ofD) (fun i => ((modes ns)[i]?).bind fun m => some (.str (tx (lineF m)))) ["mode", "name"] (fun _ => rfl) (by rfl) (by kernel_rfl) (by kernel_rfl) rfl (by kernel_rfl) (by kernel_rfl) (by simp; have := modes_len ns; exact nl1 [_] vr0 (.num 3) vr0 (.num 100000) rfl this) ?_ ?_ ?_
 ·walk_at "vgo"
  exact ⟨rfl, rfl⟩
 ·intro C' E' i a hF' ha
  rw [List.map_map, List.getElem?_map] at ha
  obtain ⟨m, h1, rfl⟩ := Option.map_eq_some_iff.mp ha
  rw [h1]
  have hm : (lineF m).length ≤ 1000 := by
   have : m ∈ modes ns := List.mem_of_getElem? h1
   obtain ⟨a, b, e⟩ := List.append_of_mem this
   rw [listF, e, List.flatMap_append, List.flatMap_cons] at hz
   simp only [List.length_append] at hz
   exact nl1 [_, _, _] (.add vr0 (.add vr1 vr2)) (.num 1000) vr1 (.num 1000) rfl hz
  have hm' : (fmF m 10).length + 1 + (quoteL (nameF m)).length + 1 ≤ 1000 := by
   unfold lineF at hm
   simp only [List.length_append, List.length_cons, List.length_nil] at hm
   exact nl1 [_, _] (.add (.add (.add vr0 (.add (.num 0) (.num 1))) vr1) (.add (.num 0) (.num 1))) (.num 1000) (.add (.add (.add vr0 (.num 1)) vr1) (.num 1)) (.num 1000) rfl hm
  have h2 := hfm m
  have h3 := hq m
  walk_at "vgo"
  ·exact fn_okF hF' h2
  ·refine ⟨fn_call hF' h2 (by show 2 ≤ n; exact hn) rfl ?_⟩
   walk_at "vgo"
   ·rw [txl, show (Str.ofString " ").length = 1 from rfl, sizeLine_eq]; exact nl1 [_, _] (.add (.add (.add vr0 (.num 1)) vr1) (.num 1)) (.num 1000) (.add vr0 (.num 1)) (.num 16777216) rfl hm'
   ·exact fn_okF hF' h3
   ·refine ⟨fn_call hF' h3 (by show 1 ≤ n; exact nl1 [_] (.num 2) vr0 (.num 1) vr0 rfl hn) rfl ?_⟩
    walk_at "vgo"
    ·rw [show Str.ofString " " = tx [32] from rfl, txa, txl, txl, List.length_append, sizeLine_eq]; simp; exact nl1 [_, _] (.add (.add (.add vr0 (.num 1)) vr1) (.num 1)) (.num 1000) (.add (.add vr0 (.num 1)) vr1) (.num 16777216) rfl hm'
    ·rw [show Str.ofString " " = tx [32] from rfl, show Str.ofString "\n" = tx [10] from rfl, txa, txa, txl, txl, List.length_append, List.length_append, sizeLine_eq]; simp; exact nl1 [_, _] (.add (.add (.add vr0 (.num 1)) vr1) (.num 1)) (.num 1000) (.add (.add vr0 (.num 1)) vr1) (.num 16777215) rfl hm'
    ·refine ⟨?_, rfl⟩
     rw [show Str.ofString " " = tx [32] from rfl, show Str.ofString "\n" = tx [10] from rfl, txa, txa, txa]; rfl
 ·have e : (List.range (((modes ns).map fileD).map ofD).length).filterMap (fun i => ((modes ns)[i]?).bind fun m => some (Dt.str (tx (lineF m)))) = ((modes ns).map fun m => tx (lineF m)).map Dt.str := by
   rw [List.length_map, List.length_map, filterMap_range]; simp [List.filterMap_eq_map]
  rw [e]
  walk_at "vgo"
  refine l_join (texts := (modes ns).map fun m => tx (lineF m)) rfl ?_ ?_
  ·have := joinOk_of (e := []) (ls := (modes ns).map lineF) (n := 1000) (by rw [List.length_map]; have := modes_len ns; exact nl1 [_] vr0 (.num 3) vr0 (.num 1000) rfl this) (by rw [flat_id]; exact hz) (by simp) (by exact nl0 [] (.num 1000) (.num 100000) rfl)
   rw [List.map_map] at this
   exact this
  ·walk_at "vgo"
   refine ⟨?_⟩
   have : Txt.join (tx []) ((modes ns).map fun m => tx (lineF m)) = tx (listF (modes ns)) := by
    have := join_tx [] ((modes ns).map lineF)
    rw [List.map_map] at this
    exact Eq.trans this (congrArg tx (joinL_nil lineF (modes ns)))
   rw [show Str.ofString "" = tx [] from rfl, this]
   rfl
end
section
open PySem.Builtin
theorem flat_append (A B : List Sgn) : flat (A ++ B) = flat A ++ flat B := List.flatMap_append
theorem flat_sty : ∀ l : List Nat, flat (sty l) = l
 | [] => rfl
 | c :: l => congrArg (c :: ·) (flat_sty l)
theorem sp_quote : ∀ l : List Nat, ∃ p ps, Sp [39] l (p :: ps) ∧ joinL [39, 34, 39, 34, 39] (p :: ps) = flat (l.flatMap nameS)
 | [] => ⟨_, _, .nil, rfl⟩
 | c :: l => by
  refine el22 (sp_quote l) fun p ps h1 h2 => ?_
  rw [List.flatMap_cons, flat_append]
  by_cases h : c = 39
  ·subst h
   exact ⟨_, _, .hit h1, by rw [joinL_hit _ ⟨_, _, rfl⟩, h2]; rfl⟩
  ·refine ⟨_, _, .step h h1, ?_⟩
   rw [joinL_skip, h2]; unfold nameS; rw [if_neg h]; rfl
theorem quoteL_eq (l : List Nat) : quoteL l = if l ≠ [] ∧ l.all safeN = true then l else [39] ++ flat (l.flatMap nameS) ++ [39] := by
 refine el22 (sp_quote l) fun p ps h1 h2 => ?_
 have e : quoteStr l = tx (if l ≠ [] ∧ l.all safeN = true then l else [39] ++ flat (l.flatMap nameS) ++ [39]) := by
  unfold quoteStr
  by_cases h : l = []
  ·subst h; rfl
  ·rw [if_neg h, h1.replace (by simp), h2, txa, txa]
   by_cases hs : l.all safeN = true
   ·rw [if_pos (show l.all safeC = true from hs), if_pos ⟨h, hs⟩]
   ·rw [if_neg (show ¬ l.all safeC = true from hs), if_neg fun q => hs q.2]
 unfold quoteL
 rw [e]
theorem flat_row (m : Int) (l : List Nat) : flat (rowF m l) = rightsF m ++ [32] ++ quoteL l ++ [10] := by
 rw [quoteL_eq]
 unfold rowF rowHead
 split
 ·rw [flat_append, flat_append, flat_append, flat_sty, flat_sty]; rfl
 ·rw [flat_append, flat_append, flat_append, flat_append, flat_sty]
  simp
theorem signs_list : ∀ ms : List Int, flat (signsF ms) = listF ms
 | [] => rfl
 | m :: ms => by
  show flat (rowF m (nameF m) ++ signsF ms) = lineF m ++ listF ms
  rw [flat_append, signs_list ms, flat_row]
  unfold lineF
  rw [fmF_rights]
noncomputable def okC (c : Nat) : Bool := plC c && decide (c < 127)
theorem okC_ite (p : Prop) [Decidable p] {a b : Nat} (ha : okC a = true) (hb : okC b = true) : okC (if p then a else b) = true := by split <;> assumption
theorem rights_ok' (m : Int) : (rightsF m).all okC = true := by
 have hk : okC (kindC m) = true := by
  unfold kindC
  cases e : kindL[((m.fdiv 4096).fmod 16).toNat]? with
  | none => rfl
  | some c => exact (by decide : ∀ c ∈ kindL, okC c = true) c (List.mem_of_getElem? e)
 have ht : ∀ p, (tri m p).all okC = true := fun p => by
  unfold tri
  simp only [List.all_cons, List.all_nil, Bool.and_true, Bool.and_eq_true]
  exact ⟨okC_ite _ rfl rfl, okC_ite _ rfl rfl, okC_ite _ (okC_ite _ rfl rfl) (okC_ite _ (okC_ite _ rfl rfl) (okC_ite _ rfl rfl))⟩
 unfold rightsF
 rw [List.all_cons, List.all_append, List.all_append, hk, ht, ht, ht]; rfl
theorem okC_pl {l : List Nat} (h : l.all okC = true) : l.all plC = true := by
 rw [List.all_eq_true] at h ⊢
 intro c hc
 have := h c hc
 unfold okC at this
 rw [Bool.and_eq_true] at this; exact this.1
theorem gds_more : ∀ l : List Nat, l.all plC = true → Gds .wd (sty l) .wd
 | [], _ => .nil
 | c :: l, h => by
  rw [List.all_cons, Bool.and_eq_true] at h
  exact .cons (.more (by rw [List.all_cons, h.1]; rfl)) (gds_more l h.2)
theorem gds_sty {l : List Nat} (h0 : l ≠ []) (h : l.all plC = true) : Gds .sp (sty l) .wd := by
 obtain ⟨c, r, rfl⟩ := List.exists_cons_of_ne_nil h0
 rw [List.all_cons, Bool.and_eq_true] at h
 exact .cons (.first (by rw [List.all_cons, h.1]; rfl)) (gds_more r h.2)
theorem gds_name : ∀ l : List Nat, Gds (.q 39) (l.flatMap nameS) (.q 39)
 | [] => .nil
 | c :: l => by
  rw [List.flatMap_cons]
  refine Gds.append ?_ (gds_name l)
  unfold nameS
  split
  ·exact .cons (.shut rfl) (.cons (.goes rfl) (.cons (.quoted (.inr ⟨rfl, rfl⟩)) (.cons (.shut rfl) (.cons (.goes rfl) .nil))))
  ·rename_i h
   exact .cons (.quoted (.inl ⟨rfl, by simpa using h⟩)) .nil
theorem gds_row (m : Int) (l : List Nat) : Gds .sp (rowF m l) .sp := by
 have hh : Gds .sp (rowHead m) .sp := (gds_sty (by unfold rightsF; simp) (okC_pl (rights_ok' m))).append (.cons (.parts rfl) .nil)
 unfold rowF
 split
 ·rename_i h
  refine (hh.append (gds_sty h.1 ?_)).append (.cons (.parts rfl) .nil)
  have := h.2
  rw [List.all_eq_true] at this ⊢
  exact fun c hc => (by decide : ∀ c ∈ [61, 95, 97, 46, 45], plC c = true) c (by have := this c hc; unfold safeN at this; simpa using this)
 ·exact ((hh.append (.cons (.opens rfl) .nil)).append (gds_name l)).append (.cons (.shut rfl) (.cons (.parts rfl) .nil))
theorem gds_signs : ∀ ms : List Int, Gds .sp (signsF ms) .sp
 | [] => .nil
 | m :: ms => (gds_row m (nameF m)).append (gds_signs ms)
noncomputable def ones (S : List Sgn) : Prop := ∀ p ∈ S, p.1.length = 1
theorem ones.append {A B : List Sgn} (a : ones A) (b : ones B) : ones (A ++ B) := fun p h => (List.mem_append.mp h).elim (a p) (b p)
theorem ones_sty (l : List Nat) : ones (sty l) := fun p h => by obtain ⟨c, _, rfl⟩ := List.mem_map.mp h; rfl
theorem ones_row (m : Int) (l : List Nat) : ones (rowF m l) := by
 have one : ∀ c d, ones [([c], d)] := fun c d p h => by rw [List.mem_singleton.mp h]; rfl
 have hn : ones (l.flatMap nameS) := fun p h => by
  refine el12 (List.mem_flatMap.mp h) fun c _ h => ?_
  unfold nameS at h
  split at h
  ·exact (by decide : ∀ p ∈ five.map (·.1), p.length = 1) p.1 (List.mem_map_of_mem h)
  ·rw [List.mem_singleton.mp h]; rfl
 unfold rowF rowHead
 split
 ·exact (((ones_sty _).append (one _ _)).append (ones_sty _)).append (one _ _)
 ·exact ((((ones_sty _).append (one _ _)).append (one _ _)).append hn).append ((one 39 .turns).append (one 10 .parts))
theorem ones_signs : ∀ ms : List Int, ones (signsF ms)
 | [] => fun _ h => nomatch h
 | m :: ms => (ones_row m (nameF m)).append (ones_signs ms)
theorem flat_take : ∀ {S : List Sgn}, ones S → ∀ n, flat (S.take n) = (flat S).take n ∧ (flat S).length = S.length
 | [], _, n => by simp
 | p :: S, h, n => by
  obtain ⟨c, hc⟩ : ∃ c, p.1 = [c] := List.length_eq_one_iff.mp (h p List.mem_cons_self)
  have ih := fun n => flat_take (S := S) (fun q hq => h q (List.mem_cons_of_mem _ hq)) n
  have e : flat (p :: S) = c :: flat S := by show p.1 ++ flat S = _; rw [hc]; rfl
  rw [e]
  refine ⟨?_, by simp [(ih 0).2]⟩
  induction n with
  | zero => rfl
  | succ n => show p.1 ++ flat (S.take n) = _; rw [hc, (ih n).1]; rfl
theorem name_chars (m : Int) : (∀ c ∈ nameF m, c ∈ sgSafe ++ sgUns) ∧ (nameF m).length ≤ 3 := by
 have hs : ∀ i, ∀ c ∈ sg i, c ∈ sgSafe ++ sgUns := fun i c hc => by
  unfold sg at hc
  cases e : signsL[i.toNat]? with
  | none => rw [e] at hc; contradiction
  | some l => rw [e] at hc; exact (by decide : ∀ l ∈ signsL, ∀ c ∈ l, c ∈ sgSafe ++ sgUns) l (List.mem_of_getElem? e) c hc
 refine ⟨fun c hc => ?_, ?_⟩
 ·unfold nameF at hc
  rcases List.mem_append.mp hc with hc | hc
  ·exact (List.mem_append.mp hc).elim (hs _ c) (hs _ c)
  ·exact hs _ c hc
 ·have h1 := sg_len (m.fmod 16)
  have h2 := sg_len ((m.fdiv 16).fmod 16)
  have h3 := sg_len ((m.fdiv 256).fmod 16)
  unfold nameF
  rw [List.length_append, List.length_append]; exact nl3 [_, _, _] vr0 (.num 1) vr1 (.num 1) vr2 (.num 1) (.add (.add vr0 vr1) vr2) (.num 3) rfl h1 h2 h3
noncomputable def chL (c : Nat) : Prop := c < 256 ∧ c ≠ 13
theorem line_chars (m : Int) : (∀ c ∈ lineF m, chL c) ∧ (lineF m).length ≤ 29 := by
 refine el02 (name_chars m) fun h1 h2 => ?_
 have hn : ∀ c ∈ nameF m, chL c := fun c hc => (by unfold chL; decide : ∀ c ∈ sgSafe ++ sgUns, chL c) c (h1 c hc)
 have hq : (∀ c ∈ quoteL (nameF m), chL c) ∧ (quoteL (nameF m)).length ≤ 17 := by
  rw [quoteL_eq]
  split
  ·exact ⟨hn, by exact nl1 [_] vr0 (.num 3) vr0 (.num 17) rfl h2⟩
  ·have key : ∀ l : List Nat, (∀ c ∈ l, chL c) → (∀ c ∈ flat (l.flatMap nameS), chL c) ∧ (flat (l.flatMap nameS)).length ≤ 5 * l.length := fun l => by
    induction l with
    | nil => exact fun _ => ⟨fun _ h => (nomatch h), Nat.le_refl _⟩
    | cons c r ih =>
     intro h
     refine el02 (ih (fun d hd => h d (List.mem_cons_of_mem _ hd))) fun i1 i2 => ?_
     have hc := h c List.mem_cons_self
     rw [List.flatMap_cons, flat_append, List.length_append, List.length_cons]
     have : (∀ d ∈ flat (nameS c), chL d) ∧ (flat (nameS c)).length ≤ 5 := by
      unfold nameS
      split
      ·exact ⟨(by unfold chL; decide : ∀ d ∈ [39, 34, 39, 34, 39], chL d), by decide⟩
      ·exact ⟨fun d hd => by rw [show d = c by simpa using hd]; exact hc, by simp⟩
     exact ⟨fun d hd => (List.mem_append.mp hd).elim (this.1 d) (i1 d), by exact nl2 [_, _, _] vr0 (.num 5) vr1 (.mulL 5 vr2) (.add vr0 vr1) (.mulL 5 (.add vr2 (.num 1))) rfl this.2 i2⟩
   refine el02 (key _ hn) fun k1 k2 => ?_
   refine ⟨fun c hc => ?_, by simp only [List.length_append, List.length_singleton]; exact nl2 [_, _] vr0 (.mulL 5 vr1) (.mulL 5 vr1) (.mulL 5 (.num 3)) (.add (.add (.num 1) vr0) (.num 1)) (.num 17) rfl k2 (Nat.mul_le_mul_left 5 h2)⟩
   simp only [List.mem_append, List.mem_singleton] at hc
   rcases hc with (rfl | hc) | rfl
   ·unfold chL; exact ⟨(nl0 [] (.add (.num 39) (.num 1)) (.num 256) rfl), (Nat.ne_of_gt (nl0 [] (.add (.num 13) (.num 1)) (.num 39) rfl))⟩
   ·exact k1 c hc
   ·unfold chL; exact ⟨(nl0 [] (.add (.num 39) (.num 1)) (.num 256) rfl), (Nat.ne_of_gt (nl0 [] (.add (.num 13) (.num 1)) (.num 39) rfl))⟩
 have hr : (∀ c ∈ rightsF m, chL c) := fun c hc => by
  have := List.all_eq_true.mp (rights_ok' m) c hc
  unfold okC plC wsC at this
  simp at this
  unfold chL; lia
 unfold lineF
 rw [fmF_rights]
 refine ⟨fun c hc => ?_, ?_⟩
 ·simp only [List.mem_append, List.mem_singleton] at hc
  rcases hc with ((hc | rfl) | hc) | rfl
  ·exact hr c hc
  ·unfold chL; exact ⟨(nl0 [] (.add (.num 32) (.num 1)) (.num 256) rfl), (Nat.ne_of_gt (nl0 [] (.add (.num 13) (.num 1)) (.num 32) rfl))⟩
  ·exact hq.1 c hc
  ·unfold chL; exact ⟨(nl0 [] (.add (.num 10) (.num 1)) (.num 256) rfl), (Nat.ne_of_lt (nl0 [] (.add (.num 10) (.num 1)) (.num 13) rfl))⟩
 ·simp only [List.length_append, List.length_singleton, rights_len]
  have := hq.2
  exact nl1 [_] vr0 (.num 17) (.add (.add (.add (.num 10) (.num 1)) vr0) (.num 1)) (.num 29) rfl hq.2
theorem list_facts (ns : List Int) : (∀ c ∈ listF (modes ns), chL c) ∧ (listF (modes ns)).length ≤ 87 ∧ ∃ l, listF (modes ns) = l ++ [39, 10] := by
 refine ⟨fun c hc => ?_, ?_, ?_⟩
 ·refine el12 (List.mem_flatMap.mp hc) fun m _ hm => ?_
  exact (line_chars m).1 c hm
 ·have key : ∀ ms : List Int, (listF ms).length ≤ 29 * ms.length := fun ms => by
   induction ms with
   | nil => exact Nat.le_refl _
   | cons m r ih =>
    rw [show listF (m :: r) = lineF m ++ listF r from rfl, List.length_append, List.length_cons]
    have := (line_chars m).2
    exact nl2 [_, _, _] vr0 (.num 29) vr1 (.mulL 29 vr2) (.add vr0 vr1) (.mulL 29 (.add vr2 (.num 1))) rfl this ih
  have := key (modes ns)
  have := modes_len ns
  exact nl2 [_, _] vr0 (.mulL 29 vr1) (.mulL 29 vr1) (.mulL 29 (.num 3)) vr0 (.num 87) rfl (by assumption) (Nat.mul_le_mul_left 29 this)
 ·obtain ⟨l, hl⟩ : ∃ l, lineF 33091 = l ++ [39, 10] := ⟨(lineF 33091).take 19, by kernel_rfl⟩
  refine ⟨listF (ns.take 2) ++ l, ?_⟩
  show (ns.take 2 ++ [33091]).flatMap lineF = _
  rw [List.flatMap_append, List.flatMap_singleton, hl, List.append_assoc]; rfl
end
section
noncomputable def encT (c : Nat) : Tk := if plainC c then .ch c else .es c
noncomputable abbrev rw0 (us : List Tk) : List Nat := rend [61, 10] [10] us
theorem rend_row {s e : List Nat} : ∀ {us : List Tk}, rowT us → rend s e us = rw0 us
 | [], _ => rfl
 | t :: us, h => by
  have ih := rend_row (s := s) (e := e) (us := us) fun u hu => h u (List.mem_cons_of_mem _ hu)
  show t.w s e ++ rend s e us = t.w _ _ ++ rw0 us
  rw [ih]
  have := h t List.mem_cons_self
  cases t <;> first | rfl | exact this.elim
theorem okT_row {W : Nat} {rest : List Tk} : ∀ (us : List Tk) (n : Nat) (b : Bool), rowT us → n + (rw0 us).length ≤ W → okT W (n + (rw0 us).length) (lastB b us) rest → okT W n b (us ++ rest)
 | [], _, _, _, _, h => h
 | t :: us, n, b, hr, hn, h => by
  have e : rw0 (t :: us) = t.w [61, 10] [10] ++ rw0 us := rfl
  rw [e, List.length_append, ← Nat.add_assoc] at hn h
  have ht := hr t List.mem_cons_self
  have ih := okT_row us (n + (t.w [61, 10] [10]).length) t.b (fun u hu => hr u (List.mem_cons_of_mem _ hu)) hn h
  induction t with
  | ch c => exact ⟨ht, by simp [Tk.w] at hn; exact nl1 [_, _, _] (.add (.add vr0 (.num 1)) vr1) vr2 (.add vr0 (.num 1)) vr2 rfl hn, ih⟩
  | es c => exact ⟨ht, by simp [Tk.w, esc] at hn; exact nl1 [_, _, _] (.add (.add vr0 (.num 3)) vr1) vr2 (.add vr0 (.num 3)) vr2 rfl hn, ih⟩
  | so => exact ht.elim
  | ha => exact ht.elim
theorem esc_at : ∀ (us : List Tk) (i : Nat), rowT us → (rw0 us)[i]? = some 61 → (∃ a, (rw0 us)[i + 1]? = some a ∧ a ≠ 61) ∧ ∃ b, (rw0 us)[i + 2]? = some b ∧ b ≠ 61
 | [], i, _, h => by simp at h
 | .so :: _, _, hr, _ => (hr .so (by simp)).elim
 | .ha :: _, _, hr, _ => (hr .ha (by simp)).elim
 | .ch c :: us, i, hr, h => by
  have hc : chOk c := hr (.ch c) (by simp)
  induction i with
  | zero => exact absurd (by injection h) hc.2
  | succ i => exact esc_at us i (fun u hu => hr u (List.mem_cons_of_mem _ hu)) h
 | .es c :: us, i, hr, h => by
  refine el24 (esc_ok (hr (.es c) (by simp) : c < 256)) fun a b e1 e2 e3 _ => ?_
  have ha := (hexs_ok a e2).2.2.1
  have hb := (hexs_ok b e3).2.2.1
  have e : rw0 (.es c :: us) = 61 :: a :: b :: rw0 us := by show esc c ++ rw0 us = _; rw [e1]; rfl
  rw [e] at h ⊢
  match i with
  | 0 => exact ⟨⟨a, rfl, ha⟩, b, rfl, hb⟩
  | 1 => exact absurd (by injection h) ha
  | 2 => exact absurd (by injection h) hb
  | i + 3 => exact esc_at us i (fun u hu => hr u (List.mem_cons_of_mem _ hu)) h
theorem cut_toks {W : Nat} (hW : 4 ≤ W) {us : List Tk} (hr : rowT us) (h : W < (rw0 us).length) : ∃ u1 u2, us = u1 ++ u2 ∧ (rw0 us).take (cutK W (rw0 us)) = rw0 u1 ∧ (rw0 us).drop (cutK W (rw0 us)) = rw0 u2 := by
 have hok : okT (rw0 us).length 0 false us := by
  have := okT_row (W := (rw0 us).length) (rest := []) us 0 false hr (by exact nl0 [_] (.add (.num 0) vr0) vr0 rfl) trivial
  rwa [List.append_nil] at this
 refine el33 (take_toks (e := [10]) (.inl rfl) us 0 false (cutK W (rw0 us)) hok) fun u1 u2 q h1 h2 h3 => ?_
 have hk := cutK_pos hW (rw0 us)
 have h2 : (rw0 us).take (cutK W (rw0 us)) = rw0 u1 ++ q := h2
 have hq : q = [] := by
  have at' : ∀ j, j < q.length → q.length ≤ cutK W (rw0 us) → (rw0 us)[cutK W (rw0 us) - q.length + j]? = q[j]? := fun j hj hl => by
   have e1 := congrArg List.length h2
   rw [List.length_append, List.length_take] at e1
   have e2 := congrArg (·[(rw0 u1).length + j]?) h2
   rw [List.getElem?_append_right (Nat.le_add_right _ _), Nat.add_sub_cancel_left, List.getElem?_take_of_lt (by exact nl3 [_, _, _, _, _] (.add vr0 vr1) vr2 (.add vr3 (.num 1)) vr1 vr2 vr4 (.add (.add vr0 vr3) (.num 1)) vr4 rfl (Nat.le_of_eq (Eq.symm e1)) hj (Nat.min_le_left _ _))] at e2
   rw [← e2]
   congr 1
   exact (Nat.le_antisymm (nl3 [_, _, _, _, _, _] (.add vr0 vr1) vr2 vr2 vr3 vr3 (.add vr4 vr1) (.add vr0 vr5) (.add vr4 vr5) rfl (Nat.le_of_eq (Nat.sub_add_cancel hl)) (Nat.le_of_eq (Nat.min_eq_left (nl3 [_, _, _, _] vr0 vr1 vr1 vr2 (.add vr2 (.num 1)) vr3 vr0 vr3 rfl hk.2 (Nat.sub_le _ _) h)).symm) (Nat.le_of_eq e1)) (nl3 [_, _, _, _, _, _] (.add vr0 vr1) vr2 vr2 vr3 vr3 (.add vr4 vr1) (.add vr0 vr5) (.add vr4 vr5) rfl (Nat.le_of_eq (Eq.symm e1)) (Nat.min_le_left _ _) (Nl.sb _ _)))
  have hl : q.length ≤ cutK W (rw0 us) := by
   have := congrArg List.length h2
   rw [List.length_append, List.length_take] at this; exact nl2 [_, _, _, _] (.add vr0 vr1) vr2 vr2 vr3 vr1 vr3 rfl (Nat.le_of_eq (Eq.symm this)) (Nat.min_le_left _ _)
  have key : ∀ j, j + 1 = q.length ∨ j + 2 = q.length → (rw0 us)[cutK W (rw0 us) - q.length]? = some 61 → q.length = 1 ∨ q.length = 2 → False := fun j _ h61 hlen => by
   obtain ⟨⟨a, ha, ha'⟩, b, hb, hb'⟩ := esc_at us _ hr h61
   unfold cutK at hk h61 ha hb hl
   by_cases c1 : (rw0 us)[W - 3]? = some 61
   ·rw [if_pos c1] at hk h61 ha hb hl
    rcases hlen with q1 | q1
    ·rw [q1, show W - 3 - 1 + 1 = W - 3 by exact (Nat.le_antisymm (Nat.le_of_eq (Nat.sub_add_cancel hk.1)) (Nl.sb _ _)), c1] at ha
     exact ha' (by injection ha with ha; exact ha.symm)
    ·rw [q1, show W - 3 - 2 + 2 = W - 3 by exact (Nat.le_antisymm (Nat.le_of_eq (Nat.sub_add_cancel (nl2 [_, _] (.num 2) vr0 vr0 vr1 (.num 2) vr1 rfl (Nat.le_of_eq (Eq.symm q1)) hl))) (Nl.sb _ _)), c1] at hb
     exact hb' (by injection hb with hb; exact hb.symm)
   ·rw [if_neg c1] at hk h61 ha hb hl
    by_cases c2 : (rw0 us)[W - 2]? = some 61
    ·rw [if_pos c2] at hk h61 ha hb hl
     rcases hlen with q1 | q1
     ·rw [q1, show W - 2 - 1 + 1 = W - 2 by exact (Nat.le_antisymm (Nat.le_of_eq (Nat.sub_add_cancel hk.1)) (Nl.sb _ _)), c2] at ha
      exact ha' (by injection ha with ha; exact ha.symm)
     ·rw [q1, show W - 2 - 2 + 2 = W - 2 by exact (Nat.le_antisymm (Nat.le_of_eq (Nat.sub_add_cancel (nl2 [_, _] (.num 4) vr0 vr0 (.add vr1 (.num 2)) (.num 2) vr1 rfl hW (Nl.sb _ _)))) (Nl.sb _ _)), c2] at hb
      exact hb' (by injection hb with hb; exact hb.symm)
    ·rw [if_neg c2] at h61
     rcases hlen with q1 | q1
     ·rw [q1, show W - 1 - 1 = W - 2 by exact (Nat.le_antisymm (nl3 [_, _, _, _] (.add vr0 (.num 1)) vr1 (.add vr1 (.num 1)) vr2 vr2 (.add vr3 (.num 2)) vr0 vr3 rfl (Nat.le_of_eq (Nat.sub_add_cancel (nl2 [_, _] (.num 4) vr0 vr0 (.add vr1 (.num 1)) (.num 1) vr1 rfl hW (Nl.sb _ _)))) (Nat.le_of_eq (Nat.sub_add_cancel (nl1 [_] (.num 4) vr0 (.num 1) vr0 rfl hW))) (Nl.sb _ _)) (nl3 [_, _, _, _] (.add vr0 (.num 2)) vr1 vr1 (.add vr2 (.num 1)) vr2 (.add vr3 (.num 1)) vr0 vr3 rfl (Nat.le_of_eq (Nat.sub_add_cancel (nl1 [_] (.num 4) vr0 (.num 2) vr0 rfl hW))) (Nl.sb _ _) (Nl.sb _ _)))] at h61; exact c2 h61
     ·rw [q1, show W - 1 - 2 = W - 3 by exact (Nat.le_antisymm (nl3 [_, _, _, _] (.add vr0 (.num 2)) vr1 (.add vr1 (.num 1)) vr2 vr2 (.add vr3 (.num 3)) vr0 vr3 rfl (Nat.le_of_eq (Nat.sub_add_cancel (nl2 [_, _] (.num 4) vr0 vr0 (.add vr1 (.num 1)) (.num 2) vr1 rfl hW (Nl.sb _ _)))) (Nat.le_of_eq (Nat.sub_add_cancel (nl1 [_] (.num 4) vr0 (.num 1) vr0 rfl hW))) (Nl.sb _ _)) (nl3 [_, _, _, _] (.add vr0 (.num 3)) vr1 vr1 (.add vr2 (.num 1)) vr2 (.add vr3 (.num 2)) vr0 vr3 rfl (Nat.le_of_eq (Nat.sub_add_cancel (nl1 [_] (.num 4) vr0 (.num 3) vr0 rfl hW))) (Nl.sb _ _) (Nl.sb _ _)))] at h61; exact c1 h61
  induction h3 with
  | none => rfl
  | eq => exact (key 0 (.inl rfl) (at' 0 (by simp) hl) (.inl rfl)).elim
  | hex _ => exact (key 0 (.inr rfl) (at' 0 (by simp) hl) (.inr rfl)).elim
  | so he _ => contradiction
  | ha he _ => contradiction
 rw [hq, List.append_nil] at h2
 refine ⟨u1, u2, h1, h2, ?_⟩
 have e1 := List.take_append_drop (cutK W (rw0 us)) (rw0 us)
 have e2 : rw0 us = rw0 u1 ++ rw0 u2 := by rw [h1]; exact rend_append ..
 have h2' : (rw0 us).take (cutK W (rw0 us)) = rw0 u1 := h2
 rw [h2'] at e1
 exact List.append_cancel_left (e1.trans e2)
structure LineT (W : Nat) (e : List Nat) (us tl : List Tk) : Prop where
 ok : ∀ rest, okT W 0 false rest → okT W 0 false (tl ++ rest)
 v : val tl = val us ++ [10]
 r : rend (61 :: e) e tl = (encRows W e (rw0 us)).flatMap (· ++ e)
 la : ∃ r, tl = r ++ [.ha]
 n : (encRows W e (rw0 us)).length ≤ (rw0 us).length + 1 ∧ ((encRows W e (rw0 us)).flatMap id).length ≤ 2 * (rw0 us).length + 6
theorem last_toks {W : Nat} (hW : 4 ≤ W) {e : List Nat} (he : endsL e) {us : List Tk} (hr : rowT us) (h : (rw0 us).length ≤ W) : ∃ tl, LineT W e us tl := by
 have hel : e.length ≤ 2 := by rcases he with rfl | rfl <;> simp
 have e1 : encRows W e (rw0 us) = [lastRow W e (rw0 us)] := by unfold encRows; rw [cutR_done h]; rfl
 have mk : ∀ tl r, tl = r ++ [Tk.ha] → (∀ rest, okT W 0 false rest → okT W 0 false (tl ++ rest)) → val tl = val us ++ [10] → rend (61 :: e) e tl = lastRow W e (rw0 us) ++ e → (lastRow W e (rw0 us)).length ≤ (rw0 us).length + 5 → LineT W e us tl := fun tl r h1 h2 h3 h4 h5 =>
  ⟨h2, h3, by rw [e1, h4]; simp, ⟨r, h1⟩, by rw [e1, List.length_singleton]; exact nl0 [_] (.num 1) (.add vr0 (.num 1)) rfl, by rw [e1, List.flatMap_singleton]; show (lastRow W e (rw0 us)).length ≤ _; exact nl1 [_, _] vr0 (.add vr1 (.num 5)) vr0 (.add (.mulL 2 vr1) (.num 6)) rfl h5⟩
 have plain : lastB false us = false → lastRow W e (rw0 us) = rw0 us → ∃ tl, LineT W e us tl := fun hb hl => by
  refine ⟨us ++ [.ha], mk _ us rfl (fun rest hrest => ?_) (by rw [val_append]; rfl) ?_ (by rw [hl]; exact nl0 [_] vr0 (.add vr0 (.num 5)) rfl)⟩
  ·rw [List.append_assoc]
   exact okT_row us 0 false hr (by exact nl1 [_, _] vr0 vr1 (.add (.num 0) vr0) vr1 rfl h) ⟨hb, hrest⟩
  ·rw [rend_append, rend_row hr, hl]; simp [Tk.w]
 rcases snoc_cases us with rfl | ⟨r, t, rfl⟩
 ·exact plain rfl rfl
 ·refine el23 (pl_signs (s := [61, 10]) (e := [10]) (hr t (by simp))) fun l c k1 k2 k3 => ?_
  have hr' : rowT r := fun u hu => hr u (List.mem_append_left _ hu)
  have er : rw0 (r ++ [t]) = rw0 r ++ l ++ [c] := by rw [rw0, rend_append, List.append_assoc, ← k1]; simp
  have eg : (rw0 (r ++ [t])).getLast? = some c := by rw [er, List.getLast?_concat]
  by_cases hb : c = 32 ∨ c = 9
  ·have hbl : t.b = true := by rw [← k3]; rcases hb with rfl | rfl <;> rfl
   induction t with
   | ch d =>
    have : l = [] ∧ d = c := by
     induction l with
     | nil => exact ⟨rfl, by injection k1⟩
     | cons x l => exfalso; have := congrArg List.length k1; simp [Tk.w] at this
    obtain ⟨rfl, rfl⟩ := this
    rw [List.append_nil] at er
    have hdl : (rw0 (r ++ [.ch d])).dropLast = rw0 r := by rw [er, List.dropLast_concat]
    have hlen : (rw0 (r ++ [.ch d])).length = (rw0 r).length + 1 := by rw [er]; simp
    have hlr : lastRow W e (rw0 (r ++ [.ch d])) = rw0 r ++ (if (rw0 r).length + 3 ≤ W then esc d else if (rw0 r).length + 2 = W then [d] ++ ([61] ++ e) else ([61] ++ e) ++ esc d) := by
     unfold lastRow
     rw [eg]
     dsimp only
     rw [if_pos hb, hdl, hlen]
    rw [hlen] at h
    have hd : d < 256 := by exact (Or.elim hb (fun hy0 => (nl1 [_] vr0 (.num 32) (.add vr0 (.num 1)) (.num 256) rfl (Nat.le_of_eq hy0))) fun hy0 => (nl1 [_] vr0 (.num 9) (.add vr0 (.num 1)) (.num 256) rfl (Nat.le_of_eq hy0)))
    have hp : chOk d := hr (.ch d) (by simp)
    have hvl : val (r ++ [.ch d]) = val r ++ [d] := by rw [val_append]; rfl
    by_cases q1 : (rw0 r).length + 3 ≤ W
    ·rw [if_pos q1] at hlr
     refine ⟨r ++ [.es d, .ha], mk _ (r ++ [.es d]) (by simp) (fun rest hrest => ?_) (by rw [val_append, hvl]; simp [Tk.v]) ?_ (by rw [hlr, hlen]; simp [esc])⟩
     ·rw [List.append_assoc]
      exact okT_row r 0 false hr' (by exact nl1 [_, _] (.add vr0 (.num 1)) vr1 (.add (.num 0) vr0) vr1 rfl h) ⟨hd, by exact nl1 [_, _] (.add vr0 (.num 3)) vr1 (.add (.add (.num 0) vr0) (.num 3)) vr1 rfl q1, rfl, hrest⟩
     ·rw [rend_append, rend_row hr', hlr]; simp [Tk.w]
    ·rw [if_neg q1] at hlr
     by_cases q2 : (rw0 r).length + 2 = W
     ·rw [if_pos q2] at hlr
      refine ⟨r ++ [.ch d, .so, .ha], mk _ (r ++ [.ch d, .so]) (by simp) (fun rest hrest => ?_) (by rw [val_append, hvl]; simp [Tk.v]) ?_ (by rw [hlr, hlen]; simp; exact nl1 [_, _] vr0 (.num 2) (.add vr1 (.add (.add vr0 (.num 1)) (.num 1))) (.add (.add vr1 (.num 1)) (.num 5)) rfl hel)⟩
      ·rw [List.append_assoc]
       exact okT_row r 0 false hr' (by exact nl1 [_, _] (.add vr0 (.num 1)) vr1 (.add (.num 0) vr0) vr1 rfl h) ⟨hp, by exact nl1 [_, _] (.add vr0 (.num 1)) vr1 (.add (.add (.num 0) vr0) (.num 1)) vr1 rfl h, by exact nl1 [_, _] (.add vr0 (.num 2)) vr1 (.add (.add (.add (.num 0) vr0) (.num 1)) (.num 1)) vr1 rfl (Nat.le_of_eq q2), rfl, hrest⟩
      ·rw [rend_append, rend_row hr', hlr]; simp [Tk.w]
     ·rw [if_neg q2] at hlr
      refine ⟨r ++ [.so, .es d, .ha], mk _ (r ++ [.so, .es d]) (by simp) (fun rest hrest => ?_) (by rw [val_append, hvl]; simp [Tk.v]) ?_ (by rw [hlr, hlen]; simp [esc]; exact nl1 [_, _] vr0 (.num 2) (.add vr1 (.add (.add vr0 (.num 3)) (.num 1))) (.add (.add vr1 (.num 1)) (.num 5)) rfl hel)⟩
      ·rw [List.append_assoc]
       exact okT_row r 0 false hr' (by exact nl1 [_, _] (.add vr0 (.num 1)) vr1 (.add (.num 0) vr0) vr1 rfl h) ⟨by exact nl1 [_, _] (.add vr0 (.num 1)) vr1 (.add (.add (.num 0) vr0) (.num 1)) vr1 rfl h, hd, by exact nl1 [_] (.num 4) vr0 (.add (.num 0) (.num 3)) vr0 rfl hW, rfl, hrest⟩
      ·rw [rend_append, rend_row hr', hlr]; simp [Tk.w]
   | es _ => contradiction
   | so => contradiction
   | ha => contradiction
  ·refine plain ?_ ?_
   ·rw [lastB_snoc, ← k3]
    unfold blankC
    simp
    lia
   ·unfold lastRow
    rw [eg]
    dsimp only
    rw [if_neg hb]
theorem line_toks {W : Nat} (hW : 4 ≤ W) {e : List Nat} (he : endsL e) : ∀ (n : Nat) (us : List Tk), (rw0 us).length ≤ n → rowT us → ∃ tl, LineT W e us tl
 | 0, us, hn, hr => last_toks hW he hr (by exact nl1 [_, _] vr0 (.num 0) vr0 vr1 rfl hn)
 | n + 1, us, hn, hr => by
  by_cases h : (rw0 us).length ≤ W
  ·exact last_toks hW he hr h
  ·refine el23 (cut_toks hW hr (by exact (Nat.lt_of_not_le h))) fun u1 u2 h1 h2 h3 => ?_
   have hk := cutK_pos hW (rw0 us)
   have r1 : rowT u1 := fun u hu => hr u (by rw [h1]; exact List.mem_append_left _ hu)
   have r2 : rowT u2 := fun u hu => hr u (by rw [h1]; exact List.mem_append_right _ hu)
   have l1 : (rw0 u1).length = cutK W (rw0 us) := by rw [← h2, List.length_take]; exact (Nat.le_antisymm (Nat.min_le_left _ _) (Nat.le_of_eq (Nat.min_eq_left (nl3 [_, _, _, _] vr0 vr1 vr1 vr2 (.add vr2 (.num 1)) vr3 vr0 vr3 rfl hk.2 (Nat.sub_le _ _) (Nat.lt_of_not_le h))).symm))
   have l2 : (rw0 u2).length = (rw0 us).length - cutK W (rw0 us) := by rw [← h3, List.length_drop]
   obtain ⟨tl, g1, g2, g3, ⟨r, g4⟩, g5, g6⟩ := line_toks hW he n u2 (by exact nl4 [_, _, _, _, _] vr0 vr1 (.add vr1 vr2) vr3 vr3 (.add vr4 (.num 1)) (.num 1) vr2 vr0 vr4 rfl (Nat.le_of_eq l2) (Nat.le_of_eq (Nat.sub_add_cancel (nl3 [_, _, _, _] vr0 vr1 vr1 vr2 (.add vr2 (.num 1)) vr3 vr0 vr3 rfl hk.2 (Nat.sub_le _ _) (Nat.lt_of_not_le h)))) hn hk.1) r2
   have er : encRows W e (rw0 us) = (rw0 u1 ++ [61]) :: encRows W e (rw0 u2) := by
    unfold encRows
    rw [cutR_step hW (by exact (Nat.lt_of_not_le h)), h2, h3]; rfl
   refine ⟨u1 ++ .so :: tl, fun rest hrest => ?_, ?_, ?_, ⟨u1 ++ .so :: r, by rw [g4]; simp⟩, ?_, ?_⟩
   ·rw [List.append_assoc]
    exact okT_row u1 0 false r1 (by exact nl3 [_, _, _, _] vr0 vr1 vr1 vr2 vr2 vr3 (.add (.num 0) vr0) vr3 rfl (Nat.le_of_eq l1) hk.2 (Nat.sub_le _ _)) ⟨by exact nl3 [_, _, _, _] vr0 vr1 vr1 vr2 (.add vr2 (.num 1)) vr3 (.add (.add (.num 0) vr0) (.num 1)) vr3 rfl (Nat.le_of_eq l1) hk.2 (Nat.le_of_eq (Nat.sub_add_cancel (nl1 [_] (.num 4) vr0 (.num 1) vr0 rfl hW))), g1 rest hrest⟩
   ·rw [val_append, h1, val_append, List.append_assoc]
    exact congrArg (val u1 ++ ·) g2
   ·rw [rend_append, rend_row r1, er, List.flatMap_cons, ← g3]; simp [Tk.w]
   ·rw [er, List.length_cons]; exact nl4 [_, _, _, _, _] vr0 (.add vr1 (.num 1)) vr1 vr2 (.add vr2 vr3) vr4 (.num 1) vr3 (.add vr0 (.num 1)) (.add vr4 (.num 1)) rfl g5 (Nat.le_of_eq l2) (Nat.le_of_eq (Nat.sub_add_cancel (nl3 [_, _, _, _] vr0 vr1 vr1 vr2 (.add vr2 (.num 1)) vr3 vr0 vr3 rfl hk.2 (Nat.sub_le _ _) (Nat.lt_of_not_le h)))) hk.1
   ·rw [er, List.flatMap_cons, List.length_append]
    simp only [id, List.length_append, List.length_singleton]
    lia
theorem nil_all {α : Type} {P : α → Prop} : ∀ c ∈ ([] : List α), P c := fun _ h => nomatch h
theorem split10 : ∀ L : List Nat, ∃ (lls : List (List Nat)) (l0 : List Nat), L = lls.flatMap (fun l => l ++ [10]) ++ l0 ∧ (∀ l ∈ lls, ∀ c ∈ l, c ∈ L ∧ c ≠ 10) ∧ ∀ c ∈ l0, c ≠ 10
 | [] => ⟨[], [], rfl, nil_all, nil_all⟩
 | c :: L => by
  refine el23 (split10 L) fun lls l0 h1 h2 h3 => ?_
  by_cases hc : c = 10
  ·subst hc
   refine ⟨[] :: lls, l0, by rw [h1]; rfl, fun l hl d hd => ?_, h3⟩
   rcases List.mem_cons.mp hl with rfl | hl
   ·contradiction
   ·exact ⟨List.mem_cons_of_mem _ (h2 l hl d hd).1, (h2 l hl d hd).2⟩
  ·induction lls with
   | nil =>
    refine ⟨[], c :: l0, by rw [h1]; rfl, nil_all, fun d hd => ?_⟩
    rcases List.mem_cons.mp hd with rfl | hd
    ·exact hc
    ·exact h3 d hd
   | cons l lls =>
    refine ⟨(c :: l) :: lls, l0, by rw [h1]; rfl, fun l' hl d hd => ?_, h3⟩
    rcases List.mem_cons.mp hl with rfl | hl
    ·rcases List.mem_cons.mp hd with rfl | hd
     ·exact ⟨List.mem_cons_self, hc⟩
     ·exact ⟨List.mem_cons_of_mem _ (h2 l (by simp) d hd).1, (h2 l (by simp) d hd).2⟩
    ·exact ⟨List.mem_cons_of_mem _ (h2 l' (List.mem_cons_of_mem _ hl) d hd).1, (h2 l' (List.mem_cons_of_mem _ hl) d hd).2⟩
theorem row_encT {l : List Nat} (h : ∀ c ∈ l, (c < 256 ∧ c ≠ 13) ∧ c ≠ 10) : rowT (l.map encT) ∧ rw0 (l.map encT) = l.flatMap encC ∧ val (l.map encT) = l := by
 induction l with
 | nil => exact ⟨row_nil, rfl, rfl⟩
 | cons c r ih =>
  refine el03 (ih fun d hd => h d (List.mem_cons_of_mem _ hd)) fun h1 h2 h3 => ?_
  have hc := h c List.mem_cons_self
  have key : plT (encT c) ∧ (encT c).w [61, 10] [10] = encC c ∧ (encT c).v = [c] := by
   unfold encT encC
   by_cases q : plainC c = true
   ·rw [if_pos q, if_pos q]
    refine ⟨?_, rfl, rfl⟩
    unfold plainC at q
    simp at q
    show (c = 9 ∨ 32 ≤ c ∧ c ≤ 126) ∧ c ≠ 61
    lia
   ·rw [if_neg q, if_neg q]
    exact ⟨hc.1.1, rfl, rfl⟩
  rw [List.map_cons]
  refine ⟨List.forall_mem_cons.mpr ⟨key.1, h1⟩, ?_, ?_⟩
  ·show (encT c).w [61, 10] [10] ++ rw0 (r.map encT) = encC c ++ r.flatMap encC
   rw [key.2.1, h2]
  ·show (encT c).v ++ val (r.map encT) = c :: r
   rw [key.2.2, h3]; rfl
theorem joinL_end (e : List Nat) : ∀ rows : List (List Nat), joinL e (rows ++ [[]]) = rows.flatMap (· ++ e)
 | [] => rfl
 | x :: r => by
  have key : ∀ (r : List (List Nat)) (x : List Nat), x ++ (r ++ [[]]).flatMap (fun y => e ++ y) = (x :: r).flatMap (· ++ e) := fun r => by
   induction r with
   | nil => intro x; simp
   | cons y r ih =>
    intro x
    have := ih y
    rw [List.cons_append, List.flatMap_cons, List.append_assoc, this]; simp
  exact key r x
noncomputable def bodyF (W : Nat) (e L : List Nat) : List Nat := joinL e (encAll W e (L.flatMap encC))
theorem body_toks {W : Nat} (hW : 4 ≤ W) (hW1 : W ≤ 1000) {e : List Nat} (he : endsL e) {L l' : List Nat} (hL : ∀ c ∈ L, c < 256 ∧ c ≠ 13) (hl : L = l' ++ [10]) (hn : L.length ≤ 1000) :
  EncOk W e L ∧ ∃ ts r, ts = r ++ [.ha] ∧ okT W 0 false ts ∧ val ts = L ∧ rend (61 :: e) e ts = bodyF W e L ∧ (bodyF W e L).length ≤ 30000 := by
 refine el23 (split10 L) fun lls l0 h1 h2 h3 => ?_
 have h0 : l0 = [] := by
  rcases snoc_cases l0 with q | ⟨y, c, rfl⟩
  ·exact q
  ·exfalso
   have := congrArg List.getLast? (hl.symm.trans h1)
   rw [List.getLast?_concat, ← List.append_assoc, List.getLast?_concat] at this
   injection this with this
   exact h3 c (by simp) this.symm
 subst h0
 rw [List.append_nil] at h1
 have hc : ∀ l ∈ lls, ∀ c ∈ l, (c < 256 ∧ c ≠ 13) ∧ c ≠ 10 := fun l hl c hc' => ⟨hL c (h2 l hl c hc').1, (h2 l hl c hc').2⟩
 have hne : lls ≠ [] := by rintro rfl; rw [hl] at h1; simp at h1
 have he10 : encC 10 = [10] := rfl
 have hx : L.flatMap encC = (lls.map fun l => l.flatMap encC).flatMap fun l => l ++ [10] := by
  rw [h1]
  clear h1 hne h2 hc
  induction lls with
  | nil => rfl
  | cons l r ih =>
   rw [List.flatMap_cons, List.flatMap_append, ih, List.flatMap_append, List.map_cons, List.flatMap_cons]
   simp [he10]
 have hls : Ls (L.flatMap encC) (lls.map fun l => l.flatMap encC) := by
  rw [hx]
  clear hx h1 hne h2
  induction lls with
  | nil => exact .nil
  | cons l r ih =>
   refine el03 (row_encT (hc l List.mem_cons_self)) fun g1 g2 _ => ?_
   rw [List.map_cons, List.flatMap_cons, List.append_assoc]
   exact .lf (by rw [← g2]; exact row_nb g1) (ih fun l hl => hc l (List.mem_cons_of_mem _ hl))
 have hlast : (L.flatMap encC).getLast? = some 10 := by rw [hl, List.flatMap_append, List.flatMap_singleton, he10, List.getLast?_concat]
 have hall : encAll W e (L.flatMap encC) = (lls.flatMap fun l => encRows W e (l.flatMap encC)) ++ [[]] := by
  unfold encAll encLines
  rw [hls.lines, if_pos (.inl hlast), List.map_map, List.map_map, List.flatMap_map]
  rfl
 have hxl : (L.flatMap encC).length ≤ 3 * L.length := by
  clear h1 h2 hc hx hls hlast hall hl hL hn
  induction L with
  | nil => exact Nat.le_refl _
  | cons c r ih =>
   have : (encC c).length ≤ 3 := by unfold encC esc; split <;> simp
   rw [List.flatMap_cons, List.length_append, List.length_cons]; exact nl2 [_, _, _] vr0 (.num 3) vr1 (.mulL 3 vr2) (.add vr0 vr1) (.mulL 3 (.add vr2 (.num 1))) rfl this ih
 have key : ∃ ts, okT W 0 false ts ∧ val ts = L ∧ rend (61 :: e) e ts = (lls.flatMap fun l => encRows W e (l.flatMap encC)).flatMap (· ++ e) ∧ (lls ≠ [] → ∃ r, ts = r ++ [.ha]) ∧
   (lls.flatMap fun l => encRows W e (l.flatMap encC)).length ≤ (L.flatMap encC).length ∧ ((lls.flatMap fun l => encRows W e (l.flatMap encC)).flatMap id).length ≤ 6 * (L.flatMap encC).length := by
  rw [hx, h1]
  clear hx h1 hne hls hlast hall h2 hxl
  induction lls with
  | nil => exact ⟨[], trivial, rfl, rfl, fun q => absurd rfl q, Nat.le_refl _, Nat.le_refl _⟩
  | cons l lr ih =>
   refine el16 (ih fun l hl => hc l (List.mem_cons_of_mem _ hl)) fun ts i1 i2 i3 i4 i5 i6 => ?_
   refine el03 (row_encT (hc l List.mem_cons_self)) fun g1 g2 g3 => ?_
   obtain ⟨tl, k1, k2, k3, ⟨r, k4⟩, k5, k6⟩ := line_toks hW he _ (l.map encT) (Nat.le_refl _) g1
   rw [g2] at k3 k5 k6
   rw [g3] at k2
   refine ⟨tl ++ ts, k1 ts i1, by rw [val_append, k2, i2]; rfl, by rw [rend_append, k3, i3, List.flatMap_cons, List.flatMap_append], fun _ => ?_, ?_, ?_⟩
   ·by_cases q : lr = []
    ·subst q
     have : ts = [] := by
      induction ts with
      | nil => rfl
      | cons t ts =>
       exfalso
       have e2 : t.w (61 :: e) e ++ rend (61 :: e) e ts = [] := i3
       have e3 : t.w (61 :: e) e ≠ [] := by
        rcases he with rfl | rfl <;> cases t <;> simp [Tk.w, esc]
       exact e3 (List.append_eq_nil_iff.mp e2).1
     rw [this, List.append_nil]; exact ⟨r, k4⟩
    ·refine el11 (i4 q) fun r' hr' => ?_
     exact ⟨tl ++ r', by rw [hr', List.append_assoc]⟩
   ·simp only [List.map_cons, List.flatMap_cons, List.length_append, List.length_singleton] at i5 ⊢
    exact nl2 [_, _, _, _] vr0 (.add vr1 (.num 1)) vr2 vr3 (.add vr0 vr2) (.add (.add vr1 (.num 1)) vr3) rfl k5 i5
   ·simp only [List.map_cons, List.flatMap_cons, List.flatMap_append, List.length_append, List.length_singleton] at i6 ⊢
    exact nl2 [_, _, _, _] vr0 (.add (.mulL 2 vr1) (.num 6)) vr2 (.mulL 6 vr3) (.add vr0 vr2) (.mulL 6 (.add (.add vr1 (.num 1)) vr3)) rfl k6 i6
 refine el16 (key) fun ts i1 i2 i3 i4 i5 i6 => ?_
 refine el11 (i4 hne) fun r i4 => ?_
 have hbd : bodyF W e L = (lls.flatMap fun l => encRows W e (l.flatMap encC)).flatMap (· ++ e) := by unfold bodyF; rw [hall, joinL_end]
 have hel : e.length ≤ 2 := by rcases he with rfl | rfl <;> simp
 have hfl : (encAll W e (L.flatMap encC)).length ≤ 5000 ∧ ((encAll W e (L.flatMap encC)).flatMap id).length ≤ 18000 := by
  rw [hall]
  refine ⟨by rw [List.length_append, List.length_singleton]; exact nl5 [_, _, _] vr0 vr1 vr1 (.mulL 3 vr2) vr2 (.num 1000) vr2 (.num 1000) vr2 (.num 1000) (.add vr0 (.num 1)) (.num 5000) rfl i5 hxl hn hn hn, ?_⟩
  rw [List.flatMap_append, List.length_append, List.flatMap_singleton]
  simp only [id, List.length_nil]; exact nl3 [_, _, _] vr0 (.mulL 6 vr1) (.mulL 6 vr1) (.mulL 6 (.mulL 3 vr2)) (.mulL 18 vr2) (.mulL 18 (.num 1000)) (.add vr0 (.num 0)) (.num 18000) rfl i6 (Nat.mul_le_mul_left 6 hxl) (Nat.mul_le_mul_left 18 hn)
 refine ⟨⟨by rw [hl]; simp, fun c hc => (hL c hc).1, hW, hW1, by exact nl1 [_] vr0 (.num 2) vr0 (.num 10) rfl hel, by exact nl4 [_, _] vr0 (.mulL 3 vr1) vr1 (.num 1000) vr1 (.num 1000) vr1 (.num 1000) vr0 (.num 100000) rfl hxl hn hn hn, ?_, fun y hy => ?_, by exact nl1 [_] vr0 (.num 5000) vr0 (.num 100000) rfl hfl.1, joinOk_of (n := 100000) (by exact nl1 [_] vr0 (.num 5000) vr0 (.num 100000) rfl hfl.1) (by exact nl1 [_] vr0 (.num 18000) vr0 (.num 100000) rfl hfl.2) (by exact nl1 [_] vr0 (.num 2) vr0 (.num 10) rfl hel) (Nat.le_refl _)⟩, ts, r, i4, i1, i2, by rw [hbd]; exact i3, ?_⟩
 ·have := PyProof.Rows.lineCuts_le (tx (L.flatMap encC))
  rw [txl] at this; exact nl5 [_, _, _] vr0 (.add vr1 (.num 1)) vr1 (.mulL 3 vr2) vr2 (.num 1000) vr2 (.num 1000) vr2 (.num 1000) vr0 (.num 100000) rfl this hxl hn hn hn
 ·have := PyProof.Rows.line_short hy
  rw [txl (L.flatMap encC)] at this; exact nl5 [_, _, _] vr0 vr1 vr1 (.mulL 3 vr2) vr2 (.num 1000) vr2 (.num 1000) vr2 (.num 1000) vr0 (.num 100000) rfl this hxl hn hn hn
 ·rw [hbd]
  have key : ∀ rows : List (List Nat), (rows.flatMap (· ++ e)).length ≤ (rows.flatMap id).length + 2 * rows.length := fun rows => by
   induction rows with
   | nil => exact Nat.le_refl _
   | cons x r ih =>
    simp only [List.flatMap_cons, List.length_append, id, List.length_cons] at ih ⊢
    exact nl2 [_, _, _, _, _] vr0 (.num 2) vr1 (.add vr2 (.mulL 2 vr3)) (.add (.add vr4 vr0) vr1) (.add (.add vr4 vr2) (.mulL 2 (.add vr3 (.num 1)))) rfl hel ih
  refine Nat.le_trans (key _) ?_
  have h5 := hfl.2
  rw [hall, List.flatMap_append, List.length_append] at h5
  exact nl4 [_, _, _, _, _] (.mulL 2 vr0) (.mulL 2 vr1) (.mulL 2 vr1) (.mulL 2 (.mulL 3 vr2)) (.mulL 6 vr2) (.mulL 6 (.num 1000)) (.add vr3 vr4) (.num 18000) (.add vr3 (.mulL 2 vr0)) (.num 30000) rfl (Nat.mul_le_mul_left 2 i5) (Nat.mul_le_mul_left 2 hxl) (Nat.mul_le_mul_left 6 hn) h5
end
section
open PySem.Builtin
variable {w : World} {T : Addr → Obj → Prop}
theorem law_e {A : Around} {C : Cx} {E : Value → Shared → Prop} {n : Nat} (hF : (Fx.mk w A C E (fnAt 78).2.2 gl T n).Ok) {ns : List Int} (hz : (signsF (modes ns)).length ≤ 1000) (hl : (listF (modes ns)).length ≤ 1000) (heq : (signsF (modes ns)).flatMap (·.1) = listF (modes ns)) {Q : Fl → Sy → Prop} {a b c d : Option AV}
  (h : SemSs ⟨w, A, C, E, (fnAt 78).2.2, gl, T, n⟩ (lawB.drop 7) ⟨fsL ns [a, b, c, d, some (.dat (.list ((signsF (modes ns)).map sgnD))), some (.str (tx (listF (modes ns)))), none, none, none], []⟩ Q) :
  SemSs ⟨w, A, C, E, (fnAt 78).2.2, gl, T, n⟩ (lawB.drop 6) ⟨fsL ns [a, b, c, d, some (.dat (.list ((signsF (modes ns)).map sgnD))), some (.str (tx (listF (modes ns)))), none, none, none], []⟩ Q := by
 refine sems_cut hF 30 1 (by decide) _ ?_ h
 walk_at "vgo"
 refine comp_ok (S₀ := ⟨fsL ns [a, b, c, d, some (.dat (.list ((signsF (modes ns)).map sgnD))), some (.str (tx (listF (modes ns)))), none, none, none], []⟩) hF 20 (((signsF (modes ns)).map sgnD).map ofD) (fun i => ((signsF (modes ns))[i]?).bind fun p => some (.str (tx p.1))) ["sign", "deed"] (fun _ => rfl) (by rfl) (by kernel_rfl) (by kernel_rfl) rfl (by kernel_rfl) (by kernel_rfl) (by simp; exact nl1 [_] vr0 (.num 1000) vr0 (.num 100000) rfl hz) ?_ ?_ ?_
 ·walk_at "vgo"
  exact ⟨rfl, rfl⟩
 ·intro C' E' i a hF' ha
  rw [List.map_map, List.getElem?_map] at ha
  obtain ⟨p, h1, rfl⟩ := Option.map_eq_some_iff.mp ha
  rw [h1]
  walk_at "vgo"
  exact ⟨rfl, rfl⟩
 ·have e : (List.range (((signsF (modes ns)).map sgnD).map ofD).length).filterMap (fun i => ((signsF (modes ns))[i]?).bind fun p => some (Dt.str (tx p.1))) = ((signsF (modes ns)).map fun p => tx p.1).map Dt.str := by
   rw [List.length_map, List.length_map, filterMap_range]; simp [List.filterMap_eq_map]
  rw [e]
  walk_at "vgo"
  refine l_join (texts := (signsF (modes ns)).map fun p => tx p.1) rfl ?_ ?_
  ·have := joinOk_of (e := []) (ls := (signsF (modes ns)).map (·.1)) (n := 1000) (by rw [List.length_map]; exact hz) (by rw [flat_id, heq]; exact hl) (by simp) (by exact nl0 [] (.num 1000) (.num 100000) rfl)
   rw [List.map_map] at this
   exact this
  ·have hj : Txt.join (tx []) ((signsF (modes ns)).map fun p => tx p.1) = tx (listF (modes ns)) := by
    have := join_tx [] ((signsF (modes ns)).map (·.1))
    rw [List.map_map] at this
    exact Eq.trans this (congrArg tx ((joinL_nil (·.1) (signsF (modes ns))).trans heq))
   rw [show Str.ofString "" = tx [] from rfl, hj]
   have hs : (!seq (tx (listF (modes ns))) (tx (listF (modes ns)))) = false := by rw [tx_seq]; simp
   walk_at "vgo"
   exact ⟨rfl⟩
end
section
open PySem.Builtin
variable {w : World} {T : Addr → Obj → Prop}
noncomputable abbrev stL (ns : List Int) (wd : Int) (en : List Nat) (t : Tok) (ls bd : List Nat) (sz pl : Option AV) : Sy :=
 ⟨fsL ns [some (.int ns.sum), some (.int wd), some (.strk (tx en) t), some (.dat (.list ((modes ns).map fileD))), some (.dat (.list ((signsF (modes ns)).map sgnD))), some (.str (tx ls)), some (.str (tx bd)), sz, pl], []⟩
theorem law_f {A : Around} {C : Cx} {E : Value → Shared → Prop} {n : Nat} (hF : (Fx.mk w A C E (fnAt 78).2.2 gl T n).Ok) (hn : 2 ≤ n) {ns : List Int} {wd : Int} {en ls bd : List Nat} {t : Tok} (hbe : FnOk w T 2 87 [.str (tx ls), .int wd, .strk (tx en) t] (.str (tx bd))) {Q : Fl → Sy → Prop}
  (h : SemSs ⟨w, A, C, E, (fnAt 78).2.2, gl, T, n⟩ (lawB.drop 8) (stL ns wd en t ls bd none none) Q) :
  SemSs ⟨w, A, C, E, (fnAt 78).2.2, gl, T, n⟩ (lawB.drop 7) ⟨fsL ns [some (.int ns.sum), some (.int wd), some (.strk (tx en) t), some (.dat (.list ((modes ns).map fileD))), some (.dat (.list ((signsF (modes ns)).map sgnD))), some (.str (tx ls)), none, none, none], []⟩ Q := by
 refine sems_cut hF 30 1 (by decide) _ ?_ h
 walk_at "vgo"
 ·exact fn_okF hF hbe
 ·refine ⟨fn_call hF hbe (by show 2 ≤ n; omega) rfl ?_⟩
  walk_at "vgo"
  exact ⟨rfl⟩
end
section
open PySem.Builtin
variable {w : World} {T : Addr → Obj → Prop}
theorem sml_tok2 {F : Fx} {f a : AV} {y : Str} {t : Tok} {S : Sy} {Q : AV → Sy → Prop} (h : Leaf (SmL F f [a, .str y] S Q)) : Leaf (SmL F f [a, .strk y t] S Q) := by
 refine ⟨fun s ρ fv vs I hf hvs => ?_⟩
 cases hvs with | cons h1 h2 => ?_
 cases h2 with | cons h2 h3 => ?_
 cases h3
 exact h.out s ρ fv _ I hf (.cons h1 (.cons ⟨t, h2⟩ .nil))
theorem law_g {A : Around} {C : Cx} {E : Value → Shared → Prop} {n : Nat} (hF : (Fx.mk w A C E (fnAt 78).2.2 gl T n).Ok) (hn : 2 ≤ n) {ns : List Int} {wd : Int} {t : Tok} {en ls bd : List Nat} {rows : List (List Nat)} (hen : en ≠ []) (hbd : bd.length ≤ 100000) (hsp : Txt.split (tx bd) (tx en) = rows.map tx) (hr0 : 0 < rows.length) (hr1 : rows.length ≤ 100000) (hrw : ∀ r ∈ rows, (r.length : Int) ≤ wd) (hrs : ∀ r ∈ rows, r.length ≤ 100000)
  (hde : FnOk w T 2 95 [.str (tx bd)] (.str (tx ls))) {Q : Fl → Sy → Prop}
  (h : SemSs ⟨w, A, C, E, (fnAt 78).2.2, gl, T, n⟩ (lawB.drop 9) (stL ns wd en t ls bd none none) Q) :
  SemSs ⟨w, A, C, E, (fnAt 78).2.2, gl, T, n⟩ (lawB.drop 8) (stL ns wd en t ls bd none none) Q := by
 refine sems_cut hF 30 1 (by decide) _ ?_ h
 walk_at "vgo"
 refine comp_ok (S₀ := stL ns wd en t ls bd none none) hF 20 ((rows.map fun r => Dt.str (tx r)).map ofD) (fun i => (rows[i]?).bind fun r => some (.int (r.length : Int))) ["row"] (fun _ => rfl) (by rfl) (by kernel_rfl) (by kernel_rfl) rfl (by kernel_rfl) (by kernel_rfl) (by simpa using hr1) ?_ ?_ ?_
 ·walk_at "vgo"
  refine sml_tok2 (l_split ?_ ?_ ?_)
  ·induction en with | nil => exact absurd rfl hen | cons _ _ => rfl
  ·rw [txl, sizeLine_eq]; exact nl1 [_] vr0 (.num 100000) (.add vr0 (.num 2)) (.num 16777216) rfl hbd
  ·walk_at "vgo"
   refine ⟨⟨?_, rfl⟩⟩
   rw [hsp, List.map_map]; rfl
 ·intro C' E' i a hF' ha
  rw [List.map_map, List.getElem?_map] at ha
  obtain ⟨r, h1, rfl⟩ := Option.map_eq_some_iff.mp ha
  rw [h1]
  have hr := hrs r (List.mem_of_getElem? h1)
  walk_at "vgo"
  ·rw [txl, sizeLine_eq]; exact nl1 [_] vr0 (.num 100000) vr0 (.num 16777216) rfl hr
  ·rw [txl]; exact ⟨rfl, rfl⟩
 ·have e : (List.range ((rows.map fun r => Dt.str (tx r)).map ofD).length).filterMap (fun i => (rows[i]?).bind fun r => some (Dt.int (r.length : Int))) = (rows.map fun r => (r.length : Int)).map Dt.int := by
   rw [List.length_map, List.length_map, filterMap_range]; simp [List.filterMap_eq_map]
  rw [e]
  walk_at "vgo"
  refine l_max hF (ns := rows.map fun r => (r.length : Int)) rfl (by rw [List.length_map]; exact hr0) fun M hM _ => ?_
  obtain ⟨r, hr, rfl⟩ := List.mem_map.mp hM
  have hc : decide ((r.length : Int) > wd) = false := by have := hrw r hr; simp; lia
  have hs : (!seq (tx ls) (tx ls)) = false := by rw [tx_seq]; simp
  walk_at "vgo"
  ·exact fn_okF hF hde
  ·refine ⟨fn_call hF hde (by show 2 ≤ n; exact hn) rfl ?_⟩
   walk_at "vgo"
   exact ⟨rfl⟩
end
section
open PySem.Builtin
variable {w : World} {T : Addr → Obj → Prop}
theorem law_h {A : Around} {C : Cx} {E : Value → Shared → Prop} {n : Nat} (hF : (Fx.mk w A C E (fnAt 78).2.2 gl T n).Ok) {ns : List Int} {wd : Int} {t : Tok} {en ls bd : List Nat} (hbd : bd.length ≤ 100000) (hch : ∀ c ∈ bd, c ∈ ([9, 13, 10] : List Nat) ∨ (32 ≤ c ∧ c ≤ 126)) {Q : Fl → Sy → Prop}
  (h : SemSs ⟨w, A, C, E, (fnAt 78).2.2, gl, T, n⟩ (lawB.drop 10) ⟨(stL ns wd en t ls bd none none).fs, [.list []]⟩ Q) :
  SemSs ⟨w, A, C, E, (fnAt 78).2.2, gl, T, n⟩ (lawB.drop 9) (stL ns wd en t ls bd none none) Q := by
 refine sems_cut hF 30 1 (by decide) _ ?_ h
 walk_at "vgo"
 refine comp_ok (S₀ := stL ns wd en t ls bd none none) hF 20 (chs bd) (fun i => none) ["sign"] (fun _ => rfl) (by rfl) (by kernel_rfl) (by kernel_rfl) rfl (by kernel_rfl) (by kernel_rfl) (by simpa [chs] using hbd) ?_ ?_ ?_
 ·walk_at "vgo"
  exact ⟨items_str _, rfl⟩
 ·intro C' E' i a hF' ha
  obtain ⟨c, hc, rfl⟩ : ∃ c, bd[i]? = some c ∧ a = .str (tx [c]) := by
   unfold chs at ha
   rw [List.getElem?_map] at ha
   refine el12 (Option.map_eq_some_iff.mp ha) fun c h1 h2 => ?_
   exact ⟨c, h1, h2.symm⟩
  have hcc := hch c (List.mem_of_getElem? hc)
  have hct : Txt.contains (Str.ofString "\t\r\n") (tx [c]) = decide (c ∈ ([9, 13, 10] : List Nat)) := by
   rw [show Str.ofString "\t\r\n" = tx [9, 13, 10] from by kernel_rfl]; exact tx_contains _ _
  by_cases hin : c ∈ ([9, 13, 10] : List Nat)
  ·have hcn : (!Txt.contains (Str.ofString "\t\r\n") (tx [c])) = false := by rw [hct, decide_eq_true hin]; rfl
   walk_at "vgo"
   exact ⟨rfl⟩
  ·have hcn : (!Txt.contains (Str.ofString "\t\r\n") (tx [c])) = true := by rw [hct, decide_eq_false hin]; rfl
   refine el02 (hcc.resolve_left hin) fun g1 g2 => ?_
   walk_at "vgo"
   refine l_chain (i := 32) (j := (c : Int)) (k := 126) rfl ((run_ok hF' 5).ev ?_) ((run_ok hF' 5).ev ?_) ((run_ok hF' 5).ev ?_) ?_
   ·walk_at "vgo"
   ·walk_at "vgo"
    refine l_ord rfl ?_
    walk_at "vgo"
    all_goals rfl
   ·walk_at "vgo"
   ·have e1 : decide ((32 : Int) ≤ (c : Int)) = true := by simp; lia
    have e2 : decide ((c : Int) ≤ 126) = true := by simp; lia
    rw [e1, e2]
    walk_at "vgo"
    exact ⟨rfl⟩
 ·rw [show (List.range (chs bd).length).filterMap (fun _ => (none : Option Dt)) = [] from by simp]
  walk_at "vgo"
  refine l_ne hF (d1 := .list []) (d2 := .list []) rfl rfl rfl rfl rfl rfl ?_
  rw [show (!PyData.eqv (.list []) (.list [])) = false from rfl]
  walk_at "vgo"
  exact ⟨rfl⟩
end
section
open PySem.Builtin
variable {w : World} {T : Addr → Obj → Prop}
theorem l_len_tok {F : Fx} {y : Str} {t : Tok} {S : Sy} {Q : AV → Sy → Prop} (hz : y.length ≤ 100000) (h : Q (.int y.length) S) : Leaf (SmL F (.blt "len") [.strk y t] S Q) := by
 refine ⟨?_⟩
 rintro s ρ fv vs I rfl hvs
 cases hvs with | cons hv hn => ?_
 cases hn
 obtain rfl := hv
 exact SBL.len (by lia) (Pg.same I _ h ⟨_, rfl⟩)
noncomputable abbrev stLo (ns : List Int) (wd : Int) (en : List Nat) (t : Tok) (ls bd : List Nat) (sz pl : Option AV) : Sy := ⟨(stL ns wd en t ls bd sz pl).fs, [.list []]⟩
theorem law_i {A : Around} {C : Cx} {E : Value → Shared → Prop} {n : Nat} (hF : (Fx.mk w A C E (fnAt 78).2.2 gl T n).Ok) (hn : 2 ≤ n) {ns : List Int} {wd : Int} {t : Tok} {en ls bd : List Nat} {b1 b2 l1 : List Nat} (hbd : bd.length ≤ 100000) (hen : en.length ≤ 10) (he2 : en = [10] ∨ en = [13, 10]) (ht0 : 0 < t) (ht1 : t < C.t0) (hls : ls.length ≤ 100000)
  (h1 : Txt.slice (tx bd) none (some (-(en.length : Int))) = tx b1) (h2 : Txt.slice (tx ls) none (some (-1)) = tx l1) (h3 : Txt.replace (tx bd) (tx en) (tx ([32, 9] ++ en)) = tx b2) (hd1 : FnOk w T 2 95 [.str (tx b1)] (.str (tx l1))) (hd2 : FnOk w T 2 95 [.str (tx b2)] (.str (tx ls))) {Q : Fl → Sy → Prop}
  (h : SemSs ⟨w, A, C, E, (fnAt 78).2.2, gl, T, n⟩ (lawB.drop 11) (stLo ns wd en t ls bd none none) Q) :
  SemSs ⟨w, A, C, E, (fnAt 78).2.2, gl, T, n⟩ (lawB.drop 10) (stLo ns wd en t ls bd none none) Q := by
 refine sems_cut hF 30 1 (by decide) _ ?_ h
 walk_at "vgo"
 ·exact fn_okF hF hd1
 ·refine l_len_tok (by rw [txl]; exact nl1 [_] vr0 (.num 10) vr0 (.num 100000) rfl hen) ?_
  have hs1 : (!seq (tx l1) (Txt.slice (tx ls) none (some (-1)))) = false := by rw [h2, tx_seq]; simp
  have hs2 : (!seq (tx ls) (tx ls)) = false := by rw [tx_seq]; simp
  walk_at "vgo"
  ·rw [txl, sizeLine_eq]; exact nl1 [_] vr0 (.num 100000) vr0 (.num 16777216) rfl hbd
  ·rw [show ((tx en, t).1.length : Int) = (en.length : Int) by rw [txl], h1]
   refine ⟨fn_call hF hd1 (by show 2 ≤ n; exact hn) rfl ?_⟩
   have e3 : Str.ofString " \t" ++ tx en = tx ([32, 9] ++ en) := by rw [show Str.ofString " \t" = tx [32, 9] from by kernel_rfl, txa]
   rcases he2 with rfl | rfl
   all_goals walk_at "vgo"
   all_goals first
    | (rw [txl, sizeLine_eq]; exact nl1 [_] vr0 (.num 100000) vr0 (.num 16777216) rfl hls)
    | exact fn_okF hF hd2
    | exact ⟨ht0, ht1⟩
    | skip
   all_goals dsimp only
   all_goals rw [e3]
   all_goals first
    | (rw [txl, txl]; simp only [List.length_append, List.length_cons, List.length_nil]; lia)
    | skip
   all_goals rw [h3]
   all_goals refine ⟨fn_call hF hd2 (by show 2 ≤ n; exact hn) rfl ?_⟩
   all_goals walk_at "vgo"
   all_goals exact ⟨rfl⟩
end
section
open PySem.Builtin
variable {w : World} {T : Addr → Obj → Prop}
noncomputable def neOk (d : Dt) : Prop := (d = .none ∨ ∃ l, d = .list l) ∧ ∃ x, pyD d = some x ∧ x.canLay0 = true ∧ PyData.eqv x x = true
structure Place (w : World) (T : Addr → Obj → Prop) (k : Nat) (sg : List Sgn) (en : List Nat) (t : Tok) (bd : List Nat) (p : Nat) : Prop where
 out : ∃ (y : List Nat) (d : Dt), FnOk w T 2 95 [.str (tx (bd.take p))] (.str (tx y)) ∧ FnOk w T 11 890 [.str (tx y)] d ∧ FnOkK k w T 2 883 [.str (tx (bd.take p)), .strk (tx en) t, .list (sg.map sgnD)] d ∧ neOk d
noncomputable def plA (tot n : Int) : Int := (tot + (n * 3).fdiv 4).fmod (n + 1)
noncomputable def plB (tot n : Int) : Int := (tot.fdiv 20 + (n * 2).fdiv 5).fmod (n + 1)
theorem law_j {A : Around} {C : Cx} {E : Value → Shared → Prop} {n : Nat} (hF : (Fx.mk w A C E (fnAt 78).2.2 gl T n).Ok) (hn : 11 ≤ n) {ns : List Int} {wd : Int} {t : Tok} {en ls bd : List Nat} (hbd : bd.length ≤ 100000)
  (hp : ∀ p, p ≤ bd.length → Place w T C.t0 (signsF (modes ns)) en t bd p) :
  SemSs ⟨w, A, C, E, (fnAt 78).2.2, gl, T, n⟩ (lawB.drop 11) (stLo ns wd en t ls bd none none) (RetD (.bool true)) := by
 refine (run_ok (F := ⟨w, A, C, E, (fnAt 78).2.2, gl, T, n⟩) hF 40).xs ?_
 have hz : (tx bd).length = bd.length := txl bd
 have hfm : ∀ x : Int, 0 ≤ x.fmod ((bd.length : Int) + 1) ∧ x.fmod ((bd.length : Int) + 1) ≤ bd.length := fun x => by
  have h1 := Int.fmod_nonneg_of_pos x (b := (bd.length : Int) + 1) (by omega)
  have h2 := Int.fmod_lt_of_pos x (b := (bd.length : Int) + 1) (by omega)
  omega
 walk_at "vgo"
 ·rw [hz, sizeLine_eq]; exact nl1 [_] vr0 (.num 100000) vr0 (.num 16777216) rfl hbd
 ·rw [hz]
  refine for_okT hF 40 (fun _ S => ∃ pl, S = stLo ns wd en t ls bd (some (.int bd.length)) pl) ([Dt.int bd.length, .int (plA ns.sum bd.length), .int (plB ns.sum bd.length)].map ofD) (S₀ := stLo ns wd en t ls bd (some (.int bd.length)) none) (fun _ => rfl) ?_ ⟨none, rfl⟩ ?_ ?_
  ·walk_at "vgo"
   all_goals first
    | exact IntMulOk.of_right (by decide +kernel)
    | decide
    | omega
    | (rw [sizeLine_eq]; simp)
    | exact ⟨rfl, rfl⟩
  ·rintro C' E' i a S ht hF' ha ⟨pl, rfl⟩
   obtain ⟨p, hpl, rfl⟩ : ∃ p : Nat, p ≤ bd.length ∧ a = .int p := by
    have : ∀ d ∈ [Dt.int bd.length, .int (plA ns.sum bd.length), .int (plB ns.sum bd.length)], ∃ p : Nat, p ≤ bd.length ∧ ofD d = .int p := fun d hd => by
     simp only [List.mem_cons, List.not_mem_nil, or_false] at hd
     have g : ∀ x : Int, ∃ p : Nat, p ≤ bd.length ∧ AV.int (x.fmod ((bd.length : Int) + 1)) = .int p := fun x => by
      refine el11 (Int.eq_ofNat_of_zero_le (hfm x).1) fun p hp => ?_
      exact ⟨p, by have := (hfm x).2; omega, by rw [hp]⟩
     rcases hd with rfl | rfl | rfl
     ·exact ⟨bd.length, Nat.le_refl _, rfl⟩
     ·exact g _
     ·exact g _
    obtain ⟨d, hd, rfl⟩ := List.mem_map.mp (List.mem_of_getElem? ha)
    exact this d hd
   obtain ⟨y, d, h1, h2, h3, h0, x, h4, h5, h6⟩ := (hp p hpl).out
   have hsl : Txt.slice (tx bd) none (some (p : Int)) = tx (bd.take p) := by
    unfold Txt.slice
    rw [StrLaws.sliceIdx_none_lo]
    exact tx_slice (l := bd) (i := 0) (j := p) (Nat.zero_le _) hpl
   walk_at "vgo"
   ·exact fn_okF hF' h2
   ·exact fn_okF hF' h1
   ·rw [hz, sizeLine_eq]; exact nl1 [_] vr0 (.num 100000) vr0 (.num 16777216) rfl hbd
   ·rw [hsl]
    refine ⟨fn_call hF' h1 (by show 2 ≤ n; exact nl1 [_] (.num 11) vr0 (.num 2) vr0 rfl hn) rfl ?_⟩
    walk_at "vgo"
    refine ⟨fn_call hF' h2 hn rfl ?_⟩
    walk_at "vgo"
    ·exact fn_okF hF' h3
    ·rw [hz, sizeLine_eq]; exact nl1 [_] vr0 (.num 100000) vr0 (.num 16777216) rfl hbd
    ·rw [hsl]
     refine ⟨fn_callK hF' h3 (Nat.le_of_eq ht.symm) (by show 2 ≤ n; exact nl1 [_] (.num 11) vr0 (.num 2) vr0 rfl hn) rfl ?_⟩
     rcases h0 with rfl | ⟨l, rfl⟩
     all_goals
      walk_at "vgo"
      refine l_ne (S := stLo ns wd en t ls bd (some (.int bd.length)) (some (.int p))) hF' rfl rfl h4 h4 h5 h5 ?_
      rw [show (!PyData.eqv x x) = false from by rw [h6]; rfl]
      walk_at "vgo"
      exact ⟨⟨_, rfl⟩⟩
  ·rintro E' S hF' ⟨pl, rfl⟩
   walk_at "vgo"
   rfl
end
section
theorem hd_chars {P : Nat → Prop} : ∀ (S : List Sgn) (h : HrS), (∀ c ∈ flat S, P c) → (∀ b, h.begun = some b → ∀ c ∈ b, P c) → (∀ o ∈ h.words, ∀ b, o = some b → ∀ c ∈ b, P c) →
  (∀ b, (S.foldl hdStep h).begun = some b → ∀ c ∈ b, P c) ∧ ∀ o ∈ (S.foldl hdStep h).words, ∀ b, o = some b → ∀ c ∈ b, P c
 | [], _, _, h1, h2 => ⟨h1, h2⟩
 | (x, d) :: S, h, hf, h1, h2 => by
  have hx : ∀ c ∈ x, P c := fun c hc => hf c (List.mem_append_left _ hc)
  have hg : ∀ c ∈ h.begun.getD [], P c := fun c hc => by
   cases e : h.begun with
   | none => rw [e] at hc; contradiction
   | some b => rw [e] at hc; exact h1 b e c hc
  refine hd_chars S (hdStep h (x, d)) (fun c hc => hf c (List.mem_append_right _ hc)) ?_ ?_
  ·induction d with
   | parts => exact fun b hb => nomatch hb
   | turns => exact fun b hb c hc => hg c (by injection hb with hb; rw [hb]; exact hc)
   | stays =>
    intro b hb c hc
    injection hb with hb
    rw [← hb] at hc
    exact (List.mem_append.mp hc).elim (hg c) (hx c)
  ·induction d with
   | parts =>
    intro o ho b hb c hc
    rcases List.mem_append.mp ho with ho | ho
    ·exact h2 o ho b hb c hc
    ·rw [List.mem_singleton.mp ho] at hb
     exact h1 b hb c hc
   | turns => exact h2
   | stays => exact h2
theorem neOk_heard (S : List Sgn) (hS : ∀ c ∈ flat S, c < 256) : neOk (heardD S) := by
 have key : ∀ l : List (Option (List Nat)), (∀ o ∈ l, ∀ b, o = some b → ∀ c ∈ b, c < 256) → ∃ xs, pyL (l.map oD) = some xs ∧ PyData.canLayAll0 xs = true ∧ PyData.eqvAll xs xs = true := fun l => by
  induction l with
  | nil => exact fun _ => ⟨[], rfl, rfl, rfl⟩
  | cons o r ih =>
   intro hl
   refine el13 (ih fun o ho => hl o (List.mem_cons_of_mem _ ho)) fun xs h1 h2 h3 => ?_
   induction o with
   | none => exact ⟨.none :: xs, by show (Option.map _ (pyL (r.map oD))) = _; rw [h1]; rfl, h2, h3⟩
   | some b =>
    refine ⟨.str (tx b) :: xs, by show (Option.map _ (pyL (r.map oD))) = _; rw [h1]; rfl, ?_, by show ((tx b == tx b) && _) = true; rw [h3, beq_self_eq_true]; rfl⟩
    have hb := hl (some b) List.mem_cons_self b rfl
    have hk : PyData.strOk (tx b) = true := by
     unfold PyData.strOk
     rw [List.all_toArray', List.all_eq_true]
     exact fun c hc => decide_eq_true (Nat.lt_of_lt_of_le (hb c hc) (by decide : 256 ≤ 0x110000))
     rfl
    simp only [PyData.canLayAll0, PyData.canLay0, Bool.and_eq_true]
    exact ⟨hk, h2⟩
 refine el02 (hd_chars S ⟨[], none, false⟩ hS (fun b hb => nomatch hb) (fun o ho => nomatch ho)) fun c1 c2 => ?_
 unfold heardD
 split
 ·exact ⟨.inl rfl, .none, rfl, rfl, rfl⟩
 ·obtain ⟨xs, h1, h2, h3⟩ := key ((hdAll S).words ++ (match (hdAll S).begun with | none => [] | some b => [some b])) (fun o ho b hb => by
   rcases List.mem_append.mp ho with ho | ho
   ·exact c2 o ho b hb
   ·refine c1 b ?_
    change (hdAll S).begun = some b
    cases e : (hdAll S).begun with
    | none => rw [e] at ho; contradiction
    | some b' => rw [e] at ho; rw [List.mem_singleton.mp ho] at hb; exact hb)
  exact ⟨.inr ⟨_, rfl⟩, .list xs, congrArg (Option.map PyData.list) h1, h2, h3⟩
theorem lineOut_len : ∀ (m : Nat) (y : List Nat), y.length ≤ m → (lineOut [10] y).length ≤ y.length + 1
 | 0, y, hm => by
  have : y = [] := List.eq_nil_of_length_eq_zero (by exact (Nat.le_antisymm hm (nl0 [_] (.num 0) vr0 rfl)))
  subst this; rw [lineOut_nil]; exact Nat.le_succ _
 | m + 1, y, hm => by
  match y, hm with
  | [], _ => rw [lineOut_nil]; exact Nat.le_succ _
  | [c], _ => unfold lineOut; split <;> simp
  | [c, d], hm =>
   have := lineOut_len m [d] (by simp at hm ⊢; exact hm)
   unfold lineOut; simp at this ⊢; exact this
  | c :: a :: b :: r, hm =>
   unfold lineOut
   simp only [List.length_cons] at hm
   split
   ·split
    ·simp
    ·have := lineOut_len m r (by exact nl1 [_, _] (.add (.add (.add vr0 (.num 1)) (.num 1)) (.num 1)) (.add vr1 (.num 1)) vr0 vr1 rfl hm)
     simp only [List.length_cons]; exact nl1 [_, _] vr0 (.add vr1 (.num 1)) (.add vr0 (.num 1)) (.add (.add (.add (.add vr1 (.num 1)) (.num 1)) (.num 1)) (.num 1)) rfl this
   ·have := lineOut_len m (a :: b :: r) (by simp only [List.length_cons]; exact nl1 [_, _] (.add (.add (.add vr0 (.num 1)) (.num 1)) (.num 1)) (.add vr1 (.num 1)) (.add (.add vr0 (.num 1)) (.num 1)) vr1 rfl hm)
    simp only [List.length_cons] at this ⊢; exact nl1 [_, _] vr0 (.add (.add (.add vr1 (.num 1)) (.num 1)) (.num 1)) (.add vr0 (.num 1)) (.add (.add (.add (.add vr1 (.num 1)) (.num 1)) (.num 1)) (.num 1)) rfl this
theorem decOk_of {x : List Nat} (h : x.length ≤ 100000) : DecOk x := by
 have hs := sizeLine_eq
 have hl := StrLaws.lines_weight (tx x)
 rw [txl] at hl
 have one : ∀ d y, (lnAdd d y).length ≤ d.length + y.length + 1 := fun d y => by
  have h1 := len_rstrip y
  have h2 := lineOut_len _ (Txt.rstrip y).cps.toList (Nat.le_refl _)
  have h3 : (Txt.rstrip y).cps.toList.length = (Txt.rstrip y).length := rfl
  unfold lnAdd
  split <;> simp only [List.length_append, List.length_singleton] <;> (first | exact nl0 [_, _] (.add vr0 (.num 1)) (.add (.add vr0 vr1) (.num 1)) rfl | exact nl3 [_, _, _, _, _] vr0 (.add vr1 (.num 1)) vr1 vr2 vr2 vr3 (.add vr4 vr0) (.add (.add vr4 vr3) (.num 1)) rfl h2 (Nat.le_of_eq h3) h1 | lia)
 have all : ∀ (l : List Str) (d : List Nat), (l.foldl lnAdd d).length ≤ d.length + (l.map (·.length)).sum + l.length := fun l => by
  induction l with
  | nil => intro d; simp
  | cons y r ih =>
   intro d
   have := ih (lnAdd d y)
   have := one d y
   simp only [List.foldl_cons, List.map_cons, List.sum_cons, List.length_cons]; exact nl2 [_, _, _, _, _, _] vr0 (.add (.add vr1 vr2) vr3) vr1 (.add (.add vr4 vr5) (.num 1)) vr0 (.add (.add vr4 (.add vr5 vr2)) (.add vr3 (.num 1))) rfl (by assumption) this
 have tk : ∀ (l : List Str) (i : Nat), ((l.take i).map (·.length)).sum + (l.take i).length ≤ (l.map (·.length)).sum + l.length := fun l => by
  induction l with
  | nil => intro i; simp
  | cons y r ih =>
   intro i
   induction i with
   | zero => simp
   | succ i =>
    have := ih i
    simp only [List.take_succ_cons, List.map_cons, List.sum_cons, List.length_cons]; exact nl1 [_, _, _, _, _] (.add vr0 vr1) (.add vr2 vr3) (.add (.add vr4 vr0) (.add vr1 (.num 1))) (.add (.add vr4 vr2) (.add vr3 (.num 1))) rfl this
 refine ⟨by exact nl2 [_, _] vr0 (.num 100000) (.num 16777216) vr1 vr0 vr1 rfl h (Nat.le_of_eq (Eq.symm hs)), ?_, fun y hy => ?_, fun i => ?_⟩
 ·have := PyProof.Rows.lineCuts_le (tx x)
  rw [txl] at this; exact nl3 [_, _, _] vr0 (.add vr1 (.num 1)) vr1 (.num 100000) (.num 16777216) vr2 vr0 vr2 rfl this h (Nat.le_of_eq (Eq.symm hs))
 ·have := PyProof.Rows.line_short hy
  rw [txl x] at this; exact nl3 [_, _, _] vr0 vr1 vr1 (.num 100000) (.num 16777216) vr2 vr0 vr2 rfl this h (Nat.le_of_eq (Eq.symm hs))
 ·have h1 := all ((Txt.lines (tx x)).take i) []
  have h2 := tk (Txt.lines (tx x)) i
  rw [List.length_nil] at h1
  exact nl5 [_, _, _, _, _, _, _] vr0 (.add (.add (.num 0) vr1) vr2) (.num 16777216) vr3 (.add vr1 vr2) (.add vr4 vr5) (.add vr4 vr5) (.add vr6 (.num 1)) vr6 (.num 100000) (.add vr0 (.num 10)) vr3 rfl h1 (Nat.le_of_eq (Eq.symm hs)) h2 hl h
theorem body_chars {W : Nat} {e : List Nat} (he : endsL e) : ∀ (ts : List Tk) (n : Nat) (b : Bool), okT W n b ts → ∀ c ∈ rend (61 :: e) e ts, c ∈ ([9, 13, 10] : List Nat) ∨ (32 ≤ c ∧ c ≤ 126)
 | [], _, _, _, c, hc => by contradiction
 | t :: ts, n, b, h, c, hc => by
  have hee : ∀ c ∈ e, c ∈ ([9, 13, 10] : List Nat) ∨ (32 ≤ c ∧ c ≤ 126) := by rcases he with rfl | rfl <;> decide
  rcases List.mem_append.mp hc with hc | hc
  ·induction t with
   | ch d =>
    rw [List.mem_singleton.mp hc]
    have := h.1.1
    rcases this with q | q
    ·left; rw [q]; exact List.mem_cons_self
    ·exact .inr q
   | es d =>
    refine el23 (pl_signs (s := 61 :: e) (e := e) (t := .es d) h.1) fun l x e1 e2 _ => ?_
    rw [e1] at hc
    have := e2 c hc
    rcases this.2 with q | q
    ·left; rw [q]; exact List.mem_cons_self
    ·exact .inr ⟨q, by exact nl1 [_] (.add vr0 (.num 1)) (.num 127) vr0 (.num 126) rfl this.1⟩
   | so =>
    rcases List.mem_cons.mp hc with rfl | hc
    ·exact .inr (by exact ⟨(nl0 [] (.num 32) (.num 61) rfl), (nl0 [] (.num 61) (.num 126) rfl)⟩)
    ·exact hee c hc
   | ha => exact hee c hc
  ·have hc2 : c ∈ rend (61 :: e) e ts := hc
   induction t with
   | ch d => exact body_chars he ts _ _ h.2.2 c hc2
   | es d => exact body_chars he ts _ _ h.2.2 c hc2
   | so => exact body_chars he ts _ _ h.2 c hc2
   | ha => exact body_chars he ts _ _ h.2 c hc2
structure Plain (W : Nat) (e L : List Nat) (S : List Sgn) (bd : List Nat) : Prop where
 enc : EncOk W e L
 len : bd.length ≤ 30000
 rows : ∃ rows : List (List Nat), Txt.split (tx bd) (tx e) = rows.map tx ∧ 0 < rows.length ∧ rows.length ≤ 100000 ∧ (∀ r ∈ rows, r.length ≤ W)
 dec : decF bd = L
 chars : ∀ c ∈ bd, c ∈ ([9, 13, 10] : List Nat) ∨ (32 ≤ c ∧ c ≤ 126)
 cut : Txt.slice (tx bd) none (some (-(e.length : Int))) = tx (bd.take (bd.length - e.length)) ∧ decF (bd.take (bd.length - e.length)) = L.dropLast
 pad : ∃ b2, Txt.replace (tx bd) (tx e) (tx ([32, 9] ++ e)) = tx b2 ∧ b2.length ≤ 100000 ∧ decF b2 = L
 place : ∀ p, ∃ S' ws, flat S' = decF (bd.take p) ++ ws ∧ wsp ws ∧ (∃ m, Gds .sp S' m) ∧ ((∀ c ∈ flat S', c < 256) ∧ (flat S').length ≤ 2000) ∧ ∀ (t : Tok) (k : Nat), 0 < t ∧ t < k → arr (tx (bd.take p)) (tx e) S = S' ∧ ArrOk (tx (bd.take p)) (tx e) S t k
theorem plain_ok {W : Nat} (hW : 4 ≤ W) (hW1 : W ≤ 1000) {e L l' : List Nat} (he : endsL e) (hL : ∀ c ∈ L, chL c) (hl : L = l' ++ [39, 10]) (hn : L.length ≤ 1000) {S : List Sgn} (hS : flat S = L) (h1 : ones S) (hg : Gds .sp S .sp) : Plain W e L S (bodyF W e L) := by
 obtain ⟨hE, ts, r, hts, hok, hval, hR, hlen⟩ := body_toks hW hW1 he hL (l' := l' ++ [39]) (by rw [hl]; simp) hn
 refine el24 (sp_end he (q := []) nil_ch ts 0 false (Nat.zero_le _) hok) fun p ps s1 s2 s3 s4 => ?_
 rw [List.append_nil, hR] at s1
 have hel : 1 ≤ e.length ∧ e.length ≤ 2 := by rcases he with rfl | rfl <;> simp
 have hne : e ≠ [] := by rintro rfl; simp at hel
 have hRr : bodyF W e L = rend (61 :: e) e r ++ e := by rw [← hR, hts, rend_append]; simp [Tk.w]
 have hvr : val r = l' ++ [39] := by
  rw [hts, val_append, hl] at hval
  have : val r ++ [10] = (l' ++ [39]) ++ [10] := by rw [List.append_assoc]; exact hval
  exact List.append_cancel_right this
 have hsl : S.length = L.length := by rw [← hS]; exact ((flat_take h1 0).2).symm
 refine ⟨hE, hlen, ⟨p :: ps, ?_, by simp, ?_, fun x hx => ?_⟩, ?_, ?_, ⟨?_, ?_⟩, ⟨rendP [32, 9] e ts, ?_, ?_, ?_⟩, fun k => ?_⟩
 ·exact s1.split hne (by rcases he with rfl | rfl <;> decide +kernel)
 ·have := (s1.cuts hne).2
  have h2 := StrLaws.occ_length_le (tx (bodyF W e L)) (tx e) 0 (tx (bodyF W e L)).length ((tx (bodyF W e L)).length + 1)
  rw [txl] at h2 this; exact nl3 [_, _, _] (.add vr0 (.num 1)) (.add vr1 (.num 1)) vr1 (.add vr2 (.num 1)) vr2 (.num 30000) (.add vr0 (.num 1)) (.num 100000) rfl (Nat.le_of_eq this) h2 hlen
 ·rcases List.mem_cons.mp hx with rfl | hx
  ·simpa using s3
  ·simpa using s4 x hx
 ·obtain ⟨ws, _, h3, h4⟩ := dec_whole (pad := []) (z := []) he nil_ch (by rw [List.append_nil]; exact hok)
  rw [h4 r .ha hts rfl, List.append_nil, hval] at h3
  rw [← hR]; exact h3.symm
 ·rw [← hR]; exact body_chars he ts _ _ hok
 ·exact slice_to _ hel.1 (by rw [hRr]; simp)
 ·have : (bodyF W e L).take ((bodyF W e L).length - e.length) = rendP [] e r := by
   rw [hRr, List.length_append, Nat.add_sub_cancel, List.take_left]; rfl
  rw [this]
  obtain ⟨ws, h2, h3, _⟩ := dec_whole (pad := []) (z := [.ha]) (ts := r) he nil_ch (by rw [← hts]; exact hok)
  have hws : ws = [] := by
   rcases snoc_cases ws with q | ⟨y, c, rfl⟩
   ·exact q
   ·exfalso
    have e3 := congrArg List.getLast? (h3.symm.trans hvr)
    rw [← List.append_assoc, List.getLast?_concat, List.getLast?_concat] at e3
    injection e3 with e3
    have := h2 c (by simp)
    exact (Or.elim this (fun hy0 => (Nat.not_succ_le_zero 0 (nl2 [_] (.num 39) vr0 vr0 (.num 32) (.num 1) (.num 0) rfl (Nat.le_of_eq (Eq.symm e3)) (Nat.le_of_eq hy0))).elim) fun hy0 => (Or.elim hy0 (fun hy1 => (Nat.not_succ_le_zero 0 (nl2 [_] (.num 39) vr0 vr0 (.num 9) (.num 1) (.num 0) rfl (Nat.le_of_eq (Eq.symm e3)) (Nat.le_of_eq hy1))).elim) fun hy1 => (Nat.not_succ_le_zero 0 (nl2 [_] (.num 39) vr0 vr0 (.num 10) (.num 1) (.num 0) rfl (Nat.le_of_eq (Eq.symm e3)) (Nat.le_of_eq hy1))).elim))
  rw [hws, List.append_nil, hvr] at h3
  rw [← h3, hl, show l' ++ [39, 10] = (l' ++ [39]) ++ [10] by simp, List.dropLast_concat]
 ·rw [s1.replace hne, s2, List.append_nil]
 ·have key : ∀ ts : List Tk, (rendP [32, 9] e ts).length ≤ 3 * (rend (61 :: e) e ts).length := fun ts => by
   induction ts with
   | nil => exact Nat.le_refl _
   | cons t ts ih =>
    show (t.w _ _ ++ rendP [32, 9] e ts).length ≤ 3 * (t.w _ _ ++ rend (61 :: e) e ts).length
    rw [List.length_append, List.length_append]
    cases t <;> simp only [Tk.w, List.length_append, List.length_cons, List.length_nil] <;> (first | exact nl1 [_, _] vr0 (.mulL 3 vr1) (.add (.add (.num 0) (.num 1)) vr0) (.mulL 3 (.add (.add (.num 0) (.num 1)) vr1)) rfl ih | exact nl1 [_, _, _] vr0 (.mulL 3 vr1) (.add vr2 vr0) (.mulL 3 (.add vr2 vr1)) rfl ih | exact nl1 [_, _, _] vr0 (.mulL 3 vr1) (.add (.add (.add (.add (.add (.num 0) (.num 1)) (.num 1)) vr2) (.num 1)) vr0) (.mulL 3 (.add (.add vr2 (.num 1)) vr1)) rfl ih | exact nl3 [_, _, _] vr0 (.mulL 3 vr1) (.num 1) vr2 (.num 1) vr2 (.add (.add (.add (.add (.num 0) (.num 1)) (.num 1)) vr2) vr0) (.mulL 3 (.add vr2 vr1)) rfl ih hel.1 hel.1 | lia)
  have := key ts
  rw [hR] at this; exact nl4 [_, _] vr0 (.mulL 3 vr1) vr1 (.num 30000) vr1 (.num 30000) vr1 (.num 30000) vr0 (.num 100000) rfl this hlen hlen hlen
 ·obtain ⟨ws, _, h3, h4⟩ := dec_whole (pad := [32, 9]) (z := []) he (by decide) (by rw [List.append_nil]; exact hok)
  rw [h4 r .ha hts rfl, List.append_nil, hval] at h3
  exact h3.symm
 ·refine el33 (take_toks he ts 0 false k hok) fun t1 t2 q g1 g2 g3 => ?_
  rw [hR] at g2
  obtain ⟨t', z', q', ws, br, k1, k2, k3, k4, k5⟩ := dec_cut he (by rw [← g1]; exact hok) g3
  rw [← g1] at k1
  rw [← g2] at k3 k4
  have hok' : okT W 0 false t' := okT_take t' (by rw [← k1]; exact hok)
  have hpre : (flat S).take (val t').length = val t' := by rw [hS, ← hval, k1, val_append, List.take_left]
  have hflat : flat (S.take (val t').length ++ brS q') = val t' ++ br := by
   rw [flat_append, (flat_take h1 _).1, hpre]
   rcases k5 with ⟨rfl, rfl⟩ | ⟨rfl, rfl⟩ | ⟨a, _, rfl, rfl⟩ <;> rfl
  have hbrk : brk q' := by
   rcases k5 with ⟨q, _⟩ | ⟨q, _⟩ | ⟨a, ha, q, _⟩
   ·exact .inl q
   ·exact .inr (.inl q)
   ·exact .inr (.inr ⟨a, ha, q⟩)
  have hvl : (val t').length ≤ L.length := by rw [← hpre, List.length_take, hS]; exact (Nat.min_le_right _ _)
  have hql : q'.length ≤ 2 ∧ (brS q').length ≤ 1 ∧ (flat (brS q')).length ≤ 2 := by
   rcases k5 with ⟨rfl, _⟩ | ⟨rfl, _⟩ | ⟨a, _, rfl, _⟩ <;> simp [brS]
  have hlk : ((bodyF W e L).take k).length ≤ 30000 := by rw [List.length_take]; exact nl2 [_, _] vr0 vr1 vr1 (.num 30000) vr0 (.num 30000) rfl (Nat.min_le_right _ _) hlen
  refine ⟨S.take (val t').length ++ brS q', ws, by rw [hflat, k3], k2, ?_, ⟨fun c hc => ?_, ?_⟩, fun t k ht => ?_⟩
  ·refine el11 (hg.take (val t').length) fun m hm => ?_
   rcases hbrk with q | q | ⟨a, ha, q⟩
   ·exact ⟨m, by rw [q]; simpa [brS] using hm⟩
   ·exact ⟨m, by rw [q]; simpa [brS] using hm⟩
   ·have ha' := hexs_ok a ha
    have hpl : ([61, a] : List Nat).all plC = true := (by decide +kernel : ∀ a ∈ hexs, ([61, a] : List Nat).all plC = true) a ha
    have hmo := hm.ok trivial
    have : ∃ m', Gd m ([61, a], .stays) m' := by
     induction m with
     | sp => exact ⟨_, .first hpl⟩
     | wd => exact ⟨_, .more hpl⟩
     | q d =>
      refine ⟨_, .quoted ?_⟩
      rcases (qt_no hmo).2 with rfl | rfl
      ·exact .inl ⟨rfl, (by decide +kernel : ∀ a ∈ hexs, ([61, a] : List Nat).all (fun c => c != 39) = true) a ha⟩
      ·exact .inr ⟨rfl, (by decide +kernel : ∀ a ∈ hexs, ([61, a] : List Nat).all (fun c => c != 34 && c != 92) = true) a ha⟩
     | en => exact hmo.elim
    refine el11 (this) fun m' hm' => ?_
    exact ⟨m', by rw [q]; exact hm.append (.cons hm' .nil)⟩
  ·rw [hflat] at hc
   rcases List.mem_append.mp hc with hc | hc
   ·rw [← hpre, hS] at hc
    exact (hL c (List.mem_of_mem_take hc)).1
   ·rcases k5 with ⟨_, rfl⟩ | ⟨_, rfl⟩ | ⟨a, ha, _, rfl⟩
    ·contradiction
    ·contradiction
    ·have := hexs_ok a ha
     simp at hc; exact (Or.elim hc (fun hy0 => (nl1 [_] vr0 (.num 61) (.add vr0 (.num 1)) (.num 256) rfl (Nat.le_of_eq hy0))) fun hy0 => (nl2 [_, _] vr0 vr1 vr1 (.num 102) (.add vr0 (.num 1)) (.num 256) rfl (Nat.le_of_eq hy0) this.2.1))
  ·rw [flat_append, List.length_append, (flat_take h1 _).1, hpre]; exact nl3 [_, _, _] vr0 vr1 vr2 (.num 2) vr1 (.num 1000) (.add vr0 vr2) (.num 2000) rfl hvl hql.2.2 hn
  ·refine arr_cut he hok' hbrk ((arrP1_eq _).trans (congrArg tx k4)) (by exact nl2 [_, _] vr0 vr1 vr1 (.num 1000) vr0 (.num 100000) rfl (Nat.le_of_eq hsl) hn) (by rw [txl]; exact nl1 [_] vr0 (.num 30000) vr0 (.num 90000) rfl hlk) ht (heardOk_of ?_ ?_)
   ·rw [List.length_append, List.length_take]; exact nl4 [_, _, _, _] vr0 (.num 1) vr1 vr2 vr2 vr3 vr3 (.num 1000) (.add vr1 vr0) (.num 100000) rfl hql.2.1 (Nat.min_le_left _ _) hvl hn
   ·rw [flat_append, List.length_append, (flat_take h1 _).1, hpre]; exact nl3 [_, _, _] vr0 vr1 vr2 (.num 2) vr1 (.num 1000) (.add vr0 vr2) (.num 100000) rfl hvl hql.2.2 hn
end
section
open PySem.Builtin
structure TopFs (T : Addr → Obj → Prop) : Prop where
 unq : FnIs T 67 (fnAt 17) .none
 dec : ∃ df tk, T df { cls := .type "tuple", data := .seq #[.str (tx [10]) tk] } ∧ FnIs T 95 (fnAt 24) (.ref df)
 quo : FnIs T 74 (fnAt 18) .none
 enc : ∃ df d1 d2, T df { cls := .type "tuple", data := .seq #[d1, d2] } ∧ FnIs T 87 (fnAt 23) (.ref df)
 map : ∃ vs n, T 47 { cls := .type "list", data := .seq vs n } ∧ ∀ c, c < 256 → ∃ t, vs[c]? = some (.str (tx (esc c)) t)
 bmap : ∃ vs n, T 76 { cls := .type "list", data := .seq vs n } ∧ ∀ c, c < 256 → ∃ t, vs[c]? = some (.str (tx (encC c)) t)
 pat : PatOk T
 shq : FnIs T 803 (fnAt 46) .none
 ifm : FnIs T 810 (fnAt 49) .none
 fmd : FnIs T 850 (fnAt 70) .none
 tab : ∃ vs n, T 843 { cls := .type "tuple", data := .seq vs n } ∧ IsDs T vs.toList (tabD.map rowD)
 nam : FnIs T 857 (fnAt 72) .none
 rig : FnIs T 864 (fnAt 73) .none
 row : FnIs T 869 (fnAt 74) .none
 hea : FnIs T 876 (fnAt 75) .none
 arr : FnIs T 883 (fnAt 76) .none
 tol : FnIs T 890 (fnAt 77) .none
 law : FnIs T 895 (fnAt 78) .none
 lex : LexFs T
 mks : MkFs T
variable {w : World} {T : Addr → Obj → Prop}
theorem widthF_nat (t : Int) : ∃ W : Nat, widthF t = (W : Int) ∧ 4 ≤ W ∧ W ≤ 1000 := by
 have h1 := Int.fmod_nonneg_of_pos t (b := 10) (by lia)
 have h2 := Int.fmod_lt_of_pos t (b := 10) (by lia)
 have h3 : 4 ≤ widthF t ∧ widthF t ≤ 1000 := by unfold widthF; split <;> lia
 obtain ⟨W, hW⟩ := Int.eq_ofNat_of_zero_le (by lia : 0 ≤ widthF t)
 exact ⟨W, hW, by lia, by lia⟩
theorem endF_ok (t : Int) : endsL (endF t) := by unfold endF; split <;> first | exact .inr rfl | exact .inl rfl
theorem law_ok (hT : TopOk w T gl) (hX : TopFs T) {ns : List Int} (hl : ns.length ≤ 63) : FnOk w T 12 895 [intsD ns] (.bool true) := by
 refine fnI hT hX.law (names := ["script"]) (rest := ["total", "width", "end", "files", "signs", "listing", "body", "size", "place"]) (avs := [.dat (intsD ns)]) (by kernel_rfl) rfl ?_ ?_
 ·exact fun _ _ _ _ _ _ _ _ _ _ _ _ hv => bind1 hv fun _ => by kernel_rfl
 ·intro A C E _ hF _
  obtain ⟨W, hW, hW4, hW1⟩ := widthF_nat ns.sum
  have he := endF_ok ns.sum
  obtain ⟨hL, hlen, l', hl'⟩ := list_facts ns
  have hP := plain_ok hW4 hW1 he hL hl' (by exact nl1 [_] vr0 (.num 87) vr0 (.num 1000) rfl hlen) (signs_list (modes ns)) (ones_signs _) (gds_signs _)
  have hsl : (signsF (modes ns)).length = (listF (modes ns)).length := by rw [← signs_list]; exact (flat_take (ones_signs _) 0).2.symm
  obtain ⟨vs, nn, hm, hvs⟩ := hX.map
  obtain ⟨vs76, nn76, hm76, hvs76⟩ := hX.bmap
  obtain ⟨dfe, d1, d2, hdfe, hfe⟩ := hX.enc
  obtain ⟨dfd, tkd, hdfd, hfd⟩ := hX.dec
  obtain ⟨vst, nt, hta, hds⟩ := hX.tab
  have hdec : ∀ x : List Nat, x.length ≤ 100000 → FnOk w T 2 95 [.str (tx x)] (.str (tx (decF x))) := fun x hx => decode_ok hT hX.unq hdfd hfd (decOk_of hx)
  generalize hbd : bodyF W (endF ns.sum) (listF (modes ns)) = bd at hP
  revert bd; refine opq ?_; set_option tactic.hygienic false in intros
  have hlb := hP.len
  refine law_a hF ?_
  refine law_a2 hF fun k t hk ht0 htk hF' => ?_
  have ht0' : 0 < t := Nat.pos_of_ne_zero ht0
  refine law_b hT hX.nam hF' (by decide) hl ?_
  refine law_c hT hX.rig hX.row hF' (by decide) (by exact nl2 [_, _] vr0 vr1 vr1 (.num 87) vr0 (.num 1000) rfl (Nat.le_of_eq hsl) hlen) (fun m => (name_chars m).2) ?_
  refine law_d hT (fun m => filemode_ok hT hX.ifm hX.fmd hta hds m) (fun m => ?_) hF' (by decide) (by exact nl1 [_] vr0 (.num 87) vr0 (.num 1000) rfl hlen) ?_
  ·obtain ⟨n1, n2⟩ := name_chars m
   refine quote_ok hT hX.pat hX.shq n2 n1 ?_
   obtain ⟨p, ps, g1, g2⟩ := sp_quote (nameF m)
   rw [g1.replace (by simp), g2, txl]
   have key : ∀ l : List Nat, (flat (l.flatMap nameS)).length ≤ 5 * l.length := fun l => by
    induction l with
    | nil => exact Nat.le_refl _
    | cons c r ih =>
     rw [List.flatMap_cons, flat_append, List.length_append, List.length_cons]
     have : (flat (nameS c)).length ≤ 5 := by unfold nameS; split <;> simp [five]
     exact nl2 [_, _, _] vr0 (.num 5) vr1 (.mulL 5 vr2) (.add vr0 vr1) (.mulL 5 (.add vr2 (.num 1))) rfl this ih
   have := key (nameF m)
   exact nl2 [_, _] vr0 (.mulL 5 vr1) (.mulL 5 vr1) (.mulL 5 (.num 3)) vr0 (.num 1000) rfl this (Nat.mul_le_mul_left 5 n2)
  refine law_e hF' (by exact nl2 [_, _] vr0 vr1 vr1 (.num 87) vr0 (.num 1000) rfl (Nat.le_of_eq hsl) hlen) (by exact nl1 [_] vr0 (.num 87) vr0 (.num 1000) rfl hlen) (signs_list (modes ns)) ?_
  rw [hW]
  refine law_f hF' (by decide) (bd := bd) ?_ ?_
  ·have := body_encode_ok (tk := t) hT hX.quo hm hvs hm76 hvs76 hdfe hfe hP.enc
   rwa [join_tx, show joinL (endF ns.sum) (encAll W (endF ns.sum) ((listF (modes ns)).flatMap encC)) = bd from hbd] at this
  obtain ⟨rows, r1, r2, r3, r4⟩ := hP.rows
  have hne : endF ns.sum ≠ [] := by rcases he with q | q <;> rw [q] <;> simp
  have hel : (endF ns.sum).length ≤ 10 := by rcases he with q | q <;> rw [q] <;> simp
  have hdb := hdec bd (by exact nl1 [_] vr0 (.num 30000) vr0 (.num 100000) rfl hlb)
  rw [hP.dec] at hdb
  refine law_g hF' (by decide) hne (by exact nl1 [_] vr0 (.num 30000) vr0 (.num 100000) rfl hlb) r1 r2 r3 (fun r hr => by have := r4 r hr; lia) (fun r hr => by have := r4 r hr; exact nl2 [_, _] vr0 vr1 vr1 (.num 1000) vr0 (.num 100000) rfl this hW1) hdb ?_
  refine law_h hF' (by exact nl1 [_] vr0 (.num 30000) vr0 (.num 100000) rfl hlb) hP.chars ?_
  obtain ⟨b2, p1, p2, p3⟩ := hP.pad
  have hd1 := hdec (bd.take (bd.length - (endF ns.sum).length)) (by rw [List.length_take]; exact nl2 [_, _] vr0 vr1 vr1 (.num 30000) vr0 (.num 100000) rfl (Nat.min_le_right _ _) hlb)
  have hd2 := hdec b2 p2
  rw [hP.cut.2] at hd1
  rw [p3] at hd2
  refine law_i hF' (by decide) (by exact nl1 [_] vr0 (.num 30000) vr0 (.num 100000) rfl hlb) hel he ht0' htk (by exact nl1 [_] vr0 (.num 87) vr0 (.num 100000) rfl hlen) hP.cut.1 (tx_dropLast (by rw [hl']; simp)) p1 hd1 hd2 ?_
  refine law_j hF' (Nat.le_refl _) (by exact nl1 [_] vr0 (.num 30000) vr0 (.num 100000) rfl hlb) fun p _ => ?_
  obtain ⟨S', ws, q1, q2, ⟨m, q3⟩, ⟨hfl, hfn⟩, q4⟩ := hP.place p
  obtain ⟨q5, q6⟩ := q4 t k ⟨ht0', htk⟩
  obtain ⟨w1, w2, w3⟩ := told_heard q3 q1 (fun c hc => by rcases q2 c hc with rfl | rfl | rfl <;> rfl)
  have hlp : (bd.take p).length ≤ 100000 := by rw [List.length_take]; exact nl2 [_, _] vr0 vr1 vr1 (.num 30000) vr0 (.num 100000) rfl (Nat.min_le_right _ _) hlb
  have ha := arrived_ok hT hX.hea hX.arr q6
  rw [q5] at ha
  refine ⟨decF (bd.take p), heardD S', hdec _ hlp, ?_, ha, neOk_heard S' hfl⟩
  rw [← w3]
  refine told_ok hT hX.lex hX.mks hX.tol ?_ w1 w2
  rw [q1, List.length_append] at hfn
  exact nl1 [_, _] (.add vr0 vr1) (.num 2000) vr0 (.num 1000000) rfl hfn
end
section
open PySem.W.X PySem.Builtin
end
section
open PySem.W.X PySem.Builtin
noncomputable abbrev TK (K : KT) (a : Addr) (o : Obj) : Prop := K.get a = some o
section
variable {K : KT}
theorem vO_ok {v : Value} {x : AV} (e : vO v = some x) (hp : Heap) (B : Addr → Prop) (ρ : List Addr) : Is hp B ρ x v :=
  Value.casesOn (motive := fun v => vO v = some x → Is hp B ρ x v) v nope nope nope (fun _ => nope) (fun i t e => Option.some.inj e ▸ (⟨t, rfl⟩ : Is hp B ρ (.int i) (.int i t))) (fun _ _ => nope) (fun y t e => Option.some.inj e ▸ (⟨t, rfl⟩ : Is hp B ρ (.str y) (.str y t)))
    (fun _ _ => nope) (fun n e => Option.some.inj e ▸ (rfl : Is hp B ρ (.typ n) (.type n))) (fun n e => Option.some.inj e ▸ (rfl : Is hp B ρ (.blt n) (.builtin n))) (fun a e => Option.some.inj e ▸ (rfl : Is hp B ρ (.ref a) (.ref a))) e
theorem vO_str {v : Value} {x : Str} (e : vO v = some (.str x)) : ∃ t, v = .str x t := vO_ok e default (fun _ => False) []
theorem vO_int {v : Value} {i : Int} (e : vO v = some (.int i)) : ∃ t, v = .int i t := vO_ok e default (fun _ => False) []
theorem vO_typ {v : Value} {n : String} (e : vO v = some (.typ n)) : v = .type n := vO_ok e default (fun _ => False) []
theorem refD_eq {v : Value} {a : Addr} (e : refD v = some a) : v = .ref a := by
  induction v with
  | ref b => exact congrArg Value.ref (Option.some.inj e)
  | _ => exact nope e
theorem keyS_eq {e : DictEntry} (h : keyS e = true) : ∃ x t, e.key = .str x t := by
  obtain ⟨q, k, v⟩ := e
  induction k with
  | str x t => exact ⟨x, t, rfl⟩
  | _ => exact noff h
theorem seqD_eq {d : Data} {q : Array Value × Nat} (e : seqD d = some q) : d = .seq q.1 q.2 := by
  induction d with
  | seq xs n => exact congrArg (fun q : Array Value × Nat => Data.seq q.1 q.2) (Option.some.inj e)
  | _ => exact nope e
theorem fldD_eq {d : Data} {vs : Array Value} (e : fldD d = some vs) : d = .fields vs := by
  induction d with
  | fields xs => exact congrArg Data.fields (Option.some.inj e)
  | _ => exact nope e
theorem funD_eq {d : Data} {fd : FuncData} (e : funD d = some fd) : d = .func fd := by
  induction d with
  | func f => exact congrArg Data.func (Option.some.inj e)
  | _ => exact nope e
theorem dicD_eq {d : Data} {es : Array DictEntry} (e : dicD d = some es) : ∃ n, d = .dict es n := by
  induction d with
  | dict xs n => exact ⟨n, congrArg (Data.dict · n) (Option.some.inj e)⟩
  | _ => exact nope e
theorem cond_some {α : Type} {b : Bool} {x y : α} (e : cond b (some x) none = some y) : b = true ∧ x = y := by
  induction b with
  | true => exact ⟨rfl, Option.some.inj e⟩
  | false => exact nope e
theorem cond_bind {α : Type} {b : Bool} {x : Option α} {y : α} (e : cond b x none = some y) : b = true ∧ x = some y := by
  induction b with
  | true => exact ⟨rfl, e⟩
  | false => exact nope e
theorem bareK_ok {a : Addr} {x : Option AV} {d : Data} (e : bareK K a = some (x, d)) : ∃ c, TK K a { cls := c, data := d } ∧ vO c = x := by
  refine el12 (Option.bind_eq_some_iff.mp e) fun o h e => ?_
  refine el02 (cond_some e) fun h1 e => ?_
  refine el02 (Bool.and_eq_true_iff.mp h1) fun h1 h2 => ?_
  obtain ⟨cl, dc, da, sl⟩ := o
  have hs : sl = #[] := Array.eq_empty_of_size_eq_zero (Nat.eq_of_beq_eq_true h2)
  have hd : dc = none := Option.isNone_iff_eq_none.mp h1
  subst hs; subst hd
  cases e
  exact ⟨cl, h, rfl⟩
theorem bare_typ {a : Addr} {n : String} {d : Data} (e : bareK K a = some (some (.typ n), d)) : TK K a { cls := .type n, data := d } := by
  refine el12 (bareK_ok e) fun c h e => ?_
  rwa [vO_typ e] at h
theorem map_bind {α β γ : Type} {x : Option α} {f : α → Option β} {g : α → β → γ} {z : γ} (e : (x.bind fun p => (f p).map (g p)) = some z) : ∃ p q, x = some p ∧ f p = some q ∧ g p q = z := by
  refine el12 (Option.bind_eq_some_iff.mp e) fun p h e => ?_
  refine el12 (Option.map_eq_some_iff.mp e) fun q h' e => ?_
  exact ⟨p, q, h, h', e⟩
theorem seqK_ok {a : Addr} {n : String} {vs : Array Value} {k : Nat} (e : seqK K a = some (some (.typ n), vs, k)) : TK K a { cls := .type n, data := .seq vs k } := by
  refine el23 (map_bind e) fun p q h h' e => ?_
  obtain ⟨x, d⟩ := p
  have := seqD_eq h'
  cases e
  exact this ▸ bare_typ h
theorem fldK_ok {a : Addr} {n : String} {vs : Array Value} (e : fldK K a = some (some (.typ n), vs)) : TK K a { cls := .type n, data := .fields vs } := by
  refine el23 (map_bind e) fun p q h h' e => ?_
  obtain ⟨x, d⟩ := p
  have := fldD_eq h'
  cases e
  exact this ▸ bare_typ h
theorem nsK_ok {a : Addr} {es : Array DictEntry} (e : nsK K a = some es) {h : Heap} (hT : ∀ b o, K.get b = some o → h.get? b = some o) : h.Ns a (nsFl es) := by
  obtain ⟨o, h1, e⟩ := Option.bind_eq_some_iff.mp e
  obtain ⟨xs, h2, e⟩ := Option.bind_eq_some_iff.mp e
  obtain ⟨h3, rfl⟩ := cond_some e
  refine el11 (dicD_eq h2) fun n h2 => ?_
  refine ⟨o, xs, n, hT _ _ h1, h2, fun x hx => keyS_eq (List.all_eq_true.mp h3 x (Array.mem_toList_iff.mpr hx)), fun n => ?_⟩
  obtain ⟨l⟩ := xs
  unfold nsFind findBy nsFl
  rw [List.find?_toArray]
theorem fnK_ok {fa : Addr} {fd : FuncData} (e : fnK K fa = some fd) : ∃ o, TK K fa o ∧ o.data = .func fd := by
  refine el12 (Option.bind_eq_some_iff.mp e) fun o h1 e => ?_
  exact ⟨o, h1, funD_eq e⟩
theorem isS_eq {x : Str} {v : AV} (h : isS x v = true) : v = .str x := by
  induction v with
  | str y => exact congrArg AV.str (eq_of_beq h)
  | _ => exact noff h
theorem foK_ok {s : Addr × (Arguments × List Stmt × Scope) × Value} {fa : Addr} (e : foK K fa = foS s) : ∃ o fd, TK K fa o ∧ o.data = .func fd ∧ fd = fdAt s.2.1 fd.name fd.qualname s.2.2 fd.kwdefaults fd.doc fd.pyModule fd.annotations fd.code fd.closureTuple ∧
    ∃ a oc vs t, fd.code = .ref a ∧ TK K a oc ∧ oc.data = .fields vs ∧ vs[1]? = some (.str fd.qualname t) := by
  refine el12 (Option.bind_eq_some_iff.mp e) fun fd h1 e => ?_
  refine el12 (Option.bind_eq_some_iff.mp e) fun q h2 e => ?_
  refine el02 (cond_some e) fun h3 e => ?_
  refine el12 (fnK_ok h1) fun o h1 h4 => ?_
  refine el12 (Option.bind_eq_some_iff.mp h2) fun a h5 h2 => ?_
  refine el12 (Option.bind_eq_some_iff.mp h2) fun oc h6 h2 => ?_
  refine el12 (Option.bind_eq_some_iff.mp h2) fun vs h7 h2 => ?_
  refine el12 (Option.bind_eq_some_iff.mp h2) fun v h8 h2 => ?_
  rw [isS_eq h3] at h2
  obtain ⟨t, rfl⟩ := vO_str h2
  exact ⟨o, fd, h1, h4, congrArg (fun g : FuncData => { g with name := fd.name, qualname := fd.qualname, kwdefaults := fd.kwdefaults, doc := fd.doc, pyModule := fd.pyModule, annotations := fd.annotations, code := fd.code, closureTuple := fd.closureTuple }) e, a, oc, vs, t, refD_eq h5, h6, fldD_eq h7, h8⟩
theorem fnIs_of {s : Addr × (Arguments × List Stmt × Scope) × Value} {fa : Addr} (e : foK K fa = foS s) : FnIs (TK K) fa s.2.1 s.2.2 := by
  obtain ⟨o, fd, h1, h2, h3, a, oc, vs, t, h4, h5, h6, h7⟩ := foK_ok e
  exact ⟨_, _, _, _, _, _, _, _, ⟨o, h1, h2.trans (congrArg Data.func h3)⟩, ⟨a, oc, vs, t, h4, h5, h6, h7⟩, rfl, rfl⟩
theorem at_of {α β γ : Type} {f : α → β} {g : γ → β} {l : List α} {m : List γ} (h : l.map f = m.map g) (i : Nat) (a : α) (c : γ) (hi : i < m.length) : f (l.getD i a) = g (m.getD i c) := by
  have e := congrArg (·[i]?) h
  simp only [List.getElem?_map] at e
  rw [List.getElem?_eq_getElem hi] at e
  refine el12 (Option.map_eq_some_iff.mp e) fun b h1 h2 => ?_
  rw [List.getD_eq_getElem?_getD, List.getD_eq_getElem?_getD, h1, List.getElem?_eq_getElem hi]
  exact h2
theorem lookup_in {v : Obj} {a : Addr} {l : Frag} (h : l.lookup a = some v) : (a, v) ∈ l := by
  induction l with
  | nil => contradiction
  | cons p r ih =>
    obtain ⟨b, u⟩ := p
    rw [List.lookup_cons] at h
    cases e : a == b with
    | true => rw [e] at h; obtain rfl := Option.some.inj h; rw [eq_of_beq e]; exact List.mem_cons_self
    | false => rw [e] at h; exact List.mem_cons_of_mem _ (ih h)
theorem frag_in {as : List Addr} {a : Addr} {o : Obj} (h : (fragOf K as).lookup a = some o) : K.get a = some o := by
  refine el12 (List.mem_filterMap.mp (lookup_in h)) fun b _ hb => ?_
  refine el12 (Option.map_eq_some_iff.mp hb) fun o' h1 h2 => ?_
  cases h2
  exact h1
theorem allO_ok {P : Addr → Obj → Prop} {f : Value → Option Dt} (hf : ∀ v d, f v = some d → IsD P v d) {vs : List Value} {ds : List Dt} (e : allO (vs.map f) = some ds) : IsDs P vs ds := by
  induction vs generalizing ds with
  | nil => obtain rfl := Option.some.inj e; exact .nil
  | cons v r ih =>
    refine el12 (Option.bind_eq_some_iff.mp (show ((f v).bind fun a => (allO (r.map f)).map (a :: ·)) = some ds from e)) fun d h1 e => ?_
    obtain ⟨es, h2, rfl⟩ := Option.map_eq_some_iff.mp e
    exact .cons (hf _ _ h1) (ih h2)
theorem isT_eq {v : Option AV} (h : isT v = true) : v = some (.typ "tuple") := by
  induction v with
  | none => exact noff h
  | some v =>
    induction v with
    | typ n => exact congrArg (fun n => some (AV.typ n)) (eq_of_beq h)
    | _ => exact noff h
theorem deep_ok (n : Nat) : ∀ v d, deep K n v = some d → IsD (TK K) v d := by
  induction n with
  | zero => exact fun v d e => nomatch e
  | succ n ih =>
    intro v d e
    induction v with
    | int i t => exact Option.some.inj e ▸ .int i t
    | str x t => exact Option.some.inj e ▸ .str x t
    | ref a =>
      refine el12 (Option.bind_eq_some_iff.mp e) fun p h1 e => ?_
      obtain ⟨c, vs, k⟩ := p
      refine el02 (cond_bind e) fun h e => ?_
      obtain ⟨ds, h2, rfl⟩ := Option.map_eq_some_iff.mp e
      exact .tup (seqK_ok (n := "tuple") ((show c = _ from isT_eq h) ▸ h1)) (allO_ok ih h2)
    | _ => exact nope e
theorem hexF_eq (n : Nat) : hexF n = hexU n := by
  unfold hexF hexU
  by_cases h : n < 10
  · rw [if_pos h, show Nat.blt n 10 = true from Nat.ble_eq_true_of_le h]; rfl
  · rw [if_neg h, show Nat.blt n 10 = false from Bool.eq_false_iff.mpr fun q => h (Nat.le_of_ble_eq_true q)]; rfl
theorem escF_eq (c : Nat) : escF c = esc c := by unfold escF esc; rw [hexF_eq, hexF_eq]; rfl
theorem encF_eq : ∀ c, c < 256 → encF c = encC c := by decide +kernel
theorem map_ok {a : Addr} {f g : Nat → Str} (hfg : ∀ c, c < 256 → f c = g c) (e : txK K a = txX f) : ∃ vs n, TK K a { cls := .type "list", data := .seq vs n } ∧ ∀ c, c < 256 → ∃ t, vs[c]? = some (.str (g c) t) := by
  obtain ⟨⟨x, vs, n⟩, h1, e⟩ := Option.map_eq_some_iff.mp e
  obtain rfl : x = _ := congrArg Prod.fst e
  refine ⟨vs, n, seqK_ok h1, fun c hc => ?_⟩
  have := congrArg (·[c]?) (congrArg Prod.snd e)
  simp only [List.getElem?_map, List.getElem?_range hc, Array.getElem?_toList, Option.map_some] at this
  refine el12 (Option.map_eq_some_iff.mp this) fun v h2 h3 => ?_
  obtain ⟨t, rfl⟩ := vO_str h3
  exact ⟨t, hfg c hc ▸ h2⟩
theorem pat_ok (h : seenK K = seenX) : PatOk (TK K) := by
  obtain ⟨⟨x, fs⟩, h1, e⟩ := Option.map_eq_some_iff.mp (congrArg Seen.p100 h)
  obtain rfl : x = _ := congrArg Prod.fst e
  have e := congrArg Prod.snd e
  obtain ⟨⟨y, d⟩, q, h2, h3, h4⟩ := map_bind (congrArg Seen.p99 h)
  refine el12 (bareK_ok h2) fun c h2 _ => ?_
  refine el11 (vO_int (congrArg (fun p => p.2.1) e)) fun t2 e2 => ?_
  refine el11 (vO_int (congrArg (fun p => p.2.2) e)) fun t6 e6 => ?_
  exact ⟨100, fldK_ok (congrArg Seen.p796 h), fs, 99, q.1, q.2, t2, t6, fldK_ok h1, congrArg Prod.fst e, e2, e6, ⟨c, seqD_eq h3 ▸ h2⟩, h4⟩
theorem law_seen (h : seenK K = seenX) : ∃ eg, nsK K mainGlobals = some eg ∧ nsFl eg "law" = some (.ref 895) := Option.bind_eq_some_iff.mp (congrArg Seen.law h)
theorem seen_top {w : World} (h : seenK K = seenX) : TopOk w (TK K) gl := by
  refine el12 (Option.map_eq_some_iff.mp (congrArg Seen.stc h)) fun es h3 e => ?_
  refine el23 (map_bind (congrArg Seen.gls h)) fun eg eb h1 h2 hg => ?_
  refine ⟨fun h hT => ⟨⟨_, nsK_ok h3 hT, congrArg Prod.fst e⟩, ⟨_, nsK_ok h3 hT, congrArg Prod.snd e⟩⟩, fun x v s env hg' hb hT hx => ?_, ⟨fragOf K clsAs, fun a o e => frag_in e, congrArg Seen.cls h⟩⟩
  have hm := List.map_inj_left.mp hg (x, v) (find_lookup hx)
  have ng := nsK_ok h1 (h := s.heap) hT
  have nb := nsK_ok h2 (h := s.heap) hT
  rw [← hg'] at ng
  rw [← hb] at nb
  refine el12 (Option.bind_eq_some_iff.mp hm) fun u h4 h5 => ?_
  dsimp only at h4
  cases e4 : nsFl eg x with
  | some u' =>
    rw [e4] at h4
    cases h4
    exact ⟨u, vO_ok h5, fun A E Q hq => loadGlobal_global ng e4 hq⟩
  | none =>
    rw [e4] at h4
    exact ⟨u, vO_ok h5, fun A E Q hq => loadGlobal_builtin ng e4 nb h4 hq⟩
noncomputable abbrev spA (i : Nat) : Addr := fas.getD i 0
noncomputable abbrev spF (i : Nat) : Addr × (Arguments × List Stmt × Scope) × Value := specs.getD i (0, fn0, .none)
theorem fn_seen (h : seenK K = seenX) (i : Nat) (hi : i < 27) : FnIs (TK K) (spA i) (spF i).2.1 (spF i).2.2 := fnIs_of (at_of (g := foS) (m := specs) (congrArg Seen.fos h) i 0 (0, fn0, .none) hi)
theorem tup_seen (h : seenK K = seenX) (i : Nat) (hi : i < 6) : TK K (tupA.getD i 0) { cls := .type "tuple", data := .seq (tupV.getD i #[]) } := seqK_ok (n := "tuple") (k := 0) (at_of (f := seqK K) (g := tupX) (l := tupA) (m := tupV) (congrArg Seen.tup h) i 0 #[] hi)
theorem tab_seen (h : seenK K = seenX) : ∃ vs n, TK K 843 { cls := .type "tuple", data := .seq vs n } ∧ IsDs (TK K) vs.toList (tabD.map rowD) := by
  have := deep_ok (K := K) 4 (.ref 843) (.tup (tabD.map rowD)) (congrArg Seen.tab h)
  cases this with | tup a b => exact ⟨_, _, a, b⟩
theorem lt27 {i : Nat} (h : Nat.blt i 27 = true) : i < 27 := Nat.le_of_ble_eq_true h
theorem seen_fs (h : seenK K = seenX) : TopFs (TK K) :=
  have o := fun i (q : Nat.blt i 27 = true) => fn_seen h i (lt27 q)
  have t := tup_seen h
  { unq := o 0 rfl, quo := o 1 rfl, enc := ⟨80, _, _, t 0 (by decide), o 2 rfl⟩, dec := ⟨88, _, t 1 (by decide), o 3 rfl⟩, map := map_ok (fun c _ => congrArg tx (escF_eq c)) (congrArg Seen.t47 h), bmap := map_ok (fun c hc => congrArg tx (encF_eq c hc)) (congrArg Seen.t76 h), pat := pat_ok h,
    shq := o 4 rfl, ifm := o 5 rfl, fmd := o 6 rfl, tab := tab_seen h, nam := o 7 rfl, rig := o 8 rfl, row := o 9 rfl, hea := o 10 rfl, arr := o 11 rfl, tol := o 12 rfl, law := o 13 rfl,
    lex := { tok := o 14 rfl, get := o 15 rfl, nxt := o 16 rfl, itr := o 17 rfl, pun := o 18 rfl, read := o 19 rfl, chk := o 20 rfl, idx := o 21 rfl, df := ⟨_, t 3 (by decide)⟩ },
    mks := { new := o 22 rfl, si := o 23 rfl, tr := o 24 rfl, xi := o 25 rfl, sp := o 26 rfl, d1 := ⟨_, _, t 2 (by decide)⟩, d2 := t 4 (by decide), d3 := t 5 (by decide) } }
end
end
section
open PySem.W.X PySem.Builtin
noncomputable def YH (_ : World) (s : Shared) : Prop := ∃ K, (∀ a o, K.get a = some o → s.heap.get? a = some o) ∧ 0 < s.toks ∧ seenK K = seenX
theorem beh_ok (hG : ∀ w, Good w) (w : World) : (∃ s, AfterRun (opening pw) w s) ∧ ∀ s, AfterRun (opening pw) w s → ∃ s₀, fenceModules? pw s = some s₀ ∧ s₀.gens = #[] ∧ ∃ s₁, TopRan pw w s₀ s₁ ∧ s₁.asleep ∧ s₁.gens = #[] ∧ s₁.heap.isNs mainGlobals = true ∧ YH w s₁ := by
 obtain ⟨⟨b, v, K⟩, h, e⟩ := Option.map_eq_some_iff.mp (hG w)
 have h1 : b = true := congrArg Prod.fst e
 have h2 : v = bltViewBooted := congrArg (fun p => p.2.1) e
 have h3 : seenK K = seenX := congrArg (fun p => p.2.2) e
 unfold headCk headRun at h
 cases e1 : bootK pw w with
 | none => rw [e1] at h; contradiction
 | some K0 =>
  rw [e1] at h
  dsimp only at h
  cases e2 : topK pw w K0 with
  | none => rw [e2] at h; contradiction
  | some K1 =>
   rw [e2] at h
   have h := Option.some.inj h
   obtain rfl : K1 = K := congrArg (fun p => p.2.2) h
   obtain ⟨s, hs, hu, s₀, hf, N, hg, hl⟩ := boot_ok e1 (by kernel_rfl)
   refine ⟨⟨s, hs⟩, fun s' hs' => ?_⟩
   obtain rfl := hu s' hs'
   obtain ⟨s₁, hT, hz, hg1, hn, _, N1⟩ := top_ok e2 ((congrArg Prod.fst h).trans h1) ((congrArg (fun p => p.2.1) h).trans h2) N hg hl
   exact ⟨s₀, hf, hg, s₁, hT, hz, hg1, hn, K1, N1.objs, by rw [N1.toks]; decide, h3⟩
theorem ns_global {h : Heap} {f : Str → Option Value} {n : Str} {v : Value} (H : h.Ns mainNs f) (e : f n = some v) : globalOf h n = some v := by
 obtain ⟨o, es, k, h1, h2, _, h3⟩ := H
 unfold globalOf
 rw [h1]
 show (match o.data with | .dict es _ => _ | _ => _) = _
 rw [h2]
 exact (h3 n).trans e
theorem law_pin {w : World} {s : Shared} (hY : YH w s) : isTheDefsW pw s.heap "law" := by
 obtain ⟨K, hK, _, h⟩ := hY
 obtain ⟨eg, e1, e2⟩ := law_seen h
 obtain ⟨fd', g1, g2⟩ := Option.map_eq_some_iff.mp (congrArg Seen.lw h)
 obtain ⟨o, fd, h1, h2, h3, _⟩ := foK_ok (fa := 895) (s := (895, fnAt 78, .none)) (at_of (g := foS) (m := specs) (congrArg Seen.fos h) 13 0 (0, fn0, .none) (lt27 rfl))
 obtain ⟨o', h1', h2'⟩ := fnK_ok g1
 obtain rfl : o = o' := Option.some.inj (h1.symm.trans h1')
 obtain rfl : fd = fd' := by injection h2.symm.trans h2'
 exact ⟨895, o, fd, (fnAt 78).1, (fnAt 78).2.1, (fnAt 78).2.2, ns_global (nsK_ok e1 hK) e2, hK _ _ h1, h2, by kernel_rfl, congrArg Prod.fst g2, congrArg (fun p => p.2.1) g2, congrArg FuncData.params h3, congrArg FuncData.body h3, congrArg FuncData.scope h3, congrArg FuncData.globals h3, congrArg FuncData.closure h3, congrArg FuncData.builtins h3, .inl ⟨by kernel_rfl, congrArg FuncData.defaults h3⟩, [], by kernel_rfl, .inl ⟨rfl, congrArg (fun p => p.2.2) g2⟩⟩
theorem ofPys_ints : ∀ ns : List Int, ofPys (ns.map PyData.int) = ns.map WData.int
 | [] => by simp [ofPys]
 | n :: ns => by simp [ofPys, ofPy, ofPys_ints ns]
theorem reads_ints {R : WRecords} {cl : Str → Option Addr} {h : Heap} {P : Addr → Obj → Prop} : ∀ {ns : List Int} {vs : List Value} {as : List Addr}, ReadsAllW R cl h vs (ns.map WData.int) as → IsDs P vs (ns.map Dt.int)
 | [], _, _, r => by cases r; exact .nil
 | n :: ns, _, _, r => by
  cases r with | cons a b => ?_
  cases a
  exact .cons (.int _ _) (reads_ints b)
noncomputable abbrev rwR : RowW := PySem.Challenge.rw_oh0108_01.row.toRowW
theorem pre_val (R : WRecords) (xs : List WData) (h : (WTm.and (.not (.lt (.lit (.int ((63 : Nat) : Int))) (.len (.arg 0)))) (.lit (.bool true))).holds R { args := [.list xs] } = true) : xs.length ≤ 63 := by
 refine Nat.le_of_not_lt fun q => ?_
 have hq : decide ((((63 : Nat) : Int)) < (xs.length : Int)) = true := decide_eq_true (by omega)
 simp only [WTm.holds, WTm.value, List.getElem?_cons_zero, less?, Num.less?, Option.map_some, hq, Bool.not_true] at h
 contradiction
theorem post_val (R : WRecords) (as ds : List WData) : (WShape.has R (.bool true) .bool && (WTm.eq .res (.lit (.bool true))).holds R { args := as, res := some (.bool true), after := ds }) = true := by
 simp [WShape.has, WShape.arms, WTm.holds, WTm.value, same]
theorem pre_len {ns : List Int} (h : rwR.pre.holds rwR.records { args := [.list (ns.map WData.int)] } = true) : ns.length ≤ 63 := by
 have := pre_val rwR.records (ns.map WData.int) h
 rwa [List.length_map] at this
theorem law_holds (hG : ∀ w, Good w) (kps : List Str) (ok : (opensWell rwR.prog && (frees rwR && rwR.within.isEmpty)) = true) (hb : rwR.prog.bare) (hw : rwR.promised) : rwR.claim.HoldsOpenBy (callStub "law") ["law"] kps false := by
 refine own_anyX (r := rwR) (f := .none) (Y := YH) rfl ok hb hw (beh_ok hG) (fun w s _ y n hn => ?_) fun w s₀ s₁ hg Y args vs as hpre hlay L => ?_
 ·rw [List.mem_singleton.mp hn]; exact law_pin y
 ·obtain ⟨K, hK, htk, h⟩ := Y
  have hT := seen_top (w := w) h
  obtain ⟨eg, e1, e2⟩ := law_seen h
  have hX := seen_fs h
  obtain ⟨p1, p2⟩ := pre_splitW hpre
  obtain ⟨d, r, rfl, q1, q2⟩ := hasAllW_cons p1
  obtain rfl := hasAllW_nil q2
  obtain ⟨xs, rfl, q3⟩ := hasW_list q1
  obtain ⟨ns, rfl⟩ := items_int q3
  have hl := pre_len p2
  have hK1 : ∀ a o, K.get a = some o → s₁.heap.get? a = some o := fun a o e => L.keeps _ _ (hK _ _ e)
  have hrd := L.reads
  cases hrd with | cons a b => ?_
  cases b
  cases a with | @list a o its n _ as' g1 g2 g3 g4 => ?_
  have L' : Laid rwR.records w s₀ s₁ [ofPy (PyData.list (ns.map PyData.int))] [.ref a] (a :: as' ++ []) := by
   rw [show ofPy (PyData.list (ns.map PyData.int)) = WData.list (ns.map WData.int) by simp [ofPy, ofPys_ints]]
   exact L
  have ht := script_toks L' rfl
  have hob := script_obj L' (its := its) ⟨_, g1, g2, n, g3⟩
  have hns := nsK_ok e1 (h := s₁.heap) hK1
  refine wpAny_bind (wpAny_nsGet hns ?_)
  rw [e2]
  refine wpAny_bind (wpAny_mono ((law_ok (w := w) hT hX hl).2 callerA (fun _ _ => False) s₁ (fun _ => False) [.ref a] ⟨rfl, by decide, by decide⟩ ⟨[], rfl, fun e h => nomatch h⟩ (by exact nl2 [_, _] (.add (.num 0) (.num 1)) vr0 vr0 vr1 (.add (.num 0) (.num 1)) vr1 rfl htk ht) (Nat.zero_le _) (fun b o h => ⟨hK1 b o h, id⟩) (fun a h => h.elim) (.cons (.list ⟨hob, id⟩ (reads_ints g4)) .nil)) (fun v s' y => ?_) (fun _ _ h => h.elim))
  obtain ⟨⟨y1, y2, y3, y4⟩, y5⟩ := y
  cases y5
  refine wpAny_pure ⟨_, rfl, GoodW.toG ⟨.inl ⟨_, .bool true, [], rfl, fun _ => rfl, .bool true, ?_, fun _ => ⟨List.nodup_nil, fun a h => nomatch h⟩⟩, fun b o e => y1 b o (fun q => ?_) e, y4, y3.trans L.gens⟩⟩
  ·exact post_val rwR.records _ _
  ·obtain ⟨l, e, q1, q2, _⟩ := q
   obtain rfl := Option.some.inj q1
   contradiction
end
section
end
end Mine
open PySem PySem.W PyProof.Rows
set_option maxHeartbeats 8000000 in
theorem PySem.Challenge.cw_oh0108_01_holds : PySem.Challenge.rw_oh0108_01.Holds :=
  ⟨Mine.said, row_said Mine.said, ⟨[.list [.int 3, .int 1]], by decide +kernel, by decide +kernel⟩, Mine.law_holds Mine.good_all _ (by decide +kernel) ⟨rfl, rfl, rfl, rfl, rfl, by decide +kernel⟩ ⟨[.list [.int 3, .int 1]], by decide +kernel, by decide +kernel⟩⟩
