/-
  Three closed facts of the whole cut (mayEnter, liftsFinal, make), cheaply: each reads the words of 'initOrder', a long string whose signs the kernel decodes byte by byte (9 GB): here the string's list is had by unification, and each fact is proved of ANY program whose string has that list.
-/
import Derived.Test.Qxb6001689aRows
import Derived.JoinedOf
import Derived.KernelRfl
namespace Go.Proofs.Qxb6001689a

set_option maxRecDepth 100000 in
noncomputable def ini : { l : List Char // Try.prog.initOrder = String.ofList l } := ⟨_, rfl⟩
theorem ini_list : Try.prog.initOrder.toList = ini.1 := (congrArg String.toList ini.2).trans String.toList_ofList

theorem head_lifts : Try.prog.headLifts = [] := by
  have key : ∀ Q : Program, Q.initOrder.toList = ini.1 → Q.headLifts = [] := by
    intro Q h
    unfold Program.headLifts
    rw [h]
    kernel_rfl
  exact key _ ini_list
theorem lifts_final : Try.prog.liftsFinal = false := by
  have key : ∀ Q : Program, Q.initOrder.toList = ini.1 → Q.headLifts = [] → Q.liftsFinal = false := by
    intro Q h hh
    unfold Program.liftsFinal
    rw [h, hh]
    kernel_rfl
  exact key _ ini_list head_lifts
theorem make_cut : Try.prog.make = some .cut := by
  have key : ∀ Q : Program, Q.initOrder.toList = ini.1 → Q.headLifts = [] → Q.make = some .cut := by
    intro Q h hh
    unfold Program.make
    rw [h, hh]
    kernel_rfl
  exact key _ ini_list head_lifts
theorem may_enter : Try.prog.mayEnter = true := by
  have h1 : Try.prog.laysLater = false := by kernel_rfl
  have h2 : Try.prog.bearsReflect = false := by kernel_rfl
  have h3 : Try.prog.doorFits [] = true := by kernel_rfl
  have key : ∀ Q : Program, Q.initOrder.toList = ini.1 → Q.laysLater = false → Q.bearsReflect = false → Q.doorFits [] = true → Q.mayEnter = true := by
    intro Q h k1 k2 k3
    unfold Program.mayEnter
    rw [h, k1, k2]
    exact k3
  exact key _ ini_list h1 h2 h3

theorem beq_right {α : Type} [BEq α] {a x y : α} (h : x = y) (k : (a == y) = true) : (a == x) = true := by subst h; exact k
theorem beq_left {α : Type} [BEq α] {a x y : α} (h : x = y) (k : (y == a) = true) : (x == a) = true := by subst h; exact k
theorem both {a b : Bool} (ha : a = true) (hb : b = true) : (a && b) = true := by subst ha; subst hb; rfl

end Go.Proofs.Qxb6001689a
