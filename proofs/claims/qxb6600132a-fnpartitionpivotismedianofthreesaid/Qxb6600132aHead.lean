/-
  The program's head word, read as a list of signs once: the three closed facts of a row that look at it, each proved off that list.
  (Asked of the kernel as they stand they want more than 10 GB: the text's signs are read off one by one.)
-/
import Derived.Test.Qxb6600132aChecked
import Derived.JoinedOf
import Derived.KernelRfl
namespace Go.Proofs.Qxb6600132a.Head
set_option maxRecDepth 100000 in
/-- The signs of the program's head. -/
def signs : List Char := [
  Char.ofNat 104, Char.ofNat 97, Char.ofNat 114, Char.ofNat 110, Char.ofNat 101, Char.ofNat 115, Char.ofNat 115, Char.ofNat 32, Char.ofNat 49, 
  Char.ofNat 54, Char.ofNat 57, Char.ofNat 49, Char.ofNat 97, Char.ofNat 98, Char.ofNat 48, Char.ofNat 55, Char.ofNat 56, Char.ofNat 49, Char.ofNat 50, 
  Char.ofNat 54, Char.ofNat 55, Char.ofNat 49, Char.ofNat 51, Char.ofNat 100, Char.ofNat 54, Char.ofNat 49, Char.ofNat 51, Char.ofNat 100, 
  Char.ofNat 55, Char.ofNat 98, Char.ofNat 101, Char.ofNat 97, Char.ofNat 99, Char.ofNat 55, Char.ofNat 98, Char.ofNat 55, Char.ofNat 102, 
  Char.ofNat 54, Char.ofNat 51, Char.ofNat 50, Char.ofNat 49, Char.ofNat 54, Char.ofNat 100, Char.ofNat 49, Char.ofNat 52, Char.ofNat 101, 
  Char.ofNat 100, Char.ofNat 54, Char.ofNat 98, Char.ofNat 100, Char.ofNat 56, Char.ofNat 49, Char.ofNat 51, Char.ofNat 102, Char.ofNat 54, 
  Char.ofNat 102, Char.ofNat 53, Char.ofNat 101, Char.ofNat 99, Char.ofNat 100, Char.ofNat 52, Char.ofNat 52, Char.ofNat 101, Char.ofNat 55, 
  Char.ofNat 97, Char.ofNat 49, Char.ofNat 101, Char.ofNat 100, Char.ofNat 51, Char.ofNat 48, Char.ofNat 57, Char.ofNat 101, Char.ofNat 32, 
  Char.ofNat 99, Char.ofNat 117, Char.ofNat 116, Char.ofNat 32, Char.ofNat 97, Char.ofNat 116, Char.ofNat 32, Char.ofNat 101, Char.ofNat 120, 
  Char.ofNat 97, Char.ofNat 109, Char.ofNat 112, Char.ofNat 108, Char.ofNat 101, Char.ofNat 46, Char.ofNat 99, Char.ofNat 111, Char.ofNat 109, 
  Char.ofNat 47, Char.ofNat 122, Char.ofNat 104, Char.ofNat 97, Char.ofNat 111, Char.ofNat 109, Char.ofNat 117, Char.ofNat 47, Char.ofNat 122, 
  Char.ofNat 104, Char.ofNat 97, Char.ofNat 111, Char.ofNat 109, Char.ofNat 117, Char.ofNat 47, Char.ofNat 122, Char.ofNat 122, Char.ofNat 108, 
  Char.ofNat 97, Char.ofNat 119, Char.ofNat 115, Char.ofNat 95, Char.ofNat 105, Char.ofNat 110, Char.ofNat 116, Char.ofNat 101, Char.ofNat 114, 
  Char.ofNat 110, Char.ofNat 97, Char.ofNat 108, Char.ofNat 95, Char.ofNat 100, Char.ofNat 97, Char.ofNat 105, Char.ofNat 108, Char.ofNat 121, 
  Char.ofNat 105, Char.ofNat 110, Char.ofNat 99, Char.ofNat 111, Char.ofNat 109, Char.ofNat 101, Char.ofNat 95, Char.ofNat 98, Char.ofNat 49, 
  Char.ofNat 46, Char.ofNat 70, Char.ofNat 110, Char.ofNat 80, Char.ofNat 97, Char.ofNat 114, Char.ofNat 116, Char.ofNat 105, Char.ofNat 116, 
  Char.ofNat 105, Char.ofNat 111, Char.ofNat 110, Char.ofNat 80, Char.ofNat 101, Char.ofNat 114, Char.ofNat 109, Char.ofNat 117, Char.ofNat 116, 
  Char.ofNat 101, Char.ofNat 115, Char.ofNat 32, Char.ofNat 101, Char.ofNat 120, Char.ofNat 97, Char.ofNat 109, Char.ofNat 112, Char.ofNat 108, 
  Char.ofNat 101, Char.ofNat 46, Char.ofNat 99, Char.ofNat 111, Char.ofNat 109, Char.ofNat 47, Char.ofNat 122, Char.ofNat 104, Char.ofNat 97, 
  Char.ofNat 111, Char.ofNat 109, Char.ofNat 117, Char.ofNat 47, Char.ofNat 122, Char.ofNat 104, Char.ofNat 97, Char.ofNat 111, Char.ofNat 109, 
  Char.ofNat 117, Char.ofNat 47, Char.ofNat 122, Char.ofNat 122, Char.ofNat 108, Char.ofNat 97, Char.ofNat 119, Char.ofNat 115, Char.ofNat 95, 
  Char.ofNat 105, Char.ofNat 110, Char.ofNat 116, Char.ofNat 101, Char.ofNat 114, Char.ofNat 110, Char.ofNat 97, Char.ofNat 108, Char.ofNat 95, 
  Char.ofNat 100, Char.ofNat 97, Char.ofNat 105, Char.ofNat 108, Char.ofNat 121, Char.ofNat 105, Char.ofNat 110, Char.ofNat 99, Char.ofNat 111, 
  Char.ofNat 109, Char.ofNat 101, Char.ofNat 95, Char.ofNat 98, Char.ofNat 49, Char.ofNat 46, Char.ofNat 70, Char.ofNat 110, Char.ofNat 80, 
  Char.ofNat 97, Char.ofNat 114, Char.ofNat 116, Char.ofNat 105, Char.ofNat 116, Char.ofNat 105, Char.ofNat 111, Char.ofNat 110, Char.ofNat 83, 
  Char.ofNat 112, Char.ofNat 108, Char.ofNat 105, Char.ofNat 116, Char.ofNat 115, Char.ofNat 65, Char.ofNat 114, Char.ofNat 111, Char.ofNat 117, 
  Char.ofNat 110, Char.ofNat 100, Char.ofNat 80, Char.ofNat 105, Char.ofNat 118, Char.ofNat 111, Char.ofNat 116, Char.ofNat 32, Char.ofNat 101, 
  Char.ofNat 120, Char.ofNat 97, Char.ofNat 109, Char.ofNat 112, Char.ofNat 108, Char.ofNat 101, Char.ofNat 46, Char.ofNat 99, Char.ofNat 111, 
  Char.ofNat 109, Char.ofNat 47, Char.ofNat 122, Char.ofNat 104, Char.ofNat 97, Char.ofNat 111, Char.ofNat 109, Char.ofNat 117, Char.ofNat 47, 
  Char.ofNat 122, Char.ofNat 104, Char.ofNat 97, Char.ofNat 111, Char.ofNat 109, Char.ofNat 117, Char.ofNat 47, Char.ofNat 122, Char.ofNat 122, 
  Char.ofNat 108, Char.ofNat 97, Char.ofNat 119, Char.ofNat 115, Char.ofNat 95, Char.ofNat 105, Char.ofNat 110, Char.ofNat 116, Char.ofNat 101, 
  Char.ofNat 114, Char.ofNat 110, Char.ofNat 97, Char.ofNat 108, Char.ofNat 95, Char.ofNat 100, Char.ofNat 97, Char.ofNat 105, Char.ofNat 108, 
  Char.ofNat 121, Char.ofNat 105, Char.ofNat 110, Char.ofNat 99, Char.ofNat 111, Char.ofNat 109, Char.ofNat 101, Char.ofNat 95, Char.ofNat 98, 
  Char.ofNat 49, Char.ofNat 46, Char.ofNat 70, Char.ofNat 110, Char.ofNat 80, Char.ofNat 97, Char.ofNat 114, Char.ofNat 116, Char.ofNat 105, 
  Char.ofNat 116, Char.ofNat 105, Char.ofNat 111, Char.ofNat 110, Char.ofNat 80, Char.ofNat 105, Char.ofNat 118, Char.ofNat 111, Char.ofNat 116, 
  Char.ofNat 73, Char.ofNat 115, Char.ofNat 77, Char.ofNat 101, Char.ofNat 100, Char.ofNat 105, Char.ofNat 97, Char.ofNat 110, Char.ofNat 79, 
  Char.ofNat 102, Char.ofNat 84, Char.ofNat 104, Char.ofNat 114, Char.ofNat 101, Char.ofNat 101, Char.ofNat 32, Char.ofNat 101, Char.ofNat 120, 
  Char.ofNat 97, Char.ofNat 109, Char.ofNat 112, Char.ofNat 108, Char.ofNat 101, Char.ofNat 46, Char.ofNat 99, Char.ofNat 111, Char.ofNat 109, 
  Char.ofNat 47, Char.ofNat 122, Char.ofNat 104, Char.ofNat 97, Char.ofNat 111, Char.ofNat 109, Char.ofNat 117, Char.ofNat 47, Char.ofNat 122, 
  Char.ofNat 104, Char.ofNat 97, Char.ofNat 111, Char.ofNat 109, Char.ofNat 117, Char.ofNat 47, Char.ofNat 122, Char.ofNat 122, Char.ofNat 108, 
  Char.ofNat 97, Char.ofNat 119, Char.ofNat 115, Char.ofNat 95, Char.ofNat 105, Char.ofNat 110, Char.ofNat 116, Char.ofNat 101, Char.ofNat 114, 
  Char.ofNat 110, Char.ofNat 97, Char.ofNat 108, Char.ofNat 95, Char.ofNat 100, Char.ofNat 97, Char.ofNat 105, Char.ofNat 108, Char.ofNat 121, 
  Char.ofNat 105, Char.ofNat 110, Char.ofNat 99, Char.ofNat 111, Char.ofNat 109, Char.ofNat 101, Char.ofNat 95, Char.ofNat 98, Char.ofNat 49, 
  Char.ofNat 46, Char.ofNat 70, Char.ofNat 110, Char.ofNat 66, Char.ofNat 101, Char.ofNat 102, Char.ofNat 111, Char.ofNat 114, Char.ofNat 101, 
  Char.ofNat 84, Char.ofNat 114, Char.ofNat 105, Char.ofNat 99, Char.ofNat 104, Char.ofNat 111, Char.ofNat 116, Char.ofNat 111, Char.ofNat 109, 
  Char.ofNat 121, Char.ofNat 32, Char.ofNat 101, Char.ofNat 120, Char.ofNat 97, Char.ofNat 109, Char.ofNat 112, Char.ofNat 108, Char.ofNat 101, 
  Char.ofNat 46, Char.ofNat 99, Char.ofNat 111, Char.ofNat 109, Char.ofNat 47, Char.ofNat 122, Char.ofNat 104, Char.ofNat 97, Char.ofNat 111, 
  Char.ofNat 109, Char.ofNat 117, Char.ofNat 47, Char.ofNat 122, Char.ofNat 104, Char.ofNat 97, Char.ofNat 111, Char.ofNat 109, Char.ofNat 117, 
  Char.ofNat 47, Char.ofNat 122, Char.ofNat 122, Char.ofNat 108, Char.ofNat 97, Char.ofNat 119, Char.ofNat 115, Char.ofNat 95, Char.ofNat 105, 
  Char.ofNat 110, Char.ofNat 116, Char.ofNat 101, Char.ofNat 114, Char.ofNat 110, Char.ofNat 97, Char.ofNat 108, Char.ofNat 95, Char.ofNat 100, 
  Char.ofNat 97, Char.ofNat 105, Char.ofNat 108, Char.ofNat 121, Char.ofNat 105, Char.ofNat 110, Char.ofNat 99, Char.ofNat 111, Char.ofNat 109, 
  Char.ofNat 101, Char.ofNat 95, Char.ofNat 98, Char.ofNat 49, Char.ofNat 46, Char.ofNat 70, Char.ofNat 110, Char.ofNat 66, Char.ofNat 101, 
  Char.ofNat 102, Char.ofNat 111, Char.ofNat 114, Char.ofNat 101, Char.ofNat 84, Char.ofNat 114, Char.ofNat 97, Char.ofNat 110, Char.ofNat 115, 
  Char.ofNat 105, Char.ofNat 116, Char.ofNat 105, Char.ofNat 118, Char.ofNat 101, Char.ofNat 32, Char.ofNat 101, Char.ofNat 120, Char.ofNat 97, 
  Char.ofNat 109, Char.ofNat 112, Char.ofNat 108, Char.ofNat 101, Char.ofNat 46, Char.ofNat 99, Char.ofNat 111, Char.ofNat 109, Char.ofNat 47, 
  Char.ofNat 122, Char.ofNat 104, Char.ofNat 97, Char.ofNat 111, Char.ofNat 109, Char.ofNat 117, Char.ofNat 47, Char.ofNat 122, Char.ofNat 104, 
  Char.ofNat 97, Char.ofNat 111, Char.ofNat 109, Char.ofNat 117, Char.ofNat 47, Char.ofNat 122, Char.ofNat 122, Char.ofNat 108, Char.ofNat 97, 
  Char.ofNat 119, Char.ofNat 115, Char.ofNat 95, Char.ofNat 105, Char.ofNat 110, Char.ofNat 116, Char.ofNat 101, Char.ofNat 114, Char.ofNat 110, 
  Char.ofNat 97, Char.ofNat 108, Char.ofNat 95, Char.ofNat 100, Char.ofNat 97, Char.ofNat 105, Char.ofNat 108, Char.ofNat 121, Char.ofNat 105, 
  Char.ofNat 110, Char.ofNat 99, Char.ofNat 111, Char.ofNat 109, Char.ofNat 101, Char.ofNat 95, Char.ofNat 98, Char.ofNat 49, Char.ofNat 46, 
  Char.ofNat 70, Char.ofNat 110, Char.ofNat 65, Char.ofNat 100, Char.ofNat 100, Char.ofNat 75, Char.ofNat 101, Char.ofNat 101, Char.ofNat 112, 
  Char.ofNat 115, Char.ofNat 78, Char.ofNat 111, Char.ofNat 114, Char.ofNat 109, Char.ofNat 97, Char.ofNat 108, Char.ofNat 70, Char.ofNat 111, 
  Char.ofNat 114, Char.ofNat 109, Char.ofNat 65, Char.ofNat 110, Char.ofNat 100, Char.ofNat 86, Char.ofNat 97, Char.ofNat 108, Char.ofNat 117, 
  Char.ofNat 101, Char.ofNat 32, Char.ofNat 101, Char.ofNat 120, Char.ofNat 97, Char.ofNat 109, Char.ofNat 112, Char.ofNat 108, Char.ofNat 101, 
  Char.ofNat 46, Char.ofNat 99, Char.ofNat 111, Char.ofNat 109, Char.ofNat 47, Char.ofNat 122, Char.ofNat 104, Char.ofNat 97, Char.ofNat 111, 
  Char.ofNat 109, Char.ofNat 117, Char.ofNat 47, Char.ofNat 122, Char.ofNat 104, Char.ofNat 97, Char.ofNat 111, Char.ofNat 109, Char.ofNat 117, 
  Char.ofNat 47, Char.ofNat 122, Char.ofNat 122, Char.ofNat 108, Char.ofNat 97, Char.ofNat 119, Char.ofNat 115, Char.ofNat 95, Char.ofNat 105, 
  Char.ofNat 110, Char.ofNat 116, Char.ofNat 101, Char.ofNat 114, Char.ofNat 110, Char.ofNat 97, Char.ofNat 108, Char.ofNat 95, Char.ofNat 100, 
  Char.ofNat 97, Char.ofNat 105, Char.ofNat 108, Char.ofNat 121, Char.ofNat 105, Char.ofNat 110, Char.ofNat 99, Char.ofNat 111, Char.ofNat 109, 
  Char.ofNat 101, Char.ofNat 95, Char.ofNat 98, Char.ofNat 49, Char.ofNat 46, Char.ofNat 70, Char.ofNat 110, Char.ofNat 65, Char.ofNat 100, 
  Char.ofNat 100, Char.ofNat 84, Char.ofNat 104, Char.ofNat 101, Char.ofNat 110, Char.ofNat 83, Char.ofNat 117, Char.ofNat 98, Char.ofNat 116, 
  Char.ofNat 114, Char.ofNat 97, Char.ofNat 99, Char.ofNat 116, Char.ofNat 82, Char.ofNat 101, Char.ofNat 115, Char.ofNat 116, Char.ofNat 111, 
  Char.ofNat 114, Char.ofNat 101, Char.ofNat 115, Char.ofNat 32, Char.ofNat 101, Char.ofNat 120, Char.ofNat 97, Char.ofNat 109, Char.ofNat 112, 
  Char.ofNat 108, Char.ofNat 101, Char.ofNat 46, Char.ofNat 99, Char.ofNat 111, Char.ofNat 109, Char.ofNat 47, Char.ofNat 122, Char.ofNat 104, 
  Char.ofNat 97, Char.ofNat 111, Char.ofNat 109, Char.ofNat 117, Char.ofNat 47, Char.ofNat 122, Char.ofNat 104, Char.ofNat 97, Char.ofNat 111, 
  Char.ofNat 109, Char.ofNat 117, Char.ofNat 47, Char.ofNat 122, Char.ofNat 122, Char.ofNat 108, Char.ofNat 97, Char.ofNat 119, Char.ofNat 115, 
  Char.ofNat 95, Char.ofNat 105, Char.ofNat 110, Char.ofNat 116, Char.ofNat 101, Char.ofNat 114, Char.ofNat 110, Char.ofNat 97, Char.ofNat 108, 
  Char.ofNat 95, Char.ofNat 100, Char.ofNat 97, Char.ofNat 105, Char.ofNat 108, Char.ofNat 121, Char.ofNat 105, Char.ofNat 110, Char.ofNat 99, 
  Char.ofNat 111, Char.ofNat 109, Char.ofNat 101, Char.ofNat 95, Char.ofNat 98, Char.ofNat 49, Char.ofNat 46, Char.ofNat 70, Char.ofNat 110, 
  Char.ofNat 65, Char.ofNat 100, Char.ofNat 100, Char.ofNat 67, Char.ofNat 111, Char.ofNat 109, Char.ofNat 109, Char.ofNat 117, Char.ofNat 116, 
  Char.ofNat 101, Char.ofNat 115]
theorem tables_eq : Try.progTables.initOrder = String.ofList signs := by
  unfold Try.progTables
  dsimp only
  kernel_rfl
theorem order_eq : Try.checked.prog.initOrder = Try.progTables.initOrder := by kernel_rfl
theorem signs_eq : Try.checked.prog.initOrder.toList = signs := by rw [order_eq, tables_eq, String.toList_ofList]
theorem cut_head : (behindMainWord (wordsSigns signs)).head? = some [Char.ofNat 99, Char.ofNat 117, Char.ofNat 116] := by kernel_rfl
theorem words_eq : ∃ rest, behindMainWord (wordsSigns Try.checked.prog.initOrder.toList) = [Char.ofNat 99, Char.ofNat 117, Char.ofNat 116] :: rest := by
  rw [signs_eq]
  have h := cut_head
  generalize behindMainWord (wordsSigns signs) = l at h
  cases l with
  | nil => cases h
  | cons c rest => simp only [List.head?_cons, Option.some.injEq] at h; exact ⟨rest, by rw [h]⟩
theorem mayEnter_of (P : Program) (rest : List (List Char)) (h : behindMainWord (wordsSigns P.initOrder.toList) = [Char.ofNat 99, Char.ofNat 117, Char.ofNat 116] :: rest)
    (h1 : P.laysLater = false) (h2 : P.bearsReflect = false) (h3 : P.doorFits [] = true) : P.mayEnter = true := by
  unfold Program.mayEnter
  rw [h, h1, h2]
  have e : stripLifts liftWords ([Char.ofNat 99, Char.ofNat 117, Char.ofNat 116] :: rest) = ([], [Char.ofNat 99, Char.ofNat 117, Char.ofNat 116] :: rest) := by kernel_rfl
  dsimp only
  rw [e, h3]
  refine Eq.trans ?_ (rfl : true = true)
  kernel_rfl
theorem headLifts_of (P : Program) (rest : List (List Char)) (h : behindMainWord (wordsSigns P.initOrder.toList) = [Char.ofNat 99, Char.ofNat 117, Char.ofNat 116] :: rest) :
    P.headLifts = [] := by
  unfold Program.headLifts
  dsimp only
  rw [h]
  kernel_rfl
theorem liftsFinal_of (P : Program) (rest : List (List Char)) (h : behindMainWord (wordsSigns P.initOrder.toList) = [Char.ofNat 99, Char.ofNat 117, Char.ofNat 116] :: rest) :
    P.liftsFinal = false := by
  unfold Program.liftsFinal
  dsimp only
  rw [headLifts_of P rest h, h]
  refine Eq.trans ?_ (rfl : false = false)
  kernel_rfl
theorem make_of (P : Program) (rest : List (List Char)) (h : behindMainWord (wordsSigns P.initOrder.toList) = [Char.ofNat 99, Char.ofNat 117, Char.ofNat 116] :: rest) :
    P.make = some .cut := by
  unfold Program.make
  rw [h]
  kernel_rfl
theorem mayEnter_eq : Try.checked.prog.mayEnter = true := by
  obtain ⟨rest, h⟩ := words_eq
  exact mayEnter_of _ rest h (by kernel_rfl) (by kernel_rfl) (by kernel_rfl)
theorem liftsFinal_eq : Try.checked.prog.liftsFinal = false := by
  obtain ⟨rest, h⟩ := words_eq
  exact liftsFinal_of _ rest h
theorem make_eq : Try.checked.prog.make = some .cut := by
  obtain ⟨rest, h⟩ := words_eq
  exact make_of _ rest h
theorem and_mk {a b : Bool} (ha : a = true) (hb : b = true) : (a && b) = true := by rw [ha, hb]; rfl
theorem lift_mk {a b : Bool} (hb : b = false) (ha : a = false) : (a == b) = true := by rw [ha, hb]; rfl
theorem make_mk {m : Option Make} {k : Make} (hm : m = some .cut) (hk : k = .cut) : (m == some k) = true := by rw [hm, hk]; rfl
end Go.Proofs.Qxb6600132a.Head
