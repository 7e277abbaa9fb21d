/-
  THE WALK of zzlaws_root_b2.FnFloatCopyIndependent (3): one theorem a branch (is a NaN? is b NaN?). (*Float).Copy, (*Float).IsFalsy, math.IsNaN and (*Float).Equals are entered in place; the one region that draws its order is the test 'o.Value == t.Value' of (*Float).Equals.
-/
import Derived.Test.YoebtwRows
import Derived.WalkKit
import Derived.WalkSpells
import Derived.WalkLawsBesides
namespace Go.Proofs.Yoebtw
open Go.RowKit

/-- 'x.(*Float)' at an interface value that holds a *Float. -/
theorem assert_float (v : Value) (w : World) : (Instr.typeAssert (.iface 23 v) 29 23 true).run Ebtg.prog w = .ok (.tuple #[v, .bool true]) w := by kernel_rfl
/-- A store of a float64 is a store of one cell. -/
theorem store_float (w : World) (a : Addr) (x : Nat) (m : Mode) : (store a (.float .f64 x) m).run Ebtg.prog w = stored Ebtg.prog w a (.float .f64 x) m := run_store Ebtg.prog w a _ m rfl
/-- Which function 'c.IsFalsy()' is, c holding a *Float. -/
theorem method_isFalsy (a : Addr) (w : World) : (method 165 23 (.pointer (some a)) "IsFalsy").run Ebtg.prog w = .ok (22, .pointer (some a)) w := by kernel_rfl
/-- Which function 'c.Equals(x)' is, c holding a *Float. -/
theorem method_equals (a : Addr) (w : World) : (method 165 23 (.pointer (some a)) "Equals").run Ebtg.prog w = .ok (21, .pointer (some a)) w := by kernel_rfl

/-- a NaN, b NaN: Equals is not called. -/
theorem main_walk_nn (a b : Nat) (w : World) (ha : (FloatKind.f64.format.order a a != some Ordering.eq) = true) (hb : (FloatKind.f64.format.order b b != some Ordering.eq) = true) :
    Calls Ebtg.prog 3 #[.float .f64 a, .float .f64 b] w fun e w' => e = .returned (.bool true) ∧ Grown w w' := by
  have hs := store_float
  have hf := method_isFalsy
  go_enter Ebtg.func3, Ebtg.ntmps3
  go_wp2
  go_ret
  exact ⟨rfl, by repeat (first | exact Grown.refl _ | apply Grown.drew | apply Grown.alloc)⟩

/-- a NaN, b not NaN: Equals is called on the second copy. -/
theorem main_walk_ny (a b : Nat) (w : World) (ha : (FloatKind.f64.format.order a a != some Ordering.eq) = true) (hb : (FloatKind.f64.format.order b b != some Ordering.eq) = false)
    (hb' : (FloatKind.f64.format.order b b == some Ordering.eq) = true) :
    Calls Ebtg.prog 3 #[.float .f64 a, .float .f64 b] w fun e w' => e = .returned (.bool true) ∧ Grown w w' := by
  have ht := assert_float
  have hs := store_float
  have hf := method_isFalsy
  have he := method_equals
  go_enter Ebtg.func3, Ebtg.ntmps3
  go_wp2
  go_region
  go_wp2
  go_ret
  exact ⟨rfl, by repeat (first | exact Grown.refl _ | apply Grown.drew | apply Grown.alloc)⟩

/-- a not NaN, b NaN: Equals is called on the first copy. -/
theorem main_walk_yn (a b : Nat) (w : World) (ha : (FloatKind.f64.format.order a a != some Ordering.eq) = false) (hb : (FloatKind.f64.format.order b b != some Ordering.eq) = true)
    (ha' : (FloatKind.f64.format.order a a == some Ordering.eq) = true) :
    Calls Ebtg.prog 3 #[.float .f64 a, .float .f64 b] w fun e w' => e = .returned (.bool true) ∧ Grown w w' := by
  have ht := assert_float
  have hs := store_float
  have hf := method_isFalsy
  have he := method_equals
  go_enter Ebtg.func3, Ebtg.ntmps3
  go_wp2
  go_region
  go_wp2
  go_ret
  exact ⟨rfl, by repeat (first | exact Grown.refl _ | apply Grown.drew | apply Grown.alloc)⟩

/-- Neither is NaN: Equals is called on both copies. -/
theorem main_walk_yy (a b : Nat) (w : World) (ha : (FloatKind.f64.format.order a a != some Ordering.eq) = false) (hb : (FloatKind.f64.format.order b b != some Ordering.eq) = false)
    (ha' : (FloatKind.f64.format.order a a == some Ordering.eq) = true) (hb' : (FloatKind.f64.format.order b b == some Ordering.eq) = true) :
    Calls Ebtg.prog 3 #[.float .f64 a, .float .f64 b] w fun e w' => e = .returned (.bool true) ∧ Grown w w' := by
  have ht := assert_float
  have hs := store_float
  have hf := method_isFalsy
  have he := method_equals
  go_enter Ebtg.func3, Ebtg.ntmps3
  go_wp2
  go_region
  go_wp2
  go_region
  go_wp2
  go_ret
  exact ⟨rfl, by repeat (first | exact Grown.refl _ | apply Grown.drew | apply Grown.alloc)⟩

/-- WHATEVER a AND b: the call returns true, and of what was in memory before nothing turns. -/
theorem main_walk (a b : Nat) (w : World) :
    Calls Ebtg.prog 3 #[.float .f64 a, .float .f64 b] w fun e w' => e = .returned (.bool true) ∧ Grown w w' := by
  cases ha : (FloatKind.f64.format.order a a == some Ordering.eq) <;> cases hb : (FloatKind.f64.format.order b b == some Ordering.eq)
  · exact main_walk_nn a b w (by simpa using ha) (by simpa using hb)
  · exact main_walk_ny a b w (by simpa using ha) (by simpa using hb) hb
  · exact main_walk_yn a b w (by simpa using ha) (by simpa using hb) ha
  · exact main_walk_yy a b w (by simpa using ha) (by simpa using hb) ha hb

end Go.Proofs.Yoebtw
