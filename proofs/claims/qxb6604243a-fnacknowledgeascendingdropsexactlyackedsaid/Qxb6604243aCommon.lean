/-
  WHAT THE TWO LAWS ON acknowledge SHARE: the converters at every slice, '!=' at spans.
-/
import Derived.Test.Qxb6604243aTo
import Derived.Test.Qxb6604243aFrom
import Derived.Test.Qxb6604243aZz
namespace Go.Proofs.Qxb6604243a
open Go.RowKit

/-- What a law leaves. -/
def Good (w : World) (e : Ending) (w' : World) : Prop := e = .returned (.bool true) ∧ Below w.heap.size w w'

theorem tozz_all (x0 x1 x2 x3 : Int) (b4 b5 : Bool) (x7 x8 x9 x10 x11 x12 : Int) (ad : Option Addr) (m cap b off : Nat) (E B : Nat → Int) (w : World) (hm : m ≤ 4096) (hs : SpansAt w ad m b off E B) :
    Calls Try.prog 10 #[.agg #[.int .u64 x0, .int .u64 x1, .int .u64 x2, .int .u64 x3, .bool b4, .bool b5, .slice ad m cap, .int .i64 x7, .int .u64 x8, .int .u64 x9, .int .u64 x10, .int .u64 x11, .int .u64 x12]] w (ConvPost x0 x1 x2 x3 b4 b5 m x7 x8 x9 x10 x11 x12 E B w) := by
  cases ad with
  | none =>
    obtain rfl := hs.2.1 rfl
    exact tozz_nil x0 x1 x2 x3 b4 b5 x7 x8 x9 x10 x11 x12 cap E B w
  | some a => exact tozz_any x0 x1 x2 x3 b4 b5 x7 x8 x9 x10 x11 x12 a m cap b off E B w hm hs
theorem fromzz_all (x0 x1 x2 x3 : Int) (b4 b5 : Bool) (x7 x8 x9 x10 x11 x12 : Int) (ad : Option Addr) (m cap b off : Nat) (E B : Nat → Int) (w : World) (hm : m ≤ 4096) (hs : SpansAt w ad m b off E B) :
    Calls Try.prog 8 #[.agg #[.int .u64 x0, .int .u64 x1, .int .u64 x2, .int .u64 x3, .bool b4, .bool b5, .slice ad m cap, .int .i64 x7, .int .u64 x8, .int .u64 x9, .int .u64 x10, .int .u64 x11, .int .u64 x12]] w (ConvPost x0 x1 x2 x3 b4 b5 m x7 x8 x9 x10 x11 x12 E B w) := by
  cases ad with
  | none =>
    obtain rfl := hs.2.1 rfl
    exact fromzz_nil x0 x1 x2 x3 b4 b5 x7 x8 x9 x10 x11 x12 cap E B w
  | some a => exact fromzz_any x0 x1 x2 x3 b4 b5 x7 x8 x9 x10 x11 x12 a m cap b off E B w hm hs

theorem Try.guard34 : Try.prog.eqGuardType Try.prog.depth 34 = false := by kernel_rfl
theorem neq34 (a b c d : Int) (w : World) : (binOp .neq 34 (.agg #[.int .u64 a, .int .i64 b]) (.agg #[.int .u64 c, .int .i64 d])).run Try.prog w = .ok (.bool !(a == c && b == d)) w := by
  have u22 := Try.underlying22
  have u3 := Try.underlying3
  have hS : Try.prog.underlying 34 = some (.struct (Try.prog.fieldsOf 34)) := by kernel_rfl
  have hp : Try.prog.stoodInHeld 34 = false := by kernel_rfl
  rw [run_neq_struct, show (10000 : Nat) = 9999 + 1 from rfl, run_equalIn_agg w 9999 34 _ _ hS hp]
  simp only [Program.fieldsOf, Try.underlying34]
  go_simp
  by_cases h1 : a = c <;> by_cases h2 : b = d <;> simp [h1, h2]

theorem bytes7_yes (x0 x1 x2 x3 : Int) (b4 b5 : Bool) (x7 x8 x9 x10 x11 x12 : Int) (ad : Option Addr) (m cap : Nat) (ack : Int) (cnt : Bool) (w : World) (h : m ≤ 1048576) :
    Calls Try.prog 7 #[.agg #[.int .u64 x0, .int .u64 x1, .int .u64 x2, .int .u64 x3, .bool b4, .bool b5, .slice ad m cap, .int .i64 x7, .int .u64 x8, .int .u64 x9, .int .u64 x10, .int .u64 x11, .int .u64 x12], .int .u64 ack, .bool cnt] w fun e w' => e = .returned (.bool true) ∧ Below w.heap.size w w' := by
  go_enter Try.func7, Try.ntmps7
  go_wp2
  go_ret
  exact ⟨rfl, (Below.refl _ _).alloc (Nat.le_refl _) _⟩
theorem bytes7_no (x0 x1 x2 x3 : Int) (b4 b5 : Bool) (x7 x8 x9 x10 x11 x12 : Int) (ad : Option Addr) (m cap : Nat) (ack : Int) (cnt : Bool) (w : World) (h : ¬ m ≤ 1048576) :
    Calls Try.prog 7 #[.agg #[.int .u64 x0, .int .u64 x1, .int .u64 x2, .int .u64 x3, .bool b4, .bool b5, .slice ad m cap, .int .i64 x7, .int .u64 x8, .int .u64 x9, .int .u64 x10, .int .u64 x11, .int .u64 x12], .int .u64 ack, .bool cnt] w fun e w' => e = .returned (.bool false) ∧ Below w.heap.size w w' := by
  go_enter Try.func7, Try.ntmps7
  go_wp2
  go_ret
  exact ⟨rfl, (Below.refl _ _).alloc (Nat.le_refl _) _⟩
theorem bytes11_yes (x0 x1 x2 x3 : Int) (b4 b5 : Bool) (x7 x8 x9 x10 x11 x12 : Int) (ad : Option Addr) (m cap : Nat) (ack : Int) (cnt : Bool) (w : World) (h : m ≤ 1048576) :
    Calls Try.prog 11 #[.agg #[.int .u64 x0, .int .u64 x1, .int .u64 x2, .int .u64 x3, .bool b4, .bool b5, .slice ad m cap, .int .i64 x7, .int .u64 x8, .int .u64 x9, .int .u64 x10, .int .u64 x11, .int .u64 x12], .int .u64 ack, .bool cnt] w fun e w' => e = .returned (.bool true) ∧ Below w.heap.size w w' := by
  go_enter Try.func11, Try.ntmps11
  go_wp2
  go_ret
  exact ⟨rfl, (Below.refl _ _).alloc (Nat.le_refl _) _⟩
theorem bytes11_no (x0 x1 x2 x3 : Int) (b4 b5 : Bool) (x7 x8 x9 x10 x11 x12 : Int) (ad : Option Addr) (m cap : Nat) (ack : Int) (cnt : Bool) (w : World) (h : ¬ m ≤ 1048576) :
    Calls Try.prog 11 #[.agg #[.int .u64 x0, .int .u64 x1, .int .u64 x2, .int .u64 x3, .bool b4, .bool b5, .slice ad m cap, .int .i64 x7, .int .u64 x8, .int .u64 x9, .int .u64 x10, .int .u64 x11, .int .u64 x12], .int .u64 ack, .bool cnt] w fun e w' => e = .returned (.bool false) ∧ Below w.heap.size w w' := by
  go_enter Try.func11, Try.ntmps11
  go_wp2
  go_ret
  exact ⟨rfl, (Below.refl _ _).alloc (Nat.le_refl _) _⟩

end Go.Proofs.Qxb6604243a
