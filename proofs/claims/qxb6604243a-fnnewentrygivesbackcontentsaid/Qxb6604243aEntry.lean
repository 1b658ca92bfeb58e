/-
  NewEntry (17), and what its parts give back: Data (19), Session (20), Cluster (21), Members (22); sameBytes (18).
-/
import Derived.Test.Qxb6604243aMem
namespace Go.Proofs.Qxb6604243a
open Go.RowKit

/-- Two sessions differ. -/
def sesNe (a : ByteArray) (b : Int) (c : ByteArray) (d : Int) : Bool := !(a.toList == c.toList && b == d)
theorem sesNe_self (a : ByteArray) (b : Int) : sesNe a b a b = false := by simp [sesNe]
theorem Try.guard44 : Try.prog.eqGuardType Try.prog.depth 44 = false := by kernel_rfl
theorem neq44 (a c : ByteArray) (b d : Int) (w : World) : (binOp .neq 44 (.agg #[.string a, .int .u64 b]) (.agg #[.string c, .int .u64 d])).run Try.prog w = .ok (.bool (sesNe a b c d)) w := by
  have u22 := Try.underlying22
  have u9 := Try.underlying9
  have hS : Try.prog.underlying 44 = some (.struct (Try.prog.fieldsOf 44)) := by kernel_rfl
  have hp : Try.prog.stoodInHeld 44 = false := by kernel_rfl
  rw [run_neq_struct, show (10000 : Nat) = 9999 + 1 from rfl, run_equalIn_agg w 9999 44 _ _ hS hp]
  simp only [Program.fieldsOf, Try.underlying44]
  go_simp
  unfold sesNe
  by_cases h1 : a.toList = c.toList <;> by_cases h2 : b = d <;> simp [h1, h2]

/-- What the pointer to the message leads to. -/
def MsgAt (w : World) (mp : Option Addr) (dad : Option Addr) (n dcap : Nat) (sid : ByteArray) (seq : Int) : Prop :=
  (mp = none ∧ n = 0 ∧ sid = ByteArray.empty ∧ seq = 0) ∨
  ∃ h, mp = some ⟨h, 0, none⟩ ∧ w.cell? ⟨h, 0, none⟩ = some (.slice dad n dcap) ∧ w.cell? ⟨h, 1, none⟩ = some (.string sid) ∧ w.cell? ⟨h, 2, none⟩ = some (.int .u64 seq)
/-- What the pointer to the cluster leads to. -/
def CluAt (w : World) (cp : Option Addr) (mad : Option Addr) (m mcap : Nat) (cl : Int) : Prop :=
  (cp = none ∧ m = 0 ∧ cl = 0) ∨ ∃ h, cp = some ⟨h, 0, none⟩ ∧ w.cell? ⟨h, 0, none⟩ = some (.slice mad m mcap) ∧ w.cell? ⟨h, 1, none⟩ = some (.int .u64 cl)
theorem MsgAt.below {w w' : World} {mp dad : Option Addr} {n dcap : Nat} {sid : ByteArray} {seq : Int} (h : MsgAt w mp dad n dcap sid seq) (hb : Below w.heap.size w w') : MsgAt w' mp dad n dcap sid seq := by
  rcases h with h | ⟨h, e, a, b, c⟩
  · exact .inl h
  · exact .inr ⟨h, e, later hb a, later hb b, later hb c⟩
theorem CluAt.below {w w' : World} {cp mad : Option Addr} {m mcap : Nat} {cl : Int} (h : CluAt w cp mad m mcap cl) (hb : Below w.heap.size w w') : CluAt w' cp mad m mcap cl := by
  rcases h with h | ⟨h, e, a, b⟩
  · exact .inl h
  · exact .inr ⟨h, e, later hb a, later hb b⟩

/-- What NewEntry leaves. -/
def EntPost (term kind : Int) (dad : Option Addr) (n dcap : Nat) (sid : ByteArray) (seq : Int) (mad : Option Addr) (m mcap : Nat) (cl : Int) (w : World) (e : Ending) (w' : World) : Prop :=
  ∃ mp cp, e = .returned (.agg #[.int .u64 term, .int .u64 0, .int .u8 kind, .pointer mp, .pointer cp]) ∧ MsgAt w' mp dad n dcap sid seq ∧ CluAt w' cp mad m mcap cl ∧ Below w.heap.size w w'

theorem zero_of_same {s : ByteArray} {q : Int} (h : sesNe s q ⟨#[]⟩ 0 = false) : s = ByteArray.empty ∧ q = 0 := by
  simp only [sesNe, Bool.not_eq_false', Bool.and_eq_true, beq_iff_eq] at h
  refine ⟨?_, h.2⟩
  have h1 := h.1
  rw [ByteArray.toList_eq, ByteArray.toList_eq] at h1
  obtain ⟨⟨l⟩⟩ := s
  exact congrArg (fun l : List UInt8 => (⟨⟨l⟩⟩ : ByteArray)) (by simpa using h1)

set_option maxHeartbeats 8000000 in
theorem newEntry_any (term kind : Int) (dad : Option Addr) (n dcap : Nat) (sid : ByteArray) (seq : Int) (mad : Option Addr) (m mcap : Nat) (cl : Int) (w : World) (hn : n ≤ 1048576) (hm : m ≤ 4096) :
    Calls Try.prog 17 #[.int .u64 term, .int .u8 kind, .agg #[.slice dad n dcap, .string sid, .int .u64 seq, .slice mad m mcap, .int .u64 cl]] w (EntPost term kind dad n dcap sid seq mad m mcap cl w) := by
  have hn44 := neq44
  have hg := Try.guard44
  have hd : 0 < n ∨ (n = 0 ∧ sesNe sid seq ⟨#[]⟩ 0 = true) ∨ (n = 0 ∧ sesNe sid seq ⟨#[]⟩ 0 = false) := by
    by_cases h0 : 0 < n
    · exact .inl h0
    · cases hb : sesNe sid seq ⟨#[]⟩ 0
      · exact .inr (.inr ⟨by omega, rfl⟩)
      · exact .inr (.inl ⟨by omega, rfl⟩)
  have hc : 0 < m ∨ (m = 0 ∧ (cl != 0) = true) ∨ (m = 0 ∧ (cl != 0) = false) := by
    by_cases h0 : 0 < m
    · exact .inl h0
    · cases hb : (cl != 0)
      · exact .inr (.inr ⟨by omega, rfl⟩)
      · exact .inr (.inl ⟨by omega, rfl⟩)
  rcases hd with d1 | ⟨rfl, d2⟩ | ⟨rfl, d2⟩ <;> rcases hc with c1 | ⟨rfl, c2⟩ | ⟨rfl, c2⟩
  · -- way 1 1
    have d1' : decide (0 < n) = true := by simpa using d1
    have c1' : decide (0 < m) = true := by simpa using c1
    go_enter Try.func17, Try.ntmps17
    go_wp2
    refine bodyPost_ret (v := .agg #[.int .u64 term, .int .u64 0, .int .u8 kind, .pointer (some ⟨w.heap.size + 1 + 1 + 1, 0, none⟩), .pointer (some ⟨w.heap.size + 1 + 1 + 1 + 1, 0, none⟩)]) (by simp [results, Try.results17, go_sem]) rfl ⟨_, _, rfl, .inr ⟨_, rfl, by go_simp, by go_simp, by go_simp⟩, .inr ⟨_, rfl, by go_simp, by go_simp⟩, ?_⟩
    repeat (refine Below.alloc ?_ (by simp; try omega) _)
    exact Below.refl _ _
  · -- way 1 2
    have d1' : decide (0 < n) = true := by simpa using d1
    go_enter Try.func17, Try.ntmps17
    go_wp2
    refine bodyPost_ret (v := .agg #[.int .u64 term, .int .u64 0, .int .u8 kind, .pointer (some ⟨w.heap.size + 1 + 1 + 1, 0, none⟩), .pointer (some ⟨w.heap.size + 1 + 1 + 1 + 1, 0, none⟩)]) (by simp [results, Try.results17, go_sem]) rfl ⟨_, _, rfl, .inr ⟨_, rfl, by go_simp, by go_simp, by go_simp⟩, .inr ⟨_, rfl, by go_simp, by go_simp⟩, ?_⟩
    repeat (refine Below.alloc ?_ (by simp; try omega) _)
    exact Below.refl _ _
  · -- way 1 3
    have d1' : decide (0 < n) = true := by simpa using d1
    have HC2 := hide c2
    go_enter Try.func17, Try.ntmps17
    go_wp2
    refine bodyPost_ret (v := .agg #[.int .u64 term, .int .u64 0, .int .u8 kind, .pointer (some ⟨w.heap.size + 1 + 1 + 1, 0, none⟩), .pointer (none)]) (by simp [results, Try.results17, go_sem]) rfl ⟨_, _, rfl, .inr ⟨_, rfl, by go_simp, by go_simp, by go_simp⟩, .inl ⟨rfl, rfl, by simpa using HC2.out⟩, ?_⟩
    repeat (refine Below.alloc ?_ (by simp; try omega) _)
    exact Below.refl _ _
  · -- way 2 1
    have c1' : decide (0 < m) = true := by simpa using c1
    go_enter Try.func17, Try.ntmps17
    go_wp2
    refine bodyPost_ret (v := .agg #[.int .u64 term, .int .u64 0, .int .u8 kind, .pointer (some ⟨w.heap.size + 1 + 1 + 1, 0, none⟩), .pointer (some ⟨w.heap.size + 1 + 1 + 1 + 1, 0, none⟩)]) (by simp [results, Try.results17, go_sem]) rfl ⟨_, _, rfl, .inr ⟨_, rfl, by go_simp, by go_simp, by go_simp⟩, .inr ⟨_, rfl, by go_simp, by go_simp⟩, ?_⟩
    repeat (refine Below.alloc ?_ (by simp; try omega) _)
    exact Below.refl _ _
  · -- way 2 2
    go_enter Try.func17, Try.ntmps17
    go_wp2
    refine bodyPost_ret (v := .agg #[.int .u64 term, .int .u64 0, .int .u8 kind, .pointer (some ⟨w.heap.size + 1 + 1 + 1, 0, none⟩), .pointer (some ⟨w.heap.size + 1 + 1 + 1 + 1, 0, none⟩)]) (by simp [results, Try.results17, go_sem]) rfl ⟨_, _, rfl, .inr ⟨_, rfl, by go_simp, by go_simp, by go_simp⟩, .inr ⟨_, rfl, by go_simp, by go_simp⟩, ?_⟩
    repeat (refine Below.alloc ?_ (by simp; try omega) _)
    exact Below.refl _ _
  · -- way 2 3
    have HC2 := hide c2
    go_enter Try.func17, Try.ntmps17
    go_wp2
    refine bodyPost_ret (v := .agg #[.int .u64 term, .int .u64 0, .int .u8 kind, .pointer (some ⟨w.heap.size + 1 + 1 + 1, 0, none⟩), .pointer (none)]) (by simp [results, Try.results17, go_sem]) rfl ⟨_, _, rfl, .inr ⟨_, rfl, by go_simp, by go_simp, by go_simp⟩, .inl ⟨rfl, rfl, by simpa using HC2.out⟩, ?_⟩
    repeat (refine Below.alloc ?_ (by simp; try omega) _)
    exact Below.refl _ _
  · -- way 3 1
    have c1' : decide (0 < m) = true := by simpa using c1
    have HD2 := hide (zero_of_same d2)
    go_enter Try.func17, Try.ntmps17
    go_wp2
    refine bodyPost_ret (v := .agg #[.int .u64 term, .int .u64 0, .int .u8 kind, .pointer (none), .pointer (some ⟨w.heap.size + 1 + 1 + 1, 0, none⟩)]) (by simp [results, Try.results17, go_sem]) rfl ⟨_, _, rfl, .inl ⟨rfl, rfl, HD2.out⟩, .inr ⟨_, rfl, by go_simp, by go_simp⟩, ?_⟩
    repeat (refine Below.alloc ?_ (by simp; try omega) _)
    exact Below.refl _ _
  · -- way 3 2
    have HD2 := hide (zero_of_same d2)
    go_enter Try.func17, Try.ntmps17
    go_wp2
    refine bodyPost_ret (v := .agg #[.int .u64 term, .int .u64 0, .int .u8 kind, .pointer (none), .pointer (some ⟨w.heap.size + 1 + 1 + 1, 0, none⟩)]) (by simp [results, Try.results17, go_sem]) rfl ⟨_, _, rfl, .inl ⟨rfl, rfl, HD2.out⟩, .inr ⟨_, rfl, by go_simp, by go_simp⟩, ?_⟩
    repeat (refine Below.alloc ?_ (by simp; try omega) _)
    exact Below.refl _ _
  · -- way 3 3
    have HD2 := hide (zero_of_same d2)
    have HC2 := hide c2
    go_enter Try.func17, Try.ntmps17
    go_wp2
    refine bodyPost_ret (v := .agg #[.int .u64 term, .int .u64 0, .int .u8 kind, .pointer (none), .pointer (none)]) (by simp [results, Try.results17, go_sem]) rfl ⟨_, _, rfl, .inl ⟨rfl, rfl, HD2.out⟩, .inl ⟨rfl, rfl, by simpa using HC2.out⟩, ?_⟩
    repeat (refine Below.alloc ?_ (by simp; try omega) _)
    exact Below.refl _ _

end Go.Proofs.Qxb6604243a
