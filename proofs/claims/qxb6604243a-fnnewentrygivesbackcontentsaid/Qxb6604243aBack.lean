/-
  WHAT AN ENTRY GIVES BACK: Data (19), Session (20), Cluster (21), Members (22); sameBytes (18).
-/
import Derived.Test.Qxb6604243aEntry
import Derived.Test.Qxb6604243aToMem
namespace Go.Proofs.Qxb6604243a
open Go.RowKit

theorem data_any (term kind : Int) (mp cp dad : Option Addr) (n dcap g : Nat) (sid : ByteArray) (seq : Int) (Z : Nat → Int) (w : World) (hm : MsgAt w mp dad n dcap sid seq) (hz : BytesAt w dad n g 0 Z) :
    Calls Try.prog 19 #[.agg #[.int .u64 term, .int .u64 0, .int .u8 kind, .pointer mp, .pointer cp]] w (CopyPost n Z w) := by
  rcases hm with ⟨rfl, rfl, rfl, rfl⟩ | ⟨h, rfl, h0, h1, h2⟩
  · clear hz
    go_enter Try.func19, Try.ntmps19
    go_wp2
    go_ret
    exact ⟨none, 0, 0, rfl, BytesAt.nil _ _ _ _, (Below.refl _ _).alloc (Nat.le_refl _) _⟩
  · have HZ := hide hz
    clear hz h1 h2
    have hlt := World.block_lt_of_cell? _ _ h0
    go_enter Try.func19, Try.ntmps19
    go_wp2
    go_ret
    exact ⟨dad, g, dcap, rfl, HZ.out.below ((Below.refl _ _).alloc (Nat.le_refl _) _), (Below.refl _ _).alloc (Nat.le_refl _) _⟩

/-- What Session leaves. -/
def SesPost (sid : ByteArray) (seq : Int) (w : World) (e : Ending) (w' : World) : Prop := e = .returned (.agg #[.string sid, .int .u64 seq]) ∧ Below w.heap.size w w'

theorem session_any (term kind : Int) (mp cp dad : Option Addr) (n dcap : Nat) (sid : ByteArray) (seq : Int) (w : World) (hm : MsgAt w mp dad n dcap sid seq) :
    Calls Try.prog 20 #[.agg #[.int .u64 term, .int .u64 0, .int .u8 kind, .pointer mp, .pointer cp]] w (SesPost sid seq w) := by
  rcases hm with ⟨rfl, rfl, rfl, rfl⟩ | ⟨h, rfl, h0, h1, h2⟩
  · go_enter Try.func20, Try.ntmps20
    go_wp2
    exact bodyPost_ret (v := .agg #[.string ByteArray.empty, .int .u64 0]) (by simp [results, Try.results20, go_sem]; rfl) rfl ⟨rfl, ((Below.refl _ _).alloc (Nat.le_refl _) _).alloc (by simp) _⟩
  · have hlt := World.block_lt_of_cell? _ _ h0
    go_enter Try.func20, Try.ntmps20
    go_wp2
    exact bodyPost_ret (v := .agg #[.string sid, .int .u64 seq]) (by simp [results, Try.results20, go_sem]) rfl ⟨rfl, ((Below.refl _ _).alloc (Nat.le_refl _) _).alloc (by simp) _⟩

def CluPost (cl : Int) (w : World) (e : Ending) (w' : World) : Prop := e = .returned (.int .u64 cl) ∧ Below w.heap.size w w'

theorem cluster_any (term kind : Int) (mp cp mad : Option Addr) (m mcap : Nat) (cl : Int) (w : World) (hm : CluAt w cp mad m mcap cl) :
    Calls Try.prog 21 #[.agg #[.int .u64 term, .int .u64 0, .int .u8 kind, .pointer mp, .pointer cp]] w (CluPost cl w) := by
  rcases hm with ⟨rfl, rfl, rfl⟩ | ⟨h, rfl, h0, h1⟩
  · go_enter Try.func21, Try.ntmps21
    go_wp2
    go_ret
    exact ⟨rfl, (Below.refl _ _).alloc (Nat.le_refl _) _⟩
  · have hlt := World.block_lt_of_cell? _ _ h0
    go_enter Try.func21, Try.ntmps21
    go_wp2
    go_ret
    exact ⟨rfl, (Below.refl _ _).alloc (Nat.le_refl _) _⟩

theorem mems_any (term kind : Int) (mp cp mad : Option Addr) (m mcap g : Nat) (cl : Int) (I : Nat → Int) (A : Nat → ByteArray) (V : Nat → Bool) (D : Nat → Int) (w : World) (hm : CluAt w cp mad m mcap cl) (hz : MembersAt w mad m g 0 I A V D) :
    Calls Try.prog 22 #[.agg #[.int .u64 term, .int .u64 0, .int .u8 kind, .pointer mp, .pointer cp]] w (MemPost m I A V D w) := by
  rcases hm with ⟨rfl, rfl, rfl⟩ | ⟨h, rfl, h0, h1⟩
  · clear hz
    go_enter Try.func22, Try.ntmps22
    go_wp2
    go_ret
    exact ⟨none, 0, 0, rfl, MembersAt.nil _ _ _ _ _ _ _, (Below.refl _ _).alloc (Nat.le_refl _) _⟩
  · have HZ := hide hz
    clear hz h1
    have hlt := World.block_lt_of_cell? _ _ h0
    go_enter Try.func22, Try.ntmps22
    go_wp2
    go_ret
    exact ⟨mad, g, mcap, rfl, HZ.out.below ((Below.refl _ _).alloc (Nat.le_refl _) _), (Below.refl _ _).alloc (Nat.le_refl _) _⟩

/-- sameBytes says yes of two slices that lead to the same bytes. -/
def SamePost (w : World) (e : Ending) (w' : World) : Prop := e = .returned (.bool true) ∧ Below w.heap.size w w'

set_option maxHeartbeats 4000000 in
theorem same_any (ad1 ad2 : Option Addr) (n c1 c2 b1 o1 b2 o2 : Nat) (Z : Nat → Int) (w : World) (hn : n ≤ 1048576) (h1 : BytesAt w ad1 n b1 o1 Z) (h2 : BytesAt w ad2 n b2 o2 Z) :
    Calls Try.prog 18 #[.slice ad1 n c1, .slice ad2 n c2] w (SamePost w) := by
  have H1 := hide h1
  have H2 := hide h2
  clear h1 h2
  go_enter Try.func18, Try.ntmps18
  go_wp2
  go_loopg [5] n (fun g i wr => ∃ k : Nat, k ≤ n ∧ g = n - k ∧ i = .int .i64 k ∧ Below w.heap.size w wr)
  case atStart => exact ⟨0, Nat.zero_le _, rfl, rfl, Below.refl _ _⟩
  case round =>
    obtain ⟨k, hk, rfl, rfl, hb⟩ := hrel
    by_cases hkn : k < n
    · have hkz : (k : Int) < (n : Int) := by omega
      obtain ⟨rfl⟩ := H1.out.1 (by omega)
      obtain ⟨rfl⟩ := H2.out.1 (by omega)
      have e1 := (H1.out.below hb).2.2 k hkn
      have e2 := (H2.out.below hb).2.2 k hkn
      go_wp2
      go_quiet (fail)
      go_wp2
      go_roundg (n - (k + 1))
      case measure => omega
      case rel => exact ⟨k + 1, by omega, rfl, by go_num, below_drewN hb _⟩
    · go_wp2
      go_ret
      exact ⟨rfl, hb⟩

end Go.Proofs.Qxb6604243a
