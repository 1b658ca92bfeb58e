/-
  ZZAcknowledge (9): out of its three callees' contracts.
-/
import Derived.Test.Qxb6604243aOf
import Derived.Test.Qxb6604243aFields
import Derived.Test.Qxb6604243aFields2
import Derived.Test.Qxb6604243aAck
namespace Go.Proofs.Qxb6604243a
open Go.RowKit

/-- What ZZAcknowledge leaves. -/
def ZzPost (x0 x1 x2 x3 : Int) (b4 : Bool) (m : Nat) (x7 x8 x9 : Int) (E B : Nat → Int) (ack : Int) (cnt : Bool) (w : World) (e : Ending) (w' : World) : Prop :=
  ∃ k ad g cap, e = .returned (.agg #[.int .u64 (newSent b4 x0 ack), .int .u64 (newAcked cnt x1 ack), .int .u64 x2, .int .u64 x3, .bool true, .bool false, .slice ad (m - k) cap, .int .i64 (wrap64 (x7 - sumTo B k)), .int .u64 x8, .int .u64 x9, .int .u64 0, .int .u64 0, .int .u64 0]) ∧ k ≤ m ∧ (∀ i, i < k → E i ≤ ack) ∧ (k < m → ack < E k) ∧
    SpansAt w' ad (m - k) g 0 (fun i => E (k + i)) (fun i => B (k + i)) ∧ Below w.heap.size w w'

theorem fields_all (x0 x1 x2 x3 : Int) (b4 b5 : Bool) (x7 x8 x9 x10 x11 x12 : Int) (h : Nat) (ad : Option Addr) (m cap b off : Nat) (E B : Nat → Int) (w : World) (hm : m ≤ 4096) (hs : SpansAt w ad m b off E B)
    (hp : ProgAt w h 94 x0 x1 x2 x3 b4 b5 (.slice ad m cap) x7 x8 x9 x10 x11 x12) :
    Calls Try.prog 32 #[.pointer (some ⟨h, 0, none⟩)] w (ConvPost x0 x1 x2 x3 b4 b5 m x7 x8 x9 x10 x11 x12 E B w) := by
  cases ad with
  | none =>
    obtain rfl := hs.2.1 rfl
    exact fields_nil x0 x1 x2 x3 b4 b5 x7 x8 x9 x10 x11 x12 h cap E B w hp
  | some a => exact fields_any x0 x1 x2 x3 b4 b5 x7 x8 x9 x10 x11 x12 h a m cap b off E B w hm hs hp
theorem of_all (x0 x1 x2 x3 : Int) (b4 b5 : Bool) (x7 x8 x9 x10 x11 x12 : Int) (ad : Option Addr) (m cap b off : Nat) (E B : Nat → Int) (w : World) (hm : m ≤ 4096) (hs : SpansAt w ad m b off E B) :
    Calls Try.prog 30 #[.agg #[.int .u64 x0, .int .u64 x1, .int .u64 x2, .int .u64 x3, .bool b4, .bool b5, .slice ad m cap, .int .i64 x7, .int .u64 x8, .int .u64 x9, .int .u64 x10, .int .u64 x11, .int .u64 x12]] w (OfPost x0 x1 x2 x3 b4 b5 m x7 x8 x9 x10 x11 x12 E B w) := by
  cases ad with
  | none =>
    obtain rfl := hs.2.1 rfl
    exact of_nil x0 x1 x2 x3 b4 b5 x7 x8 x9 x10 x11 x12 cap E B w
  | some a => exact of_any x0 x1 x2 x3 b4 b5 x7 x8 x9 x10 x11 x12 a m cap b off E B w hm hs

set_option maxHeartbeats 4000000 in
theorem zz_any (x0 x1 x2 x3 : Int) (b4 b5 : Bool) (x7 x8 x9 x10 x11 x12 : Int) (ad0 : Option Addr) (m cap0 b off : Nat) (E B : Nat → Int) (ack : Int) (cnt : Bool) (w : World) (hm : m ≤ 4096) (h7 : wrap64 x7 = x7) (hs : SpansAt w ad0 m b off E B) :
    Calls Try.prog 9 #[.agg #[.int .u64 x0, .int .u64 x1, .int .u64 x2, .int .u64 x3, .bool b4, .bool b5, .slice ad0 m cap0, .int .i64 x7, .int .u64 x8, .int .u64 x9, .int .u64 x10, .int .u64 x11, .int .u64 x12], .int .u64 ack, .bool cnt] w (ZzPost x0 x1 x2 x3 b4 m x7 x8 x9 E B ack cnt w) := by
  have H7 := hide h7
  have HS := hide hs
  clear h7 hs
  have hZ0 := ProgAt.new (w.alloc (.cells #[.int .u64 x0, .int .u64 x1, .int .u64 x2, .int .u64 x3, .bool b4, .bool b5, .slice ad0 m cap0, .int .i64 x7, .int .u64 x8, .int .u64 x9, .int .u64 x10, .int .u64 x11, .int .u64 x12] 30)) 30 0 0 0 0 false false (.slice none 0 0) 0 0 0 0 0 0
  simp only [World.size_alloc] at hZ0
  have hB0 : Below w.heap.size w ((w.alloc (.cells #[.int .u64 x0, .int .u64 x1, .int .u64 x2, .int .u64 x3, .bool b4, .bool b5, .slice ad0 m cap0, .int .i64 x7, .int .u64 x8, .int .u64 x9, .int .u64 x10, .int .u64 x11, .int .u64 x12] 30)).alloc (.cells #[.int .u64 0, .int .u64 0, .int .u64 0, .int .u64 0, .bool false, .bool false, .slice none 0 0, .int .i64 0, .int .u64 0, .int .u64 0, .int .u64 0, .int .u64 0, .int .u64 0] 30)) := ((Below.refl _ _).alloc (Nat.le_refl _) _).alloc (by simp) _
  have hsz : ((w.alloc (.cells #[.int .u64 x0, .int .u64 x1, .int .u64 x2, .int .u64 x3, .bool b4, .bool b5, .slice ad0 m cap0, .int .i64 x7, .int .u64 x8, .int .u64 x9, .int .u64 x10, .int .u64 x11, .int .u64 x12] 30)).alloc (.cells #[.int .u64 0, .int .u64 0, .int .u64 0, .int .u64 0, .bool false, .bool false, .slice none 0 0, .int .i64 0, .int .u64 0, .int .u64 0, .int .u64 0, .int .u64 0, .int .u64 0] 30)).heap.size = w.heap.size + 2 := by simp
  have HZ0 := hide hZ0
  have HB0 := hide hB0
  have HSZ := hide hsz
  clear hZ0 hB0 hsz
  go_enter Try.func9, Try.ntmps9
  go_wp2_with fail
  generalize (w.alloc (.cells #[.int .u64 x0, .int .u64 x1, .int .u64 x2, .int .u64 x3, .bool b4, .bool b5, .slice ad0 m cap0, .int .i64 x7, .int .u64 x8, .int .u64 x9, .int .u64 x10, .int .u64 x11, .int .u64 x12] 30)).alloc (.cells #[.int .u64 0, .int .u64 0, .int .u64 0, .int .u64 0, .bool false, .bool false, .slice none 0 0, .int .i64 0, .int .u64 0, .int .u64 0, .int .u64 0, .int .u64 0, .int .u64 0] 30) = w0 at HZ0 HB0 HSZ ⊢
  refine (of_all x0 x1 x2 x3 b4 b5 x7 x8 x9 x10 x11 x12 ad0 m cap0 b off E B w0 hm (HS.out.below HB0.out)).mono ?_
  rintro e w1 ⟨h, ad, g, cap, rfl, hP, hS, had, hg, hcap, hh, hb1⟩
  have HP := hide hP
  have HS1 := hide hS
  have HD := hide had
  clear hP hS had
  go_wp2_with fail
  refine (ack_any h x0 x1 x2 x3 b4 b5 x7 x8 x9 x10 x11 x12 ad m cap g 0 E B ack cnt w1 hm hcap (HD.out.elim (fun q => .inl ⟨q.1, q.2.1⟩) .inr) H7.out hg HS1.out HP.out).mono ?_
  rintro e w2 ⟨k, ad2, cap2, rfl, hk, hE, hEk, hP2, hS2, hO⟩
  have HP2 := hide hP2
  have HS2 := hide hS2
  have HE := hide hE
  have HEk := hide hEk
  clear hP2 hS2 hE hEk HP HS1
  go_wp2_with fail
  refine (fields_all (newSent b4 x0 ack) (newAcked cnt x1 ack) x2 x3 true false (wrap64 (x7 - sumTo B k)) x8 x9 0 0 0 h ad2 (m - k) cap2 g (0 + k * 2) _ _ w2 (by omega) HS2.out HP2.out).mono ?_
  rintro e w3 ⟨ad3, g3, cap3, rfl, hS3, hg3, hb3⟩
  have HS3 := hide hS3
  have hb2 : Below w0.heap.size w0 w2 := hb1.trans ((hO.below hh))
  have hb03 : Below w0.heap.size w0 w3 := hb2.trans (hb3.mono hb2.size)
  have hfin : Below w.heap.size w w3 := HB0.out.trans (hb03.mono HB0.out.size)
  have hZ3 := HZ0.out.below hb03
  have hg3' : w.heap.size + 2 ≤ g3 := by have := hb2.size; have := HSZ.out; omega
  obtain ⟨z0, z1, z2, z3, z4, z5, z6, z7, z8, z9, z10, z11, z12⟩ := hZ3.cells
  have fz := hZ3.frozen
  have HF := hide hfin
  clear hS3 hb1 hO hb2 hb03 hfin hZ3 hb3 HZ0 HB0 HS2 HP2 HD
  obtain ⟨sn, hsn⟩ : ∃ sn, sn = newSent b4 x0 ack := ⟨_, rfl⟩
  obtain ⟨an, han⟩ : ∃ an, an = newAcked cnt x1 ack := ⟨_, rfl⟩
  obtain ⟨yn, hyn⟩ : ∃ yn, yn = wrap64 (x7 - sumTo B k) := ⟨_, rfl⟩
  rw [← hsn, ← han, ← hyn]
  have HSN := hide hsn
  have HAN := hide han
  have HYN := hide hyn
  clear hsn han hyn
  go_wp2
  refine bodyPost_ret (v := .agg #[.int .u64 sn, .int .u64 an, .int .u64 x2, .int .u64 x3, .bool true, .bool false, .slice ad3 (m - k) cap3, .int .i64 yn, .int .u64 x8, .int .u64 x9, .int .u64 0, .int .u64 0, .int .u64 0])
    (by simp [results, Try.results9, go_sem, z0, z1, z2, z3, z4, z5, z6, z7, z8, z9, z10, z11, z12]) rfl ?_
  have e1 := HSN.out
  have e2 := HAN.out
  have e3 := HYN.out
  subst e1 e2 e3
  refine ⟨k, ad3, g3, cap3, rfl, hk, HE.out, HEk.out, ?_, ?_⟩
  · have hgz : g3 ≠ w.heap.size + 1 := by omega
    repeat (refine SpansAt.setCell ?_ _ hgz)
    exact HS3.out
  · repeat (refine Below.setCell ?_ (by simp) _)
    exact HF.out

end Go.Proofs.Qxb6604243a
