/-
  (*progress).acknowledge (31).
-/
import Derived.Test.Qxb6604243aSpan
namespace Go.Proofs.Qxb6604243a
open Go.RowKit

section
variable {w : World} {h : Nat} {t : TypeId} {x0 x1 x2 x3 : Int} {b4 b5 : Bool} {sl : Value} {x7 x8 x9 x10 x11 x12 : Int}
theorem ProgAt.set0 (hp : ProgAt w h t x0 x1 x2 x3 b4 b5 sl x7 x8 x9 x10 x11 x12) (v : Int) : ProgAt (w.setCell ⟨h, 0, none⟩ (.int .u64 v)) h t v x1 x2 x3 b4 b5 sl x7 x8 x9 x10 x11 x12 := by
  unfold ProgAt at hp ⊢
  rw [heap_setCell_same _ _ _ _ _ _ hp]
  simp [progCells]
theorem ProgAt.set1 (hp : ProgAt w h t x0 x1 x2 x3 b4 b5 sl x7 x8 x9 x10 x11 x12) (v : Int) : ProgAt (w.setCell ⟨h, 1, none⟩ (.int .u64 v)) h t x0 v x2 x3 b4 b5 sl x7 x8 x9 x10 x11 x12 := by
  unfold ProgAt at hp ⊢
  rw [heap_setCell_same _ _ _ _ _ _ hp]
  simp [progCells]
theorem ProgAt.set4 (hp : ProgAt w h t x0 x1 x2 x3 b4 b5 sl x7 x8 x9 x10 x11 x12) (v : Bool) : ProgAt (w.setCell ⟨h, 4, none⟩ (.bool v)) h t x0 x1 x2 x3 v b5 sl x7 x8 x9 x10 x11 x12 := by
  unfold ProgAt at hp ⊢
  rw [heap_setCell_same _ _ _ _ _ _ hp]
  simp [progCells]
theorem ProgAt.set5 (hp : ProgAt w h t x0 x1 x2 x3 b4 b5 sl x7 x8 x9 x10 x11 x12) (v : Bool) : ProgAt (w.setCell ⟨h, 5, none⟩ (.bool v)) h t x0 x1 x2 x3 b4 v sl x7 x8 x9 x10 x11 x12 := by
  unfold ProgAt at hp ⊢
  rw [heap_setCell_same _ _ _ _ _ _ hp]
  simp [progCells]
theorem ProgAt.set6 (hp : ProgAt w h t x0 x1 x2 x3 b4 b5 sl x7 x8 x9 x10 x11 x12) (v : Value) : ProgAt (w.setCell ⟨h, 6, none⟩ (v)) h t x0 x1 x2 x3 b4 b5 v x7 x8 x9 x10 x11 x12 := by
  unfold ProgAt at hp ⊢
  rw [heap_setCell_same _ _ _ _ _ _ hp]
  simp [progCells]
theorem ProgAt.set7 (hp : ProgAt w h t x0 x1 x2 x3 b4 b5 sl x7 x8 x9 x10 x11 x12) (v : Int) : ProgAt (w.setCell ⟨h, 7, none⟩ (.int .i64 v)) h t x0 x1 x2 x3 b4 b5 sl v x8 x9 x10 x11 x12 := by
  unfold ProgAt at hp ⊢
  rw [heap_setCell_same _ _ _ _ _ _ hp]
  simp [progCells]
theorem ProgAt.set10 (hp : ProgAt w h t x0 x1 x2 x3 b4 b5 sl x7 x8 x9 x10 x11 x12) (v : Int) : ProgAt (w.setCell ⟨h, 10, none⟩ (.int .u64 v)) h t x0 x1 x2 x3 b4 b5 sl x7 x8 x9 v x11 x12 := by
  unfold ProgAt at hp ⊢
  rw [heap_setCell_same _ _ _ _ _ _ hp]
  simp [progCells]
theorem ProgAt.set11 (hp : ProgAt w h t x0 x1 x2 x3 b4 b5 sl x7 x8 x9 x10 x11 x12) (v : Int) : ProgAt (w.setCell ⟨h, 11, none⟩ (.int .u64 v)) h t x0 x1 x2 x3 b4 b5 sl x7 x8 x9 x10 v x12 := by
  unfold ProgAt at hp ⊢
  rw [heap_setCell_same _ _ _ _ _ _ hp]
  simp [progCells]
theorem ProgAt.set12 (hp : ProgAt w h t x0 x1 x2 x3 b4 b5 sl x7 x8 x9 x10 x11 x12) (v : Int) : ProgAt (w.setCell ⟨h, 12, none⟩ (.int .u64 v)) h t x0 x1 x2 x3 b4 b5 sl x7 x8 x9 x10 x11 v := by
  unfold ProgAt at hp ⊢
  rw [heap_setCell_same _ _ _ _ _ _ hp]
  simp [progCells]
theorem ProgAt.drew (hp : ProgAt w h t x0 x1 x2 x3 b4 b5 sl x7 x8 x9 x10 x11 x12) : ProgAt w.drew h t x0 x1 x2 x3 b4 b5 sl x7 x8 x9 x10 x11 x12 := hp
end

/-- Nothing but block h has turned. -/
structure OnlyAt (h : Nat) (w w' : World) : Prop where
  os : w'.os = w.os
  tape : w'.tape = w.tape
  output : w'.output = w.output
  size : w.heap.size ≤ w'.heap.size
  block : ∀ b, b ≠ h → w'.heap[b]? = w.heap[b]?
theorem OnlyAt.refl (h : Nat) (w : World) : OnlyAt h w w := ⟨rfl, rfl, rfl, Nat.le_refl _, fun _ _ => rfl⟩
theorem OnlyAt.drew {h : Nat} {w w' : World} (k : OnlyAt h w w') : OnlyAt h w w'.drew := ⟨k.os, k.tape, k.output, k.size, k.block⟩
theorem OnlyAt.setCell {h : Nat} {w w' : World} (k : OnlyAt h w w') (j : Nat) (v : Value) : OnlyAt h w (w'.setCell ⟨h, j, none⟩ v) :=
  ⟨k.os, k.tape, k.output, by have := k.size; simpa [World.setCell] using this, fun b hb => (Below.heap_setCell _ _ _ _ hb).trans (k.block b hb)⟩
theorem OnlyAt.below {h : Nat} {w w' : World} (k : OnlyAt h w w') {B : Nat} (hB : B ≤ h) : Below B w w' := ⟨k.os, k.tape, k.output, k.size, fun b hb => k.block b (by omega)⟩
theorem OnlyAt.spans {h : Nat} {w w' : World} (k : OnlyAt h w w') {ad : Option Addr} {m g off : Nat} {E B : Nat → Int} (hs : SpansAt w ad m g off E B) (hg : h ≠ g) : SpansAt w' ad m g off E B :=
  ⟨hs.1, hs.2.1, fun i hi => ⟨(World.cell?_of_block (k.block g hg.symm)).trans (hs.2.2 i hi).1, (World.cell?_of_block (k.block g hg.symm)).trans (hs.2.2 i hi).2⟩⟩

/-- The sum of the first k. -/
def sumTo (B : Nat → Int) : Nat → Int | 0 => 0 | k + 1 => sumTo B k + B k
def newAcked (cnt : Bool) (x1 ack : Int) : Int := if cnt = true then ack else x1
def newSent (b4 : Bool) (x0 ack : Int) : Int := if b4 = true ∧ ack < x0 then x0 else ack
theorem wrap_step (x s b : Int) : wrap64 (wrap64 (x - s) - b) = wrap64 (x - (s + b)) := by
  unfold wrap64; omega
theorem wrap_step' (s b : Int) : wrap64 (wrap64 s + b) = wrap64 (s + b) := by
  unfold wrap64; omega
theorem wrap_end (x s : Int) : wrap64 (x - wrap64 s) = wrap64 (x - s) := by
  unfold wrap64; omega

/-- What acknowledge leaves. -/
def AckPost (h : Nat) (x0 x1 x2 x3 : Int) (b4 : Bool) (m : Nat) (x7 x8 x9 : Int) (g off : Nat) (E B : Nat → Int) (ack : Int) (cnt : Bool) (w : World) (e : Ending) (w' : World) : Prop :=
  ∃ k ad' cap', e = .returned (.tuple #[]) ∧ k ≤ m ∧ (∀ i, i < k → E i ≤ ack) ∧ (k < m → ack < E k) ∧
    ProgAt w' h 94 (newSent b4 x0 ack) (newAcked cnt x1 ack) x2 x3 true false (.slice ad' (m - k) cap') (wrap64 (x7 - sumTo B k)) x8 x9 0 0 0 ∧
    SpansAt w' ad' (m - k) g (off + k * 2) (fun i => E (k + i)) (fun i => B (k + i)) ∧ OnlyAt h w w'

/-- The spans behind the first k. -/
theorem ack_spans {w1 w2 : World} {q m k g off : Nat} {E B : Nat → Int} {ad ad' : Option Addr} (hs : SpansAt w1 ad m g off E B) (hk : k ≤ m) (had : 0 < m - k → ad' = some ⟨g, off + k * 2, none⟩) {w : World} (_h2 : OnlyAt q w w2) (_h1 : OnlyAt q w w1) (_hg : q ≠ g)
    (hn : ad' = none → m - k = 0) : SpansAt w2 ad' (m - k) g (off + k * 2) (fun i => E (k + i)) (fun i => B (k + i)) := by
  refine ⟨had, hn, fun i hi => ?_⟩
  have hc := hs.2.2 (k + i) (by omega)
  have e1 : off + k * 2 + i * 2 = off + (k + i) * 2 := by omega
  have hb : w2.heap[g]? = w1.heap[g]? := (_h2.block g _hg.symm).trans (_h1.block g _hg.symm).symm
  rw [e1]
  exact ⟨(World.cell?_of_block hb).trans hc.1, (World.cell?_of_block hb).trans hc.2⟩

theorem ack_done {wr w : World} {q : Nat} {x0 x1 x2 x3 x7 x8 x9 y s c : Int} {b4 cnt : Bool} {k g off : Nat} {E B : Nat → Int} {ack : Int} {sl : Value} (hP : ProgAt wr q 94 s c x2 x3 true false sl y x8 x9 0 0 0) (hs : s = newSent b4 x0 ack) (hc : c = newAcked cnt x1 ack)
    (hy : y = wrap64 (x7 - sumTo B k)) (hE : ∀ i, i < k → E i ≤ ack) (hO : OnlyAt q w wr) (ad' : Option Addr) (cap' : Nat) :
    AckPost q x0 x1 x2 x3 b4 k x7 x8 x9 g off E B ack cnt w (.returned (.tuple #[])) (wr.setCell ⟨q, 6, none⟩ (.slice ad' 0 cap')) := by
  subst hs hc hy
  refine ⟨k, ad', cap', rfl, Nat.le_refl _, hE, fun hh => absurd hh (Nat.lt_irrefl _), ?_, ?_, hO.setCell _ _⟩
  · rw [Nat.sub_self]
    exact hP.set6 _
  · rw [Nat.sub_self]
    exact ⟨fun hh => absurd hh (Nat.lt_irrefl _), fun _ => rfl, fun _ hi => absurd hi (Nat.not_lt_zero _)⟩

set_option maxHeartbeats 4000000 in
theorem ack_any (q : Nat) (x0 x1 x2 x3 : Int) (b4 b5 : Bool) (x7 x8 x9 x10 x11 x12 : Int) (ad : Option Addr) (m cap g off : Nat) (E B : Nat → Int) (ack : Int) (cnt : Bool) (w : World) (hm : m ≤ 4096) (hcap : m ≤ cap)
    (had : (ad = none ∧ m = 0) ∨ ad = some ⟨g, off, none⟩) (h7 : wrap64 x7 = x7) (hg : q ≠ g) (hs : SpansAt w ad m g off E B) (hp : ProgAt w q 94 x0 x1 x2 x3 b4 b5 (.slice ad m cap) x7 x8 x9 x10 x11 x12) :
    Calls Try.prog 31 #[.pointer (some ⟨q, 0, none⟩), .int .u64 ack, .bool cnt] w (AckPost q x0 x1 x2 x3 b4 m x7 x8 x9 g off E B ack cnt w) := by
  obtain ⟨p0, p1, p2, p3, p4, p5, p6, p7, p8, p9, p10, p11, p12⟩ := hp.cells
  have fz := hp.frozen
  have HP := hide hp
  have HS := hide hs
  have HD := hide had
  have H7 := hide h7
  clear hp hs had h7
  obtain ⟨s, hsn⟩ : ∃ s, s = newSent b4 x0 ack := ⟨_, rfl⟩
  obtain ⟨c, hcn⟩ : ∃ c, c = newAcked cnt x1 ack := ⟨_, rfl⟩
  have HSN := hide hsn
  have HCN := hide hcn
  have hways : (b4 = false ∧ s = ack) ∨ (b4 = true ∧ x0 < ack ∧ s = ack) ∨ (b4 = true ∧ ¬ x0 < ack ∧ s = x0) := by
    subst hsn
    cases b4
    · exact .inl ⟨rfl, by simp [newSent]⟩
    · by_cases hx : x0 < ack
      · exact .inr (.inl ⟨rfl, hx, if_neg (fun hh => by omega)⟩)
      · refine .inr (.inr ⟨rfl, hx, ?_⟩)
        unfold newSent
        by_cases hy : ack < x0
        · exact if_pos ⟨rfl, hy⟩
        · rw [if_neg (fun hh => hy hh.2)]; omega
  have hcw : (cnt = true ∧ c = ack) ∨ (cnt = false ∧ c = x1) := by
    subst hcn
    cases cnt
    · exact .inr ⟨rfl, rfl⟩
    · exact .inl ⟨rfl, rfl⟩
  clear hsn hcn
  rcases hways with ⟨rfl, hsn⟩ | ⟨rfl, hx, hsn⟩ | ⟨rfl, hx, hsn⟩ <;> rcases hcw with ⟨rfl, hcn⟩ | ⟨rfl, hcn⟩
  all_goals
    have HS1 := hide hsn
    have HC1 := hide hcn
    clear hsn hcn
    go_enter Try.func31, Try.ntmps31
    go_wp2
    go_loopg [6] m (fun gg i wr => ∃ k : Nat, k ≤ m ∧ gg = m - k ∧ i = .int .i64 k ∧ (∀ i, i < k → E i ≤ ack) ∧ OnlyAt q w wr ∧ ProgAt wr q 94 s c x2 x3 true false (.slice ad m cap) (wrap64 (x7 - sumTo B k)) x8 x9 0 0 0)
    case atStart =>
      have e1 := HS1.out
      have e2 := HC1.out
      have e3 : wrap64 (x7 - sumTo B 0) = x7 := by simp [sumTo, H7.out]
      refine ⟨0, Nat.zero_le _, rfl, rfl, fun i hi => absurd hi (Nat.not_lt_zero _), ?_, ?_⟩
      · repeat (refine OnlyAt.setCell ?_ _ _)
        exact OnlyAt.refl _ _
      · rw [e1, e2, e3]
        first
          | (have _t1 : Hid (s = ack) := HS1; have _t2 : Hid (c = ack) := HC1; exact ((((((HP.out.set0 _).set1 _).set4 _).set5 _).set10 _).set11 _).set12 _)
          | (have _t1 : Hid (s = ack) := HS1; have _t2 : Hid (c = x1) := HC1; exact (((((HP.out.set0 _).set4 _).set5 _).set10 _).set11 _).set12 _)
          | (have _t1 : Hid (s = x0) := HS1; have _t2 : Hid (c = ack) := HC1; exact (((((HP.out.set1 _).set4 _).set5 _).set10 _).set11 _).set12 _)
          | (have _t1 : Hid (s = x0) := HS1; have _t2 : Hid (c = x1) := HC1; exact ((((HP.out.set4 _).set5 _).set10 _).set11 _).set12 _)
    case round =>
      clear p0 p1 p2 p3 p4 p5 p6 p7 p8 p9 p10 p11 p12 fz HP H7
      obtain ⟨k, hk, rfl, rfl, hE, hO, hP⟩ := hrel
      have HE := hide hE
      have c6 := hP.cell6
      obtain ⟨y, hy⟩ : ∃ y, y = wrap64 (x7 - sumTo B k) := ⟨_, rfl⟩
      rw [← hy] at hP
      have HY := hide hy
      have HP := hide hP
      have c7 := hP.cells.2.2.2.2.2.2.2.1
      have fz := hP.frozen
      clear hE hy
      have HSk := hide (hO.spans HS.out hg)
      by_cases hkm : k < m
      · have hkz : (k : Int) < (m : Int) := by omega
        obtain ⟨rfl⟩ := HSk.out.1 (by omega)
        obtain ⟨h1, h2⟩ := HSk.out.2.2 k hkm
        by_cases hle : E k ≤ ack
        · have f7 := fz 7
          clear hP fz
          go_wp2
          go_region
          go_wp2
          go_roundg (m - (k + 1))
          case measure => omega
          case rel =>
            have e := HY.out
            subst e
            refine ⟨k + 1, by omega, rfl, by go_num, fun i hi => ?_, (hO.setCell _ _).drew, ?_⟩
            · by_cases e : i = k
              · subst e; exact hle
              · exact HE.out i (by omega)
            · have e : wrap64 (x7 - sumTo B (k + 1)) = wrap64 (wrap64 (x7 - sumTo B k) - B k) := (wrap_step _ _ _).symm
              rw [e]
              exact (HP.out.set7 _).drew
        · have hle' : ack < E k := by omega
          have f6 := fz 6
          have hck : ¬ cap = k := by omega
          clear hP fz
          go_wp2
          go_end0
          have e := HY.out
          subst e
          refine ⟨k, some ⟨g, off + k * 2, none⟩, cap - k, rfl, hk, HE.out, fun _ => hle', ?_, ?_, hO.setCell _ _⟩
          · rw [← HSN.out, ← HCN.out]
            exact HP.out.set6 _
          · exact ack_spans HSk.out hk (fun _ => rfl) (hO.setCell _ _) hO hg (fun hh => by cases hh)
      · have hkz : decide ((k : Int) < (m : Int)) = false := by simp; omega
        obtain rfl : k = m := by omega
        have f6 := fz 6
        clear hP fz
        go_wp2
        all_goals
          go_end0
          exact ack_done HP.out HSN.out HCN.out HY.out HE.out hO _ _

end Go.Proofs.Qxb6604243a
