/-
  WALK of the reference's (*rd).pick: whatever bytes the input holds, it answers a number below its bound; it changes nothing but the reader's own place.
-/
import Derived.Test.YtfdbcjdkikmjiaaDoorProg
import Derived.WalkKit
import Derived.Deep.QuietTactic
import Derived.BigQuiet
import Derived.Lib.Hide
import Derived.Below
import Derived.Handy
import Derived.WalkSpells
import Derived.WalkLawsBesides
import Derived.Deep.RegionHeld
namespace Go.Proofs.YtfdbcjdkikmjiaaDoor
open Go.RowKit
set_option linter.unusedVariables false

theorem bel_drewN {B : Nat} {w w' : World} (h : Below B w w') (q : Nat) : Below B w (w'.drewN q) := ⟨h.os, h.tape, h.output, h.size, h.block⟩
/-- Block B holds a reader: the bytes v, the place p. -/
def Rd (B : Nat) (v : Value) (p : Nat) (w : World) : Prop := w.heap[B]? = some (.cells #[v, .int .i64 p] 33 (0, 0))
theorem Rd.cell0 {B : Nat} {v : Value} {p : Nat} {w : World} (h : Rd B v p w) : w.cell? ⟨B, 0, none⟩ = some v := by unfold Rd at h; simp [World.cell?, h]
theorem Rd.cell1 {B : Nat} {v : Value} {p : Nat} {w : World} (h : Rd B v p w) : w.cell? ⟨B, 1, none⟩ = some (.int .i64 p) := by unfold Rd at h; simp [World.cell?, h]
theorem Rd.free {B : Nat} {v : Value} {p : Nat} {w : World} (h : Rd B v p w) : w.frozen? ⟨B, 1, none⟩ = false := by unfold Rd at h; simp [World.frozen?, h]
theorem Rd.lt {B : Nat} {v : Value} {p : Nat} {w : World} (h : Rd B v p w) : B < w.heap.size := by
  rcases Nat.lt_or_ge B w.heap.size with h' | h'
  · exact h'
  · unfold Rd at h; simp [Array.getElem?_eq_none h'] at h
theorem Rd.set {B : Nat} {v : Value} {p : Nat} {w : World} (h : Rd B v p w) : Rd B v (p + 1) (w.setCell ⟨B, 1, none⟩ (.int .i64 ((p : Int) + 1))) := by
  have hlt := h.lt
  unfold Rd at h ⊢
  have h' : w.heap[B] = .cells #[v, .int .i64 p] 33 (0, 0) := by simpa [Array.getElem?_eq_getElem hlt] using h
  show (w.heap.modify B _)[B]? = _
  rw [Array.getElem?_eq_getElem (by simpa using hlt), Array.getElem_modify_self, h']
  rfl
theorem Rd.drewN {B : Nat} {v : Value} {p : Nat} {w : World} (h : Rd B v p w) (q : Nat) : Rd B v p (w.drewN q) := h
/-- v is a slice of n bytes that lie below block B. -/
def CodeIs (B : Nat) (v : Value) (n : Nat) (w : World) : Prop :=
  (∃ a cap, v = .slice a n cap) ∧ (0 < n → ∃ b off cap, b < B ∧ n ≤ cap ∧ cap ≤ maxLen ∧ v = .slice (some ⟨b, off, none⟩) n cap ∧ ∀ k, k < n → ∃ z : Int, 0 ≤ z ∧ z ≤ 255 ∧ w.cell? ⟨b, off + k, none⟩ = some (.int .u8 z))
theorem CodeIs.below {B : Nat} {v : Value} {n : Nat} {w w' : World} (h : CodeIs B v n w) (hb : Below B w w') : CodeIs B v n w' := by
  refine ⟨h.1, fun hn => ?_⟩
  obtain ⟨b, off, cap, hlt, hn1, hn2, hv, hc⟩ := h.2 hn
  exact ⟨b, off, cap, hlt, hn1, hn2, hv, fun k hk => by
    obtain ⟨z, h0, h1, hz⟩ := hc k hk
    exact ⟨z, h0, h1, by rw [hb.cell (p := ⟨b, off + k, none⟩) hlt]; exact hz⟩⟩
def PickPost (B : Nat) (v : Value) (p : Nat) (m : Nat) (w : World) (e : Ending) (w' : World) : Prop :=
  ∃ k : Nat, k < m ∧ e = .returned (.int .i64 (k : Int)) ∧ Rd B v (p + 1) w' ∧ Below B w w' ∧ ∀ a : Addr, a.block ≠ B → w'.cell? a = w.cell? a

/-- x ^ x/64 of a small number that is not negative. -/
theorem xor_small (X : Int) (h0 : 0 ≤ X) (h1 : X < 1000000) : 0 ≤ bits .xor .i64 X (X / 64) ∧ bits .xor .i64 X (X / 64) < 1048576 := by
  obtain ⟨a, rfl⟩ : ∃ a : Nat, X = a := ⟨X.toNat, by omega⟩
  have d : ((a : Int) / 64) = ((a / 64 : Nat) : Int) := by omega
  have hx : a ^^^ (a / 64) < 2 ^ 20 := Nat.xor_lt_two_pow (by omega) (by omega)
  have h1 : (BitVec.ofInt 64 (a : Int)).toNat = a := by
    rw [BitVec.ofInt_natCast, BitVec.toNat_ofNat]; exact Nat.mod_eq_of_lt (by omega)
  have h2 : (BitVec.ofInt 64 ((a / 64 : Nat) : Int)).toNat = a / 64 := by
    rw [BitVec.ofInt_natCast, BitVec.toNat_ofNat]; exact Nat.mod_eq_of_lt (by omega)
  have e : bits .xor .i64 (a : Int) ((a / 64 : Nat) : Int) = ((a ^^^ (a / 64) : Nat) : Int) := by
    show IntKind.i64.wrap ((BitVec.ofInt 64 (a : Int) ^^^ BitVec.ofInt 64 ((a / 64 : Nat) : Int)).toNat : Int) = _
    rw [BitVec.toNat_xor, h1, h2]
    simp [IntKind.wrap, IntKind.bits, IntKind.signed]
    omega
  rw [d, e]
  omega

theorem pick_zero (B p cap : Nat) (a : Option Addr) (m : Int) (w : World) (hp : p ≤ 1000) (hm : 1 ≤ m)
    (h0 : w.cell? ⟨B, 0, none⟩ = some (.slice a 0 cap)) (h1 : w.cell? ⟨B, 1, none⟩ = some (.int .i64 p)) (hf : w.frozen? ⟨B, 1, none⟩ = false) :
    Calls Tryd.prog 32 #[.pointer (some ⟨B, 0, none⟩), .int .i64 m] w fun e w' => e = .returned (.int .i64 0) ∧ w.setCell ⟨B, 1, none⟩ (.int .i64 ((p : Int) + 1)) = w' := by
  go_enter Tryd.func32, Tryd.ntmps32
  go_wp2
  go_ret
  exact ⟨rfl, rfl⟩

theorem pick_in (B p n cap b off : Nat) (m z : Int) (w : World) (hp : p ≤ 1000) (hm : 1 ≤ m) (hm2 : m ≤ 256) (hn : n ≤ 1048576) (hpn : p < n) (hne : b ≠ B) (hz0 : 0 ≤ z) (hz1 : z ≤ 255)
    (h0 : w.cell? ⟨B, 0, none⟩ = some (.slice (some ⟨b, off, none⟩) n cap)) (h1 : w.cell? ⟨B, 1, none⟩ = some (.int .i64 p)) (hf : w.frozen? ⟨B, 1, none⟩ = false)
    (hc : w.cell? ⟨b, off + p, none⟩ = some (.int .u8 z)) :
    Calls Tryd.prog 32 #[.pointer (some ⟨B, 0, none⟩), .int .i64 m] w fun e w' => e = .returned (.int .i64 (z % m)) ∧ w.setCell ⟨B, 1, none⟩ (.int .i64 ((p : Int) + 1)) = w' := by
  have hc' : (w.setCell ⟨B, 1, none⟩ (.int .i64 ((p : Int) + 1))).cell? ⟨b, off + p, none⟩ = some (.int .u8 z) := by
    rw [World.cell?_setCell_far _ _ _ _ (fun e => hne e.symm)]; exact hc
  have hpz : (p : Int) < (n : Int) := by omega
  have hn0 : ((n : Int) == 0) = false := by simp; omega
  go_enter Tryd.func32, Tryd.ntmps32
  go_wp2
  go_ret
  exact ⟨rfl, rfl⟩

theorem pick_mix (B p n cap b off : Nat) (m y z : Int) (w : World) (hp : p ≤ 1000) (hm : 1 ≤ m) (hm2 : m ≤ 256) (hn : n ≤ 1048576) (hn1 : 0 < n) (hpn : n ≤ p) (hne : b ≠ B) (hy0 : 0 ≤ y) (hy1 : y ≤ 255) (hz0 : 0 ≤ z) (hz1 : z ≤ 255)
    (h0 : w.cell? ⟨B, 0, none⟩ = some (.slice (some ⟨b, off, none⟩) n cap)) (h1 : w.cell? ⟨B, 1, none⟩ = some (.int .i64 p)) (hf : w.frozen? ⟨B, 1, none⟩ = false)
    (i1 i2 D : Nat) (hi1 : i1 < n) (hi2 : i2 < n) (hD : D ≤ 1000) (ht1 : (p : Int).tmod (n : Int) = (i1 : Int)) (ht2 : ((p : Int) * 7 + 3).tmod (n : Int) = (i2 : Int)) (ht3 : (p : Int).tdiv (n : Int) = (D : Int))
    (hc : w.cell? ⟨b, off + i1, none⟩ = some (.int .u8 y)) (hd : w.cell? ⟨b, off + i2, none⟩ = some (.int .u8 z)) :
    Calls Tryd.prog 32 #[.pointer (some ⟨B, 0, none⟩), .int .i64 m] w fun e w' => (∃ k : Int, 0 ≤ k ∧ k < m ∧ e = .returned (.int .i64 k)) ∧ ∃ q, (w.setCell ⟨B, 1, none⟩ (.int .i64 ((p : Int) + 1))).drewN q = w' := by
  have hc' : (w.setCell ⟨B, 1, none⟩ (.int .i64 ((p : Int) + 1))).cell? ⟨b, off + i1, none⟩ = some (.int .u8 y) := by
    rw [World.cell?_setCell_far _ _ _ _ (fun e => hne e.symm)]; exact hc
  have hd' : (w.setCell ⟨B, 1, none⟩ (.int .i64 ((p : Int) + 1))).cell? ⟨b, off + i2, none⟩ = some (.int .u8 z) := by
    rw [World.cell?_setCell_far _ _ _ _ (fun e => hne e.symm)]; exact hd
  have hpz : ¬ ((p : Int) < (n : Int)) := by omega
  have hn0 : ((n : Int) == 0) = false := by simp; omega
  have hn0' : ¬ (n = 0) := by omega
  go_enter Tryd.func32, Tryd.ntmps32
  go_wp2
  go_quiet (fail)
  go_wp2
  go_ret
  obtain ⟨x0, x1⟩ := xor_small (y * 131 + z * 1117 + (p : Int) * 29 + (D : Int) * 53) (by omega) (by omega)
  refine ⟨⟨(bits .xor .i64 (y * 131 + z * 1117 + (p : Int) * 29 + (D : Int) * 53) ((y * 131 + z * 1117 + (p : Int) * 29 + (D : Int) * 53) / 64)).tmod m, Int.tmod_nonneg _ x0, ?_, rfl⟩, _, rfl⟩
  exact Int.tmod_lt_of_pos _ (by omega)

/-- pick(n) answers a number below n, whatever the bytes are. -/
theorem pick_any {B p n m : Nat} {v : Value} {w : World} (hR : Rd B v p w) (hC : CodeIs B v n w) (hp : p ≤ 1000) (hm : 1 ≤ m) (hm2 : m ≤ 256) (hn : n ≤ 1048576) :
    Calls Tryd.prog 32 #[.pointer (some ⟨B, 0, none⟩), .int .i64 (m : Int)] w (PickPost B v p m w) := by
  have hset : ∀ q, Rd B v (p + 1) ((w.setCell ⟨B, 1, none⟩ (.int .i64 ((p : Int) + 1))).drewN q) ∧ Below B w ((w.setCell ⟨B, 1, none⟩ (.int .i64 ((p : Int) + 1))).drewN q) ∧
      ∀ a : Addr, a.block ≠ B → ((w.setCell ⟨B, 1, none⟩ (.int .i64 ((p : Int) + 1))).drewN q).cell? a = w.cell? a := fun q =>
    ⟨hR.set.drewN q, bel_drewN (Below.setCell (p := ⟨B, 1, none⟩) (Below.refl B w) (Nat.le_refl B) _) q, fun a ha => World.cell?_setCell_far w ⟨B, 1, none⟩ a _ (fun e => ha e.symm)⟩
  rcases Nat.eq_zero_or_pos n with h0 | hpos
  · subst h0
    obtain ⟨a, cap, rfl⟩ := hC.1
    exact (pick_zero B p cap a m w hp (by omega) hR.cell0 hR.cell1 hR.free).mono fun e w' ⟨he, hw⟩ => hw ▸ ⟨0, by omega, he, hset 0⟩
  · obtain ⟨b, off, cap, hlt, _, _, rfl, hc⟩ := hC.2 hpos
    by_cases hpn : p < n
    · obtain ⟨z, hz0, hz1, hz⟩ := hc p hpn
      refine (pick_in B p n cap b off m z w hp (by omega) (by omega) hn hpn (by omega) hz0 hz1 hR.cell0 hR.cell1 hR.free hz).mono fun e w' ⟨he, hw⟩ => hw ▸ ⟨(z % (m : Int)).toNat, ?_, ?_, hset 0⟩
      · have := Int.emod_lt_of_pos z (show (0 : Int) < (m : Int) by omega); omega
      · have := Int.emod_nonneg z (show (m : Int) ≠ 0 by omega)
        rw [he, Int.toNat_of_nonneg this]
    · have hi1 : p % n < n := Nat.mod_lt _ hpos
      have hi2 : (p * 7 + 3) % n < n := Nat.mod_lt _ hpos
      obtain ⟨y, hy0, hy1, hy⟩ := hc _ hi1
      obtain ⟨z, hz0, hz1, hz⟩ := hc _ hi2
      have ht2 : ((p : Int) * 7 + 3).tmod (n : Int) = (((p * 7 + 3) % n : Nat) : Int) := by
        rw [show (p : Int) * 7 + 3 = ((p * 7 + 3 : Nat) : Int) by omega]; rfl
      refine (pick_mix B p n cap b off m y z w hp (by omega) (by omega) hn hpos (by omega) (by omega) hy0 hy1 hz0 hz1 hR.cell0 hR.cell1 hR.free (p % n) ((p * 7 + 3) % n) (p / n) hi1 hi2
        (Nat.le_trans (Nat.div_le_self _ _) hp) rfl ht2 rfl hy hz).mono fun e w' ⟨⟨k, hk0, hk1, he⟩, q, hw⟩ => hw ▸ ⟨k.toNat, by omega, ?_, hset q⟩
      rw [he, Int.toNat_of_nonneg hk0]
theorem Rd.alloc {B : Nat} {v : Value} {p : Nat} {w : World} (h : Rd B v p w) (o : Obj) : Rd B v p (w.alloc o) := by
  have hlt := h.lt
  unfold Rd at h ⊢
  rw [Below.heap_alloc _ _ _ hlt]; exact h
theorem CodeIs.mono {B B' : Nat} {v : Value} {n : Nat} {w : World} (h : CodeIs B v n w) (hB : B ≤ B') : CodeIs B' v n w := by
  refine ⟨h.1, fun hn => ?_⟩
  obtain ⟨b, off, cap, hlt, r⟩ := h.2 hn
  exact ⟨b, off, cap, by omega, r⟩
theorem CodeIs.alloc {B : Nat} {v : Value} {n : Nat} {w : World} (h : CodeIs B v n w) (hB : B ≤ w.heap.size) (o : Obj) : CodeIs B v n (w.alloc o) := h.below ((Below.refl _ _).alloc hB o)
/-- Some number of 32 bits; what lay below block B is as it was. -/
def RunePost (B : Nat) (w : World) (e : Ending) (w' : World) : Prop := ∃ r : Int, -2147483648 ≤ r ∧ r ≤ 2147483647 ∧ e = .returned (.int .i32 r) ∧ Below B w w'
def LatinPost (B : Nat) (w : World) (e : Ending) (w' : World) : Prop := ∃ r : Nat, r ≤ 255 ∧ e = .returned (.int .i32 (r : Int)) ∧ Below B w w'
theorem wrap32_lo (x : Int) : -2147483648 ≤ wrap32 x ∧ wrap32 x ≤ 2147483647 := by unfold wrap32; omega

theorem rd_new (w : World) (v : Value) : Rd w.heap.size v 0 (w.alloc (.cells #[v, .int .i64 0] 33)) := by
  show (w.heap.push _)[w.heap.size]? = _
  simp
end Go.Proofs.YtfdbcjdkikmjiaaDoor
