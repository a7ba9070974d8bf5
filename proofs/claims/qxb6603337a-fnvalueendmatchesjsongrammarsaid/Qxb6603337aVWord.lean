/-
  THE WALK of word.
-/
import Derived.Test.Qxb6603337aVStr2
namespace Go.Proofs.Qxb6603337a
open Go.RowKit
set_option linter.unusedVariables false

/-- a parser's answer in a world that may have drawn -/
def QPost (P : Nat → Prop) (w : World) (e : Ending) (w' : World) : Prop :=
  Below w.heap.size w w' ∧ ((∃ r : Nat, e = .returned (.tuple #[.int .i64 r, .bool true]) ∧ P r) ∨ e = .returned (.tuple #[.int .i64 0, .bool false]))
theorem QPost.no {P : Nat → Prop} {w w' : World} (hb : Below w.heap.size w w') : QPost P w (.returned (.tuple #[.int .i64 0, .bool false])) w' := ⟨hb, .inr rfl⟩
theorem QPost.yes {P : Nat → Prop} {w w' : World} {r : Nat} {v : Int} (hb : Below w.heap.size w w') (hv : v = r) (h : P r) : QPost P w (.returned (.tuple #[.int .i64 v, .bool true])) w' := ⟨hb, .inl ⟨r, by rw [hv], h⟩⟩

set_option maxRecDepth 100000 in
set_option maxHeartbeats 4000000 in
theorem word_any (w : World) (S : Nat) (a : Option Addr) (n c i : Nat) (F : Nat → Nat) (t : Int) (fd : Bool) (en : Int) (s : ByteArray) (hs : s.size ≤ 100) (h : Sc w S a n c F t fd en) (hi : i < n) :
    Calls Try.prog 36 #[.pointer (some ⟨S, 0, none⟩), .int .i64 i, .string s] w (QPost (fun r => r = i + s.size ∧ r ≤ n ∧ ∀ k, k < s.size → F (i + k) = bt s k) w) := by
  obtain ⟨s0, s1, s2, s3, _, _⟩ := h.cells
  have hn := h.small
  obtain ⟨b, off, rfl, hc⟩ := h.txt (by omega)
  have HC := Lib.hid hc
  have HS0 := Lib.hid s0
  clear h s1 s2 s3 hc
  by_cases hl : n < i + s.size
  · have d0 : decide ((n : Int) - (i : Int) < (s.size : Int)) = true := by simp; omega
    go_enter Try.func36, Try.ntmps36
    go_wp2_with fail
    go_ret2
    exact QPost.no (Below.refl _ _)
  have d0 : decide ((n : Int) - (i : Int) < (s.size : Int)) = false := by simp; omega
  go_enter Try.func36, Try.ntmps36
  go_wp2_with fail
  clear s0
  go_loopg [6, 7, 8] s.size (fun gg t6 t7 t8 wr => ∃ k : Nat, k ≤ s.size ∧ gg = s.size - k ∧ t8 = .int .i64 k ∧ Hid (∀ m, m < k → F (i + m) = bt s m) ∧ Below w.heap.size w wr)
  case atStart => exact ⟨0, Nat.zero_le _, rfl, rfl, (fun m h1 => by omega), Below.refl _ _⟩
  case round =>
    obtain ⟨k, hk, hg, rfl, hM, hbr⟩ := hrel
    by_cases hlt : k < s.size
    · have c1 := cellLater hbr (HC.out (i + k) (by omega))
      have s0 := cellLater hbr HS0.out
      go_upto_region 6 with fail
      have hq3 : (k : Int) < s.size := by omega
      have hq4 : (i : Int) + k < n := by omega
      have hbt : bt s k = (s[k]'hlt).toNat := by
        unfold bt
        cases s with
        | mk d =>
          have h2 : k < d.size := hlt
          show (d[k]!).toNat = (d[k]'h2).toNat
          simp [h2]
      by_cases hx : F (i + k) = (s[k]'hlt).toNat
      · have z1 : (((F (i + k) : Nat) : Int) == (((s[k]'hlt).toNat : Nat) : Int)) = true := by simp [hx]
        have z2 : (((F (i + k) : Nat) : Int) != (((s[k]'hlt).toNat : Nat) : Int)) = false := by simp [hx]
        have HM2 : Hid (∀ m, m < k + 1 → F (i + m) = bt s m) := by
          intro m h1
          rcases Nat.lt_or_ge m k with h3 | h3
          · exact hM.out m h3
          · obtain rfl : m = k := by omega
            rw [hbt]; exact hx
        clear hM hx hbt
        go_quiet (fail)
        go_wp2_with fail
        go_roundg (s.size - (k + 1))
        case measure => omega
        case rel => exact ⟨k + 1, by omega, rfl, by go_num, HM2, below_drewN hbr _⟩
      · have z1 : (((F (i + k) : Nat) : Int) == (((s[k]'hlt).toNat : Nat) : Int)) = false := by rw [beq_eq_false_iff_ne]; omega
        have z2 : (((F (i + k) : Nat) : Int) != (((s[k]'hlt).toNat : Nat) : Int)) = true := by simp only [bne, z1]; rfl
        clear hM hx hbt
        go_quiet (fail)
        go_wp2_with fail
        go_ret2
        exact QPost.no (below_drewN hbr _)
    · obtain rfl : k = s.size := by omega
      have HM := hM
      clear hM
      go_wp2_with fail
      go_ret2
      exact QPost.yes hbr (by simp) ⟨rfl, by omega, HM.out⟩
end Go.Proofs.Qxb6603337a
