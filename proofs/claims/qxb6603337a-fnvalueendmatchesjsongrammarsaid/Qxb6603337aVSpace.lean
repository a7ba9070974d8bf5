/-
  THE SCANNER's STRUCT; the walks of space and note.
-/
import Derived.Test.Qxb6603337aVScan
import Derived.Below
namespace Go.Proofs.Qxb6603337a
open Go.RowKit
set_option linter.unusedVariables false

/-- the struct that s points to: block S; the text that it holds -/
structure Sc (w : World) (S : Nat) (a : Option Addr) (n c : Nat) (F : Nat → Nat) (t : Int) (fd : Bool) (en : Int) : Prop where
  blk : w.heap[S]? = some (.cells #[.slice a n c, .int .i64 t, .bool fd, .int .i64 en] 39 (0, 0))
  txt : TextAt w a n F
  small : n ≤ 1048576

theorem Sc.cells {w : World} {S : Nat} {a : Option Addr} {n c : Nat} {F : Nat → Nat} {t : Int} {fd : Bool} {en : Int} (h : Sc w S a n c F t fd en) :
    w.cell? ⟨S, 0, none⟩ = some (.slice a n c) ∧ w.cell? ⟨S, 1, none⟩ = some (.int .i64 t) ∧ w.cell? ⟨S, 2, none⟩ = some (.bool fd) ∧ w.cell? ⟨S, 3, none⟩ = some (.int .i64 en) ∧ w.frozen? ⟨S, 2, none⟩ = false ∧ w.frozen? ⟨S, 3, none⟩ = false := by
  have hb := h.blk
  refine ⟨?_, ?_, ?_, ?_, frozen_of_row w S 2 _ _ hb, frozen_of_row w S 3 _ _ hb⟩ <;> simp [World.cell?, hb]

/-- the text's bytes do not lie in the struct -/
theorem Sc.apart {w : World} {S : Nat} {a : Option Addr} {n c : Nat} {F : Nat → Nat} {t : Int} {fd : Bool} {en : Int} (h : Sc w S a n c F t fd en) {b off k : Nat} {x : Int} (hc : w.cell? ⟨b, off + k, none⟩ = some (.int .u8 x)) : b ≠ S := by
  rintro rfl
  have hb := h.blk
  simp [World.cell?, hb] at hc
  match off + k, hc with
  | 0, hc => simp at hc
  | 1, hc => simp at hc
  | 2, hc => simp at hc
  | 3, hc => simp at hc
  | m + 4, hc => simp at hc

theorem Sc.noted {w : World} {S : Nat} {a : Option Addr} {n c : Nat} {F : Nat → Nat} {t : Int} {fd : Bool} {en : Int} (h : Sc w S a n c F t fd en) (fd' : Bool) (en' : Int) :
    Sc ((w.setCell ⟨S, 2, none⟩ (.bool fd')).setCell ⟨S, 3, none⟩ (.int .i64 en')) S a n c F t fd' en' := by
  refine ⟨?_, fun h0 => ?_, h.small⟩
  · have h1 := heap_setCell_same w S 2 _ 39 (.bool fd') h.blk
    have h2 := heap_setCell_same _ S 3 _ 39 (.int .i64 en') h1
    simpa using h2
  · obtain ⟨b, off, e, hc⟩ := h.txt h0
    refine ⟨b, off, e, fun k hk => ?_⟩
    have hne := h.apart (hc k hk)
    rw [World.cell?_setCell_other _ _ _ _ (by intro e; first | exact hne (congrArg Addr.block e) | exact hne (congrArg Addr.block e).symm), World.cell?_setCell_other _ _ _ _ (by intro e; first | exact hne (congrArg Addr.block e) | exact hne (congrArg Addr.block e).symm)]
    exact hc k hk

def SpPost (F : Nat → Nat) (n i : Nat) (w : World) (e : Ending) (w' : World) : Prop :=
  ∃ j : Nat, e = .returned (.int .i64 j) ∧ w' = w ∧ i ≤ j ∧ j ≤ n ∧ (∀ m, i ≤ m → m < j → isSp (F m)) ∧ (j < n → ¬ isSp (F j))

set_option maxHeartbeats 2000000 in
theorem space_any (w : World) (S : Nat) (a : Option Addr) (n c i : Nat) (F : Nat → Nat) (t : Int) (fd : Bool) (en : Int) (h : Sc w S a n c F t fd en) (hi : i ≤ n) :
    Calls Try.prog 28 #[.pointer (some ⟨S, 0, none⟩), .int .i64 i] w (SpPost F n i w) := by
  obtain ⟨s0, s1, s2, s3, _, _⟩ := h.cells
  have HT := Lib.hid h.txt
  have hn := h.small
  clear h s1 s2 s3
  go_enter Try.func28, Try.ntmps28
  go_wp2_with fail
  go_loopg [1, 4, 5] (n - i) (fun gg t1 t4 t5 wr => ∃ j : Nat, i ≤ j ∧ j ≤ n ∧ gg = n - j ∧ t1 = .int .i64 j ∧ Hid (∀ m, i ≤ m → m < j → isSp (F m)) ∧ wr = w)
  case atStart => exact ⟨i, Nat.le_refl _, hi, rfl, rfl, (fun m h1 h2 => by omega), rfl⟩
  case round =>
    obtain ⟨j, hij, hjn, hg, rfl, hsp, hw⟩ := hrel
    obtain rfl := hw.symm
    by_cases hlt : j < n
    · obtain ⟨b, off, rfl, hc⟩ := HT.out (by omega)
      have c1 := hc j hlt
      clear hc
      by_cases hs : isSp (F j)
      · have HSP : Hid (∀ m, i ≤ m → m < j + 1 → isSp (F m)) := by
          intro m h1 h2
          rcases Nat.lt_or_ge m j with h3 | h3
          · exact hsp.out m h1 h3
          · obtain rfl : m = j := by omega
            exact hs
        unfold isSp at hs
        clear hsp
        generalize F j = x at *
        rcases hs with rfl | rfl | rfl | rfl
        all_goals
          go_wp2_with fail
          go_roundg (n - (j + 1))
          case measure => omega
          case rel => exact ⟨j + 1, by omega, by omega, rfl, by go_num, HSP, rfl⟩
      · have HNS := Lib.hid hs
        unfold isSp at hs
        have v1 : (((F j : Nat) : Int) == 32) = false := by rw [beq_eq_false_iff_ne]; omega
        have v2 : (((F j : Nat) : Int) == 9) = false := by rw [beq_eq_false_iff_ne]; omega
        have v3 : (((F j : Nat) : Int) == 10) = false := by rw [beq_eq_false_iff_ne]; omega
        have v4 : (((F j : Nat) : Int) == 13) = false := by rw [beq_eq_false_iff_ne]; omega
        obtain ⟨x, hx⟩ : ∃ x, x = F j := ⟨_, rfl⟩
        rw [← hx] at c1 v1 v2 v3 v4
        have HXE := Lib.hid hx
        have HNS2 : Hid (¬ isSp (F j)) := HNS
        have z1 : (((x : Nat) : Int) != 32) = true := by simp [bne, v1]
        have z2 : (((x : Nat) : Int) != 9) = true := by simp [bne, v2]
        have z3 : (((x : Nat) : Int) != 10) = true := by simp [bne, v3]
        have z4 : (((x : Nat) : Int) != 13) = true := by simp [bne, v4]
        clear hs hx HNS
        go_wp2_with fail
        go_ret
        exact ⟨j, rfl, rfl, hij, hjn, hsp.out, fun _ => HNS2.out⟩
    · go_wp2_with fail
      go_ret
      exact ⟨j, rfl, rfl, hij, hjn, hsp.out, fun h => absurd h hlt⟩

/-- 'note(at, end)' -/
def NotePost (w : World) (S at' t : Nat) (e : Nat) (r : Ending) (w' : World) : Prop :=
  r = .returned (.tuple #[]) ∧ (at' = t → w' = (w.setCell ⟨S, 2, none⟩ (.bool true)).setCell ⟨S, 3, none⟩ (.int .i64 (e : Int))) ∧ (at' ≠ t → w' = w)
theorem note_any (w : World) (S : Nat) (a : Option Addr) (n c at' e : Nat) (F : Nat → Nat) (t : Nat) (fd : Bool) (en : Nat) (h : Sc w S a n c F t fd en) :
    Calls Try.prog 38 #[.pointer (some ⟨S, 0, none⟩), .int .i64 at', .int .i64 e] w (NotePost w S at' t e) := by
  obtain ⟨s0, s1, s2, s3, s4, s5⟩ := h.cells
  clear h
  by_cases ht : at' = t
  · have HT := Lib.hid ht
    have t1 : (((at' : Nat) : Int) == (t : Int)) = true := by simp [ht]
    clear ht
    go_enter Try.func38, Try.ntmps38
    go_wp2_with fail
    all_goals go_end0
    all_goals exact ⟨rfl, fun _ => rfl, fun h => absurd HT.out h⟩
  · have HT := Lib.hid ht
    have t1 : (((at' : Nat) : Int) == (t : Int)) = false := by rw [beq_eq_false_iff_ne]; omega
    clear ht
    go_enter Try.func38, Try.ntmps38
    go_wp2_with fail
    all_goals go_end0
    all_goals exact ⟨rfl, fun h => absurd h HT.out, fun _ => rfl⟩
end Go.Proofs.Qxb6603337a
