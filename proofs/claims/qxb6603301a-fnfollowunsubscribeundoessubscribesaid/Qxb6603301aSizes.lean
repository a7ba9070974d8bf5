/-
  THE WALKS of wellFormed, valueSize, subsSize.
-/
import Derived.Test.Qxb6603301aElems
namespace Go.Proofs.Qxb6603301a
open Go.RowKit Go.Maps
set_option linter.unusedVariables false

/-- it returns a Bool of which P holds -/
def RetB (P : Bool → Prop) (e : Ending) : Prop := ∃ r, e = .returned (.bool r) ∧ P r
theorem RetB.mk {P : Bool → Prop} {r : Bool} (h : P r) : RetB P (.returned (.bool r)) := ⟨r, rfl, h⟩

/-- it returns an int -/
def RetI (e : Ending) : Prop := ∃ r, e = .returned (.int .i64 r)
theorem RetI.mk {r : Int} : RetI (.returned (.int .i64 r)) := ⟨r, rfl⟩

def WellF (E : Nat → El) (n : Nat) (r : Bool) : Prop := r = true → ∀ j, j < n → (E j).kind = 13 → 0 ≤ (E j).num ∧ (E j).num < (E j).len

set_option maxHeartbeats 1000000 in
theorem wellFormed_any (w : World) (k : Int) (sa : Option Addr) (sn sc : Nat) (m : Int) (ea : Option Addr) (en ec : Nat) (E : Nat → El) (hen : en ≤ 1048576) (hE : ElsAt 0 w ea en E) :
    Calls Try.prog 9 #[.agg #[.int .u8 k, .slice sa sn sc, .int .i64 m, .slice ea en ec]] w fun e w' => RetB (WellF E en) e ∧ Below w.heap.size w w' := by
  go_enter Try.func9, Try.ntmps9
  go_wp2_with fail
  go_loopg [3, 4] en (fun g t _ wr => ∃ q : Nat, q ≤ en ∧ g = en - q ∧ t = .int .i64 q ∧ wr.cell? ⟨w.heap.size, 3, none⟩ = some (.slice ea en ec) ∧ (∀ j, j < q → (E j).kind = 13 → 0 ≤ (E j).num ∧ (E j).num < (E j).len) ∧ Below w.heap.size w wr)
  case atStart => exact ⟨0, Nat.zero_le _, rfl, rfl, by simp, fun j hj => by omega, (Below.refl _ _).alloc (Nat.le_refl _) _⟩
  case round =>
    obtain ⟨q, hq, hg, rfl, cS, hok, hbr⟩ := hrel
    have HOK : Hid (∀ j, j < q → (E j).kind = 13 → 0 ≤ (E j).num ∧ (E j).num < (E j).len) := hok
    clear hok
    by_cases hlt : q < en
    · obtain ⟨b, off, _, rfl, hEs⟩ := hE (by omega)
      obtain ⟨ya, yc, y1, y2, y3, y4, y5, y6⟩ := (hEs q hlt).later hbr
      have hwl : w.heap.size < wr.heap.size := World.block_lt_of_cell? _ _ cS
      have hbl := World.block_lt_of_cell? _ _ y1
      clear hEs hE
      have hbn : ∀ o, Below w.heap.size w (wr.alloc o) := fun o => hbr.alloc (Nat.le_of_lt hwl) o
      have HBN : Hid (∀ o, Below w.heap.size w (wr.alloc o)) := hbn
      clear hbn
      by_cases hk : (E q).kind = 13
      · have hkb : ((E q).kind == 13) = true := by simp [hk]
        by_cases hn : (E q).num < 0
        · clear hk
          go_wp2_with fail
          go_ret
          exact ⟨RetB.mk (fun h => by cases h), HBN.out _⟩
        · by_cases hn2 : ((E q).len : Int) ≤ (E q).num
          · clear hk
            go_wp2_with fail
            go_ret
            exact ⟨RetB.mk (fun h => by cases h), HBN.out _⟩
          · have hkk : Hid ((E q).kind = 13) := hk
            clear hk
            go_wp2_with fail
            go_roundg (en - (q + 1))
            case measure => omega
            case rel =>
              refine ⟨q + 1, by omega, rfl, by go_num, cellLater ((Below.refl _ _).alloc (Nat.le_refl _) _) cS, ?_, HBN.out _⟩
              intro j hj hj3
              by_cases e : j = q
              · subst e; exact ⟨by omega, by omega⟩
              · exact HOK.out j (by omega) hj3
      · have hkb : ((E q).kind == 13) = false := by simp [hk]
        have hkk : Hid (¬ (E q).kind = 13) := hk
        clear hk
        go_wp2_with fail
        go_roundg (en - (q + 1))
        case measure => omega
        case rel =>
          refine ⟨q + 1, by omega, rfl, by go_num, cellLater ((Below.refl _ _).alloc (Nat.le_refl _) _) cS, ?_, HBN.out _⟩
          intro j hj hj3
          by_cases e : j = q
          · subst e; exact absurd hj3 hkk.out
          · exact HOK.out j (by omega) hj3
    · obtain rfl : q = en := by omega
      go_wp2_with fail
      go_ret
      exact ⟨RetB.mk (fun _ => HOK.out), hbr⟩

set_option maxHeartbeats 1000000 in
theorem valueSize_any (w : World) (k : Int) (sa : Option Addr) (sn sc : Nat) (m : Int) (ea : Option Addr) (en ec : Nat) (E : Nat → El) (hsn : sn ≤ 1048576) (hen : en ≤ 1048576) (hE : ElsAt 0 w ea en E) :
    Calls Try.prog 8 #[.agg #[.int .u8 k, .slice sa sn sc, .int .i64 m, .slice ea en ec]] w fun e w' => RetI e ∧ Below w.heap.size w w' := by
  go_enter Try.func8, Try.ntmps8
  go_wp2_with fail
  have hb0 : ∀ o, Below w.heap.size w (w.alloc o) := fun o => (Below.refl _ _).alloc (Nat.le_refl _) o
  generalize hW : w.alloc _ = W at *
  have cS : W.cell? ⟨w.heap.size, 3, none⟩ = some (.slice ea en ec) := by rw [← hW]; simp
  have hbW : Below w.heap.size w W := by rw [← hW]; exact hb0 _
  clear hW hb0
  go_loopg [3, 4] en (fun g z t wr => ∃ (q : Nat) (y : Int), q ≤ en ∧ g = en - q ∧ z = .int .i64 y ∧ t = .int .i64 q ∧ wr = W)
  case atStart => exact ⟨0, _, Nat.zero_le _, rfl, rfl, rfl, rfl⟩
  case round =>
    obtain ⟨q, y, hq, hg, rfl, rfl, rfl⟩ := hrel
    by_cases hlt : q < en
    · obtain ⟨b, off, _, rfl, hEs⟩ := hE (by omega)
      obtain ⟨ya, yc, y1, y2, y3, y4, y5, y6⟩ := (hEs q hlt).later hbW
      clear hEs hE
      by_cases h1 : 1048576 < y
      · go_wp2_with fail
        go_ret
        exact ⟨RetI.mk, hbW⟩
      · by_cases h2 : 1048576 < (E q).len
        · go_wp2_with fail
          go_ret
          exact ⟨RetI.mk, hbW⟩
        · go_wp2_with fail
          go_roundg (en - (q + 1))
          case measure => omega
          case rel => exact ⟨q + 1, _, by omega, rfl, rfl, by go_num, rfl⟩
    · go_wp2_with fail
      go_ret
      exact ⟨RetI.mk, hbW⟩

set_option maxHeartbeats 1000000 in
theorem subsSize_any (w : World) (a : Nat → Option Addr) (n c : Nat → Nat) (nl : Nat → Bool) (f : Nat → Nat → ByteArray) (hn : ∀ j, j < 3 → n j ≤ 1048576) (hf : ∀ j, j < 3 → StrsAt w (a j) (n j) (f j)) :
    Calls Try.prog 7 #[.agg #[.slice (a 0) (n 0) (c 0), .slice (a 1) (n 1) (c 1), .slice (a 2) (n 2) (c 2), .bool (nl 0), .bool (nl 1), .bool (nl 2)]] w fun e w' => RetI e ∧ Below w.heap.size w w' := by
  go_enter Try.func7, Try.ntmps7
  go_wp2_with fail
  have hb0 : ∀ o, Below w.heap.size w (w.alloc o) := fun o => (Below.refl _ _).alloc (Nat.le_refl _) o
  generalize hW : w.alloc _ = W at *
  have hS : W.heap[w.heap.size]? = some (.cells (six (fun j => .slice (a j) (n j) (c j)) (fun j => .bool (nl j))) 26 (0, 0)) := by rw [← hW]; exact heap_new_at _ _ rfl
  have cS : ∀ j, j < 3 → W.cell? ⟨w.heap.size, j, none⟩ = some (.slice (a j) (n j) (c j)) := fun j hj => (cell_of_row W _ j _ _ _ hS).trans (six_lo _ _ j hj)
  have hbW : Below w.heap.size w W := by rw [← hW]; exact hb0 _
  have HC : Hid (∀ j, j < 3 → W.cell? ⟨w.heap.size, j, none⟩ = some (.slice (a j) (n j) (c j))) := cS
  clear hW hb0 hS cS
  go_loopg [3, 4, 5, 6] 3 (fun g z t _ _ wr => ∃ (q : Nat) (y : Int), q ≤ 3 ∧ g = 3 - q ∧ z = .int .i64 y ∧ t = .int .i64 q ∧ wr = W)
  case atStart => exact ⟨0, _, Nat.zero_le _, rfl, rfl, rfl, rfl⟩
  case round =>
    obtain ⟨q, y, hq, hg, rfl, rfl, rfl⟩ := hrel
    by_cases hlt : q < 3
    · have cq := HC.out q hlt
      have hnq := hn q hlt
      have hfq := (hf q hlt).later hbW
      have hd1 : decide ((q : Int) < 3) = true := by simp; omega
      have hd2 : decide ((1048576 : Int) < (n q : Int)) = false := by simp; omega
      generalize a q = x at cq hfq
      generalize n q = nq at *
      generalize c q = cc at *
      go_wp2_with fail
      go_loopg [3, 6] nq (fun g z t wr' => ∃ (p : Nat) (y : Int), p ≤ nq ∧ g = nq - p ∧ z = .int .i64 y ∧ t = .int .i64 p ∧ wr' = wr)
      case atStart => exact ⟨0, _, Nat.zero_le _, rfl, rfl, rfl, rfl⟩
      case round =>
        obtain ⟨p, y, hp, hg2, rfl, rfl, hwr⟩ := hrel
        obtain rfl := hwr.symm
        by_cases hlp : p < nq
        · obtain ⟨sb, so, rfl, hss⟩ := hfq (by omega)
          have hcp := hss p hlp
          clear hss
          by_cases h1 : 1048576 < y
          · go_wp2_with fail
            go_ret
            exact ⟨RetI.mk, hbW⟩
          · by_cases h2 : 1048576 < (f q p).size
            · go_wp2_with fail
              go_ret
              exact ⟨RetI.mk, hbW⟩
            · go_wp2_with fail
              go_roundg (nq - (p + 1))
              case measure => omega
              case rel => exact ⟨p + 1, _, by omega, rfl, rfl, by go_num, rfl⟩
        · go_wp2_with fail
          go_roundg (3 - (q + 1))
          case measure => omega
          case rel => exact ⟨q + 1, _, by omega, rfl, rfl, by go_num, rfl⟩
    · go_wp2_with fail
      go_ret
      exact ⟨RetI.mk, hbW⟩
end Go.Proofs.Qxb6603301a
