/-
  THE WALKS of the size test of the first law.
-/
import Derived.Test.Qxb6603301aBytesB
namespace Go.Proofs.Qxb6603301a
open Go.RowKit Go.Maps
set_option linter.unusedVariables false

set_option maxRecDepth 100000 in
set_option maxHeartbeats 4000000 in
theorem zzBytes1_nil (w : World) (a : Nat → Option Addr) (n c : Nat → Nat) (nl : Nat → Bool) (f : Nat → Nat → ByteArray)  (k : Int) (sa : Option Addr) (sn sc : Nat) (m : Int) (ea : Option Addr) (en ec : Nat) (E : Nat → El)
    (hn : ∀ j, j < 3 → n j ≤ 9223372036854775807) (hf : ∀ j, j < 3 → StrsAt w (a j) (n j) (f j)) (hsn : sn ≤ 9223372036854775807) (hen : en ≤ 9223372036854775807) (hE : ElsAt 0 w ea en E) (hEn : ∀ j, j < en → (E j).len ≤ 9223372036854775807) :
    Calls Try.prog 6 #[.agg #[.slice (a 0) (n 0) (c 0), .slice (a 1) (n 1) (c 1), .slice (a 2) (n 2) (c 2), .bool (nl 0), .bool (nl 1), .bool (nl 2)], .pointer none, .agg #[.int .u8 k, .slice sa sn sc, .int .i64 m, .slice ea en ec]] w fun e w' => RetB (Fits n sn en E) e ∧ Below w.heap.size w w' := by
  go_enter Try.func6, Try.ntmps6
  go_wp2_with fail
  have hb0 : ∀ o o', Below w.heap.size w ((w.alloc o).alloc o') := fun o o' => ((Below.refl _ _).alloc (Nat.le_refl _) o).alloc (by simp) o'
  generalize hW : (w.alloc _).alloc _ = W at *
  have hS : W.heap[w.heap.size]? = some (.cells (six (fun j => .slice (a j) (n j) (c j)) (fun j => .bool (nl j))) 26 (0, 0)) := by rw [← hW, Below.heap_alloc _ _ _ (by simp)]; exact heap_new_at _ _ rfl
  have hV : W.heap[w.heap.size + 1]? = some (.cells #[.int .u8 k, .slice sa sn sc, .int .i64 m, .slice ea en ec] 31 (0, 0)) := by rw [← hW]; exact heap_new_at _ _ (by simp)
  have cS : ∀ j, j < 3 → W.cell? ⟨w.heap.size, j, none⟩ = some (.slice (a j) (n j) (c j)) := fun j hj => (cell_of_row W _ j _ _ _ hS).trans (six_lo _ _ j hj)
  have hbW : Below w.heap.size w W := by rw [← hW]; exact hb0 _ _
  have v1 : W.cell? ⟨w.heap.size + 1, 1, none⟩ = some (.slice sa sn sc) := cell_of_row W _ 1 _ _ _ hV
  have v3 : W.cell? ⟨w.heap.size + 1, 3, none⟩ = some (.slice ea en ec) := cell_of_row W _ 3 _ _ _ hV
  have HC : Hid (∀ j, j < 3 → W.cell? ⟨w.heap.size, j, none⟩ = some (.slice (a j) (n j) (c j))) := cS
  clear hW hb0 hS cS hV
  go_loopg [7, 8, 9] 3 (fun g z t _ wr => ∃ (q : Nat) (y : Int), q ≤ 3 ∧ g = 3 - q ∧ z = .int .i64 y ∧ t = .int .i64 q ∧ wr = W ∧ Hid (∀ j, j < q → n j ≤ 1048576))
  case atStart => exact ⟨0, _, Nat.zero_le _, rfl, rfl, rfl, rfl, fun j hj => by omega⟩
  case round =>
    obtain ⟨q, y, hq, hg, rfl, rfl, hwr, HN⟩ := hrel
    obtain rfl := hwr.symm
    by_cases hlt : q < 3
    · have cq := HC.out q hlt
      have hnq := hn q hlt
      have hfq := (hf q hlt).later hbW
      have hd1 : decide ((q : Int) < 3) = true := by simp; omega
      have HQ : Hid (∀ nq, n q = nq → nq ≤ 1048576 → ∀ j, j < q + 1 → n j ≤ 1048576) := by
        intro nq e h j hj
        by_cases ej : j = q
        · rw [ej, e]; exact h
        · exact HN.out j (by omega)
      generalize a q = x at cq hfq
      generalize hnn : n q = nq at cq hfq hnq
      have HE2 : Hid (n q = nq) := hnn
      clear hnn
      generalize c q = cc at cq
      by_cases hbig : 1048576 < nq
      · go_wp2_with fail
        go_ret
        exact ⟨RetB.mk (fun h => by cases h), hbW⟩
      · have hd2 : decide ((1048576 : Int) < (nq : Int)) = false := by simp; omega
        have HQ2 : Hid (∀ j, j < q + 1 → n j ≤ 1048576) := HQ.out nq HE2.out (by omega)
        go_wp2_with fail
        any_goals (go_ret; exact ⟨RetB.mk (fun h => by cases h), hbW⟩)
        go_loopg [7, 9] nq (fun g z t wr' => ∃ (p : Nat) (y : Int), p ≤ nq ∧ g = nq - p ∧ z = .int .i64 y ∧ t = .int .i64 p ∧ wr' = W)
        case atStart => exact ⟨0, _, Nat.zero_le _, rfl, rfl, rfl, rfl⟩
        case round =>
          obtain ⟨p, y, hp, hg2, rfl, rfl, hwr⟩ := hrel
          obtain rfl := hwr.symm
          by_cases hlp : p < nq
          · obtain ⟨sb, so, rfl, hss⟩ := hfq (by omega)
            have hcp := hss p hlp
            clear hss
            by_cases h2 : 1048576 < (f q p).size
            · go_wp2_with fail
              go_ret
              exact ⟨RetB.mk (fun h => by cases h), hbW⟩
            · go_wp2_with fail
              any_goals (go_ret; exact ⟨RetB.mk (fun h => by cases h), hbW⟩)
              go_roundg (nq - (p + 1))
              case measure => omega
              case rel => exact ⟨p + 1, _, by omega, rfl, rfl, by go_num, rfl⟩
          · go_wp2_with fail
            go_roundg (3 - (q + 1))
            case measure => omega
            case rel => exact ⟨q + 1, _, by omega, rfl, rfl, by go_num, rfl, HQ2.out⟩
    · obtain rfl : q = 3 := by omega
      by_cases h1 : 1048576 < sn
      · go_wp2_with fail
        all_goals (go_ret; exact ⟨RetB.mk (fun h => by cases h), hbW⟩)
      by_cases h2 : 1048576 < en
      · go_wp2_with fail
        all_goals (go_ret; exact ⟨RetB.mk (fun h => by cases h), hbW⟩)
      go_wp2_with fail
      any_goals (go_ret; exact ⟨RetB.mk (fun h => by cases h), hbW⟩)
      go_loopg [7, 10] en (fun g z t wr' => ∃ (q : Nat) (y : Int), q ≤ en ∧ g = en - q ∧ z = .int .i64 y ∧ t = .int .i64 q ∧ wr' = W ∧ Hid (∀ j, j < q → (E j).len ≤ 1048576))
      case atStart => exact ⟨0, _, Nat.zero_le _, rfl, rfl, rfl, rfl, fun j hj => by omega⟩
      case round =>
        obtain ⟨p, y, hp, hg2, rfl, rfl, hwr, HL⟩ := hrel
        obtain rfl := hwr.symm
        by_cases hlp : p < en
        · obtain ⟨b, off, _, rfl, hEs⟩ := hE (by omega)
          obtain ⟨ya, yc, y1, y2, y3, y4, y5, y6⟩ := (hEs p hlp).later hbW
          clear hEs
          by_cases h3 : 1048576 < (E p).len
          · go_wp2_with fail
            go_ret
            exact ⟨RetB.mk (fun h => by cases h), hbW⟩
          · have hel := hEn p hlp
            go_wp2_with fail
            any_goals (go_ret; exact ⟨RetB.mk (fun h => by cases h), hbW⟩)
            go_roundg (en - (p + 1))
            case measure => omega
            case rel =>
              refine ⟨p + 1, _, by omega, rfl, rfl, by go_num, rfl, fun j hj => ?_⟩
              by_cases ej : j = p
              · rw [ej]; omega
              · exact HL.out j (by omega)
        · obtain rfl : p = en := by omega
          go_wp2_with fail
          go_ret
          exact ⟨RetB.mk (fun _ => ⟨HN.out, by omega, by omega, HL.out⟩), hbW⟩

set_option maxRecDepth 100000 in
set_option maxHeartbeats 4000000 in
theorem zzBytes1_some (w : World) (a : Nat → Option Addr) (n c : Nat → Nat) (nl : Nat → Bool) (f : Nat → Nat → ByteArray) (kb ko : Nat) (nm : ByteArray) (hnm : nm.size ≤ 9223372036854775807) (hk0 : w.cell? ⟨kb, ko, none⟩ = some (.string nm)) (k : Int) (sa : Option Addr) (sn sc : Nat) (m : Int) (ea : Option Addr) (en ec : Nat) (E : Nat → El)
    (hn : ∀ j, j < 3 → n j ≤ 9223372036854775807) (hf : ∀ j, j < 3 → StrsAt w (a j) (n j) (f j)) (hsn : sn ≤ 9223372036854775807) (hen : en ≤ 9223372036854775807) (hE : ElsAt 0 w ea en E) (hEn : ∀ j, j < en → (E j).len ≤ 9223372036854775807) :
    Calls Try.prog 6 #[.agg #[.slice (a 0) (n 0) (c 0), .slice (a 1) (n 1) (c 1), .slice (a 2) (n 2) (c 2), .bool (nl 0), .bool (nl 1), .bool (nl 2)], .pointer (some ⟨kb, ko, none⟩), .agg #[.int .u8 k, .slice sa sn sc, .int .i64 m, .slice ea en ec]] w fun e w' => RetB (Fits n sn en E) e ∧ Below w.heap.size w w' := by
  go_enter Try.func6, Try.ntmps6
  go_wp2_with fail
  have hb0 : ∀ o o', Below w.heap.size w ((w.alloc o).alloc o') := fun o o' => ((Below.refl _ _).alloc (Nat.le_refl _) o).alloc (by simp) o'
  generalize hW : (w.alloc _).alloc _ = W at *
  have hS : W.heap[w.heap.size]? = some (.cells (six (fun j => .slice (a j) (n j) (c j)) (fun j => .bool (nl j))) 26 (0, 0)) := by rw [← hW, Below.heap_alloc _ _ _ (by simp)]; exact heap_new_at _ _ rfl
  have hV : W.heap[w.heap.size + 1]? = some (.cells #[.int .u8 k, .slice sa sn sc, .int .i64 m, .slice ea en ec] 31 (0, 0)) := by rw [← hW]; exact heap_new_at _ _ (by simp)
  have cS : ∀ j, j < 3 → W.cell? ⟨w.heap.size, j, none⟩ = some (.slice (a j) (n j) (c j)) := fun j hj => (cell_of_row W _ j _ _ _ hS).trans (six_lo _ _ j hj)
  have hbW : Below w.heap.size w W := by rw [← hW]; exact hb0 _ _
  have v1 : W.cell? ⟨w.heap.size + 1, 1, none⟩ = some (.slice sa sn sc) := cell_of_row W _ 1 _ _ _ hV
  have v3 : W.cell? ⟨w.heap.size + 1, 3, none⟩ = some (.slice ea en ec) := cell_of_row W _ 3 _ _ _ hV
  have HC : Hid (∀ j, j < 3 → W.cell? ⟨w.heap.size, j, none⟩ = some (.slice (a j) (n j) (c j))) := cS
  have kc := cellLater hbW hk0
  clear hW hb0 hS cS hV
  go_loopg [7, 8, 9] 3 (fun g z t _ wr => ∃ (q : Nat) (y : Int), q ≤ 3 ∧ g = 3 - q ∧ z = .int .i64 y ∧ t = .int .i64 q ∧ wr = W ∧ Hid (∀ j, j < q → n j ≤ 1048576))
  case atStart => exact ⟨0, _, Nat.zero_le _, rfl, rfl, rfl, rfl, fun j hj => by omega⟩
  case round =>
    obtain ⟨q, y, hq, hg, rfl, rfl, hwr, HN⟩ := hrel
    obtain rfl := hwr.symm
    by_cases hlt : q < 3
    · have cq := HC.out q hlt
      have hnq := hn q hlt
      have hfq := (hf q hlt).later hbW
      have hd1 : decide ((q : Int) < 3) = true := by simp; omega
      have HQ : Hid (∀ nq, n q = nq → nq ≤ 1048576 → ∀ j, j < q + 1 → n j ≤ 1048576) := by
        intro nq e h j hj
        by_cases ej : j = q
        · rw [ej, e]; exact h
        · exact HN.out j (by omega)
      generalize a q = x at cq hfq
      generalize hnn : n q = nq at cq hfq hnq
      have HE2 : Hid (n q = nq) := hnn
      clear hnn
      generalize c q = cc at cq
      by_cases hbig : 1048576 < nq
      · go_wp2_with fail
        go_ret
        exact ⟨RetB.mk (fun h => by cases h), hbW⟩
      · have hd2 : decide ((1048576 : Int) < (nq : Int)) = false := by simp; omega
        have HQ2 : Hid (∀ j, j < q + 1 → n j ≤ 1048576) := HQ.out nq HE2.out (by omega)
        go_wp2_with fail
        any_goals (go_ret; exact ⟨RetB.mk (fun h => by cases h), hbW⟩)
        go_loopg [7, 9] nq (fun g z t wr' => ∃ (p : Nat) (y : Int), p ≤ nq ∧ g = nq - p ∧ z = .int .i64 y ∧ t = .int .i64 p ∧ wr' = W)
        case atStart => exact ⟨0, _, Nat.zero_le _, rfl, rfl, rfl, rfl⟩
        case round =>
          obtain ⟨p, y, hp, hg2, rfl, rfl, hwr⟩ := hrel
          obtain rfl := hwr.symm
          by_cases hlp : p < nq
          · obtain ⟨sb, so, rfl, hss⟩ := hfq (by omega)
            have hcp := hss p hlp
            clear hss
            by_cases h2 : 1048576 < (f q p).size
            · go_wp2_with fail
              go_ret
              exact ⟨RetB.mk (fun h => by cases h), hbW⟩
            · go_wp2_with fail
              any_goals (go_ret; exact ⟨RetB.mk (fun h => by cases h), hbW⟩)
              go_roundg (nq - (p + 1))
              case measure => omega
              case rel => exact ⟨p + 1, _, by omega, rfl, rfl, by go_num, rfl⟩
          · go_wp2_with fail
            go_roundg (3 - (q + 1))
            case measure => omega
            case rel => exact ⟨q + 1, _, by omega, rfl, rfl, by go_num, rfl, HQ2.out⟩
    · obtain rfl : q = 3 := by omega
      by_cases h0 : 1048576 < nm.size
      · go_wp2_with fail
        all_goals (go_ret; exact ⟨RetB.mk (fun h => by cases h), hbW⟩)
      by_cases h1 : 1048576 < sn
      · go_wp2_with fail
        all_goals (go_ret; exact ⟨RetB.mk (fun h => by cases h), hbW⟩)
      by_cases h2 : 1048576 < en
      · go_wp2_with fail
        all_goals (go_ret; exact ⟨RetB.mk (fun h => by cases h), hbW⟩)
      go_wp2_with fail
      any_goals (go_ret; exact ⟨RetB.mk (fun h => by cases h), hbW⟩)
      go_loopg [7, 10] en (fun g z t wr' => ∃ (q : Nat) (y : Int), q ≤ en ∧ g = en - q ∧ z = .int .i64 y ∧ t = .int .i64 q ∧ wr' = W ∧ Hid (∀ j, j < q → (E j).len ≤ 1048576))
      case atStart => exact ⟨0, _, Nat.zero_le _, rfl, rfl, rfl, rfl, fun j hj => by omega⟩
      case round =>
        obtain ⟨p, y, hp, hg2, rfl, rfl, hwr, HL⟩ := hrel
        obtain rfl := hwr.symm
        by_cases hlp : p < en
        · obtain ⟨b, off, _, rfl, hEs⟩ := hE (by omega)
          obtain ⟨ya, yc, y1, y2, y3, y4, y5, y6⟩ := (hEs p hlp).later hbW
          clear hEs
          by_cases h3 : 1048576 < (E p).len
          · go_wp2_with fail
            go_ret
            exact ⟨RetB.mk (fun h => by cases h), hbW⟩
          · have hel := hEn p hlp
            go_wp2_with fail
            any_goals (go_ret; exact ⟨RetB.mk (fun h => by cases h), hbW⟩)
            go_roundg (en - (p + 1))
            case measure => omega
            case rel =>
              refine ⟨p + 1, _, by omega, rfl, rfl, by go_num, rfl, fun j hj => ?_⟩
              by_cases ej : j = p
              · rw [ej]; omega
              · exact HL.out j (by omega)
        · obtain rfl : p = en := by omega
          go_wp2_with fail
          go_ret
          exact ⟨RetB.mk (fun _ => ⟨HN.out, by omega, by omega, HL.out⟩), hbW⟩
end Go.Proofs.Qxb6603301a
