/-
  THE WALK of the second law, FnFollowUnsubscribeUndoesSubscribe.
-/
import Derived.Test.Qxb6603301aCarry
namespace Go.Proofs.Qxb6603301a
open Go.RowKit Go.Maps
set_option linter.unusedVariables false

set_option maxRecDepth 100000 in
set_option maxHeartbeats 4000000 in
theorem law2_any (w : World) (a : Nat → Option Addr) (n c : Nat → Nat) (nl : Nat → Bool) (f : Nat → Nat → ByteArray) (nm : ByteArray) (F : Int) (k : Int) (sa : Option Addr) (sn sc : Nat) (m : Int) (g : Nat → Int) (ea : Option Addr) (en ec : Nat) (E : Nat → El)
    (G : Given w a n c f sa sn sc g ea en ec E) (hnm : nm.size ≤ 9223372036854775807) (hF0 : 0 ≤ F) :
    Calls Try.prog 5 #[.agg #[.slice (a 0) (n 0) (c 0), .slice (a 1) (n 1) (c 1), .slice (a 2) (n 2) (c 2), .bool (nl 0), .bool (nl 1), .bool (nl 2)], .int .u8 F, .string nm, .agg #[.int .u8 k, .slice sa sn sc, .int .i64 m, .slice ea en ec]] w fun e w' => e = .returned (.bool true) ∧ Below w.heap.size w w' := by
  go_enter Try.func5, Try.ntmps5
  go_wp2_with fail
  have hb0 : ∀ o o', Below w.heap.size w ((w.alloc o).alloc o') := fun o o' => ((Below.refl _ _).alloc (Nat.le_refl _) o).alloc (by simp) o'
  generalize hW : (w.alloc _).alloc _ = W at *
  have hS : W.heap[w.heap.size]? = some (.cells #[.slice (a 0) (n 0) (c 0), .slice (a 1) (n 1) (c 1), .slice (a 2) (n 2) (c 2), .bool (nl 0), .bool (nl 1), .bool (nl 2)] 26 (0, 0)) := by rw [← hW, Below.heap_alloc _ _ _ (by simp)]; exact heap_new_at _ _ rfl
  have hV : W.heap[w.heap.size + 1]? = some (.cells #[.int .u8 k, .slice sa sn sc, .int .i64 m, .slice ea en ec] 31 (0, 0)) := by rw [← hW]; exact heap_new_at _ _ (by simp)
  have hbW : Below w.heap.size w W := by rw [← hW]; exact hb0 _ _
  clear hW hb0
  have GW := G.later hbW
  refine (zzBytes2_any W a n c nl f F nm hnm k sa sn sc m ea en ec E GW.nn GW.fs GW.sl GW.el GW.es GW.ez).mono ?_
  rintro e w1 ⟨⟨r, rfl, hfit⟩, hb1⟩
  replace hb1 := hb1
  have hB1 : Below w.heap.size w w1 := below_step hbW (Nat.le_refl _) hb1
  cases r with
  | false =>
    go_wp2_with fail
    go_ret
    exact ⟨rfl, hB1⟩
  | true =>
  obtain ⟨fn, fsn, fen, fel⟩ := hfit rfl
  have hS1 := (hb1.block _ (lt_of_block hS)).trans hS
  have hV1 := (hb1.block _ (lt_of_block hV)).trans hV
  have HS1 := hS1
  obtain ⟨s0, s1, s2, s3, s4, s5⟩ := cells6 hS1
  obtain ⟨v0, v1, v2, v3⟩ := cells4 hV1
  have G1 := G.later hB1
  have HG : Hid (Given w1 a n c f sa sn sc g ea en ec E) := G1
  have HG0 : Hid (Given w a n c f sa sn sc g ea en ec E) := G
  have HSs : Hid (w1.heap[w.heap.size]? = some (.cells #[.slice (a 0) (n 0) (c 0), .slice (a 1) (n 1) (c 1), .slice (a 2) (n 2) (c 2), .bool (nl 0), .bool (nl 1), .bool (nl 2)] 26 (0, 0))) := hS1
  have HVs : Hid (w1.heap[w.heap.size + 1]? = some (.cells #[.int .u8 k, .slice sa sn sc, .int .i64 m, .slice ea en ec] 31 (0, 0))) := hV1
  clear hfit hS hV hS1 hV1 HS1 GW G1 G hbW hb1
  go_wp2_with fail
  refine (subsSize_any w1 a n c nl f fn HG.out.fs).mono ?_
  rintro e w2 ⟨⟨r1, rfl⟩, hb2⟩
  have hB2 : Below w.heap.size w w2 := below_step hB1 (Nat.le_refl _) hb2
  have v20 := cellLater hb2 v0
  have v21 := cellLater hb2 v1
  have v22 := cellLater hb2 v2
  have v23 := cellLater hb2 v3
  go_wp2_with fail
  any_goals (go_ret; exact ⟨rfl, hB2⟩)
  refine (valueSize_any w2 k sa sn sc m ea en ec E fsn fen (HG.out.later hb2).es).mono ?_
  rintro e w3 ⟨⟨r2, rfl⟩, hb3⟩
  have hB3 : Below w.heap.size w w3 := below_step hB2 (Nat.le_refl _) hb3
  have v30 := cellLater hb3 v20
  have v31 := cellLater hb3 v21
  have v32 := cellLater hb3 v22
  have v33 := cellLater hb3 v23
  clear s0 s1 s2 s3 s4 s5 v0 v1 v2 v3 v20 v21 v22 v23
  by_cases hF : 3 ≤ F
  · go_wp2_with fail
    all_goals (go_ret; exact ⟨rfl, hB3⟩)
  go_wp2_with fail
  any_goals (go_ret; exact ⟨rfl, hB3⟩)
  obtain ⟨Fn, rfl⟩ := Int.eq_ofNat_of_zero_le hF0
  have hF3 : Fn < 3 := by omega
  refine (wellFormed_any w3 k sa sn sc m ea en ec E fen ((HG.out.later hb2).later hb3).es).mono ?_
  rintro e w4 ⟨⟨r, rfl, hwf⟩, hb4⟩
  have hB4 : Below w.heap.size w w4 := below_step hB3 (Nat.le_refl _) hb4
  cases r with
  | false =>
    go_wp2_with fail
    go_ret
    exact ⟨rfl, hB4⟩
  | true =>
  have hWF := hwf rfl
  have hb14 : Below w1.heap.size w1 w4 := below_step (below_step hb2 (Nat.le_refl _) hb3) (Nat.le_refl _) hb4
  have hS4 := (hb14.block _ (lt_of_block HSs.out)).trans HSs.out
  have hV4 := (hb14.block _ (lt_of_block HVs.out)).trans HVs.out
  have G4 := HG.out.later hb14
  have hSlt : w.heap.size < w4.heap.size := lt_of_block hS4
  have hVlt : w.heap.size + 1 < w4.heap.size := lt_of_block hV4
  obtain ⟨s0, s1, s2, s3, s4, s5⟩ := cells6 hS4
  have HWF : Hid (∀ j, j < en → (E j).kind = 13 → 0 ≤ (E j).num ∧ (E j).num < (E j).len) := hWF
  have HG4 : Hid (Given w4 a n c f sa sn sc g ea en ec E) := G4
  have HS4 : Hid (w4.heap[w.heap.size]? = some (.cells #[.slice (a 0) (n 0) (c 0), .slice (a 1) (n 1) (c 1), .slice (a 2) (n 2) (c 2), .bool (nl 0), .bool (nl 1), .bool (nl 2)] 26 (0, 0))) := hS4
  have HV4 : Hid (w4.heap[w.heap.size + 1]? = some (.cells #[.int .u8 k, .slice sa sn sc, .int .i64 m, .slice ea en ec] 31 (0, 0))) := hV4
  clear hwf hWF hS4 hV4 G4 HSs HVs HG hb2 hb3 hb4 hb14 hB1 hB2 hB3 v30 v31 v32 v33
  go_wp2_with fail
  refine (cloneSubs_any w4 a n c nl f HG4.out.an fn HG4.out.fs).mono ?_
  rintro e w5 ⟨a', rfl, hstr5, hb5⟩
  have hS5 := (hb5.block _ hSlt).trans HS4.out
  have hV5 := (hb5.block _ hVlt).trans HV4.out
  have hB5 : Below w.heap.size w w5 := below_step hB4 (Nat.le_refl _) hb5
  obtain ⟨t0, t1, t2, t3, t4, t5⟩ := cells6 hS5
  obtain ⟨z0, z1, z2, z3, z4, z5⟩ := frees6 hS5
  obtain ⟨v0, v1, v2, v3⟩ := cells4 hV5
  have HS5 : Hid (w5.heap[w.heap.size]? = some (.cells #[.slice (a 0) (n 0) (c 0), .slice (a 1) (n 1) (c 1), .slice (a 2) (n 2) (c 2), .bool (nl 0), .bool (nl 1), .bool (nl 2)] 26 (0, 0))) := hS5
  have HV5 : Hid (w5.heap[w.heap.size + 1]? = some (.cells #[.int .u8 k, .slice sa sn sc, .int .i64 m, .slice ea en ec] 31 (0, 0))) := hV5
  clear hS5 hV5 s0 s1 s2 s3 s4 s5
  go_wp2_with fail
  obtain ⟨W5, hW5⟩ : ∃ W5, W5 = (((((w5.setCell ⟨w.heap.size, 0, none⟩ (.slice (a' 0) (n 0) (n 0))).setCell ⟨w.heap.size, 1, none⟩ (.slice (a' 1) (n 1) (n 1))).setCell ⟨w.heap.size, 2, none⟩ (.slice (a' 2) (n 2) (n 2))).setCell ⟨w.heap.size, 3, none⟩ (.bool (nl 0))).setCell ⟨w.heap.size, 4, none⟩ (.bool (nl 1))).setCell ⟨w.heap.size, 5, none⟩ (.bool (nl 2)) := ⟨_, rfl⟩
  rw [← hW5]
  have hSb : W5.heap[w.heap.size]? = some (.cells #[.slice (a' 0) (n 0) (n 0), .slice (a' 1) (n 1) (n 1), .slice (a' 2) (n 2) (n 2), .bool (nl 0), .bool (nl 1), .bool (nl 2)] 26 (0, 0)) := by rw [hW5]; exact set6 HS5.out _ _ _ _ _ _
  have hVb : W5.heap[w.heap.size + 1]? = some (.cells #[.int .u8 k, .slice sa sn sc, .int .i64 m, .slice ea en ec] 31 (0, 0)) := by
    rw [hW5]; iterate 6 rw [heap_setCell_other _ _ _ _ (by simp)]
    exact HV5.out
  have hBb : Below w.heap.size w W5 := by
    rw [hW5]; iterate 6 refine Below.setCell ?_ (by simp) _
    exact hB5
  have hstrb : ∀ j, j < 3 → StrsFrom w4.heap.size W5 (a' j) (n j) (f j) := by
    intro j hj; rw [hW5]; iterate 6 refine StrsFrom.setCell ?_ (by simpa using hSlt) _
    exact hstr5 j hj
  have hz5 : w4.heap.size ≤ W5.heap.size := by rw [hW5]; simpa [World.setCell] using hb5.size
  have Gb : Given W5 a n c f sa sn sc g ea en ec E := by
    have hG := HG4.out
    exact ⟨hG.an, hG.nn, fun j hj => (HG0.out.fs j hj).later hBb, hG.fz, hG.sn0, hG.sl, HG0.out.sb.later hBb, hG.en0, hG.el, HG0.out.es.later hBb, hG.ez⟩
  clear hW5 t0 t1 t2 t3 t4 t5 z0 z1 z2 z3 z4 z5 v0 v1 v2 v3 hstr5 hb5 HS5 HV5 hB5
  have fel5 := fel
  refine (cloneValue_any W5 k sa sn sc m ea en ec g E Gb.sn0 fsn Gb.sb Gb.en0 fen Gb.es fel).mono ?_
  rintro e w6 ⟨sa', ea', rfl, hels6, hb6⟩
  have hV6 := (hb6.block _ (lt_of_block hVb)).trans hVb
  have hS6 := (hb6.block _ (lt_of_block hSb)).trans hSb
  have hVl5 : w.heap.size + 1 < W5.heap.size := lt_of_block hVb
  obtain ⟨t0, t1, t2, t3⟩ := cells4 hV6
  obtain ⟨z0, z1, z2, z3, _, _⟩ := frees6 hV6
  have HS6 : Hid (w6.heap[w.heap.size]? = some (.cells #[.slice (a' 0) (n 0) (n 0), .slice (a' 1) (n 1) (n 1), .slice (a' 2) (n 2) (n 2), .bool (nl 0), .bool (nl 1), .bool (nl 2)] 26 (0, 0))) := hS6
  have HV6 : Hid (w6.heap[w.heap.size + 1]? = some (.cells #[.int .u8 k, .slice sa sn sc, .int .i64 m, .slice ea en ec] 31 (0, 0))) := hV6
  clear hSb hVb hS6 hV6
  go_upto_region 17 with fail
  obtain ⟨W6, hW6⟩ : ∃ W6, W6 = (((w6.setCell ⟨w.heap.size + 1, 0, none⟩ (.int .u8 k)).setCell ⟨w.heap.size + 1, 1, none⟩ (.slice sa' sn sn)).setCell ⟨w.heap.size + 1, 2, none⟩ (.int .i64 m)).setCell ⟨w.heap.size + 1, 3, none⟩ (.slice ea' en en) := ⟨_, rfl⟩
  rw [← hW6]
  have M6 : Mid w W6 w.heap.size (w.heap.size + 1) a' n nl f k sa' sn m ea' en E := by
    refine ⟨?_, ?_, fun j hj => ?_, ?_, ?_, ?_⟩
    · rw [hW6]; iterate 4 rw [heap_setCell_other _ _ _ _ (by simp)]
      exact HS6.out
    · rw [hW6]; exact set4 HV6.out _ _ _ _
    · refine StrsFrom.at (B := w4.heap.size) ?_
      rw [hW6]; iterate 4 refine StrsFrom.setCell ?_ (by simpa using hVlt) _
      exact (hstrb j hj).later hb6
    · refine ElsAt.mono (B := W5.heap.size) ?_ (Nat.zero_le _)
      rw [hW6]; iterate 4 refine ElsAt.setCell ?_ (by simpa using hVl5) _
      exact hels6
    · intro e
      cases hz : en with
      | zero => rfl
      | succ q => obtain ⟨_, _, _, e2, _⟩ := hels6 (by omega); rw [e] at e2; cases e2
    · rw [hW6]; iterate 4 refine Below.setCell ?_ (by simp) _
      exact below_step hBb (Nat.le_refl _) hb6
  have HM6 : Hid (Mid w W6 w.heap.size (w.heap.size + 1) a' n nl f k sa' sn m ea' en E) := M6
  clear hW6 M6 t0 t1 t2 t3 z0 z1 z2 z3 hstrb hb6 hels6 HS6 HV6 hBb Gb hVl5 hz5
  go_cut [11] (fun t1 wx => ∃ W0, t1 = .pointer (some ⟨W0.heap.size, 0, none⟩) ∧ wx = W0.alloc (.cells #[.map none, .map none, .map none] 41) ∧ Mid w W0 w.heap.size (w.heap.size + 1) a' n nl f k sa' sn m ea' en E)
  case first =>
    go_wp2_with fail
    go_meet
    exact ⟨W6, rfl, rfl, HM6.out⟩
  case rest =>
    obtain ⟨W0, rfl, rfl, M⟩ := hcut
    have fz := HG0.out.fz
    clear HM6 HG0 HG4 HS4 HV4 hnm hSlt hVlt hB4 fsn fel5
    go_wp2_with fail
    go_loopg [13] 3 (fun gg t wr => ∃ (q : Nat) (mb ms : Nat → Value), q ≤ 3 ∧ gg = 3 - q ∧ t = .int .i64 q ∧ Built W0 wr q q mb ms n nl f)
    case atStart => exact ⟨0, _, _, Nat.zero_le _, rfl, rfl, Built.start W0 n nl f⟩
    case round =>
      obtain ⟨q, mb, ms, hq, hg, rfl, hBu⟩ := hrel
      by_cases hlt : q < 3
      · have Mr := M.later hBu.below
        have c1 : wr.cell? ⟨w.heap.size, q, none⟩ = some (.slice (a' q) (n q) (n q)) := (cell_of_row wr _ q _ _ _ Mr.hS).trans (six_lo (fun j => .slice (a' j) (n j) (n j)) (fun j => .bool (nl j)) q hlt)
        have c2 : wr.cell? ⟨w.heap.size, 3 + q, none⟩ = some (.bool (nl q)) := (cell_of_row wr _ (3 + q) _ _ _ Mr.hS).trans (six_hi (fun j => .slice (a' j) (n j) (n j)) (fun j => .bool (nl j)) q hlt)
        have hwl := hBu.lt
        have hSl : w.heap.size < W0.heap.size := lt_of_block M.hS
        have hstr := Mr.str q hlt
        have hfn := fn q hlt
        have hfz := fz q hlt
        have HBU : Hid (Built W0 wr q q mb ms n nl f) := hBu
        have HMR : Hid (Mid w wr w.heap.size (w.heap.size + 1) a' n nl f k sa' sn m ea' en E) := Mr
        have hn1 : W0.heap.size ≠ w.heap.size := by omega
        have hn2 : W0.heap.size + 1 ≠ w.heap.size := by omega
        clear hBu Mr
        go_upto_region 22 with fail
        go_region_held (fun w' => w'.cell? ⟨w.heap.size, q, none⟩ = some (.slice (a' q) (n q) (n q)) ∧ w'.cell? ⟨w.heap.size, 3 + q, none⟩ = some (.bool (nl q))) (go_keep)
          ((go_at_call 12; refine (buildSet_any (w := wr) (ss := f q) ?_ hfn hstr hfz).mono ?_; exact (Below.refl _ _).drew; rintro e w1 ⟨r, rfl, hr, hb1⟩; have d1 := cellLater hb1 c1; have d2 := cellLater hb1 c2; have d3 := (cell_of_row w1 W0.heap.size q _ _ _ ((hb1.block _ (by omega)).trans HBU.out.arrB)).trans (three_get mb q hlt); have d4 := frozen_of_row w1 W0.heap.size q _ _ ((hb1.block _ (by omega)).trans HBU.out.arrB)))
        obtain ⟨w2, hw2⟩ : ∃ w2, w2 = w1.setCell ⟨W0.heap.size, q, none⟩ (.map r) := ⟨_, rfl⟩
        rw [← hw2]
        have hBu2 := HBU.out.stepB hlt hb1 hr
        rw [← hw2] at hBu2
        generalize hmb2 : (fun i => if i = q then Value.map r else mb i) = mb2 at hBu2
        have M2 := M.later hBu2.below
        have e1 : w2.cell? ⟨w.heap.size, q, none⟩ = some (.slice (a' q) (n q) (n q)) := (cell_of_row w2 _ q _ _ _ M2.hS).trans (six_lo (fun j => .slice (a' j) (n j) (n j)) (fun j => .bool (nl j)) q hlt)
        have e2 : w2.cell? ⟨w.heap.size, 3 + q, none⟩ = some (.bool (nl q)) := (cell_of_row w2 _ (3 + q) _ _ _ M2.hS).trans (six_hi (fun j => .slice (a' j) (n j) (n j)) (fun j => .bool (nl j)) q hlt)
        have hstr2 := M2.str q hlt
        have hwl2 := hBu2.lt
        have HBU2 : Hid (Built W0 w2 (q + 1) q mb2 ms n nl f) := hBu2
        clear hw2 hmb2 hBu2 M2 d1 d2 d3 d4 c1 c2 hr hb1 hstr HBU HMR hwl
        go_upto_region 23 with fail
        go_region_held (fun w' => w'.cell? ⟨w.heap.size, q, none⟩ = some (.slice (a' q) (n q) (n q)) ∧ w'.cell? ⟨w.heap.size, 3 + q, none⟩ = some (.bool (nl q))) (go_keep)
          ((go_at_call 12; refine (buildSet_any (w := w2) (ss := f q) ?_ hfn hstr2 hfz).mono ?_; exact (Below.refl _ _).drew; rintro e w3 ⟨r, rfl, hr, hb3⟩; have d1 := cellLater hb3 e1; have d2 := cellLater hb3 e2; have d3 := (cell_of_row w3 (W0.heap.size + 1) q _ _ _ ((hb3.block _ (by omega)).trans HBU2.out.arrS)).trans (three_get ms q hlt); have d4 := frozen_of_row w3 (W0.heap.size + 1) q _ _ ((hb3.block _ (by omega)).trans HBU2.out.arrS)))
        go_wp2_with fail
        go_roundg (3 - (q + 1))
        case measure => omega
        case rel => exact ⟨q + 1, mb2, _, by omega, rfl, by go_num, HBU2.out.stepS hlt hb3 hr⟩
      · obtain rfl : q = 3 := by omega
        have HBU : Hid (Built W0 wr 3 3 mb ms n nl f) := hBu
        have Mr := M.later hBu.below
        have hSl : w.heap.size < W0.heap.size := lt_of_block M.hS
        have HM : Hid (Mid w W0 w.heap.size (w.heap.size + 1) a' n nl f k sa' sn m ea' en E) := M
        clear hBu M Mr
        go_wp2_with fail
        refine (newKind_any _ _ _ _).mono ?_
        rintro e w1 ⟨rfl, hw1⟩
        have hb1 : Below wr.heap.size wr w1 := by rw [hw1]; exact (Below.refl wr.heap.size wr).alloc (Nat.le_refl _) _
        have hkp : w1.heap[wr.heap.size]? = some (.cells #[.string nm, .int .u8 Fn, .int .u8 1] 67 (0, 0)) := by rw [hw1]; exact heap_new_at _ _ rfl
        have HKP : Hid (w1.heap[wr.heap.size]? = some (.cells #[.string nm, .int .u8 Fn, .int .u8 1] 67 (0, 0))) := hkp
        clear hw1 hkp
        go_wp2_with fail
        refine (newKind_any _ _ _ _).mono ?_
        rintro e w2 ⟨rfl, hw2⟩
        have hb2 : Below w1.heap.size w1 w2 := by rw [hw2]; exact (Below.refl w1.heap.size w1).alloc (Nat.le_refl _) _
        have hkq : w2.heap[w1.heap.size]? = some (.cells #[.string nm, .int .u8 Fn, .int .u8 2] 67 (0, 0)) := by rw [hw2]; exact heap_new_at _ _ rfl
        have HKP2 : Hid (w2.heap[wr.heap.size]? = some (.cells #[.string nm, .int .u8 Fn, .int .u8 1] 67 (0, 0))) := (hb2.block _ (lt_of_block HKP.out)).trans HKP.out
        have HKQ2 : Hid (w2.heap[w1.heap.size]? = some (.cells #[.string nm, .int .u8 Fn, .int .u8 2] 67 (0, 0))) := hkq
        have HBU2 : Hid (Built W0 w2 3 3 mb ms n nl f) := (HBU.out.later hb1).later hb2
        have M2 := HM.out.later HBU2.out.below
        obtain ⟨p0, p1, p2, p3⟩ := cells4 M2.hV
        have HM2 : Hid (Mid w w2 w.heap.size (w.heap.size + 1) a' n nl f k sa' sn m ea' en E) := M2
        clear hw2 hkq HKP HBU M2 hb1 hb2
        go_wp2_with fail
        refine (buildValue_any w2 k sa' sn sn m ea' en en E (fun e => ⟨HM2.out.eln e, HM2.out.eln e⟩) fen HM2.out.els).mono ?_
        rintro e w3 ⟨va, rfl, hva, hb3⟩
        have HBU3 : Hid (Built W0 w3 3 3 mb ms n nl f) := HBU2.out.later hb3
        have HKP3 : Hid (w3.heap[wr.heap.size]? = some (.cells #[.string nm, .int .u8 Fn, .int .u8 1] 67 (0, 0))) := (hb3.block _ (lt_of_block HKP2.out)).trans HKP2.out
        have HKQ3 : Hid (w3.heap[w1.heap.size]? = some (.cells #[.string nm, .int .u8 Fn, .int .u8 2] 67 (0, 0))) := (hb3.block _ (lt_of_block HKQ2.out)).trans HKQ2.out
        have hva3 : VsAt 0 w3 va en E := fun h0 => by obtain ⟨b, off, _, e, h⟩ := hva h0; exact ⟨b, off, Nat.zero_le _, e, h⟩
        have HVA3 : Hid (VsAt 0 w3 va en E) := hva3
        clear HBU2 HKP2 HKQ2 hva hva3 HM2 p0 p1 p2 p3 hb3
        go_upto_region 27 with fail
        obtain ⟨w4, hw4⟩ : ∃ w4, w4 = w3.alloc (.cells #[.int .u8 k, .slice sa' sn sn, .int .i64 m, .slice va en en] 51) := ⟨_, rfl⟩
        rw [← hw4]
        have hb4 : Below w3.heap.size w3 w4 := by rw [hw4]; exact (Below.refl w3.heap.size w3).alloc (Nat.le_refl _) _
        have hval4 : w4.heap[w3.heap.size]? = some (.cells #[.int .u8 k, .slice sa' sn sn, .int .i64 m, .slice va en en] 51 (0, 0)) := by rw [hw4]; exact heap_new_at _ _ rfl
        obtain ⟨b0, b1, b2, b3⟩ := cells4 hval4
        have HVAL4 : Hid (w4.heap[w3.heap.size]? = some (.cells #[.int .u8 k, .slice sa' sn sn, .int .i64 m, .slice va en en] 51 (0, 0))) := hval4
        have HBU4 : Hid (Built W0 w4 3 3 mb ms n nl f) := HBU3.out.later hb4
        have HKP4 : Hid (w4.heap[wr.heap.size]? = some (.cells #[.string nm, .int .u8 Fn, .int .u8 1] 67 (0, 0))) := (hb4.block _ (lt_of_block HKP3.out)).trans HKP3.out
        have HKQ4 : Hid (w4.heap[w1.heap.size]? = some (.cells #[.string nm, .int .u8 Fn, .int .u8 2] 67 (0, 0))) := (hb4.block _ (lt_of_block HKQ3.out)).trans HKQ3.out
        have HVA4 : Hid (VsAt 0 w4 va en E) := HVA3.out.later hb4
        have hlW : W0.heap.size + 1 < wr.heap.size + 0 ∨ True := .inr trivial
        clear hw4 hval4 HBU3 HKP3 HKQ3 HVA3 hb4 hlW
        have HSET4 : Hid (Sets w4 (W0.heap.size + 1) ms 1048576 (fun j => bset (f j) (n j))) := HBU4.out.sets fn
        go_cut [93] (fun _ wx => Once w4 wx (W0.heap.size + 1) ms (fun j => bset (f j) (n j)) Fn (elName (E 1)) en)
        case first =>
          go_wp2_with fail
          by_cases h2 : 2 ≤ en
          · have hE1 : ElOk (E 1) := ⟨HWF.out 1 (by omega), fel 1 (by omega)⟩
            refine (zzfollow_act w4 (W0.heap.size + 1) wr.heap.size Fn 1048576 (fun j => bset (f j) (n j)) 1 nm ms k m sa' sn sn va en en E h2 hF3 HSET4.out (by omega) HKP4.out HVA4.out hE1).mono ?_
            rintro e w5 ⟨rfl, hA⟩
            have HA : Hid (Once w4 w5 (W0.heap.size + 1) ms (fun j => bset (f j) (n j)) Fn (elName (E 1)) en) := ⟨fun _ => hA, fun h => absurd h2 (by omega)⟩
            clear hA
            go_wp2_with fail
            go_meet
            exact HA.out
          · refine (zzfollow_few w4 _ _ k m sa' sn sn va en en (by omega)).mono ?_
            rintro e w5 ⟨rfl, hb5⟩
            have HA : Hid (Once w4 w5 (W0.heap.size + 1) ms (fun j => bset (f j) (n j)) Fn (elName (E 1)) en) := ⟨fun h => absurd h h2, fun _ => hb5⟩
            clear hb5
            go_wp2_with fail
            go_meet
            exact HA.out
        case rest =>
        obtain ⟨w5, hw5⟩ : ∃ w5, w5 = wc := ⟨_, rfl⟩
        subst hw5
        have HO : Hid (Once w4 w5 (W0.heap.size + 1) ms (fun j => bset (f j) (n j)) Fn (elName (E 1)) en) := hcut
        obtain ⟨c0, c1, c2, c3⟩ := cells4 (HO.out.typ HSET4.out HVAL4.out (by decide))
        have HKQ5 : Hid (w5.heap[w1.heap.size]? = some (.cells #[.string nm, .int .u8 Fn, .int .u8 2] 67 (0, 0))) := HO.out.typ HSET4.out HKQ4.out (by decide)
        have HVA5 : Hid (VsAt 0 w5 va en E) := HO.out.vs HSET4.out HVA4.out
        clear hcut b0 b1 b2 b3 HVAL4 HKQ4 HKP4 HVA4
        go_upto_region 28 with fail
        go_cut [96] (fun _ wx => ∃ ms', Done W0 wx mb ms' n nl f (fun j => twiceD (decide (2 ≤ en) && decide (j = Fn)) (elName (E 1)) (bset (f j) (n j))) (fun j => setNil (nl j) (n j) && !(decide (2 ≤ en) && decide (j = Fn))))
        case first =>
          go_wp2_with fail
          by_cases h2 : 2 ≤ en
          · have hE1 : ElOk (E 1) := ⟨HWF.out 1 (by omega), fel 1 (by omega)⟩
            have hd : decide (2 ≤ en) = true := by simp [h2]
            obtain ⟨mv', S1, nil1, keep1, new1⟩ := HO.out.1 h2
            have HS1 : Hid (Sets w5 (W0.heap.size + 1) mv' 1048577 (fun j => if j = Fn then nextD 1 (elName (E 1)) (bset (f j) (n j)) else bset (f j) (n j))) := S1
            have HN1 : Hid (∀ j, j < 3 → isNil (mv' j) = (isNil (ms j) && !(decide ((1 : Int) = 1) && decide (j = Fn)))) := nil1
            have HK1 : Hid (Keeps (fun b => b = W0.heap.size + 1 ∨ ∃ j, j < 3 ∧ ms j = .map (some b)) w4 w5) := keep1
            have HW1 : Hid (∀ j b, j < 3 → mv' j = .map (some b) → ms j = .map (some b) ∨ w4.heap.size ≤ b) := new1
            clear S1 nil1 keep1 new1
            refine (zzfollow_act w5 (W0.heap.size + 1) w1.heap.size Fn 1048577 (fun j => if j = Fn then nextD 1 (elName (E 1)) (bset (f j) (n j)) else bset (f j) (n j)) 2 nm mv' k m sa' sn sn va en en E h2 hF3 HS1.out (by omega) HKQ5.out HVA5.out hE1).mono ?_
            rintro e w6 ⟨rfl, hA⟩
            obtain ⟨ms', hD⟩ := HBU4.out.after2 fn HS1.out rfl HN1.out HK1.out HW1.out (Below.refl _ _) hA
            have e1 : (fun j => twiceD (decide (2 ≤ en) && decide (j = Fn)) (elName (E 1)) (bset (f j) (n j))) = (fun j => if j = Fn then ((bset (f j) (n j)).put (key (elName (E 1))) (.agg [])).del (key (elName (E 1))) else bset (f j) (n j)) := by
              funext j; rw [hd]; by_cases ej : j = Fn <;> simp [twiceD, ej]
            have e2 : (fun j => setNil (nl j) (n j) && !(decide (2 ≤ en) && decide (j = Fn))) = (fun j => setNil (nl j) (n j) && !decide (j = Fn)) := by
              funext j; rw [hd]; simp
            have HD : Hid (Done W0 w6 mb ms' n nl f (fun j => twiceD (decide (2 ≤ en) && decide (j = Fn)) (elName (E 1)) (bset (f j) (n j))) (fun j => setNil (nl j) (n j) && !(decide (2 ≤ en) && decide (j = Fn)))) := by show Done _ _ _ _ _ _ _ _ _; rw [e1, e2]; exact hD
            clear hD hA e1 e2 HS1 HN1 HK1 HW1 hd
            go_wp2_with fail
            go_meet
            exact ⟨ms', HD.out⟩
          · have hd : decide (2 ≤ en) = false := by simp; omega
            refine (zzfollow_few w5 _ _ k m sa' sn sn va en en (by omega)).mono ?_
            rintro e w6 ⟨rfl, hb6⟩
            have hD := ((HBU4.out.later (HO.out.2 (by omega))).later hb6).done fn
            have e1 : (fun j => twiceD (decide (2 ≤ en) && decide (j = Fn)) (elName (E 1)) (bset (f j) (n j))) = (fun j => bset (f j) (n j)) := by
              funext j; rw [hd]; simp [twiceD]
            have e2 : (fun j => setNil (nl j) (n j) && !(decide (2 ≤ en) && decide (j = Fn))) = (fun j => setNil (nl j) (n j)) := by
              funext j; rw [hd]; simp
            have HD : Hid (Done W0 w6 mb ms n nl f (fun j => twiceD (decide (2 ≤ en) && decide (j = Fn)) (elName (E 1)) (bset (f j) (n j))) (fun j => setNil (nl j) (n j) && !(decide (2 ≤ en) && decide (j = Fn)))) := by show Done _ _ _ _ _ _ _ _ _; rw [e1, e2]; exact hD
            clear hD e1 e2 hb6 hd
            go_wp2_with fail
            go_meet
            exact ⟨ms, HD.out⟩
        case rest =>
          obtain ⟨ms', hD⟩ := hcut
          obtain ⟨W9, hW9⟩ : ∃ W9, W9 = wc := ⟨_, rfl⟩
          subst hW9
          have M9 := HM.out.later hD.below
          obtain ⟨p0, p1, p2, p3⟩ := cells4 M9.hV
          have HD : Hid (Done W0 W9 mb ms' n nl f (fun j => twiceD (decide (2 ≤ en) && decide (j = Fn)) (elName (E 1)) (bset (f j) (n j))) (fun j => setNil (nl j) (n j) && !(decide (2 ≤ en) && decide (j = Fn)))) := hD
          have HM9 : Hid (Mid w W9 w.heap.size (w.heap.size + 1) a' n nl f k sa' sn m ea' en E) := M9
          clear hD M9 HM HO HSET4 HBU4 HKQ5 HVA5 c0 c1 c2 c3
          go_upto_if 101 with fail
          go_cut [17, 18] (fun t14 t15 wx => t14 = .bool (decide (2 ≤ en)) ∧ t15 = .string (xName E en) ∧ Below W9.heap.size W9 wx)
          case first =>
            by_cases h2 : 2 ≤ en
            · have hd : decide ((2 : Int) ≤ (en : Int)) = true := by simp; omega
              have HX : Hid (xName E en = elName (E 1) ∧ decide (2 ≤ en) = true) := by simp [Hid, xName, h2]
              have hE1 : ElOk (E 1) := ⟨HWF.out 1 (by omega), fel 1 (by omega)⟩
              obtain ⟨eb, eo, _, hea, hes⟩ := HM9.out.els (by omega)
              obtain ⟨ya, yc, y1, y2, y3, y4, y5, y6⟩ := hes 1 (by omega)
              have q1 : W9.cell? ⟨eb, eo + 3, none⟩ = some (.int .u8 (E 1).kind) := y1
              have q2 : W9.cell? ⟨eb, eo + 3 + 1, none⟩ = some (.slice ya (E 1).len yc) := y2
              have q3 : W9.cell? ⟨eb, eo + 3 + 2, none⟩ = some (.int .i64 (E 1).num) := y3
              rw [hea] at p3
              clear hes y1 y2 y3 hea
              go_wp2_with (go_at_call 16; refine (elemBytes_any _ _ _ _ _ _ hE1.1 hE1.2).mono ?_; rintro e w2 ⟨rfl, hb3⟩; have hcv : (convert 28 9 (.slice (subA (E 1).kind ya yc (E 1).num) ((E 1).len - subO (E 1).kind (E 1).num) (yc - subO (E 1).kind (E 1).num))).run Try.prog w2 = .ok (.string (elName (E 1))) w2 := conv_any (sub_bytes (y6.at.later hb3) y5) _)
              go_meet
              exact ⟨by rw [HX.out.2], by rw [HX.out.1], hb3⟩
            · have hd : decide ((2 : Int) ≤ (en : Int)) = false := by simp; omega
              have HX : Hid (xName E en = ⟨#[]⟩ ∧ decide (2 ≤ en) = false) := by simp [Hid, xName, h2]
              go_wp2_with fail
              go_meet
              exact ⟨by rw [HX.out.2]; simp; omega, by rw [HX.out.1], Below.refl _ _⟩
          case rest =>
            obtain ⟨rfl, rfl, hb9⟩ := hcut
            have hxs : (xName E en).size ≤ maxLen := xName_size E en (fun h2 => ⟨HWF.out 1 (by omega), fel 1 (by omega)⟩)
            have HD9 : Hid (Done W0 wc mb ms' n nl f (fun j => twiceD (decide (2 ≤ en) && decide (j = Fn)) (elName (E 1)) (bset (f j) (n j))) (fun j => setNil (nl j) (n j) && !(decide (2 ≤ en) && decide (j = Fn)))) := HD.out.later hb9
            have HMX : Hid (Mid w wc w.heap.size (w.heap.size + 1) a' n nl f k sa' sn m ea' en E) := HM9.out.later hb9
            obtain ⟨WX, hWX⟩ : ∃ WX, WX = wc := ⟨_, rfl⟩
            subst hWX
            have HXN : Hid (decide (2 ≤ en) = true → xName E en = elName (E 1)) := fun h => by
              have h2 : 2 ≤ en := of_decide_eq_true h
              simp [xName, h2]
            generalize xName E en = x at *
            generalize decide (2 ≤ en) = ac at *
            clear HD HM9 p0 p1 p2 p3 hb9
            go_wp2_with fail
            go_loopg [19, 20] 3 (fun gg t _ wr => ∃ q : Nat, q ≤ 3 ∧ gg = 3 - q ∧ t = .int .i64 q ∧ Below WX.heap.size WX wr)
            case atStart => exact ⟨0, Nat.zero_le _, rfl, rfl, Below.refl _ _⟩
            case round =>
              obtain ⟨q, hq, hg, rfl, hbr⟩ := hrel
              have hBwr : Below w.heap.size w wr := below_step HMX.out.below (Nat.le_refl _) hbr
              by_cases hlt : q < 3
              · have D9 := HD9.out.later hbr
                have MX := HMX.out.later hbr
                obtain ⟨r2, hr2, hs2, hn2⟩ := D9.setB q hlt
                obtain ⟨r1, hr1, hs1, hn1⟩ := D9.setS q hlt
                have c1 : wr.cell? ⟨W0.heap.size + 1, q, none⟩ = some (.map r1) := by rw [← hr1]; exact (cell_of_row wr _ q _ _ _ D9.arrS).trans (three_get ms' q hlt)
                have c2 : wr.cell? ⟨W0.heap.size, q, none⟩ = some (.map r2) := by rw [← hr2]; exact (cell_of_row wr _ q _ _ _ D9.arrB).trans (three_get mb q hlt)
                have c3 : wr.cell? ⟨w.heap.size, q, none⟩ = some (.slice (a' q) (n q) (n q)) := (cell_of_row wr _ q _ _ _ MX.hS).trans (six_lo (fun j => .slice (a' j) (n j) (n j)) (fun j => .bool (nl j)) q hlt)
                have hstr := MX.str q hlt
                have hfn := fn q hlt
                have hfz := fz q hlt
                have HN : Hid (r1.isNone = (r2.isNone && !(ac && decide (q = Fn)))) := by
                  show _ = _
                  rw [hn1, hn2]
                have H1 : Hid ((Maps.size (twiceD (ac && decide (q = Fn)) (elName (E 1)) (bset (f q) (n q))) : Int) = wantSize (bset (f q) (n q)) x false (ac && decide (q = Fn))) := by
                  show _ = _
                  by_cases h2 : ac = true
                  · rw [HXN.out h2]; exact twice_size _ _ _ hs2.tidy
                  · have e : ac = false := by simpa using h2
                    rw [e]; simp only [Bool.false_and]; exact id_size _ _
                have H2 : Hid (∀ y, Maps.has (twiceD (ac && decide (q = Fn)) (elName (E 1)) (bset (f q) (n q))) (key y) = want (bset (f q) (n q)) y x false (ac && decide (q = Fn))) := by
                  intro y
                  by_cases h2 : ac = true
                  · rw [HXN.out h2]; exact twice_has _ _ _ hs2.tidy y
                  · have e : ac = false := by simpa using h2
                    rw [e]; simp only [Bool.false_and]; exact id_has _ _ _
                clear D9 MX hr1 hr2 hn1 hn2
                generalize twiceD (ac && decide (q = Fn)) (elName (E 1)) (bset (f q) (n q)) = Dg at *
                generalize hA : (ac && decide (q = Fn)) = A at *
                have HA : Hid ((ac && decide (q = Fn)) = A) := hA
                have hd1 : decide ((q : Int) < 3) = true := by simp; omega
                clear hA
                go_upto_region 36 with fail
                go_cut [20] (fun t wx => t = .bool A ∧ wx = wr)
                case first =>
                  cases ac with
                  | true =>
                    by_cases hqF : q = Fn
                    · have hb1 : ((Fn : Int) == (q : Int)) = true := by simp; omega
                      have HR : Hid (A = true) := by show _ = _; rw [← HA.out]; simp [hqF]
                      clear hqF
                      go_wp2_with fail
                      go_meet
                      exact ⟨by rw [HR.out], rfl⟩
                    · have hb1 : ((Fn : Int) == (q : Int)) = false := by simp; omega
                      have HR : Hid (A = false) := by show _ = _; rw [← HA.out]; simp [hqF]
                      clear hqF
                      go_wp2_with fail
                      go_meet
                      exact ⟨by rw [HR.out], rfl⟩
                  | false =>
                    have HR : Hid (A = false) := by show _ = _; rw [← HA.out]; rfl
                    go_wp2_with fail
                    go_meet
                    exact ⟨by rw [HR.out], rfl⟩
                case rest =>
                obtain ⟨rfl, hw⟩ := hcut
                obtain rfl := hw.symm
                clear HA
                go_upto_region 37 with fail
                go_cut [131] (fun t wx => t = .bool false ∧ Below wr.heap.size wr wx)
                case first =>
                  have hq3 : (q : Int) < 3 := by omega
                  have hnil1 := fun (wx : World) => run_eql_map_nil (P := Try.prog) wx 40 9 63 r1 Try.underlying40
                  cases r2 with
                  | none =>
                    have hnil2 : ∀ wx : World, (binOp .eql 40 (.map none) (.map none)).run Try.prog wx = .ok (.bool true) wx := fun wx => run_eql_map_nil (P := Try.prog) wx 40 9 63 none Try.underlying40
                    have HN2 : Hid (r1.isNone = !A) := by show _ = _; rw [HN.out]; rfl
                    clear HN H1 H2 hs1 hs2 hstr
                    go_quiet (fail)
                    go_wp2_with fail
                    go_meet
                    exact ⟨by rw [HN2.out]; cases A <;> rfl, below_drewN (Below.refl _ _) _⟩
                  | some b2 =>
                    have hnil2 : ∀ wx : World, (binOp .eql 40 (.map (some b2)) (.map none)).run Try.prog wx = .ok (.bool false) wx := fun wx => run_eql_map_nil (P := Try.prog) wx 40 9 63 (some b2) Try.underlying40
                    have HN2 : Hid (r1.isNone = false) := by show _ = _; rw [HN.out]; rfl
                    clear HN H1 H2 hs1 hs2 hstr
                    go_quiet (fail)
                    go_wp2_with fail
                    go_meet
                    exact ⟨by rw [HN2.out], below_drewN (Below.refl _ _) _⟩
                case rest =>
                obtain ⟨rfl, hw⟩ := hcut
                have e1 := cellLater hw c1
                have e2 := cellLater hw c2
                have e3 := cellLater hw c3
                have g1 := hs1.later hw
                have g2 := hs2.later hw
                have g3 := hstr.later hw
                have hBwc : Below WX.heap.size WX wc := below_step hbr (Nat.le_refl _) hw
                have hBwc2 : Below w.heap.size w wc := below_step hBwr (Nat.le_refl _) hw
                have hcall : ∀ W', Below wc.heap.size wc W' → Calls Try.prog 17 #[.map r1, .map r2, .slice (a' q) (n q) (n q), .string x, .bool false, .bool A] W' fun e w' => e = .returned (.bool true) ∧ Below wc.heap.size wc w' := by
                  intro W' hW'
                  exact (setAfterIs_any W' (.map r1) (.map r2) 1048578 1048576 Dg (bset (f q) (n q)) (a' q) (n q) (n q) (f q) x false A (g1.later hW') (g2.later hW') (by omega) (by omega) hfn (g3.later hW') hfz hxs H1.out (fun i _ => H2.out _) (H2.out _)).mono fun _ _ ⟨h1, h2⟩ => ⟨h1, below_step hW' (Nat.le_refl _) h2⟩
                have HCALL : Hid (∀ W', Below wc.heap.size wc W' → Calls Try.prog 17 #[.map r1, .map r2, .slice (a' q) (n q) (n q), .string x, .bool false, .bool A] W' fun e w' => e = .returned (.bool true) ∧ Below wc.heap.size wc w') := hcall
                clear hcall c1 c2 c3 hs1 hs2 hstr g1 g2 g3 H1 H2 HN hbr hBwr hw
                go_upto_region 39 with fail
                go_cut [145] (fun t wx => t = .bool false ∧ Below wc.heap.size wc wx)
                case first =>
                  have hq3 : (q : Int) < 3 := by omega
                  obtain ⟨WY, hWY⟩ : ∃ WY, WY = wc := ⟨_, rfl⟩
                  subst hWY
                  go_region_held (fun w' => w'.cell? ⟨W0.heap.size + 1, q, none⟩ = some (.map r1) ∧ w'.cell? ⟨W0.heap.size, q, none⟩ = some (.map r2) ∧ w'.cell? ⟨w.heap.size, q, none⟩ = some (.slice (a' q) (n q) (n q))) (go_keep)
                    ((go_at_call 17; refine (HCALL.out _ ?_).mono ?_; exact (Below.refl _ _).drew; rintro e w1 ⟨rfl, hb1⟩; have d1 := cellLater hb1 e1; have d2 := cellLater hb1 e2; have d3 := cellLater hb1 e3))
                  go_wp2_with fail
                  go_meet
                  exact ⟨rfl, hb1⟩
                case rest =>
                  obtain ⟨rfl, hw⟩ := hcut
                  have hfin : Below WX.heap.size WX wc := below_step hBwc (Nat.le_refl _) hw
                  clear HCALL e1 e2 e3 hBwc2
                  go_wp2_with fail
                  go_roundg (3 - (q + 1))
                  case measure => omega
                  case rel => exact ⟨q + 1, by omega, rfl, by go_num, hfin⟩
              · go_wp2_with fail
                go_ret
                exact ⟨rfl, hBwr⟩
end Go.Proofs.Qxb6603301a
