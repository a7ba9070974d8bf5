/-
  THE WALKS of follow and ZZFollow.
-/
import Derived.Test.Qxb6603301aValue
namespace Go.Proofs.Qxb6603301a
open Go.RowKit Go.Maps
set_option linter.unusedVariables false

/-- w' is w but for the blocks in S, and new blocks -/
structure Keeps (S : Nat → Prop) (w w' : World) : Prop where
  os : w'.os = w.os
  tape : w'.tape = w.tape
  output : w'.output = w.output
  size : w.heap.size ≤ w'.heap.size
  block : ∀ b, b < w.heap.size → ¬ S b → w'.heap[b]? = w.heap[b]?

theorem Keeps.of_below {S : Nat → Prop} {w w' : World} (h : Below w.heap.size w w') : Keeps S w w' := ⟨h.os, h.tape, h.output, h.size, fun b hb _ => h.block b hb⟩
theorem Keeps.trans {S : Nat → Prop} {w w1 w2 : World} (h : Keeps S w w1) (h2 : Keeps S w1 w2) : Keeps S w w2 :=
  ⟨h2.os.trans h.os, h2.tape.trans h.tape, h2.output.trans h.output, Nat.le_trans h.size h2.size, fun b hb hs => (h2.block b (Nat.lt_of_lt_of_le hb h.size) hs).trans (h.block b hb hs)⟩
theorem Keeps.setCell {S : Nat → Prop} {w w1 : World} (h : Keeps S w w1) {a : Addr} (ha : S a.block) (v : Value) : Keeps S w (w1.setCell a v) :=
  ⟨h.os, h.tape, h.output, by simpa [World.setCell] using h.size, fun b hb hs => by rw [heap_setCell_other _ _ _ _ (by intro e; subst e; exact hs ha)]; exact h.block b hb hs⟩
theorem Keeps.of_grown {S : Nat → Prop} {w w' : World} {b : Nat} (h : w.grownBy w' (some b)) (hb : S b) : Keeps S w w' :=
  ⟨h.os, h.tape, h.output, h.size, fun c hc hs => h.block c hc (by intro e; simp at e; subst e; exact hs hb)⟩
theorem Keeps.mono {S T : Nat → Prop} {w w' : World} (h : Keeps S w w') (hst : ∀ b, b < w.heap.size → S b → T b) : Keeps T w w' :=
  ⟨h.os, h.tape, h.output, h.size, fun b hb hs => h.block b hb (fun hS => hs (hst b hb hS))⟩
theorem Keeps.below {S : Nat → Prop} {w w' : World} (h : Keeps S w w') {B : Nat} (hB : B ≤ w.heap.size) (hs : ∀ b, b < B → ¬ S b) : Below B w w' :=
  ⟨h.os, h.tape, h.output, h.size, fun b hb => h.block b (by omega) (hs b hb)⟩

/-- the name that a confirmation bears -/
def elName (E : El) : ByteArray := bstr (fun i => E.txt (i + subO E.kind E.num)) (E.len - subO E.kind E.num)
def ElOk (E : El) : Prop := (E.kind = 13 → 0 ≤ E.num ∧ E.num < E.len) ∧ E.len ≤ 1048576
theorem elName_size (E : El) (h : ElOk E) : (elName E).size ≤ maxLen := by
  rw [elName, bstr_size]; have := h.2; unfold maxLen; omega

/-- follow does nothing: no kind -/
theorem follow_nil (w : World) (sp : Value) (k m : Int) (sa : Option Addr) (sn sc : Nat) (va : Option Addr) (en vc : Nat) :
    Calls Try.prog 25 #[sp, .pointer none, .agg #[.int .u8 k, .slice sa sn sc, .int .i64 m, .slice va en vc]] w fun e w' => e = .returned (.tuple #[]) ∧ Below w.heap.size w w' := by
  go_enter Try.func25, Try.ntmps25
  go_wp2_with (go_at_call 28; refine (vElems_any _ _ _ _ _ _ _).mono ?_; rintro e w1 ⟨rfl, hb1⟩)
  exact bodyPost_ret (v := .tuple #[]) (by simp [results, Try.results25, go_sem]) rfl ⟨rfl, ((Below.refl _ _).alloc (Nat.le_refl _) _).trans (hb1.mono (by simp))⟩

/-- .. fewer than two elements -/
theorem follow_few (w : World) (sp : Value) (p : Addr) (k m : Int) (sa : Option Addr) (sn sc : Nat) (va : Option Addr) (en vc : Nat) (hen : en < 2) :
    Calls Try.prog 25 #[sp, .pointer (some p), .agg #[.int .u8 k, .slice sa sn sc, .int .i64 m, .slice va en vc]] w fun e w' => e = .returned (.tuple #[]) ∧ Below w.heap.size w w' := by
  go_enter Try.func25, Try.ntmps25
  go_wp2_with (go_at_call 28; refine (vElems_any _ _ _ _ _ _ _).mono ?_; rintro e w1 ⟨rfl, hb1⟩)
  exact bodyPost_ret (v := .tuple #[]) (by simp [results, Try.results25, go_sem]) rfl ⟨rfl, ((Below.refl _ _).alloc (Nat.le_refl _) _).trans (hb1.mono (by simp))⟩

/-- three maps -/
def three (mv : Nat → Value) : Array Value := #[mv 0, mv 1, mv 2]
theorem three_get (mv : Nat → Value) (j : Nat) (h : j < 3) : (three mv)[j]? = some (mv j) := by
  obtain rfl | rfl | rfl : j = 0 ∨ j = 1 ∨ j = 2 := by omega
  all_goals rfl
theorem three_set (mv : Nat → Value) (j : Nat) (h : j < 3) (v : Value) : (three mv).setIfInBounds j v = three (fun i => if i = j then v else mv i) := by
  obtain rfl | rfl | rfl : j = 0 ∨ j = 1 ∨ j = 2 := by omega
  all_goals rfl
theorem three_same (mv : Nat → Value) (j : Nat) : three (fun i => if i = j then mv j else mv i) = three mv := by
  have : (fun i => if i = j then mv j else mv i) = mv := by funext i; by_cases h : i = j <;> simp [h]
  rw [this]

/-- .. another event: nothing turns -/
theorem follow_other (w : World) (sb kb F : Nat) (ev : Int) (nm : ByteArray) (mv : Nat → Value) (k m : Int) (sa : Option Addr) (sn sc : Nat) (va : Option Addr) (en vc : Nat) (hen : 2 ≤ en) (hF : F < 3) (he1 : ev ≠ 1) (he2 : ev ≠ 2)
    (hsb : w.heap[sb]? = some (.cells (three mv) 42 (0, 0))) (hkb : w.heap[kb]? = some (.cells #[.string nm, .int .u8 F, .int .u8 ev] 67 (0, 0))) :
    Calls Try.prog 25 #[.pointer (some ⟨sb, 0, none⟩), .pointer (some ⟨kb, 0, none⟩), .agg #[.int .u8 k, .slice sa sn sc, .int .i64 m, .slice va en vc]] w fun e w' => e = .returned (.tuple #[]) ∧ Below w.heap.size w w' := by
  have k1 : w.cell? ⟨kb, 1, none⟩ = some (.int .u8 F) := cell_of_row w _ 1 _ _ _ hkb
  have k2 : w.cell? ⟨kb, 2, none⟩ = some (.int .u8 ev) := cell_of_row w _ 2 _ _ _ hkb
  have b1 : (ev == 1) = false := by simp [he1]
  have b2 : (ev == 2) = false := by simp [he2]
  clear hsb hkb he1 he2
  go_enter Try.func25, Try.ntmps25
  go_wp2_with (go_at_call 28; refine (vElems_any _ _ _ _ _ _ _).mono ?_; rintro e w1 ⟨rfl, hb1⟩; have hb2 := (((Below.refl w.heap.size w).alloc (Nat.le_refl _) _).trans (hb1.mono (by simp))); have k11 := cellLater hb2 k1; have k21 := cellLater hb2 k2)
  go_quiet (fail)
  go_wp2_with fail
  go_end0
  exact ⟨rfl, below_drewN hb2 _⟩

theorem cell_ne_map {w : World} {c o b n : Nat} {v : Value} {D : DataW Unit} (h : w.cell? ⟨c, o, none⟩ = some v) (hown : w.ownsMap Try.prog 9 unitElem b n D) : c ≠ b := by
  intro e; subst e
  obtain ⟨es, clock, hb, _⟩ := hown
  simp [World.cell?, hb] at h

/-- what the region 'put the name' | 'delete the name' is told of the world -/
structure Ready (w W : World) (sb F vb vo : Nat) (mv : Value) (E : El) (ya : Option Addr) (yc : Nat) : Prop where
  below : Below w.heap.size w W
  s : W.cell? ⟨sb, F, none⟩ = some mv
  c0 : W.cell? ⟨vb, vo + 4, none⟩ = some (.int .u8 E.kind)
  c1 : W.cell? ⟨vb, vo + 4 + 1, none⟩ = some (.slice ya E.len yc)
  c2 : W.cell? ⟨vb, vo + 4 + 2, none⟩ = some (.int .i64 E.num)
  c3 : W.cell? ⟨vb, vo + 4 + 3, none⟩ = some (.slice none 0 0)
  le : E.len ≤ yc
  by_ : BytesAt W ya E.len E.txt

set_option maxHeartbeats 1000000 in
theorem follow_sub_some (w : World) (sb kb F b n : Nat) (D : DataW Unit) (nm : ByteArray) (mv : Nat → Value) (k m : Int) (sa : Option Addr) (sn sc : Nat) (va : Option Addr) (en vc : Nat) (E : Nat → El) (hen : 2 ≤ en) (hF : F < 3)
    (hsb : w.heap[sb]? = some (.cells (three mv) 42 (0, 0))) (hkb : w.heap[kb]? = some (.cells #[.string nm, .int .u8 F, .int .u8 1] 67 (0, 0))) (hV : VsAt 0 w va en E) (hE : ElOk (E 1)) (hm : mv F = .map (some b)) (hown : w.ownsMap Try.prog 9 unitElem b n D) (hn : n ≤ 4194304) :
    Calls Try.prog 25 #[.pointer (some ⟨sb, 0, none⟩), .pointer (some ⟨kb, 0, none⟩), .agg #[.int .u8 k, .slice sa sn sc, .int .i64 m, .slice va en vc]] w fun e w' => e = .returned (.tuple #[]) ∧
      w'.heap[sb]? = some (.cells (three mv) 42 (0, 0)) ∧ w'.ownsMap Try.prog 9 unitElem b (n + 1) (D.put (key (elName (E 1))) (.agg [])) ∧ Keeps (fun x => x = b) w w' := by
  have k1 : w.cell? ⟨kb, 1, none⟩ = some (.int .u8 F) := cell_of_row w _ 1 _ _ _ hkb
  have k2 : w.cell? ⟨kb, 2, none⟩ = some (.int .u8 1) := cell_of_row w _ 2 _ _ _ hkb
  have s1 : w.cell? ⟨sb, F, none⟩ = some (.map (some b)) := by rw [← hm]; exact (cell_of_row w _ F _ _ _ hsb).trans (three_get mv F hF)
  obtain ⟨vb, vo, _, rfl, hvs⟩ := hV (by omega)
  obtain ⟨ya, yc, y1, y2, y3, y4, y5, y6⟩ := hvs 1 (by omega)
  have hnil := fun (wx : World) => run_eql_map_nil (P := Try.prog) wx 40 9 63 (some b) Try.underlying40
  have HSB : Hid (w.heap[sb]? = some (.cells (three mv) 42 (0, 0))) := hsb
  have HM : Hid (mv F = .map (some b)) := hm
  clear hkb hsb hm hvs hV
  go_enter Try.func25, Try.ntmps25
  go_wp2_with (go_at_call 28; refine (vElems_any _ _ _ _ _ _ _).mono ?_; rintro e w1 ⟨rfl, hb1⟩; have hb2 := (((Below.refl w.heap.size w).alloc (Nat.le_refl _) _).trans (hb1.mono (by simp))); have k11 := cellLater hb2 k1; have k21 := cellLater hb2 k2; have s11 := cellLater hb2 s1)
  go_quiet (fail)
  go_wp2_with fail
  have hbW : Below w.heap.size w (w1.drewN nq) := below_drewN hb2 nq
  generalize w1.drewN nq = W at *
  have q0 : W.cell? ⟨vb, vo + 4, none⟩ = some (.int .u8 (E 1).kind) := cellLater hbW y1
  have q1 : W.cell? ⟨vb, vo + 4 + 1, none⟩ = some (.slice ya (E 1).len yc) := cellLater hbW y2
  have q2 : W.cell? ⟨vb, vo + 4 + 2, none⟩ = some (.int .i64 (E 1).num) := cellLater hbW y3
  have q3 : W.cell? ⟨vb, vo + 4 + 3, none⟩ = some (.slice none 0 0) := cellLater hbW y4
  have q4 : W.cell? ⟨sb, F, none⟩ = some (.map (some b)) := cellLater hbW s1
  have hownW := hown.kept (grown_of_below hbW) (by simp)
  have y6W := y6.later hbW
  have n1 : sb ≠ b := cell_ne_map s1 hown
  have n2 : vb ≠ b := cell_ne_map y1 hown
  have hkey := key_of _ (elName_size (E 1) hE)
  have h2en : (1 : Int) < (en : Int) := by omega
  clear hb1 hb2 k11 k21 s11 y1 y2 y3 y4 y6 k1 k2 s1 hown hnil
  go_region_held (fun w' => w'.cell? ⟨vb, vo + 4, none⟩ = some (.int .u8 (E 1).kind) ∧ w'.cell? ⟨vb, vo + 4 + 1, none⟩ = some (.slice ya (E 1).len yc) ∧ w'.cell? ⟨vb, vo + 4 + 2, none⟩ = some (.int .i64 (E 1).num) ∧ w'.cell? ⟨vb, vo + 4 + 3, none⟩ = some (.slice none 0 0) ∧ w'.cell? ⟨sb, F, none⟩ = some (.map (some b))) (go_keep)
    ((go_at_call 29; refine (vBytes_any _ _ _ _ _ _ _ hE.1 hE.2).mono ?_; rintro e w2 ⟨rfl, hb3⟩; have hb4 : Below W.heap.size W w2 := ((Below.refl W.heap.size W).drew.trans hb3); have t0 := cellLater hb4 q0; have t1 := cellLater hb4 q1; have t2 := cellLater hb4 q2; have t3 := cellLater hb4 q3; have t4 := cellLater hb4 q4; have hcv : (convert 28 9 (.slice (subA (E 1).kind ya yc (E 1).num) ((E 1).len - subO (E 1).kind (E 1).num) (yc - subO (E 1).kind (E 1).num))).run Try.prog w2 = .ok (.string (elName (E 1))) w2 := conv_any (sub_bytes (y6W.later hb4) y5) _; have hown2 := hownW.kept (grown_of_below hb4) (by simp); obtain ⟨w3, hrun, hown3, hturn⟩ := hown2.store law Try.underlying40 (by unfold maxLen; omega) hkey (unitElem_mk (H := Unit)); have hg3 := hturn.grown; have u0 := hg3.cell t0 (by simpa using n2); have u1 := hg3.cell t1 (by simpa using n2); have u2 := hg3.cell t2 (by simpa using n2); have u3 := hg3.cell t3 (by simpa using n2); have u4 := hg3.cell t4 (by simpa using n1)))
  go_wp2_with fail
  go_end0
  have hlt : sb < w.heap.size := lt_of_block HSB.out
  refine ⟨rfl, ?_, hown3, ?_⟩
  · rw [hg3.block _ (Nat.lt_of_lt_of_le hlt (Nat.le_trans hbW.size hb4.size)) (by simpa using n1), hb4.block _ (Nat.lt_of_lt_of_le hlt hbW.size), hbW.block _ hlt]; exact HSB.out
  · exact (Keeps.of_below (below_step hbW (Nat.le_refl _) hb4)).trans (Keeps.of_grown hg3 rfl)

set_option maxHeartbeats 1000000 in
theorem follow_unsub_some (w : World) (sb kb F b n : Nat) (D : DataW Unit) (nm : ByteArray) (mv : Nat → Value) (k m : Int) (sa : Option Addr) (sn sc : Nat) (va : Option Addr) (en vc : Nat) (E : Nat → El) (hen : 2 ≤ en) (hF : F < 3)
    (hsb : w.heap[sb]? = some (.cells (three mv) 42 (0, 0))) (hkb : w.heap[kb]? = some (.cells #[.string nm, .int .u8 F, .int .u8 2] 67 (0, 0))) (hV : VsAt 0 w va en E) (hE : ElOk (E 1)) (hm : mv F = .map (some b)) (hown : w.ownsMap Try.prog 9 unitElem b n D) (hn : n ≤ 4194304) :
    Calls Try.prog 25 #[.pointer (some ⟨sb, 0, none⟩), .pointer (some ⟨kb, 0, none⟩), .agg #[.int .u8 k, .slice sa sn sc, .int .i64 m, .slice va en vc]] w fun e w' => e = .returned (.tuple #[]) ∧
      w'.heap[sb]? = some (.cells (three mv) 42 (0, 0)) ∧ w'.ownsMap Try.prog 9 unitElem b n (D.del (key (elName (E 1)))) ∧ Keeps (fun x => x = b) w w' := by
  have k1 : w.cell? ⟨kb, 1, none⟩ = some (.int .u8 F) := cell_of_row w _ 1 _ _ _ hkb
  have k2 : w.cell? ⟨kb, 2, none⟩ = some (.int .u8 2) := cell_of_row w _ 2 _ _ _ hkb
  have s1 : w.cell? ⟨sb, F, none⟩ = some (.map (some b)) := by rw [← hm]; exact (cell_of_row w _ F _ _ _ hsb).trans (three_get mv F hF)
  obtain ⟨vb, vo, _, rfl, hvs⟩ := hV (by omega)
  obtain ⟨ya, yc, y1, y2, y3, y4, y5, y6⟩ := hvs 1 (by omega)
  have hnil := fun (wx : World) => run_eql_map_nil (P := Try.prog) wx 40 9 63 (some b) Try.underlying40
  have HSB : Hid (w.heap[sb]? = some (.cells (three mv) 42 (0, 0))) := hsb
  have HM : Hid (mv F = .map (some b)) := hm
  clear hkb hsb hm hvs hV
  go_enter Try.func25, Try.ntmps25
  go_wp2_with (go_at_call 28; refine (vElems_any _ _ _ _ _ _ _).mono ?_; rintro e w1 ⟨rfl, hb1⟩; have hb2 := (((Below.refl w.heap.size w).alloc (Nat.le_refl _) _).trans (hb1.mono (by simp))); have k11 := cellLater hb2 k1; have k21 := cellLater hb2 k2; have s11 := cellLater hb2 s1)
  go_quiet (fail)
  go_wp2_with fail
  have hbW : Below w.heap.size w (w1.drewN nq) := below_drewN hb2 nq
  generalize w1.drewN nq = W at *
  have q0 : W.cell? ⟨vb, vo + 4, none⟩ = some (.int .u8 (E 1).kind) := cellLater hbW y1
  have q1 : W.cell? ⟨vb, vo + 4 + 1, none⟩ = some (.slice ya (E 1).len yc) := cellLater hbW y2
  have q2 : W.cell? ⟨vb, vo + 4 + 2, none⟩ = some (.int .i64 (E 1).num) := cellLater hbW y3
  have q3 : W.cell? ⟨vb, vo + 4 + 3, none⟩ = some (.slice none 0 0) := cellLater hbW y4
  have q4 : W.cell? ⟨sb, F, none⟩ = some (.map (some b)) := cellLater hbW s1
  have hownW := hown.kept (grown_of_below hbW) (by simp)
  have y6W := y6.later hbW
  have n1 : sb ≠ b := cell_ne_map s1 hown
  have n2 : vb ≠ b := cell_ne_map y1 hown
  have hkey := key_of _ (elName_size (E 1) hE)
  have h2en : (1 : Int) < (en : Int) := by omega
  clear hb1 hb2 k11 k21 s11 y1 y2 y3 y4 y6 k1 k2 s1 hown hnil
  go_region_held (fun w' => w'.cell? ⟨vb, vo + 4, none⟩ = some (.int .u8 (E 1).kind) ∧ w'.cell? ⟨vb, vo + 4 + 1, none⟩ = some (.slice ya (E 1).len yc) ∧ w'.cell? ⟨vb, vo + 4 + 2, none⟩ = some (.int .i64 (E 1).num) ∧ w'.cell? ⟨vb, vo + 4 + 3, none⟩ = some (.slice none 0 0) ∧ w'.cell? ⟨sb, F, none⟩ = some (.map (some b))) (go_keep)
    ((go_at_call 29; refine (vBytes_any _ _ _ _ _ _ _ hE.1 hE.2).mono ?_; rintro e w2 ⟨rfl, hb3⟩; have hb4 : Below W.heap.size W w2 := ((Below.refl W.heap.size W).drew.trans hb3); have t0 := cellLater hb4 q0; have t1 := cellLater hb4 q1; have t2 := cellLater hb4 q2; have t3 := cellLater hb4 q3; have t4 := cellLater hb4 q4; have hcv : (convert 28 9 (.slice (subA (E 1).kind ya yc (E 1).num) ((E 1).len - subO (E 1).kind (E 1).num) (yc - subO (E 1).kind (E 1).num))).run Try.prog w2 = .ok (.string (elName (E 1))) w2 := conv_any (sub_bytes (y6W.later hb4) y5) _; have hown2 := hownW.kept (grown_of_below hb4) (by simp); obtain ⟨w3, hrun, hown3, hturn⟩ := hown2.drop law Try.underlying40 hkey 0; have hg3 := hturn.grown; have u0 := hg3.cell t0 (by simpa using n2); have u1 := hg3.cell t1 (by simpa using n2); have u2 := hg3.cell t2 (by simpa using n2); have u3 := hg3.cell t3 (by simpa using n2); have u4 := hg3.cell t4 (by simpa using n1)))
  go_wp2_with fail
  go_end0
  have hlt : sb < w.heap.size := lt_of_block HSB.out
  refine ⟨rfl, ?_, hown3, ?_⟩
  · rw [hg3.block _ (Nat.lt_of_lt_of_le hlt (Nat.le_trans hbW.size hb4.size)) (by simpa using n1), hb4.block _ (Nat.lt_of_lt_of_le hlt hbW.size), hbW.block _ hlt]; exact HSB.out
  · exact (Keeps.of_below (below_step hbW (Nat.le_refl _) hb4)).trans (Keeps.of_grown hg3 rfl)
end Go.Proofs.Qxb6603301a
