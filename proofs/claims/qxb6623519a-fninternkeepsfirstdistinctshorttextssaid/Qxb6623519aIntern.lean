/-
  (*skimmer).intern (8), ZZIntern (6), ZZMakeSkimmer (5), ZZInterned (7).
-/
import Derived.Test.Qxb6623519aMaps
import Derived.Deep.QuietTactic
import Derived.BigQuiet
namespace Go.Proofs.Qxb6623519a
open Go.RowKit Go.Maps

/-- The skimmer in block sb, whole: its field interned is r. -/
def Skim (w : World) (sb : Nat) (r : Option Nat) : Prop :=
  w.heap[sb]? = some (.cells #[.slice none 0 0, .int .i64 0, .int .i64 0, .bool false, .map r, .slice none 0 0, .slice none 0 0] 34 (0, 0))
theorem Skim.cell {w : World} {sb : Nat} {r : Option Nat} (h : Skim w sb r) : w.cell? ⟨sb, 4, none⟩ = some (.map r) := by
  rw [cell_of_row w sb 4 _ 34 (0, 0) h]; rfl
theorem Skim.free {w : World} {sb : Nat} {r : Option Nat} (h : Skim w sb r) (j : Nat) : w.frozen? ⟨sb, j, none⟩ = false := frozen_of_row w sb j _ 34 h
theorem Skim.lt {w : World} {sb : Nat} {r : Option Nat} (h : Skim w sb r) : sb < w.heap.size := (Array.getElem?_eq_some_iff.1 h).1
theorem Skim.store {w : World} {sb : Nat} {r : Option Nat} (h : Skim w sb r) (r' : Option Nat) : Skim (w.setCell ⟨sb, 4, none⟩ (.map r')) sb r' :=
  heap_setCell_same w sb 4 _ 34 (.map r') h

/-- The skimmer and its map, which holds just the texts of L; all of it from block base on. -/
def Held (w : World) (sb base : Nat) (r : Option Nat) (n : Nat) (L : List (List UInt8)) : Prop :=
  Skim w sb r ∧ base ≤ sb ∧ (r = none → L = []) ∧ ∀ b, r = some b → base ≤ b ∧ b ≠ sb ∧ MapIs w 9 fS b n L
/-- What intern leaves. -/
def Left (w w' : World) (sb base : Nat) (r : Option Nat) (n : Nat) (L : List (List UInt8)) (t : List UInt8) : Prop :=
  ∃ r', Held w' sb base r' (n + 1) (Pl.nextL L t) ∧ (r' = none ↔ r = none ∧ Pl.nextL L t = []) ∧ Below base w w'

/-- Nothing has turned, and the list is as it was. -/
theorem left_same {w : World} {sb base : Nat} {r : Option Nat} {n : Nat} {L : List (List UInt8)} {t : List UInt8} (h : Held w sb base r n L) (hL : Pl.nextL L t = L) (m : Nat) : Left w (w.drewN m) sb base r n L t := by
  obtain ⟨h1, h2, h3, h4⟩ := h
  refine ⟨r, ⟨h1, h2, by rw [hL]; exact h3, fun b hb => ?_⟩, ?_, below_drewN (Below.refl _ _) m⟩
  · obtain ⟨a1, a2, a3⟩ := h4 b hb
    rw [hL]
    exact ⟨a1, a2, (a3.drewN m).mono (Nat.le_succ _)⟩
  · rw [hL]
    exact ⟨fun e => ⟨e, h3 e⟩, fun e => e.1⟩

/-- The text has gone into the map. -/
theorem left_put {w w' : World} {sb base b : Nat} {n m : Nat} {L : List (List UInt8)} {t : List UInt8} (h : Held w sb base (some b) n L) (hbs : base ≤ w.heap.size) (hl : t.length ≤ 64) (hin : L.contains t = false) (hroom : L.length < 4096)
    (hm : MapIs w' 9 fS b (n + 1) (Pl.addL L t)) (hg : (w.drewN m).grownBy w' (some b)) : Left w w' sb base (some b) n L t := by
  obtain ⟨h1, h2, h3, h4⟩ := h
  obtain ⟨a1, a2, a3⟩ := h4 b rfl
  have e1 : Pl.nextL L t = L ++ [t] := by unfold Pl.nextL; rw [if_neg (by omega), if_neg (by rw [hin]; simp), if_pos hroom]
  have e2 : Pl.addL L t = L ++ [t] := by unfold Pl.addL; rw [if_neg (by rw [hin]; simp)]
  have hsb : w'.heap[sb]? = w.heap[sb]? := hg.block sb h1.lt (fun e => a2 (by injection e with e; exact e.symm))
  refine ⟨some b, ⟨hsb.trans h1, h2, (fun e => by cases e), fun b' hb => ?_⟩, ?_, ?_⟩
  · injection hb with hb
    subst hb
    rw [e1, ← e2]
    exact ⟨a1, a2, hm⟩
  · rw [e1]
    simp
  · exact (below_drewN (Below.refl base w) m).grown hg hbs (fun k hk => by injection hk with hk; omega)

/-- A map has been made, the text laid in it, the map stored in the field. -/
theorem left_made {w w1 : World} {sb base : Nat} {n m : Nat} {L : List (List UInt8)} {t : List UInt8} (h : Held w sb base none n L) (hbs : base ≤ w.heap.size) (hl : t.length ≤ 64)
    (hm : MapIs w1 9 fS w.heap.size 1 (Pl.addL [] t)) (hg : ((w.drewN m).alloc (.map #[] 0)).grownBy w1 (some w.heap.size)) :
    Skim w1 sb none ∧ Left w (w1.setCell ⟨sb, 4, none⟩ (.map (some w.heap.size))) sb base none n L t := by
  obtain ⟨h1, h2, h3, h4⟩ := h
  have hL := h3 rfl
  subst hL
  have hlt := h1.lt
  have hne : w.heap.size ≠ sb := by omega
  have hsz : ((w.drewN m).alloc (.map #[] 0)).heap.size = w.heap.size + 1 := by simp
  have e0 : ((w.drewN m).alloc (.map #[] 0)).heap[sb]? = w.heap[sb]? := Below.heap_alloc (w.drewN m) _ sb hlt
  have hsb : w1.heap[sb]? = w.heap[sb]? := (hg.block sb (by rw [hsz]; omega) (fun e => hne (by injection e with e; exact e.symm))).trans e0
  have hk : Skim w1 sb none := hsb.trans h1
  have e1 : Pl.nextL [] t = [t] := by unfold Pl.nextL; rw [if_neg (by omega)]; rfl
  have e2 : Pl.addL [] t = [t] := rfl
  refine ⟨hk, some w.heap.size, ⟨hk.store _, h2, (fun e => by cases e), fun b' hb => ?_⟩, ?_, ?_⟩
  · injection hb with hb
    subst hb
    rw [e1, ← e2]
    exact ⟨hbs, hne, (hm.setCell (by exact hne) _).mono (by omega)⟩
  · rw [e1]
    simp
  · refine Below.setCell ?_ (by exact h2) _
    refine Below.grown ?_ hg (by rw [hsz]; omega) (fun k hk => by injection hk with hk; omega)
    exact (below_drewN (Below.refl base w) m).alloc hbs _

theorem ret_str {a b : ByteArray} (h : a = b) : Ending.returned (.string a) = .returned (.string b) := by rw [h]

section
variable {w : World} {sb base : Nat} {r : Option Nat} {n : Nat} {L : List (List UInt8)} {v : Option Addr} {l c : Nat} {t : ByteArray}

set_option maxRecDepth 100000 in
set_option maxHeartbeats 400000 in
/-- A long text. -/
theorem intern_long (hH : Held w sb base r n L) (ht : t.size = l) (h64 : 64 < l) (hcv : (convert 25 9 (.slice v l c)).run Try.prog w = .ok (.string t) w) :
    Calls Try.prog 8 #[.pointer (some ⟨sb, 0, none⟩), .slice v l c] w fun e w' => e = .returned (.string t) ∧ Left w w' sb base r n L t.data.toList := by
  have HL := left_same hH (t := t.data.toList) (by unfold Pl.nextL; rw [if_pos]; rw [← ht] at h64; exact h64) 0
  clear hH
  go_enter Try.func8, Try.ntmps8
  go_wp2
  go_ret
  exact ⟨rfl, HL⟩

set_option maxRecDepth 100000 in
set_option maxHeartbeats 400000 in
/-- A short text that is there. -/
theorem intern_found (b : Nat) (hH : Held w sb base (some b) n L) (ht : t.size = l) (hl : l ≤ 64) (hcv : ∀ m, (convert 25 9 (.slice v l c)).run Try.prog (w.drewN m) = .ok (.string t) (w.drewN m)) (hin : L.contains t.data.toList = true) :
    Calls Try.prog 8 #[.pointer (some ⟨sb, 0, none⟩), .slice v l c] w fun e w' => e = .returned (.string t) ∧ Left w w' sb base (some b) n L t.data.toList := by
  have HL := fun m => left_same hH (t := t.data.toList) (by unfold Pl.nextL; rw [if_neg (by show ¬ 64 < t.size; omega), if_pos hin]) m
  have hlk : ∀ m, (Instr.lookup 27 (.map (some b)) (.string t) true).run Try.prog (w.drewN m) = .ok (.tuple #[.string t, .bool true]) (w.drewN m) := fun m => by
    have := ((hH.2.2.2 b rfl).2.2.drewN m).lookS (s := t) (by unfold maxLen; omega)
    rw [hin] at this
    exact this
  have hc := hH.1.cell
  clear hH hin
  go_enter Try.func8, Try.ntmps8
  go_wp2
  go_quiet (fail)
  go_wp2
  go_ret
  exact ⟨rfl, HL _⟩

set_option maxRecDepth 100000 in
set_option maxHeartbeats 400000 in
/-- A short text that is not there, the map full. -/
theorem intern_full (b : Nat) (hH : Held w sb base (some b) n L) (ht : t.size = l) (hl : l ≤ 64) (hcv : ∀ m, (convert 25 9 (.slice v l c)).run Try.prog (w.drewN m) = .ok (.string t) (w.drewN m)) (hin : L.contains t.data.toList = false) (hfull : 4096 ≤ L.length) :
    Calls Try.prog 8 #[.pointer (some ⟨sb, 0, none⟩), .slice v l c] w fun e w' => e = .returned (.string t) ∧ Left w w' sb base (some b) n L t.data.toList := by
  have HL := fun m => left_same hH (t := t.data.toList) (by unfold Pl.nextL; rw [if_neg (by show ¬ 64 < t.size; omega), if_neg (by rw [hin]; simp), if_neg (by omega)]) m
  have hlk : ∀ m, (Instr.lookup 27 (.map (some b)) (.string t) true).run Try.prog (w.drewN m) = .ok (.tuple #[.string ByteArray.empty, .bool false]) (w.drewN m) := fun m => by
    have := ((hH.2.2.2 b rfl).2.2.drewN m).lookS (s := t) (by unfold maxLen; omega)
    rw [hin] at this
    exact this
  have hlen : ∀ m ty, (Builtin.len_ #[27] ty #[.map (some b)]).run Try.prog (w.drewN m) = .ok (.int .i64 L.length) (w.drewN m) := fun m ty => ((hH.2.2.2 b rfl).2.2.drewN m).len ty
  have hnil : ∀ (w : World) (r : Option Nat), (binOp .eql 27 (.map r) (.map none)).run Try.prog w = .ok (.bool r.isNone) w := fun w r => run_eql_map_nil w _ _ _ r Try.underlying27
  have hc := hH.1.cell
  have hf : ¬ ((L.length : Int) < 4096) := by omega
  clear hH hin
  go_enter Try.func8, Try.ntmps8
  go_wp2
  go_quiet (fail)
  go_wp2
  go_ret
  exact ⟨rfl, HL _⟩

set_option maxRecDepth 100000 in
set_option maxHeartbeats 400000 in
/-- A short text that is not there, and there is room. -/
theorem intern_room (b : Nat) (hH : Held w sb base (some b) n L) (hbs : base ≤ w.heap.size) (hn : n < maxLen) (ht : t.size = l) (hl : l ≤ 64) (hcv : ∀ m, (convert 25 9 (.slice v l c)).run Try.prog (w.drewN m) = .ok (.string t) (w.drewN m)) (hin : L.contains t.data.toList = false) (hroom : L.length < 4096) :
    Calls Try.prog 8 #[.pointer (some ⟨sb, 0, none⟩), .slice v l c] w fun e w' => e = .returned (.string t) ∧ Left w w' sb base (some b) n L t.data.toList := by
  have HL := fun m w' => left_put (m := m) (w' := w') hH hbs (by show t.size ≤ 64; omega) hin hroom
  have hlk : ∀ m, (Instr.lookup 27 (.map (some b)) (.string t) true).run Try.prog (w.drewN m) = .ok (.tuple #[.string ByteArray.empty, .bool false]) (w.drewN m) := fun m => by
    have := ((hH.2.2.2 b rfl).2.2.drewN m).lookS (s := t) (by unfold maxLen; omega)
    rw [hin] at this
    exact this
  have hlen : ∀ m ty, (Builtin.len_ #[27] ty #[.map (some b)]).run Try.prog (w.drewN m) = .ok (.int .i64 L.length) (w.drewN m) := fun m ty => ((hH.2.2.2 b rfl).2.2.drewN m).len ty
  have hnil : ∀ (w : World) (r : Option Nat), (binOp .eql 27 (.map r) (.map none)).run Try.prog w = .ok (.bool r.isNone) w := fun w r => run_eql_map_nil w _ _ _ r Try.underlying27
  have hc := hH.1.cell
  have hf : (L.length : Int) < 4096 := by omega
  have HM : Hid (MapIs w 9 fS b n L) := (hH.2.2.2 b rfl).2.2
  have hts : t.size ≤ maxLen := by unfold maxLen; omega
  clear hH hin
  go_enter Try.func8, Try.ntmps8
  go_wp2
  go_quiet (fail)
  obtain ⟨w1, hrun, hm1, hg1⟩ := (HM.out.drewN nq).store Try.underlying27 hts hn (val := .string t) (plainElem_string Try.underlying9 hts)
  have HL1 := HL _ _ hm1 hg1
  clear hm1 hg1 HL HM
  go_wp2
  go_ret
  exact ⟨rfl, HL1⟩

set_option maxRecDepth 100000 in
set_option maxHeartbeats 400000 in
/-- A short text, the map nil. -/
theorem intern_nil (hH : Held w sb base none n L) (hbs : base ≤ w.heap.size) (ht : t.size = l) (hl : l ≤ 64) (hcv : ∀ m, (convert 25 9 (.slice v l c)).run Try.prog (w.drewN m) = .ok (.string t) (w.drewN m)) :
    Calls Try.prog 8 #[.pointer (some ⟨sb, 0, none⟩), .slice v l c] w fun e w' => e = .returned (.string t) ∧ Left w w' sb base none n L t.data.toList := by
  have hts : t.size ≤ maxLen := by unfold maxLen; omega
  have hlk : ∀ m, (Instr.lookup 27 (.map none) (.string t) true).run Try.prog (w.drewN m) = .ok (.tuple #[.string ByteArray.empty, .bool false]) (w.drewN m) := fun m => lookS_nil _ hts
  have hnil : ∀ (w : World) (r : Option Nat), (binOp .eql 27 (.map r) (.map none)).run Try.prog w = .ok (.bool r.isNone) w := fun w r => run_eql_map_nil w _ _ _ r Try.underlying27
  have hc := hH.1.cell
  have HH : Hid (Held w sb base none n L) := hH
  have hmm := @run_makeMap Try.prog
  clear hH
  go_enter Try.func8, Try.ntmps8
  go_wp2
  go_quiet (fail)
  obtain ⟨w1, hrun0, hm1, hg1⟩ := MapIs.store Try.underlying27 (mapIs_made (w.drewN nq) 9 fS) hts (by decide) (val := .string t) (plainElem_string Try.underlying9 hts)
  have hrun : (Instr.mapUpdate 27 (.map (some w.heap.size)) (.string t) (.string t)).run Try.prog ((w.drewN nq).alloc (.map #[] 0)) = .ok () w1 := hrun0
  obtain ⟨hs1, HL⟩ := left_made HH.out hbs (by show t.data.toList.length ≤ 64; show t.size ≤ 64; omega) hm1 hg1
  have hc1 := hs1.cell
  have hf1 := hs1.free 4
  clear hm1 hg1 hrun0 hs1 HH
  go_wp2
  go_ret
  exact ⟨rfl, HL⟩
/-- intern, whatever the text and the map. -/
theorem intern_any (hH : Held w sb base r n L) (hbs : base ≤ w.heap.size) (hn : n < maxLen) (ht : t.size = l) (hcv : ∀ m, (convert 25 9 (.slice v l c)).run Try.prog (w.drewN m) = .ok (.string t) (w.drewN m)) :
    Calls Try.prog 8 #[.pointer (some ⟨sb, 0, none⟩), .slice v l c] w fun e w' => e = .returned (.string t) ∧ Left w w' sb base r n L t.data.toList := by
  by_cases h64 : 64 < l
  · exact intern_long hH ht h64 (hcv 0)
  · cases r with
    | none => exact intern_nil hH hbs ht (by omega) hcv
    | some b =>
      cases hin : L.contains t.data.toList
      · by_cases hr : L.length < 4096
        · exact intern_room b hH hbs hn ht (by omega) hcv hin hr
        · exact intern_full b hH ht (by omega) hcv hin (by omega)
      · exact intern_found b hH ht (by omega) hcv hin

set_option maxRecDepth 100000 in
set_option maxHeartbeats 400000 in
theorem zzintern_any (hH : Held w sb base r n L) (hbs : base ≤ w.heap.size) (hn : n < maxLen) (ht : t.size = l) (hcv : ∀ m, (convert 25 9 (.slice v l c)).run Try.prog (w.drewN m) = .ok (.string t) (w.drewN m)) :
    Calls Try.prog 6 #[.pointer (some ⟨sb, 0, none⟩), .slice v l c] w fun e w' => e = .returned (.string t) ∧ Left w w' sb base r n L t.data.toList := by
  have H8 := intern_any hH hbs hn ht hcv
  have H : Hid (Calls Try.prog 8 #[.pointer (some ⟨sb, 0, none⟩), .slice v l c] w fun e w' => e = .returned (.string t) ∧ Left w w' sb base r n L t.data.toList) := H8
  clear H8 hH hcv ht
  go_enter Try.func6, Try.ntmps6
  go_wp2_with fail
  refine H.out.mono ?_
  rintro e w1 ⟨rfl, hl⟩
  go_wp2_with fail
  go_ret
  exact ⟨rfl, hl⟩
end

set_option maxRecDepth 100000 in
set_option maxHeartbeats 400000 in
theorem make_any (r : Option Nat) (w : World) :
    Calls Try.prog 5 #[.map r] w fun e w' => e = .returned (.pointer (some ⟨w.heap.size, 0, none⟩)) ∧ w' = w.alloc (.cells #[.slice none 0 0, .int .i64 0, .int .i64 0, .bool false, .map r, .slice none 0 0, .slice none 0 0] 34) := by
  go_enter Try.func5, Try.ntmps5
  go_wp2
  go_ret
  exact ⟨rfl, rfl⟩
set_option maxRecDepth 100000 in
set_option maxHeartbeats 400000 in
theorem interned_any (r : Option Nat) (sb : Nat) (w : World) (hc : w.cell? ⟨sb, 4, none⟩ = some (.map r)) :
    Calls Try.prog 7 #[.pointer (some ⟨sb, 0, none⟩)] w fun e w' => e = .returned (.map r) ∧ w' = w := by
  go_enter Try.func7, Try.ntmps7
  go_wp2
  go_ret
  exact ⟨rfl, rfl⟩
end Go.Proofs.Qxb6623519a
