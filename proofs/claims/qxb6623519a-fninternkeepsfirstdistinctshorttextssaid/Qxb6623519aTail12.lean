/-
  Statements 12 to 14 of the body: the model's fresh texts.
-/
import Derived.Test.Qxb6623519aTail15
namespace Go.Proofs.Qxb6623519a
open Go.RowKit Go.Maps

theorem info9 : (Try.prog.info? 9).map (fun i => (i.zero, i.size, i.bytes)) = some (some (.string ByteArray.empty), 1, 16) := by kernel_rfl

/-- A list of bytes as a string's value. -/
def strV (l : List UInt8) : Value := .string ⟨l.toArray⟩
theorem strV_of (t : ByteArray) : strV t.data.toList = .string t := by
  unfold strV
  congr 1
theorem fT_short (D : List (List UInt8)) (tb : Nat → ByteArray) : ∀ i, ∀ x ∈ Pl.fT D tb i, x.length ≤ 64
  | 0, x, h => by simp [Pl.fT] at h
  | i + 1, x, h => by
    have ih := fT_short D tb i
    have h' : x ∈ Pl.addF D (Pl.fT D tb i) (tb i).data.toList := h
    unfold Pl.addF at h'
    split at h'
    · exact ih x h'
    · split at h'
      · exact ih x h'
      · rename_i h64 _
        simp only [List.mem_append, List.mem_singleton] at h'
        rcases h' with h' | h'
        · exact ih x h'
        · subst h'; omega
theorem row_form {w : World} {base : Nat} {e : TypeId} {size : Nat} {v : Value} {n : Nat} {xs : List Value} (h : w.ownsRow base e size v n xs) : ∃ fa fc, v = .slice fa n fc := by
  rcases h.2 with ⟨hv, h0⟩ | ⟨g, cap, cur, hv, _⟩
  · exact ⟨none, 0, by rw [hv, h0]⟩
  · exact ⟨_, _, hv⟩
theorem row_ne {w : World} {base : Nat} {e : TypeId} {size : Nat} {v : Value} {n : Nat} {xs : List Value} (h : w.ownsRow base e size v n xs) {b : Nat} (hb : b < base) : some b ≠ v.ownBlock := fun e1 => by
  have := (h.lt b e1.symm).1
  omega
/-- The fresh slice, as the last loop asks for it. -/
theorem row_strs {w : World} {base : Nat} {fa : Option Addr} {fc : Nat} {F : List (List UInt8)} (h : w.ownsRow base 9 1 (.slice fa F.length fc) F.length (F.map strV)) (hs : ∀ x ∈ F, x.length ≤ 64) :
    Strs w fa F.length (fun j => ⟨(F.getD j []).toArray⟩) := by
  intro j hj
  have hx : F.getD j [] = F[j] := by simp [List.getD, List.getElem?_eq_getElem hj]
  rcases h.2 with ⟨hv, h0⟩ | ⟨g, cap, cur, hv, hb, hg, _⟩
  · omega
  · injection hv with hv1 hv2 hv3
    subst hv1
    have hlt : g < w.heap.size := (Array.getElem?_eq_some_iff.1 hg).1
    refine ⟨g, 0, rfl, hlt, ?_, ?_⟩
    · have h' : w.ownsRow base 9 1 (.slice (some ⟨g, 0, none⟩) F.length fc) F.length (F.map strV) := h
      rw [Nat.zero_add, h'.cellAt j (by omega)]
      simp only [List.getElem?_map, List.getElem?_eq_getElem hj, hx]
      rfl
    · show (F.getD j []).toArray.size ≤ maxLen
      rw [hx]
      have := hs F[j] (List.getElem_mem hj)
      simp only [List.size_toArray]
      unfold maxLen
      omega

theorem one_str (t : ByteArray) : ∀ u ∈ [Value.string t], u.oneCell' = true := by
  intro u hu
  simp at hu
  subst hu
  rfl
/-- What the loop keeps: the set and the slice of the fresh texts. -/
def Fresh (w wr : World) (D : List (List UInt8)) (tb : Nat → ByteArray) (v : Value) (k : Nat) : Prop :=
  MapIs wr 4 fB w.heap.size k (Pl.fT D tb k) ∧ wr.ownsRow (w.heap.size + 1) 9 1 v (Pl.fT D tb k).length ((Pl.fT D tb k).map strV) ∧ Below w.heap.size w wr ∧ w.heap.size + 1 ≤ wr.heap.size
/-- A text that is passed over. -/
theorem Fresh.pass {w wr : World} {D : List (List UInt8)} {tb : Nat → ByteArray} {v : Value} {k : Nat} (h : Fresh w wr D tb v k) (e : Pl.fT D tb (k + 1) = Pl.fT D tb k) : Fresh w wr D tb v (k + 1) := by
  obtain ⟨h1, h2, h3, h4⟩ := h
  exact ⟨by rw [e]; exact h1.mono (Nat.le_succ _), by rw [e]; exact h2, h3, h4⟩
/-- A fresh one. -/
theorem Fresh.add {w wr w1 w2 : World} {D : List (List UInt8)} {tb : Nat → ByteArray} {v v' : Value} {k : Nat} {t : ByteArray} {o : Obj} (h : Fresh w wr D tb v k) (ht : tb k = t) (h64 : ¬ 64 < t.size) (hD : D.contains t.data.toList = false) (hF : (Pl.fT D tb k).contains t.data.toList = false)
    (hm : MapIs w1 4 fB w.heap.size (k + 1) (Pl.addL (Pl.fT D tb k) t.data.toList)) (hg : wr.grownBy w1 (some w.heap.size))
    (hown : w2.ownsRow (w.heap.size + 1) 9 1 v' ((Pl.fT D tb k).length + 1) ((Pl.fT D tb k).map strV ++ [.string t])) (hg2 : (w1.alloc o).grownBy w2 v.ownBlock) : Fresh w w2 D tb v' (k + 1) := by
  obtain ⟨h1, h2, h3, h4⟩ := h
  have e1 : Pl.fT D tb (k + 1) = Pl.fT D tb k ++ [t.data.toList] := by
    show Pl.addF D (Pl.fT D tb k) (tb k).data.toList = _
    rw [ht]
    unfold Pl.addF
    rw [if_neg (by exact h64), if_neg (by rw [hD, hF]; simp)]
  have e2 : Pl.addL (Pl.fT D tb k) t.data.toList = Pl.fT D tb k ++ [t.data.toList] := by unfold Pl.addL; rw [if_neg (by rw [hF]; simp)]
  have s1 := hg.size
  have s2 := hg2.size
  have s3 : (w1.alloc o).heap.size = w1.heap.size + 1 := by simp
  have hb1 : Below w.heap.size w w1 := h3.grown hg h3.size (fun j hj => by injection hj with hj; omega)
  refine ⟨?_, ?_, ?_, by omega⟩
  · rw [e1, ← e2]
    exact (hm.alloc o).kept hg2 (row_ne h2 (Nat.lt_succ_self _))
  · rw [e1]
    simpa [strV_of] using hown
  · exact (hb1.alloc (by omega) o).grown hg2 (by omega) (fun j hj => Nat.le_trans (Nat.le_succ _) (h2.lt j hj).1)

set_option maxRecDepth 1000000 in
set_option maxHeartbeats 4000000 in
theorem tail12 {c2 c3 c4 c5 c6 c7 c10 c12 c13 c14 c15 c16 c17 c18 c19 c20 c21 c22 c23 c24 c25 c26 c27 c28 c29 c30 c31 c32 c33 c34 c35 c36 c37 c38 c39 c40 c41 c42 c43 c44 c45 c46 c47 c48 c49 c50 c51 c52 c53 c54 c55 c56 c57 c58 c59 c60 c61 c62 c63 c64 c65 c66 c67 c68 c69 c70 c71 c72 c73 c74 c75 c76 c77 c78 c79 c80 c81 c82 c83 c84 c85 c86 c87 c88 c89 c90 c91 c92 c93 c94 c95 c96 c97 c98 c99 c100 c101 c102 c103 c104 c105 c106 c107 c108 c109 c110 c111 c112 c113 c114 c115 c116 c117 c118 c119 c120 c121 c122 c123 c124 c125 c126 c127 c128 c129 c130 c131 c132 c133 c134 c135 c136 c137 c138 c139 c140 c141 c142 c143 c144 c145 c146 c147 c148 c149 c150 c151 c152 c153 c154 c155 c156 c157 c158 c159 c160 c161 c162 c163 c164 c165 c166 c167 c168 c169 c170 c171 c172 c173 c174 c175 c176 c177 c178 c179 c180 c181 c182 c183 c184 c185 c186 c187 c188 c189 c190 c191 c192 c193 c194 c195 c196 c197 c198 c199 c200 c201 c202 c203 c204 c205 c206 c207 c208 c209 c210 c211 c212 c213 c214 c215 c216 c217 c218 c219 c220 c221 c222 c223 c224 c225 c226 c227 c228 c229 c230 c231 c232 c233 c234 c235 c236 c237 c238 c239 c240 c241 c242 c243 : Value} {w0 w : World} {ka ta : Option Addr} {kn kc tn tc rm bk : Nat} {va : Nat → Option Addr} {vl vc : Nat → Nat} {kb tb : Nat → ByteArray}
    (hI : Ins w0 ka kn kb ta tn va vl vc tb) (hkn : kn ≤ 65536) (htn : tn ≤ 65536) (hB : Below w0.heap.size w0 w) (hbk : MapIs w 4 fB bk kn (Pl.dK kb kn)) (hrm : rm = 4096 - (Pl.dK kb kn).length) :
    Rest 12 w0 ⟨((.slice ka kn kc) :: (.slice ta tn tc) :: c2 :: c3 :: c4 :: c5 :: c6 :: c7 :: (.map (some bk)) :: (.int .i64 (((Pl.dK kb kn).length : Nat) : Int)) :: c10 :: (.int .i64 (rm : Int)) :: c12 :: c13 :: c14 :: c15 :: c16 :: c17 :: c18 :: c19 :: c20 :: c21 :: c22 :: c23 :: c24 :: c25 :: c26 :: c27 :: c28 :: c29 :: c30 :: c31 :: c32 :: c33 :: c34 :: c35 :: c36 :: c37 :: c38 :: c39 :: c40 :: c41 :: c42 :: c43 :: c44 :: c45 :: c46 :: c47 :: c48 :: c49 :: c50 :: c51 :: c52 :: c53 :: c54 :: c55 :: c56 :: c57 :: c58 :: c59 :: c60 :: c61 :: c62 :: c63 :: c64 :: c65 :: c66 :: c67 :: c68 :: c69 :: c70 :: c71 :: c72 :: c73 :: c74 :: c75 :: c76 :: c77 :: c78 :: c79 :: c80 :: c81 :: c82 :: c83 :: c84 :: c85 :: c86 :: c87 :: c88 :: c89 :: c90 :: c91 :: c92 :: c93 :: c94 :: c95 :: c96 :: c97 :: c98 :: c99 :: c100 :: c101 :: c102 :: c103 :: c104 :: c105 :: c106 :: c107 :: c108 :: c109 :: c110 :: c111 :: c112 :: c113 :: c114 :: c115 :: c116 :: c117 :: c118 :: c119 :: c120 :: c121 :: c122 :: c123 :: c124 :: c125 :: c126 :: c127 :: c128 :: c129 :: c130 :: c131 :: c132 :: c133 :: c134 :: c135 :: c136 :: c137 :: c138 :: c139 :: c140 :: c141 :: c142 :: c143 :: c144 :: c145 :: c146 :: c147 :: c148 :: c149 :: c150 :: c151 :: c152 :: c153 :: c154 :: c155 :: c156 :: c157 :: c158 :: c159 :: c160 :: c161 :: c162 :: c163 :: c164 :: c165 :: c166 :: c167 :: c168 :: c169 :: c170 :: c171 :: c172 :: c173 :: c174 :: c175 :: c176 :: c177 :: c178 :: c179 :: c180 :: c181 :: c182 :: c183 :: c184 :: c185 :: c186 :: c187 :: c188 :: c189 :: c190 :: c191 :: c192 :: c193 :: c194 :: c195 :: c196 :: c197 :: c198 :: c199 :: c200 :: c201 :: c202 :: c203 :: c204 :: c205 :: c206 :: c207 :: c208 :: c209 :: c210 :: c211 :: c212 :: c213 :: c214 :: c215 :: c216 :: c217 :: c218 :: c219 :: c220 :: c221 :: c222 :: c223 :: c224 :: c225 :: c226 :: c227 :: c228 :: c229 :: c230 :: c231 :: c232 :: c233 :: c234 :: c235 :: c236 :: c237 :: c238 :: c239 :: c240 :: c241 :: c242 :: c243 :: []).toArray, []⟩ w := by
  have hmm := @run_makeMap Try.prog
  obtain ⟨i0, hi, hz0, hz1, hz2⟩ := info_parts info9
  have HI : Hid (Ins w0 ka kn kb ta tn va vl vc tb) := hI
  have HB : Hid (Below w0.heap.size w0 w) := hB
  have HK : Hid (MapIs w 4 fB bk kn (Pl.dK kb kn)) := hbk
  have HR : Hid (rm = 4096 - (Pl.dK kb kn).length) := hrm
  have HIN : Hid (Try.prog.info? 9 = some i0 ∧ i0.zero = some (.string ByteArray.empty) ∧ i0.size = 1 ∧ i0.bytes = 16) := ⟨hi, hz0, hz1, hz2⟩
  clear hI hB hbk hrm hi hz0 hz1 hz2
  refine rest_step 12 (by kernel_rfl) ?_
  conv => arg 2; whnf
  go_wp2
  refine rest_step 13 (by kernel_rfl) ?_
  conv => arg 2; whnf
  go_wp2
  refine rest_step 14 (by kernel_rfl) ?_
  conv => arg 2; whnf
  go_wp2
  go_loopw [12, 14] (fun v i wr => ∃ (k : Nat) (fa : Option Addr) (fc : Nat), k ≤ tn ∧ v = .slice fa (Pl.fT (Pl.dK kb kn) tb k).length fc ∧ i = .int .i64 k ∧ Fresh w wr (Pl.dK kb kn) tb v k) (fun _ i _ => tn - (intOf i).toNat)
  case atStart => exact ⟨0, none, 0, Nat.zero_le _, rfl, rfl, mapIs_made w 4 fB, World.ownsRow_nil _ _ _ _, (Below.refl _ _).alloc (Nat.le_refl _) _, by simp⟩
  case round =>
    obtain ⟨k, fa, fc, hk, rfl, rfl, hfr⟩ := hrel
    have hfl := Pl.fT_le (Pl.dK kb kn) tb k
    by_cases hlt : k < tn
    · obtain ⟨b, o, v, l, c, t, htb, -, hts, hlm, hix, hc0, hcv0⟩ := HI.out.text hlt tc
      have hB1 : Below w0.heap.size w0 wr := HB.out.trans (hfr.2.2.1.mono HB.out.size)
      have hc := hc0 wr hB1
      have hcv := hcv0 wr hB1
      by_cases h64 : 64 < l
      · have HN := hfr.pass (by show Pl.addF _ _ _ = _; unfold Pl.addF; rw [htb, if_pos (by rw [← hts] at h64; exact h64)])
        have HN' : Hid (Fresh w wr (Pl.dK kb kn) tb (.slice fa (Pl.fT (Pl.dK kb kn) tb k).length fc) (k + 1)) := HN
        have HL : Hid ((Pl.fT (Pl.dK kb kn) tb (k + 1)).length = (Pl.fT (Pl.dK kb kn) tb k).length) := by
          have e : Pl.fT (Pl.dK kb kn) tb (k + 1) = Pl.fT (Pl.dK kb kn) tb k := by show Pl.addF _ _ _ = _; unfold Pl.addF; rw [htb, if_pos (by rw [← hts] at h64; exact h64)]
          show _ = _
          rw [e]
        clear HN hfr hc0 hcv0 hcv hB1 htb hts hmm
        go_wp2
        go_roundw
        case rel => exact ⟨k + 1, fa, fc, by omega, by rw [HL.out], by go_num, HN'.out⟩
        case measure => simp [intOf]; omega
      · have htm : t.size ≤ maxLen := by rw [hts]; exact hlm
        have h64' : ¬ 64 < t.size := by omega
        have hlkK := (HK.out.below hfr.2.2.1 HK.out.lt).lookB htm
        have hlkF := hfr.1.lookB htm
        cases hD0 : (Pl.dK kb kn).contains t.data.toList
        · cases hF0 : (Pl.fT (Pl.dK kb kn) tb k).contains t.data.toList
          · rw [hD0] at hlkK
            rw [hF0] at hlkF
            obtain ⟨w1, hrun, hm1, hg1⟩ := hfr.1.store Try.underlying26 htm (by unfold maxLen; omega) (val := .bool true) (plainElem_bool Try.underlying4 true)
            have HX : Hid (∀ (v' : Value) (w2 : World), w2.ownsRow (w.heap.size + 1) 9 1 v' ((Pl.fT (Pl.dK kb kn) tb k).length + 1) ((Pl.fT (Pl.dK kb kn) tb k).map strV ++ [.string t]) → (w1.alloc (.cells #[.string t] 9)).grownBy w2 (Value.slice fa (Pl.fT (Pl.dK kb kn) tb k).length fc).ownBlock → Fresh w w2 (Pl.dK kb kn) tb v' (k + 1)) :=
              fun v' w2 a1 a2 => hfr.add htb h64' hD0 hF0 hm1 hg1 a1 a2
            have HL : Hid ((Pl.fT (Pl.dK kb kn) tb (k + 1)).length = (Pl.fT (Pl.dK kb kn) tb k).length + 1) := by
              have e : Pl.fT (Pl.dK kb kn) tb (k + 1) = Pl.fT (Pl.dK kb kn) tb k ++ [t.data.toList] := by
                show Pl.addF _ _ _ = _
                unfold Pl.addF
                rw [htb, if_neg (by exact h64'), if_neg (by rw [hD0, hF0]; simp)]
              show _ = _
              rw [e]
              simp
            have HO : Hid (w1.ownsRow (w.heap.size + 1) 9 1 (.slice fa (Pl.fT (Pl.dK kb kn) tb k).length fc) (Pl.fT (Pl.dK kb kn) tb k).length ((Pl.fT (Pl.dK kb kn) tb k).map strV)) := hfr.2.1.kept hg1 (Or.inr (row_ne hfr.2.1 (Nat.lt_succ_self _)).symm)
            have hz1 : w.heap.size + 1 ≤ w1.heap.size := Nat.le_trans hfr.2.2.2 hg1.size
            clear hfr hc0 hcv0 hB1 htb hts hmm hD0 hF0 hm1 hg1
            go_wp2_with (at_builtin; refine wpList_append_own _ rfl _ _ 22 rfl (w.heap.size + 1) 9 i0 (.string ByteArray.empty) 1 16 Try.underlying22 HIN.out.1 HIN.out.2.1 HIN.out.2.2.1 HIN.out.2.2.2 rfl (by decide) _ _ _ rfl (HO.out.alloc _) ⟨w1.heap.size, 0, none⟩ 1 1 [.string t] rfl rfl (cell_one_new _ _ _) (one_str t) (by unfold maxLen; omega) (by omega) (by simp; omega) ?_; intro v' w2 hown' hgrow2 hnil2)
            have hfin := HX.out v' w2 hown' hgrow2
            obtain ⟨fa', fc', hv'⟩ := row_form hown'
            clear hown' hgrow2 hnil2 hlkK hlkF hrun hcv hc
            go_wp2
            go_roundw
            case rel => exact ⟨k + 1, fa', fc', by omega, by rw [HL.out]; exact hv', by go_num, hfin⟩
            case measure => simp [intOf]; omega
          · rw [hD0] at hlkK
            rw [hF0] at hlkF
            have hpass : Pl.fT (Pl.dK kb kn) tb (k + 1) = Pl.fT (Pl.dK kb kn) tb k := by
              show Pl.addF _ _ _ = _
              unfold Pl.addF
              rw [htb, if_neg (by exact h64'), if_pos (by rw [hD0, hF0]; rfl)]
            have HN' : Hid (Fresh w wr (Pl.dK kb kn) tb (.slice fa (Pl.fT (Pl.dK kb kn) tb k).length fc) (k + 1)) := hfr.pass hpass
            have HL : Hid ((Pl.fT (Pl.dK kb kn) tb (k + 1)).length = (Pl.fT (Pl.dK kb kn) tb k).length) := by
              show _ = _
              rw [hpass]
            clear hpass hfr hc0 hcv0 hB1 htb hts hmm hD0 hF0
            go_wp2
            go_roundw
            case rel => exact ⟨k + 1, fa, fc, by omega, by rw [HL.out], by go_num, HN'.out⟩
            case measure => simp [intOf]; omega
        · rw [hD0] at hlkK
          have hF0 : True := trivial
          clear hlkF
          have hpass : Pl.fT (Pl.dK kb kn) tb (k + 1) = Pl.fT (Pl.dK kb kn) tb k := by
            show Pl.addF _ _ _ = _
            unfold Pl.addF
            rw [htb, if_neg (by exact h64'), if_pos (by rw [hD0]; rfl)]
          have HN' : Hid (Fresh w wr (Pl.dK kb kn) tb (.slice fa (Pl.fT (Pl.dK kb kn) tb k).length fc) (k + 1)) := hfr.pass hpass
          have HL : Hid ((Pl.fT (Pl.dK kb kn) tb (k + 1)).length = (Pl.fT (Pl.dK kb kn) tb k).length) := by
            show _ = _
            rw [hpass]
          clear hpass hfr hc0 hcv0 hB1 htb hts hmm hD0 hF0
          go_wp2
          go_roundw
          case rel => exact ⟨k + 1, fa, fc, by omega, by rw [HL.out], by go_num, HN'.out⟩
          case measure => simp [intOf]; omega
    · obtain rfl : k = tn := by omega
      clear hmm
      go_wp2
      exact tail15 HI.out hkn htn (HB.out.trans (hfr.2.2.1.mono HB.out.size)) (row_strs hfr.2.1 (fT_short _ _ _)) rfl (fun j hj => by simp [List.getElem?_eq_getElem hj]) HR.out
end Go.Proofs.Qxb6623519a
