/-
  Statements 7 to 11 of the body: the distinct keys, and the room.
-/
import Derived.Test.Qxb6623519aTail12
namespace Go.Proofs.Qxb6623519a
open Go.RowKit Go.Maps

set_option maxRecDepth 1000000 in
set_option maxHeartbeats 2000000 in
theorem tail10 {c2 c3 c4 c5 c6 c7 c10 c11 c12 c13 c14 c15 c16 c17 c18 c19 c20 c21 c22 c23 c24 c25 c26 c27 c28 c29 c30 c31 c32 c33 c34 c35 c36 c37 c38 c39 c40 c41 c42 c43 c44 c45 c46 c47 c48 c49 c50 c51 c52 c53 c54 c55 c56 c57 c58 c59 c60 c61 c62 c63 c64 c65 c66 c67 c68 c69 c70 c71 c72 c73 c74 c75 c76 c77 c78 c79 c80 c81 c82 c83 c84 c85 c86 c87 c88 c89 c90 c91 c92 c93 c94 c95 c96 c97 c98 c99 c100 c101 c102 c103 c104 c105 c106 c107 c108 c109 c110 c111 c112 c113 c114 c115 c116 c117 c118 c119 c120 c121 c122 c123 c124 c125 c126 c127 c128 c129 c130 c131 c132 c133 c134 c135 c136 c137 c138 c139 c140 c141 c142 c143 c144 c145 c146 c147 c148 c149 c150 c151 c152 c153 c154 c155 c156 c157 c158 c159 c160 c161 c162 c163 c164 c165 c166 c167 c168 c169 c170 c171 c172 c173 c174 c175 c176 c177 c178 c179 c180 c181 c182 c183 c184 c185 c186 c187 c188 c189 c190 c191 c192 c193 c194 c195 c196 c197 c198 c199 c200 c201 c202 c203 c204 c205 c206 c207 c208 c209 c210 c211 c212 c213 c214 c215 c216 c217 c218 c219 c220 c221 c222 c223 c224 c225 c226 c227 c228 c229 c230 c231 c232 c233 c234 c235 c236 c237 c238 c239 c240 c241 c242 c243 : Value} {w0 w : World} {ka ta : Option Addr} {kn kc tn tc : Nat} {va : Nat → Option Addr} {vl vc : Nat → Nat} {kb tb : Nat → ByteArray} {bk : Nat}
    (hI : Ins w0 ka kn kb ta tn va vl vc tb) (hkn : kn ≤ 65536) (htn : tn ≤ 65536) (hB : Below w0.heap.size w0 w) (hbk : MapIs w 4 fB bk kn (Pl.dK kb kn)) :
    Rest 10 w0 ⟨((.slice ka kn kc) :: (.slice ta tn tc) :: c2 :: c3 :: c4 :: c5 :: c6 :: c7 :: (.map (some bk)) :: (.int .i64 (((Pl.dK kb kn).length : Nat) : Int)) :: c10 :: c11 :: c12 :: c13 :: c14 :: c15 :: c16 :: c17 :: c18 :: c19 :: c20 :: c21 :: c22 :: c23 :: c24 :: c25 :: c26 :: c27 :: c28 :: c29 :: c30 :: c31 :: c32 :: c33 :: c34 :: c35 :: c36 :: c37 :: c38 :: c39 :: c40 :: c41 :: c42 :: c43 :: c44 :: c45 :: c46 :: c47 :: c48 :: c49 :: c50 :: c51 :: c52 :: c53 :: c54 :: c55 :: c56 :: c57 :: c58 :: c59 :: c60 :: c61 :: c62 :: c63 :: c64 :: c65 :: c66 :: c67 :: c68 :: c69 :: c70 :: c71 :: c72 :: c73 :: c74 :: c75 :: c76 :: c77 :: c78 :: c79 :: c80 :: c81 :: c82 :: c83 :: c84 :: c85 :: c86 :: c87 :: c88 :: c89 :: c90 :: c91 :: c92 :: c93 :: c94 :: c95 :: c96 :: c97 :: c98 :: c99 :: c100 :: c101 :: c102 :: c103 :: c104 :: c105 :: c106 :: c107 :: c108 :: c109 :: c110 :: c111 :: c112 :: c113 :: c114 :: c115 :: c116 :: c117 :: c118 :: c119 :: c120 :: c121 :: c122 :: c123 :: c124 :: c125 :: c126 :: c127 :: c128 :: c129 :: c130 :: c131 :: c132 :: c133 :: c134 :: c135 :: c136 :: c137 :: c138 :: c139 :: c140 :: c141 :: c142 :: c143 :: c144 :: c145 :: c146 :: c147 :: c148 :: c149 :: c150 :: c151 :: c152 :: c153 :: c154 :: c155 :: c156 :: c157 :: c158 :: c159 :: c160 :: c161 :: c162 :: c163 :: c164 :: c165 :: c166 :: c167 :: c168 :: c169 :: c170 :: c171 :: c172 :: c173 :: c174 :: c175 :: c176 :: c177 :: c178 :: c179 :: c180 :: c181 :: c182 :: c183 :: c184 :: c185 :: c186 :: c187 :: c188 :: c189 :: c190 :: c191 :: c192 :: c193 :: c194 :: c195 :: c196 :: c197 :: c198 :: c199 :: c200 :: c201 :: c202 :: c203 :: c204 :: c205 :: c206 :: c207 :: c208 :: c209 :: c210 :: c211 :: c212 :: c213 :: c214 :: c215 :: c216 :: c217 :: c218 :: c219 :: c220 :: c221 :: c222 :: c223 :: c224 :: c225 :: c226 :: c227 :: c228 :: c229 :: c230 :: c231 :: c232 :: c233 :: c234 :: c235 :: c236 :: c237 :: c238 :: c239 :: c240 :: c241 :: c242 :: c243 :: []).toArray, []⟩ w := by
  have hd := Pl.dK_le kb kn
  have HT : ∀ (rm : Nat), rm = 4096 - (Pl.dK kb kn).length → Hid (Ins w0 ka kn kb ta tn va vl vc tb ∧ Below w0.heap.size w0 w ∧ MapIs w 4 fB bk kn (Pl.dK kb kn) ∧ rm = 4096 - (Pl.dK kb kn).length) := fun rm h => ⟨hI, hB, hbk, h⟩
  by_cases h : 4096 < (Pl.dK kb kn).length
  · have H := HT 0 (by omega)
    clear HT hI hB hbk
    refine rest_step 10 (by kernel_rfl) ?_
    conv => arg 2; whnf
    go_wp2
    refine rest_step 11 (by kernel_rfl) ?_
    conv => arg 2; whnf
    go_wp2
    exact tail12 (rm := 0) H.out.1 hkn htn H.out.2.1 H.out.2.2.1 H.out.2.2.2
  · obtain ⟨rm, hrm⟩ : ∃ rm, rm = 4096 - (Pl.dK kb kn).length := ⟨_, rfl⟩
    have H := HT rm hrm
    have e : (4096 : Int) - (((Pl.dK kb kn).length : Nat) : Int) = (rm : Int) := by omega
    have E : Hid ((4096 : Int) - (((Pl.dK kb kn).length : Nat) : Int) = (rm : Int)) := e
    clear HT hI hB hbk hrm e
    refine rest_step 10 (by kernel_rfl) ?_
    conv => arg 2; whnf
    go_wp2
    rw [E.out]
    refine rest_step 11 (by kernel_rfl) ?_
    conv => arg 2; whnf
    go_wp2
    exact tail12 (rm := rm) H.out.1 hkn htn H.out.2.1 H.out.2.2.1 H.out.2.2.2

/-- What the loop over the keys keeps. -/
def Known (w wr : World) (kb : Nat → ByteArray) (k : Nat) : Prop := MapIs wr 4 fB w.heap.size k (Pl.dK kb k) ∧ Below w.heap.size w wr

set_option maxRecDepth 1000000 in
set_option maxHeartbeats 2000000 in
theorem tail7 {c2 c3 c4 c5 c6 c7 c8 c9 c10 c11 c12 c13 c14 c15 c16 c17 c18 c19 c20 c21 c22 c23 c24 c25 c26 c27 c28 c29 c30 c31 c32 c33 c34 c35 c36 c37 c38 c39 c40 c41 c42 c43 c44 c45 c46 c47 c48 c49 c50 c51 c52 c53 c54 c55 c56 c57 c58 c59 c60 c61 c62 c63 c64 c65 c66 c67 c68 c69 c70 c71 c72 c73 c74 c75 c76 c77 c78 c79 c80 c81 c82 c83 c84 c85 c86 c87 c88 c89 c90 c91 c92 c93 c94 c95 c96 c97 c98 c99 c100 c101 c102 c103 c104 c105 c106 c107 c108 c109 c110 c111 c112 c113 c114 c115 c116 c117 c118 c119 c120 c121 c122 c123 c124 c125 c126 c127 c128 c129 c130 c131 c132 c133 c134 c135 c136 c137 c138 c139 c140 c141 c142 c143 c144 c145 c146 c147 c148 c149 c150 c151 c152 c153 c154 c155 c156 c157 c158 c159 c160 c161 c162 c163 c164 c165 c166 c167 c168 c169 c170 c171 c172 c173 c174 c175 c176 c177 c178 c179 c180 c181 c182 c183 c184 c185 c186 c187 c188 c189 c190 c191 c192 c193 c194 c195 c196 c197 c198 c199 c200 c201 c202 c203 c204 c205 c206 c207 c208 c209 c210 c211 c212 c213 c214 c215 c216 c217 c218 c219 c220 c221 c222 c223 c224 c225 c226 c227 c228 c229 c230 c231 c232 c233 c234 c235 c236 c237 c238 c239 c240 c241 c242 c243 : Value} {w0 w : World} {ka ta : Option Addr} {kn kc tn tc : Nat} {va : Nat → Option Addr} {vl vc : Nat → Nat} {kb tb : Nat → ByteArray}
    (hI : Ins w0 ka kn kb ta tn va vl vc tb) (hkn : kn ≤ 65536) (htn : tn ≤ 65536) (hB : Below w0.heap.size w0 w) :
    Rest 7 w0 ⟨((.slice ka kn kc) :: (.slice ta tn tc) :: c2 :: c3 :: c4 :: c5 :: c6 :: c7 :: c8 :: c9 :: c10 :: c11 :: c12 :: c13 :: c14 :: c15 :: c16 :: c17 :: c18 :: c19 :: c20 :: c21 :: c22 :: c23 :: c24 :: c25 :: c26 :: c27 :: c28 :: c29 :: c30 :: c31 :: c32 :: c33 :: c34 :: c35 :: c36 :: c37 :: c38 :: c39 :: c40 :: c41 :: c42 :: c43 :: c44 :: c45 :: c46 :: c47 :: c48 :: c49 :: c50 :: c51 :: c52 :: c53 :: c54 :: c55 :: c56 :: c57 :: c58 :: c59 :: c60 :: c61 :: c62 :: c63 :: c64 :: c65 :: c66 :: c67 :: c68 :: c69 :: c70 :: c71 :: c72 :: c73 :: c74 :: c75 :: c76 :: c77 :: c78 :: c79 :: c80 :: c81 :: c82 :: c83 :: c84 :: c85 :: c86 :: c87 :: c88 :: c89 :: c90 :: c91 :: c92 :: c93 :: c94 :: c95 :: c96 :: c97 :: c98 :: c99 :: c100 :: c101 :: c102 :: c103 :: c104 :: c105 :: c106 :: c107 :: c108 :: c109 :: c110 :: c111 :: c112 :: c113 :: c114 :: c115 :: c116 :: c117 :: c118 :: c119 :: c120 :: c121 :: c122 :: c123 :: c124 :: c125 :: c126 :: c127 :: c128 :: c129 :: c130 :: c131 :: c132 :: c133 :: c134 :: c135 :: c136 :: c137 :: c138 :: c139 :: c140 :: c141 :: c142 :: c143 :: c144 :: c145 :: c146 :: c147 :: c148 :: c149 :: c150 :: c151 :: c152 :: c153 :: c154 :: c155 :: c156 :: c157 :: c158 :: c159 :: c160 :: c161 :: c162 :: c163 :: c164 :: c165 :: c166 :: c167 :: c168 :: c169 :: c170 :: c171 :: c172 :: c173 :: c174 :: c175 :: c176 :: c177 :: c178 :: c179 :: c180 :: c181 :: c182 :: c183 :: c184 :: c185 :: c186 :: c187 :: c188 :: c189 :: c190 :: c191 :: c192 :: c193 :: c194 :: c195 :: c196 :: c197 :: c198 :: c199 :: c200 :: c201 :: c202 :: c203 :: c204 :: c205 :: c206 :: c207 :: c208 :: c209 :: c210 :: c211 :: c212 :: c213 :: c214 :: c215 :: c216 :: c217 :: c218 :: c219 :: c220 :: c221 :: c222 :: c223 :: c224 :: c225 :: c226 :: c227 :: c228 :: c229 :: c230 :: c231 :: c232 :: c233 :: c234 :: c235 :: c236 :: c237 :: c238 :: c239 :: c240 :: c241 :: c242 :: c243 :: []).toArray, []⟩ w := by
  have hmm := @run_makeMap Try.prog
  have HI : Hid (Ins w0 ka kn kb ta tn va vl vc tb) := hI
  have HB : Hid (Below w0.heap.size w0 w) := hB
  clear hI hB
  refine rest_step 7 (by kernel_rfl) ?_
  conv => arg 2; whnf
  go_wp2
  refine rest_step 8 (by kernel_rfl) ?_
  conv => arg 2; whnf
  go_wp2
  refine rest_step 9 (by kernel_rfl) ?_
  conv => arg 2; whnf
  go_wp2
  go_loopw [9, 10] (fun d i wr => ∃ (k : Nat), k ≤ kn ∧ d = .int .i64 (((Pl.dK kb k).length : Nat) : Int) ∧ i = .int .i64 k ∧ Known w wr kb k) (fun _ i _ => kn - (intOf i).toNat)
  case atStart => exact ⟨0, Nat.zero_le _, rfl, rfl, mapIs_made w 4 fB, (Below.refl _ _).alloc (Nat.le_refl _) _⟩
  case round =>
    obtain ⟨k, hk, rfl, rfl, hkw⟩ := hrel
    have hdl := Pl.dK_le kb k
    by_cases hlt : k < kn
    · obtain ⟨b, o, s, hs, hsz, hix, hc0⟩ := HI.out.key hlt kc
      have hB1 : Below w0.heap.size w0 wr := HB.out.trans (hkw.2.mono HB.out.size)
      have hc := hc0 wr hB1
      have hlk := hkw.1.lookB hsz
      cases hin : (Pl.dK kb k).contains s.data.toList
      · rw [hin] at hlk
        obtain ⟨w1, hrun, hm1, hg1⟩ := hkw.1.store Try.underlying26 hsz (by unfold maxLen; omega) (val := .bool true) (plainElem_bool Try.underlying4 true)
        have e : Pl.dK kb (k + 1) = Pl.dK kb k ++ [s.data.toList] := by
          show Pl.addL _ _ = _
          unfold Pl.addL
          rw [hs, if_neg (by rw [hin]; simp)]
        have HL : Hid ((Pl.dK kb (k + 1)).length = (Pl.dK kb k).length + 1) := by show _ = _; rw [e]; simp
        have HK : Hid (Known w w1 kb (k + 1)) := ⟨by show MapIs w1 4 fB w.heap.size (k + 1) (Pl.addL (Pl.dK kb k) (kb k).data.toList); rw [hs]; exact hm1, hkw.2.grown hg1 hkw.2.size (fun j hj => by injection hj with hj; omega)⟩
        clear hkw hc0 hB1 hs hin hm1 hg1 e hmm
        go_wp2
        go_roundw
        case rel => exact ⟨k + 1, by omega, by rw [HL.out]; go_num, by go_num, HK.out⟩
        case measure => simp [intOf]; omega
      · rw [hin] at hlk
        have e : Pl.dK kb (k + 1) = Pl.dK kb k := by
          show Pl.addL _ _ = _
          unfold Pl.addL
          rw [hs, if_pos hin]
        have HL : Hid ((Pl.dK kb (k + 1)).length = (Pl.dK kb k).length) := by show _ = _; rw [e]
        have HK : Hid (Known w wr kb (k + 1)) := ⟨by rw [e]; exact hkw.1.mono (Nat.le_succ _), hkw.2⟩
        clear hkw hc0 hB1 hs hin e hmm
        go_wp2
        go_roundw
        case rel => exact ⟨k + 1, by omega, by rw [HL.out], by go_num, HK.out⟩
        case measure => simp [intOf]; omega
    · obtain rfl : k = kn := by omega
      clear hmm
      go_wp2
      exact tail10 HI.out hkn htn (HB.out.trans (hkw.2.mono HB.out.size)) hkw.1
end Go.Proofs.Qxb6623519a
