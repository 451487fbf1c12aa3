/-
  Statements 0 to 6 of the body: the bounds; and the law's contract.
-/
import Derived.Test.Qxb6623519aTail7
import Derived.Test.Qxb6623519aBytes
namespace Go.Proofs.Qxb6623519a
open Go.RowKit Go.Maps

set_option maxRecDepth 1000000 in
set_option maxHeartbeats 2000000 in
theorem tail6 {c2 c3 c4 c6 c7 c8 c9 c10 c11 c12 c13 c14 c15 c16 c17 c18 c19 c20 c21 c22 c23 c24 c25 c26 c27 c28 c29 c30 c31 c32 c33 c34 c35 c36 c37 c38 c39 c40 c41 c42 c43 c44 c45 c46 c47 c48 c49 c50 c51 c52 c53 c54 c55 c56 c57 c58 c59 c60 c61 c62 c63 c64 c65 c66 c67 c68 c69 c70 c71 c72 c73 c74 c75 c76 c77 c78 c79 c80 c81 c82 c83 c84 c85 c86 c87 c88 c89 c90 c91 c92 c93 c94 c95 c96 c97 c98 c99 c100 c101 c102 c103 c104 c105 c106 c107 c108 c109 c110 c111 c112 c113 c114 c115 c116 c117 c118 c119 c120 c121 c122 c123 c124 c125 c126 c127 c128 c129 c130 c131 c132 c133 c134 c135 c136 c137 c138 c139 c140 c141 c142 c143 c144 c145 c146 c147 c148 c149 c150 c151 c152 c153 c154 c155 c156 c157 c158 c159 c160 c161 c162 c163 c164 c165 c166 c167 c168 c169 c170 c171 c172 c173 c174 c175 c176 c177 c178 c179 c180 c181 c182 c183 c184 c185 c186 c187 c188 c189 c190 c191 c192 c193 c194 c195 c196 c197 c198 c199 c200 c201 c202 c203 c204 c205 c206 c207 c208 c209 c210 c211 c212 c213 c214 c215 c216 c217 c218 c219 c220 c221 c222 c223 c224 c225 c226 c227 c228 c229 c230 c231 c232 c233 c234 c235 c236 c237 c238 c239 c240 c241 c242 c243 : Value} {w0 : World} {ka ta : Option Addr} {kn kc tn tc : Nat} {va : Nat → Option Addr} {vl vc : Nat → Nat} {kb tb : Nat → ByteArray} {z : Int}
    (hI : Ins w0 ka kn kb ta tn va vl vc tb) (hkn : kn ≤ 65536) (htn : tn ≤ 65536) :
    Rest 6 w0 ⟨((.slice ka kn kc) :: (.slice ta tn tc) :: c2 :: c3 :: c4 :: (.int .i64 z) :: c6 :: c7 :: c8 :: c9 :: c10 :: c11 :: c12 :: c13 :: c14 :: c15 :: c16 :: c17 :: c18 :: c19 :: c20 :: c21 :: c22 :: c23 :: c24 :: c25 :: c26 :: c27 :: c28 :: c29 :: c30 :: c31 :: c32 :: c33 :: c34 :: c35 :: c36 :: c37 :: c38 :: c39 :: c40 :: c41 :: c42 :: c43 :: c44 :: c45 :: c46 :: c47 :: c48 :: c49 :: c50 :: c51 :: c52 :: c53 :: c54 :: c55 :: c56 :: c57 :: c58 :: c59 :: c60 :: c61 :: c62 :: c63 :: c64 :: c65 :: c66 :: c67 :: c68 :: c69 :: c70 :: c71 :: c72 :: c73 :: c74 :: c75 :: c76 :: c77 :: c78 :: c79 :: c80 :: c81 :: c82 :: c83 :: c84 :: c85 :: c86 :: c87 :: c88 :: c89 :: c90 :: c91 :: c92 :: c93 :: c94 :: c95 :: c96 :: c97 :: c98 :: c99 :: c100 :: c101 :: c102 :: c103 :: c104 :: c105 :: c106 :: c107 :: c108 :: c109 :: c110 :: c111 :: c112 :: c113 :: c114 :: c115 :: c116 :: c117 :: c118 :: c119 :: c120 :: c121 :: c122 :: c123 :: c124 :: c125 :: c126 :: c127 :: c128 :: c129 :: c130 :: c131 :: c132 :: c133 :: c134 :: c135 :: c136 :: c137 :: c138 :: c139 :: c140 :: c141 :: c142 :: c143 :: c144 :: c145 :: c146 :: c147 :: c148 :: c149 :: c150 :: c151 :: c152 :: c153 :: c154 :: c155 :: c156 :: c157 :: c158 :: c159 :: c160 :: c161 :: c162 :: c163 :: c164 :: c165 :: c166 :: c167 :: c168 :: c169 :: c170 :: c171 :: c172 :: c173 :: c174 :: c175 :: c176 :: c177 :: c178 :: c179 :: c180 :: c181 :: c182 :: c183 :: c184 :: c185 :: c186 :: c187 :: c188 :: c189 :: c190 :: c191 :: c192 :: c193 :: c194 :: c195 :: c196 :: c197 :: c198 :: c199 :: c200 :: c201 :: c202 :: c203 :: c204 :: c205 :: c206 :: c207 :: c208 :: c209 :: c210 :: c211 :: c212 :: c213 :: c214 :: c215 :: c216 :: c217 :: c218 :: c219 :: c220 :: c221 :: c222 :: c223 :: c224 :: c225 :: c226 :: c227 :: c228 :: c229 :: c230 :: c231 :: c232 :: c233 :: c234 :: c235 :: c236 :: c237 :: c238 :: c239 :: c240 :: c241 :: c242 :: c243 :: []).toArray, []⟩ w0 := by
  have HI : Hid (Ins w0 ka kn kb ta tn va vl vc tb) := hI
  clear hI
  refine rest_step 6 (by kernel_rfl) ?_
  conv => arg 2; whnf
  go_wp2
  go_loop [5, 7] (fun d i => ∃ (k : Nat) (t : Int), k ≤ tn ∧ d = .int .i64 t ∧ i = .int .i64 k) (fun _ i => tn - (intOf i).toNat)
  case atStart => exact ⟨0, z, Nat.zero_le _, rfl, rfl⟩
  case round =>
    obtain ⟨k, t, hk, rfl, rfl⟩ := hrel
    by_cases hlt : k < tn
    · obtain ⟨b, o, v, l, c, s, -, -, -, hl, hix, hc0, -⟩ := HI.out.text hlt tc
      have hc := hc0 w0 (Below.refl _ _)
      unfold maxLen at hl
      clear hc0
      go_wp2
      · go_ret
        exact ⟨rfl, Below.refl _ _⟩
      · go_round
        case rel => exact ⟨k + 1, _, by omega, rfl, by go_num⟩
        case measure => simp [intOf]; omega
    · go_wp2
      exact tail7 HI.out hkn htn (Below.refl _ _)

set_option maxRecDepth 1000000 in
set_option maxHeartbeats 2000000 in
theorem tail5 {c2 c3 c4 c6 c7 c8 c9 c10 c11 c12 c13 c14 c15 c16 c17 c18 c19 c20 c21 c22 c23 c24 c25 c26 c27 c28 c29 c30 c31 c32 c33 c34 c35 c36 c37 c38 c39 c40 c41 c42 c43 c44 c45 c46 c47 c48 c49 c50 c51 c52 c53 c54 c55 c56 c57 c58 c59 c60 c61 c62 c63 c64 c65 c66 c67 c68 c69 c70 c71 c72 c73 c74 c75 c76 c77 c78 c79 c80 c81 c82 c83 c84 c85 c86 c87 c88 c89 c90 c91 c92 c93 c94 c95 c96 c97 c98 c99 c100 c101 c102 c103 c104 c105 c106 c107 c108 c109 c110 c111 c112 c113 c114 c115 c116 c117 c118 c119 c120 c121 c122 c123 c124 c125 c126 c127 c128 c129 c130 c131 c132 c133 c134 c135 c136 c137 c138 c139 c140 c141 c142 c143 c144 c145 c146 c147 c148 c149 c150 c151 c152 c153 c154 c155 c156 c157 c158 c159 c160 c161 c162 c163 c164 c165 c166 c167 c168 c169 c170 c171 c172 c173 c174 c175 c176 c177 c178 c179 c180 c181 c182 c183 c184 c185 c186 c187 c188 c189 c190 c191 c192 c193 c194 c195 c196 c197 c198 c199 c200 c201 c202 c203 c204 c205 c206 c207 c208 c209 c210 c211 c212 c213 c214 c215 c216 c217 c218 c219 c220 c221 c222 c223 c224 c225 c226 c227 c228 c229 c230 c231 c232 c233 c234 c235 c236 c237 c238 c239 c240 c241 c242 c243 : Value} {w0 : World} {ka ta : Option Addr} {kn kc tn tc : Nat} {va : Nat → Option Addr} {vl vc : Nat → Nat} {kb tb : Nat → ByteArray} {z : Int}
    (hI : Ins w0 ka kn kb ta tn va vl vc tb) (hkn : kn ≤ 65536) (htn : tn ≤ 65536) :
    Rest 5 w0 ⟨((.slice ka kn kc) :: (.slice ta tn tc) :: c2 :: c3 :: c4 :: (.int .i64 z) :: c6 :: c7 :: c8 :: c9 :: c10 :: c11 :: c12 :: c13 :: c14 :: c15 :: c16 :: c17 :: c18 :: c19 :: c20 :: c21 :: c22 :: c23 :: c24 :: c25 :: c26 :: c27 :: c28 :: c29 :: c30 :: c31 :: c32 :: c33 :: c34 :: c35 :: c36 :: c37 :: c38 :: c39 :: c40 :: c41 :: c42 :: c43 :: c44 :: c45 :: c46 :: c47 :: c48 :: c49 :: c50 :: c51 :: c52 :: c53 :: c54 :: c55 :: c56 :: c57 :: c58 :: c59 :: c60 :: c61 :: c62 :: c63 :: c64 :: c65 :: c66 :: c67 :: c68 :: c69 :: c70 :: c71 :: c72 :: c73 :: c74 :: c75 :: c76 :: c77 :: c78 :: c79 :: c80 :: c81 :: c82 :: c83 :: c84 :: c85 :: c86 :: c87 :: c88 :: c89 :: c90 :: c91 :: c92 :: c93 :: c94 :: c95 :: c96 :: c97 :: c98 :: c99 :: c100 :: c101 :: c102 :: c103 :: c104 :: c105 :: c106 :: c107 :: c108 :: c109 :: c110 :: c111 :: c112 :: c113 :: c114 :: c115 :: c116 :: c117 :: c118 :: c119 :: c120 :: c121 :: c122 :: c123 :: c124 :: c125 :: c126 :: c127 :: c128 :: c129 :: c130 :: c131 :: c132 :: c133 :: c134 :: c135 :: c136 :: c137 :: c138 :: c139 :: c140 :: c141 :: c142 :: c143 :: c144 :: c145 :: c146 :: c147 :: c148 :: c149 :: c150 :: c151 :: c152 :: c153 :: c154 :: c155 :: c156 :: c157 :: c158 :: c159 :: c160 :: c161 :: c162 :: c163 :: c164 :: c165 :: c166 :: c167 :: c168 :: c169 :: c170 :: c171 :: c172 :: c173 :: c174 :: c175 :: c176 :: c177 :: c178 :: c179 :: c180 :: c181 :: c182 :: c183 :: c184 :: c185 :: c186 :: c187 :: c188 :: c189 :: c190 :: c191 :: c192 :: c193 :: c194 :: c195 :: c196 :: c197 :: c198 :: c199 :: c200 :: c201 :: c202 :: c203 :: c204 :: c205 :: c206 :: c207 :: c208 :: c209 :: c210 :: c211 :: c212 :: c213 :: c214 :: c215 :: c216 :: c217 :: c218 :: c219 :: c220 :: c221 :: c222 :: c223 :: c224 :: c225 :: c226 :: c227 :: c228 :: c229 :: c230 :: c231 :: c232 :: c233 :: c234 :: c235 :: c236 :: c237 :: c238 :: c239 :: c240 :: c241 :: c242 :: c243 :: []).toArray, []⟩ w0 := by
  have HI : Hid (Ins w0 ka kn kb ta tn va vl vc tb) := hI
  clear hI
  refine rest_step 5 (by kernel_rfl) ?_
  conv => arg 2; whnf
  go_wp2
  go_loop [5, 6] (fun d i => ∃ (k : Nat) (t : Int), k ≤ kn ∧ d = .int .i64 t ∧ i = .int .i64 k) (fun _ i => kn - (intOf i).toNat)
  case atStart => exact ⟨0, z, Nat.zero_le _, rfl, rfl⟩
  case round =>
    obtain ⟨k, t, hk, rfl, rfl⟩ := hrel
    by_cases hlt : k < kn
    · obtain ⟨b, o, s, -, hs, hix, hc0⟩ := HI.out.key hlt kc
      have hc := hc0 w0 (Below.refl _ _)
      unfold maxLen at hs
      clear hc0
      go_wp2
      · go_ret
        exact ⟨rfl, Below.refl _ _⟩
      · go_round
        case rel => exact ⟨k + 1, _, by omega, rfl, by go_num⟩
        case measure => simp [intOf]; omega
    · go_wp2
      exact tail6 HI.out hkn htn

set_option maxRecDepth 1000000 in
set_option maxHeartbeats 2000000 in
/-- THE LAW: it returns true, and nothing that was there has turned. -/
theorem law_any {w0 : World} {ka ta : Option Addr} {kn kc tn tc : Nat} {va : Nat → Option Addr} {vl vc : Nat → Nat} {kb tb : Nat → ByteArray} (hI : Ins w0 ka kn kb ta tn va vl vc tb) :
    Calls Try.prog 3 #[.slice ka kn kc, .slice ta tn tc] w0 (Post w0) := by
  have hkm := hI.kmax
  have htm := hI.tmax
  unfold maxLen at hkm htm
  have HI : Hid (Ins w0 ka kn kb ta tn va vl vc tb) := hI
  clear hI
  go_enter Try.func3, Try.ntmps3
  show Rest 0 w0 _ _
  refine rest_step 0 (by kernel_rfl) ?_
  conv => arg 2; whnf
  go_wp2
  refine rest_step 1 (by kernel_rfl) ?_
  conv => arg 2; whnf
  go_wp2_with fail
  refine (bytes_any HI.out kc tc).mono ?_
  rintro e w1 ⟨⟨r, rfl⟩, rfl⟩
  cases r
  · go_wp2
    go_ret
    exact ⟨rfl, Below.refl _ _⟩
  · go_wp2
    by_cases hkn : 65536 < kn
    · refine rest_step 2 (by kernel_rfl) ?_
      conv => arg 2; whnf
      go_wp2
      go_ret
      exact ⟨rfl, Below.refl _ _⟩
    · refine rest_step 2 (by kernel_rfl) ?_
      conv => arg 2; whnf
      go_wp2
      by_cases htn : 65536 < tn
      · refine rest_step 3 (by kernel_rfl) ?_
        conv => arg 2; whnf
        go_wp2
        go_ret
        exact ⟨rfl, Below.refl _ _⟩
      · refine rest_step 3 (by kernel_rfl) ?_
        conv => arg 2; whnf
        go_wp2
        refine rest_step 4 (by kernel_rfl) ?_
        conv => arg 2; whnf
        go_wp2
        exact tail5 HI.out (by omega) (by omega)
end Go.Proofs.Qxb6623519a
