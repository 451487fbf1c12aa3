/-
  Statement 24 of the body: the keys are looked up.
-/
import Derived.Test.Qxb6623519aTail25
import Derived.Deep.Cut
namespace Go.Proofs.Qxb6623519a
open Go.RowKit Go.Maps

set_option maxRecDepth 1000000 in
set_option maxHeartbeats 2000000 in
theorem tail24 {c1 c2 c3 c4 c5 c6 c7 c8 c9 c10 c11 c13 c14 c15 c17 c18 c19 c20 c21 c23 c24 c25 c26 c27 c28 c29 c30 c31 c32 c33 c34 c35 c36 c37 c38 c39 c40 c41 c42 c43 c44 c45 c46 c47 c48 c49 c50 c51 c52 c53 c54 c55 c56 c57 c58 c59 c60 c61 c62 c63 c64 c65 c66 c67 c68 c69 c70 c71 c72 c73 c74 c75 c76 c77 c78 c79 c80 c81 c82 c83 c84 c85 c86 c87 c88 c89 c90 c91 c92 c93 c94 c95 c96 c97 c98 c99 c100 c101 c102 c103 c104 c105 c106 c107 c108 c109 c110 c111 c112 c113 c114 c115 c116 c117 c118 c119 c120 c121 c122 c123 c124 c125 c126 c127 c128 c129 c130 c131 c132 c133 c134 c135 c136 c137 c138 c139 c140 c141 c142 c143 c144 c145 c146 c147 c148 c149 c150 c151 c152 c153 c154 c155 c156 c157 c158 c159 c160 c161 c162 c163 c164 c165 c166 c167 c168 c169 c170 c171 c172 c173 c174 c175 c176 c177 c178 c179 c180 c181 c182 c183 c184 c185 c186 c187 c188 c189 c190 c191 c192 c193 c194 c195 c196 c197 c198 c199 c200 c201 c202 c203 c204 c205 c206 c207 c208 c209 c210 c211 c212 c213 c214 c215 c216 c217 c218 c219 c220 c221 c222 c223 c224 c225 c226 c227 c228 c229 c230 c231 c232 c233 c234 c235 c236 c237 c238 c239 c240 c241 c242 c243 : Value} {w0 w : World} {ka fa : Option Addr} {kn kc fn fc tk : Nat} {r : Option Nat} {kb fb : Nat → ByteArray} {M : List (List UInt8)}
    (hB : Below w0.heap.size w0 w) (hKs : Strs w ka kn kb) (hkn : kn ≤ 65536) (hF : Strs w fa fn fb) (hfn : fn ≤ 65536) (hlk : Looks w r M)
    (hk : ∀ j, j < kn → M.contains (kb j).data.toList = true)
    (hin : ∀ j, j < fn → j < tk → M.contains (fb j).data.toList = true) (hout : ∀ j, j < fn → tk ≤ j → M.contains (fb j).data.toList = false) :
    Rest 24 w0 ⟨((.slice ka kn kc) :: c1 :: c2 :: c3 :: c4 :: c5 :: c6 :: c7 :: c8 :: c9 :: c10 :: c11 :: (.slice fa fn fc) :: c13 :: c14 :: c15 :: (.int .i64 (tk : Int)) :: c17 :: c18 :: c19 :: c20 :: c21 :: (.map r) :: c23 :: c24 :: c25 :: c26 :: c27 :: c28 :: c29 :: c30 :: c31 :: c32 :: c33 :: c34 :: c35 :: c36 :: c37 :: c38 :: c39 :: c40 :: c41 :: c42 :: c43 :: c44 :: c45 :: c46 :: c47 :: c48 :: c49 :: c50 :: c51 :: c52 :: c53 :: c54 :: c55 :: c56 :: c57 :: c58 :: c59 :: c60 :: c61 :: c62 :: c63 :: c64 :: c65 :: c66 :: c67 :: c68 :: c69 :: c70 :: c71 :: c72 :: c73 :: c74 :: c75 :: c76 :: c77 :: c78 :: c79 :: c80 :: c81 :: c82 :: c83 :: c84 :: c85 :: c86 :: c87 :: c88 :: c89 :: c90 :: c91 :: c92 :: c93 :: c94 :: c95 :: c96 :: c97 :: c98 :: c99 :: c100 :: c101 :: c102 :: c103 :: c104 :: c105 :: c106 :: c107 :: c108 :: c109 :: c110 :: c111 :: c112 :: c113 :: c114 :: c115 :: c116 :: c117 :: c118 :: c119 :: c120 :: c121 :: c122 :: c123 :: c124 :: c125 :: c126 :: c127 :: c128 :: c129 :: c130 :: c131 :: c132 :: c133 :: c134 :: c135 :: c136 :: c137 :: c138 :: c139 :: c140 :: c141 :: c142 :: c143 :: c144 :: c145 :: c146 :: c147 :: c148 :: c149 :: c150 :: c151 :: c152 :: c153 :: c154 :: c155 :: c156 :: c157 :: c158 :: c159 :: c160 :: c161 :: c162 :: c163 :: c164 :: c165 :: c166 :: c167 :: c168 :: c169 :: c170 :: c171 :: c172 :: c173 :: c174 :: c175 :: c176 :: c177 :: c178 :: c179 :: c180 :: c181 :: c182 :: c183 :: c184 :: c185 :: c186 :: c187 :: c188 :: c189 :: c190 :: c191 :: c192 :: c193 :: c194 :: c195 :: c196 :: c197 :: c198 :: c199 :: c200 :: c201 :: c202 :: c203 :: c204 :: c205 :: c206 :: c207 :: c208 :: c209 :: c210 :: c211 :: c212 :: c213 :: c214 :: c215 :: c216 :: c217 :: c218 :: c219 :: c220 :: c221 :: c222 :: c223 :: c224 :: c225 :: c226 :: c227 :: c228 :: c229 :: c230 :: c231 :: c232 :: c233 :: c234 :: c235 :: c236 :: c237 :: c238 :: c239 :: c240 :: c241 :: c242 :: c243 :: []).toArray, []⟩ w := by
  have HT : Hid (Below w0.heap.size w0 w ∧ Strs w fa fn fb ∧ fn ≤ 65536 ∧ Looks w r M ∧ (∀ j, j < fn → j < tk → M.contains (fb j).data.toList = true) ∧ (∀ j, j < fn → tk ≤ j → M.contains (fb j).data.toList = false)) := ⟨hB, hF, hfn, hlk, hin, hout⟩
  clear hB hF hfn hin hout
  refine rest_step 24 (by kernel_rfl) ?_
  conv => arg 2; whnf
  go_wp2
  go_loop [23] (fun i => ∃ k : Nat, k ≤ kn ∧ i = .int .i64 k) (fun i => kn - (intOf i).toNat)
  case atStart => exact ⟨0, Nat.zero_le _, rfl⟩
  case round =>
    obtain ⟨k, hk', rfl⟩ := hrel
    by_cases hlt : k < kn
    · obtain ⟨b, o, s, hs, hsz, hix, -, hc⟩ := hKs.get hlt kc
      have hl := hlk s hsz
      rw [← hs, hk k hlt, if_pos rfl, hs] at hl
      clear hKs hlk hk hs
      go_wp2
      go_round
      case rel => exact ⟨k + 1, by omega, by go_num⟩
      case measure => simp [intOf]; omega
    · clear hKs hlk hk
      go_wp2
      exact tail25 HT.out.1 HT.out.2.1 HT.out.2.2.1 HT.out.2.2.2.1 HT.out.2.2.2.2.1 HT.out.2.2.2.2.2
end Go.Proofs.Qxb6623519a
