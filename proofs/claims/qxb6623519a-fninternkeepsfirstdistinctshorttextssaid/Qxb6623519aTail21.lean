/-
  Statements 21 to 23 of the body: the map is fetched; nil or not; its length.
-/
import Derived.Test.Qxb6623519aTail24
namespace Go.Proofs.Qxb6623519a
open Go.RowKit Go.Maps

set_option maxRecDepth 1000000 in
set_option maxHeartbeats 2000000 in
theorem tail21 {c1 c2 c3 c4 c5 c6 c7 c8 c10 c11 c13 c14 c15 c17 c18 c20 c21 c22 c23 c24 c25 c26 c27 c28 c29 c30 c31 c32 c33 c34 c35 c36 c37 c38 c39 c40 c41 c42 c43 c44 c45 c46 c47 c48 c49 c50 c51 c52 c53 c54 c55 c56 c57 c58 c59 c60 c61 c62 c63 c64 c65 c66 c67 c68 c69 c70 c71 c72 c73 c74 c75 c76 c77 c78 c79 c80 c81 c82 c83 c84 c85 c86 c87 c88 c89 c90 c91 c92 c93 c94 c95 c96 c97 c98 c99 c100 c101 c102 c103 c104 c105 c106 c107 c108 c109 c110 c111 c112 c113 c114 c115 c116 c117 c118 c119 c120 c121 c122 c123 c124 c125 c126 c127 c128 c129 c130 c131 c132 c133 c134 c135 c136 c137 c138 c139 c140 c141 c142 c143 c144 c145 c146 c147 c148 c149 c150 c151 c152 c153 c154 c155 c156 c157 c158 c159 c160 c161 c162 c163 c164 c165 c166 c167 c168 c169 c170 c171 c172 c173 c174 c175 c176 c177 c178 c179 c180 c181 c182 c183 c184 c185 c186 c187 c188 c189 c190 c191 c192 c193 c194 c195 c196 c197 c198 c199 c200 c201 c202 c203 c204 c205 c206 c207 c208 c209 c210 c211 c212 c213 c214 c215 c216 c217 c218 c219 c220 c221 c222 c223 c224 c225 c226 c227 c228 c229 c230 c231 c232 c233 c234 c235 c236 c237 c238 c239 c240 c241 c242 c243 : Value} {w0 w : World} {ka fa : Option Addr} {kn kc fn fc tk d0 sb base n : Nat} {r : Option Nat} {kb fb : Nat → ByteArray} {M : List (List UInt8)}
    (hB : Below w0.heap.size w0 w) (hKs : Strs w ka kn kb) (hkn : kn ≤ 65536) (hF : Strs w fa fn fb) (hfn : fn ≤ 65536) (hH : Held w sb base r n M)
    (hr : r.isNone = (ka.isNone && decide (tk = 0))) (hM : M.length = d0 + tk) (htk : tk ≤ 65536) (hd0 : d0 ≤ 65536)
    (hk : ∀ j, j < kn → M.contains (kb j).data.toList = true)
    (hin : ∀ j, j < fn → j < tk → M.contains (fb j).data.toList = true) (hout : ∀ j, j < fn → tk ≤ j → M.contains (fb j).data.toList = false) :
    Rest 21 w0 ⟨((.slice ka kn kc) :: c1 :: c2 :: c3 :: c4 :: c5 :: c6 :: c7 :: c8 :: (.int .i64 (d0 : Int)) :: c10 :: c11 :: (.slice fa fn fc) :: c13 :: c14 :: c15 :: (.int .i64 (tk : Int)) :: c17 :: c18 :: (.pointer (some ⟨sb, 0, none⟩)) :: c20 :: c21 :: c22 :: c23 :: c24 :: c25 :: c26 :: c27 :: c28 :: c29 :: c30 :: c31 :: c32 :: c33 :: c34 :: c35 :: c36 :: c37 :: c38 :: c39 :: c40 :: c41 :: c42 :: c43 :: c44 :: c45 :: c46 :: c47 :: c48 :: c49 :: c50 :: c51 :: c52 :: c53 :: c54 :: c55 :: c56 :: c57 :: c58 :: c59 :: c60 :: c61 :: c62 :: c63 :: c64 :: c65 :: c66 :: c67 :: c68 :: c69 :: c70 :: c71 :: c72 :: c73 :: c74 :: c75 :: c76 :: c77 :: c78 :: c79 :: c80 :: c81 :: c82 :: c83 :: c84 :: c85 :: c86 :: c87 :: c88 :: c89 :: c90 :: c91 :: c92 :: c93 :: c94 :: c95 :: c96 :: c97 :: c98 :: c99 :: c100 :: c101 :: c102 :: c103 :: c104 :: c105 :: c106 :: c107 :: c108 :: c109 :: c110 :: c111 :: c112 :: c113 :: c114 :: c115 :: c116 :: c117 :: c118 :: c119 :: c120 :: c121 :: c122 :: c123 :: c124 :: c125 :: c126 :: c127 :: c128 :: c129 :: c130 :: c131 :: c132 :: c133 :: c134 :: c135 :: c136 :: c137 :: c138 :: c139 :: c140 :: c141 :: c142 :: c143 :: c144 :: c145 :: c146 :: c147 :: c148 :: c149 :: c150 :: c151 :: c152 :: c153 :: c154 :: c155 :: c156 :: c157 :: c158 :: c159 :: c160 :: c161 :: c162 :: c163 :: c164 :: c165 :: c166 :: c167 :: c168 :: c169 :: c170 :: c171 :: c172 :: c173 :: c174 :: c175 :: c176 :: c177 :: c178 :: c179 :: c180 :: c181 :: c182 :: c183 :: c184 :: c185 :: c186 :: c187 :: c188 :: c189 :: c190 :: c191 :: c192 :: c193 :: c194 :: c195 :: c196 :: c197 :: c198 :: c199 :: c200 :: c201 :: c202 :: c203 :: c204 :: c205 :: c206 :: c207 :: c208 :: c209 :: c210 :: c211 :: c212 :: c213 :: c214 :: c215 :: c216 :: c217 :: c218 :: c219 :: c220 :: c221 :: c222 :: c223 :: c224 :: c225 :: c226 :: c227 :: c228 :: c229 :: c230 :: c231 :: c232 :: c233 :: c234 :: c235 :: c236 :: c237 :: c238 :: c239 :: c240 :: c241 :: c242 :: c243 :: []).toArray, []⟩ w := by
  have HT2 : Hid (Below w0.heap.size w0 w ∧ Strs w ka kn kb ∧ kn ≤ 65536 ∧ Strs w fa fn fb ∧ fn ≤ 65536 ∧ (∀ j, j < kn → M.contains (kb j).data.toList = true) ∧ (∀ j, j < fn → j < tk → M.contains (fb j).data.toList = true) ∧ (∀ j, j < fn → tk ≤ j → M.contains (fb j).data.toList = false) ∧ Looks w r M) := ⟨hB, hKs, hkn, hF, hfn, hk, hin, hout, hH.looks⟩
  have hc := hH.1.cell
  have hlen := fun ty => hH.len ty
  have hnil : ∀ (w : World) (r : Option Nat), (binOp .eql 27 (.map r) (.map none)).run Try.prog w = .ok (.bool r.isNone) w := fun w r => run_eql_map_nil w _ _ _ r Try.underlying27
  have hnil2 : ∀ (w : World) (a : Option Addr) (n c : Nat), (binOp .eql 22 (.slice a n c) (.slice none 0 0)).run Try.prog w = .ok (.bool a.isNone) w := fun w a n c => Lib.run_eql_slice_nil w _ _ _ _ _ _ _ Try.underlying22
  have hMi : (M.length : Int) = (d0 : Int) + (tk : Int) := by omega
  rw [hMi] at hlen
  clear hB hKs hF hfn hk hin hout hH hM hMi
  refine rest_step 21 (by kernel_rfl) ?_
  conv => arg 2; whnf
  go_wp2_with fail
  refine (interned_any r sb _ hc).mono ?_
  rintro e w1 ⟨rfl, rfl⟩
  go_wp2_with fail
  cases hka : ka.isNone
  · rw [hka] at hr
    have hr' : r.isNone = false := hr
    clear hr
    refine rest_step 22 (by kernel_rfl) ?_
    conv => arg 2; whnf
    go_wp2
    refine rest_step 23 (by kernel_rfl) ?_
    conv => arg 2; whnf
    go_wp2
    exact tail24 HT2.out.1 HT2.out.2.1 hkn HT2.out.2.2.2.1 HT2.out.2.2.2.2.1 HT2.out.2.2.2.2.2.2.2.2 HT2.out.2.2.2.2.2.1 HT2.out.2.2.2.2.2.2.1 HT2.out.2.2.2.2.2.2.2.1
  · rw [hka] at hr
    by_cases h0 : tk = 0
    · have hr' : r.isNone = true := by rw [hr]; simp [h0]
      have ht : ((tk : Int) == 0) = true := by simp [h0]
      clear hr h0
      refine rest_step 22 (by kernel_rfl) ?_
      conv => arg 2; whnf
      go_wp2
      refine rest_step 23 (by kernel_rfl) ?_
      conv => arg 2; whnf
      go_wp2
      exact tail24 HT2.out.1 HT2.out.2.1 hkn HT2.out.2.2.2.1 HT2.out.2.2.2.2.1 HT2.out.2.2.2.2.2.2.2.2 HT2.out.2.2.2.2.2.1 HT2.out.2.2.2.2.2.2.1 HT2.out.2.2.2.2.2.2.2.1
    · have hr' : r.isNone = false := by rw [hr]; simp [h0]
      have ht : ((tk : Int) == 0) = false := by simp [h0]
      clear hr h0
      refine rest_step 22 (by kernel_rfl) ?_
      conv => arg 2; whnf
      go_wp2
      refine rest_step 23 (by kernel_rfl) ?_
      conv => arg 2; whnf
      go_wp2
      exact tail24 HT2.out.1 HT2.out.2.1 hkn HT2.out.2.2.2.1 HT2.out.2.2.2.2.1 HT2.out.2.2.2.2.2.2.2.2 HT2.out.2.2.2.2.2.1 HT2.out.2.2.2.2.2.2.1 HT2.out.2.2.2.2.2.2.2.1
end Go.Proofs.Qxb6623519a
