/-
  Statements 17 to 19 of the body: the skimmer's map, and the skimmer.
-/
import Derived.Test.Qxb6623519aTail20
import Derived.Deep.RegionHeld3
namespace Go.Proofs.Qxb6623519a
open Go.RowKit Go.Maps

set_option maxRecDepth 1000000 in
set_option maxHeartbeats 2000000 in
theorem tail19 {c2 c3 c4 c5 c6 c7 c8 c10 c11 c13 c14 c15 c18 c19 c20 c21 c22 c23 c24 c25 c26 c27 c28 c29 c30 c31 c32 c33 c34 c35 c36 c37 c38 c39 c40 c41 c42 c43 c44 c45 c46 c47 c48 c49 c50 c51 c52 c53 c54 c55 c56 c57 c58 c59 c60 c61 c62 c63 c64 c65 c66 c67 c68 c69 c70 c71 c72 c73 c74 c75 c76 c77 c78 c79 c80 c81 c82 c83 c84 c85 c86 c87 c88 c89 c90 c91 c92 c93 c94 c95 c96 c97 c98 c99 c100 c101 c102 c103 c104 c105 c106 c107 c108 c109 c110 c111 c112 c113 c114 c115 c116 c117 c118 c119 c120 c121 c122 c123 c124 c125 c126 c127 c128 c129 c130 c131 c132 c133 c134 c135 c136 c137 c138 c139 c140 c141 c142 c143 c144 c145 c146 c147 c148 c149 c150 c151 c152 c153 c154 c155 c156 c157 c158 c159 c160 c161 c162 c163 c164 c165 c166 c167 c168 c169 c170 c171 c172 c173 c174 c175 c176 c177 c178 c179 c180 c181 c182 c183 c184 c185 c186 c187 c188 c189 c190 c191 c192 c193 c194 c195 c196 c197 c198 c199 c200 c201 c202 c203 c204 c205 c206 c207 c208 c209 c210 c211 c212 c213 c214 c215 c216 c217 c218 c219 c220 c221 c222 c223 c224 c225 c226 c227 c228 c229 c230 c231 c232 c233 c234 c235 c236 c237 c238 c239 c240 c241 c242 c243 : Value} {w0 w : World} {ka ta fa : Option Addr} {kn kc tn tc fn fc tk : Nat} {va : Nat → Option Addr} {vl vc : Nat → Nat} {kb tb fb : Nat → ByteArray} {base n : Nat} {r : Option Nat}
    (hI : Ins w0 ka kn kb ta tn va vl vc tb) (hkn : kn ≤ 65536) (htn : tn ≤ 65536) (hB : Below w0.heap.size w0 w) (hb0 : w0.heap.size ≤ base) (hbs : base ≤ w.heap.size)
    (hF : ∀ wr, Below base w wr → Strs wr fa fn fb) (hn : n ≤ 65536)
    (hfe : fn = (Pl.fT (Pl.dK kb kn) tb tn).length) (hfb : ∀ j, j < fn → (Pl.fT (Pl.dK kb kn) tb tn)[j]? = some (fb j).data.toList) (htk : tk = min (4096 - (Pl.dK kb kn).length) fn)
    (hrk : r = none ↔ ka = none) (hM : ∀ b, r = some b → base ≤ b ∧ MapIs w 9 fS b n (Pl.dK kb kn)) :
    Rest 19 w0 ⟨((.slice ka kn kc) :: (.slice ta tn tc) :: c2 :: c3 :: c4 :: c5 :: c6 :: c7 :: c8 :: (.int .i64 (((Pl.dK kb kn).length : Nat) : Int)) :: c10 :: c11 :: (.slice fa fn fc) :: c13 :: c14 :: c15 :: (.int .i64 (tk : Int)) :: (.map r) :: c18 :: c19 :: c20 :: c21 :: c22 :: c23 :: c24 :: c25 :: c26 :: c27 :: c28 :: c29 :: c30 :: c31 :: c32 :: c33 :: c34 :: c35 :: c36 :: c37 :: c38 :: c39 :: c40 :: c41 :: c42 :: c43 :: c44 :: c45 :: c46 :: c47 :: c48 :: c49 :: c50 :: c51 :: c52 :: c53 :: c54 :: c55 :: c56 :: c57 :: c58 :: c59 :: c60 :: c61 :: c62 :: c63 :: c64 :: c65 :: c66 :: c67 :: c68 :: c69 :: c70 :: c71 :: c72 :: c73 :: c74 :: c75 :: c76 :: c77 :: c78 :: c79 :: c80 :: c81 :: c82 :: c83 :: c84 :: c85 :: c86 :: c87 :: c88 :: c89 :: c90 :: c91 :: c92 :: c93 :: c94 :: c95 :: c96 :: c97 :: c98 :: c99 :: c100 :: c101 :: c102 :: c103 :: c104 :: c105 :: c106 :: c107 :: c108 :: c109 :: c110 :: c111 :: c112 :: c113 :: c114 :: c115 :: c116 :: c117 :: c118 :: c119 :: c120 :: c121 :: c122 :: c123 :: c124 :: c125 :: c126 :: c127 :: c128 :: c129 :: c130 :: c131 :: c132 :: c133 :: c134 :: c135 :: c136 :: c137 :: c138 :: c139 :: c140 :: c141 :: c142 :: c143 :: c144 :: c145 :: c146 :: c147 :: c148 :: c149 :: c150 :: c151 :: c152 :: c153 :: c154 :: c155 :: c156 :: c157 :: c158 :: c159 :: c160 :: c161 :: c162 :: c163 :: c164 :: c165 :: c166 :: c167 :: c168 :: c169 :: c170 :: c171 :: c172 :: c173 :: c174 :: c175 :: c176 :: c177 :: c178 :: c179 :: c180 :: c181 :: c182 :: c183 :: c184 :: c185 :: c186 :: c187 :: c188 :: c189 :: c190 :: c191 :: c192 :: c193 :: c194 :: c195 :: c196 :: c197 :: c198 :: c199 :: c200 :: c201 :: c202 :: c203 :: c204 :: c205 :: c206 :: c207 :: c208 :: c209 :: c210 :: c211 :: c212 :: c213 :: c214 :: c215 :: c216 :: c217 :: c218 :: c219 :: c220 :: c221 :: c222 :: c223 :: c224 :: c225 :: c226 :: c227 :: c228 :: c229 :: c230 :: c231 :: c232 :: c233 :: c234 :: c235 :: c236 :: c237 :: c238 :: c239 :: c240 :: c241 :: c242 :: c243 :: []).toArray, []⟩ w := by
  have HX : Hid (∀ w1, w1 = w.alloc (.cells #[.slice none 0 0, .int .i64 0, .int .i64 0, .bool false, .map r, .slice none 0 0, .slice none 0 0] 34) →
      InLoop w1 w1 ka kb tb kn w.heap.size base n 0 ∧ Below w0.heap.size w0 w1 ∧ base ≤ w1.heap.size ∧ ∀ wr, Below base w1 wr → Strs wr fa fn fb) := by
    intro w1 e
    have hba : Below base w w1 := by rw [e]; exact (Below.refl _ _).alloc hbs _
    refine ⟨⟨r, ⟨?_, hbs, ?_, ?_⟩, ?_, Below.refl _ _⟩, hB.trans (hba.mono hb0), Nat.le_trans hbs hba.size, fun wr h => hF wr (hba.trans h)⟩
    · rw [e]; exact heap_alloc_new w _
    · intro er
      have := hI.knil (hrk.1 er)
      show Pl.dK kb kn = []
      rw [this]; rfl
    · intro b hb
      obtain ⟨h1, h2⟩ := hM b hb
      have hlt := h2.lt
      exact ⟨h1, by omega, by rw [e]; exact h2.alloc _⟩
    · constructor
      · intro er
        refine ⟨hrk.1 er, ?_⟩
        have := hI.knil (hrk.1 er)
        show Pl.dK kb kn = []
        rw [this]; rfl
      · exact fun x => hrk.2 x.1
  have HI : Hid (Ins w0 ka kn kb ta tn va vl vc tb) := hI
  have HT : Hid (fn = (Pl.fT (Pl.dK kb kn) tb tn).length ∧ (∀ j, j < fn → (Pl.fT (Pl.dK kb kn) tb tn)[j]? = some (fb j).data.toList) ∧ tk = min (4096 - (Pl.dK kb kn).length) fn) := ⟨hfe, hfb, htk⟩
  clear hI hB hF hfe hfb htk hrk hM
  refine rest_step 19 (by kernel_rfl) ?_
  conv => arg 2; whnf
  go_wp2_with fail
  refine (make_any r _).mono ?_
  rintro e w1 ⟨rfl, hw1⟩
  obtain ⟨x1, x2, x3, x4⟩ := HX.out w1 hw1
  clear HX hw1
  go_wp2_with fail
  exact tail20 HI.out hkn htn x2 hb0 x3 x4 hn HT.out.1 HT.out.2.1 HT.out.2.2 x1

/-- What the loop that fills the skimmer's map keeps. -/
def Fill (w wr : World) (kb : Nat → ByteArray) (k : Nat) : Prop := MapIs wr 9 fS w.heap.size k (Pl.dK kb k) ∧ Below w.heap.size w wr

set_option maxRecDepth 1000000 in
set_option maxHeartbeats 2000000 in
theorem tail17 {c2 c3 c4 c5 c6 c7 c8 c10 c11 c13 c14 c15 c17 c18 c19 c20 c21 c22 c23 c24 c25 c26 c27 c28 c29 c30 c31 c32 c33 c34 c35 c36 c37 c38 c39 c40 c41 c42 c43 c44 c45 c46 c47 c48 c49 c50 c51 c52 c53 c54 c55 c56 c57 c58 c59 c60 c61 c62 c63 c64 c65 c66 c67 c68 c69 c70 c71 c72 c73 c74 c75 c76 c77 c78 c79 c80 c81 c82 c83 c84 c85 c86 c87 c88 c89 c90 c91 c92 c93 c94 c95 c96 c97 c98 c99 c100 c101 c102 c103 c104 c105 c106 c107 c108 c109 c110 c111 c112 c113 c114 c115 c116 c117 c118 c119 c120 c121 c122 c123 c124 c125 c126 c127 c128 c129 c130 c131 c132 c133 c134 c135 c136 c137 c138 c139 c140 c141 c142 c143 c144 c145 c146 c147 c148 c149 c150 c151 c152 c153 c154 c155 c156 c157 c158 c159 c160 c161 c162 c163 c164 c165 c166 c167 c168 c169 c170 c171 c172 c173 c174 c175 c176 c177 c178 c179 c180 c181 c182 c183 c184 c185 c186 c187 c188 c189 c190 c191 c192 c193 c194 c195 c196 c197 c198 c199 c200 c201 c202 c203 c204 c205 c206 c207 c208 c209 c210 c211 c212 c213 c214 c215 c216 c217 c218 c219 c220 c221 c222 c223 c224 c225 c226 c227 c228 c229 c230 c231 c232 c233 c234 c235 c236 c237 c238 c239 c240 c241 c242 c243 : Value} {w0 w : World} {ka ta fa : Option Addr} {kn kc tn tc fn fc tk : Nat} {va : Nat → Option Addr} {vl vc : Nat → Nat} {kb tb fb : Nat → ByteArray}
    (hI : Ins w0 ka kn kb ta tn va vl vc tb) (hkn : kn ≤ 65536) (htn : tn ≤ 65536) (hB : Below w0.heap.size w0 w) (hF : Strs w fa fn fb)
    (hfe : fn = (Pl.fT (Pl.dK kb kn) tb tn).length) (hfb : ∀ j, j < fn → (Pl.fT (Pl.dK kb kn) tb tn)[j]? = some (fb j).data.toList) (htk : tk = min (4096 - (Pl.dK kb kn).length) fn) :
    Rest 17 w0 ⟨((.slice ka kn kc) :: (.slice ta tn tc) :: c2 :: c3 :: c4 :: c5 :: c6 :: c7 :: c8 :: (.int .i64 (((Pl.dK kb kn).length : Nat) : Int)) :: c10 :: c11 :: (.slice fa fn fc) :: c13 :: c14 :: c15 :: (.int .i64 (tk : Int)) :: c17 :: c18 :: c19 :: c20 :: c21 :: c22 :: c23 :: c24 :: c25 :: c26 :: c27 :: c28 :: c29 :: c30 :: c31 :: c32 :: c33 :: c34 :: c35 :: c36 :: c37 :: c38 :: c39 :: c40 :: c41 :: c42 :: c43 :: c44 :: c45 :: c46 :: c47 :: c48 :: c49 :: c50 :: c51 :: c52 :: c53 :: c54 :: c55 :: c56 :: c57 :: c58 :: c59 :: c60 :: c61 :: c62 :: c63 :: c64 :: c65 :: c66 :: c67 :: c68 :: c69 :: c70 :: c71 :: c72 :: c73 :: c74 :: c75 :: c76 :: c77 :: c78 :: c79 :: c80 :: c81 :: c82 :: c83 :: c84 :: c85 :: c86 :: c87 :: c88 :: c89 :: c90 :: c91 :: c92 :: c93 :: c94 :: c95 :: c96 :: c97 :: c98 :: c99 :: c100 :: c101 :: c102 :: c103 :: c104 :: c105 :: c106 :: c107 :: c108 :: c109 :: c110 :: c111 :: c112 :: c113 :: c114 :: c115 :: c116 :: c117 :: c118 :: c119 :: c120 :: c121 :: c122 :: c123 :: c124 :: c125 :: c126 :: c127 :: c128 :: c129 :: c130 :: c131 :: c132 :: c133 :: c134 :: c135 :: c136 :: c137 :: c138 :: c139 :: c140 :: c141 :: c142 :: c143 :: c144 :: c145 :: c146 :: c147 :: c148 :: c149 :: c150 :: c151 :: c152 :: c153 :: c154 :: c155 :: c156 :: c157 :: c158 :: c159 :: c160 :: c161 :: c162 :: c163 :: c164 :: c165 :: c166 :: c167 :: c168 :: c169 :: c170 :: c171 :: c172 :: c173 :: c174 :: c175 :: c176 :: c177 :: c178 :: c179 :: c180 :: c181 :: c182 :: c183 :: c184 :: c185 :: c186 :: c187 :: c188 :: c189 :: c190 :: c191 :: c192 :: c193 :: c194 :: c195 :: c196 :: c197 :: c198 :: c199 :: c200 :: c201 :: c202 :: c203 :: c204 :: c205 :: c206 :: c207 :: c208 :: c209 :: c210 :: c211 :: c212 :: c213 :: c214 :: c215 :: c216 :: c217 :: c218 :: c219 :: c220 :: c221 :: c222 :: c223 :: c224 :: c225 :: c226 :: c227 :: c228 :: c229 :: c230 :: c231 :: c232 :: c233 :: c234 :: c235 :: c236 :: c237 :: c238 :: c239 :: c240 :: c241 :: c242 :: c243 :: []).toArray, []⟩ w := by
  have hneq : ∀ (w : World) (a : Option Addr) (n c : Nat), (binOp .neq 22 (.slice a n c) (.slice none 0 0)).run Try.prog w = .ok (.bool (!a.isNone)) w := fun w a n c => run_neq_slice_nil_any w _ _ _ _ _ _ _ Try.underlying22
  have hmm := @run_makeMap Try.prog
  have HI : Hid (Ins w0 ka kn kb ta tn va vl vc tb) := hI
  have HB : Hid (Below w0.heap.size w0 w) := hB
  have HT : Hid (fn = (Pl.fT (Pl.dK kb kn) tb tn).length ∧ (∀ j, j < fn → (Pl.fT (Pl.dK kb kn) tb tn)[j]? = some (fb j).data.toList) ∧ tk = min (4096 - (Pl.dK kb kn).length) fn ∧ Strs w fa fn fb) := ⟨hfe, hfb, htk, hF⟩
  clear hI hB hfe hfb htk hF
  refine rest_step 17 (by kernel_rfl) ?_
  conv => arg 2; whnf
  go_wp2
  cases hka : ka.isNone
  · refine rest_step 18 (by kernel_rfl) ?_
    conv => arg 2; whnf
    go_wp2
    go_loopw [18] (fun i wr => ∃ k : Nat, k ≤ kn ∧ i = .int .i64 k ∧ Fill w wr kb k) (fun i _ => kn - (intOf i).toNat)
    case atStart => exact ⟨0, Nat.zero_le _, rfl, mapIs_made w 9 fS, (Below.refl _ _).alloc (Nat.le_refl _) _⟩
    case round =>
      obtain ⟨k, hk, rfl, hfl⟩ := hrel
      by_cases hlt : k < kn
      · obtain ⟨b, o, s, hs, hsz, hix, hc0⟩ := HI.out.key hlt kc
        have hB1 : Below w0.heap.size w0 wr := HB.out.trans (hfl.2.mono HB.out.size)
        have hc := hc0 wr hB1
        obtain ⟨w1, hrun, hm1, hg1⟩ := (hfl.1.drew).store Try.underlying27 hsz (by unfold maxLen; omega) (val := .string s) (plainElem_string Try.underlying9 hsz)
        have hf1 : Below w.heap.size w w1 := hfl.2.drew.grown hg1 hfl.2.size (fun j hj => by injection hj with hj; omega)
        have hc1 := hc0 w1 (HB.out.trans (hf1.mono HB.out.size))
        have HR : Hid (Fill w w1 kb (k + 1)) := ⟨by show MapIs w1 9 fS w.heap.size (k + 1) (Pl.addL (Pl.dK kb k) (kb k).data.toList); rw [hs]; exact hm1, hf1⟩
        clear hm1 hg1 hf1 hc0 hB1 hfl hs hmm hneq
        go_wp2
        go_region_held3 (fun w' => w'.cell? ⟨b, o + k, none⟩ = some (.string s)) (go_keep) (fail)
        go_wp2
        go_roundw
        case rel => exact ⟨k + 1, by omega, by go_num, HR.out⟩
        case measure => simp [intOf]; omega
      · obtain rfl : k = kn := by omega
        go_wp2
        have hne : ka ≠ none := fun e => by rw [e] at hka; cases hka
        exact tail19 (base := w.heap.size) (n := k) HI.out hkn htn (HB.out.trans (hfl.2.mono HB.out.size)) HB.out.size hfl.2.size (fun wr' h => HT.out.2.2.2.below (hfl.2.trans h)) hkn HT.out.1 HT.out.2.1 HT.out.2.2.1 ⟨fun e => (by cases e), fun e => absurd e hne⟩ (fun b hb => by injection hb with hb; subst hb; exact ⟨Nat.le_refl _, hfl.1⟩)
  · refine rest_step 18 (by kernel_rfl) ?_
    conv => arg 2; whnf
    go_wp2
    have hn : ka = none := by cases ka with
      | none => rfl
      | some a => cases hka
    exact tail19 (base := w.heap.size) (n := 0) HI.out hkn htn HB.out HB.out.size (Nat.le_refl _) (fun wr h => HT.out.2.2.2.below h) (by omega) HT.out.1 HT.out.2.1 HT.out.2.2.1 ⟨fun _ => hn, fun _ => rfl⟩ (fun b hb => by cases hb)
end Go.Proofs.Qxb6623519a
