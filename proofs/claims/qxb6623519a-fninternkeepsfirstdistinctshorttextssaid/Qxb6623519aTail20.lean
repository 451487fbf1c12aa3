/-
  Statement 20 of the body: intern is called on every text.
-/
import Derived.Test.Qxb6623519aTail21
namespace Go.Proofs.Qxb6623519a
open Go.RowKit Go.Maps

theorem nextL_nil {L : List (List UInt8)} {t : List UInt8} (h : Pl.nextL L t = []) : L = [] := by
  unfold Pl.nextL at h
  split at h
  · exact h
  · split at h
    · exact h
    · split at h
      · simp at h
      · exact h
/-- What the loop over the texts keeps. -/
def InLoop (w wr : World) (ka : Option Addr) (kb tb : Nat → ByteArray) (kn sb base n k : Nat) : Prop :=
  ∃ r, Held wr sb base r (n + k) (Pl.mT (Pl.dK kb kn) tb k) ∧ (r = none ↔ ka = none ∧ Pl.mT (Pl.dK kb kn) tb k = []) ∧ Below base w wr
/-- .. at its end: what the last statements ask. -/
theorem at_end {w0 w wr : World} {ka ta : Option Addr} {kn tn fn tk sb base n : Nat} {va : Nat → Option Addr} {vl vc : Nat → Nat} {kb tb fb : Nat → ByteArray} (hI : Ins w0 ka kn kb ta tn va vl vc tb)
    (hfe : fn = (Pl.fT (Pl.dK kb kn) tb tn).length) (hfb : ∀ j, j < fn → (Pl.fT (Pl.dK kb kn) tb tn)[j]? = some (fb j).data.toList) (htk : tk = min (4096 - (Pl.dK kb kn).length) fn)
    (h : InLoop w wr ka kb tb kn sb base n tn) :
    ∃ r M, Held wr sb base r (n + tn) M ∧ r.isNone = (ka.isNone && decide (tk = 0)) ∧ M.length = (Pl.dK kb kn).length + tk ∧ (∀ j, j < kn → M.contains (kb j).data.toList = true) ∧
      (∀ j, j < fn → j < tk → M.contains (fb j).data.toList = true) ∧ (∀ j, j < fn → tk ≤ j → M.contains (fb j).data.toList = false) ∧ Below base w wr := by
  obtain ⟨r, h1, h2, h3⟩ := h
  have hlen := Pl.mT_length (Pl.dK kb kn) tb tn
  rw [← hfe, ← htk] at hlen
  refine ⟨r, _, h1, ?_, hlen, ?_, ?_, ?_, h3⟩
  · cases ka with
    | some a =>
      have : r ≠ none := fun e => by have := (h2.1 e).1; cases this
      cases r with
      | none => exact absurd rfl this
      | some b => rfl
    | none =>
      have hk0 := hI.knil rfl
      have hD : (Pl.dK kb kn).length = 0 := by rw [hk0]; rfl
      by_cases h0 : tk = 0
      · have hM : Pl.mT (Pl.dK kb kn) tb tn = [] := List.eq_nil_of_length_eq_zero (by omega)
        rw [h2.2 ⟨rfl, hM⟩]
        simp [h0]
      · have : r ≠ none := fun e => by
          have hM := (h2.1 e).2
          rw [hM] at hlen
          simp at hlen
          omega
        cases r with
        | none => exact absurd rfl this
        | some b => simp [h0]
  · intro j hj
    simpa using Pl.mem_mT tb tn (Pl.key_mem kb kn j hj)
  · intro j hj hjt
    simpa using Pl.fresh_in _ tb tn j (hfb j hj) (by omega)
  · intro j hj hjt
    have := Pl.fresh_out _ tb tn j (hfb j hj) (by omega)
    simpa using this

set_option maxRecDepth 1000000 in
set_option maxHeartbeats 2000000 in
theorem tail20 {c2 c3 c4 c5 c6 c7 c8 c10 c11 c13 c14 c15 c17 c18 c20 c21 c22 c23 c24 c25 c26 c27 c28 c29 c30 c31 c32 c33 c34 c35 c36 c37 c38 c39 c40 c41 c42 c43 c44 c45 c46 c47 c48 c49 c50 c51 c52 c53 c54 c55 c56 c57 c58 c59 c60 c61 c62 c63 c64 c65 c66 c67 c68 c69 c70 c71 c72 c73 c74 c75 c76 c77 c78 c79 c80 c81 c82 c83 c84 c85 c86 c87 c88 c89 c90 c91 c92 c93 c94 c95 c96 c97 c98 c99 c100 c101 c102 c103 c104 c105 c106 c107 c108 c109 c110 c111 c112 c113 c114 c115 c116 c117 c118 c119 c120 c121 c122 c123 c124 c125 c126 c127 c128 c129 c130 c131 c132 c133 c134 c135 c136 c137 c138 c139 c140 c141 c142 c143 c144 c145 c146 c147 c148 c149 c150 c151 c152 c153 c154 c155 c156 c157 c158 c159 c160 c161 c162 c163 c164 c165 c166 c167 c168 c169 c170 c171 c172 c173 c174 c175 c176 c177 c178 c179 c180 c181 c182 c183 c184 c185 c186 c187 c188 c189 c190 c191 c192 c193 c194 c195 c196 c197 c198 c199 c200 c201 c202 c203 c204 c205 c206 c207 c208 c209 c210 c211 c212 c213 c214 c215 c216 c217 c218 c219 c220 c221 c222 c223 c224 c225 c226 c227 c228 c229 c230 c231 c232 c233 c234 c235 c236 c237 c238 c239 c240 c241 c242 c243 : Value} {w0 w : World} {ka ta fa : Option Addr} {kn kc tn tc fn fc tk sb base n : Nat} {va : Nat → Option Addr} {vl vc : Nat → Nat} {kb tb fb : Nat → ByteArray}
    (hI : Ins w0 ka kn kb ta tn va vl vc tb) (hkn : kn ≤ 65536) (htn : tn ≤ 65536) (hB : Below w0.heap.size w0 w) (hb0 : w0.heap.size ≤ base) (hbs : base ≤ w.heap.size)
    (hF : ∀ wr, Below base w wr → Strs wr fa fn fb) (hn : n ≤ 65536)
    (hfe : fn = (Pl.fT (Pl.dK kb kn) tb tn).length) (hfb : ∀ j, j < fn → (Pl.fT (Pl.dK kb kn) tb tn)[j]? = some (fb j).data.toList) (htk : tk = min (4096 - (Pl.dK kb kn).length) fn)
    (hL : InLoop w w ka kb tb kn sb base n 0) :
    Rest 20 w0 ⟨((.slice ka kn kc) :: (.slice ta tn tc) :: c2 :: c3 :: c4 :: c5 :: c6 :: c7 :: c8 :: (.int .i64 (((Pl.dK kb kn).length : Nat) : Int)) :: c10 :: c11 :: (.slice fa fn fc) :: c13 :: c14 :: c15 :: (.int .i64 (tk : Int)) :: c17 :: c18 :: (.pointer (some ⟨sb, 0, none⟩)) :: c20 :: c21 :: c22 :: c23 :: c24 :: c25 :: c26 :: c27 :: c28 :: c29 :: c30 :: c31 :: c32 :: c33 :: c34 :: c35 :: c36 :: c37 :: c38 :: c39 :: c40 :: c41 :: c42 :: c43 :: c44 :: c45 :: c46 :: c47 :: c48 :: c49 :: c50 :: c51 :: c52 :: c53 :: c54 :: c55 :: c56 :: c57 :: c58 :: c59 :: c60 :: c61 :: c62 :: c63 :: c64 :: c65 :: c66 :: c67 :: c68 :: c69 :: c70 :: c71 :: c72 :: c73 :: c74 :: c75 :: c76 :: c77 :: c78 :: c79 :: c80 :: c81 :: c82 :: c83 :: c84 :: c85 :: c86 :: c87 :: c88 :: c89 :: c90 :: c91 :: c92 :: c93 :: c94 :: c95 :: c96 :: c97 :: c98 :: c99 :: c100 :: c101 :: c102 :: c103 :: c104 :: c105 :: c106 :: c107 :: c108 :: c109 :: c110 :: c111 :: c112 :: c113 :: c114 :: c115 :: c116 :: c117 :: c118 :: c119 :: c120 :: c121 :: c122 :: c123 :: c124 :: c125 :: c126 :: c127 :: c128 :: c129 :: c130 :: c131 :: c132 :: c133 :: c134 :: c135 :: c136 :: c137 :: c138 :: c139 :: c140 :: c141 :: c142 :: c143 :: c144 :: c145 :: c146 :: c147 :: c148 :: c149 :: c150 :: c151 :: c152 :: c153 :: c154 :: c155 :: c156 :: c157 :: c158 :: c159 :: c160 :: c161 :: c162 :: c163 :: c164 :: c165 :: c166 :: c167 :: c168 :: c169 :: c170 :: c171 :: c172 :: c173 :: c174 :: c175 :: c176 :: c177 :: c178 :: c179 :: c180 :: c181 :: c182 :: c183 :: c184 :: c185 :: c186 :: c187 :: c188 :: c189 :: c190 :: c191 :: c192 :: c193 :: c194 :: c195 :: c196 :: c197 :: c198 :: c199 :: c200 :: c201 :: c202 :: c203 :: c204 :: c205 :: c206 :: c207 :: c208 :: c209 :: c210 :: c211 :: c212 :: c213 :: c214 :: c215 :: c216 :: c217 :: c218 :: c219 :: c220 :: c221 :: c222 :: c223 :: c224 :: c225 :: c226 :: c227 :: c228 :: c229 :: c230 :: c231 :: c232 :: c233 :: c234 :: c235 :: c236 :: c237 :: c238 :: c239 :: c240 :: c241 :: c242 :: c243 :: []).toArray, []⟩ w := by
  have hd0 := Pl.dK_le kb kn
  have hft := Pl.fT_le (Pl.dK kb kn) tb tn
  have hfn : fn ≤ 65536 := by omega
  have HE : ∀ {wr}, InLoop w wr ka kb tb kn sb base n tn → _ := fun {wr} h => at_end (w := w) (wr := wr) (fn := fn) (tk := tk) (fb := fb) hI hfe hfb htk h
  have HE' : Hid (∀ {wr}, InLoop w wr ka kb tb kn sb base n tn → ∃ r M, Held wr sb base r (n + tn) M ∧ r.isNone = (ka.isNone && decide (tk = 0)) ∧ M.length = (Pl.dK kb kn).length + tk ∧ (∀ j, j < kn → M.contains (kb j).data.toList = true) ∧
      (∀ j, j < fn → j < tk → M.contains (fb j).data.toList = true) ∧ (∀ j, j < fn → tk ≤ j → M.contains (fb j).data.toList = false) ∧ Below base w wr) := HE
  have htk' : tk ≤ 65536 := by omega
  have HF : Hid (∀ wr, Below base w wr → Strs wr fa fn fb) := hF
  have HI : Hid (Ins w0 ka kn kb ta tn va vl vc tb) := hI
  have HB : Hid (Below w0.heap.size w0 w) := hB
  clear HE hfe hfb htk hF hft hI hB
  refine rest_step 20 (by kernel_rfl) ?_
  conv => arg 2; whnf
  go_wp2
  go_loopw [20] (fun i wr => ∃ k : Nat, k ≤ tn ∧ i = .int .i64 k ∧ InLoop w wr ka kb tb kn sb base n k) (fun i _ => tn - (intOf i).toNat)
  case atStart => exact ⟨0, Nat.zero_le _, rfl, hL⟩
  case round =>
    obtain ⟨k, hk, rfl, hlp⟩ := hrel
    by_cases hlt : k < tn
    · obtain ⟨b, o, v, l, c, t, htb, -, hts, hlm, hix, hc0, hcv0⟩ := HI.out.text hlt tc
      obtain ⟨r, h1, h2, h3⟩ := hlp
      have hB1 : Below w0.heap.size w0 wr := HB.out.trans (h3.mono hb0)
      have hc := hc0 wr hB1
      have hcv := fun m => hcv0 (wr.drewN m) (below_drewN hB1 m)
      have hz := zzintern_any h1 (Nat.le_trans hbs h3.size) (by unfold maxLen; omega) hts hcv
      have HZ : Hid (Calls Try.prog 6 #[.pointer (some ⟨sb, 0, none⟩), .slice v l c] wr fun e w' => e = .returned (.string t) ∧ Left wr w' sb base r (n + k) (Pl.mT (Pl.dK kb kn) tb k) t.data.toList) := hz
      have HS : Hid (∀ w1, Left wr w1 sb base r (n + k) (Pl.mT (Pl.dK kb kn) tb k) t.data.toList → InLoop w w1 ka kb tb kn sb base n (k + 1) ∧ w1.cell? ⟨b, o + k, none⟩ = some (.slice v l c) ∧ (convert 25 9 (.slice v l c)).run Try.prog w1 = .ok (.string t) w1) := by
        intro w1 hl
        obtain ⟨r', g1, g2, g3⟩ := hl
        have e : Pl.mT (Pl.dK kb kn) tb (k + 1) = Pl.nextL (Pl.mT (Pl.dK kb kn) tb k) t.data.toList := by rw [← htb]; rfl
        have hB2 : Below w0.heap.size w0 w1 := hB1.trans (g3.mono hb0)
        refine ⟨⟨r', by rw [e]; exact g1, ?_, h3.trans g3⟩, hc0 w1 hB2, hcv0 w1 hB2⟩
        rw [g2, e, h2]
        exact ⟨fun x => ⟨x.1.1, x.2⟩, fun x => ⟨⟨x.1, nextL_nil x.2⟩, x.2⟩⟩
      clear hz hcv hc0 hcv0 hB1 h1 h2 h3 htb hts hlm hL
      go_wp2_with fail
      refine HZ.out.mono ?_
      rintro e w1 ⟨rfl, hl⟩
      obtain ⟨s1, s2, s3⟩ := HS.out w1 hl
      clear hl HS HZ hc
      go_wp2
      go_roundw
      case rel => exact ⟨k + 1, by omega, by go_num, s1⟩
      case measure => simp [intOf]; omega
    · obtain rfl : k = tn := by omega
      obtain ⟨r, M, g1, g2, g3, g4, g5, g6, g7⟩ := HE'.out hlp
      have hB1 : Below w0.heap.size w0 wr := HB.out.trans (g7.mono hb0)
      have HX : Hid (Held wr sb base r (n + k) M ∧ r.isNone = (ka.isNone && decide (tk = 0)) ∧ M.length = (Pl.dK kb kn).length + tk ∧ (∀ j, j < kn → M.contains (kb j).data.toList = true) ∧
        (∀ j, j < fn → j < tk → M.contains (fb j).data.toList = true) ∧ (∀ j, j < fn → tk ≤ j → M.contains (fb j).data.toList = false) ∧ Below w0.heap.size w0 wr ∧ Strs wr ka kn kb ∧ Strs wr fa fn fb) :=
        ⟨g1, g2, g3, g4, g5, g6, hB1, (show Strs w0 ka kn kb from HI.out.keys).below hB1, HF.out wr g7⟩
      clear g1 g2 g3 g4 g5 g6 g7 hB1 hlp hL
      go_wp2
      exact tail21 HX.out.2.2.2.2.2.2.1 HX.out.2.2.2.2.2.2.2.1 hkn HX.out.2.2.2.2.2.2.2.2 hfn HX.out.1 HX.out.2.1 HX.out.2.2.1 htk' (by omega) HX.out.2.2.2.1 HX.out.2.2.2.2.1 HX.out.2.2.2.2.2.1
end Go.Proofs.Qxb6623519a
