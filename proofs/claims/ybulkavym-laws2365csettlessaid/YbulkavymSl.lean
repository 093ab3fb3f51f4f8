import Derived.Test.YbulkavymSk
namespace Go.Proofs.Ybulkavym
open Go.RowKit
set_option linter.unusedVariables false
set_option linter.unusedSimpArgs false

/-- The outermost loops' bodies, in their order. -/
def loopsIn : Code → List Code
  | .loop c => [c]
  | .seq a b => loopsIn a ++ loopsIn b
  | .block _ c => loopsIn c
  | .scope c => loopsIn c
  | .cond _ a b => loopsIn a ++ loopsIn b
  | _ => []
def bodyAt (f : Func) (i : Nat) : Code := ((f.body.map loopsIn).getD []).getD i .skip
def innerAt (f : Func) (i j : Nat) : Code := (loopsIn (bodyAt f i)).getD j .skip

set_option maxRecDepth 1000000 in
set_option maxHeartbeats 4000000 in
theorem loop2 (w0 : World) (d : RD) (ix : Int) (k nb na : Nat) (h1 : 0 ≤ ix) (h2 : ix ≤ 65535) (q1 : nb ≤ 3) (q2 : na ≤ 2) (hk : k ≤ 300) (w2 : World) (hi : Inn w0 d (nb + 1 + na) 0 [] w2) (c0 c1 c2 c3 c4 c5 c6 c7 c9 c10 c12 c14 c17 c18 c19 c20 c21 c22 c23 c24 c25 c26 c27 c28 c29 c30 c31 c32 c33 c34 c35 c36 c37 c38 c39 c40 c41 c42 c43 c44 c45 c46 c47 c48 c49 c50 c51 c52 c53 c54 c55 c56 c57 c58 c59 c60 c61 c62 c63 c64 c65 c66 c67 c68 c69 c70 c71 c72 c73 c74 c75 c76 c77 c78 c79 c80 c81 c82 c83 c84 c85 c86 c87 c88 c89 c90 c91 c92 c93 c94 c95 c96 c97 c98 c99 c100 c101 c102 c103 c104 c105 c106 c107 c108 c109 c110 c111 c112 c113 c114 c115 c116 c117 c118 c119 c120 c121 c122 c123 c124 c125 c126 c127 c128 c129 c130 c131 c132 c133 c134 c135 c136 c137 c138 c139 c140 c141 c142 c143 c144 c145 c146 c147 c148 c149 c150 c151 c152 c153 c154 c155 c156 c157 c158 c159 c160 c161 c162 c163 c164 c165 c166 c167 c168 c169 c170 c171 c172 c173 c174 c175 c176 c177 c178 c179 c180 c181 c182 c183 c184 c185 c186 c187 c188 c189 c190 c191 c192 c193 c194 c195 c196 c197 c198 c199 c200 c201 c202 c203 c204 c205 c206 c207 c208 c209 c210 c211 c212 c213 c214 c215 c216 c217 c218 c219 c220 c221 c222 c223 c224 c225 c226 c227 c228 c229 c230 c231 c232 c233 c234 c235 c236 c237 c238 c239 c240 c241 c242 c243 c244 c245 c246 c247 c248 c249 c250 c251 c252 c253 c254 c255 c256 c257 c258 c259 c260 c261 c262 c263 c264 c265 c266 c267 c268 c269 c270 c271 c272 c273 c274 c275 c276 c277 c278 c279 c280 c281 c282 c283 c284 c285 c286 c287 c288 c289 c290 c291 : Value) (K : Act → World → Prop) (Q : Exit → Act → World → Prop)
    (hK : ∀ (v17 v67 v68 v69 v70 v71 v72 v73 v74 v75 v76 v77 v78 v79 v80 v81 v82 v83 v84 v85 v86 v87 v88 : Value) (L : List Ver) (wx : World), L.length = nb → Oth (ix + 1) L → Inn w0 d (nb + 1 + na) nb L wx → K ⟨(List.toArray (c0 :: c1 :: c2 :: c3 :: c4 :: c5 :: c6 :: c7 :: (.int .u64 (ix + 1)) :: c9 :: c10 :: (.int .i64 k) :: c12 :: (.int .i64 nb) :: c14 :: (.slice (some ⟨w0.heap.size + 1, 0, none⟩) nb (nb + 1 + na)) :: (.int .i64 nb) :: (v17) :: c18 :: c19 :: c20 :: c21 :: c22 :: c23 :: c24 :: c25 :: c26 :: c27 :: c28 :: c29 :: c30 :: c31 :: c32 :: c33 :: c34 :: c35 :: c36 :: c37 :: c38 :: c39 :: c40 :: c41 :: c42 :: c43 :: c44 :: c45 :: c46 :: c47 :: c48 :: c49 :: c50 :: c51 :: c52 :: c53 :: c54 :: c55 :: c56 :: c57 :: c58 :: c59 :: c60 :: c61 :: c62 :: c63 :: c64 :: c65 :: c66 :: (v67) :: (v68) :: (v69) :: (v70) :: (v71) :: (v72) :: (v73) :: (v74) :: (v75) :: (v76) :: (v77) :: (v78) :: (v79) :: (v80) :: (v81) :: (v82) :: (v83) :: (v84) :: (v85) :: (v86) :: (v87) :: (v88) :: c89 :: c90 :: c91 :: c92 :: c93 :: c94 :: c95 :: c96 :: c97 :: c98 :: c99 :: c100 :: c101 :: c102 :: c103 :: c104 :: c105 :: c106 :: c107 :: c108 :: c109 :: c110 :: c111 :: c112 :: c113 :: c114 :: c115 :: c116 :: c117 :: c118 :: c119 :: c120 :: c121 :: c122 :: c123 :: c124 :: c125 :: c126 :: c127 :: c128 :: c129 :: c130 :: c131 :: c132 :: c133 :: c134 :: c135 :: c136 :: c137 :: c138 :: c139 :: c140 :: c141 :: c142 :: c143 :: c144 :: c145 :: c146 :: c147 :: c148 :: c149 :: c150 :: c151 :: c152 :: c153 :: c154 :: c155 :: c156 :: c157 :: c158 :: c159 :: c160 :: c161 :: c162 :: c163 :: c164 :: c165 :: c166 :: c167 :: c168 :: c169 :: c170 :: c171 :: c172 :: c173 :: c174 :: c175 :: c176 :: c177 :: c178 :: c179 :: c180 :: c181 :: c182 :: c183 :: c184 :: c185 :: c186 :: c187 :: c188 :: c189 :: c190 :: c191 :: c192 :: c193 :: c194 :: c195 :: c196 :: c197 :: c198 :: c199 :: c200 :: c201 :: c202 :: c203 :: c204 :: c205 :: c206 :: c207 :: c208 :: c209 :: c210 :: c211 :: c212 :: c213 :: c214 :: c215 :: c216 :: c217 :: c218 :: c219 :: c220 :: c221 :: c222 :: c223 :: c224 :: c225 :: c226 :: c227 :: c228 :: c229 :: c230 :: c231 :: c232 :: c233 :: c234 :: c235 :: c236 :: c237 :: c238 :: c239 :: c240 :: c241 :: c242 :: c243 :: c244 :: c245 :: c246 :: c247 :: c248 :: c249 :: c250 :: c251 :: c252 :: c253 :: c254 :: c255 :: c256 :: c257 :: c258 :: c259 :: c260 :: c261 :: c262 :: c263 :: c264 :: c265 :: c266 :: c267 :: c268 :: c269 :: c270 :: c271 :: c272 :: c273 :: c274 :: c275 :: c276 :: c277 :: c278 :: c279 :: c280 :: c281 :: c282 :: c283 :: c284 :: c285 :: c286 :: c287 :: c288 :: c289 :: c290 :: c291 :: [])), []⟩ wx) :
    Code.wp Yba.prog (Code.loop (innerAt Yba.f5 0 0)) (Exit.inBlock 2 (Exit.then K Q)) ⟨(List.toArray (c0 :: c1 :: c2 :: c3 :: c4 :: c5 :: c6 :: c7 :: (.int .u64 (ix + 1)) :: c9 :: c10 :: (.int .i64 k) :: c12 :: (.int .i64 nb) :: c14 :: (.slice (some ⟨w0.heap.size + 1, 0, none⟩) 0 (nb + 1 + na)) :: (.int .i64 0) :: c17 :: c18 :: c19 :: c20 :: c21 :: c22 :: c23 :: c24 :: c25 :: c26 :: c27 :: c28 :: c29 :: c30 :: c31 :: c32 :: c33 :: c34 :: c35 :: c36 :: c37 :: c38 :: c39 :: c40 :: c41 :: c42 :: c43 :: c44 :: c45 :: c46 :: c47 :: c48 :: c49 :: c50 :: c51 :: c52 :: c53 :: c54 :: c55 :: c56 :: c57 :: c58 :: c59 :: c60 :: c61 :: c62 :: c63 :: c64 :: c65 :: c66 :: c67 :: c68 :: c69 :: c70 :: c71 :: c72 :: c73 :: c74 :: c75 :: c76 :: c77 :: c78 :: c79 :: c80 :: c81 :: c82 :: c83 :: c84 :: c85 :: c86 :: c87 :: c88 :: c89 :: c90 :: c91 :: c92 :: c93 :: c94 :: c95 :: c96 :: c97 :: c98 :: c99 :: c100 :: c101 :: c102 :: c103 :: c104 :: c105 :: c106 :: c107 :: c108 :: c109 :: c110 :: c111 :: c112 :: c113 :: c114 :: c115 :: c116 :: c117 :: c118 :: c119 :: c120 :: c121 :: c122 :: c123 :: c124 :: c125 :: c126 :: c127 :: c128 :: c129 :: c130 :: c131 :: c132 :: c133 :: c134 :: c135 :: c136 :: c137 :: c138 :: c139 :: c140 :: c141 :: c142 :: c143 :: c144 :: c145 :: c146 :: c147 :: c148 :: c149 :: c150 :: c151 :: c152 :: c153 :: c154 :: c155 :: c156 :: c157 :: c158 :: c159 :: c160 :: c161 :: c162 :: c163 :: c164 :: c165 :: c166 :: c167 :: c168 :: c169 :: c170 :: c171 :: c172 :: c173 :: c174 :: c175 :: c176 :: c177 :: c178 :: c179 :: c180 :: c181 :: c182 :: c183 :: c184 :: c185 :: c186 :: c187 :: c188 :: c189 :: c190 :: c191 :: c192 :: c193 :: c194 :: c195 :: c196 :: c197 :: c198 :: c199 :: c200 :: c201 :: c202 :: c203 :: c204 :: c205 :: c206 :: c207 :: c208 :: c209 :: c210 :: c211 :: c212 :: c213 :: c214 :: c215 :: c216 :: c217 :: c218 :: c219 :: c220 :: c221 :: c222 :: c223 :: c224 :: c225 :: c226 :: c227 :: c228 :: c229 :: c230 :: c231 :: c232 :: c233 :: c234 :: c235 :: c236 :: c237 :: c238 :: c239 :: c240 :: c241 :: c242 :: c243 :: c244 :: c245 :: c246 :: c247 :: c248 :: c249 :: c250 :: c251 :: c252 :: c253 :: c254 :: c255 :: c256 :: c257 :: c258 :: c259 :: c260 :: c261 :: c262 :: c263 :: c264 :: c265 :: c266 :: c267 :: c268 :: c269 :: c270 :: c271 :: c272 :: c273 :: c274 :: c275 :: c276 :: c277 :: c278 :: c279 :: c280 :: c281 :: c282 :: c283 :: c284 :: c285 :: c286 :: c287 :: c288 :: c289 :: c290 :: c291 :: [])), []⟩ w2 := by
  obtain ⟨i53, hi53, hz53, hs53, hb53⟩ := info_parts info53
  have HI0 : Hid (Inn w0 d (nb + 1 + na) 0 [] w2) := hi
  have HK : Hid (∀ (v17 v67 v68 v69 v70 v71 v72 v73 v74 v75 v76 v77 v78 v79 v80 v81 v82 v83 v84 v85 v86 v87 v88 : Value) (L : List Ver) (wx : World), L.length = nb → Oth (ix + 1) L → Inn w0 d (nb + 1 + na) nb L wx → K ⟨(List.toArray (c0 :: c1 :: c2 :: c3 :: c4 :: c5 :: c6 :: c7 :: (.int .u64 (ix + 1)) :: c9 :: c10 :: (.int .i64 k) :: c12 :: (.int .i64 nb) :: c14 :: (.slice (some ⟨w0.heap.size + 1, 0, none⟩) nb (nb + 1 + na)) :: (.int .i64 nb) :: (v17) :: c18 :: c19 :: c20 :: c21 :: c22 :: c23 :: c24 :: c25 :: c26 :: c27 :: c28 :: c29 :: c30 :: c31 :: c32 :: c33 :: c34 :: c35 :: c36 :: c37 :: c38 :: c39 :: c40 :: c41 :: c42 :: c43 :: c44 :: c45 :: c46 :: c47 :: c48 :: c49 :: c50 :: c51 :: c52 :: c53 :: c54 :: c55 :: c56 :: c57 :: c58 :: c59 :: c60 :: c61 :: c62 :: c63 :: c64 :: c65 :: c66 :: (v67) :: (v68) :: (v69) :: (v70) :: (v71) :: (v72) :: (v73) :: (v74) :: (v75) :: (v76) :: (v77) :: (v78) :: (v79) :: (v80) :: (v81) :: (v82) :: (v83) :: (v84) :: (v85) :: (v86) :: (v87) :: (v88) :: c89 :: c90 :: c91 :: c92 :: c93 :: c94 :: c95 :: c96 :: c97 :: c98 :: c99 :: c100 :: c101 :: c102 :: c103 :: c104 :: c105 :: c106 :: c107 :: c108 :: c109 :: c110 :: c111 :: c112 :: c113 :: c114 :: c115 :: c116 :: c117 :: c118 :: c119 :: c120 :: c121 :: c122 :: c123 :: c124 :: c125 :: c126 :: c127 :: c128 :: c129 :: c130 :: c131 :: c132 :: c133 :: c134 :: c135 :: c136 :: c137 :: c138 :: c139 :: c140 :: c141 :: c142 :: c143 :: c144 :: c145 :: c146 :: c147 :: c148 :: c149 :: c150 :: c151 :: c152 :: c153 :: c154 :: c155 :: c156 :: c157 :: c158 :: c159 :: c160 :: c161 :: c162 :: c163 :: c164 :: c165 :: c166 :: c167 :: c168 :: c169 :: c170 :: c171 :: c172 :: c173 :: c174 :: c175 :: c176 :: c177 :: c178 :: c179 :: c180 :: c181 :: c182 :: c183 :: c184 :: c185 :: c186 :: c187 :: c188 :: c189 :: c190 :: c191 :: c192 :: c193 :: c194 :: c195 :: c196 :: c197 :: c198 :: c199 :: c200 :: c201 :: c202 :: c203 :: c204 :: c205 :: c206 :: c207 :: c208 :: c209 :: c210 :: c211 :: c212 :: c213 :: c214 :: c215 :: c216 :: c217 :: c218 :: c219 :: c220 :: c221 :: c222 :: c223 :: c224 :: c225 :: c226 :: c227 :: c228 :: c229 :: c230 :: c231 :: c232 :: c233 :: c234 :: c235 :: c236 :: c237 :: c238 :: c239 :: c240 :: c241 :: c242 :: c243 :: c244 :: c245 :: c246 :: c247 :: c248 :: c249 :: c250 :: c251 :: c252 :: c253 :: c254 :: c255 :: c256 :: c257 :: c258 :: c259 :: c260 :: c261 :: c262 :: c263 :: c264 :: c265 :: c266 :: c267 :: c268 :: c269 :: c270 :: c271 :: c272 :: c273 :: c274 :: c275 :: c276 :: c277 :: c278 :: c279 :: c280 :: c281 :: c282 :: c283 :: c284 :: c285 :: c286 :: c287 :: c288 :: c289 :: c290 :: c291 :: [])), []⟩ wx) := hK
  clear hi hK
  conv => arg 2; arg 1; whnf
  go_loopw [15, 16] (fun p i wx => ∃ q : Nat, ∃ L : List Ver, q ≤ nb ∧ i = .int .i64 q ∧ p = .slice (some ⟨w0.heap.size + 1, 0, none⟩) q (nb + 1 + na) ∧ L.length = q ∧ Oth (ix + 1) L ∧ Inn w0 d (nb + 1 + na) q L wx) (fun _ i _ => nb - (intOf i).toNat)
  case atStart => exact ⟨0, [], Nat.zero_le _, rfl, rfl, rfl, fun v hv => (by simp at hv), HI0.out⟩
  case round =>
    rename World => wx
    obtain ⟨q, L, hq, rfl, rfl, hL, hO, hin⟩ := hrel
    have HIN : Hid (Inn w0 d (nb + 1 + na) q L wx) := hin
    have HO : Hid (Oth (ix + 1) L) := hO
    have HL : Hid (L.length = q) := hL
    clear hin hO hL
    by_cases hlt2 : q < nb
    · have HE3 : Hid ((((k + q) % 3 : Nat) : Int) = ((k : Int) + (q : Int)) % 3) := (by show (((k + q) % 3 : Nat) : Int) = ((k : Int) + (q : Int)) % 3; omega)
      by_cases hq0 : q = 0
      · have HQ0 : Hid (q = 0) := hq0
        have dq : decide ((0 : Int) < (q : Int)) = false := by simp; omega
        have dq' : decide (0 < q) = false := by simp; omega
        clear hq0
        go_wp2_with fail
        have hver := ver_any (0 : Int) true ((k + q) % 3) (q : Int) (by omega) wx
        rw [HE3.out] at hver
        refine hver.mono ?_
        clear hver
        rintro e w3 ⟨v, hgv, hvp, hvw, rfl, hb3⟩
        have HBB : Hid (Below wx.heap.size wx w3) := hb3
        have HGV : Hid (Good v.b) := hgv
        have HVW : Hid (v.w = 0) := hvw
        have hown3 := HIN.out.laid hb3 (.cells #[.slice v.a v.n v.c, .bool v.p, .int .u64 v.w, .pointer none] 53)
        have HADD : Hid (∀ w4, (w3.alloc (.cells #[.slice v.a v.n v.c, .bool v.p, .int .u64 v.w, .pointer none] 53)).grownBy w4 (some (w0.heap.size + 1)) → w4.ownsRow (w0.heap.size + 1) 53 4 (.slice (some ⟨w0.heap.size + 1, 0, none⟩) (q + 1) (nb + 1 + na)) (q + 1) (vcells L ++ [.slice v.a v.n v.c, .bool v.p, .int .u64 v.w, .pointer none]) → Inn w0 d (nb + 1 + na) (q + 1) (L ++ [v]) w4) := fun w4 hg ho => HIN.out.add HBB.out hg ho
        have H1 := one4 v
        clear hgv hvp hvw hb3
        simp only [Ver.agg, Ver.b]
        go_wp2_with (first | (at_builtin; refine wpList_append_fits _ rfl _ _ 48 rfl (w0.heap.size + 1) 53 i53 4 Yba.underlying48 hi53 hs53 (w0.heap.size + 1) q (nb + 1 + na) (vcells L) rfl hown3 ⟨w3.heap.size, 0, none⟩ 1 1 [.slice v.a v.n v.c, .bool v.p, .int .u64 v.w, .pointer none] rfl rfl (cells4_new _ _ _ _ _ _) H1 (by omega) ?_; intro w4 hown4 hg4))
        go_roundw
        case rel => exact ⟨q + 1, L ++ [v], by omega, by go_num, rfl, by simp [HL.out], HO.out.add HGV.out (by rw [HVW.out]; omega), HADD.out w4 hg4 hown4⟩
        case measure => simp [intOf]; omega
      · have dq : decide ((0 : Int) < (q : Int)) = true := by simp; omega
        have dq' : decide (0 < q) = true := by simp; omega
        go_wp2_with fail
        have hver := ver_any (ix + 1 + (q : Int)) true ((k + q) % 3) (q : Int) (by omega) wx
        rw [HE3.out] at hver
        refine hver.mono ?_
        clear hver
        rintro e w3 ⟨v, hgv, hvp, hvw, rfl, hb3⟩
        have HBB : Hid (Below wx.heap.size wx w3) := hb3
        have HGV : Hid (Good v.b) := hgv
        have HVW : Hid (v.w = ix + 1 + (q : Int)) := hvw
        have hown3 := HIN.out.laid hb3 (.cells #[.slice v.a v.n v.c, .bool v.p, .int .u64 v.w, .pointer none] 53)
        have HADD : Hid (∀ w4, (w3.alloc (.cells #[.slice v.a v.n v.c, .bool v.p, .int .u64 v.w, .pointer none] 53)).grownBy w4 (some (w0.heap.size + 1)) → w4.ownsRow (w0.heap.size + 1) 53 4 (.slice (some ⟨w0.heap.size + 1, 0, none⟩) (q + 1) (nb + 1 + na)) (q + 1) (vcells L ++ [.slice v.a v.n v.c, .bool v.p, .int .u64 v.w, .pointer none]) → Inn w0 d (nb + 1 + na) (q + 1) (L ++ [v]) w4) := fun w4 hg ho => HIN.out.add HBB.out hg ho
        have H1 := one4 v
        clear hgv hvp hvw hb3
        simp only [Ver.agg, Ver.b]
        go_wp2_with (first | (at_builtin; refine wpList_append_fits _ rfl _ _ 48 rfl (w0.heap.size + 1) 53 i53 4 Yba.underlying48 hi53 hs53 (w0.heap.size + 1) q (nb + 1 + na) (vcells L) rfl hown3 ⟨w3.heap.size, 0, none⟩ 1 1 [.slice v.a v.n v.c, .bool v.p, .int .u64 v.w, .pointer none] rfl rfl (cells4_new _ _ _ _ _ _) H1 (by omega) ?_; intro w4 hown4 hg4))
        go_roundw
        case rel => exact ⟨q + 1, L ++ [v], by omega, by go_num, rfl, by simp [HL.out], HO.out.add HGV.out (by rw [HVW.out]; omega), HADD.out w4 hg4 hown4⟩
        case measure => simp [intOf]; omega
    · obtain rfl : q = nb := by omega
      go_wp2
      exact HK.out _ _ _ _ _ _ _ _ _ _ _ _ _ _ _ _ _ _ _ _ _ _ _ L wx HL.out HO.out HIN.out
end Go.Proofs.Ybulkavym
