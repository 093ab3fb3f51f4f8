import Derived.Test.YbulkavymSn
namespace Go.Proofs.Ybulkavym
open Go.RowKit
set_option linter.unusedVariables false
set_option linter.unusedSimpArgs false

set_option maxRecDepth 1000000 in
set_option maxHeartbeats 4000000 in
theorem loop1 (ix rs : Int) (ao : Option Addr) (rb ro n cap0 : Nat) (D : Nat → RD) (w : World) (h1 : 0 ≤ ix) (h2 : ix ≤ 65535) (h3 : 0 ≤ rs) (h4 : rs ≤ 255) (hn : n ≤ 300) (hao : 0 < n → ao = some ⟨rb, ro, none⟩)
    (hc : ∀ i, i < n → w.cell? ⟨rb, ro + i * 4, none⟩ = some (.int .u8 (D i).b) ∧ w.cell? ⟨rb, ro + i * 4 + 1, none⟩ = some (.int .u8 (D i).a) ∧ w.cell? ⟨rb, ro + i * 4 + 2, none⟩ = some (.bool (D i).h) ∧ w.cell? ⟨rb, ro + i * 4 + 3, none⟩ = some (.bool (D i).p))
    (hd : ∀ i, i < n → 0 ≤ (D i).b ∧ (D i).b ≤ 255 ∧ 0 ≤ (D i).a ∧ (D i).a ≤ 255)
    (w1 : World) (hM0 : Made w n (rs % 4) (ix + 1) D ⟨0, fun _ => 0, fun _ => 0, fun _ => [], fun _ => 0⟩ (fun _ => 0) (.slice none 0 0) w1) (c0 c1 c2 c3 c4 c5 c6 c7 c11 c12 c13 c14 c15 c16 c17 c18 c19 c20 c21 c22 c23 c24 c25 c26 c27 c28 c29 c30 c31 c32 c33 c34 c35 c36 c37 c38 c39 c40 c41 c42 c43 c44 c45 c46 c50 c51 c52 c53 c54 c55 c56 c57 c58 c59 c60 c61 c62 c63 c64 c65 c66 c67 c68 c69 c70 c71 c72 c73 c74 c75 c76 c77 c78 c79 c80 c81 c82 c83 c84 c85 c86 c87 c88 c89 c90 c91 c92 c93 c94 c95 c96 c97 c98 c99 c100 c101 c102 c103 c104 c105 c106 c107 c108 c109 c110 c111 c112 c113 c114 c115 c116 c117 c118 c119 c120 c121 c122 c123 c124 c125 c126 c127 c128 c129 c130 c131 c132 c133 c134 c135 c136 c137 c138 c139 c140 c141 c142 c143 c144 c145 c146 c147 c148 c149 c150 c151 c152 c153 c154 c155 c156 c157 c158 c159 c160 c161 c162 c163 c164 c165 c166 c167 c168 c169 c170 c171 c172 c173 c174 c175 c176 c177 c178 c179 c180 c181 c182 c183 c184 c185 c186 c187 c188 c189 c190 c191 c192 c193 c194 c195 c196 c197 c198 c199 c200 c201 c202 c203 c204 c205 c206 c207 c208 c209 c210 c211 c212 c213 c214 c215 c216 c217 c218 c219 c220 c221 c222 c223 c224 c225 c226 c227 c228 c229 c230 c231 c232 c233 c234 c235 c236 c237 c238 c239 c240 c241 c242 c243 c244 c245 c246 c247 c248 c249 c250 c251 c252 c253 c254 c255 c256 c257 c258 c259 c260 c261 c262 c263 c264 c265 c266 c267 c268 c269 c270 c271 c272 c273 c274 c275 c276 c277 c278 c279 c280 c281 c282 c283 c284 c285 c286 c287 c288 c289 c290 c291 : Value) (K : Act → World → Prop) (Q : Exit → Act → World → Prop)
    (hK : ∀ (v11 v12 v13 v14 v15 v16 v17 v18 v19 v50 v51 v52 v53 v54 v55 v56 v57 v58 v59 v60 v61 v62 v63 v64 v65 v66 v67 v68 v69 v70 v71 v72 v73 v74 v75 v76 v77 v78 v79 v80 v81 v82 v83 v84 v85 v86 v87 v88 v89 v90 v91 v92 v93 v94 v95 v96 v97 v98 v99 v100 v101 v102 v103 v104 v105 v106 v107 v108 v109 v110 v111 v112 v113 v114 v115 v116 v117 v118 v119 v120 v121 v122 v123 v124 v125 v126 v127 v128 v129 v130 v131 v132 v133 v134 v135 v136 v137 v138 v139 v140 v141 v142 v143 v144 v145 v146 v147 v148 : Value) (X : Sys) (C : Nat → Nat) (wv : Value) (wr : World), X.K = n → Made w n (rs % 4) (ix + 1) D X C wv wr → K ⟨(List.toArray (c0 :: c1 :: c2 :: c3 :: c4 :: c5 :: c6 :: c7 :: (.int .u64 (ix + 1)) :: (.pointer (some ⟨w.heap.size, 0, none⟩)) :: (.slice (some ⟨w.heap.size + 1, 0, none⟩) n n) :: (v11) :: (v12) :: (v13) :: (v14) :: (v15) :: (v16) :: (v17) :: (v18) :: (v19) :: c20 :: c21 :: c22 :: c23 :: c24 :: c25 :: c26 :: c27 :: c28 :: c29 :: c30 :: c31 :: c32 :: c33 :: c34 :: c35 :: c36 :: c37 :: c38 :: c39 :: c40 :: c41 :: c42 :: c43 :: c44 :: c45 :: c46 :: (.slice ao n cap0) :: (.int .i64 n) :: (.int .i64 n) :: (v50) :: (v51) :: (v52) :: (v53) :: (v54) :: (v55) :: (v56) :: (v57) :: (v58) :: (v59) :: (v60) :: (v61) :: (v62) :: (v63) :: (v64) :: (v65) :: (v66) :: (v67) :: (v68) :: (v69) :: (v70) :: (v71) :: (v72) :: (v73) :: (v74) :: (v75) :: (v76) :: (v77) :: (v78) :: (v79) :: (v80) :: (v81) :: (v82) :: (v83) :: (v84) :: (v85) :: (v86) :: (v87) :: (v88) :: (v89) :: (v90) :: (v91) :: (v92) :: (v93) :: (v94) :: (v95) :: (v96) :: (v97) :: (v98) :: (v99) :: (v100) :: (v101) :: (v102) :: (v103) :: (v104) :: (v105) :: (v106) :: (v107) :: (v108) :: (v109) :: (v110) :: (v111) :: (v112) :: (v113) :: (v114) :: (v115) :: (v116) :: (v117) :: (v118) :: (v119) :: (v120) :: (v121) :: (v122) :: (v123) :: (v124) :: (v125) :: (v126) :: (v127) :: (v128) :: (v129) :: (v130) :: (v131) :: (v132) :: (v133) :: (v134) :: (v135) :: (v136) :: (v137) :: (v138) :: (v139) :: (v140) :: (v141) :: (v142) :: (v143) :: (v144) :: (v145) :: (v146) :: (v147) :: (v148) :: c149 :: c150 :: c151 :: c152 :: c153 :: c154 :: c155 :: c156 :: c157 :: c158 :: c159 :: c160 :: c161 :: c162 :: c163 :: c164 :: c165 :: c166 :: c167 :: c168 :: c169 :: c170 :: c171 :: c172 :: c173 :: c174 :: c175 :: c176 :: c177 :: c178 :: c179 :: c180 :: c181 :: c182 :: c183 :: c184 :: c185 :: c186 :: c187 :: c188 :: c189 :: c190 :: c191 :: c192 :: c193 :: c194 :: c195 :: c196 :: c197 :: c198 :: c199 :: c200 :: c201 :: c202 :: c203 :: c204 :: c205 :: c206 :: c207 :: c208 :: c209 :: c210 :: c211 :: c212 :: c213 :: c214 :: c215 :: c216 :: c217 :: c218 :: c219 :: c220 :: c221 :: c222 :: c223 :: c224 :: c225 :: c226 :: c227 :: c228 :: c229 :: c230 :: c231 :: c232 :: c233 :: c234 :: c235 :: c236 :: c237 :: c238 :: c239 :: c240 :: c241 :: c242 :: c243 :: c244 :: c245 :: c246 :: c247 :: c248 :: c249 :: c250 :: c251 :: c252 :: c253 :: c254 :: c255 :: c256 :: c257 :: c258 :: c259 :: c260 :: c261 :: c262 :: c263 :: c264 :: c265 :: c266 :: c267 :: c268 :: c269 :: c270 :: c271 :: c272 :: c273 :: c274 :: c275 :: c276 :: c277 :: c278 :: c279 :: c280 :: c281 :: c282 :: c283 :: c284 :: c285 :: c286 :: c287 :: c288 :: c289 :: c290 :: c291 :: [])), []⟩ wr) :
    Code.wp Yba.prog (Code.loop (bodyAt Yba.f5 0)) (Exit.inBlock 0 (Exit.then K Q)) ⟨(List.toArray (c0 :: c1 :: c2 :: c3 :: c4 :: c5 :: c6 :: c7 :: (.int .u64 (ix + 1)) :: (.pointer (some ⟨w.heap.size, 0, none⟩)) :: (.slice (some ⟨w.heap.size + 1, 0, none⟩) n n) :: c11 :: c12 :: c13 :: c14 :: c15 :: c16 :: c17 :: c18 :: c19 :: c20 :: c21 :: c22 :: c23 :: c24 :: c25 :: c26 :: c27 :: c28 :: c29 :: c30 :: c31 :: c32 :: c33 :: c34 :: c35 :: c36 :: c37 :: c38 :: c39 :: c40 :: c41 :: c42 :: c43 :: c44 :: c45 :: c46 :: (.slice ao n cap0) :: (.int .i64 n) :: (.int .i64 0) :: c50 :: c51 :: c52 :: c53 :: c54 :: c55 :: c56 :: c57 :: c58 :: c59 :: c60 :: c61 :: c62 :: c63 :: c64 :: c65 :: c66 :: c67 :: c68 :: c69 :: c70 :: c71 :: c72 :: c73 :: c74 :: c75 :: c76 :: c77 :: c78 :: c79 :: c80 :: c81 :: c82 :: c83 :: c84 :: c85 :: c86 :: c87 :: c88 :: c89 :: c90 :: c91 :: c92 :: c93 :: c94 :: c95 :: c96 :: c97 :: c98 :: c99 :: c100 :: c101 :: c102 :: c103 :: c104 :: c105 :: c106 :: c107 :: c108 :: c109 :: c110 :: c111 :: c112 :: c113 :: c114 :: c115 :: c116 :: c117 :: c118 :: c119 :: c120 :: c121 :: c122 :: c123 :: c124 :: c125 :: c126 :: c127 :: c128 :: c129 :: c130 :: c131 :: c132 :: c133 :: c134 :: c135 :: c136 :: c137 :: c138 :: c139 :: c140 :: c141 :: c142 :: c143 :: c144 :: c145 :: c146 :: c147 :: c148 :: c149 :: c150 :: c151 :: c152 :: c153 :: c154 :: c155 :: c156 :: c157 :: c158 :: c159 :: c160 :: c161 :: c162 :: c163 :: c164 :: c165 :: c166 :: c167 :: c168 :: c169 :: c170 :: c171 :: c172 :: c173 :: c174 :: c175 :: c176 :: c177 :: c178 :: c179 :: c180 :: c181 :: c182 :: c183 :: c184 :: c185 :: c186 :: c187 :: c188 :: c189 :: c190 :: c191 :: c192 :: c193 :: c194 :: c195 :: c196 :: c197 :: c198 :: c199 :: c200 :: c201 :: c202 :: c203 :: c204 :: c205 :: c206 :: c207 :: c208 :: c209 :: c210 :: c211 :: c212 :: c213 :: c214 :: c215 :: c216 :: c217 :: c218 :: c219 :: c220 :: c221 :: c222 :: c223 :: c224 :: c225 :: c226 :: c227 :: c228 :: c229 :: c230 :: c231 :: c232 :: c233 :: c234 :: c235 :: c236 :: c237 :: c238 :: c239 :: c240 :: c241 :: c242 :: c243 :: c244 :: c245 :: c246 :: c247 :: c248 :: c249 :: c250 :: c251 :: c252 :: c253 :: c254 :: c255 :: c256 :: c257 :: c258 :: c259 :: c260 :: c261 :: c262 :: c263 :: c264 :: c265 :: c266 :: c267 :: c268 :: c269 :: c270 :: c271 :: c272 :: c273 :: c274 :: c275 :: c276 :: c277 :: c278 :: c279 :: c280 :: c281 :: c282 :: c283 :: c284 :: c285 :: c286 :: c287 :: c288 :: c289 :: c290 :: c291 :: [])), []⟩ w1 := by
  have HC : Hid (∀ i, i < n → w.cell? ⟨rb, ro + i * 4, none⟩ = some (.int .u8 (D i).b) ∧ w.cell? ⟨rb, ro + i * 4 + 1, none⟩ = some (.int .u8 (D i).a) ∧ w.cell? ⟨rb, ro + i * 4 + 2, none⟩ = some (.bool (D i).h) ∧ w.cell? ⟨rb, ro + i * 4 + 3, none⟩ = some (.bool (D i).p)) := hc
  have HD : Hid (∀ i, i < n → 0 ≤ (D i).b ∧ (D i).b ≤ 255 ∧ 0 ≤ (D i).a ∧ (D i).a ≤ 255) := hd
  have HAO : Hid (0 < n → ao = some ⟨rb, ro, none⟩) := hao
  have HM0 : Hid (Made w n (rs % 4) (ix + 1) D ⟨0, fun _ => 0, fun _ => 0, fun _ => [], fun _ => 0⟩ (fun _ => 0) (.slice none 0 0) w1) := hM0
  have HK : Hid (∀ (v11 v12 v13 v14 v15 v16 v17 v18 v19 v50 v51 v52 v53 v54 v55 v56 v57 v58 v59 v60 v61 v62 v63 v64 v65 v66 v67 v68 v69 v70 v71 v72 v73 v74 v75 v76 v77 v78 v79 v80 v81 v82 v83 v84 v85 v86 v87 v88 v89 v90 v91 v92 v93 v94 v95 v96 v97 v98 v99 v100 v101 v102 v103 v104 v105 v106 v107 v108 v109 v110 v111 v112 v113 v114 v115 v116 v117 v118 v119 v120 v121 v122 v123 v124 v125 v126 v127 v128 v129 v130 v131 v132 v133 v134 v135 v136 v137 v138 v139 v140 v141 v142 v143 v144 v145 v146 v147 v148 : Value) (X : Sys) (C : Nat → Nat) (wv : Value) (wr : World), X.K = n → Made w n (rs % 4) (ix + 1) D X C wv wr → K ⟨(List.toArray (c0 :: c1 :: c2 :: c3 :: c4 :: c5 :: c6 :: c7 :: (.int .u64 (ix + 1)) :: (.pointer (some ⟨w.heap.size, 0, none⟩)) :: (.slice (some ⟨w.heap.size + 1, 0, none⟩) n n) :: (v11) :: (v12) :: (v13) :: (v14) :: (v15) :: (v16) :: (v17) :: (v18) :: (v19) :: c20 :: c21 :: c22 :: c23 :: c24 :: c25 :: c26 :: c27 :: c28 :: c29 :: c30 :: c31 :: c32 :: c33 :: c34 :: c35 :: c36 :: c37 :: c38 :: c39 :: c40 :: c41 :: c42 :: c43 :: c44 :: c45 :: c46 :: (.slice ao n cap0) :: (.int .i64 n) :: (.int .i64 n) :: (v50) :: (v51) :: (v52) :: (v53) :: (v54) :: (v55) :: (v56) :: (v57) :: (v58) :: (v59) :: (v60) :: (v61) :: (v62) :: (v63) :: (v64) :: (v65) :: (v66) :: (v67) :: (v68) :: (v69) :: (v70) :: (v71) :: (v72) :: (v73) :: (v74) :: (v75) :: (v76) :: (v77) :: (v78) :: (v79) :: (v80) :: (v81) :: (v82) :: (v83) :: (v84) :: (v85) :: (v86) :: (v87) :: (v88) :: (v89) :: (v90) :: (v91) :: (v92) :: (v93) :: (v94) :: (v95) :: (v96) :: (v97) :: (v98) :: (v99) :: (v100) :: (v101) :: (v102) :: (v103) :: (v104) :: (v105) :: (v106) :: (v107) :: (v108) :: (v109) :: (v110) :: (v111) :: (v112) :: (v113) :: (v114) :: (v115) :: (v116) :: (v117) :: (v118) :: (v119) :: (v120) :: (v121) :: (v122) :: (v123) :: (v124) :: (v125) :: (v126) :: (v127) :: (v128) :: (v129) :: (v130) :: (v131) :: (v132) :: (v133) :: (v134) :: (v135) :: (v136) :: (v137) :: (v138) :: (v139) :: (v140) :: (v141) :: (v142) :: (v143) :: (v144) :: (v145) :: (v146) :: (v147) :: (v148) :: c149 :: c150 :: c151 :: c152 :: c153 :: c154 :: c155 :: c156 :: c157 :: c158 :: c159 :: c160 :: c161 :: c162 :: c163 :: c164 :: c165 :: c166 :: c167 :: c168 :: c169 :: c170 :: c171 :: c172 :: c173 :: c174 :: c175 :: c176 :: c177 :: c178 :: c179 :: c180 :: c181 :: c182 :: c183 :: c184 :: c185 :: c186 :: c187 :: c188 :: c189 :: c190 :: c191 :: c192 :: c193 :: c194 :: c195 :: c196 :: c197 :: c198 :: c199 :: c200 :: c201 :: c202 :: c203 :: c204 :: c205 :: c206 :: c207 :: c208 :: c209 :: c210 :: c211 :: c212 :: c213 :: c214 :: c215 :: c216 :: c217 :: c218 :: c219 :: c220 :: c221 :: c222 :: c223 :: c224 :: c225 :: c226 :: c227 :: c228 :: c229 :: c230 :: c231 :: c232 :: c233 :: c234 :: c235 :: c236 :: c237 :: c238 :: c239 :: c240 :: c241 :: c242 :: c243 :: c244 :: c245 :: c246 :: c247 :: c248 :: c249 :: c250 :: c251 :: c252 :: c253 :: c254 :: c255 :: c256 :: c257 :: c258 :: c259 :: c260 :: c261 :: c262 :: c263 :: c264 :: c265 :: c266 :: c267 :: c268 :: c269 :: c270 :: c271 :: c272 :: c273 :: c274 :: c275 :: c276 :: c277 :: c278 :: c279 :: c280 :: c281 :: c282 :: c283 :: c284 :: c285 :: c286 :: c287 :: c288 :: c289 :: c290 :: c291 :: [])), []⟩ wr) := hK
  clear hc hd hao hM0 hK
  conv => arg 2; arg 1; whnf
  go_loopw [49] (fun p wr => ∃ k : Nat, ∃ X C wv, k ≤ n ∧ p = .int .i64 k ∧ X.K = k ∧ Made w n (rs % 4) (ix + 1) D X C wv wr) (fun p _ => n - (intOf p).toNat)
  case atStart => exact ⟨0, _, _, _, Nat.zero_le _, rfl, rfl, HM0.out⟩
  case round =>
    rename World => w0
    obtain ⟨k, X, C, wv, hk, rfl, hXK, hm⟩ := hrel
    have HM : Hid (Made w n (rs % 4) (ix + 1) D X C wv w0) := hm
    by_cases hlt : k < n
    · obtain rfl : ao = some ⟨rb, ro, none⟩ := HAO.out (by omega)
      obtain ⟨c0, c1, c2, c3⟩ := HC.out k hlt
      have hrb : rb < w.heap.size := block_lt_of_cell c0
      rw [← hm.bel.cell (p := ⟨rb, ro + k * 4, none⟩) hrb] at c0
      rw [← hm.bel.cell (p := ⟨rb, ro + k * 4 + 1, none⟩) hrb] at c1
      rw [← hm.bel.cell (p := ⟨rb, ro + k * 4 + 2, none⟩) hrb] at c2
      rw [← hm.bel.cell (p := ⟨rb, ro + k * 4 + 3, none⟩) hrb] at c3
      obtain ⟨r0, r1, r2, r3⟩ := HD.out k hlt
      have HNB : Hid (nbOf (D k) ≤ 3) := nb_le _
      have HNA : Hid (naOf (D k) ≤ 2) := na_le _
      have e1 : (D k).b % 4 = (nbOf (D k) : Int) := by unfold nbOf; omega
      have e2 : (D k).a % 3 = (naOf (D k) : Int) := by unfold naOf; omega
      have q1 := nb_le (D k)
      have q2 := na_le (D k)
      generalize hnb : nbOf (D k) = nb at *
      generalize hna : naOf (D k) = na at *
      obtain ⟨i53, hi53, hz53, hs53, hb53⟩ := info_parts info53
      have HDK : Hid (∀ wx, wx.ownsRow (w0.heap.size + 1) 53 4 (.slice (some ⟨w0.heap.size + 1, 0, none⟩) 0 (nb + 1 + na)) 0 [] → (w0.alloc (.cells #[.int .u8 (D k).b, .int .u8 (D k).a, .bool (D k).h, .bool (D k).p] 47)).grownBy wx none → Inn w0 (D k) (nb + 1 + na) 0 [] wx) := by
        intro wx h1 h2
        refine ⟨h1, ((Below.refl _ w0).alloc (Nat.le_refl _) _).grown h2 (by simp) (fun k h => by cases h), (h2.block _ (by simp) (by simp)).trans (heap_alloc_new w0 _), ?_⟩
        obtain ⟨cur, hcur, _⟩ := own_row h1
        exact lt_heap hcur
      clear hm
      go_wp2_with (first | (at_make; refine wpList_make_own _ rfl _ _ 48 rfl (w0.heap.size + 1) 53 i53 _ 4 Yba.underlying48 hi53 hz53 hs53 .i64 .i64 _ (nb + 1 + na) rfl rfl (by simp) (by rw [hb53]; omega) (by unfold maxLen; omega) (by simp) ?_; intro w2 hown hg))
      have HI0 : Hid (Inn w0 (D k) (nb + 1 + na) 0 [] w2) := HDK.out w2 (by simpa only [World.size_alloc] using hown) hg
      clear hown hg c0 c1 c2 c3
      refine loop2 w0 (D k) ix k nb na h1 h2 q1 q2 (by omega) w2 HI0.out _ _ _ _ _ _ _ _ _ _ _ _ _ _ _ _ _ _ _ _ _ _ _ _ _ _ _ _ _ _ _ _ _ _ _ _ _ _ _ _ _ _ _ _ _ _ _ _ _ _ _ _ _ _ _ _ _ _ _ _ _ _ _ _ _ _ _ _ _ _ _ _ _ _ _ _ _ _ _ _ _ _ _ _ _ _ _ _ _ _ _ _ _ _ _ _ _ _ _ _ _ _ _ _ _ _ _ _ _ _ _ _ _ _ _ _ _ _ _ _ _ _ _ _ _ _ _ _ _ _ _ _ _ _ _ _ _ _ _ _ _ _ _ _ _ _ _ _ _ _ _ _ _ _ _ _ _ _ _ _ _ _ _ _ _ _ _ _ _ _ _ _ _ _ _ _ _ _ _ _ _ _ _ _ _ _ _ _ _ _ _ _ _ _ _ _ _ _ _ _ _ _ _ _ _ _ _ _ _ _ _ _ _ _ _ _ _ _ _ _ _ _ _ _ _ _ _ _ _ _ _ _ _ _ _ _ _ _ _ _ _ _ _ _ _ _ _ _ _ _ _ _ _ _ _ _ _ _ _ _ _ _ _ _ _ _ _ _ _ _ _ _ _ _ _ _ _ _ _ _ _ _ _ _ _ _ _ _ _ ?_
      intro v17 v67 v68 v69 v70 v71 v72 v73 v74 v75 v76 v77 v78 v79 v80 v81 v82 v83 v84 v85 v86 v87 v88 P wx hP hO hin
      have HIN : Hid (Inn w0 (D k) (nb + 1 + na) nb P wx) := hin
      have HO : Hid (Oth (ix + 1) P) := hO
      have HP : Hid (P.length = nb) := hP
      have l2 : wx.cell? ⟨w0.heap.size, 2, none⟩ = some (.bool (D k).h) := cell_blk hin.loc 2
      have l3 : wx.cell? ⟨w0.heap.size, 3, none⟩ = some (.bool (D k).p) := cell_blk hin.loc 3
      clear hin hO hP HI0 HDK
      cases hh : (D k).h
      · rw [hh] at l2
        have HLM : Hid (P.length = nb) := HP.out
        have HINM : Hid (Inn w0 (D k) (nb + 1 + na) nb P wx) := HIN.out
        go_wp2
        refine loop3 w0 (D k) ix k nb na nb (nb + 1 + na) h1 h2 q1 q2 (by omega) (by omega) (by omega) P HLM.out _ HINM.out _ _ _ _ _ _ _ _ _ _ _ _ _ _ _ _ _ _ _ _ _ _ _ _ _ _ _ _ _ _ _ _ _ _ _ _ _ _ _ _ _ _ _ _ _ _ _ _ _ _ _ _ _ _ _ _ _ _ _ _ _ _ _ _ _ _ _ _ _ _ _ _ _ _ _ _ _ _ _ _ _ _ _ _ _ _ _ _ _ _ _ _ _ _ _ _ _ _ _ _ _ _ _ _ _ _ _ _ _ _ _ _ _ _ _ _ _ _ _ _ _ _ _ _ _ _ _ _ _ _ _ _ _ _ _ _ _ _ _ _ _ _ _ _ _ _ _ _ _ _ _ _ _ _ _ _ _ _ _ _ _ _ _ _ _ _ _ _ _ _ _ _ _ _ _ _ _ _ _ _ _ _ _ _ _ _ _ _ _ _ _ _ _ _ _ _ _ _ _ _ _ _ _ _ _ _ _ _ _ _ _ _ _ _ _ _ _ _ _ _ _ _ _ _ _ _ _ _ _ _ _ _ _ _ _ _ _ _ _ _ _ _ _ _ _ _ _ _ _ _ _ _ _ _ _ _ _ _ _ _ _ _ _ _ _ _ _ _ _ _ _ _ _ _ _ _ _ _ _ _ _ _ _ _ _ _ _ _ ?_
        intro y104 y105 y106 y107 y108 y109 y110 y111 y112 y113 y114 y115 y116 y117 y118 y119 y120 y121 y122 y123 y124 y125 y126 y127 S wy hS hOS hin3
        have HLF : Hid ((P ++ S).length = nb + na) := (by show (P ++ S).length = nb + na; rw [List.length_append, HLM.out, hS])
        have HSHP : Hid (Shape (ix + 1) (D k) (P ++ S) (P ++ S).length) := shape_no hh HO.out hOS (by rw [HP.out, hnb]) (by rw [hS, hna])
        obtain ⟨cur, hcur, hcs, htk, hle, hge⟩ := own_row hin3.own
        have hlies : Lies cur 0 (P ++ S) := lies_of_take (by rw [HLF.out]; exact htk)
        have hcl := clone_any (w0.heap.size + 1) (nb + 1 + na) (P ++ S) cur wy hcur hlies (by rw [HLF.out]; omega)
        rw [HLF.out] at hcl
        have HBW : Hid (Below w0.heap.size w0 wy) := hin3.bel
        have HSZ : Hid (w0.heap.size + 2 ≤ wy.heap.size) := hin3.siz
        have HCUR : Hid (wy.heap[w0.heap.size + 1]? = some (.cells cur 53 (0, 0)) ∧ cur.size = (nb + 1 + na) * 4 ∧ Lies cur 0 (P ++ S)) := ⟨hcur, hcs, hlies⟩
        clear hS hOS hin3 hcur hcs htk hle hge hlies l2 l3
        generalize P ++ S = LF at *
        go_wp2_with fail
        refine hcl.mono ?_
        rintro e w5 ⟨c, cc, CA, rfl, hc5, hcl5, hcc, hcge, hb5⟩
        clear hcl
        have hB5 : Below w0.heap.size w0 w5 := HBW.out.trans (hb5.mono (by have := HSZ.out; omega))
        obtain ⟨O, hO0, hO1, hO2⟩ := HM.out.orig
        have hO5 : w5.heap[w.heap.size + 1]? = some (.cells O 48 (0, 0)) := (hB5.block _ (lt_heap hO0)).trans hO0
        obtain ⟨ox, hox⟩ := get_of_size (A := O) (j := k) (by omega)
        have o1 : w5.cell? ⟨w.heap.size + 1, k, none⟩ = some ox := (cell_blk hO5 k).trans hox
        have o2 := frozen_blk hO5
        obtain ⟨⟨WA, hWA, a1, a2, a6, a77, a78, a13⟩, _⟩ := HM.out.wbk
        have hW5 : w5.heap[w.heap.size]? = some (.cells WA 44 (0, 0)) := (hB5.block _ (lt_heap hWA)).trans hWA
        have b6 : w5.cell? ⟨w.heap.size, 6, none⟩ = some wv := (cell_blk hW5 6).trans a6
        have b7 := frozen_blk hW5
        obtain ⟨Z70, hz70, hs70, hz0, hz7⟩ := zero70
        have H5 : Hid (w5.heap[c]? = some (.cells CA 53 (0, 0)) ∧ Lies CA 0 LF ∧ nb + na ≤ cc ∧ wy.heap.size ≤ c ∧ Below wy.heap.size wy w5 ∧ Below w0.heap.size w0 w5) := ⟨hc5, hcl5, hcc, hcge, hb5, hB5⟩
        obtain ⟨wa, wc, hwv⟩ : ∃ wa wc, wv = .slice wa k wc := by
          rcases HM.out.row.2 with ⟨e, e2⟩ | ⟨g, cap, cu, e, _⟩
          · exact ⟨none, 0, by rw [e, ← hXK, e2]⟩
          · exact ⟨_, cap, by rw [e, hXK]⟩
        subst hwv
        obtain ⟨i56, hi56, hz56, hs56, hb56⟩ := info_parts info56
        have hrow5 : w5.ownsRow (w.heap.size + 2) 56 1 (.slice wa k wc) k (ptrs X k) := by
          have := HM.out.row
          rw [hXK] at this
          exact own_below this hB5
        have hws : w.heap.size < w5.heap.size := lt_heap hW5
        have hrow6 := ((ownsRow_setCell_below hrow5 (a := ⟨w.heap.size + 1, k, none⟩) (Nat.lt_succ_self _) (.slice (some ⟨c, 0, none⟩) (nb + na) cc)).alloc (.cells ((Z70.setIfInBounds 7 (.slice (some ⟨w0.heap.size + 1, 0, none⟩) (nb + na) (nb + 1 + na))).setIfInBounds 8 (.int .u64 k)) 70)).alloc (.cells #[.pointer (some ⟨w5.heap.size, 0, none⟩)] 56)
        clear hc5 hcl5 hcc hcge hb5 hB5 hO0 hO1 hO2 hO5 hox hWA a1 a2 a6 a77 a78 a13 hW5 hrow5
        go_wp2_with (first | (at_builtin; refine wpList_append_own _ rfl _ _ 34 rfl (w.heap.size + 2) 56 i56 (.pointer none) 1 8 Yba.underlying34 hi56 hz56 hs56 hb56 rfl (by decide) (.slice wa k wc) k (ptrs X k) rfl hrow6 ⟨w5.heap.size + 1, 0, none⟩ 1 1 [.pointer (some ⟨w5.heap.size, 0, none⟩)] rfl rfl ?_ ?_ (by unfold maxLen; omega) (by omega) ?_ ?_))
        · exact cell_tmp _ _ _ _ _ _
        · intro u hu; simp at hu; subst hu; rfl
        · simp [World.setCell]; omega
        intro v8 w8 hrow8 hg8 hnil8
        obtain ⟨g8, cap8, rfl⟩ := own_form hrow8 (by omega)
        obtain ⟨⟨A8, hA8, hA86⟩, X', C', hXK', hM'⟩ := Made.round HM.out hXK hlt HBW.out HSZ.out HCUR.out.1 HCUR.out.2.1 HCUR.out.2.2 HLF.out (by omega) (by omega) H5.out.1 H5.out.2.1 H5.out.2.2.1 H5.out.2.2.2.1 H5.out.2.2.2.2.1 H5.out.2.2.2.2.2 hs70 hz0 hg8 hrow8 HSHP.out
        have s6 : w8.cell? ⟨w.heap.size, 6, none⟩ = some (.slice wa k wc) := (cell_blk hA8 6).trans hA86
        have s7 := frozen_blk hA8
        have HMM : Hid (Made w n (rs % 4) (ix + 1) D X' C' (.slice (some ⟨g8, 0, none⟩) (k + 1) cap8) (w8.setCell ⟨w.heap.size, 6, none⟩ (.slice (some ⟨g8, 0, none⟩) (k + 1) cap8))) := hM'
        clear hM' hA8 hA86 hg8 hrow8 hnil8 hrow6
        go_wp2
        go_roundw
        case rel => exact ⟨k + 1, X', C', _, by omega, by go_num, hXK', HMM.out⟩
        case measure => simp [intOf]; omega
      · rw [hh] at l2
        have HE3 : Hid ((((k + nb) % 3 : Nat) : Int) = ((k : Int) + (nb : Int)) % 3) := (by show (((k + nb) % 3 : Nat) : Int) = ((k : Int) + (nb : Int)) % 3; omega)
        obtain ⟨i53, hi53, hz53, hs53, hb53⟩ := info_parts info53
        go_wp2_with fail
        have hver := ver_any (ix + 1) (D k).p ((k + nb) % 3) (nb : Int) (by omega) wx
        rw [HE3.out] at hver
        refine hver.mono ?_
        clear hver
        rintro e w3 ⟨v, hgv, hvp, hvw, rfl, hb3⟩
        have HBB : Hid (Below wx.heap.size wx w3) := hb3
        have HGV : Hid (Good v.b) := hgv
        have HVW : Hid (v.w = ix + 1) := hvw
        have hown3 := HIN.out.laid hb3 (.cells #[.slice v.a v.n v.c, .bool v.p, .int .u64 v.w, .pointer none] 53)
        have HADD : Hid (∀ w4, (w3.alloc (.cells #[.slice v.a v.n v.c, .bool v.p, .int .u64 v.w, .pointer none] 53)).grownBy w4 (some (w0.heap.size + 1)) → w4.ownsRow (w0.heap.size + 1) 53 4 (.slice (some ⟨w0.heap.size + 1, 0, none⟩) (nb + 1) (nb + 1 + na)) (nb + 1) (vcells P ++ [.slice v.a v.n v.c, .bool v.p, .int .u64 v.w, .pointer none]) → Inn w0 (D k) (nb + 1 + na) (nb + 1) (P ++ [v]) w4) := fun w4 hg ho => HIN.out.add HBB.out hg ho
        have H1 := one4 v
        clear hgv hvp hvw hb3
        simp only [Ver.agg, Ver.b]
        go_wp2_with (first | (at_builtin; refine wpList_append_fits _ rfl _ _ 48 rfl (w0.heap.size + 1) 53 i53 4 Yba.underlying48 hi53 hs53 (w0.heap.size + 1) nb (nb + 1 + na) (vcells P) rfl hown3 ⟨w3.heap.size, 0, none⟩ 1 1 [.slice v.a v.n v.c, .bool v.p, .int .u64 v.w, .pointer none] rfl rfl (cells4_new _ _ _ _ _ _) H1 (by omega) ?_; intro w4 hown4 hg4))
        have HINM : Hid (Inn w0 (D k) (nb + 1 + na) (nb + 1) (P ++ [v]) w4) := HADD.out w4 hg4 hown4
        have HLM : Hid ((P ++ [v]).length = nb + 1) := (by show (P ++ [v]).length = nb + 1; simp [HP.out])
        clear hown3 hown4 hg4 H1
        refine loop3 w0 (D k) ix k nb na (nb + 1) (nb + 1 + na) h1 h2 q1 q2 (by omega) (by omega) (by omega) (P ++ [v]) HLM.out _ HINM.out _ _ _ _ _ _ _ _ _ _ _ _ _ _ _ _ _ _ _ _ _ _ _ _ _ _ _ _ _ _ _ _ _ _ _ _ _ _ _ _ _ _ _ _ _ _ _ _ _ _ _ _ _ _ _ _ _ _ _ _ _ _ _ _ _ _ _ _ _ _ _ _ _ _ _ _ _ _ _ _ _ _ _ _ _ _ _ _ _ _ _ _ _ _ _ _ _ _ _ _ _ _ _ _ _ _ _ _ _ _ _ _ _ _ _ _ _ _ _ _ _ _ _ _ _ _ _ _ _ _ _ _ _ _ _ _ _ _ _ _ _ _ _ _ _ _ _ _ _ _ _ _ _ _ _ _ _ _ _ _ _ _ _ _ _ _ _ _ _ _ _ _ _ _ _ _ _ _ _ _ _ _ _ _ _ _ _ _ _ _ _ _ _ _ _ _ _ _ _ _ _ _ _ _ _ _ _ _ _ _ _ _ _ _ _ _ _ _ _ _ _ _ _ _ _ _ _ _ _ _ _ _ _ _ _ _ _ _ _ _ _ _ _ _ _ _ _ _ _ _ _ _ _ _ _ _ _ _ _ _ _ _ _ _ _ _ _ _ _ _ _ _ _ _ _ _ _ _ _ _ _ _ _ _ _ _ _ _ ?_
        intro y104 y105 y106 y107 y108 y109 y110 y111 y112 y113 y114 y115 y116 y117 y118 y119 y120 y121 y122 y123 y124 y125 y126 y127 S wy hS hOS hin3
        have HLF : Hid (((P ++ [v]) ++ S).length = (nb + 1) + na) := (by show ((P ++ [v]) ++ S).length = (nb + 1) + na; rw [List.length_append, HLM.out, hS])
        have HSHP : Hid (Shape (ix + 1) (D k) ((P ++ [v]) ++ S) (nbOf (D k))) := shape_yes hh HO.out hOS HVW.out HGV.out (by rw [HP.out, hnb]) (by rw [hS, hna])
        obtain ⟨cur, hcur, hcs, htk, hle, hge⟩ := own_row hin3.own
        have hlies : Lies cur 0 ((P ++ [v]) ++ S) := lies_of_take (by rw [HLF.out]; exact htk)
        have hcl := clone_any (w0.heap.size + 1) (nb + 1 + na) ((P ++ [v]) ++ S) cur wy hcur hlies (by rw [HLF.out]; omega)
        rw [HLF.out] at hcl
        have HBW : Hid (Below w0.heap.size w0 wy) := hin3.bel
        have HSZ : Hid (w0.heap.size + 2 ≤ wy.heap.size) := hin3.siz
        have HCUR : Hid (wy.heap[w0.heap.size + 1]? = some (.cells cur 53 (0, 0)) ∧ cur.size = (nb + 1 + na) * 4 ∧ Lies cur 0 ((P ++ [v]) ++ S)) := ⟨hcur, hcs, hlies⟩
        clear hS hOS hin3 hcur hcs htk hle hge hlies l2 l3
        generalize (P ++ [v]) ++ S = LF at *
        go_wp2_with fail
        refine hcl.mono ?_
        rintro e w5 ⟨c, cc, CA, rfl, hc5, hcl5, hcc, hcge, hb5⟩
        clear hcl
        have hB5 : Below w0.heap.size w0 w5 := HBW.out.trans (hb5.mono (by have := HSZ.out; omega))
        obtain ⟨O, hO0, hO1, hO2⟩ := HM.out.orig
        have hO5 : w5.heap[w.heap.size + 1]? = some (.cells O 48 (0, 0)) := (hB5.block _ (lt_heap hO0)).trans hO0
        obtain ⟨ox, hox⟩ := get_of_size (A := O) (j := k) (by omega)
        have o1 : w5.cell? ⟨w.heap.size + 1, k, none⟩ = some ox := (cell_blk hO5 k).trans hox
        have o2 := frozen_blk hO5
        obtain ⟨⟨WA, hWA, a1, a2, a6, a77, a78, a13⟩, _⟩ := HM.out.wbk
        have hW5 : w5.heap[w.heap.size]? = some (.cells WA 44 (0, 0)) := (hB5.block _ (lt_heap hWA)).trans hWA
        have b6 : w5.cell? ⟨w.heap.size, 6, none⟩ = some wv := (cell_blk hW5 6).trans a6
        have b7 := frozen_blk hW5
        obtain ⟨Z70, hz70, hs70, hz0, hz7⟩ := zero70
        have H5 : Hid (w5.heap[c]? = some (.cells CA 53 (0, 0)) ∧ Lies CA 0 LF ∧ (nb + 1) + na ≤ cc ∧ wy.heap.size ≤ c ∧ Below wy.heap.size wy w5 ∧ Below w0.heap.size w0 w5) := ⟨hc5, hcl5, hcc, hcge, hb5, hB5⟩
        obtain ⟨wa, wc, hwv⟩ : ∃ wa wc, wv = .slice wa k wc := by
          rcases HM.out.row.2 with ⟨e, e2⟩ | ⟨g, cap, cu, e, _⟩
          · exact ⟨none, 0, by rw [e, ← hXK, e2]⟩
          · exact ⟨_, cap, by rw [e, hXK]⟩
        subst hwv
        obtain ⟨i56, hi56, hz56, hs56, hb56⟩ := info_parts info56
        have hrow5 : w5.ownsRow (w.heap.size + 2) 56 1 (.slice wa k wc) k (ptrs X k) := by
          have := HM.out.row
          rw [hXK] at this
          exact own_below this hB5
        have hws : w.heap.size < w5.heap.size := lt_heap hW5
        have hrow6 := ((ownsRow_setCell_below hrow5 (a := ⟨w.heap.size + 1, k, none⟩) (Nat.lt_succ_self _) (.slice (some ⟨c, 0, none⟩) ((nb + 1) + na) cc)).alloc (.cells ((Z70.setIfInBounds 7 (.slice (some ⟨w0.heap.size + 1, 0, none⟩) ((nb + 1) + na) (nb + 1 + na))).setIfInBounds 8 (.int .u64 k)) 70)).alloc (.cells #[.pointer (some ⟨w5.heap.size, 0, none⟩)] 56)
        clear hc5 hcl5 hcc hcge hb5 hB5 hO0 hO1 hO2 hO5 hox hWA a1 a2 a6 a77 a78 a13 hW5 hrow5
        go_wp2_with (first | (at_builtin; refine wpList_append_own _ rfl _ _ 34 rfl (w.heap.size + 2) 56 i56 (.pointer none) 1 8 Yba.underlying34 hi56 hz56 hs56 hb56 rfl (by decide) (.slice wa k wc) k (ptrs X k) rfl hrow6 ⟨w5.heap.size + 1, 0, none⟩ 1 1 [.pointer (some ⟨w5.heap.size, 0, none⟩)] rfl rfl ?_ ?_ (by unfold maxLen; omega) (by omega) ?_ ?_))
        · exact cell_tmp _ _ _ _ _ _
        · intro u hu; simp at hu; subst hu; rfl
        · simp [World.setCell]; omega
        intro v8 w8 hrow8 hg8 hnil8
        obtain ⟨g8, cap8, rfl⟩ := own_form hrow8 (by omega)
        obtain ⟨⟨A8, hA8, hA86⟩, X', C', hXK', hM'⟩ := Made.round HM.out hXK hlt HBW.out HSZ.out HCUR.out.1 HCUR.out.2.1 HCUR.out.2.2 HLF.out (by omega) (by omega) H5.out.1 H5.out.2.1 H5.out.2.2.1 H5.out.2.2.2.1 H5.out.2.2.2.2.1 H5.out.2.2.2.2.2 hs70 hz0 hg8 hrow8 HSHP.out
        have s6 : w8.cell? ⟨w.heap.size, 6, none⟩ = some (.slice wa k wc) := (cell_blk hA8 6).trans hA86
        have s7 := frozen_blk hA8
        have HMM : Hid (Made w n (rs % 4) (ix + 1) D X' C' (.slice (some ⟨g8, 0, none⟩) (k + 1) cap8) (w8.setCell ⟨w.heap.size, 6, none⟩ (.slice (some ⟨g8, 0, none⟩) (k + 1) cap8))) := hM'
        clear hM' hA8 hA86 hg8 hrow8 hnil8 hrow6
        go_wp2
        go_roundw
        case rel => exact ⟨k + 1, X', C', _, by omega, by go_num, hXK', HMM.out⟩
        case measure => simp [intOf]; omega
    · obtain rfl : k = n := by omega
      clear hm
      go_wp2
      exact HK.out _ _ _ _ _ _ _ _ _ _ _ _ _ _ _ _ _ _ _ _ _ _ _ _ _ _ _ _ _ _ _ _ _ _ _ _ _ _ _ _ _ _ _ _ _ _ _ _ _ _ _ _ _ _ _ _ _ _ _ _ _ _ _ _ _ _ _ _ _ _ _ _ _ _ _ _ _ _ _ _ _ _ _ _ _ _ _ _ _ _ _ _ _ _ _ _ _ _ _ _ _ _ _ _ _ _ _ _ X C wv _ hXK HM.out
end Go.Proofs.Ybulkavym
