import Derived.Test.YbulkavymSp
namespace Go.Proofs.Ybulkavym
open Go.RowKit
set_option linter.unusedVariables false
set_option linter.unusedSimpArgs false

theorem nz_one (Ls : List Ver) : ∀ u ∈ nz Ls, u.oneCell' = true := by
  induction Ls with
  | nil => simp [nz]
  | cons v L ih =>
    intro u hu
    simp only [nz] at hu
    split at hu
    · exact ih u hu
    · rcases List.mem_cons.1 hu with rfl | h
      · rfl
      · exact ih u h
theorem nz_app (L M : List Ver) : nz (L ++ M) = nz L ++ nz M := by
  induction L with
  | nil => rfl
  | cons v L ih => simp only [List.cons_append, nz, ih]; split <;> simp
theorem nz_len (L : List Ver) : (nz L).length ≤ L.length := by
  induction L with
  | nil => simp [nz]
  | cons v L ih => simp only [nz]; split <;> simp <;> omega
theorem nz_take (L : List Ver) (q : Nat) (v : Ver) (h : L[q]? = some v) : nz (L.take (q + 1)) = nz (L.take q) ++ (if v.n = 0 then [] else [.slice v.a v.n v.c]) := by
  rw [List.take_add_one, h, nz_app]
  simp [nz]

set_option maxRecDepth 1000000 in
set_option maxHeartbeats 4000000 in
theorem loop5 (B c cc nb : Nat) (L : List Ver) (A : Array Value) (Wl : List Value) (wv0 : Value) (wz w2 : World) (hl : L.length ≤ 6) (hnb : nb ≤ L.length) (hW : Wl.length ≤ 2000) (hB : B ≤ wz.heap.size) (hcB : c < B) (hA : wz.heap[c]? = some (.cells A 53 (0, 0))) (hL : Lies A 0 L) (hz2 : wz.heap.size ≤ w2.heap.size) (hbel : Below B wz w2) (hown : w2.ownsRow B 25 1 wv0 Wl.length Wl) (c0 c1 c2 c3 c4 c5 c6 c7 c8 c9 c10 c11 c12 c13 c14 c15 c16 c17 c18 c19 c21 c22 c24 c27 c28 c29 c30 c31 c32 c33 c34 c35 c36 c37 c38 c39 c40 c41 c42 c43 c44 c45 c46 c47 c48 c49 c50 c51 c52 c53 c54 c55 c56 c57 c58 c59 c60 c61 c62 c63 c64 c65 c66 c67 c68 c69 c70 c71 c72 c73 c74 c75 c76 c77 c78 c79 c80 c81 c82 c83 c84 c85 c86 c87 c88 c89 c90 c91 c92 c93 c94 c95 c96 c97 c98 c99 c100 c101 c102 c103 c104 c105 c106 c107 c108 c109 c110 c111 c112 c113 c114 c115 c116 c117 c118 c119 c120 c121 c122 c123 c124 c125 c126 c127 c128 c129 c130 c131 c132 c133 c134 c135 c136 c137 c138 c139 c140 c141 c142 c143 c144 c145 c146 c147 c148 c149 c150 c151 c152 c153 c154 c155 c156 c157 c158 c159 c160 c161 c162 c163 c164 c165 c166 c167 c168 c169 c170 c171 c172 c173 c174 c175 c176 c177 c178 c179 c180 c181 c182 c183 c184 c185 c186 c187 c188 c189 c190 c191 c192 c193 c194 c195 c196 c197 c198 c199 c200 c201 c202 c203 c204 c205 c206 c207 c208 c209 c210 c211 c212 c213 c214 c215 c216 c217 c218 c219 c220 c221 c222 c223 c224 c225 c226 c227 c228 c229 c230 c231 c232 c233 c234 c235 c236 c237 c238 c239 c240 c241 c242 c243 c244 c245 c246 c247 c248 c249 c250 c251 c252 c253 c254 c255 c256 c257 c258 c259 c260 c261 c262 c263 c264 c265 c266 c267 c268 c269 c270 c271 c272 c273 c274 c275 c276 c277 c278 c279 c280 c281 c282 c283 c284 c285 c286 c287 c288 c289 c290 c291 : Value) (K : Act → World → Prop) (Q : Exit → Act → World → Prop)
    (hK : ∀ (v183 v184 v185 v186 v187 v188 v189 v190 v191 v192 v193 v194 v195 v196 v197 v198 v199 v200 v201 v202 v203 v204 : Value) (wv1 : Value) (wx : World), wx.ownsRow B 25 1 wv1 (Wl ++ nz (L.take nb)).length (Wl ++ nz (L.take nb)) → Below B wz wx → wz.heap.size ≤ wx.heap.size → K ⟨(List.toArray (c0 :: c1 :: c2 :: c3 :: c4 :: c5 :: c6 :: c7 :: c8 :: c9 :: c10 :: c11 :: c12 :: c13 :: c14 :: c15 :: c16 :: c17 :: c18 :: c19 :: (wv1) :: c21 :: c22 :: (.slice (some ⟨c, 0, none⟩) L.length cc) :: c24 :: (.int .i64 nb) :: (.int .i64 nb) :: c27 :: c28 :: c29 :: c30 :: c31 :: c32 :: c33 :: c34 :: c35 :: c36 :: c37 :: c38 :: c39 :: c40 :: c41 :: c42 :: c43 :: c44 :: c45 :: c46 :: c47 :: c48 :: c49 :: c50 :: c51 :: c52 :: c53 :: c54 :: c55 :: c56 :: c57 :: c58 :: c59 :: c60 :: c61 :: c62 :: c63 :: c64 :: c65 :: c66 :: c67 :: c68 :: c69 :: c70 :: c71 :: c72 :: c73 :: c74 :: c75 :: c76 :: c77 :: c78 :: c79 :: c80 :: c81 :: c82 :: c83 :: c84 :: c85 :: c86 :: c87 :: c88 :: c89 :: c90 :: c91 :: c92 :: c93 :: c94 :: c95 :: c96 :: c97 :: c98 :: c99 :: c100 :: c101 :: c102 :: c103 :: c104 :: c105 :: c106 :: c107 :: c108 :: c109 :: c110 :: c111 :: c112 :: c113 :: c114 :: c115 :: c116 :: c117 :: c118 :: c119 :: c120 :: c121 :: c122 :: c123 :: c124 :: c125 :: c126 :: c127 :: c128 :: c129 :: c130 :: c131 :: c132 :: c133 :: c134 :: c135 :: c136 :: c137 :: c138 :: c139 :: c140 :: c141 :: c142 :: c143 :: c144 :: c145 :: c146 :: c147 :: c148 :: c149 :: c150 :: c151 :: c152 :: c153 :: c154 :: c155 :: c156 :: c157 :: c158 :: c159 :: c160 :: c161 :: c162 :: c163 :: c164 :: c165 :: c166 :: c167 :: c168 :: c169 :: c170 :: c171 :: c172 :: c173 :: c174 :: c175 :: c176 :: c177 :: c178 :: c179 :: c180 :: c181 :: c182 :: (v183) :: (v184) :: (v185) :: (v186) :: (v187) :: (v188) :: (v189) :: (v190) :: (v191) :: (v192) :: (v193) :: (v194) :: (v195) :: (v196) :: (v197) :: (v198) :: (v199) :: (v200) :: (v201) :: (v202) :: (v203) :: (v204) :: c205 :: c206 :: c207 :: c208 :: c209 :: c210 :: c211 :: c212 :: c213 :: c214 :: c215 :: c216 :: c217 :: c218 :: c219 :: c220 :: c221 :: c222 :: c223 :: c224 :: c225 :: c226 :: c227 :: c228 :: c229 :: c230 :: c231 :: c232 :: c233 :: c234 :: c235 :: c236 :: c237 :: c238 :: c239 :: c240 :: c241 :: c242 :: c243 :: c244 :: c245 :: c246 :: c247 :: c248 :: c249 :: c250 :: c251 :: c252 :: c253 :: c254 :: c255 :: c256 :: c257 :: c258 :: c259 :: c260 :: c261 :: c262 :: c263 :: c264 :: c265 :: c266 :: c267 :: c268 :: c269 :: c270 :: c271 :: c272 :: c273 :: c274 :: c275 :: c276 :: c277 :: c278 :: c279 :: c280 :: c281 :: c282 :: c283 :: c284 :: c285 :: c286 :: c287 :: c288 :: c289 :: c290 :: c291 :: [])), []⟩ wx) :
    Code.wp Yba.prog (Code.loop (innerAt Yba.f5 1 0)) (Exit.inBlock 8 (Exit.then K Q)) ⟨(List.toArray (c0 :: c1 :: c2 :: c3 :: c4 :: c5 :: c6 :: c7 :: c8 :: c9 :: c10 :: c11 :: c12 :: c13 :: c14 :: c15 :: c16 :: c17 :: c18 :: c19 :: (wv0) :: c21 :: c22 :: (.slice (some ⟨c, 0, none⟩) L.length cc) :: c24 :: (.int .i64 nb) :: (.int .i64 0) :: c27 :: c28 :: c29 :: c30 :: c31 :: c32 :: c33 :: c34 :: c35 :: c36 :: c37 :: c38 :: c39 :: c40 :: c41 :: c42 :: c43 :: c44 :: c45 :: c46 :: c47 :: c48 :: c49 :: c50 :: c51 :: c52 :: c53 :: c54 :: c55 :: c56 :: c57 :: c58 :: c59 :: c60 :: c61 :: c62 :: c63 :: c64 :: c65 :: c66 :: c67 :: c68 :: c69 :: c70 :: c71 :: c72 :: c73 :: c74 :: c75 :: c76 :: c77 :: c78 :: c79 :: c80 :: c81 :: c82 :: c83 :: c84 :: c85 :: c86 :: c87 :: c88 :: c89 :: c90 :: c91 :: c92 :: c93 :: c94 :: c95 :: c96 :: c97 :: c98 :: c99 :: c100 :: c101 :: c102 :: c103 :: c104 :: c105 :: c106 :: c107 :: c108 :: c109 :: c110 :: c111 :: c112 :: c113 :: c114 :: c115 :: c116 :: c117 :: c118 :: c119 :: c120 :: c121 :: c122 :: c123 :: c124 :: c125 :: c126 :: c127 :: c128 :: c129 :: c130 :: c131 :: c132 :: c133 :: c134 :: c135 :: c136 :: c137 :: c138 :: c139 :: c140 :: c141 :: c142 :: c143 :: c144 :: c145 :: c146 :: c147 :: c148 :: c149 :: c150 :: c151 :: c152 :: c153 :: c154 :: c155 :: c156 :: c157 :: c158 :: c159 :: c160 :: c161 :: c162 :: c163 :: c164 :: c165 :: c166 :: c167 :: c168 :: c169 :: c170 :: c171 :: c172 :: c173 :: c174 :: c175 :: c176 :: c177 :: c178 :: c179 :: c180 :: c181 :: c182 :: c183 :: c184 :: c185 :: c186 :: c187 :: c188 :: c189 :: c190 :: c191 :: c192 :: c193 :: c194 :: c195 :: c196 :: c197 :: c198 :: c199 :: c200 :: c201 :: c202 :: c203 :: c204 :: c205 :: c206 :: c207 :: c208 :: c209 :: c210 :: c211 :: c212 :: c213 :: c214 :: c215 :: c216 :: c217 :: c218 :: c219 :: c220 :: c221 :: c222 :: c223 :: c224 :: c225 :: c226 :: c227 :: c228 :: c229 :: c230 :: c231 :: c232 :: c233 :: c234 :: c235 :: c236 :: c237 :: c238 :: c239 :: c240 :: c241 :: c242 :: c243 :: c244 :: c245 :: c246 :: c247 :: c248 :: c249 :: c250 :: c251 :: c252 :: c253 :: c254 :: c255 :: c256 :: c257 :: c258 :: c259 :: c260 :: c261 :: c262 :: c263 :: c264 :: c265 :: c266 :: c267 :: c268 :: c269 :: c270 :: c271 :: c272 :: c273 :: c274 :: c275 :: c276 :: c277 :: c278 :: c279 :: c280 :: c281 :: c282 :: c283 :: c284 :: c285 :: c286 :: c287 :: c288 :: c289 :: c290 :: c291 :: [])), []⟩ w2 := by
  obtain ⟨i25, hi25, hz25, hs25, hb25⟩ := info_parts info25
  have HK : Hid (∀ (v183 v184 v185 v186 v187 v188 v189 v190 v191 v192 v193 v194 v195 v196 v197 v198 v199 v200 v201 v202 v203 v204 : Value) (wv1 : Value) (wx : World), wx.ownsRow B 25 1 wv1 (Wl ++ nz (L.take nb)).length (Wl ++ nz (L.take nb)) → Below B wz wx → wz.heap.size ≤ wx.heap.size → K ⟨(List.toArray (c0 :: c1 :: c2 :: c3 :: c4 :: c5 :: c6 :: c7 :: c8 :: c9 :: c10 :: c11 :: c12 :: c13 :: c14 :: c15 :: c16 :: c17 :: c18 :: c19 :: (wv1) :: c21 :: c22 :: (.slice (some ⟨c, 0, none⟩) L.length cc) :: c24 :: (.int .i64 nb) :: (.int .i64 nb) :: c27 :: c28 :: c29 :: c30 :: c31 :: c32 :: c33 :: c34 :: c35 :: c36 :: c37 :: c38 :: c39 :: c40 :: c41 :: c42 :: c43 :: c44 :: c45 :: c46 :: c47 :: c48 :: c49 :: c50 :: c51 :: c52 :: c53 :: c54 :: c55 :: c56 :: c57 :: c58 :: c59 :: c60 :: c61 :: c62 :: c63 :: c64 :: c65 :: c66 :: c67 :: c68 :: c69 :: c70 :: c71 :: c72 :: c73 :: c74 :: c75 :: c76 :: c77 :: c78 :: c79 :: c80 :: c81 :: c82 :: c83 :: c84 :: c85 :: c86 :: c87 :: c88 :: c89 :: c90 :: c91 :: c92 :: c93 :: c94 :: c95 :: c96 :: c97 :: c98 :: c99 :: c100 :: c101 :: c102 :: c103 :: c104 :: c105 :: c106 :: c107 :: c108 :: c109 :: c110 :: c111 :: c112 :: c113 :: c114 :: c115 :: c116 :: c117 :: c118 :: c119 :: c120 :: c121 :: c122 :: c123 :: c124 :: c125 :: c126 :: c127 :: c128 :: c129 :: c130 :: c131 :: c132 :: c133 :: c134 :: c135 :: c136 :: c137 :: c138 :: c139 :: c140 :: c141 :: c142 :: c143 :: c144 :: c145 :: c146 :: c147 :: c148 :: c149 :: c150 :: c151 :: c152 :: c153 :: c154 :: c155 :: c156 :: c157 :: c158 :: c159 :: c160 :: c161 :: c162 :: c163 :: c164 :: c165 :: c166 :: c167 :: c168 :: c169 :: c170 :: c171 :: c172 :: c173 :: c174 :: c175 :: c176 :: c177 :: c178 :: c179 :: c180 :: c181 :: c182 :: (v183) :: (v184) :: (v185) :: (v186) :: (v187) :: (v188) :: (v189) :: (v190) :: (v191) :: (v192) :: (v193) :: (v194) :: (v195) :: (v196) :: (v197) :: (v198) :: (v199) :: (v200) :: (v201) :: (v202) :: (v203) :: (v204) :: c205 :: c206 :: c207 :: c208 :: c209 :: c210 :: c211 :: c212 :: c213 :: c214 :: c215 :: c216 :: c217 :: c218 :: c219 :: c220 :: c221 :: c222 :: c223 :: c224 :: c225 :: c226 :: c227 :: c228 :: c229 :: c230 :: c231 :: c232 :: c233 :: c234 :: c235 :: c236 :: c237 :: c238 :: c239 :: c240 :: c241 :: c242 :: c243 :: c244 :: c245 :: c246 :: c247 :: c248 :: c249 :: c250 :: c251 :: c252 :: c253 :: c254 :: c255 :: c256 :: c257 :: c258 :: c259 :: c260 :: c261 :: c262 :: c263 :: c264 :: c265 :: c266 :: c267 :: c268 :: c269 :: c270 :: c271 :: c272 :: c273 :: c274 :: c275 :: c276 :: c277 :: c278 :: c279 :: c280 :: c281 :: c282 :: c283 :: c284 :: c285 :: c286 :: c287 :: c288 :: c289 :: c290 :: c291 :: [])), []⟩ wx) := hK
  have HL : Hid (Lies A 0 L) := hL
  have HA : Hid (∀ wx, Below B wz wx → wx.heap[c]? = some (.cells A 53 (0, 0))) := fun wx h => (h.block c hcB).trans hA
  have HB0 : Hid (Below B wz w2) := hbel
  have HO0 : Hid (w2.ownsRow B 25 1 wv0 (Wl ++ nz (L.take 0)).length (Wl ++ nz (L.take 0))) := (by show w2.ownsRow B 25 1 wv0 (Wl ++ nz (L.take 0)).length (Wl ++ nz (L.take 0)); simpa [nz] using hown)
  clear hK hL hA hbel hown
  conv => arg 2; arg 1; whnf
  go_loopw [20, 26] (fun p i wx => ∃ q : Nat, q ≤ nb ∧ i = .int .i64 q ∧ wx.ownsRow B 25 1 p (Wl ++ nz (L.take q)).length (Wl ++ nz (L.take q)) ∧ Below B wz wx ∧ wz.heap.size ≤ wx.heap.size) (fun _ i _ => nb - (intOf i).toNat)
  case atStart => exact ⟨0, Nat.zero_le _, rfl, HO0.out, HB0.out, hz2⟩
  case round =>
    rename World => wx
    obtain ⟨q, hq, rfl, hown, hbel, hsz⟩ := hrel
    have HOWN : Hid (wx.ownsRow B 25 1 u20 (Wl ++ nz (L.take q)).length (Wl ++ nz (L.take q))) := hown
    have HBEL : Hid (Below B wz wx) := hbel
    by_cases hlt2 : q < nb
    · obtain ⟨v, hv⟩ := at_some L (k := q) (by omega)
      have c0 := (VerAt.cells (HL.out q v hv) (HA.out wx hbel)).c0
      simp only [Nat.zero_add] at c0
      have HT : Hid (nz (L.take (q + 1)) = nz (L.take q) ++ (if v.n = 0 then [] else [.slice v.a v.n v.c])) := nz_take L q v hv
      have hlen : (Wl ++ nz (L.take q)).length ≤ 2006 := by have := nz_len (L.take q); simp at this ⊢; omega
      have hq6 : q < L.length := by omega
      clear hown hbel hv
      obtain ⟨va, vn, vc, vp, vw⟩ := v
      by_cases h0 : vn = 0
      · have HT2 : Hid (nz (L.take (q + 1)) = nz (L.take q)) := (by have := HT.out; simp only [h0, if_true, List.append_nil] at this; exact this)
        subst h0
        go_wp2
        go_roundw
        case rel => exact ⟨q + 1, by omega, by go_num, (by rw [HT2.out]; exact HOWN.out), HBEL.out, hsz⟩
        case measure => simp [intOf]; omega
      · have HT2 : Hid (nz (L.take (q + 1)) = nz (L.take q) ++ [.slice va vn vc]) := (by have := HT.out; simp only [h0, if_false] at this; exact this)
        have d0 : decide ((0 : Int) < (vn : Int)) = true := by simp; omega
        have d0' : decide (0 < vn) = true := by simp; omega
        have hown1 := HOWN.out.alloc (.cells #[.slice va vn vc] 25)
        generalize hWq : Wl ++ nz (L.take q) = Wq at *
        clear h0
        go_wp2_with (first | (at_builtin; refine wpList_append_own _ rfl _ _ 71 rfl B 25 i25 (.slice none 0 0) 1 24 Yba.underlying71 hi25 hz25 hs25 hb25 rfl (by decide) u20 Wq.length Wq rfl hown1 ⟨wx.heap.size, 0, none⟩ 1 1 [.slice va vn vc] rfl rfl (cell_one_new _ _ _) (fun u hu => by simp at hu; subst hu; rfl) (by unfold maxLen; omega) (by omega) (by simp; omega) ?_; intro v8 w8 hrow8 hg8 hnil8))
        have HB8 : Hid (Below B wz w8) := (HBEL.out.alloc (by omega) _).grown hg8 (by simp; omega) (fun x e => by
          rcases HOWN.out.2 with ⟨e1, _⟩ | ⟨g, cap, cu, e1, hge, _⟩
          · rw [e1] at e; cases e
          · rw [e1] at e; simp [Value.ownBlock] at e; omega)
        have hs8 := hg8.size
        simp at hs8
        have HR8 : Hid (w8.ownsRow B 25 1 v8 (Wl ++ nz (L.take (q + 1))).length (Wl ++ nz (L.take (q + 1)))) := (by rw [HT2.out, ← List.append_assoc, hWq, List.length_append]; exact hrow8)
        clear hrow8 hg8 hnil8 hown1 HT HT2
        go_wp2
        go_roundw
        case rel => exact ⟨q + 1, by omega, by go_num, HR8.out, HB8.out, by omega⟩
        case measure => simp [intOf]; omega
    · obtain rfl : q = nb := by omega
      clear hown hbel
      go_wp2
      exact HK.out _ _ _ _ _ _ _ _ _ _ _ _ _ _ _ _ _ _ _ _ _ _ u20 wx HOWN.out HBEL.out hsz
end Go.Proofs.Ybulkavym
