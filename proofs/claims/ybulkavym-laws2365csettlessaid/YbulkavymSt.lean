import Derived.Test.YbulkavymSr
import Derived.Test.YbulkavymSs
import Derived.Deep.RegionLaw
namespace Go.Proofs.Ybulkavym
open Go.RowKit
set_option linter.unusedVariables false
set_option linter.unusedSimpArgs false

theorem weaken {P : Program} {c : Code} {b : Nat} {Q : Exit → Act → World → Prop} {a : Act} {w : World} (h : Code.wp P c (Exit.inBlock b (Exit.then (fun a w => Q .normal a w) (fun _ _ _ => False))) a w) : Code.wp P c (Exit.inBlock b Q) a w := by
  refine Code.wp_mono (fun e a w hq => ?_) h
  cases e with
  | exit i =>
    simp only [Exit.inBlock, Exit.then] at hq ⊢
    by_cases hi : i = b
    · simp only [if_pos hi] at hq ⊢; exact hq
    · simp only [if_neg hi] at hq
  | _ => first | exact hq | exact hq.elim
theorem weakenThen {P : Program} {c : Code} {K : Act → World → Prop} {Q : Exit → Act → World → Prop} {a : Act} {w : World} (h : Code.wp P c (Exit.then K (fun _ _ _ => False)) a w) : Code.wp P c (Exit.then K Q) a w := by
  refine Code.wp_mono (fun e a w hq => ?_) h
  cases e with
  | normal => exact hq
  | _ => exact hq.elim
theorem step_append_own {P : Program} {ops : Array Oper} {o : Oper} {a : Act} {w : World} {K : Act → World → Prop} {Q : Exit → Act → World → Prop} {E : Prop}
    (hg : o.guard = none) (s x : Operand) (t : TypeId) (hop : o.op = Op.call { callee := Callee.builtin Builtin.append, args := #[s, x], argTypes := #[t, t] })
    (base : Nat) (e : TypeId) (i : TypeInfo) (z : Value) (size bytes : Nat) (ht : P.underlying t = some (.slice e)) (hi : P.info? e = some i) (hz : i.zero = some z)
    (hsize : i.size = size) (hby : i.bytes = bytes) (hzs : z.cells.size = size) (hsz : 0 < size)
    (v : Value) (n : Nat) (xs : List Value) (hs : a.eval s = v) (hown : w.ownsRow base e size v n xs)
    (ad : Addr) (m c : Nat) (news : List Value) (hx : a.eval x = .slice (some ad) m c) (hl : news.length = m * size) (hnews : ∀ j u, news[j]? = some u → w.cell? (ad.add j) = some u) (h1 : ∀ u ∈ news, u.oneCell' = true)
    (h63 : n + m ≤ maxLen) (hbytes : (n + m) * bytes ≤ 140737488355328) (hbase : base ≤ w.heap.size)
    (h : ∀ v' w', w'.ownsRow base e size v' (n + m) (xs ++ news) → w.grownBy w' v.ownBlock → (v' = .slice none 0 0 ↔ v = .slice none 0 0 ∧ m = 0) → K (a.put o.dst v') w') :
    if Region.wanted o (yielded ops a.tmps) = true then Oper.wp P o a w K Q else E := by
  have hw : Region.wanted o (yielded ops a.tmps) = true := by simp [Region.wanted, hg]
  rw [if_pos hw]
  obtain ⟨v', w', hr, h2, h3, h4⟩ := run_append_own (P := P) w base t o.type e i z size bytes ht hi hz hsize hby hzs hsz v n xs hown ad m c news hl hnews h1 h63 hbytes hbase
  unfold Oper.wp
  simp [execOp, hop, resolve, invoke, builtin, hs, hx, hr, Result.andThen]
  exact h v' w' h2 h3 h4
theorem Mof_off {rule id : Int} {X : Sys} {D : Nat → RD} {k : Nat} (hs : Shape id (D k) (X.L k) (X.I k)) (hr : rule ≠ 0 ∨ (D k).h = false) : Mof rule X k = X.L k := by
  unfold Mof
  by_cases h : rule = 0
  · rw [if_pos h]
    have hh : (D k).h = false := by rcases hr with hr | hr; exact absurd h hr; exact hr
    have e : (X.L k)[X.I k]? = none := List.getElem?_eq_none (hs.no hh)
    simp only [setl, e]
  · rw [if_neg h]
theorem Mof_on {id : Int} {X : Sys} {D : Nat → RD} {k : Nat} {b : Ver} (hs : Shape id (D k) (X.L k) (X.I k)) (hh : (D k).h = true) (hb : (X.L k)[nbOf (D k)]? = some b) : Mof 0 X k = if b.p = true then { b with w := 0 } :: (X.L k).drop (nbOf (D k) + 1) else (X.L k).drop (nbOf (D k) + 1) := by
  unfold Mof
  rw [if_pos rfl, (hs.yes hh).1]
  simp only [setl, hb]
theorem wl_on {X : Sys} {D : Nat → RD} {k : Nat} (hh : (D k).h = true) : wl X D 0 (k + 1) = wl X D 0 k ++ nz ((X.L k).take (nbOf (D k))) := by simp [wl, hh]
theorem wl_same {rule : Int} {X : Sys} {D : Nat → RD} {k : Nat} (hr : rule ≠ 0 ∨ (D k).h = false) : wl X D rule (k + 1) = wl X D rule k := by
  rcases hr with hr | hr
  · simp [wl, hr]
  · simp [wl, hr]
theorem wl_len (rule : Int) (X : Sys) (D : Nat → RD) (k : Nat) : (wl X D rule k).length ≤ k * 3 := by
  induction k with
  | zero => simp [wl]
  | succ k ih =>
    simp only [wl, List.length_append]
    have h1 := nb_le (D k)
    have h2 := nz_len ((X.L k).take (nbOf (D k)))
    simp at h2
    split
    · omega
    · simp; omega
theorem drop_at {L : List Ver} {i k : Nat} {v : Ver} (h : (L.drop i)[k]? = some v) : L[i + k]? = some v := by rwa [List.getElem?_drop] at h
theorem lies_drop {A : Array Value} {o i : Nat} {L : List Ver} (h : Lies A o L) : Lies A (o + i * 4) (L.drop i) := by
  intro k v hv
  have := h (i + k) v (drop_at hv)
  have e : o + i * 4 + k * 4 = o + (i + k) * 4 := by omega
  rw [e]
  exact this
theorem Rec.below {R V : Nat} {m : Int} {L : List Ver} {w w' : World} (h : Rec R V m L w) (hb : Below w.heap.size w w') : Rec R V m L w' := h.keep (S := fun _ => False) (Turns.of_below hb) (fun e => e) (fun e => e)
/-- What one round is told of its record. -/
structure Rnd (wd : World) (R V C : Nat) (L M : List Ver) (A : Array Value) (o cap : Nat) : Prop where
  rcd : ∀ wy, Below wd.heap.size wd wy → Rec R V 0 M wy
  r7 : ∀ wy, Below wd.heap.size wd wy → wy.cell? ⟨R, 7, none⟩ = some (.slice (some ⟨V, o, none⟩) M.length cap)
  clo : ∀ wy, Below wd.heap.size wd wy → wy.heap[C]? = some (.cells A 53 (0, 0))
  lies : Lies A 0 L
  good : ∀ (k : Nat) (v : Ver), L[k]? = some v → Good v.b
theorem Done.rnd {w : World} {n : Nat} {rule id : Int} {D : Nat → RD} {X : Sys} {C : Nat → Nat} {wv : Value} {wd : World} (h : Done w n rule id D X C wv wd) {k : Nat} (hk : k < n) : ∃ A o cap, Rnd wd (X.R k) (X.V k) (C k) (X.L k) (Mof rule X k) A o cap := by
  obtain ⟨A, hA, hL⟩ := h.clo k hk
  have hr := h.rcs k hk
  have hr' := hr
  obtain ⟨⟨o, cap, VA, ⟨⟨B, hB, hb0, hb7⟩⟩, _⟩⟩ := hr
  exact ⟨A, o, cap, fun wy hb => hr'.below hb, fun wy hb => (cell_blk ((hb.block _ (lt_heap hB)).trans hB) 7).trans hb7, fun wy hb => (hb.block _ (lt_heap hA)).trans hA, hL, (h.shp k hk).good⟩

set_option maxRecDepth 1000000 in
set_option maxHeartbeats 4000000 in
theorem loop4 (rule id : Int) (ao wa : Option Addr) (rb ro n cap0 wc : Nat) (D : Nat → RD) (X : Sys) (C : Nat → Nat) (w wd : World) (hn : n ≤ 300) (hao : 0 < n → ao = some ⟨rb, ro, none⟩)
    (hc : ∀ i, i < n → w.cell? ⟨rb, ro + i * 4, none⟩ = some (.int .u8 (D i).b) ∧ w.cell? ⟨rb, ro + i * 4 + 1, none⟩ = some (.int .u8 (D i).a) ∧ w.cell? ⟨rb, ro + i * 4 + 2, none⟩ = some (.bool (D i).h) ∧ w.cell? ⟨rb, ro + i * 4 + 3, none⟩ = some (.bool (D i).p))
    (hd : ∀ i, i < n → 0 ≤ (D i).b ∧ (D i).b ≤ 255 ∧ 0 ≤ (D i).a ∧ (D i).a ≤ 255)
    (hD : Done w n rule id D X C (.slice wa n wc) wd) (c0 c1 c3 c4 c5 c6 c8 c9 c11 c12 c13 c14 c15 c16 c17 c18 c19 c21 c22 c23 c24 c25 c26 c27 c28 c29 c30 c31 c32 c33 c34 c35 c36 c37 c38 c39 c40 c41 c42 c43 c44 c45 c46 c47 c48 c49 c50 c51 c52 c53 c54 c55 c56 c57 c58 c59 c60 c61 c62 c63 c64 c65 c66 c67 c68 c69 c70 c71 c72 c73 c74 c75 c76 c77 c78 c79 c80 c81 c82 c83 c84 c85 c86 c87 c88 c89 c90 c91 c92 c93 c94 c95 c96 c97 c98 c99 c100 c101 c102 c103 c104 c105 c106 c107 c108 c109 c110 c111 c112 c113 c114 c115 c116 c117 c118 c119 c120 c121 c122 c123 c124 c125 c126 c127 c128 c129 c130 c131 c132 c133 c134 c135 c136 c137 c138 c139 c140 c141 c142 c143 c144 c145 c146 c147 c148 c149 c150 c151 c152 c153 c157 c158 c159 c160 c161 c162 c163 c164 c165 c166 c167 c168 c169 c170 c171 c172 c173 c174 c175 c176 c177 c178 c179 c180 c181 c182 c183 c184 c185 c186 c187 c188 c189 c190 c191 c192 c193 c194 c195 c196 c197 c198 c199 c200 c201 c202 c203 c204 c205 c206 c207 c208 c209 c210 c211 c212 c213 c214 c215 c216 c217 c218 c219 c220 c221 c222 c223 c224 c225 c226 c227 c228 c229 c230 c231 c232 c233 c234 c235 c236 c237 c238 c239 c240 c241 c242 c243 c244 c245 c246 c247 c248 c249 c250 c251 c252 c253 c254 c255 c256 c257 c258 c259 c260 c261 c262 c263 c264 c265 c266 c267 c268 c269 c270 c271 c272 c273 c274 c275 c276 c277 c278 c279 c280 c281 c282 c283 c284 c285 c286 c287 c288 c289 c290 c291 : Value) (K : Act → World → Prop) (Q : Exit → Act → World → Prop)
    (hK : ∀ (v6 v21 v22 v23 v24 v25 v26 v27 v28 v157 v158 v159 v160 v161 v162 v163 v164 v165 v166 v167 v168 v169 v170 v171 v172 v173 v174 v175 v176 v177 v178 v179 v180 v181 v182 v183 v184 v185 v186 v187 v188 v189 v190 v191 v192 v193 v194 v195 v196 v197 v198 v199 v200 v201 v202 v203 v204 v205 v206 v207 v208 v209 v210 v211 v212 v213 v214 v215 v216 v217 v218 v219 v220 v221 v222 v223 v224 v225 v226 v227 v228 v229 v230 v231 v232 v233 v234 v235 v236 v237 v238 v239 v240 v241 v242 v243 v244 v245 v246 v247 v248 v249 v250 v251 : Value) (wv1 : Value) (wy : World), wy.ownsRow wd.heap.size 25 1 wv1 (wl X D rule n).length (wl X D rule n) → Below wd.heap.size wd wy → K ⟨(List.toArray (c0 :: c1 :: (.slice ao n cap0) :: c3 :: c4 :: c5 :: (v6) :: (.int .u8 rule) :: c8 :: c9 :: (.slice (some ⟨w.heap.size + 1, 0, none⟩) n n) :: c11 :: c12 :: c13 :: c14 :: c15 :: c16 :: c17 :: c18 :: c19 :: (wv1) :: (v21) :: (v22) :: (v23) :: (v24) :: (v25) :: (v26) :: (v27) :: (v28) :: c29 :: c30 :: c31 :: c32 :: c33 :: c34 :: c35 :: c36 :: c37 :: c38 :: c39 :: c40 :: c41 :: c42 :: c43 :: c44 :: c45 :: c46 :: c47 :: c48 :: c49 :: c50 :: c51 :: c52 :: c53 :: c54 :: c55 :: c56 :: c57 :: c58 :: c59 :: c60 :: c61 :: c62 :: c63 :: c64 :: c65 :: c66 :: c67 :: c68 :: c69 :: c70 :: c71 :: c72 :: c73 :: c74 :: c75 :: c76 :: c77 :: c78 :: c79 :: c80 :: c81 :: c82 :: c83 :: c84 :: c85 :: c86 :: c87 :: c88 :: c89 :: c90 :: c91 :: c92 :: c93 :: c94 :: c95 :: c96 :: c97 :: c98 :: c99 :: c100 :: c101 :: c102 :: c103 :: c104 :: c105 :: c106 :: c107 :: c108 :: c109 :: c110 :: c111 :: c112 :: c113 :: c114 :: c115 :: c116 :: c117 :: c118 :: c119 :: c120 :: c121 :: c122 :: c123 :: c124 :: c125 :: c126 :: c127 :: c128 :: c129 :: c130 :: c131 :: c132 :: c133 :: c134 :: c135 :: c136 :: c137 :: c138 :: c139 :: c140 :: c141 :: c142 :: c143 :: c144 :: c145 :: c146 :: c147 :: c148 :: c149 :: c150 :: c151 :: c152 :: c153 :: (.slice wa n wc) :: (.int .i64 n) :: (.int .i64 n) :: (v157) :: (v158) :: (v159) :: (v160) :: (v161) :: (v162) :: (v163) :: (v164) :: (v165) :: (v166) :: (v167) :: (v168) :: (v169) :: (v170) :: (v171) :: (v172) :: (v173) :: (v174) :: (v175) :: (v176) :: (v177) :: (v178) :: (v179) :: (v180) :: (v181) :: (v182) :: (v183) :: (v184) :: (v185) :: (v186) :: (v187) :: (v188) :: (v189) :: (v190) :: (v191) :: (v192) :: (v193) :: (v194) :: (v195) :: (v196) :: (v197) :: (v198) :: (v199) :: (v200) :: (v201) :: (v202) :: (v203) :: (v204) :: (v205) :: (v206) :: (v207) :: (v208) :: (v209) :: (v210) :: (v211) :: (v212) :: (v213) :: (v214) :: (v215) :: (v216) :: (v217) :: (v218) :: (v219) :: (v220) :: (v221) :: (v222) :: (v223) :: (v224) :: (v225) :: (v226) :: (v227) :: (v228) :: (v229) :: (v230) :: (v231) :: (v232) :: (v233) :: (v234) :: (v235) :: (v236) :: (v237) :: (v238) :: (v239) :: (v240) :: (v241) :: (v242) :: (v243) :: (v244) :: (v245) :: (v246) :: (v247) :: (v248) :: (v249) :: (v250) :: (v251) :: c252 :: c253 :: c254 :: c255 :: c256 :: c257 :: c258 :: c259 :: c260 :: c261 :: c262 :: c263 :: c264 :: c265 :: c266 :: c267 :: c268 :: c269 :: c270 :: c271 :: c272 :: c273 :: c274 :: c275 :: c276 :: c277 :: c278 :: c279 :: c280 :: c281 :: c282 :: c283 :: c284 :: c285 :: c286 :: c287 :: c288 :: c289 :: c290 :: c291 :: [])), []⟩ wy) :
    Code.wp Yba.prog (Code.loop (bodyAt Yba.f5 1)) (Exit.inBlock 6 (Exit.then K Q)) ⟨(List.toArray (c0 :: c1 :: (.slice ao n cap0) :: c3 :: c4 :: c5 :: c6 :: (.int .u8 rule) :: c8 :: c9 :: (.slice (some ⟨w.heap.size + 1, 0, none⟩) n n) :: c11 :: c12 :: c13 :: c14 :: c15 :: c16 :: c17 :: c18 :: c19 :: (.slice none 0 0) :: c21 :: c22 :: c23 :: c24 :: c25 :: c26 :: c27 :: c28 :: c29 :: c30 :: c31 :: c32 :: c33 :: c34 :: c35 :: c36 :: c37 :: c38 :: c39 :: c40 :: c41 :: c42 :: c43 :: c44 :: c45 :: c46 :: c47 :: c48 :: c49 :: c50 :: c51 :: c52 :: c53 :: c54 :: c55 :: c56 :: c57 :: c58 :: c59 :: c60 :: c61 :: c62 :: c63 :: c64 :: c65 :: c66 :: c67 :: c68 :: c69 :: c70 :: c71 :: c72 :: c73 :: c74 :: c75 :: c76 :: c77 :: c78 :: c79 :: c80 :: c81 :: c82 :: c83 :: c84 :: c85 :: c86 :: c87 :: c88 :: c89 :: c90 :: c91 :: c92 :: c93 :: c94 :: c95 :: c96 :: c97 :: c98 :: c99 :: c100 :: c101 :: c102 :: c103 :: c104 :: c105 :: c106 :: c107 :: c108 :: c109 :: c110 :: c111 :: c112 :: c113 :: c114 :: c115 :: c116 :: c117 :: c118 :: c119 :: c120 :: c121 :: c122 :: c123 :: c124 :: c125 :: c126 :: c127 :: c128 :: c129 :: c130 :: c131 :: c132 :: c133 :: c134 :: c135 :: c136 :: c137 :: c138 :: c139 :: c140 :: c141 :: c142 :: c143 :: c144 :: c145 :: c146 :: c147 :: c148 :: c149 :: c150 :: c151 :: c152 :: c153 :: (.slice wa n wc) :: (.int .i64 n) :: (.int .i64 0) :: c157 :: c158 :: c159 :: c160 :: c161 :: c162 :: c163 :: c164 :: c165 :: c166 :: c167 :: c168 :: c169 :: c170 :: c171 :: c172 :: c173 :: c174 :: c175 :: c176 :: c177 :: c178 :: c179 :: c180 :: c181 :: c182 :: c183 :: c184 :: c185 :: c186 :: c187 :: c188 :: c189 :: c190 :: c191 :: c192 :: c193 :: c194 :: c195 :: c196 :: c197 :: c198 :: c199 :: c200 :: c201 :: c202 :: c203 :: c204 :: c205 :: c206 :: c207 :: c208 :: c209 :: c210 :: c211 :: c212 :: c213 :: c214 :: c215 :: c216 :: c217 :: c218 :: c219 :: c220 :: c221 :: c222 :: c223 :: c224 :: c225 :: c226 :: c227 :: c228 :: c229 :: c230 :: c231 :: c232 :: c233 :: c234 :: c235 :: c236 :: c237 :: c238 :: c239 :: c240 :: c241 :: c242 :: c243 :: c244 :: c245 :: c246 :: c247 :: c248 :: c249 :: c250 :: c251 :: c252 :: c253 :: c254 :: c255 :: c256 :: c257 :: c258 :: c259 :: c260 :: c261 :: c262 :: c263 :: c264 :: c265 :: c266 :: c267 :: c268 :: c269 :: c270 :: c271 :: c272 :: c273 :: c274 :: c275 :: c276 :: c277 :: c278 :: c279 :: c280 :: c281 :: c282 :: c283 :: c284 :: c285 :: c286 :: c287 :: c288 :: c289 :: c290 :: c291 :: [])), []⟩ wd := by
  have HK : Hid (∀ (v6 v21 v22 v23 v24 v25 v26 v27 v28 v157 v158 v159 v160 v161 v162 v163 v164 v165 v166 v167 v168 v169 v170 v171 v172 v173 v174 v175 v176 v177 v178 v179 v180 v181 v182 v183 v184 v185 v186 v187 v188 v189 v190 v191 v192 v193 v194 v195 v196 v197 v198 v199 v200 v201 v202 v203 v204 v205 v206 v207 v208 v209 v210 v211 v212 v213 v214 v215 v216 v217 v218 v219 v220 v221 v222 v223 v224 v225 v226 v227 v228 v229 v230 v231 v232 v233 v234 v235 v236 v237 v238 v239 v240 v241 v242 v243 v244 v245 v246 v247 v248 v249 v250 v251 : Value) (wv1 : Value) (wy : World), wy.ownsRow wd.heap.size 25 1 wv1 (wl X D rule n).length (wl X D rule n) → Below wd.heap.size wd wy → K ⟨(List.toArray (c0 :: c1 :: (.slice ao n cap0) :: c3 :: c4 :: c5 :: (v6) :: (.int .u8 rule) :: c8 :: c9 :: (.slice (some ⟨w.heap.size + 1, 0, none⟩) n n) :: c11 :: c12 :: c13 :: c14 :: c15 :: c16 :: c17 :: c18 :: c19 :: (wv1) :: (v21) :: (v22) :: (v23) :: (v24) :: (v25) :: (v26) :: (v27) :: (v28) :: c29 :: c30 :: c31 :: c32 :: c33 :: c34 :: c35 :: c36 :: c37 :: c38 :: c39 :: c40 :: c41 :: c42 :: c43 :: c44 :: c45 :: c46 :: c47 :: c48 :: c49 :: c50 :: c51 :: c52 :: c53 :: c54 :: c55 :: c56 :: c57 :: c58 :: c59 :: c60 :: c61 :: c62 :: c63 :: c64 :: c65 :: c66 :: c67 :: c68 :: c69 :: c70 :: c71 :: c72 :: c73 :: c74 :: c75 :: c76 :: c77 :: c78 :: c79 :: c80 :: c81 :: c82 :: c83 :: c84 :: c85 :: c86 :: c87 :: c88 :: c89 :: c90 :: c91 :: c92 :: c93 :: c94 :: c95 :: c96 :: c97 :: c98 :: c99 :: c100 :: c101 :: c102 :: c103 :: c104 :: c105 :: c106 :: c107 :: c108 :: c109 :: c110 :: c111 :: c112 :: c113 :: c114 :: c115 :: c116 :: c117 :: c118 :: c119 :: c120 :: c121 :: c122 :: c123 :: c124 :: c125 :: c126 :: c127 :: c128 :: c129 :: c130 :: c131 :: c132 :: c133 :: c134 :: c135 :: c136 :: c137 :: c138 :: c139 :: c140 :: c141 :: c142 :: c143 :: c144 :: c145 :: c146 :: c147 :: c148 :: c149 :: c150 :: c151 :: c152 :: c153 :: (.slice wa n wc) :: (.int .i64 n) :: (.int .i64 n) :: (v157) :: (v158) :: (v159) :: (v160) :: (v161) :: (v162) :: (v163) :: (v164) :: (v165) :: (v166) :: (v167) :: (v168) :: (v169) :: (v170) :: (v171) :: (v172) :: (v173) :: (v174) :: (v175) :: (v176) :: (v177) :: (v178) :: (v179) :: (v180) :: (v181) :: (v182) :: (v183) :: (v184) :: (v185) :: (v186) :: (v187) :: (v188) :: (v189) :: (v190) :: (v191) :: (v192) :: (v193) :: (v194) :: (v195) :: (v196) :: (v197) :: (v198) :: (v199) :: (v200) :: (v201) :: (v202) :: (v203) :: (v204) :: (v205) :: (v206) :: (v207) :: (v208) :: (v209) :: (v210) :: (v211) :: (v212) :: (v213) :: (v214) :: (v215) :: (v216) :: (v217) :: (v218) :: (v219) :: (v220) :: (v221) :: (v222) :: (v223) :: (v224) :: (v225) :: (v226) :: (v227) :: (v228) :: (v229) :: (v230) :: (v231) :: (v232) :: (v233) :: (v234) :: (v235) :: (v236) :: (v237) :: (v238) :: (v239) :: (v240) :: (v241) :: (v242) :: (v243) :: (v244) :: (v245) :: (v246) :: (v247) :: (v248) :: (v249) :: (v250) :: (v251) :: c252 :: c253 :: c254 :: c255 :: c256 :: c257 :: c258 :: c259 :: c260 :: c261 :: c262 :: c263 :: c264 :: c265 :: c266 :: c267 :: c268 :: c269 :: c270 :: c271 :: c272 :: c273 :: c274 :: c275 :: c276 :: c277 :: c278 :: c279 :: c280 :: c281 :: c282 :: c283 :: c284 :: c285 :: c286 :: c287 :: c288 :: c289 :: c290 :: c291 :: [])), []⟩ wy) := hK
  have HC : Hid (∀ i, i < n → w.cell? ⟨rb, ro + i * 4, none⟩ = some (.int .u8 (D i).b) ∧ w.cell? ⟨rb, ro + i * 4 + 1, none⟩ = some (.int .u8 (D i).a) ∧ w.cell? ⟨rb, ro + i * 4 + 2, none⟩ = some (.bool (D i).h) ∧ w.cell? ⟨rb, ro + i * 4 + 3, none⟩ = some (.bool (D i).p)) := hc
  have HD : Hid (∀ i, i < n → 0 ≤ (D i).b ∧ (D i).b ≤ 255 ∧ 0 ≤ (D i).a ∧ (D i).a ≤ 255) := hd
  have HAO : Hid (0 < n → ao = some ⟨rb, ro, none⟩) := hao
  have HDN : Hid (Done w n rule id D X C (.slice wa n wc) wd) := hD
  have HGP : Hid (0 < n → ∃ g G, wa = some ⟨g, 0, none⟩ ∧ wd.heap[g]? = some (.cells G 56 (0, 0)) ∧ ∀ i, i < n → G[i]? = some (.pointer (some ⟨X.R i, 0, none⟩))) := (by
    obtain ⟨wa', wc', e, h⟩ := hD.row
    simp at e
    obtain ⟨rfl, rfl⟩ := e
    exact h)
  clear hc hd hao hD hK
  conv => arg 2; arg 1; whnf
  go_loopw [20, 156] (fun p i wy => ∃ k : Nat, k ≤ n ∧ i = .int .i64 k ∧ wy.ownsRow wd.heap.size 25 1 p (wl X D rule k).length (wl X D rule k) ∧ Below wd.heap.size wd wy) (fun _ i _ => n - (intOf i).toNat)
  case atStart => exact ⟨0, Nat.zero_le _, rfl, ⟨rfl, Or.inl ⟨rfl, rfl⟩⟩, Below.refl _ _⟩
  case round =>
    rename World => wx
    obtain ⟨k, hk, rfl, hown, hbel⟩ := hrel
    have HOWN : Hid (wx.ownsRow wd.heap.size 25 1 u20 (wl X D rule k).length (wl X D rule k)) := hown
    have HBEL : Hid (Below wd.heap.size wd wx) := hbel
    have HWL : Hid ((wl X D rule k).length ≤ k * 3) := wl_len rule X D k
    by_cases hlt : k < n
    · obtain rfl : ao = some ⟨rb, ro, none⟩ := HAO.out (by omega)
      obtain ⟨g, G, rfl, hG, hGi⟩ := HGP.out (by omega)
      have hg1 : wx.cell? ⟨g, k, none⟩ = some (.pointer (some ⟨X.R k, 0, none⟩)) := (cell_blk ((hbel.block _ (lt_heap hG)).trans hG) k).trans (hGi k hlt)
      obtain ⟨O, hO, hO1, hO2⟩ := HDN.out.orig
      obtain ⟨cc, hcc, hOk⟩ := hO2 k hlt
      have ho1 : wx.cell? ⟨w.heap.size + 1, k, none⟩ = some (.slice (some ⟨C k, 0, none⟩) (X.L k).length cc) := (cell_blk ((hbel.block _ (lt_heap hO)).trans hO) k).trans hOk
      obtain ⟨c0, _, c2, _⟩ := HC.out k hlt
      have hrb : rb < w.heap.size := block_lt_of_cell c0
      have hwx : Below w.heap.size w wx := HDN.out.bel.trans (hbel.mono HDN.out.bel.size)
      have HWX : Hid (Below w.heap.size w wx) := hwx
      rw [← hwx.cell (p := ⟨rb, ro + k * 4, none⟩) hrb] at c0
      rw [← hwx.cell (p := ⟨rb, ro + k * 4 + 2, none⟩) hrb] at c2
      obtain ⟨r0, r1, _, _⟩ := HD.out k hlt
      obtain ⟨CA, o, cap, hrnd⟩ := HDN.out.rnd hlt
      have r7 := hrnd.r7 wx hbel
      have HSHP : Hid (Shape id (D k) (X.L k) (X.I k)) := HDN.out.shp k hlt
      have hl6 := HSHP.out.len
      have HRND : Hid (Rnd wd (X.R k) (X.V k) (C k) (X.L k) (Mof rule X k) CA o cap) := hrnd
      clear hG hGi hO hO1 hO2 hOk hwx hown hbel hrnd
      by_cases hoff : rule ≠ 0 ∨ (D k).h = false
      · have hM : Mof rule X k = X.L k := Mof_off HSHP.out hoff
        have HWS : Hid (wl X D rule (k + 1) = wl X D rule k) := wl_same hoff
        rw [hM] at r7 HRND
        generalize hL : X.L k = L at *
        generalize hR : X.R k = R at *
        generalize hV : X.V k = V at *
        generalize hCk : C k = Ck at *
        have HEND : Hid (∀ wy, Below wx.heap.size wx wy → wy.ownsRow wd.heap.size 25 1 u20 (wl X D rule (k + 1)).length (wl X D rule (k + 1)) ∧ Below wd.heap.size wd wy) := (fun wy hb => ⟨by rw [HWS.out]; exact own_below HOWN.out hb, HBEL.out.trans (hb.mono HBEL.out.size)⟩)
        clear hM HSHP HWS
        by_cases hr : rule = 0
        · have hh : (D k).h = false := by rcases hoff with h | h; exact absurd hr h; exact h
          rw [hh] at c2
          subst hr
          clear hoff
          go_wp2
          refine weaken (loop6 R V Ck 0 cc (some ⟨Ck, 0, none⟩) L CA wx wx hl6 (HRND.out.rcd wx HBEL.out) (fun _ => ⟨rfl, HRND.out.clo wx HBEL.out, HRND.out.lies⟩) HRND.out.good (Below.refl _ _) _ _ _ _ _ _ _ _ _ _ _ _ _ _ _ _ _ _ _ _ _ _ _ _ _ _ _ _ _ _ _ _ _ _ _ _ _ _ _ _ _ _ _ _ _ _ _ _ _ _ _ _ _ _ _ _ _ _ _ _ _ _ _ _ _ _ _ _ _ _ _ _ _ _ _ _ _ _ _ _ _ _ _ _ _ _ _ _ _ _ _ _ _ _ _ _ _ _ _ _ _ _ _ _ _ _ _ _ _ _ _ _ _ _ _ _ _ _ _ _ _ _ _ _ _ _ _ _ _ _ _ _ _ _ _ _ _ _ _ _ _ _ _ _ _ _ _ _ _ _ _ _ _ _ _ _ _ _ _ _ _ _ _ _ _ _ _ _ _ _ _ _ _ _ _ _ _ _ _ _ _ _ _ _ _ _ _ _ _ _ _ _ _ _ _ _ _ _ _ _ _ _ _ _ _ _ _ _ _ _ _ _ _ _ _ _ _ _ _ _ _ _ _ _ _ _ _ _ _ _ _ _ _ _ _ _ _ _ _ _ _ _ _ _ _ _ _ _ _ _ _ _ _ _ _ _ _ _ _ _ _ _ _ _ _ _ _ _ _ _ _ _ _ _ _ _ _ _ _ _ _ _ _ _ _ _ _ _ _ ?_)
          intro y6 y28 y235 y236 y237 y238 y239 y240 y241 y242 y243 y244 y245 y246 y247 y248 y249 y250 wy hb
          have HE := HEND.out wy hb
          clear hb
          simp only [Exit.inBlock, Exit.then]
          go_wp2
          go_roundw
          case rel => exact ⟨k + 1, by omega, by go_num, HE⟩
          case measure => simp [intOf]; omega
        · have q : (rule == 0) = false := by simpa using hr
          clear hoff
          go_wp2
          refine weaken (loop6 R V Ck 0 cc (some ⟨Ck, 0, none⟩) L CA wx wx hl6 (HRND.out.rcd wx HBEL.out) (fun _ => ⟨rfl, HRND.out.clo wx HBEL.out, HRND.out.lies⟩) HRND.out.good (Below.refl _ _) _ _ _ _ _ _ _ _ _ _ _ _ _ _ _ _ _ _ _ _ _ _ _ _ _ _ _ _ _ _ _ _ _ _ _ _ _ _ _ _ _ _ _ _ _ _ _ _ _ _ _ _ _ _ _ _ _ _ _ _ _ _ _ _ _ _ _ _ _ _ _ _ _ _ _ _ _ _ _ _ _ _ _ _ _ _ _ _ _ _ _ _ _ _ _ _ _ _ _ _ _ _ _ _ _ _ _ _ _ _ _ _ _ _ _ _ _ _ _ _ _ _ _ _ _ _ _ _ _ _ _ _ _ _ _ _ _ _ _ _ _ _ _ _ _ _ _ _ _ _ _ _ _ _ _ _ _ _ _ _ _ _ _ _ _ _ _ _ _ _ _ _ _ _ _ _ _ _ _ _ _ _ _ _ _ _ _ _ _ _ _ _ _ _ _ _ _ _ _ _ _ _ _ _ _ _ _ _ _ _ _ _ _ _ _ _ _ _ _ _ _ _ _ _ _ _ _ _ _ _ _ _ _ _ _ _ _ _ _ _ _ _ _ _ _ _ _ _ _ _ _ _ _ _ _ _ _ _ _ _ _ _ _ _ _ _ _ _ _ _ _ _ _ _ _ _ _ _ _ _ _ _ _ _ _ _ _ _ _ ?_)
          intro y6 y28 y235 y236 y237 y238 y239 y240 y241 y242 y243 y244 y245 y246 y247 y248 y249 y250 wy hb
          have HE := HEND.out wy hb
          clear hb
          simp only [Exit.inBlock, Exit.then]
          go_wp2
          go_roundw
          case rel => exact ⟨k + 1, by omega, by go_num, HE⟩
          case measure => simp [intOf]; omega
      · have hr : rule = 0 := Decidable.byContradiction (fun e => hoff (Or.inl e))
        have hh : (D k).h = true := by cases e : (D k).h; exact absurd (Or.inr e) hoff; rfl
        rw [hh] at c2
        subst hr
        obtain ⟨hI, hIl⟩ := HSHP.out.yes hh
        have hnl : nbOf (D k) < (X.L k).length := by omega
        obtain ⟨b, hb⟩ := at_some (X.L k) hnl
        have HM : Hid (Mof 0 X k = if b.p = true then { b with w := 0 } :: (X.L k).drop (nbOf (D k) + 1) else (X.L k).drop (nbOf (D k) + 1)) := Mof_on HSHP.out hh hb
        have HWS : Hid (wl X D 0 (k + 1) = wl X D 0 k ++ nz ((X.L k).take (nbOf (D k)))) := wl_on hh
        have e1 : (D k).b % 4 = (nbOf (D k) : Int) := by unfold nbOf; omega
        have q1 := nb_le (D k)
        have HB : Hid (VerAt CA (0 + nbOf (D k) * 4) b) := HRND.out.lies _ b hb
        have HGB : Hid (Good b.b) := HRND.out.good _ b hb
        have HCC : C k < wd.heap.size := lt_heap (HRND.out.clo wd (Below.refl _ _))
        generalize nbOf (D k) = nb at *
        generalize X.L k = L at *
        generalize X.R k = R at *
        generalize X.V k = V at *
        generalize C k = Ck at *
        generalize Mof 0 X k = M at *
        clear HSHP hoff hI hIl hb
        go_wp2
        refine loop5 wd.heap.size Ck cc nb L CA (wl X D 0 k) u20 wd wx hl6 (by omega) (by have := HWL.out; omega) (Nat.le_refl _) HCC (HRND.out.clo wd (Below.refl _ _)) HRND.out.lies (HBEL.out.size) HBEL.out HOWN.out _ _ _ _ _ _ _ _ _ _ _ _ _ _ _ _ _ _ _ _ _ _ _ _ _ _ _ _ _ _ _ _ _ _ _ _ _ _ _ _ _ _ _ _ _ _ _ _ _ _ _ _ _ _ _ _ _ _ _ _ _ _ _ _ _ _ _ _ _ _ _ _ _ _ _ _ _ _ _ _ _ _ _ _ _ _ _ _ _ _ _ _ _ _ _ _ _ _ _ _ _ _ _ _ _ _ _ _ _ _ _ _ _ _ _ _ _ _ _ _ _ _ _ _ _ _ _ _ _ _ _ _ _ _ _ _ _ _ _ _ _ _ _ _ _ _ _ _ _ _ _ _ _ _ _ _ _ _ _ _ _ _ _ _ _ _ _ _ _ _ _ _ _ _ _ _ _ _ _ _ _ _ _ _ _ _ _ _ _ _ _ _ _ _ _ _ _ _ _ _ _ _ _ _ _ _ _ _ _ _ _ _ _ _ _ _ _ _ _ _ _ _ _ _ _ _ _ _ _ _ _ _ _ _ _ _ _ _ _ _ _ _ _ _ _ _ _ _ _ _ _ _ _ _ _ _ _ _ _ _ _ _ _ _ _ _ _ _ _ _ _ _ _ _ _ _ _ _ _ _ _ _ _ _ _ _ _ _ _ _ ?_
        intro z183 z184 z185 z186 z187 z188 z189 z190 z191 z192 z193 z194 z195 z196 z197 z198 z199 z200 z201 z202 z203 z204 wv1 w5 hown5 hbel5 hsz5
        have HOWN5 : Hid (w5.ownsRow wd.heap.size 25 1 wv1 (wl X D 0 (k + 1)).length (wl X D 0 (k + 1))) := (by rw [HWS.out]; exact hown5)
        have HBEL5 : Hid (Below wd.heap.size wd w5) := hbel5
        obtain ⟨a0, a1, a2, a3⟩ := VerAt.cells HB.out (HRND.out.clo w5 hbel5)
        simp only [Nat.zero_add] at a0 a1 a2 a3
        clear hown5 hbel5 r7 hg1 ho1 c0 c2
        obtain ⟨va, vn, vc, vp, vw⟩ := b
        cases vp
        · have hM : M = L.drop (nb + 1) := (by have := HM.out; simpa using this)
          have hlen : M.length = L.length - (nb + 1) := by rw [hM, List.length_drop]
          have HGM : Hid (∀ (k : Nat) (v : Ver), M[k]? = some v → Good v.b) := (by show ∀ (k : Nat) (v : Ver), M[k]? = some v → Good v.b; rw [hM]; exact fun k v hv => HRND.out.good _ v (drop_at hv))
          have HLM : Hid (Lies CA ((nb + 1) * 4) M) := (by show Lies CA ((nb + 1) * 4) M; rw [hM]; have := lies_drop (i := nb + 1) HRND.out.lies; rwa [Nat.zero_add] at this)
          have hbx : Below wd.heap.size wd (w5.alloc (.cells #[.slice va vn vc, .bool false, .int .u64 0, .pointer none] 53)) := HBEL5.out.alloc HBEL5.out.size _
          have r7 := HRND.out.r7 _ hbx
          rw [hlen] at r7
          have HBX : Hid (Below wd.heap.size wd (w5.alloc (.cells #[.slice va vn vc, .bool false, .int .u64 0, .pointer none] 53))) := hbx
          have HEND : Hid (∀ wy, Below (w5.alloc (.cells #[.slice va vn vc, .bool false, .int .u64 0, .pointer none] 53)).heap.size (w5.alloc (.cells #[.slice va vn vc, .bool false, .int .u64 0, .pointer none] 53)) wy → wy.ownsRow wd.heap.size 25 1 wv1 (wl X D 0 (k + 1)).length (wl X D 0 (k + 1)) ∧ Below wd.heap.size wd wy) := (fun wy hb => ⟨own_below (HOWN5.out.alloc _) hb, HBX.out.trans (hb.mono HBX.out.size)⟩)
          clear e1 hbx hM
          by_cases hc1 : cc = nb + 1
          · subst hc1
            obtain rfl : M = [] := List.eq_nil_of_length_eq_zero (by omega)
            go_wp2
            refine weaken (loop6 R V Ck 0 0 (some ⟨Ck, 0, none⟩) [] CA _ _ (by simp) (HRND.out.rcd _ HBX.out) (fun h0 => absurd h0 (by simp)) HGM.out (Below.refl _ _) _ _ _ _ _ _ _ _ _ _ _ _ _ _ _ _ _ _ _ _ _ _ _ _ _ _ _ _ _ _ _ _ _ _ _ _ _ _ _ _ _ _ _ _ _ _ _ _ _ _ _ _ _ _ _ _ _ _ _ _ _ _ _ _ _ _ _ _ _ _ _ _ _ _ _ _ _ _ _ _ _ _ _ _ _ _ _ _ _ _ _ _ _ _ _ _ _ _ _ _ _ _ _ _ _ _ _ _ _ _ _ _ _ _ _ _ _ _ _ _ _ _ _ _ _ _ _ _ _ _ _ _ _ _ _ _ _ _ _ _ _ _ _ _ _ _ _ _ _ _ _ _ _ _ _ _ _ _ _ _ _ _ _ _ _ _ _ _ _ _ _ _ _ _ _ _ _ _ _ _ _ _ _ _ _ _ _ _ _ _ _ _ _ _ _ _ _ _ _ _ _ _ _ _ _ _ _ _ _ _ _ _ _ _ _ _ _ _ _ _ _ _ _ _ _ _ _ _ _ _ _ _ _ _ _ _ _ _ _ _ _ _ _ _ _ _ _ _ _ _ _ _ _ _ _ _ _ _ _ _ _ _ _ _ _ _ _ _ _ _ _ _ _ _ _ _ _ _ _ _ _ _ _ _ _ _ _ _ _ ?_)
            intro y6 y28 y235 y236 y237 y238 y239 y240 y241 y242 y243 y244 y245 y246 y247 y248 y249 y250 wy hb
            have HE := HEND.out wy hb
            clear hb
            simp only [Exit.inBlock, Exit.then]
            go_wp2
            go_roundw
            case rel => exact ⟨k + 1, by omega, by go_num, HE⟩
            case measure => simp [intOf]; omega
          · go_wp2
            rw [← hlen]
            refine weaken (loop6 R V Ck ((nb + 1) * 4) (cc - (nb + 1)) (some ⟨Ck, (nb + 1) * 4, none⟩) M CA _ _ (by omega) (HRND.out.rcd _ HBX.out) (fun h0 => ⟨rfl, HRND.out.clo _ HBX.out, HLM.out⟩) HGM.out (Below.refl _ _) _ _ _ _ _ _ _ _ _ _ _ _ _ _ _ _ _ _ _ _ _ _ _ _ _ _ _ _ _ _ _ _ _ _ _ _ _ _ _ _ _ _ _ _ _ _ _ _ _ _ _ _ _ _ _ _ _ _ _ _ _ _ _ _ _ _ _ _ _ _ _ _ _ _ _ _ _ _ _ _ _ _ _ _ _ _ _ _ _ _ _ _ _ _ _ _ _ _ _ _ _ _ _ _ _ _ _ _ _ _ _ _ _ _ _ _ _ _ _ _ _ _ _ _ _ _ _ _ _ _ _ _ _ _ _ _ _ _ _ _ _ _ _ _ _ _ _ _ _ _ _ _ _ _ _ _ _ _ _ _ _ _ _ _ _ _ _ _ _ _ _ _ _ _ _ _ _ _ _ _ _ _ _ _ _ _ _ _ _ _ _ _ _ _ _ _ _ _ _ _ _ _ _ _ _ _ _ _ _ _ _ _ _ _ _ _ _ _ _ _ _ _ _ _ _ _ _ _ _ _ _ _ _ _ _ _ _ _ _ _ _ _ _ _ _ _ _ _ _ _ _ _ _ _ _ _ _ _ _ _ _ _ _ _ _ _ _ _ _ _ _ _ _ _ _ _ _ _ _ _ _ _ _ _ _ _ _ _ _ ?_)
            intro y6 y28 y235 y236 y237 y238 y239 y240 y241 y242 y243 y244 y245 y246 y247 y248 y249 y250 wy hb
            have HE := HEND.out wy hb
            clear hb
            simp only [Exit.inBlock, Exit.then]
            go_wp2
            go_roundw
            case rel => exact ⟨k + 1, by omega, by go_num, HE⟩
            case measure => simp [intOf]; omega
        · have hM : M = ⟨va, vn, vc, true, 0⟩ :: L.drop (nb + 1) := (by have := HM.out; simpa using this)
          have hbx : Below wd.heap.size wd (w5.alloc (.cells #[.slice va vn vc, .bool true, .int .u64 0, .pointer none] 53)) := HBEL5.out.alloc HBEL5.out.size _
          have HBX : Hid (Below wd.heap.size wd (w5.alloc (.cells #[.slice va vn vc, .bool true, .int .u64 0, .pointer none] 53))) := hbx
          have HVC : Hid (∀ j u, (vcells (L.drop (nb + 1)))[j]? = some u → CA[(nb + 1) * 4 + j]? = some u) := (fun j u hu => by
            have := lies_cells (lies_drop (i := nb + 1) HRND.out.lies) j u hu
            rwa [Nat.zero_add] at this)
          clear hbx
          obtain ⟨i53, hi53, hz53, hs53, hb53⟩ := info_parts info53
          go_wp2
          have bx0 : (w5.alloc (.cells #[.slice va vn vc, .bool true, .int .u64 0, .pointer none] 53)).cell? ⟨w5.heap.size, 0, none⟩ = some (.slice va vn vc) := cell_blk (heap_alloc_new w5 _) 0
          have bx1 : (w5.alloc (.cells #[.slice va vn vc, .bool true, .int .u64 0, .pointer none] 53)).cell? ⟨w5.heap.size, 1, none⟩ = some (.bool true) := cell_blk (heap_alloc_new w5 _) 1
          have bx2 : (w5.alloc (.cells #[.slice va vn vc, .bool true, .int .u64 0, .pointer none] 53)).cell? ⟨w5.heap.size, 2, none⟩ = some (.int .u64 0) := cell_blk (heap_alloc_new w5 _) 2
          have bx3 : (w5.alloc (.cells #[.slice va vn vc, .bool true, .int .u64 0, .pointer none] 53)).cell? ⟨w5.heap.size, 3, none⟩ = some (.pointer none) := cell_blk (heap_alloc_new w5 _) 3
          have HOWN6 : Hid ((w5.alloc (.cells #[.slice va vn vc, .bool true, .int .u64 0, .pointer none] 53)).ownsRow wd.heap.size 25 1 wv1 (wl X D 0 (k + 1)).length (wl X D 0 (k + 1))) := HOWN5.out.alloc _
          clear a0 a1 a2 a3 HOWN5 HBEL5
          generalize w5.heap.size = bx at *
          generalize w5.alloc (.cells #[.slice va vn vc, .bool true, .int .u64 0, .pointer none] 53) = w6 at *
          have hown6 : (w6.alloc (.cells #[.slice va vn vc, .bool true, .int .u64 0, .pointer none] 53)).drew.ownsRow w6.heap.size 53 4 (.slice (some ⟨w6.heap.size, 0, none⟩) 1 1) 1 (vcells [⟨va, vn, vc, true, 0⟩]) := ⟨rfl, Or.inr ⟨w6.heap.size, 1, _, rfl, Nat.le_refl _, heap_alloc_new w6 _, Nat.le_refl _, by unfold maxLen; omega, rfl, rfl⟩⟩
          have HGM : Hid (∀ (k : Nat) (v : Ver), M[k]? = some v → Good v.b) := (by
            show ∀ (k : Nat) (v : Ver), M[k]? = some v → Good v.b
            rw [hM]
            intro k v hv
            cases k with
            | zero => simp at hv; subst hv; exact HGB.out
            | succ k => exact HRND.out.good _ v (drop_at (by simpa using hv)))
          have HCL : Hid ((w6.alloc (.cells #[.slice va vn vc, .bool true, .int .u64 0, .pointer none] 53)).drew.heap[Ck]? = some (.cells CA 53 (0, 0))) := HRND.out.clo _ (HBX.out.alloc HBX.out.size _).drew
          have hlen : M.length = 1 + (L.length - (nb + 1)) := by rw [hM]; simp; omega
          have HTK : Hid (vcells M = vcells [⟨va, vn, vc, true, 0⟩] ++ vcells (L.drop (nb + 1))) := (by show vcells M = vcells [⟨va, vn, vc, true, 0⟩] ++ vcells (L.drop (nb + 1)); rw [hM]; exact vcells_app [_] _)
          have HEND : Hid (∀ wz wy, Below w6.heap.size w6 wz → Below wz.heap.size wz wy → wy.ownsRow wd.heap.size 25 1 wv1 (wl X D 0 (k + 1)).length (wl X D 0 (k + 1)) ∧ Below wd.heap.size wd wy) := (fun wz wy hz hb => ⟨own_below (own_below HOWN6.out hz) hb, (HBX.out.trans (hz.mono HBX.out.size)).trans (hb.mono (Nat.le_trans HBX.out.size hz.size))⟩)
          have x1 : IntKind.i64.wrap ((nb : Int) + 1) = (nb : Int) + 1 := by rw [IntKind.wrap_i64]; omega
          have x2 : ((nb : Int) + 1).toNat = nb + 1 := by omega
          have x3 : (0 : Int) ≤ (nb : Int) + 1 := by omega
          have x4 : (nb : Int) + 1 ≤ (L.length : Int) := by omega
          refine weakenThen ?_
          by_cases hc1 : cc = nb + 1
          · subst hc1
            have hnil : L.drop (nb + 1) = [] := List.drop_eq_nil_of_le (by omega)
            rw [hnil] at HTK
            have hm0 : L.length - (nb + 1) = 0 := by omega
            go_region_law (refine step_append_own rfl (.tmp 214) (.tmp 218) 48 rfl w6.heap.size 53 i53 _ 4 48 Yba.underlying48 hi53 hz53 hs53 hb53 rfl (by decide) (.slice (some ⟨w6.heap.size, 0, none⟩) 1 1) 1 (vcells [⟨va, vn, vc, true, 0⟩]) (by first | rfl | simp [Act.eval, Act.put]) hown6 ⟨Ck, 0, none⟩ 0 0 (vcells []) (by first | rfl | simp [Act.eval, Act.put]) rfl (by intro j u hu; simp [vcells] at hu) (vcells_one _) (by unfold maxLen; omega) (by omega) (by simp) ?_; intro v8 w8 hrow8 hg8 hnil8)
            clear x1 x2 x3 x4 hown6 bx0 bx1 bx2 bx3 e1
            have hb8 : Below w6.heap.size w6 w8 := ((Below.refl _ w6).alloc (Nat.le_refl _) _).drew.grown hg8 (by simp) (fun x e => by simp [Value.ownBlock] at e; omega)
            have HB8 : Hid (Below w6.heap.size w6 w8) := hb8
            have HBD : Hid (Below wd.heap.size wd w8) := HBX.out.trans (hb8.mono HBX.out.size)
            obtain ⟨g8, cap8, cur8, hv8, hh8, hl8⟩ : ∃ g8 cap8 cur8, v8 = .slice (some ⟨g8, 0, none⟩) M.length cap8 ∧ w8.heap[g8]? = some (.cells cur8 53 (0, 0)) ∧ Lies cur8 0 M := by
              rcases hrow8.2 with ⟨h, _⟩ | ⟨g', cap', cur, hv, hb, hh, h4, _, hsz, ht⟩
              · exact absurd h (by simpa using hnil8)
              · exact ⟨g', cap', cur, by rw [hv, hlen, hm0], hh, lies_of_take (by rw [HTK.out, hlen, hm0]; exact ht)⟩
            subst hv8
            have HH8 : Hid (w8.heap[g8]? = some (.cells cur8 53 (0, 0))) := hh8
            have HL8 : Hid (Lies cur8 0 M) := hl8
            have r7 := HRND.out.r7 w8 HBD.out
            clear hrow8 hg8 hnil8 hb8 hh8 hl8 hM
            have hl7 : M.length ≤ 6 := by omega
            clear hlen
            simp only [Exit.then]
            go_wp2
            refine weaken (loop6 R V g8 0 cap8 (some ⟨g8, 0, none⟩) M cur8 w8 w8 hl7 (HRND.out.rcd _ HBD.out) (fun _ => ⟨rfl, HH8.out, HL8.out⟩) HGM.out (Below.refl _ _) _ _ _ _ _ _ _ _ _ _ _ _ _ _ _ _ _ _ _ _ _ _ _ _ _ _ _ _ _ _ _ _ _ _ _ _ _ _ _ _ _ _ _ _ _ _ _ _ _ _ _ _ _ _ _ _ _ _ _ _ _ _ _ _ _ _ _ _ _ _ _ _ _ _ _ _ _ _ _ _ _ _ _ _ _ _ _ _ _ _ _ _ _ _ _ _ _ _ _ _ _ _ _ _ _ _ _ _ _ _ _ _ _ _ _ _ _ _ _ _ _ _ _ _ _ _ _ _ _ _ _ _ _ _ _ _ _ _ _ _ _ _ _ _ _ _ _ _ _ _ _ _ _ _ _ _ _ _ _ _ _ _ _ _ _ _ _ _ _ _ _ _ _ _ _ _ _ _ _ _ _ _ _ _ _ _ _ _ _ _ _ _ _ _ _ _ _ _ _ _ _ _ _ _ _ _ _ _ _ _ _ _ _ _ _ _ _ _ _ _ _ _ _ _ _ _ _ _ _ _ _ _ _ _ _ _ _ _ _ _ _ _ _ _ _ _ _ _ _ _ _ _ _ _ _ _ _ _ _ _ _ _ _ _ _ _ _ _ _ _ _ _ _ _ _ _ _ _ _ _ _ _ _ _ _ _ _ _ _ ?_)
            intro y6 y28 y235 y236 y237 y238 y239 y240 y241 y242 y243 y244 y245 y246 y247 y248 y249 y250 wy hb
            have HE := HEND.out w8 wy HB8.out hb
            clear hb
            simp only [Exit.inBlock, Exit.then]
            go_wp2
            go_roundw
            case rel => exact ⟨k + 1, by omega, by go_num, HE⟩
            case measure => simp [intOf]; omega
          · have hvl : (vcells (L.drop (nb + 1))).length = (L.length - (nb + 1)) * 4 := by rw [vcells_len, List.length_drop]
            have HNW : Hid (∀ j u, (vcells (L.drop (nb + 1)))[j]? = some u → (w6.alloc (.cells #[.slice va vn vc, .bool true, .int .u64 0, .pointer none] 53)).drew.cell? ((⟨Ck, (nb + 1) * 4, none⟩ : Addr).add j) = some u) := (fun j u hu => by
              rw [Addr.add_lit, cell_blk HCL.out]
              exact HVC.out j u hu)
            go_region_law (refine step_append_own rfl (.tmp 214) (.tmp 218) 48 rfl w6.heap.size 53 i53 _ 4 48 Yba.underlying48 hi53 hz53 hs53 hb53 rfl (by decide) (.slice (some ⟨w6.heap.size, 0, none⟩) 1 1) 1 (vcells [⟨va, vn, vc, true, 0⟩]) (by first | rfl | simp [Act.eval, Act.put]) hown6 ⟨Ck, (nb + 1) * 4, none⟩ (L.length - (nb + 1)) (cc - (nb + 1)) (vcells (L.drop (nb + 1))) (by first | rfl | simp [Act.eval, Act.put]) hvl HNW.out (vcells_one _) (by unfold maxLen; omega) (by omega) (by simp) ?_; intro v8 w8 hrow8 hg8 hnil8)
            clear x1 x2 x3 x4 hown6 bx0 bx1 bx2 bx3 e1
            have hb8 : Below w6.heap.size w6 w8 := ((Below.refl _ w6).alloc (Nat.le_refl _) _).drew.grown hg8 (by simp) (fun x e => by simp [Value.ownBlock] at e; omega)
            have HB8 : Hid (Below w6.heap.size w6 w8) := hb8
            have HBD : Hid (Below wd.heap.size wd w8) := HBX.out.trans (hb8.mono HBX.out.size)
            obtain ⟨g8, cap8, cur8, hv8, hh8, hl8⟩ : ∃ g8 cap8 cur8, v8 = .slice (some ⟨g8, 0, none⟩) M.length cap8 ∧ w8.heap[g8]? = some (.cells cur8 53 (0, 0)) ∧ Lies cur8 0 M := by
              rcases hrow8.2 with ⟨h, _⟩ | ⟨g', cap', cur, hv, hb, hh, h4, _, hsz, ht⟩
              · exact absurd h (by simpa using hnil8)
              · exact ⟨g', cap', cur, by rw [hv, hlen], hh, lies_of_take (by rw [HTK.out, hlen]; exact ht)⟩
            subst hv8
            have HH8 : Hid (w8.heap[g8]? = some (.cells cur8 53 (0, 0))) := hh8
            have HL8 : Hid (Lies cur8 0 M) := hl8
            have r7 := HRND.out.r7 w8 HBD.out
            clear hrow8 hg8 hnil8 hb8 hh8 hl8 hM
            have hl7 : M.length ≤ 6 := by omega
            clear hlen
            simp only [Exit.then]
            go_wp2
            refine weaken (loop6 R V g8 0 cap8 (some ⟨g8, 0, none⟩) M cur8 w8 w8 hl7 (HRND.out.rcd _ HBD.out) (fun _ => ⟨rfl, HH8.out, HL8.out⟩) HGM.out (Below.refl _ _) _ _ _ _ _ _ _ _ _ _ _ _ _ _ _ _ _ _ _ _ _ _ _ _ _ _ _ _ _ _ _ _ _ _ _ _ _ _ _ _ _ _ _ _ _ _ _ _ _ _ _ _ _ _ _ _ _ _ _ _ _ _ _ _ _ _ _ _ _ _ _ _ _ _ _ _ _ _ _ _ _ _ _ _ _ _ _ _ _ _ _ _ _ _ _ _ _ _ _ _ _ _ _ _ _ _ _ _ _ _ _ _ _ _ _ _ _ _ _ _ _ _ _ _ _ _ _ _ _ _ _ _ _ _ _ _ _ _ _ _ _ _ _ _ _ _ _ _ _ _ _ _ _ _ _ _ _ _ _ _ _ _ _ _ _ _ _ _ _ _ _ _ _ _ _ _ _ _ _ _ _ _ _ _ _ _ _ _ _ _ _ _ _ _ _ _ _ _ _ _ _ _ _ _ _ _ _ _ _ _ _ _ _ _ _ _ _ _ _ _ _ _ _ _ _ _ _ _ _ _ _ _ _ _ _ _ _ _ _ _ _ _ _ _ _ _ _ _ _ _ _ _ _ _ _ _ _ _ _ _ _ _ _ _ _ _ _ _ _ _ _ _ _ _ _ _ _ _ _ _ _ _ _ _ _ _ _ _ _ ?_)
            intro y6 y28 y235 y236 y237 y238 y239 y240 y241 y242 y243 y244 y245 y246 y247 y248 y249 y250 wy hb
            have HE := HEND.out w8 wy HB8.out hb
            clear hb
            simp only [Exit.inBlock, Exit.then]
            go_wp2
            go_roundw
            case rel => exact ⟨k + 1, by omega, by go_num, HE⟩
            case measure => simp [intOf]; omega
    · obtain rfl : k = n := by omega
      clear hown hbel
      go_wp2
      exact HK.out _ _ _ _ _ _ _ _ _ _ _ _ _ _ _ _ _ _ _ _ _ _ _ _ _ _ _ _ _ _ _ _ _ _ _ _ _ _ _ _ _ _ _ _ _ _ _ _ _ _ _ _ _ _ _ _ _ _ _ _ _ _ _ _ _ _ _ _ _ _ _ _ _ _ _ _ _ _ _ _ _ _ _ _ _ _ _ _ _ _ _ _ _ _ _ _ _ _ _ _ _ _ _ _ u20 wx HOWN.out HBEL.out
end Go.Proofs.Ybulkavym
