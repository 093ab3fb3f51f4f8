import Derived.Test.YbulkavymSt
import Derived.Test.YbulkavymSu
namespace Go.Proofs.Ybulkavym
open Go.RowKit
set_option linter.unusedVariables false
set_option linter.unusedSimpArgs false

/-- What the last loop is told. -/
structure Fin (w : World) (N gw : Nat) (wta : Option Addr) (wtc : Nat) (w4 : World) : Prop where
  n77 : w4.cell? ⟨w.heap.size, 77, none⟩ = some (.int .i64 (if N ≤ 64 then (N : Int) else 64))
  hj : ∀ j, j < N → j < 64 → ∃ c s : Nat, 0 < s ∧ s ≤ 2 ∧ j < N ∧ wta = some ⟨gw, 0, none⟩ ∧ w4.cell? ⟨w.heap.size, 13 + j, none⟩ = some (.slice (some ⟨c, 0, none⟩) s s) ∧ w4.cell? ⟨gw, j, none⟩ = some (.slice (some ⟨c, 0, none⟩) s s)
theorem Done.fin {w : World} {n : Nat} {rule id : Int} {D : Nat → RD} {X : Sys} {C : Nat → Nat} {wv : Value} {wd w4 : World} {wv1 : Value} (h : Done w n rule id D X C wv wd) (hn : n ≤ 300) (ho : w4.ownsRow wd.heap.size 25 1 wv1 (wl X D rule n).length (wl X D rule n)) (hb : Below wd.heap.size wd w4) :
    ∃ N gw wta wtc, N ≤ 900 ∧ wv1 = .slice wta N wtc ∧ Fin w N gw wta wtc w4 ∧ w.heap.size < w4.heap.size := by
  obtain ⟨⟨WA, hWA, a1, a2, a6, a77, a78, a13⟩, hl64⟩ := h.wbk
  have hlt := lt_heap hWA
  have hW4 : w4.heap[w.heap.size]? = some (.cells WA 44 (0, 0)) := (hb.block _ hlt).trans hWA
  have hlen := wl_len rule X D n
  have hgood := wl_good X D rule id n h.shp n (Nat.le_refl _)
  have h77 : w4.cell? ⟨w.heap.size, 77, none⟩ = some (.int .i64 (if (wl X D rule n).length ≤ 64 then ((wl X D rule n).length : Int) else 64)) := by
    rw [cell_blk hW4 77, a77, List.length_take]
    congr 2
    split <;> omega
  rcases ho.2 with ⟨e1, e2⟩ | ⟨g, cap, cu, e1, hge, hh, _, _, _, ht⟩
  · refine ⟨_, 0, none, 0, by omega, by rw [e1, e2], ⟨h77, fun j hj => by omega⟩, by have := hb.size; omega⟩
  · refine ⟨_, g, _, cap, by omega, e1, ⟨h77, fun j hj hj6 => ?_⟩, by have := hb.size; omega⟩
    obtain ⟨u, hu⟩ := at_some (wl X D rule n) hj
    obtain ⟨c, s, h1, h2, rfl⟩ := hgood u (List.mem_of_getElem? hu)
    refine ⟨c, s, h1, h2, hj, rfl, ?_, ?_⟩
    · rw [cell_blk hW4, a13 j (by rw [List.length_take]; omega), List.getElem?_take, if_pos hj6]
      exact hu
    · rw [cell_blk hh]
      have h3 := hu
      rw [← ht, List.getElem?_take, if_pos (by omega)] at h3
      simpa using h3

set_option maxRecDepth 1000000 in
set_option maxHeartbeats 4000000 in
theorem main_walk (ix rs : Int) (ao : Option Addr) (rb ro n cap0 : Nat) (D : Nat → RD) (w : World) (h1 : 0 ≤ ix) (h2 : ix ≤ 65535) (h3 : 0 ≤ rs) (h4 : rs ≤ 255) (hn : n ≤ 300) (hao : 0 < n → ao = some ⟨rb, ro, none⟩)
    (hc : ∀ i, i < n → w.cell? ⟨rb, ro + i * 4, none⟩ = some (.int .u8 (D i).b) ∧ w.cell? ⟨rb, ro + i * 4 + 1, none⟩ = some (.int .u8 (D i).a) ∧ w.cell? ⟨rb, ro + i * 4 + 2, none⟩ = some (.bool (D i).h) ∧ w.cell? ⟨rb, ro + i * 4 + 3, none⟩ = some (.bool (D i).p))
    (hd : ∀ i, i < n → 0 ≤ (D i).b ∧ (D i).b ≤ 255 ∧ 0 ≤ (D i).a ∧ (D i).a ≤ 255) :
    Calls Yba.prog 5 #[.int .u16 ix, .int .u8 rs, .slice ao n cap0] w fun e w' => e = .returned (.bool true) ∧ Below w.heap.size w w' := by
  obtain ⟨i48, hi48, hz48, hs48, hb48⟩ := info_parts info48
  have d1 : decide ((300 : Int) < (n : Int)) = false := by simp; omega
  have d1' : decide (300 < n) = false := by simp; omega
  have HC : Hid (∀ i, i < n → w.cell? ⟨rb, ro + i * 4, none⟩ = some (.int .u8 (D i).b) ∧ w.cell? ⟨rb, ro + i * 4 + 1, none⟩ = some (.int .u8 (D i).a) ∧ w.cell? ⟨rb, ro + i * 4 + 2, none⟩ = some (.bool (D i).h) ∧ w.cell? ⟨rb, ro + i * 4 + 3, none⟩ = some (.bool (D i).p)) := hc
  have HD : Hid (∀ i, i < n → 0 ≤ (D i).b ∧ (D i).b ≤ 255 ∧ 0 ≤ (D i).a ∧ (D i).a ≤ 255) := hd
  have HAO : Hid (0 < n → ao = some ⟨rb, ro, none⟩) := hao
  obtain ⟨Z44, hz44, hs44, hz6, hz77⟩ := zero44
  have hx44 : ((Z44.setIfInBounds 1 (.int .u8 (rs % 4))).setIfInBounds 2 (.int .u64 (ix + 1))).size = 78 := by simp [hs44]
  clear hc hd hao
  go_enter Yba.func5, Yba.ntmps5
  go_wp2_with (first | (at_make; refine wpList_make_full _ rfl _ _ 45 rfl (w.heap.size + 1) 48 i48 (.slice none 0 0) 1 Yba.underlying45 hi48 hz48 hs48 .i64 .i64 _ _ n rfl rfl rfl rfl (by rw [hb48]; omega) (by unfold maxLen; omega) (by simp) ?_; intro w1 hown hg))
  have hM0 : Made w n (rs % 4) (ix + 1) D ⟨0, fun _ => 0, fun _ => 0, fun _ => [], fun _ => 0⟩ (fun _ => 0) (.slice none 0 0) w1 := by
    have e0 : w1.heap[w.heap.size]? = some (.cells ((Z44.setIfInBounds 1 (.int .u8 (rs % 4))).setIfInBounds 2 (.int .u64 (ix + 1))) 44 (0, 0)) := (hg.block w.heap.size (by simp) (by simp)).trans (heap_alloc_new w _)
    have hB : Below w.heap.size w w1 := ((Below.refl _ w).alloc (Nat.le_refl _) _).grown hg (by simp) (fun k h => by cases h)
    obtain ⟨cur, hcur, hsz, _, _, _⟩ := own_row hown
    simp only [World.size_alloc] at hcur
    refine ⟨hB, ⟨⟨_, e0, ?_, ?_, ?_, ?_, hx44, fun j hj => by simp at hj⟩, by simp⟩, ⟨rfl, Or.inl ⟨rfl, rfl⟩⟩, ⟨cur, hcur, by omega, fun i hi => absurd hi (Nat.not_lt_zero _)⟩, fun i hi => absurd hi (Nat.not_lt_zero _), fun i hi => absurd hi (Nat.not_lt_zero _), fun i hi => absurd hi (Nat.not_lt_zero _), fun i j hi => absurd hi (Nat.not_lt_zero _), fun i j hi => absurd hi (Nat.not_lt_zero _), fun i j hi => absurd hi (Nat.not_lt_zero _), fun i hi => absurd hi (Nat.not_lt_zero _)⟩
    · rw [Array.getElem?_setIfInBounds_ne (by omega), Array.getElem?_setIfInBounds_self_of_lt (by omega)]
    · rw [Array.getElem?_setIfInBounds_self_of_lt (by simp; omega)]
    · rw [Array.getElem?_setIfInBounds_ne (by omega), Array.getElem?_setIfInBounds_ne (by omega)]; exact hz6
    · rw [Array.getElem?_setIfInBounds_ne (by omega), Array.getElem?_setIfInBounds_ne (by omega)]; exact hz77
  have HM0 : Hid (Made w n (rs % 4) (ix + 1) D ⟨0, fun _ => 0, fun _ => 0, fun _ => [], fun _ => 0⟩ (fun _ => 0) (.slice none 0 0) w1) := hM0
  clear hM0 hown hg hz44 hs44 hz6 hz77 hx44
  refine loop1 ix rs ao rb ro n cap0 D w h1 h2 h3 h4 hn HAO.out HC.out HD.out w1 HM0.out _ _ _ _ _ _ _ _ _ _ _ _ _ _ _ _ _ _ _ _ _ _ _ _ _ _ _ _ _ _ _ _ _ _ _ _ _ _ _ _ _ _ _ _ _ _ _ _ _ _ _ _ _ _ _ _ _ _ _ _ _ _ _ _ _ _ _ _ _ _ _ _ _ _ _ _ _ _ _ _ _ _ _ _ _ _ _ _ _ _ _ _ _ _ _ _ _ _ _ _ _ _ _ _ _ _ _ _ _ _ _ _ _ _ _ _ _ _ _ _ _ _ _ _ _ _ _ _ _ _ _ _ _ _ _ _ _ _ _ _ _ _ _ _ _ _ _ _ _ _ _ _ _ _ _ _ _ _ _ _ _ _ _ _ _ _ _ _ _ _ _ _ _ _ _ _ _ _ _ _ _ _ _ _ _ _ _ _ _ _ _ _ _ _ _ _ _ _ _ _ _ _ _ _ _ _ _ _ _ _ _ _ _ _ _ _ _ _ _ _ _ _ _ _ _ _ _ _ _ _ _ _ _ _ _ _ _ _ _ _ _ _ _ _ _ _ _ _ _ _ _ _ _ _ _ _ _ _ _ _ _ _ _ _ _ _ _ _ _ _ _ _ _ _ _ _ _ _ _ _ _ _ _ _ _ _ _ _ ?_
  intro p11 p12 p13 p14 p15 p16 p17 p18 p19 p50 p51 p52 p53 p54 p55 p56 p57 p58 p59 p60 p61 p62 p63 p64 p65 p66 p67 p68 p69 p70 p71 p72 p73 p74 p75 p76 p77 p78 p79 p80 p81 p82 p83 p84 p85 p86 p87 p88 p89 p90 p91 p92 p93 p94 p95 p96 p97 p98 p99 p100 p101 p102 p103 p104 p105 p106 p107 p108 p109 p110 p111 p112 p113 p114 p115 p116 p117 p118 p119 p120 p121 p122 p123 p124 p125 p126 p127 p128 p129 p130 p131 p132 p133 p134 p135 p136 p137 p138 p139 p140 p141 p142 p143 p144 p145 p146 p147 p148 X C wv w2 hXK hm
  have hcm := commit_all hm hXK hn
  clear hm HM0
  go_wp2_with fail
  refine hcm.mono ?_
  rintro e w3 ⟨rfl, hdn⟩
  clear hcm
  obtain ⟨wa, wc, rfl, hgp⟩ := hdn.row
  have HDN : Hid (Done w n (rs % 4) (ix + 1) D X C (.slice wa n wc) w3) := hdn
  obtain ⟨⟨WA, hWA, a1, a2, a6, a77, a78, a13⟩, hl64⟩ := hdn.wbk
  have b6 : w3.cell? ⟨w.heap.size, 6, none⟩ = some (.slice wa n wc) := (cell_blk hWA 6).trans a6
  clear hWA a1 a2 a6 a77 a78 a13 hl64 hgp hdn
  go_wp2
  refine loop4 (rs % 4) (ix + 1) ao wa rb ro n cap0 wc D X C w w3 hn HAO.out HC.out HD.out HDN.out _ _ _ _ _ _ _ _ _ _ _ _ _ _ _ _ _ _ _ _ _ _ _ _ _ _ _ _ _ _ _ _ _ _ _ _ _ _ _ _ _ _ _ _ _ _ _ _ _ _ _ _ _ _ _ _ _ _ _ _ _ _ _ _ _ _ _ _ _ _ _ _ _ _ _ _ _ _ _ _ _ _ _ _ _ _ _ _ _ _ _ _ _ _ _ _ _ _ _ _ _ _ _ _ _ _ _ _ _ _ _ _ _ _ _ _ _ _ _ _ _ _ _ _ _ _ _ _ _ _ _ _ _ _ _ _ _ _ _ _ _ _ _ _ _ _ _ _ _ _ _ _ _ _ _ _ _ _ _ _ _ _ _ _ _ _ _ _ _ _ _ _ _ _ _ _ _ _ _ _ _ _ _ _ _ _ _ _ _ _ _ _ _ _ _ _ _ _ _ _ _ _ _ _ _ _ _ _ _ _ _ _ _ _ _ _ _ _ _ _ _ _ _ _ _ _ _ _ _ _ _ _ _ _ _ _ _ _ _ _ _ _ _ _ _ _ _ _ _ _ _ _ _ _ _ _ _ _ _ _ _ _ _ _ _ _ _ _ _ _ _ _ _ _ _ _ _ _ _ _ _ _ _ _ _ _ _ ?_
  intro q6 q21 q22 q23 q24 q25 q26 q27 q28 q157 q158 q159 q160 q161 q162 q163 q164 q165 q166 q167 q168 q169 q170 q171 q172 q173 q174 q175 q176 q177 q178 q179 q180 q181 q182 q183 q184 q185 q186 q187 q188 q189 q190 q191 q192 q193 q194 q195 q196 q197 q198 q199 q200 q201 q202 q203 q204 q205 q206 q207 q208 q209 q210 q211 q212 q213 q214 q215 q216 q217 q218 q219 q220 q221 q222 q223 q224 q225 q226 q227 q228 q229 q230 q231 q232 q233 q234 q235 q236 q237 q238 q239 q240 q241 q242 q243 q244 q245 q246 q247 q248 q249 q250 q251 wv1 w4 hown4 hbel4
  have HBW : Hid (Below w.heap.size w w4) := HDN.out.bel.trans (hbel4.mono HDN.out.bel.size)
  obtain ⟨N, gw, wta, wtc, hN, rfl, hfin, hwb⟩ := HDN.out.fin hn hown4 hbel4
  have HFIN : Hid (Fin w N gw wta wtc w4) := hfin
  have HWB : Hid (w.heap.size < w4.heap.size) := hwb
  have b77 := hfin.n77
  clear hown4 hbel4 b6 hfin hwb
  by_cases h64 : N ≤ 64
  · rw [if_pos h64] at b77
    have HJ : Hid (∀ j, j < N → ∃ c s : Nat, 0 < s ∧ s ≤ 2 ∧ j < N ∧ wta = some ⟨gw, 0, none⟩ ∧ w4.cell? ⟨w.heap.size, 13 + j, none⟩ = some (.slice (some ⟨c, 0, none⟩) s s) ∧ w4.cell? ⟨gw, j, none⟩ = some (.slice (some ⟨c, 0, none⟩) s s)) := (fun j hj => HFIN.out.hj j hj (by omega))
    · skip
      go_wp2
      refine loop7 w.heap.size gw N N wtc wta w4 w4 (by omega) (by omega) HJ.out (Below.refl _ _) HWB.out _ _ _ _ _ _ _ _ _ _ _ _ _ _ _ _ _ _ _ _ _ _ _ _ _ _ _ _ _ _ _ _ _ _ _ _ _ _ _ _ _ _ _ _ _ _ _ _ _ _ _ _ _ _ _ _ _ _ _ _ _ _ _ _ _ _ _ _ _ _ _ _ _ _ _ _ _ _ _ _ _ _ _ _ _ _ _ _ _ _ _ _ _ _ _ _ _ _ _ _ _ _ _ _ _ _ _ _ _ _ _ _ _ _ _ _ _ _ _ _ _ _ _ _ _ _ _ _ _ _ _ _ _ _ _ _ _ _ _ _ _ _ _ _ _ _ _ _ _ _ _ _ _ _ _ _ _ _ _ _ _ _ _ _ _ _ _ _ _ _ _ _ _ _ _ _ _ _ _ _ _ _ _ _ _ _ _ _ _ _ _ _ _ _ _ _ _ _ _ _ _ _ _ _ _ _ _ _ _ _ _ _ _ _ _ _ _ _ _ _ _ _ _ _ _ _ _ _ _ _ _ _ _ _ _ _ _ _ _ _ _ _ _ _ _ _ _ _ _ _ _ _ _ _ _ _ _ _ _ _ _ _ _ _ _ _ _ _ _ _ _ _ _ _ _ _ _ _ _ _ _ _ _ _ _ _ _ _ _ _ ?_
      intro s6 s31 s262 s263 s264 s265 s266 s267 s268 s269 s270 s271 s272 s273 s274 s275 s276 s277 s278 s279 s280 s281 s282 s283 s284 s285 s286 s287 s288 s289 s290 s291 w5 hb5
      have HB5 : Hid (Below w.heap.size w w5) := HBW.out.trans (hb5.mono HBW.out.size)
      clear hb5
      go_wp2
      go_ret
      exact ⟨rfl, HB5.out⟩
  · rw [if_neg h64] at b77
    have HJ : Hid (∀ j, j < 64 → ∃ c s : Nat, 0 < s ∧ s ≤ 2 ∧ j < N ∧ wta = some ⟨gw, 0, none⟩ ∧ w4.cell? ⟨w.heap.size, 13 + j, none⟩ = some (.slice (some ⟨c, 0, none⟩) s s) ∧ w4.cell? ⟨gw, j, none⟩ = some (.slice (some ⟨c, 0, none⟩) s s)) := (fun j hj => HFIN.out.hj j (by omega) hj)
    · skip
      go_wp2
      refine loop7 w.heap.size gw N 64 wtc wta w4 w4 (by omega) (by omega) HJ.out (Below.refl _ _) HWB.out _ _ _ _ _ _ _ _ _ _ _ _ _ _ _ _ _ _ _ _ _ _ _ _ _ _ _ _ _ _ _ _ _ _ _ _ _ _ _ _ _ _ _ _ _ _ _ _ _ _ _ _ _ _ _ _ _ _ _ _ _ _ _ _ _ _ _ _ _ _ _ _ _ _ _ _ _ _ _ _ _ _ _ _ _ _ _ _ _ _ _ _ _ _ _ _ _ _ _ _ _ _ _ _ _ _ _ _ _ _ _ _ _ _ _ _ _ _ _ _ _ _ _ _ _ _ _ _ _ _ _ _ _ _ _ _ _ _ _ _ _ _ _ _ _ _ _ _ _ _ _ _ _ _ _ _ _ _ _ _ _ _ _ _ _ _ _ _ _ _ _ _ _ _ _ _ _ _ _ _ _ _ _ _ _ _ _ _ _ _ _ _ _ _ _ _ _ _ _ _ _ _ _ _ _ _ _ _ _ _ _ _ _ _ _ _ _ _ _ _ _ _ _ _ _ _ _ _ _ _ _ _ _ _ _ _ _ _ _ _ _ _ _ _ _ _ _ _ _ _ _ _ _ _ _ _ _ _ _ _ _ _ _ _ _ _ _ _ _ _ _ _ _ _ _ _ _ _ _ _ _ _ _ _ _ _ _ _ _ _ ?_
      intro s6 s31 s262 s263 s264 s265 s266 s267 s268 s269 s270 s271 s272 s273 s274 s275 s276 s277 s278 s279 s280 s281 s282 s283 s284 s285 s286 s287 s288 s289 s290 s291 w5 hb5
      have HB5 : Hid (Below w.heap.size w w5) := HBW.out.trans (hb5.mono HBW.out.size)
      clear hb5
      go_wp2
      go_ret
      exact ⟨rfl, HB5.out⟩
end Go.Proofs.Ybulkavym
