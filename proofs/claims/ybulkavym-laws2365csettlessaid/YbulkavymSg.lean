import Derived.Test.YbulkavymSf
namespace Go.Proofs.Ybulkavym
open Go.RowKit
set_option linter.unusedVariables false
set_option linter.unusedSimpArgs false

set_option maxRecDepth 100000 in
set_option maxHeartbeats 2000000 in
theorem settle_gen (wb R V cap : Nat) (m id : Int) (wv : Value) (sp : List Value) (L : List Ver) (A : Array Value) (w : World) (hW : WB wb 0 id wv sp w) (hR : RB R (.slice (some ⟨V, 0, none⟩) L.length cap) m w) (hV : w.heap[V]? = some (.cells A 53 (0, 0))) (hA : Lies A 0 L) (hsz : cap * 4 ≤ A.size) (hn : L.length ≤ cap) (hc : cap ≤ 6) (i : Nat) (hi : ∀ k v, L[k]? = some v → (v.w = id ↔ k = i)) (b : Ver) (hb : L[i]? = some b) (hno : ¬ (L.length = 2 ∧ i = 1)) (hg : ∀ (k : Nat) (v : Ver), L[k]? = some v → Good v.b) :
    Calls Yba.prog 14 #[.pointer (some ⟨R, 0, none⟩), .pointer (some ⟨wb, 0, none⟩)] w fun e w' => e = .returned (.tuple #[]) ∧ Rec R V m (if b.p = true then { b with w := 0 } :: L.drop (i + 1) else L.drop (i + 1)) w' ∧ WB wb 0 id wv ((L.take i).foldl (fun s (v : Ver) => giv s v.b) sp) w' ∧ Turns (fun k => k = R ∨ k = V ∨ k = wb) w w' := by
  have hil := at_lt hb
  have hne : R ≠ V := by obtain ⟨⟨B, hB, _⟩⟩ := hR; exact ne_tag hB hV (by decide)
  have hnw : R ≠ wb := by obtain ⟨⟨B, hB, _⟩⟩ := hR; obtain ⟨⟨C, hC, _⟩, _⟩ := hW; exact ne_tag hB hC (by decide)
  have hvw : V ≠ wb := by obtain ⟨⟨C, hC, _⟩, _⟩ := hW; exact ne_tag hV hC (by decide)
  have hne2 : V ≠ R := fun h => hne h.symm
  have hf := find_any R V 0 cap L A id i m w.drew ⟨hR.1⟩ hV hA hi (by omega)
  rw [if_pos hil] at hf
  have HK : Hid (∀ w1, Turns (fun k => k = wb) w w1 → RB R (.slice (some ⟨V, 0, none⟩) L.length cap) m w1 ∧ w1.heap[V]? = some (.cells A 53 (0, 0))) := fun w1 ht => ⟨hR.keep ht hnw, ht.keep hV hvw⟩
  have HSP : Hid (∀ q v, L[q]? = some v → giv ((L.take q).foldl (fun s (v : Ver) => giv s v.b) sp) v.b = (L.take (q + 1)).foldl (fun s (v : Ver) => giv s v.b) sp) := by
    intro q v h
    rw [List.take_add_one, h]
    simp
  have HA : Hid (Lies A 0 L) := hA
  have HG : Hid (∀ (k : Nat) (v : Ver), L[k]? = some v → Good v.b) := hg
  have HAT : Hid (∀ k, k < L.length → ∃ v, L[k]? = some v) := fun k h => at_some L h
  have HW : Hid (WB wb 0 id wv sp w) := hW
  have HCUT : Hid (∀ w1, w1.heap[V]? = some (.cells A 53 (0, 0)) → Calls Yba.prog 19 #[.slice (some ⟨V, 0, none⟩) L.length cap, .int .i64 0, .int .i64 i] w1 fun e w' => ∃ o' cap' A', e = .returned (.slice (some ⟨V, o', none⟩) (L.length - i) cap') ∧ w'.heap[V]? = some (.cells A' 53 (0, 0)) ∧ Lies A' o' (b :: L.drop (i + 1)) ∧ o' + cap' * 4 ≤ A'.size ∧ L.length - i ≤ cap' ∧ cap' ≤ 6 ∧ Turns (fun k => k = V) w1 w') := by
    intro w1 h1
    have := cut_any V 0 cap i L A w1 h1 hA (by omega) hn hc (by omega)
    have e : L.drop i = b :: L.drop (i + 1) := by
      rw [List.drop_eq_getElem_cons hil]
      congr 1
      rw [List.getElem?_eq_getElem hil] at hb
      cases hb
      rfl
    rwa [e] at this
  have HLD : Hid ((b :: L.drop (i + 1)).length = L.length - i) := by show (b :: L.drop (i + 1)).length = L.length - i; simp; omega
  obtain ⟨⟨B, hB, _, h7⟩⟩ := hR
  have hc7 : w.cell? ⟨R, 7, none⟩ = some (.slice (some ⟨V, 0, none⟩) L.length cap) := (cell_blk hB 7).trans h7
  obtain ⟨⟨C, hC, _, h2, _⟩, _⟩ := hW
  have hw2 : w.cell? ⟨wb, 2, none⟩ = some (.int .u64 id) := (cell_blk hC 2).trans h2
  obtain ⟨M, hM⟩ : ∃ M, M = (if b.p = true then { b with w := 0 } :: L.drop (i + 1) else L.drop (i + 1)) := ⟨_, rfl⟩
  rw [← hM]
  have HM : Hid (M = (if b.p = true then { b with w := 0 } :: L.drop (i + 1) else L.drop (i + 1))) := hM
  by_cases hl : L.length = 2
  · have d2 : ((L.length : Int) == 2) = true := by simp; omega
    have h1n : 1 < L.length := by omega
    obtain ⟨v1, hv1⟩ := at_some L (k := 1) (by omega)
    have e2 : w.cell? ⟨V, 6, none⟩ = some (.int .u64 v1.w) := (VerAt.cells (hA 1 v1 hv1) hV).c2
    have q1 : (v1.w == id) = false := by
      have : ¬ v1.w = id := fun h => by have := (hi 1 v1 hv1).1 h; omega
      simpa using this
    clear hl hv1
    generalize v1.w = x1 at *
    generalize hT : L.drop (i + 1) = T at *
    generalize hN : L.length = n at *
    generalize hF : (L.take i).foldl (fun s (v : Ver) => giv s v.b) sp = SP at *
    have HFF : Hid ((L.take i).foldl (fun s (v : Ver) => giv s v.b) sp = SP) := hF
    clear hB h7 hC h2 hV hA hi hM hg hb hF hT hN
    go_enter Yba.func14, Yba.ntmps14
    go_wp2
    go_region
    all_goals (go_wp2_with fail)
    refine hf.mono ?_
    rintro e w' ⟨rfl, rfl⟩
    go_wp2
    go_loopw [54] (fun p wr => ∃ q : Nat, q ≤ i ∧ p = .int .i64 q ∧ Turns (fun k => k = wb) w wr ∧ WB wb 0 id wv ((L.take q).foldl (fun s (v : Ver) => giv s v.b) sp) wr) (fun p _ => i - (intOf p).toNat)
    case atStart => exact ⟨0, Nat.zero_le _, rfl, (Turns.refl _ _).drew, ⟨HW.out.1, HW.out.2⟩⟩
    case round =>
      obtain ⟨q, hq, rfl, ht, hwb⟩ := hrel
      have HT : Hid (Turns (fun k => k = wb) w wr) := ht
      obtain ⟨hR1, hV1⟩ := HK.out wr ht
      by_cases hlt : q < i
      · obtain ⟨v, hv⟩ := HAT.out q (by omega)
        have hd := drop_any wb id wv _ v.b (HG.out q v hv) wr hwb
        have c0 := (VerAt.cells (HA.out q v hv) hV1).c0
        simp only [Nat.zero_add] at c0
        have HS := HSP.out q v hv
        rw [HS] at hd
        clear hR1 hV1 hwb ht hv HS
        obtain ⟨va, vn, vc, vp, vw⟩ := v
        go_wp2_with fail
        refine hd.mono ?_
        rintro e w1 ⟨rfl, hw1, ht1⟩
        go_wp2
        go_roundw
        case rel => exact ⟨q + 1, by omega, by go_num, HT.out.trans ht1, hw1⟩
        case measure => simp [intOf]; omega
      · obtain rfl : q = i := by omega
        have HWB : Hid (WB wb 0 id wv SP wr) := by have := hwb; rw [HFF.out] at this; exact this
        have hcut := HCUT.out wr hV1
        have HR1 : Hid (RB R (.slice (some ⟨V, 0, none⟩) n cap) m wr) := hR1
        clear hwb hR1 hV1 ht
        go_wp2_with fail
        refine hcut.mono ?_
        rintro e w2 ⟨o', cap', A', rfl, g1, g2, g3, g4, g5, g6⟩
        have hpos : 0 < n - q := by omega
        have hR2 := HR1.out.keep g6 hne
        have HREC : Hid (Rec R V m ({ b with w := 0 } :: T) ((w2.setCell ⟨R, 7, none⟩ (.slice (some ⟨V, o', none⟩) (n - q) cap')).setCell ⟨V, o' + 2, none⟩ (.int .u64 0)) ∧ Turns (fun k => k = R ∨ k = V) wr ((w2.setCell ⟨R, 7, none⟩ (.slice (some ⟨V, o', none⟩) (n - q) cap')).setCell ⟨V, o' + 2, none⟩ (.int .u64 0))) := by
          refine ⟨Rec.putw (v := b) (T := T) (n := n - q) (o := o') (hR2.set _) ((Below.heap_setCell _ _ _ _ hne2).trans g1) g2 hne g3 g4 g5 HLD.out, ?_⟩
          exact Turns.setCell (S := fun k => k = R ∨ k = V) (p := ⟨V, o' + 2, none⟩) (Turns.setCell (S := fun k => k = R ∨ k = V) (p := ⟨R, 7, none⟩) (g6.mono (fun k e => Or.inr e)) (Or.inl rfl) _) (Or.inr rfl) _
        have HT0 : Hid (∀ W5 W6, Turns (fun k => k = R ∨ k = V) wr W5 → Turns (fun k => k = R ∨ k = V) W5 W6 → WB wb 0 id wv SP W6 ∧ Turns (fun k => k = R ∨ k = V ∨ k = wb) w W6) := by
          intro W5 W6 h1 h2
          have h3 := h1.trans h2
          refine ⟨HWB.out.keep h3 (fun e => by rcases e with e | e; exact hnw e.symm; exact hvw e.symm), ?_⟩
          exact (HT.out.mono (fun k e => Or.inr (Or.inr e))).trans (h3.mono (fun k e => by rcases e with e | e; exact Or.inl e; exact Or.inr (Or.inl e)))
        obtain ⟨⟨B2, hB2, _, h72⟩⟩ := hR2
        have f7 : w2.cell? ⟨R, 7, none⟩ = some (.slice (some ⟨V, 0, none⟩) n cap) := (cell_blk hB2 7).trans h72
        have fz := frozen_blk hB2
        have vz := frozen_blk g1
        obtain ⟨c0, c1, c2, c3⟩ := VerAt.cells (g2 0 b rfl) g1
        simp only [Nat.zero_mul, Nat.add_zero] at c0 c1 c2 c3
        clear hB2 h72 g1 g2 g6 hcut
        obtain ⟨ba, bn, bc, bp, bw⟩ := b
        simp only at c0 c1 c2
        cases bp
        · have HE : Hid (M = T) := by show M = T; have := HM.out; simpa using this
          go_wp2_with fail
          refine (trim_any R V m _ T _ HREC.out.1 rfl rfl).mono ?_
          rintro e w' ⟨rfl, hr, ht⟩
          have HQ := HT0.out _ _ HREC.out.2 ht
          have HRR : Hid (Rec R V m M w') := by rw [HE.out]; exact hr
          clear hr ht
          go_wp2
          go_end0
          exact ⟨rfl, HRR.out, HQ⟩
        · have HE : Hid (M = ⟨ba, bn, bc, true, 0⟩ :: T) := by show M = _; have := HM.out; simpa using this
          go_wp2
          go_end0
          exact ⟨rfl, by rw [HE.out]; exact HREC.out.1, HT0.out _ _ HREC.out.2 (Turns.refl _ _)⟩
  · have d2 : ((L.length : Int) == 2) = false := by simp; omega
    generalize hT : L.drop (i + 1) = T at *
    generalize hN : L.length = n at *
    generalize hF : (L.take i).foldl (fun s (v : Ver) => giv s v.b) sp = SP at *
    have HFF : Hid ((L.take i).foldl (fun s (v : Ver) => giv s v.b) sp = SP) := hF
    clear hB h7 hC h2 hV hA hi hM hg hb hF hT hN
    go_enter Yba.func14, Yba.ntmps14
    go_wp2
    go_region
    all_goals (go_wp2_with fail)
    refine hf.mono ?_
    rintro e w' ⟨rfl, rfl⟩
    go_wp2
    go_loopw [54] (fun p wr => ∃ q : Nat, q ≤ i ∧ p = .int .i64 q ∧ Turns (fun k => k = wb) w wr ∧ WB wb 0 id wv ((L.take q).foldl (fun s (v : Ver) => giv s v.b) sp) wr) (fun p _ => i - (intOf p).toNat)
    case atStart => exact ⟨0, Nat.zero_le _, rfl, (Turns.refl _ _).drew, ⟨HW.out.1, HW.out.2⟩⟩
    case round =>
      obtain ⟨q, hq, rfl, ht, hwb⟩ := hrel
      have HT : Hid (Turns (fun k => k = wb) w wr) := ht
      obtain ⟨hR1, hV1⟩ := HK.out wr ht
      by_cases hlt : q < i
      · obtain ⟨v, hv⟩ := HAT.out q (by omega)
        have hd := drop_any wb id wv _ v.b (HG.out q v hv) wr hwb
        have c0 := (VerAt.cells (HA.out q v hv) hV1).c0
        simp only [Nat.zero_add] at c0
        have HS := HSP.out q v hv
        rw [HS] at hd
        clear hR1 hV1 hwb ht hv HS
        obtain ⟨va, vn, vc, vp, vw⟩ := v
        go_wp2_with fail
        refine hd.mono ?_
        rintro e w1 ⟨rfl, hw1, ht1⟩
        go_wp2
        go_roundw
        case rel => exact ⟨q + 1, by omega, by go_num, HT.out.trans ht1, hw1⟩
        case measure => simp [intOf]; omega
      · obtain rfl : q = i := by omega
        have HWB : Hid (WB wb 0 id wv SP wr) := by have := hwb; rw [HFF.out] at this; exact this
        have hcut := HCUT.out wr hV1
        have HR1 : Hid (RB R (.slice (some ⟨V, 0, none⟩) n cap) m wr) := hR1
        clear hwb hR1 hV1 ht
        go_wp2_with fail
        refine hcut.mono ?_
        rintro e w2 ⟨o', cap', A', rfl, g1, g2, g3, g4, g5, g6⟩
        have hpos : 0 < n - q := by omega
        have hR2 := HR1.out.keep g6 hne
        have HREC : Hid (Rec R V m ({ b with w := 0 } :: T) ((w2.setCell ⟨R, 7, none⟩ (.slice (some ⟨V, o', none⟩) (n - q) cap')).setCell ⟨V, o' + 2, none⟩ (.int .u64 0)) ∧ Turns (fun k => k = R ∨ k = V) wr ((w2.setCell ⟨R, 7, none⟩ (.slice (some ⟨V, o', none⟩) (n - q) cap')).setCell ⟨V, o' + 2, none⟩ (.int .u64 0))) := by
          refine ⟨Rec.putw (v := b) (T := T) (n := n - q) (o := o') (hR2.set _) ((Below.heap_setCell _ _ _ _ hne2).trans g1) g2 hne g3 g4 g5 HLD.out, ?_⟩
          exact Turns.setCell (S := fun k => k = R ∨ k = V) (p := ⟨V, o' + 2, none⟩) (Turns.setCell (S := fun k => k = R ∨ k = V) (p := ⟨R, 7, none⟩) (g6.mono (fun k e => Or.inr e)) (Or.inl rfl) _) (Or.inr rfl) _
        have HT0 : Hid (∀ W5 W6, Turns (fun k => k = R ∨ k = V) wr W5 → Turns (fun k => k = R ∨ k = V) W5 W6 → WB wb 0 id wv SP W6 ∧ Turns (fun k => k = R ∨ k = V ∨ k = wb) w W6) := by
          intro W5 W6 h1 h2
          have h3 := h1.trans h2
          refine ⟨HWB.out.keep h3 (fun e => by rcases e with e | e; exact hnw e.symm; exact hvw e.symm), ?_⟩
          exact (HT.out.mono (fun k e => Or.inr (Or.inr e))).trans (h3.mono (fun k e => by rcases e with e | e; exact Or.inl e; exact Or.inr (Or.inl e)))
        obtain ⟨⟨B2, hB2, _, h72⟩⟩ := hR2
        have f7 : w2.cell? ⟨R, 7, none⟩ = some (.slice (some ⟨V, 0, none⟩) n cap) := (cell_blk hB2 7).trans h72
        have fz := frozen_blk hB2
        have vz := frozen_blk g1
        obtain ⟨c0, c1, c2, c3⟩ := VerAt.cells (g2 0 b rfl) g1
        simp only [Nat.zero_mul, Nat.add_zero] at c0 c1 c2 c3
        clear hB2 h72 g1 g2 g6 hcut
        obtain ⟨ba, bn, bc, bp, bw⟩ := b
        simp only at c0 c1 c2
        cases bp
        · have HE : Hid (M = T) := by show M = T; have := HM.out; simpa using this
          go_wp2_with fail
          refine (trim_any R V m _ T _ HREC.out.1 rfl rfl).mono ?_
          rintro e w' ⟨rfl, hr, ht⟩
          have HQ := HT0.out _ _ HREC.out.2 ht
          have HRR : Hid (Rec R V m M w') := by rw [HE.out]; exact hr
          clear hr ht
          go_wp2
          go_end0
          exact ⟨rfl, HRR.out, HQ⟩
        · have HE : Hid (M = ⟨ba, bn, bc, true, 0⟩ :: T) := by show M = _; have := HM.out; simpa using this
          go_wp2
          go_end0
          exact ⟨rfl, by rw [HE.out]; exact HREC.out.1, HT0.out _ _ HREC.out.2 (Turns.refl _ _)⟩
end Go.Proofs.Ybulkavym
