import Derived.Test.YbulkavymSg
namespace Go.Proofs.Ybulkavym
open Go.RowKit
set_option linter.unusedVariables false
set_option linter.unusedSimpArgs false

/-- The record as it was made. -/
structure Rec0 (R V : Nat) (m : Int) (L : List Ver) (w : World) : Prop where
  h : ∃ cap A, RB R (.slice (some ⟨V, 0, none⟩) L.length cap) m w ∧ w.heap[V]? = some (.cells A 53 (0, 0)) ∧ Lies A 0 L ∧ cap * 4 ≤ A.size ∧ L.length ≤ cap ∧ cap ≤ 6
theorem Rec0.toRec {R V : Nat} {m : Int} {L : List Ver} {w : World} (h : Rec0 R V m L w) : Rec R V m L w := by
  obtain ⟨⟨cap, A, h1, h2, h3, h4, h5⟩⟩ := h
  exact ⟨⟨0, cap, A, h1, h2, h3, by omega, h5⟩⟩
theorem Rec0.keep {R V : Nat} {m : Int} {L : List Ver} {w w' : World} {S : Nat → Prop} (h : Rec0 R V m L w) (ht : Turns S w w') (hR : ¬ S R) (hV : ¬ S V) : Rec0 R V m L w' := by
  obtain ⟨⟨cap, A, h1, h2, h3⟩⟩ := h
  exact ⟨⟨cap, A, h1.keep ht hR, ht.keep h2 hV, h3⟩⟩
theorem Rec0.lock {R V : Nat} {m : Int} {L : List Ver} {w : World} (h : Rec0 R V m L w) (m' : Int) : Rec0 R V m' L (w.setCell ⟨R, 0, none⟩ (.int .i32 m')) := by
  have hne := h.toRec.ne
  obtain ⟨⟨cap, A, h1, h2, h3⟩⟩ := h
  exact ⟨⟨cap, A, h1.lock m', (Below.heap_setCell _ _ _ _ (fun e => hne e.symm)).trans h2, h3⟩⟩
theorem Rec.lock {R V : Nat} {m : Int} {L : List Ver} {w : World} (h : Rec R V m L w) (m' : Int) : Rec R V m' L (w.setCell ⟨R, 0, none⟩ (.int .i32 m')) := by
  have hne := h.ne
  obtain ⟨⟨o, cap, A, h1, h2, h3⟩⟩ := h
  exact ⟨⟨o, cap, A, h1.lock m', (Below.heap_setCell _ _ _ _ (fun e => hne e.symm)).trans h2, h3⟩⟩

theorem settle_any (wb R V : Nat) (m id : Int) (wv : Value) (sp : List Value) (L : List Ver) (w : World) (hW : WB wb 0 id wv sp w) (h : Rec0 R V m L w) (i : Nat) (hi : ∀ (k : Nat) (v : Ver), L[k]? = some v → (v.w = id ↔ k = i)) (hg : ∀ (k : Nat) (v : Ver), L[k]? = some v → Good v.b) :
    Calls Yba.prog 14 #[.pointer (some ⟨R, 0, none⟩), .pointer (some ⟨wb, 0, none⟩)] w fun e w' => e = .returned (.tuple #[]) ∧ Rec R V m (setl L i) w' ∧ WB wb 0 id wv (gvs sp L i) w' ∧ Turns (fun k => k = R ∨ k = V ∨ k = wb) w w' := by
  have H := h
  obtain ⟨⟨cap, A, hR, hV, hA, hsz, hn, hc⟩⟩ := h
  by_cases hil : i < L.length
  · obtain ⟨b, hb⟩ := at_some L hil
    have e1 : setl L i = if b.p = true then { b with w := 0 } :: L.drop (i + 1) else L.drop (i + 1) := by simp only [setl, hb]
    have e2 : gvs sp L i = (L.take i).foldl (fun s (v : Ver) => giv s v.b) sp := by simp only [gvs, hb]
    rw [e1, e2]
    by_cases h2 : L.length = 2 ∧ i = 1
    · obtain ⟨h2, rfl⟩ := h2
      obtain ⟨a, b', rfl⟩ : ∃ a b', L = [a, b'] := by
        match L, h2 with
        | [a, b'], _ => exact ⟨a, b', rfl⟩
      simp at hb
      subst hb
      have := settle_two wb R V cap m id wv sp a b' A w hW hR hV hA hsz hn hc (hg 0 a rfl) ((hi 1 b' rfl).2 rfl)
      simpa using this
    · exact settle_gen wb R V cap m id wv sp L A w hW hR hV hA hsz hn hc i hi b hb h2 hg
  · have hb : L[i]? = none := List.getElem?_eq_none (by omega)
    have e1 : setl L i = L := by simp only [setl, hb]
    have e2 : gvs sp L i = sp := by simp only [gvs, hb]
    rw [e1, e2]
    refine (settle_none wb R V cap m id wv sp L A w hW hR hV hA hsz hn hc i hi (by omega)).mono ?_
    rintro e w' ⟨rfl, ht⟩
    exact ⟨rfl, H.toRec.keep ht (by simp) (by simp), hW.keep ht (by simp), ht.mono (fun k e => e.elim)⟩

/-- The records that were written, and what is told of them. -/
structure Sys where
  K : Nat
  R : Nat → Nat
  V : Nat → Nat
  L : Nat → List Ver
  I : Nat → Nat
def spk (X : Sys) (sp : List Value) : Nat → List Value
  | 0 => sp
  | k + 1 => gvs (spk X sp k) (X.L k) (X.I k)
structure Sys.Ok (X : Sys) (id : Int) : Prop where
  small : X.K ≤ 300
  rinj : ∀ i j, i < X.K → j < X.K → X.R i = X.R j → i = j
  vinj : ∀ i j, i < X.K → j < X.K → X.V i = X.V j → i = j
  own : ∀ i, i < X.K → ∀ (k : Nat) (v : Ver), (X.L i)[k]? = some v → (v.w = id ↔ k = X.I i)
  good : ∀ i, i < X.K → ∀ (k : Nat) (v : Ver), (X.L i)[k]? = some v → Good v.b
def Sys.S (X : Sys) (wb : Nat) : Nat → Prop := fun x => x = wb ∨ ∃ i, i < X.K ∧ (x = X.R i ∨ x = X.V i)
/-- The first k settled. -/
structure Part (X : Sys) (wb : Nat) (id : Int) (wv : Value) (sp : List Value) (k : Nat) (w w' : World) : Prop where
  hw : WB wb 0 id wv (spk X sp k) w'
  hd : ∀ i, i < k → Rec (X.R i) (X.V i) 0 (setl (X.L i) (X.I i)) w'
  hu : ∀ i, k ≤ i → i < X.K → Rec0 (X.R i) (X.V i) 0 (X.L i) w'
  ht : Turns (X.S wb) w w'
theorem Rec.tagR {R V : Nat} {m : Int} {L : List Ver} {w : World} (h : Rec R V m L w) : ∃ A, w.heap[R]? = some (.cells A 70 (0, 0)) := by
  obtain ⟨⟨o, cap, A, ⟨⟨B, h1, _⟩⟩, _⟩⟩ := h; exact ⟨B, h1⟩
theorem Rec.tagV {R V : Nat} {m : Int} {L : List Ver} {w : World} (h : Rec R V m L w) : ∃ A, w.heap[V]? = some (.cells A 53 (0, 0)) := by
  obtain ⟨⟨o, cap, A, _, h1, _⟩⟩ := h; exact ⟨A, h1⟩
theorem WB.tag {b : Nat} {rule id : Int} {wv : Value} {sp : List Value} {w : World} (h : WB b rule id wv sp w) : ∃ A, w.heap[b]? = some (.cells A 44 (0, 0)) := by
  obtain ⟨⟨A, h1, _⟩, _⟩ := h; exact ⟨A, h1⟩
theorem Part.any {X : Sys} {wb : Nat} {id : Int} {wv : Value} {sp : List Value} {k : Nat} {w w' : World} (h : Part X wb id wv sp k w w') (i : Nat) (hi : i < X.K) : ∃ L, Rec (X.R i) (X.V i) 0 L w' := by
  by_cases e : i < k
  · exact ⟨_, h.hd i e⟩
  · exact ⟨_, (h.hu i (by omega) hi).toRec⟩
theorem Part.ne {X : Sys} {wb : Nat} {id : Int} {wv : Value} {sp : List Value} {k : Nat} {w w' : World} (h : Part X wb id wv sp k w w') (i j : Nat) (hi : i < X.K) (hj : j < X.K) : X.R i ≠ X.V j ∧ X.R i ≠ wb ∧ X.V i ≠ wb := by
  obtain ⟨_, h1⟩ := h.any i hi
  obtain ⟨_, h2⟩ := h.any j hj
  obtain ⟨_, r⟩ := h1.tagR
  obtain ⟨_, v⟩ := h1.tagV
  obtain ⟨_, v2⟩ := h2.tagV
  obtain ⟨_, b⟩ := h.hw.tag
  exact ⟨ne_tag r v2 (by decide), ne_tag r b (by decide), ne_tag v b (by decide)⟩
/-- One record settled. -/
theorem Part.step {X : Sys} {wb : Nat} {id : Int} {wv : Value} {sp : List Value} {k : Nat} {w w' w'' : World} (hX : X.Ok id) (h : Part X wb id wv sp k w w') (hk : k < X.K) (hr : Rec (X.R k) (X.V k) 0 (setl (X.L k) (X.I k)) w'') (hw : WB wb 0 id wv (gvs (spk X sp k) (X.L k) (X.I k)) w'') (ht : Turns (fun x => x = X.R k ∨ x = X.V k ∨ x = wb) w' w'') : Part X wb id wv sp (k + 1) w w'' := by
  refine ⟨hw, fun i hi => ?_, fun i h1 h2 => ?_, h.ht.trans (ht.mono ?_)⟩
  · by_cases e : i = k
    · subst e; exact hr
    · have h3 := h.ne i k (by omega) hk
      have h4 := h.ne k i hk (by omega)
      refine (h.hd i (by omega)).keep ht ?_ ?_
      · rintro (q | q | q)
        · exact e (hX.rinj _ _ (by omega) hk q)
        · exact h3.1 q
        · exact h3.2.1 q
      · rintro (q | q | q)
        · exact h4.1 q.symm
        · exact e (hX.vinj _ _ (by omega) hk q)
        · exact h3.2.2 q
  · have h3 := h.ne i k h2 hk
    have h4 := h.ne k i hk h2
    refine (h.hu i (by omega) h2).keep ht ?_ ?_
    · rintro (q | q | q)
      · have := hX.rinj _ _ h2 hk q; omega
      · exact h3.1 q
      · exact h3.2.1 q
    · rintro (q | q | q)
      · exact h4.1 q.symm
      · have := hX.vinj _ _ h2 hk q; omega
      · exact h3.2.2 q
  · rintro x (q | q | q)
    · exact Or.inr ⟨k, hk, Or.inl q⟩
    · exact Or.inr ⟨k, hk, Or.inr q⟩
    · exact Or.inl q

set_option maxRecDepth 100000 in
set_option maxHeartbeats 2000000 in
theorem written_any (X : Sys) (wb g capw : Nat) (id : Int) (sp : List Value) (G : Array Value) (w : World) (hX : X.Ok id) (h : Part X wb id (.slice (some ⟨g, 0, none⟩) X.K capw) sp 0 w w) (hG : w.heap[g]? = some (.cells G 56 (0, 0))) (hGi : ∀ i, i < X.K → G[i]? = some (.pointer (some ⟨X.R i, 0, none⟩))) :
    Calls Yba.prog 12 #[.pointer (some ⟨wb, 0, none⟩)] w fun e w' => e = .returned (.tuple #[]) ∧ Part X wb id (.slice (some ⟨g, 0, none⟩) X.K capw) sp X.K w w' := by
  have hgS : ¬ X.S wb g := by
    rintro (q | ⟨i, hi, q | q⟩)
    · obtain ⟨_, b⟩ := h.hw.tag; subst q; exact ne_tag hG b (by decide) rfl
    · obtain ⟨_, b⟩ := (h.hu i (Nat.zero_le _) hi).toRec.tagR; subst q; exact ne_tag hG b (by decide) rfl
    · obtain ⟨_, b⟩ := (h.hu i (Nat.zero_le _) hi).toRec.tagV; subst q; exact ne_tag hG b (by decide) rfl
  have H0 : Hid (Part X wb id (.slice (some ⟨g, 0, none⟩) X.K capw) sp 0 w w) := h
  have HGC : Hid (∀ wr k, Turns (X.S wb) w wr → k < X.K → wr.cell? ⟨g, k, none⟩ = some (.pointer (some ⟨X.R k, 0, none⟩))) := fun wr k ht hk => (cell_blk (ht.keep hG hgS) k).trans (hGi k hk)
  have HX : Hid (X.Ok id) := hX
  have hsm := hX.small
  obtain ⟨⟨C, hC, _, _, h6, _⟩, _⟩ := h.hw
  have hw6 : w.cell? ⟨wb, 6, none⟩ = some (.slice (some ⟨g, 0, none⟩) X.K capw) := (cell_blk hC 6).trans h6
  clear hC h6 hG hGi hX h hgS
  generalize hK : X.K = K at *
  go_enter Yba.func12, Yba.ntmps12
  go_wp2
  go_loopw [9] (fun p wr => ∃ k : Nat, k ≤ K ∧ p = .int .i64 k ∧ Part X wb id (.slice (some ⟨g, 0, none⟩) K capw) sp k w wr) (fun p _ => K - (intOf p).toNat)
  case atStart => exact ⟨0, Nat.zero_le _, rfl, H0.out⟩
  case round =>
    obtain ⟨k, hk, rfl, hp⟩ := hrel
    have HP : Hid (Part X wb id (.slice (some ⟨g, 0, none⟩) K capw) sp k w wr) := hp
    by_cases hlt : k < K
    · have hu := hp.hu k (Nat.le_refl _) (by omega)
      have hcg := HGC.out wr k hp.ht hlt
      have HU : Hid (Rec0 (X.R k) (X.V k) 0 (X.L k) wr) := hu
      have hlk := lock_free ⟨X.R k, 0, none⟩ wr (by obtain ⟨⟨_, _, ⟨⟨B, hB, h0, _⟩⟩, _⟩⟩ := hu; exact (cell_blk hB 0).trans h0) (by obtain ⟨⟨_, _, ⟨⟨B, hB, h0, _⟩⟩, _⟩⟩ := hu; exact frozen_blk hB 0)
      have HN : Hid (X.R k ≠ wb) := (hp.ne k k (by omega) (by omega)).2.1
      clear hp hu
      go_wp2_with fail
      refine hlk.mono ?_
      rintro e w1 ⟨rfl, hw1⟩
      have t1 : Turns (fun x => x = X.R k ∨ x = X.V k ∨ x = wb) wr w1 := by rw [hw1]; exact Turns.setCell (S := fun x => x = X.R k ∨ x = X.V k ∨ x = wb) (p := ⟨X.R k, 0, none⟩) (Turns.refl _ _) (Or.inl rfl) _
      have r1 : Rec0 (X.R k) (X.V k) 1 (X.L k) w1 := by rw [hw1]; exact HU.out.lock 1
      have b1 : WB wb 0 id (.slice (some ⟨g, 0, none⟩) K capw) (spk X sp k) w1 := by
        refine HP.out.hw.keep (S := fun x => x = X.R k) (w' := w1) ?_ (fun e => HN.out e.symm)
        rw [hw1]
        exact (Turns.refl _ _).one _ _
      have hst := settle_any wb (X.R k) (X.V k) 1 id _ _ (X.L k) w1 b1 r1 (X.I k) (HX.out.own k (by omega)) (HX.out.good k (by omega))
      have HT1 : Hid (Turns (fun x => x = X.R k ∨ x = X.V k ∨ x = wb) wr w1) := t1
      clear r1 b1 t1 hw1 hlk
      go_wp2_with fail
      refine hst.mono ?_
      rintro e w2 ⟨rfl, r2, b2, t2⟩
      have hul := unlock_held ⟨X.R k, 0, none⟩ w2 (by obtain ⟨⟨_, _, _, ⟨⟨B, hB, h0, _⟩⟩, _⟩⟩ := r2; exact (cell_blk hB 0).trans h0) (by obtain ⟨⟨_, _, _, ⟨⟨B, hB, h0, _⟩⟩, _⟩⟩ := r2; exact frozen_blk hB 0)
      have HR2 : Hid (Rec (X.R k) (X.V k) 1 (setl (X.L k) (X.I k)) w2) := r2
      have HB2 : Hid (WB wb 0 id (.slice (some ⟨g, 0, none⟩) K capw) (gvs (spk X sp k) (X.L k) (X.I k)) w2) := b2
      have HT2 : Hid (Turns (fun x => x = X.R k ∨ x = X.V k ∨ x = wb) w1 w2) := t2
      clear r2 b2 t2 hst
      go_wp2_with fail
      refine hul.mono ?_
      rintro e w3 ⟨rfl, hw3⟩
      have HP3 : Hid (Part X wb id (.slice (some ⟨g, 0, none⟩) K capw) sp (k + 1) w w3) := by
        rw [hw3]
        refine HP.out.step HX.out (by omega) (HR2.out.lock 0) (HB2.out.keep (S := fun x => x = X.R k) ((Turns.refl _ _).one _ _) (fun e => HN.out e.symm)) ?_
        exact Turns.setCell (S := fun x => x = X.R k ∨ x = X.V k ∨ x = wb) (p := ⟨X.R k, 0, none⟩) (HT1.out.trans HT2.out) (Or.inl rfl) _
      clear hw3 hul
      go_wp2
      go_roundw
      case rel => exact ⟨k + 1, by omega, by go_num, HP3.out⟩
      case measure => simp [intOf]; omega
    · obtain rfl : k = K := by omega
      clear hp
      go_wp2
      go_end0
      exact ⟨rfl, HP.out⟩

set_option maxRecDepth 100000 in
theorem commit_with (X : Sys) (wb g capw : Nat) (id : Int) (sp : List Value) (G : Array Value) (w : World) (hX : X.Ok id) (h : Part X wb id (.slice (some ⟨g, 0, none⟩) X.K capw) sp 0 w w) (hG : w.heap[g]? = some (.cells G 56 (0, 0))) (hGi : ∀ i, i < X.K → G[i]? = some (.pointer (some ⟨X.R i, 0, none⟩))) :
    Calls Yba.prog 10 #[.pointer (some ⟨wb, 0, none⟩)] w fun e w' => e = .returned (.tuple #[]) ∧ Part X wb id (.slice (some ⟨g, 0, none⟩) X.K capw) sp X.K w w' := by
  have hs := written_any X wb g capw id sp G w hX h hG hGi
  obtain ⟨⟨C, hC, h1, _⟩, _⟩ := h.hw
  have hw1 : w.cell? ⟨wb, 1, none⟩ = some (.int .u8 0) := (cell_blk hC 1).trans h1
  clear hC h1 hG hGi hX h
  go_enter Yba.func10, Yba.ntmps10
  go_wp2_with fail
  refine hs.mono ?_
  rintro e w' ⟨rfl, hp⟩
  go_wp2
  go_end0
  exact ⟨rfl, hp⟩
theorem commit_other (wb : Nat) (rule id : Int) (wv : Value) (sp : List Value) (w : World) (h : WB wb rule id wv sp w) (hr : rule ≠ 0) :
    Calls Yba.prog 10 #[.pointer (some ⟨wb, 0, none⟩)] w fun e w' => e = .returned (.tuple #[]) ∧ w' = w := by
  obtain ⟨⟨C, hC, h1, _⟩, _⟩ := h
  have hw1 : w.cell? ⟨wb, 1, none⟩ = some (.int .u8 rule) := (cell_blk hC 1).trans h1
  have q : (rule == 0) = false := by simpa using hr
  clear hC h1
  go_enter Yba.func10, Yba.ntmps10
  go_wp2
  go_end0
  exact ⟨rfl, rfl⟩
end Go.Proofs.Ybulkavym
