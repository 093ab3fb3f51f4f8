import Derived.Test.YbulkavxkDoorIs
import Derived.Deep.RegionWith
import Derived.WalkSpells
namespace Go.Proofs.YbulkavxkDoor
open Go.RowKit
set_option linter.unusedVariables false
set_option linter.unusedSimpArgs false

/-- The numbers of an IPv4 address. -/
def v4n (a b c d : Int) : Int := 281470681743360 + a * 16777216 + b * 65536 + c * 256 + d

theorem bup2 {w w' : World} {o o2 : Obj} (hb : Below ((w.alloc o).alloc o2).heap.size ((w.alloc o).alloc o2) w') : Below w.heap.size w w' :=
  ((Below.refl _ _).alloc (Nat.le_refl _) _).trans ((bup hb).mono (by simp))

/-! Boxes of the caller's own, behind a callee that ends in 'Below'. -/
theorem box1 {w w' : World} {cs : Array Value} {t : TypeId} (hb : Below (w.alloc (.cells cs t)).heap.size (w.alloc (.cells cs t)) w') :
    (∀ j, w'.cell? ⟨w.heap.size, j, none⟩ = cs[j]?) ∧ (∀ j, w'.frozen? ⟨w.heap.size, j, none⟩ = false) := by
  have h : w'.heap[w.heap.size]? = some (.cells cs t (0, 0)) := by rw [hb.block _ (by simp), heap_alloc_new]
  exact ⟨fun j => cell_of_row w' _ j cs t _ h, fun j => frozen_of_row w' _ j cs t h⟩
theorem box2 {w w' : World} {cs cs2 : Array Value} {t t2 : TypeId} (hb : Below ((w.alloc (.cells cs t)).alloc (.cells cs2 t2)).heap.size ((w.alloc (.cells cs t)).alloc (.cells cs2 t2)) w') :
    ((∀ j, w'.cell? ⟨w.heap.size, j, none⟩ = cs[j]?) ∧ (∀ j, w'.frozen? ⟨w.heap.size, j, none⟩ = false)) ∧ ((∀ j, w'.cell? ⟨w.heap.size + 1, j, none⟩ = cs2[j]?) ∧ (∀ j, w'.frozen? ⟨w.heap.size + 1, j, none⟩ = false)) := by
  refine ⟨box1 (((Below.refl _ _).alloc (by simp) _).trans (hb.mono (by simp))), ?_⟩
  have := box1 hb
  simpa using this
theorem bdrewN {B : Nat} {w w' : World} (h : Below B w w') (n : Nat) : Below B w (w'.drewN n) := ⟨h.os, h.tape, h.output, h.size, h.block⟩
/-- Stores into blocks of the call's own. -/
theorem bset {w w' : World} (hb : Below w.heap.size w w') {k j : Nat} (v : Value) (hk : w.heap.size ≤ k) : Below w.heap.size w (w'.setCell ⟨k, j, none⟩ v) := hb.setCell hk v

set_option maxHeartbeats 400000 in
theorem unmap_yes (a4 a6 : Addr) (hi lo : Int) (z : Option Addr) (w : World) (h : G a4 a6 w) (hz : z = none ∨ z = some a4 ∨ z = some a6) (hl : 0 ≤ lo) (hl2 : lo < 18446744073709551616) (hy : is46 a6 hi lo z = true) :
    Calls Ybad.prog 29 #[ad hi lo z] w fun e w' => e = .returned (ad hi lo (some a4)) ∧ Below w.heap.size w w' := by
  have hg : ∀ o o2, G a4 a6 ((w.alloc o).alloc o2) := fun o o2 => h.below (bup2 (Below.refl _ _))
  have c := fun o o2 => is46_any a4 a6 hi lo z ((w.alloc o).alloc o2) (hg o o2) hz hl hl2
  have HG : Hid (∀ o o2, G a4 a6 ((w.alloc o).alloc o2)) := hg
  clear hg hz
  go_enter Ybad.func29, Ybad.ntmps29
  go_wp2_with (go_at_call 33; refine (c _ _).mono ?_; rintro e w' ⟨rfl, hb⟩; obtain ⟨⟨k1, k2⟩, k3, k4⟩ := box2 hb; have g4 := ((HG.out _ _).below hb).c4)
  exact bodyPost_ret (v := ad hi lo (some a4)) (by simp [results, Ybad.results29, go_sem, k1, k3]) rfl ⟨rfl, bset (bset (bset (bset (bup2 hb) _ (by simp)) _ (by simp)) _ (by simp)) _ (by simp)⟩
set_option maxHeartbeats 400000 in
theorem unmap_no (a4 a6 : Addr) (hi lo : Int) (z : Option Addr) (w : World) (h : G a4 a6 w) (hz : z = none ∨ z = some a4 ∨ z = some a6) (hl : 0 ≤ lo) (hl2 : lo < 18446744073709551616) (hy : is46 a6 hi lo z = false) :
    Calls Ybad.prog 29 #[ad hi lo z] w fun e w' => e = .returned (ad hi lo z) ∧ Below w.heap.size w w' := by
  have hg : ∀ o o2, G a4 a6 ((w.alloc o).alloc o2) := fun o o2 => h.below (bup2 (Below.refl _ _))
  have c := fun o o2 => is46_any a4 a6 hi lo z ((w.alloc o).alloc o2) (hg o o2) hz hl hl2
  clear hg hz
  go_enter Ybad.func29, Ybad.ntmps29
  go_wp2_with (go_at_call 33; refine (c _ _).mono ?_; rintro e w' ⟨rfl, hb⟩; obtain ⟨⟨k1, k2⟩, k3, k4⟩ := box2 hb)
  exact bodyPost_ret (v := ad hi lo z) (by simp [results, Ybad.results29, go_sem, k1, k3]) rfl ⟨rfl, bset (bset (bset (bup2 hb) _ (by simp)) _ (by simp)) _ (by simp)⟩
theorem or_comm64 (x y : Int) : bits .or .u64 x y = bits .or .u64 y x := by simp only [bits, BitVec.or_comm]

theorem v4_or (a b c d : Int) (ha : 0 ≤ a) (ha2 : a < 256) (hb : 0 ≤ b) (hb2 : b < 256) (hc : 0 ≤ c) (hc2 : c < 256) (hd : 0 ≤ d) (hd2 : d < 256) :
    bits .or .u64 (bits .or .u64 (bits .or .u64 (bits .or .u64 281470681743360 (a * 16777216)) (b * 65536)) (c * 256)) d = v4n a b c d := by
  have e1 : bits .or .u64 281470681743360 (a * 16777216) = a * 16777216 + 281470681743360 := by
    rw [or_comm64]; exact u64_or32 _ _ (by omega) (by omega) (by omega) (by omega) (by omega)
  have e2 : bits .or .u64 (a * 16777216 + 281470681743360) (b * 65536) = b * 65536 + (a * 16777216 + 281470681743360) := by
    rw [or_comm64]; exact u64_or24 _ _ (by omega) (by omega) (by omega) (by omega) (by omega)
  have e3 : bits .or .u64 (b * 65536 + (a * 16777216 + 281470681743360)) (c * 256) = c * 256 + (b * 65536 + (a * 16777216 + 281470681743360)) := by
    rw [or_comm64]; exact u64_or16 _ _ (by omega) (by omega) (by omega) (by omega) (by omega)
  have e4 : bits .or .u64 (c * 256 + (b * 65536 + (a * 16777216 + 281470681743360))) d = d + (c * 256 + (b * 65536 + (a * 16777216 + 281470681743360))) := by
    rw [or_comm64]; exact u64_or8 _ _ (by omega) (by omega) (by omega) (by omega) (by omega)
  rw [e1, e2, e3, e4]
  unfold v4n; omega

set_option maxHeartbeats 400000 in
theorem from4_any (a4 a6 : Addr) (a b c d : Int) (w : World) (h : G a4 a6 w) (ha : 0 ≤ a) (ha2 : a < 256) (hb : 0 ≤ b) (hb2 : b < 256) (hc : 0 ≤ c) (hc2 : c < 256) (hd : 0 ≤ d) (hd2 : d < 256) :
    Calls Ybad.prog 21 #[.agg #[.int .u8 a, .int .u8 b, .int .u8 c, .int .u8 d]] w fun e w' => e = .returned (ad 0 (v4n a b c d) (some a4)) ∧ Below w.heap.size w w' := by
  have hg : ∀ o o2, G a4 a6 ((w.alloc o).alloc o2) := fun o o2 => h.below (bup2 (Below.refl _ _))
  have g4 := fun o o2 => (hg o o2).c4
  have h0 : 0 < w.heap.size := block_lt_of_cell h.c4
  clear hg
  go_enter Ybad.func21, Ybad.ntmps21
  go_wp2
  rw [← v4_or a b c d ha ha2 hb hb2 hc hc2 hd hd2]
  exact bodyPost_ret (by simp [results, Ybad.results21, go_sem]) rfl ⟨rfl, bup2 (Below.refl _ _)⟩

/-- One byte. -/
def Byte (x : Int) : Prop := 0 ≤ x ∧ x < 256

/-- What eight of the bytes spell, from place o on. -/
def beL (xs : List Int) (o : Nat) : Int := be (xs.getD o 0) (xs.getD (o + 1) 0) (xs.getD (o + 2) 0) (xs.getD (o + 3) 0) (xs.getD (o + 4) 0) (xs.getD (o + 5) 0) (xs.getD (o + 6) 0) (xs.getD (o + 7) 0)

theorem byte_getD {xs : List Int} (h : ∀ x ∈ xs, Byte x) (j : Nat) (hj : j < xs.length) : 0 ≤ xs.getD j 0 ∧ xs.getD j 0 < 256 := by
  rw [List.getD_eq_getElem?_getD, List.getElem?_eq_getElem hj]; exact h _ (List.getElem_mem hj)

theorem be_row (g o c : Nat) (xs : List Int) (w : World) (hx : ∀ x ∈ xs, Byte x) (ho : o + 8 ≤ xs.length) (hc : ∀ j, j < xs.length → w.cell? ⟨g, j, none⟩ = some (.int .u8 (xs.getD j 0))) :
    Calls Ybad.prog 30 #[.slice (some ⟨g, o, none⟩) 8 c] w fun e w' => e = .returned (.int .u64 (beL xs o)) ∧ ∃ n, w' = w.drewN n :=
  be_any g o c _ _ _ _ _ _ _ _ w (byte_getD hx _ (by omega)) (byte_getD hx _ (by omega)) (byte_getD hx _ (by omega)) (byte_getD hx _ (by omega)) (byte_getD hx _ (by omega)) (byte_getD hx _ (by omega)) (byte_getD hx _ (by omega)) (byte_getD hx _ (by omega))
    (hc _ (by omega)) (hc _ (by omega)) (hc _ (by omega)) (hc _ (by omega)) (hc _ (by omega)) (hc _ (by omega)) (hc _ (by omega)) (hc _ (by omega))

theorem row_cells {w : World} {g : Nat} {x0 x1 x2 x3 x4 x5 x6 x7 x8 x9 x10 x11 x12 x13 x14 x15 : Int} {t : TypeId} {fr : Nat × Nat}
    (h : w.heap[g]? = some (.cells #[.int .u8 x0, .int .u8 x1, .int .u8 x2, .int .u8 x3, .int .u8 x4, .int .u8 x5, .int .u8 x6, .int .u8 x7, .int .u8 x8, .int .u8 x9, .int .u8 x10, .int .u8 x11, .int .u8 x12, .int .u8 x13, .int .u8 x14, .int .u8 x15] t fr)) :
    ∀ j, j < [x0, x1, x2, x3, x4, x5, x6, x7, x8, x9, x10, x11, x12, x13, x14, x15].length → w.cell? ⟨g, j, none⟩ = some (.int .u8 ([x0, x1, x2, x3, x4, x5, x6, x7, x8, x9, x10, x11, x12, x13, x14, x15].getD j 0)) := by
  intro j hj
  rw [cell_of_row w g j _ t fr h]
  simp only [List.length_cons, List.length_nil] at hj
  iterate 16 (rcases j with _ | j; · rfl)
  omega

set_option maxHeartbeats 1000000 in
theorem from16_any (a4 a6 : Addr) (x0 x1 x2 x3 x4 x5 x6 x7 x8 x9 x10 x11 x12 x13 x14 x15 : Int) (w : World) (h : G a4 a6 w)
    (hx : ∀ x ∈ [x0, x1, x2, x3, x4, x5, x6, x7, x8, x9, x10, x11, x12, x13, x14, x15], Byte x) :
    Calls Ybad.prog 22 #[.agg #[.int .u8 x0, .int .u8 x1, .int .u8 x2, .int .u8 x3, .int .u8 x4, .int .u8 x5, .int .u8 x6, .int .u8 x7, .int .u8 x8, .int .u8 x9, .int .u8 x10, .int .u8 x11, .int .u8 x12, .int .u8 x13, .int .u8 x14, .int .u8 x15]] w
      fun e w' => e = .returned (ad (be x0 x1 x2 x3 x4 x5 x6 x7) (be x8 x9 x10 x11 x12 x13 x14 x15) (some a6)) ∧ Below w.heap.size w w' := by
  have hg : ∀ o o2, G a4 a6 ((w.alloc o).alloc o2) := fun o o2 => h.below (bup2 (Below.refl _ _))
  have g6 := fun o o2 => (hg o o2).c6
  have hs : 1 < w.heap.size := block_lt_of_cell h.c6
  have cc : ∀ (o c : Nat) (w1 : World), o + 8 ≤ 16 → w1.heap[w.heap.size]? = some (.cells #[.int .u8 x0, .int .u8 x1, .int .u8 x2, .int .u8 x3, .int .u8 x4, .int .u8 x5, .int .u8 x6, .int .u8 x7, .int .u8 x8, .int .u8 x9, .int .u8 x10, .int .u8 x11, .int .u8 x12, .int .u8 x13, .int .u8 x14, .int .u8 x15] 49 (0, 0)) →
      Calls Ybad.prog 30 #[.slice (some ⟨w.heap.size, o, none⟩) 8 c] w1 fun e w' => e = .returned (.int .u64 (beL [x0, x1, x2, x3, x4, x5, x6, x7, x8, x9, x10, x11, x12, x13, x14, x15] o)) ∧ ∃ n, w' = w1.drewN n :=
    fun o c w1 ho hw => be_row w.heap.size o c [x0, x1, x2, x3, x4, x5, x6, x7, x8, x9, x10, x11, x12, x13, x14, x15] w1 hx ho (row_cells hw)
  clear hg hx
  go_enter Ybad.func22, Ybad.ntmps22
  go_wp2_with fail
  go_region_with (go_at_call 30; refine (cc _ _ _ ?_ ?_).mono ?_; decide; exact heap_alloc2_old _ _ _; rintro e w' ⟨rfl, n, rfl⟩)
  all_goals
    go_wp2
    exact bodyPost_ret (v := ad (be x0 x1 x2 x3 x4 x5 x6 x7) (be x8 x9 x10 x11 x12 x13 x14 x15) (some a6)) (by simp [results, Ybad.results22, go_sem, beL]) rfl ⟨rfl, bset (bset (bset (bdrewN (bup2 (Below.refl _ _)) _) _ (by simp)) _ (by simp)) _ (by simp)⟩
end Go.Proofs.YbulkavxkDoor
