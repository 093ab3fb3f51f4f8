import Derived.Test.YbulkavxkDoorV
namespace Go.Proofs.YbulkavxkDoor
open Go.RowKit
set_option linter.unusedVariables false
set_option linter.unusedSimpArgs false

/-- The first k bytes are zero. -/
def zeroTo (xs : List Int) (k : Nat) : Bool := (xs.take k).all (fun x => decide (x = 0))
theorem zeroTo_zero (xs : List Int) : zeroTo xs 0 = true := rfl
theorem zeroTo_succ (xs : List Int) (k : Nat) (h : k < xs.length) : zeroTo xs (k + 1) = (zeroTo xs k && decide (xs.getD k 0 = 0)) := by
  unfold zeroTo
  rw [List.take_succ_eq_append_getElem h, List.all_append, List.getD_eq_getElem?_getD, List.getElem?_eq_getElem h]
  simp

def m0 (xs : List Int) : Bool := decide (xs.getD 10 0 = 255) && decide (xs.getD 11 0 = 255)
/-- The bytes of an IPv4-mapped address. -/
def map6 (xs : List Int) : Bool := m0 xs && zeroTo xs 10
def hi6 (xs : List Int) : Int := if map6 xs = true then 0 else if zeroTo xs 16 = true then 0 else beL xs 0
def lo6 (xs : List Int) : Int := if map6 xs = true then lo4 (xs.getD 12 0) (xs.getD 13 0) (xs.getD 14 0) (xs.getD 15 0) else if zeroTo xs 16 = true then 1 else beL xs 8
def z6 (a4 a6 : Addr) (xs : List Int) : Option Addr := if map6 xs = true then some a4 else some a6

/-- The two flags behind k rounds. -/
def mk (b : Bool) (xs : List Int) (k : Nat) : Bool := b && zeroTo xs (min k 10)
theorem mk_step (b : Bool) (xs : List Int) (k : Nat) (h : k < xs.length) (h10 : k < 10) : mk b xs (k + 1) = (mk b xs k && decide (xs.getD k 0 = 0)) := by
  unfold mk
  rw [show min (k + 1) 10 = k + 1 by omega, show min k 10 = k by omega, zeroTo_succ xs k h, Bool.and_assoc]
theorem mk_stay (b : Bool) (xs : List Int) (k : Nat) (h10 : ¬ k < 10) : mk b xs (k + 1) = mk b xs k := by
  unfold mk
  rw [show min (k + 1) 10 = 10 by omega, show min k 10 = 10 by omega]

set_option maxHeartbeats 2000000 in
theorem v6_any (a4 a6 : Addr) (x0 x1 x2 x3 x4 x5 x6 x7 x8 x9 x10 x11 x12 x13 x14 x15 : Int) (w : World) (h : G a4 a6 w)
    (hx : ∀ x ∈ [x0, x1, x2, x3, x4, x5, x6, x7, x8, x9, x10, x11, x12, x13, x14, x15], Byte x) :
    Calls Ybad.prog 24 #[.agg #[.int .u8 x0, .int .u8 x1, .int .u8 x2, .int .u8 x3, .int .u8 x4, .int .u8 x5, .int .u8 x6, .int .u8 x7, .int .u8 x8, .int .u8 x9, .int .u8 x10, .int .u8 x11, .int .u8 x12, .int .u8 x13, .int .u8 x14, .int .u8 x15]] w
      fun e w' => e = .returned (ad (hi6 [x0, x1, x2, x3, x4, x5, x6, x7, x8, x9, x10, x11, x12, x13, x14, x15]) (lo6 [x0, x1, x2, x3, x4, x5, x6, x7, x8, x9, x10, x11, x12, x13, x14, x15]) (z6 a4 a6 [x0, x1, x2, x3, x4, x5, x6, x7, x8, x9, x10, x11, x12, x13, x14, x15])) ∧ Below w.heap.size w w' := by
  have hcell : ∀ o, ∀ j, j < 16 → ((w.alloc (.cells #[.int .u8 x0, .int .u8 x1, .int .u8 x2, .int .u8 x3, .int .u8 x4, .int .u8 x5, .int .u8 x6, .int .u8 x7, .int .u8 x8, .int .u8 x9, .int .u8 x10, .int .u8 x11, .int .u8 x12, .int .u8 x13, .int .u8 x14, .int .u8 x15] 49)).alloc o).cell? ⟨w.heap.size, j, none⟩ = some (.int .u8 ([x0, x1, x2, x3, x4, x5, x6, x7, x8, x9, x10, x11, x12, x13, x14, x15].getD j 0)) := fun o => row_cells (heap_alloc2_old _ _ _)
  have hlen : [x0, x1, x2, x3, x4, x5, x6, x7, x8, x9, x10, x11, x12, x13, x14, x15].length = 16 := rfl
  have g : ∀ w1, Below w.heap.size w w1 → G a4 a6 w1 := fun w1 hb => h.below hb
  have hz : ∀ k, k < 16 → zeroTo [x0, x1, x2, x3, x4, x5, x6, x7, x8, x9, x10, x11, x12, x13, x14, x15] (k + 1) = (zeroTo [x0, x1, x2, x3, x4, x5, x6, x7, x8, x9, x10, x11, x12, x13, x14, x15] k && decide ([x0, x1, x2, x3, x4, x5, x6, x7, x8, x9, x10, x11, x12, x13, x14, x15].getD k 0 = 0)) := fun k hk => zeroTo_succ _ k hk
  have hk1 : ∀ b, ∀ k, k < 10 → mk b [x0, x1, x2, x3, x4, x5, x6, x7, x8, x9, x10, x11, x12, x13, x14, x15] (k + 1) = (mk b [x0, x1, x2, x3, x4, x5, x6, x7, x8, x9, x10, x11, x12, x13, x14, x15] k && decide ([x0, x1, x2, x3, x4, x5, x6, x7, x8, x9, x10, x11, x12, x13, x14, x15].getD k 0 = 0)) := fun b k hk => mk_step b _ k (by rw [hlen]; omega) hk
  have hk2 : ∀ b, ∀ k, ¬ k < 10 → mk b [x0, x1, x2, x3, x4, x5, x6, x7, x8, x9, x10, x11, x12, x13, x14, x15] (k + 1) = mk b [x0, x1, x2, x3, x4, x5, x6, x7, x8, x9, x10, x11, x12, x13, x14, x15] k := fun b k hk => mk_stay b _ k hk
  have e10 : [x0, x1, x2, x3, x4, x5, x6, x7, x8, x9, x10, x11, x12, x13, x14, x15].getD 10 0 = x10 := rfl
  have e11 : [x0, x1, x2, x3, x4, x5, x6, x7, x8, x9, x10, x11, x12, x13, x14, x15].getD 11 0 = x11 := rfl
  have e12 : lo4 ([x0, x1, x2, x3, x4, x5, x6, x7, x8, x9, x10, x11, x12, x13, x14, x15].getD 12 0) ([x0, x1, x2, x3, x4, x5, x6, x7, x8, x9, x10, x11, x12, x13, x14, x15].getD 13 0) ([x0, x1, x2, x3, x4, x5, x6, x7, x8, x9, x10, x11, x12, x13, x14, x15].getD 14 0) ([x0, x1, x2, x3, x4, x5, x6, x7, x8, x9, x10, x11, x12, x13, x14, x15].getD 15 0) = lo4 x12 x13 x14 x15 := rfl
  have ea : beL [x0, x1, x2, x3, x4, x5, x6, x7, x8, x9, x10, x11, x12, x13, x14, x15] 0 = be x0 x1 x2 x3 x4 x5 x6 x7 := rfl
  have eb : beL [x0, x1, x2, x3, x4, x5, x6, x7, x8, x9, x10, x11, x12, x13, x14, x15] 8 = be x8 x9 x10 x11 x12 x13 x14 x15 := rfl
  have b12 : Byte x12 ∧ Byte x13 ∧ Byte x14 ∧ Byte x15 := ⟨hx _ (by simp), hx _ (by simp), hx _ (by simp), hx _ (by simp)⟩
  have cm := fun w1 (hb : Below w.heap.size w w1) => v4_any a4 a6 x12 x13 x14 x15 w1 (g w1 hb) b12.1 b12.2.1 b12.2.2.1 b12.2.2.2
  have cz := fun w1 (hb : Below w.heap.size w w1) => from16_any a4 a6 0 0 0 0 0 0 0 0 0 0 0 0 0 0 0 1 w1 (g w1 hb) (by simp [Byte])
  have ca := fun w1 (hb : Below w.heap.size w w1) => from16_any a4 a6 x0 x1 x2 x3 x4 x5 x6 x7 x8 x9 x10 x11 x12 x13 x14 x15 w1 (g w1 hb) hx
  clear hx b12 g hlen
  generalize [x0, x1, x2, x3, x4, x5, x6, x7, x8, x9, x10, x11, x12, x13, x14, x15] = xs at *
  have HM : Hid (m0 xs = (decide (x10 = 255) && decide (x11 = 255))) := by show m0 xs = _; unfold m0; rw [e10, e11]
  have FM : Hid (map6 xs = true → ad (hi6 xs) (lo6 xs) (z6 a4 a6 xs) = ad 0 (lo4 x12 x13 x14 x15) (some a4)) := by
    intro hm; simp only [hi6, lo6, z6, hm, if_true, e12]
  have FZ : Hid (map6 xs = false → zeroTo xs 16 = true → ad (hi6 xs) (lo6 xs) (z6 a4 a6 xs) = ad 0 1 (some a6)) := by
    intro hm h16; simp [hi6, lo6, z6, hm, h16]
  have FA : Hid (map6 xs = false → zeroTo xs 16 = false → ad (hi6 xs) (lo6 xs) (z6 a4 a6 xs) = ad (be x0 x1 x2 x3 x4 x5 x6 x7) (be x8 x9 x10 x11 x12 x13 x14 x15) (some a6)) := by
    intro hm h16; simp [hi6, lo6, z6, hm, h16, ea, eb]
  have HC : Hid (∀ o, ∀ j, j < 16 → ((w.alloc (.cells #[.int .u8 x0, .int .u8 x1, .int .u8 x2, .int .u8 x3, .int .u8 x4, .int .u8 x5, .int .u8 x6, .int .u8 x7, .int .u8 x8, .int .u8 x9, .int .u8 x10, .int .u8 x11, .int .u8 x12, .int .u8 x13, .int .u8 x14, .int .u8 x15] 49)).alloc o).cell? ⟨w.heap.size, j, none⟩ = some (.int .u8 (xs.getD j 0))) := hcell
  have HZ : Hid (∀ k, k < 16 → zeroTo xs (k + 1) = (zeroTo xs k && decide (xs.getD k 0 = 0))) := hz
  have HK1 : Hid (∀ b, ∀ k, k < 10 → mk b xs (k + 1) = (mk b xs k && decide (xs.getD k 0 = 0))) := hk1
  have HK2 : Hid (∀ b, ∀ k, ¬ k < 10 → mk b xs (k + 1) = mk b xs k) := hk2
  have HI : Hid (mk (m0 xs) xs 16 = map6 xs) := rfl
  have start : (((x10 == 255) = false ∧ Hid (m0 xs = false)) ∨ ((x10 == 255) = true ∧ (x11 == 255) = false ∧ Hid (m0 xs = false))) ∨ ((x10 == 255) = true ∧ (x11 == 255) = true ∧ Hid (m0 xs = true)) := by
    by_cases a : x10 = 255
    · by_cases b : x11 = 255
      · exact Or.inr ⟨by simpa using a, by simpa using b, by show m0 xs = true; rw [HM.out]; simp [a, b]⟩
      · exact Or.inl (Or.inr ⟨by simpa using a, by simpa using b, by show m0 xs = false; rw [HM.out]; simp [b]⟩)
    · exact Or.inl (Or.inl ⟨by simpa using a, by show m0 xs = false; rw [HM.out]; simp [a]⟩)
  clear hcell hz hk1 hk2 e10 e11 e12 ea eb HM h
  rcases start with (⟨d10, HS⟩ | ⟨d10, d11, HS⟩) | ⟨d10, d11, HS⟩
  all_goals
    go_enter Ybad.func24, Ybad.ntmps24
    go_wp2
    go_loop [3, 4, 5] (fun m a i => ∃ k : Nat, k ≤ 16 ∧ i = .int .i64 k ∧ a = .bool (zeroTo xs k) ∧ m = .bool (mk (m0 xs) xs k)) (fun _ _ i => 16 - (intOf i).toNat)
    case atStart => exact ⟨0, by omega, rfl, rfl, by simp [mk, HS.out, zeroTo]⟩
    case round =>
      obtain ⟨k, hk, rfl, rfl, rfl⟩ := hrel
      by_cases hlt : k < 16
      · have hc := HC.out (.cells #[.int .u64 0, .int .u64 0, .pointer none] 31) k hlt
        generalize hv : xs.getD k 0 = v at *
        have HV : Hid (xs.getD k 0 = v) := hv
        clear hv
        by_cases e : v = 0
        · subst e
          by_cases h10 : k < 10
          · go_wp2
            go_round
            case rel => exact ⟨k + 1, by omega, by go_num, by rw [HZ.out k hlt, HV.out]; simp, by rw [HK1.out _ k h10, HV.out]; simp⟩
            case measure => simp [intOf]; omega
          · go_wp2
            go_round
            case rel => exact ⟨k + 1, by omega, by go_num, by rw [HZ.out k hlt, HV.out]; simp, by rw [HK2.out _ k h10]⟩
            case measure => simp [intOf]; omega
        · have d : (v != 0) = true := by simpa using e
          have HE : Hid (¬ v = 0) := e
          clear e
          by_cases h10 : k < 10
          · go_wp2
            go_round
            case rel => exact ⟨k + 1, by omega, by go_num, by rw [HZ.out k hlt, HV.out]; simp [HE.out], by rw [HK1.out _ k h10, HV.out]; simp [HE.out]⟩
            case measure => simp [intOf]; omega
          · go_wp2
            go_round
            case rel => exact ⟨k + 1, by omega, by go_num, by rw [HZ.out k hlt, HV.out]; simp [HE.out], by rw [HK2.out _ k h10]⟩
            case measure => simp [intOf]; omega
      · obtain rfl : k = 16 := by omega
        clear HC HZ HK1 HK2
        rw [HI.out]
        clear HI
        cases hm : map6 xs
        · cases h16 : zeroTo xs 16
          · have F := FA.out hm h16
            have HF : Hid (ad (hi6 xs) (lo6 xs) (z6 a4 a6 xs) = ad (be x0 x1 x2 x3 x4 x5 x6 x7) (be x8 x9 x10 x11 x12 x13 x14 x15) (some a6)) := F
            clear F FA FZ FM hm cm cz
            go_wp2_with (go_at_call 22; refine (ca _ (bup2 (Below.refl _ _))).mono ?_; rintro e w' ⟨rfl, hb⟩; obtain ⟨⟨k1, k2⟩, k3, k4⟩ := box2 hb)
            rw [HF.out]
            exact bodyPost_ret (v := ad (be x0 x1 x2 x3 x4 x5 x6 x7) (be x8 x9 x10 x11 x12 x13 x14 x15) (some a6)) (by simp [results, Ybad.results24, go_sem, k3]) rfl ⟨rfl, bset (bset (bset (bup2 hb) _ (by simp)) _ (by simp)) _ (by simp)⟩
          · have F := FZ.out hm h16
            have HF : Hid (ad (hi6 xs) (lo6 xs) (z6 a4 a6 xs) = ad 0 1 (some a6)) := F
            clear F FA FZ FM hm cm ca
            go_wp2_with (go_at_call 22; refine (cz _ (bup2 (bup (Below.refl _ _)))).mono ?_; rintro e w' ⟨rfl, hb⟩; replace hb := bup hb; obtain ⟨⟨k1, k2⟩, k3, k4⟩ := box2 hb)
            rw [HF.out]
            exact bodyPost_ret (v := ad 0 1 (some a6)) (by simp [results, Ybad.results24, go_sem, k3, be]) rfl ⟨rfl, bset (bset (bset (bup2 hb) _ (by simp)) _ (by simp)) _ (by simp)⟩
        · have F := FM.out hm
          have HF : Hid (ad (hi6 xs) (lo6 xs) (z6 a4 a6 xs) = ad 0 (lo4 x12 x13 x14 x15) (some a4)) := F
          clear F FA FZ FM hm ca cz
          go_wp2_with (go_at_call 23; refine (cm _ (bup2 (Below.refl _ _))).mono ?_; rintro e w' ⟨rfl, hb⟩; obtain ⟨⟨k1, k2⟩, k3, k4⟩ := box2 hb)
          rw [HF.out]
          exact bodyPost_ret (v := ad 0 (lo4 x12 x13 x14 x15) (some a4)) (by simp [results, Ybad.results24, go_sem, k3]) rfl ⟨rfl, bset (bset (bset (bup2 hb) _ (by simp)) _ (by simp)) _ (by simp)⟩
end Go.Proofs.YbulkavxkDoor
