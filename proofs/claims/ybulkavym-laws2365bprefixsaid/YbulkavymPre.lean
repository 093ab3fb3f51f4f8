import Derived.Test.YbulkavymDig
import Derived.Lib.AppendStr
import Derived.Laws.BytesArg
import Derived.WalkKit
import Derived.ProofKit
import Derived.OpenShut
import Derived.ShutString
import Derived.ChangeOld
import Derived.Below
namespace Go.Proofs.Ybulkavym.lawS2365BPrefix
open Go.ChangeShapes Go.WideShapes Go.ChangeAt Go.RowKit
open Go.ChangeMaps (open_string shut_string)
set_option linter.unusedVariables false

theorem own : ownKnob Yba.prog.godebug = none := by kernel_rfl
theorem laidOut : laidOutB Yba.prog = true := by kernel_rfl

/-- WHAT THE WALK IS TOLD OF A SLICE OF INTEGERS THAT CAME IN: it is nil; or it leads to a row of 'cap' cells, the numbers 'zs' (the first 'len' are its elements, the rest its spare room), each fitting its kind. -/
def IsRow (k : IntKind) (w : World) (a : Option Addr) (len cap : Nat) (zs : List Int) : Prop :=
  (a = none ∧ len = 0 ∧ cap = 0 ∧ zs = []) ∨
  ∃ x, a = some x ∧ len ≤ cap ∧ cap ≤ maxLen ∧ zs.length = cap ∧ (∀ i, i < zs.length → w.cell? (x.add i) = some (.int k (zs.getD i 0))) ∧ ∀ n ∈ zs, (Lit.int k n).wf = true

/-! ### STEP 1: THE WALK: the Go text returns true, AND WRITES NOTHING THAT WAS THERE: 'Below w.heap.size w w'' (Derived/Below.lean: '.refl', '.alloc', '.drew', '.setCell' at a new block, '.trans'). Open each 'IsRow' by 'rcases' AHEAD of 'go_enter'; part every test ahead of the walk. -/
/-- The bytes that the loop lays: digits. -/
def pd (zs : List Int) (k : Nat) : List Int := (zs.take k).map fun z => 48 + z % 10
theorem pd_len (zs : List Int) (k : Nat) (h : k ≤ zs.length) : (pd zs k).length = k := by simp [pd]; omega
theorem pd_succ (zs : List Int) (k : Nat) (h : k < zs.length) : pd zs (k + 1) = pd zs k ++ [48 + (zs.getD k 0) % 10] := by
  unfold pd
  rw [List.take_succ_eq_append_getElem h, List.map_append, List.getD_eq_getElem?_getD, List.getElem?_eq_getElem h]
  rfl
theorem dg_app (ds l : List UInt8) (h : ∀ d ∈ ds, isD d = true) : dg (ds ++ l) = ds.length + dg l := by
  induction ds with
  | nil => simp
  | cons c ds ih =>
    have hc := h c (by simp)
    rw [List.cons_append]
    simp only [dg, hc, if_true, List.length_cons]
    rw [ih (fun d hd => h d (by simp [hd]))]
    omega
/-- What the string spells. -/
def nums (zs : List Int) (k : Nat) (s : ByteArray) : List Int := pd zs k ++ s.data.toList.map fun b => (b.toNat : Int)
theorem nums_data (zs : List Int) (k : Nat) (s : ByteArray) : (strOfNums (nums zs k s)).data.toList = (pd zs k).map (fun n => UInt8.ofNat n.toNat) ++ s.data.toList := by
  rw [strOfNums_data, nums, List.map_append, List.map_map]
  congr 1
  conv => rhs; rw [← List.map_id s.data.toList]
  apply List.map_congr_left
  intro b _
  simp
theorem pd_isD (zs : List Int) (k : Nat) : ∀ d ∈ (pd zs k).map (fun n => UInt8.ofNat n.toNat), isD d = true := by
  intro d hd
  simp only [pd, List.map_map, List.mem_map] at hd
  obtain ⟨z, _, rfl⟩ := hd
  have h1 := Int.emod_nonneg z (show (10 : Int) ≠ 0 by decide)
  have h2 := Int.emod_lt_of_pos z (show (0 : Int) < 10 by decide)
  have e : ((UInt8.ofNat (48 + z % 10).toNat).toNat : Int) = 48 + z % 10 := by
    rw [UInt8.toNat_ofNat']
    omega
  exact isD_yes (by show (48 : Int) ≤ ((UInt8.ofNat (48 + z % 10).toNat).toNat : Int); rw [e]; omega) (by show ((UInt8.ofNat (48 + z % 10).toNat).toNat : Int) ≤ 57; rw [e]; omega)
theorem dg_nums (zs : List Int) (k : Nat) (s : ByteArray) (h : k ≤ zs.length) : dg (strOfNums (nums zs k s)).data.toList = k + dg s.data.toList := by
  rw [nums_data, dg_app _ _ (pd_isD zs k), List.length_map, pd_len zs k h]
theorem nums_len (zs : List Int) (k : Nat) (s : ByteArray) (h : k ≤ zs.length) : (nums zs k s).length = k + s.size := by
  rw [nums, List.length_append, pd_len zs k h, List.length_map, len_list]
theorem strCells_nums (zs : List Int) (k : Nat) (s : ByteArray) : (pd zs k).map (Value.int .u8) ++ Lib.strCells s = (nums zs k s).map (Value.int .u8) := by
  simp [nums, Lib.strCells]
theorem info5 : (Yba.prog.info? 5).map (fun i => (i.zero, i.size, i.bytes)) = some (some (.int .u8 0), 1, 1) := by kernel_rfl

/-- A row that is owned, its cells. -/
theorem own_cells {w : World} {base g n cap : Nat} {xs : List Int} (h : w.ownsRow base 5 1 (.slice (some ⟨g, 0, none⟩) n cap) n (xs.map (Value.int .u8))) (i : Nat) (hi : i < n) : w.cell? ⟨g, 0 + i, none⟩ = some (.int .u8 (xs.getD i 0)) := by
  obtain ⟨hl, h2⟩ := h
  rcases h2 with ⟨h, _⟩ | ⟨g', cap', cur, hv, _, hh, _, _, hsz, ht⟩
  · cases h
  · simp only [Value.slice.injEq, Option.some.injEq, Addr.mk.injEq] at hv
    obtain ⟨⟨rfl, _⟩, _, rfl⟩ := hv
    rw [Nat.zero_add, cell_of_row w g i cur 5 _ hh]
    have hxs : i < xs.length := by simp at hl; omega
    have e := congrArg (·[i]?) ht
    simp only [Nat.mul_one, List.getElem?_take, hi, if_true, List.getElem?_map, Array.getElem?_toList] at e
    rw [e, List.getElem?_eq_getElem hxs, List.getD_eq_getElem?_getD, List.getElem?_eq_getElem hxs]
    rfl

theorem own_shape {w : World} {base n : Nat} {v : Value} {xs : List Value} (h : w.ownsRow base 5 1 v n xs) (hne : v ≠ .slice none 0 0) : ∃ g cap, v = .slice (some ⟨g, 0, none⟩) n cap := by
  rcases h.2 with ⟨e, _⟩ | ⟨g, cap, _, e, _⟩
  · exact absurd e hne
  · exact ⟨g, cap, e⟩

set_option maxRecDepth 100000 in
set_option maxHeartbeats 1000000 in
theorem walk_some (b off len0 cap0 : Nat) (z0 : List Int) (a1 : ByteArray) (w : World) (hl : len0 ≤ cap0) (hz : z0.length = cap0) (hc : ∀ i, i < z0.length → w.cell? ⟨b, off + i, none⟩ = some (.int .u8 (z0.getD i 0))) (hb : ∀ i, i < z0.length → 0 ≤ z0.getD i 0 ∧ z0.getD i 0 ≤ 255) (h1 : len0 ≤ 1024) (h2 : a1.size ≤ 4096) :
    Calls Yba.prog 4 #[.slice (some ⟨b, off, none⟩) len0 cap0, .string a1] w fun e w' => e = .returned (.bool true) ∧ Below w.heap.size w w' := by
  obtain ⟨i0, hi, hz0, hz1, hz2⟩ := info_parts info5
  have d1 : decide ((1024 : Int) < (len0 : Int)) = false := by simp; omega
  have d2 : decide ((4096 : Int) < (a1.size : Int)) = false := by simp; omega
  have d3 : decide (1024 < len0) = false := by simp; omega
  have d4 : decide (4096 < a1.size) = false := by simp; omega
  go_enter Yba.func4, Yba.ntmps4
  go_wp2_with (first | (at_make; refine wpList_make_own _ rfl _ _ 25 rfl w.heap.size 5 i0 (.int .u8 0) 1 Yba.underlying25 hi hz0 hz1 .i64 .i64 _ (len0 + a1.size) rfl rfl (by simp) (by rw [hz2]; omega) (by unfold maxLen; omega) (Nat.le_refl _) ?_; intro w1 hown hg))
  have hB : Below w.heap.size w w1 := (Below.refl _ w).grown hg (Nat.le_refl _) (fun k h => by cases h)
  clear hg
  have HB : Hid (∀ i, i < z0.length → 0 ≤ z0.getD i 0 ∧ z0.getD i 0 ≤ 255) := hb
  have HC : Hid (∀ i, i < z0.length → w.cell? ⟨b, off + i, none⟩ = some (.int .u8 (z0.getD i 0))) := hc
  have HZ : Hid (z0.length = cap0) := hz
  have hbl : 0 < len0 → b < w.heap.size := fun h => block_lt_of_cell (HC.out 0 (by rw [HZ.out]; omega))
  clear hb hc hz
  go_loopw [5, 6] (fun p i wr => ∃ k : Nat, k ≤ len0 ∧ i = .int .i64 k ∧ p = .slice (some ⟨w.heap.size, 0, none⟩) k (len0 + a1.size) ∧ wr.ownsRow w.heap.size 5 1 (.slice (some ⟨w.heap.size, 0, none⟩) k (len0 + a1.size)) k ((pd z0 k).map (Value.int .u8)) ∧ Below w.heap.size w wr) (fun _ i _ => len0 - (intOf i).toNat)
  case atStart => exact ⟨0, Nat.zero_le _, rfl, rfl, hown, hB⟩
  case round =>
    obtain ⟨k, hk, rfl, rfl, hown, hB⟩ := hrel
    by_cases hlt : k < len0
    · have hc1 : wr.cell? ⟨b, off + k, none⟩ = some (.int .u8 (z0.getD k 0)) := (hB.cell (p := ⟨b, off + k, none⟩) (hbl (by omega))).trans (HC.out k (by rw [HZ.out]; omega))
      have hb1 := HB.out k (by rw [HZ.out]; omega)
      obtain ⟨q1, q2⟩ := hb1
      have hsz := hB.size
      have HS : Hid (pd z0 (k + 1) = pd z0 k ++ [48 + (z0.getD k 0) % 10]) := pd_succ z0 k (by rw [HZ.out]; omega)
      generalize z0.getD k 0 = zk at *
      go_wp2_with (first | (at_builtin; refine wpList_append_fits _ rfl _ _ 25 rfl w.heap.size 5 i0 1 Yba.underlying25 hi hz1 w.heap.size k (len0 + a1.size) _ rfl (hown.alloc _) ⟨wr.heap.size, 0, none⟩ 1 1 [.int .u8 (48 + zk % 10)] rfl rfl (cell_one_new _ _ _) (fun x hx => by simp at hx; subst hx; rfl) (by omega) ?_; intro w3 hown3 hg3))
      go_roundw
      case rel =>
        refine ⟨k + 1, by omega, by go_num, rfl, ?_, ?_⟩
        · rw [HS.out, List.map_append]; exact hown3
        · exact (hB.alloc hB.size _).grown hg3 (by simp; omega) (fun j h => by simp at h; omega)
      case measure => simp [intOf]; omega
    · obtain rfl : k = len0 := by omega
      have hsz := hB.size
      have c6a := fun w1 => digits_any a1 w1 (by unfold maxLen; omega)
      have HN : Hid (dg (strOfNums (nums z0 k a1)).data.toList = k + dg a1.data.toList) := dg_nums z0 k a1 (by rw [HZ.out]; exact hl)
      have c6b := fun w1 => digits_any (strOfNums (nums z0 k a1)) w1 (by rw [strOfNums_size, nums_len z0 k a1 (by rw [HZ.out]; exact hl)]; unfold maxLen; omega)
      rw [HN.out] at c6b
      have hdl := dg_le a1.data.toList
      rw [len_list] at hdl
      generalize dg a1.data.toList = n at *
      have hnl := nums_len z0 k a1 (by rw [HZ.out]; exact hl)
      have HNL : Hid ((nums z0 k a1).length = k + a1.size) := hnl
      clear hnl hk hlt
      go_wp2_with (first | (at_builtin; refine Lib.wpList_append_own_string _ rfl _ _ 25 9 rfl w.heap.size 5 i0 Yba.underlying25 Yba.underlying9 hi hz0 hz1 hz2 (.slice (some ⟨w.heap.size, 0, none⟩) k (k + a1.size)) _ _ rfl hown a1 rfl (by unfold maxLen; omega) (by omega) (by omega) ?_; intro v' w3 hown3 hg3 hnil3; obtain ⟨g3, cap3, hv3⟩ := own_shape hown3 (fun e => by have := (hnil3.1 e).1; cases this); rw [hv3]; rw [hv3, strCells_nums] at hown3; have hcv := run_convert_bytes_arg (P := Yba.prog) w3 25 5 Yba.underlying25 Yba.underlying5 g3 0 (k + a1.size) cap3 (nums z0 k a1) HNL.out (own_cells hown3) 9 Yba.underlying9; clear hnil3 hv3 hown3 hown))
      refine (c6b _).mono ?_
      rintro e w' ⟨rfl, rfl⟩
      go_wp2_with fail
      refine (c6a _).mono ?_
      rintro e w' ⟨rfl, rfl⟩
      go_wp2
      go_ret
      refine ⟨ret_bool ?_, hB.grown hg3 hsz (fun j h => by simp [Value.ownBlock] at h; omega)⟩
      simp

set_option maxRecDepth 100000 in
set_option maxHeartbeats 1000000 in
theorem walk_zero (a0 : Option Addr) (cap0 : Nat) (a1 : ByteArray) (w : World) (h2 : a1.size ≤ 4096) :
    Calls Yba.prog 4 #[.slice a0 0 cap0, .string a1] w fun e w' => e = .returned (.bool true) ∧ Below w.heap.size w w' := by
  obtain ⟨i0, hi, hz0, hz1, hz2⟩ := info_parts info5
  have d2 : decide ((4096 : Int) < (a1.size : Int)) = false := by simp; omega
  have d4 : decide (4096 < a1.size) = false := by simp; omega
  go_enter Yba.func4, Yba.ntmps4
  go_wp2_with (first | (at_make; refine wpList_make_own _ rfl _ _ 25 rfl w.heap.size 5 i0 (.int .u8 0) 1 Yba.underlying25 hi hz0 hz1 .i64 .i64 _ a1.size rfl rfl (by simp) (by rw [hz2]; omega) (by unfold maxLen; omega) (Nat.le_refl _) ?_; intro w1 hown hg))
  have hB : Below w.heap.size w w1 := (Below.refl _ w).grown hg (Nat.le_refl _) (fun k h => by cases h)
  clear hg
  go_loopw [5, 6] (fun p i wr => ∃ k : Nat, k ≤ 0 ∧ i = .int .i64 k ∧ p = .slice (some ⟨w.heap.size, 0, none⟩) k a1.size ∧ wr.ownsRow w.heap.size 5 1 (.slice (some ⟨w.heap.size, 0, none⟩) k a1.size) k ((pd [] k).map (Value.int .u8)) ∧ Below w.heap.size w wr) (fun _ i _ => 0 - (intOf i).toNat)
  case atStart => exact ⟨0, Nat.zero_le _, rfl, rfl, hown, hB⟩
  case round =>
    obtain ⟨k, hk, rfl, rfl, hown, hB⟩ := hrel
    obtain rfl : k = 0 := by omega
    have hsz := hB.size
    have c6a := fun w1 => digits_any a1 w1 (by unfold maxLen; omega)
    have HN : Hid (dg (strOfNums (nums [] 0 a1)).data.toList = dg a1.data.toList) := (by show dg (strOfNums (nums [] 0 a1)).data.toList = dg a1.data.toList; rw [dg_nums [] 0 a1 (by simp), Nat.zero_add])
    have c6b := fun w1 => digits_any (strOfNums (nums [] 0 a1)) w1 (by rw [strOfNums_size, nums_len [] 0 a1 (by simp)]; unfold maxLen; omega)
    rw [HN.out] at c6b
    have hdl := dg_le a1.data.toList
    rw [len_list] at hdl
    generalize dg a1.data.toList = n at *
    have hnl := nums_len [] 0 a1 (by simp)
    rw [Nat.zero_add] at hnl
    have HNL : Hid ((nums [] 0 a1).length = a1.size) := hnl
    clear hnl
    go_wp2_with (first | (at_builtin; refine Lib.wpList_append_own_string _ rfl _ _ 25 9 rfl w.heap.size 5 i0 Yba.underlying25 Yba.underlying9 hi hz0 hz1 hz2 (.slice (some ⟨w.heap.size, 0, none⟩) 0 a1.size) _ _ rfl hown a1 rfl (by unfold maxLen; omega) (by omega) (by omega) ?_; intro v' w3 hown3 hg3 hnil3; rw [Nat.zero_add] at hown3; obtain ⟨g3, cap3, hv3⟩ := own_shape hown3 (fun e => by have := (hnil3.1 e).1; cases this); rw [hv3]; rw [hv3, strCells_nums] at hown3; have hcv := run_convert_bytes_arg (P := Yba.prog) w3 25 5 Yba.underlying25 Yba.underlying5 g3 0 a1.size cap3 (nums [] 0 a1) HNL.out (own_cells hown3) 9 Yba.underlying9; clear hnil3 hv3 hown3 hown))
    refine (c6b _).mono ?_
    rintro e w' ⟨rfl, rfl⟩
    go_wp2_with fail
    refine (c6a _).mono ?_
    rintro e w' ⟨rfl, rfl⟩
    go_wp2
    go_ret
    refine ⟨ret_bool ?_, hB.grown hg3 hsz (fun j h => by simp [Value.ownBlock] at h; omega)⟩
    simp

theorem u8_bd {z : Int} (h : (Lit.int .u8 z).wf = true) : 0 ≤ z ∧ z ≤ 255 := by
  simp [Lit.wf, IntKind.min, IntKind.max, IntKind.signed, IntKind.bits] at h
  omega

theorem walk (a0 : Option Addr) (len0 cap0 : Nat) (z0 : List Int) (a1 : ByteArray) (w : World) (w0 : IsRow .u8 w a0 len0 cap0 z0) (w1 : a1.size ≤ maxLen) :
    Calls Yba.prog 4 #[.slice a0 len0 cap0, .string a1] w fun e w' => e = .returned (.bool true) ∧ Below w.heap.size w w' := by
  by_cases h1 : 1024 < len0
  · clear w0
    go_enter Yba.func4, Yba.ntmps4
    go_wp2
    go_ret
    exact ⟨rfl, Below.refl _ _⟩
  by_cases h2 : 4096 < a1.size
  · clear w0
    go_enter Yba.func4, Yba.ntmps4
    go_wp2
    go_ret
    exact ⟨rfl, Below.refl _ _⟩
  by_cases h0 : len0 = 0
  · subst h0
    exact walk_zero a0 cap0 a1 w (by omega)
  rcases w0 with ⟨_, e, _⟩ | ⟨x, rfl, hl, hm, hz, hc, hw⟩
  · exact absurd e h0
  · obtain ⟨b, off, spot⟩ := x
    have hc0 := hc 0 (by omega)
    have hspot : spot = none := by simpa [Addr.add] using World.cell?_spot hc0
    subst hspot
    refine walk_some b off len0 cap0 z0 a1 w hl hz (fun i hi => ?_) (fun i hi => ?_) (by omega) (by omega)
    · have hplain : (⟨b, off, none⟩ : Addr).add i = ⟨b, off + i, none⟩ := by unfold Addr.add; split <;> simp_all
      rw [← hplain]; exact hc i hi
    · rw [List.getD_eq_getElem?_getD, List.getElem?_eq_getElem hi]; exact u8_bd (hw _ (List.getElem_mem hi))

/-! ### THE ROW's STEP: WRITTEN OUT: LEAVE IT -/
set_option maxRecDepth 100000 in
theorem lifted (os : Os) (started : os.Started) (H : Type) (enc : TypeId × Value → H) :
    ReturnsInHanded {} Yba.checked os 4 .any (Rows.lawS2365BPrefixSpec.pre6 enc Yba.prog Yba.f4 Rows.lawS2365BPrefixRow.domain false) (Rows.lawS2365BPrefixSpec.post enc Yba.prog Yba.f4 false true false false) := by
  refine returnsInHanded_of_change (C := Yba.checked) own started (by kernel_rfl) Yba.func4
    (ChangeSpec.witness6 (enc := enc) (C := Yba.checked) false ⟨#[], #[.slice none 0 0, .string ByteArray.empty], []⟩ 8 (by kernel_rfl) (by kernel_rfl) (by kernel_rfl) (by kernel_rfl)) ?_
  intro W base args ds gs before hval0 hW hcnd _
  have hval : ∀ (j : Nat) t v, Yba.f4.params[j]? = some t → args[j]? = some v → Value.okWide Yba.prog W .any base t v := hval0
  have hW' := hW
  obtain ⟨p, q, hA0, hV, rfl, hfz, hnd⟩ := hW
  have hA : DataW.TrodAll enc Yba.prog W 0 (fun _ => true) true Yba.f4.params.toList args.toList ds p := hA0
  rw [Yba.params4] at hA hval
  obtain ⟨v0, vs0, d0, ds0, p0, q0, hargs, rfl, rfl, h0, r0⟩ := trodAll_cons hA
  obtain ⟨v1, vs1, d1, ds1, p1, q1, rfl, rfl, rfl, h1, r1⟩ := trodAll_cons r0
  obtain ⟨rfl, rfl, rfl⟩ := trodAll_nil r1
  obtain rfl : args = #[v0, v1] := by cases args; simp_all
  obtain ⟨rfl, rfl⟩ := trodVars_none hV
  obtain ⟨a0, len0, cap0, rfl⟩ := okWide_slice Yba.underlying25 (hval 0 25 v0 rfl rfl)
  have k0 := h0
  have lt0 : ∀ x ∈ p0, x.block < W.heap.size := by obtain ⟨m, hm⟩ := k0; exact DataW.trod_lt m _ _ _ hm
  obtain ⟨z0, w0⟩ : ∃ zs, IsRow .u8 W a0 len0 cap0 zs := by
    obtain ⟨fuel, hf⟩ := h0
    rcases open_ints Yba.underlying25 Yba.underlying5 (by kernel_rfl) hf with ⟨hcs, _⟩ | ⟨x, l, c, zs, hcs, _, hl, hm, hz, _, hcell, hwz⟩
    · simp [Value.cells] at hcs
      obtain ⟨rfl, rfl, rfl⟩ := hcs
      exact ⟨[], .inl ⟨rfl, rfl, rfl, rfl⟩⟩
    · simp [Value.cells] at hcs
      obtain ⟨rfl, rfl, rfl⟩ := hcs
      exact ⟨zs, .inr ⟨_, rfl, hl, hm, by simpa using hz, hcell, hwz⟩⟩
  obtain ⟨a1, rfl, rfl, rfl, w1⟩ := open_string Yba.underlying9 (hval 1 9 v1 rfl rfl) h1
  clear hA0 hval0
  refine (walk a0 len0 cap0 z0 a1 W w0 w1).mono fun e W' ⟨he, bel⟩ => ?_
  subst he
  exact ⟨_, rfl, _, _, _, [], _, [], hW', trodAll_mk1 (shut_bool Yba.underlying4 _), (trodAll_cons_mk (Below.trod laidOut (by kernel_rfl) (of_decide_eq_true (by kernel_rfl)) k0 bel lt0) (trodAll_cons_mk (shut_string Yba.underlying9 w1) trodAll_mk0)), rfl, bel.frame _, fun h => by cases h⟩

theorem over : Rows.lawS2365BPrefixRow.holds Yba.pinned (OpenSpec.ofChange Rows.lawS2365BPrefixSpec) :=
  OpenClaim.holds_of_wide 4 Yba.f4 rfl rfl rfl rfl rfl rfl rfl ⟨rfl, rfl, rfl, rfl, rfl⟩ rfl rfl rfl rfl rfl (by kernel_rfl) Yba.func4 (by kernel_rfl)
    (of_decide_eq_true (by kernel_rfl)) (by unfold Func.isWrapper; first | (rw [if_pos (by decide +kernel)]; kernel_rfl) | (rw [if_neg (by decide +kernel)]; exact ⟨rfl, rfl⟩))
    (fun os started H enc _ => lifted os started H enc)

/-- THE STATEMENT -/
theorem proved : Rows.LawS2365BPrefixSaid := over
end Go.Proofs.Ybulkavym.lawS2365BPrefix

namespace Go.Proofs.Ybulkavym
theorem prefix_law : Rows.LawS2365BPrefixSaid := lawS2365BPrefix.proved
#print axioms prefix_law
end Go.Proofs.Ybulkavym
