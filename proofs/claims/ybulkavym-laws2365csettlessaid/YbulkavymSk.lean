import Derived.Test.YbulkavymSj
namespace Go.Proofs.Ybulkavym
open Go.RowKit
set_option linter.unusedVariables false
set_option linter.unusedSimpArgs false
theorem info48 : (Yba.prog.info? 48).map (fun i => (i.zero, i.size, i.bytes)) = some (some (.slice none 0 0), 1, 24) := by kernel_rfl
theorem info56 : (Yba.prog.info? 56).map (fun i => (i.zero, i.size, i.bytes)) = some (some (.pointer none), 1, 8) := by kernel_rfl
theorem info25 : (Yba.prog.info? 25).map (fun i => (i.zero, i.size, i.bytes)) = some (some (.slice none 0 0), 1, 24) := by kernel_rfl

/-- What is asked of a type's zero value: its cells' number, two of its cells. -/
def zeroHas (t : TypeId) (n j k : Nat) (x y : Value) : Prop := ∃ Z : Array Value, (∀ w, (zeroValue t).run Yba.prog w = .ok (.agg Z) w) ∧ Z.size = n ∧ Z[j]? = some x ∧ Z[k]? = some y
def zArrIn (P : Program) (t : TypeId) : Array Value := match (P.info? t).bind (·.zero) with | some (.agg Z) => Z | _ => #[]
theorem zeroHas_of {t : TypeId} {n j k : Nat} {x y : Value} (h : (Yba.prog.info? t).map (fun i => i.zero) = some (some (.agg (zArrIn Yba.prog t)))) (hn : (zArrIn Yba.prog t).size = n) (hj : (zArrIn Yba.prog t)[j]? = some x) (hk : (zArrIn Yba.prog t)[k]? = some y) : zeroHas t n j k x y := by
  refine ⟨zArrIn Yba.prog t, fun w => ?_, hn, hj, hk⟩
  obtain ⟨i, h1, h2⟩ := Option.map_eq_some_iff.1 h
  simp [zeroValue, typeInfo, h1, h2]
theorem zero44 : zeroHas 44 78 6 77 (.slice none 0 0) (.int .i64 0) := zeroHas_of (by kernel_rfl) (by kernel_rfl) (by kernel_rfl) (by kernel_rfl)
theorem zero70 : zeroHas 70 22 0 7 (.int .i32 0) (.slice none 0 0) := zeroHas_of (by kernel_rfl) (by kernel_rfl) (by kernel_rfl) (by kernel_rfl)

/-- While a record's versions are laid: the local copy at wr's end, the versions behind it. -/
structure Inn (wr : World) (d : RD) (cap q : Nat) (L : List Ver) (wx : World) : Prop where
  own : wx.ownsRow (wr.heap.size + 1) 53 4 (.slice (some ⟨wr.heap.size + 1, 0, none⟩) q cap) q (vcells L)
  bel : Below wr.heap.size wr wx
  loc : wx.heap[wr.heap.size]? = some (.cells #[.int .u8 d.b, .int .u8 d.a, .bool d.h, .bool d.p] 47 (0, 0))
  siz : wr.heap.size + 2 ≤ wx.heap.size
theorem own_below {w w' : World} {base e size n : Nat} {v : Value} {xs : List Value} (h : w.ownsRow base e size v n xs) (hb : Below w.heap.size w w') : w'.ownsRow base e size v n xs := by
  refine ⟨h.1, ?_⟩
  rcases h.2 with h | ⟨g, cap, cur, hv, hg, hh, r⟩
  · exact Or.inl h
  · exact Or.inr ⟨g, cap, cur, hv, hg, (hb.block g (lt_heap hh)).trans hh, r⟩
theorem Inn.laid {wr : World} {d : RD} {cap q : Nat} {L : List Ver} {wx w3 : World} (h : Inn wr d cap q L wx) (hb : Below wx.heap.size wx w3) (o : Obj) : (w3.alloc o).ownsRow (wr.heap.size + 1) 53 4 (.slice (some ⟨wr.heap.size + 1, 0, none⟩) q cap) q (vcells L) := (own_below h.own hb).alloc _
theorem Inn.add {wr : World} {d : RD} {cap q : Nat} {L : List Ver} {wx w3 w4 : World} {v : Ver} {o : Obj} (h : Inn wr d cap q L wx) (hb : Below wx.heap.size wx w3) (hg : (w3.alloc o).grownBy w4 (some (wr.heap.size + 1))) (hown : w4.ownsRow (wr.heap.size + 1) 53 4 (.slice (some ⟨wr.heap.size + 1, 0, none⟩) (q + 1) cap) (q + 1) (vcells L ++ [.slice v.a v.n v.c, .bool v.p, .int .u64 v.w, .pointer none])) : Inn wr d cap (q + 1) (L ++ [v]) w4 := by
  have h1 := h.siz
  have h2 := hb.size
  have h3 := hg.size
  simp at h3
  refine ⟨by rw [vcells_app]; exact hown, ?_, ?_, by omega⟩
  · exact ((h.bel.trans (hb.mono (by omega))).alloc (by omega) o).grown hg (by simp; omega) (fun k e => by simp at e; omega)
  · rw [hg.block _ (by simp; omega) (by simp), Below.heap_alloc _ _ _ (by omega), hb.block _ (by omega)]
    exact h.loc
theorem cells4_new (w : World) (a b c d : Value) (t : TypeId) : ∀ j u, [a, b, c, d][j]? = some u → (w.alloc (.cells #[a, b, c, d] t)).cell? ((⟨w.heap.size, 0, none⟩ : Addr).add j) = some u := by
  intro j u hu
  rw [Addr.add_lit, Nat.zero_add, cell_blk (heap_alloc_new w _) j]
  simpa using hu
theorem one4 (v : Ver) : ∀ u ∈ [Value.slice v.a v.n v.c, .bool v.p, .int .u64 v.w, .pointer none], u.oneCell' = true := by
  intro u hu
  simp only [List.mem_cons, List.not_mem_nil, or_false] at hu
  rcases hu with rfl | rfl | rfl | rfl <;> rfl
theorem Oth.add {id : Int} {L : List Ver} {v : Ver} (h : Oth id L) (hg : Good v.b) (hw : v.w ≠ id) : Oth id (L ++ [v]) := by
  intro u hu
  rcases List.mem_append.1 hu with e | e
  · exact h u e
  · simp at e; subst e; exact ⟨hg, hw⟩

end Go.Proofs.Ybulkavym
