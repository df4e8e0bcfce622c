import Derived.Test.Qxb6002687aS1
namespace Go.Proofs.Qxb6002687a
set_option linter.unusedVariables false
set_option linter.unusedSimpArgs false
open Go.RowKit Go.Zq Go.Zp

/-- cell j holds a digit -/
def DigC (cur : Array Value) (j : Nat) : Prop := ∃ d : Int, 48 ≤ d ∧ d ≤ 57 ∧ cur[j]? = some (.int .u8 d)

/-- The array of digits in memory: from place i on there are digits. -/
structure Digs (w : World) (G i : Nat) (cur : Array Value) : Prop where
  blk : w.heap[G]? = some (.cells cur 47 (0, 0))
  size : cur.size = 20
  dig : ∀ j, i ≤ j → j < 20 → DigC cur j

theorem Digs.cell {w : World} {G i : Nat} {cur : Array Value} (h : Digs w G i cur) {k : Nat} (hk : k < 20) : ∃ u, w.cell? ⟨G, k, none⟩ = some u := by
  have : k < cur.size := by have := h.size; omega
  exact ⟨cur[k], by rw [cell_of_row w G k cur 47 (0, 0) h.blk]; simp [this]⟩
theorem Digs.free {w : World} {G i : Nat} {cur : Array Value} (h : Digs w G i cur) (k : Nat) : w.frozen? ⟨G, k, none⟩ = false := by
  simp [World.frozen?, h.blk]
theorem Digs.put {w : World} {G k : Nat} {cur : Array Value} (h : Digs w G (k + 1) cur) (hk : k < 20) (d : Int) (h1 : 48 ≤ d) (h2 : d ≤ 57) :
    Digs (w.setCell ⟨G, k, none⟩ (.int .u8 d)) G k (cur.setIfInBounds k (.int .u8 d)) := by
  refine ⟨?_, by simp [h.size], fun j hj hj2 => ?_⟩
  · rw [setCell_eq_setRow w G k cur 47 (0, 0) _ h.blk, setRow_heap w G cur _ 47 _ h.blk]
  · have hsz := h.size
    by_cases e : k = j
    · subst e
      exact ⟨d, h1, h2, by simp [Array.getElem?_setIfInBounds, hsz, hk]⟩
    · obtain ⟨d', a, b, c⟩ := h.dig j (by omega) hj2
      exact ⟨d', a, b, by rw [Array.getElem?_setIfInBounds, if_neg e]; exact c⟩

/-- The digits from place k on, as a reading. -/
theorem Digs.rd {w : World} {G k : Nat} {cur : Array Value} (h : Digs w G k cur) (hk : k < 20) :
    ∃ ds : List Int, ds.length = 20 - k ∧ (∀ c ∈ ds, 48 ≤ c ∧ c ≤ 57) ∧ Rd w w.heap.size (some ⟨G, k, none⟩) (20 - k) ds := by
  have key : ∀ n, k + n ≤ 20 → ∃ ds : List Int, ds.length = n ∧ (∀ c ∈ ds, 48 ≤ c ∧ c ≤ 57) ∧ ∀ i, i < n → cur[k + i]? = some (.int .u8 (bat ds i)) := by
    intro n
    induction n with
    | zero => intro _; exact ⟨[], rfl, by simp, fun i hi => by omega⟩
    | succ n ih =>
      intro hn
      obtain ⟨ds, h1, h2, h3⟩ := ih (by omega)
      obtain ⟨d, a, b, c⟩ := h.dig (k + n) (by omega) (by omega)
      refine ⟨ds ++ [d], by simp [h1], ?_, fun i hi => ?_⟩
      · intro x hx
        rcases List.mem_append.1 hx with hx | hx
        · exact h2 x hx
        · simp at hx; subst hx; exact ⟨a, b⟩
      · by_cases e : i = n
        · subst e
          rw [c]; unfold bat; simp [← h1]
        · rw [h3 i (by omega)]
          unfold bat
          rw [List.getD_eq_getElem?_getD, List.getD_eq_getElem?_getD, List.getElem?_append_left (by omega)]
  obtain ⟨ds, h1, h2, h3⟩ := key (20 - k) (by omega)
  refine ⟨ds, h1, h2, ⟨by omega, by unfold maxLen; omega, by simp, .inr ⟨G, k, rfl, (Array.getElem?_eq_some_iff.1 h.blk).1, fun i hi => ?_⟩⟩⟩
  rw [cell_of_row w G (k + i) cur 47 (0, 0) h.blk, h3 i (by omega)]

theorem pow_step (u : Int) (k : Nat) (h0 : 0 ≤ u) (h : u < 10 ^ (k + 1)) : u / 10 < 10 ^ k := by
  rw [Int.pow_succ] at h; omega
theorem pow_zero_lt (u : Int) (h0 : 0 ≤ u) (h : u < 10 ^ 0) : u = 0 := by simp at h; omega
theorem u64_lt (x : Int) : 0 ≤ IntKind.u64.wrap x ∧ IntKind.u64.wrap x < 10 ^ (19 + 1) := by
  rw [IntKind.wrap_u64]; omega

theorem own_setOther {base : Nat} {w : World} {v : Value} {bs : List Int} (h : Own base w v bs) {a : Addr} (ha : v.ownBlock ≠ some a.block) (u : Value) : Own base (w.setCell a u) v bs := ownsRow_setCell_other h ha u

theorem arr47 : Try.prog.arrayLen 47 = 20 := by kernel_rfl
theorem elem47 : Try.prog.elem 47 = 5 := by kernel_rfl
theorem und47 : Try.prog.underlying 47 = some (.array (Try.prog.arrayLen 47) (Try.prog.elem 47)) := by kernel_rfl
theorem size_of5 (w : World) : (sizeOf 5).run Try.prog w = .ok 1 w := by kernel_rfl

theorem slice_arr (g k : Nat) (hk : k < 20) (w : World) : (Instr.sliceAt 47 (.pointer (some ⟨g, 0, none⟩)) (some (.int .i64 (k : Int))) none none).run Try.prog w = .ok (.slice (some ⟨g, k, none⟩) (20 - k) (20 - k)) w := by
  rw [run_sliceAt_array_l w 47 ⟨g, 0, none⟩ und47 .i64 (k : Int) (by omega) (by rw [arr47]; omega), elem47, size_of5, arr47]
  simp only [Result.andThen_ok, slicedAt, Int.toNat_natCast]
  rw [if_neg (by omega), Addr.add_lit]
  simp

theorem tdiv10 (u : Int) (h0 : 0 ≤ u) (h1 : u < 18446744073709551616) : IntKind.u64.wrap (u.tdiv 10) = u / 10 := by
  rw [Int.tdiv_eq_ediv_of_nonneg h0, IntKind.wrap_u64]; omega
theorem u64_top (x : Int) : IntKind.u64.wrap x < 18446744073709551616 := by rw [IntKind.wrap_u64]; omega

set_option maxHeartbeats 1000000 in
theorem int_any (n : Nat) (w : World) (hn : n ≤ 1000000) :
    Calls Try.prog 12 #[.slice none 0 0, .int .i64 (-(n : Int) - 1)] w fun e w' => ∃ v' ds, e = .returned v' ∧ Own w.heap.size w' v' (45 :: ds) ∧ (∀ c ∈ ds, 48 ≤ c ∧ c ≤ 57) ∧ 0 < ds.length ∧ ds.length ≤ 20 ∧ Below w.heap.size w w' := by
  have hbel0 := Below.refl w.heap.size w
  have hown0 := Own.nil w.heap.size w
  go_enter Try.func12, Try.ntmps12
  go_wp2_with (first
    | (at_builtin; refine wpList_append_lit _ rfl (.tmp 12) (.tmp 13) 22 rfl w.heap.size Try.underlying22 Try.info5 _ _ [45] 1 _ w rfl rfl rfl rfl hown0 hbel0 (by simp) (by omega) ?_; intro v1 w1 hown1 hbel1 hsz1))
  have hne : v1.ownBlock ≠ some w1.heap.size := fun e => by have := hown1.lt _ e; omega
  have HNE := hide hne
  clear hne
  go_loopg [5, 7] 20 (fun g su si wr => ∃ (k : Nat) (u : Int) (cur : Array Value), g = k + 1 ∧ k < 20 ∧ su = .int .u64 u ∧ 0 ≤ u ∧ Hid (u < 10 ^ (k + 1) ∧ u < 18446744073709551616) ∧ si = .int .i64 ((k : Int) + 1) ∧ Digs wr w1.heap.size (k + 1) cur ∧ Own w.heap.size wr v1 [45] ∧ Below w.heap.size w wr)
  case atStart =>
    exact ⟨19, _, _, rfl, by omega, rfl, (u64_lt _).1, ⟨(u64_lt _).2, u64_top _⟩, by go_num, ⟨heap_alloc_new w1 _, rfl, fun j h1 h2 => by omega⟩, hown1.alloc _, hbel1.alloc hsz1 _⟩
  case round =>
    clear hown0 hbel0 hown1 hbel1
    obtain ⟨k, u, cur, rfl, hk, rfl, hu0, HU, rfl, hD, hown, hbel⟩ := hrel
    obtain ⟨old, hcell⟩ := hD.cell hk
    have hfree := hD.free k
    have hmod : 0 ≤ u % 10 ∧ u % 10 < 10 := by omega
    have hsl := fun W => slice_arr w1.heap.size k hk W
    cases hz : (IntKind.u64.wrap (u.tdiv 10) == 0)
    · go_wp2
      obtain ⟨h1, h2⟩ := unhide HU
      have e := tdiv10 u hu0 h2
      have h3 := pow_step u k hu0 h1
      have hk0 : 0 < k := by
        rcases Nat.eq_zero_or_pos k with h | h
        · subst h
          have := pow_zero_lt (u / 10) (by omega) h3
          rw [e, this] at hz; simp at hz
        · exact h
      go_roundg k
      case measure => omega
      case rel =>
        refine ⟨k - 1, _, _, by omega, by omega, rfl, by rw [e]; omega, ⟨?_, u64_top _⟩, by go_num, by rw [show k - 1 + 1 = k by omega]; exact hD.put hk (48 + u % 10) (by omega) (by omega), own_setOther hown (unhide HNE) _, hbel.setCell hsz1 _⟩
        rw [e, show k - 1 + 1 = k by omega]; exact h3
    · have hD2 := hD.put hk (48 + u % 10) (by omega) (by omega)
      have hown2 := own_setOther hown (a := ⟨w1.heap.size, k, none⟩) (unhide HNE) (.int .u8 (48 + u % 10))
      have hbel2 := hbel.setCell (p := ⟨w1.heap.size, k, none⟩) hsz1 (.int .u8 (48 + u % 10))
      obtain ⟨ds, hds1, hds2, hrd⟩ := hD2.rd hk
      have hsz2 := hbel2.size
      have HD := hide hds1
      have HD2 := hide hds2
      clear hds1 hds2 hD2
      go_wp2_with (first
        | (at_builtin; refine wpList_append_rd _ rfl (.tmp 30) (.tmp 32) 22 rfl w.heap.size Try.underlying22 Try.info5 _ [45] ds _ (20 - k) _ _ w rfl rfl hrd (unhide HD) hown2 hbel2 (by simp; omega) hsz2 ?_; intro v3 w3 hown3 hbel3 hsz3))
      go_ret
      have hd := unhide HD
      exact ⟨_, ds, rfl, hown3, unhide HD2, by omega, by omega, hbel3⟩

end Go.Proofs.Qxb6002687a
