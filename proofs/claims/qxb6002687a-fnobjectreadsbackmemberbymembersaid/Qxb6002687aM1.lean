import Derived.Test.Qxb6002687aO3
namespace Go.Proofs.Qxb6002687a
set_option linter.unusedVariables false
set_option linter.unusedSimpArgs false
open Go.RowKit Go.Zq Go.Zp

set_option maxHeartbeats 4000000 in
set_option maxRecDepth 100000 in
theorem law5_early (a1 a2 : Option Addr) (n1 c1 n2 c2 : Nat) (ns vs : List ByteArray) (w : World)
    (hr1 : RdS w w.heap.size a1 c1 ns) (hn1 : ns.length = n1) (hr2 : RdS w w.heap.size a2 c2 vs) (hn2 : vs.length = n2) (hbig : 1024 < n1 ∨ 1024 < n2) :
    Calls Try.prog 5 #[.slice a1 n1 c1, .slice a2 n2 c2] w fun e w' => e = .returned (.bool true) ∧ Below w.heap.size w w' := by
  have hb := bytes20_any a1 a2 n1 c1 n2 c2 _ ns vs w hr1 hr2 hn1 hn2
  have H20 := hide hb
  have hm1 : n1 ≤ 9223372036854775807 := by have := hr1.le; have := hr1.max; unfold maxLen at this; omega
  have hm2 : n2 ≤ 9223372036854775807 := by have := hr2.le; have := hr2.max; unfold maxLen at this; omega
  clear hb hr1 hr2 hn1 hn2
  have HB := hide hbig
  clear hbig
  go_enter Try.func5, Try.ntmps5
  go_wp2_with fail
  refine (unhide H20).mono ?_
  rintro e w1 ⟨⟨y, rfl, _⟩, rfl⟩
  cases y
  · go_wp2
    go_ret
    exact ⟨rfl, Below.refl _ _⟩
  · rcases (show 1024 < n1 ∨ (n1 ≤ 1024 ∧ 1024 < n2) from by have := unhide HB; omega) with h | ⟨ha, h⟩
    all_goals
      go_wp2
      go_ret
      exact ⟨rfl, Below.refl _ _⟩

theorem Try.info22 : (Try.prog.info? 22).map (fun i => (i.zero, i.size, i.bytes)) = some (some (.slice none 0 0), 1, 24) := by kernel_rfl

/-- A row just made. -/
theorem Arr.make {w : World} {base H n : Nat} {xs : List Value} (h : w.ownsRow base 22 1 (.slice (some ⟨H, 0, none⟩) n n) n xs) : (∀ j, j < n → ∃ u, w.cell? ⟨H, j, none⟩ = some u) ∧ ∀ j, w.frozen? ⟨H, j, none⟩ = false := by
  rcases h.2 with ⟨h, _⟩ | ⟨g', cap', cur, hv, hb, hg, hnc, hm, hcs, _⟩
  · simp at h
  · simp only [Value.slice.injEq, Option.some.injEq, Addr.mk.injEq, and_true, true_and] at hv
    obtain ⟨rfl, rfl⟩ := hv
    refine ⟨fun j hj => ?_, fun j => by simp [World.frozen?, hg]⟩
    have hj' : j < cur.size := by omega
    exact ⟨cur[j], by rw [cell_of_row w H j cur 22 (0, 0) hg]; simp [hj']⟩

theorem tot_take_le' (ss : List ByteArray) (k : Nat) : tot (ss.take k) ≤ tot ss := by
  have h : tot ss = tot (ss.take k) + tot (ss.drop k) := by
    conv => lhs; rw [← List.take_append_drop k ss]
    simp only [tot, List.map_append, List.sum_append]
  omega
theorem sat_tot' (ss : List ByteArray) (k : Nat) (h : k < ss.length) : (sat ss k).size ≤ tot ss := by
  have := tot_snoc ss k h
  have := tot_take_le' ss (k + 1)
  omega
theorem own_built1 (w : World) (c : Int) : Own w.heap.size (w.alloc (.cells #[.int .u8 c] 5)) (.slice (some ⟨w.heap.size, 0, none⟩) 1 1) [c] :=
  ⟨rfl, .inr ⟨w.heap.size, 1, _, rfl, Nat.le_refl _, heap_alloc_new w _, Nat.le_refl _, by simp [maxLen], rfl, rfl⟩⟩

def nmL (ns : List ByteArray) (i : Nat) : List Int := enc (sB (sat ns i))
theorem nmL_str (ns : List ByteArray) (i : Nat) : Str (nmL ns i) := ⟨_, sB_nonneg _, rfl⟩
theorem nmL_len (ns : List ByteArray) (i : Nat) : (nmL ns i).length ≤ 6 * (sat ns i).size + 2 := by have := enc_len (sB (sat ns i)); rw [sB_length] at this; exact this

/-- What is known of the values laid so far. -/
def VP (vs : List ByteArray) (k : Nat) (V : Nat → List Int) : Prop := ∀ i, i < k → Val (V i) ∧ (V i).length ≤ 12 * (sat vs i).size + 24
/-- V, and x at place k -/
def upd (V : Nat → List Int) (k : Nat) (x : List Int) (i : Nat) : List Int := if i = k then x else V i
theorem upd_at (V : Nat → List Int) (k : Nat) (x : List Int) : upd V k x k = x := if_pos rfl
theorem upd_lt (V : Nat → List Int) (k : Nat) (x : List Int) (i : Nat) (h : i < k) : upd V k x i = V i := if_neg (by omega)
theorem VP.put {vs : List ByteArray} {k : Nat} {V : Nat → List Int} (h : VP vs k V) {x : List Int} (h1 : Val x) (h2 : x.length ≤ 12 * (sat vs k).size + 24) : VP vs (k + 1) (upd V k x) := by
  intro i hi
  by_cases e : i = k
  · subst e; rw [upd_at]; exact ⟨h1, h2⟩
  · rw [upd_lt V k x i (by omega)]; exact h i (by omega)

theorem szK_le (ns vs : List ByteArray) (V : Nat → List Int) (n : Nat) (hV : VP vs n V) (h1 : n ≤ ns.length) (h2 : n ≤ vs.length) : szK (nmL ns) V n ≤ 2 + 28 * n + 6 * tot (ns.take n) + 12 * tot (vs.take n) := by
  induction n with
  | zero => simp only [szK]; omega
  | succ n ih =>
    have i1 := ih (fun i hi => hV i (by omega)) (by omega) (by omega)
    have i2 := nmL_len ns n
    have i3 := (hV n (by omega)).2
    have i4 := tot_snoc ns n (by omega)
    have i5 := tot_snoc vs n (by omega)
    simp only [szK]; omega

end Go.Proofs.Qxb6002687a
