import Derived.Test.Qxb6604428aPend21
import Derived.Test.Qxb6604428aFail26
import Derived.Lib.AppendZerosOnto
import Derived.LoopN
namespace Go.Proofs.Qxb6604428a.Fail
open Go.ChangeShapes Go.WideShapes Go.ChangeAt Go.RowKit Go.Conc
set_option linter.unusedVariables false

theorem hide {p : Prop} (h : p) : Hid p := h
theorem zero_own (w : World) (m G : Nat) (hG : m ≤ G) (hmax : G ≤ maxLen) (z : Value) (hz : z.cells.size = 12) :
    (w.alloc (.cells (Builtin.zeroCells z.cells m ++ Builtin.zeroCells z.cells (G - m)) 92)).drew.ownsRow w.heap.size 92 12 (.slice (some ⟨w.heap.size, 0, none⟩) 0 G) 0 [] := by
  have hs : ∀ k, (Builtin.zeroCells z.cells k).size = k * 12 := fun k => by simp [Builtin.zeroCells, hz]
  refine ⟨by simp, .inr ⟨w.heap.size, G, Builtin.zeroCells z.cells m ++ Builtin.zeroCells z.cells (G - m), rfl, Nat.le_refl _, ?_, Nat.zero_le _, hmax, ?_, by simp⟩⟩
  · show (w.heap.push _)[w.heap.size]? = _
    simp
  · rw [Array.size_append, hs, hs]
    omega

set_option maxRecDepth 100000 in
set_option maxHeartbeats 1000000 in
theorem grow29 (m : Nat) (w : World) (hm : m ≤ 262144) :
    Calls Try.prog 29 #[.slice none 0 0, .int .i64 m] w fun e w' => ∃ v, e = .returned v ∧ w'.ownsRow w.heap.size 92 12 v 0 [] ∧ Below w.heap.size w w' := by
  by_cases h0 : m = 0
  · subst h0
    go_enter Try.func29, Try.ntmps29
    go_wp2
    go_ret
    exact ⟨_, rfl, World.ownsRow_nil _ _ _ _, Below.refl _ _⟩
  · obtain ⟨i0, hi, hz0, hz1, hz2⟩ := info_parts info92
    have hold : (Builtin.firstCells i0.size 0 (.slice none 0 0)).run Try.prog w.drew = .ok ([] : List Value).toArray w.drew := run_firstCells_none w.drew i0.size 0 0 0
    have hr := fun ty => Lib.run_append_grow_zeros (P := Try.prog) w 44 3 ty 92 i0 _ .i64 .i64 Try.underlying44 Try.underlying3 hi hz0 none 0 0 [] hold m (by omega) (by omega) (by omega) (by omega) (by rw [hz2]; omega)
      (growslice_fits (by omega) (by rw [hz2]; omega))
    simp only [Nat.zero_add] at hr
    have hG1 : m ≤ grownCap w m 0 92 := grownCap_ge w _ _ _
    have hG2 : grownCap w m 0 92 ≤ maxLen := grownCap_le_maxLen w m 0 92 (by unfold maxLen; omega)
    have HO := hide (zero_own w m (grownCap w m 0 92) hG1 hG2 (.agg #[.pointer none, .string ByteArray.empty, .slice none 0 0, .int .i64 0, .bool false, .bool false, .int .i64 0, .slice none 0 0, .int .i64 0, .int .i64 0, .int .i64 0, .int .i64 0]) rfl)
    generalize grownCap w m 0 92 = G at *
    clear hold hi hz0 hz1 hz2
    unfold maxLen at hG2
    have hmp : (0 : Int) < m := by omega
    go_enter Try.func29, Try.ntmps29
    go_wp2_with (at_builtin; refine Lib.wpList_append_run _ rfl _ _ _ _ rfl _ _ rfl rfl _ _ (hr _) ?_)
    go_ret
    exact ⟨_, rfl, HO.out, ((Below.refl _ _).alloc (Nat.le_refl _) _).drew⟩

theorem grow29' (x : Int) (w : World) (h0 : 0 ≤ x) (hm : x ≤ 262144) :
    Calls Try.prog 29 #[.slice none 0 0, .int .i64 x] w fun e w' => ∃ v, e = .returned v ∧ w'.ownsRow w.heap.size 92 12 v 0 [] ∧ Below w.heap.size w w' := by
  obtain ⟨m, rfl⟩ := Int.eq_ofNat_of_zero_le h0
  exact grow29 m w (by omega)

theorem own_ge {w : World} {base : Nat} {e : TypeId} {sz : Nat} {v : Value} {n : Nat} {xs : List Value} (h : w.ownsRow base e sz v n xs) : ∀ k, v.ownBlock = some k → base ≤ k := by
  intro k hk
  rcases h.2 with ⟨rfl, _⟩ | ⟨g, cap, cur, rfl, hg, _⟩
  · simp [Value.ownBlock] at hk
  · simp [Value.ownBlock] at hk
    omega

theorem cur_cell {w : World} {b : Nat} {cur : Array Value} {e : TypeId} (h : w.heap[b]? = some (.cells cur e)) : ∀ j u, cur.toList[j]? = some u → w.cell? ((⟨b, 0, none⟩ : Addr).add j) = some u := by
  intro j u hj
  rw [Addr.add_lit, Nat.zero_add]
  unfold World.cell?
  simp only [h]
  simpa using hj

set_option maxRecDepth 100000 in
set_option maxHeartbeats 1000000 in
theorem concat25 (sb b1 n1 b2 n2 : Nat) (cur1 cur2 : Array Value) (w : World) (hn1 : n1 ≤ 131072) (hn2 : n2 ≤ 131072) (hsb : sb < w.heap.size)
    (hs0 : w.cell? ⟨sb, 0, none⟩ = some (.slice (some ⟨b1, 0, none⟩) n1 n1)) (hs1 : w.cell? ⟨sb, 1, none⟩ = some (.slice (some ⟨b2, 0, none⟩) n2 n2))
    (h1 : w.heap[b1]? = some (.cells cur1 92)) (z1 : cur1.size = n1 * 12) (one1 : ∀ u ∈ cur1.toList, u.oneCell' = true)
    (h2 : w.heap[b2]? = some (.cells cur2 92)) (z2 : cur2.size = n2 * 12) (one2 : ∀ u ∈ cur2.toList, u.oneCell' = true) :
    Calls Try.prog 25 #[.slice (some ⟨sb, 0, none⟩) 2 2] w fun e w' => ∃ v, e = .returned v ∧ w'.ownsRow w.heap.size 92 12 v (n1 + n2) (cur1.toList ++ cur2.toList) ∧ Below w.heap.size w w' := by
  obtain ⟨i0, hi, hz0, hz1, hz2⟩ := info_parts info92
  have hb1 : b1 < w.heap.size := (Array.getElem?_eq_some_iff.1 h1).1
  have hb2 : b2 < w.heap.size := (Array.getElem?_eq_some_iff.1 h2).1
  have H1 := hide h1
  have H2 := hide h2
  have O1 := hide one1
  have O2 := hide one2
  have Z1 := hide z1
  have Z2 := hide z2
  clear h1 h2 one1 one2 z1 z2
  have HI := hide hi
  have HZ0 := hide hz0
  have HZ1 := hide hz1
  have HZ2 := hide hz2
  clear hi hz0 hz1 hz2
  go_enter Try.func25, Try.ntmps25
  go_wp2_with fail
  refine wp_loop_rounds 3 ?_; rw [rounds_succ]
  go_wp2_with fail
  rw [rounds_succ]
  go_wp2_with fail
  rw [rounds_succ]
  go_wp2_with fail
  refine (grow29' _ _ (by omega) (by omega)).mono ?_
  rintro e w1 ⟨v, rfl, hown, hB⟩
  have hs0' : w1.cell? ⟨sb, 0, none⟩ = some (.slice (some ⟨b1, 0, none⟩) n1 n1) := (hB.cell (by exact hsb)).trans hs0
  have H1' := hide ((hB.block b1 hb1).trans H1.out)
  have hw1 := hB.size
  clear hs0
  have HO := hide hown
  clear hown
  go_wp2_with fail
  refine wp_loop_rounds 3 ?_; rw [rounds_succ]
  go_wp2_with (at_builtin; refine wpList_append_own _ rfl (.tmp 31) (.tmp 32) 44 rfl w.heap.size 92 i0 _ 12 128 Try.underlying44 HI.out HZ0.out HZ1.out HZ2.out rfl (by decide) v 0 [] rfl HO.out ⟨b1, 0, none⟩ n1 n1 cur1.toList rfl (by rw [Array.length_toList]; exact Z1.out) (cur_cell H1'.out) O1.out (by unfold maxLen; omega) (by omega) hw1 ?_)
  intro v2 w2 hown2 hg2 _
  have hB2 : Below w.heap.size w w2 := hB.grown hg2 hw1 (own_ge HO.out)
  have hw2 := hB2.size
  have hs1' : w2.cell? ⟨sb, 1, none⟩ = some (.slice (some ⟨b2, 0, none⟩) n2 n2) := (hB2.cell (by exact hsb)).trans hs1
  have H2' := hide ((hB2.block b2 hb2).trans H2.out)
  have HO2 := hide (show w2.ownsRow w.heap.size 92 12 v2 n1 cur1.toList by simpa only [Nat.zero_add, List.nil_append] using hown2)
  clear hown2 hg2 hs1 hs0' HO hB H1' H1 H2
  go_wp2_with fail
  rw [rounds_succ]
  go_wp2_with (at_builtin; refine wpList_append_own _ rfl (.tmp 31) (.tmp 32) 44 rfl w.heap.size 92 i0 _ 12 128 Try.underlying44 HI.out HZ0.out HZ1.out HZ2.out rfl (by decide) v2 n1 cur1.toList rfl HO2.out ⟨b2, 0, none⟩ n2 n2 cur2.toList rfl (by rw [Array.length_toList]; exact Z2.out) (cur_cell H2'.out) O2.out (by unfold maxLen; omega) (by omega) hw2 ?_)
  intro v3 w3 hown3 hg3 _
  have HB3 := hide (hB2.grown hg3 hw2 (own_ge HO2.out))
  have HO3 := hide hown3
  clear hown3 hg3 hs1' HO2 hB2 H2'
  go_wp2_with fail
  rw [rounds_succ]
  go_wp2_with fail
  go_ret
  exact ⟨_, rfl, HO3.out, HB3.out⟩
end Go.Proofs.Qxb6604428a.Fail
