/-
  THE WALK AT ONE FRAME: 'wpAt P b c Q a w': 'Code.wp' (Derived/Control.lean) for ONE frame b in the place of all of them. WHY: a select is a communication: the kit's walk stands still there; and a frame of kind 'early' may make none. At a frame of a plain call it is one step of the machine of one goroutine (Derived/Conc/LoneSelectN.lean).
  The laws are Control.lean's, law for law, at the one frame.
-/
import Derived.Calls
import Derived.Conc.LoneSelectN
import Derived.Conc.LoneCalls
namespace Go
open Go.Conc

def wpAt (P : Program) (b : Frame) (c : Code) (Q : Exit → Act → World → Prop) (a : Act) (w : World) : Prop :=
  ∀ (k : List Item) (cs : List Frame), ∃ e a' w', Q e a' w' ∧ Arrives P (lone (b.at a (.code c :: k)) cs w) b k cs e a' w'

section
variable {P : Program} {b : Frame} {Q : Exit → Act → World → Prop} {a : Act} {w : World}
theorem wpAt_of_wp {c : Code} (h : c.wp P Q a w) : wpAt P b c Q a w := fun k cs => h b k cs

theorem wpAt_seq {x y : Code} (h : wpAt P b x (Exit.then (wpAt P b y Q) Q) a w) : wpAt P b (Code.seq x y) Q a w := by
  intro k cs
  obtain ⟨e, a₁, w₁, hq, harr⟩ := h (.code y :: k) cs
  cases e with
  | normal =>
    obtain ⟨e₂, a₂, w₂, hq₂, harr₂⟩ := hq k cs
    exact ⟨e₂, a₂, w₂, hq₂, .of_steps (.head step_seq harr) harr₂⟩
  | exit id => exact ⟨_, a₁, w₁, hq, .of_steps (.one step_seq) (.pass (x := .code y) rfl (fun _ _ => .inl (by simp)) harr)⟩
  | goto l => exact ⟨_, a₁, w₁, hq, .of_steps (.one step_seq) (.pass (x := .code y) rfl (fun _ _ => .inl (by simp)) harr)⟩
  | ret => exact ⟨_, a₁, w₁, hq, .of_steps (.one step_seq) (.pass (x := .code y) rfl (fun _ _ => .inl (by simp)) harr)⟩
  | panic ch => exact ⟨_, a₁, w₁, hq, .of_steps (.one step_seq) (.pass (x := .code y) rfl (fun _ _ => .inl (by simp)) harr)⟩
  | outgrown => exact ⟨_, a₁, w₁, hq, .of_steps (.one step_seq) (.pass (x := .code y) rfl (fun _ _ => .inl (by simp)) harr)⟩
/-- The continuation as a letter. -/
theorem wpAt_seq_k {x y : Code} (h : ∀ K : Act → World → Prop, (∀ a w, wpAt P b y Q a w → K a w) → wpAt P b x (Exit.then K Q) a w) : wpAt P b (Code.seq x y) Q a w :=
  wpAt_seq (h _ fun _ _ h => h)

theorem wpAt_block {id : Nat} {c : Code} (h : wpAt P b c (Exit.inBlock id Q) a w) : wpAt P b (Code.block id c) Q a w := by
  intro k cs
  obtain ⟨e, a₁, w₁, hq, harr⟩ := h (.inBlock id :: k) cs
  cases e with
  | normal => exact ⟨.normal, a₁, w₁, hq, .head step_block (Steps.trans harr (.one step_inBlock))⟩
  | exit id' =>
    by_cases hid : id' = id
    · simp only [Exit.inBlock, hid, if_true] at hq
      exact ⟨.normal, a₁, w₁, hq, .head step_block (harr k (by simp [exitTo, hid]))⟩
    · simp only [Exit.inBlock, hid, if_false] at hq
      refine ⟨.exit id', a₁, w₁, hq, fun k' hk => .head step_block (harr k' ?_)⟩
      have : (id == id') = false := by simp; exact fun h => hid h.symm
      simp [exitTo, this, hk]
  | goto l => exact ⟨_, a₁, w₁, hq, fun k' hk => .head step_block (harr k' (by simp [gotoIn, hk]))⟩
  | ret => exact ⟨_, a₁, w₁, hq, .of_steps (.one step_block) harr⟩
  | panic ch => exact ⟨_, a₁, w₁, hq, .of_steps (.one step_block) harr⟩
  | outgrown => exact ⟨_, a₁, w₁, hq, .of_steps (b := b) (k := k) (cs := cs) (e := .outgrown) (.one step_block) harr⟩

theorem wpAt_loop {c : Code} (I : Act → World → Prop) (μ : Act → World → Nat) (h₀ : I a w)
    (round : ∀ a w, I a w → wpAt P b c (Exit.then (fun a' w' => I a' w' ∧ μ a' w' < μ a w) Q) a w) : wpAt P b (Code.loop c) Q a w := by
  intro k cs
  have key : ∀ n a w, μ a w = n → I a w →
      ∃ e a' w', Q e a' w' ∧ Arrives P (lone (b.at a (.code c :: .inLoop c :: k)) cs w) b k cs e a' w' := by
    intro n
    induction n using Nat.strongRecOn with
    | _ n ih =>
      intro a w hn hI
      obtain ⟨e, a₁, w₁, hq, harr⟩ := round a w hI (.inLoop c :: k) cs
      cases e with
      | normal =>
        obtain ⟨hI₁, hlt⟩ := hq
        obtain ⟨e₂, a₂, w₂, hq₂, harr₂⟩ := ih (μ a₁ w₁) (hn ▸ hlt) a₁ w₁ rfl hI₁
        exact ⟨e₂, a₂, w₂, hq₂, .of_steps (Steps.trans harr (.one step_inLoop)) harr₂⟩
      | exit id => exact ⟨_, a₁, w₁, hq, .pass (x := .inLoop c) rfl (fun _ _ => .inl (by simp)) harr⟩
      | goto l => exact ⟨_, a₁, w₁, hq, .pass (x := .inLoop c) rfl (fun _ _ => .inl (by simp)) harr⟩
      | ret => exact ⟨_, a₁, w₁, hq, .pass (x := .inLoop c) rfl (fun _ _ => .inl (by simp)) harr⟩
      | panic ch => exact ⟨_, a₁, w₁, hq, .pass (x := .inLoop c) rfl (fun _ _ => .inl (by simp)) harr⟩
      | outgrown => exact ⟨_, a₁, w₁, hq, .pass (x := .inLoop c) rfl (fun _ _ => .inl (by simp)) harr⟩
  obtain ⟨e, a', w', hq, harr⟩ := key _ a w rfl h₀
  exact ⟨e, a', w', hq, .of_steps (.one step_loop) harr⟩

theorem calls_of_wpAt {f : FuncId} {fn : Func} {c : Code} {args : Array Value} {R : Ending → World → Prop}
    (hf : P.funcs[f]? = some fn) (hb : fn.body = some c)
    (h : ∀ b : Frame, b.kind = .normal → wpAt P b c (bodyPost P fn R) { tmps := args ++ Array.replicate (fn.ntmps - args.size) undef, defers := [] } w) : Calls P f args w R := by
  intro cs
  let b : Frame := { (default : Frame) with fn := f, kind := .normal }
  have henter : Frame.enter P f args .normal = b.at { tmps := args ++ Array.replicate (fn.ntmps - args.size) undef, defers := [] } [.code c] := by
    simp [Frame.enter, Frame.at, hf, hb, b]
  obtain ⟨e, a', w', hq, harr⟩ := h b rfl [] cs
  rw [← henter] at harr
  cases e with
  | normal =>
    obtain ⟨hd, v, hr, hR⟩ := hq
    exact ⟨.returned v, w', _, hR, Steps.trans harr (.one step_end), rfl, rfl, hd, rfl, fn, hf, hr⟩
  | ret =>
    obtain ⟨hd, v, hr, hR⟩ := hq
    obtain ⟨todo, hs⟩ := harr
    exact ⟨.returned v, w', _, hR, hs, rfl, rfl, hd, rfl, fn, hf, hr⟩
  | panic chain =>
    obtain ⟨hd, hR⟩ := hq
    obtain ⟨todo, hs⟩ := harr
    exact ⟨.panicked chain, w', _, hR, hs, rfl, rfl, hd, fn, hf⟩
  | exit id => exact hq.elim
  | goto l => exact hq.elim
  | outgrown => exact ⟨.outgrown, w', b, hq, harr.resolve_left (by simp [b]), rfl, trivial⟩

/-- A region in the text's order whose first operation is a select of one receive with a default, the channel closed and empty: the receive is taken (index 0, not ok, the zero value). -/
theorem wpAt_region_select {id : Nat} {ops : Array Oper} {o : Oper} {rest : List Nat} {c cap s r : Nat} {tm : Bool} {z : Value} (hb : b.kind = .normal) (hrange : List.range ops.size = 0 :: rest) (ho : ops[0]? = some o)
    (hw : Region.wanted o (yielded ops a.tmps) = true) (hrun : (execOp a.eval o).run P w = .ok (.comm #[rcase c z] false .select) w)
    (hc : w.heap[c]? = some (.chan cap #[] true s r tm)) (h : wpOps P ops Q rest (a.put o.dst (.tuple #[goInt 0, .bool false, z])) w) : wpAt P b (Code.region id ops false) Q a w := by
  intro k cs
  obtain ⟨e, a', w', hq, harr⟩ := wp_ops rest _ w h b k cs
  refine ⟨e, a', w', hq, .of_steps (.one step_region) ?_⟩
  rw [hrange]
  refine .of_steps (.one ?_) harr
  have hcomm := stepG_comm (P := P) (main := true) (b := b) (a := a) (k := k) (cs := cs) (w := w) (ops := ops) (i := 0) (rest := rest) ho hw (by rw [hb]; decide) hrun
  have hs := step_lone_sel_recv_shut (k := 0) (c := c) (z := z) hcomm rfl (fun m c' hm hc' => by
    cases m with
    | zero => exact absurd rfl hm
    | succ m => simp at hc') hc
  have hres : commResult #[rcase c z] .select ((0 : Nat) : Int) z false = .tuple #[goInt 0, .bool false, z] := by
    simp [commResult, rcase, List.zipIdx_cons]
  rw [hres, Frame.finish_at, ho] at hs
  exact hs
end
end Go
