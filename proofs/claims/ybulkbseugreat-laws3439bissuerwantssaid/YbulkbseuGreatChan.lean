/-
  A communication in one goroutine inside a region, for the plain walk: a send into a buffer with room; a select of one send with a default. And what 'len' and 'make' do to a channel.
-/
import Derived.Conc.LoneCalls
import Derived.Calls
import Derived.Tactics
namespace Go.Proofs.YbulkbseuGreat.AM
open Go Go.Conc

section
variable {P : Program} {ops : Array Oper} {Q : Exit → Act → World → Prop}

/-- From inside a region, the rest of its operations still to be run. -/
def InReg (P : Program) (ops : Array Oper) (Q : Exit → Act → World → Prop) (l : List Nat) (a : Act) (w : World) : Prop :=
  ∀ (b : Frame) (k : List Item) (cs : List Frame), ∃ e a' w', Q e a' w' ∧ Arrives P (lone (b.at a (.inRegion ops l :: k)) cs w) b k cs e a' w'

theorem inReg_ops {l : List Nat} {a : Act} {w : World} (h : wpOps P ops Q l a w) : InReg P ops Q l a w := wp_ops l a w h

theorem wp_inReg {id : Nat} {a : Act} {w : World} (h : InReg P ops Q (List.range ops.size) a w) : (Code.region id ops false).wp P Q a w :=
  fun b k cs => let ⟨e, a', w', q, r⟩ := h b k cs; ⟨e, a', w', q, .of_steps (.one step_region) r⟩

/-- An operation that yields a value. -/
theorem inReg_value {i : Nat} {rest : List Nat} {o : Oper} {a : Act} {w w₁ : World} {v : Value} (ho : ops[i]? = some o) (hw : Region.wanted o (yielded ops a.tmps) = true)
    (hr : (execOp a.eval o).run P w = .ok (.value v) w₁) (h : InReg P ops Q rest (a.put o.dst v) w₁) : InReg P ops Q (i :: rest) a w := by
  intro b k cs
  obtain ⟨e, a', w', hq, harr⟩ := h b k cs
  have hg := stepG_op (P := P) (b := b) (k := k) (cs := cs) (w := w) (rest := rest) ho hw
  have hfin : (b.at a (.inRegion ops (i :: rest) :: k)).finish v = b.at (a.put o.dst v) (.inRegion ops rest :: k) := by rw [Frame.finish_at, ho]; rfl
  refine ⟨e, a', w', hq, .of_steps (.one (step_lone_go ?_)) harr⟩
  rw [hg, ← hfin]; simp [stepG.apply, hr]

theorem inReg_same {i : Nat} {rest : List Nat} {o : Oper} {a : Act} {w : World} {v : Value} (ho : ops[i]? = some o) (hw : Region.wanted o (yielded ops a.tmps) = true)
    (hr : (execOp a.eval o).run P w = .ok (.value v) w) (h : InReg P ops Q rest (a.put o.dst v) w) : InReg P ops Q (i :: rest) a w := inReg_value ho hw hr h

/-- A communication that the machine of one carries out at once. -/
theorem inReg_comm {i : Nat} {rest : List Nat} {o : Oper} {a : Act} {w w₁ w₂ : World} {cases : Array CommCase} {blocking : Bool} {shape : CommShape} {v : Value} (ho : ops[i]? = some o) (hw : Region.wanted o (yielded ops a.tmps) = true)
    (hr : (execOp a.eval o).run P w = .ok (.comm cases blocking shape) w₁)
    (hs : ∀ (fr : Frame) (cs : List Frame) (es : Array Event), stepG P true (G fr cs) w = .comm (G fr cs) cases blocking shape w₁ es → step P (solo (G fr cs) w) = .next (solo (G (fr.finish v) cs) w₂))
    (h : InReg P ops Q rest (a.put o.dst v) w₂) : InReg P ops Q (i :: rest) a w := by
  intro b k cs
  obtain ⟨e, a', w', hq, harr⟩ := h b k cs
  have hg := stepG_op (P := P) (b := b) (k := k) (cs := cs) (w := w) (rest := rest) ho hw
  have hfin : (b.at a (.inRegion ops (i :: rest) :: k)).finish v = b.at (a.put o.dst v) (.inRegion ops rest :: k) := by rw [Frame.finish_at, ho]; rfl
  refine ⟨e, a', w', hq, .of_steps (.one ?_) harr⟩
  rw [← hfin]
  have hc : ∃ es, stepG P true (G (b.at a (.inRegion ops (i :: rest) :: k)) cs) w = .comm (G (b.at a (.inRegion ops (i :: rest) :: k)) cs) cases blocking shape w₁ es := by
    unfold G
    rw [hg]
    simp only [stepG.apply, Sem.runT_eq, hr]
    exact ⟨_, rfl⟩
  obtain ⟨es, hc⟩ := hc
  exact hs _ cs es hc

end

section
variable {P : Program} {fr : Frame} {cs : List Frame} {w w₁ : World} {es : Array Event} {c cap s r : Nat} {buf : Array Value} {z v : Value} {tm : Bool}

theorem lone_select_send_room (h : stepG P true (G fr cs) w = .comm (G fr cs) #[scase c v z] false .select w₁ es) (hc : w₁.heap[c]? = some (.chan cap buf false s r tm)) (hroom : buf.size < cap) :
    step P (solo (G fr cs) w) = .next (solo (G (fr.finish (.tuple #[goInt 0, .bool false])) cs) (w₁.setChan c cap (buf.push v) false (s + 1) r tm)) := by
  have hp := partners_alone (c := c) false
  rw [step, stepT_solo rfl]
  simp [runT, solo, G, Array.swapAt!, Array.swapAt, h, GStep.es, communicate, ways, scase, hc, hp, hroom, choose, Sem.run, Question.forced, bind, Sem.bind, pure, Goroutine.finishComm, commResult, World.setChan] at h ⊢

theorem lone_select_send_full (h : stepG P true (G fr cs) w = .comm (G fr cs) #[scase c v z] false .select w₁ es) (hc : w₁.heap[c]? = some (.chan cap buf false s r tm)) (hfull : ¬ buf.size < cap) :
    step P (solo (G fr cs) w) = .next (solo (G (fr.finish (.tuple #[goInt (-1), .bool false])) cs) w₁) := by
  have hp := partners_alone (c := c) false
  rw [step, stepT_solo rfl]
  simp [runT, solo, G, Array.swapAt!, Array.swapAt, h, GStep.es, communicate, ways, scase, hc, hp, hfull, Goroutine.finishComm, commResult] at h ⊢
end
end Go.Proofs.YbulkbseuGreat.AM
