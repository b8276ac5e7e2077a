/-
  A region whose operations end in a send into a channel with room, or hold a receive from a channel with something in its buffer, one goroutine: for the walk's 'Code.wp'. No program in this text.
-/
import Derived.Conc.LoneCalls
import Derived.WalkKit
namespace Go.Proofs.Ybulkaiqu.Comm
open Go.Conc Go.RowKit
variable {P : Program} {ops : Array Oper} {Q : Exit → Act → World → Prop} {a : Act} {w w' : World} {i : Nat} {rest : List Nat} {o : Oper}

/-- From inside a region, the operations l still to be done: the code behind it is reached, or left, as Q says. -/
def InReg (P : Program) (ops : Array Oper) (Q : Exit → Act → World → Prop) (l : List Nat) (a : Act) (w : World) : Prop :=
  ∀ (b : Frame) (k : List Item) (cs : List Frame), ∃ e a' w', Q e a' w' ∧ Arrives P (lone (b.at a (.inRegion ops l :: k)) cs w) b k cs e a' w'

theorem InReg.region {id : Nat} (h : InReg P ops Q (List.range ops.size) a w) : (Code.region id ops false).wp P Q a w :=
  fun b k cs => let ⟨e, a', w', q, r⟩ := h b k cs; ⟨e, a', w', q, .of_steps (.one step_region) r⟩

theorem InReg.done (h : Q .normal a w) : InReg P ops Q [] a w := fun _ _ _ => ⟨.normal, a, w, h, .one step_region_end⟩

theorem InReg.value {v : Value} (ho : ops[i]? = some o) (hw : Region.wanted o (yielded ops a.tmps) = true) (hr : (execOp a.eval o).run P w = .ok (.value v) w') (h : InReg P ops Q rest (a.put o.dst v) w') : InReg P ops Q (i :: rest) a w := by
  intro b k cs
  obtain ⟨e, a', w'', hq, harr⟩ := h b k cs
  refine ⟨e, a', w'', hq, .of_steps (.one (step_lone_go ?_)) harr⟩
  have hfin : (b.at a (.inRegion ops (i :: rest) :: k)).finish v = b.at (a.put o.dst v) (.inRegion ops rest :: k) := by
    rw [Frame.finish_at, ho]; rfl
  rw [stepG_op ho hw, ← hfin]
  simp [stepG.apply, hr]

theorem stepG_comm_any {b : Frame} {k : List Item} {cs : List Frame} {cases : Array CommCase} {blocking : Bool} {shape : CommShape} (ho : ops[i]? = some o) (hw : Region.wanted o (yielded ops a.tmps) = true)
    (hr : (execOp a.eval o).run P w = .ok (.comm cases blocking shape) w') :
    ∃ es, stepG P true (G (b.at a (.inRegion ops (i :: rest) :: k)) cs) w = .comm (G (b.at a (.inRegion ops (i :: rest) :: k)) cs) cases blocking shape w' es := by
  have h := stepG_op (P := P) (b := b) (k := k) (cs := cs) (w := w) (rest := rest) ho hw
  unfold G
  rw [h]
  simp only [stepG.apply, Sem.runT_eq, hr]
  exact ⟨_, rfl⟩

theorem InReg.send {c cap s r : Nat} {buf : Array Value} {v z : Value} {tm : Bool} (ho : ops[i]? = some o) (hw : Region.wanted o (yielded ops a.tmps) = true)
    (hr : (execOp a.eval o).run P w = .ok (.comm #[scase c v z] true .send) w') (hc : w'.heap[c]? = some (.chan cap buf false s r tm)) (hroom : buf.size < cap)
    (h : InReg P ops Q rest (a.put o.dst undef) (w'.setChan c cap (buf.push v) false (s + 1) r tm)) : InReg P ops Q (i :: rest) a w := by
  intro b k cs
  obtain ⟨e, a', w'', hq, harr⟩ := h b k cs
  obtain ⟨es, hs⟩ := stepG_comm_any (b := b) (k := k) (cs := cs) (rest := rest) ho hw hr
  refine ⟨e, a', w'', hq, .of_steps (.one ?_) harr⟩
  have := step_lone_send_room hs hc hroom
  rw [Frame.finish_at, ho] at this
  exact this

theorem InReg.recv {c cap s r : Nat} {buf : Array Value} {z : Value} {tm closed : Bool} (ho : ops[i]? = some o) (hw : Region.wanted o (yielded ops a.tmps) = true)
    (hr : (execOp a.eval o).run P w = .ok (.comm #[rcase c z] true (.recv false)) w') (hc : w'.heap[c]? = some (.chan cap buf closed s r tm)) (hsome : 0 < buf.size)
    (h : InReg P ops Q rest (a.put o.dst (buf.getD 0 undef)) (w'.setChan c cap (buf.extract 1 buf.size) closed s (r + 1) tm)) : InReg P ops Q (i :: rest) a w := by
  intro b k cs
  obtain ⟨e, a', w'', hq, harr⟩ := h b k cs
  obtain ⟨es, hs⟩ := stepG_comm_any (b := b) (k := k) (cs := cs) (rest := rest) ho hw hr
  refine ⟨e, a', w'', hq, .of_steps (.one ?_) harr⟩
  have := step_lone_recv_buf false hs hc hsome
  rw [Frame.finish_at, ho] at this
  exact this

end Go.Proofs.Ybulkaiqu.Comm
