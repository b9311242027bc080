/-
  A region of two plain operations and a send into a buffer with room, in one goroutine.
-/
import Derived.Test.YbulkdtzeMade
namespace Go.Proofs.Ybulkdtze.S
open Go.RowKit Go.Conc Go.Maps

section
variable {P : Program} {Q : Exit → Act → World → Prop} {a : Act} {w : World}

theorem step_plain {b : Frame} {ops : Array Oper} {i : Nat} {rest : List Nat} {k : List Item} {cs : List Frame} {o : Oper} {v : Value} (ho : ops[i]? = some o) (hw : Region.wanted o (yielded ops a.tmps) = true) (hr : (execOp a.eval o).run P w = .ok (.value v) w) :
    step P (lone (b.at a (.inRegion ops (i :: rest) :: k)) cs w) = .next (lone (b.at (a.put o.dst v) (.inRegion ops rest :: k)) cs w) := by
  have hg := stepG_op (P := P) (b := b) (k := k) (cs := cs) (w := w) (rest := rest) ho hw
  have hfin : (b.at a (.inRegion ops (i :: rest) :: k)).finish v = b.at (a.put o.dst v) (.inRegion ops rest :: k) := by
    rw [Frame.finish_at, ho]; rfl
  refine step_lone_go ?_
  rw [hg, ← hfin]
  simp [stepG.apply, hr]

theorem wpN_region_send {id : Nat} {o0 o1 o2 : Oper} {v0 v1 v z : Value} {c cap s r : Nat} {buf : Array Value} (g0 : o0.guard = none) (g1 : o1.guard = none) (g2 : o2.guard = none) (hr0 : (execOp a.eval o0).run P w = .ok (.value v0) w)
    (hr1 : (execOp (a.put o0.dst v0).eval o1).run P w = .ok (.value v1) w) (hr2 : (execOp ((a.put o0.dst v0).put o1.dst v1).eval o2).run P w = .ok (.comm #[scase c v z] true .send) w) (hc : w.heap[c]? = some (.chan cap buf false s r false)) (hroom : buf.size < cap)
    (hQ : Q .normal (((a.put o0.dst v0).put o1.dst v1).put o2.dst undef) (w.setChan c cap (buf.push v) false (s + 1) r false)) : wpN P (.region id #[o0, o1, o2] false) Q a w := by
  intro b hb k cs
  refine ⟨.normal, _, _, hQ, .head step_region (.head (step_plain (o := o0) rfl (by simp [Region.wanted, g0]) hr0) (.head (step_plain (o := o1) rfl (by simp [Region.wanted, g1]) hr1) ?_))⟩
  have hcm := stepG_comm (main := true) (P := P) (b := b) (k := k) (cs := cs) (ops := #[o0, o1, o2]) (i := 2) (rest := []) (o := o2) rfl (by simp [Region.wanted, g2]) (by rw [hb]; decide) hr2
  have hst := step_lone_send_room hcm hc hroom
  refine .head (m₁ := lone (b.at (((a.put o0.dst v0).put o1.dst v1).put o2.dst undef) (.inRegion #[o0, o1, o2] [] :: k)) cs (w.setChan c cap (buf.push v) false (s + 1) r false)) ?_ (.one step_region_end)
  rw [Frame.finish_at] at hst
  exact hst
end

theorem AS.put {w : World} {nb cb s st mb nn : Nat} {d : Option Nat} {D : DataW Unit} {calls m : Nat} {cap sn rn : Nat} {buf : Array Value} {v : Value} (h : AS w nb cb s st mb nn d D calls m) (hs : w.heap[s]? = some (.chan cap buf false sn rn false)) (hm : buf.size = m) :
    AS (w.setChan s cap (buf.push v) false (sn + 1) rn false) nb cb s st mb nn d D calls (m + 1) := by
  refine h.turn (o := s) (fun k hk => ?_) (chan_ne hs h.mu).symm (chan_ne hs h.cd).symm (map_ne_chan h.own hs) ?_ ?_ ⟨cap, buf.push v, sn + 1, rn, ?_, ?_⟩ rfl
  · simp only [World.setChan]
    rw [Array.getElem?_setIfInBounds, if_neg (fun e => hk e.symm)]
  · rcases h.ch with ⟨-, hne, -⟩ | ⟨dn, c, a, b, c', a', b', hd, n1, n2, -⟩
    · exact fun e => hne e.symm
    · exact fun e => n1 e.symm
  · intro dn hd
    rcases h.ch with ⟨h0, -⟩ | ⟨dn', c, a, b, c', a', b', hd', n1, n2, -⟩
    · rw [hd] at h0; cases h0
    · rw [hd] at hd'; injection hd' with hd'; subst hd'; exact fun e => n2 e.symm
  · simp only [World.setChan]
    rw [Array.getElem?_setIfInBounds, if_pos rfl]
    simp [lt_of_some hs]
  · simp [hm]

end Go.Proofs.Ybulkdtze.S
