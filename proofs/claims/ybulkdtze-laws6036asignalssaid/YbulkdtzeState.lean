/-
  What stands behind 'awaitSettled': the node's lock free, its map, its two channels, the stand-in context with its count of calls; and what keeps it.
-/
import Derived.Test.YbulkdtzeBuild
import Derived.Test.YbulkdtzeSel
namespace Go.Proofs.Ybulkdtze.S
open Go.RowKit Go.Conc Go.Maps

theorem chan_ne {w : World} {s b o : Nat} {cap sn rn : Nat} {buf : Array Value} {cl tm : Bool} {v : Value} (h : w.heap[s]? = some (.chan cap buf cl sn rn tm)) (hc : w.cell? ⟨b, o, none⟩ = some v) : s ≠ b := by
  rintro rfl
  simp [World.cell?, h] at hc

theorem map_ne {w : World} {s b o n : Nat} {D : DataW Unit} {v : Value} (h : w.ownsMap Yba.prog 23 nilElem s n D) (hc : w.cell? ⟨b, o, none⟩ = some v) : s ≠ b := by
  obtain ⟨es, clock, h, -⟩ := h
  rintro rfl
  simp [World.cell?, h] at hc

theorem map_ne_chan {w : World} {s b n : Nat} {D : DataW Unit} {cap sn rn : Nat} {buf : Array Value} {cl tm : Bool} (h : w.ownsMap Yba.prog 23 nilElem s n D) (hc : w.heap[b]? = some (.chan cap buf cl sn rn tm)) : s ≠ b := by
  obtain ⟨es, clock, h, -⟩ := h
  rintro rfl
  simp [h] at hc

structure AS (w : World) (nb cb s st mb nn : Nat) (d : Option Nat) (D : DataW Unit) (calls m : Nat) : Prop where
  ne : nb ≠ cb
  mu : w.cell? ⟨nb, 18, none⟩ = some (.int .i32 0)
  muz : w.frozen? ⟨nb, 18, none⟩ = false
  car : w.cell? ⟨nb, 26, none⟩ = some (.map (some mb))
  stp : w.cell? ⟨nb, 13, none⟩ = some (.chan (some st))
  cd : w.cell? ⟨cb, 0, none⟩ = some (.chan d)
  cc : w.cell? ⟨cb, 1, none⟩ = some (.int .i64 calls)
  ccz : w.frozen? ⟨cb, 1, none⟩ = false
  own : w.ownsMap Yba.prog 23 nilElem mb nn D
  sig : ∃ cap buf sn rn, w.heap[s]? = some (.chan cap buf false sn rn false) ∧ buf.size = m
  ch : (d = none ∧ s ≠ st ∧ ∃ c a b, w.heap[st]? = some (.chan c #[] true a b false)) ∨
    (∃ dn c a b c' a' b', d = some dn ∧ s ≠ st ∧ s ≠ dn ∧ w.heap[st]? = some (.chan c #[] false a b false) ∧ w.heap[dn]? = some (.chan c' #[] true a' b' false))

section
variable {w : World} {nb cb s st mb nn : Nat} {d : Option Nat} {D : DataW Unit} {calls m : Nat}

theorem AS.drew (h : AS w nb cb s st mb nn d D calls m) : AS w.drew nb cb s st mb nn d D calls m := ⟨h.1, h.2, h.3, h.4, h.5, h.6, h.7, h.8, h.9, h.10, h.11⟩

/-- A world that differs in one block alone, which is a channel here. -/
theorem AS.turn {w' : World} {o : Nat} {calls' m' : Nat} (h : AS w nb cb s st mb nn d D calls m) (hb : ∀ k, k ≠ o → w'.heap[k]? = w.heap[k]?) (h1 : nb ≠ o) (h2 : cb ≠ o) (h3 : mb ≠ o) (h4 : st ≠ o) (h5 : ∀ dn, d = some dn → dn ≠ o)
    (hs : ∃ cap buf sn rn, w'.heap[s]? = some (.chan cap buf false sn rn false) ∧ buf.size = m') (hc : calls' = calls) : AS w' nb cb s st mb nn d D calls' m' := by
  subst hc
  have c1 : ∀ x, w'.cell? ⟨nb, x, none⟩ = w.cell? ⟨nb, x, none⟩ := fun x => World.cell?_of_block (w := w) (hb _ h1)
  have c2 : ∀ x, w'.cell? ⟨cb, x, none⟩ = w.cell? ⟨cb, x, none⟩ := fun x => World.cell?_of_block (w := w) (hb _ h2)
  have z1 : ∀ x, w'.frozen? ⟨nb, x, none⟩ = w.frozen? ⟨nb, x, none⟩ := fun x => World.frozen?_of_block (w := w) (hb _ h1)
  have z2 : ∀ x, w'.frozen? ⟨cb, x, none⟩ = w.frozen? ⟨cb, x, none⟩ := fun x => World.frozen?_of_block (w := w) (hb _ h2)
  refine ⟨h.ne, (c1 _).trans h.mu, (z1 _).trans h.muz, (c1 _).trans h.car, (c1 _).trans h.stp, (c2 _).trans h.cd, (c2 _).trans h.cc, (z2 _).trans h.ccz, ?_, hs, ?_⟩
  · obtain ⟨es, clock, ho, hr⟩ := h.own
    exact ⟨es, clock, (hb _ h3).trans ho, hr⟩
  · rcases h.ch with ⟨hd, hne, c, a, b, hc⟩ | ⟨dn, c, a, b, c', a', b', hd, n1, n2, hc, hc'⟩
    · exact .inl ⟨hd, hne, c, a, b, (hb _ h4).trans hc⟩
    · exact .inr ⟨dn, c, a, b, c', a', b', hd, n1, n2, (hb _ h4).trans hc, (hb _ (h5 _ hd)).trans hc'⟩

theorem AS.take {cap sn rn : Nat} {buf : Array Value} (h : AS w nb cb s st mb nn d D calls (m + 1)) (hs : w.heap[s]? = some (.chan cap buf false sn rn false)) (hm : buf.size = m + 1) :
    AS (w.setChan s cap (buf.extract 1 buf.size) false sn (rn + 1) false) nb cb s st mb nn d D calls m := by
  have hlt : s < w.heap.size := by
    rcases Nat.lt_or_ge s w.heap.size with h | h
    · exact h
    · rw [Array.getElem?_eq_none h] at hs; cases hs
  refine h.turn (o := s) (fun k hk => ?_) (chan_ne hs h.mu).symm (chan_ne hs h.cd).symm (map_ne_chan h.own hs) ?_ ?_ ⟨cap, buf.extract 1 buf.size, sn, rn + 1, ?_, ?_⟩ rfl
  · simp only [World.setChan]
    rw [Array.getElem?_setIfInBounds, if_neg (fun e => hk e.symm)]
  · rcases h.ch with ⟨-, hne, -⟩ | ⟨dn, c, a, b, c', a', b', hd, n1, n2, -⟩
    · exact fun e => hne e.symm
    · exact fun e => n1 e.symm
  · intro dn hd
    rcases h.ch with ⟨h0, -⟩ | ⟨dn', c, a, b, c', a', b', hd', n1, n2, -⟩
    · rw [hd] at h0; cases h0
    · rw [hd] at hd'; injection hd' with hd'; subst hd'; exact fun e => n2 e.symm
  · simp only [World.setChan]
    rw [Array.getElem?_setIfInBounds, if_pos rfl]
    simp [hlt]
  · simp [hm]

theorem AS.done (h : AS w nb cb s st mb nn d D calls m) : AS (w.setCell ⟨cb, 1, none⟩ (.int .i64 ((calls : Int) + 1))) nb cb s st mb nn d D (calls + 1) m := by
  have hn := h.ne
  have hk : ∀ k, k ≠ cb → (w.setCell ⟨cb, 1, none⟩ (.int .i64 ((calls : Int) + 1))).heap[k]? = w.heap[k]? := fun k hk => Below.heap_setCell _ _ _ _ hk
  have c1 : ∀ x, (w.setCell ⟨cb, 1, none⟩ (.int .i64 ((calls : Int) + 1))).cell? ⟨nb, x, none⟩ = w.cell? ⟨nb, x, none⟩ := fun x => World.cell?_of_block (w := w) (hk _ hn)
  obtain ⟨cap, buf, sn, rn, hs, hm⟩ := h.sig
  refine ⟨hn, (c1 _).trans h.mu, by rw [World.frozen?_setCell]; exact h.muz, (c1 _).trans h.car, (c1 _).trans h.stp, ?_, ?_, by rw [World.frozen?_setCell]; exact h.ccz, h.own.setCell (map_ne h.own h.cd) _, ⟨cap, buf, sn, rn, (hk _ (chan_ne hs h.cd)).trans hs, hm⟩, ?_⟩
  · rw [World.cell?_setCell_other _ _ _ _ (by simp)]; exact h.cd
  · rw [World.cell?_setCell_same _ _ _ h.cc]; simp
  · rcases h.ch with ⟨hd, hne, c, a, b, hc⟩ | ⟨dn, c, a, b, c', a', b', hd, n1, n2, hc, hc'⟩
    · exact .inl ⟨hd, hne, c, a, b, (hk _ (chan_ne hc h.cd)).trans hc⟩
    · exact .inr ⟨dn, c, a, b, c', a', b', hd, n1, n2, (hk _ (chan_ne hc h.cd)).trans hc, (hk _ (chan_ne hc' h.cd)).trans hc'⟩

/-- Locked and opened again. -/
theorem AS.again (h : AS w nb cb s st mb nn d D calls m) (v : Value) : AS ((w.setCell ⟨nb, 18, none⟩ v).setCell ⟨nb, 18, none⟩ (.int .i32 0)) nb cb s st mb nn d D calls m := by
  have hn := h.ne
  have hk : ∀ k, k ≠ nb → ((w.setCell ⟨nb, 18, none⟩ v).setCell ⟨nb, 18, none⟩ (.int .i32 0)).heap[k]? = w.heap[k]? := fun k hk => (Below.heap_setCell _ _ _ _ hk).trans (Below.heap_setCell _ _ _ _ hk)
  have c2 : ∀ x, ((w.setCell ⟨nb, 18, none⟩ v).setCell ⟨nb, 18, none⟩ (.int .i32 0)).cell? ⟨cb, x, none⟩ = w.cell? ⟨cb, x, none⟩ := fun x => World.cell?_of_block (w := w) (hk _ hn.symm)
  have c1 : ∀ x, x ≠ 18 → ((w.setCell ⟨nb, 18, none⟩ v).setCell ⟨nb, 18, none⟩ (.int .i32 0)).cell? ⟨nb, x, none⟩ = w.cell? ⟨nb, x, none⟩ := fun x hx => by
    rw [World.cell?_setCell_other _ _ _ _ (fun e => hx (by injection e with _ e; exact e.symm)), World.cell?_setCell_other _ _ _ _ (fun e => hx (by injection e with _ e; exact e.symm))]
  obtain ⟨cap, buf, sn, rn, hs, hm⟩ := h.sig
  refine ⟨hn, World.cell?_setCell_same _ _ _ (World.cell?_setCell_same _ _ _ h.mu), by rw [World.frozen?_setCell, World.frozen?_setCell]; exact h.muz, (c1 _ (by decide)).trans h.car, (c1 _ (by decide)).trans h.stp, (c2 _).trans h.cd, (c2 _).trans h.cc, by rw [World.frozen?_setCell, World.frozen?_setCell]; exact h.ccz, (h.own.setCell (map_ne h.own h.mu) _).setCell (map_ne h.own h.mu) _, ⟨cap, buf, sn, rn, (hk _ (chan_ne hs h.mu)).trans hs, hm⟩, ?_⟩
  rcases h.ch with ⟨hd, hne, c, a, b, hc⟩ | ⟨dn, c, a, b, c', a', b', hd, n1, n2, hc, hc'⟩
  · exact .inl ⟨hd, hne, c, a, b, (hk _ (chan_ne hc h.mu)).trans hc⟩
  · exact .inr ⟨dn, c, a, b, c', a', b', hd, n1, n2, (hk _ (chan_ne hc h.mu)).trans hc, (hk _ (chan_ne hc' h.mu)).trans hc'⟩
end
end Go.Proofs.Ybulkdtze.S
