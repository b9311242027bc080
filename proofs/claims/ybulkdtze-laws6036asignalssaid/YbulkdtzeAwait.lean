/-
  'awaitSettled' (f6): it returns, whatever the tape picks; the count of the context's calls and the signals left in the channel stand to each other as the laws say.
-/
import Derived.Test.YbulkdtzeState
import Derived.Test.YbulkdtzeTry
import Derived.Test.YbulkdtzeWpN
namespace Go.Proofs.Ybulkdtze.S
open Go.RowKit Go.Conc Go.Maps

def SelR (B nb cb s st mb nn : Nat) (d : Option Nat) (D : DataW Unit) (cl n : Nat) (w0 : World) (V : Value) (w' : World) : Prop :=
  (∃ k : Int, (k = 1 ∨ k = 2) ∧ V = .tuple #[.int .i64 k, .bool false, .agg #[], .agg #[], .agg #[]] ∧ AS w' nb cb s st mb nn d D cl n ∧ Below B w0 w') ∨
  (∃ n' b0, n = n' + 1 ∧ V = .tuple #[.int .i64 0, .bool true, b0, .agg #[], .agg #[]] ∧ AS w' nb cb s st mb nn d D cl n' ∧ Below B w0 w')

theorem below_setChan {B : Nat} {a w : World} (h : Below B a w) {s : Nat} (hp : B ≤ s) (cap : Nat) (buf : Array Value) (cl : Bool) (x y : Nat) (tm : Bool) : Below B a (w.setChan s cap buf cl x y tm) :=
  h.trans ⟨rfl, rfl, rfl, by simp [World.setChan], fun k hk => by
    simp only [World.setChan]
    rw [Array.getElem?_setIfInBounds, if_neg (by omega)]⟩

theorem sel_region {P : Program} {b : Frame} {a : Act} {ops : Array Oper} {o : Oper} {r : List Nat} {k : List Item} {cs : List Frame} {w w0 : World} {B nb cb s st mb nn : Nat} {d : Option Nat} {D : DataW Unit} {cl n : Nat} (hb : b.kind = .normal)
    (ho : ops[0]? = some o) (hw : Region.wanted o (yielded ops a.tmps) = true) (hr : (execOp a.eval o).run P w = .ok (.comm #[rcase s (.agg #[]), rcase st (.agg #[]), { chan := .chan d, send := none, zero := .agg #[] }] true .select) w)
    (hA : AS w nb cb s st mb nn d D cl n) (hbel : Below B w0 w) (hB : B ≤ s) :
    ∃ V w', step P (lone (b.at a (.inRegion ops (0 :: r) :: k)) cs w) = .next (lone ((b.at a (.inRegion ops (0 :: r) :: k)).finish V) cs w') ∧ SelR B nb cb s st mb nn d D cl n w0 V w' := by
  have hcm := stepG_comm (main := true) (b := b) (k := k) (cs := cs) (rest := r) ho hw (by rw [hb]; decide) hr
  obtain ⟨cap, buf, sn, rn, hs, hm⟩ := hA.sig
  have htake : ∀ n', n = n' + 1 → AS (w.drew.setChan s cap (buf.extract 1 buf.size) false sn (rn + 1) false) nb cb s st mb nn d D cl n' := by
    rintro n' rfl
    exact hA.drew.take hs hm
  rcases hA.ch with ⟨rfl, hne, c, x, y, hc⟩ | ⟨dn, c, x, y, c', x', y', rfl, n1, n2, hc, hc'⟩
  · rcases Nat.eq_zero_or_pos n with rfl | hn
    · have hbe : buf = #[] := Array.eq_empty_of_size_eq_zero hm
      subst hbe
      refine ⟨_, _, step_lone_sel_recv_shut hcm (k := 1) rfl ?_ hc, .inl ⟨1, .inl rfl, (by simp [commResult, rcase, goInt]), hA, hbel⟩⟩
      intro m cc hm1 hcc
      rcases m with _ | _ | _ | m
      · injection hcc with hcc; subst hcc; exact noWay_recv hs
      · exact absurd rfl hm1
      · injection hcc with hcc; subst hcc; exact noWay_nil _
      · simp at hcc
    · obtain ⟨V, w', hst, hv⟩ := sel_stop hcm hs hc (by omega)
      refine ⟨V, w', hst, ?_⟩
      rcases hv with ⟨rfl, rfl⟩ | ⟨rfl, rfl⟩
      · exact .inl ⟨1, .inl rfl, (by simp [commResult, rcase, goInt]), hA.drew, hbel.drew⟩
      · exact .inr ⟨n - 1, buf.getD 0 undef, by omega, (by simp [commResult, rcase, goInt]), htake _ (by omega), below_setChan hbel.drew hB _ _ _ _ _ _⟩
  · rcases Nat.eq_zero_or_pos n with rfl | hn
    · have hbe : buf = #[] := Array.eq_empty_of_size_eq_zero hm
      subst hbe
      refine ⟨_, _, step_lone_sel_recv_shut hcm (k := 2) rfl ?_ hc', .inl ⟨2, .inr rfl, (by simp [commResult, rcase, goInt]), hA, hbel⟩⟩
      intro m cc hm1 hcc
      rcases m with _ | _ | _ | m
      · injection hcc with hcc; subst hcc; exact noWay_recv hs
      · injection hcc with hcc; subst hcc; exact noWay_recv hc
      · exact absurd rfl hm1
      · simp at hcc
    · obtain ⟨V, w', hst, hv⟩ := sel_ctx hcm hs hc hc' (by omega)
      refine ⟨V, w', hst, ?_⟩
      rcases hv with ⟨rfl, rfl⟩ | ⟨rfl, rfl⟩
      · exact .inl ⟨2, .inr rfl, (by simp [commResult, rcase, goInt]), hA.drew, hbel.drew⟩
      · exact .inr ⟨n - 1, buf.getD 0 undef, by omega, (by simp [commResult, rcase, goInt]), htake _ (by omega), below_setChan hbel.drew hB _ _ _ _ _ _⟩

set_option maxRecDepth 100000 in
set_option maxHeartbeats 1000000 in
theorem await_any (B nb cb s st mb nn : Nat) (d : Option Nat) (D : DataW Unit) (calls m : Nat) (id : Int) (wid : (Lit.int .u64 id).wf = true) (w : World) (h : AS w nb cb s st mb nn d D calls m) (hB : B ≤ nb ∧ B ≤ cb ∧ B ≤ s) (hm : calls + m ≤ 900) :
    Calls Yba.prog 6 #[.pointer (some ⟨nb, 0, none⟩), .iface 71 (.pointer (some ⟨cb, 0, none⟩)), .int .u64 id, .chan (some s)] w fun e w' => e = .returned (.tuple #[]) ∧ ∃ calls' m', AS w' nb cb s st mb nn d D calls' m' ∧ m' ≤ m ∧
      (Maps.has D (.int .u64 id) = false → calls' = calls ∧ m' = m) ∧ (Maps.has D (.int .u64 id) = true → calls' + m' = calls + m + 1) ∧ Below B w w' := by
  refine callsN Yba.func6 rfl ?_
  simp only [Yba.ntmps6, List.size_toArray, List.length_cons, List.length_nil, Nat.reduceAdd, Nat.reduceSub, Array.replicate_succ, Array.replicate_zero, List.push_toArray, List.append_toArray, List.nil_append, List.cons_append]
  refine wpN_block ?_
  refine wpN_loop (fun n a wr => ∃ x4 x5 x6 x7 x8 x9 x10 x11 x12 x13 x14 x15 x16 x17 x18 x19 x20 x21 x22 x23 x24 x25 x26 x27 x28 x29 x30 x31 x32 x33 x34 x35 x36 x37 x38 x39 x40 : Value, a = { tmps := #[.pointer (some ⟨nb, 0, none⟩), .iface 71 (.pointer (some ⟨cb, 0, none⟩)), .int .u64 id, .chan (some s), x4, x5, x6, x7, x8, x9, x10, x11, x12, x13, x14, x15, x16, x17, x18, x19, x20, x21, x22, x23, x24, x25, x26, x27, x28, x29, x30, x31, x32, x33, x34, x35, x36, x37, x38, x39, x40], defers := [] } ∧ ∃ calls', AS wr nb cb s st mb nn d D calls' n ∧ calls' + n = calls + m ∧ n ≤ m ∧ (Maps.has D (.int .u64 id) = false → n = m) ∧ Below B w wr) m ?_ ?_
  · exact ⟨_, _, _, _, _, _, _, _, _, _, _, _, _, _, _, _, _, _, _, _, _, _, _, _, _, _, _, _, _, _, _, _, _, _, _, _, _, rfl, calls, h, rfl, Nat.le_refl _, fun _ => rfl, Below.refl _ _⟩
  rintro n a wr ⟨x4, x5, x6, x7, x8, x9, x10, x11, x12, x13, x14, x15, x16, x17, x18, x19, x20, x21, x22, x23, x24, x25, x26, x27, x28, x29, x30, x31, x32, x33, x34, x35, x36, x37, x38, x39, x40, rfl, cl, hA, hsum, hle, hno, hbel⟩
  refine wpN_block ?_
  refine wpN_seq_k fun K hK => ?_
  have hlk := fun w hc hz => MuLone.lock_free Yba.muLib ⟨nb, 18, none⟩ w hc hz
  go_wp2_with (go_at_call 10; refine (hlk _ hA.mu hA.muz).mono ?_; rintro e w' ⟨rfl, rfl⟩)
  refine wpN_seq_k fun K hK => ?_
  have hmu1 : (wr.setCell ⟨nb, 18, none⟩ (.int .i32 1)).cell? ⟨nb, 18, none⟩ = some (.int .i32 1) := World.cell?_setCell_same _ _ _ hA.mu
  have hcar : (wr.setCell ⟨nb, 18, none⟩ (.int .i32 1)).cell? ⟨nb, 26, none⟩ = some (.map (some mb)) := (World.cell?_setCell_other _ _ _ _ (by simp)).trans hA.car
  have hmz1 : (wr.setCell ⟨nb, 18, none⟩ (.int .i32 1)).frozen? ⟨nb, 18, none⟩ = false := (World.frozen?_setCell _ _ _ _).trans hA.muz
  have hown1 := hA.own.setCell (a := ⟨nb, 18, none⟩) (map_ne hA.own hA.mu) (.int .i32 1)
  have hA2 := hA.again (.int .i32 1)
  have hbel1 : Below B w (wr.setCell ⟨nb, 18, none⟩ (.int .i32 1)) := hbel.setCell hB.1 _
  generalize wr.setCell ⟨nb, 18, none⟩ (.int .i32 1) = w1 at hmu1 hcar hmz1 hown1 hA2 hbel1 ⊢
  go_wp2_with (at_lookup; refine lookup_nil rfl _ _ rfl mb nn D rfl hown1 _ rfl wid ?_)
  refine wpN_seq_k fun K hK => ?_
  have hul := fun w hc hz => MuLone.unlock_held Yba.muLib ⟨nb, 18, none⟩ w hc hz
  go_wp2_with (go_at_call 9; refine (hul _ hmu1 hmz1).mono ?_; rintro e w' ⟨rfl, rfl⟩)
  have hbel2 : Below B w (w1.setCell ⟨nb, 18, none⟩ (.int .i32 0)) := hbel1.setCell hB.1 _
  clear hbel1 hmu1 hcar hmz1 hown1 hbel hA hlk hul
  generalize w1.setCell ⟨nb, 18, none⟩ (.int .i32 0) = w2 at hA2 hbel2 ⊢
  refine wpN_seq_k fun K hK => ?_
  cases hh : Maps.has D (.int .u64 id)
  · go_wp2
    refine bodyPost_ret (results_none rfl _ _ _) rfl ?_
    refine ⟨rfl, cl, n, hA2, hle, ?_, ?_, hbel2⟩
    · intro _
      have := hno hh
      omega
    · intro hx; cases hx
  go_wp2
  refine wpN_seq_k fun K hK => ?_
  have hstp := hA2.stp
  have hme : ∀ w, Sem.run Yba.prog (method 360 71 (.pointer (some ⟨cb, 0, none⟩)) "Done") w = .ok (55, .pointer (some ⟨cb, 0, none⟩)) w := fun w => by kernel_rfl
  go_wp2_with (go_at_call 55; refine (done_any cb cl d _ (by omega) hA2.cd hA2.cc hA2.ccz).mono ?_; rintro e w' ⟨rfl, rfl⟩)
  have hA3 := hA2.done
  have hbel3 : Below B w (w2.setCell ⟨cb, 1, none⟩ (.int .i64 ((cl : Int) + 1))) := hbel2.setCell hB.2.1 _
  clear hbel2 hA2 hstp hme
  generalize w2.setCell ⟨cb, 1, none⟩ (.int .i64 ((cl : Int) + 1)) = w3 at hA3 hbel3 ⊢
  refine wpN_seq ?_
  refine wpN_region_comm (SelR B nb cb s st mb nn d D (cl + 1) n w) ?_ ?_
  · intro b hb k cs
    exact sel_region hb rfl rfl (by simp [go_sem, execOp, rcase, Act.eval]) hA3 hbel3 hB.2.2
  intro V w' hR
  rcases hR with ⟨k, rfl | rfl, rfl, hA4, hbel4⟩ | ⟨n', b0, rfl, rfl, hA4, hbel4⟩
  · go_wp2
    refine wpN_of ?_
    go_wp2
    refine bodyPost_ret (results_none rfl _ _ _) rfl ?_
    refine ⟨rfl, cl + 1, n, hA4, hle, ?_, fun _ => by omega, hbel4⟩
    rw [hh]; intro hx; cases hx
  · go_wp2
    refine wpN_of ?_
    go_wp2
    refine bodyPost_ret (results_none rfl _ _ _) rfl ?_
    refine ⟨rfl, cl + 1, n, hA4, hle, ?_, fun _ => by omega, hbel4⟩
    rw [hh]; intro hx; cases hx
  · go_wp2
    refine wpN_of ?_
    go_wp2
    refine ⟨n', by omega, _, _, _, _, _, _, _, _, _, _, _, _, _, _, _, _, _, _, _, _, _, _, _, _, _, _, _, _, _, _, _, _, _, _, _, _, _, rfl, cl + 1, hA4, by omega, by omega, ?_, hbel4⟩
    rw [hh]; intro hx; cases hx
end Go.Proofs.Ybulkdtze.S
