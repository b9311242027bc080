/-
  'zzs6034abinom' (f5): the binomial number by Pascal's rule, saturated.
-/
import Derived.Test.YbulkdtycFmtBase
namespace Go.Proofs.YbulkdtycFmt.S
open Go.RowKit

def sat (x : Nat) : Nat := min x 1048577

theorem sat_le (x : Nat) : sat x ≤ 1048577 := Nat.min_le_right _ _

theorem sat_add_lo (a b : Nat) (h : sat a + sat b ≤ 1048576) : sat (a + b) = sat a + sat b := by
  unfold sat at *
  omega

theorem sat_add_hi (a b : Nat) (h : 1048576 < sat a + sat b) : sat (a + b) = 1048577 := by
  unfold sat at *
  omega

/-- The row while round r goes down: behind place j the new row, up to it the old one. -/
def mid (r j t : Nat) : Value := .int .i64 (sat (ch (if j < t then r + 1 else r) t) : Nat)

def pas (r t : Nat) : Value := .int .i64 (sat (ch r t) : Nat)

theorem mid_end (r t : Nat) : mid r 0 t = pas (r + 1) t := by
  unfold mid pas
  cases t with
  | zero => simp [ch_zero]
  | succ t => simp

theorem mid_top (r K t : Nat) (h : t < K + 1) : pas r t = mid r (min (r + 1) K) t := by
  unfold mid pas
  split
  · rename_i h1
    have h2 : r + 1 < t := by omega
    rw [ch_gt r t (by omega), ch_gt (r + 1) t h2]
  · rfl

theorem mid_step (r j t : Nat) (v : Value) (hv : v = pas (r + 1) (j + 1)) : (if t = j + 1 then v else mid r (j + 1) t) = mid r j t := by
  subst hv
  unfold mid pas
  by_cases h : t = j + 1
  · subst h
    simp
  · rw [if_neg h]
    by_cases h1 : j + 1 < t
    · simp [h1, show j < t by omega]
    · simp [h1, show ¬ j < t by omega]

theorem pas_new (w : World) (K : Nat) : Row (w.alloc (.cells ((madeCells #[.int .i64 0] (K + 1)).setIfInBounds 0 (.int .i64 1)) 3)) w.heap.size 3 (K + 1) (pas 0) := by
  refine ⟨_, heap_alloc_new w _, by simp [size_madeCells], fun t ht => ?_⟩
  cases t with
  | zero => simp [size_madeCells, pas, ch, sat]
  | succ t =>
    rw [Array.getElem?_setIfInBounds_ne (by omega), made_get _ _ _ ht]
    simp [pas, ch, sat]

set_option maxRecDepth 1000000 in
set_option maxHeartbeats 4000000 in
theorem pas_tail (u2 u3 u5 u6 u7 u8 u9 u10 u11 u12 u13 u14 u15 u16 u17 u18 u19 u20 u21 u22 u23 u24 u25 u26 u27 u28 u29 u30 u31 u32 u33 u34 u35 u36 u37 u38 u39 u40 u41 u42 u43 u44 u45 u46 u47 u48 u49 u50 u51 u52 u53 u54 u55 u56 u57 : Value) (n K : Nat) (hKn : K ≤ n) (hn : n ≤ 4096) (w : World) :
    Code.wp Ybaf.prog (tailAt 3 (Ybaf.f5.body.getD .skip)) (bodyPost Ybaf.prog Ybaf.f5 fun e w' => e = .returned (.int .i64 (sat (ch n K) : Nat)) ∧ Below w.heap.size w w') ⟨#[.int .i64 n, .int .i64 K, u2, u3, .int .i64 0, u5, u6, u7, u8, u9, u10, u11, u12, u13, u14, u15, u16, u17, u18, u19, u20, u21, u22, u23, u24, u25, u26, u27, u28, u29, u30, u31, u32, u33, u34, u35, u36, u37, u38, u39, u40, u41, u42, u43, u44, u45, u46, u47, u48, u49, u50, u51, u52, u53, u54, u55, u56, u57], []⟩ w := by
  conv => arg 2; whnf
  have hmk := run_make3 w (K + 1) (K + 1) (Nat.le_refl _) (by omega)
  rw [show ((K + 1 : Nat) : Int) = (K : Int) + 1 by omega] at hmk
  have hc0 : (w.alloc (.cells (madeCells #[.int .i64 0] (K + 1)) 3)).cell? ⟨w.heap.size, 0, none⟩ = some (.int .i64 0) := by
    rw [World.cell?]
    simp only [heap_alloc_new]
    exact made_get _ _ _ (by omega)
  go_wp2
  have hrow0 := pas_new w K
  have hbel0 : Below w.heap.size w (w.alloc (.cells ((madeCells #[.int .i64 0] (K + 1)).setIfInBounds 0 (.int .i64 1)) 3)) := (Below.refl _ w).alloc (Nat.le_refl _) _
  clear hmk hc0
  generalize w.alloc (.cells ((madeCells #[.int .i64 0] (K + 1)).setIfInBounds 0 (.int .i64 1)) 3) = w1 at hrow0 hbel0 ⊢
  go_loopg [6, 7, 8, 9] n (fun g r t j v wr => ∃ q : Nat, q + g = n ∧ r = .int .i64 ((q : Int) + 1) ∧ Row wr w.heap.size 3 (K + 1) (pas q) ∧ Below w.heap.size w wr)
  case atStart => exact ⟨0, by omega, rfl, hrow0, hbel0⟩
  case round =>
    obtain ⟨q, hq, rfl, hrow, hbel⟩ := hrel
    clear hrow0 hbel0
    by_cases hqn : q < n
    · have hqi : (q : Int) + 1 ≤ n := by omega
      obtain ⟨T, hT⟩ : ∃ T, T = min (q + 1) K := ⟨_, rfl⟩
      have hmid : Row wr w.heap.size 3 (K + 1) (mid q T) := hrow.congr fun t ht => by rw [hT]; exact mid_top q K t ht
      by_cases hKq : (K : Int) < (q : Int) + 1
      · have hTK : T = K := by omega
        have hTle : T ≤ K := by omega
        clear hT
        go_wp2
        go_loopg [8, 9] T (fun g j v wx => ∃ p : Nat, p = g ∧ p ≤ T ∧ j = .int .i64 p ∧ Row wx w.heap.size 3 (K + 1) (mid q p) ∧ Below w.heap.size w wx)
        case atStart => exact ⟨T, rfl, Nat.le_refl _, by rw [hTK], hmid, hbel⟩
        case round =>
          obtain ⟨p, rfl, hpT, rfl, hr, hb⟩ := hrel
          clear hmid hbel hrow
          cases p with
          | zero =>
            go_wp2
            go_roundg (n - (q + 1))
            case rel => exact ⟨q + 1, by omega, by go_num, hr.congr fun t _ => mid_end q t, hb⟩
            case measure => omega
          | succ p =>
            have p1 := hr.cell (p + 1) (by omega)
            have p2 := hr.cell p (by omega)
            have m1 : mid q (p + 1) (p + 1) = .int .i64 (sat (ch q (p + 1)) : Nat) := by simp [mid]
            have m2 : mid q (p + 1) p = .int .i64 (sat (ch q p) : Nat) := by simp [mid, show ¬ p + 1 < p by omega]
            have p3 := fun m => (hr.drewN m).cell (p + 1) (by omega)
            rw [m1] at p1
            simp only [m1] at p3
            have p4 := fun m => (hr.drewN m).frozen (p + 1)
            rw [m2] at p2
            clear m1 m2
            have s1 := sat_le (ch q (p + 1))
            have s2 := sat_le (ch q p)
            have hpK : (p : Int) + 1 < (K : Int) + 1 := by omega
            have hch : ch (q + 1) (p + 1) = ch q (p + 1) + ch q p := Nat.add_comm _ _
            by_cases hs : sat (ch q (p + 1)) + sat (ch q p) ≤ 1048576
            · have hs' : ¬ (1048576 : Int) < (sat (ch q (p + 1)) : Int) + (sat (ch q p) : Int) := by omega
              have hv := sat_add_lo _ _ hs
              rw [← hch] at hv
              go_wp2
              go_quiet (fail)
              go_wp2
              go_roundg p
              case rel => exact ⟨p, rfl, by omega, by go_num, ((hr.drewN _).set (p + 1) _).congr fun t _ => mid_step q p t _ (by unfold pas; rw [hv]; simp), below_set (below_drewN hb _) _ _ _ (Nat.le_refl _)⟩
              case measure => omega
            · have hs' : (1048576 : Int) < (sat (ch q (p + 1)) : Int) + (sat (ch q p) : Int) := by omega
              have hv := sat_add_hi _ _ (Nat.lt_of_not_le hs)
              rw [← hch] at hv
              go_wp2
              go_quiet (fail)
              go_wp2
              go_roundg p
              case rel => exact ⟨p, rfl, by omega, by go_num, ((hr.drewN _).set (p + 1) _).congr fun t _ => mid_step q p t _ (by unfold pas; rw [hv]; rfl), below_set (below_drewN hb _) _ _ _ (Nat.le_refl _)⟩
              case measure => omega

      · have hTK : T = q + 1 := by omega
        have hTle : T ≤ K := by omega
        clear hT
        go_wp2
        go_loopg [8, 9] T (fun g j v wx => ∃ p : Nat, p = g ∧ p ≤ T ∧ j = .int .i64 p ∧ Row wx w.heap.size 3 (K + 1) (mid q p) ∧ Below w.heap.size w wx)
        case atStart => exact ⟨T, rfl, Nat.le_refl _, by rw [hTK]; go_num, hmid, hbel⟩
        case round =>
          obtain ⟨p, rfl, hpT, rfl, hr, hb⟩ := hrel
          clear hmid hbel hrow
          cases p with
          | zero =>
            go_wp2
            go_roundg (n - (q + 1))
            case rel => exact ⟨q + 1, by omega, by go_num, hr.congr fun t _ => mid_end q t, hb⟩
            case measure => omega
          | succ p =>
            have p1 := hr.cell (p + 1) (by omega)
            have p2 := hr.cell p (by omega)
            have m1 : mid q (p + 1) (p + 1) = .int .i64 (sat (ch q (p + 1)) : Nat) := by simp [mid]
            have m2 : mid q (p + 1) p = .int .i64 (sat (ch q p) : Nat) := by simp [mid, show ¬ p + 1 < p by omega]
            have p3 := fun m => (hr.drewN m).cell (p + 1) (by omega)
            rw [m1] at p1
            simp only [m1] at p3
            have p4 := fun m => (hr.drewN m).frozen (p + 1)
            rw [m2] at p2
            clear m1 m2
            have s1 := sat_le (ch q (p + 1))
            have s2 := sat_le (ch q p)
            have hpK : (p : Int) + 1 < (K : Int) + 1 := by omega
            have hch : ch (q + 1) (p + 1) = ch q (p + 1) + ch q p := Nat.add_comm _ _
            by_cases hs : sat (ch q (p + 1)) + sat (ch q p) ≤ 1048576
            · have hs' : ¬ (1048576 : Int) < (sat (ch q (p + 1)) : Int) + (sat (ch q p) : Int) := by omega
              have hv := sat_add_lo _ _ hs
              rw [← hch] at hv
              go_wp2
              go_quiet (fail)
              go_wp2
              go_roundg p
              case rel => exact ⟨p, rfl, by omega, by go_num, ((hr.drewN _).set (p + 1) _).congr fun t _ => mid_step q p t _ (by unfold pas; rw [hv]; simp), below_set (below_drewN hb _) _ _ _ (Nat.le_refl _)⟩
              case measure => omega
            · have hs' : (1048576 : Int) < (sat (ch q (p + 1)) : Int) + (sat (ch q p) : Int) := by omega
              have hv := sat_add_hi _ _ (Nat.lt_of_not_le hs)
              rw [← hch] at hv
              go_wp2
              go_quiet (fail)
              go_wp2
              go_roundg p
              case rel => exact ⟨p, rfl, by omega, by go_num, ((hr.drewN _).set (p + 1) _).congr fun t _ => mid_step q p t _ (by unfold pas; rw [hv]; rfl), below_set (below_drewN hb _) _ _ _ (Nat.le_refl _)⟩
              case measure => omega

    · have hqi : ¬ (q : Int) + 1 ≤ n := by omega
      obtain rfl : q = n := by omega
      have hc := hrow.cell K (by omega)
      simp only [pas] at hc
      clear hrow
      go_wp2
      go_ret
      exact ⟨rfl, hbel⟩

set_option maxRecDepth 1000000 in
set_option maxHeartbeats 4000000 in
theorem pas_any (n k : Nat) (hkn : k ≤ n) (hn : n ≤ 4096) (w : World) :
    Calls Ybaf.prog 5 #[.int .i64 n, .int .i64 k] w fun e w' => e = .returned (.int .i64 (sat (ch n k) : Nat)) ∧ Below w.heap.size w w' := by
  by_cases hk : (n : Int) - k < k
  · rw [ch_symm n k hkn]
    go_enter Ybaf.func5, Ybaf.ntmps5
    iterate 47 go_step
    rw [show (n : Int) - k = ((n - k : Nat) : Int) by omega]
    apply pas_tail
    · omega
    · omega
  · go_enter Ybaf.func5, Ybaf.ntmps5
    iterate 34 go_step
    apply pas_tail
    · omega
    · omega
end Go.Proofs.YbulkdtycFmt.S
