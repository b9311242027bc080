import Derived.Test.YbulkdtzsLoop
namespace Go.Proofs.Ybulkdtzs.S
open Go.RowKit

abbrev bytes12 (id fl rc : Nat) : List Int := [(id : Int) / 256, (id : Int) % 256, (acc fl rc 16 : Int) / 256, (acc fl rc 16 : Int) % 256, 0, 0, 0, 0, 0, 0, 0, 0]

def bt12 (id fl rc j : Nat) : Int := (bytes12 id fl rc).getD j 0

theorem body_eq (id fl rc : Nat) : body id fl rc = (bytes12 id fl rc).map (Value.int .u8) := rfl

theorem body_bt (id fl rc j : Nat) (hj : j < 12) : (body id fl rc)[j]? = some (Value.int .u8 (bt12 id fl rc j)) := by
  rw [body_eq, List.getElem?_map]
  have : (bytes12 id fl rc)[j]? = some (bt12 id fl rc j) := by
    simp only [bt12, List.getD_eq_getElem?_getD]
    rw [List.getElem?_eq_getElem (by simpa using hj)]
    rfl
  rw [this]
  rfl

theorem new_bt (id fl rc j : Nat) (hj : j < 12) (w : World) : (w.alloc (.cells #[.int .u8 ((id : Int) / 256), .int .u8 ((id : Int) % 256), .int .u8 ((acc fl rc 16 : Int) / 256), .int .u8 ((acc fl rc 16 : Int) % 256), .int .u8 0, .int .u8 0, .int .u8 0, .int .u8 0, .int .u8 0, .int .u8 0, .int .u8 0, .int .u8 0] 32)).cell? ⟨w.heap.size, j, none⟩ = some (.int .u8 (bt12 id fl rc j)) := by
  have h : (w.alloc (.cells ((body id fl rc).toArray) 32)).heap[w.heap.size]? = some (.cells ((body id fl rc).toArray) 32) := heap_alloc_new w _
  have h2 : (w.alloc (.cells ((body id fl rc).toArray) 32)).cell? ⟨w.heap.size, j, none⟩ = some (.int .u8 (bt12 id fl rc j)) := by
    simp only [World.cell?, h]
    simpa using body_bt id fl rc j hj
  exact h2

set_option maxRecDepth 1000000 in
set_option maxHeartbeats 4000000 in
theorem law_tail (u3 u4 u5 u6 u7 u8 u12 u13 u14 u15 u16 u17 u18 u19 u20 u21 u22 u23 u24 u25 u26 u27 u28 u29 u30 u31 u32 u33 u34 u35 u36 u37 u38 u39 u40 u41 u42 u43 u44 u45 u46 u47 u48 u49 u50 u51 u52 u53 u54 u55 u56 u57 u58 u59 u60 u61 u62 u63 u64 u65 u66 u67 u68 u69 u70 u71 u72 u73 u74 u75 u76 u77 u78 u79 u80 u81 u82 u83 u84 u85 u86 u87 u88 u89 u90 u91 u92 u93 u94 u95 u96 u97 u98 u99 u100 u101 u102 u103 u104 u105 u106 u107 u108 u109 u110 u111 u112 u113 u114 u115 u116 u117 u118 u119 u120 u121 u122 u123 u124 u125 u126 u127 u128 u129 u130 u131 u132 u133 u134 u135 u136 u137 u138 u139 u140 u141 u142 u143 u144 u145 u146 u147 u148 u149 u150 u151 u152 u153 u154 u155 u156 u157 u158 u159 u160 u161 u162 u163 u164 u165 : Value) (tb n cp id fl rc : Nat) (a3 : Option Addr) (ys : List Value) (t0 t5 t8 : Bool) (t1 t2 t3 t4 t6 t7 t9 : Int) (w0 w : World) (h0 : id < 65536) (h1 : fl < 65536) (h2 : rc < 65536) (hown : w.ownsRow w0.heap.size 5 1 (.slice a3 n cp) n ys) (hb0 : Below w0.heap.size w0 w)
    (htb : w.heap[tb]? = some (.cells #[.bool t0, .int .i64 t1, .int .i64 t2, .int .i64 t3, .int .u16 t4, .bool t5, .int .i64 t6, .int .u16 t7, .bool t8, .int .u32 t9] 26 (0, 0))) :
    Code.wp Yba.prog (tailAt 7 (Yba.f3.body.getD .skip)) (bodyPost Yba.prog Yba.f3 fun e w' => e = .returned (.bool true) ∧ Below w0.heap.size w0 w') ⟨#[.int .u16 id, .int .u16 fl, .int .u16 rc, u3, u4, u5, u6, u7, u8, .pointer (some ⟨tb, 0, none⟩), .bool false, .slice a3 n cp, u12, u13, u14, u15, u16, u17, u18, u19, u20, u21, u22, u23, u24, u25, u26, u27, u28, u29, u30, u31, u32, u33, u34, u35, u36, u37, u38, u39, u40, u41, u42, u43, u44, u45, u46, u47, u48, u49, u50, u51, u52, u53, u54, u55, u56, u57, u58, u59, u60, u61, u62, u63, u64, u65, u66, u67, u68, u69, u70, u71, u72, u73, u74, u75, u76, u77, u78, u79, u80, u81, u82, u83, u84, u85, u86, u87, u88, u89, u90, u91, u92, u93, u94, u95, u96, u97, u98, u99, u100, u101, u102, u103, u104, u105, u106, u107, u108, u109, u110, u111, u112, u113, u114, u115, u116, u117, u118, u119, u120, u121, u122, u123, u124, u125, u126, u127, u128, u129, u130, u131, u132, u133, u134, u135, u136, u137, u138, u139, u140, u141, u142, u143, u144, u145, u146, u147, u148, u149, u150, u151, u152, u153, u154, u155, u156, u157, u158, u159, u160, u161, u162, u163, u164, u165], []⟩ w := by
  conv => arg 2; whnf
  have c0 : w.cell? ⟨tb, 0, none⟩ = some (.bool t0) := by simp [World.cell?, htb]
  have c1 : w.cell? ⟨tb, 1, none⟩ = some (.int .i64 t1) := by simp [World.cell?, htb]
  have c2 : w.cell? ⟨tb, 2, none⟩ = some (.int .i64 t2) := by simp [World.cell?, htb]
  have c3 : w.cell? ⟨tb, 3, none⟩ = some (.int .i64 t3) := by simp [World.cell?, htb]
  have c4 : w.cell? ⟨tb, 4, none⟩ = some (.int .u16 t4) := by simp [World.cell?, htb]
  have c5 : w.cell? ⟨tb, 5, none⟩ = some (.bool t5) := by simp [World.cell?, htb]
  have c6 : w.cell? ⟨tb, 6, none⟩ = some (.int .i64 t6) := by simp [World.cell?, htb]
  have c7 : w.cell? ⟨tb, 7, none⟩ = some (.int .u16 t7) := by simp [World.cell?, htb]
  have c8 : w.cell? ⟨tb, 8, none⟩ = some (.bool t8) := by simp [World.cell?, htb]
  have c9 : w.cell? ⟨tb, 9, none⟩ = some (.int .u32 t9) := by simp [World.cell?, htb]
  have h4 := start_any w0.heap.size w.heap.size n id fl rc (.slice a3 n cp) ys h0 h1 h2 (w.alloc (.cells #[.bool t0, .slice a3 n cp, .int .i64 t1, .int .i64 t2, .int .i64 t3, .int .u16 t4, .bool t5, .int .i64 t6, .int .u16 t7, .bool t8, .int .u32 t9] 29)) (hown.alloc _) (Nat.le_trans hb0.size (by simp)) _ (heap_alloc_new w _) rfl
  go_wp2_with (go_at_call 4; refine h4.mono ?_; rintro e w' ⟨rfl, w4, v3, own3, k4, b4, rfl⟩; obtain ⟨g3, cap3, rfl⟩ := own_some own3 (by decide); have RD := ready_made own3 k4 (heap_alloc_new w _) ((Below.heap_alloc _ _ _ (lt_of_heap htb)).trans htb) (.slice (some ⟨g3, 0, none⟩) 12 cap3); have r1 : (w4.setCell ⟨w.heap.size, 1, none⟩ (.slice (some ⟨g3, 0, none⟩) 12 cap3)).cell? ⟨w.heap.size, 1, none⟩ = some (.slice (some ⟨g3, 0, none⟩) 12 cap3) := (by simp [World.cell?, RD.rbc]))
  have hb5 : Below w0.heap.size w0 (w4.setCell ⟨w.heap.size, 1, none⟩ (.slice (some ⟨g3, 0, none⟩) 12 cap3)) := ((hb0.alloc hb0.size _).trans b4).setCell hb0.size _
  clear h4 c0 c1 c2 c3 c4 c5 c6 c7 c8 c9 r1 own3 k4 b4 hown
  generalize w4.setCell ⟨w.heap.size, 1, none⟩ (.slice (some ⟨g3, 0, none⟩) 12 cap3) = W5 at RD hb5 ⊢
  generalize w.heap.size = rb at RD ⊢
  change Ready W5 rb tb g3 _ _ _ (body id fl rc) at RD
  refine (head_any id fl rc h0 h1 h2 W5).mono ?_
  rintro e w6 ⟨rfl, hb6⟩
  have RD6 := RD.below hb6
  have hb7 := hb5.trans (hb6.mono hb5.size)
  clear RD hb6 hb5 htb hb0
  simp only []
  go_at_K
  go_step
  go_step
  go_step
  go_step
  go_step
  go_step
  go_step
  go_step
  go_step
  go_step
  have hA := Below.heap_alloc
  have LG : g3 < w6.heap.size := by obtain ⟨_, _, cur, h3, _⟩ := RD6; exact lt_of_heap h3
  have hbyte : ∀ j, j < 12 → (body id fl rc)[j]? = some (Value.int .u8 (bt12 id fl rc j)) := fun j hj => body_bt id fl rc j hj
  apply law_loop (bt := bt12 id fl rc) (sv := .slice (some ⟨g3, 0, none⟩) 12 cap3) (t0 := t0) (t1 := t1) (t2 := t2) (t3 := t3) (t4 := t4) (t5 := t5) (t6 := t6) (t7 := t7) (t8 := t8) (t9 := t9) (w0 := w0)
  case hb0 => exact hb7.alloc hb7.size _
  case hg => exact fun j hj => ((Below.refl _ w6).alloc (Nat.le_refl _) _).cell (p := ⟨g3, j, none⟩) LG |>.trans (RD6.byte j hj _ (hbyte j hj))
  case hh => exact fun j hj => new_bt id fl rc j hj w6
  case hgs => simp; omega
  case hhs => simp
  case htb => exact (hA _ _ _ (lt_of_heap RD6.tbc)).trans RD6.tbc
  case hrb => exact (hA _ _ _ (lt_of_heap RD6.rbc)).trans RD6.rbc
end Go.Proofs.Ybulkdtzs.S
