/-
  The refusals: fmt.Errorf with '%w' of the sentinel, by closed facts at this dump (after the guide's worked GuardFmt, GuardWalks): the error that comes back is a new *fmt.wrapError whose second cell holds the sentinel.
-/
import Derived.Test.YbulkdtycFmtSubs
import Derived.Stop.CallBack
import Derived.Stop.IfaceNil
import Derived.Tactics2
import Derived.RowKitTokens
import Derived.Stop.LaidErr
import GoSem.ClaimData
namespace Go.Proofs.YbulkdtycFmt.S
open Go.RowKit Go.Extern.Stop Go.Stop Go.Extern

theorem call13 (args : Array Value) (w : World) : (callFunc 13 args).run Ybaf.prog w = ((FmtStop.errorf #[9, 41] #[24] args).run Ybaf.prog w).andThen fun v w' => .ok (.value v) w' :=
  run_callFunc_extern Ybaf.func13 (by kernel_rfl) (by kernel_rfl) (by kernel_rfl) (by kernel_rfl) args w
theorem fguard (name : String) (w : World) : (FmtStop.guard name).run Ybaf.prog w = .ok () w := by kernel_rfl

theorem fmt0 : FmtStop.printed? ⟨#[109, 111, 114, 101, 32, 116, 104, 97, 110, 32, 37, 100, 32, 115, 101, 116, 115, 58, 32, 37, 119]⟩ 2 = some [(0, 100, false), (1, 119, false)] := by kernel_rfl
theorem fmt0r (w : World) : (FmtDoors.printed ⟨#[109, 111, 114, 101, 32, 116, 104, 97, 110, 32, 37, 100, 32, 115, 101, 116, 115, 58, 32, 37, 119]⟩ 2).run Ybaf.prog w = .ok [(0, 100, false), (1, 119, false)] w := by kernel_rfl
theorem fmt1 : FmtStop.printed? ⟨#[109, 111, 114, 101, 32, 116, 104, 97, 110, 32, 37, 100, 32, 112, 97, 114, 116, 105, 101, 115, 32, 105, 110, 32, 97, 108, 108, 32, 116, 104, 101, 32, 115, 101, 116, 115, 58, 32, 37, 119]⟩ 2 = some [(0, 100, false), (1, 119, false)] := by kernel_rfl
theorem fmt1r (w : World) : (FmtDoors.printed ⟨#[109, 111, 114, 101, 32, 116, 104, 97, 110, 32, 37, 100, 32, 112, 97, 114, 116, 105, 101, 115, 32, 105, 110, 32, 97, 108, 108, 32, 116, 104, 101, 32, 115, 101, 116, 115, 58, 32, 37, 119]⟩ 2).run Ybaf.prog w = .ok [(0, 100, false), (1, 119, false)] w := by kernel_rfl

def shape3 : List UInt8 := [5, 3, 0, 0, 0, 0, 0, 0, 0, 105, 110, 116]
theorem op3_100w (name : String) (x : Int) (w : World) : (FmtStop.operand name true 100 false (.iface 3 (.int .i64 x))).run Ybaf.prog w = .ok (shape3, Go.Extern.Stop.digits 8 (x % 2 ^ 64).toNat) w := by kernel_rfl

theorem ptr43 (w : World) : (FmtStop.ptrTo "fmt.wrapError").run Ybaf.prog w = .ok 43 w := by kernel_rfl
theorem elem43 (w : World) : (elemOf 43).run Ybaf.prog w = .ok 82 w := by kernel_rfl
theorem isError43 (w : World) : (FmtDoors.textMethod 43 "Error").run Ybaf.prog w = .ok true w := by kernel_rfl
theorem isError55 (w : World) : (FmtDoors.textMethod 55 "Error").run Ybaf.prog w = .ok true w := by kernel_rfl
abbrev nm55 : String := String.ofList ['*', 'e', 'r', 'r', 'o', 'r', 's', '.', 'e', 'r', 'r', 'o', 'r', 'S', 't', 'r', 'i', 'n', 'g']
def plain55 : List UInt8 := 14 :: FmtStop.pack nm55.toUTF8.data.toList
theorem opPlain55_119w (name : String) (a : Addr) (s : ByteArray) (w : World) (hc : w.cell? a = some (.string s)) :
    (FmtStop.operand name true 119 false (.iface 55 (.pointer (some a)))).run Ybaf.prog w = .ok (plain55, s.data.toList) w := by
  have h1 : (typeStr 55).run Ybaf.prog w = .ok nm55 w := by kernel_rfl
  have d2 : Ybaf.t55.desc = .pointer 57 := rfl
  have d3 : Ybaf.t57.desc = .named "errors.errorString" 56 := rfl
  simp [FmtStop.operand, h1, d2, d3, run_load, hc, plain55]

/-- What a refusal leaves: a *fmt.wrapError in a new block, its second cell the sentinel. -/
def Refused (a : Addr) (w : World) (v : Value) (w' : World) : Prop :=
  ∃ pb, v = .iface 43 (.pointer (some ⟨pb, 0, none⟩)) ∧ w.heap.size ≤ pb ∧ w'.cell? ⟨pb, 1, none⟩ = some (.iface 55 (.pointer (some a))) ∧ Below w.heap.size w w'

theorem refused_new (a : Addr) (w : World) (o : Obj) (v : Value) (t : TypeId) :
    Refused a w (.iface 43 (.pointer (some ⟨w.heap.size + 1, 0, none⟩))) ((w.alloc o).alloc (.cells #[v, .iface 55 (.pointer (some a))] t)).drew := by
  refine ⟨w.heap.size + 1, rfl, by omega, ?_, ((((Below.refl _ w).alloc (Nat.le_refl _) _).alloc (by simp) _).drew)⟩
  have h : ((w.alloc o).alloc (.cells #[v, .iface 55 (.pointer (some a))] t)).cell? ⟨w.heap.size + 1, 1, none⟩ = some (.iface 55 (.pointer (some a))) := by
    have h2 := heap_alloc_new (w.alloc o) (.cells #[v, .iface 55 (.pointer (some a))] t)
    rw [World.size_alloc] at h2
    rw [World.cell?]
    simp only [h2]
    rfl
  exact h

set_option maxRecDepth 100000 in
set_option maxHeartbeats 2000000 in
theorem chk_big (F : Interp) (c e : Nat) (a : Addr) (s : ByteArray) (w : World) (hF : F.answers w.tape) (hg : w.cell? ⟨0, 0, none⟩ = some (.iface 55 (.pointer (some a)))) (hs : w.cell? a = some (.string s)) (hc : c ≤ 1048576) (he : 16777216 < e) :
    Calls Ybaf.prog 10 #[.int .i64 c, .int .i64 e] w fun r w' => ∃ v, r = .returned v ∧ Refused a w v w' := by
  have h1 : ¬ (1048576 : Int) < c := by omega
  have h2 : (16777216 : Int) < e := by omega
  have hF' := hF
  unfold Interp.answers at hF'
  have f1 := call13
  have f2 := fguard
  have f3 := fmt1
  have f4 := fmt1r
  have f5 := op3_100w
  have f6 := ptr43
  have f7 := elem43
  have f8 := isError43
  have f9 := isError55
  have hop := fun o => opPlain55_119w "fmt.errorf" a s (w.alloc o) (cell?_alloc_old _ hs)
  go_enter Ybaf.func10, Ybaf.ntmps10
  go_wp2
  go_ret
  exact ⟨_, rfl, refused_new a w _ _ _⟩

set_option maxRecDepth 100000 in
set_option maxHeartbeats 2000000 in
/-- 'subsets' where the sets hold too many parties in all. -/
theorem subs_big (F : Interp) (n size cnt : Nat) (a : Addr) (s : ByteArray) (w : World) (hF : F.answers w.tape) (hg : w.cell? ⟨0, 0, none⟩ = some (.iface 55 (.pointer (some a)))) (hs : w.cell? a = some (.string s)) (hsz : size ≤ 4096) (hc : cnt ≤ 1048576) (he : 16777216 < cnt * size)
    (hbin : Calls Ybaf.prog 8 #[.int .i64 n, .int .i64 size, .int .i64 1048576] w fun e w' => e = .returned (.tuple #[.int .i64 cnt, .bool true]) ∧ w' = w) :
    Calls Ybaf.prog 4 #[.int .i64 n, .int .i64 size] w fun r w' => ∃ v, r = .returned (.tuple #[.slice none 0 0, v]) ∧ Refused a w v w' := by
  obtain ⟨C, hC⟩ : ∃ C, C = cnt * size := ⟨_, rfl⟩
  have hm : (cnt : Int) * (size : Int) = (C : Int) := by rw [hC]; exact (Int.natCast_mul _ _).symm
  have hCle : C ≤ 1048576 * 4096 := by rw [hC]; exact Nat.mul_le_mul hc hsz
  rw [← hC] at he
  clear hC
  have hchk := chk_big F cnt C a s w hF hg hs hc he
  go_enter Ybaf.func4, Ybaf.ntmps4
  go_wp2_with (first | (go_at_call 8; refine hbin.mono ?_; rintro e w' ⟨rfl, rfl⟩) | (go_at_call 10; refine hchk.mono ?_; rintro e w2 ⟨v, rfl, pb, rfl, R⟩))
  go_ret2
  exact ⟨_, rfl, pb, rfl, R⟩

set_option maxRecDepth 100000 in
set_option maxHeartbeats 2000000 in
/-- 'subsets' where there are too many sets. -/
theorem subs_many (F : Interp) (n size : Nat) (a : Addr) (s : ByteArray) (w : World) (hF : F.answers w.tape) (hg : w.cell? ⟨0, 0, none⟩ = some (.iface 55 (.pointer (some a)))) (hs : w.cell? a = some (.string s))
    (hbin : Calls Ybaf.prog 8 #[.int .i64 n, .int .i64 size, .int .i64 1048576] w fun e w' => e = .returned (.tuple #[.int .i64 0, .bool false]) ∧ w' = w) :
    Calls Ybaf.prog 4 #[.int .i64 n, .int .i64 size] w fun r w' => ∃ v, r = .returned (.tuple #[.slice none 0 0, v]) ∧ Refused a w v w' := by
  have hF' := hF
  unfold Interp.answers at hF'
  have f1 := call13
  have f2 := fguard
  have f3 := fmt0
  have f4 := fmt0r
  have f5 := op3_100w
  have f6 := ptr43
  have f7 := elem43
  have f8 := isError43
  have f9 := isError55
  have hop := fun o => opPlain55_119w "fmt.errorf" a s (w.alloc o) (cell?_alloc_old _ hs)
  go_enter Ybaf.func4, Ybaf.ntmps4
  go_wp2_with (first | (go_at_call 8; refine hbin.mono ?_; rintro e w' ⟨rfl, rfl⟩) | go_in)
  go_ret2
  exact ⟨_, rfl, refused_new a _ _ _ _⟩
end Go.Proofs.YbulkdtycFmt.S
