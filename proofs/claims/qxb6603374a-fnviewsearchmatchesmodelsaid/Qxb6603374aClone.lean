/- The contract of zzB1CloneInts. -/
import Derived.Test.Qxb6603374aCheap
import Derived.Lib.SliceRun
namespace Go.Proofs.Qxb6603374a
open Go.ChangeShapes Go.WideShapes Go.ChangeAt Go.RowKit

/-- A fresh row of numbers, handed back. -/
def RowEnd (n : Nat) (D : Nat → Int) (w : World) (e : Ending) (w' : World) : Prop :=
  e = .returned (.slice (some ⟨w.heap.size, 0, none⟩) n n) ∧ w'.rowIs w.heap.size 3 n (fun v => .int .i64 (D v)) ∧ Below w.heap.size w w' ∧ w'.heap.size = w.heap.size + 1

set_option maxRecDepth 100000 in
set_option maxHeartbeats 1000000 in
theorem clone_any (ka : Option Addr) (kc : Nat) (mark : List Int) (w : World) (hK : Row w ka mark) (h0 : 0 < mark.length) (hn : mark.length ≤ 1048576) :
    Calls Try.prog 18 #[.slice ka mark.length kc] w fun e w' => RowEnd mark.length (fun v => mark.getD v 0) w e w' := by
  obtain ⟨n, hnn⟩ : ∃ n, mark.length = n := ⟨_, rfl⟩
  obtain ⟨kb, ko, hka, -, -⟩ := hK 0 h0
  rw [hnn] at hn h0 ⊢
  subst hka
  have hmk := run_make_row' (P := Try.prog) 24 3 (.int .i64 0) 8 Try.underlying24 Try.info3 rfl .i64 .i64 n (by omega) (by omega)
  have HK := hidden hK
  have HN := hidden hnn
  clear hK hnn
  obtain ⟨D, hD⟩ : ∃ D : Nat → Int, (fun v => mark.getD v 0) = D := ⟨_, rfl⟩
  rw [hD]
  have HDD := hidden (fun v => congrFun hD v)
  clear hD
  have q24 : ∀ (w : World) (a : Option Addr) (n c n' c' : Nat), (binOp .eql 24 (.slice a n c) (.slice none n' c')).run Try.prog w = .ok (.bool a.isNone) w := fun w a n c n' c' => Lib.run_eql_slice_nil w _ _ a n c n' c' Try.underlying24
  go_enter Try.func18, Try.ntmps18
  go_wp2
  clear hmk
  go_loopw [4] (fun i wr => ∃ k : Nat, k ≤ n ∧ i = .int .i64 k ∧ wr.rowIs w.heap.size 3 n (fun j => .int .i64 (if j < k then D j else 0)) ∧ Below w.heap.size w wr ∧ wr.heap.size = w.heap.size + 1) (fun i _ => n - (intOf i).toNat)
  case atStart => exact ⟨0, by omega, rfl, (World.rowIs_made _ _ _ _).congr (fun i _ => by simp), (Below.refl _ _).alloc (Nat.le_refl _) _, by simp⟩
  case round =>
    obtain ⟨k, hk, rfl, hrow, hbel, hz⟩ := hrel
    by_cases hlt : (k : Int) < n
    · have hc := hrow.cell (i := k) (by omega)
      have hf := hrow.frozen k
      obtain ⟨b1, o1, e1, hc1, hi1⟩ := HK.out.kept hbel k (by rw [HN.out]; omega)
      cases e1
      obtain ⟨X, HX'⟩ : ∃ X, mark.getD k 0 = X := ⟨_, rfl⟩
      rw [HX'] at hc1 hi1
      have HX := hidden HX'
      clear HX'
      go_wp2
      go_roundw
      case rel =>
        refine ⟨k + 1, by omega, by go_num, (hrow.set k _).congr (fun j _ => ?_), hbel.setCell (Nat.le_refl _) _, by simpa using hz⟩
        by_cases e : j = k
        · subst e; rw [if_pos rfl, if_pos (by omega), ← HDD.out j]; exact congrArg _ HX.out.symm
        · simp only [e, if_false]
          by_cases h : j < k
          · rw [if_pos h, if_pos (by omega)]
          · rw [if_neg h, if_neg (by omega)]
      case measure => simp [intOf]; omega
    · have e : k = n := by omega
      subst e
      go_wp2
      go_ret
      exact ⟨rfl, hrow.congr (fun j hj => by rw [if_pos hj]), hbel, hz⟩
end Go.Proofs.Qxb6603374a
