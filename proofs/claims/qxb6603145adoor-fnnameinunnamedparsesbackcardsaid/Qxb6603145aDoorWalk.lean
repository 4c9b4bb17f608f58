/- The walk of FnNameInUnnamedParsesBack. -/
import Derived.Test.Qxb6603145aDoorRows
import Derived.Test.Qxb6603145aDoorSmall
import Derived.Test.Qxb6603145aDoorNm
import Derived.WalkKit
import Derived.ProofKit
import Derived.OpenShut
import Derived.ShutString
import Derived.WalkSpells
namespace Go.Proofs.Qxb6603145aDoor
open Go.ChangeShapes Go.WideShapes Go.ChangeAt Go.RowKit

/-- The table still lies there. -/
theorem tab_below {w w' : World} (h : Lib.TabIs Tryd.prog w Tryd.powName .u64 Lib.pow10Tab) (hb : Below w.heap.size w w') : Lib.TabIs Tryd.prog w' Tryd.powName .u64 Lib.pow10Tab := by
  have hg : ∃ g, Tryd.prog.globalNamed Tryd.powName = some g := ⟨0, by kernel_rfl⟩
  obtain ⟨g, hg⟩ := hg
  unfold Lib.TabIs World.var? at h ⊢
  simp only [hg, Option.bind_some] at h ⊢
  have hlt : g < w.heap.size := by
    by_cases hlt : g < w.heap.size
    · exact hlt
    · rw [Array.getElem?_eq_none (by omega)] at h
      cases h
  rw [hb.block g hlt]
  exact h

set_option maxHeartbeats 1000000 in
theorem walk (a : Option Addr) (len cap : Nat) (S : Nat → ByteArray) (t : ByteArray) (v : Int) (w : World) (hS : StrRow w a len S) (hnil : a = none → len = 0) (ht : t.size ≤ maxLen) (h1 : -9223372036854775808 ≤ v) (h2 : v ≤ 9223372036854775807)
    (htab : Lib.TabIs Tryd.prog w Tryd.powName .u64 Lib.pow10Tab) :
    Calls Tryd.prog 3 #[.slice a len cap, .string t, .int .i64 v] w fun e w' => e = .returned (.bool true) ∧ Below w.heap.size w w' := by
  have hlen := hS.1
  unfold maxLen at hlen
  have ht' := ht
  unfold maxLen at ht'
  go_enter Tryd.func3, Tryd.ntmps3
  go_wp2_with fail
  refine (bytes_any _ _ _ _ _ S _ hS ht).mono ?_
  rintro e w' ⟨r, rfl, hr, rfl⟩
  cases r with
  | false =>
    go_wp2_with fail
    go_ret
    exact ⟨rfl, Below.refl _ _⟩
  | true =>
    obtain ⟨hr1, hr2, hr3⟩ := hr rfl
    by_cases hb1 : 65536 < (len : Int)
    · go_wp2_with fail
      go_ret
      exact ⟨rfl, Below.refl _ _⟩
    · go_wp2_with fail
      refine (sizeOK_any _ _ _ _ S _ hS (by omega) hr2 hr3).mono ?_
      rintro e w' ⟨r, rfl, -, rfl⟩
      cases r with
      | false =>
        go_wp2_with fail
        go_ret
        exact ⟨rfl, Below.refl _ _⟩
      | true =>
        go_wp2_with fail
        refine (copy_any _ _ _ S _ hS (by omega) hnil).mono ?_
        rintro e w1 ⟨a1, c1, rfl, hb1⟩
        clear hr hr3 hS hnil ht ht' S
        by_cases hv : v < 0 ∨ (len : Int) ≤ v
        · obtain ⟨hn1, hn2⟩ := num_size v h1 h2
          have hz := nm_size t v
          have z1 : t.size + 3 ≤ (nm t v).size := by omega
          have z2 : (nm t v).size ≤ 1048600 := by omega
          have z3 : t.size < (nm t v).size := by omega
          have z4 : (nm t v).size - 1 < (nm t v).size := by omega
          have n1 : ((nm t v).extract 0 t.size).toList = t.toList := by rw [nm_head]
          have n2 : ((((nm t v)[t.size]).toNat : Int) != 40) = false := by rw [nm_open]; rfl
          have n3 : ((((nm t v)[(nm t v).size - 1]).toNat : Int) != 41) = false := by rw [nm_close]; rfl
          have n4 := nm_mid t v
          have hlast : (decide (v < 0) == decide (v < 0)) = true := by simp
          clear hz
          rcases hv with hv | hv
          · go_wp2_with fail
            refine (zzNameIn_any _ _ _ _ _ _ h1 h2 (by omega) (by omega) hr2 (tab_below htab hb1)).mono ?_
            rintro e w2 ⟨rfl, hb2⟩
            go_wp2_with fail
            refine (parse_num v h1 h2 _).mono ?_
            rintro e w3 ⟨rfl, rfl⟩
            go_wp2_with (go_at_call 9; refine (mag_any v h1 h2 _).mono ?_; rintro e w3 ⟨rfl, rfl⟩)
            go_ret
            exact ⟨rfl, hb1.trans (hb2.mono hb1.size)⟩
          · have hv0 : 0 ≤ v := by omega
            go_wp2_with fail
            refine (zzNameIn_any _ _ _ _ _ _ h1 h2 (by omega) (by omega) hr2 (tab_below htab hb1)).mono ?_
            rintro e w2 ⟨rfl, hb2⟩
            go_wp2_with fail
            refine (parse_num v h1 h2 _).mono ?_
            rintro e w3 ⟨rfl, rfl⟩
            go_wp2_with (go_at_call 9; refine (mag_any v h1 h2 _).mono ?_; rintro e w3 ⟨rfl, rfl⟩)
            go_ret
            exact ⟨rfl, hb1.trans (hb2.mono hb1.size)⟩
        · have hv1 : 0 ≤ v := by omega
          have hv2 : v < (len : Int) := by omega
          clear hv
          go_wp2_with fail
          go_ret
          exact ⟨rfl, hb1⟩
end Go.Proofs.Qxb6603145aDoor
