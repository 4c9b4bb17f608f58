/- The end of newViewSearch's walk: what lies behind its answer, in every world that has the call's own blocks. -/
import Derived.Test.Qxb6603374aNvIv
namespace Go.Proofs.Qxb6603374a
open Go.ChangeShapes Go.WideShapes Go.ChangeAt Go.RowKit

theorem nv_end {V : VIn} {st : Nat → Int} {C : NvC} {m ni H gB lB xc n2 : Nat} {xa : Option Addr} {f f2 : Value → Option Int} {ct : Nat → Nat → Value} {v : Nat → Value} {L : Nat → List Nat} {w wx w'' : World}
    (hC : CIs C V m ni H gB lB xc xa f) (hm : V.m = m) (hn : V.ni = ni) (hV : V.Fits) (bm : V.m ≤ 1048576) (bn : V.ni ≤ 1048576) (br : V.nr ≤ 1048576) (hst : ∀ t, I64 (st t))
    (g1 : Nv C w f2 n2 ct v L wx) (g2 : Hd C ct v) (g3 : Pl V st ni 0 V.nr ni L f2 n2 ct) (hz : wx.heap.size ≤ w''.heap.size) (hk : ∀ k, H ≤ k → k < wx.heap.size → w''.heap[k]? = wx.heap[k]?) :
    NvEnd V st xa xc gB C.bk (fun t => addrOf (v (V.m + V.ni + t))) (fun t => addrOf (v (2 * V.m + V.ni + t))) (fun t => addrOf (v t)) (fun t => addrOf (v (V.m + t)))
      (fun t => capOf (v (V.m + V.ni + t))) (fun t => capOf (v (2 * V.m + V.ni + t))) (fun t => capOf (v t)) (fun t => capOf (v (V.m + t))) w'' := by
  have h1 := Nv.move hC.ok g1 hz (fun k h2 h3 => hk k (by rw [← hC.eH]; exact h2) h3)
  rw [← hn] at g3
  have h := NvEnd.of (hC.em.trans hm.symm) (hC.eni.trans hn.symm) hC.erc hV bm bn br (fun t _ => hst t) h1 g2 g3
  rw [hC.exa, hC.exc, hC.eg] at h
  exact h
end Go.Proofs.Qxb6603374a
