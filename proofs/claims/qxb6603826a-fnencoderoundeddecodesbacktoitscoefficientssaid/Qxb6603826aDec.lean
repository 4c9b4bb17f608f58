/- The contract of decodeList. -/
import Derived.Test.Qxb6603826aRows
import Derived.Test.Qxb6603826aDecOne
import Derived.Test.Qxb6603826aDecMany
namespace Go.Proofs.Qxb6603826a
open Go.ChangeShapes Go.WideShapes Go.ChangeAt Go.RowKit

theorem dec_single {G o l mb mc p f : Nat} {ms vs BS tail : List Nat} {w : World} (hB : BytesAt w G BS) (ho : o = min p (BS.length - 1)) (hl : l = BS.length - p)
    (hR : Reads w mb ms) (hs : Sound ms) (hu : Under ms vs) (h1 : ms.length = 1) (hN : BS.length ≤ 100000) (hd : BS.drop p = enc f ms vs ++ tail) :
    Calls Try.prog 21 #[.slice (some ⟨G, o, none⟩) l l, .slice (some ⟨mb, 0, none⟩) ms.length mc] w fun e w' => DecEnd w G BS.length (p + encLen f ms) vs e w' := by
  have e1 : enc f ms vs = bytesOf (vs.getD 0 0) (k1 (ms.getD 0 0)) := enc_one f ms vs (by omega)
  have e2 : encLen f ms = k1 (ms.getD 0 0) := by rw [← enc_length f ms vs, e1, bytesOf_length]
  have e3 : vs = [vs.getD 0 0] := by
    have := hu.1
    match vs, this with
    | [x], _ => rfl
    | [], h => simp at h; omega
    | _ :: _ :: _, h => simp at h; omega
  rw [e1] at hd
  rw [e2, h1]
  have := dec_one G o l mb mc p (vs.getD 0 0) (ms.getD 0 0) BS tail w hB ho hl (hR 0 (by omega)) (hs 0 (by omega)).1 (hs 0 (by omega)).2 (hu.2 0 (by omega)) hd hN
  rw [← e3] at this
  exact this

theorem dec_any (BS : List Nat) (G : Nat) (hN : BS.length ≤ 100000) : ∀ (f o l mb mc p : Nat) (ms vs tail : List Nat) (w : World), BytesAt w G BS → G < w.heap.size → o = min p (BS.length - 1) → l = BS.length - p →
    Reads w mb ms → mb < w.heap.size → Sound ms → Under ms vs → 1 ≤ ms.length → ms.length ≤ 100000 → ms.length ≤ 2 ^ f → BS.drop p = enc f ms vs ++ tail →
    Calls Try.prog 21 #[.slice (some ⟨G, o, none⟩) l l, .slice (some ⟨mb, 0, none⟩) ms.length mc] w fun e w' => DecEnd w G BS.length (p + encLen f ms) vs e w' := by
  intro f
  induction f with
  | zero =>
    intro o l mb mc p ms vs tail w hB hG ho hl hR hmb hs hu h1 h3 h2 hd
    exact dec_single hB ho hl hR hs hu (by simp at h2; omega) hN hd
  | succ f ih =>
    intro o l mb mc p ms vs tail w hB hG ho hl hR hmb hs hu h1 h3 h2 hd
    by_cases h : ms.length ≤ 1
    · exact dec_single hB ho hl hR hs hu (by omega) hN hd
    · have e1 : enc (f + 1) ms vs = lowTo ms vs (ms.length / 2) ++ enc f (upM ms) (upV ms vs) := by rw [enc, if_neg h]
      have e2 : encLen (f + 1) ms = lowLen ms (ms.length / 2) + encLen f (upM ms) := by rw [encLen, if_neg h]
      rw [e1, List.append_assoc] at hd
      rw [e2, ← Nat.add_assoc]
      refine dec_many G o l mb mc p f ms vs BS tail w hB hG ho hl hR hmb hs hu (by omega) h3 hN hd ?_
      intro um H o' l' w' hB' hG' HO' hum
      obtain ⟨g, c, rfl, _, hg, hr⟩ := own_reads hum (by omega)
      have hd2 : BS.drop (p + lowLen ms (ms.length / 2)) = enc f (upM ms) (upV ms vs) ++ tail := by
        rw [← List.drop_drop, hd, List.drop_left' (lowTo_length ms vs _)]
      have := ih o' l' g c (p + lowLen ms (ms.length / 2)) (upM ms) (upV ms vs) tail w' hB' hG' HO'.out.1 HO'.out.2 hr hg (upM_sound hs) (upV_under hu) (by rw [upM_length]; omega) (by rw [upM_length]; omega) (by rw [upM_length]; rw [Nat.pow_succ] at h2; omega) hd2
      rw [upM_length] at this
      exact this

set_option maxRecDepth 100000 in
theorem zzDec_any (BS : List Nat) (G : Nat) (hN : BS.length ≤ 100000) (f o l mb mc p : Nat) (ms vs tail : List Nat) (w : World) (h1 : BytesAt w G BS) (h2 : G < w.heap.size) (h3 : o = min p (BS.length - 1)) (h4 : l = BS.length - p)
    (h5 : Reads w mb ms) (h6 : mb < w.heap.size) (h7 : Sound ms) (h8 : Under ms vs) (h9 : 1 ≤ ms.length) (h10 : ms.length ≤ 100000) (h11 : ms.length ≤ 2 ^ f) (h12 : BS.drop p = enc f ms vs ++ tail) :
    Calls Try.prog 14 #[.slice (some ⟨G, o, none⟩) l l, .slice (some ⟨mb, 0, none⟩) ms.length mc] w fun e w' => DecEnd w G BS.length (p + encLen f ms) vs e w' := by
  have H := hidden (dec_any BS G hN f o l mb mc p ms vs tail w h1 h2 h3 h4 h5 h6 h7 h8 h9 h10 h11 h12)
  clear h1 h2 h3 h4 h5 h6 h7 h8 h9 h10 h11 h12
  go_enter Try.func14, Try.ntmps14
  go_wp2_with fail
  refine H.out.mono ?_
  rintro e w2 ⟨v, rfl, hv, hb⟩
  go_wp2
  go_ret2
  exact ⟨v, rfl, hv, hb⟩
end Go.Proofs.Qxb6603826a
