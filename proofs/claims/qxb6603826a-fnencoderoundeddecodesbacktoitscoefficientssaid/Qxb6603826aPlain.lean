/- The plain mathematics of the mixed-radix encoding: no Go in sight. -/
namespace Go.Proofs.Qxb6603826a

/-- The modulus behind one byte more. -/
def down (n : Nat) : Nat := (n + 255) / 256

/-- How many bytes a pair's modulus gives away (a modulus below 2^28). -/
def kk (n : Nat) : Nat := if n < 16384 then 0 else if down n < 16384 then 1 else 2

/-- The modulus that a pair leaves. -/
def left (n : Nat) : Nat := if n < 16384 then n else if down n < 16384 then down n else down (down n)

/-- How many bytes the last value's modulus wants (a modulus below 2^16). -/
def k1 (n : Nat) : Nat := if n ≤ 1 then 0 else if down n ≤ 1 then 1 else 2

/-- The lower j bytes of v. -/
def bytesOf (v : Nat) : Nat → List Nat
  | 0 => []
  | j + 1 => (v % 256) :: bytesOf (v / 256) j

/-- What bytes read as. -/
def readB : List Nat → Nat
  | [] => 0
  | b :: r => b + 256 * readB r

theorem bytesOf_length (v : Nat) (j : Nat) : (bytesOf v j).length = j := by
  induction j generalizing v with
  | zero => rfl
  | succ j ih => simp [bytesOf, ih]

theorem bytesOf_lt (v : Nat) (j : Nat) : ∀ b ∈ bytesOf v j, b < 256 := by
  induction j generalizing v with
  | zero => intro b hb; cases hb
  | succ j ih =>
    intro b hb
    simp only [bytesOf, List.mem_cons] at hb
    rcases hb with rfl | hb
    · omega
    · exact ih _ b hb

theorem readB_bytesOf (v j : Nat) : readB (bytesOf v j) = v % 256 ^ j := by
  induction j generalizing v with
  | zero => simp [bytesOf, readB, Nat.mod_one]
  | succ j ih =>
    simp only [bytesOf, readB, ih]
    rw [Nat.pow_succ, Nat.mul_comm (256 ^ j) 256, Nat.mod_mul]

theorem down_lt (v n : Nat) (h : v < n) : v / 256 < down n := by
  unfold down; omega

theorem left_lt (v n : Nat) (h : v < n) : v / 256 ^ kk n < left n := by
  unfold kk left
  by_cases h1 : n < 16384
  · simp [h1, h]
  · by_cases h2 : down n < 16384
    · simp [h1, h2]; exact down_lt v n h
    · simp [h1, h2]
      have := down_lt _ _ (down_lt v n h)
      have e : v / 256 / 256 = v / 65536 := by omega
      omega

theorem left_small (n : Nat) (h : n < 268435456) : left n < 16384 := by
  unfold left
  by_cases h1 : n < 16384
  · simp [h1]
  · by_cases h2 : down n < 16384
    · simp [h1, h2]
    · simp only [h1, h2, if_false]; unfold down; omega

theorem left_pos (n : Nat) (h : 1 ≤ n) : 1 ≤ left n := by
  unfold left down
  by_cases h1 : n < 16384
  · simp [h1, h]
  · by_cases h2 : (n + 255) / 256 < 16384
    · simp only [h1, h2, if_false, if_true]; omega
    · simp only [h1, h2, if_false]; omega

theorem last_lt (v n : Nat) (h : v < n) (hn : n ≤ 65536) : v < 256 ^ k1 n := by
  unfold k1
  by_cases h1 : n ≤ 1
  · simp [h1]; omega
  · by_cases h2 : down n ≤ 1
    · simp [h1, h2]; unfold down at h2; omega
    · simp [h1, h2]; omega

/-- The modulus behind q bytes. -/
def downs : Nat → Nat → Nat
  | 0, n => n
  | q + 1, n => down (downs q n)

theorem downs_big (q n : Nat) (h : q < kk n) : 16384 ≤ downs q n := by
  unfold kk at h
  by_cases h1 : n < 16384
  · simp [h1] at h
  · by_cases h2 : down n < 16384
    · simp [h1, h2] at h; subst h; simp [downs]; omega
    · simp [h1, h2] at h
      match q, h with
      | 0, _ => simp [downs]; omega
      | 1, _ => simp [downs]; omega

theorem downs_kk (n : Nat) : downs (kk n) n = left n := by
  unfold kk left
  by_cases h1 : n < 16384
  · simp [h1, downs]
  · by_cases h2 : down n < 16384
    · simp [h1, h2, downs]
    · simp [h1, h2, downs]

theorem down_le (n : Nat) (h : 1 ≤ n) : down n ≤ n := by unfold down; omega
theorem downs_le (q n : Nat) (h : 1 ≤ n) : 1 ≤ downs q n ∧ downs q n ≤ n := by
  induction q with
  | zero => exact ⟨h, Nat.le_refl _⟩
  | succ q ih =>
    have := down_le (downs q n) ih.1
    refine ⟨?_, by simp only [downs]; omega⟩
    simp only [downs]; unfold down; omega

theorem downs_big1 (q n : Nat) (h : q < k1 n) : 1 < downs q n := by
  unfold k1 at h
  by_cases h1 : n ≤ 1
  · simp [h1] at h
  · by_cases h2 : down n ≤ 1
    · simp [h1, h2] at h; subst h; simp [downs]; omega
    · simp [h1, h2] at h
      match q, h with
      | 0, _ => simp [downs]; omega
      | 1, _ => simp [downs]; omega

theorem downs_k1 (n : Nat) (h : n < 16384) : downs (k1 n) n ≤ 1 := by
  unfold k1
  by_cases h1 : n ≤ 1
  · simp [h1, downs]
  · by_cases h2 : down n ≤ 1
    · simp [h1, h2, downs]
    · simp only [h1, h2, if_false, downs]; unfold down; omega

theorem bytesOf_snoc (v q : Nat) : bytesOf v (q + 1) = bytesOf v q ++ [v / 256 ^ q % 256] := by
  induction q generalizing v with
  | zero => simp [bytesOf]
  | succ q ih =>
    rw [bytesOf, ih (v / 256), bytesOf, List.cons_append]
    rw [Nat.div_div_eq_div_mul, Nat.pow_succ, Nat.mul_comm]

theorem div_step (v q : Nat) : v / 256 ^ q / 256 = v / 256 ^ (q + 1) := by
  rw [Nat.div_div_eq_div_mul, Nat.pow_succ]

/-! ### The lists, by index -/
/-- The modulus of pair j. -/
def pN (ms : List Nat) (j : Nat) : Nat := ms.getD (2 * j) 0 * ms.getD (2 * j + 1) 0

/-- The value of pair j. -/
def pV (ms vs : List Nat) (j : Nat) : Nat := vs.getD (2 * j) 0 + ms.getD (2 * j) 0 * vs.getD (2 * j + 1) 0

def nextM (ms : List Nat) (j : Nat) : List Nat := (List.range j).map fun i => left (pN ms i)
def nextV (ms vs : List Nat) (j : Nat) : List Nat := (List.range j).map fun i => pV ms vs i / 256 ^ kk (pN ms i)

/-- The bytes that the first j pairs give away. -/
def lowTo (ms vs : List Nat) : Nat → List Nat
  | 0 => []
  | j + 1 => lowTo ms vs j ++ bytesOf (pV ms vs j) (kk (pN ms j))

/-- How many they are. -/
def lowLen (ms : List Nat) : Nat → Nat
  | 0 => 0
  | j + 1 => lowLen ms j + kk (pN ms j)

def upM (ms : List Nat) : List Nat := nextM ms (ms.length / 2) ++ (if ms.length % 2 = 1 then [ms.getD (ms.length - 1) 0] else [])
def upV (ms vs : List Nat) : List Nat := nextV ms vs (ms.length / 2) ++ (if ms.length % 2 = 1 then [vs.getD (ms.length - 1) 0] else [])

/-- The encoding, with fuel. -/
def enc : Nat → List Nat → List Nat → List Nat
  | 0, ms, vs => bytesOf (vs.getD 0 0) (k1 (ms.getD 0 0))
  | f + 1, ms, vs => if ms.length ≤ 1 then bytesOf (vs.getD 0 0) (k1 (ms.getD 0 0)) else lowTo ms vs (ms.length / 2) ++ enc f (upM ms) (upV ms vs)

/-- How many bytes the encoding takes: the moduli alone say it. -/
def encLen : Nat → List Nat → Nat
  | 0, ms => k1 (ms.getD 0 0)
  | f + 1, ms => if ms.length ≤ 1 then k1 (ms.getD 0 0) else lowLen ms (ms.length / 2) + encLen f (upM ms)

/-- The moduli are sound. -/
def Sound (ms : List Nat) : Prop := ∀ i, i < ms.length → 1 ≤ ms.getD i 0 ∧ ms.getD i 0 < 16384

/-- The values lie below their moduli. -/
def Under (ms vs : List Nat) : Prop := vs.length = ms.length ∧ ∀ i, i < ms.length → vs.getD i 0 < ms.getD i 0

theorem pair_lt (m1 m2 v1 v2 : Nat) (h1 : v1 < m1) (h2 : v2 < m2) : v1 + m1 * v2 < m1 * m2 := by
  have : m1 * (v2 + 1) ≤ m1 * m2 := Nat.mul_le_mul_left _ h2
  rw [Nat.mul_add] at this
  omega

theorem prod_lt (m1 m2 : Nat) (h1 : m1 < 16384) (h2 : m2 < 16384) : m1 * m2 < 268435456 := by
  have : m1 * m2 ≤ 16383 * 16383 := Nat.mul_le_mul (by omega) (by omega)
  omega

theorem pN_bd {ms : List Nat} (hs : Sound ms) {j : Nat} (h : 2 * j + 1 < ms.length) : 1 ≤ pN ms j ∧ pN ms j < 268435456 := by
  have a := hs (2 * j) (by omega)
  have b := hs (2 * j + 1) h
  exact ⟨Nat.mul_pos a.1 b.1, prod_lt _ _ a.2 b.2⟩

theorem pV_lt {ms vs : List Nat} (hu : Under ms vs) {j : Nat} (h : 2 * j + 1 < ms.length) : pV ms vs j < pN ms j :=
  pair_lt _ _ _ _ (hu.2 (2 * j) (by omega)) (hu.2 (2 * j + 1) h)

theorem nextM_length (ms : List Nat) (j : Nat) : (nextM ms j).length = j := by simp [nextM]
theorem nextV_length (ms vs : List Nat) (j : Nat) : (nextV ms vs j).length = j := by simp [nextV]

theorem upM_length (ms : List Nat) : (upM ms).length = (ms.length + 1) / 2 := by
  unfold upM
  rw [List.length_append, nextM_length]
  by_cases h : ms.length % 2 = 1
  · rw [if_pos h]; simp only [List.length_cons, List.length_nil]; omega
  · rw [if_neg h]; simp only [List.length_nil]; omega

theorem upV_length (ms vs : List Nat) : (upV ms vs).length = (ms.length + 1) / 2 := by
  unfold upV
  rw [List.length_append, nextV_length]
  by_cases h : ms.length % 2 = 1
  · rw [if_pos h]; simp only [List.length_cons, List.length_nil]; omega
  · rw [if_neg h]; simp only [List.length_nil]; omega

theorem nextM_get (ms : List Nat) (j i : Nat) (h : i < j) : (nextM ms j).getD i 0 = left (pN ms i) := by
  simp [nextM, List.getD, h]
theorem nextV_get (ms vs : List Nat) (j i : Nat) (h : i < j) : (nextV ms vs j).getD i 0 = pV ms vs i / 256 ^ kk (pN ms i) := by
  simp [nextV, List.getD, h]

theorem getD_left {l r : List Nat} {i : Nat} (h : i < l.length) : (l ++ r).getD i 0 = l.getD i 0 := by
  simp [List.getD, List.getElem?_append_left h]
theorem getD_last {l : List Nat} {x i : Nat} (h : i = l.length) : (l ++ [x]).getD i 0 = x := by
  subst h; simp [List.getD]

theorem upM_get (ms : List Nat) (i : Nat) (h : i < ms.length / 2) : (upM ms).getD i 0 = left (pN ms i) := by
  unfold upM
  rw [getD_left (by rw [nextM_length]; exact h), nextM_get _ _ _ h]
theorem upV_get (ms vs : List Nat) (i : Nat) (h : i < ms.length / 2) : (upV ms vs).getD i 0 = pV ms vs i / 256 ^ kk (pN ms i) := by
  unfold upV
  rw [getD_left (by rw [nextV_length]; exact h), nextV_get _ _ _ _ h]
theorem upM_last (ms : List Nat) (h : ms.length % 2 = 1) : (upM ms).getD (ms.length / 2) 0 = ms.getD (ms.length - 1) 0 := by
  unfold upM
  rw [if_pos h, getD_last (by rw [nextM_length])]
theorem upV_last (ms vs : List Nat) (h : ms.length % 2 = 1) : (upV ms vs).getD (ms.length / 2) 0 = vs.getD (ms.length - 1) 0 := by
  unfold upV
  rw [if_pos h, getD_last (by rw [nextV_length])]

theorem upM_sound {ms : List Nat} (hs : Sound ms) : Sound (upM ms) := by
  intro i hi
  rw [upM_length] at hi
  by_cases h : i < ms.length / 2
  · rw [upM_get _ _ h]
    have b := pN_bd hs (j := i) (by omega)
    exact ⟨left_pos _ b.1, left_small _ b.2⟩
  · have e : i = ms.length / 2 := by omega
    subst e
    rw [upM_last _ (by omega)]
    exact hs _ (by omega)

theorem upV_under {ms vs : List Nat} (hu : Under ms vs) : Under (upM ms) (upV ms vs) := by
  refine ⟨by rw [upV_length, upM_length], fun i hi => ?_⟩
  rw [upM_length] at hi
  by_cases h : i < ms.length / 2
  · rw [upM_get _ _ h, upV_get _ _ _ h]
    exact left_lt _ _ (pV_lt hu (by omega))
  · have e : i = ms.length / 2 := by omega
    subst e
    rw [upM_last _ (by omega), upV_last _ _ (by omega)]
    exact hu.2 _ (by omega)

theorem lowTo_length (ms vs : List Nat) (j : Nat) : (lowTo ms vs j).length = lowLen ms j := by
  induction j with
  | zero => rfl
  | succ j ih => simp [lowTo, lowLen, ih, bytesOf_length]

theorem lowTo_lt (ms vs : List Nat) (j : Nat) : ∀ b ∈ lowTo ms vs j, b < 256 := by
  induction j with
  | zero => intro b hb; cases hb
  | succ j ih =>
    intro b hb
    simp only [lowTo, List.mem_append] at hb
    rcases hb with hb | hb
    · exact ih b hb
    · exact bytesOf_lt _ _ b hb

theorem enc_length (f : Nat) : ∀ ms vs : List Nat, (enc f ms vs).length = encLen f ms := by
  induction f with
  | zero => intro ms vs; simp [enc, encLen, bytesOf_length]
  | succ f ih =>
    intro ms vs
    unfold enc encLen
    by_cases h1 : ms.length ≤ 1
    · simp [h1, bytesOf_length]
    · simp only [h1, if_false, List.length_append]
      rw [lowTo_length, ih]

theorem enc_lt (f : Nat) : ∀ ms vs : List Nat, ∀ b ∈ enc f ms vs, b < 256 := by
  induction f with
  | zero => intro ms vs b hb; exact bytesOf_lt _ _ b hb
  | succ f ih =>
    intro ms vs b hb
    unfold enc at hb
    by_cases h1 : ms.length ≤ 1
    · simp only [h1, if_true] at hb; exact bytesOf_lt _ _ b hb
    · simp only [h1, if_false, List.mem_append] at hb
      rcases hb with hb | hb
      · exact lowTo_lt _ _ _ b hb
      · exact ih _ _ b hb

theorem lowLen_mono (ms : List Nat) (i j : Nat) (h : i ≤ j) : lowLen ms i ≤ lowLen ms j := by
  induction j with
  | zero => have : i = 0 := by omega
            subst this; exact Nat.le_refl _
  | succ j ih =>
    by_cases e : i = j + 1
    · subst e; exact Nat.le_refl _
    · have := ih (by omega)
      simp only [lowLen]; omega

/-- More fuel changes nothing. -/
theorem enc_fuel (f g : Nat) : ∀ ms vs : List Nat, ms.length ≤ 2 ^ f → ms.length ≤ 2 ^ g → enc f ms vs = enc g ms vs := by
  induction f generalizing g with
  | zero =>
    intro ms vs h1 _
    cases g with
    | zero => rfl
    | succ g => unfold enc; rw [if_pos (by simpa using h1)]
  | succ f ih =>
    intro ms vs h1 h2
    cases g with
    | zero => unfold enc; rw [if_pos (by simpa using h2)]
    | succ g =>
      unfold enc
      by_cases h : ms.length ≤ 1
      · rw [if_pos h, if_pos h]
      · rw [if_neg h, if_neg h, ih g]
        · rw [upM_length]; rw [Nat.pow_succ] at h1; omega
        · rw [upM_length]; rw [Nat.pow_succ] at h2; omega

/-- The length of the whole encoding. -/
theorem len_1007 : encLen 20 (List.replicate 761 1531) = 1007 := by decide +kernel

/-- The pair's value out of its lower bytes and what they left. -/
theorem pair_back (v n : Nat) : readB (bytesOf v (kk n)) + 256 ^ kk n * (v / 256 ^ kk n) = v := by
  rw [readB_bytesOf]
  have := Nat.div_add_mod v (256 ^ kk n)
  omega

theorem pair_fst (m1 v1 v2 : Nat) (h : v1 < m1) : (v1 + m1 * v2) % m1 = v1 := by
  rw [Nat.add_mul_mod_self_left, Nat.mod_eq_of_lt h]
theorem pair_snd (m1 m2 v1 v2 : Nat) (h1 : v1 < m1) (h2 : v2 < m2) : (v1 + m1 * v2) / m1 % m2 = v2 := by
  rw [Nat.add_mul_div_left _ _ (by omega), Nat.div_eq_of_lt h1, Nat.zero_add, Nat.mod_eq_of_lt h2]

/-- One rounded coefficient. -/
theorem rounded (x : Nat) (h : x ≤ 1530) : 3 * x * 10923 / 32768 = x := by omega

end Go.Proofs.Qxb6603826a
