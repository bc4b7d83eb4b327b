import PyProof.Rows.All
import Wide.All
import OpenK.AllK
import Wide.FinOn
import PySem.Challenge.RW_sv0015_02
set_option Elab.async false
set_option maxRecDepth 100000
set_option maxHeartbeats 8000000
section Head
open PySem PySem.W PyProof.Rows
namespace Mine
open_top hd1 for PySem.Challenge.rw_sv0015_02
end Mine
end Head
section Part0
open PySem PySem.W PySem.Calls PyProof.Rows
namespace Mine
/-- what a while over two numbers below 256 has told after k turns: their exclusive or, its low k bits -/
def EitherInv (x y l r t w : Int) : Prop := ∃ k : Nat, k ≤ 8 ∧ 0 ≤ x ∧ x < 256 ∧ 0 ≤ y ∧ y < 256 ∧ w = ((2 ^ k : Nat) : Int) ∧ l = ((x.toNat / 2 ^ k : Nat) : Int) ∧ r = ((y.toNat / 2 ^ k : Nat) : Int) ∧ t = (((x.toNat ^^^ y.toNat) % 2 ^ k : Nat) : Int)
theorem EitherInv.start {x y : Int} (h : 0 ≤ x ∧ x < 256 ∧ 0 ≤ y ∧ y < 256) : EitherInv x y x y 0 1 := by
  refine ⟨0, by omega, h.1, h.2.1, h.2.2.1, h.2.2.2, ?_, ?_, ?_, ?_⟩ <;> simp <;> omega
theorem EitherInv.small {x y l r t w : Int} (h : EitherInv x y l r t w) : 0 ≤ l ∧ l < 256 ∧ 0 ≤ r ∧ r < 256 ∧ 0 ≤ w ∧ w ≤ 256 ∧ 0 ≤ t ∧ t < 256 := by
  obtain ⟨k, hk, hx0, hx, hy0, hy, rfl, rfl, rfl, rfl⟩ := h
  have h1 : x.toNat / 2 ^ k ≤ x.toNat := Nat.div_le_self _ _
  have h2 : y.toNat / 2 ^ k ≤ y.toNat := Nat.div_le_self _ _
  have h3 : 2 ^ k ≤ 2 ^ 8 := Nat.pow_le_pow_right (by omega) hk
  have h4 : x.toNat ^^^ y.toNat < 2 ^ 8 := Nat.xor_lt_two_pow (by omega) (by omega)
  have h5 := Nat.mod_le (x.toNat ^^^ y.toNat) (2 ^ k)
  generalize x.toNat / 2 ^ k = a at *
  generalize y.toNat / 2 ^ k = b at *
  generalize (x.toNat ^^^ y.toNat) % 2 ^ k = c at *
  generalize 2 ^ k = d at *
  omega
theorem bit_step (a b k : Nat) : (a ^^^ b) % 2 ^ (k + 1) = (a ^^^ b) % 2 ^ k + (if a / 2 ^ k % 2 = b / 2 ^ k % 2 then 0 else 2 ^ k) := by
  have hx : (a ^^^ b) / 2 ^ k % 2 = if a / 2 ^ k % 2 = b / 2 ^ k % 2 then 0 else 1 := by
    have h := Nat.testBit_xor a b k
    rw [Nat.testBit_eq_decide_div_mod_eq, Nat.testBit_eq_decide_div_mod_eq, Nat.testBit_eq_decide_div_mod_eq] at h
    have hc := Nat.mod_two_eq_zero_or_one ((a ^^^ b) / 2 ^ k)
    have ha := Nat.mod_two_eq_zero_or_one (a / 2 ^ k)
    have hb := Nat.mod_two_eq_zero_or_one (b / 2 ^ k)
    rcases hc with hc | hc <;> rcases ha with ha | ha <;> rcases hb with hb | hb <;> simp [ha, hb, hc] at h ⊢
  rw [Nat.mod_pow_succ, hx]
  split <;> simp
theorem half (a k : Nat) : (((a / 2 ^ k : Nat) : Int)).fdiv 2 = ((a / 2 ^ (k + 1) : Nat) : Int) := by
  rw [Int.fdiv_eq_ediv_of_nonneg _ (by omega), Nat.pow_succ, ← Nat.div_div_eq_div_mul]; generalize a / 2 ^ k = b; omega
theorem half_mod (a : Nat) : ((a : Int)).fmod 2 = ((a % 2 : Nat) : Int) := by
  rw [Int.fmod_eq_emod_of_nonneg _ (by omega)]; omega
theorem EitherInv.turn {x y l r t w : Int} (h : EitherInv x y l r t w) (hp : 0 < l ∨ 0 < r) :
    ∃ k : Nat, k < 8 ∧ EitherInv x y (l.fdiv 2) (r.fdiv 2) (t + if l.fmod 2 = r.fmod 2 then 0 else w) (w * 2) := by
  obtain ⟨k, hk, hx0, hx, hy0, hy, rfl, rfl, rfl, rfl⟩ := h
  have hk8 : k < 8 := by
    rcases Nat.lt_or_ge k 8 with h | h
    · exact h
    · have e : k = 8 := by omega
      subst e
      have z1 : x.toNat / 2 ^ 8 = 0 := Nat.div_eq_of_lt (by omega)
      have z2 : y.toNat / 2 ^ 8 = 0 := Nat.div_eq_of_lt (by omega)
      rw [z1, z2] at hp
      omega
  refine ⟨k, hk8, k + 1, by omega, hx0, hx, hy0, hy, ?_, half _ _, half _ _, ?_⟩
  · rw [Nat.pow_succ, Int.natCast_mul]; rfl
  · rw [bit_step, half_mod, half_mod]
    by_cases e : x.toNat / 2 ^ k % 2 = y.toNat / 2 ^ k % 2
    · simp [e]
    · have e' : ¬ (((x.toNat / 2 ^ k % 2 : Nat) : Int) = ((y.toNat / 2 ^ k % 2 : Nat) : Int)) := by omega
      rw [if_neg e, if_neg e', Int.natCast_add]
theorem EitherInv.eq {x y l r t w : Int} (h : EitherInv x y l r t w) (hp : 0 < l ∨ 0 < r) (e : l.fmod 2 = r.fmod 2) : EitherInv x y (l.fdiv 2) (r.fdiv 2) t (w * 2) := by
  obtain ⟨_, _, q⟩ := h.turn hp
  rwa [if_pos e, Int.add_zero] at q
theorem EitherInv.ne {x y l r t w : Int} (h : EitherInv x y l r t w) (hp : 0 < l ∨ 0 < r) (e : ¬ l.fmod 2 = r.fmod 2) : EitherInv x y (l.fdiv 2) (r.fdiv 2) (t + w) (w * 2) := by
  obtain ⟨_, _, q⟩ := h.turn hp
  rwa [if_neg e] at q
theorem EitherInv.less {x y l r t w : Int} (h : EitherInv x y l r t w) (hp : 0 < l ∨ 0 < r) : (l.fdiv 2).toNat + (r.fdiv 2).toNat < l.toNat + r.toNat := by
  have := h.small
  rw [Int.fdiv_eq_ediv_of_nonneg _ (by omega), Int.fdiv_eq_ediv_of_nonneg _ (by omega)]
  omega
theorem EitherInv.done {x y l r t w : Int} (h : EitherInv x y l r t w) (h1 : ¬ 0 < l) (h2 : ¬ 0 < r) : t = ((x.toNat ^^^ y.toNat : Nat) : Int) := by
  obtain ⟨k, hk, hx0, hx, hy0, hy, rfl, rfl, rfl, rfl⟩ := h
  have a1 : x.toNat / 2 ^ k = 0 := Nat.eq_zero_of_not_pos fun q => h1 (Int.natCast_pos.mpr q)
  have a2 : y.toNat / 2 ^ k = 0 := Nat.eq_zero_of_not_pos fun q => h2 (Int.natCast_pos.mpr q)
  have b1 : x.toNat < 2 ^ k := (Nat.div_eq_zero_iff_lt (Nat.two_pow_pos k)).mp a1
  have b2 : y.toNat < 2 ^ k := (Nat.div_eq_zero_iff_lt (Nat.two_pow_pos k)).mp a2
  rw [Nat.mod_eq_of_lt (Nat.xor_lt_two_pow b1 b2)]
end Mine
namespace Mine
/-- one sign put in: exclusive or, then times the prime, within b bits -/
def fnvStep (prime b : Nat) (h c : Nat) : Nat := ((h ^^^ c) * prime) % 2 ^ b
def fnvN (prime b : Nat) (h : Nat) (cs : List Nat) : Nat := cs.foldl (fnvStep prime b) h
/-- the hash of the signs cs, begun at start with 31 for each of the seed -/
def fnvS (start prime b seed : Nat) (cs : List Nat) : Nat := fnvN prime b ((start + 31 * seed) % 2 ^ b) cs
theorem fnvN_lt {prime b h : Nat} {cs : List Nat} (hh : h < 2 ^ b) : fnvN prime b h cs < 2 ^ b := by
  induction cs generalizing h with
  | nil => exact hh
  | cons c r ih => exact ih (Nat.mod_lt _ (Nat.two_pow_pos b))
theorem fnvS_lt (start prime b seed : Nat) (cs : List Nat) : fnvS start prime b seed cs < 2 ^ b := fnvN_lt (Nat.mod_lt _ (Nat.two_pow_pos b))
theorem fnvN_snoc (prime b h : Nat) (cs : List Nat) (c : Nat) : fnvN prime b h (cs ++ [c]) = fnvStep prime b (fnvN prime b h cs) c := by
  unfold fnvN; rw [List.foldl_append]; rfl
theorem xor_low (v c : Nat) (hc : c < 256) : v - v % 256 + ((v % 256) ^^^ c) = v ^^^ c := by
  have h1 : v ^^^ c = 2 ^ 8 * ((v ^^^ c) / 2 ^ 8) + (v ^^^ c) % 2 ^ 8 := (Nat.div_add_mod _ _).symm
  have h2 : (v ^^^ c) / 2 ^ 8 = v / 2 ^ 8 := by
    rw [Nat.xor_div_two_pow, Nat.div_eq_of_lt (show c < 2 ^ 8 from hc), Nat.xor_zero]
  have h3 : (v ^^^ c) % 2 ^ 8 = (v % 2 ^ 8) ^^^ c := by
    rw [Nat.xor_mod_two_pow, Nat.mod_eq_of_lt (show c < 2 ^ 8 from hc)]
  rw [h1, h2, h3]
  have := Nat.div_add_mod v (2 ^ 8)
  simp only [show (2 : Nat) ^ 8 = 256 from rfl] at this ⊢
  omega
/-- what a loop over the signs has made of the value -/
structure FnvInv (prime b : Nat) (v₀ : Int) (pre : List Int) (v : Int) : Prop where
  eq : v = ((fnvN prime b v₀.toNat (pre.map Int.toNat) : Nat) : Int)
  ge : 0 ≤ v
  lt : v < 2 ^ b
  ge0 : 0 ≤ v₀
theorem FnvInv.start {prime b : Nat} {v₀ : Int} (h0 : 0 ≤ v₀) (h1 : v₀ < 2 ^ b) : FnvInv prime b v₀ [] v₀ := ⟨by simp [fnvN]; omega, h0, h1, h0⟩
theorem FnvInv.of {prime b : Nat} {v₀ v : Int} {pre : List Int} (h0 : 0 ≤ v₀) (h1 : v₀ < 2 ^ b) (e : v = ((fnvN prime b v₀.toNat (pre.map Int.toNat) : Nat) : Int)) : FnvInv prime b v₀ pre v := by
  have hl : fnvN prime b v₀.toNat (pre.map Int.toNat) < 2 ^ b := fnvN_lt (by
    have : ((v₀.toNat : Nat) : Int) < ((2 ^ b : Nat) : Int) := by rw [Int.toNat_of_nonneg h0]; simpa using h1
    exact Int.ofNat_lt.mp this)
  refine ⟨e, by rw [e]; exact Int.natCast_nonneg _, ?_, h0⟩
  rw [e]
  have := Int.ofNat_lt.mpr hl
  simpa using this
theorem pow_toNat (b : Nat) : ((2 : Int) ^ b) = ((2 ^ b : Nat) : Int) := by simp
theorem FnvInv.lawTurn {prime b : Nat} {v₀ v n pr md : Int} {pre : List Int} (h : FnvInv prime b v₀ pre v) (hn0 : 0 ≤ n) (hn : n < 256) (h1 : v₀ < 2 ^ b) (hp : pr = (prime : Int)) (hm : md = ((2 ^ b : Nat) : Int)) :
    FnvInv prime b v₀ (pre ++ [n]) (((v - v.fmod 256 + (((v.fmod 256).toNat ^^^ n.toNat : Nat) : Int)) * pr).fmod md) := by
  have e := h.eq
  refine FnvInv.of h.ge0 h1 ?_
  rw [List.map_append, List.map_cons, List.map_nil, fnvN_snoc]
  generalize fnvN prime b v₀.toNat (pre.map Int.toNat) = u at *
  subst e
  have x := xor_low u n.toNat (by omega)
  have q : ((u : Int)).fmod 256 = ((u % 256 : Nat) : Int) := by rw [Int.fmod_eq_emod_of_nonneg _ (by omega)]; omega
  have hle := Nat.mod_le u 256
  have z : (u : Int) - ((u % 256 : Nat) : Int) + (((u % 256) ^^^ n.toNat : Nat) : Int) = ((u ^^^ n.toNat : Nat) : Int) := by
    rw [← x]; omega
  rw [q, Int.toNat_natCast, z, hp, hm, Int.fmod_eq_emod_of_nonneg _ (Int.natCast_nonneg _), fnvStep, Int.natCast_emod, Int.natCast_mul]
end Mine
namespace Mine
theorem fmod_two_pow {s md : Int} {b : Nat} (hm : md = ((2 ^ b : Nat) : Int)) : 0 ≤ s.fmod md ∧ s.fmod md < 2 ^ b := by
  subst hm
  have hp : (0 : Int) < ((2 ^ b : Nat) : Int) := Int.natCast_pos.mpr (Nat.two_pow_pos b)
  rw [Int.fmod_eq_emod_of_nonneg _ (Int.le_of_lt hp)]
  exact ⟨Int.emod_nonneg _ (Int.ne_of_gt hp), by rw [pow_toNat]; exact Int.emod_lt_of_pos _ hp⟩
theorem FnvInv.first {prime b : Nat} {s md : Int} (hm : md = ((2 ^ b : Nat) : Int)) : FnvInv prime b (s.fmod md) [] (s.fmod md) :=
  FnvInv.start (fmod_two_pow hm).1 (fmod_two_pow hm).2
theorem FnvInv.lawNext {prime b : Nat} {s v n pr md : Int} {pre ns : List Int} (h : FnvInv prime b (s.fmod md) pre v) (hns : ∀ n ∈ ns, 0 ≤ n ∧ n < 256) (hm : n ∈ ns) (hp : pr = (prime : Int)) (hmd : md = ((2 ^ b : Nat) : Int)) :
    FnvInv prime b (s.fmod md) (pre ++ [n]) (((v - v.fmod 256 + (((v.fmod 256).toNat ^^^ n.toNat : Nat) : Int)) * pr).fmod md) :=
  h.lawTurn (hns n hm).1 (hns n hm).2 (fmod_two_pow hmd).2 hp hmd
theorem low_byte (v : Int) : 0 ≤ v.fmod 256 ∧ v.fmod 256 < 256 := by
  rw [Int.fmod_eq_emod_of_nonneg _ (by omega)]; omega
theorem FnvInv.pre {v n : Int} {ns : List Int} (hns : ∀ n ∈ ns, 0 ≤ n ∧ n < 256) (hm : n ∈ ns) : 0 ≤ v.fmod 256 ∧ v.fmod 256 < 256 ∧ 0 ≤ n ∧ n < 256 :=
  ⟨(low_byte v).1, (low_byte v).2, hns n hm⟩
/-- what the loop has told is the hash -/
theorem FnvInv.told {prime b start : Nat} {seed v md : Int} {ns : List Int} (h : FnvInv prime b (((start : Int) + 31 * seed).fmod md) ns v) (hs : 0 ≤ seed) (hmd : md = ((2 ^ b : Nat) : Int)) :
    v = ((fnvS start prime b seed.toNat (ns.map Int.toNat) : Nat) : Int) := by
  rw [h.eq, fnvS, hmd, Int.fmod_eq_emod_of_nonneg _ (Int.natCast_nonneg _)]
  have e : ((start : Int) + 31 * seed) = ((start + 31 * seed.toNat : Nat) : Int) := by omega
  rw [e, ← Int.natCast_emod, Int.toNat_natCast]
end Mine
namespace Mine
theorem add_xor_and (a b : Nat) : a + b = (a ^^^ b) + 2 * (a &&& b) := by
  induction a using Nat.strongRecOn generalizing b with
  | ind a ih =>
    rcases Nat.eq_zero_or_pos a with rfl | h
    · simp
    · have i := ih (a / 2) (by omega) (b / 2)
      have x1 : (a ^^^ b) / 2 = a / 2 ^^^ b / 2 := by simpa using Nat.xor_div_two_pow (a := a) (b := b) (n := 1)
      have x2 : (a ^^^ b) % 2 = a % 2 ^^^ b % 2 := by simpa using Nat.xor_mod_two_pow (a := a) (b := b) (n := 1)
      have y1 : (a &&& b) / 2 = a / 2 &&& b / 2 := by simpa using Nat.and_div_two_pow (a := a) (b := b) (n := 1)
      have y2 : (a &&& b) % 2 = a % 2 &&& b % 2 := by simpa using Nat.and_mod_two_pow (a := a) (b := b) (n := 1)
      rw [← x1, ← y1] at i
      have ha := Nat.mod_two_eq_zero_or_one a
      have hb := Nat.mod_two_eq_zero_or_one b
      clear x1 y1 ih
      generalize hX : a ^^^ b = X at *
      generalize hY : a &&& b = Y at *
      clear hX hY
      have z : (a % 2 = 0 ∧ b % 2 = 0 ∧ X % 2 = 0 ∧ Y % 2 = 0) ∨ (a % 2 = 0 ∧ b % 2 = 1 ∧ X % 2 = 1 ∧ Y % 2 = 0) ∨ (a % 2 = 1 ∧ b % 2 = 0 ∧ X % 2 = 1 ∧ Y % 2 = 0) ∨ (a % 2 = 1 ∧ b % 2 = 1 ∧ X % 2 = 0 ∧ Y % 2 = 1) := by
        rcases ha with ha | ha <;> rcases hb with hb | hb <;> rw [ha, hb] at x2 y2 <;> simp only [ha, hb, x2, y2] <;> decide
      clear x2 y2 ha hb
      omega
theorem bitXor_nat (a b : Nat) : Builtin.bitXor (a : Int) (b : Int) = ((a ^^^ b : Nat) : Int) := by
  rw [bitXor_and, bitAnd_pp (by omega) (by omega)]
  have := add_xor_and a b
  simp only [Int.toNat_natCast]
  omega
theorem bitXor_lt {x y : Int} {b : Nat} (h0 : 0 ≤ x) (h1 : x < 2 ^ b) (k0 : 0 ≤ y) (k1 : y < 2 ^ b) : 0 ≤ Builtin.bitXor x y ∧ Builtin.bitXor x y < 2 ^ b := by
  obtain ⟨a, rfl⟩ := Int.eq_ofNat_of_zero_le h0
  obtain ⟨c, rfl⟩ := Int.eq_ofNat_of_zero_le k0
  rw [bitXor_nat]
  have h : a ^^^ c < 2 ^ b := Nat.xor_lt_two_pow (by rw [pow_toNat] at h1; exact Int.ofNat_lt.mp h1) (by rw [pow_toNat] at k1; exact Int.ofNat_lt.mp k1)
  rw [pow_toNat]
  exact ⟨Int.natCast_nonneg _, Int.ofNat_lt.mpr h⟩
theorem mask_nat (x : Int) (b : Nat) {md : Int} (hm : md = ((2 ^ b : Nat) : Int) - 1) : Builtin.bitAnd x md = x % ((2 ^ b : Nat) : Int) := by
  rw [hm, ← pow_toNat]
  exact kbt_mask x b
theorem FnvInv.codeTurn {prime b : Nat} {v₀ v n pr md : Int} {pre : List Int} (h : FnvInv prime b v₀ pre v) (hn0 : 0 ≤ n) (h1 : v₀ < 2 ^ b) (hp : pr = (prime : Int)) (hm : md = ((2 ^ b : Nat) : Int) - 1) :
    FnvInv prime b v₀ (pre ++ [n]) (Builtin.bitAnd (Builtin.bitXor v n * pr) md) := by
  have e := h.eq
  refine FnvInv.of h.ge0 h1 ?_
  rw [List.map_append, List.map_cons, List.map_nil, fnvN_snoc]
  generalize fnvN prime b v₀.toNat (pre.map Int.toNat) = u at *
  subst e
  obtain ⟨c, rfl⟩ := Int.eq_ofNat_of_zero_le hn0
  rw [mask_nat _ b hm, bitXor_nat, hp, fnvStep, Int.toNat_natCast, Int.natCast_emod, Int.natCast_mul]
theorem band_two_pow {s md : Int} {b : Nat} (hm : md = ((2 ^ b : Nat) : Int) - 1) : 0 ≤ Builtin.bitAnd s md ∧ Builtin.bitAnd s md < 2 ^ b := by
  have hp : (0 : Int) < ((2 ^ b : Nat) : Int) := Int.natCast_pos.mpr (Nat.two_pow_pos b)
  rw [mask_nat _ b hm, pow_toNat]
  exact ⟨Int.emod_nonneg _ (Int.ne_of_gt hp), Int.emod_lt_of_pos _ hp⟩
theorem FnvInv.codeFirst {prime b : Nat} {s md : Int} (hm : md = ((2 ^ b : Nat) : Int) - 1) : FnvInv prime b (Builtin.bitAnd s md) [] (Builtin.bitAnd s md) :=
  FnvInv.start (band_two_pow hm).1 (band_two_pow hm).2
def natInts (cs : List Nat) : List Int := cs.map Int.ofNat
theorem natInts_pos {cs : List Nat} : ∀ n ∈ natInts cs, 0 ≤ n := fun n hn => by
  obtain ⟨c, _, rfl⟩ := List.mem_map.mp hn
  exact Int.natCast_nonneg c
theorem natInts_lt {cs : List Nat} {k : Nat} (h : ∀ c ∈ cs, c < k) : ∀ n ∈ natInts cs, n < (k : Int) := fun n hn => by
  obtain ⟨c, hc, rfl⟩ := List.mem_map.mp hn
  exact Int.ofNat_lt.mpr (h c hc)
theorem natInts_toNat (cs : List Nat) : (natInts cs).map Int.toNat = cs := by
  rw [natInts, List.map_map]
  have : (Int.toNat ∘ Int.ofNat) = id := by funext c; rfl
  rw [this, List.map_id]
theorem FnvInv.codeNext {prime b : Nat} {s v n pr md : Int} {pre : List Int} {cs : List Nat} (h : FnvInv prime b (Builtin.bitAnd s md) pre v) (hm : n ∈ natInts cs) (hp : pr = (prime : Int)) (hmd : md = ((2 ^ b : Nat) : Int) - 1) :
    FnvInv prime b (Builtin.bitAnd s md) (pre ++ [n]) (Builtin.bitAnd (Builtin.bitXor v n * pr) md) :=
  h.codeTurn (natInts_pos n hm) (band_two_pow hmd).2 hp hmd
/-- what the code's loop has told is the hash -/
theorem FnvInv.codeTold {prime b start : Nat} {seed v md : Int} {cs : List Nat} (h : FnvInv prime b (Builtin.bitAnd ((start : Int) + 31 * seed) md) (natInts cs) v) (hs : 0 ≤ seed) (hmd : md = ((2 ^ b : Nat) : Int) - 1) :
    v = ((fnvS start prime b seed.toNat cs : Nat) : Int) := by
  rw [h.eq, fnvS, natInts_toNat, mask_nat _ b hmd]
  have e : ((start : Int) + 31 * seed) = ((start + 31 * seed.toNat : Nat) : Int) := by omega
  rw [e, ← Int.natCast_emod, Int.toNat_natCast]
theorem FnvInv.xorLt {prime b : Nat} {v₀ v n : Int} {pre : List Int} {cs : List Nat} (h : FnvInv prime b v₀ pre v) (hm : n ∈ natInts cs) (hc : ∀ c ∈ cs, c < 256) (hb : 8 ≤ b) : 0 ≤ Builtin.bitXor v n ∧ Builtin.bitXor v n < 2 ^ b := by
  refine bitXor_lt h.ge h.lt (natInts_pos n hm) ?_
  have h1 := natInts_lt hc n hm
  have h2 : (2 : Nat) ^ 8 ≤ 2 ^ b := Nat.pow_le_pow_right (by omega) hb
  rw [pow_toNat]
  have h3 : ((256 : Nat) : Int) ≤ ((2 ^ b : Nat) : Int) := Int.ofNat_le.mpr h2
  omega
end Mine
namespace Mine
/-- the hashes of 64 bits for the seeds below d -/
def hashesL (codes : List Nat) (d : Nat) : List Int := (List.range d).map fun i => ((fnvS 14695981039346656037 1099511628211 64 i codes : Nat) : Int)
theorem hashesL_succ (codes : List Nat) (d : Nat) : hashesL codes (d + 1) = hashesL codes d ++ [((fnvS 14695981039346656037 1099511628211 64 d codes : Nat) : Int)] := by
  unfold hashesL
  rw [List.range_succ, List.map_append, List.map_cons, List.map_nil]
theorem hashesL_zero (codes : List Nat) : ([] : List Int) = hashesL codes ([] : List Int).length := rfl
theorem hashesL_length (codes : List Nat) (d : Nat) : (hashesL codes d).length = d := by simp [hashesL]
/-- what a loop over the seeds has gathered -/
structure HashInv (codes : List Nat) (pre res : List Int) : Prop where
  eq : res = hashesL codes pre.length
theorem HashInv.zero {codes : List Nat} : HashInv codes [] [] := ⟨rfl⟩
theorem HashInv.next {codes : List Nat} {pre res : List Int} {k : Int} (h : HashInv codes pre res) (hk : k = 0 + (pre.length : Int)) :
    HashInv codes (pre ++ [k]) (res ++ [((fnvS 14695981039346656037 1099511628211 64 k.toNat codes : Nat) : Int)]) := by
  have e : k.toNat = pre.length := by omega
  refine ⟨?_⟩
  rw [e, List.length_append, List.length_singleton, hashesL_succ, ← h.eq]
theorem hashesL_mem {codes : List Nat} {d : Nat} : ∀ h ∈ hashesL codes d, 0 ≤ h ∧ h < 2 ^ 64 := fun h hm => by
  obtain ⟨i, _, rfl⟩ := List.mem_map.mp hm
  have := fnvS_lt 14695981039346656037 1099511628211 64 i codes
  refine ⟨Int.natCast_nonneg _, ?_⟩
  rw [pow_toNat]
  exact Int.ofNat_lt.mpr this
end Mine
namespace Mine
/-- the hexadecimal digits of v, none for nought -/
def hexP (v : Nat) : List Nat := if v = 0 then [] else ((Nat.toDigits 16 v).map fun c => c.toNat)
theorem hexP_zero : hexP 0 = [] := rfl
theorem hexP_step {v : Nat} (h : v ≠ 0) : hexP v = hexP (v / 16) ++ [(Nat.digitChar (v % 16)).toNat] := by
  unfold hexP
  rw [if_neg h]
  by_cases hb : 16 ≤ v
  · rw [if_neg (by omega), Nat.toDigits_of_base_le (by omega) hb, List.map_append]
    rfl
  · rw [if_pos (by omega), Nat.toDigits_of_lt_base (by omega), Nat.mod_eq_of_lt (by omega)]
    rfl
theorem hexP_length {v k : Nat} (hk : 0 < k) (h : v < 16 ^ k) : (hexP v).length ≤ k := by
  unfold hexP
  split
  · simp
  · rw [List.length_map]; exact (Nat.length_toDigits_le_iff (by omega) hk).mpr h
def hexDigits : List Nat := [48, 49, 50, 51, 52, 53, 54, 55, 56, 57, 97, 98, 99, 100, 101, 102]
theorem hexDigits_get : ∀ d : Nat, d < 16 → hexDigits.getD d 0 = (Nat.digitChar d).toNat := by decide
end Mine
namespace Mine
theorem item_hex : ∀ d : Nat, d < 16 → Txt.item (Str.ofString "0123456789abcdef") (d : Int) = ⟨#[(Nat.digitChar d).toNat]⟩ := by decide +kernel
def smallL (v : Nat) : List Nat := if v = 0 then [48] else hexP v
structure SmallInv (v₀ v : Int) (told : Str) : Prop where
  ge : 0 ≤ v
  le : v ≤ v₀
  lt : v₀ < 2 ^ 64
  eq : hexP v₀.toNat = hexP v.toNat ++ told.cps.toList
theorem SmallInv.start {v : Int} (h : 0 ≤ v ∧ v < 2 ^ 64) : SmallInv v v (Str.ofString "") := ⟨h.1, Int.le_refl _, h.2, by
  have e : (Str.ofString "").cps.toList = [] := by decide +kernel
  rw [e, List.append_nil]⟩
theorem SmallInv.len {v₀ v : Int} {told : Str} (h : SmallInv v₀ v told) : told.length ≤ 16 := by
  have h1 : (hexP v₀.toNat).length ≤ 16 := hexP_length (by omega) (by
    have := h.lt
    have := h.ge
    have := h.le
    have e : (16 : Nat) ^ 16 = 2 ^ 64 := by decide
    rw [e]
    omega)
  have h2 := congrArg List.length h.eq
  rw [List.length_append] at h2
  have h3 : told.length = told.cps.toList.length := by rw [Array.length_toList]; rfl
  omega
theorem SmallInv.first {v : Int} (h : 0 ≤ v ∧ v < 2 ^ 64) : 0 ≤ v ∧ v ≤ v ∧ (Str.ofString "").length ≤ 16 ∧ SmallInv v v (Str.ofString "") :=
  ⟨h.1, Int.le_refl _, (SmallInv.start h).len, .start h⟩
theorem SmallInv.turn {v₀ v : Int} {told : Str} (h : SmallInv v₀ v told) (hp : 0 < v) :
    0 ≤ v.fdiv 16 ∧ v.fdiv 16 ≤ v₀ ∧ (Txt.item (Str.ofString "0123456789abcdef") (v.fmod 16) ++ told).length ≤ 16 ∧ SmallInv v₀ (v.fdiv 16) (Txt.item (Str.ofString "0123456789abcdef") (v.fmod 16) ++ told) := by
  have hge := h.ge
  have hle := h.le
  obtain ⟨n, rfl⟩ := Int.eq_ofNat_of_zero_le hge
  have e1 : ((n : Int)).fdiv 16 = ((n / 16 : Nat) : Int) := by rw [Int.fdiv_eq_ediv_of_nonneg _ (by omega)]; omega
  have e2 : ((n : Int)).fmod 16 = ((n % 16 : Nat) : Int) := by rw [Int.fmod_eq_emod_of_nonneg _ (by omega)]; omega
  rw [e1, e2, item_hex _ (Nat.mod_lt _ (by omega))]
  have H : SmallInv v₀ ((n / 16 : Nat) : Int) ((⟨#[(Nat.digitChar (n % 16)).toNat]⟩ : Str) ++ told) := by
    refine ⟨by omega, by omega, h.lt, ?_⟩
    have e := h.eq
    rw [Int.toNat_natCast] at e ⊢
    rw [e, hexP_step (v := n) (by omega), Str.cps_append, Array.toList_append]
    simp
  exact ⟨H.ge, H.le, H.len, H⟩
theorem SmallInv.less {v : Int} (hp : 0 < v) : (v.fdiv 16).toNat < v.toNat := by
  rw [Int.fdiv_eq_ediv_of_nonneg _ (by omega)]; omega
theorem SmallInv.done {v₀ v : Int} {told : Str} (h : SmallInv v₀ v told) (hz : ¬ 0 < v) : told = ⟨(hexP v₀.toNat).toArray⟩ := by
  have e := h.eq
  have hv : v = 0 := by have := h.ge; omega
  subst hv
  refine Str.ext' ?_
  show told.cps = (hexP v₀.toNat).toArray
  rw [e]
  simp [hexP_zero]
theorem hexP_ne {v : Nat} (h : v ≠ 0) : hexP v ≠ [] := by
  rw [hexP_step h]; simp
theorem SmallInv.done1 {v₀ v : Int} {told : Str} (h : SmallInv v₀ v told) (hz : ¬ 0 < v) (hne : (told != Str.ofString "") = true) : told = ⟨(smallL v₀.toNat).toArray⟩ := by
  have e := h.done hz
  unfold smallL
  split
  · rename_i h0
    rw [h0] at e
    subst e
    exact absurd hne (by decide +kernel)
  · exact e
theorem SmallInv.done2 {v₀ v : Int} {told : Str} (h : SmallInv v₀ v told) (hz : ¬ 0 < v) (hne : (told != Str.ofString "") = false) : Str.ofString "0" = ⟨(smallL v₀.toNat).toArray⟩ := by
  have e := h.done hz
  have h1 : told = Str.ofString "" := by simpa using hne
  have h0 : v₀.toNat = 0 := by
    refine Decidable.byContradiction fun q => hexP_ne q ?_
    have h2 := congrArg (fun x : Str => x.cps.toList) (e.symm.trans h1)
    have h3 : (Str.ofString "").cps.toList = [] := by decide +kernel
    exact h2.trans h3
  unfold smallL
  rw [if_pos h0]
  decide +kernel
theorem smallL_hex (v : Nat) : smallL v = (Nat.toDigits 16 v).map fun c => c.toNat := by
  unfold smallL hexP
  split
  · rename_i h; subst h; decide +kernel
  · rfl
end Mine
namespace Mine
/-- the weighted sum over the signs of x, as the walk reckons it -/
def simpleRaw (x : Str) : Int :=
  (List.map (fun k' => if 1 ≤ (Txt.item x k').length ∧ (Txt.item x k').length ≤ 1 then (k' + 2) * (((Txt.item x k').cps.getD 0 0 : Nat) : Int) else k') (rangeKs 0 ((x.length : Int) - 0).toNat)).sum
theorem item_code {x : Str} {k : Nat} (hc : ∀ c ∈ x.cps.toList, c < k) (hk : 0 < k) (i : Int) : (Txt.item x i).cps.getD 0 0 < k := by
  unfold Txt.item
  show (Txt.charAt x i).getD 0 < k
  cases h : Txt.charAt x i with
  | none => exact hk
  | some c =>
    refine hc c ?_
    obtain ⟨j, _, hj⟩ := Option.bind_eq_some_iff.mp h
    exact Array.mem_toList_iff.mpr (Array.mem_of_getElem? hj)
theorem sum_bounds {l : List Int} {b : Int} (h : ∀ y ∈ l, 0 ≤ y ∧ y ≤ b) : 0 ≤ l.sum ∧ l.sum ≤ (l.length : Int) * b := by
  induction l with
  | nil => simp
  | cons y r ih =>
    have h1 := h y (by simp)
    have h2 := ih fun z hz => h z (by simp [hz])
    rw [List.sum_cons, List.length_cons, Int.natCast_add, Int.add_mul]
    omega
theorem simpleRaw_bounds {x : Str} (hx : x.cps.size ≤ 100) (hc : ∀ c ∈ x.cps.toList, c < 256) : 0 ≤ simpleRaw x ∧ simpleRaw x ≤ 100 * 26112 := by
  have hl : x.length = x.cps.size := rfl
  have h := sum_bounds (l := List.map (fun k' => if 1 ≤ (Txt.item x k').length ∧ (Txt.item x k').length ≤ 1 then (k' + 2) * (((Txt.item x k').cps.getD 0 0 : Nat) : Int) else k') (rangeKs 0 ((x.length : Int) - 0).toNat)) (b := 26112) (by
    intro y hy
    obtain ⟨k, hk, rfl⟩ := List.mem_map.mp hy
    have hm := mem_rangeKs hk
    have hi := item_code hc (by omega) k
    split
    · generalize (Txt.item x k).cps.getD 0 0 = c at hi
      have a1 : 0 ≤ (k + 2) * (c : Int) := Int.mul_nonneg (by omega) (by omega)
      have a2 : (k + 2) * (c : Int) ≤ 102 * (c : Int) := Int.mul_le_mul_of_nonneg_right (by omega) (by omega)
      omega
    · omega)
  rw [List.length_map, rangeKs_length] at h
  unfold simpleRaw
  omega
end Mine
namespace Mine
theorem chr_ok {k : Int} {l : List Int} (h : k ∈ l.map fun k' => k'.fmod 256) : (decide (k < 0) || decide (k > 0x10FFFF)) = false := by
  obtain ⟨y, _, rfl⟩ := List.mem_map.mp h
  have := low_byte y
  simp only [Bool.or_eq_false_iff, decide_eq_false_iff_not]
  omega
end Mine
namespace Mine
/-- a list of noughts, as a product of lists makes it -/
theorem zeros_are (t : Tok) : ∀ n : Nat, IntsAre (List.replicate n [Value.int 0 t]).flatten (List.replicate n (0 : Int))
  | 0 => .nil
  | n + 1 => by
    rw [List.replicate_succ, List.flatten_cons, List.replicate_succ]
    exact .cons 0 t (zeros_are t n)
end Mine
namespace Mine
theorem place_ok {h nb : Int} {Bs : List Int} (hnb : 12 ≤ nb ∧ nb ≤ 28) (hl : (Bs.length : Int) * 8 ≥ nb) : 0 ≤ (h.fmod nb).fdiv 8 ∧ (h.fmod nb).fdiv 8 < (Bs.length : Int) := by
  rw [Int.fmod_eq_emod_of_nonneg _ (by omega), Int.fdiv_eq_ediv_of_nonneg _ (by omega)]
  have h1 := Int.emod_nonneg h (show nb ≠ 0 by omega)
  have h2 := Int.emod_lt_of_pos h (show 0 < nb by omega)
  omega
theorem ints_at {vs : List Value} {ns : List Int} (h : IntsAre vs ns) {i : Nat} (hi : i < ns.length) : ∃ t, vs[i]? = some (.int (ns.getD i 0) t) := by
  induction h generalizing i with
  | nil => simp at hi
  | cons n t _ ih =>
    cases i with
    | zero => exact ⟨t, by simp⟩
    | succ i =>
      obtain ⟨u, hu⟩ := ih (i := i) (by simpa using hi)
      exact ⟨u, by simpa using hu⟩
end Mine
namespace Mine
/-- the bit of a place within its octet -/
def pow8 (k : Int) : Int := 2 ^ (k.fmod 8).toNat
theorem pow8_range (k : Int) : 0 ≤ k.fmod 8 ∧ k.fmod 8 < 8 := by
  rw [Int.fmod_eq_emod_of_nonneg _ (by omega)]; omega
def and8 (b k : Int) : Int := Builtin.bitAnd b (pow8 k)
def or8 (b k : Int) : Int := Builtin.bitOr b (pow8 k)
section
variable {prog : Program} {w : World} {A : Around} {E : Value → Shared → Prop} {s : Shared} {Q : Value → Shared → Prop}
theorem shl8 {k : Int} {t u : Tok} (h : Q (.int (pow8 k) s.toks) { s with toks := s.toks + 1 }) : wpAny (model prog w) A (binaryOp .LShift (.int 1 t) (.int (k.fmod 8) u)) Q E s := by
  have hr := pow8_range k
  refine lshift_int_small hr.1 (by omega) (by decide) ?_
  rw [Int.one_mul]
  exact h
theorem band8 {b k : Int} {t u : Tok} (h : Q (.int (and8 b k) s.toks) { s with toks := s.toks + 1 }) : wpAny (model prog w) A (binaryOp .BitAnd (.int b t) (.int (pow8 k) u)) Q E s := and_int h
theorem bor8 {b k : Int} {t u : Tok} (h : Q (.int (or8 b k) s.toks) { s with toks := s.toks + 1 }) : wpAny (model prog w) A (binaryOp .BitOr (.int b t) (.int (pow8 k) u)) Q E s := or_int h
end
end Mine
namespace Mine
/-- does the filter's octets bear the bit of the hash h -/
def on8 (Bs : List Int) (nb h : Int) : Bool := !(and8 (Bs.getD ((h.fmod nb).fdiv 8).toNat 0) (h.fmod nb) == 0)
theorem split_on8 {P R : Prop} {Bs : List Int} {nb h : Int} (h1 : on8 Bs nb h = false → P) (h2 : on8 Bs nb h = true → R) :
    if (and8 (Bs.getD ((h.fmod nb).fdiv 8).toNat 0) (h.fmod nb) == 0) = true then P else R := by
  by_cases q : (and8 (Bs.getD ((h.fmod nb).fdiv 8).toNat 0) (h.fmod nb) == 0) = true
  · rw [if_pos q]; exact h1 (by unfold on8; rw [q]; rfl)
  · rw [if_neg q]; exact h2 (by unfold on8; rw [Bool.not_eq_true] at q; rw [q]; rfl)
structure AllOn (Bs : List Int) (nb : Int) (hs pre : List Int) : Prop where
  on : ∀ j, j < pre.length → on8 Bs nb (hs.getD j 0) = true
theorem AllOn.start {Bs : List Int} {nb : Int} {hs : List Int} : AllOn Bs nb hs [] := ⟨fun _ h => absurd h (Nat.not_lt_zero _)⟩
theorem AllOn.next {Bs : List Int} {nb : Int} {hs pre : List Int} {k : Int} (h : AllOn Bs nb hs pre) (hk : k = 0 + (pre.length : Int)) (ho : on8 Bs nb (hs.getD k.toNat 0) = true) : AllOn Bs nb hs (pre ++ [k]) := by
  refine ⟨fun j hj => ?_⟩
  rw [List.length_append, List.length_singleton] at hj
  by_cases q : j < pre.length
  · exact h.on j q
  · have e : j = k.toNat := by omega
    rw [e]; exact ho
theorem AllOn.all {Bs : List Int} {nb : Int} {hs pre : List Int} (h : AllOn Bs nb hs pre) (hl : pre.length = hs.length) : true = hs.all (on8 Bs nb) := by
  refine (List.all_eq_true.mpr fun y hy => ?_).symm
  obtain ⟨j, hj, rfl⟩ := List.getElem_of_mem hy
  have := h.on j (by omega)
  rwa [List.getD_eq_getElem?_getD, List.getElem?_eq_getElem hj] at this
theorem off_all {Bs : List Int} {nb : Int} {hs : List Int} {k : Nat} (hk : k < hs.length) (h : on8 Bs nb (hs.getD k 0) = false) : false = hs.all (on8 Bs nb) := by
  refine (Bool.eq_false_iff.mpr fun q => ?_).symm
  have h1 := List.all_eq_true.mp q (hs.getD k 0) (by rw [List.getD_eq_getElem?_getD, List.getElem?_eq_getElem hk]; exact List.getElem_mem hk)
  rw [h] at h1
  cases h1
end Mine
end Part0
section Part1
open PySem PySem.W PySem.Calls PyProof.Rows
namespace Mine
abbrev Prog : Program := PySem.Challenge.rw_sv0015_02.row.prog
noncomputable abbrev KP (w : World) : Frag := hd1.heap_39 w.params
/-- what a call of a def hands on: the frame and the ledger as they were, the value by its token -/
abbrev Back (h₀ : Heap) (L : Addr) (m : Str → Option Value) (news : List (Addr × Obj)) (s : Shared) (Q : Value → Shared → Prop) (R : Tok → Value) : Prop :=
  ∀ (t : Tok) (h' : Heap) (tk' : Nat), Fr h₀ L h' m → News h₀ L h' news → Q (R t) { s with heap := h', toks := tk' }
/-- the same, of a def that hands on a new list of ints -/
abbrev BackL (h₀ : Heap) (L : Addr) (m : Str → Option Value) (news : List (Addr × Obj)) (s : Shared) (Q : Value → Shared → Prop) (ns : List Int) : Prop :=
  ∀ (l : Addr) (vs : List Value) (n : Nat) (h' : Heap) (tk' : Nat), Fr h₀ L h' m → News h₀ L h' ((l, listOf vs.toArray n) :: news) → IntsAre vs ns → (∀ p ∈ news, p.1 < l) → Q (.ref l) { s with heap := h', toks := tk' }
end Mine
end Part1
section Part2
open PySem PySem.W PySem.Calls PyProof.Rows
namespace Mine
namespace Mp
theorem mro_map : mroOf (.type "map") = pure [.type "map", .type "object"] := by rw [mroOf_type]; kernel_rfl
theorem lookup_new : typeLookup (.type "map") "__new__" = pure (some (.builtin "map.__new__")) := by rw [typeLookup_type, builtinLookup_eq_fast]; kernel_rfl
theorem slot_init : Slot "map" "__init__" "object.__init__" :=
  .of (owner := "object") (n := "__init__") (by rw [typeLookup_type, builtinLookup_eq_fast]; kernel_rfl) (by decide +kernel) (by decide +kernel) (by decide +kernel)
    (by first | exact .inl (by decide +kernel) | exact .inr (by decide +kernel)) (by rw [isSubtype_type]; kernel_rfl)
theorem slot_next : Slot "map" "__next__" "map.__next__" :=
  .of (owner := "map") (n := "__next__") (by rw [typeLookup_type, builtinLookup_eq_fast]; kernel_rfl) (by decide +kernel) (by decide +kernel) (by decide +kernel)
    (by first | exact .inl (by decide +kernel) | exact .inr (by decide +kernel)) (by rw [isSubtype_type]; kernel_rfl)
theorem slot_iter : Slot "map" "__iter__" "map.__iter__" :=
  .of (owner := "map") (n := "__iter__") (by rw [typeLookup_type, builtinLookup_eq_fast]; kernel_rfl) (by decide +kernel) (by decide +kernel) (by decide +kernel)
    (by first | exact .inl (by decide +kernel) | exact .inr (by decide +kernel)) (by rw [isSubtype_type]; kernel_rfl)
theorem sub_map : isSubtype (.type "map") (.type "map") = pure true := by rw [isSubtype_type]; kernel_rfl
theorem called_map : TypeCalled "map" "map.__new__" "object.__init__" :=
  ⟨by decide +kernel, by decide +kernel, ⟨_, _, mro_map⟩, madeBy_type mro_map lookup_new (by decide +kernel), by decide +kernel, sub_map, slot_init⟩
theorem typeCall_2 (a b : Value) : checkTypeCall "map" ⟨[a, b], []⟩ = pure () := by kernel_rfl
theorem newCall_2 (a b : Value) : checkBuiltinCall "map.__new__" ⟨[.type "map", a, b], []⟩ = pure () := by kernel_rfl
theorem args_init_3 (a b c : Value) : argsOk "object.__init__" ⟨[a, b, c], []⟩ := by unfold argsOk; kernel_rfl
theorem args_next (a : Value) : argsOk "map.__next__" ⟨[a], []⟩ := by unfold argsOk; kernel_rfl
theorem args_iter (a : Value) : argsOk "map.__iter__" ⟨[a], []⟩ := by unfold argsOk; kernel_rfl
theorem entry_new : entryFor table "map.__new__" = some Builtin.«map.__new__» := entryFor_of_tree (by kernel_rfl)
theorem entry_next : entryFor table "map.__next__" = some Builtin.«map.__next__» := entryFor_of_tree (by kernel_rfl)
theorem entry_iter : entryFor table "map.__iter__" = some Builtin.«dict_keyiterator.__iter__» :=
  entryFor_alias (id' := "dict_keyiterator.__iter__") (by kernel_rfl) (by first | rfl | decide +kernel | (unfold String.splitOn; simp +decide [String.splitOnAux])) (by decide +kernel) (by kernel_rfl)
end Mp
namespace Mp
def iterO (x : Str) (t : Tok) : Obj := { cls := .type (strIterType x), data := .fields #[.str x t, .int 0 0] }
def tupO (I : Addr) : Obj := { cls := .type "tuple", data := .seq #[.ref I] }
def mapO (T : Addr) (f : Value) : Obj := { cls := .type "map", data := .fields #[.ref T, f] }
set_option maxHeartbeats 1000000 in
theorem meets_new (x : Str) (t : Tok) (f : Value) :
    Meets (Builtin.«map.__new__» ⟨[.type "map", f, .str x t], []⟩) (fun _ R s =>
      R (.ok (.ret (.ref ((s.heap.push (iterO x t)).push (tupO s.heap.objs.size)).objs.size)))
        { s with heap := ((s.heap.push (iterO x t)).push (tupO s.heap.objs.size)).push (mapO (s.heap.push (iterO x t)).objs.size f) }) :=
  .of_wp fun prog w A R s h => by
    obtain ⟨hp, g, d, tk, os⟩ := s
    have hsub := sub_map
    wp_walk using wpAny_pyIter_strU
    exact ⟨_, rfl, h⟩
section
variable {prog : Program} {w : World} {A : Around} {E : Value → Shared → Prop} {s : Shared} {h₀ : Heap} {L : Addr} {m : Str → Option Value} {news : List (Addr × Obj)}
theorem call_map {x : Str} {t : Tok} {f : Value} {Q : Value → Shared → Prop} (F : Fr h₀ L s.heap m) (N : News h₀ L s.heap news)
    (h : ∀ I T M h', Fr h₀ L h' m → News h₀ L h' ((M, mapO T f) :: (T, tupO I) :: (I, iterO x t) :: news) → (∀ p ∈ news, p.1 < I) → I < T → T < M → Q (.ref M) { s with heap := h' }) :
    wpAny (model prog w) A (call (.type "map") [f, .str x t]) Q E s := by
  refine callType_new called_map (by decide) (typeCall_2 _ _) (newCall_2 _ _) (fun obj => args_init_3 obj _ _) entry_new (meets_new x t f) ?_
  have z1 : (s.heap.push (iterO x t)).objs.size = s.heap.objs.size + 1 := Heap.size_push ..
  have z2 : ((s.heap.push (iterO x t)).push (tupO s.heap.objs.size)).objs.size = s.heap.objs.size + 2 := by rw [Heap.size_push, z1]
  show _ ∧ _
  refine ⟨⟨_, Heap.get?_push_size _ rfl, rfl⟩, ?_⟩
  have F1 := F.push (iterO x t)
  have N1 := N.push F (iterO x t)
  have F2 := F1.push (tupO s.heap.objs.size)
  have N2 := N1.push F1 (tupO s.heap.objs.size)
  have F3 := F2.push (mapO (s.heap.push (iterO x t)).objs.size f)
  have N3 := N2.push F2 (mapO (s.heap.push (iterO x t)).objs.size f)
  refine h s.heap.objs.size (s.heap.push (iterO x t)).objs.size _ _ F3 N3 (fun p hp => Heap.lt_size (N p hp).1) ?_ ?_
  · rw [z1]; exact Nat.lt_succ_self _
  · rw [z1, z2]; exact Nat.lt_succ_self _
/-- what the i-th draw of map(ord, x) hands on -/
def OrdAt (x : Str) (i : Nat) (v : Value) : Prop := ∃ c u, x.cps[i]? = some c ∧ v = .int (c : Int) u
def MapSt (St : Nat → Heap → Prop) (M T I : Addr) (i : Nat) (h : Heap) : Prop := h.get? M = some (mapO T (.builtin "ord")) ∧ h.get? T = some (tupO I) ∧ St i h
theorem pyIter_map {M T : Addr} {f : Value} {Q : Value → Shared → Prop} (hM : s.heap.get? M = some (mapO T f)) (h : Q (.ref M) s) : wpAny (model prog w) A (pyIter (.ref M)) Q E s := by
  have hT : s.TypeIs (.ref M) "map" := ⟨_, hM, rfl⟩
  refine wpAny_pyIter_slot hT slot_iter (wpAny_call_entry slot_iter hT entry_iter ?_ (args_iter _))
  show wpAny _ _ (ret (.ref M)) _ _ s
  exact wpAny_pure ⟨_, rfl, "map", _, hT, slot_next.lookup, h⟩
theorem map_next {M T I : Addr} {Q : Value → Shared → Prop} (hM : s.heap.get? M = some (mapO T (.builtin "ord"))) (hT : s.heap.get? T = some (tupO I))
    (h : wpAny (model prog w) A.in1 (Builtin.SmallTypes.nextOf (.ref I)) (fun v s₁ => s₁.heap.get? M = some (mapO T (.builtin "ord")) ∧ wpAny (model prog w) A.in1 (call (.builtin "ord") [v]) Q E s₁) E s) :
    wpAny (model prog w) A (call (.builtin "map.__next__") [.ref M]) Q E s := by
  refine wpAny_call_entry slot_next ⟨_, hM, rfl⟩ entry_next ?_ (args_next _)
  show wpAny _ _ (field (.ref M) 0 >>= _) _ _ s
  refine wpAny_bind (wpAny_field hM rfl (x := .ref T) rfl ?_)
  refine wpAny_bind (wpAny_seqItems hT rfl ?_)
  simp only [← Array.forIn_toList, List.forIn_cons, List.forIn_nil, bind_assoc, pure_bind]
  refine wpAny_bind (wpAny_holding (wpAny_mono h (fun v s₁ h₁ => ?_) fun _ _ e => e))
  refine wpAny_bind (wpAny_field h₁.1 rfl (x := .builtin "ord") rfl ?_)
  refine wpAny_bind (wpAny_holding (wpAny_mono h₁.2 (fun r s₂ h₂ => ?_) fun _ _ e => e))
  refine wpAny_bind (wpAny_letGo ?_)
  exact wpAny_pure ⟨_, rfl, h₂⟩
theorem walks {M T I : Addr} {x : Str} {St : Nat → Heap → Prop} (hh : A.handled = none) (hMI : M ≠ I) (hTI : T ≠ I)
    (D : ∀ A' : Around, A'.handled = none → Draws prog w A' I [I] x.cps.size (fun i v => ∃ c u, x.cps[i]? = some c ∧ v = .str ⟨#[c]⟩ u) St) :
    Walks prog w A M [M, T, I] [I] x.cps.size (OrdAt x) (MapSt St M T I) where
  sub := fun b hb => by simp at hb; simp [hb]
  frame := fun i h h' st hk => ⟨hk M (by simp) _ st.1, hk T (by simp) _ st.2.1, (D A hh).frame i h h' st.2.2 fun b hb o e => hk b (by simp at hb; simp [hb]) o e⟩
  item := fun i s Q E hi st hQ => by
    unfold pyNext
    refine wpAny_bind (wpAny_attempt (wpAny_callSpecial?_slot (name := Str.ofString "__next__") ⟨_, st.1, rfl⟩ slot_next (map_next st.1 st.2.1 ?_)))
    refine (D A.in1 hh).item i s _ _ hi st.2.2 fun v h' tk hv st' hs => ?_
    obtain ⟨c, u, hc, rfl⟩ := hv
    have hM' := (hs.2 M hMI).trans st.1
    have hT' := (hs.2 T hTI).trans st.2.1
    refine ⟨hM', P.ord_of_char ?_⟩
    exact wpAny_pure (hQ _ _ _ ⟨c, _, hc, rfl⟩ ⟨hM', hT', st'⟩ fun b o hb e => (hs.2 b (fun q => hb (by simp [q]))).trans e)
  done := fun s Q E st hQ => by
    unfold pyNext
    refine wpAny_bind (wpAny_attempt (wpAny_callSpecial?_slot (name := Str.ofString "__next__") ⟨_, st.1, rfl⟩ slot_next (map_next st.1 st.2.1 ?_)))
    refine (D A.in1 hh).done s _ _ st.2.2 fun h' e he hx => ?_
    obtain ⟨o, ho, hc⟩ := hx
    refine wpAny_bind (wpAny_isInstance (T := "StopIteration") (b := true) ⟨_, ho, hc⟩ isSubtype_stop ?_)
    exact wpAny_pure (hQ h' _ fun b o hb e => he b o (fun q => hb (by simp [q])) e)
  self := fun i s Q E st hQ => pyIter_map st.1 hQ
end
end Mp
namespace Mp
theorem no_len : typeLookup (.type "map") "__len__" = pure none := by rw [typeLookup_type, builtinLookup_eq_fast]; kernel_rfl
theorem no_hint : typeLookup (.type "map") "__length_hint__" = pure none := by rw [typeLookup_type, builtinLookup_eq_fast]; kernel_rfl
theorem bytes_len : typeLookup (.type "bytes") "__len__" = pure (some (.builtin "bytes.__len__")) := by rw [typeLookup_type, builtinLookup_eq_fast]; kernel_rfl
section
variable {prog : Program} {w : World} {A : Around} {E : Value → Shared → Prop} {s : Shared}
theorem extend_map {R : Result → Shared → Prop} {M T I : Addr} {x : Str} {St : Nat → Heap → Prop} (hh : A.handled = none) (hMI : M ≠ I) (hTI : T ≠ I)
    (D : ∀ A' : Around, A'.handled = none → Draws prog w A' I [I] x.cps.size (fun i v => ∃ c u, x.cps[i]? = some c ∧ v = .str ⟨#[c]⟩ u) St)
    (S : Addr) (res : Value) (c₀ : Nat) (hst : MapSt St M T I 0 s.heap) (hSf : S ∉ [M, T, I]) (hS : s.heap.get? S = some { cls := .type "list", data := .seq #[] c₀ })
    (hR : ∀ h' tk acc' c', (∀ b o, b ≠ S → b ≠ I → s.heap.get? b = some o → h'.get? b = some o) → h'.get? S = some { cls := .type "list", dict := none, data := .seq acc' c', slots := #[] } →
      ItemsOf (OrdAt x) acc' x.cps.size → R (.ok (.ret res)) { s with heap := h', toks := tk }) (hn : x.cps.size ≤ sizeLine) :
    wpAny (model prog w) A.in1 (Builtin.List.listExtendWith (.ref S) (.ref M) res)
      (fun fin s' => match fin with | .done f => R (.ok f) s' | .again c' => c'.quiet = true ∧ codeAny (model prog w) A c' R s') (fun e s' => R (.error e) s') s := by
  have W := walks (prog := prog) (w := w) (A := A.in1) hh hMI hTI D
  have hSM : S ≠ M := fun e => hSf (by simp [e])
  have hT : s.TypeIs (.ref M) "map" := ⟨_, hst.1, rfl⟩
  unfold Builtin.List.listExtendWith
  refine wpAny_bind (wpAny_typeOf hT ?_)
  have h1 : Builtin.List.listSameRef (.ref S) (.ref M) = false := by simp [Builtin.List.listSameRef, hSM]
  have h2 : (Value.type "map" == Value.type "list") = false := by decide
  have h3 : (Value.type "map" == Value.type "tuple") = false := by decide
  simp only [h1, h2, h3, Bool.or_false, Bool.false_eq_true, if_false]
  refine wpAny_bind (W.self 0 _ _ _ hst ?_)
  refine wpAny_bind (wpAny_holding ?_)
  unfold Builtin.List.listLengthHint
  refine wpAny_bind (wpAny_specialOf hT no_len ?_)
  show wpAny _ A.in1 (specialOf (Value.ref M) (Str.ofString "__length_hint__") >>= _) _ _ _
  refine wpAny_bind (wpAny_specialOf hT no_hint ?_)
  refine wpAny_pure ?_
  show wpAny _ A.in1 (rule "list.extend.makes-room" >>= fun _ => Builtin.List.listTouch (.ref S) >>= fun _ =>
    again (.builtin "list.extend.loop" ⟨[.ref S, .ref M, res], []⟩)) _ _ _
  refine wpAny_bind (wpAny_rule ?_)
  refine wpAny_bind ?_
  show wpAny _ A.in1 (updateSeq S (·.push .none) >>= fun _ => updateSeq S (·.pop)) _ _ _
  refine wpAny_bind (wpAny_updateSeq hS rfl ?_)
  have hS₂ := Heap.get?_update_self (Obj.mapSeq (·.push Value.none)) hS rfl
  refine wpAny_updateSeq (hz := by seq_fits) hS₂ rfl ?_
  have hS₃ := Heap.get?_update_self (Obj.mapSeq (·.pop)) hS₂ rfl
  have oth : ∀ b o, b ≠ S → s.heap.get? b = some o → ((s.heap.update S (Obj.mapSeq (·.push Value.none))).update S (Obj.mapSeq (·.pop))).get? b = some o :=
    fun b o hb e => (Heap.get?_update_other _ _ (Ne.symm hb)).trans ((Heap.get?_update_other _ _ (Ne.symm hb)).trans e)
  refine wpAny_pure ⟨plainId_quiet F.plain_extend_loop _, codeAny_extend_loopS W.toS hn _ hSf _ x.cps.size 0 _ _ _ rfl (Nat.zero_le _)
    (W.frame 0 s.heap _ hst fun b hb o e => oth b o (fun h => hSf (h ▸ hb)) e) hS₃ (ItemsOf.nil _) fun s' acc' c' hm hS' hacc => ?_⟩
  rw [Moved.eq_with hm]
  refine hR s'.heap s'.toks acc' c' (fun b o hb hbI e => hm.heap b o (fun hmem => ?_) (oth b o hb e)) hS' hacc
  rcases List.mem_cons.mp hmem with e' | hmem
  · exact hb e'
  · exact hbI (List.mem_singleton.mp hmem)
theorem list_init {R : Result → Shared → Prop} {v : Value} (S : Addr) (hS : s.heap.get? S = some { cls := .type "list", data := .seq #[] })
    (h : ∀ h₁ c₀, (∀ b o, b ≠ S → s.heap.get? b = some o → h₁.get? b = some o) → h₁.get? S = some { cls := .type "list", data := .seq #[] c₀ } →
      wpAny (model prog w) A.in1 (Builtin.List.listExtendWith (.ref S) v .none)
        (fun fin s' => match fin with | .done f => R (.ok f) s' | .again c' => c'.quiet = true ∧ codeAny (model prog w) A c' R s') (fun e s' => R (.error e) s') { s with heap := h₁ }) :
    wpAny (model prog w) A.in1 (Builtin.«list.__init__» ⟨[.ref S, v], []⟩)
      (fun fin s' => match fin with | .done f => R (.ok f) s' | .again c' => c'.quiet = true ∧ codeAny (model prog w) A c' R s') (fun e s' => R (.error e) s') s := by
  show wpAny _ A.in1 (do let old ← Builtin.List.listItems (.ref S); Builtin.List.listUpdate (.ref S) (fun _ => #[]); letGo old.toList.reverse; Builtin.List.listExtendWith (.ref S) v .none) _ _ s
  refine wpAny_bind ?_
  unfold Builtin.List.listItems
  refine wpAny_bind (wpAny_seqItems hS rfl (wpAny_pure ?_))
  show wpAny _ A.in1 (updateSeq S (fun _ => #[]) >>= fun _ => letGo (#[] : Array Value).toList.reverse >>= fun _ => Builtin.List.listExtendWith (.ref S) v .none) _ _ s
  refine wpAny_bind (wpAny_updateSeq hS rfl ?_)
  have hS₂ := Heap.get?_update_self (Obj.mapSeq (fun _ => (#[] : Array Value))) hS rfl
  have oth : ∀ b o, b ≠ S → s.heap.get? b = some o → (s.heap.update S (Obj.mapSeq (fun _ => (#[] : Array Value)))).get? b = some o :=
    fun b o hb e => (Heap.get?_update_other _ _ (Ne.symm hb)).trans e
  refine wpAny_bind (wpAny_letGo ?_)
  exact h _ _ oth hS₂
theorem call_list_of {v : Value} {Q : Value → Shared → Prop}
    (h : ∀ h₁ c₀ , (∀ b o, s.heap.get? b = some o → h₁.get? b = some o) → h₁.get? s.heap.objs.size = some { cls := .type "list", data := .seq #[] c₀ } →
      wpAny (model prog w) A.in1.in1 (Builtin.List.listExtendWith (.ref s.heap.objs.size) v .none)
        (fun fin s' => match fin with | .done f => wants (fun r s₂ => r = .none ∧ Q (.ref s.heap.objs.size) s₂) E (.ok f) s' | .again c' => c'.quiet = true ∧ codeAny (model prog w) A.in1 c' (wants (fun r s₂ => r = .none ∧ Q (.ref s.heap.objs.size) s₂) E) s')
        (fun e s' => wants (fun r s₂ => r = .none ∧ Q (.ref s.heap.objs.size) s₂) E (.error e) s') { s with heap := h₁ }) :
    wpAny (model prog w) A (call (.type "list") [v]) Q E s := by
  refine callType_codes (Q₁ := fun obj s₁ => obj = .ref s.heap.objs.size ∧ s₁ = { s with heap := s.heap.push { cls := .type "list", data := .seq #[] } }) F.called_list (F.typeCall_list_1 _) F.entry_list_init
    (code_list_new _ ⟨rfl, rfl⟩) fun obj s₁ h₁ => ?_
  obtain ⟨rfl, rfl⟩ := h₁
  have hS : (s.heap.push { cls := .type "list", data := .seq #[] }).get? s.heap.objs.size = some { cls := .type "list", data := .seq #[] } := Heap.get?_push_size _ rfl
  refine ⟨⟨_, hS, rfl⟩, F.args_list_init_2 _ _, list_init (A := A.in1) _ hS fun h₁ c₀ hk hS' => ?_⟩
  exact h h₁ c₀ (fun b o e => hk b o (Nat.ne_of_lt (Heap.lt_size e)) (Heap.get?_push_of_some _ e)) hS'
end
end Mp
namespace Mp
/-- the ints of a list of tokens' values -/
theorem ints_of_items : ∀ (xs : List Value) (ns : List Int), xs.length = ns.length → (∀ (j : Nat) (v : Value), xs[j]? = some v → ∃ (n : Int) (t : Tok), ns[j]? = some n ∧ v = .int n t) → IntsAre xs ns
  | [], [], _, _ => .nil
  | [], _ :: _, h, _ => by simp at h
  | _ :: _, [], h, _ => by simp at h
  | x :: xs, n :: ns, h, hj => by
    obtain ⟨n', t, hn, hx⟩ := hj 0 x (by simp)
    simp at hn
    subst hn hx
    exact .cons n t (ints_of_items xs ns (by simpa using h) fun j v hv => by
      have := hj (j + 1) v (by simpa using hv)
      simpa using this)
theorem ints_map {x : Str} {acc : Array Value} (h : ItemsOf (OrdAt x) acc x.cps.size) : IntsAre acc.toList (natInts x.cps.toList) := by
  refine ints_of_items _ _ (by simp [h.1, natInts]) fun j v hv => ?_
  obtain ⟨c, u, hc, rfl⟩ := h.2 j v (by simpa using hv)
  exact ⟨(c : Int), u, by simp [hc, natInts], rfl⟩
section
variable {prog : Program} {w : World} {A : Around} {E : Value → Shared → Prop} {s : Shared} {h₀ : Heap} {L : Addr} {m : Str → Option Value} {news : List (Addr × Obj)}
theorem frBut {h h' : Heap} {I : Addr} (F : Fr h₀ L h m) (hI : I ≠ L) (h0 : h₀.get? I = none) (hk : ∀ b o, b ≠ I → h.get? b = some o → h'.get? b = some o) : Fr h₀ L h' m := by
  obtain ⟨oL, a1, a2, hL, a3⟩ := F.ns
  refine ⟨⟨oL, a1, a2, hk _ _ (Ne.symm hI) hL, a3⟩, fun b o e => hk b o (fun q => ?_) (F.keep b o e), F.above⟩
  rw [q, h0] at e
  cases e
theorem list_map {x : Str} {t : Tok} {M T I : Addr} {Q : Value → Shared → Prop} (hh : A.handled = none) (F : Fr h₀ L s.heap m) (N : News h₀ L s.heap ((M, mapO T (.builtin "ord")) :: (T, tupO I) :: (I, iterO x t) :: news))
    (hI : ∀ p ∈ news, p.1 < I) (hIT : I < T) (hTM : T < M) (hn : x.cps.size ≤ sizeLine)
    (h : ∀ l vs n h' tk, Fr h₀ L h' m → News h₀ L h' ((l, listOf vs.toArray n) :: news) → IntsAre vs (natInts x.cps.toList) → (∀ p ∈ news, p.1 < l) → Q (.ref l) { s with heap := h', toks := tk }) :
    wpAny (model prog w) A (call (.type "list") [.ref M]) Q E s := by
  have nM := N (M, mapO T (.builtin "ord")) (by simp)
  have nT := N (T, tupO I) (by simp)
  have nI := N (I, iterO x t) (by simp)
  have fin : ∀ St : Nat → Heap → Prop, (∀ A' : Around, A'.handled = none → Draws prog w A' I [I] x.cps.size (fun i v => ∃ c u, x.cps[i]? = some c ∧ v = .str ⟨#[c]⟩ u) St) → St 0 s.heap → wpAny (model prog w) A (call (.type "list") [.ref M]) Q E s := by
    intro St D hst
    refine call_list_of fun h₁ c₀ hk hS => ?_
    have hlt : ∀ b o, s.heap.get? b = some o → b ≠ s.heap.objs.size := fun b o e => Nat.ne_of_lt (Heap.lt_size e)
    refine extend_map (A := A.in1) (T := T) (I := I) hh (Nat.ne_of_gt (Nat.lt_trans hIT hTM)) (Nat.ne_of_gt hIT) D _ _ c₀ ⟨hk _ _ nM.1, hk _ _ nT.1, (D A hh).frame 0 _ _ hst fun b _ o e => hk b o e⟩ ?_ hS (fun h' tk acc c' hk' hS' hacc => ?_) hn
    · simp only [List.mem_cons, List.not_mem_nil, or_false, not_or]
      exact ⟨(hlt _ _ nM.1).symm, (hlt _ _ nT.1).symm, (hlt _ _ nI.1).symm⟩
    · have up : ∀ b o, b ≠ I → s.heap.get? b = some o → h'.get? b = some o := fun b o hb e => hk' b o (hlt _ _ e) hb (hk b o e)
      have F' := frBut F nI.2.1 nI.2.2 up
      have hS'' : h'.get? s.heap.objs.size = some (listOf acc.toList.toArray c') := by simpa using hS'
      refine ⟨rfl, h _ acc.toList c' h' tk F' (fun p hp => ?_) (ints_map hacc) fun p hp => Heap.lt_size (N p (by simp [hp])).1⟩
      rcases List.mem_cons.mp hp with rfl | hp
      · refine ⟨hS'', Nat.ne_of_gt (Heap.lt_size (F.ns.choose_spec.choose_spec.choose_spec.1)), ?_⟩
        cases q : h₀.get? s.heap.objs.size with
        | none => rfl
        | some o => exact absurd (Heap.lt_size (F.keep _ _ q)) (Nat.lt_irrefl _)
      · have np := N p (by simp [hp])
        exact ⟨up _ _ (Nat.ne_of_lt (hI p hp)) np.1, np.2⟩
  have hIt : s.heap.get? I = some (iterO x t) := nI.1
  cases ha : x.cps.all (· < 128)
  · exact fin _ (fun A' hA => Draws.strWide hA I x t) ⟨_, hIt, by simp [iterO, strIterType, ha], rfl⟩
  · exact fin _ (fun A' hA => Draws.strAscii hA I x t) ⟨_, hIt, by simp [iterO, strIterType, ha], rfl⟩
theorem extend_bytes {R : Result → Shared → Prop} (hh : A.handled = none) (b : Array UInt8) (t : Tok) (S : Addr) (res : Value) (c₀ : Nat) (hS : s.heap.get? S = some { cls := .type "list", data := .seq #[] c₀ })
    (hR : ∀ h' tk acc' c', (∀ b o, b ≠ S → s.heap.get? b = some o → h'.get? b = some o) → h'.get? S = some { cls := .type "list", dict := none, data := .seq acc' c', slots := #[] } →
      ItemsOf (fun i v => ∃ c u, b[i]? = some c ∧ v = .int (c.toNat : Int) u) acc' b.size → R (.ok (.ret res)) { s with heap := h', toks := tk }) (hn : b.size ≤ sizeLine) :
    wpAny (model prog w) A.in1 (Builtin.List.listExtendWith (.ref S) (.bytes b t) res)
      (fun fin s' => match fin with | .done f => R (.ok f) s' | .again c' => c'.quiet = true ∧ codeAny (model prog w) A c' R s') (fun e s' => R (.error e) s') s := by
  have hSI : S ≠ s.heap.objs.size := Nat.ne_of_lt (Heap.lt_size hS)
  have hSf : S ∉ [s.heap.objs.size] := fun hm => hSI (List.mem_singleton.mp hm)
  unfold Builtin.List.listExtendWith
  refine wpAny_bind (wpAny_typeOf (T := "bytes") (v := .bytes b t) rfl ?_)
  have h1 : Builtin.List.listSameRef (.ref S) (.bytes b t) = false := rfl
  have h2 : (Value.type "bytes" == Value.type "list") = false := by decide
  have h3 : (Value.type "bytes" == Value.type "tuple") = false := by decide
  simp only [h1, h2, h3, Bool.or_false, Bool.false_eq_true, if_false]
  refine wpAny_bind (KBw.pyIter_bytes ?_)
  refine wpAny_bind (wpAny_holding ?_)
  unfold Builtin.List.listLengthHint
  refine wpAny_bind (wpAny_specialOf (T := "bytes") (v := .bytes b t) rfl bytes_len ?_)
  wp_delta
  refine wpAny_bind (wpAny_isInstance (T := "bytes") (v := .bytes b t) (b := true) rfl (by rw [isSubtype_type]; kernel_rfl) ?_)
  show wpAny _ _ (typeOf (Value.bytes b t) >>= _) _ _ _
  refine wpAny_bind (wpAny_typeOf (T := "bytes") (v := .bytes b t) rfl ?_)
  refine wpAny_pure ?_
  rw [if_neg (by decide)]
  refine wpAny_pure ⟨plainId_quiet F.plain_extend_loop _, codeAny_extend_loopS (KBw.walks (A := A.in1) hh _ b t).toS hn _ hSf _ b.size 0 _ _ _ rfl (Nat.zero_le _) ⟨_, Heap.get?_push_size _ rfl, rfl, rfl⟩ (Heap.get?_push_of_some _ hS) (ItemsOf.nil _) fun s' acc' c' hm hS' hacc => ?_⟩
  rw [Moved.eq_with hm]
  refine hR s'.heap s'.toks acc' c' (fun b ob hb e => hm.heap b ob (fun hmem => ?_) (Heap.get?_push_of_some _ e)) hS' hacc
  rcases List.mem_cons.mp hmem with e' | hmem
  · exact hb e'
  · exact absurd (Heap.lt_size e) (by rw [List.mem_singleton.mp hmem]; exact Nat.lt_irrefl _)
theorem ints_bytes {b : Array UInt8} {acc : Array Value} (h : ItemsOf (fun i v => ∃ c u, b[i]? = some c ∧ v = .int (c.toNat : Int) u) acc b.size) : IntsAre acc.toList (natInts (b.toList.map UInt8.toNat)) := by
  refine ints_of_items _ _ (by simp [h.1, natInts]) fun j v hv => ?_
  obtain ⟨c, u, hc, rfl⟩ := h.2 j v (by simpa using hv)
  exact ⟨(c.toNat : Int), u, by simp [hc, natInts], rfl⟩
theorem list_bytes {b : Array UInt8} {t : Tok} {Q : Value → Shared → Prop} (hh : A.handled = none) (F : Fr h₀ L s.heap m) (N : News h₀ L s.heap news) (hn : b.size ≤ sizeLine)
    (h : ∀ l vs n h' tk, Fr h₀ L h' m → News h₀ L h' ((l, listOf vs.toArray n) :: news) → IntsAre vs (natInts (b.toList.map UInt8.toNat)) → (∀ p ∈ news, p.1 < l) → Q (.ref l) { s with heap := h', toks := tk }) :
    wpAny (model prog w) A (call (.type "list") [.bytes b t]) Q E s := by
  refine call_list_of fun h₁ c₀ hk hS => ?_
  have hlt : ∀ b o, s.heap.get? b = some o → b ≠ s.heap.objs.size := fun b o e => Nat.ne_of_lt (Heap.lt_size e)
  refine extend_bytes (A := A.in1) hh b t _ _ c₀ hS (fun h' tk acc c' hk' hS' hacc => ?_) hn
  have up : ∀ b o, s.heap.get? b = some o → h'.get? b = some o := fun b o e => hk' b o (hlt _ _ e) (hk b o e)
  have hS'' : h'.get? s.heap.objs.size = some (listOf acc.toList.toArray c') := by simpa using hS'
  obtain ⟨oL, a1, a2, hL, a3⟩ := F.ns
  refine ⟨rfl, h _ acc.toList c' h' tk ⟨⟨oL, a1, a2, up _ _ hL, a3⟩, fun b o e => up b o (F.keep b o e), F.above⟩ (fun p hp => ?_) (ints_bytes hacc) fun p hp => Heap.lt_size (N p hp).1⟩
  rcases List.mem_cons.mp hp with rfl | hp
  · refine ⟨hS'', Nat.ne_of_gt (Heap.lt_size hL), ?_⟩
    cases q : h₀.get? s.heap.objs.size with
    | none => rfl
    | some o => exact absurd (Heap.lt_size (F.keep _ _ q)) (Nat.lt_irrefl _)
  · have np := N p hp
    exact ⟨up _ _ np.1, np.2⟩
end
end Mp
end Mine
end Part2
section Part3
open PySem PySem.W PySem.Calls PyProof.Rows
open Builtin Float
namespace Mine
def hexS (m : Nat) : Str := ⟨((Nat.toDigits 16 m).map fun c => c.toNat).toArray⟩
section
variable {prog : Program} {w : World} {A : Around} {E : Value → Shared → Prop} {s : Shared}
theorem ifpos {α : Type} {M : PySem.Model} {c : Prop} {i : Decidable c} {a b : Sem α} {Q : α → Shared → Prop} (hc : c) (h : wpAny M A a Q E s) : wpAny M A (@ite _ c i a b) Q E s := by
  rw [if_pos hc]; exact h
theorem ifneg {α : Type} {M : PySem.Model} {c : Prop} {i : Decidable c} {a b : Sem α} {Q : α → Shared → Prop} (hc : ¬ c) (h : wpAny M A b Q E s) : wpAny M A (@ite _ c i a b) Q E s := by
  rw [if_neg hc]; exact h
def specX : FormatSpec := ⟨32, 62, none, false, false, none, none, none, some 120⟩
theorem hexField (m : Nat) : intField' specX false [] ((Nat.toDigits 16 m).map fun c => c.toNat) [] 4 = hexS m := by
  have hm : (Nat.toDigits 16 m).isEmpty = false := by
    have := tDigits_len_ge 16 m
    cases h : Nat.toDigits 16 m with
    | nil => rw [h] at this; simp at this
    | cons _ _ => rfl
  have hm' : ((Nat.toDigits 16 m).map fun c => c.toNat).isEmpty = false := by simpa using hm
  unfold intField' hexS
  simp only [specX, hm', Bool.false_eq_true, if_false]
  simp
set_option maxHeartbeats 4000000 in
theorem formatField_hexG {m : Nat} {t : Tok} {spec : Str} {Q : Value → Shared → Prop} (hlen : (hexS m).length ≤ sizeLine)
    (hp : parseFormatSpec spec.cps.toList "int" 62 = .ok specX)
    (hne : (spec.length == 0) = false)
    (hasc : ((spec.cps.toList.drop 1).any (· ≥ 128) || (spec.cps.getD 0 0 ≥ 128 && !([60, 62, 61, 94] : List Nat).contains (spec.cps.getD 1 0))) = false)
    (h : ∀ t' k, Q (.str (hexS m) t') { s with toks := k }) (hsz : spec.length ≤ sizeLine) : wpAny (model prog w) A (formatField (.int (Int.ofNat m) t) spec) Q E s := by
  show wpAny _ _ (holding [.int (Int.ofNat m) t] (pyFormat (.int (Int.ofNat m) t) spec)) Q E s
  refine wpAny_holding ?_
  unfold pyFormat
  refine wpAny_bind (wpAny_mkStr ?_ hsz)
  refine wpAny_bind (m := callSpecial? (.int (Int.ofNat m) t) (Str.ofString "__format__") [.str spec s.toks]) (wpAny_callSpecial?_slot (name := Str.ofString "__format__") (typeIs_int _ (Int.ofNat m) t) slot_int_format ?_)
  refine wpAny_call (codeAny_call_builtin slot_int_format.plain entry_int_format (slot_int_format.check _ _ _ _ _ _ _ _ (typeIs_int _ (Int.ofNat m) t) (args_int_format _ _) ?_))
  unfold Builtin.«int.__format__»
  simp only [selfAndOne, noKeywords, Int.intOfSelf, asInt?, asStr?, List.isEmpty_nil, if_true, pure_bind, bind_pure, bind_assoc, hne, hasc, Bool.false_eq_true, if_false,
    show (Value.str spec s.toks == Value.none) = false from rfl]
  refine wpAny_bind (wpAny_typeNameOf (T := "str") (typeIs_str _ _ _) (by decide) fun _ => ?_)
  refine wpAny_bind (wpAny_typeNameOfCut_int ?_)
  simp only [hp]
  simp only [specX, Option.getD_some]
  (refine ifpos ?c ?_; (case c => decide +kernel))
  show wpAny _ _ (retStr _) _ _ _
  have hf := hexField m
  refine KXf.ret_text (T := hexS m) ?e ?hl fun t' k => ?_
  case e =>
    show intField' specX false [] ((Nat.toDigits 16 m).map fun c => c.toNat) [] 4 = hexS m
    exact hf
  case hl =>
    show (intField' specX false [] ((Nat.toDigits 16 m).map fun c => c.toNat) [] 4).length ≤ sizeLine
    rw [hf]
    exact hlen
  dsimp only
  exact wpAny_bind (wpAny_isInstance (typeIs_str _ _ _) isSubtype_str_str (wpAny_pure (h _ _)))
theorem formatField_hex {a : Int} {t : Tok} {spec : Str} {Q : Value → Shared → Prop} (hsp : spec = ⟨#[120]⟩) (h0 : 0 ≤ a) (hlen : (hexS a.toNat).length ≤ sizeLine)
    (h : ∀ t' k, Q (.str (hexS a.toNat) t') { s with toks := k }) : wpAny (model prog w) A (formatField (.int a t) spec) Q E s := by
  obtain ⟨m, rfl⟩ := Int.eq_ofNat_of_zero_le h0
  subst hsp
  exact formatField_hexG (by simpa using hlen) (by kernel_rfl) (by decide) (by decide) (by simpa using h) (by rw [sizeLine_eq]; decide)
end
end Mine
end Part3
section Part4
open PySem PySem.W PySem.Calls PyProof.Rows
namespace Mine
section
variable {prog : Program} {w : World} {A : Around} {E : Value → Shared → Prop} {s : Shared} {K : Frag} {x C L p : Addr} {h₀ : Heap} {m : Str → Option Value} {news : List (Addr × Obj)} {ox od : Obj} {name : Str} {pl : Sem Bool}
theorem findObj_bindN {g a : Value} {od : Option Obj} (hc : isClsIn K C = true) (hh : hasDictIn K C = false) (ha : findIn K (.ref C) name = some (some a)) (hg : specialIn K a "__get__" = some (some g)) (ht : takesIn K a = some false) (hn : copiedNames.contains name = false) :
    findObj K C od name = some (.bind g a) := by
  obtain ⟨cd, hcd⟩ := Option.isSome_iff_exists.mp hc
  have hd : cd.hasDict = false := by
    unfold hasDictIn at hh
    rw [hcd] at hh
    exact hh
  have ho : PySem.W.ownOf cd od name = some none := by
    unfold PySem.W.ownOf
    rw [hd, if_neg (by decide)]
  unfold findObj
  rw [hcd, Option.bind_some, ha, Option.bind_some]
  simp only [hg, ht, Option.bind_some, ho, hn, Bool.false_and, Bool.false_eq_true, if_false]
/-- a class's method, asked of an instance of a class with slots alone -/
theorem meth_cmI {fv : Value} {rest : List Value} {Q : Value × List Value → Shared → Prop} (F : Fr h₀ L s.heap m) (X₀ : K.In h₀) (N : News h₀ L s.heap news) (I : InstAt s.heap x ox C (some od)) (hg : plainGet K C name = true)
    (hc : isClsIn K C = true) (hh : hasDictIn K C = false) (ha : findIn K (.ref C) name = some (some (.ref p))) (ht : typeIn K (.ref p) = some (.type "classmethod")) (hgf : specialIn K (.ref p) "__get__" = some (some (.builtin "classmethod.__get__"))) (hts : takesIn K (.ref p) = some false)
    (hn : copiedNames.contains name = false) (hp : recIn K p "classmethod" = some (fv :: rest))
    (h : ∀ q h', Fr h₀ L h' m → News h₀ L h' ((q, methodObj fv (.ref C)) :: news) → (∀ p ∈ news, p.1 < q) → Q (.ref q, []) { s with heap := h', toks := s.toks + 1 }) : wpAny (model prog w) A (getMethod (.ref x) name pl) Q E s :=
  method_usual (r := some (.ref p)) (X₀.keeps F.keep) I (plainGet_of hg).1 (plainGet_of hg).2 ha (by simp only [Option.all_some, ht, Option.any_some]; decide +kernel)
    (get_bind (X₀.keeps F.keep) I (plainGet_of hg).1 (findObj_bindN hc hh ha hgf hts hn) (plainGet_of hg).2
      (wpAny_call (cm_get (s := { s with toks := s.toks + 1 }) (X₀.keeps F.keep) hp (handed_on rfl (h s.heap.objs.size _ (F.push _) (N.push F _) fun r hr => Heap.lt_size (N r hr).1)))))
/-- a value kept under a slot, asked for in order to be called -/
theorem meth_slotI {i : Nat} {v : Value} {Q : Value × List Value → Shared → Prop} (F : Fr h₀ L s.heap m) (X₀ : K.In h₀) (I : InstAt s.heap x ox C (some od)) (hg : plainGet K C name = true) (hc : isClsIn K C = true)
    (ha : findIn K (.ref C) name = some (some (.ref p))) (hty : typeIn K (.ref p) = some (.type "member_descriptor")) (hn : specialIn K (.ref p) "__get__" = some (some (.builtin "member_descriptor.__get__"))) (ht : takesIn K (.ref p) = some true) (hp : slotIn K p C = some i)
    (hv : (ox.slots[i]?).join = some v) (hh : handedIn v = true) (h : Q (v, []) { s with toks := s.toks + 1 }) : wpAny (model prog w) A (getMethod (.ref x) name pl) Q E s :=
  method_usual (r := some (.ref p)) (X₀.keeps F.keep) I (plainGet_of hg).1 (plainGet_of hg).2 ha (by simp only [Option.all_some, hty, Option.any_some]; decide +kernel)
    (get_slot F X₀ I hg hc ha hn ht hp hv hh h)
/-- a property of a class with slots alone -/
theorem get_propI {expr : Bool} {fget : Addr} {rest : List Value} {Q : Value → Shared → Prop} (F : Fr h₀ L s.heap m) (X₀ : K.In h₀) (I : InstAt s.heap x ox C (some od)) (hg : plainGet K C name = true) (hc : isClsIn K C = true)
    (ha : findIn K (.ref C) name = some (some (.ref p))) (hn : specialIn K (.ref p) "__get__" = some (some (.builtin "property.__get__"))) (ht : takesIn K (.ref p) = some true) (hp : recIn K p "property" = some (.ref fget :: rest))
    (h : codeAny (model prog w) A.in1 (.call (.ref fget) ⟨[.ref x], []⟩) (fun r s' => match r with | .ok (.ret v) => wpAny (model prog w) A (handedOut v) Q E s' | .ok _ => False | .error e => wpAny (model prog w) A (noteIf true (.ref x) (.str name s.toks) e) (fun _ s'' => E e s'') E s') { s with toks := s.toks + 1 }) :
    wpAny (model prog w) A (getAttr (.ref x) name expr) Q E s :=
  get_bind (X₀.keeps F.keep) I (plainGet_of hg).1 (findObj_data hc ha hn ht) (plainGet_of hg).2 (wpAny_call (prop_get (s := { s with toks := s.toks + 1 }) (X₀.keeps F.keep) hp h))
end
end Mine
namespace Mine
section
variable {prog : Program} {w : World} {A : Around} {E : Value → Shared → Prop} {s : Shared} {L : Addr} {h₀ : Heap} {news : List (Addr × Obj)}
/-- an item of a list of ints of the ledger, at a place that lies in it -/
theorem item_at {value slice : Expr} {bl : Addr} {vs : List Value} {n : Nat} {Bs : List Int} {k : Int} {u : Tok} {Q : Value → Shared → Prop} (N : News h₀ L s.heap news) (hm : (bl, listOf vs.toArray n) ∈ news) (hB : ∀ i, i < Bs.length → ∃ t, vs[i]? = some (.int (Bs.getD i 0) t))
    (h0 : 0 ≤ k) (h1 : k < (Bs.length : Int)) (h2 : Bs.length < 2 ^ 62) (h : ∀ t, Q (.int (Bs.getD k.toNat 0) t) s)
    (hs : subscripted slice false (.ref bl) (.int k u) = operate [.ref bl, .int k u] (getItem (.ref bl) (.int k u)) := by with_unfolding_all rfl) :
    wpAny (model prog w) A (subscriptTail value slice (.ref bl) (.int k u)) Q E s := by
  obtain ⟨t, ht⟩ := hB k.toNat (by omega)
  have hl : s.heap.IsList bl vs.toArray := ⟨_, (N _ hm).1, rfl, n, rfl⟩
  exact tail_any hl.typeIs slot_list_getitem.lookup (wpAny_getItem_list hl h0 (by omega) (by simpa using ht) (h t)) hs
end
end Mine
end Part4
section Part5
open PySem PySem.W PySem.Calls PyProof.Rows
namespace Mine
section
variable {w : World} {p : Program} {loose : List Str} {mean : ExcName → Option Value} {mg mb : Str → Option Value} {news : List (Addr × Obj)}
  {dp un : Nat} {gd : Option (List Code)} {cn : Str} {cs : Scope} {a : Addr} {ccd : Value} {cl : List (Str × Addr)} {outer : List Env} {A₀ : Around} {base h₀ : Heap} {L : Addr} {m : Str → Option Value} {s : Shared} {Q E : Value → Shared → Prop}
theorem either_c {x y : Int} {tx ty : Tok} (B : Below A₀ base outer h₀) (F : Fr h₀ L s.heap m) (X : (KP w).In h₀) (N : News h₀ L s.heap news) (T : Top p loose mean mg mb h₀) (hk : cs.kind = .function)
    (hpre : 0 ≤ x ∧ x < 256 ∧ 0 ≤ y ∧ y < 256) (hd : dp + 1 < recursionLimit) (hu : un + 8 < cLine)
    (hret : Back h₀ L m news s Q (fun t => .int ((x.toNat ^^^ y.toNat : Nat) : Int) t)) :
    wpAny (model Prog w) (ktrTop dp un gd cn cs L a ccd cl outer) (call (.ref 340) [.int x tx, .int y ty]) Q E s := by
  dsimp only [Prog, KP, Back] at *
  revert X
  w_top off
  k_fill
  intro X
  refine wpAny_call ?_
  k_dflt cell_enter
  have hst := EitherInv.start hpre
  k_with_none
  k_with "exec While BoolOp cons nil" => k_while_given ["left!", "right!"] (fun x y _ l r t w => EitherInv x y l r t w) (fun _ _ _ l r _ _ => l.toNat + r.toNat) "left" "right" "told" "weight"
  k_with "state" => first | assumption | exact EitherInv.eq (by assumption) (by omega) (by assumption) | exact EitherInv.ne (by assumption) (by omega) (by assumption)
  k_with "measure" => exact EitherInv.less (by assumption) (by omega)
  k_steps
  k_with_none
  all_goals (rename EitherInv _ _ _ _ _ _ => hI; have hq := EitherInv.done hI (by assumption) (by assumption); rw [hq]; exact hret _ _ _ (by k_asm) (by k_asm))
end
end Mine
end Part5
section Part6
open PySem PySem.W PySem.Calls PyProof.Rows
namespace Mine
section
variable {w : World} {p : Program} {loose : List Str} {mean : ExcName → Option Value} {mg mb : Str → Option Value} {news : List (Addr × Obj)}
  {dp un : Nat} {gd : Option (List Code)} {cn : Str} {cs : Scope} {a : Addr} {ccd : Value} {cl : List (Str × Addr)} {outer : List Env} {A₀ : Around} {base h₀ : Heap} {L : Addr} {m : Str → Option Value} {s : Shared} {Q E : Value → Shared → Prop}
local macro_rules | `(tactic| k_memK) => `(tactic| assumption)
local macro_rules | `(tactic| walk_at "none") => `(tactic| fail)
local macro_rules | `(tactic| walk_at "call ref") => `(tactic| (k_here; k_dflt (refine' either_c ?k1 ?k2 ?k3 ?k4 ?k5 ?kK ?kp ?kd ?ku ?_; (case k1 => k_asm); (case k2 => k_asm); (case k3 => k_asm); (case k4 => k_asm); (case k5 => k_asm); (case kK => first | exact rfl | assumption); (case kd => ktr_room); (case ku => ktr_units); (case kp => k_extra "either pre"); (intro t9 h9 tk9 F9 N9; (try dsimp only); (try k_fold)))))
theorem lawfnv64_c {l : Addr} {vs : List Value} {nn : Nat} {ns : List Int} {seed : Int} {t1 t2 t3 t4 : Tok} (B : Below A₀ base outer h₀) (F : Fr h₀ L s.heap m) (X : (KP w).In h₀) (N : News h₀ L s.heap news) (T : Top p loose mean mg mb h₀) (hk : cs.kind = .function)
    (hl : (l, listOf vs.toArray nn) ∈ news) (hi : IntsAre vs ns) (hns : ∀ n ∈ ns, 0 ≤ n ∧ n < 256) (hs : 0 ≤ seed ∧ seed < 2 ^ 62) (hd : dp + 2 < recursionLimit) (hu : un + 16 < cLine)
    (hret : Back h₀ L m news s Q (fun t => .int ((fnvS 14695981039346656037 1099511628211 64 seed.toNat (ns.map Int.toNat) : Nat) : Int) t)) :
    wpAny (model Prog w) (ktrTop dp un gd cn cs L a ccd cl outer) (call (.ref 347) [.ref l, .int seed t1, .int 14695981039346656037 t2, .int 1099511628211 t3, .int 64 t4]) Q E s := by
  dsimp only [Prog, KP, Back] at *
  revert X
  w_top off
  k_fill
  intro X
  refine wpAny_call ?_
  k_dflt cell_enter
  k_with_none
  k_with "pyIter ref" => k_state_given ["value!"] (fun v0 pre v => FnvInv 1099511628211 64 v0 pre v) "value"
  k_with "either pre" => exact FnvInv.pre (by assumption) (by assumption)
  k_with "state" => first | exact FnvInv.first rfl | exact FnvInv.lawNext (by assumption) (by assumption) (by assumption) rfl rfl
  k_steps
  k_with_none
  all_goals (rename FnvInv _ _ _ _ _ => hI; have hq := FnvInv.told (start := 14695981039346656037) hI hs.1 rfl; rw [hq]; exact hret _ _ _ (by k_asm) (by k_asm))
theorem lawfnv32_c {l : Addr} {vs : List Value} {nn : Nat} {ns : List Int} {seed : Int} {t1 t2 t3 t4 : Tok} (B : Below A₀ base outer h₀) (F : Fr h₀ L s.heap m) (X : (KP w).In h₀) (N : News h₀ L s.heap news) (T : Top p loose mean mg mb h₀) (hk : cs.kind = .function)
    (hl : (l, listOf vs.toArray nn) ∈ news) (hi : IntsAre vs ns) (hns : ∀ n ∈ ns, 0 ≤ n ∧ n < 256) (hs : 0 ≤ seed ∧ seed < 2 ^ 62) (hd : dp + 2 < recursionLimit) (hu : un + 16 < cLine)
    (hret : Back h₀ L m news s Q (fun t => .int ((fnvS 2166136261 16777619 32 seed.toNat (ns.map Int.toNat) : Nat) : Int) t)) :
    wpAny (model Prog w) (ktrTop dp un gd cn cs L a ccd cl outer) (call (.ref 347) [.ref l, .int seed t1, .int 2166136261 t2, .int 16777619 t3, .int 32 t4]) Q E s := by
  dsimp only [Prog, KP, Back] at *
  revert X
  w_top off
  k_fill
  intro X
  refine wpAny_call ?_
  k_dflt cell_enter
  k_with_none
  k_with "pyIter ref" => k_state_given ["value!"] (fun v0 pre v => FnvInv 16777619 32 v0 pre v) "value"
  k_with "either pre" => exact FnvInv.pre (by assumption) (by assumption)
  k_with "state" => first | exact FnvInv.first rfl | exact FnvInv.lawNext (by assumption) (by assumption) (by assumption) rfl rfl
  k_steps
  k_with_none
  all_goals (rename FnvInv _ _ _ _ _ => hI; have hq := FnvInv.told (start := 2166136261) hI hs.1 rfl; rw [hq]; exact hret _ _ _ (by k_asm) (by k_asm))
end
end Mine
end Part6
section Part7
open PySem PySem.W PySem.Calls PyProof.Rows
namespace Mine
section
variable {w : World} {p : Program} {loose : List Str} {mean : ExcName → Option Value} {mg mb : Str → Option Value} {news : List (Addr × Obj)}
  {dp un : Nat} {gd : Option (List Code)} {cn : Str} {cs : Scope} {a : Addr} {ccd : Value} {cl : List (Str × Addr)} {outer : List Env} {A₀ : Around} {base h₀ : Heap} {L : Addr} {m : Str → Option Value} {s : Shared} {Q E : Value → Shared → Prop}
local macro_rules | `(tactic| cell_enter) => `(tactic| (refine' code_def ?k1 ?k2 ?k3 ?k4 ?k5 ?kA ?kF ?kK ?k6 ?k7 ?k8 ?k9 ?kB ?_ ?c2 ?c3 ?c4 ?c5; (case kA => exact rfl); (case kF => exact rfl); (case kK => assumption); (case k1 => k_asm); (case k2 => k_asm); (case k3 => k_asm); (case k4 => k_asm); (case k5 => k_asm); (case k6 => k_is); (case k7 => k_is); (case k8 => ktr_room); (case k9 => first | exact BindsTo.of_eq rfl | exact binds_K (by k_in) rfl (by k_is) rfl rfl rfl); (case c5 => decide); (case kB => exact locs rfl); (case c2 => exact rfl); (case c3 => exact rfl); (case c4 => exact rfl); k_whole; intro g' L' h' FG' F' N' B' X' T'; (try dsimp only); (try k_lift B'); (try k_fold)))
local macro_rules | `(tactic| k_memK) => `(tactic| first | assumption | exact List.Mem.head _)
local macro_rules | `(tactic| walk_at "none") => `(tactic| fail)
local macro_rules | `(tactic| walk_at "none") => `(tactic| fail)
local macro_rules | `(tactic| walk_at "none") => `(tactic| fail)
local macro_rules | `(tactic| walk_at "call type:map") => `(tactic| (k_here; k_dflt (refine' Mp.call_map ?k1 ?k2 ?_; (case k1 => k_asm); (case k2 => k_asm); k_whole); intro I' T' M' h' F' N' l1 l2 l3))
local macro_rules | `(tactic| walk_at "call type:list") => `(tactic| (k_here; (with_reducible show wpAny _ _ (call (Value.type "list") [Value.ref _]) _ _ _); k_dflt (refine' Mp.list_map ?k0 ?k1 ?k2 ?k3 ?k4 ?k5 ?k6 ?_; (case k0 => exact rfl); (case k1 => k_asm); (case k2 => k_asm); (case k3 => assumption); (case k4 => assumption); (case k5 => assumption); (case k6 => (rw [sizeLine_eq]; omega)); k_whole); intro l' vs' n' h' tk' F' N' hI' l1))
local macro_rules | `(tactic| walk_at "call type:list") => `(tactic| (k_here; (with_reducible show wpAny _ _ (call (Value.type "list") [Value.bytes _ _]) _ _ _); k_dflt (refine' Mp.list_bytes ?k0 ?k1 ?k2 ?k6 ?_; (case k0 => exact rfl); (case k1 => k_asm); (case k2 => k_asm); (case k6 => (rw [sizeLine_eq]; omega)); k_whole); intro l' vs' n' h' tk' F' N' hI' l1))
theorem fnvS_c {x : Str} {t1 : Tok} {seed : Int} {t2 : Tok} (B : Below A₀ base outer h₀) (F : Fr h₀ L s.heap m) (X : (KP w).In h₀) (N : News h₀ L s.heap news) (T : Top p loose mean mg mb h₀) (hk : cs.kind = .function)
    (hx : x.cps.size ≤ 1000) (hc : ∀ c ∈ x.cps.toList, c < 256) (hs : 0 ≤ seed ∧ seed < 2 ^ 62) (hd : dp + 1 < recursionLimit) (hu : un + 8 < cLine)
    (hret : Back h₀ L m news s Q (fun t => .int ((fnvS 14695981039346656037 1099511628211 64 seed.toNat x.cps.toList : Nat) : Int) t)) :
    wpAny (model Prog w) (ktrTop dp un gd cn cs L a ccd cl outer) (call (.ref 44) [.str x t1, .int seed t2]) Q E s := by
  dsimp only [Prog, KP, Back] at *
  revert X
  w_top off
  k_fill
  intro X
  refine wpAny_call ?_
  k_dflt cell_enter
  k_with_none
  k_with "pyIter ref" => k_state_given ["hval!"] (fun v0 pre v => FnvInv 1099511628211 64 v0 pre v) "hval"
  k_with "state" => first | exact FnvInv.codeFirst rfl | exact FnvInv.codeNext (by assumption) (by assumption) rfl rfl
  k_steps
  k_with_none
  all_goals (rename FnvInv _ _ _ _ _ => hI; have hq := FnvInv.codeTold (start := 14695981039346656037) hI hs.1 rfl; rw [hq]; exact hret _ _ _ (by k_asm) (by first | k_asm | exact cb_drop (by assumption) (by intro q9 hq9; exact List.mem_cons_of_mem _ hq9)))
theorem fnvB_c {x : Array UInt8} {t1 : Tok} {seed : Int} {t2 : Tok} (B : Below A₀ base outer h₀) (F : Fr h₀ L s.heap m) (X : (KP w).In h₀) (N : News h₀ L s.heap news) (T : Top p loose mean mg mb h₀) (hk : cs.kind = .function)
    (hx : x.size ≤ 1000) (hs : 0 ≤ seed ∧ seed < 2 ^ 62) (hd : dp + 1 < recursionLimit) (hu : un + 8 < cLine)
    (hret : Back h₀ L m news s Q (fun t => .int ((fnvS 14695981039346656037 1099511628211 64 seed.toNat (x.toList.map UInt8.toNat) : Nat) : Int) t)) :
    wpAny (model Prog w) (ktrTop dp un gd cn cs L a ccd cl outer) (call (.ref 44) [.bytes x t1, .int seed t2]) Q E s := by
  dsimp only [Prog, KP, Back] at *
  revert X
  w_top off
  k_fill
  intro X
  have hc : ∀ c ∈ x.toList.map UInt8.toNat, c < 256 := fun c hm => by
    obtain ⟨d, _, rfl⟩ := List.mem_map.mp hm
    exact d.toNat_lt
  refine wpAny_call ?_
  k_dflt cell_enter
  k_with_none
  k_with "pyIter ref" => k_state_given ["hval!"] (fun v0 pre v => FnvInv 1099511628211 64 v0 pre v) "hval"
  k_with "state" => first | exact FnvInv.codeFirst rfl | exact FnvInv.codeNext (by assumption) (by assumption) rfl rfl
  k_steps
  k_with_none
  all_goals (rename FnvInv _ _ _ _ _ => hI; have hq := FnvInv.codeTold (start := 14695981039346656037) hI hs.1 rfl; rw [hq]; exact hret _ _ _ (by k_asm) (by first | k_asm | exact cb_drop (by assumption) (by intro q9 hq9; exact List.mem_cons_of_mem _ hq9)))
theorem fnvS32_c {x : Str} {t1 : Tok}  (B : Below A₀ base outer h₀) (F : Fr h₀ L s.heap m) (X : (KP w).In h₀) (N : News h₀ L s.heap news) (T : Top p loose mean mg mb h₀) (hk : cs.kind = .function)
    (hx : x.cps.size ≤ 1000) (hc : ∀ c ∈ x.cps.toList, c < 256)  (hd : dp + 1 < recursionLimit) (hu : un + 8 < cLine)
    (hret : Back h₀ L m news s Q (fun t => .int ((fnvS 2166136261 16777619 32 0 x.cps.toList : Nat) : Int) t)) :
    wpAny (model Prog w) (ktrTop dp un gd cn cs L a ccd cl outer) (call (.ref 52) [.str x t1]) Q E s := by
  dsimp only [Prog, KP, Back] at *
  revert X
  w_top off
  k_fill
  intro X
  have hs : (0 : Int) ≤ 0 ∧ (0 : Int) < 2 ^ 62 := by decide
  refine wpAny_call ?_
  k_dflt cell_enter
  k_with_none
  k_with "pyIter ref" => k_state_given ["hval!"] (fun v0 pre v => FnvInv 16777619 32 v0 pre v) "hval"
  k_with "state" => first | exact FnvInv.codeFirst rfl | exact FnvInv.codeNext (by assumption) (by assumption) rfl rfl
  k_steps
  k_with_none
  all_goals (rename FnvInv _ _ _ _ _ => hI; have hq := FnvInv.codeTold (start := 2166136261) hI hs.1 rfl; rw [hq]; exact hret _ _ _ (by k_asm) (by first | k_asm | exact cb_drop (by assumption) (by intro q9 hq9; exact List.mem_cons_of_mem _ hq9)))
theorem fnvB32_c {x : Array UInt8} {t1 : Tok} {seed : Int} {t2 : Tok} (B : Below A₀ base outer h₀) (F : Fr h₀ L s.heap m) (X : (KP w).In h₀) (N : News h₀ L s.heap news) (T : Top p loose mean mg mb h₀) (hk : cs.kind = .function)
    (hx : x.size ≤ 1000) (hs : 0 ≤ seed ∧ seed < 2 ^ 62) (hd : dp + 1 < recursionLimit) (hu : un + 8 < cLine)
    (hret : Back h₀ L m news s Q (fun t => .int ((fnvS 2166136261 16777619 32 seed.toNat (x.toList.map UInt8.toNat) : Nat) : Int) t)) :
    wpAny (model Prog w) (ktrTop dp un gd cn cs L a ccd cl outer) (call (.ref 52) [.bytes x t1, .int seed t2]) Q E s := by
  dsimp only [Prog, KP, Back] at *
  revert X
  w_top off
  k_fill
  intro X
  have hc : ∀ c ∈ x.toList.map UInt8.toNat, c < 256 := fun c hm => by
    obtain ⟨d, _, rfl⟩ := List.mem_map.mp hm
    exact d.toNat_lt
  refine wpAny_call ?_
  k_dflt cell_enter
  k_with_none
  k_with "pyIter ref" => k_state_given ["hval!"] (fun v0 pre v => FnvInv 16777619 32 v0 pre v) "hval"
  k_with "state" => first | exact FnvInv.codeFirst rfl | exact FnvInv.codeNext (by assumption) (by assumption) rfl rfl
  k_steps
  k_with_none
  all_goals (rename FnvInv _ _ _ _ _ => hI; have hq := FnvInv.codeTold (start := 2166136261) hI hs.1 rfl; rw [hq]; exact hret _ _ _ (by k_asm) (by first | k_asm | exact cb_drop (by assumption) (by intro q9 hq9; exact List.mem_cons_of_mem _ hq9)))
theorem fnvS32s_c {x : Str} {t1 : Tok} {seed : Int} {t2 : Tok} (B : Below A₀ base outer h₀) (F : Fr h₀ L s.heap m) (X : (KP w).In h₀) (N : News h₀ L s.heap news) (T : Top p loose mean mg mb h₀) (hk : cs.kind = .function)
    (hx : x.cps.size ≤ 1000) (hc : ∀ c ∈ x.cps.toList, c < 256) (hs : 0 ≤ seed ∧ seed < 2 ^ 62) (hd : dp + 1 < recursionLimit) (hu : un + 8 < cLine)
    (hret : Back h₀ L m news s Q (fun t => .int ((fnvS 2166136261 16777619 32 seed.toNat x.cps.toList : Nat) : Int) t)) :
    wpAny (model Prog w) (ktrTop dp un gd cn cs L a ccd cl outer) (call (.ref 52) [.str x t1, .int seed t2]) Q E s := by
  dsimp only [Prog, KP, Back] at *
  revert X
  w_top off
  k_fill
  intro X
  refine wpAny_call ?_
  k_dflt cell_enter
  k_with_none
  k_with "pyIter ref" => k_state_given ["hval!"] (fun v0 pre v => FnvInv 16777619 32 v0 pre v) "hval"
  k_with "state" => first | exact FnvInv.codeFirst rfl | exact FnvInv.codeNext (by assumption) (by assumption) rfl rfl
  k_steps
  k_with_none
  all_goals (rename FnvInv _ _ _ _ _ => hI; have hq := FnvInv.codeTold (start := 2166136261) hI hs.1 rfl; rw [hq]; exact hret _ _ _ (by k_asm) (by first | k_asm | exact cb_drop (by assumption) (by intro q9 hq9; exact List.mem_cons_of_mem _ hq9)))
end
end Mine
end Part7
section Part8
open PySem PySem.W PySem.Calls PyProof.Rows
namespace Mine
section
variable {w : World} {p : Program} {loose : List Str} {mean : ExcName → Option Value} {mg mb : Str → Option Value} {news : List (Addr × Obj)}
  {dp un : Nat} {gd : Option (List Code)} {cn : Str} {cs : Scope} {a : Addr} {ccd : Value} {cl : List (Str × Addr)} {outer : List Env} {A₀ : Around} {base h₀ : Heap} {L : Addr} {m : Str → Option Value} {s : Shared} {Q E : Value → Shared → Prop}
local macro_rules | `(tactic| cell_enter) => `(tactic| (refine' code_def ?k1 ?k2 ?k3 ?k4 ?k5 ?kA ?kF ?kK ?k6 ?k7 ?k8 ?k9 ?kB ?_ ?c2 ?c3 ?c4 ?c5; (case kA => exact rfl); (case kF => exact rfl); (case kK => assumption); (case k1 => k_asm); (case k2 => k_asm); (case k3 => k_asm); (case k4 => k_asm); (case k5 => k_asm); (case k6 => k_is); (case k7 => k_is); (case k8 => ktr_room); (case k9 => first | exact BindsTo.of_eq rfl | exact binds_K (by k_in) rfl (by k_is) rfl rfl rfl); (case c5 => decide); (case kB => exact locs rfl); (case c2 => exact rfl); (case c3 => exact rfl); (case c4 => exact rfl); k_whole; intro g' L' h' FG' F' N' B' X' T'; (try dsimp only); (try k_lift B'); (try k_fold)))
local macro_rules | `(tactic| k_memK) => `(tactic| first | assumption | exact List.Mem.head _)
local macro_rules | `(tactic| walk_at "none") => `(tactic| fail)
local macro_rules | `(tactic| walk_at "none") => `(tactic| fail)
local macro_rules | `(tactic| walk_at "none") => `(tactic| fail)
local macro_rules | `(tactic| walk_at "none") => `(tactic| fail)
local macro_rules | `(tactic| walk_at "none") => `(tactic| fail)
local macro_rules | `(tactic| walk_at "none") => `(tactic| fail)
local macro_rules | `(tactic| walk_at "none") => `(tactic| fail)
local macro_rules | `(tactic| walk_at "call ref") => `(tactic| (k_here; k_dflt (first | (refine' fnvS_c ?k1 ?k2 ?k3 ?k4 ?k5 ?kK ?kx ?kc ?kp ?kd ?ku ?_; (case kx => assumption); (case kc => assumption)) | (refine' fnvB_c ?k1 ?k2 ?k3 ?k4 ?k5 ?kK ?kx ?kp ?kd ?ku ?_; (case kx => assumption))); (case k1 => k_asm); (case k2 => k_asm); (case k3 => k_asm); (case k4 => k_asm); (case k5 => k_asm); (case kK => first | exact rfl | assumption); (case kd => ktr_room); (case ku => ktr_units); (case kp => omega); (intro t9 h9 tk9 F9 N9; (try dsimp only); (try k_fold))))
theorem defaultS_c {x : Str} {t1 t2 : Tok} {depth : Int} (B : Below A₀ base outer h₀) (F : Fr h₀ L s.heap m) (X : (KP w).In h₀) (N : News h₀ L s.heap news) (T : Top p loose mean mg mb h₀) (hk : cs.kind = .function)
    (hx : x.cps.size ≤ 1000) (hc : ∀ c ∈ x.cps.toList, c < 256) (hs : 0 ≤ depth ∧ depth ≤ 1000) (hd : dp + 2 < recursionLimit) (hu : un + 16 < cLine)
    (hret : BackL h₀ L m news s Q (hashesL x.cps.toList depth.toNat)) :
    wpAny (model Prog w) (ktrTop dp un gd cn cs L a ccd cl outer) (call (.ref 36) [.str x t1, .int depth t2]) Q E s := by
  dsimp only [Prog, KP, BackL] at *
  revert X
  w_top off
  k_fill
  intro X
  refine wpAny_call ?_
  k_dflt cell_enter
  have hIz := IntsAre.nil
  k_with_none
  k_with "pyIter ref" => k_state (fun pre res => res.length = pre.length ∧ HashInv x.cps.toList pre res) "res"
  k_with "state" => (refine And.intro ?_ ?_ <;> first | exact HashInv.zero | exact rfl | (simp only [List.length_append, List.length_cons, List.length_nil]; omega) | exact HashInv.next (by assumption) (by assumption))
  k_steps
  have hIz := IntsAre.nil
  k_with_none
  all_goals (rename HashInv _ _ _ => hI; have hJ := kFacts; (try dsimp only at hJ); rw [hI.eq, rangeKs_length, Int.sub_zero] at hJ; exact hret _ _ _ _ _ (by k_asm) (by k_asm) hJ (by assumption))
theorem defaultB_c {x : Array UInt8} {t1 t2 : Tok} {depth : Int} (B : Below A₀ base outer h₀) (F : Fr h₀ L s.heap m) (X : (KP w).In h₀) (N : News h₀ L s.heap news) (T : Top p loose mean mg mb h₀) (hk : cs.kind = .function)
    (hx : x.size ≤ 1000) (hs : 0 ≤ depth ∧ depth ≤ 1000) (hd : dp + 2 < recursionLimit) (hu : un + 16 < cLine)
    (hret : BackL h₀ L m news s Q (hashesL (x.toList.map UInt8.toNat) depth.toNat)) :
    wpAny (model Prog w) (ktrTop dp un gd cn cs L a ccd cl outer) (call (.ref 36) [.bytes x t1, .int depth t2]) Q E s := by
  dsimp only [Prog, KP, BackL] at *
  revert X
  w_top off
  k_fill
  intro X
  refine wpAny_call ?_
  k_dflt cell_enter
  have hIz := IntsAre.nil
  k_with_none
  k_with "pyIter ref" => k_state (fun pre res => res.length = pre.length ∧ HashInv (x.toList.map UInt8.toNat) pre res) "res"
  k_with "state" => (refine And.intro ?_ ?_ <;> first | exact HashInv.zero | exact rfl | (simp only [List.length_append, List.length_cons, List.length_nil]; omega) | exact HashInv.next (by assumption) (by assumption))
  k_steps
  have hIz := IntsAre.nil
  k_with_none
  all_goals (rename HashInv _ _ _ => hI; have hJ := kFacts; (try dsimp only at hJ); rw [hI.eq, rangeKs_length, Int.sub_zero] at hJ; exact hret _ _ _ _ _ (by k_asm) (by k_asm) hJ (by assumption))
end
end Mine
end Part8
section Part9
open PySem PySem.W PySem.Calls PyProof.Rows
namespace Mine
section
variable {w : World} {p : Program} {loose : List Str} {mean : ExcName → Option Value} {mg mb : Str → Option Value} {news : List (Addr × Obj)}
  {dp un : Nat} {gd : Option (List Code)} {cn : Str} {cs : Scope} {a : Addr} {ccd : Value} {cl : List (Str × Addr)} {outer : List Env} {A₀ : Around} {base h₀ : Heap} {L : Addr} {m : Str → Option Value} {s : Shared} {Q E : Value → Shared → Prop}
theorem small_c {v : Int} {tv : Tok} (B : Below A₀ base outer h₀) (F : Fr h₀ L s.heap m) (X : (KP w).In h₀) (N : News h₀ L s.heap news) (T : Top p loose mean mg mb h₀) (hk : cs.kind = .function)
    (hpre : 0 ≤ v ∧ v < 2 ^ 64) (hd : dp + 1 < recursionLimit) (hu : un + 8 < cLine)
    (hret : Back h₀ L m news s Q (fun t => .str ⟨(smallL v.toNat).toArray⟩ t)) :
    wpAny (model Prog w) (ktrTop dp un gd cn cs L a ccd cl outer) (call (.ref 354) [.int v tv]) Q E s := by
  dsimp only [Prog, KP, Back] at *
  revert X
  w_top off
  k_fill
  intro X
  refine wpAny_call ?_
  k_dflt cell_enter
  have hIz := IntsAre.nil
  k_with_none
  k_with "exec While Compare cons nil" => k_while_given ["value!"] (fun v0 _ v told => 0 ≤ v ∧ v ≤ v0 ∧ told.length ≤ 16 ∧ SmallInv v0 v told) (fun _ _ v _ => v.toNat) "value" "told"
  k_with "state" => first | exact SmallInv.first (by assumption) | exact SmallInv.turn (by assumption) (by assumption)
  k_with "measure" => exact SmallInv.less (by assumption)
  k_steps
  k_with_none
  all_goals (rename SmallInv _ _ _ => hI; first
    | (have hq := hI.done1 (by assumption) (by assumption); rw [hq]; exact hret _ _ _ (by k_asm) (by k_asm))
    | (have hq := hI.done2 (by assumption) (by assumption); rw [hq]; exact hret _ _ _ (by k_asm) (by k_asm)))
end
end Mine
end Part9
section Part10
open PySem PySem.W PySem.Calls PyProof.Rows
namespace Mine
section
variable {w : World} {p : Program} {loose : List Str} {mean : ExcName → Option Value} {mg mb : Str → Option Value} {news : List (Addr × Obj)}
  {dp un : Nat} {gd : Option (List Code)} {cn : Str} {cs : Scope} {a : Addr} {ccd : Value} {cl : List (Str × Addr)} {outer : List Env} {A₀ : Around} {base h₀ : Heap} {L : Addr} {m : Str → Option Value} {s : Shared} {Q E : Value → Shared → Prop}
local macro_rules | `(tactic| cell_enter) => `(tactic| (refine' code_defC ?k1 ?k2 ?k3 ?k4 ?k5 ?kA ?kF ?kK ?k6 ?k7 ?k8 ?k9 ?kB ?kD ?_ ?c2 ?c3 ?c4; (case kA => exact rfl); (case kF => exact rfl); (case kK => assumption); (case k1 => k_asm); (case k2 => k_asm); (case k3 => k_asm); (case k4 => k_asm); (case k5 => k_asm); (case k6 => k_is); (case k7 => k_is); (case k8 => ktr_room); (case k9 => first | exact BindsTo.of_eq rfl | exact binds_K (by k_in) rfl (by k_is) rfl rfl rfl); (case kB => exact rfl); (case kD => decide +kernel); (case c2 => exact rfl); (case c3 => exact rfl); (case c4 => exact rfl); k_whole; intro g' L' h' tk' cells' FG' F' N' Y' B' X' T' l1; (try k_lt l1); k_cells Y'; (try simp only [List.cons_append, List.nil_append] at N'); (try dsimp only); (try k_lift B'); (try k_fold)))
theorem simple_c {x : Str} {depth : Int} {t1 t2 : Tok} (B : Below A₀ base outer h₀) (F : Fr h₀ L s.heap m) (X : (KP w).In h₀) (N : News h₀ L s.heap news) (T : Top p loose mean mg mb h₀) (hk : cs.kind = .function)
    (hx : x.cps.size ≤ 100) (hd : dp + 1 < recursionLimit) (hu : un + 8 < cLine)
    (hret : Back h₀ L m news s Q (fun t => .int (simpleRaw x * 977 + depth) t)) :
    wpAny (model Prog w) (ktrTop dp un gd cn cs L a ccd cl outer) (call (.ref 359) [.str x t1, .int depth t2]) Q E s := by
  dsimp only [Prog, KP, Back] at *
  revert X
  w_top off
  k_fill
  intro X
  refine wpAny_call ?_
  k_dflt cell_enter
  have hIz := IntsAre.nil
  have hxl : x.length ≤ 100 := hx
  k_with_none
  k_steps
  k_with_none
  all_goals exact hret _ _ _ (by k_asm) (by first | k_asm | exact cb_drop (by assumption) (by intro q9 hq9; exact List.mem_cons_of_mem _ (List.mem_cons_of_mem _ hq9)))
end
end Mine
end Part10
section Part11
open PySem PySem.W PySem.Calls PyProof.Rows
namespace Mine
/-- an instance of the filter: its slots in the order of their names -/
abbrev bloomObj (d bl : Addr) (blen els est fpr nb nh : Int) (t0 t1 t2 t3 t4 t5 t6 t7 : Tok) : Obj :=
  { cls := .ref 319, dict := some d, data := .plain, slots := #[none, some (.ref bl), some (.int blen t0), some (.int els t1), some (.int est t2), some (.int fpr t3), some (.ref 36), some (.int nb t4), some (.int nh t5), some (.bool false), some (.str (Str.ofString "regular") t6), some (.str (Str.ofString "B") t7)] }
section
variable {w : World} {p : Program} {loose : List Str} {mean : ExcName → Option Value} {mg mb : Str → Option Value} {news : List (Addr × Obj)}
  {dp un : Nat} {gd : Option (List Code)} {cn : Str} {cs : Scope} {a : Addr} {ccd : Value} {cl : List (Str × Addr)} {outer : List Env} {A₀ : Around} {base h₀ : Heap} {L : Addr} {m : Str → Option Value} {s : Shared} {Q E : Value → Shared → Prop}
local macro_rules | `(tactic| k_enter) => `(tactic| first
  | (refine' code_def ?k1 ?k2 ?k3 ?k4 ?k5 ?kA ?kF ?kK ?k6 ?k7 ?k8 ?k9 ?kB ?_ ?c2 ?c3 ?c4 ?c5; (case kA => exact rfl); (case kF => exact rfl); (case kK => first | exact rfl | assumption); (case k1 => k_asm); (case k2 => k_asm); (case k3 => k_asm); (case k4 => k_asm); (case k5 => k_asm); (case k6 => k_is); (case k7 => k_is); (case k8 => first | k_room | ktr_room); (case k9 => first | exact BindsTo.of_eq rfl | exact binds_K (by k_in) rfl (by k_is) rfl rfl rfl | fail "k_enter: no rule for these arguments"); (case c5 => decide); (case kB => exact locs rfl); (case c2 => exact rfl); (case c3 => exact rfl); (case c4 => exact rfl); k_whole; intro g' L' h' FG' F' N' B' X' T'; (try dsimp only); (try k_lift B'); (try k_fold)))
local macro_rules | `(tactic| k_all) => `(tactic| (intro p9 hp9; (repeat (rename (∀ q ∈ (_ : List (Addr × Obj)), q.1 < _) => hl9; have hl8 := ltN (hl9 p9 hp9); clear hl9)); refine neN ?_; omega))
local macro_rules | `(tactic| walk_at "none") => `(tactic| fail)
local macro_rules | `(tactic| walk_at "none") => `(tactic| fail)
local macro_rules | `(tactic| walk_at "none") => `(tactic| fail)
local macro_rules | `(tactic| walk_at "none") => `(tactic| fail)
local macro_rules | `(tactic| walk_at "none") => `(tactic| fail)
local macro_rules | `(tactic| walk_at "none") => `(tactic| fail)
local macro_rules | `(tactic| walk_at "none") => `(tactic| fail)
local macro_rules | `(tactic| walk_at "none") => `(tactic| fail)
local macro_rules | `(tactic| walk_at "none") => `(tactic| fail)
local macro_rules | `(tactic| walk_at "getMethod ref") => `(tactic| (k_here; k_dflt (first
  | (refine' meth_cmI ?k1 ?k2 ?k3 ?k4 ?k5 ?k6 ?k7 ?k8 ?k9 ?k10 ?k11 ?k12 ?k13 ?_; (case k1 => k_asm); (case k2 => k_asm); (case k3 => k_asm); (case k4 => k_inst); (case k5 => k_is); (case k6 => k_is); (case k7 => k_is); (case k8 => k_is); (case k9 => k_is); (case k10 => k_is); (case k11 => k_is); (case k12 => decide +kernel); (case k13 => k_is); k_whole; intro q' h' F' N' l1; (try k_lt l1); (try k_sweep))
  | (refine' meth_slotI ?k1 ?k2 ?k3 ?k4 ?k5 ?k6 ?k7 ?k8 ?k9 ?k10 ?k11 ?k12 ?_; (case k1 => k_asm); (case k2 => k_asm); (case k3 => k_inst); (case k4 => k_is); (case k5 => k_is); (case k6 => k_is); (case k7 => k_is); (case k8 => k_is); (case k9 => k_is); (case k10 => k_is); (case k11 => k_slotget); (case k12 => k_handed); k_whole))))
theorem pow_10_16 {prog : Program} {A : Around} {t u : Tok} (h : Q (.int 10000000000000000 s.toks) { s with toks := s.toks + 1 }) : wpAny (model prog w) A (binaryOp .Pow (.int 10 t) (.int 16 u)) Q E s :=
  pow_int_small (by decide) (by decide) (by decide) h
local macro_rules | `(tactic| walk_at "binaryOp Pow int int") => `(tactic| (k_here; refine pow_10_16 ?_))
theorem fdiv_est {prog : Program} {A : Around} {f e : Int} {t u : Tok} (he : 1 ≤ e ∧ e ≤ 10) (hf : 12 ≤ f ∧ f ≤ 28)
    (h : ∀ q : Int, 16635532333438687 ≤ q → q ≤ 388162421113569368 → q = (13862943611198906 * f).fdiv e → Q (.int q s.toks) { s with toks := s.toks + 1 }) :
    wpAny (model prog w) A (binaryOp .FloorDiv (.int (13862943611198906 * f) t) (.int e u)) Q E s := by
  have b : 16635532333438687 ≤ (13862943611198906 * f).fdiv e ∧ (13862943611198906 * f).fdiv e ≤ 388162421113569368 := by
    rw [Int.fdiv_eq_ediv_of_nonneg _ (by omega)]
    refine ⟨Int.le_ediv_of_mul_le (by omega) (by omega), ?_⟩
    refine Int.le_trans (Int.ediv_le_self _ (by omega)) (by omega)
  refine floordiv_int (by omega) (h _ b.1 b.2 rfl) (Or.inl (PyProof.noPylong_of_log2 ?_))
  exact Nat.lt_of_le_of_lt (Nat.log2_le_self _) (by omega)
theorem fdiv_nh {prog : Program} {A : Around} {q : Int} {t u : Tok} (h1 : 16635532333438687 ≤ q) (h2 : q ≤ 388162421113569368)
    (h : ∀ n : Int, 1 ≤ n → n ≤ 20 → n = (q + 10000000000000000).fdiv 20000000000000000 → Q (.int n s.toks) { s with toks := s.toks + 1 }) :
    wpAny (model prog w) A (binaryOp .FloorDiv (.int (q + 10000000000000000) t) (.int (2 * 10000000000000000) u)) Q E s := by
  have e : (2 * 10000000000000000 : Int) = 20000000000000000 := by decide
  have b : 1 ≤ (q + 10000000000000000).fdiv 20000000000000000 ∧ (q + 10000000000000000).fdiv 20000000000000000 ≤ 20 := by
    rw [Int.fdiv_eq_ediv_of_nonneg _ (by omega)]
    omega
  rw [e]
  refine floordiv_int (by omega) (h _ b.1 b.2 rfl) (Or.inl (PyProof.noPylong_of_log2 ?_))
  decide +kernel
local macro_rules | `(tactic| walk_at "binaryOp FloorDiv int int") => `(tactic| (k_here; first | (refine fdiv_est (by assumption) (by assumption) ?_; intro q8 hq8 hq9 hq7) | (refine fdiv_nh (by assumption) (by assumption) ?_; intro n8 hn8 hn9 hn7)))
theorem bloom_c {est fpr : Int} {t1 t2 : Tok} (B : Below A₀ base outer h₀) (F : Fr h₀ L s.heap m) (X : (KP w).In h₀) (N : News h₀ L s.heap news) (T : Top p loose mean mg mb h₀) (hk : cs.kind = .function)
    (he : 1 ≤ est ∧ est ≤ 10) (hf : 12 ≤ fpr ∧ fpr ≤ 28) (hd : dp + 5 < recursionLimit) (hu : un + 40 < cLine)
    (hret : ∀ (x d bl : Addr) (blen nh : Int) (u0 u1 u2 u3 u4 u5 u6 u7 : Tok) (vs : List Value) (n : Nat) (h' : Heap) (tk' : Nat), Fr h₀ L h' m → News h₀ L h' ((bl, listOf vs.toArray n) :: (x, bloomObj d bl blen 0 est fpr fpr nh u0 u1 u2 u3 u4 u5 u6 u7) :: (d, dictOf [] 0) :: news) →
      IntsAre vs (List.replicate (-(-fpr).fdiv 8).toNat (0 : Int)) → 1 ≤ nh ∧ nh ≤ 20 → (∀ p ∈ news, p.1 < d) → @LT.lt Nat _ d x → @LT.lt Nat _ x bl → Q (.ref x) { s with heap := h', toks := tk' }) :
    wpAny (model Prog w) (ktrTop dp un gd cn cs L a ccd cl outer) (call (.ref 319) [.int est t1, .int fpr t2]) Q E s := by
  dsimp only [Prog, KP] at *
  revert X
  w_top off
  k_fill
  intro X
  have hIz := IntsAre.nil
  k_with_none
  k_steps
  all_goals first
    | (exfalso; omega)
    | (rename News h₀ L _ _ => hN; refine' hret _ _ _ _ _ _ _ _ _ _ _ _ _ _ _ _ _ (by k_asm) (cb_drop hN ?m1) ?m2 ?m3 ?m4 ?m5 ?m6
       case m1 => kcf_all
       case m2 => exact zeros_are _ _
       case m3 => exact ⟨by assumption, by assumption⟩
       case m4 => assumption
       case m5 => omega
       case m6 => omega)
end
end Mine
end Part11
section Part12
open PySem PySem.W PySem.Calls PyProof.Rows
namespace Mine
section
variable {w : World} {p : Program} {loose : List Str} {mean : ExcName → Option Value} {mg mb : Str → Option Value} {news : List (Addr × Obj)}
  {dp un : Nat} {gd : Option (List Code)} {cn : Str} {cs : Scope} {a : Addr} {ccd : Value} {cl : List (Str × Addr)} {outer : List Env} {A₀ : Around} {base h₀ : Heap} {L : Addr} {m : Str → Option Value} {s : Shared} {Q E : Value → Shared → Prop}
local macro_rules | `(tactic| k_memK) => `(tactic| first | assumption | exact List.Mem.head _)
local macro_rules | `(tactic| walk_at "none") => `(tactic| fail)
local macro_rules | `(tactic| walk_at "none") => `(tactic| fail)
local macro_rules | `(tactic| walk_at "none") => `(tactic| fail)
local macro_rules | `(tactic| walk_at "none") => `(tactic| fail)
local macro_rules | `(tactic| walk_at "none") => `(tactic| fail)
local macro_rules | `(tactic| walk_at "none") => `(tactic| fail)
local macro_rules | `(tactic| walk_at "none") => `(tactic| fail)
local macro_rules | `(tactic| walk_at "none") => `(tactic| fail)
local macro_rules | `(tactic| walk_at "none") => `(tactic| fail)
local macro_rules | `(tactic| walk_at "none") => `(tactic| fail)
local macro_rules | `(tactic| walk_at "none") => `(tactic| fail)
local macro_rules | `(tactic| walk_at "none") => `(tactic| fail)
local macro_rules | `(tactic| walk_at "none") => `(tactic| fail)
local macro_rules | `(tactic| walk_at "subscriptTail") => `(tactic| (k_here; (with_reducible show wpAny _ _ (subscriptTail _ _ (Value.ref _) (Value.int (Int.fdiv (Int.fmod _ _) 8) _)) _ _ _); k_dflt (refine' item_at ?kN ?km ?kB ?k0 ?k1 ?k2 ?_; (case kN => k_asm); (case km => first | k_memK | exact List.mem_append_left _ (by assumption) | k_mem); (case kB => exact fun i hi => ints_at (by assumption) hi); (case k0 => exact (place_ok (by assumption) (by assumption)).1); (case k1 => exact (place_ok (by assumption) (by assumption)).2); (case k2 => omega); k_whole); intro t8; (try dsimp only)))
local macro_rules | `(tactic| walk_at "binaryOp LShift int int") => `(tactic| (k_here; refine shl8 ?_; (try dsimp only)))
local macro_rules | `(tactic| walk_at "binaryOp BitAnd int int") => `(tactic| (k_here; refine band8 ?_; (try dsimp only)))
local macro_rules | `(tactic| walk_at "ite") => `(tactic| (k_here; refine split_on8 ?_ ?_ <;> intro hb8))
theorem alt_c {x d bl l : Addr} {blen els est fpr nb nh : Int} {u0 u1 u2 u3 u4 u5 u6 u7 : Tok} {vs hvs : List Value} {n hn : Nat} {Bs hs : List Int}
    (B : Below A₀ base outer h₀) (F : Fr h₀ L s.heap m) (X : (KP w).In h₀) (N : News h₀ L s.heap news) (T : Top p loose mean mg mb h₀) (hk : cs.kind = .function)
    (hx : (x, bloomObj d bl blen els est fpr nb nh u0 u1 u2 u3 u4 u5 u6 u7) ∈ news) (hdx : (d, dictOf [] 0) ∈ news) (hbl : (bl, listOf vs.toArray n) ∈ news) (hB : IntsAre vs Bs) (hl : (l, listOf hvs.toArray hn) ∈ news) (hH : IntsAre hvs hs)
    (hnh : (hs.length : Int) = nh) (hnh2 : 1 ≤ nh ∧ nh ≤ 20) (hnb : 12 ≤ nb ∧ nb ≤ 28) (hBl : (Bs.length : Int) * 8 ≥ nb) (hBz : Bs.length < 1000) (hd : dp + 1 < recursionLimit) (hu : un + 8 < cLine)
    (hret : Back h₀ L m news s Q (fun _ => .bool (hs.all (on8 Bs nb)))) :
    wpAny (model Prog w) (ktrTop dp un gd cn cs L a ccd cl outer) (call (.ref 256) [.ref x, .ref l]) Q E s := by
  dsimp only [Prog, KP, Back] at *
  revert X
  w_top off
  k_fill
  intro X
  refine wpAny_call ?_
  k_dflt cell_enter
  k_with_none
  k_with "pyIter ref" => k_search (fun pre => AllOn Bs nb hs pre)
  k_with "state" => first | exact AllOn.start | exact AllOn.next (by assumption) (by assumption) (by assumption)
  k_steps
  k_with_none
  all_goals first
    | (rename on8 _ _ _ = false => hb; have hq := off_all (k := kN.toNat) (by omega) hb; rw [hq]; exact hret 0 _ _ (by k_asm) (by first | k_asm | exact cb_drop (by assumption) (by intro q9 hq9; exact List.mem_append_left _ hq9)))
    | (rename AllOn _ _ _ _ => hI; have hq := hI.all (by rw [rangeKs_length]; omega); rw [hq]; exact hret 0 _ _ (by k_asm) (by k_asm))
end
end Mine
end Part12
section Part13
open PySem PySem.W PySem.Calls PyProof.Rows
namespace Mine
section
variable {w : World} {p : Program} {loose : List Str} {mean : ExcName → Option Value} {mg mb : Str → Option Value} {news : List (Addr × Obj)}
  {dp un : Nat} {gd : Option (List Code)} {cn : Str} {cs : Scope} {a : Addr} {ccd : Value} {cl : List (Str × Addr)} {outer : List Env} {A₀ : Around} {base h₀ : Heap} {L : Addr} {m : Str → Option Value} {s : Shared} {Q E : Value → Shared → Prop}
local macro_rules | `(tactic| cell_enter) => `(tactic| (refine' code_def ?k1 ?k2 ?k3 ?k4 ?k5 ?kA ?kF ?kK ?k6 ?k7 ?k8 ?k9 ?kB ?_ ?c2 ?c3 ?c4 ?c5; (case kA => exact rfl); (case kF => exact rfl); (case kK => assumption); (case k1 => k_asm); (case k2 => k_asm); (case k3 => k_asm); (case k4 => k_asm); (case k5 => k_asm); (case k6 => k_is); (case k7 => k_is); (case k8 => ktr_room); (case k9 => first | exact BindsTo.of_eq rfl | exact binds_K (by k_in) rfl (by k_is) rfl rfl rfl); (case c5 => decide); (case kB => exact locs rfl); (case c2 => exact rfl); (case c3 => exact rfl); (case c4 => exact rfl); k_whole; intro g' L' h' FG' F' N' B' X' T'; (try dsimp only); (try k_lift B'); (try k_fold)))
local macro_rules | `(tactic| k_memK) => `(tactic| first | assumption | exact List.Mem.head _)
local macro_rules | `(tactic| walk_at "none") => `(tactic| fail)
local macro_rules | `(tactic| walk_at "none") => `(tactic| fail)
local macro_rules | `(tactic| walk_at "none") => `(tactic| fail)
local macro_rules | `(tactic| walk_at "none") => `(tactic| fail)
local macro_rules | `(tactic| walk_at "none") => `(tactic| fail)
local macro_rules | `(tactic| walk_at "none") => `(tactic| fail)
local macro_rules | `(tactic| walk_at "none") => `(tactic| fail)
local macro_rules | `(tactic| walk_at "none") => `(tactic| fail)
local macro_rules | `(tactic| walk_at "none") => `(tactic| fail)
local macro_rules | `(tactic| walk_at "none") => `(tactic| fail)
local macro_rules | `(tactic| walk_at "none") => `(tactic| fail)
local macro_rules | `(tactic| walk_at "none") => `(tactic| fail)
local macro_rules | `(tactic| walk_at "none") => `(tactic| fail)
local macro_rules | `(tactic| walk_at "none") => `(tactic| fail)
local macro_rules | `(tactic| walk_at "none") => `(tactic| fail)
local macro_rules | `(tactic| walk_at "none") => `(tactic| fail)
local macro_rules | `(tactic| walk_at "none") => `(tactic| fail)
local macro_rules | `(tactic| walk_at "none") => `(tactic| fail)
local macro_rules | `(tactic| walk_at "getMethod ref") => `(tactic| (k_here; k_dflt (first
  | (refine' meth_cmI ?k1 ?k2 ?k3 ?k4 ?k5 ?k6 ?k7 ?k8 ?k9 ?k10 ?k11 ?k12 ?k13 ?_; (case k1 => k_asm); (case k2 => k_asm); (case k3 => k_asm); (case k4 => k_inst); (case k5 => k_is); (case k6 => k_is); (case k7 => k_is); (case k8 => k_is); (case k9 => k_is); (case k10 => k_is); (case k11 => k_is); (case k12 => decide +kernel); (case k13 => k_is); k_whole; intro q' h' F' N' l1; (try k_lt l1); (try k_sweep))
  | (refine' meth_slotI ?k1 ?k2 ?k3 ?k4 ?k5 ?k6 ?k7 ?k8 ?k9 ?k10 ?k11 ?k12 ?_; (case k1 => k_asm); (case k2 => k_asm); (case k3 => k_inst); (case k4 => k_is); (case k5 => k_is); (case k6 => k_is); (case k7 => k_is); (case k8 => k_is); (case k9 => k_is); (case k10 => k_is); (case k11 => k_slotget); (case k12 => k_handed); k_whole))))
local macro_rules | `(tactic| walk_at "call ref") => `(tactic| (k_here; k_dflt (first | (refine' defaultS_c ?k1 ?k2 ?k3 ?k4 ?k5 ?kK ?kx ?kc ?kp ?kd ?ku ?_; (case kx => assumption); (case kc => assumption)) | (refine' defaultB_c ?k1 ?k2 ?k3 ?k4 ?k5 ?kK ?kx ?kp ?kd ?ku ?_; (case kx => assumption))); (case k1 => k_asm); (case k2 => k_asm); (case k3 => k_asm); (case k4 => k_asm); (case k5 => k_asm); (case kK => first | exact rfl | assumption); (case kd => ktr_room); (case ku => ktr_units); (case kp => omega); (intro l9 vs9 n9 h9 tk9 F9 N9 I9 b9; (try dsimp only); (try k_fold))))
theorem hashesS_c {y : Str} {t1 : Tok} {x d bl : Addr} {blen els est fpr nb nh : Int} {u0 u1 u2 u3 u4 u5 u6 u7 : Tok} (B : Below A₀ base outer h₀) (F : Fr h₀ L s.heap m) (X : (KP w).In h₀) (N : News h₀ L s.heap news) (T : Top p loose mean mg mb h₀) (hk : cs.kind = .function)
    (hx : (x, bloomObj d bl blen els est fpr nb nh u0 u1 u2 u3 u4 u5 u6 u7) ∈ news) (hdx : (d, dictOf [] 0) ∈ news) (hy : y.cps.size ≤ 1000) (hc : ∀ c ∈ y.cps.toList, c < 256) (hnh2 : 1 ≤ nh ∧ nh ≤ 20) (hd : dp + 3 < recursionLimit) (hu : un + 24 < cLine)
    (hret : BackL h₀ L m news s Q (hashesL y.cps.toList nh.toNat)) :
    wpAny (model Prog w) (ktrTop dp un gd cn cs L a ccd cl outer) (call (.ref 228) [.ref x, .str y t1]) Q E s := by
  dsimp only [Prog, KP, Back, BackL] at *
  revert X
  w_top off
  k_fill
  intro X
  refine wpAny_call ?_
  k_dflt cell_enter
  have hIz := IntsAre.nil
  k_with_none
  k_steps
  all_goals exact hret _ _ _ _ _ (by k_asm) (by k_asm) (by assumption) (by assumption)
theorem hashesB_c {y : Array UInt8} {t1 : Tok} {x d bl : Addr} {blen els est fpr nb nh : Int} {u0 u1 u2 u3 u4 u5 u6 u7 : Tok} (B : Below A₀ base outer h₀) (F : Fr h₀ L s.heap m) (X : (KP w).In h₀) (N : News h₀ L s.heap news) (T : Top p loose mean mg mb h₀) (hk : cs.kind = .function)
    (hx : (x, bloomObj d bl blen els est fpr nb nh u0 u1 u2 u3 u4 u5 u6 u7) ∈ news) (hdx : (d, dictOf [] 0) ∈ news) (hy : y.size ≤ 1000) (hnh2 : 1 ≤ nh ∧ nh ≤ 20) (hd : dp + 3 < recursionLimit) (hu : un + 24 < cLine)
    (hret : BackL h₀ L m news s Q (hashesL (y.toList.map UInt8.toNat) nh.toNat)) :
    wpAny (model Prog w) (ktrTop dp un gd cn cs L a ccd cl outer) (call (.ref 228) [.ref x, .bytes y t1]) Q E s := by
  dsimp only [Prog, KP, Back, BackL] at *
  revert X
  w_top off
  k_fill
  intro X
  refine wpAny_call ?_
  k_dflt cell_enter
  have hIz := IntsAre.nil
  k_with_none
  k_steps
  all_goals exact hret _ _ _ _ _ (by k_asm) (by k_asm) (by assumption) (by assumption)
local macro_rules | `(tactic| walk_at "call ref") => `(tactic| (k_here; first | (k_dflt (refine' hashesS_c ?k1 ?k2 ?k3 ?k4 ?k5 ?kK ?kX ?kD ?kx ?kc ?kp ?kd ?ku ?_; (case kx => assumption)); (case kc => assumption); (case k1 => k_asm); (case k2 => k_asm); (case k3 => k_asm); (case k4 => k_asm); (case k5 => k_asm); (case kK => first | exact rfl | assumption); (case kd => ktr_room); (case ku => ktr_units); (case kX => k_memK); (case kD => k_memK); (case kp => assumption); (intro l9 vs9 n9 h9 tk9 F9 N9 I9 b9; (try dsimp only); (try k_fold))) | (k_dflt (refine' alt_c ?k1 ?k2 ?k3 ?k4 ?k5 ?kK ?kX ?kD ?kb ?kB ?kl ?kH ?kn ?kp ?knb ?kBl ?kBz ?kd ?ku ?_); (case k1 => k_asm); (case k2 => k_asm); (case k3 => k_asm); (case k4 => k_asm); (case k5 => k_asm); (case kK => first | exact rfl | assumption); (case kd => ktr_room); (case ku => ktr_units); (case kX => first | k_memK | exact List.mem_cons_of_mem _ (by assumption)); (case kD => first | k_memK | exact List.mem_cons_of_mem _ (by assumption)); (case kb => first | k_memK | exact List.mem_cons_of_mem _ (by assumption)); (case kB => assumption); (case kl => exact List.Mem.head _); (case kH => assumption); (case kp => assumption); (case knb => assumption); (case kBl => assumption); (case kBz => assumption); (case kn => (rw [hashesL_length]; omega)); (intro t9 h9 tk9 F9 N9; (try dsimp only); (try k_fold)))))
theorem checkS_c {y : Str} {t1 : Tok} {x d bl : Addr} {blen els est fpr nb nh : Int} {u0 u1 u2 u3 u4 u5 u6 u7 : Tok} {vs : List Value} {n : Nat} {Bs : List Int} (B : Below A₀ base outer h₀) (F : Fr h₀ L s.heap m) (X : (KP w).In h₀) (N : News h₀ L s.heap news) (T : Top p loose mean mg mb h₀) (hk : cs.kind = .function)
    (hx : (x, bloomObj d bl blen els est fpr nb nh u0 u1 u2 u3 u4 u5 u6 u7) ∈ news) (hdx : (d, dictOf [] 0) ∈ news) (hbl : (bl, listOf vs.toArray n) ∈ news) (hB : IntsAre vs Bs) (hy : y.cps.size ≤ 1000) (hc : ∀ c ∈ y.cps.toList, c < 256) (hnh2 : 1 ≤ nh ∧ nh ≤ 20) (hnb : 12 ≤ nb ∧ nb ≤ 28) (hBl : (Bs.length : Int) * 8 ≥ nb) (hBz : Bs.length < 1000) (hd : dp + 4 < recursionLimit) (hu : un + 32 < cLine)
    (hret : Back h₀ L m news s Q (fun _ => .bool ((hashesL y.cps.toList nh.toNat).all (on8 Bs nb)))) :
    wpAny (model Prog w) (ktrTop dp un gd cn cs L a ccd cl outer) (call (.ref 249) [.ref x, .str y t1]) Q E s := by
  dsimp only [Prog, KP, Back, BackL] at *
  revert X
  w_top off
  k_fill
  intro X
  refine wpAny_call ?_
  k_dflt cell_enter
  have hIz := IntsAre.nil
  k_with_none
  k_steps
  all_goals exact hret 0 _ _ (by k_asm) (by first | k_asm | exact cb_drop (by assumption) (by intro q9 hq9; exact List.mem_cons_of_mem _ hq9))
local macro_rules | `(tactic| walk_at "call ref") => `(tactic| (k_here; first | (k_dflt (refine' hashesB_c ?k1 ?k2 ?k3 ?k4 ?k5 ?kK ?kX ?kD ?kx ?kp ?kd ?ku ?_; (case kx => assumption)); (case k1 => k_asm); (case k2 => k_asm); (case k3 => k_asm); (case k4 => k_asm); (case k5 => k_asm); (case kK => first | exact rfl | assumption); (case kd => ktr_room); (case ku => ktr_units); (case kX => k_memK); (case kD => k_memK); (case kp => assumption); (intro l9 vs9 n9 h9 tk9 F9 N9 I9 b9; (try dsimp only); (try k_fold))) | (k_dflt (refine' alt_c ?k1 ?k2 ?k3 ?k4 ?k5 ?kK ?kX ?kD ?kb ?kB ?kl ?kH ?kn ?kp ?knb ?kBl ?kBz ?kd ?ku ?_); (case k1 => k_asm); (case k2 => k_asm); (case k3 => k_asm); (case k4 => k_asm); (case k5 => k_asm); (case kK => first | exact rfl | assumption); (case kd => ktr_room); (case ku => ktr_units); (case kX => first | k_memK | exact List.mem_cons_of_mem _ (by assumption)); (case kD => first | k_memK | exact List.mem_cons_of_mem _ (by assumption)); (case kb => first | k_memK | exact List.mem_cons_of_mem _ (by assumption)); (case kB => assumption); (case kl => exact List.Mem.head _); (case kH => assumption); (case kp => assumption); (case knb => assumption); (case kBl => assumption); (case kBz => assumption); (case kn => (rw [hashesL_length]; omega)); (intro t9 h9 tk9 F9 N9; (try dsimp only); (try k_fold)))))
theorem checkB_c {y : Array UInt8} {t1 : Tok} {x d bl : Addr} {blen els est fpr nb nh : Int} {u0 u1 u2 u3 u4 u5 u6 u7 : Tok} {vs : List Value} {n : Nat} {Bs : List Int} (B : Below A₀ base outer h₀) (F : Fr h₀ L s.heap m) (X : (KP w).In h₀) (N : News h₀ L s.heap news) (T : Top p loose mean mg mb h₀) (hk : cs.kind = .function)
    (hx : (x, bloomObj d bl blen els est fpr nb nh u0 u1 u2 u3 u4 u5 u6 u7) ∈ news) (hdx : (d, dictOf [] 0) ∈ news) (hbl : (bl, listOf vs.toArray n) ∈ news) (hB : IntsAre vs Bs) (hy : y.size ≤ 1000) (hnh2 : 1 ≤ nh ∧ nh ≤ 20) (hnb : 12 ≤ nb ∧ nb ≤ 28) (hBl : (Bs.length : Int) * 8 ≥ nb) (hBz : Bs.length < 1000) (hd : dp + 4 < recursionLimit) (hu : un + 32 < cLine)
    (hret : Back h₀ L m news s Q (fun _ => .bool ((hashesL (y.toList.map UInt8.toNat) nh.toNat).all (on8 Bs nb)))) :
    wpAny (model Prog w) (ktrTop dp un gd cn cs L a ccd cl outer) (call (.ref 249) [.ref x, .bytes y t1]) Q E s := by
  dsimp only [Prog, KP, Back, BackL] at *
  revert X
  w_top off
  k_fill
  intro X
  refine wpAny_call ?_
  k_dflt cell_enter
  have hIz := IntsAre.nil
  k_with_none
  k_steps
  all_goals exact hret 0 _ _ (by k_asm) (by first | k_asm | exact cb_drop (by assumption) (by intro q9 hq9; exact List.mem_cons_of_mem _ hq9))
end
end Mine
end Part13
section Part14
open PySem PySem.W PySem.Calls PyProof.Rows
namespace Mine
/-- the filter's octets with the bit of the hash h put in -/
def put8 (nb : Int) (Bs : List Int) (h : Int) : List Int := Bs.set ((h.fmod nb).fdiv 8).toNat (or8 (Bs.getD ((h.fmod nb).fdiv 8).toNat 0) (h.fmod nb))
def putL (nb : Int) (Bs hs : List Int) : List Int := hs.foldl (put8 nb) Bs
theorem putL_length (nb : Int) (Bs hs : List Int) : (putL nb Bs hs).length = Bs.length := by
  unfold putL
  induction hs generalizing Bs with
  | nil => rfl
  | cons h r ih => rw [List.foldl_cons, ih]; unfold put8; rw [List.length_set]
/-- what a loop has made of the octets after as many turns as pre has numbers -/
structure PutInv (nb : Int) (Bs hs pre cur : List Int) : Prop where
  eq : cur = putL nb Bs (hs.take pre.length)
  len : cur.length = Bs.length
theorem PutInv.start {nb : Int} {Bs hs : List Int} : PutInv nb Bs hs [] Bs := ⟨rfl, rfl⟩
theorem PutInv.next {nb : Int} {Bs hs pre cur : List Int} {k : Int} (h : PutInv nb Bs hs pre cur) (hk : k = 0 + (pre.length : Int)) (hl : pre.length < hs.length) : PutInv nb Bs hs (pre ++ [k]) (put8 nb cur (hs.getD k.toNat 0)) := by
  have e : k.toNat = pre.length := by omega
  refine ⟨?_, ?_⟩
  · rw [List.length_append, List.length_singleton, List.take_add_one, List.getElem?_eq_getElem hl, Option.toList_some, putL, List.foldl_append, h.eq, e, List.getD_eq_getElem?_getD, List.getElem?_eq_getElem hl]
    rfl
  · unfold put8; rw [List.length_set, h.len]
theorem PutInv.done {nb : Int} {Bs hs pre cur : List Int} (h : PutInv nb Bs hs pre cur) (hl : pre.length = hs.length) : cur = putL nb Bs hs := by
  rw [h.eq, hl, List.take_length]
section
variable {w : World} {p : Program} {loose : List Str} {mean : ExcName → Option Value} {mg mb : Str → Option Value} {rest : List (Addr × Obj)}
  {dp un : Nat} {gd : Option (List Code)} {cn : Str} {cs : Scope} {a : Addr} {ccd : Value} {cl : List (Str × Addr)} {outer : List Env} {A₀ : Around} {base h₀ : Heap} {L : Addr} {m : Str → Option Value} {s : Shared} {Q E : Value → Shared → Prop}
local macro_rules | `(tactic| k_memK) => `(tactic| first | assumption | exact List.Mem.head _)
local macro_rules | `(tactic| walk_at "none") => `(tactic| fail)
local macro_rules | `(tactic| walk_at "none") => `(tactic| fail)
local macro_rules | `(tactic| walk_at "none") => `(tactic| fail)
local macro_rules | `(tactic| walk_at "none") => `(tactic| fail)
local macro_rules | `(tactic| walk_at "none") => `(tactic| fail)
local macro_rules | `(tactic| walk_at "none") => `(tactic| fail)
local macro_rules | `(tactic| walk_at "none") => `(tactic| fail)
local macro_rules | `(tactic| walk_at "none") => `(tactic| fail)
local macro_rules | `(tactic| walk_at "none") => `(tactic| fail)
local macro_rules | `(tactic| walk_at "none") => `(tactic| fail)
local macro_rules | `(tactic| walk_at "none") => `(tactic| fail)
local macro_rules | `(tactic| walk_at "none") => `(tactic| fail)
local macro_rules | `(tactic| walk_at "none") => `(tactic| fail)
local macro_rules | `(tactic| walk_at "none") => `(tactic| fail)
local macro_rules | `(tactic| walk_at "none") => `(tactic| fail)
local macro_rules | `(tactic| walk_at "none") => `(tactic| fail)
local macro_rules | `(tactic| walk_at "none") => `(tactic| fail)
local macro_rules | `(tactic| walk_at "none") => `(tactic| fail)
local macro_rules | `(tactic| walk_at "none") => `(tactic| fail)
local macro_rules | `(tactic| walk_at "none") => `(tactic| fail)
local macro_rules | `(tactic| walk_at "none") => `(tactic| fail)
local macro_rules | `(tactic| walk_at "none") => `(tactic| fail)
local macro_rules | `(tactic| walk_at "none") => `(tactic| fail)
local macro_rules | `(tactic| walk_at "subscriptTail") => `(tactic| (k_here; (with_reducible show wpAny _ _ (subscriptTail _ _ (Value.ref _) (Value.int (Int.fdiv (Int.fmod _ _) 8) _)) _ _ _); k_dflt (refine' item_at ?kN ?km ?kB ?k0 ?k1 ?k2 ?_; (case kN => k_asm); (case km => exact List.Mem.head _); (case kB => exact fun i hi => ints_at (by assumption) hi); (case k0 => exact (place_ok (by assumption) (by assumption)).1); (case k1 => exact (place_ok (by assumption) (by assumption)).2); (case k2 => omega); k_whole); intro t8; (try dsimp only)))
local macro_rules | `(tactic| walk_at "binaryOp LShift int int") => `(tactic| (k_here; refine shl8 ?_; (try dsimp only)))
local macro_rules | `(tactic| walk_at "binaryOp BitOr int int") => `(tactic| (k_here; refine bor8 ?_; (try dsimp only)))
local macro_rules | `(tactic| k_all) => `(tactic| (intro p9 hp9; (rename (∀ q ∈ (_ : List (Addr × Obj)), _ ≠ _ ∧ _ ≠ _) => hr9); (simp only [List.mem_cons, List.mem_append] at hp9); (repeat' ((refine Or.elim hp9 ?_ ?_) <;> clear hp9 <;> intro hp9)); all_goals first | (subst hp9; first | assumption | exact Ne.symm (by assumption)) | exact (hr9 p9 hp9).1 | exact (hr9 p9 hp9).2 | exact ((by assumption : OwnOff _ _) p9 hp9 _ (by simp))))
local macro_rules | `(tactic| walk_at "setItem ref int") => `(tactic| (k_here; k_dflt (refine' ksa_set ?k1 ?k2 ?k3 ?k4 ?k5 ?k6 ?k7 ?_; (case k1 => k_asm); (case k2 => k_asm); (case k3 => exact Upd.head (by k_all)); (case k4 => with_reducible assumption); (case k5 => exact (place_ok (by assumption) (by assumption)).1); (case k6 => exact (place_ok (by assumption) (by assumption)).2); (case k7 => exact Int.lt_trans (place_ok (by assumption) (by assumption)).2 (by omega)); k_whole); intro h' F' N' hi' hl' hs'; (try dsimp only)))
theorem addalt_c {x d bl l : Addr} {blen els est fpr nb nh : Int} {u0 u1 u2 u3 u4 u5 u6 u7 : Tok} {vs hvs : List Value} {n hn : Nat} {Bs hs : List Int}
    (B : Below A₀ base outer h₀) (F : Fr h₀ L s.heap m) (X : (KP w).In h₀) (N : News h₀ L s.heap ((bl, listOf vs.toArray n) :: (x, bloomObj d bl blen els est fpr nb nh u0 u1 u2 u3 u4 u5 u6 u7) :: (d, dictOf [] 0) :: (l, listOf hvs.toArray hn) :: rest)) (T : Top p loose mean mg mb h₀) (hk : cs.kind = .function)
    (h1 : bl ≠ x) (h2 : bl ≠ d) (h3 : bl ≠ l) (h4 : x ≠ d) (h5 : x ≠ l) (h6 : d ≠ l) (hr : ∀ p ∈ rest, p.1 ≠ bl ∧ p.1 ≠ x)
    (hB : IntsAre vs Bs) (hH : IntsAre hvs hs) (hels : 0 ≤ els ∧ els ≤ 100)
    (hnh : (hs.length : Int) = nh) (hnh2 : 1 ≤ nh ∧ nh ≤ 20) (hnb : 12 ≤ nb ∧ nb ≤ 28) (hBl : (Bs.length : Int) * 8 ≥ nb) (hBz : Bs.length < 1000) (hd : dp + 1 < recursionLimit) (hu : un + 8 < cLine)
    (hret : ∀ (vs' : List Value) (n' : Nat) (u1' : Tok) (h' : Heap) (tk' : Nat), Fr h₀ L h' m → News h₀ L h' ((bl, listOf vs'.toArray n') :: (x, bloomObj d bl blen (els + 1) est fpr nb nh u0 u1' u2 u3 u4 u5 u6 u7) :: (d, dictOf [] 0) :: (l, listOf hvs.toArray hn) :: rest) → IntsAre vs' (putL nb Bs hs) → Q .none { s with heap := h', toks := tk' }) :
    wpAny (model Prog w) (ktrTop dp un gd cn cs L a ccd cl outer) (call (.ref 242) [.ref x, .ref l]) Q E s := by
  dsimp only [Prog, KP, Back] at *
  revert X
  w_top off
  k_fill
  intro X
  refine wpAny_call ?_
  k_dflt cell_enter
  k_with_none
  k_with "pyIter ref" => ((rename Fr _ _ _ _ => lF'); (rename News _ _ _ _ => lN'); (rename IsRange _ _ _ _ _ _ _ _ => rgX); (with_unfolding_all refine' kst_range (σ := List Value × List Int × Nat) (fun c => (bl, listOf c.1.toArray c.2.2) :: (x, bloomObj d bl blen els est fpr nb nh u0 u1 u2 u3 u4 u5 u6 u7) :: (d, dictOf [] 0) :: (l, listOf hvs.toArray hn) :: rest) (fun _ => []) (fun c => IntsAre c.1 c.2.1) ["k", "idx"] (fun pre c => PutInv nb Bs hs pre c.2.1) (vs, Bs, n) (by rfl) rgX (by exact small_one (by omega) (by omega) (by omega) (by omega)) (by exact rangeSize_nat _ _) lF' ?kn ?kf ?kk ?kp ?_ ?_); (case kn => with_unfolding_all exact lN'); (case kf => exact hB); (case kk => (kst_all)); (case kp => exact PutInv.start); (all_goals (try clear lF' lN')); (rotate_left; (rintro ⟨cV, cB, cN⟩ kU kH kTk kFacts kInv kFr kNews; have kMark := kstMark; (try dsimp only [kstB] at kFr); (try dsimp only at kNews); (try dsimp only at kFacts); (try dsimp only at kInv); (try k_fold)); rotate_left; (rintro ⟨cV, cB, cN⟩ kPre kN kT kU kH kTk kOwn kEq kLt kOff kFacts kInv kFr kNews; have kMark := kstMark; (try dsimp only [kstB] at kFr); (try dsimp only at kNews); (try dsimp only at kFacts); (try dsimp only at kInv); (try dsimp only at kOff); (try simp only [List.cons_append] at kNews); have kLen := kInv.len; have kBl : (cB.length : Int) * 8 ≥ nb := (by rw [kLen]; exact hBl); (try k_fold))))
  k_with "state" => exact PutInv.next (by assumption) (by assumption) (by omega)
  k_steps
  all_goals (rename PutInv _ _ _ _ _ => hI; have hq := hI.done (by rw [rangeKs_length]; omega); subst hq; exact hret _ _ _ _ _ (by k_asm) (by k_asm) (by assumption))
local macro_rules | `(tactic| cell_enter) => `(tactic| (refine' code_def ?k1 ?k2 ?k3 ?k4 ?k5 ?kA ?kF ?kK ?k6 ?k7 ?k8 ?k9 ?kB ?_ ?c2 ?c3 ?c4 ?c5; (case kA => exact rfl); (case kF => exact rfl); (case kK => assumption); (case k1 => k_asm); (case k2 => k_asm); (case k3 => k_asm); (case k4 => k_asm); (case k5 => k_asm); (case k6 => k_is); (case k7 => k_is); (case k8 => ktr_room); (case k9 => first | exact BindsTo.of_eq rfl | exact binds_K (by k_in) rfl (by k_is) rfl rfl rfl); (case c5 => decide); (case kB => exact locs rfl); (case c2 => exact rfl); (case c3 => exact rfl); (case c4 => exact rfl); k_whole; intro g' L' h' FG' F' N' B' X' T'; (try dsimp only); (try k_lift B'); (try k_fold)))
local macro_rules | `(tactic| walk_at "getMethod ref") => `(tactic| (k_here; k_dflt (first
  | (refine' meth_cmI ?k1 ?k2 ?k3 ?k4 ?k5 ?k6 ?k7 ?k8 ?k9 ?k10 ?k11 ?k12 ?k13 ?_; (case k1 => k_asm); (case k2 => k_asm); (case k3 => k_asm); (case k4 => k_inst); (case k5 => k_is); (case k6 => k_is); (case k7 => k_is); (case k8 => k_is); (case k9 => k_is); (case k10 => k_is); (case k11 => k_is); (case k12 => decide +kernel); (case k13 => k_is); k_whole; intro q' h' F' N' l1; (try k_lt l1); (try k_sweep))
  | (refine' meth_slotI ?k1 ?k2 ?k3 ?k4 ?k5 ?k6 ?k7 ?k8 ?k9 ?k10 ?k11 ?k12 ?_; (case k1 => k_asm); (case k2 => k_asm); (case k3 => k_inst); (case k4 => k_is); (case k5 => k_is); (case k6 => k_is); (case k7 => k_is); (case k8 => k_is); (case k9 => k_is); (case k10 => k_is); (case k11 => k_slotget); (case k12 => k_handed); k_whole))))
local macro_rules | `(tactic| walk_at "call ref") => `(tactic| k_extra "call ref")
theorem cb_drop2 {h₀ : Heap} {L : Addr} {h : Heap} {l l' : List (Addr × Obj)} (N : News h₀ L h l) (hs : ∀ p ∈ l', p ∈ l) : News h₀ L h l' := fun p hp => N p (hs p hp)
theorem led_in {α : Type} {a b c d : α} {r : List α} : ∀ p ∈ b :: c :: d :: a :: r, p ∈ a :: b :: c :: d :: r := by
  intro p hp
  simp only [List.mem_cons] at hp ⊢
  rcases hp with e | e | e | e | e <;> simp [e]
theorem led_out {α : Type} {a b c d : α} {r : List α} : ∀ p ∈ b :: c :: d :: r, p ∈ b :: c :: d :: a :: r := by
  intro p hp
  simp only [List.mem_cons] at hp ⊢
  rcases hp with e | e | e | e <;> simp [e]
theorem add_c {y : Str} {t1 : Tok} {x d bl : Addr} {blen els est fpr nb nh : Int} {u0 u1 u2 u3 u4 u5 u6 u7 : Tok} {vs : List Value} {n : Nat} {Bs : List Int}
    (B : Below A₀ base outer h₀) (F : Fr h₀ L s.heap m) (X : (KP w).In h₀) (N : News h₀ L s.heap ((bl, listOf vs.toArray n) :: (x, bloomObj d bl blen els est fpr nb nh u0 u1 u2 u3 u4 u5 u6 u7) :: (d, dictOf [] 0) :: rest)) (T : Top p loose mean mg mb h₀) (hk : cs.kind = .function)
    (h1 : bl ≠ x) (h2 : bl ≠ d) (h4 : x ≠ d) (hr : ∀ p ∈ rest, p.1 ≠ bl ∧ p.1 ≠ x)
    (hB : IntsAre vs Bs) (hy : y.cps.size ≤ 1000) (hc : ∀ c ∈ y.cps.toList, c < 256) (hels : 0 ≤ els ∧ els ≤ 100)
    (hnh2 : 1 ≤ nh ∧ nh ≤ 20) (hnb : 12 ≤ nb ∧ nb ≤ 28) (hBl : (Bs.length : Int) * 8 ≥ nb) (hBz : Bs.length < 1000) (hd : dp + 4 < recursionLimit) (hu : un + 32 < cLine)
    (hret : ∀ (vs' : List Value) (n' : Nat) (u1' : Tok) (h' : Heap) (tk' : Nat), Fr h₀ L h' m → News h₀ L h' ((bl, listOf vs'.toArray n') :: (x, bloomObj d bl blen (els + 1) est fpr nb nh u0 u1' u2 u3 u4 u5 u6 u7) :: (d, dictOf [] 0) :: rest) → IntsAre vs' (putL nb Bs (hashesL y.cps.toList nh.toNat)) → Q .none { s with heap := h', toks := tk' }) :
    wpAny (model Prog w) (ktrTop dp un gd cn cs L a ccd cl outer) (call (.ref 235) [.ref x, .str y t1]) Q E s := by
  dsimp only [Prog, KP, Back] at *
  revert X
  w_top off
  k_fill
  intro X
  refine wpAny_call ?_
  k_dflt cell_enter
  have hIz := IntsAre.nil
  k_with_none
  k_with "call ref" => (k_here; first
    | (k_dflt (refine' hashesS_c ?k1 ?k2 ?k3 ?k4 ?k5 ?kK ?kX ?kD ?kx ?kc ?kp ?kd ?ku ?_); (case kx => assumption); (case kc => assumption); (case k1 => k_asm); (case k2 => k_asm); (case k3 => k_asm); (case k4 => k_asm); (case k5 => k_asm); (case kK => first | exact rfl | assumption); (case kd => ktr_room); (case ku => ktr_units); (case kX => exact .tail _ (.head _)); (case kD => exact .tail _ (.tail _ (.head _))); (case kp => assumption); (intro l9 vs9 n9 h9 tk9 F9 N9 I9 b9; (try dsimp only); (try k_fold)))
    | (k_dflt (refine' addalt_c (rest := rest) (hs := hashesL y.cps.toList nh.toNat) ?k1 ?k2 ?k3 ?k4 ?k5 ?kK ?h1 ?h2 ?h3 ?h4 ?h5 ?h6 ?hr ?kB ?kH ?ke ?kn ?kp ?knb ?kBl ?kBz ?kd ?ku ?_); (case k1 => k_asm); (case k2 => k_asm); (case k3 => k_asm); (case k4 => (rename News _ _ _ (_ :: _ :: _ :: _ :: _) => nL); exact cb_drop2 nL led_in); (case k5 => k_asm); (case kK => first | exact rfl | assumption); (case h1 => exact h1); (case h2 => exact h2); (case h3 => (rename (∀ p ∈ (_ : List (Addr × Obj)), p.1 < _) => hlt); exact Nat.ne_of_lt (hlt _ (.head _))); (case h4 => exact h4); (case h5 => (rename (∀ p ∈ (_ : List (Addr × Obj)), p.1 < _) => hlt); exact Nat.ne_of_lt (hlt _ (.tail _ (.head _)))); (case h6 => (rename (∀ p ∈ (_ : List (Addr × Obj)), p.1 < _) => hlt); exact Nat.ne_of_lt (hlt _ (.tail _ (.tail _ (.head _))))); (case hr => exact hr); (case kB => assumption); (case kH => assumption); (case ke => exact hels); (case kn => (rw [hashesL_length]; omega)); (case kp => exact hnh2); (case knb => exact hnb); (case kBl => exact hBl); (case kBz => exact hBz); (case kd => ktr_room); (case ku => ktr_units); (intro vs9 n9 u9 h9 tk9 F9 N9 I9; (try dsimp only); (try k_fold))))
  k_steps
  all_goals (rename News h₀ L _ (_ :: _ :: _ :: _ :: _) => hN; exact hret vs9 n9 u9 _ _ (by k_asm) (cb_drop2 hN led_out) (by assumption))
end
end Mine
end Part14
section Part15
open PySem PySem.W PySem.Calls PyProof.Rows
namespace Mine
theorem hexS_small (v : Nat) : (⟨(smallL v).toArray⟩ : Str) = hexS v := by
  unfold hexS
  rw [smallL_hex]
theorem hexS_size {v : Nat} (h : v < 2 ^ 64) : (hexS v).cps.size ≤ 16 := by
  rw [← hexS_small]
  show (smallL v).toArray.size ≤ 16
  rw [List.size_toArray]
  unfold smallL
  split
  · simp
  · exact hexP_length (by omega) (by rwa [show (16 : Nat) ^ 16 = 2 ^ 64 from by decide])
theorem digit_code : ∀ d : Nat, d < 16 → (Nat.digitChar d).toNat < 256 := by decide
theorem hexP_codes (v : Nat) : ∀ c ∈ hexP v, c < 256 := by
  induction v using Nat.strongRecOn with
  | ind v ih =>
    by_cases h : v = 0
    · subst h; intro c hc; rw [hexP_zero] at hc; cases hc
    · intro c hc
      rw [hexP_step h, List.mem_append, List.mem_singleton] at hc
      rcases hc with hc | rfl
      · exact ih (v / 16) (by omega) c hc
      · exact digit_code _ (Nat.mod_lt _ (by omega))
theorem hexS_codes (v : Nat) : ∀ c ∈ (hexS v).cps.toList, c < 256 := by
  rw [← hexS_small]
  show ∀ c ∈ smallL v, c < 256
  unfold smallL
  split
  · intro c hc
    rw [List.mem_singleton] at hc
    omega
  · exact hexP_codes v
/-- the hash of the law after n turns -/
def dueN (x : Str) : Nat → Int
  | 0 => simpleRaw x * 977 + 0
  | n + 1 => simpleRaw (hexS (dueN x n).toNat) * 977 + ((n + 1 : Nat) : Int)
def dueL (x : Str) (d : Nat) : List Int := (List.range d).map (dueN x)
theorem dueL_succ (x : Str) (d : Nat) : dueL x (d + 1) = dueL x d ++ [dueN x d] := by
  unfold dueL
  rw [List.range_succ, List.map_append, List.map_cons, List.map_nil]
theorem dueL_length (x : Str) (d : Nat) : (dueL x d).length = d := by simp [dueL]
theorem dueN_bounds {x : Str} (hx : x.cps.size ≤ 100) (hc : ∀ c ∈ x.cps.toList, c < 256) : ∀ n : Nat, n ≤ 1000 → 0 ≤ dueN x n ∧ dueN x n < 2 ^ 40
  | 0, _ => by
    have := simpleRaw_bounds hx hc
    show 0 ≤ simpleRaw x * 977 + 0 ∧ simpleRaw x * 977 + 0 < 2 ^ 40
    omega
  | n + 1, hn => by
    have i := dueN_bounds hx hc n (by omega)
    have hs := hexS_size (v := (dueN x n).toNat) (by omega)
    have := simpleRaw_bounds (x := hexS (dueN x n).toNat) (by omega) (hexS_codes _)
    show 0 ≤ simpleRaw (hexS (dueN x n).toNat) * 977 + ((n + 1 : Nat) : Int) ∧ simpleRaw (hexS (dueN x n).toNat) * 977 + ((n + 1 : Nat) : Int) < 2 ^ 40
    omega
theorem dueL_mem {x : Str} (hx : x.cps.size ≤ 100) (hc : ∀ c ∈ x.cps.toList, c < 256) {d : Nat} (hd : d ≤ 1000) : ∀ v ∈ dueL x d, 0 ≤ v ∧ v < 2 ^ 40 := by
  intro v hv
  obtain ⟨i, hi, rfl⟩ := List.mem_map.mp hv
  exact dueN_bounds hx hc i (by have := List.mem_range.mp hi; omega)
theorem dueL_getD {x : Str} {d i : Nat} (h : i < d) : (dueL x d).getD i 0 = dueN x i := by
  unfold dueL
  rw [List.getD_eq_getElem?_getD, List.getElem?_map, List.getElem?_range h]
  rfl
/-- what the loop over the further depths has gathered -/
structure DueInv (x : Str) (pre : List Int) (tmp : Int) (res : List Int) : Prop where
  tmp : tmp = dueN x pre.length
  res : res = dueL x (pre.length + 1)
theorem DueInv.zero {x : Str} : DueInv x [] (simpleRaw x * 977 + 0) [simpleRaw x * 977 + 0] := ⟨rfl, rfl⟩
theorem DueInv.next {x : Str} {pre res : List Int} {tmp k : Int} (h : DueInv x pre tmp res) (hk : k = 1 + (pre.length : Int)) :
    DueInv x (pre ++ [k]) (simpleRaw (hexS tmp.toNat) * 977 + k) (res ++ [simpleRaw (hexS tmp.toNat) * 977 + k]) := by
  have e : simpleRaw (hexS tmp.toNat) * 977 + k = dueN x (pre.length + 1) := by
    show _ = simpleRaw (hexS (dueN x pre.length).toNat) * 977 + ((pre.length + 1 : Nat) : Int)
    rw [h.tmp, hk]
    omega
  refine ⟨?_, ?_⟩
  · rw [List.length_append, List.length_singleton]; exact e
  · rw [List.length_append, List.length_singleton, dueL_succ, ← h.res, e]
theorem DueInv.ok {x : Str} {pre res : List Int} {tmp : Int} (h : DueInv x pre tmp res) (hx : x.cps.size ≤ 100) (hc : ∀ c ∈ x.cps.toList, c < 256) (hp : pre.length ≤ 1000) : 0 ≤ tmp ∧ tmp < 2 ^ 40 := by
  rw [h.tmp]; exact dueN_bounds hx hc _ hp
/-- what the law's own loop over the further depths has gathered -/
structure DueS (x : Str) (pre due : List Int) : Prop where
  res : due = dueL x (pre.length + 1)
theorem DueS.zero {x : Str} : DueS x [] [simpleRaw x * 977 + 0] := ⟨rfl⟩
theorem DueS.at {x : Str} {pre due : List Int} (h : DueS x pre due) {i : Nat} (hi : i ≤ pre.length) : due.getD i 0 = dueN x i := by
  rw [h.res]; exact dueL_getD (by omega)
theorem DueS.val {x : Str} {pre due : List Int} (h : DueS x pre due) (hx : x.cps.size ≤ 100) (hc : ∀ c ∈ x.cps.toList, c < 256) {i : Nat} (hi : i ≤ pre.length) (hp : pre.length ≤ 1000) : 0 ≤ due.getD i 0 ∧ due.getD i 0 < 2 ^ 64 := by
  rw [h.at hi]
  have := dueN_bounds hx hc i (by omega)
  omega
theorem DueS.size {x : Str} {pre due : List Int} (h : DueS x pre due) (hx : x.cps.size ≤ 100) (hc : ∀ c ∈ x.cps.toList, c < 256) {i : Nat} (hi : i ≤ pre.length) (hp : pre.length ≤ 1000) : (⟨(smallL (due.getD i 0).toNat).toArray⟩ : Str).cps.size ≤ 100 := by
  rw [hexS_small]
  have := h.val hx hc hi hp
  exact Nat.le_trans (hexS_size (by omega)) (by omega)
theorem DueS.next {x : Str} {pre due : List Int} {k : Int} (h : DueS x pre due) (hk : k = 1 + (pre.length : Int)) {i : Nat} (hi : i = pre.length) :
    DueS x (pre ++ [k]) (due ++ [simpleRaw ⟨(smallL (due.getD i 0).toNat).toArray⟩ * 977 + k]) := by
  refine ⟨?_⟩
  rw [List.length_append, List.length_singleton, dueL_succ, ← h.res, hexS_small, h.at (by omega), hi]
  have e : simpleRaw (hexS (dueN x pre.length).toNat) * 977 + k = dueN x (pre.length + 1) := by
    show _ = simpleRaw (hexS (dueN x pre.length).toNat) * 977 + ((pre.length + 1 : Nat) : Int)
    rw [hk]
    omega
  rw [e]
end Mine
end Part15
section Part16
open PySem PySem.W PySem.Calls PyProof.Rows
namespace Mine
section
variable {w : World} {p : Program} {loose : List Str} {mean : ExcName → Option Value} {mg mb : Str → Option Value} {rest : List (Addr × Obj)}
  {dp un : Nat} {gd : Option (List Code)} {cn : Str} {cs : Scope} {a : Addr} {ccd : Value} {cl : List (Str × Addr)} {outer : List Env} {A₀ : Around} {base h₀ : Heap} {L : Addr} {m : Str → Option Value} {s : Shared} {Q E : Value → Shared → Prop}
local macro_rules | `(tactic| cell_enter) => `(tactic| (refine' code_defC ?k1 ?k2 ?k3 ?k4 ?k5 ?kA ?kF ?kK ?k6 ?k7 ?k8 ?k9 ?kB ?kD ?_ ?c2 ?c3 ?c4; (case kA => exact rfl); (case kF => exact rfl); (case kK => assumption); (case k1 => k_asm); (case k2 => k_asm); (case k3 => k_asm); (case k4 => k_asm); (case k5 => k_asm); (case k6 => k_is); (case k7 => k_is); (case k8 => ktr_room); (case k9 => first | exact BindsTo.of_eq rfl | exact binds_K (by k_in) rfl (by k_is) rfl rfl rfl); (case kB => exact rfl); (case kD => decide +kernel); (case c2 => exact rfl); (case c3 => exact rfl); (case c4 => exact rfl); k_whole; intro g' L' h' tk' cells' FG' F' N' Y' B' X' T' l1; (try k_lt l1); k_cells Y'; (try simp only [List.cons_append, List.nil_append] at N'); (try dsimp only); (try k_lift B'); (try k_fold)))
local macro_rules | `(tactic| k_all) => `(tactic| assumption)
local macro_rules | `(tactic| walk_at "none") => `(tactic| fail)
local macro_rules | `(tactic| walk_at "none") => `(tactic| fail)
local macro_rules | `(tactic| walk_at "none") => `(tactic| fail)
local macro_rules | `(tactic| walk_at "none") => `(tactic| fail)
local macro_rules | `(tactic| walk_at "none") => `(tactic| fail)
local macro_rules | `(tactic| walk_at "none") => `(tactic| fail)
local macro_rules | `(tactic| walk_at "none") => `(tactic| fail)
local macro_rules | `(tactic| walk_at "none") => `(tactic| fail)
local macro_rules | `(tactic| walk_at "none") => `(tactic| fail)
local macro_rules | `(tactic| walk_at "none") => `(tactic| fail)
local macro_rules | `(tactic| walk_at "none") => `(tactic| fail)
local macro_rules | `(tactic| walk_at "none") => `(tactic| fail)
local macro_rules | `(tactic| walk_at "none") => `(tactic| fail)
local macro_rules | `(tactic| walk_at "none") => `(tactic| fail)
local macro_rules | `(tactic| walk_at "none") => `(tactic| fail)
local macro_rules | `(tactic| walk_at "none") => `(tactic| fail)
local macro_rules | `(tactic| walk_at "none") => `(tactic| fail)
local macro_rules | `(tactic| walk_at "none") => `(tactic| fail)
local macro_rules | `(tactic| walk_at "none") => `(tactic| fail)
local macro_rules | `(tactic| walk_at "none") => `(tactic| fail)
local macro_rules | `(tactic| walk_at "none") => `(tactic| fail)
local macro_rules | `(tactic| walk_at "none") => `(tactic| fail)
local macro_rules | `(tactic| walk_at "none") => `(tactic| fail)
local macro_rules | `(tactic| walk_at "none") => `(tactic| fail)
local macro_rules | `(tactic| walk_at "none") => `(tactic| fail)
local macro_rules | `(tactic| walk_at "none") => `(tactic| fail)
local macro_rules | `(tactic| walk_at "none") => `(tactic| fail)
local macro_rules | `(tactic| walk_at "none") => `(tactic| fail)
local macro_rules | `(tactic| walk_at "none") => `(tactic| fail)
local macro_rules | `(tactic| walk_at "none") => `(tactic| fail)
local macro_rules | `(tactic| walk_at "call ref") => `(tactic| k_extra "call ref")
local macro_rules | `(tactic| walk_at "formatField int") => `(tactic| (k_here; refine formatField_hex (by decide +kernel) ?g1 ?g2 ?_; (case g1 => k_extra "field ge"); (case g2 => k_extra "field len"); (intro t8 k8; (try dsimp only))))
local macro_rules | `(tactic| walk_at "call builtin:list.append") => `(tactic| (k_here; (show wpAny _ _ (call (Value.builtin "list.append") [Value.ref _, _]) _ _ _); k_dflt (refine' append_K ?k1 ?k2 ?k3 ?_ ?z; (case k1 => k_asm); (case k2 => k_asm); (case k3 => k_upd); (case z => size_fits); k_whole); intro h' F' N'; (try dsimp only); (try k_sweep)))
theorem led6_out {α : Type} {a b c d e f : α} {r : List α} : ∀ p ∈ a :: f :: r, p ∈ a :: b :: c :: d :: e :: f :: r := by
  intro p hp
  simp only [List.mem_cons] at hp ⊢
  rcases hp with e | e | e <;> simp [e]
/-- the closure that hash_with_depth_int(_law_simple) gives, over the ledger led -/
abbrev Clo (w : World) (p : Program) (loose : List Str) (mean : ExcName → Option Value) (mg mb : Str → Option Value) (base h₀ : Heap) (f : Addr) (ps : Array Value) (led rest : List (Addr × Obj)) : Prop :=
  (∀ (L : Addr) (h : Heap), News h₀ L h (led ++ rest) → FnAt f h) ∧ ∀ (dp un : Nat) (gd : Option (List Code)) (cn : Str) (cs : Scope) (a : Addr) (ccd : Value) (cl : List (Str × Addr)) (outer : List Env) (A₀ : Around) (L : Addr) (m : Str → Option Value) (s : Shared) (Q E : Value → Shared → Prop) (x : Str) (depth : Int) (t1 t2 : Tok),
    Below A₀ base outer h₀ → Fr h₀ L s.heap m → News h₀ L s.heap (led ++ rest) → Top p loose mean mg mb h₀ → cs.kind = .function → x.cps.size ≤ 100 → (∀ c ∈ x.cps.toList, c < 256) → 1 ≤ depth ∧ depth ≤ 1000 → dp + 4 < recursionLimit → un + 32 < cLine →
    BackL h₀ L m ((23, tabObj ps) :: rest) s Q (dueL x depth.toNat) → wpAny (model Prog w) (ktrTop dp un gd cn cs L a ccd cl outer) (call (.ref f) [.str x t1, .int depth t2]) Q E s
theorem pack5 {h : Heap} {a b c d : Addr × Obj} {ps : Array Value} {P : Prop} (hN : News h₀ L h (a :: b :: c :: d :: (23, tabObj ps) :: rest)) (k : ∀ ps' : Array Value, News h₀ L h (a :: b :: c :: d :: (23, tabObj ps') :: rest) → P) : P := k ps hN
theorem hwd_c (B : Below A₀ base outer h₀) (F : Fr h₀ L s.heap m) (X : (KP w).In h₀) (C : CodeHd base 27 23) (N : News h₀ L s.heap ((23, tabObj #[]) :: rest)) (T : Top p loose mean mg mb h₀) (hk : cs.kind = .function)
    (hr : ∀ p ∈ rest, p.1 ≠ 23) (hd : dp + 4 < recursionLimit) (hu : un + 32 < cLine)
    (hret : ∀ (f : Addr) (ps : Array Value) (led : List (Addr × Obj)) (h' : Heap) (tk' : Nat), Fr h₀ L h' m → News h₀ L h' (led ++ rest) → Clo w p loose mean mg mb base h₀ f ps led rest → Q (.ref f) { s with heap := h', toks := tk' }) :
    wpAny (model Prog w) (ktrTop dp un gd cn cs L a ccd cl outer) (call (.ref 28) [.ref 359]) Q E s := by
  dsimp only [Prog, KP, Back, BackL] at *
  revert X
  w_top off
  k_fill
  intro X
  refine wpAny_call ?_
  k_dflt cell_enter
  have hIz := IntsAre.nil
  k_with_none
  k_steps
  rename News h₀ L _ (_ :: _) => hN
  rename Fr h₀ L _ _ => hF
  refine pack5 hN ?_
  clear hN
  intro ps' hN
  refine hret _ ps' [_, _, _, _, (23, tabObj ps')] _ _ hF hN ?clo
  case clo =>
  clear hF hN hret hd hu hk F N B
  refine And.intro ?fn ?_
  case fn => exact fun L h N => FnAt.of N (List.mem_append_left _ (by k_mem))
  dsimp only [Clo, Prog, BackL, List.cons_append, List.nil_append]
  intro dp un gd cn cs a ccd cl outer A₀ L m s Q E x depth t1 t2 B F N T hk hx hc hdep hd hu hret
  k_with "call ref" => (k_here; first
    | (k_dflt (refine' simple_c ?k1 ?k2 ?k3 ?k4 ?k5 ?kK ?kx ?kd ?ku ?_); (case k1 => k_asm); (case k2 => k_asm); (case k3 => k_asm); (case k4 => k_asm); (case k5 => k_asm); (case kK => first | exact rfl | assumption); (case kx => first | assumption | (rename DueInv _ _ _ _ => hI; have hb := hI.ok hx hc (by omega); exact Nat.le_trans (hexS_size (by omega)) (by omega))); (case kd => ktr_room); (case ku => ktr_units); (intro t9 h9 tk9 F9 N9; (try dsimp only); (try k_fold)))
    | (refine wpAny_call ?_; k_dflt (refine' kdv_code ?k1 ?k2 ?k3 ?k4 ?k5 ?kA ?kF ?kK ?k6 ?k7 ?k8 ?k9 ?kB ?_ ?c2 ?c3 ?c4 ?c5; (case kA => exact rfl); (case kF => exact rfl); (case kK => assumption); (case k1 => k_asm); (case k2 => k_asm); (case k3 => k_asm); (case k4 => k_asm); (case k5 => k_asm); (case k6 => k_mem); (case k7 => exact codeRec_news (by k_asm) (by k_mem) (by assumption) (by assumption)); (case k8 => ktr_room); (case k9 => kdv_bind); (case c5 => decide); (case kB => exact locs rfl); (case c2 => exact rfl); (case c3 => exact rfl); (case c4 => exact rfl); k_whole; intro g' L' h' FG' F' N' B' X' T'; (try dsimp only); (try k_lift B'); (try k_fold))))
  k_with "pyIter ref" => k_state (fun pre tmp res => res.length = pre.length + 1 ∧ DueInv x pre tmp res) "tmp" "res"
  k_with "field ge" => (rename DueInv _ _ _ _ => hI; exact (hI.ok hx hc (by omega)).1)
  k_with "field len" => (rename DueInv _ _ _ _ => hI; have hb := hI.ok hx hc (by omega); exact Nat.le_trans (hexS_size (by omega)) (by rw [sizeLine_eq]; decide))
  k_with "state" => (refine And.intro ?_ ?_ <;> first | exact DueInv.zero | exact rfl | ((simp only [List.length_append, List.length_cons, List.length_nil]) <;> omega) | exact DueInv.next (by assumption) (by assumption))
  k_steps
  all_goals
    rename DueInv _ _ _ _ => hI
    have hJ := kFacts
    (try dsimp only at hJ)
    have e9 : (depth - 1).toNat + 1 = depth.toNat := by omega
    rw [hI.res, rangeKs_length, e9] at hJ
    rename News h₀ L _ (_ :: _) => hN
    rename (_ ∧ _ ∧ _ ∧ _ ∧ _ ∧ AllLt _ _) => hl
    exact hret _ _ _ _ _ (by k_asm) (cb_drop hN led6_out) hJ (fun p hp => (List.mem_cons.mp hp).elim (fun e => by rw [e]; exact hl.2.2.2.2.1) (kst_ltOf hl.2.2.2.2.2 p))
end
end Mine
end Part16
section Part17
open PySem PySem.W PySem.Calls PyProof.Rows
namespace Mine
/-- is the bit j borne by the octets Bs -/
def bit (Bs : List Int) (j : Nat) : Bool := (Bs.getD (j / 8) 0).toNat.testBit (j % 8)
theorem and_pow (c i : Nat) : c &&& 2 ^ i = (c.testBit i).toNat * 2 ^ i := by
  apply Nat.eq_of_testBit_eq
  intro j
  rw [Nat.testBit_and, Nat.testBit_two_pow]
  by_cases q : i = j
  · subst q
    cases h : c.testBit i <;> simp
  · cases h : c.testBit i <;> simp [q]
theorem pow_nat_nonneg (i : Nat) : (0 : Int) ≤ ((2 ^ i : Nat) : Int) := Int.natCast_nonneg _
theorem and8_bit {b k : Int} (hb : 0 ≤ b) (hk : 0 ≤ k) : and8 b k = (((b.toNat.testBit (k.toNat % 8)).toNat * 2 ^ (k.toNat % 8) : Nat) : Int) := by
  obtain ⟨c, rfl⟩ := Int.eq_ofNat_of_zero_le hb
  obtain ⟨n, rfl⟩ := Int.eq_ofNat_of_zero_le hk
  have e : ((n : Int)).fmod 8 = ((n % 8 : Nat) : Int) := by rw [Int.fmod_eq_emod_of_nonneg _ (by omega)]; omega
  unfold and8 pow8
  rw [e, Int.toNat_natCast, pow_toNat, bitAnd_pp (Int.natCast_nonneg _) (pow_nat_nonneg _)]
  simp only [Int.toNat_natCast]
  rw [and_pow]
theorem getD_nonneg {Bs : List Int} (h : ∀ b ∈ Bs, 0 ≤ b) (i : Nat) : 0 ≤ Bs.getD i 0 := by
  rw [List.getD_eq_getElem?_getD]
  cases q : Bs[i]? with
  | none => simp
  | some b => exact h b (List.mem_of_getElem? q)
theorem fdiv8 {k : Int} (hk : 0 ≤ k) : (k.fdiv 8).toNat = k.toNat / 8 := by
  rw [Int.fdiv_eq_ediv_of_nonneg _ (by omega)]; omega
theorem fmod_nb {h nb : Int} (hn : 0 < nb) : 0 ≤ h.fmod nb ∧ h.fmod nb < nb := by
  rw [Int.fmod_eq_emod_of_nonneg _ (by omega)]
  exact ⟨Int.emod_nonneg h (by omega), Int.emod_lt_of_pos h hn⟩
theorem on8_bit {Bs : List Int} {nb h : Int} (hB : ∀ b ∈ Bs, 0 ≤ b) (hn : 0 < nb) : on8 Bs nb h = bit Bs (h.fmod nb).toNat := by
  have hk := (fmod_nb (h := h) hn).1
  unfold on8 bit
  rw [and8_bit (getD_nonneg hB _) hk, fdiv8 hk]
  cases (Bs.getD ((h.fmod nb).toNat / 8) 0).toNat.testBit ((h.fmod nb).toNat % 8) with
  | false => simp
  | true =>
    have := Nat.two_pow_pos ((h.fmod nb).toNat % 8)
    simp only [Bool.toNat_true, Nat.one_mul]
    rw [Bool.not_eq_true', beq_eq_false_iff_ne]
    omega
theorem bitOr_pp {x y : Int} (hx : 0 ≤ x) (hy : 0 ≤ y) : Builtin.bitOr x y = ((x.toNat ||| y.toNat : Nat) : Int) := by
  obtain ⟨a, rfl⟩ := Int.eq_ofNat_of_zero_le hx
  obtain ⟨b, rfl⟩ := Int.eq_ofNat_of_zero_le hy
  rw [bitOr_and, bitAnd_pp hx hy]
  simp only [Int.toNat_natCast]
  have h1 := add_xor_and a b
  have h2 := add_xor_and (a ^^^ b) (a &&& b)
  have h3 : (a ^^^ b) &&& (a &&& b) = 0 := by
    apply Nat.eq_of_testBit_eq
    intro i
    simp only [Nat.testBit_and, Nat.testBit_xor, Nat.zero_testBit]
    cases a.testBit i <;> cases b.testBit i <;> rfl
  have h4 : (a ^^^ b) ^^^ (a &&& b) = a ||| b := by
    apply Nat.eq_of_testBit_eq
    intro i
    simp only [Nat.testBit_and, Nat.testBit_xor, Nat.testBit_or]
    cases a.testBit i <;> cases b.testBit i <;> rfl
  rw [h3, h4] at h2
  omega
theorem put8_nonneg {nb h : Int} {Bs : List Int} (hB : ∀ b ∈ Bs, 0 ≤ b) (hn : 0 < nb) : ∀ b ∈ put8 nb Bs h, 0 ≤ b := by
  intro b hb
  unfold put8 at hb
  rcases List.mem_or_eq_of_mem_set hb with q | q
  · exact hB b q
  · rw [q]
    unfold or8 pow8
    rw [pow_toNat, bitOr_pp (getD_nonneg hB _) (pow_nat_nonneg _)]
    exact Int.natCast_nonneg _
theorem put8_bit {nb h : Int} {Bs : List Int} (hB : ∀ b ∈ Bs, 0 ≤ b) (hn : 0 < nb) (hl : (Bs.length : Int) * 8 ≥ nb) (j : Nat) : bit (put8 nb Bs h) j = (bit Bs j || j == (h.fmod nb).toNat) := by
  have hk := fmod_nb (h := h) hn
  obtain ⟨k, hk2⟩ := Int.eq_ofNat_of_zero_le hk.1
  unfold put8 bit
  rw [fdiv8 hk.1, hk2, Int.toNat_natCast]
  have hi : k / 8 < Bs.length := by omega
  have e : ((k : Int)).fmod 8 = ((k % 8 : Nat) : Int) := by rw [Int.fmod_eq_emod_of_nonneg _ (by omega)]; omega
  simp only [List.getD_eq_getElem?_getD, List.getElem?_set]
  by_cases q : k / 8 = j / 8
  · rw [if_pos q, if_pos hi, Option.getD_some]
    unfold or8 pow8
    rw [e, Int.toNat_natCast, pow_toNat, bitOr_pp (by have := getD_nonneg hB (k / 8); rwa [List.getD_eq_getElem?_getD] at this) (pow_nat_nonneg _)]
    simp only [Int.toNat_natCast]
    rw [Nat.testBit_or, Nat.testBit_two_pow, q]
    congr 1
    rw [Bool.eq_iff_iff]
    simp only [decide_eq_true_eq, beq_iff_eq]
    omega
  · rw [if_neg q]
    have : (j == k) = false := by
      rw [beq_eq_false_iff_ne]; intro z; exact q (by rw [z])
    rw [this, Bool.or_false]
theorem putL_nonneg {nb : Int} (hn : 0 < nb) (hs : List Int) : ∀ {Bs : List Int}, (∀ b ∈ Bs, 0 ≤ b) → ∀ b ∈ putL nb Bs hs, 0 ≤ b := by
  induction hs with
  | nil => intro Bs hB; exact hB
  | cons h r ih => intro Bs hB; exact ih (put8_nonneg hB hn)
theorem putL_bit {nb : Int} (hn : 0 < nb) (j : Nat) (hs : List Int) : ∀ {Bs : List Int}, (∀ b ∈ Bs, 0 ≤ b) → (Bs.length : Int) * 8 ≥ nb → bit (putL nb Bs hs) j = (bit Bs j || (hs.map fun h => (h.fmod nb).toNat).contains j) := by
  induction hs with
  | nil => intro Bs _ _; simp [putL]
  | cons h r ih =>
    intro Bs hB hl
    have hl' : ((put8 nb Bs h).length : Int) * 8 ≥ nb := by unfold put8; rw [List.length_set]; exact hl
    show bit (putL nb (put8 nb Bs h) r) j = _
    rw [ih (put8_nonneg hB hn) hl', put8_bit hB hn hl, List.map_cons, List.contains_cons, Bool.or_assoc]
theorem zeros_bit (n j : Nat) : bit (List.replicate n 0) j = false := by
  unfold bit
  have : (List.replicate n (0 : Int)).getD (j / 8) 0 = 0 := by
    rw [List.getD_eq_getElem?_getD, List.getElem?_replicate]
    split <;> rfl
  rw [this]
  simp
end Mine
end Part17
section Part18
open PySem PySem.W PySem.Calls PyProof.Rows
namespace Mine
theorem cap_script {w : List Int} (_h : Spec.Shape.int.list.has (PyData.list (List.map PyData.int w)) = true) : ∃ x : List Int, x = w := ⟨_, rfl⟩
theorem signs_ok (X : List Int) : ∀ n ∈ X.map (fun k' => Int.fmod k' 256), 0 ≤ n ∧ n < 256 := fun n hn => by
  obtain ⟨y, _, rfl⟩ := List.mem_map.mp hn
  exact low_byte y
theorem signs_len (nums : List Int) (k : Nat) (hk : k ≤ 20) : (List.map (fun k' => Int.fmod k' 256) (List.take (min k nums.length - 1) (List.drop 1 nums))).length ≤ 20 := by
  rw [List.length_map, List.length_take]
  omega
theorem join_cps (f : Int → Str) (hf : ∀ n, (f n).cps.toList = [n.toNat]) : ∀ S : List Int, (Txt.join (Str.ofString "") (S.map f)).cps.toList = S.map Int.toNat := by
  intro S
  show (Builtin.Str.glued (Str.ofString "") (S.map f)).cps.toList = _
  rw [StrLaws.glued_eq_join]
  have z : (Str.ofString "").cps.toList = [] := by decide +kernel
  induction S with
  | nil => rfl
  | cons n r ih =>
    cases r with
    | nil => simpa [Str.join] using hf n
    | cons k r =>
      show (f n ++ Str.ofString "" ++ Str.join (Str.ofString "") ((k :: r).map f)).cps.toList = _
      rw [Str.cps_append, Str.cps_append, Array.toList_append, Array.toList_append, ih, hf, z]
      rfl
theorem bytes_codes {S : List Int} (h : ∀ n ∈ S, 0 ≤ n ∧ n < 256) : (byteArr S).toList.map UInt8.toNat = S.map Int.toNat := by
  unfold byteArr
  simp only [List.map_map]
  apply List.map_congr_left
  intro n hn
  obtain ⟨h1, h2⟩ := h n hn
  show (n.toNat.toUInt8).toNat = n.toNat
  rw [Nat.toUInt8_eq, UInt8.toNat_ofNat']
  omega
theorem wide_same (cs : List Nat) {d : Int} (_h : 0 ≤ d) : hashesL cs d.toNat = List.map (fun k => ((fnvS 14695981039346656037 1099511628211 64 k.toNat cs : Nat) : Int)) (rangeKs 0 (d - 0).toNat) := by
  unfold hashesL rangeKs
  rw [List.map_map, Int.sub_zero]
  apply List.map_congr_left
  intro i _
  show ((fnvS 14695981039346656037 1099511628211 64 i cs : Nat) : Int) = ((fnvS 14695981039346656037 1099511628211 64 (0 + (i : Int)).toNat cs : Nat) : Int)
  rw [Int.zero_add, Int.toNat_natCast]
theorem turn_ok {k d : Int} (h1 : 0 ≤ k) (h2 : k < 0 + ((d - 0).toNat : Int)) (h3 : 1 ≤ d ∧ d ≤ 20) : 0 ≤ k ∧ k < 2 ^ 62 := by omega
end Mine
end Part18
section Part19
open PySem PySem.W PySem.Calls PyProof.Rows
namespace Mine
theorem DueS.valAt {x : Str} {pre due : List Int} {k d : Int} (h : DueS x pre due) (hx : x.cps.size ≤ 100) (hc : ∀ c ∈ x.cps.toList, c < 256) (hk : k = 1 + (pre.length : Int)) (hl : pre.length < (d - 1).toNat) (hd : 1 ≤ d ∧ d ≤ 1000) :
    0 ≤ due.getD (k - 1).toNat 0 ∧ due.getD (k - 1).toNat 0 < 2 ^ 64 := h.val hx hc (by omega) (by omega)
theorem DueS.sizeAt {x : Str} {pre due : List Int} {k d : Int} (h : DueS x pre due) (hx : x.cps.size ≤ 100) (hc : ∀ c ∈ x.cps.toList, c < 256) (hk : k = 1 + (pre.length : Int)) (hl : pre.length < (d - 1).toNat) (hd : 1 ≤ d ∧ d ≤ 1000) :
    (⟨(smallL (due.getD (k - 1).toNat 0).toNat).toArray⟩ : Str).cps.size ≤ 100 := h.size hx hc (by omega) (by omega)
theorem DueS.nextAt {x : Str} {pre due : List Int} {k : Int} (h : DueS x pre due) (hk : k = 1 + (pre.length : Int)) :
    DueS x (pre ++ [k]) (due ++ [simpleRaw ⟨(smallL (due.getD (k - 1).toNat 0).toNat).toArray⟩ * 977 + k]) := h.next hk (by omega)
theorem DueS.fin {x : Str} {due : List Int} {d : Int} (h : DueS x (rangeKs 1 (d - 1).toNat) due) (hd : 1 ≤ d ∧ d ≤ 1000) : dueL x d.toNat = due := by
  rw [h.res, rangeKs_length]
  congr 1
  omega
theorem put_len {nb : Int} (hs : List Int) : ∀ Bs : List Int, (putL nb Bs hs).length = Bs.length := fun Bs => putL_length nb Bs hs
theorem zeros_nonneg (n : Nat) : ∀ b ∈ List.replicate n (0 : Int), 0 ≤ b := fun b hb => by rw [(List.mem_replicate.mp hb).2]; exact Int.le_refl 0
/-- nothing is told of an empty filter -/
theorem zeros_no {n : Nat} {nb nh : Int} {cs : List Nat} (hnb : 0 < nb) (hnh : 1 ≤ nh ∧ nh ≤ 20) : (hashesL cs nh.toNat).all (on8 (List.replicate n 0) nb) = false := by
  obtain ⟨k, hk⟩ : ∃ k, nh.toNat = k + 1 := ⟨nh.toNat - 1, by omega⟩
  rw [hk]
  unfold hashesL
  rw [List.range_succ_eq_map, List.map_cons, List.all_cons, on8_bit (zeros_nonneg n) hnb, zeros_bit, Bool.false_and]
/-- what was put in is told -/
theorem added_yes {Bs : List Int} {nb : Int} {hs : List Int} (hB : ∀ b ∈ Bs, 0 ≤ b) (hnb : 0 < nb) (hl : (Bs.length : Int) * 8 ≥ nb) : hs.all (on8 (putL nb Bs hs) nb) = true := by
  rw [List.all_eq_true]
  intro h hh
  rw [on8_bit (putL_nonneg hnb hs hB) hnb, putL_bit hnb _ hs hB hl, Bool.or_eq_true]
  right
  rw [List.contains_iff_mem]
  exact List.mem_map.mpr ⟨h, hh, rfl⟩
theorem eighths {nb : Int} (h : 12 ≤ nb ∧ nb ≤ 28) : ((List.replicate (-(-nb).fdiv 8).toNat (0 : Int)).length : Int) * 8 ≥ nb ∧ (List.replicate (-(-nb).fdiv 8).toNat (0 : Int)).length < 1000 := by
  rw [List.length_replicate, Int.fdiv_eq_ediv_of_nonneg _ (by omega)]
  omega
end Mine
end Part19
section Part20
open PySem PySem.W PySem.Calls PyProof.Rows
namespace Mine
section
variable {w : World} {p : Program} {loose : List Str} {mean : ExcName → Option Value} {mg mb : Str → Option Value} {news : List (Addr × Obj)}
  {dp un : Nat} {gd : Option (List Code)} {cn : Str} {cs : Scope} {a : Addr} {ccd : Value} {cl : List (Str × Addr)} {outer : List Env} {A₀ : Around} {base h₀ : Heap} {L : Addr} {m : Str → Option Value} {s : Shared} {Q E : Value → Shared → Prop}
theorem dropLast_last {α : Type} {l r : List α} {x : α} (h : l = r ++ [x]) : ∀ q ∈ x :: r, q ∈ l := by
  subst h
  intro q hq
  rcases List.mem_cons.mp hq with e | e
  · simp [e]
  · simp [e]
/-- the entries of a ledger at the places named -/
def pickL (l : List (Addr × Obj)) : List Nat → List (Addr × Obj)
  | [] => []
  | i :: r => match l[i]? with
    | some p => p :: pickL l r
    | none => pickL l r
theorem pickL_sub (l : List (Addr × Obj)) : ∀ (is : List Nat), ∀ q ∈ pickL l is, q ∈ l
  | [], q, h => by cases h
  | i :: r, q, h => by
    unfold pickL at h
    cases e : l[i]? with
    | none => rw [e] at h; exact pickL_sub l r q h
    | some p =>
      rw [e] at h
      rcases List.mem_cons.mp h with z | z
      · rw [z]; exact List.mem_of_getElem? e
      · exact pickL_sub l r q z
theorem pickN {h₀ h : Heap} {L : Addr} {l : List (Addr × Obj)} (is : List Nat) (N : News h₀ L h l) : News h₀ L h (pickL l is) := cb_drop N (pickL_sub l is)
structure Hid (P : Prop) : Prop where
  go : P
theorem apart_of {a d x bl : Nat} (h : a < d) (h1 : d < x) (h2 : x < bl) : a ≠ bl ∧ a ≠ x := by omega
theorem hash_size {vs : List Value} {cs : List Nat} {nh : Int} (I : IntsAre vs (hashesL cs nh.toNat)) (h : 1 ≤ nh ∧ nh ≤ 20) : vs.toArray.size ≤ sizeLine := by
  rw [List.size_toArray, IntsAre.length I, hashesL_length, PySem.sizeLine_eq]
  omega
theorem list_no_tab {v : Array Value} {n : Nat} : listOf v n ≠ tabObj #[] := by
  intro h
  have := congrArg Obj.data h
  exact absurd this (fun e => by cases e)
theorem lst_no_tab {v : List Value} : LCg.lst v ≠ tabObj #[] := by
  intro h
  have := congrArg Obj.data h
  exact absurd this (fun e => by cases e)
theorem far1 {n : Nat} (h : 23 < n) : n + 1 ≠ 23 := by omega
theorem far2 {n : Nat} (h : 23 < n) : n + 1 + 1 ≠ 23 := by omega
theorem far3 {n : Nat} (h : 23 < n) : n + 1 + 1 + 1 ≠ 23 := by omega
/-- hwd_c with the table's entry at the end of the ledger -/
theorem hwd_e {rest : List (Addr × Obj)} (B : Below A₀ base outer h₀) (F : Fr h₀ L s.heap m) (X : (KP w).In h₀) (C : CodeHd base 27 23) (N : News h₀ L s.heap news) (T : Top p loose mean mg mb h₀) (hk : cs.kind = .function)
    (he : news.getLast? = some (23, tabObj #[])) (hr : ∀ p ∈ news.dropLast, p.2 ≠ tabObj #[] ∨ p.1 ≠ 23) (hd : dp + 4 < recursionLimit) (hu : un + 32 < cLine) (hdl : rest = news.dropLast)
    (hret : ∀ (f : Addr) (ps : Array Value) (led : List (Addr × Obj)) (h' : Heap) (tk' : Nat), Fr h₀ L h' m → News h₀ L h' (led ++ rest) → Clo w p loose mean mg mb base h₀ f ps led rest → Q (.ref f) { s with heap := h', toks := tk' }) :
    wpAny (model Prog w) (ktrTop dp un gd cn cs L a ccd cl outer) (call (.ref 28) [.ref 359]) Q E s := by
  subst hdl
  obtain ⟨ys, e⟩ := List.getLast?_eq_some_iff.mp he
  have e2 : news = news.dropLast ++ [(23, tabObj #[])] := by rw [e, List.dropLast_concat]
  refine hwd_c B F X C (cb_drop N (dropLast_last e2)) T hk (fun p hp => ?_) hd hu hret
  rcases hr p hp with q | q
  · intro z
    have h1 := (N p (List.dropLast_subset _ hp)).1
    have h2 := (N (23, tabObj #[]) (by rw [e2]; simp)).1
    rw [z, h2] at h1
    exact q (Option.some.inj h1).symm
  · exact q
/-- check, its answer known -/
theorem checkS_e {y : Str} {t1 : Tok} {x d bl : Addr} {blen els est fpr nb nh : Int} {u0 u1 u2 u3 u4 u5 u6 u7 : Tok} {vs : List Value} {n : Nat} {Bs : List Int} {b : Bool} (B : Below A₀ base outer h₀) (F : Fr h₀ L s.heap m) (X : (KP w).In h₀) (N : News h₀ L s.heap news) (T : Top p loose mean mg mb h₀) (hk : cs.kind = .function)
    (hx : (x, bloomObj d bl blen els est fpr nb nh u0 u1 u2 u3 u4 u5 u6 u7) ∈ news) (hdx : (d, dictOf [] 0) ∈ news) (hbl : (bl, listOf vs.toArray n) ∈ news) (hB : IntsAre vs Bs) (hy : y.cps.size ≤ 1000) (hc : ∀ c ∈ y.cps.toList, c < 256) (hnh2 : 1 ≤ nh ∧ nh ≤ 20) (hnb : 12 ≤ nb ∧ nb ≤ 28) (hBl : (Bs.length : Int) * 8 ≥ nb ∧ Bs.length < 1000)
    (e : (hashesL y.cps.toList nh.toNat).all (on8 Bs nb) = b) (hd : dp + 4 < recursionLimit) (hu : un + 32 < cLine)
    (hret : Back h₀ L m news s Q (fun _ => .bool b)) :
    wpAny (model Prog w) (ktrTop dp un gd cn cs L a ccd cl outer) (call (.ref 249) [.ref x, .str y t1]) Q E s := by
  subst e
  exact checkS_c B F X N T hk hx hdx hbl hB hy hc hnh2 hnb hBl.1 hBl.2 hd hu hret
theorem checkB_e {y : Array UInt8} {t1 : Tok} {x d bl : Addr} {blen els est fpr nb nh : Int} {u0 u1 u2 u3 u4 u5 u6 u7 : Tok} {vs : List Value} {n : Nat} {Bs : List Int} {b : Bool} (B : Below A₀ base outer h₀) (F : Fr h₀ L s.heap m) (X : (KP w).In h₀) (N : News h₀ L s.heap news) (T : Top p loose mean mg mb h₀) (hk : cs.kind = .function)
    (hx : (x, bloomObj d bl blen els est fpr nb nh u0 u1 u2 u3 u4 u5 u6 u7) ∈ news) (hdx : (d, dictOf [] 0) ∈ news) (hbl : (bl, listOf vs.toArray n) ∈ news) (hB : IntsAre vs Bs) (hy : y.size ≤ 1000) (hnh2 : 1 ≤ nh ∧ nh ≤ 20) (hnb : 12 ≤ nb ∧ nb ≤ 28) (hBl : (Bs.length : Int) * 8 ≥ nb ∧ Bs.length < 1000)
    (e : (hashesL (y.toList.map UInt8.toNat) nh.toNat).all (on8 Bs nb) = b) (hd : dp + 4 < recursionLimit) (hu : un + 32 < cLine)
    (hret : Back h₀ L m news s Q (fun _ => .bool b)) :
    wpAny (model Prog w) (ktrTop dp un gd cn cs L a ccd cl outer) (call (.ref 249) [.ref x, .bytes y t1]) Q E s := by
  subst e
  exact checkB_c B F X N T hk hx hdx hbl hB hy hnh2 hnb hBl.1 hBl.2 hd hu hret
local macro_rules | `(tactic| cell_enter) => `(tactic| (refine' code_def ?k1 ?k2 ?k3 ?k4 ?k5 ?kA ?kF ?kK ?k6 ?k7 ?k8 ?k9 ?kB ?_ ?c2 ?c3 ?c4 ?c5; (case kA => exact rfl); (case kF => exact rfl); (case kK => assumption); (case k1 => k_asm); (case k2 => k_asm); (case k3 => k_asm); (case k4 => k_asm); (case k5 => k_asm); (case k6 => k_is); (case k7 => k_is); (case k8 => ktr_room); (case k9 => first | exact BindsTo.of_eq rfl | exact binds_K (by k_in) rfl (by k_is) rfl rfl rfl); (case c5 => decide); (case kB => exact locs rfl); (case c2 => exact rfl); (case c3 => exact rfl); (case c4 => exact rfl); k_whole; intro g' L' h' FG' F' N' B' X' T'; (try dsimp only); (try k_lift B'); (try k_fold)))
local macro_rules | `(tactic| k_memK) => `(tactic| first | assumption | exact List.Mem.head _)
local macro_rules | `(tactic| walk_at "none") => `(tactic| fail)
local macro_rules | `(tactic| walk_at "none") => `(tactic| fail)
local macro_rules | `(tactic| walk_at "none") => `(tactic| fail)
local macro_rules | `(tactic| walk_at "none") => `(tactic| fail)
local macro_rules | `(tactic| walk_at "none") => `(tactic| fail)
local macro_rules | `(tactic| walk_at "none") => `(tactic| fail)
local macro_rules | `(tactic| walk_at "none") => `(tactic| fail)
local macro_rules | `(tactic| walk_at "none") => `(tactic| fail)
local macro_rules | `(tactic| walk_at "none") => `(tactic| fail)
local macro_rules | `(tactic| walk_at "none") => `(tactic| fail)
local macro_rules | `(tactic| walk_at "none") => `(tactic| fail)
local macro_rules | `(tactic| walk_at "none") => `(tactic| fail)
local macro_rules | `(tactic| walk_at "none") => `(tactic| fail)
local macro_rules | `(tactic| walk_at "none") => `(tactic| fail)
local macro_rules | `(tactic| walk_at "none") => `(tactic| fail)
local macro_rules | `(tactic| walk_at "none") => `(tactic| fail)
local macro_rules | `(tactic| walk_at "none") => `(tactic| fail)
local macro_rules | `(tactic| walk_at "none") => `(tactic| fail)
local macro_rules | `(tactic| walk_at "none") => `(tactic| fail)
local macro_rules | `(tactic| walk_at "none") => `(tactic| fail)
local macro_rules | `(tactic| walk_at "none") => `(tactic| fail)
local macro_rules | `(tactic| walk_at "none") => `(tactic| fail)
local macro_rules | `(tactic| walk_at "none") => `(tactic| fail)
local macro_rules | `(tactic| walk_at "none") => `(tactic| fail)
local macro_rules | `(tactic| walk_at "none") => `(tactic| fail)
local macro_rules | `(tactic| walk_at "none") => `(tactic| fail)
local macro_rules | `(tactic| walk_at "none") => `(tactic| fail)
local macro_rules | `(tactic| walk_at "none") => `(tactic| fail)
local macro_rules | `(tactic| walk_at "none") => `(tactic| fail)
local macro_rules | `(tactic| walk_at "none") => `(tactic| fail)
local macro_rules | `(tactic| walk_at "none") => `(tactic| fail)
local macro_rules | `(tactic| walk_at "none") => `(tactic| fail)
local macro_rules | `(tactic| walk_at "none") => `(tactic| fail)
local macro_rules | `(tactic| walk_at "none") => `(tactic| fail)
local macro_rules | `(tactic| walk_at "getMethod ref") => `(tactic| (k_here; k_dflt (first
  | (refine' meth_cmI ?k1 ?k2 ?k3 ?k4 ?k5 ?k6 ?k7 ?k8 ?k9 ?k10 ?k11 ?k12 ?k13 ?_; (case k1 => k_asm); (case k2 => k_asm); (case k3 => k_asm); (case k4 => k_inst); (case k5 => k_is); (case k6 => k_is); (case k7 => k_is); (case k8 => k_is); (case k9 => k_is); (case k10 => k_is); (case k11 => k_is); (case k12 => decide +kernel); (case k13 => k_is); k_whole; intro q' h' F' N' l1; (try k_lt l1); (try k_sweep))
  | (refine' meth_slotI ?k1 ?k2 ?k3 ?k4 ?k5 ?k6 ?k7 ?k8 ?k9 ?k10 ?k11 ?k12 ?_; (case k1 => k_asm); (case k2 => k_asm); (case k3 => k_inst); (case k4 => k_is); (case k5 => k_is); (case k6 => k_is); (case k7 => k_is); (case k8 => k_is); (case k9 => k_is); (case k10 => k_is); (case k11 => k_slotget); (case k12 => k_handed); k_whole))))
local macro_rules | `(tactic| walk_at "call ref") => `(tactic| (k_here; k_dflt (refine' checkB_e ?k1 ?k2 ?k3 ?k4 ?k5 ?kK ?kX ?kD ?kb ?kB ?ky ?kn ?kf ?kl ?ke ?kd ?ku ?_; (case k1 => k_asm); (case k2 => k_asm); (case k3 => k_asm); (case k4 => k_asm); (case k5 => k_asm); (case kK => first | exact rfl | assumption); (case kX => k_memK); (case kD => k_memK); (case kb => k_memK); (case kB => assumption); (case ky => assumption); (case kn => assumption); (case kf => assumption); (case kl => assumption); (case ke => assumption); (case kd => ktr_room); (case ku => ktr_units); (intro t9 h9 tk9 F9 N9; (try dsimp only); (try k_fold)))))
theorem containsB_c {y : Array UInt8} {t1 : Tok} {x d bl : Addr} {blen els est fpr nb nh : Int} {u0 u1 u2 u3 u4 u5 u6 u7 : Tok} {vs : List Value} {n : Nat} {Bs : List Int} {b : Bool} (B : Below A₀ base outer h₀) (F : Fr h₀ L s.heap m) (X : (KP w).In h₀) (N : News h₀ L s.heap news) (T : Top p loose mean mg mb h₀) (hk : cs.kind = .function)
    (hx : (x, bloomObj d bl blen els est fpr nb nh u0 u1 u2 u3 u4 u5 u6 u7) ∈ news) (hdx : (d, dictOf [] 0) ∈ news) (hbl : (bl, listOf vs.toArray n) ∈ news) (hB : IntsAre vs Bs) (hy : y.size ≤ 1000) (hnh2 : 1 ≤ nh ∧ nh ≤ 20) (hnb : 12 ≤ nb ∧ nb ≤ 28) (hBl : (Bs.length : Int) * 8 ≥ nb ∧ Bs.length < 1000)
    (e : (hashesL (y.toList.map UInt8.toNat) nh.toNat).all (on8 Bs nb) = b) (hd : dp + 5 < recursionLimit) (hu : un + 40 < cLine)
    (hret : Back h₀ L m news s Q (fun _ => .bool b)) :
    wpAny (model Prog w) (ktrTop dp un gd cn cs L a ccd cl outer) (call (.ref 132) [.ref x, .bytes y t1]) Q E s := by
  dsimp only [Prog, KP, Back, BackL] at *
  revert X
  w_top off
  k_fill
  intro X
  refine wpAny_call ?_
  k_dflt cell_enter
  have hIz := IntsAre.nil
  k_with_none
  k_steps
  all_goals exact hret 0 _ _ (by k_asm) (by k_asm)
end
end Mine
end Part20
section Part21
open PySem PySem.W PySem.Calls PyProof.Rows
namespace Mine
/-- the places of a table rise -/
def Rising (xs : Array Nat) : Prop := ∀ i j, i < j → j < xs.size → xs.getD i 0 < xs.getD j 0
theorem below_go (xs : Array Nat) (j : Nat) (R : Rising xs) : ∀ (fuel lo hi : Nat), lo ≤ hi → hi ≤ xs.size → hi - lo ≤ fuel → (∀ i, i < lo → xs.getD i 0 < j) → (∀ i, hi ≤ i → i < xs.size → j ≤ xs.getD i 0) →
    SetTable.below.go xs j fuel lo hi ≤ xs.size ∧ (∀ i, i < SetTable.below.go xs j fuel lo hi → xs.getD i 0 < j) ∧ (∀ i, SetTable.below.go xs j fuel lo hi ≤ i → i < xs.size → j ≤ xs.getD i 0)
  | 0, lo, hi, h1, h2, h3, h4, h5 => by
    have e : lo = hi := by omega
    subst e
    exact ⟨h2, h4, h5⟩
  | fuel + 1, lo, hi, h1, h2, h3, h4, h5 => by
    unfold SetTable.below.go
    by_cases h : lo < hi
    · rw [if_pos h]
      dsimp only
      have em : xs.getD ((lo + hi) / 2) j = xs.getD ((lo + hi) / 2) 0 := by
        have hm : (lo + hi) / 2 < xs.size := by omega
        rw [Array.getD_eq_getD_getElem?, Array.getD_eq_getD_getElem?, Array.getElem?_eq_getElem hm]
        rfl
      rw [em]
      by_cases q : xs.getD ((lo + hi) / 2) 0 < j
      · rw [if_pos q]
        refine below_go xs j R fuel _ hi (by omega) h2 (by omega) (fun i hi' => ?_) h5
        by_cases z : i = (lo + hi) / 2
        · rw [z]; exact q
        · exact Nat.lt_trans (R i ((lo + hi) / 2) (by omega) (by omega)) q
      · rw [if_neg q]
        refine below_go xs j R fuel lo _ (by omega) (by omega) (by omega) h4 (fun i hi' hs => ?_)
        by_cases z : i = (lo + hi) / 2
        · rw [z]; omega
        · have := R ((lo + hi) / 2) i (by omega) hs
          omega
    · rw [if_neg h]
      have e : lo = hi := by omega
      subst e
      exact ⟨h2, h4, h5⟩
theorem below_spec {xs : Array Nat} (j : Nat) (R : Rising xs) : SetTable.below xs j ≤ xs.size ∧ (∀ i, i < SetTable.below xs j → xs.getD i 0 < j) ∧ (∀ i, SetTable.below xs j ≤ i → i < xs.size → j ≤ xs.getD i 0) :=
  below_go xs j R xs.size 0 xs.size (Nat.zero_le _) (Nat.le_refl _) (by omega) (fun i h => absurd h (Nat.not_lt_zero _)) fun i h h' => by omega
/-- the place of what stands at i, and one more, leads to i + 1 -/
theorem below_next {xs : Array Nat} (R : Rising xs) {i : Nat} (hi : i < xs.size) : SetTable.below xs (xs.getD i 0 + 1) = i + 1 := by
  obtain ⟨a, b, c⟩ := below_spec (xs.getD i 0 + 1) R
  rcases Nat.lt_trichotomy (SetTable.below xs (xs.getD i 0 + 1)) (i + 1) with h | h | h
  · have := c i (by omega) hi; omega
  · exact h
  · have h1 := b (i + 1) h
    have h2 := R i (i + 1) (by omega) (by omega)
    omega
theorem below_zero {xs : Array Nat} (R : Rising xs) : SetTable.below xs 0 = 0 := by
  obtain ⟨a, b, c⟩ := below_spec 0 R
  by_cases h : SetTable.below xs 0 = 0
  · exact h
  · have := b 0 (by omega); omega
theorem getD_some {xs : Array Nat} {i : Nat} (h : i < xs.size) : xs[i]? = some (xs.getD i 0) := by
  rw [Array.getD_eq_getD_getElem?]
  simp [h]
theorem insertAt_size {α : Type} (xs : Array α) (p : Nat) (x : α) : (SetTable.insertAt xs p x).size = xs.size + 1 := by
  have := (SetTable.insertAt_perm xs p x).length_eq
  simpa using this
theorem insertAt_getD (xs : Array Nat) (p : Nat) (x : Nat) (hp : p ≤ xs.size) (i : Nat) :
    (SetTable.insertAt xs p x).getD i 0 = if i < p then xs.getD i 0 else if i = p then x else xs.getD (i - 1) 0 := by
  have e : (SetTable.insertAt xs p x).toList[i]? = if i < p then xs.toList[i]? else if i = p then some x else xs.toList[i - 1]? := by
    rw [SetTable.toList_insertAt]
    by_cases h : i < p
    · rw [if_pos h, List.getElem?_append_left (by simp; omega), List.getElem?_take_of_lt h]
    · rw [if_neg h]
      rw [List.getElem?_append_right (by simp; omega)]
      have : (xs.toList.take p).length = p := by simp; omega
      rw [this]
      by_cases q : i = p
      · subst q; simp
      · rw [if_neg q]
        obtain ⟨k, rfl⟩ : ∃ k, i = p + k + 1 := ⟨i - p - 1, by omega⟩
        have e1 : p + k + 1 - p = k + 1 := by omega
        rw [e1, List.getElem?_cons_succ, List.getElem?_drop]
        congr 1
  simp only [Array.getElem?_toList] at e
  rw [Array.getD_eq_getD_getElem?, e, Array.getD_eq_getD_getElem?, Array.getD_eq_getD_getElem?]
  split
  · rfl
  · split <;> rfl
/-- put where nothing stands, the places rise still -/
theorem rising_insert {xs : Array Nat} {j : Nat} (R : Rising xs) (hj : xs[SetTable.below xs j]? ≠ some j) : Rising (SetTable.insertAt xs (SetTable.below xs j) j) := by
  obtain ⟨a, b, c⟩ := below_spec j R
  have c' : ∀ i, SetTable.below xs j ≤ i → i < xs.size → j < xs.getD i 0 := by
    intro i h1 h2
    have hp : SetTable.below xs j < xs.size := by omega
    have h3 := c _ (Nat.le_refl _) hp
    have h4 : xs.getD (SetTable.below xs j) 0 ≠ j := fun e => hj (by rw [getD_some hp, e])
    by_cases z : SetTable.below xs j = i
    · rw [← z]; omega
    · have := R (SetTable.below xs j) i (by omega) h2; omega
  intro i k hik hk
  rw [insertAt_size] at hk
  rw [insertAt_getD _ _ _ a, insertAt_getD _ _ _ a]
  by_cases h1 : i < SetTable.below xs j
  · rw [if_pos h1]
    by_cases h2 : k < SetTable.below xs j
    · rw [if_pos h2]; exact R i k hik (by omega)
    · rw [if_neg h2]
      by_cases h3 : k = SetTable.below xs j
      · rw [if_pos h3]; exact b i h1
      · rw [if_neg h3]; exact R i (k - 1) (by omega) (by omega)
  · rw [if_neg h1, if_neg (show ¬ k < SetTable.below xs j by omega), if_neg (show ¬ k = SetTable.below xs j by omega)]
    by_cases h3 : i = SetTable.below xs j
    · rw [if_pos h3]; exact c' (k - 1) (by omega) (by omega)
    · rw [if_neg h3]; exact R (i - 1) (k - 1) (by omega) (by omega)
theorem rising_empty : Rising #[] := fun i j _ h => absurd h (Nat.not_lt_zero _)
theorem rising_range (n : Nat) : Rising (Array.range n) := by
  intro i j h hj
  rw [Array.size_range] at hj
  have e : ∀ k, k < n → (Array.range n).getD k 0 = k := by
    intro k hk
    rw [Array.getD_eq_getD_getElem?]
    simp [hk]
  rw [e i (by omega), e j hj]
  exact h
theorem rising_pairwise {l : List Nat} (h : l.Pairwise (· < ·)) : Rising l.toArray := by
  intro i j hij hj
  have hj' : j < l.length := by simpa using hj
  have := List.pairwise_iff_getElem.mp h i j (by omega) hj' hij
  simp only [Array.getD_eq_getD_getElem?, List.getElem?_toArray, List.getElem?_eq_getElem (show i < l.length by omega), List.getElem?_eq_getElem hj', Option.getD_some]
  exact this
/-- what is asked of the table of a set that one walks: no dead places, and the live ones rise -/
structure Tab (led : Bool) (t : SetTable) : Prop where
  led : t.led = led
  dead : t.dummies = #[]
  rise : Rising t.place
theorem Tab.fresh (led : Bool) : Tab led (.fresh 0 0 led) := ⟨rfl, rfl, rising_empty⟩
theorem Tab.standIn {led : Bool} {t : SetTable} (h : Tab led t) (n : Nat) : Tab led (t.standIn n) := ⟨h.led, rfl, rising_range n⟩
theorem Tab.plainOff {led : Bool} {t : SetTable} (h : Tab led t) : Tab led { t with plain := false } := ⟨h.led, h.dead, h.rise⟩
theorem has_empty (j : Nat) : SetTable.has #[] j = false := by simp [SetTable.has]
theorem probe_empty {led : Bool} {t : SetTable} (T : Tab led t) (f : Nat → Int) (h : Int) : ∀ (fuel : Nat) (p : SetTable.Probe) (j : Nat) (d : Option Nat), p.dummy = none → SetTable.probe.go t f h fuel p = some (.empty j d) → d = none ∧ t.place[SetTable.below t.place j]? ≠ some j
  | 0, p, j, d, _, e => by simp [SetTable.probe.go] at e
  | fuel + 1, p, j, d, hp, e => by
    unfold SetTable.probe.go at e
    have adv : (t.advance p).dummy = none := by unfold SetTable.advance; split <;> exact hp
    cases hs : t.slot p.j with
    | empty =>
      rw [hs] at e
      simp only [Option.some.injEq, SetTable.Met.empty.injEq] at e
      obtain ⟨rfl, rfl⟩ := e
      refine ⟨hp, fun q => ?_⟩
      unfold SetTable.slot at hs
      dsimp only at hs
      rw [q] at hs
      simp at hs
    | dummy =>
      exfalso
      unfold SetTable.slot at hs
      dsimp only at hs
      rw [T.dead, has_empty] at hs
      split at hs <;> simp at hs
    | live i =>
      rw [hs] at e
      dsimp only at e
      split at e
      · simp at e
      · exact probe_empty T f h fuel _ j d adv e
theorem Tab.layNew {led : Bool} {t : SetTable} (T : Tab led t) (es : Array (Int × Value)) (h : Int) (x : Value) : Tab led (layNew t es h x).2.1 := by
  unfold PySem.layNew
  cases hf : t.freeSlot h with
  | none => exact T.standIn _
  | some r =>
    obtain ⟨slot, was⟩ := r
    dsimp only
    have key : t.place[SetTable.below t.place slot]? ≠ some slot := by
      unfold SetTable.freeSlot at hf
      split at hf
      · rename_i j d hp
        have := probe_empty T _ _ _ _ j d rfl hp
        simp only [Option.some.injEq, Prod.mk.injEq] at hf
        rw [this.1] at hf
        simp at hf
        rw [← hf.1]
        exact this.2
      · simp at hf
    have base : Tab led (t.put slot).1 := by
      refine ⟨T.led, ?_, rising_insert T.rise key⟩
      show (if SetTable.has t.dummies slot = true then _ else t.dummies) = #[]
      rw [T.dead, has_empty]
      rfl
    unfold SetTable.orStandIn
    split
    · exact base
    · exact base.standIn _
theorem Tab.laid {led plain : Bool} {mask finger moves : Nat} {hs : Array Int} {r : SetTable × Array Nat} (h : SetTable.laid mask finger moves led plain hs = some r) : Tab led r.1 := by
  unfold SetTable.laid at h
  cases ho : SetTable.layClean mask hs with
  | none => rw [ho] at h; simp at h
  | some owner =>
    rw [ho] at h
    simp only [Option.bind_eq_bind, Option.bind_some, Option.pure_def, Option.some.injEq] at h
    subst h
    refine ⟨rfl, rfl, rising_pairwise ?_⟩
    have : ∀ l : List Nat, l.Pairwise (· < ·) → (List.map (·.1) (l.filterMap fun j => (owner.getD j none).map (j, ·))).Pairwise (· < ·) := by
      intro l hl
      rw [List.map_filterMap]
      refine hl.filterMap _ ?_
      intro a b hab c hc d hd
      simp only [Option.map_map, Option.map_eq_some_iff, Function.comp] at hc hd
      obtain ⟨_, _, rfl⟩ := hc
      obtain ⟨_, _, rfl⟩ := hd
      exact hab
    exact this _ List.pairwise_lt_range
theorem Tab.relayAll {led : Bool} {t : SetTable} (T : Tab led t) (es : Array (Int × Value)) (wanted : Nat) : Tab led (relayAll t es wanted).2.1 := by
  unfold PySem.relayAll
  cases hl : t.relaid (es.map (·.1)) wanted with
  | none => exact T.standIn _
  | some r =>
    obtain ⟨t', order⟩ := r
    dsimp only
    have := Tab.laid hl
    rw [T.led] at this
    split
    · exact this
    · exact T.standIn _
end Mine
end Part21
section Part22
open PySem PySem.W PySem.Calls PyProof.Rows
namespace Mine
def valI : Value → Int
  | .int n _ => n
  | _ => 0
/-- a set of ints, as its table holds them -/
def SetT (led : Bool) (o : Obj) (ks : List Int) : Prop :=
  o.ExactSet ∧ ∃ es ep t, o.data = .set es ep t ∧ Tab led t ∧ t.fits es.size = true ∧ (∀ e ∈ es.toList, ∃ n u, e = (hashInt n, Value.int n u)) ∧ ks = es.toList.map fun e => valI e.2
theorem ints_of_set {es : List (Int × Value)} (h : ∀ e ∈ es, ∃ n u, e = (hashInt n, Value.int n u)) : IntsAre (es.map (·.2)) (es.map fun e => valI e.2) := by
  induction es with
  | nil => exact .nil
  | cons e r ih =>
    obtain ⟨n, u, rfl⟩ := h e (by simp)
    exact .cons n u (ih fun e he => h e (by simp [he]))
section
variable {prog : Program} {w : World} {A : Around} {E : Value → Shared → Prop} {s : Shared} {led : Bool}
theorem elems_of {es : List (Int × Value)} (h : ∀ e ∈ es, ∃ n u, e = (hashInt n, Value.int n u)) : ElemsOf (intKind prog w) es := by
  intro e he
  obtain ⟨n, u, rfl⟩ := h e he
  exact ⟨⟨n, intKind_is _ _ _ _, rfl⟩, rfl⟩
theorem find_none {es : List (Int × Value)} (h : ∀ e ∈ es, ∃ n u, e = (hashInt n, Value.int n u)) (k : Int) : es.findIdx? (fun e => (intKind prog w).is k e.2) = none ↔ k ∉ es.map fun e => valI e.2 := by
  rw [List.findIdx?_eq_none_iff, List.mem_map]
  constructor
  · rintro q ⟨e, he, rfl⟩
    obtain ⟨n, u, rfl⟩ := h e he
    have := q _ he
    rw [show valI (hashInt n, Value.int n u).2 = n from rfl, show (intKind prog w).is n (hashInt n, Value.int n u).2 = true from intKind_is _ _ _ _] at this
    cases this
  · intro q e he
    obtain ⟨n, u, rfl⟩ := h e he
    rw [show (intKind prog w).is k (hashInt n, Value.int n u).2 = decide (k = n) from KeyKind.is_eq_decide (intKind_is _ _ _ _) k]
    exact decide_eq_false fun z => q ⟨_, he, z.symm⟩
theorem setT_store {h : Heap} {a : Addr} {o : Obj} {es : Array (Int × Value)} {ep : Nat} {t : SetTable} (ho : h.get? a = some o) (hex : o.ExactSet) (hd : o.data = .set es ep t) {es' : Array (Int × Value)} {t' : SetTable}
    (T : Tab led t') (hf : t'.fits es'.size = true) (hel : ∀ e ∈ es'.toList, ∃ n u, e = (hashInt n, Value.int n u)) :
    (h.update a (Obj.putSet es' t')).get? a = some { o with data := .set es' (ep + 1) t' } ∧ SetT led { o with data := .set es' (ep + 1) t' } (es'.toList.map fun e => valI e.2) := by
  have hg : (h.update a (Obj.putSet es' t')).get? a = some { o with data := .set es' (ep + 1) t' } := by
    have := Heap.get?_update_self (Obj.putSet es' t') ho (by rw [putSet_of es' t' hd]; rfl)
    rw [putSet_of es' t' hd] at this; exact this
  exact ⟨hg, hex, es', ep + 1, t', rfl, T, hf, hel, rfl⟩
/-- an int is put into a set -/
theorem add_int {a : Addr} {o : Obj} {ks : List Int} {k : Int} {u : Tok} {Q : Bool → Shared → Prop} (ho : s.heap.get? a = some o) (hS : SetT led o ks) (hroom : ks.length + 1 < scanBound)
    (h : ∀ h' o' ks', Heap.SameBut a s.heap h' → h'.get? a = some o' → SetT led o' ks' → ks'.Perm (if k ∈ ks then ks else ks ++ [k]) → ∀ b, Q b { s with heap := h' }) :
    wpAny (model prog w) A (setAddHashed a (.int k u) (hashInt k)) Q E s := by
  obtain ⟨hex, es, ep, t, hd, T, hf, hel, rfl⟩ := hS
  have hsz : es.size = (es.toList.map fun e => valI e.2).length := by simp
  have hkey : (intKind prog w).is k (.int k u) = true := intKind_is _ _ _ _
  have hb : es.size < scanBound := by omega
  unfold setAddHashed setAddHashedIn
  refine wpAny_holding (wpAny_bind (wpAny_setState_of ho hd hf ?_))
  dsimp only
  rw [byScan_of (knd := intKind prog w) rfl hb (elems_of hel)]
  simp only [↓reduceIte]
  unfold setAddByScan
  refine wpAny_bind ?_
  refine wpAny_bind (wpAny_rule ?_)
  refine wpAny_bind (wpAny_setScan_of (knd := intKind prog w) hkey ho hd hf (elems_of hel) ?_)
  cases hr : List.findIdx? (fun e => (intKind prog w).is k e.2) es.toList with
  | some j =>
    dsimp only
    have hin : k ∈ es.toList.map fun e => valI e.2 := by
      by_cases q : k ∈ es.toList.map fun e => valI e.2
      · exact q
      · rw [(find_none hel k).mpr q] at hr; cases hr
    refine wpAny_pure (wpAny_pure ?_)
    have e : s = { s with heap := s.heap } := by cases s; rfl
    rw [e]
    exact h s.heap o _ (Heap.SameBut.refl a s.heap) ho ⟨hex, es, ep, t, hd, T, hf, hel, rfl⟩ (by rw [if_pos hin]) _
  | none =>
    dsimp only
    have hin : k ∉ es.toList.map fun e => valI e.2 := (find_none hel k).mp hr
    have hgw : ∀ (b : Bool) {s₁ : Shared} {Q' : Unit → Shared → Prop}, Q' () s₁ → wpAny (model prog w) A (match b with | true => rule "set.scan.the-table-gave-way" | false => pure ()) Q' E s₁ :=
      fun b s₁ Q' hq => by cases b <;> first | exact wpAny_pure hq | exact wpAny_rule hq
    have hperm := layNew_perm t es (hashInt k) (.int k u)
    have hfits := layNew_fits t es (hashInt k) (.int k u)
    have hT := T.layNew es (hashInt k) (.int k u)
    generalize hL : layNew t es (hashInt k) (.int k u) = L at hperm hfits hT ⊢
    obtain ⟨es1, t1, wasDummy, gave⟩ := L
    dsimp only at hperm hfits hT ⊢
    rw [Array.toList_push] at hperm
    have hel1 : ∀ e ∈ es1.toList, ∃ n u, e = (hashInt n, Value.int n u) := by
      intro e he
      rcases List.mem_append.mp (hperm.mem_iff.mp he) with q | q
      · exact hel e q
      · rw [List.mem_singleton] at q; exact ⟨k, u, q⟩
    have hlen1 : es1.size = es.size + 1 := by rw [← Array.length_toList, hperm.length_eq, List.length_append, Array.length_toList]; rfl
    have hb1 : es1.size < scanBound := by omega
    have hks1 : (es1.toList.map fun e => valI e.2).Perm (if k ∈ es.toList.map (fun e => valI e.2) then es.toList.map (fun e => valI e.2) else es.toList.map (fun e => valI e.2) ++ [k]) := by
      rw [if_neg hin]
      have := hperm.map fun e : Int × Value => valI e.2
      rw [List.map_append] at this
      exact this
    refine wpAny_bind (hgw _ ?_)
    have tail : ∀ (g : Bool → Sem Unit), (∀ (b : Bool) (s₁ : Shared) (Q' : Unit → Shared → Prop), Q' () s₁ → wpAny (model prog w) A (g b) Q' E s₁) → wpAny (model prog w) A (do
        storeSet a es1 t1
        if (!wasDummy && t1.tooFull) = true then do
            g (relayAll t1 es1 (SetTable.grown es1.size)).2.2
            storeSet a (relayAll t1 es1 (SetTable.grown es1.size)).1 (relayAll t1 es1 (SetTable.grown es1.size)).2.1
            pure (some true)
          else pure (some true)) (fun r s₁ => r = some true ∧ ∃ h' o' ks', s₁ = { s with heap := h' } ∧ Heap.SameBut a s.heap h' ∧ h'.get? a = some o' ∧ SetT led o' ks' ∧ ks'.Perm (es1.toList.map fun e => valI e.2)) E s := by
      intro g hg
      refine wpAny_bind (wpAny_storeSet_of ho hd ?_ (fits_of_scanBound hb1))
      obtain ⟨ho1, hS1⟩ := setT_store (led := led) ho hex hd hT hfits hel1
      have hsb1 := Heap.SameBut.update s.heap a (Obj.putSet es1 t1)
      split
      · have hp := relayAll_perm t1 es1 (SetTable.grown es1.size)
        have hfr := relayAll_fits t1 es1 (SetTable.grown es1.size)
        have hTr := hT.relayAll es1 (SetTable.grown es1.size)
        generalize relayAll t1 es1 (SetTable.grown es1.size) = Rl at hp hfr hTr ⊢
        obtain ⟨es2, t3, gave2⟩ := Rl
        dsimp only at hp hfr hTr ⊢
        have hel2 : ∀ e ∈ es2.toList, ∃ n u, e = (hashInt n, Value.int n u) := fun e he => hel1 e (hp.mem_iff.mp he)
        have hsz2 : es2.size = es1.size := by rw [← Array.length_toList, hp.length_eq, Array.length_toList]
        refine wpAny_bind (hg _ _ _ ?_)
        refine wpAny_bind (wpAny_storeSet_of ho1 rfl ?_ (fits_of_scanBound (by omega)))
        obtain ⟨ho2, hS2⟩ := setT_store (led := led) ho1 hex rfl hTr hfr hel2
        exact wpAny_pure ⟨rfl, _, _, _, rfl, hsb1.trans (Heap.SameBut.update _ a _), ho2, hS2, hp.map _⟩
      · exact wpAny_pure ⟨rfl, _, _, _, rfl, hsb1, ho1, hS1, .refl _⟩
    have hg : ∀ (b : Bool) (s₁ : Shared) (Q' : Unit → Shared → Prop), Q' () s₁ → wpAny (model prog w) A (match b with | true => rule "set.scan.the-table-gave-way" | false => pure ()) Q' E s₁ := fun b s₁ Q' hq => hgw b hq
    refine wpAny_mono (Q := fun r s₁ => r = some true ∧ ∃ h' o' ks', s₁ = { s with heap := h' } ∧ Heap.SameBut a s.heap h' ∧ h'.get? a = some o' ∧ SetT led o' ks' ∧ ks'.Perm (es1.toList.map fun e => valI e.2)) ?_ ?_ fun _ _ e => e
    · split
      · refine wpAny_bind ?_
        rw [hashByValue_scannable 8 rfl]
        refine wpAny_pure ?_
        exact tail _ hg
      · refine wpAny_bind (wpAny_pure ?_)
        exact tail _ hg
    · rintro r s₁ ⟨rfl, h', o', ks', rfl, h1, h2, h3, h4⟩
      exact wpAny_pure (h h' o' ks' h1 h2 h3 (h4.trans hks1) _)
end
end Mine
end Part22
section Part23
open PySem PySem.W PySem.Calls PyProof.Rows
namespace Mine
theorem erase_perm {α : Type} : ∀ (l : List α) (i : Nat) (h : i < l.length), (l[i] :: l.eraseIdx i).Perm l
  | [], i, h => absurd h (Nat.not_lt_zero i)
  | a :: r, 0, _ => .refl _
  | a :: r, i + 1, h => by
    simp only [List.getElem_cons_succ, List.eraseIdx_cons_succ]
    exact (List.Perm.swap ..).trans ((erase_perm r i (by simpa using h)).cons a)
theorem pick_go {α : Type} (next : Nat → Nat) : ∀ (fuel k : Nat) (left : List α) (out : Array α), left.length ≤ fuel → (pickOrder.go next fuel k left out).toList.Perm (out.toList ++ left)
  | 0, k, left, out, h => by
    have : left = [] := List.length_eq_zero_iff.mp (by omega)
    subst this
    unfold pickOrder.go
    simp
  | fuel + 1, k, left, out, h => by
    unfold pickOrder.go
    cases q : left[next k % left.length]? with
    | none =>
      have : left = [] := by
        rw [List.getElem?_eq_none_iff] at q
        cases left with
        | nil => rfl
        | cons a r => exact absurd (Nat.mod_lt (next k) (show (a :: r).length > 0 by simp)) (by omega)
      subst this
      simp
    | some x =>
      obtain ⟨hi, hx⟩ := List.getElem?_eq_some_iff.mp q
      dsimp only
      refine (pick_go next fuel (k + 1) _ _ (by rw [List.length_eraseIdx_of_lt hi]; omega)).trans ?_
      rw [Array.toList_push, List.append_assoc]
      refine List.Perm.append_left _ ?_
      rw [← hx]
      exact erase_perm left _ hi
theorem pick_perm {α : Type} (next : Nat → Nat) (xs : Array α) : (pickOrder next xs).toList.Perm xs.toList := by
  unfold pickOrder
  simpa using pick_go next xs.size 0 xs.toList #[] (by simp)
section
variable {prog : Program} {w : World} {A : Around} {E : Value → Shared → Prop} {s : Shared}
theorem wp_choosen {M : Model} {src : Source} {n : Nat} {Q : Nat → Shared → Prop} (hn : n ≠ 0) (h : ∀ i d, i < n → Q i { s with drawn := d }) : wpAny M A (choose src n) Q E s :=
  fun _ _ _ => ⟨hn, h _ _ (Nat.mod_lt _ (Nat.pos_of_ne_zero hn))⟩
theorem draw_perm {α : Type} : ∀ (n : Nat) (xs : List α) {s : Shared} {Q : List α → Shared → Prop}, xs.length = n → (∀ ys d, ys.Perm xs → Q ys { s with drawn := d }) → wpAny (model prog w) A (drawOrder n xs) Q E s
  | 0, xs, s, Q, h, hQ => by
    have : xs = [] := List.length_eq_zero_iff.mp h
    subst this
    unfold drawOrder
    exact wpAny_pure (hQ [] s.drawn (.refl _))
  | n + 1, [], s, Q, h, hQ => by cases h
  | n + 1, a :: r, s, Q, h, hQ => by
    unfold drawOrder
    refine wpAny_bind (wp_choosen (by simp) fun i d hi => ?_)
    have hx : (a :: r)[i]? = some (a :: r)[i] := List.getElem?_eq_getElem hi
    rw [hx]
    dsimp only
    refine wpAny_bind (draw_perm n ((a :: r).eraseIdx i) (by rw [List.length_eraseIdx_of_lt hi]; omega) fun ys d' hp => ?_)
    exact wpAny_pure (hQ _ d' ((hp.cons _).trans (erase_perm (a :: r) i hi)))
theorem ents_of {a : Addr} {o : Obj} {es : Array (Int × Value)} {ep : Nat} {t : SetTable} {Q : Array (Int × Value) → Shared → Prop}
    (ho : s.heap.get? a = some o) (hd : o.data = .set es ep t) (hf : t.fits es.size = true) (h : Q es s) : wpAny (model prog w) A (setEntries a) Q E s := by
  unfold setEntries
  exact wpAny_bind (wpAny_setState_of ho hd hf (wpAny_pure h))
/-- the next of a walk of a set, where the world follows the text -/
theorem next_text {a : Addr} {o : Obj} {es : Array (Int × Value)} {ep slot i : Nat} {t : SetTable} {Q : Option (Value × Nat) → Shared → Prop}
    (ho : s.heap.get? a = some o) (hd : o.data = .set es ep t) (hf : t.fits es.size = true) (hB : w.params.followText "set-order" = true)
    (h : Q (((pickOrder (w.params.setOrder a ep) es)[i]?).map fun e => (e.2, slot)) s) : wpAny (model prog w) A (setNext a slot i ep) Q E s := by
  unfold setNext setWalk
  refine wpAny_bind (wpAny_setState_of ho hd hf ?_)
  dsimp only
  unfold setsByText
  refine wpAny_bind (wpAny_bind (wpAny_askSetting (wpAny_pure ?_)))
  show wpAny _ _ (if w.params.followText "set-order" = true then _ else _) _ _ _
  rw [if_pos hB, if_neg (by simp)]
  refine wpAny_bind ?_
  refine wpAny_bind (wpAny_setState_of ho hd hf ?_)
  dsimp only
  refine wpAny_bind (wpAny_bind (wpAny_askSetting (wpAny_pure ?_)))
  show wpAny _ _ (if w.params.followText "set-order" = true then _ else _) _ _ _
  rw [if_pos hB]
  refine wpAny_bind (wpAny_askSetting (wpAny_pure ?_))
  exact wpAny_pure h
/-- the next of a walk of a set by its places -/
theorem next_plain {a : Addr} {o : Obj} {es : Array (Int × Value)} {ep slot i : Nat} {t : SetTable} {Q : Option (Value × Nat) → Shared → Prop}
    (ho : s.heap.get? a = some o) (hd : o.data = .set es ep t) (hf : t.fits es.size = true) (hB : w.params.followText "set-order" = false) (hled : t.led = true) (hpl : (!t.plain && decide (es.size > 1)) = false)
    (h : Q (match es[SetTable.below t.place slot]?, t.place[SetTable.below t.place slot]? with | some (_, x), some j => some (x, j + 1) | _, _ => none) s) : wpAny (model prog w) A (setNext a slot i ep) Q E s := by
  unfold setNext
  refine wpAny_bind (wpAny_setState_of ho hd hf ?_)
  dsimp only
  unfold setsByText
  refine wpAny_bind (wpAny_bind (wpAny_askSetting (wpAny_pure ?_)))
  show wpAny _ _ (if w.params.followText "set-order" = true then _ else _) _ _ _
  rw [if_neg (by rw [hB]; decide)]
  show wpAny _ _ (if (!t.plain && decide (es.size > 1)) = true then _ else _) _ _ _
  rw [if_neg (by rw [hpl]; decide)]
  show wpAny _ _ ((if (!t.led && !es.isEmpty) = true then unsupported "set:maker-not-led" else pure ()) >>= _) _ _ _
  rw [hled]
  refine wpAny_bind (wpAny_pure ?_)
  exact wpAny_pure h
/-- how the walk of a set at I stands before its turn i -/
def IterO (a n ep : Nat) (first : Value) (i : Nat) : Obj := { cls := .type "set_iterator", data := .fields #[first, .int i 0, .ref a, .int n 0, .int ep 0] }
namespace Si
theorem slot_next : Slot "set_iterator" "__next__" "set_iterator.__next__" :=
  .of (owner := "set_iterator") (n := "__next__") (by rw [typeLookup_type, builtinLookup_eq_fast]; kernel_rfl) (by decide +kernel) (by decide +kernel) (by decide +kernel)
    (by first | exact .inl (by decide +kernel) | exact .inr (by decide +kernel)) (by rw [isSubtype_type]; kernel_rfl)
theorem slot_iter : Slot "set_iterator" "__iter__" "set_iterator.__iter__" :=
  .of (owner := "set_iterator") (n := "__iter__") (by rw [typeLookup_type, builtinLookup_eq_fast]; kernel_rfl) (by decide +kernel) (by decide +kernel) (by decide +kernel)
    (by first | exact .inl (by decide +kernel) | exact .inr (by decide +kernel)) (by rw [isSubtype_type]; kernel_rfl)
theorem args_next (a : Value) : argsOk "set_iterator.__next__" ⟨[a], []⟩ := by unfold argsOk; kernel_rfl
theorem entry_next : entryFor table "set_iterator.__next__" = some Builtin.«set_iterator.__next__» := entryFor_of_tree (by kernel_rfl)
theorem entry_iter : entryFor table "set.__iter__" = some Builtin.«frozenset.__iter__» :=
  entryFor_alias (id' := "frozenset.__iter__") (by kernel_rfl) rfl (by decide +kernel) (by kernel_rfl)
theorem no_len : typeLookup (.type "set_iterator") "__len__" = pure none := by rw [typeLookup_type, builtinLookup_eq_fast]; kernel_rfl
theorem hint : typeLookup (.type "set_iterator") "__length_hint__" = pure (some (.builtin "set_iterator.__length_hint__")) := by rw [typeLookup_type, builtinLookup_eq_fast]; kernel_rfl
theorem args_iter (a : Value) : argsOk "set_iterator.__iter__" ⟨[a], []⟩ := by unfold argsOk; kernel_rfl
theorem entry_iter2 : entryFor table "set_iterator.__iter__" = some Builtin.«dict_keyiterator.__iter__» :=
  entryFor_alias (id' := "dict_keyiterator.__iter__") (by kernel_rfl) (by first | rfl | decide +kernel | (unfold String.splitOn; simp +decide [String.splitOnAux])) (by decide +kernel) (by kernel_rfl)
theorem sub_self : isSubtype (.type "set_iterator") (.type "set_iterator") = pure true := by rw [isSubtype_type]; kernel_rfl
end Si
theorem stop_raise {Q : Value → Shared → Prop} {E : Value → Shared → Prop} (hh : A.handled = none) (h : ∀ h' e, (∀ b o, s.heap.get? b = some o → h'.get? b = some o) → Shared.TypeIs { s with heap := h' } (.ref e) "StopIteration" → E (.ref e) { s with heap := h' }) :
    wpAny (model prog w) A (do raiseNew (← newExc (.type "StopIteration") []) : Sem Fin) (fun fin s' => ∃ v, fin = .done (.ret v) ∧ Q v s') E s := by
  refine wpAny_bind ?_
  simp only [newExc, newTuple]
  refine wpAny_bind (wpAny_newObj_type ?_ (by size_fits))
  refine wpAny_bind (m := firstArgMember _ _) (wpAny_of_eq (a := Value.none) (by first | rfl | (simp only [firstArgMember]; rfl)) ?_)
  refine wpAny_newObj_type ?_ (by size_fits)
  simp only [raiseNew]
  refine wpAny_bind (wpAny_handled ?_)
  rw [hh]
  refine wpAny_bind (wpAny_pure (wpAny_throw ?_))
  refine h _ _ (fun b o e => Heap.get?_push_of_some _ (Heap.get?_push_of_some _ e)) ⟨_, Heap.get?_push_size _ rfl, rfl⟩
theorem next_item {a I ep i nx : Nat} {slot : Int} {x : Value} {o : Obj} {es : Array (Int × Value)} {t : SetTable} {Q : Option Value → Shared → Prop}
    (hI : s.heap.get? I = some (IterO a es.size ep (.int slot 0) i)) (ho : s.heap.get? a = some o) (hd : o.data = .set es ep t) (hf : t.fits es.size = true)
    (hN : ∀ (A' : Around) (E' : Value → Shared → Prop) (Q' : Option (Value × Nat) → Shared → Prop), Q' (some (x, nx)) s → wpAny (model prog w) A' (setNext a slot.toNat i ep) Q' E' s)
    (hQ : ∀ h', h'.get? I = some (IterO a es.size ep (.int nx 0) (i + 1)) → Heap.SameBut I s.heap h' → Q (some x) { s with heap := h' }) :
    wpAny (model prog w) A (pyNext (.ref I)) Q E s := by
  have hT : s.TypeIs (.ref I) "set_iterator" := ⟨_, hI, rfl⟩
  unfold pyNext
  refine wpAny_bind (wpAny_attempt (wpAny_callSpecial?_slot (name := Str.ofString "__next__") hT Si.slot_next (wpAny_call_entry Si.slot_next hT Si.entry_next ?_ (Si.args_next _))))
  unfold Builtin.«set_iterator.__next__»
  refine wpAny_bind (m := slotArgs "__next__" 0 _) (wpAny_pure ?_)
  refine wpAny_bind (wpAny_fieldsOf hI rfl ?_)
  dsimp only
  refine wpAny_bind (ents_of ho hd hf ?_)
  rw [if_neg (by simp)]
  show wpAny _ _ (setNext a slot.toNat ((i : Nat) : Int).toNat ((ep : Nat) : Int).toNat >>= _) _ _ s
  rw [Int.toNat_natCast, Int.toNat_natCast]
  refine wpAny_bind (hN _ _ _ ?_)
  dsimp only
  refine wpAny_bind (wpAny_setField_rec hI (by simp) fun h1 hI1 hs1 => ?_)
  refine wpAny_bind (wpAny_setField_rec hI1 (by simp) fun h2 hI2 hs2 => ?_)
  exact wpAny_pure ⟨_, rfl, wpAny_pure (hQ h2 (by rw [hI2]; rfl) (hs1.trans hs2))⟩
theorem next_done {a I ep i : Nat} {slot : Int} {o : Obj} {es : Array (Int × Value)} {t : SetTable} {Q : Option Value → Shared → Prop} (hh : A.handled = none)
    (hI : s.heap.get? I = some (IterO a es.size ep (.int slot 0) i)) (ho : s.heap.get? a = some o) (hd : o.data = .set es ep t) (hf : t.fits es.size = true)
    (hN : ∀ (A' : Around) (E' : Value → Shared → Prop) (Q' : Option (Value × Nat) → Shared → Prop), Q' none s → wpAny (model prog w) A' (setNext a slot.toNat i ep) Q' E' s)
    (hQ : ∀ h', (∀ b o, b ≠ I → s.heap.get? b = some o → h'.get? b = some o) → Q none { s with heap := h' }) :
    wpAny (model prog w) A (pyNext (.ref I)) Q E s := by
  have hT : s.TypeIs (.ref I) "set_iterator" := ⟨_, hI, rfl⟩
  unfold pyNext
  refine wpAny_bind (wpAny_attempt (wpAny_callSpecial?_slot (name := Str.ofString "__next__") hT Si.slot_next (wpAny_call_entry Si.slot_next hT Si.entry_next ?_ (Si.args_next _))))
  unfold Builtin.«set_iterator.__next__»
  refine wpAny_bind (m := slotArgs "__next__" 0 _) (wpAny_pure ?_)
  refine wpAny_bind (wpAny_fieldsOf hI rfl ?_)
  dsimp only
  refine wpAny_bind (ents_of ho hd hf ?_)
  rw [if_neg (by simp)]
  show wpAny _ _ (setNext a slot.toNat ((i : Nat) : Int).toNat ((ep : Nat) : Int).toNat >>= _) _ _ s
  rw [Int.toNat_natCast, Int.toNat_natCast]
  refine wpAny_bind (hN _ _ _ ?_)
  dsimp only
  refine wpAny_bind (wpAny_setField_rec hI (by simp) fun h1 hI1 hs1 => ?_)
  refine stop_raise (show A.in1.handled = none from hh) fun h2 e hk hTe => ?_
  refine wpAny_bind (wpAny_isInstance (T := "StopIteration") (b := true) hTe isSubtype_stop ?_)
  exact wpAny_pure (hQ h2 fun b ob hb eb => hk b ob (by rw [hs1.2 b hb]; exact eb))
def drawObj (ps : List Nat) : Obj := { cls := .type "tuple", data := .seq (ps.map fun (i : Nat) => Value.int i 0).toArray 0 }
theorem drawn_item {a I T ep i p : Nat} {x : Value} {hv : Int} {o : Obj} {es : Array (Int × Value)} {t : SetTable} {ps : List Nat} {Q : Option Value → Shared → Prop}
    (hI : s.heap.get? I = some (IterO a es.size ep (.ref T) i)) (hTt : s.heap.get? T = some (drawObj ps)) (ho : s.heap.get? a = some o) (hd : o.data = .set es ep t) (hf : t.fits es.size = true)
    (hp : ps[i]? = some p) (hx : es[p]? = some (hv, x))
    (hQ : ∀ h', h'.get? I = some (IterO a es.size ep (.ref T) (i + 1)) → Heap.SameBut I s.heap h' → Q (some x) { s with heap := h' }) :
    wpAny (model prog w) A (pyNext (.ref I)) Q E s := by
  have hT : s.TypeIs (.ref I) "set_iterator" := ⟨_, hI, rfl⟩
  unfold pyNext
  refine wpAny_bind (wpAny_attempt (wpAny_callSpecial?_slot (name := Str.ofString "__next__") hT Si.slot_next (wpAny_call_entry Si.slot_next hT Si.entry_next ?_ (Si.args_next _))))
  unfold Builtin.«set_iterator.__next__»
  refine wpAny_bind (m := slotArgs "__next__" 0 _) (wpAny_pure ?_)
  refine wpAny_bind (wpAny_fieldsOf hI rfl ?_)
  dsimp only
  refine wpAny_bind (ents_of ho hd hf ?_)
  rw [if_neg (by simp)]
  refine wpAny_bind (wpAny_seqItems hTt rfl ?_)
  dsimp only
  have hp2 : ((ps.map fun (i : Nat) => Value.int i 0).toArray)[((i : Nat) : Int).toNat]? = some (.int p 0) := by
    rw [Int.toNat_natCast, List.getElem?_toArray, List.getElem?_map, hp]; rfl
  rw [hp2]
  dsimp only
  refine wpAny_bind ?_
  rw [Int.toNat_natCast, Int.toNat_natCast]
  unfold setNextDrawn
  refine wpAny_bind (wpAny_setState_of ho hd hf ?_)
  dsimp only
  rw [if_neg (by simp), hx]
  refine wpAny_pure ?_
  refine wpAny_bind (wpAny_setField_rec hI (by simp) fun h1 hI1 hs1 => ?_)
  exact wpAny_pure ⟨_, rfl, wpAny_pure (hQ h1 (by rw [hI1]; rfl) hs1)⟩
theorem drawn_done {a I T ep i : Nat} {o : Obj} {es : Array (Int × Value)} {t : SetTable} {ps : List Nat} {Q : Option Value → Shared → Prop} (hh : A.handled = none)
    (hI : s.heap.get? I = some (IterO a es.size ep (.ref T) i)) (hTt : s.heap.get? T = some (drawObj ps)) (ho : s.heap.get? a = some o) (hd : o.data = .set es ep t) (hf : t.fits es.size = true)
    (hp : ps[i]? = none)
    (hQ : ∀ h', (∀ b o, b ≠ I → s.heap.get? b = some o → h'.get? b = some o) → Q none { s with heap := h' }) :
    wpAny (model prog w) A (pyNext (.ref I)) Q E s := by
  have hT : s.TypeIs (.ref I) "set_iterator" := ⟨_, hI, rfl⟩
  unfold pyNext
  refine wpAny_bind (wpAny_attempt (wpAny_callSpecial?_slot (name := Str.ofString "__next__") hT Si.slot_next (wpAny_call_entry Si.slot_next hT Si.entry_next ?_ (Si.args_next _))))
  unfold Builtin.«set_iterator.__next__»
  refine wpAny_bind (m := slotArgs "__next__" 0 _) (wpAny_pure ?_)
  refine wpAny_bind (wpAny_fieldsOf hI rfl ?_)
  dsimp only
  refine wpAny_bind (ents_of ho hd hf ?_)
  rw [if_neg (by simp)]
  refine wpAny_bind (wpAny_seqItems hTt rfl ?_)
  dsimp only
  have hp2 : ((ps.map fun (i : Nat) => Value.int i 0).toArray)[((i : Nat) : Int).toNat]? = none := by
    rw [Int.toNat_natCast, List.getElem?_toArray, List.getElem?_map, hp]; rfl
  rw [hp2]
  dsimp only
  refine wpAny_bind (wpAny_setField_rec hI (by simp) fun h1 hI1 hs1 => ?_)
  refine wpAny_bind (wpAny_setField_rec hI1 (by simp) fun h2 hI2 hs2 => ?_)
  refine stop_raise (show A.in1.handled = none from hh) fun h3 e hk hTe => ?_
  refine wpAny_bind (wpAny_isInstance (T := "StopIteration") (b := true) hTe isSubtype_stop ?_)
  exact wpAny_pure (hQ h3 fun b ob hb eb => hk b ob (by rw [hs2.2 b hb, hs1.2 b hb]; exact eb))
/-- what a walk of a set hands on at its turn i -/
def OutAt (outv : List Value) (i : Nat) (v : Value) : Prop := outv[i]? = some v
theorem iter_self {a I n ep i : Nat} {first : Value} {Q : Value → Shared → Prop} (hI : s.heap.get? I = some (IterO a n ep first i)) (h : Q (.ref I) s) : wpAny (model prog w) A (pyIter (.ref I)) Q E s := by
  have hT : s.TypeIs (.ref I) "set_iterator" := ⟨_, hI, rfl⟩
  refine wpAny_pyIter_slot hT Si.slot_iter (wpAny_call_entry Si.slot_iter hT Si.entry_iter2 ?_ (Si.args_iter _))
  show wpAny _ _ (ret (.ref I)) _ _ s
  exact wpAny_pure ⟨_, rfl, "set_iterator", _, hT, Si.slot_next.lookup, h⟩
theorem walks_int {a I ep : Nat} {o : Obj} {es : Array (Int × Value)} {t : SetTable} {first : Nat → Int} {outv : List Value} (hh : A.handled = none) (haI : a ≠ I) (hd : o.data = .set es ep t) (hf : t.fits es.size = true) (hn : outv.length = es.size)
    (hN : ∀ i x, outv[i]? = some x → ∃ nx : Nat, first (i + 1) = (nx : Int) ∧ ∀ (s : Shared) (A' : Around) (E' : Value → Shared → Prop) (Q' : Option (Value × Nat) → Shared → Prop), s.heap.get? a = some o → Q' (some (x, nx)) s → wpAny (model prog w) A' (setNext a (first i).toNat i ep) Q' E' s)
    (hD : ∀ (s : Shared) (A' : Around) (E' : Value → Shared → Prop) (Q' : Option (Value × Nat) → Shared → Prop), s.heap.get? a = some o → Q' none s → wpAny (model prog w) A' (setNext a (first es.size).toNat es.size ep) Q' E' s) :
    Walks prog w A I [I, a] [I] es.size (OutAt outv) (fun i h => h.get? I = some (IterO a es.size ep (.int (first i) 0) i) ∧ h.get? a = some o) where
  sub := fun b hb => by simp at hb; simp [hb]
  frame := fun i h h' st hk => ⟨hk I (by simp) _ st.1, hk a (by simp) _ st.2⟩
  item := fun i s Q E hi st hQ => by
    have hx : outv[i]? = some (outv[i]'(by omega)) := List.getElem?_eq_getElem (by omega)
    obtain ⟨nx, e, hN'⟩ := hN i _ hx
    refine next_item st.1 st.2 hd hf (fun A' E' Q' q => hN' s A' E' Q' st.2 q) fun h' hI' hs => ?_
    exact hQ _ h' s.toks hx ⟨by rw [e]; exact hI', by rw [hs.2 a haI]; exact st.2⟩ fun b ob hb eb => by rw [hs.2 b (fun q => hb (by simp [q]))]; exact eb
  done := fun s Q E st hQ => next_done hh st.1 st.2 hd hf (fun A' E' Q' q => hD s A' E' Q' st.2 q) fun h' hk => hQ h' s.toks fun b ob hb eb => hk b ob (fun q => hb (by simp [q])) eb
  self := fun i s Q E st hQ => iter_self st.1 hQ
theorem walks_drawn {a I T ep : Nat} {o : Obj} {es : Array (Int × Value)} {t : SetTable} {ps : List Nat} (hh : A.handled = none) (haI : a ≠ I) (hTI : T ≠ I) (hd : o.data = .set es ep t) (hf : t.fits es.size = true) (hp : ps.Perm (List.range es.size)) :
    Walks prog w A I [I, a, T] [I] es.size (OutAt (ps.map fun p => (es.getD p (0, .none)).2)) (fun i h => h.get? I = some (IterO a es.size ep (.ref T) i) ∧ h.get? a = some o ∧ h.get? T = some (drawObj ps)) where
  sub := fun b hb => by simp at hb; simp [hb]
  frame := fun i h h' st hk => ⟨hk I (by simp) _ st.1, hk a (by simp) _ st.2.1, hk T (by simp) _ st.2.2⟩
  item := fun i s Q E hi st hQ => by
    have hlen : ps.length = es.size := by rw [hp.length_eq, List.length_range]
    have hpi : ps[i]? = some (ps[i]'(by omega)) := List.getElem?_eq_getElem (by omega)
    have hlt : ps[i]'(by omega) < es.size := List.mem_range.mp (hp.mem_iff.mp (List.getElem_mem _))
    have hx : es[ps[i]'(by omega)]? = some ((es.getD (ps[i]'(by omega)) (0, .none)).1, (es.getD (ps[i]'(by omega)) (0, .none)).2) := by
      rw [Array.getD_eq_getD_getElem?, Array.getElem?_eq_getElem hlt]; rfl
    refine drawn_item st.1 st.2.2 st.2.1 hd hf hpi hx fun h' hI' hs => ?_
    refine hQ _ h' s.toks ?_ ⟨hI', by rw [hs.2 a haI]; exact st.2.1, by rw [hs.2 T hTI]; exact st.2.2⟩ fun b ob hb eb => by rw [hs.2 b (fun q => hb (by simp [q]))]; exact eb
    show (ps.map _)[i]? = _
    rw [List.getElem?_map, hpi]; rfl
  done := fun s Q E st hQ => drawn_done hh st.1 st.2.2 st.2.1 hd hf (by rw [List.getElem?_eq_none_iff, hp.length_eq, List.length_range]; exact Nat.le_refl _) fun h' hk => hQ h' s.toks fun b ob hb eb => hk b ob (fun q => hb (by simp [q])) eb
  self := fun i s Q E st hQ => iter_self st.1 hQ
theorem isSome_of {α : Type} {x : Option α} {y : α} (h : x = some y) : x.isSome = true := by rw [h]; rfl
theorem ints_perm_out {es : List (Int × Value)} {out : List (Int × Value)} (h : ∀ e ∈ es, ∃ n u, e = (hashInt n, Value.int n u)) (hp : out.Perm es) :
    IntsAre (out.map (·.2)) (out.map fun e => valI e.2) ∧ (out.map fun e => valI e.2).Perm (es.map fun e => valI e.2) :=
  ⟨ints_of_set fun e he => h e (hp.mem_iff.mp he), hp.map _⟩
/-- a walk of a set of ints begins -/
theorem iter_set {a : Addr} {o : Obj} {ks : List Int} {Q : Value → Shared → Prop} (ho : s.heap.get? a = some o) (hS : SetT (!w.params.followText "set-order") o ks) (hb : ks.length ≤ sizeLine)
    (h : ∀ (h₁ : Heap) (d : Drawn) (I : Addr) (fp : List Addr) (outv : List Value) (kl : List Int) (n : Nat) (St : Nat → Heap → Prop), (∀ b o, s.heap.get? b = some o → h₁.get? b = some o) → s.heap.objs.size ≤ I → (∀ b ∈ fp, b = a ∨ s.heap.objs.size ≤ b) → (∀ b ∈ fp, (h₁.get? b).isSome) →
      (∃ oI, h₁.get? I = some oI ∧ oI.cls = .type "set_iterator") → (∀ A' : Around, A'.handled = none → Walks prog w A' I fp [I] n (OutAt outv) St) → St 0 h₁ → outv.length = n → n = ks.length → IntsAre outv kl → kl.Perm ks → Q (.ref I) { s with heap := h₁, drawn := d }) :
    wpAny (model prog w) A (pyIter (.ref a)) Q E s := by
  obtain ⟨hex, es, ep, t, hd, T, hf, hel, rfl⟩ := hS
  have hTy : s.TypeIs (.ref a) "set" := ⟨o, ho, hex.1⟩
  have hlen : (es.toList.map fun e => valI e.2).length = es.size := by simp
  have ha : a < s.heap.objs.size := Heap.lt_size ho
  refine wpAny_pyIter_slot hTy PySem.F.slot_set_iter (wpAny_call_entry PySem.F.slot_set_iter hTy Si.entry_iter ?_ (PySem.F.args_set_iter_1 _))
  unfold Builtin.«frozenset.__iter__» Builtin.Frozenset.slot0
  refine wpAny_bind (wpAny_bind (m := slotArgs "__iter__" 0 _) (wpAny_pure ?_))
  unfold Builtin.Frozenset.addrOf Builtin.Frozenset.sizeOf
  refine wpAny_pure ?_
  refine wpAny_bind (wpAny_bind (ents_of ho hd hf (wpAny_pure ?_)))
  refine wpAny_bind ?_
  refine wpAny_bind ?_
  refine wpAny_setState_of ho hd hf ?_
  dsimp only
  unfold setsByText
  refine wpAny_bind (wpAny_bind (wpAny_askSetting (wpAny_pure ?_)))
  refine wpAny_pure ?_
  show wpAny _ _ (if (!(w.params.followText "set-order") && (!t.plain && decide (es.size > 1))) = true then _ else _) _ _ s
  cases hB : w.params.followText "set-order" with
  | true =>
    rw [if_neg (by simp)]
    refine wpAny_bind (wpAny_pure ?_)
    refine wpAny_bind (wpAny_setEpoch_of ho hd hf ?_)
    refine wpAny_bind (wpAny_newObj_type ?_ (by size_fits))
    have hp := pick_perm (w.params.setOrder a ep) es
    obtain ⟨i1, i2⟩ := ints_perm_out hel hp
    have hgI : (s.heap.push (IterO a es.size ep (.int ((fun _ : Nat => (0 : Int)) 0) 0) 0)).get? s.heap.objs.size = some (IterO a es.size ep (.int ((fun _ : Nat => (0 : Int)) 0) 0) 0) := Heap.get?_push_size _ rfl
    refine wpAny_pure ⟨_, rfl, "set_iterator", _, ⟨_, hgI, rfl⟩, Si.slot_next.lookup, ?_⟩
    refine h _ s.drawn s.heap.objs.size [s.heap.objs.size, a] ((pickOrder (w.params.setOrder a ep) es).toList.map (·.2)) _ es.size (fun i h => h.get? s.heap.objs.size = some (IterO a es.size ep (.int ((fun _ : Nat => (0 : Int)) i) 0) i) ∧ h.get? a = some o) (fun b ob e => Heap.get?_push_of_some _ e) (Nat.le_refl _) (fun b hb => ?_) (fun b hb => ?_) ⟨_, hgI, rfl⟩ (fun A' hA => walks_int hA (Nat.ne_of_lt ha) hd hf ?_ ?_ ?_) ⟨hgI, Heap.get?_push_of_some _ ho⟩ ?_ hlen.symm i1 i2
    · simp only [List.mem_cons, List.not_mem_nil, or_false] at hb
      rcases hb with rfl | rfl
      · exact .inr (Nat.le_refl _)
      · exact .inl rfl
    · simp only [List.mem_cons, List.not_mem_nil, or_false] at hb
      rcases hb with rfl | rfl
      · exact isSome_of hgI
      · exact isSome_of (Heap.get?_push_of_some _ ho)
    · rw [List.length_map, hp.length_eq, Array.length_toList]
    · intro i x hx
      refine ⟨0, rfl, fun s' A' E' Q' hs' q => next_text hs' hd hf hB ?_⟩
      rw [List.getElem?_map, Array.getElem?_toList, Option.map_eq_some_iff] at hx
      obtain ⟨e, he, rfl⟩ := hx
      rw [he]
      exact q
    · intro s' A' E' Q' hs' q
      refine next_text hs' hd hf hB ?_
      rw [Array.getElem?_eq_none (by rw [← Array.length_toList, hp.length_eq, Array.length_toList]; exact Nat.le_refl _)]
      exact q
    · rw [List.length_map, hp.length_eq, Array.length_toList]
  | false =>
    have hled : t.led = true := by rw [T.led, hB]; rfl
    cases hpl : (!t.plain && decide (es.size > 1)) with
    | false =>
      rw [if_neg (by simp)]
      refine wpAny_bind (wpAny_pure ?_)
      refine wpAny_bind (wpAny_setEpoch_of ho hd hf ?_)
      refine wpAny_bind (wpAny_newObj_type ?_ (by size_fits))
      obtain ⟨i1, i2⟩ := ints_perm_out hel (.refl _)
      have hps : t.place.size = es.size := by
        simp only [SetTable.fits, Bool.and_eq_true, beq_iff_eq, decide_eq_true_eq] at hf
        exact hf.1
      let fr : Nat → Int := fun i => match i with | 0 => 0 | i + 1 => ((t.place.getD i 0 + 1 : Nat) : Int)
      have hbel : ∀ i, i ≤ es.size → SetTable.below t.place (fr i).toNat = i := by
        intro i hi
        cases i with
        | zero => exact below_zero T.rise
        | succ i =>
          show SetTable.below t.place ((t.place.getD i 0 + 1 : Nat) : Int).toNat = i + 1
          rw [Int.toNat_natCast]
          exact below_next T.rise (by omega)
      have hgI : (s.heap.push (IterO a es.size ep (.int (fr 0) 0) 0)).get? s.heap.objs.size = some (IterO a es.size ep (.int (fr 0) 0) 0) := Heap.get?_push_size _ rfl
      refine wpAny_pure ⟨_, rfl, "set_iterator", _, ⟨_, hgI, rfl⟩, Si.slot_next.lookup, ?_⟩
      refine h _ s.drawn s.heap.objs.size [s.heap.objs.size, a] (es.toList.map (·.2)) _ es.size (fun i h => h.get? s.heap.objs.size = some (IterO a es.size ep (.int (fr i) 0) i) ∧ h.get? a = some o) (fun b ob e => Heap.get?_push_of_some _ e) (Nat.le_refl _) (fun b hb => ?_) (fun b hb => ?_) ⟨_, hgI, rfl⟩ (fun A' hA => walks_int (first := fr) hA (Nat.ne_of_lt ha) hd hf ?_ ?_ ?_) ⟨hgI, Heap.get?_push_of_some _ ho⟩ ?_ hlen.symm i1 i2
      · simp only [List.mem_cons, List.not_mem_nil, or_false] at hb
        rcases hb with rfl | rfl
        · exact .inr (Nat.le_refl _)
        · exact .inl rfl
      · simp only [List.mem_cons, List.not_mem_nil, or_false] at hb
        rcases hb with rfl | rfl
        · exact isSome_of hgI
        · exact isSome_of (Heap.get?_push_of_some _ ho)
      · rw [List.length_map, Array.length_toList]
      · intro i x hx
        rw [List.getElem?_map, Array.getElem?_toList, Option.map_eq_some_iff] at hx
        obtain ⟨e, he, rfl⟩ := hx
        have hi : i < es.size := (Array.getElem?_eq_some_iff.mp he).1
        refine ⟨t.place.getD i 0 + 1, rfl, fun s' A' E' Q' hs' q => next_plain hs' hd hf hB hled hpl ?_⟩
        rw [hbel i (by omega), he, getD_some (by omega)]
        exact q
      · intro s' A' E' Q' hs' q
        refine next_plain hs' hd hf hB hled hpl ?_
        rw [hbel es.size (Nat.le_refl _), Array.getElem?_eq_none (Nat.le_refl _)]
        exact q
      · rw [List.length_map, Array.length_toList]
    | true =>
      rw [if_pos (by rfl)]
      refine wpAny_bind (draw_perm es.size (List.range es.size) (by simp) fun ps d hp => ?_)
      have hpsl : ps.length = es.size := by rw [hp.length_eq, List.length_range]
      refine wpAny_bind (wpAny_newTuple ?_ (by rw [List.length_map]; rw [hlen] at hb; omega))
      have hTsz : (s.heap.push (drawObj ps)).objs.size = s.heap.objs.size + 1 := Heap.size_push ..
      have ho1 : (s.heap.push (drawObj ps)).get? a = some o := Heap.get?_push_of_some _ ho
      refine wpAny_bind (wpAny_setEpoch_of (s := { s with heap := s.heap.push (drawObj ps), drawn := d }) ho1 hd hf ?_)
      refine wpAny_bind (wpAny_newObj_type ?_ (by size_fits))
      have hgT0 : (s.heap.push (drawObj ps)).get? s.heap.objs.size = some (drawObj ps) := Heap.get?_push_size _ rfl
      have hgI : ((s.heap.push (drawObj ps)).push (IterO a es.size ep (.ref s.heap.objs.size) 0)).get? (s.heap.push (drawObj ps)).objs.size = some (IterO a es.size ep (.ref s.heap.objs.size) 0) := Heap.get?_push_size _ rfl
      have hgT := Heap.get?_push_of_some (IterO a es.size ep (.ref s.heap.objs.size) 0) hgT0
      have hga := Heap.get?_push_of_some (IterO a es.size ep (.ref s.heap.objs.size) 0) ho1
      refine wpAny_pure ⟨_, rfl, "set_iterator", _, ⟨_, hgI, rfl⟩, Si.slot_next.lookup, ?_⟩
      have hout : (ps.map fun p => es.getD p ((0, Value.none) : Int × Value)).Perm es.toList := by
        refine (hp.map _).trans (List.Perm.of_eq ?_)
        refine List.ext_getElem (by simp) fun i h1 h2 => ?_
        have hi : i < es.size := by simpa using h2
        rw [List.getElem_map, List.getElem_range, Array.getElem_toList, Array.getD_eq_getD_getElem?, Array.getElem?_eq_getElem hi]
        rfl
      obtain ⟨i1, i2⟩ := ints_perm_out hel hout
      rw [List.map_map] at i1
      refine h _ d (s.heap.push (drawObj ps)).objs.size [(s.heap.push (drawObj ps)).objs.size, a, s.heap.objs.size] (ps.map fun p => (es.getD p (0, .none)).2) _ es.size _ (fun b ob e => Heap.get?_push_of_some _ (Heap.get?_push_of_some _ e)) (by rw [hTsz]; exact Nat.le_succ _) (fun b hb => ?_) (fun b hb => ?_) ⟨_, hgI, rfl⟩ (fun A' hA => walks_drawn hA ?_ ?_ hd hf hp) ⟨hgI, hga, hgT⟩ (by rw [List.length_map, hpsl]) hlen.symm i1 i2
      · simp only [List.mem_cons, List.not_mem_nil, or_false] at hb
        rcases hb with rfl | rfl | rfl
        · exact .inr (by rw [hTsz]; exact Nat.le_succ _)
        · exact .inl rfl
        · exact .inr (Nat.le_refl _)
      · simp only [List.mem_cons, List.not_mem_nil, or_false] at hb
        rcases hb with rfl | rfl | rfl
        · exact isSome_of hgI
        · exact isSome_of hga
        · exact isSome_of hgT
      · rw [hTsz]; exact Nat.ne_of_lt (Nat.lt_succ_of_lt ha)
      · rw [hTsz]; exact Nat.ne_of_lt (Nat.lt_succ_self _)
end
end Mine
end Part23
section Part24
open PySem PySem.W PySem.Calls PyProof.Rows
namespace Mine
section
variable {prog : Program} {w : World} {A : Around} {E : Value → Shared → Prop} {s : Shared}
/-- in a set stand the ints that were put in, each once -/
def SetAt (led : Bool) (h : Heap) (S : Addr) (done : List Int) : Prop :=
  ∃ o ks, h.get? S = some o ∧ SetT led o ks ∧ ks.Nodup ∧ (∀ k, k ∈ ks ↔ k ∈ done) ∧ ks.length ≤ done.length
theorem SetAt.at' {led : Bool} {h h' : Heap} {S : Addr} {done : List Int} (q : SetAt led h S done) (e : ∀ o, h.get? S = some o → h'.get? S = some o) : SetAt led h' S done :=
  let ⟨o, ks, ho, r⟩ := q; ⟨o, ks, e o ho, r⟩
theorem upd_loop {led : Bool} {R : Result → Shared → Prop} {S I l : Addr} {items : Array Value} {ns : List Int} (hh : A.handled = none) (hSI : S ≠ I) (hlI : l ≠ I) (hSl : S ≠ l) (hi : IntsAre items.toList ns) (hb : ns.length + 1 < scanBound) :
    ∀ (k i : Nat) (s : Shared), ns.length - i = k → i ≤ ns.length → s.heap.IsListIter I l i → s.heap.IsList l items → SetAt led s.heap S (ns.take i) →
      (∀ h' tk, (∀ b o, b ≠ S → b ≠ I → s.heap.get? b = some o → h'.get? b = some o) → SetAt led h' S ns → R (.ok (.ret .none)) { s with heap := h', toks := tk }) →
      codeAny (model prog w) A (.builtin "set.update.loop" ⟨[.ref S, .ref I], []⟩) R s := by
  have hlen : items.size = ns.length := by rw [← IntsAre.length hi, Array.length_toList]
  intro k
  induction k with
  | zero =>
    intro i s hk hin hit hl hS hR
    have e : i = ns.length := by omega
    subst e
    refine codeAny_builtin PyProof.Rows.F.entry_set_update_loop ?_
    rw [Around.under_plainId PyProof.Rows.F.plain_set_update_loop _]
    show wpAny _ A.in1 (pyNext (.ref I) >>= _) _ _ s
    refine wpAny_bind (wpAny_pyNext_list_end hh hit hl (by rw [Array.getElem?_eq_none]; omega) fun h' he => ?_)
    show wpAny _ A.in1 (ret Value.none) _ _ _
    refine wpAny_pure (hR h' s.toks (fun b o _ hbI e => he b o hbI e) ?_)
    rw [List.take_length] at hS
    exact hS.at' fun o e => he S o hSI e
  | succ k ih =>
    intro i s hk hin hit hl hS hR
    have hlt : i < ns.length := by omega
    have hx : items[i]? = some items[i] := Array.getElem?_eq_getElem (by omega)
    obtain ⟨t, ht⟩ := IntsAre.int_at hi i items[i] (by rw [Array.getElem?_toList]; exact hx)
    refine codeAny_builtin PyProof.Rows.F.entry_set_update_loop ?_
    rw [Around.under_plainId PyProof.Rows.F.plain_set_update_loop _]
    show wpAny _ A.in1 (pyNext (.ref I) >>= _) _ _ s
    refine wpAny_bind (wpAny_pyNext_list_item hit hl hx fun h' hit' hs' => ?_)
    rw [ht]
    obtain ⟨o, ks, ho, hT, hnd, hmem, hle⟩ := hS
    have hle2 : ks.length ≤ i := by rw [List.length_take] at hle; omega
    show wpAny _ A.in1 (holding [Value.int (ns.getD i 0) t] (setAdd S (.int (ns.getD i 0) t)) >>= _) _ _ _
    refine wpAny_bind (wpAny_holding ?_)
    unfold setAdd
    refine wpAny_holding ?_
    refine wpAny_bind ((intKind prog w).pyHash (k := ns.getD i 0) (intKind_is _ _ _ _) ?_)
    refine add_int (led := led) (s := { heap := h', gens := s.gens, drawn := s.drawn, toks := s.toks + 1, os := s.os }) (hs'.extBut S o hSI ho) hT (by omega) fun h2 o' ks' hsb ho' hT' hp b => ?_
    have hns : ns.take (i + 1) = ns.take i ++ [ns.getD i 0] := by
      rw [List.take_add_one, List.getD_eq_getElem?_getD, List.getElem?_eq_getElem hlt]; rfl
    refine wpAny_pure ⟨plainId_quiet PyProof.Rows.F.plain_set_update_loop _, ih (i + 1) _ (by omega) hlt ?_ ?_ ⟨o', ks', ho', hT', ?_, ?_, ?_⟩ fun h3 tk3 hk3 hS3 => ?_⟩
    · obtain ⟨oi, hoi, r⟩ := hit'
      exact ⟨oi, by rw [hsb.2 I (Ne.symm hSI)]; exact hoi, r⟩
    · obtain ⟨ol, hol, r⟩ := hl
      exact ⟨ol, by rw [hsb.2 l (Ne.symm hSl)]; exact hs'.extBut l ol hlI hol, r⟩
    · by_cases q : ns.getD i 0 ∈ ks
      · rw [if_pos q] at hp; exact hp.nodup_iff.mpr hnd
      · rw [if_neg q] at hp
        refine hp.nodup_iff.mpr (List.nodup_append.mpr ⟨hnd, by simp, ?_⟩)
        intro a ha b hb e
        rw [List.mem_singleton] at hb
        exact q (by rw [← hb, ← e]; exact ha)
    · intro k'
      rw [hp.mem_iff, hns, List.mem_append, List.mem_singleton, ← hmem k']
      by_cases q : ns.getD i 0 ∈ ks
      · rw [if_pos q]
        exact ⟨.inl, fun z => z.elim id fun e => e ▸ q⟩
      · rw [if_neg q, List.mem_append, List.mem_singleton]
    · rw [hp.length_eq, List.length_take]
      split
      · omega
      · rw [List.length_append, List.length_singleton]; omega
    · refine hR h3 tk3 (fun b o hbS hbI e => hk3 b o hbS hbI ?_) hS3
      rw [hsb.2 b hbS]; exact hs'.extBut b o hbI e
theorem code_new (a : Value) {Q₁ : Value → Shared → Prop}
    (h : Q₁ (.ref s.heap.objs.size) { s with heap := s.heap.push { cls := .type "set", dict := none, data := .set #[] 0 (.fresh 0 0 (!w.params.followText "set-order")) } }) :
    codeAny (model prog w) A (.call (.builtin "set.__new__") ⟨[.type "set", a], []⟩) (wants Q₁ E) s := by
  refine codeAny_of_tree ?_
  show wpAny _ A.in1 (do checkBuiltinCall "set.__new__" ⟨[.type "set", a], []⟩; again (.builtin "set.__new__" ⟨[.type "set", a], []⟩)) _ _ s
  refine wpAny_bind (wpAny_of_eq (PySem.F.newCall_set_1 a) (wpAny_pure ⟨plainId_quiet PySem.F.plain_set_new _, codeAny_builtin PySem.F.entry_set_new ?_⟩))
  rw [Around.under_plainId PySem.F.plain_set_new _]
  unfold Builtin.«set.__new__» Builtin.Frozenset.newClass
  have hsub := sub_set_self
  obtain ⟨hp, g, d, tk, os⟩ := s
  dsimp only
  wp_walk
  refine wpAny_askSetting (wpAny_pure ?_)
  dsimp only
  simp only [newObj]
  refine wpAny_bind (wpAny_alloc (wpAny_pure ?_))
  exact wpAny_pure h
theorem setAt_fresh {h : Heap} (led : Bool) : SetAt led (h.push { cls := .type "set", dict := none, data := .set #[] 0 (.fresh 0 0 led) }) h.objs.size [] :=
  ⟨_, [], Heap.get?_push_size _ rfl, ⟨⟨rfl, rfl, rfl⟩, #[], 0, _, rfl, Tab.fresh led, by rfl, fun e he => by simp at he, rfl⟩, .nil, fun k => Iff.rfl, Nat.le_refl _⟩
theorem call_set {l : Addr} {items : Array Value} {ns : List Int} {Q : Value → Shared → Prop}
    (hh : A.handled = none) (hl : s.heap.IsList l items) (hi : IntsAre items.toList ns) (hb : ns.length + 1 < scanBound)
    (h : ∀ (h' : Heap) (tk : Nat), SetAt (!w.params.followText "set-order") h' s.heap.objs.size ns → (∀ b o, s.heap.get? b = some o → h'.get? b = some o) → Q (.ref s.heap.objs.size) { s with heap := h', toks := tk }) :
    wpAny (model prog w) A (call (.type "set") [.ref l]) Q E s := by
  obtain ⟨c, tl, hmro⟩ := PySem.F.called_set.mro
  have hmade := PySem.F.called_set.made
  have hsub := PySem.F.called_set.sub
  refine wpAny_call (codeAny_of_tree ?_)
  show wpAny _ _ (callAny (.type "set") _) _ _ _
  refine wpAny_pure ⟨Code.quiet_builtin _ (by decide +kernel), codeAny_builtin PySem.F.entry_type_call ?_⟩
  rw [Around.under_plain (weight_type_call_type "set" [.ref l] []) rfl]
  have h1 := PySem.F.called_set.notType
  have h2 := PySem.F.called_set.canCreate
  have hct := PySem.F.typeCall_set_1 (.ref l)
  repeat (any_goals (first | assumption | wp_step))
  refine codeAny_mono (code_new (.ref l) (E := E) (Q₁ := fun obj s₁ => obj = .ref s.heap.objs.size ∧ s₁ = { s with heap := s.heap.push { cls := .type "set", dict := none, data := .set #[] 0 (.fresh 0 0 (!w.params.followText "set-order")) } }) ⟨rfl, rfl⟩) fun r s₁ hr => ?_
  cases r with
  | error e => exact hr
  | ok fl =>
    cases fl with
    | ret obj =>
      obtain ⟨rfl, rfl⟩ := hr
      have hS : (s.heap.push { cls := .type "set", dict := none, data := .set #[] 0 (.fresh 0 0 (!w.params.followText "set-order")) }).get? s.heap.objs.size = some { cls := .type "set", dict := none, data := .set #[] 0 (.fresh 0 0 (!w.params.followText "set-order")) } := Heap.get?_push_size _ rfl
      have hfresh := setAt_fresh (h := s.heap) (!w.params.followText "set-order")
      generalize hH : s.heap.push { cls := .type "set", dict := none, data := .set #[] 0 (.fresh 0 0 (!w.params.followText "set-order")) } = H at hS hfresh ⊢
      have hHs : H.objs.size = s.heap.objs.size + 1 := by rw [← hH, Heap.size_push]
      have hkeep : ∀ b o, s.heap.get? b = some o → H.get? b = some o := fun b o e => by rw [← hH]; exact Heap.get?_push_of_some _ e
      have hT : Shared.TypeIs { s with heap := H } (.ref s.heap.objs.size) "set" := ⟨_, hS, rfl⟩
      have hli := PySem.F.called_set.init.lookup
      have hbi := PySem.F.called_set.init.bind (.ref s.heap.objs.size)
      repeat (any_goals (first | assumption | wp_step))
      refine codeAny_mono (codeAny_call_builtin (R := wants (fun r s₂ => r = .none ∧ ∃ h' tk, s₂ = { s with heap := h', toks := tk } ∧ SetAt (!w.params.followText "set-order") h' s.heap.objs.size ns ∧
          (∀ b o, s.heap.get? b = some o → h'.get? b = some o)) E) PySem.F.called_set.init.plain PySem.F.entry_set_init (check_set_init_1 hT ?_)) fun r₂ s₂ hr₂ => ?_
      · obtain ⟨ol, hol, hcl, nl, hdl⟩ := hl
        have hol' := hkeep _ _ hol
        obtain ⟨ocls, odict, odata, oslots⟩ := ol
        simp only at hcl hdl
        subst hcl; subst hdl
        have hsls := PySem.F.sub_list_set
        have hslf := PySem.F.sub_list_frozenset
        have hne : (Value.type "list" == Value.type "dict") = false := by decide
        have hl1 : H.IsList l items := ⟨_, hol', rfl, nl, rfl⟩
        unfold Builtin.«set.__init__» noKeywords Builtin.Frozenset.updateFrom
        generalize hPI : pyIter = PI
        wp_walk
        subst hPI
        refine wpAny_pyIter_list hl1 ?_
        refine wpAny_bind (wpAny_runValue ?_)
        have hlS : l < s.heap.objs.size := Heap.lt_size hol
        have hh3 : A.in1.in1.handled = none := by simp [hh]
        have e1 : s.heap.objs.size ≠ H.objs.size := by rw [hHs]; exact Nat.ne_of_lt (Nat.lt_succ_self _)
        have e2 : l ≠ H.objs.size := by rw [hHs]; exact Nat.ne_of_lt (Nat.lt_succ_of_lt hlS)
        have e3 : s.heap.objs.size ≠ l := Nat.ne_of_gt hlS
        have hS0 : SetAt (!w.params.followText "set-order") (H.push { cls := .type "list_iterator", data := .fields #[.ref l, .int 0 0] }) s.heap.objs.size (ns.take 0) := by
          rw [List.take_zero]; exact hfresh.at' fun o e => Heap.get?_push_of_some _ e
        refine upd_loop (led := !w.params.followText "set-order") (S := s.heap.objs.size) (I := H.objs.size) (l := l) (items := items) (ns := ns) hh3 e1 e2 e3 hi hb ns.length 0 { s with heap := H.push { cls := .type "list_iterator", data := .fields #[.ref l, .int 0 0] } } rfl (Nat.zero_le _) ⟨_, Heap.get?_push_size _ rfl, rfl, rfl⟩ (hl1.push _) hS0 fun h' tk hk hS' => ?_
        show wpAny _ _ _ _ _ _
        refine wpAny_pure ?_
        show wpAny _ _ (ret Value.none) _ _ _
        refine wpAny_pure ⟨rfl, h', tk, rfl, hS', fun b o e => hk b o (Nat.ne_of_lt (Heap.lt_size e)) ?_ (Heap.get?_push_of_some _ (hkeep b o e))⟩
        rw [hHs]; exact Nat.ne_of_lt (Nat.lt_succ_of_lt (Heap.lt_size e))
      · cases r₂ with
        | error e => exact hr₂
        | ok fl₂ =>
          cases fl₂ with
          | ret r =>
            obtain ⟨rfl, h', tk, rfl, hS', hk'⟩ := hr₂
            repeat (any_goals (first | assumption | wp_step))
            exact h _ _ hS' hk'
          | _ => exact hr₂.elim
    | _ => exact hr.elim
end
end Mine
end Part24
section Part25
open PySem PySem.W PySem.Calls PyProof.Rows
namespace Mine
section
variable {prog : Program} {w : World} {A : Around} {E : Value → Shared → Prop} {s : Shared}
theorem out_items {outv : List Value} {acc : Array Value} {n : Nat} (hn : outv.length = n) (h : ItemsOf (OutAt outv) acc n) : acc.toList = outv := by
  refine List.ext_getElem? fun i => ?_
  cases q : acc.toList[i]? with
  | some v => exact (h.2 i v (by simpa using q)).symm
  | none =>
    rw [List.getElem?_eq_none_iff] at q
    rw [eq_comm, List.getElem?_eq_none_iff, hn, ← h.1]
    simpa using q
theorem extend_set {R : Result → Shared → Prop} {a S : Addr} {o : Obj} {ks : List Int} {res : Value} {c₀ : Nat} (hh : A.handled = none) (ho : s.heap.get? a = some o) (hS : SetT (!w.params.followText "set-order") o ks) (hb : ks.length ≤ sizeLine)
    (hL : s.heap.get? S = some { cls := .type "list", data := .seq #[] c₀ }) (haS : S ≠ a)
    (hR : ∀ h' d tk acc' c' vs kl, (∀ b o, b ≠ S → s.heap.get? b = some o → h'.get? b = some o) → h'.get? S = some { cls := .type "list", dict := none, data := .seq acc' c', slots := #[] } →
      acc'.toList = vs → IntsAre vs kl → kl.Perm ks → R (.ok (.ret res)) { s with heap := h', drawn := d, toks := tk }) :
    wpAny (model prog w) A.in1 (Builtin.List.listExtendWith (.ref S) (.ref a) res)
      (fun fin s' => match fin with | .done f => R (.ok f) s' | .again c' => c'.quiet = true ∧ codeAny (model prog w) A c' R s') (fun e s' => R (.error e) s') s := by
  have hT : s.TypeIs (.ref a) "set" := ⟨o, ho, hS.1.1⟩
  unfold Builtin.List.listExtendWith
  refine wpAny_bind (wpAny_typeOf hT ?_)
  have h1 : Builtin.List.listSameRef (.ref S) (.ref a) = false := by simp [Builtin.List.listSameRef, haS]
  have h2 : (Value.type "set" == Value.type "list") = false := by decide
  have h3 : (Value.type "set" == Value.type "tuple") = false := by decide
  simp only [h1, h2, h3, Bool.or_false, Bool.false_eq_true, if_false]
  refine wpAny_bind (iter_set ho hS hb fun h₁ d I fp outv kl n St hk hI hfp hfs hoI W hst hlen hnk hi hp => ?_)
  have hSs : S < s.heap.objs.size := Heap.lt_size hL
  have hSfp : S ∉ fp := fun hm => by
    rcases hfp S hm with q | q
    · exact haS q
    · exact absurd hSs (Nat.not_lt.mpr q)
  obtain ⟨oI, hoI1, hoI2⟩ := hoI
  have hTa : Shared.TypeIs { s with heap := h₁, drawn := d } (.ref a) "set" := ⟨o, hk _ _ ho, hS.1.1⟩
  have hL₁ := hk _ _ hL
  refine wpAny_bind (wpAny_holding ?_)
  unfold Builtin.List.listLengthHint
  refine wpAny_bind (wpAny_specialOf hTa PySem.F.slot_set_len.lookup ?_)
  wp_delta
  refine wpAny_bind (wpAny_isInstance (b := true) hTa sub_set_self ?_)
  show wpAny _ _ (typeOf (Value.ref a) >>= _) _ _ _
  refine wpAny_bind (wpAny_typeOf hTa ?_)
  refine wpAny_pure ?_
  show wpAny _ A.in1 (rule "list.extend.makes-room" >>= fun _ => Builtin.List.listTouch (.ref S) >>= fun _ =>
    again (.builtin "list.extend.loop" ⟨[.ref S, .ref I, res], []⟩)) _ _ _
  refine wpAny_bind (wpAny_rule ?_)
  refine wpAny_bind ?_
  show wpAny _ A.in1 (updateSeq S (·.push .none) >>= fun _ => updateSeq S (·.pop)) _ _ _
  refine wpAny_bind (wpAny_updateSeq hL₁ rfl ?_)
  have hS₂ := Heap.get?_update_self (Obj.mapSeq (·.push Value.none)) hL₁ rfl
  refine wpAny_updateSeq (hz := by seq_fits) hS₂ rfl ?_
  have hS₃ := Heap.get?_update_self (Obj.mapSeq (·.pop)) hS₂ rfl
  have oth : ∀ b o, b ≠ S → h₁.get? b = some o → ((h₁.update S (Obj.mapSeq (·.push Value.none))).update S (Obj.mapSeq (·.pop))).get? b = some o :=
    fun b o hb e => (Heap.get?_update_other _ _ (Ne.symm hb)).trans ((Heap.get?_update_other _ _ (Ne.symm hb)).trans e)
  have Wk := (W A.in1 hh).toS
  refine wpAny_pure ⟨plainId_quiet PySem.F.plain_extend_loop _, codeAny_extend_loopS Wk (by omega) S hSfp res n 0 _ _ _ rfl (Nat.zero_le _)
    ((W A hh).frame 0 h₁ _ hst fun b hb o e => oth b o (fun q => hSfp (q ▸ hb)) e) hS₃ (ItemsOf.nil _) fun s' acc' c' hm hS' hacc => ?_⟩
  rw [Moved.eq_with hm]
  refine hR s'.heap d s'.toks acc' c' outv kl (fun b o hb e => hm.heap b o (fun hmem => ?_) (oth b o hb (hk b o e))) hS' (out_items hlen hacc) hi hp
  rcases List.mem_cons.mp hmem with e' | hmem
  · exact hb e'
  · exact absurd (Heap.lt_size e) (by rw [List.mem_singleton.mp hmem]; exact Nat.not_lt.mpr hI)
/-- the items of a set of ints, gathered -/
theorem collect_set {a : Addr} {o : Obj} {ks : List Int} {Q : List Value → Shared → Prop} (hh : A.handled = none) (ho : s.heap.get? a = some o) (hS : SetT (!w.params.followText "set-order") o ks) (hb : ks.length ≤ sizeLine)
    (h : ∀ h' d tk vs kl, (∀ b o, s.heap.get? b = some o → h'.get? b = some o) → s.heap.objs.size ≤ h'.objs.size → IntsAre vs kl → kl.Perm ks → Q vs { s with heap := h', drawn := d, toks := tk }) :
    wpAny (model prog w) A (collect (.ref a)) Q E s := by
  unfold collect
  refine wpAny_bind (wpAny_runValue (codeAny_builtin entry_proto_collect' ?_))
  show wpAny _ _ (do again (.builtin "list.__iadd__" ⟨[← newList [], .ref a], []⟩)) _ _ s
  refine wpAny_bind (wpAny_newList (wpAny_pure ⟨Code.quiet_builtin _ (by decide +kernel), codeAny_builtin entry_list_iadd' ?_⟩))
  have hL : (s.heap.push (seqObj "list" #[] 0)).get? s.heap.objs.size = some { cls := .type "list", data := .seq #[] 0 } := Heap.get?_push_size _ rfl
  have haS : s.heap.objs.size ≠ a := Nat.ne_of_gt (Heap.lt_size ho)
  show wpAny _ _ (Builtin.List.listExtendWith (.ref s.heap.objs.size) (.ref a) (.ref s.heap.objs.size)) _ _ { s with heap := s.heap.push (seqObj "list" #[] 0) }
  rw [Around.under_plainId (show plainId "list.__iadd__" = true by decide +kernel) _]
  refine extend_set (R := fun r s' => match r with
    | .ok (.ret v) => wpAny (model prog w) A (match v with
      | .ref a => do
        let o ← load a
        match o.data with
        | .seq xs _ => pure xs.toList
        | _ => unsupported "internal:collect"
      | _ => unsupported "internal:collect") Q E s'
    | .ok _ => False
    | .error e => E e s') (s := { s with heap := s.heap.push (seqObj "list" #[] 0) }) hh (Heap.get?_push_of_some _ ho) hS hb hL haS fun h' d tk acc' c' vs kl hk hS' hv hi hp => ?_
  show wpAny (model prog w) A (do
      let o ← load s.heap.objs.size
      match o.data with
      | .seq xs _ => pure xs.toList
      | _ => unsupported "internal:collect") Q E _
  refine wpAny_bind (wpAny_load hS' ?_)
  show wpAny _ _ (pure acc'.toList) Q E _
  rw [hv]
  exact wpAny_pure (h h' d tk vs kl (fun b ob e => hk b ob (Nat.ne_of_lt (Heap.lt_size e)) (Heap.get?_push_of_some _ e)) (Nat.le_of_lt (Heap.lt_size hS')) hi hp)
/-- sorted(set of ints) -/
theorem sorted_set {a : Addr} {o : Obj} {ks : List Int} {Q : Value → Shared → Prop} {h₀ : Heap} {L : Addr} {m : Str → Option Value} {news : List (Addr × Obj)} (F : Fr h₀ L s.heap m) (N : News h₀ L s.heap news)
    (hh : A.handled = none) (hm : (a, o) ∈ news) (hS : SetT (!w.params.followText "set-order") o ks) (hb : ks.length < 64)
    (h : ∀ (l : Addr) (h' : Heap) (d : Drawn) (tk : Nat) (vs' : List Value) (ns' : List Int) (e : Nat), Fr h₀ L h' m → News h₀ L h' ((l, listOf vs'.toArray e) :: news) →
      IntsAre vs' ns' → ns'.Perm ks → ns'.Pairwise (· ≤ ·) → (∀ p ∈ news, p.1 < l) → Q (.ref l) { s with heap := h', drawn := d, toks := tk }) :
    wpAny (model prog w) A (call (.builtin "sorted") [.ref a]) Q E s := by
  refine Calls.call_function_entry kind_sorted plain_sorted entry_sorted (args_sorted1 _) ?_
  unfold Builtin.«sorted»
  refine wpAny_bind (m := checkCount "sorted" 1 1 _) (wpAny_pure ?_)
  refine wpAny_bind (collect_set hh (N _ hm).1 hS (by rw [sizeLine_eq]; omega) fun h₁ d tk vs kl hk hle hi hp => ?_)
  have hvl : vs.length < 64 := by rw [IntsAre.length hi, hp.length_eq]; exact hb
  refine wpAny_bind (wpAny_newList ?_ (by rw [sizeLine_eq]; omega))
  have hoL : (h₁.push (seqObj "list" vs.toArray 0)).get? h₁.objs.size = some (seqObj "list" vs.toArray 0) := Heap.get?_push_size _ rfl
  refine wpAny_bind (wpAny_holding (wpAny_call_entry slot_list_sort ⟨_, hoL, rfl⟩ entry_list_sort (list_sort_tree hoL hi hvl fun out ns' a1 a2 a3 => ⟨_, rfl, ?_⟩) (args_list_sort _)))
  refine wpAny_pure ⟨_, rfl, ?_⟩
  obtain ⟨e, he⟩ := sortedHeap_at (vs := vs) (out := out) hoL
  have old : ∀ b o, s.heap.get? b = some o → (sortedHeap (h₁.push (seqObj "list" vs.toArray 0)) h₁.objs.size vs out).get? b = some o := by
    intro b ob eb
    have h2 := hk b ob eb
    rw [sortedHeap_old (Nat.ne_of_lt (Heap.lt_size h2)) (by rw [size_push']; exact Nat.lt_succ_of_lt (Heap.lt_size h2)), Heap.get?_push_ne _ _ _ (Nat.ne_of_lt (Heap.lt_size h2))]
    exact h2
  exact h _ _ d tk out.toList ns' e (F.kept old) (N.kept_cons F old hle (by simpa using he)) a1 (a2.trans hp) a3 fun p hpm => Nat.lt_of_lt_of_le (Heap.lt_size (N p hpm).1) hle
/-- set(list of ints), on the frame -/
theorem set_N {l : Addr} {vs : List Value} {ns : List Int} {Q : Value → Shared → Prop} {h₀ : Heap} {L : Addr} {m : Str → Option Value} {news : List (Addr × Obj)} (F : Fr h₀ L s.heap m) (N : News h₀ L s.heap news)
    (hh : A.handled = none) (hl : s.heap.IsList l vs.toArray) (hi : IntsAre vs ns) (hb : ns.length + 1 < scanBound)
    (h : ∀ (a : Addr) (o : Obj) (ks : List Int) (h' : Heap) (tk : Nat), Fr h₀ L h' m → News h₀ L h' ((a, o) :: news) → SetT (!w.params.followText "set-order") o ks → ks.Nodup → (∀ k, k ∈ ks ↔ k ∈ ns) → ks.length ≤ ns.length → (∀ p ∈ news, p.1 < a) →
      Q (.ref a) { s with heap := h', toks := tk }) :
    wpAny (model prog w) A (call (.type "set") [.ref l]) Q E s := by
  refine call_set hh hl (by simpa using hi) hb fun h' tk hS hk => ?_
  obtain ⟨o, ks, ho, hT, hnd, hmem, hle⟩ := hS
  exact h _ o ks h' tk (F.kept hk) (N.kept_cons F hk (Nat.le_refl _) ho) hT hnd hmem hle fun p hp => Heap.lt_size (N p hp).1
end
end Mine
end Part25
section Part26
open PySem PySem.W PySem.Calls PyProof.Rows
namespace Mine
theorem hashesN_len (cs : List Nat) (n : Nat) : (hashesL cs n).length = n := by simp [hashesL]
theorem set_room {cs : List Nat} {nh : Int} {g : Int → Int} (h : 1 ≤ nh ∧ nh ≤ 20) : (List.map g (hashesL cs nh.toNat)).length + 1 < scanBound := by
  rw [List.length_map, hashesN_len]
  unfold scanBound
  omega
theorem set_small {cs : List Nat} {nh : Int} {g : Int → Int} {n : Nat} (h : 1 ≤ nh ∧ nh ≤ 20) (hl : n ≤ (List.map g (hashesL cs nh.toNat)).length) : n < 64 := by
  rw [List.length_map, hashesN_len] at hl
  omega
/-- two lists in order with the same items, each once, are one -/
theorem sorted_unique : ∀ {xs ys : List Int}, xs.Perm ys → xs.Pairwise (· ≤ ·) → ys.Pairwise (· ≤ ·) → xs = ys
  | [], ys, p, _, _ => p.nil_eq
  | x :: xs, [], p, _, _ => by have := p.length_eq; simp at this
  | x :: xs, y :: ys, p, hx, hy => by
    have h1 := List.pairwise_cons.mp hx
    have h2 := List.pairwise_cons.mp hy
    have e : x = y := by
      have a1 : x ∈ y :: ys := p.mem_iff.mp (by simp)
      have a2 : y ∈ x :: xs := p.mem_iff.mpr (by simp)
      rcases List.mem_cons.mp a1 with e | e
      · exact e
      · rcases List.mem_cons.mp a2 with f | f
        · exact f.symm
        · have := h1.1 y f
          have := h2.1 x e
          omega
    subst e
    rw [sorted_unique (List.perm_cons x |>.mp p) h1.2 h2.2]
theorem perm_of_mem {xs ys : List Int} (hx : xs.Nodup) (hy : ys.Nodup) (h : ∀ k, k ∈ xs ↔ k ∈ ys) : xs.Perm ys := by
  rw [List.perm_iff_count]
  intro k
  rw [hx.count, hy.count]
  simp only [h k]
def gather (Bs : List Int) (l : List Int) (k : Int) : List Int := if bit Bs k.toNat = true then l ++ [k] else l
theorem gather_fold (Bs : List Int) : ∀ (ks l : List Int), ks.foldl (gather Bs) l = l ++ ks.filter fun k => bit Bs k.toNat
  | [], l => by simp
  | k :: r, l => by
    rw [List.foldl_cons, gather_fold Bs r]
    unfold gather
    by_cases q : bit Bs k.toNat = true
    · rw [if_pos q, List.filter_cons, if_pos q, List.append_assoc]; rfl
    · rw [if_neg q, List.filter_cons, if_neg q]
theorem rangeKs_nodup (a : Int) (n : Nat) : (rangeKs a n).Nodup := by
  unfold rangeKs List.Nodup
  rw [List.pairwise_map]
  refine List.nodup_range.imp ?_
  intro i j q e
  exact q (by omega)
/-- the places that bear a bit are those of the hashes -/
theorem places_same {Bs : List Int} {nb : Int} {hs ks ns ms : List Int} (hnb : 0 < nb) (hbit : ∀ j, bit Bs j = (hs.map fun h => (h.fmod nb).toNat).contains j)
    (hnd : ks.Nodup) (hmem : ∀ k, k ∈ ks ↔ k ∈ hs.map fun v => v.fmod nb) (p1 : ns.Perm ks) (w1 : ns.Pairwise (· ≤ ·))
    (p2 : ms.Perm ((rangeKs 0 (nb - 0).toNat).foldl (gather Bs) [])) (w2 : ms.Pairwise (· ≤ ·)) : ms = ns := by
  refine sorted_unique ?_ w2 w1
  refine p2.trans (List.Perm.trans ?_ p1.symm)
  rw [gather_fold, List.nil_append]
  refine perm_of_mem ((rangeKs_nodup _ _).filter _) hnd fun k => ?_
  rw [hmem, List.mem_filter, hbit, List.contains_iff_mem, List.mem_map, List.mem_map]
  constructor
  · rintro ⟨hk, h, hh, e⟩
    refine ⟨h, hh, ?_⟩
    have := mem_rangeKs hk
    have := (fmod_nb (h := h) hnb).1
    omega
  · rintro ⟨h, hh, e⟩
    have := fmod_nb (h := h) hnb
    refine ⟨?_, h, hh, by rw [e]⟩
    unfold rangeKs
    exact List.mem_map.mpr ⟨k.toNat, List.mem_range.mpr (by omega), by omega⟩
theorem place8 {k nb : Int} {n : Nat} (h0 : 0 ≤ k) (h1 : k < 0 + ((nb - 0).toNat : Int)) (hl : (n : Int) * 8 ≥ nb) (hn : 0 < nb) : 0 ≤ k.fdiv 8 ∧ k.fdiv 8 < (n : Int) := by
  rw [Int.fdiv_eq_ediv_of_nonneg _ (by omega)]
  omega
/-- the bit read by division -/
theorem bit_div {Bs : List Int} {k : Int} (hB : ∀ b ∈ Bs, 0 ≤ b) (hk : 0 ≤ k) : decide (((Bs.getD (k.fdiv 8).toNat 0).fdiv ((2 : Int) ^ (k.fmod 8).toNat)).fmod 2 = 1) = bit Bs k.toNat := by
  unfold bit
  rw [fdiv8 hk]
  obtain ⟨b, hb⟩ := Int.eq_ofNat_of_zero_le (getD_nonneg hB (k.toNat / 8))
  have e : (k.fmod 8).toNat = k.toNat % 8 := by rw [Int.fmod_eq_emod_of_nonneg _ (by omega)]; omega
  rw [hb, e, Int.toNat_natCast, Nat.testBit_eq_decide_div_mod_eq]
  have h2 : ((2 : Int) ^ (k.toNat % 8)) = ((2 ^ (k.toNat % 8) : Nat) : Int) := by simp
  rw [h2, Int.fdiv_eq_ediv_of_nonneg _ (Int.natCast_nonneg _), Int.fmod_eq_emod_of_nonneg _ (by omega)]
  congr 1
  rw [← Int.natCast_ediv]
  apply propext
  omega
theorem gather_grows (Bs : List Int) (l : List Int) (k : Int) : (gather Bs l k).length ≤ l.length + 1 := by
  unfold gather
  split
  · simp
  · omega
theorem kci_own {news : List (Addr × Obj)} {l r : List Int} {a : Int} {t : Tok} (e : r = l ++ [a]) : KCiEl news l r (.int a t) news := ⟨rfl, a, t, rfl, e⟩
theorem kci_none {news : List (Addr × Obj)} {l r : List Int} (e : r = l) : KCiNo news l r news := ⟨rfl, e⟩
theorem gather_yes {Bs l : List Int} {k : Int} (hB : ∀ b ∈ Bs, 0 ≤ b) (hk : 0 ≤ k) (h : ((Bs.getD (k.fdiv 8).toNat 0).fdiv ((2 : Int) ^ (k.fmod 8).toNat)).fmod 2 = 1) : gather Bs l k = l ++ [k] := by
  unfold gather
  rw [← bit_div hB hk]
  exact if_pos (by simpa using h)
theorem gather_no {Bs l : List Int} {k : Int} (hB : ∀ b ∈ Bs, 0 ≤ b) (hk : 0 ≤ k) (h : ((Bs.getD (k.fdiv 8).toNat 0).fdiv ((2 : Int) ^ (k.fmod 8).toNat)).fmod 2 ≠ 1) : gather Bs l k = l := by
  unfold gather
  rw [← bit_div hB hk]
  exact if_neg (by simpa using h)
theorem eq_sameK {prog : Program} {w : World} {A : Around} {E : Value → Shared → Prop} {s : Shared} {a b : Addr} {vs us : List Value} {ns ms : List Int} {Q : Value → Shared → Prop} (hl : s.heap.IsList a vs.toArray) (hi : IntsAre vs ns) (hl' : s.heap.IsList b us.toArray) (hi' : IntsAre us ms) (hu : A.units + 64 < cLine)
    (e : ns = ms) (h : Q (.bool true) s) : wpAny (model prog w) A (compareOp .Eq (.ref a) (.ref b)) Q E s :=
  eq_intsK hl hi hl' hi' hu (by rw [e, decide_eq_true rfl]; exact h)
theorem ne_int_same {prog : Program} {w : World} {A : Around} {E : Value → Shared → Prop} {s : Shared} {a b : Int} {t u : Tok} {Q : Value → Shared → Prop} (e : a = b) (h : Q (.bool false) s) : wpAny (model prog w) A (compareOp .NotEq (.int a t) (.int b u)) Q E s := by
  subst e
  refine ne_int ?_
  simpa using h
theorem app_len {α β : Type} {a : List α} {b : List β} {x : α} {y : β} (h : a.length = b.length + 1) : (a ++ [x]).length = (b ++ [y]).length + 1 := by simp [h]
theorem fold_small {vs : List Value} {nb : Int} (h : vs.length ≤ (nb - 0).toNat) (hf : 12 ≤ nb ∧ nb ≤ 28) : vs.length < 64 := by omega
/-- a filter into which hs was put -/
structure Filled (Bs hs : List Int) (nb : Int) : Prop where
  nn : ∀ b ∈ Bs, 0 ≤ b
  len : (Bs.length : Int) * 8 ≥ nb ∧ Bs.length < 1000
  bit : ∀ j, bit Bs j = (hs.map fun h => (h.fmod nb).toNat).contains j
  on : hs.all (on8 Bs nb) = true
theorem filled (hs : List Int) {nb : Int} (h : 12 ≤ nb ∧ nb ≤ 28) : Filled (putL nb (List.replicate (-(-nb).fdiv 8).toNat 0) hs) hs nb := by
  have h0 : 0 < nb := by omega
  have e := eighths h
  refine ⟨putL_nonneg h0 hs (zeros_nonneg _), by rw [put_len]; exact e, fun j => ?_, added_yes (zeros_nonneg _) h0 e.1⟩
  rw [putL_bit h0 j hs (zeros_nonneg _) e.1, zeros_bit, Bool.false_or]
end Mine
end Part26
section Part27
open PySem PySem.W PySem.Calls PyProof.Rows
namespace Mine
section
variable {w : World} {p : Program} {loose : List Str} {mean : ExcName → Option Value} {mg mb : Str → Option Value} {news : List (Addr × Obj)}
  {dp un : Nat} {gd : Option (List Code)} {cn : Str} {cs : Scope} {a : Addr} {ccd : Value} {cl : List (Str × Addr)} {outer : List Env} {A₀ : Around} {base h₀ : Heap} {L : Addr} {m : Str → Option Value} {s : Shared} {Q E : Value → Shared → Prop}
local macro_rules | `(tactic| cell_enter) => `(tactic| (refine' code_def ?k1 ?k2 ?k3 ?k4 ?k5 ?kA ?kF ?kK ?k6 ?k7 ?k8 ?k9 ?kB ?_ ?c2 ?c3 ?c4 ?c5; (case kA => exact rfl); (case kF => exact rfl); (case kK => assumption); (case k1 => k_asm); (case k2 => k_asm); (case k3 => k_asm); (case k4 => k_asm); (case k5 => k_asm); (case k6 => k_is); (case k7 => k_is); (case k8 => ktr_room); (case k9 => first | exact BindsTo.of_eq rfl | exact binds_K (by k_in) rfl (by k_is) rfl rfl rfl); (case c5 => decide); (case kB => exact locs rfl); (case c2 => exact rfl); (case c3 => exact rfl); (case c4 => exact rfl); k_whole; intro g' L' h' FG' F' N' B' X' T'; (try dsimp only); (try k_lift B'); (try k_fold)))
local macro_rules | `(tactic| k_memK) => `(tactic| first | assumption | exact List.Mem.head _)
local macro_rules | `(tactic| walk_at "none") => `(tactic| fail)
local macro_rules | `(tactic| walk_at "none") => `(tactic| fail)
local macro_rules | `(tactic| walk_at "none") => `(tactic| fail)
local macro_rules | `(tactic| walk_at "none") => `(tactic| fail)
local macro_rules | `(tactic| walk_at "none") => `(tactic| fail)
local macro_rules | `(tactic| walk_at "none") => `(tactic| fail)
local macro_rules | `(tactic| walk_at "none") => `(tactic| fail)
local macro_rules | `(tactic| walk_at "none") => `(tactic| fail)
local macro_rules | `(tactic| walk_at "none") => `(tactic| fail)
local macro_rules | `(tactic| walk_at "none") => `(tactic| fail)
local macro_rules | `(tactic| walk_at "none") => `(tactic| fail)
local macro_rules | `(tactic| walk_at "none") => `(tactic| fail)
local macro_rules | `(tactic| walk_at "none") => `(tactic| fail)
local macro_rules | `(tactic| walk_at "none") => `(tactic| fail)
local macro_rules | `(tactic| walk_at "none") => `(tactic| fail)
local macro_rules | `(tactic| walk_at "none") => `(tactic| fail)
local macro_rules | `(tactic| walk_at "none") => `(tactic| fail)
local macro_rules | `(tactic| walk_at "none") => `(tactic| fail)
local macro_rules | `(tactic| walk_at "none") => `(tactic| fail)
local macro_rules | `(tactic| walk_at "none") => `(tactic| fail)
local macro_rules | `(tactic| walk_at "none") => `(tactic| fail)
local macro_rules | `(tactic| walk_at "none") => `(tactic| fail)
local macro_rules | `(tactic| walk_at "none") => `(tactic| fail)
local macro_rules | `(tactic| walk_at "none") => `(tactic| fail)
local macro_rules | `(tactic| walk_at "none") => `(tactic| fail)
local macro_rules | `(tactic| walk_at "none") => `(tactic| fail)
local macro_rules | `(tactic| walk_at "none") => `(tactic| fail)
local macro_rules | `(tactic| walk_at "none") => `(tactic| fail)
local macro_rules | `(tactic| walk_at "none") => `(tactic| fail)
local macro_rules | `(tactic| walk_at "none") => `(tactic| fail)
local macro_rules | `(tactic| walk_at "none") => `(tactic| fail)
local macro_rules | `(tactic| walk_at "none") => `(tactic| fail)
local macro_rules | `(tactic| walk_at "none") => `(tactic| fail)
local macro_rules | `(tactic| walk_at "none") => `(tactic| fail)
local macro_rules | `(tactic| walk_at "none") => `(tactic| fail)
local macro_rules | `(tactic| walk_at "none") => `(tactic| fail)
local macro_rules | `(tactic| walk_at "none") => `(tactic| fail)
local macro_rules | `(tactic| walk_at "getMethod ref") => `(tactic| (k_here; k_dflt (first
  | (refine' meth_cmI ?k1 ?k2 ?k3 ?k4 ?k5 ?k6 ?k7 ?k8 ?k9 ?k10 ?k11 ?k12 ?k13 ?_; (case k1 => k_asm); (case k2 => k_asm); (case k3 => k_asm); (case k4 => k_inst); (case k5 => k_is); (case k6 => k_is); (case k7 => k_is); (case k8 => k_is); (case k9 => k_is); (case k10 => k_is); (case k11 => k_is); (case k12 => decide +kernel); (case k13 => k_is); k_whole; intro q' h' F' N' l1; (try k_lt l1); (try k_sweep))
  | (refine' meth_slotI ?k1 ?k2 ?k3 ?k4 ?k5 ?k6 ?k7 ?k8 ?k9 ?k10 ?k11 ?k12 ?_; (case k1 => k_asm); (case k2 => k_asm); (case k3 => k_inst); (case k4 => k_is); (case k5 => k_is); (case k6 => k_is); (case k7 => k_is); (case k8 => k_is); (case k9 => k_is); (case k10 => k_is); (case k11 => k_slotget); (case k12 => k_handed); k_whole))))
theorem nh_get {x d bl : Addr} {blen els est fpr nb nh : Int} {u0 u1 u2 u3 u4 u5 u6 u7 : Tok} (B : Below A₀ base outer h₀) (F : Fr h₀ L s.heap m) (X : (KP w).In h₀) (N : News h₀ L s.heap news) (T : Top p loose mean mg mb h₀) (hk : cs.kind = .function)
    (hx : (x, bloomObj d bl blen els est fpr nb nh u0 u1 u2 u3 u4 u5 u6 u7) ∈ news) (hdx : (d, dictOf [] 0) ∈ news) (hd : dp + 1 < recursionLimit) (hu : un + 8 < cLine)
    (hret : Back h₀ L m news s Q (fun t => .int nh t)) :
    wpAny (model Prog w) (ktrTop dp un gd cn cs L a ccd cl outer) (getAttr (.ref x) (Str.ofString "number_hashes") true) Q E s := by
  dsimp only [Prog, KP, Back, BackL] at *
  revert X
  w_top off
  k_fill
  intro X
  k_dflt (refine' get_propI ?k1 ?k2 ?k3 ?k4 ?k5 ?k6 ?k7 ?k8 ?k9 ?_; (case k1 => k_asm); (case k2 => k_asm); (case k3 => k_inst); (case k4 => k_is); (case k5 => k_is); (case k6 => k_is); (case k7 => k_is); (case k8 => k_is); (case k9 => k_is); k_whole)
  k_dflt cell_enter
  have hIz := IntsAre.nil
  k_with_none
  k_steps
  all_goals exact hret _ _ _ (by k_asm) (by k_asm)
theorem bloom_get {x d bl : Addr} {blen els est fpr nb nh : Int} {u0 u1 u2 u3 u4 u5 u6 u7 : Tok} (B : Below A₀ base outer h₀) (F : Fr h₀ L s.heap m) (X : (KP w).In h₀) (N : News h₀ L s.heap news) (T : Top p loose mean mg mb h₀) (hk : cs.kind = .function)
    (hx : (x, bloomObj d bl blen els est fpr nb nh u0 u1 u2 u3 u4 u5 u6 u7) ∈ news) (hdx : (d, dictOf [] 0) ∈ news) (hd : dp + 1 < recursionLimit) (hu : un + 8 < cLine)
    (hret : Back h₀ L m news s Q (fun t => .ref bl)) :
    wpAny (model Prog w) (ktrTop dp un gd cn cs L a ccd cl outer) (getAttr (.ref x) (Str.ofString "bloom") true) Q E s := by
  dsimp only [Prog, KP, Back, BackL] at *
  revert X
  w_top off
  k_fill
  intro X
  k_dflt (refine' get_propI ?k1 ?k2 ?k3 ?k4 ?k5 ?k6 ?k7 ?k8 ?k9 ?_; (case k1 => k_asm); (case k2 => k_asm); (case k3 => k_inst); (case k4 => k_is); (case k5 => k_is); (case k6 => k_is); (case k7 => k_is); (case k8 => k_is); (case k9 => k_is); k_whole)
  k_dflt cell_enter
  have hIz := IntsAre.nil
  k_with_none
  k_steps
  all_goals exact hret 0 _ _ (by k_asm) (by k_asm)
end
end Mine
end Part27
section Main
open PySem PySem.W PySem.Calls PyProof.Rows
namespace Mine
structure Passed : Prop where
  mk ::
structure Halt (P : Prop) : Prop where
  go : P
theorem kct_own {news : List (Addr × Obj)} {r : Str} {t : Tok} : KCtEl news r (.str r t) news := ⟨rfl, t, rfl⟩
theorem Halt.stop {P : Prop} (h : Halt P) : P := h.go
theorem ne_sameK {prog : Program} {w : World} {A : Around} {E : Value → Shared → Prop} {s : Shared} {a b : Addr} {vs us : List Value} {ns ms : List Int} {Q : Value → Shared → Prop} (hl : s.heap.IsList a vs.toArray) (hi : IntsAre vs ns) (hl' : s.heap.IsList b us.toArray) (hi' : IntsAre us ms) (hu : A.units + 64 < cLine)
    (e : ns = ms) (h : Q (.bool false) s) : wpAny (model prog w) A (compareOp .NotEq (.ref a) (.ref b)) Q E s :=
  ne_intsK hl hi hl' hi' hu (by rw [e, decide_eq_true rfl]; exact h)
local macro_rules | `(tactic| walk_at "none") => `(tactic| fail)
local macro_rules | `(tactic| walk_at "none") => `(tactic| fail)
local macro_rules | `(tactic| walk_at "none") => `(tactic| fail)
local macro_rules | `(tactic| walk_at "none") => `(tactic| fail)
local macro_rules | `(tactic| walk_at "none") => `(tactic| fail)
local macro_rules | `(tactic| walk_at "none") => `(tactic| fail)
local macro_rules | `(tactic| walk_at "none") => `(tactic| fail)
local macro_rules | `(tactic| walk_at "none") => `(tactic| fail)
local macro_rules | `(tactic| walk_at "none") => `(tactic| fail)
local macro_rules | `(tactic| walk_at "none") => `(tactic| fail)
local macro_rules | `(tactic| walk_at "none") => `(tactic| fail)
local macro_rules | `(tactic| walk_at "none") => `(tactic| fail)
local macro_rules | `(tactic| walk_at "none") => `(tactic| fail)
local macro_rules | `(tactic| walk_at "none") => `(tactic| fail)
local macro_rules | `(tactic| walk_at "none") => `(tactic| fail)
local macro_rules | `(tactic| walk_at "none") => `(tactic| fail)
local macro_rules | `(tactic| walk_at "none") => `(tactic| fail)
local macro_rules | `(tactic| walk_at "none") => `(tactic| fail)
local macro_rules | `(tactic| walk_at "none") => `(tactic| fail)
local macro_rules | `(tactic| walk_at "none") => `(tactic| fail)
local macro_rules | `(tactic| walk_at "none") => `(tactic| fail)
local macro_rules | `(tactic| walk_at "none") => `(tactic| fail)
local macro_rules | `(tactic| walk_at "none") => `(tactic| fail)
local macro_rules | `(tactic| walk_at "none") => `(tactic| fail)
local macro_rules | `(tactic| walk_at "none") => `(tactic| fail)
local macro_rules | `(tactic| walk_at "none") => `(tactic| fail)
local macro_rules | `(tactic| walk_at "none") => `(tactic| fail)
local macro_rules | `(tactic| walk_at "none") => `(tactic| fail)
local macro_rules | `(tactic| walk_at "none") => `(tactic| fail)
local macro_rules | `(tactic| walk_at "none") => `(tactic| fail)
local macro_rules | `(tactic| walk_at "none") => `(tactic| fail)
local macro_rules | `(tactic| walk_at "none") => `(tactic| fail)
local macro_rules | `(tactic| walk_at "none") => `(tactic| fail)
local macro_rules | `(tactic| walk_at "none") => `(tactic| fail)
local macro_rules | `(tactic| walk_at "none") => `(tactic| fail)
local macro_rules | `(tactic| walk_at "none") => `(tactic| fail)
local macro_rules | `(tactic| walk_at "none") => `(tactic| fail)
local macro_rules | `(tactic| walk_at "none") => `(tactic| fail)
local macro_rules | `(tactic| walk_at "none") => `(tactic| fail)
local macro_rules | `(tactic| walk_at "call builtin:chr") => `(tactic| (k_here; refine P.chr_of_int (chr_ok (by assumption)) ?_; (try dsimp only)))
local macro_rules | `(tactic| walk_at "CompSrc") => `(tactic| (k_here; k_extra "CompSrc"))
local macro_rules | `(tactic| walk_at "CompSrc") => `(tactic| (k_here; (with_reducible show LCg.CompSrc _ _ _ _ _ _ _ (PySem.Expr.Call (PySem.Expr.Name (PySem.Str.ofString "chr") _) _ _ _) _ _ _ _ _ _); k_dflt (refine LCg.CompSrc.ledger (by rfl) (by k_asm) (by k_asm) (by k_mem) (by kcf_size) ?_; intro g'; (refine' kct_list (fun k => (⟨#[k.toNat]⟩ : PySem.Str)) (by first | assumption | l_ints) (fun k' t' I' oI' C' oC' D' m' ys' h' tk' E' hk' hC' hx' F' N' off' ne' hMark' => ?_) ?_); (all_goals (try (simp only [LCg.Off3, and_true] at off'))); kcf_last)))
local macro_rules | `(tactic| walk_at "CompEnd") => `(tactic| (k_extra "CompEnd"))
local macro_rules | `(tactic| walk_at "call ref") => `(tactic| k_extra "call ref")
local macro_rules | `(tactic| walk_at "storeName") => `(tactic| (k_here; (with_reducible show wpAny _ _ (storeName _ (PySem.Str.ofString "text") _) _ _ _); (fail_if_success (rename Passed => h9)); refine Halt.stop ?_))
local macro_rules | `(tactic| walk_at "pyIter ref") => `(tactic| (k_here; k_extra "pyIter ref"))
local macro_rules | `(tactic| walk_at "getMethod ref") => `(tactic| (k_here; k_dflt (first
  | (refine' meth_cmI ?k1 ?k2 ?k3 ?k4 ?k5 ?k6 ?k7 ?k8 ?k9 ?k10 ?k11 ?k12 ?k13 ?_; (case k1 => k_asm); (case k2 => k_asm); (case k3 => k_asm); (case k4 => k_inst); (case k5 => k_is); (case k6 => k_is); (case k7 => k_is); (case k8 => k_is); (case k9 => k_is); (case k10 => k_is); (case k11 => k_is); (case k12 => decide +kernel); (case k13 => k_is); k_whole; intro q' h' F' N' l1; (try k_lt l1); (try k_sweep))
  | (refine' meth_slotI ?k1 ?k2 ?k3 ?k4 ?k5 ?k6 ?k7 ?k8 ?k9 ?k10 ?k11 ?k12 ?_; (case k1 => k_asm); (case k2 => k_asm); (case k3 => k_inst); (case k4 => k_is); (case k5 => k_is); (case k6 => k_is); (case k7 => k_is); (case k8 => k_is); (case k9 => k_is); (case k10 => k_is); (case k11 => k_slotget); (case k12 => k_handed); k_whole))))
local macro_rules | `(tactic| walk_at "callWith ref") => `(tactic| (k_here; (rename Clo _ _ _ _ _ _ _ _ _ _ _ _ => C8); k_dflt (refine' callWith_F ?k1 ?_; (case k1 => exact C8.1 _ _ (by k_asm)); k_whole)))
local macro_rules | `(tactic| walk_at "FnAt") => `(tactic| ((rename Clo _ _ _ _ _ _ _ _ _ _ _ _ => C8); k_dflt (exact C8.1 _ _ (by k_asm))))
local macro_rules | `(tactic| walk_at "compareOp NotEq int int") => `(tactic| (k_here; refine ne_int_same ?k1 ?_; (case k1 => k_dflt (exact rfl)); (try dsimp only)))
local macro_rules | `(tactic| walk_at "compareOp NotEq ref ref") => `(tactic| (k_here; (with_reducible show wpAny _ _ (compareOp CmpOp.NotEq (Value.ref _) (Value.ref _)) _ _ _); (with_unfolding_all refine' ne_sameK ?k1 ?k2 ?k3 ?k4 ?k5 ?k6 ?_; (case k1 => is_list); (case k2 => l_intsC); (case k3 => is_list); (case k4 => l_intsC); (case k5 => units_room); (case k6 => k_extra "same ints"); k_whole)))
local macro_rules | `(tactic| walk_at "eval ListComp") => `(tactic| (k_here; k_extra "eval ListComp"))
local macro_rules | `(tactic| walk_at "call type:set cons nil") => `(tactic| (k_here; k_extra "set"))
local macro_rules | `(tactic| walk_at "call builtin:sorted") => `(tactic| (k_here; k_extra "sorted"))
local macro_rules | `(tactic| walk_at "getAttr ref") => `(tactic| (k_here; k_extra "getAttr"))
local macro_rules | `(tactic| walk_at "compareOp Eq ref ref") => `(tactic| (k_here; (with_reducible show wpAny _ _ (compareOp CmpOp.Eq (Value.ref _) (Value.ref _)) _ _ _); (with_unfolding_all refine' eq_sameK ?k1 ?k2 ?k3 ?k4 ?k5 ?k6 ?_; (case k1 => is_list); (case k2 => l_intsC); (case k3 => is_list); (case k4 => l_intsC); (case k5 => units_room); (case k6 => k_extra "same places"); k_whole)))
local macro_rules | `(tactic| walk_at "CompSrcT") => `(tactic| (k_here; k_extra "CompSrcT"))
local macro_rules | `(tactic| walk_at "KPfGrows") => `(tactic| (k_extra "grows"))
local macro_rules | `(tactic| walk_at "subscriptTail") => `(tactic| (k_here; (with_reducible show wpAny _ _ (subscriptTail _ _ (Value.ref _) (Value.int (Int.fdiv _ 8) _)) _ _ _); k_extra "item"))
structure IfMark : Prop where
  mk ::
theorem if_seed {M : Model} {A : Around} {E : Value → Shared → Prop} {s : Shared} {e : Expr} {env : Env} {Q : Value → Shared → Prop} (hw : IfMark → wpAny M A (eval e env) (fun v s' => ∃ (x : Int) (t : Tok) (tk : Nat), v = .int x t ∧ s' = { s with toks := tk } ∧ 0 ≤ x ∧ x < 2 ^ 62) E s)
    (hr : ∀ (x : Int) (t : Tok) (tk : Nat), 0 ≤ x ∧ x < 2 ^ 62 → Q (.int x t) { s with toks := tk }) : wpAny M A (eval e env) Q E s :=
  wpAny_mono (hw ⟨⟩) (fun v s' h => by obtain ⟨x, t, tk, rfl, rfl, hb⟩ := h; exact hr x t tk hb) fun _ _ h => h
theorem seed_big (n : Int) : 0 ≤ n.fmod 10 * 300000000000000007 ∧ n.fmod 10 * 300000000000000007 < 2 ^ 62 := by
  have : 0 ≤ n.fmod 10 ∧ n.fmod 10 < 10 := by rw [Int.fmod_eq_emod_of_nonneg _ (by omega)]; omega
  omega
theorem empty_list : (Str.ofString "").cps.toList = List.map Int.toNat [] := by decide +kernel
theorem empty_size : (Str.ofString "").cps.size ≤ 1000 := by decide +kernel
theorem empty_codes : ∀ c ∈ (Str.ofString "").cps.toList, c < 256 := by rw [empty_list]; intro c hc; cases hc
theorem nil_ok : ∀ n ∈ ([] : List Int), 0 ≤ n ∧ n < 256 := fun n hn => by cases hn
theorem seed_small (n : Int) : 0 ≤ n.fmod 10 ∧ n.fmod 10 < 2 ^ 62 := by
  rw [Int.fmod_eq_emod_of_nonneg _ (by omega)]; omega
local macro_rules | `(tactic| walk_at "eval IfExp") => `(tactic| (k_here; k_extra "eval IfExp"))
theorem main_walk : PySem.Challenge.rw_sv0015_02.Holds := hd1 (by
  w_on
  w_strict (
    k_with_none
    k_with "CompEnd" => ((k_dflt (refine' LCg.CompEnd.intro ?zi ?zj _ ?za ?zb ?zc kct_own)); (case zi => assumption); (case zj => assumption); (case za => kcf_all); (case zb => first | assumption | (simp only [LCg.Off3, and_true]; done) | (simp only [LCg.Off3, and_true]; assumption)); (case zc => k_dflt (exact Or.inr ⟨_, by k_mem, rfl, _, rfl⟩)))
    k_with "eval IfExp" => ((fail_if_success (rename IfMark => hm9)); k_dflt (refine if_seed (fun hm8 => ?_) (fun seed t7 tk7 hs62 => ?_)); all_goals (try dsimp only))
    k_go0
    all_goals try k_fold
    k_steps
    all_goals try exact ⟨_, _, _, rfl, rfl, seed_big _⟩
    all_goals try exact ⟨_, _, _, rfl, rfl, seed_small _⟩
    exact (by
      rename Spec.Shape.has _ _ = true => hsc
      obtain ⟨script, hscr⟩ := cap_script hsc
      subst hscr
      rename (_ ≠ _ ∧ _ ≠ _ ∧ _ ≠ _ ∧ _ ≠ _ ∧ _ ≠ _ ∧ _ ≠ _ ∧ _ ≠ _ ∧ _ ≠ _ ∧ 23 ≠ _) => hSig
      have hsig := Hid.mk hSig.2.2.2.2.2
      rename News _ _ _ _ => hN0
      have hN1 := Hid.mk (pickN [1, 7, 8, 9, 10] hN0)
      rename Fr _ _ _ _ => hF0
      have hF1 := Hid.mk hF0
      clear hN0 hF0
      repeat (rename News _ _ _ _ => hz; clear hz)
      repeat (rename Fr _ _ _ _ => hz; clear hz)
      repeat (rename (_ ≠ _ ∧ _) => hz; clear hz)
      repeat (rename (@LT.lt Addr _ _ _ ∧ _) => hz; clear hz)
      have hNc := hN1.go
      dsimp only [pickL, List.getElem?_cons_zero, List.getElem?_cons_succ] at hNc
      have hFc := hF1.go
      have hsigc := hsig.go
      clear hN1 hF1
      generalize hNU : (List.map (fun k' => Int.fmod k' 1000003) (List.take 9 script) ++ [1]) = nums at *
      have hS1 := signs_ok (List.take (min 9 nums.length - 1) (List.drop 1 nums))
      have hS2 := signs_len nums 9 (by decide)
      generalize hSS : List.map (fun k' => Int.fmod k' 256) (List.take (min 9 nums.length - 1) (List.drop 1 nums)) = S at *
      generalize hn0 : nums.getD (Int.toNat 0) 0 = n0 at *
      have hsd : 0 ≤ n0.fmod 10 ∧ n0.fmod 10 < 10 := by rw [Int.fmod_eq_emod_of_nonneg _ (by omega)]; omega
      have hdp : 1 ≤ (n0.fdiv 10).fmod 3 + 1 ∧ (n0.fdiv 10).fmod 3 + 1 ≤ 3 := by rw [Int.fmod_eq_emod_of_nonneg _ (by omega)]; omega
      generalize hsE : n0.fmod 10 = small at *
      generalize hdE : (n0.fdiv 10).fmod 3 + 1 = depth at *
      have hx1 := join_cps (fun a => (⟨#[a.toNat]⟩ : Str)) (fun _ => rfl) S
      generalize htE : Txt.join (Str.ofString "") (List.map (fun a => (⟨#[a.toNat]⟩ : Str)) S) = text at *
      have hx2 : text.cps.size ≤ 100 := by rw [← Array.length_toList, hx1, List.length_map]; omega
      have hx3 : ∀ c ∈ text.cps.toList, c < 256 := by
        rw [hx1]; intro c hc; obtain ⟨n, hn, rfl⟩ := List.mem_map.mp hc; have := hS1 n hn; omega
      have hxk : text.cps.size ≤ 1000 := by omega
      have hb3 := bytes_codes hS1
      have hbk : (byteArr S).size ≤ 1000 := by rw [byteArr_size]; omega
      have hz62 : (0 : Int) ≤ 0 ∧ (0 : Int) < 2 ^ 62 := by decide
      have hd20 : 1 ≤ depth ∧ depth ≤ 20 := by omega
      have hd0 : 0 ≤ depth ∧ depth ≤ 1000 := by omega
      have hd1 : 1 ≤ depth ∧ depth ≤ 1000 := by omega
      have hest : 1 ≤ 1 + small ∧ 1 + small ≤ 10 := by omega
      have hfpr : 12 ≤ 8 + depth * 4 ∧ 8 + depth * 4 ≤ 28 := by omega
      replace hd20 := Hid.mk hd20
      replace hfpr := Hid.mk hfpr
      clear htE hn0 hsE hdE hSS hNU hdp
      have hPassed := Passed.mk
      rename (Obj.data _ = Data.cell (some (Value.int _ _))) => hCell
      obtain ⟨tdep, hCell2⟩ : ∃ t, _ = Data.cell (some (Value.int depth t)) := ⟨_, hCell⟩
      clear hCell
      exact Halt.mk (by
        w_top on
        w_strict (
          k_with_none
          k_with "CompSrc" => (k_dflt (refine LCg.CompSrc.range (by rfl) (by k_asm) (by k_asm) (by assumption) (by exact small_one (by omega) (by omega) (by omega) (by omega)) (by exact rangeSize_nat _ _) (by rw [PySem.sizeLine_eq]; omega) ?_; intro g'; (refine' kcf_range (fun k => ((fnvS 14695981039346656037 1099511628211 64 k.toNat (S.map Int.toNat) : Nat) : Int)) (fun k' t' I' oI' C' oC' D' m' ys' h' tk' E' hlo' hhi' hC' hx' F' N' off' ne' hMark' => ?_) ?_); (all_goals (try (simp only [LCg.Off3, and_true] at off'))); kcf_last))
          k_with "call ref" => (k_here; first
            | (k_dflt (refine' lawfnv64_c ?k1 ?k2 ?k3 ?k4 ?k5 ?kK ?kl ?ki ?kn ?ks ?kd ?ku ?_); (case k1 => first | k_asm | k_dflt k_asm); (case k2 => first | k_asm | k_dflt k_asm); (case k3 => first | k_asm | k_dflt k_asm); (case k4 => first | k_asm | k_dflt k_asm); (case k5 => first | k_asm | k_dflt k_asm); (case kK => first | exact rfl | assumption); (case kl => k_dflt k_mem); (case ki => first | assumption | exact IntsAre.nil); (case kn => first | exact hS1 | exact nil_ok); (case ks => first | exact hs62 | exact hz62 | exact turn_ok (by assumption) (by assumption) (by first | exact hd20.go | assumption)); (case kd => first | k_room | ktr_room); (case ku => first | ktr_units | k_units); (intro t9 h9 tk9 F9 N9; (try dsimp only); (try k_fold)))
            | (k_dflt (refine' lawfnv32_c ?k1 ?k2 ?k3 ?k4 ?k5 ?kK ?kl ?ki ?kn ?ks ?kd ?ku ?_); (case k1 => first | k_asm | k_dflt k_asm); (case k2 => first | k_asm | k_dflt k_asm); (case k3 => first | k_asm | k_dflt k_asm); (case k4 => first | k_asm | k_dflt k_asm); (case k5 => first | k_asm | k_dflt k_asm); (case kK => first | exact rfl | assumption); (case kl => k_dflt k_mem); (case ki => first | assumption | exact IntsAre.nil); (case kn => first | exact hS1 | exact nil_ok); (case ks => first | exact hs62 | exact hz62 | exact turn_ok (by assumption) (by assumption) (by first | exact hd20.go | assumption)); (case kd => first | k_room | ktr_room); (case ku => first | ktr_units | k_units); (intro t9 h9 tk9 F9 N9; (try dsimp only); (try k_fold)))
            | (k_dflt (refine' defaultS_c ?k1 ?k2 ?k3 ?k4 ?k5 ?kK ?kx ?kc ?kp ?kd ?ku ?_); (case k1 => first | k_asm | k_dflt k_asm); (case k2 => first | k_asm | k_dflt k_asm); (case k3 => first | k_asm | k_dflt k_asm); (case k4 => first | k_asm | k_dflt k_asm); (case k5 => first | k_asm | k_dflt k_asm); (case kK => first | exact rfl | assumption); (case kx => exact hxk); (case kc => exact hx3); (case kp => exact hd0); (case kd => first | k_room | ktr_room); (case ku => first | ktr_units | k_units); (rw [hx1]); (intro l9 vs9 n9 h9 tk9 F9 N9 I9 b9; (try k_lt b9); (try dsimp only); (try k_fold)))
            | (k_dflt (refine' defaultB_c ?k1 ?k2 ?k3 ?k4 ?k5 ?kK ?kx ?kp ?kd ?ku ?_); (case k1 => first | k_asm | k_dflt k_asm); (case k2 => first | k_asm | k_dflt k_asm); (case k3 => first | k_asm | k_dflt k_asm); (case k4 => first | k_asm | k_dflt k_asm); (case k5 => first | k_asm | k_dflt k_asm); (case kK => first | exact rfl | assumption); (case kx => exact hbk); (case kp => exact hd0); (case kd => first | k_room | ktr_room); (case ku => first | ktr_units | k_units); (rw [hb3]); (intro l9 vs9 n9 h9 tk9 F9 N9 I9 b9; (try k_lt b9); (try dsimp only); (try k_fold)))
            | (k_dflt (refine' fnvS_c ?k1 ?k2 ?k3 ?k4 ?k5 ?kK ?kx ?kc ?ks ?kd ?ku ?_); (case k1 => first | k_asm | k_dflt k_asm); (case k2 => first | k_asm | k_dflt k_asm); (case k3 => first | k_asm | k_dflt k_asm); (case k4 => first | k_asm | k_dflt k_asm); (case k5 => first | k_asm | k_dflt k_asm); (case kK => first | exact rfl | assumption); (case kx => first | exact hxk | exact empty_size); (case kc => first | exact hx3 | exact empty_codes); (case ks => first | exact hs62 | exact hz62 | exact turn_ok (by assumption) (by assumption) (by first | exact hd20.go | assumption)); (case kd => first | k_room | ktr_room); (case ku => first | ktr_units | k_units); (first | rw [hx1] | rw [empty_list]); (intro t9 h9 tk9 F9 N9; (try dsimp only); (try k_fold)))
            | (k_dflt (refine' fnvS32s_c ?k1 ?k2 ?k3 ?k4 ?k5 ?kK ?kx ?kc ?ks ?kd ?ku ?_); (case k1 => first | k_asm | k_dflt k_asm); (case k2 => first | k_asm | k_dflt k_asm); (case k3 => first | k_asm | k_dflt k_asm); (case k4 => first | k_asm | k_dflt k_asm); (case k5 => first | k_asm | k_dflt k_asm); (case kK => first | exact rfl | assumption); (case kx => first | exact hxk | exact empty_size); (case kc => first | exact hx3 | exact empty_codes); (case ks => first | exact hs62 | exact hz62 | exact turn_ok (by assumption) (by assumption) (by first | exact hd20.go | assumption)); (case kd => first | k_room | ktr_room); (case ku => first | ktr_units | k_units); (first | rw [hx1] | rw [empty_list]); (intro t9 h9 tk9 F9 N9; (try dsimp only); (try k_fold)))
            | (k_dflt (refine' fnvB_c ?k1 ?k2 ?k3 ?k4 ?k5 ?kK ?kx ?ks ?kd ?ku ?_); (case k1 => first | k_asm | k_dflt k_asm); (case k2 => first | k_asm | k_dflt k_asm); (case k3 => first | k_asm | k_dflt k_asm); (case k4 => first | k_asm | k_dflt k_asm); (case k5 => first | k_asm | k_dflt k_asm); (case kK => first | exact rfl | assumption); (case kx => exact hbk); (case ks => first | exact hs62 | exact hz62 | exact turn_ok (by assumption) (by assumption) (by first | exact hd20.go | assumption)); (case kd => first | k_room | ktr_room); (case ku => first | ktr_units | k_units); (rw [hb3]); (intro t9 h9 tk9 F9 N9; (try dsimp only); (try k_fold)))
            | (k_dflt (refine' fnvS32_c ?k1 ?k2 ?k3 ?k4 ?k5 ?kK ?kx ?kc ?kd ?ku ?_); (case k1 => first | k_asm | k_dflt k_asm); (case k2 => first | k_asm | k_dflt k_asm); (case k3 => first | k_asm | k_dflt k_asm); (case k4 => first | k_asm | k_dflt k_asm); (case k5 => first | k_asm | k_dflt k_asm); (case kK => first | exact rfl | assumption); (case kx => exact hxk); (case kc => exact hx3); (case kd => first | k_room | ktr_room); (case ku => first | ktr_units | k_units); (rw [hx1]); (intro t9 h9 tk9 F9 N9; (try dsimp only); (try k_fold)))
            | (k_dflt (refine' fnvB32_c ?k1 ?k2 ?k3 ?k4 ?k5 ?kK ?kx ?ks ?kd ?ku ?_); (case k1 => first | k_asm | k_dflt k_asm); (case k2 => first | k_asm | k_dflt k_asm); (case k3 => first | k_asm | k_dflt k_asm); (case k4 => first | k_asm | k_dflt k_asm); (case k5 => first | k_asm | k_dflt k_asm); (case kK => first | exact rfl | assumption); (case kx => exact hbk); (case ks => first | exact hs62 | exact hz62 | exact turn_ok (by assumption) (by assumption) (by first | exact hd20.go | assumption)); (case kd => first | k_room | ktr_room); (case ku => first | ktr_units | k_units); (rw [hb3]); (intro t9 h9 tk9 F9 N9; (try dsimp only); (try k_fold)))
            | (k_dflt (refine' simple_c ?k1 ?k2 ?k3 ?k4 ?k5 ?kK ?kx ?kd ?ku ?_); (case k1 => first | k_asm | k_dflt k_asm); (case k2 => first | k_asm | k_dflt k_asm); (case k3 => first | k_asm | k_dflt k_asm); (case k4 => first | k_asm | k_dflt k_asm); (case k5 => first | k_asm | k_dflt k_asm); (case kK => first | exact rfl | assumption); (case kx => first | exact hx2 | k_extra "simple size"); (case kd => first | k_room | ktr_room); (case ku => first | ktr_units | k_units); (intro t9 h9 tk9 F9 N9; (try dsimp only); (try k_fold)))
            | (k_dflt (refine' small_c ?k1 ?k2 ?k3 ?k4 ?k5 ?kK ?kv ?kd ?ku ?_); (case k1 => first | k_asm | k_dflt k_asm); (case k2 => first | k_asm | k_dflt k_asm); (case k3 => first | k_asm | k_dflt k_asm); (case k4 => first | k_asm | k_dflt k_asm); (case k5 => first | k_asm | k_dflt k_asm); (case kK => first | exact rfl | assumption); (case kv => k_extra "small value"); (case kd => first | k_room | ktr_room); (case ku => first | ktr_units | k_units); (intro t9 h9 tk9 F9 N9; (try dsimp only); (try k_fold)))
            | (k_dflt (refine' hwd_e ?k1 ?k2 ?k3 codeHd ?k4 ?k5 ?kK ?ke ?kr ?kd ?ku ?kz ?_); (case k1 => first | k_asm | k_dflt k_asm); (case k2 => first | k_asm | k_dflt k_asm); (case k3 => first | k_asm | k_dflt k_asm); (case k4 => first | k_asm | k_dflt k_asm); (case k5 => first | k_asm | k_dflt k_asm); (case kK => first | exact rfl | assumption); (case ke => k_dflt (exact rfl)); (case kr => k_dflt (simp only [List.dropLast]; k_extra "not 23")); (case kd => first | k_room | ktr_room); (case ku => first | ktr_units | k_units); (case kz => k_dflt (simp only [List.dropLast]; exact rfl)); (intro f9 ps9 led9 h9 tk9 F9 N9 C9; (try dsimp only)))
            | ((rename Clo _ _ _ _ _ _ _ _ _ _ _ _ => C9); k_dflt (refine' C9.2 _ _ _ _ _ _ _ _ _ _ _ _ _ _ _ _ _ _ _ ?k1 ?k2 ?k4 ?k5 ?kK ?kx ?kc ?kp ?kd ?ku ?_); (case k1 => first | k_asm | k_dflt k_asm); (case k2 => first | k_asm | k_dflt k_asm); (case k4 => first | k_asm | k_dflt k_asm); (case k5 => first | k_asm | k_dflt k_asm); (case kK => first | exact rfl | assumption); (case kx => exact hx2); (case kc => exact hx3); (case kp => exact hd1); (case kd => first | k_room | ktr_room); (case ku => first | ktr_units | k_units); (intro l9 vs9 n9 h9 tk9 F9 N9 I9 b9; (try k_lt b9); (try dsimp only); (try k_fold)))
            | ((with_reducible show wpAny _ _ (call (Value.ref 319) _) _ _ _); (rename News _ _ _ _ => hN0); (have hN1 := Hid.mk (pickN [8, 9, 10, 11, 1] hN0)); (rename Fr _ _ _ _ => hF0); (have hF1 := Hid.mk hF0); clear hN0 hF0; (rename Clo _ _ _ _ _ _ _ _ _ _ _ _ => hC0); clear hC0; (repeat (rename News _ _ _ _ => hz; clear hz)); (repeat (rename Fr _ _ _ _ => hz; clear hz)); (repeat (rename (_ ≠ _ ∧ _) => hz; clear hz)); (repeat (rename (@LT.lt Addr _ _ _ ∧ _) => hz; clear hz)); (have hNc := hN1.go); (dsimp only [pickL, List.getElem?_cons_zero, List.getElem?_cons_succ] at hNc); (have hFc := hF1.go); (have hsigc := hsig.go); clear hN1 hF1; k_dflt (refine' bloom_c ?k1 ?k2 ?k3 ?k4 ?k5 ?kK ?ke ?kf ?kd ?ku ?_); (case k1 => first | k_asm | k_dflt k_asm); (case k2 => first | k_asm | k_dflt k_asm); (case k3 => first | k_asm | k_dflt k_asm); (case k4 => first | k_asm | k_dflt k_asm); (case k5 => first | k_asm | k_dflt k_asm); (case kK => first | exact rfl | assumption); (case ke => exact hest); (case kf => exact hfpr.go); (case kd => first | k_room | ktr_room); (case ku => first | ktr_units | k_units); (intro x9 d9 bl9 blen9 nh9 u0 u1 u2 u3 u4 u5 u6 u7 vs9 n9 h9 tk9 F9 N9 I9 hnh9 b9 hdx9 hxb9; (have hapart := b9); (try k_lt b9); (try dsimp only); (try k_fold)))
            | (k_dflt (refine' checkS_e (b := false) ?k1 ?k2 ?k3 ?k4 ?k5 ?kK ?kX ?kD ?kb ?kB ?ky ?kc ?kn ?kf ?kl ?ke ?kd ?ku ?_); (case k1 => first | k_asm | k_dflt k_asm); (case k2 => first | k_asm | k_dflt k_asm); (case k3 => first | k_asm | k_dflt k_asm); (case k4 => first | k_asm | k_dflt k_asm); (case k5 => first | k_asm | k_dflt k_asm); (case kK => first | exact rfl | assumption); (case kX => k_dflt k_mem); (case kD => k_dflt k_mem); (case kb => k_dflt k_mem); (case kB => assumption); (case ky => exact hxk); (case kc => exact hx3); (case kn => assumption); (case kf => exact hfpr.go); (case kl => exact eighths hfpr.go); (case ke => exact zeros_no (Int.lt_of_lt_of_le (by decide) hfpr.go.1) (by assumption)); (case kd => first | k_room | ktr_room); (case ku => first | ktr_units | k_units); (intro t9 h9 tk9 F9 N9; (try dsimp only); (try k_fold)))
            | (k_dflt (refine' checkB_e (b := false) ?k1 ?k2 ?k3 ?k4 ?k5 ?kK ?kX ?kD ?kb ?kB ?ky ?kn ?kf ?kl ?ke ?kd ?ku ?_); (case k1 => first | k_asm | k_dflt k_asm); (case k2 => first | k_asm | k_dflt k_asm); (case k3 => first | k_asm | k_dflt k_asm); (case k4 => first | k_asm | k_dflt k_asm); (case k5 => first | k_asm | k_dflt k_asm); (case kK => first | exact rfl | assumption); (case kX => k_dflt k_mem); (case kD => k_dflt k_mem); (case kb => k_dflt k_mem); (case kB => assumption); (case ky => exact hbk); (case kn => assumption); (case kf => exact hfpr.go); (case kl => exact eighths hfpr.go); (case ke => exact zeros_no (Int.lt_of_lt_of_le (by decide) hfpr.go.1) (by assumption)); (case kd => first | k_room | ktr_room); (case ku => first | ktr_units | k_units); (intro t9 h9 tk9 F9 N9; (try dsimp only); (try k_fold)))
            | (k_dflt (refine' containsB_c (b := false) ?k1 ?k2 ?k3 ?k4 ?k5 ?kK ?kX ?kD ?kb ?kB ?ky ?kn ?kf ?kl ?ke ?kd ?ku ?_); (case k1 => first | k_asm | k_dflt k_asm); (case k2 => first | k_asm | k_dflt k_asm); (case k3 => first | k_asm | k_dflt k_asm); (case k4 => first | k_asm | k_dflt k_asm); (case k5 => first | k_asm | k_dflt k_asm); (case kK => first | exact rfl | assumption); (case kX => k_dflt k_mem); (case kD => k_dflt k_mem); (case kb => k_dflt k_mem); (case kB => assumption); (case ky => exact hbk); (case kn => assumption); (case kf => exact hfpr.go); (case kl => exact eighths hfpr.go); (case ke => exact zeros_no (Int.lt_of_lt_of_le (by decide) hfpr.go.1) (by assumption)); (case kd => first | k_room | ktr_room); (case ku => first | ktr_units | k_units); (intro t9 h9 tk9 F9 N9; (try dsimp only); (try k_fold)))
            | (k_dflt (refine' checkB_e (b := true) ?k1 ?k2 ?k3 ?k4 ?k5 ?kK ?kX ?kD ?kb ?kB ?ky ?kn ?kf ?kl ?ke ?kd ?ku ?_); (case k1 => first | k_asm | k_dflt k_asm); (case k2 => first | k_asm | k_dflt k_asm); (case k3 => first | k_asm | k_dflt k_asm); (case k4 => first | k_asm | k_dflt k_asm); (case k5 => first | k_asm | k_dflt k_asm); (case kK => first | exact rfl | assumption); (case kX => k_dflt k_mem); (case kD => k_dflt k_mem); (case kb => k_dflt k_mem); (case kB => assumption); (case ky => exact hbk); (case kn => assumption); (case kf => exact hfpr.go); (case kl => exact hFil.len); (case ke => (rw [hb3]; exact hFil.on)); (case kd => first | k_room | ktr_room); (case ku => first | ktr_units | k_units); (intro t9 h9 tk9 F9 N9; (try dsimp only); (try k_fold)))
            | (k_dflt (refine' add_c ?k1 ?k2 ?k3 ?k4 ?k5 ?kK ?h1 ?h2 ?h4 ?hr ?hB ?hy ?hc ?hels ?hn ?hf ?hl ?hz ?kd ?ku ?_); (case k1 => first | k_asm | k_dflt k_asm); (case k2 => first | k_asm | k_dflt k_asm); (case k3 => first | k_asm | k_dflt k_asm); (case k4 => first | k_asm | k_dflt k_asm); (case k5 => first | k_asm | k_dflt k_asm); (case kK => first | exact rfl | assumption); (case h1 => k_dflt (k_extra "apart")); (case h2 => k_dflt (k_extra "apart")); (case h4 => k_dflt (k_extra "apart")); (case hr => k_dflt (k_extra "apart")); (case hB => assumption); (case hy => exact hxk); (case hc => exact hx3); (case hels => exact ⟨by decide, by decide⟩); (case hn => assumption); (case hf => exact hfpr.go); (case hl => exact (eighths hfpr.go).1); (case hz => exact (eighths hfpr.go).2); (case kd => first | k_room | ktr_room); (case ku => first | ktr_units | k_units); (intro vs9 n9 u9 h9 tk9 F9 N9 I9; (try dsimp only); refine Halt.stop ?_))
            | (k_dflt (refine' hashesS_c ?k1 ?k2 ?k3 ?k4 ?k5 ?kK ?kX ?kD ?ky ?kc ?kn ?kd ?ku ?_); (case k1 => first | k_asm | k_dflt k_asm); (case k2 => first | k_asm | k_dflt k_asm); (case k3 => first | k_asm | k_dflt k_asm); (case k4 => first | k_asm | k_dflt k_asm); (case k5 => first | k_asm | k_dflt k_asm); (case kK => first | exact rfl | assumption); (case kX => k_dflt k_mem); (case kD => k_dflt k_mem); (case ky => exact hxk); (case kc => exact hx3); (case kn => assumption); (case kd => first | k_room | ktr_room); (case ku => first | ktr_units | k_units); (rw [hx1]); (intro l9 vs9 n9 h9 tk9 F9 N9 I9 b9; (try k_lt b9); (try dsimp only); (try k_fold)))
            | (k_dflt (refine' hashesB_c ?k1 ?k2 ?k3 ?k4 ?k5 ?kK ?kX ?kD ?ky ?kn ?kd ?ku ?_); (case k1 => first | k_asm | k_dflt k_asm); (case k2 => first | k_asm | k_dflt k_asm); (case k3 => first | k_asm | k_dflt k_asm); (case k4 => first | k_asm | k_dflt k_asm); (case k5 => first | k_asm | k_dflt k_asm); (case kK => first | exact rfl | assumption); (case kX => k_dflt k_mem); (case kD => k_dflt k_mem); (case ky => exact hbk); (case kn => assumption); (case kd => first | k_room | ktr_room); (case ku => first | ktr_units | k_units); (rw [hb3]); (intro l9 vs9 n9 h9 tk9 F9 N9 I9 b9; (try k_lt b9); (try dsimp only); (try k_fold)))
            | refine Halt.stop ?_)
          k_with "same ints" => first | (rw [hx1]; exact wide_same _ hd0.1) | exact wide_same _ hd0.1 | (rename DueS _ _ _ => hI; exact hI.fin hd1) | refine Halt.stop ?_
          k_with "pyIter ref" => k_state (fun pre due => due.length = pre.length + 1 ∧ DueS text pre due) "due"
          k_with "small value" => (rename DueS _ _ _ => hI; exact hI.valAt hx2 hx3 (by assumption) (by assumption) hd1)
          k_with "simple size" => (rename DueS _ _ _ => hI; exact hI.sizeAt hx2 hx3 (by assumption) (by assumption) hd1)
          k_with "not 23" => ((repeat' (first | exact List.forall_mem_nil _ | refine List.forall_mem_cons.mpr ⟨?_, ?_⟩)); all_goals first | exact .inl list_no_tab | exact .inl lst_no_tab | exact .inr (far1 (by assumption)) | exact .inr (far2 (by assumption)) | exact .inr (far3 (by assumption)))
          k_with "apart" => first | exact Nat.ne_of_gt hxb9 | exact Nat.ne_of_gt (Nat.lt_trans hdx9 hxb9) | exact Nat.ne_of_gt hdx9 | ((repeat' (first | exact List.forall_mem_nil _ | refine List.forall_mem_cons.mpr ⟨?_, ?_⟩)); all_goals first | exact apart_of b9.1 hdx9 hxb9 | exact apart_of b9.2.1 hdx9 hxb9 | exact apart_of b9.2.2.1 hdx9 hxb9 | exact apart_of b9.2.2.2.1 hdx9 hxb9 | exact apart_of b9.2.2.2.2 hdx9 hxb9)
          k_with "state" => (refine And.intro ?_ ?_ <;> first | exact app_len (by assumption) | exact DueS.zero | exact rfl | ((simp only [List.length_append, List.length_cons, List.length_nil]) <;> omega) | exact DueS.nextAt (by assumption) (by assumption) | refine Halt.stop ?_)
          k_steps
          exact Halt.mk (by
            rw [hx1] at I9
            have hFil := filled (hashesL (List.map Int.toNat S) nh9.toNat) hfpr.go
            generalize putL (8 + depth * 4) (List.replicate (-(-(8 + depth * 4)).fdiv 8).toNat 0) (hashesL (List.map Int.toNat S) nh9.toNat) = Bs at I9 hFil
            have hIb := Hid.mk I9
            rename IntsAre _ S => hIS
            have hIS1 := Hid.mk hIS
            have hN1 := Hid.mk N9
            have hF1 := Hid.mk F9
            clear I9 N9 F9 hIS
            repeat (rename News _ _ _ _ => hz; clear hz)
            repeat (rename Fr _ _ _ _ => hz; clear hz)
            repeat (rename IntsAre _ _ => hz; clear hz)
            repeat (rename List.length _ = List.length _ => hz; clear hz)
            repeat (rename CarriedAll _ _ => hz; clear hz)
            repeat (rename KstMark => hz; clear hz)
            repeat (rename DueS _ _ _ => hz; clear hz)
            have hIb2 := hIb.go
            have hIS2 := hIS1.go
            have hNc := hN1.go
            have hFc := hF1.go
            clear hN1 hF1 hIb hIS1
            w_top on
            w_strict (
              k_with_none
              k_with "eval ListComp" => first
                | ((with_reducible show wpAny _ _ (eval (Expr.ListComp _ [⟨_, _, [], _⟩] _ _) _) _ _ _); k_dflt (refine LCg.ListComp_U (F₀ := by k_asm) (by with_unfolding_all rfl) (by decide) (by rfl) (by decide) (by rfl) ?_))
                | ((with_reducible show wpAny _ _ (eval (Expr.ListComp _ [⟨_, _, [_], _⟩] _ _) _) _ _ _); k_dflt (refine LCt.ListComp_T (F₀ := by k_asm) (by with_unfolding_all rfl) (by decide) (by rfl) (by decide) (by rfl) ?_))
              k_with "CompSrcT" => (k_dflt (refine LCt.CompSrcT.range (by rfl) (by k_asm) (by k_asm) (by assumption) (by exact small_one (by omega) (by omega) (by omega) (by omega)) (by exact rangeSize_nat _ _) (by rw [PySem.sizeLine_eq]; omega) ?_; intro g'; (refine' kci_range (gather Bs) (fun k' t' I' oI' C' oC' D' m' ys' l' h' tk' E' hlo' hhi' hI' hC' hx' F' N' off' ne' => ?_) ?_ ?_); (all_goals (try (simp only [LCg.Off3, and_true] at off'))); (all_goals (try ((show KPfMark → _); intro hMark'))); kcf_last))
              k_with "CompEnd" => first
                | ((k_dflt (refine' LCg.CompEnd.intro ?zi ?zj _ ?za ?zb ?zc (kci_own (gather_yes hFil.nn (by assumption) (by assumption))))); (case zi => assumption); (case zj => assumption); (case za => kcf_all); (case zb => first | assumption | (simp only [LCg.Off3, and_true]; done) | (simp only [LCg.Off3, and_true]; assumption)); (case zc => exact trivial))
                | ((k_dflt (refine' LCg.CompEnd.intro ?zi ?zj _ ?za ?zb ?zc (kci_none (gather_no hFil.nn (by assumption) (by assumption))))); (case zi => assumption); (case zj => assumption); (case za => kcf_all); (case zb => first | assumption | (simp only [LCg.Off3, and_true]; done) | (simp only [LCg.Off3, and_true]; assumption)); (case zc => exact trivial))
              k_with "grows" => exact gather_grows Bs
              k_with "item" => ((k_dflt (refine' item_at ?kN ?km ?kB ?k0 ?k1 ?k2 ?_; (case kN => first | k_asm | k_dflt k_asm); (case km => k_mem); (case kB => exact fun i hi => ints_at (by assumption) hi); (case k0 => exact (place8 hlo' hhi' hFil.len.1 (Int.lt_of_lt_of_le (by decide) hfpr.go.1)).1); (case k1 => exact (place8 hlo' hhi' hFil.len.1 (Int.lt_of_lt_of_le (by decide) hfpr.go.1)).2); (case k2 => exact Nat.lt_trans hFil.len.2 (by decide)); k_whole)); intro t8; (try dsimp only))
              k_with "CompSrc" => first
                | (k_dflt (refine LCg.CompSrc.ledger (by rfl) (by k_asm) (by k_asm) (by k_mem) (by first | exact hash_size I9 hnh9 | exact Nat.le_trans (Nat.le_of_eq (List.size_toArray _).symm) (hash_size I9 hnh9)) ?_; intro g'; (refine' kcf_list (fun v => v.fmod (8 + depth * 4)) (by assumption) (fun k' t' I' oI' C' oC' D' m' ys' h' tk' E' hk' hC' hx' F' N' off' ne' hMark' => ?_) ?_); (all_goals (try (simp only [LCg.Off3, and_true] at off'))); kcf_last))
                | (k_dflt (refine LCg.CompSrc.range (by rfl) (by k_asm) (by k_asm) (by assumption) (by exact small_one (by omega) (by omega) (by omega) (by omega)) (by exact rangeSize_nat _ _) (by rw [PySem.sizeLine_eq]; omega) ?_; intro g'; (refine' kcf_range (fun k => ((fnvS 14695981039346656037 1099511628211 64 k.toNat (S.map Int.toNat) : Nat) : Int)) (fun k' t' I' oI' C' oC' D' m' ys' h' tk' E' hlo' hhi' hC' hx' F' N' off' ne' hMark' => ?_) ?_); (all_goals (try (simp only [LCg.Off3, and_true] at off'))); kcf_last))
              k_with "set" => ((k_dflt (refine' set_N ?k1 ?k2 ?k3 ?k4 ?k5 ?k6 ?_); (case k1 => first | k_asm | k_dflt k_asm); (case k2 => first | k_asm | k_dflt k_asm); (case k3 => k_dflt (exact rfl)); (case k4 => is_list); (case k5 => assumption); (case k6 => exact set_room hnh9)); (intro as9 os9 ks9 h9 tk9 F9 N9 hT9s hnd9 hmem9 hle9 b9; (try k_lt b9); (try dsimp only); (try k_fold)))
              k_with "sorted" => first
                | ((k_dflt (refine' sorted_set ?k1 ?k2 ?k3 ?k4 ?k5 ?k6 ?_); (case k1 => first | k_asm | k_dflt k_asm); (case k2 => first | k_asm | k_dflt k_asm); (case k3 => k_dflt (exact rfl)); (case k4 => k_dflt k_mem); (case k5 => exact hT9s); (case k6 => exact set_small hnh9 hle9)); (intro l9 h9 dr9 tk9 vs9 ns9 e9 F9 N9 I9 hp9 hw9 b9; (try k_lt b9); (try dsimp only); (try k_fold)))
                | ((k_dflt (refine' sorted_N ?k1 ?k2 ?k4 ?k5 ?k6 ?_); (case k1 => first | k_asm | k_dflt k_asm); (case k2 => first | k_asm | k_dflt k_asm); (case k4 => is_list); (case k5 => assumption); (case k6 => exact fold_small (by assumption) hfpr.go)); (intro h9 vs9 ns9 e9 F9 N9 I9 hp8 hw8; (try dsimp only); (try k_fold)))
              k_with "same places" => exact places_same (Int.lt_of_lt_of_le (by decide) hfpr.go.1) hFil.bit hnd9 hmem9 hp9 hw9 hp8 hw8
              k_with "getAttr" => first
                | ((with_reducible show wpAny _ _ (getAttr _ (Str.ofString "number_hashes") _) _ _ _); k_dflt (refine' nh_get ?k1 ?k2 ?k3 ?k4 ?k5 ?kK ?kX ?kD ?kd ?ku ?_); (case k1 => first | k_asm | k_dflt k_asm); (case k2 => first | k_asm | k_dflt k_asm); (case k3 => first | k_asm | k_dflt k_asm); (case k4 => first | k_asm | k_dflt k_asm); (case k5 => first | k_asm | k_dflt k_asm); (case kK => first | exact rfl | assumption); (case kX => k_dflt k_mem); (case kD => k_dflt k_mem); (case kd => first | k_room | ktr_room); (case ku => first | ktr_units | k_units); (intro t9 h9 tk9 F9 N9; (try dsimp only); (try k_fold)))
                | ((with_reducible show wpAny _ _ (getAttr _ (Str.ofString "bloom") _) _ _ _); k_dflt (refine' bloom_get ?k1 ?k2 ?k3 ?k4 ?k5 ?kK ?kX ?kD ?kd ?ku ?_); (case k1 => first | k_asm | k_dflt k_asm); (case k2 => first | k_asm | k_dflt k_asm); (case k3 => first | k_asm | k_dflt k_asm); (case k4 => first | k_asm | k_dflt k_asm); (case k5 => first | k_asm | k_dflt k_asm); (case kK => first | exact rfl | assumption); (case kX => k_dflt k_mem); (case kD => k_dflt k_mem); (case kd => first | k_room | ktr_room); (case ku => first | ktr_units | k_units); (intro t9 h9 tk9 F9 N9; (try dsimp only); (try k_fold)))
              k_with "call ref" => (k_here; first
                | (k_dflt (refine' lawfnv64_c ?k1 ?k2 ?k3 ?k4 ?k5 ?kK ?kl ?ki ?kn ?ks ?kd ?ku ?_); (case k1 => first | k_asm | k_dflt k_asm); (case k2 => first | k_asm | k_dflt k_asm); (case k3 => first | k_asm | k_dflt k_asm); (case k4 => first | k_asm | k_dflt k_asm); (case k5 => first | k_asm | k_dflt k_asm); (case kK => first | exact rfl | assumption); (case kl => k_dflt k_mem); (case ki => assumption); (case kn => exact hS1); (case ks => first | exact hs62 | exact hz62 | exact turn_ok (by assumption) (by assumption) (by first | exact hd20.go | assumption)); (case kd => first | k_room | ktr_room); (case ku => first | ktr_units | k_units); (intro t9 h9 tk9 F9 N9; (try dsimp only); (try k_fold)))
                | (k_dflt (refine' lawfnv32_c ?k1 ?k2 ?k3 ?k4 ?k5 ?kK ?kl ?ki ?kn ?ks ?kd ?ku ?_); (case k1 => first | k_asm | k_dflt k_asm); (case k2 => first | k_asm | k_dflt k_asm); (case k3 => first | k_asm | k_dflt k_asm); (case k4 => first | k_asm | k_dflt k_asm); (case k5 => first | k_asm | k_dflt k_asm); (case kK => first | exact rfl | assumption); (case kl => k_dflt k_mem); (case ki => assumption); (case kn => exact hS1); (case ks => first | exact hs62 | exact hz62 | exact turn_ok (by assumption) (by assumption) (by first | exact hd20.go | assumption)); (case kd => first | k_room | ktr_room); (case ku => first | ktr_units | k_units); (intro t9 h9 tk9 F9 N9; (try dsimp only); (try k_fold)))
                | (k_dflt (refine' defaultS_c ?k1 ?k2 ?k3 ?k4 ?k5 ?kK ?kx ?kc ?kp ?kd ?ku ?_); (case k1 => first | k_asm | k_dflt k_asm); (case k2 => first | k_asm | k_dflt k_asm); (case k3 => first | k_asm | k_dflt k_asm); (case k4 => first | k_asm | k_dflt k_asm); (case k5 => first | k_asm | k_dflt k_asm); (case kK => first | exact rfl | assumption); (case kx => exact hxk); (case kc => exact hx3); (case kp => exact hd0); (case kd => first | k_room | ktr_room); (case ku => first | ktr_units | k_units); (rw [hx1]); (intro l9 vs9 n9 h9 tk9 F9 N9 I9 b9; (try k_lt b9); (try dsimp only); (try k_fold)))
                | (k_dflt (refine' defaultB_c ?k1 ?k2 ?k3 ?k4 ?k5 ?kK ?kx ?kp ?kd ?ku ?_); (case k1 => first | k_asm | k_dflt k_asm); (case k2 => first | k_asm | k_dflt k_asm); (case k3 => first | k_asm | k_dflt k_asm); (case k4 => first | k_asm | k_dflt k_asm); (case k5 => first | k_asm | k_dflt k_asm); (case kK => first | exact rfl | assumption); (case kx => exact hbk); (case kp => exact hd0); (case kd => first | k_room | ktr_room); (case ku => first | ktr_units | k_units); (rw [hb3]); (intro l9 vs9 n9 h9 tk9 F9 N9 I9 b9; (try k_lt b9); (try dsimp only); (try k_fold)))
                | (k_dflt (refine' fnvS_c ?k1 ?k2 ?k3 ?k4 ?k5 ?kK ?kx ?kc ?ks ?kd ?ku ?_); (case k1 => first | k_asm | k_dflt k_asm); (case k2 => first | k_asm | k_dflt k_asm); (case k3 => first | k_asm | k_dflt k_asm); (case k4 => first | k_asm | k_dflt k_asm); (case k5 => first | k_asm | k_dflt k_asm); (case kK => first | exact rfl | assumption); (case kx => exact hxk); (case kc => exact hx3); (case ks => first | exact hs62 | exact hz62 | exact turn_ok (by assumption) (by assumption) (by first | exact hd20.go | assumption)); (case kd => first | k_room | ktr_room); (case ku => first | ktr_units | k_units); (rw [hx1]); (intro t9 h9 tk9 F9 N9; (try dsimp only); (try k_fold)))
                | (k_dflt (refine' fnvB_c ?k1 ?k2 ?k3 ?k4 ?k5 ?kK ?kx ?ks ?kd ?ku ?_); (case k1 => first | k_asm | k_dflt k_asm); (case k2 => first | k_asm | k_dflt k_asm); (case k3 => first | k_asm | k_dflt k_asm); (case k4 => first | k_asm | k_dflt k_asm); (case k5 => first | k_asm | k_dflt k_asm); (case kK => first | exact rfl | assumption); (case kx => exact hbk); (case ks => first | exact hs62 | exact hz62 | exact turn_ok (by assumption) (by assumption) (by first | exact hd20.go | assumption)); (case kd => first | k_room | ktr_room); (case ku => first | ktr_units | k_units); (rw [hb3]); (intro t9 h9 tk9 F9 N9; (try dsimp only); (try k_fold)))
                | (k_dflt (refine' fnvS32_c ?k1 ?k2 ?k3 ?k4 ?k5 ?kK ?kx ?kc ?kd ?ku ?_); (case k1 => first | k_asm | k_dflt k_asm); (case k2 => first | k_asm | k_dflt k_asm); (case k3 => first | k_asm | k_dflt k_asm); (case k4 => first | k_asm | k_dflt k_asm); (case k5 => first | k_asm | k_dflt k_asm); (case kK => first | exact rfl | assumption); (case kx => exact hxk); (case kc => exact hx3); (case kd => first | k_room | ktr_room); (case ku => first | ktr_units | k_units); (rw [hx1]); (intro t9 h9 tk9 F9 N9; (try dsimp only); (try k_fold)))
                | (k_dflt (refine' fnvB32_c ?k1 ?k2 ?k3 ?k4 ?k5 ?kK ?kx ?ks ?kd ?ku ?_); (case k1 => first | k_asm | k_dflt k_asm); (case k2 => first | k_asm | k_dflt k_asm); (case k3 => first | k_asm | k_dflt k_asm); (case k4 => first | k_asm | k_dflt k_asm); (case k5 => first | k_asm | k_dflt k_asm); (case kK => first | exact rfl | assumption); (case kx => exact hbk); (case ks => first | exact hs62 | exact hz62 | exact turn_ok (by assumption) (by assumption) (by first | exact hd20.go | assumption)); (case kd => first | k_room | ktr_room); (case ku => first | ktr_units | k_units); (rw [hb3]); (intro t9 h9 tk9 F9 N9; (try dsimp only); (try k_fold)))
                | (k_dflt (refine' simple_c ?k1 ?k2 ?k3 ?k4 ?k5 ?kK ?kx ?kd ?ku ?_); (case k1 => first | k_asm | k_dflt k_asm); (case k2 => first | k_asm | k_dflt k_asm); (case k3 => first | k_asm | k_dflt k_asm); (case k4 => first | k_asm | k_dflt k_asm); (case k5 => first | k_asm | k_dflt k_asm); (case kK => first | exact rfl | assumption); (case kx => first | exact hx2 | k_extra "simple size"); (case kd => first | k_room | ktr_room); (case ku => first | ktr_units | k_units); (intro t9 h9 tk9 F9 N9; (try dsimp only); (try k_fold)))
                | (k_dflt (refine' small_c ?k1 ?k2 ?k3 ?k4 ?k5 ?kK ?kv ?kd ?ku ?_); (case k1 => first | k_asm | k_dflt k_asm); (case k2 => first | k_asm | k_dflt k_asm); (case k3 => first | k_asm | k_dflt k_asm); (case k4 => first | k_asm | k_dflt k_asm); (case k5 => first | k_asm | k_dflt k_asm); (case kK => first | exact rfl | assumption); (case kv => k_extra "small value"); (case kd => first | k_room | ktr_room); (case ku => first | ktr_units | k_units); (intro t9 h9 tk9 F9 N9; (try dsimp only); (try k_fold)))
                | (k_dflt (refine' hwd_e ?k1 ?k2 ?k3 codeHd ?k4 ?k5 ?kK ?ke ?kr ?kd ?ku ?kz ?_); (case k1 => first | k_asm | k_dflt k_asm); (case k2 => first | k_asm | k_dflt k_asm); (case k3 => first | k_asm | k_dflt k_asm); (case k4 => first | k_asm | k_dflt k_asm); (case k5 => first | k_asm | k_dflt k_asm); (case kK => first | exact rfl | assumption); (case ke => k_dflt (exact rfl)); (case kr => k_dflt (simp only [List.dropLast]; k_extra "not 23")); (case kd => first | k_room | ktr_room); (case ku => first | ktr_units | k_units); (case kz => k_dflt (simp only [List.dropLast]; exact rfl)); (intro f9 led9 h9 tk9 F9 N9 C9; (try dsimp only)))
                | ((rename Clo _ _ _ _ _ _ _ _ _ _ _ _ => C9); k_dflt (refine' C9.2 _ _ _ _ _ _ _ _ _ _ _ _ _ _ _ _ _ _ _ ?k1 ?k2 ?k4 ?k5 ?kK ?kx ?kc ?kp ?kd ?ku ?_); (case k1 => first | k_asm | k_dflt k_asm); (case k2 => first | k_asm | k_dflt k_asm); (case k4 => first | k_asm | k_dflt k_asm); (case k5 => first | k_asm | k_dflt k_asm); (case kK => first | exact rfl | assumption); (case kx => exact hx2); (case kc => exact hx3); (case kp => exact hd1); (case kd => first | k_room | ktr_room); (case ku => first | ktr_units | k_units); (intro l9 vs9 n9 h9 tk9 F9 N9 I9 b9; (try k_lt b9); (try dsimp only); (try k_fold)))
                | ((with_reducible show wpAny _ _ (call (Value.ref 319) _) _ _ _); (rename News _ _ _ _ => hN0); (have hN1 := Hid.mk (pickN [5, 6, 7, 8] hN0)); (rename Fr _ _ _ _ => hF0); (have hF1 := Hid.mk hF0); clear hN0 hF0; (rename Clo _ _ _ _ _ _ _ _ _ _ _ _ => hC0); clear hC0; (repeat (rename News _ _ _ _ => hz; clear hz)); (repeat (rename Fr _ _ _ _ => hz; clear hz)); (repeat (rename (_ ≠ _ ∧ _) => hz; clear hz)); (repeat (rename (@LT.lt Addr _ _ _ ∧ _) => hz; clear hz)); (have hNc := hN1.go); (dsimp only [pickL, List.getElem?_cons_zero, List.getElem?_cons_succ] at hNc); (have hFc := hF1.go); (have hsigc := hsig.go); clear hN1 hF1; k_dflt (refine' bloom_c ?k1 ?k2 ?k3 ?k4 ?k5 ?kK ?ke ?kf ?kd ?ku ?_); (case k1 => first | k_asm | k_dflt k_asm); (case k2 => first | k_asm | k_dflt k_asm); (case k3 => first | k_asm | k_dflt k_asm); (case k4 => first | k_asm | k_dflt k_asm); (case k5 => first | k_asm | k_dflt k_asm); (case kK => first | exact rfl | assumption); (case ke => exact hest); (case kf => exact hfpr.go); (case kd => first | k_room | ktr_room); (case ku => first | ktr_units | k_units); (intro x9 d9 bl9 blen9 nh9 u0 u1 u2 u3 u4 u5 u6 u7 vs9 n9 h9 tk9 F9 N9 I9 hnh9 b9 hdx9 hxb9; (have hapart := b9); (try k_lt b9); (try dsimp only); (try k_fold)))
                | (k_dflt (refine' checkS_e (b := false) ?k1 ?k2 ?k3 ?k4 ?k5 ?kK ?kX ?kD ?kb ?kB ?ky ?kc ?kn ?kf ?kl ?ke ?kd ?ku ?_); (case k1 => first | k_asm | k_dflt k_asm); (case k2 => first | k_asm | k_dflt k_asm); (case k3 => first | k_asm | k_dflt k_asm); (case k4 => first | k_asm | k_dflt k_asm); (case k5 => first | k_asm | k_dflt k_asm); (case kK => first | exact rfl | assumption); (case kX => k_dflt k_mem); (case kD => k_dflt k_mem); (case kb => k_dflt k_mem); (case kB => assumption); (case ky => exact hxk); (case kc => exact hx3); (case kn => assumption); (case kf => exact hfpr.go); (case kl => exact eighths hfpr.go); (case ke => exact zeros_no (Int.lt_of_lt_of_le (by decide) hfpr.go.1) (by assumption)); (case kd => first | k_room | ktr_room); (case ku => first | ktr_units | k_units); (intro t9 h9 tk9 F9 N9; (try dsimp only); (try k_fold)))
                | (k_dflt (refine' checkB_e (b := false) ?k1 ?k2 ?k3 ?k4 ?k5 ?kK ?kX ?kD ?kb ?kB ?ky ?kn ?kf ?kl ?ke ?kd ?ku ?_); (case k1 => first | k_asm | k_dflt k_asm); (case k2 => first | k_asm | k_dflt k_asm); (case k3 => first | k_asm | k_dflt k_asm); (case k4 => first | k_asm | k_dflt k_asm); (case k5 => first | k_asm | k_dflt k_asm); (case kK => first | exact rfl | assumption); (case kX => k_dflt k_mem); (case kD => k_dflt k_mem); (case kb => k_dflt k_mem); (case kB => assumption); (case ky => exact hbk); (case kn => assumption); (case kf => exact hfpr.go); (case kl => exact eighths hfpr.go); (case ke => exact zeros_no (Int.lt_of_lt_of_le (by decide) hfpr.go.1) (by assumption)); (case kd => first | k_room | ktr_room); (case ku => first | ktr_units | k_units); (intro t9 h9 tk9 F9 N9; (try dsimp only); (try k_fold)))
                | (k_dflt (refine' containsB_c (b := false) ?k1 ?k2 ?k3 ?k4 ?k5 ?kK ?kX ?kD ?kb ?kB ?ky ?kn ?kf ?kl ?ke ?kd ?ku ?_); (case k1 => first | k_asm | k_dflt k_asm); (case k2 => first | k_asm | k_dflt k_asm); (case k3 => first | k_asm | k_dflt k_asm); (case k4 => first | k_asm | k_dflt k_asm); (case k5 => first | k_asm | k_dflt k_asm); (case kK => first | exact rfl | assumption); (case kX => k_dflt k_mem); (case kD => k_dflt k_mem); (case kb => k_dflt k_mem); (case kB => assumption); (case ky => exact hbk); (case kn => assumption); (case kf => exact hfpr.go); (case kl => exact eighths hfpr.go); (case ke => exact zeros_no (Int.lt_of_lt_of_le (by decide) hfpr.go.1) (by assumption)); (case kd => first | k_room | ktr_room); (case ku => first | ktr_units | k_units); (intro t9 h9 tk9 F9 N9; (try dsimp only); (try k_fold)))
                | (k_dflt (refine' checkB_e (b := true) ?k1 ?k2 ?k3 ?k4 ?k5 ?kK ?kX ?kD ?kb ?kB ?ky ?kn ?kf ?kl ?ke ?kd ?ku ?_); (case k1 => first | k_asm | k_dflt k_asm); (case k2 => first | k_asm | k_dflt k_asm); (case k3 => first | k_asm | k_dflt k_asm); (case k4 => first | k_asm | k_dflt k_asm); (case k5 => first | k_asm | k_dflt k_asm); (case kK => first | exact rfl | assumption); (case kX => k_dflt k_mem); (case kD => k_dflt k_mem); (case kb => k_dflt k_mem); (case kB => assumption); (case ky => exact hbk); (case kn => assumption); (case kf => exact hfpr.go); (case kl => exact hFil.len); (case ke => (rw [hb3]; exact hFil.on)); (case kd => first | k_room | ktr_room); (case ku => first | ktr_units | k_units); (intro t9 h9 tk9 F9 N9; (try dsimp only); (try k_fold)))
                | (k_dflt (refine' add_c ?k1 ?k2 ?k3 ?k4 ?k5 ?kK ?h1 ?h2 ?h4 ?hr ?hB ?hy ?hc ?hels ?hn ?hf ?hl ?hz ?kd ?ku ?_); (case k1 => first | k_asm | k_dflt k_asm); (case k2 => first | k_asm | k_dflt k_asm); (case k3 => first | k_asm | k_dflt k_asm); (case k4 => first | k_asm | k_dflt k_asm); (case k5 => first | k_asm | k_dflt k_asm); (case kK => first | exact rfl | assumption); (case h1 => k_dflt (k_extra "apart")); (case h2 => k_dflt (k_extra "apart")); (case h4 => k_dflt (k_extra "apart")); (case hr => k_dflt (k_extra "apart")); (case hB => assumption); (case hy => exact hxk); (case hc => exact hx3); (case hels => exact ⟨by decide, by decide⟩); (case hn => assumption); (case hf => exact hfpr.go); (case hl => exact (eighths hfpr.go).1); (case hz => exact (eighths hfpr.go).2); (case kd => first | k_room | ktr_room); (case ku => first | ktr_units | k_units); (intro vs9 n9 u9 h9 tk9 F9 N9 I9; (try dsimp only); refine Halt.stop ?_))
                | (k_dflt (refine' hashesS_c ?k1 ?k2 ?k3 ?k4 ?k5 ?kK ?kX ?kD ?ky ?kc ?kn ?kd ?ku ?_); (case k1 => first | k_asm | k_dflt k_asm); (case k2 => first | k_asm | k_dflt k_asm); (case k3 => first | k_asm | k_dflt k_asm); (case k4 => first | k_asm | k_dflt k_asm); (case k5 => first | k_asm | k_dflt k_asm); (case kK => first | exact rfl | assumption); (case kX => k_dflt k_mem); (case kD => k_dflt k_mem); (case ky => exact hxk); (case kc => exact hx3); (case kn => assumption); (case kd => first | k_room | ktr_room); (case ku => first | ktr_units | k_units); (rw [hx1]); (intro l9 vs9 n9 h9 tk9 F9 N9 I9 b9; (try k_lt b9); (try dsimp only); (try k_fold)))
                | (k_dflt (refine' hashesB_c ?k1 ?k2 ?k3 ?k4 ?k5 ?kK ?kX ?kD ?ky ?kn ?kd ?ku ?_); (case k1 => first | k_asm | k_dflt k_asm); (case k2 => first | k_asm | k_dflt k_asm); (case k3 => first | k_asm | k_dflt k_asm); (case k4 => first | k_asm | k_dflt k_asm); (case k5 => first | k_asm | k_dflt k_asm); (case kK => first | exact rfl | assumption); (case kX => k_dflt k_mem); (case kD => k_dflt k_mem); (case ky => exact hbk); (case kn => assumption); (case kd => first | k_room | ktr_room); (case ku => first | ktr_units | k_units); (rw [hb3]); (intro l9 vs9 n9 h9 tk9 F9 N9 I9 b9; (try k_lt b9); (try dsimp only); (try k_fold)))
                | refine Halt.stop ?_)
              k_with "same ints" => first | exact wide_same _ (Int.le_trans (by decide) hnh9.1) | refine Halt.stop ?_
              k_steps)))))))
end Mine
end Main
theorem PySem.Challenge.cw_sv0015_02_holds : PySem.Challenge.rw_sv0015_02.Holds := by
  exact Mine.main_walk
