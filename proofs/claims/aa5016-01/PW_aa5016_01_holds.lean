import PyProof.Rows.All
import Wide.All
import OpenK.AllK
import Wide.FinOn
import PySem.Challenge.RW_aa5016_01
set_option Elab.async false
section
open PySem PySem.W PyProof.Rows
set_option maxRecDepth 100000
namespace Mine
theorem xor_sum : ∀ (n a b : Nat), a < n → (a ||| b) = (a ^^^ b) + (a &&& b) := by
  intro n
  induction n with
  | zero => intro a b h; omega
  | succ n ih =>
    intro a b h
    by_cases h0 : a = 0
    · subst h0; simp
    · have hi := ih (a / 2) (b / 2) (by omega)
      have h1 : (a ||| b) / 2 = a / 2 ||| b / 2 := Nat.or_div_two
      have h2 : (a ^^^ b) / 2 = a / 2 ^^^ b / 2 := Nat.xor_div_two
      have h3 : (a &&& b) / 2 = a / 2 &&& b / 2 := Nat.and_div_two
      have m1 : (a ||| b) % 2 = (a % 2 ||| b % 2) := by simpa using Nat.or_mod_two_pow (a := a) (b := b) (n := 1)
      have m2 : (a ^^^ b) % 2 = (a % 2 ^^^ b % 2) := by simpa using Nat.xor_mod_two_pow (a := a) (b := b) (n := 1)
      have m3 : (a &&& b) % 2 = (a % 2 &&& b % 2) := by simpa using Nat.and_mod_two_pow (a := a) (b := b) (n := 1)
      have key : (a % 2 ||| b % 2) = (a % 2 ^^^ b % 2) + (a % 2 &&& b % 2) := by
        have ha : a % 2 = 0 ∨ a % 2 = 1 := by omega
        have hb : b % 2 = 0 ∨ b % 2 = 1 := by omega
        rcases ha with ha | ha <;> rcases hb with hb | hb <;> rw [ha, hb] <;> rfl
      omega
theorem bitOr_nat (a b : Nat) : Builtin.bitOr (a : Int) (b : Int) = ((a ||| b : Nat) : Int) := by
  have e : ∀ x : Int, Builtin.bitNot x = -x - 1 := fun _ => rfl
  show Builtin.bitNot (Builtin.bitAnd (Builtin.bitNot a) (Builtin.bitNot b)) = _
  rw [bitAnd_nn (by rw [e]; omega) (by rw [e]; omega)]
  have h : ∀ x : Nat, (Builtin.bitNot (Builtin.bitNot (x : Int))).toNat = x := fun x => by rw [e, e]; omega
  rw [h, h, e, e]
  omega
theorem bitAnd_nat (a b : Nat) : Builtin.bitAnd (a : Int) (b : Int) = ((a &&& b : Nat) : Int) := by
  rw [bitAnd_pp (by omega) (by omega)]; rfl
theorem bitXor_nat (a b : Nat) : Builtin.bitXor (a : Int) (b : Int) = ((a ^^^ b : Nat) : Int) := by
  show Builtin.bitOr (a : Int) b - Builtin.bitAnd (a : Int) b = _
  rw [bitOr_nat, bitAnd_nat, xor_sum (a + 1) a b (Nat.lt_succ_self a)]
  omega
def rotN (k c : Nat) : Nat := (c * 2 ^ k % 32768) ^^^ (c * 2 ^ k / 32768)
theorem rot_or : ∀ k, k < 23 → ∀ c, c < 128 → (c * 2 ^ k % 32768) ||| (c * 2 ^ k / 32768) = rotN k c := by decide +kernel
theorem rot_lt : ∀ k, k < 23 → ∀ c, c < 128 → rotN k c < 32768 := by decide +kernel
theorem rot_bits : ∀ k, k < 23 → ∀ c, c < 128 → rotN k c = (List.range 7).foldl (fun h b => h ^^^ ((c / 2 ^ b % 2) * 2 ^ ((k + b) % 15))) 0 := by decide +kernel
theorem xor_mul (a b k : Nat) : (a ^^^ b) * 2 ^ k = a * 2 ^ k ^^^ b * 2 ^ k := by
  rw [← Nat.shiftLeft_eq, ← Nat.shiftLeft_eq, ← Nat.shiftLeft_eq, Nat.shiftLeft_xor_distrib]
theorem rot_xor (k c d : Nat) : rotN k (c ^^^ d) = rotN k c ^^^ rotN k d := by
  unfold rotN
  have e : (32768 : Nat) = 2 ^ 15 := rfl
  rw [e, xor_mul, Nat.xor_mod_two_pow, Nat.xor_div_two_pow]
  ac_rfl
theorem rot_one : ∀ k, k < 23 → ∀ b, b < 7 → rotN k (2 ^ b) = 2 ^ ((k + b) % 15) := by decide +kernel

/-- the xor over the places of the rotated codes, places from o + 1 -/
def HL : Nat → List Nat → Nat
  | _, [] => 0
  | o, c :: r => rotN (o + 1) c ^^^ HL (o + 1) r
theorem HL_append : ∀ (o : Nat) (l r : List Nat), HL o (l ++ r) = HL o l ^^^ HL (o + l.length) r
  | o, [], r => by simp [HL]
  | o, c :: l, r => by
    rw [List.cons_append, HL, HL, HL_append (o + 1) l r, List.length_cons, Nat.xor_assoc]
    have e : o + 1 + l.length = o + (l.length + 1) := by omega
    rw [e]
theorem HL_snoc (l : List Nat) (c : Nat) : HL 0 (l ++ [c]) = HL 0 l ^^^ rotN (l.length + 1) c := by
  rw [HL_append]; simp [HL]
theorem xor_lt15 {a b : Nat} (ha : a < 32768) (hb : b < 32768) : a ^^^ b < 32768 := Nat.xor_lt_two_pow (n := 15) ha hb
theorem HL_lt : ∀ (l : List Nat) (o : Nat), o + l.length ≤ 22 → (∀ c ∈ l, c < 128) → HL o l < 32768
  | [], _, _, _ => by simp [HL]
  | c :: l, o, h, hc => by
    rw [List.length_cons] at h
    exact xor_lt15 (rot_lt _ (by omega) _ (hc c (.head _))) (HL_lt l (o + 1) (by omega) fun d hd => hc d (.tail _ hd))

def hashStep (a : Int) (k : Nat) (n : Int) : Int :=
  Builtin.bitXor a (Builtin.bitOr (Builtin.bitAnd (n * 2 ^ ((k : Int) + 1).toNat) 32767) ((n * 2 ^ ((k : Int) + 1).toNat).fdiv (2 ^ (15 : Int).toNat)))
def hashF (pre : List Int) : Int := pre.zipIdx.foldl (fun a p => hashStep a p.2 p.1) 0
theorem hashF_snoc (pre : List Int) (n : Int) : hashF (pre ++ [n]) = hashStep (hashF pre) pre.length n := by
  unfold hashF
  rw [List.zipIdx_append, List.foldl_append]
  simp
theorem hf_turn {a n : Int} {pre : List Int} (h : a = hashF pre) : hashStep a pre.length n = hashF (pre ++ [n]) := by rw [hashF_snoc, h]
theorem hashStep_nat (a k n : Nat) (hk : k < 22) (hn : n < 128) : hashStep (a : Int) k (n : Int) = ((a ^^^ rotN (k + 1) n : Nat) : Int) := by
  unfold hashStep
  have e1 : ((k : Int) + 1).toNat = k + 1 := by omega
  have e2 : (n : Int) * 2 ^ (k + 1) = ((n * 2 ^ (k + 1) : Nat) : Int) := by rw [Int.natCast_mul, Int.natCast_pow]; rfl
  have e3 : (2 : Int) ^ (15 : Int).toNat = ((32768 : Nat) : Int) := by decide
  have e4 : (32767 : Int) = ((32767 : Nat) : Int) := rfl
  rw [e1, e2, e3, e4, bitAnd_nat, Int.fdiv_eq_ediv_of_nonneg _ (by omega), ← Int.natCast_ediv, bitOr_nat, bitXor_nat]
  have e5 : n * 2 ^ (k + 1) &&& 32767 = n * 2 ^ (k + 1) % 32768 := Nat.and_two_pow_sub_one_eq_mod _ 15
  rw [e5, rot_or (k + 1) (by omega) n hn]
theorem hashF_from : ∀ (l : List Nat) (o a : Nat), o + l.length ≤ 22 → (∀ c ∈ l, c < 128) →
    ((l.map fun (c : Nat) => (c : Int)).zipIdx o).foldl (fun a p => hashStep a p.2 p.1) (a : Int) = ((a ^^^ HL o l : Nat) : Int)
  | [], _, a, _, _ => by simp [HL]
  | c :: l, o, a, h, hc => by
    rw [List.length_cons] at h
    rw [List.map_cons, List.zipIdx_cons, List.foldl_cons]
    have hs := hashStep_nat a o c (by omega) (hc c (.head _))
    dsimp only
    rw [hs, hashF_from l (o + 1) _ (by omega) fun d hd => hc d (.tail _ hd), HL, Nat.xor_assoc]
theorem hashF_nat (l : List Nat) (hl : l.length ≤ 22) (hc : ∀ c ∈ l, c < 128) : hashF (l.map fun (c : Nat) => (c : Int)) = ((HL 0 l : Nat) : Int) := by
  have h := hashF_from l 0 0 (by omega) hc
  unfold hashF
  rw [Nat.zero_xor] at h
  exact h
theorem hashF_str {x : Str} (hx : x.length ≤ 22) (hc : ∀ c ∈ x.cps.toList, c < 128) : hashF (KStt.codes x) = ((HL 0 x.cps.toList : Nat) : Int) :=
  hashF_nat _ (by simpa [Str.length] using hx) hc

/-- the hash's number -/
def hv (x : Str) : Nat := 52811 ^^^ x.length ^^^ HL 0 x.cps.toList
theorem hv_range {x : Str} (hx : x.length ≤ 22) (hc : ∀ c ∈ x.cps.toList, c < 128) : 32768 ≤ hv x ∧ hv x < 65536 := by
  have h1 := HL_lt x.cps.toList 0 (by simpa [Str.length] using hx) hc
  unfold hv
  have h2 : x.length ^^^ HL 0 x.cps.toList < 32768 := xor_lt15 (by omega) h1
  rw [Nat.xor_assoc]
  generalize x.length ^^^ HL 0 x.cps.toList = y at h2
  have e : (52811 ^^^ y) / 2 ^ 15 = 52811 / 2 ^ 15 ^^^ y / 2 ^ 15 := Nat.xor_div_two_pow
  have e2 : y / 2 ^ 15 = 0 := Nat.div_eq_of_lt h2
  rw [e2, Nat.xor_zero] at e
  have e3 : 52811 / 2 ^ 15 = 1 := by decide
  rw [e3] at e
  omega
theorem hv_int {x : Str} {a : Int} (h : a = hashF (KStt.codes x)) (hx : x.length ≤ 22) (hc : ∀ c ∈ x.cps.toList, c < 128) :
    Builtin.bitXor (Builtin.bitXor a (x.length : Int)) 52811 = (hv x : Int) := by
  have e4 : (52811 : Int) = ((52811 : Nat) : Int) := rfl
  rw [h, hashF_str hx hc, bitXor_nat, e4, bitXor_nat]
  unfold hv
  congr 1
  ac_rfl
end Mine
end
section
open PySem PySem.W PyProof.Rows
set_option maxRecDepth 100000
namespace Mine
/-- the sign of a figure -/
def hx (d : Nat) : Nat := if d < 10 then 48 + d else 55 + d
def hexS (v : Nat) : Str := ⟨#[hx (v / 16 / 16 / 16 % 16), hx (v / 16 / 16 % 16), hx (v / 16 % 16), hx (v % 16)]⟩
theorem core_step (b f n : Nat) (ds : List Char) : Nat.toDigitsCore b (f + 1) n ds = if n / b = 0 then Nat.digitChar (n % b) :: ds else Nat.toDigitsCore b f (n / b) (Nat.digitChar (n % b) :: ds) := rfl
theorem digits4 {v : Nat} (h0 : 32768 ≤ v) (h1 : v < 65536) :
    Nat.toDigits 16 v = [Nat.digitChar (v / 16 / 16 / 16 % 16), Nat.digitChar (v / 16 / 16 % 16), Nat.digitChar (v / 16 % 16), Nat.digitChar (v % 16)] := by
  obtain ⟨f, hf⟩ : ∃ f, v = f + 3 := ⟨v - 3, by omega⟩
  unfold Nat.toDigits
  have e : v + 1 = f + 1 + 1 + 1 + 1 := by omega
  rw [e, core_step, if_neg (by omega), core_step, if_neg (by omega), core_step, if_neg (by omega), core_step, if_pos (by omega)]
theorem digit_up : ∀ d, d < 16 → up1 (Nat.digitChar d).toNat = hx d := by decide
theorem digit_ascii : ∀ d, d < 16 → (Nat.digitChar d).toNat < 128 := by decide
theorem base_eq {v : Nat} (h0 : 32768 ≤ v) (h1 : v < 65536) :
    baseText "0x" 16 (v : Int) = ⟨#[48, 120, (Nat.digitChar (v / 16 / 16 / 16 % 16)).toNat, (Nat.digitChar (v / 16 / 16 % 16)).toNat, (Nat.digitChar (v / 16 % 16)).toNat, (Nat.digitChar (v % 16)).toNat]⟩ := by
  rw [baseText_nonneg (by omega)]
  have e0 : Str.ofString "" = ⟨#[]⟩ := by decide +kernel
  have e1 : Str.ofString "0x" = ⟨#[48, 120]⟩ := by decide +kernel
  have e2 : (v : Int).natAbs = v := by omega
  rw [e0, e1, e2, digits4 h0 h1, Str.ofString_eq_toList, String.toList_ofList]
  rfl
theorem base_len {v : Nat} (h0 : 32768 ≤ v) (h1 : v < 65536) : (baseText "0x" 16 (v : Int)).length = 6 := by rw [base_eq h0 h1]; rfl
theorem hash_text {v : Nat} (h0 : 32768 ≤ v) (h1 : v < 65536) : Txt.slice (Txt.upper (baseText "0x" 16 (v : Int))) (some 2) none = hexS v := by
  rw [base_eq h0 h1]
  have a3 := digit_ascii (v / 16 / 16 / 16 % 16) (Nat.mod_lt _ (by decide))
  have a2 := digit_ascii (v / 16 / 16 % 16) (Nat.mod_lt _ (by decide))
  have a1 := digit_ascii (v / 16 % 16) (Nat.mod_lt _ (by decide))
  have a0 := digit_ascii (v % 16) (Nat.mod_lt _ (by decide))
  rw [upper_ascii (by
    intro c hc
    simp only [List.mem_cons, List.not_mem_nil, or_false] at hc
    rcases hc with rfl | rfl | rfl | rfl | rfl | rfl
    · decide
    · decide
    · exact a3
    · exact a2
    · exact a1
    · exact a0)]
  have b3 := digit_up (v / 16 / 16 / 16 % 16) (Nat.mod_lt _ (by decide))
  have b2 := digit_up (v / 16 / 16 % 16) (Nat.mod_lt _ (by decide))
  have b1 := digit_up (v / 16 % 16) (Nat.mod_lt _ (by decide))
  have b0 := digit_up (v % 16) (Nat.mod_lt _ (by decide))
  simp only [List.map_toArray, List.map_cons, List.map_nil, b3, b2, b1, b0]
  rw [slice_from_eq (b := 6) (by decide) (by show (2 : Int) ≤ ((6 : Nat) : Int); decide) rfl]
  rfl

def digS (n : Int) : Str := Txt.item (Str.ofString "0123456789ABCDEF") (n.fmod 16)
theorem table_at : ∀ d, d < 16 → (Str.ofString "0123456789ABCDEF").cps.getD d 0 = hx d := by decide +kernel
theorem digS_nat (n : Nat) : digS (n : Int) = ⟨#[hx (n % 16)]⟩ := by
  unfold digS
  have e : (n : Int).fmod 16 = ((n % 16 : Nat) : Int) := by rw [Int.fmod_eq_emod_of_nonneg _ (by decide)]; rfl
  have hl : (Str.ofString "0123456789ABCDEF").length = 16 := by decide +kernel
  rw [e, item_at (n := n % 16) (by omega) (by rw [hl]; omega) (by omega), table_at _ (Nat.mod_lt _ (by decide))]
def figGo : Nat → Int → Str → Str
  | 0, _, s => s
  | f + 1, n, s => if n > 0 then figGo f (n.fdiv 16) (digS n ++ s) else s
theorem fig_step (f : Nat) (n : Nat) (s : Str) (h : 0 < n) : figGo (f + 1) (n : Int) s = figGo f ((n / 16 : Nat) : Int) ((⟨#[hx (n % 16)]⟩ : Str) ++ s) := by
  have e : (n : Int).fdiv 16 = ((n / 16 : Nat) : Int) := by rw [Int.fdiv_eq_ediv_of_nonneg _ (by decide)]; rfl
  rw [← e, ← digS_nat]
  show (if (n : Int) > 0 then _ else _) = _
  rw [if_pos (by omega)]
theorem fig_stop (f : Nat) (s : Str) : figGo (f + 1) ((0 : Nat) : Int) s = s := rfl
def figs (n : Int) : Str := if figGo 17 n Str.empty != Str.ofString "" then figGo 17 n Str.empty else Str.ofString "0"
theorem figs_hex {v : Nat} (h0 : 32768 ≤ v) (h1 : v < 65536) : figs (v : Int) = hexS v := by
  have e : figGo 17 (v : Int) Str.empty = hexS v := by
    rw [fig_step _ _ _ (by omega), fig_step _ _ _ (by omega), fig_step _ _ _ (by omega), fig_step _ _ _ (by omega)]
    have z : v / 16 / 16 / 16 / 16 = 0 := by omega
    rw [z, fig_stop]
    rfl
  unfold figs
  rw [e, if_pos]
  have n : hexS v ≠ Str.ofString "" := by
    intro q
    have q2 := congrArg Str.length q
    have e0 : (Str.ofString "").length = 0 := by decide +kernel
    rw [e0] at q2
    exact absurd q2 (by show ¬ (4 = 0); decide)
  exact bne_iff_ne.mpr n
theorem hx_inj : ∀ a, a < 16 → ∀ b, b < 16 → hx a = hx b → a = b := by decide
theorem hexS_inj {u v : Nat} (hu : u < 65536) (hv : v < 65536) (h : hexS u = hexS v) : u = v := by
  have q : (hexS u).cps.toList = (hexS v).cps.toList := by rw [h]
  simp only [hexS, List.cons.injEq, and_true] at q
  obtain ⟨q3, q2, q1, q0⟩ := q
  have r3 := hx_inj _ (Nat.mod_lt _ (by decide)) _ (Nat.mod_lt _ (by decide)) q3
  have r2 := hx_inj _ (Nat.mod_lt _ (by decide)) _ (Nat.mod_lt _ (by decide)) q2
  have r1 := hx_inj _ (Nat.mod_lt _ (by decide)) _ (Nat.mod_lt _ (by decide)) q1
  have r0 := hx_inj _ (Nat.mod_lt _ (by decide)) _ (Nat.mod_lt _ (by decide)) q0
  omega
end Mine
end
section
open PySem PySem.W PyProof.Rows
set_option maxRecDepth 100000
namespace Mine
def bitStep (x : Str) (place : Int) (odd : List Int) (bit : Int) : List Int :=
  odd.set ((place + 1 + bit).fmod 15).toNat ((odd.getD ((place + 1 + bit).fmod 15).toNat 0 + (((Txt.item x place).cps.getD 0 0 : Nat) : Int).fdiv (2 ^ bit.toNat)).fmod 2)
def bitsF (x : Str) (place : Int) (odd : List Int) (pre : List Int) : List Int := pre.foldl (bitStep x place) odd
def ringsF (x : Str) (pre : List Int) : List Int := pre.foldl (fun odd place => bitsF x place odd (rangeKs 0 7)) (List.replicate 15 0)

/-- the rings' parities, of the number whose bits they are -/
def toRings (h : Nat) : List Int := (List.range 15).map fun r => ((h / 2 ^ r % 2 : Nat) : Int)
theorem toRings_len (h : Nat) : (toRings h).length = 15 := by simp [toRings]
theorem toRings_get {h r : Nat} (hr : r < 15) : (toRings h)[r]? = some (((h / 2 ^ r % 2 : Nat)) : Int) := by
  unfold toRings
  rw [List.getElem?_map, List.getElem?_range hr]; rfl
theorem toRings_getD {h r : Nat} (hr : r < 15) : (toRings h).getD r 0 = (((h / 2 ^ r % 2 : Nat)) : Int) := by
  rw [List.getD_eq_getElem?_getD, toRings_get hr]; rfl
theorem pow_apart : ∀ r, r < 15 → ∀ j, j < 15 → j ≠ r → 2 ^ r / 2 ^ j % 2 = 0 := by decide +kernel
theorem bit_xor (a b j : Nat) : (a ^^^ b) / 2 ^ j % 2 = (a / 2 ^ j % 2) ^^^ (b / 2 ^ j % 2) := by
  rw [Nat.xor_div_two_pow]
  simpa using Nat.xor_mod_two_pow (a := a / 2 ^ j) (b := b / 2 ^ j) (n := 1)
theorem par_xor (a b : Nat) : (a % 2) ^^^ (b % 2) = (a % 2 + b) % 2 := by
  have ha : a % 2 = 0 ∨ a % 2 = 1 := by omega
  have hb : b % 2 = 0 ∨ b % 2 = 1 := by omega
  rcases ha with ha | ha <;> rcases hb with hb | hb <;> rw [ha, hb] <;> simp <;> omega
theorem ring_set {h c r : Nat} (hr : r < 15) : (toRings h).set r (((h / 2 ^ r % 2 + c) % 2 : Nat) : Int) = toRings (h ^^^ (c % 2) * 2 ^ r) := by
  refine List.ext_getElem? fun j => ?_
  by_cases hj : j < 15
  · rw [toRings_get hj, bit_xor]
    by_cases e : r = j
    · subst e
      rw [List.getElem?_set_self (by rw [toRings_len]; exact hr)]
      have e1 : c % 2 * 2 ^ r / 2 ^ r = c % 2 := Nat.mul_div_cancel _ (Nat.two_pow_pos r)
      rw [e1, par_xor]
      congr 2
      omega
    · rw [List.getElem?_set_ne e, toRings_get hj]
      have e1 : c % 2 * 2 ^ r / 2 ^ j % 2 = 0 := by
        have hc : c % 2 = 0 ∨ c % 2 = 1 := by omega
        rcases hc with hc | hc <;> rw [hc]
        · simp
        · rw [Nat.one_mul]; exact pow_apart r hr j hj fun q => e q.symm
      rw [e1, Nat.xor_zero]
  · rw [List.getElem?_eq_none (by rw [List.length_set, toRings_len]; omega), List.getElem?_eq_none (by rw [toRings_len]; omega)]
theorem item_code {x : Str} {i : Nat} (hi : i < x.length) : (Txt.item x (i : Int)).cps.getD 0 0 = x.cps.getD i 0 := by
  rw [item_at (n := i) (by omega) (by omega) (by omega)]
  rfl
theorem bitStep_nat {x : Str} {i h b : Nat} (hi : i < x.length) : bitStep x (i : Int) (toRings h) (b : Int) = toRings (h ^^^ (x.cps.getD i 0 / 2 ^ b % 2) * 2 ^ ((i + 1 + b) % 15)) := by
  unfold bitStep
  have e1 : (((i : Int) + 1 + (b : Int)).fmod 15).toNat = (i + 1 + b) % 15 := by
    rw [Int.fmod_eq_emod_of_nonneg _ (by decide)]; omega
  have hr : (i + 1 + b) % 15 < 15 := Nat.mod_lt _ (by decide)
  have e2 : ((x.cps.getD i 0 : Nat) : Int).fdiv (2 ^ (b : Int).toNat) = ((x.cps.getD i 0 / 2 ^ b : Nat) : Int) := by
    rw [Int.toNat_natCast, Int.fdiv_eq_ediv_of_nonneg _ (Int.le_of_lt (kbt_pos b)), ← kbt_cast, ← Int.natCast_ediv]
  rw [e1, item_code hi, e2, toRings_getD hr]
  have e3 : (((h / 2 ^ ((i + 1 + b) % 15) % 2 : Nat) : Int) + ((x.cps.getD i 0 / 2 ^ b : Nat) : Int)).fmod 2 = (((h / 2 ^ ((i + 1 + b) % 15) % 2 + x.cps.getD i 0 / 2 ^ b) % 2 : Nat) : Int) := by
    rw [Int.fmod_eq_emod_of_nonneg _ (by decide)]; omega
  rw [e3, ring_set hr]
theorem foldl_xor (g : Nat → Nat) : ∀ (l : List Nat) (h : Nat), l.foldl (fun a b => a ^^^ g b) h = h ^^^ l.foldl (fun a b => a ^^^ g b) 0
  | [], h => by simp
  | b :: l, h => by
    rw [List.foldl_cons, List.foldl_cons, foldl_xor g l (h ^^^ g b), foldl_xor g l (0 ^^^ g b), Nat.zero_xor, Nat.xor_assoc]
theorem bits_fold {x : Str} {i : Nat} (hi : i < x.length) : ∀ (l : List Nat) (h : Nat), (l.map fun (b : Nat) => (0 : Int) + (b : Int)).foldl (bitStep x (i : Int)) (toRings h) = toRings (l.foldl (fun a b => a ^^^ (x.cps.getD i 0 / 2 ^ b % 2) * 2 ^ ((i + 1 + b) % 15)) h)
  | [], _ => rfl
  | b :: l, h => by
    rw [List.map_cons, List.foldl_cons, List.foldl_cons, Int.zero_add, bitStep_nat hi, bits_fold hi l]
theorem bitsF_nat {x : Str} {i h : Nat} (hi : i < x.length) (hx : x.length ≤ 22) (hc : x.cps.getD i 0 < 128) : bitsF x (i : Int) (toRings h) (rangeKs 0 7) = toRings (h ^^^ rotN (i + 1) (x.cps.getD i 0)) := by
  unfold bitsF rangeKs
  rw [bits_fold hi, foldl_xor, rot_bits (i + 1) (by omega) _ hc]
theorem rangeKs_snoc (n : Nat) : rangeKs 0 (n + 1) = rangeKs 0 n ++ [(n : Int)] := by
  unfold rangeKs
  rw [List.range_succ, List.map_append, List.map_cons, List.map_nil, Int.zero_add]
theorem rings_upto {x : Str} (hx : x.length ≤ 22) (hc : ∀ c ∈ x.cps.toList, c < 128) : ∀ n, n ≤ x.length → ringsF x (rangeKs 0 n) = toRings (HL 0 (x.cps.toList.take n))
  | 0, _ => by
    show List.replicate 15 (0 : Int) = toRings 0
    decide
  | n + 1, h => by
    have hn : n < x.cps.toList.length := by rw [Array.length_toList]; exact h
    have e : x.cps.getD n 0 = x.cps.toList[n] := by
      have : n < x.cps.size := by simpa using hn
      simp [Array.getD, this]
    have hcn : x.cps.getD n 0 < 128 := by rw [e]; exact hc _ (List.getElem_mem hn)
    rw [rangeKs_snoc]
    unfold ringsF
    rw [List.foldl_append]
    show bitsF x (n : Int) (ringsF x (rangeKs 0 n)) (rangeKs 0 7) = _
    rw [rings_upto hx hc n (by omega), bitsF_nat (by omega) hx hcn, List.take_add_one, List.getElem?_eq_getElem hn]
    have hl : (x.cps.toList.take n).length = n := by rw [List.length_take]; omega
    show _ = toRings (HL 0 (x.cps.toList.take n ++ [x.cps.toList[n]]))
    rw [HL_snoc, hl, e]
def ringsL (x : Str) : List Int := ringsF x (rangeKs 0 x.length)
/-- the xor of the rotated codes -/
def hh (x : Str) : Nat := HL 0 x.cps.toList
theorem ringsL_eq {x : Str} (hx : x.length ≤ 22) (hc : ∀ c ∈ x.cps.toList, c < 128) : ringsL x = toRings (hh x) := by
  unfold ringsL hh
  rw [rings_upto hx hc _ (Nat.le_refl _), List.take_of_length_le (by simp [Str.length])]
theorem hh_lt {x : Str} (hx : x.length ≤ 22) (hc : ∀ c ∈ x.cps.toList, c < 128) : hh x < 32768 := HL_lt _ 0 (by simpa [Str.length] using hx) hc
theorem toRings_inj {a b : Nat} (ha : a < 32768) (hb : b < 32768) (h : toRings a = toRings b) : a = b := by
  refine Nat.eq_of_testBit_eq fun i => ?_
  by_cases hi : i < 15
  · have q : (toRings a)[i]? = (toRings b)[i]? := by rw [h]
    rw [toRings_get hi, toRings_get hi] at q
    have q' : a / 2 ^ i % 2 = b / 2 ^ i % 2 := by
      have := Option.some.inj q
      omega
    rw [Nat.testBit_eq_decide_div_mod_eq, Nat.testBit_eq_decide_div_mod_eq, q']
  · have hp : 32768 ≤ 2 ^ i := by
      have : (2 : Nat) ^ 15 ≤ 2 ^ i := Nat.pow_le_pow_right (by decide) (by omega)
      exact this
    rw [Nat.testBit_lt_two_pow (Nat.lt_of_lt_of_le ha hp), Nat.testBit_lt_two_pow (Nat.lt_of_lt_of_le hb hp)]
theorem hv_eq (x : Str) : hv x = 52811 ^^^ x.length ^^^ hh x := rfl
end Mine
namespace Mine
theorem ring_mul {h : Nat} {k j : Int} (h0 : 0 ≤ k) (h1 : k < 0 + ((15 - 0 : Int).toNat : Int)) : IntMulOk ((toRings h).getD k.toNat 0) j := by
  have hk : k.toNat < 15 := by
    have : ((15 - 0 : Int).toNat : Int) = 15 := rfl
    omega
  rw [toRings_getD hk]
  exact IntMulOk.of_left (PySem.intBits_le_64 (by omega) (by omega))
theorem ring_sum {h : Nat} (hh : h < 32768) : (List.map (fun k : Int => (toRings h).getD k.toNat 0 * 2 ^ k.toNat) (rangeKs 0 (15 - 0 : Int).toNat)).sum = (h : Int) := by
  have e : rangeKs 0 (15 - 0 : Int).toNat = [0, 1, 2, 3, 4, 5, 6, 7, 8, 9, 10, 11, 12, 13, 14] := by decide
  rw [e]
  simp only [List.map_cons, List.map_nil, List.sum_cons, List.sum_nil]
  have g : ∀ r : Nat, r < 15 → (toRings h).getD r 0 = ((h / 2 ^ r % 2 : Nat) : Int) := fun r hr => toRings_getD hr
  have t : ∀ r : Nat, ((r : Int)).toNat = r := fun r => Int.toNat_natCast r
  have t0 : (0 : Int).toNat = 0 := rfl
  have t1 : (1 : Int).toNat = 1 := rfl
  have t2 : (2 : Int).toNat = 2 := rfl
  have t3 : (3 : Int).toNat = 3 := rfl
  have t4 : (4 : Int).toNat = 4 := rfl
  have t5 : (5 : Int).toNat = 5 := rfl
  have t6 : (6 : Int).toNat = 6 := rfl
  have t7 : (7 : Int).toNat = 7 := rfl
  have t8 : (8 : Int).toNat = 8 := rfl
  have t9 : (9 : Int).toNat = 9 := rfl
  have t10 : (10 : Int).toNat = 10 := rfl
  have t11 : (11 : Int).toNat = 11 := rfl
  have t12 : (12 : Int).toNat = 12 := rfl
  have t13 : (13 : Int).toNat = 13 := rfl
  have t14 : (14 : Int).toNat = 14 := rfl
  rw [t0, t1, t2, t3, t4, t5, t6, t7, t8, t9, t10, t11, t12, t13, t14, g 0 (by decide), g 1 (by decide), g 2 (by decide), g 3 (by decide), g 4 (by decide), g 5 (by decide), g 6 (by decide), g 7 (by decide), g 8 (by decide), g 9 (by decide), g 10 (by decide), g 11 (by decide), g 12 (by decide), g 13 (by decide), g 14 (by decide)]
  simp only [show (2:Nat)^0 = 1 from rfl, show (2:Nat)^1 = 2 from rfl, show (2:Nat)^2 = 4 from rfl, show (2:Nat)^3 = 8 from rfl, show (2:Nat)^4 = 16 from rfl, show (2:Nat)^5 = 32 from rfl, show (2:Nat)^6 = 64 from rfl, show (2:Nat)^7 = 128 from rfl, show (2:Nat)^8 = 256 from rfl, show (2:Nat)^9 = 512 from rfl, show (2:Nat)^10 = 1024 from rfl, show (2:Nat)^11 = 2048 from rfl, show (2:Nat)^12 = 4096 from rfl, show (2:Nat)^13 = 8192 from rfl, show (2:Nat)^14 = 16384 from rfl, show (2:Int)^0 = 1 from rfl, show (2:Int)^1 = 2 from rfl, show (2:Int)^2 = 4 from rfl, show (2:Int)^3 = 8 from rfl, show (2:Int)^4 = 16 from rfl, show (2:Int)^5 = 32 from rfl, show (2:Int)^6 = 64 from rfl, show (2:Int)^7 = 128 from rfl, show (2:Int)^8 = 256 from rfl, show (2:Int)^9 = 512 from rfl, show (2:Int)^10 = 1024 from rfl, show (2:Int)^11 = 2048 from rfl, show (2:Int)^12 = 4096 from rfl, show (2:Int)^13 = 8192 from rfl, show (2:Int)^14 = 16384 from rfl]
  omega
end Mine
end
section
open PySem PySem.W PyProof.Rows
set_option maxRecDepth 100000
namespace Mine
def putS (x : Str) (i c : Int) : Str := Txt.slice x none (some i) ++ (⟨#[c.toNat]⟩ : Str) ++ Txt.slice x (some (i + 1)) none
def turnS (x : Str) (i b : Int) : Str := putS x i (Builtin.bitXor (((Txt.item x i).cps.getD 0 0 : Nat) : Int) (2 ^ b.toNat))
def Low (x : Str) : Prop := ∀ c ∈ x.cps.toList, c < 128
theorem put_cps {x : Str} {i c : Nat} (hi : i < x.length) : (putS x (i : Int) (c : Int)).cps.toList = x.cps.toList.set i c := by
  have hl : i < x.cps.toList.length := by rw [Array.length_toList]; exact hi
  have e1 : Txt.slice x none (some (i : Int)) = ⟨((x.cps.toList.drop (0 : Int).toNat).take ((i : Int) - 0).toNat).toArray⟩ := eq_of_beq (slice_closes_toL (by omega) (by omega))
  have e2 : Txt.slice x (some ((i : Int) + 1)) none = ⟨((x.cps.toList.drop ((i : Int) + 1).toNat).take ((x.length : Int) - ((i : Int) + 1)).toNat).toArray⟩ := slice_from_eq (by omega) (by omega) rfl
  unfold putS
  rw [e1, e2, Str.cps_append, Str.cps_append, Array.toList_append, Array.toList_append, List.set_eq_take_append_cons_drop, if_pos hl]
  have t0 : (0 : Int).toNat = 0 := rfl
  have t1 : ((i : Int) - 0).toNat = i := by omega
  have t2 : ((i : Int) + 1).toNat = i + 1 := by omega
  have t3 : ((x.length : Int) - ((i : Int) + 1)).toNat = x.length - (i + 1) := by omega
  have t4 : (x.cps.toList.drop (i + 1)).take (x.length - (i + 1)) = x.cps.toList.drop (i + 1) := by
    refine List.take_of_length_le ?_
    rw [List.length_drop, Array.length_toList]; exact Nat.le_refl _
  rw [t0, t1, t2, t3]
  simp only [List.drop_zero, t4, Int.toNat_natCast, List.append_assoc]
  rfl
theorem put_len {x : Str} {i c : Nat} (hi : i < x.length) : (putS x (i : Int) (c : Int)).length = x.length := by
  show (putS x (i : Int) (c : Int)).cps.size = _
  rw [← Array.length_toList, put_cps hi, List.length_set, Array.length_toList]; rfl
theorem put_low {x : Str} {i c : Nat} (hi : i < x.length) (hx : Low x) (hc : c < 128) : Low (putS x (i : Int) (c : Int)) := by
  intro d hd
  rw [put_cps hi] at hd
  rcases List.mem_or_eq_of_mem_set hd with hd | rfl
  · exact hx d hd
  · exact hc
theorem xor_swap (A B H : Nat) : A ^^^ H = (B ^^^ H) ^^^ (B ^^^ A) := by
  have e : (B ^^^ H) ^^^ (B ^^^ A) = (B ^^^ B) ^^^ (A ^^^ H) := by ac_rfl
  rw [e, Nat.xor_self, Nat.zero_xor]
theorem HL_set : ∀ (l : List Nat) (o i c : Nat), i < l.length → HL o (l.set i c) = HL o l ^^^ rotN (o + i + 1) (l.getD i 0 ^^^ c)
  | [], _, _, _, h => by simp at h
  | d :: r, o, 0, c, _ => by
    show rotN (o + 1) c ^^^ HL (o + 1) r = (rotN (o + 1) d ^^^ HL (o + 1) r) ^^^ rotN (o + 0 + 1) (d ^^^ c)
    rw [Nat.add_zero, rot_xor]
    exact xor_swap _ _ _
  | d :: r, o, i + 1, c, h => by
    show rotN (o + 1) d ^^^ HL (o + 1) (r.set i c) = (rotN (o + 1) d ^^^ HL (o + 1) r) ^^^ rotN (o + (i + 1) + 1) (r.getD i 0 ^^^ c)
    rw [HL_set r (o + 1) i c (by simpa using h), Nat.xor_assoc]
    have e : o + 1 + i + 1 = o + (i + 1) + 1 := by omega
    rw [e]
theorem put_hh {x : Str} {i c : Nat} (hi : i < x.length) : hh (putS x (i : Int) (c : Int)) = hh x ^^^ rotN (i + 1) (x.cps.getD i 0 ^^^ c) := by
  unfold hh
  rw [put_cps hi, HL_set _ 0 i c (by rw [Array.length_toList]; exact hi)]
  have e : x.cps.toList.getD i 0 = x.cps.getD i 0 := by
    rw [List.getD_eq_getElem?_getD, Array.getElem?_toList]; simp [Array.getD_eq_getD_getElem?]
  rw [e, Nat.zero_add]
theorem low_at {x : Str} {i : Nat} (hx : Low x) (hi : i < x.length) : x.cps.getD i 0 < 128 := by
  have : i < x.cps.size := hi
  have e : x.cps.getD i 0 = x.cps[i] := by simp [Array.getD, this]
  rw [e]
  exact hx _ (by simp)
theorem code_turn {x : Str} {i b : Nat} (hi : i < x.length) : Builtin.bitXor (((Txt.item x (i : Int)).cps.getD 0 0 : Nat) : Int) (2 ^ (b : Int).toNat) = ((x.cps.getD i 0 ^^^ 2 ^ b : Nat) : Int) := by
  rw [item_code hi, Int.toNat_natCast, ← kbt_cast, bitXor_nat]
theorem turn_lt {d b : Nat} (hd : d < 128) (hb : b < 7) : d ^^^ 2 ^ b < 128 := by
  have h : 2 ^ b < 128 := by
    have : (2 : Nat) ^ b ≤ 2 ^ 6 := Nat.pow_le_pow_right (by decide) (by omega)
    have e : (2 : Nat) ^ 6 = 64 := rfl
    omega
  exact Nat.xor_lt_two_pow (n := 7) hd h
structure TurnOk (x y : Str) (i b : Nat) : Prop where
  len : y.length = x.length
  low : Low y
  hh : hh y = hh x ^^^ 2 ^ ((i + 1 + b) % 15)
theorem turn_ok {x : Str} {i b : Nat} (hx : x.length ≤ 22) (hl : Low x) (hi : i < x.length) (hb : b < 7) : TurnOk x (turnS x (i : Int) (b : Int)) i b := by
  unfold turnS
  rw [code_turn hi]
  have hd := low_at hl hi
  refine ⟨put_len hi, put_low hi hl (turn_lt hd hb), ?_⟩
  rw [put_hh hi, ← Nat.xor_assoc, Nat.xor_self, Nat.zero_xor, rot_one _ (by omega) b hb]
theorem turn_code {x : Str} {i b : Int} (hl : Low x) (h0 : 0 ≤ i) (hi : i < x.length) (b0 : 0 ≤ b) (hb : b < 7) :
    0 ≤ Builtin.bitXor (((Txt.item x i).cps.getD 0 0 : Nat) : Int) (2 ^ b.toNat) ∧ Builtin.bitXor (((Txt.item x i).cps.getD 0 0 : Nat) : Int) (2 ^ b.toNat) < 128 := by
  obtain ⟨i, rfl⟩ := Int.eq_ofNat_of_zero_le h0
  obtain ⟨b, rfl⟩ := Int.eq_ofNat_of_zero_le b0
  have := turn_lt (low_at hl (show i < x.length by omega)) (show b < 7 by omega)
  have e := code_turn (x := x) (i := i) (b := b) (by omega)
  rw [show (((b : Nat) : Int)).toNat = ((b : Int)).toNat from rfl] at *
  rw [e]
  omega
theorem turn_okI {x : Str} {i b : Int} (hx : x.length ≤ 22) (hl : Low x) (h0 : 0 ≤ i) (hi : i < x.length) (b0 : 0 ≤ b) (hb : b < 7) : TurnOk x (turnS x i b) i.toNat b.toNat := by
  obtain ⟨i, rfl⟩ := Int.eq_ofNat_of_zero_le h0
  obtain ⟨b, rfl⟩ := Int.eq_ofNat_of_zero_le b0
  exact turn_ok hx hl (by omega) (by omega)
theorem hv_turn {x y : Str} {i b : Nat} (h : TurnOk x y i b) : hv y = hv x ^^^ 2 ^ ((i + 1 + b) % 15) := by
  rw [hv_eq, hv_eq, h.len, h.hh]
  ac_rfl
theorem ring_nat {i b : Int} (h0 : 0 ≤ i) (b0 : 0 ≤ b) : ((i + 1 + b).fmod 15) = (((i.toNat + 1 + b.toNat) % 15 : Nat) : Int) := by
  rw [Int.fmod_eq_emod_of_nonneg _ (by decide)]; omega
theorem pair_xor {x y : Str} {i b : Int} (hT : TurnOk x y i.toNat b.toNat) (h0 : 0 ≤ i) (b0 : 0 ≤ b) : Builtin.bitXor (hv x : Int) (hv y : Int) = 2 ^ ((i + 1 + b).fmod 15).toNat := by
  rw [bitXor_nat, hv_turn hT, ring_nat h0 b0, Int.toNat_natCast, ← kbt_cast, ← Nat.xor_assoc, Nat.xor_self, Nat.zero_xor]
theorem pair_no {x y : Str} {i b : Int} (ha : Builtin.bitXor (hv x : Int) (hv y : Int) ≠ 2 ^ ((i + 1 + b).fmod 15).toNat) (hT : TurnOk x y i.toNat b.toNat) (h0 : 0 ≤ i) (b0 : 0 ≤ b) : False := ha (pair_xor hT h0 b0)
theorem xor_eq_self {a b : Nat} : a ^^^ b = a ↔ b = 0 := by
  constructor
  · intro h
    have h2 : a ^^^ (a ^^^ b) = a ^^^ a := by rw [h]
    rw [← Nat.xor_assoc, Nat.xor_self, Nat.zero_xor] at h2
    exact h2
  · intro h
    rw [h, Nat.xor_zero]
theorem pow_xor : ∀ r, r < 15 → ∀ j, j < 15 → (2 ^ r ^^^ 2 ^ j = 0 ↔ j = r) := by decide +kernel
theorem hexS_beq {x z : Str} (hx : x.length ≤ 22) (hl : Low x) (hz : z.length ≤ 22) (hm : Low z) : (hexS (hv z) == hexS (hv x)) = decide (hv z = hv x) := by
  by_cases h : hv z = hv x
  · rw [h, decide_eq_true rfl]; exact beq_self_eq_true _
  · rw [decide_eq_false h]
    exact beq_eq_false_iff_ne.mpr fun q => h (hexS_inj (hv_range hz hm).2 (hv_range hx hl).2 q)
theorem pair_law {x y z : Str} {i b j f : Int} (hx : x.length ≤ 22) (hl : Low x) (hz : z.length ≤ 22) (hm : Low z) (h1 : TurnOk x y i.toNat b.toNat) (h2 : TurnOk y z j.toNat f.toNat) (i0 : 0 ≤ i) (b0 : 0 ≤ b) (j0 : 0 ≤ j) (f0 : 0 ≤ f) :
    ((hexS (hv z) == hexS (hv x)) == ((j + 1 + f).fmod 15 == (i + 1 + b).fmod 15)) = true := by
  rw [hexS_beq hx hl hz hm, hv_turn h2, hv_turn h1, Nat.xor_assoc, ring_nat i0 b0, ring_nat j0 f0]
  have hr : (i.toNat + 1 + b.toNat) % 15 < 15 := Nat.mod_lt _ (by decide)
  have hj : (j.toNat + 1 + f.toNat) % 15 < 15 := Nat.mod_lt _ (by decide)
  generalize (i.toNat + 1 + b.toNat) % 15 = r at *
  generalize (j.toNat + 1 + f.toNat) % 15 = q at *
  have e := pow_xor r hr q hj
  by_cases h : q = r
  · rw [decide_eq_true (xor_eq_self.mpr (e.mpr h)), h]
    simp
  · rw [decide_eq_false (fun p => h (e.mp (xor_eq_self.mp p)))]
    have : ((q : Int) == (r : Int)) = false := beq_eq_false_iff_ne.mpr (by omega)
    rw [this]; rfl
end Mine
end
section
open PySem PySem.W PyProof.Rows
set_option maxRecDepth 100000
namespace Mine
structure PutOk (x y : Str) (i c : Nat) : Prop where
  len : y.length = x.length
  low : Low y
  cps : y.cps.toList = x.cps.toList.set i c
  hh : hh y = hh x ^^^ rotN (i + 1) (x.cps.getD i 0 ^^^ c)
def InX (i : Int) (x : Str) : Prop := 0 ≤ i ∧ i < x.length
theorem inx1 {x : Str} (n : Int) (h : (1 : Nat) ≤ x.length) : InX (n.fmod (x.length : Int)) x := ⟨fmod_lo _ (by omega), fmod_hi _ (by omega)⟩
theorem inx2 {x : Str} (n : Int) (h : (15 : Int) < (x.length : Int)) : InX (n.fmod ((x.length : Int) - 15)) x := ⟨fmod_lo _ (by omega), by have := fmod_hi n (n := (x.length : Int) - 15) (by omega); omega⟩
theorem inx3 {x : Str} (n : Int) (h : (15 : Int) < (x.length : Int)) : InX (n.fmod ((x.length : Int) - 15) + 15) x := ⟨by have := fmod_lo n (n := (x.length : Int) - 15) (by omega); omega, by have := fmod_hi n (n := (x.length : Int) - 15) (by omega); omega⟩
theorem inx4 {x y : Str} {i : Int} (h : y.length = x.length) (k : InX i x) : InX i y := ⟨k.1, by rw [h]; exact k.2⟩
theorem code_lo {x : Str} {j : Int} : 0 ≤ (((Txt.item x j).cps.getD 0 0 : Nat) : Int) := by omega
theorem code_hi {x : Str} {j : Int} (hl : Low x) (hj : InX j x) : (((Txt.item x j).cps.getD 0 0 : Nat) : Int) < 128 := by
  obtain ⟨h0, hj⟩ := hj
  obtain ⟨j, rfl⟩ := Int.eq_ofNat_of_zero_le h0
  have := low_at hl (show j < x.length by omega)
  rw [← item_code (show j < x.length by omega)] at this
  omega
theorem rot_again : ∀ k, k < 8 → ∀ c, c < 128 → rotN (k + 15) c = rotN k c := by decide +kernel
theorem swap_hh {x y z : Str} {i j : Nat} (hi : i < x.length) (hj : j < x.length) (h1 : PutOk x y i (x.cps.getD j 0)) (h2 : PutOk y z j (x.cps.getD i 0)) :
    hh z = hh x ^^^ (rotN (i + 1) (x.cps.getD i 0 ^^^ x.cps.getD j 0) ^^^ rotN (j + 1) (x.cps.getD i 0 ^^^ x.cps.getD j 0)) := by
  have e : y.cps.getD j 0 = x.cps.getD j 0 := by
    have g : ∀ (u : Str), u.cps.getD j 0 = u.cps.toList.getD j 0 := fun u => by
      rw [List.getD_eq_getElem?_getD, Array.getElem?_toList]; simp [Array.getD_eq_getD_getElem?]
    rw [g y, h1.cps]
    have hil : i < x.cps.toList.length := by rw [Array.length_toList]; exact hi
    by_cases q : i = j
    · subst q
      rw [List.getD_eq_getElem?_getD, List.getElem?_set_self hil]; rfl
    · rw [List.getD_eq_getElem?_getD, List.getElem?_set_ne q, ← List.getD_eq_getElem?_getD, ← g x]
  rw [h2.hh, h1.hh, e, Nat.xor_comm (x.cps.getD j 0) (x.cps.getD i 0), Nat.xor_assoc]
theorem rot_same {i j c : Nat} (hi : i < 22) (hj : j < 22) (h : ((i : Int) - (j : Int)).fmod 15 = 0) (hc : c < 128) : rotN (i + 1) c = rotN (j + 1) c := by
  rw [Int.fmod_eq_emod_of_nonneg _ (by decide)] at h
  have q : i = j ∨ i = j + 15 ∨ j = i + 15 := by omega
  rcases q with rfl | rfl | rfl
  · rfl
  · have := rot_again (j + 1) (by omega) c hc
    rw [← this]
  · have := rot_again (i + 1) (by omega) c hc
    rw [← this]
theorem exch_no {x y z : Str} {i j : Int} (ha : (i - j).fmod 15 = 0) (hn : ¬ toRings (hh z) = toRings (hh x)) (h1 : PutOk x y i.toNat (((Txt.item x j).cps.getD 0 0 : Nat) : Int).toNat) (h2 : PutOk y z j.toNat (((Txt.item x i).cps.getD 0 0 : Nat) : Int).toNat)
    (hi : InX i x) (hj : InX j x) (hx : x.length ≤ 22) (hl : Low x) : False := by
  obtain ⟨i0, hi⟩ := hi
  obtain ⟨j0, hj⟩ := hj
  obtain ⟨i, rfl⟩ := Int.eq_ofNat_of_zero_le i0
  obtain ⟨j, rfl⟩ := Int.eq_ofNat_of_zero_le j0
  have hi' : i < x.length := by omega
  have hj' : j < x.length := by omega
  rw [item_code hj'] at h1
  rw [item_code hi'] at h2
  have e := swap_hh hi' hj' h1 h2
  have hc : x.cps.getD i 0 ^^^ x.cps.getD j 0 < 128 := Nat.xor_lt_two_pow (n := 7) (low_at hl hi') (low_at hl hj')
  rw [rot_same (i := i) (j := j) (by omega) (by omega) ha hc, Nat.xor_self, Nat.xor_zero] at e
  exact hn (by rw [e])
theorem exch_law {x y z : Str} (hx : x.length ≤ 22) (hl : Low x) (hy : z.length = y.length) (hz : y.length = x.length) (hz2 : z.length ≤ 22) (hm : Low z) :
    ((hexS (hv z) == hexS (hv x)) == decide (toRings (hh z) = toRings (hh x))) = true := by
  rw [hexS_beq hx hl hz2 hm, beq_iff_eq]
  have e : hv z = hv x ↔ toRings (hh z) = toRings (hh x) := by
    rw [hv_eq, hv_eq, hy, hz]
    constructor
    · intro h
      have can : ∀ K a : Nat, K ^^^ (K ^^^ a) = a := fun K a => by rw [← Nat.xor_assoc, Nat.xor_self, Nat.zero_xor]
      have h2 := congrArg (fun q => (52811 ^^^ x.length) ^^^ q) h
      rw [can, can] at h2
      rw [h2]
    · intro h
      rw [toRings_inj (hh_lt hz2 hm) (hh_lt hx hl) h]
  exact decide_eq_decide.mpr e
end Mine
end
section
open PySem PySem.W PyProof.Rows
set_option maxRecDepth 100000
namespace Mine
theorem lock_len : (Str.ofString "sheet's own lock").length = 16 := by decide +kernel
theorem lock_low : ∀ c ∈ (Str.ofString "sheet's own lock").cps.toList, c < 128 := by decide +kernel
theorem join_low {x y : Str} (hx : Low x) (hy : Low y) : Low (x ++ y) := by
  intro c hc
  rw [Str.cps_append, Array.toList_append] at hc
  rcases List.mem_append.mp hc with hc | hc
  · exact hx c hc
  · exact hy c hc
theorem tail_len {x : Str} (hA : x.length ≤ 15) : (Txt.slice (x ++ Str.ofString "sheet's own lock") none (some 22)).length ≤ 22 := by
  rcases slice_ns_cases (x ++ Str.ofString "sheet's own lock") 22 (by decide) with h | h <;> omega
theorem tail_pos {x : Str} : 1 ≤ (Txt.slice (x ++ Str.ofString "sheet's own lock") none (some 22)).length := by
  have e : (x ++ Str.ofString "sheet's own lock").length = x.length + 16 := by rw [Str.length_append, lock_len]
  rcases slice_ns_cases (x ++ Str.ofString "sheet's own lock") 22 (by decide) with h | h <;> omega
theorem cut_low {x : Str} {a b : Option Int} (hx : Low x) : Low (Txt.slice x a b) := by
  unfold Txt.slice
  intro c hc
  split at hc
  · exact hx c hc
  · have hc' : ∃ k, k ∈ Builtin.Str.strSliceIndices a b 1 x.length ∧ x.cps[k]? = some c := by simpa using hc
    obtain ⟨k, _, hk⟩ := hc'
    exact hx c (by
      have := Array.mem_of_getElem? hk
      simpa using this)
theorem tail_low {x : Str} (hx : Low x) : Low (Txt.slice (x ++ Str.ofString "sheet's own lock") none (some 22)) := cut_low (join_low hx lock_low)
theorem len_pos {x : Str} (h : (x != Str.ofString "") = true) : 1 ≤ x.length := by
  have e : Str.ofString "" = Str.empty := by decide +kernel
  by_cases q : x.length = 0
  · have : x = Str.ofString "" := by
      rw [e]
      exact Str.ext' (Array.eq_empty_of_size_eq_zero q)
    rw [this] at h
    simp at h
  · omega
end Mine
end
section
open PySem PySem.W PyProof.Rows PySem.Spec PySem.Calls
set_option maxRecDepth 100000
set_option maxHeartbeats 4000000
namespace Mine
theorem typeCall_enum2 (a b : Value) : checkTypeCall "enumerate" ⟨[a, b], []⟩ = pure () := by kernel_rfl
theorem newCall_enum2 (a b : Value) : checkBuiltinCall "enumerate.__new__" ⟨[.type "enumerate", a, b], []⟩ = pure () := by kernel_rfl
theorem initOk3 (o a b : Value) : argsOk "object.__init__" ⟨[o, a, b], []⟩ := by unfold argsOk; kernel_rfl
theorem meets_enum_new1 (x : Str) (t u : Tok) :
    Meets (Builtin.«enumerate.__new__» ⟨[.type "enumerate", .str x t, .int 1 u], []⟩) (fun _ R s =>
      R (.ok (.ret (.ref (s.heap.push { cls := .type (strIterType x), data := .fields #[.str x t, .int 0 0] }).objs.size)))
        { s with heap := (s.heap.push { cls := .type (strIterType x), data := .fields #[.str x t, .int 0 0] }).push { cls := .type "enumerate", data := .fields #[.none, .bool false, .ref s.heap.objs.size, rawInt 1, .none, .none] } }) :=
  .of_wp fun prog w A R s h => by
    obtain ⟨hp, g, d, tk, os⟩ := s
    have hsub := sub_enumerate
    wp_walk
    refine wpAny_stack_any fun st => wpAny_pure ?_
    split
    · rename_i c _ _ _ _ _
      cases (c == Value.type "enumerate")
      · wp_walk using wpAny_pyIter_strU
        exact ⟨_, rfl, h⟩
      · wp_walk using wpAny_pyIter_strU
        exact ⟨_, rfl, h⟩
    · wp_walk using wpAny_pyIter_strU
      exact ⟨_, rfl, h⟩
end Mine
end
section
open PySem PySem.W PyProof.Rows PySem.Spec PySem.Calls
set_option maxRecDepth 100000
set_option maxHeartbeats 4000000
namespace Mine
section
variable {prog : Program} {w : World} {A : Around} {E : Value → Shared → Prop} {s : Shared}
theorem call_enum_str1 {x : Str} {t u : Tok} {Q : Value → Shared → Prop}
    (h : ∀ h', IsEnum h' (s.heap.objs.size + 1) s.heap.objs.size 1 .none → h'.IsStrIter s.heap.objs.size (strIterType x) x t 0 → h'.objs.size = s.heap.objs.size + 2 →
      (∀ b o, s.heap.get? b = some o → h'.get? b = some o) → Q (.ref (s.heap.objs.size + 1)) { s with heap := h' }) :
    wpAny (model prog w) A (call (.type "enumerate") [.str x t, .int 1 u]) Q E s := by
  refine callType_new F.called_enumerate (by decide) (typeCall_enum2 _ _) (newCall_enum2 _ _) (fun obj => initOk3 obj _ _) F.entry_enumerate_new
    (meets_enum_new1 x t u) ?_
  have hz : (s.heap.push { cls := .type (strIterType x), data := .fields #[.str x t, .int 0 0] }).objs.size = s.heap.objs.size + 1 := Heap.size_push ..
  show _ ∧ _
  rw [hz]
  have he : IsEnum ((s.heap.push { cls := .type (strIterType x), data := .fields #[.str x t, .int 0 0] }).push
      { cls := .type "enumerate", data := .fields #[.none, .bool false, .ref s.heap.objs.size, rawInt 1, .none, .none] }) (s.heap.objs.size + 1) s.heap.objs.size 1 .none := by
    have := Heap.get?_push_size (s.heap.push { cls := .type (strIterType x), data := .fields #[.str x t, .int 0 0] })
      (o := { cls := .type "enumerate", data := .fields #[.none, .bool false, .ref s.heap.objs.size, rawInt 1, .none, .none] }) rfl
    rw [hz] at this; exact this
  refine ⟨⟨_, he, rfl⟩, h _ he ⟨_, Heap.get?_push_of_some _ (Heap.get?_push_size _ rfl), rfl, rfl⟩ (by rw [Heap.size_push, hz]) fun b o y => Heap.get?_push_of_some _ (Heap.get?_push_of_some _ y)⟩
end

theorem draws_shift {prog : Program} {w : World} {A : Around} {it : Addr} {fp : List Addr} {n : Nat} {P : Nat → Value → Prop} {St : Nat → Heap → Prop} (D : Draws prog w A it fp n P St) :
    Draws prog w A it fp (n + 1) (fun i v => ∃ j, i = j + 1 ∧ P j v) (fun i h => ∃ j, i = j + 1 ∧ St j h) where
  live := fun i h ⟨j, _, st⟩ => D.live j h st
  frame := fun i h h' ⟨j, e, st⟩ hk => ⟨j, e, D.frame j h h' st hk⟩
  item := fun i s Q E hi ⟨j, e, st⟩ hQ => by
    subst e
    exact D.item j s Q E (by omega) st fun x h' tk hp hst hs => hQ x h' tk ⟨j, rfl, hp⟩ ⟨j + 1, rfl, hst⟩ hs
  done := fun s Q E ⟨j, e, st⟩ hE => by
    have : n = j := by omega
    subst this
    exact D.done s Q E st hE
theorem walksT_back {prog : Program} {w : World} {A : Around} {I : Addr} {fp wr : List Addr} {n : Nat} {Pt : Nat → Array Value → Prop} {St : Nat → Heap → Prop} {Mid : Nat → Addr → Heap → Prop} (W : WalksT prog w A I fp wr (n + 1) Pt St Mid) :
    WalksT prog w A I fp wr n (fun i => Pt (i + 1)) (fun i => St (i + 1)) (fun i => Mid (i + 1)) where
  sub := W.sub
  frame := fun i => W.frame (i + 1)
  item := fun i s Q E hi st hQ => W.item (i + 1) s Q E (by omega) st hQ
  go := fun elts k pos i T s Q E hm hQ => W.go elts k pos (i + 1) T s Q E hm hQ
  apart := fun i => W.apart (i + 1)
  done := W.done
  self := fun i => W.self (i + 1)
theorem draws_str {prog : Program} {w : World} {A : Around} (hh : A.handled = none) (it : Addr) (x : Str) (t : Tok) :
    Draws prog w A it [it] x.cps.size (fun i v => ∃ c u, x.cps[i]? = some c ∧ v = .str ⟨#[c]⟩ u) (fun i h => h.IsStrIter it (strIterType x) x t i) := by
  unfold strIterType
  cases ha : x.cps.all (· < 128)
  · simpa using Draws.strWide hh it x t
  · simpa using Draws.strAscii hh it x t
theorem walks_enum1 {prog : Program} {w : World} {A : Around} (hh : A.handled = none) (e it : Addr) (hei : e ≠ it) (x : Str) (t : Tok) :
    WalksT prog w A e [e, it] [e, it] x.cps.size
      (fun i vals => ∃ k v, (∃ c u, x.cps[i]? = some c ∧ v = .str ⟨#[c]⟩ u) ∧ vals = #[.int ((i : Int) + 1) k, v])
      (fun i h => (∃ old, IsEnum h e it ((i : Int) + 1) old) ∧ h.IsStrIter it (strIterType x) x t i)
      (fun i T h => (∃ v, IsEnumOut h e it ((i : Int) + 1 + 1) v T) ∧ h.IsStrIter it (strIterType x) x t (i + 1) ∧ T ≠ e ∧ T ≠ it) := by
  have W := walksT_back (WalksT.enumerateD (draws_shift (draws_str (prog := prog) (w := w) (A := A.in1) hh it x t)) e hei (by simp [hei]) (by simp))
  have e1 : ∀ i : Nat, ((i + 1 : Nat) : Int) = (i : Int) + 1 := fun i => by omega
  constructor
  · exact W.sub
  · intro i h h' hst hk
    obtain ⟨⟨old, he⟩, hs⟩ := hst
    obtain ⟨⟨old', he'⟩, j, hj, hs'⟩ := W.frame i h h' ⟨⟨old, by rw [e1]; exact he⟩, i, rfl, hs⟩ hk
    have : i = j := by omega
    subst this
    exact ⟨⟨old', by rw [← e1]; exact he'⟩, hs'⟩
  · intro i s Q E hi hst hQ
    obtain ⟨⟨old, he⟩, hs⟩ := hst
    refine W.item i s Q E hi ⟨⟨old, by rw [e1]; exact he⟩, i, rfl, hs⟩ fun T vals h' tk hP hsz hT hM hk => ?_
    obtain ⟨k, v, ⟨j, hj, c, u, hc, hv⟩, hvals⟩ := hP
    obtain ⟨⟨v', ho⟩, ⟨j', hj', hs'⟩, hT1, hT2⟩ := hM
    have e2 : i = j := by omega
    have e3 : i + 1 = j' := by omega
    subst e2 e3
    refine hQ T vals h' tk ⟨k, v, ⟨c, u, hc, hv⟩, by rw [hvals, e1]⟩ hsz hT ⟨⟨v', by rw [e1] at ho; exact ho⟩, hs', hT1, hT2⟩ hk
  · intro elts k pos i T s Q E hm hQ
    obtain ⟨⟨v, ho⟩, hs, hT1, hT2⟩ := hm
    refine W.go elts k pos i T s Q E ⟨⟨v, by rw [e1]; exact ho⟩, ⟨i + 1, rfl, hs⟩, hT1, hT2⟩ fun h' hst hk => ?_
    obtain ⟨⟨old', he'⟩, j, hj, hs'⟩ := hst
    have : i + 1 = j := by omega
    subst this
    exact hQ h' ⟨⟨old', by rw [← e1]; exact he'⟩, hs'⟩ hk
  · intro i T h hm
    obtain ⟨⟨v, ho⟩, hs, hT1, hT2⟩ := hm
    exact W.apart i T h ⟨⟨v, by rw [e1]; exact ho⟩, ⟨i + 1, rfl, hs⟩, hT1, hT2⟩
  · intro s Q E hst hQ
    obtain ⟨⟨old, he⟩, hs⟩ := hst
    exact W.done s Q E ⟨⟨old, by rw [e1]; exact he⟩, x.cps.size, rfl, hs⟩ hQ
  · intro i s Q E hst hQ
    obtain ⟨⟨old, he⟩, hs⟩ := hst
    exact W.self i s Q E ⟨⟨old, by rw [e1]; exact he⟩, i, rfl, hs⟩ hQ
end Mine
end
section
open PySem PySem.W PyProof.Rows PySem.Spec PySem.Calls
set_option maxRecDepth 100000
set_option maxHeartbeats 4000000
namespace Mine
section
variable {prog : Program} {w : World} {A : Around} {E : Value → Shared → Prop} {s : Shared} {env : Env} {h₀ : Heap} {xi xc : Str} {body : List Stmt} {Q : Flow → Shared → Prop}
theorem kst_enum {σ : Type} {xt : Str} {tx u0 : Tok} {m₀ : Str → Option Value} (Led : σ → List (Addr × Obj)) (ps : σ → List (Str × Value)) (Facts : σ → Prop) (stored : List Str) (P : List Int → σ → Prop) (c₀ : σ)
    (hh : A.handled = none) (F : Fr h₀ env.locals s.heap m₀) (N : News h₀ env.locals s.heap (Led c₀)) (hf : Facts c₀) (hk : ∀ p ∈ ps c₀, m₀ p.1 = some p.2) (hp : P [] c₀)
    (turn : ∀ (c : σ) (pre post : List Int) (n : Nat) t k (u : Str → Option Value) h tk own, KStt.codes xt = pre ++ (n : Int) :: post → OwnOff own ((Led c₀).map (·.1)) → Facts c → P pre c →
      Fr h₀ env.locals h (fun y => if y = xc then some (.str ⟨#[n]⟩ t) else if y = xi then some (.int ((pre.length : Int) + 1) k) else kstB (fun z => if stored.contains z then u z else m₀ z) (ps c) y) → News h₀ env.locals h (Led c ++ own) →
      wpAny (model prog w) A (execs body env) (InvPostN h₀ env.locals (KstS Led ps Facts xi stored m₀ P (pre ++ [(n : Int)])) own ((Led c₀).map (·.1)) { s with heap := h, toks := tk } Q) E { s with heap := h, toks := tk })
    (done : ∀ (c : σ) (u : Str → Option Value) h tk, Facts c → P (KStt.codes xt) c → Fr h₀ env.locals h (fun y => if y = xi then u y else kstB (fun z => if stored.contains z then u z else m₀ z) (ps c) y) → News h₀ env.locals h (Led c) → Q .next { s with heap := h, toks := tk }) :
    wpAny (model prog w) A (call (.type "enumerate") [.str xt tx, .int 1 u0]) (fun xv s₁ => wpAny (model prog w) A (pyIter xv) (fun it s₂ => PairAt3 prog w A h₀ env xi xc body Q E it s₂) E s₁) E s := by
  refine call_enum_str1 fun h' hE hI hsz hkeep => ?_
  refine wpAny_pyIter_enum hE ?_
  have F' := Fr.keeps F hkeep
  have N' := News.grown N hkeep
  have lt : ∀ p ∈ Led c₀, p.1 < s.heap.objs.size := fun p hp => Heap.lt_size (N p hp).1
  have hL : env.locals < s.heap.objs.size := F.ns.lt
  have hnone : ∀ b, s.heap.objs.size ≤ b → h₀.get? b = none := fun b hb => by
    cases q : h₀.get? b with
    | none => rfl
    | some o => exact absurd (Heap.lt_size (F.keep b o q)) (Nat.not_lt.mpr hb)
  refine ⟨s.heap.objs.size + 1, [s.heap.objs.size + 1, s.heap.objs.size], [s.heap.objs.size + 1, s.heap.objs.size], xt.cps.size, _, _, _,
    (fun i v0 v1 => ∃ k c u, v0 = .int ((i : Int) + 1) k ∧ xt.cps[i]? = some c ∧ v1 = .str ⟨#[c]⟩ u), m₀, Led c₀,
    (fun i m nx => KstS Led ps Facts xi stored m₀ P ((KStt.codes xt).take i) m nx), rfl, walks_enum1 hh (s.heap.objs.size + 1) s.heap.objs.size (Nat.succ_ne_self _) xt tx, ?_, ?_, ?_, ?_, ?_, F', N', ?_, ?_, ?_⟩
  · rintro i vals ⟨k, v, ⟨c, u, hc, hv⟩, rfl⟩
    exact ⟨_, _, rfl, k, c, u, rfl, hc, hv⟩
  · intro hm
    have hb' : env.locals = s.heap.objs.size + 1 ∨ env.locals = s.heap.objs.size := by simpa using hm
    rcases hb' with e | e
    · exact absurd hL (by rw [e]; exact Nat.not_lt.mpr (Nat.le_succ _))
    · exact absurd hL (by rw [e]; exact Nat.lt_irrefl _)
  · intro b hb
    have hb' : b = s.heap.objs.size + 1 ∨ b = s.heap.objs.size := by simpa using hb
    rcases hb' with rfl | rfl
    · exact hnone _ (Nat.le_succ _)
    · exact hnone _ (Nat.le_refl _)
  · intro p hp hI'
    have hb' : p.1 = s.heap.objs.size + 1 ∨ p.1 = s.heap.objs.size := by simpa using hI'
    have hlp := lt p hp
    rcases hb' with e | e
    · exact absurd hlp (by rw [e]; exact Nat.not_lt.mpr (Nat.le_succ _))
    · exact absurd hlp (by rw [e]; exact Nat.lt_irrefl _)
  · exact ⟨⟨.none, hE⟩, hI⟩
  · exact ⟨c₀, rfl, hf, hk, fun _ _ _ _ => rfl, by simpa using hp⟩
  · rintro i v0 v1 m₁ nx s₁ own ⟨h, tk, rfl⟩ hi ⟨k, n, t, rfl, hn, rfl⟩ ⟨c, rfl, hf', h1, h2, hp'⟩ ha hown F₁ N₁
    have hn' := KStt.code_at hn
    have hs : (KStt.codes xt).take (i + 1) = (KStt.codes xt).take i ++ [(n : Int)] := by simp [List.take_add_one, hn']
    have e : KStt.codes xt = (KStt.codes xt).take i ++ (n : Int) :: (KStt.codes xt).drop (i + 1) := by
      have ht := List.take_append_drop (i + 1) (KStt.codes xt)
      rw [hs, List.append_assoc] at ht
      exact ht.symm
    have hlen : ((KStt.codes xt).take i).length = i := by
      rw [List.length_take, KStt.codes_length]
      have : i < xt.length := hi
      omega
    have hoff : OwnOff own ((Led c₀).map (·.1)) := by
      intro p hp b hb
      obtain ⟨q, hq, rfl⟩ := List.mem_map.mp hb
      have hlq := lt q hq
      have hb' : p.1 = s.heap.objs.size + 1 ∨ p.1 = s.heap.objs.size := by simpa using hown p hp
      rcases hb' with e' | e'
      · rw [e']; exact fun q' => absurd hlq (by rw [← q']; exact Nat.not_lt.mpr (Nat.le_succ _))
      · rw [e']; exact fun q' => absurd hlq (by rw [← q']; exact Nat.lt_irrefl _)
    have F₂ : Fr h₀ env.locals h (fun y => if y = xc then some (.str ⟨#[n]⟩ t) else if y = xi then some (.int ((((KStt.codes xt).take i).length : Int) + 1) k) else kstB (fun z => if stored.contains z then m₁ z else m₀ z) (ps c) y) := by
      have em : (fun y => if y = xc then some (.str ⟨#[n]⟩ t) else if y = xi then some (.int ((((KStt.codes xt).take i).length : Int) + 1) k) else kstB (fun z => if stored.contains z then m₁ z else m₀ z) (ps c) y) = fun y => if y = xc then some (Value.str ⟨#[n]⟩ t) else if y = xi then some (.int ((i : Int) + 1) k) else m₁ y := by
        funext y
        rw [hlen]
        by_cases hy : y = xc
        · rw [if_pos hy, if_pos hy]
        · rw [if_neg hy, if_neg hy]
          by_cases hy2 : y = xi
          · rw [if_pos hy2, if_pos hy2]
          · rw [if_neg hy2, if_neg hy2]
            exact kst_off h1 h2 hy2
      rw [em]
      exact F₁
    have N₂ : News h₀ env.locals h (Led c ++ own) := fun p hp => N₁ p ((List.mem_append.mp hp).elim (fun q => List.mem_append.mpr (.inr q)) fun q => List.mem_append.mpr (.inl q))
    have T := turn c _ _ n t k m₁ h tk own e hoff hf' hp' F₂ N₂
    dsimp only
    rw [hs]
    refine wpAny_mono T (fun f s₂ p => ?_) fun _ _ x => x
    have fin : InvEndN h₀ env.locals (KstS Led ps Facts xi stored m₀ P ((KStt.codes xt).take i ++ [(n : Int)])) own ((Led c₀).map (·.1)) { s with heap := h, toks := tk } s₂ →
        LoopStep2 h₀ env.locals own (Led c) (KstS Led ps Facts xi stored m₀ P ((KStt.codes xt).take i ++ [(n : Int)])) { s with heap := h, toks := tk } .next s₂ := by
      rintro ⟨h', tk', m', news', nx', e', F', N', hn', ho', ha', hS⟩
      exact ⟨rfl, h', tk', m', nx', e', F', fun p hp => N' p ((List.mem_append.mp hp).elim (ho' p) (hn' p)), ha'.trans ha.symm, hS⟩
    cases f with
    | ret v => exact p
    | brk => exact p
    | next => exact fin p
    | cont => exact fin p
  · rintro h' tk m' nx F₁ N₁ ha ⟨c, rfl, hf', h1, h2, hp'⟩
    have hl : xt.cps.size = (KStt.codes xt).length := (KStt.codes_length xt).symm
    rw [hl, List.take_length] at hp'
    exact done c m' h' tk hf' hp' (kst_frOut h1 h2 F₁) N₁
end
end Mine
end
section
open PySem PySem.W PyProof.Rows PySem.Spec PySem.Calls
set_option maxRecDepth 100000
set_option maxHeartbeats 4000000
namespace Mine
section
variable {prog : Program} {w : World} {A : Around} {E : Value → Shared → Prop} {s : Shared} {env : Env} {h₀ : Heap} {xi xc : Str} {body : List Stmt} {Q : Flow → Shared → Prop}
theorem For_pairF {pk pv pt pos : Pos} {x1 : Nat} {iter : Expr} {m : Str → Option Value} (_F : Fr h₀ env.locals s.heap m) (hh : A.handled = none)
    (hxi : env.kindOf xi = some .local) (hxc : env.kindOf xc = some .local)
    (hp : (env.scope.kind == .class || (env.scope.kind == .module && env.locals != env.globals)) = false)
    (h : wpAny (model prog w) A (eval iter env) (fun xv s₁ => wpAny (model prog w) A (pyIter xv) (fun it s₂ => PairAt3 prog w A h₀ env xi xc body Q E it s₂) E s₁) E s)
    (hs : ∀ x, foldedSetIterable iter env x = pure x := by intro _; rfl)
    (hE : PassesOwn (model prog w) A env E := by passes_own) :
    wpAny (model prog w) A (exec (.For (.Tuple [.Name xi pk, .Name xc pv] x1 pt) iter body [] pos) env) Q E s := For_pair3 h₀ hh hxi hxc hp h hs hE

theorem enum_int1 {xt : Str} {tx u0 : Tok} {m₀ : Str → Option Value} {news : List (Addr × Obj)} {y : Str} {a₀ : Int} {t₀ : Tok} (stored : List Str) (P : List Int → Int → Prop) (B M : Nat)
    (hh : A.handled = none) (F : Fr h₀ env.locals s.heap m₀) (N : News h₀ env.locals s.heap news) (hy : m₀ y = some (.int a₀ t₀)) (hB : ∀ c ∈ xt.cps.toList, c < B) (hM : xt.length ≤ M) (hp : P [] a₀)
    (turn : ∀ (a : Int) (ta : Tok) (pre : List Int) (n : Nat) (t k : Tok) (u : Str → Option Value) h tk own, n < B → pre.length < M → OwnOff own (news.map (·.1)) → P pre a →
      Fr h₀ env.locals h (fun z => if z = xc then some (.str ⟨#[n]⟩ t) else if z = xi then some (.int ((pre.length : Int) + 1) k) else if z = y then some (.int a ta) else if stored.contains z then u z else m₀ z) → News h₀ env.locals h (news ++ own) →
      wpAny (model prog w) A (execs body env) (InvPostN h₀ env.locals (KstS (σ := Int × Nat) (fun _ => news) (fun c => [(y, .int c.1 c.2)]) (fun _ => True) xi stored m₀ (fun pre c => P pre c.1) (pre ++ [(n : Int)])) own (news.map (·.1)) { s with heap := h, toks := tk } Q) E { s with heap := h, toks := tk })
    (done : ∀ (a : Int) (ta : Tok) (u : Str → Option Value) h tk, P (KStt.codes xt) a → Fr h₀ env.locals h (fun z => if z = xi then u z else if z = y then some (.int a ta) else if stored.contains z then u z else m₀ z) → News h₀ env.locals h news → Q .next { s with heap := h, toks := tk }) :
    wpAny (model prog w) A (call (.type "enumerate") [.str xt tx, .int 1 u0]) (fun xv s₁ => wpAny (model prog w) A (pyIter xv) (fun it s₂ => PairAt3 prog w A h₀ env xi xc body Q E it s₂) E s₁) E s := by
  refine kst_enum (σ := Int × Nat) (fun _ => news) (fun c => [(y, .int c.1 c.2)]) (fun _ => True) stored (fun pre c => P pre c.1) (a₀, t₀) hh F N trivial (by simpa using hy) hp ?_ ?_
  · rintro ⟨a, ta⟩ pre post n t k u h tk own e hoff _ hP F' N'
    have hmem : (n : Int) ∈ KStt.codes xt := by rw [e]; simp
    have hn : n < B := by
      unfold KStt.codes at hmem
      obtain ⟨c, hc, hcn⟩ := List.mem_map.mp hmem
      have : c = n := by omega
      subst this
      exact hB c hc
    have hl : pre.length < M := by
      have := congrArg List.length e
      rw [KStt.codes_length, List.length_append, List.length_cons] at this
      omega
    exact turn a ta pre n t k u h tk own hn hl hoff hP F' N'
  · rintro ⟨a, ta⟩ u h tk _ hP F' N'
    exact done a ta u h tk hP F' N'
end
end Mine
end
section
open PySem PySem.W PySem.Calls PySem.NumText PyProof.Rows
set_option maxRecDepth 100000
namespace Mine
theorem hx_not_blank : ∀ d, d < 16 → blank (hx d) = false := by decide
theorem hx_not_zero : ∀ d, d < 16 → (hx d != 0) = true := by decide
theorem hx_ascii : ∀ d, d < 16 → hx d < 128 := by decide
theorem hx_step : ∀ d, d < 16 → digit? (hx d) = some d := by decide
theorem hx_under : ∀ d, d < 16 → (hx d == 95) = false := by decide
theorem step_hx {d : Nat} (hd : d < 16) (p : Array Nat × Bool) : NumText.step 16 p (hx d) = some (p.1.push d, true) := by
  unfold NumText.step
  rw [hx_under d hd, hx_step d hd]
  simp [hd]
theorem read16 {a b c d : Nat} (ha : 8 ≤ a) (ha' : a < 16) (hb : b < 16) (hc : c < 16) (hd : d < 16) :
    (int_private% "readNumeral") 0 16 [hx a, hx b, hx c, hx d] = (int_private% "Numeral.value") ((a * 4096 + b * 256 + c * 16 + d : Nat) : Int) := by
  rw [readNumeral_eq]
  have e1 : [hx a, hx b, hx c, hx d].dropWhile blank = [hx a, hx b, hx c, hx d] := by
    rw [List.dropWhile_cons, hx_not_blank a ha']; rfl
  have e2 : sign [hx a, hx b, hx c, hx d] = (false, [hx a, hx b, hx c, hx d]) := by
    have q : a = 8 ∨ a = 9 ∨ a = 10 ∨ a = 11 ∨ a = 12 ∨ a = 13 ∨ a = 14 ∨ a = 15 := by omega
    rcases q with rfl | rfl | rfl | rfl | rfl | rfl | rfl | rfl <;> rfl
  have e3 : based 16 [hx a, hx b, hx c, hx d] = (16, false, [hx a, hx b, hx c, hx d]) := by
    have q : a = 8 ∨ a = 9 ∨ a = 10 ∨ a = 11 ∨ a = 12 ∨ a = 13 ∨ a = 14 ∨ a = 15 := by omega
    rcases q with rfl | rfl | rfl | rfl | rfl | rfl | rfl | rfl <;> rfl
  have e4 : ([hx a, hx b, hx c, hx d].reverse.dropWhile blank).reverse = [hx a, hx b, hx c, hx d] := by
    show ([hx d, hx c, hx b, hx a].dropWhile blank).reverse = _
    rw [List.dropWhile_cons, hx_not_blank d hd]; rfl
  have e5 : digits? 16 [hx a, hx b, hx c, hx d] = some #[a, b, c, d] := by
    unfold digits?
    simp [step_hx ha', step_hx hb, step_hx hc, step_hx hd]
  rw [e1, e2]
  dsimp only
  rw [e3]
  dsimp only
  rw [e4, e5]
  have n : (#[a, b, c, d].foldl (fun acc d => acc * 16 + d) 0) = a * 4096 + b * 256 + c * 16 + d := by
    simp; omega
  simp only [judge, n]
  simp
theorem wp_text16 {M : Model} {A : Around} {E : Value → Shared → Prop} {s : Shared} {Q : Value → Shared → Prop} {v : Value} {text : List Nat} {n : Int}
    (hs : (text.takeWhile (· != 0)).length ≤ 640) (hr : (int_private% "readNumeral") 0 16 (text.takeWhile (· != 0)) = (int_private% "Numeral.value") n)
    (ha : ((text.takeWhile (· != 0)).length == text.length) = true) (h : Q (.int n s.toks) { s with toks := s.toks + 1 }) :
    wpAny M A ((int_private% "intFromText") v text 16) Q E s := by
  obtain ⟨hp, g, d, tk, os⟩ := s
  repeat (any_goals (first
    | assumption
    | (with_reducible refine wpAny_ite_true (decide_eq_true hs) ?_)
    | (with_reducible refine wpAny_ite_true (decide_eq_true ha) ?_)
    | wp_step))
  all_goals (try rw [hr])
  all_goals (try dsimp only)
  repeat (any_goals (first
    | assumption
    | (with_reducible refine wpAny_ite_true (decide_eq_true hs) ?_)
    | (with_reducible refine wpAny_ite_true (decide_eq_true ha) ?_)
    | wp_step))
structure Hid16 (p : Prop) : Prop where
  out : p
set_option maxHeartbeats 4000000 in
theorem gives_text16 {x : Str} {u b : Tok} {n : Int} (ht : x.cps.all (· < 128) = true) (hs : (x.cps.toList.takeWhile (· != 0)).length ≤ 640) (hr : (int_private% "readNumeral") 0 16 (x.cps.toList.takeWhile (· != 0)) = (int_private% "Numeral.value") n)
    (ha : ((x.cps.toList.takeWhile (· != 0)).length == x.cps.toList.length) = true) : Gives (Builtin.«int.__new__» ⟨[.type "int", .str x u, .int 16 b], []⟩) (.int n) :=
  .of_wp fun M A E s Q h => by
    obtain ⟨hp, g, d, tk, os⟩ := s
    have f1 := F.conv_sub_int
    have f2 := F.madeHere_int
    have f3 := KIN.str_int
    have f4 := KIN.str_idx
    have f5 := KIN.str_trunc
    have f6 : typeOf (.str x u) = pure (.type "str") := rfl
    have e : numTextOf x = x.cps.toList := by unfold numTextOf; rw [if_pos ht]
    have hk := Hid16.mk (p := (numSeenOf x).length ≤ 640 ∧ (int_private% "readNumeral") 0 16 (numSeenOf x) = (int_private% "Numeral.value") n ∧ ((numSeenOf x).length == (numTextOf x).length) = true) (by
      unfold numSeenOf
      rw [e]
      exact ⟨hs, hr, ha⟩)
    clear hs hr ha ht e
    repeat (any_goals (first
      | assumption
      | ((with_reducible show wpAny _ _ ((int_private% "intFromText") _ _ _) _ _ _); refine wp_text16 hk.out.1 hk.out.2.1 hk.out.2.2 ?_)
      | wp_step))
    all_goals first | exact ⟨_, rfl, h⟩ | skip
theorem typeCall_int2 (a b : Value) : checkTypeCall "int" ⟨[a, b], []⟩ = pure () := by kernel_rfl
theorem newCall_int2 (a b : Value) : checkBuiltinCall "int.__new__" ⟨[.type "int", a, b], []⟩ = pure () := by kernel_rfl
theorem initOk3' (o a b : Value) : argsOk "object.__init__" ⟨[o, a, b], []⟩ := by unfold argsOk; kernel_rfl
section
variable {prog : Program} {w : World} {A : Around} {E : Value → Shared → Prop} {s : Shared}
theorem call_int16 {x : Str} {u b : Tok} {n : Int} {Q : Value → Shared → Prop} (ht : x.cps.all (· < 128) = true) (hs : (x.cps.toList.takeWhile (· != 0)).length ≤ 640) (hr : (int_private% "readNumeral") 0 16 (x.cps.toList.takeWhile (· != 0)) = (int_private% "Numeral.value") n)
    (ha : ((x.cps.toList.takeWhile (· != 0)).length == x.cps.toList.length) = true) (h : Q (.int n s.toks) { s with toks := s.toks + 1 }) :
    wpAny (model prog w) A (call (.type "int") [.str x u, .int 16 b]) Q E s :=
  callType_new F.called_int F.newNe_int (typeCall_int2 _ _) (newCall_int2 _ _) (fun obj => initOk3' obj _ _) F.entry_int_new (gives_text16 ht hs hr ha).meets (show (Made.int n).post _ s from ⟨rfl, h⟩)
theorem hexS_cps (v : Nat) : (hexS v).cps.toList = [hx (v / 16 / 16 / 16 % 16), hx (v / 16 / 16 % 16), hx (v / 16 % 16), hx (v % 16)] := rfl
theorem call_int_hex {v : Nat} {u b : Tok} {Q : Value → Shared → Prop} (h0 : 32768 ≤ v) (h1 : v < 65536) (h : Q (.int (v : Int) s.toks) { s with toks := s.toks + 1 }) :
    wpAny (model prog w) A (call (.type "int") [.str (hexS v) u, .int 16 b]) Q E s := by
  have b3 : v / 16 / 16 / 16 % 16 < 16 := Nat.mod_lt _ (by decide)
  have b2 : v / 16 / 16 % 16 < 16 := Nat.mod_lt _ (by decide)
  have b1 : v / 16 % 16 < 16 := Nat.mod_lt _ (by decide)
  have b0 : v % 16 < 16 := Nat.mod_lt _ (by decide)
  have e : (hexS v).cps.toList.takeWhile (· != 0) = (hexS v).cps.toList := by
    rw [hexS_cps]
    simp only [List.takeWhile, hx_not_zero _ b3, hx_not_zero _ b2, hx_not_zero _ b1, hx_not_zero _ b0]
  refine call_int16 ?_ (by rw [e]; show 4 ≤ 640; decide) ?_ (by rw [e]; exact beq_self_eq_true _) h
  · have a3 := hx_ascii _ b3
    have a2 := hx_ascii _ b2
    have a1 := hx_ascii _ b1
    have a0 := hx_ascii _ b0
    simp [hexS, a3, a2, a1, a0]
  · rw [e, hexS_cps, read16 (by omega) b3 b2 b1 b0]
    congr 2
    omega
end
end Mine
end
section
open PySem PySem.W PyProof.Rows
set_option maxRecDepth 100000
set_option maxHeartbeats 8000000
namespace Mine
open_top hd for PySem.Challenge.rw_aa5016_01
end Mine
end
section
open PySem PySem.W PyProof.Rows PySem.Spec PySem.Calls
set_option maxRecDepth 100000
namespace Mine
def Claim (w : World) (dd uu : Nat) (f : Addr) (vs : List Value) (R : Tok → Value) : Prop :=
  ∀ (mean : ExcName → Option Value) (mg mb : Str → Option Value) (news : List (Addr × Obj)) (dp un : Nat) (gd : Option (List Code)) (cn : Str) (cs : Scope) (a : Addr) (ccd : Value) (cl : List (Str × Addr)) (outer : List Env) (A₀ : Around) (base h₀ : Heap) (L : Addr) (m : Str → Option Value) (s : Shared) (Q E : Value → Shared → Prop),
    Below A₀ base outer h₀ → Fr h₀ L s.heap m → (hd.heap_39 w.params).In h₀ → News h₀ L s.heap news → Top hd.view_39 (looseW hd.view_39 [Str.ofString "hash_password"]) mean mg mb h₀ → cs.kind = .function →
    dp + dd < recursionLimit → un + uu < cLine → CbRet h₀ L m news s Q R →
    wpAny (model PySem.Challenge.rw_aa5016_01.row.prog w) (ktrTop dp un gd cn cs L a ccd cl outer) (call (.ref f) vs) Q E s
def ClaimK (w : World) (dd uu : Nat) (f : Addr) (vs : List Value) (kw : List (Str × Value)) (R : Tok → Value) : Prop :=
  ∀ (mean : ExcName → Option Value) (mg mb : Str → Option Value) (news : List (Addr × Obj)) (dp un : Nat) (gd : Option (List Code)) (cn : Str) (cs : Scope) (a : Addr) (ccd : Value) (cl : List (Str × Addr)) (outer : List Env) (A₀ : Around) (base h₀ : Heap) (L : Addr) (m : Str → Option Value) (s : Shared) (Q E : Value → Shared → Prop),
    Below A₀ base outer h₀ → Fr h₀ L s.heap m → (hd.heap_39 w.params).In h₀ → News h₀ L s.heap news → Top hd.view_39 (looseW hd.view_39 [Str.ofString "hash_password"]) mean mg mb h₀ → cs.kind = .function →
    dp + dd < recursionLimit → un + uu < cLine → CbRet h₀ L m news s Q R →
    wpAny (model PySem.Challenge.rw_aa5016_01.row.prog w) (ktrTop dp un gd cn cs L a ccd cl outer) (call (.ref f) vs kw) Q E s
def ClaimL (w : World) (dd uu : Nat) (f : Addr) (vs : List Value) (ns : List Int) : Prop :=
  ∀ (mean : ExcName → Option Value) (mg mb : Str → Option Value) (news : List (Addr × Obj)) (dp un : Nat) (gd : Option (List Code)) (cn : Str) (cs : Scope) (a : Addr) (ccd : Value) (cl : List (Str × Addr)) (outer : List Env) (A₀ : Around) (base h₀ : Heap) (L : Addr) (m : Str → Option Value) (s : Shared) (Q E : Value → Shared → Prop),
    Below A₀ base outer h₀ → Fr h₀ L s.heap m → (hd.heap_39 w.params).In h₀ → News h₀ L s.heap news → Top hd.view_39 (looseW hd.view_39 [Str.ofString "hash_password"]) mean mg mb h₀ → cs.kind = .function →
    dp + dd < recursionLimit → un + uu < cLine →
    (∀ (D : Addr) (us : List Value) (k : Nat) (h' : Heap) (tk' : Nat), Fr h₀ L h' m → News h₀ L h' ((D, listOf us.toArray k) :: news) → AllLt D news → IntsAre us ns → ns.length = 15 → Q (.ref D) { s with heap := h', toks := tk' }) →
    wpAny (model PySem.Challenge.rw_aa5016_01.row.prog w) (ktrTop dp un gd cn cs L a ccd cl outer) (call (.ref f) vs) Q E s
theorem news_t1 {h₀ h : Heap} {L : Addr} {p0 : Addr × Obj} {news : List (Addr × Obj)} (N : News h₀ L h (p0 :: news)) : News h₀ L h news := fun q hq => N q (List.Mem.tail _ hq)
theorem news_t2 {h₀ h : Heap} {L : Addr} {p0 p1 : Addr × Obj} {news : List (Addr × Obj)} (N : News h₀ L h (p0 :: p1 :: news)) : News h₀ L h news := fun q hq => N q (List.Mem.tail _ (List.Mem.tail _ hq))
theorem news_t3 {h₀ h : Heap} {L : Addr} {p0 p1 p2 : Addr × Obj} {news : List (Addr × Obj)} (N : News h₀ L h (p0 :: p1 :: p2 :: news)) : News h₀ L h news := fun q hq => N q (List.Mem.tail _ (List.Mem.tail _ (List.Mem.tail _ hq)))
theorem news_t4 {h₀ h : Heap} {L : Addr} {p0 p1 p2 p3 : Addr × Obj} {news : List (Addr × Obj)} (N : News h₀ L h (p0 :: p1 :: p2 :: p3 :: news)) : News h₀ L h news := fun q hq => N q (List.Mem.tail _ (List.Mem.tail _ (List.Mem.tail _ (List.Mem.tail _ hq))))
theorem news_t5 {h₀ h : Heap} {L : Addr} {p0 p1 p2 p3 p4 : Addr × Obj} {news : List (Addr × Obj)} (N : News h₀ L h (p0 :: p1 :: p2 :: p3 :: p4 :: news)) : News h₀ L h news := fun q hq => N q (List.Mem.tail _ (List.Mem.tail _ (List.Mem.tail _ (List.Mem.tail _ (List.Mem.tail _ hq)))))
theorem news_skip1 {h₀ h : Heap} {L : Addr} {p q : Addr × Obj} {news : List (Addr × Obj)} (N : News h₀ L h (p :: q :: news)) : News h₀ L h (p :: news) := fun x hx => N x (by
  rcases List.mem_cons.mp hx with rfl | hx
  · exact .head _
  · exact .tail _ (.tail _ hx))
section
variable {w : World} {dd uu : Nat} {f : Addr} {vs : List Value} {mean : ExcName → Option Value} {mg mb : Str → Option Value} {news : List (Addr × Obj)} {dp un : Nat} {gd : Option (List Code)} {cn : Str} {cs : Scope} {a : Addr} {ccd : Value} {cl : List (Str × Addr)} {outer : List Env} {A₀ : Around} {base h₀ : Heap} {L : Addr} {m : Str → Option Value} {s : Shared} {Q E : Value → Shared → Prop}
theorem claim_use {R : Tok → Value} (C : Claim w dd uu f vs R) (B : Below A₀ base outer h₀) (F : Fr h₀ L s.heap m) (X : (hd.heap_39 w.params).In h₀) (N : News h₀ L s.heap news) (T : Top hd.view_39 (looseW hd.view_39 [Str.ofString "hash_password"]) mean mg mb h₀) (hk : cs.kind = .function)
    (hd : dp + dd < recursionLimit) (hu : un + uu < cLine) (ret : CbRet h₀ L m news s Q R) :
    wpAny (model PySem.Challenge.rw_aa5016_01.row.prog w) (ktrTop dp un gd cn cs L a ccd cl outer) (call (.ref f) vs) Q E s := C _ _ _ _ _ _ _ _ _ _ _ _ _ _ _ _ _ _ _ _ _ B F X N T hk hd hu ret
theorem claimK_use {kw : List (Str × Value)} {R : Tok → Value} (C : ClaimK w dd uu f vs kw R) (B : Below A₀ base outer h₀) (F : Fr h₀ L s.heap m) (X : (hd.heap_39 w.params).In h₀) (N : News h₀ L s.heap news) (T : Top hd.view_39 (looseW hd.view_39 [Str.ofString "hash_password"]) mean mg mb h₀) (hk : cs.kind = .function)
    (hd : dp + dd < recursionLimit) (hu : un + uu < cLine) (ret : CbRet h₀ L m news s Q R) :
    wpAny (model PySem.Challenge.rw_aa5016_01.row.prog w) (ktrTop dp un gd cn cs L a ccd cl outer) (call (.ref f) vs kw) Q E s := C _ _ _ _ _ _ _ _ _ _ _ _ _ _ _ _ _ _ _ _ _ B F X N T hk hd hu ret
theorem claimL_use {ns : List Int} (C : ClaimL w dd uu f vs ns) (B : Below A₀ base outer h₀) (F : Fr h₀ L s.heap m) (X : (hd.heap_39 w.params).In h₀) (N : News h₀ L s.heap news) (T : Top hd.view_39 (looseW hd.view_39 [Str.ofString "hash_password"]) mean mg mb h₀) (hk : cs.kind = .function)
    (hd : dp + dd < recursionLimit) (hu : un + uu < cLine)
    (ret : ∀ (D : Addr) (us : List Value) (k : Nat) (h' : Heap) (tk' : Nat), Fr h₀ L h' m → News h₀ L h' ((D, listOf us.toArray k) :: news) → AllLt D news → IntsAre us ns → ns.length = 15 → Q (.ref D) { s with heap := h', toks := tk' }) :
    wpAny (model PySem.Challenge.rw_aa5016_01.row.prog w) (ktrTop dp un gd cn cs L a ccd cl outer) (call (.ref f) vs) Q E s := C _ _ _ _ _ _ _ _ _ _ _ _ _ _ _ _ _ _ _ _ _ B F X N T hk hd hu ret
end
end Mine
end
section
open PySem PySem.W PyProof.Rows PySem.Spec PySem.Calls
set_option maxRecDepth 100000
set_option maxHeartbeats 8000000
namespace Mine
theorem put_tells (w : World) (x : Str) (t1 : Tok) (i c : Int) (t2 t3 : Tok) (hx : x.length ≤ 22) (h0 : 0 ≤ i) (h1 : i < x.length) (c0 : 0 ≤ c) (c1 : c < 128) :
    Claim w 1 8 55 [.str x t1, .int i t2, .int c t3] (fun t => .str (putS x i c) t) := by
  unfold Claim
  w_top off
  k_fill
  intro mean mg mb news dp un gd cn cs a ccd cl outer A₀ base h₀ L m s Q E B F X N T hk hdp hun hret
  refine wpAny_call ?_
  k_dflt cell_enter
  k_steps
  exact cb_retS hret rfl (by assumption) (by assumption)
end Mine
end
section
open PySem PySem.W PyProof.Rows PySem.Spec PySem.Calls
set_option maxRecDepth 100000
set_option maxHeartbeats 8000000
namespace Mine
theorem figGo_free : ∀ (f g : Nat) (n : Int) (s : Str), n < 16 ^ f → n < 16 ^ g → figGo f n s = figGo g n s
  | 0, 0, _, _, _, _ => rfl
  | 0, g + 1, n, s, h, _ => by
    unfold figGo; rw [if_neg (by simp at h; omega)]
  | f + 1, 0, n, s, _, h => by
    unfold figGo; rw [if_neg (by simp at h; omega)]
  | f + 1, g + 1, n, s, h1, h2 => by
    unfold figGo
    by_cases hn : n > 0
    · rw [if_pos hn, if_pos hn]
      refine figGo_free f g _ _ ?_ ?_
      · rw [Int.fdiv_eq_ediv_of_nonneg _ (by decide)]; rw [Int.pow_succ] at h1; omega
      · rw [Int.fdiv_eq_ediv_of_nonneg _ (by decide)]; rw [Int.pow_succ] at h2; omega
    · rw [if_neg hn, if_neg hn]
def FigB (n : Int) (k : Nat) : Prop := n < 16 ^ (4 - k)
theorem fb_start {n : Int} (h : n < 65536) : FigB n 0 := h
theorem fb_step {n : Int} {k : Nat} (h0 : 0 < n) (h : FigB n k) (hk : k ≤ 4) : k + 1 ≤ 4 ∧ FigB (n.fdiv 16) (k + 1) := by
  unfold FigB at *
  rw [Int.fdiv_eq_ediv_of_nonneg _ (by decide)]
  have : k = 0 ∨ k = 1 ∨ k = 2 ∨ k = 3 ∨ k = 4 := by omega
  rcases this with rfl | rfl | rfl | rfl | rfl <;> simp at h ⊢ <;> omega
theorem fg_a {n : Int} (h0 : 0 ≤ n) (h1 : n < 65536) : 0 ≤ n ∧ (Str.ofString "").length ≤ 4 ∧ FigB n (Str.ofString "").length ∧ figGo 17 n (Str.ofString "") = figGo 17 n Str.empty := by
  have e : Str.ofString "" = Str.empty := by decide +kernel
  rw [e]
  exact ⟨h0, by decide, fb_start h1, rfl⟩
theorem fg_b {n b : Int} {s r : Str} (h0 : 0 ≤ n) (h1 : s.length ≤ 4) (h2 : FigB n s.length) (h3 : figGo 17 n s = r) (h4 : 0 < n) :
    0 ≤ n.fdiv 16 ∧ (digS n ++ s).length ≤ 4 ∧ FigB (n.fdiv 16) (digS n ++ s).length ∧ figGo 17 (n.fdiv 16) (digS n ++ s) = r := by
  have e : (digS n ++ s).length = s.length + 1 := by rw [Str.length_append]; show 1 + _ = _; omega
  have hf : n.fdiv 16 = n / 16 := Int.fdiv_eq_ediv_of_nonneg _ (by decide)
  obtain ⟨a, b⟩ := fb_step h4 h2 h1
  rw [e]
  refine ⟨by rw [hf]; omega, a, b, ?_⟩
  rw [← h3]
  have hb : n < 65536 := by
    unfold FigB at h2
    have : s.length = 0 ∨ s.length = 1 ∨ s.length = 2 ∨ s.length = 3 ∨ s.length = 4 := by omega
    rcases this with q | q | q | q | q <;> rw [q] at h2 <;> simp at h2 <;> omega
  have : figGo 17 n s = figGo 16 (n.fdiv 16) (digS n ++ s) := by
    show (if n > 0 then _ else _) = _
    rw [if_pos h4]
  rw [this]
  refine figGo_free _ _ _ _ ?_ ?_
  · rw [hf]; omega
  · rw [hf]; omega
theorem fg_c {n b : Int} {s : Str} (h : figGo 17 n s = figGo 17 b Str.empty) (h0 : ¬ 0 < n) : s = figGo 17 b Str.empty := by
  rw [← h]
  show s = (if n > 0 then _ else _)
  rw [if_neg (by omega)]
theorem fg_d {n b : Int} {s : Str} (h : figGo 17 n s = figGo 17 b Str.empty) (h0 : ¬ 0 < n) (h1 : (s != Str.ofString "") = true) : s = figs b := by
  have e := fg_c h h0
  unfold figs
  rw [← e, if_pos h1]
theorem fg_e {n b : Int} {s : Str} (h : figGo 17 n s = figGo 17 b Str.empty) (h0 : ¬ 0 < n) (h1 : (s != Str.ofString "") = false) : Str.ofString "0" = figs b := by
  have e := fg_c h h0
  unfold figs
  rw [← e, if_neg (by rw [h1]; decide)]
local macro_rules | `(tactic| walk_at "KswEnd") => `(tactic| k_dflt ksw_close)
theorem figs_tells (w : World) (v : Nat) (t1 : Tok) (h0' : 32768 ≤ v) (h1' : v < 65536) :
    Claim w 1 8 43 [.int (v : Int) t1] (fun t => .str (hexS v) t) := by
  rw [← figs_hex h0' h1']
  have h0 : (0 : Int) ≤ (v : Int) := by omega
  have h1 : (v : Int) < 65536 := by omega
  clear h0' h1'
  generalize (v : Int) = n at *
  unfold Claim
  w_top off
  k_fill
  intro mean mg mb news dp un gd cn cs a ccd cl outer A₀ base h₀ L m s Q E B F X N T hk hdp hun hret
  refine wpAny_call ?_
  k_dflt cell_enter
  k_with "state" => first | exact fg_a (by assumption) (by assumption) | exact fg_b (b := n) (by assumption) (by assumption) (by assumption) (by assumption) (by assumption)
  k_with "measure" => (rw [Int.fdiv_eq_ediv_of_nonneg _ (by decide)]; omega)
  k_with "exec While Compare cons nil" => k_while (fun script number signs => 0 ≤ number ∧ signs.length ≤ 4 ∧ FigB number signs.length ∧ figGo 17 number signs = figGo 17 n Str.empty) (fun script number signs => number.toNat) "number" "signs"
  k_steps
  · exact cb_retS hret (fg_d (by assumption) (by assumption) (by assumption)) (by assumption) (by assumption)
  · exact cb_retS hret (fg_e (by assumption) (by assumption) (by assumption)) (by assumption) (by assumption)
end Mine
end
section
open PySem PySem.W PyProof.Rows PySem.Spec PySem.Calls
set_option maxRecDepth 100000
set_option maxHeartbeats 8000000
namespace Mine
theorem st_a (x : Str) : [0, 0, 0, 0, 0, 0, 0, 0, 0, 0, 0, 0, 0, 0, 0].length = 15 ∧ [0, 0, 0, 0, 0, 0, 0, 0, 0, 0, 0, 0, 0, 0, 0] = ringsF x [] := ⟨rfl, rfl⟩
theorem st_b {x : Str} {k : Int} {odd o : List Int} (h1 : odd.length = 15) (h2 : odd = o) : odd.length = 15 ∧ odd = bitsF x k o [] := ⟨h1, h2⟩
theorem st_c {x : Str} {p k : Int} {odd o pre : List Int} (h1 : odd.length = 15) (h2 : odd = bitsF x p o pre) : (bitStep x p odd k).length = 15 ∧ bitStep x p odd k = bitsF x p o (pre ++ [k]) := by
  refine ⟨?_, ?_⟩
  · unfold bitStep; rw [List.length_set]; exact h1
  · unfold bitsF at *; rw [List.foldl_append, ← h2]; rfl
theorem st_d {x : Str} {k : Int} {odd pre : List Int} (h1 : odd.length = 15) (h2 : odd = bitsF x k (ringsF x pre) (rangeKs 0 (7 - 0 : Int).toNat)) : odd.length = 15 ∧ odd = ringsF x (pre ++ [k]) := by
  refine ⟨h1, ?_⟩
  rw [h2]; unfold ringsF; rw [List.foldl_append]; rfl
theorem st_e {x : Str} {us : List Value} {odd : List Int} (h : odd = ringsF x (rangeKs 0 ((x.length : Int) - 0).toNat)) (hi : IntsAre us odd) (hx : x.length ≤ 22) (hc : ∀ c ∈ x.cps.toList, c < 128) : IntsAre us (toRings (hh x)) := by
  rw [← ringsL_eq hx hc]
  have e : ((x.length : Int) - 0).toNat = x.length := by omega
  rw [e] at h
  unfold ringsL
  rw [← h]; exact hi
local macro_rules | `(tactic| walk_at "InvEndN") => `(tactic| k_dflt kst_close)
local macro_rules | `(tactic| walk_at "none of five") => `(tactic| skip)
theorem rings_tells (w : World) (x : Str) (t1 : Tok) (hx : x.length ≤ 22) (hc : ∀ c ∈ x.cps.toList, c < 128) :
    ClaimL w 1 8 36 [.str x t1] (toRings (hh x)) := by
  unfold ClaimL
  w_top off
  k_fill
  intro mean mg mb news dp un gd cn cs a ccd cl outer A₀ base h₀ L m s Q E B F X N T hk hdp hun hret
  refine wpAny_call ?_
  k_dflt cell_enter
  k_with "state" => first | (k_dflt (exact ⟨rfl, rfl⟩)) | exact st_b (by assumption) (by assumption) | exact st_c (by assumption) (by assumption) | exact st_d (by assumption) (by assumption)
  k_with "pyIter ref" => (k_of "bit" => k_state_short (fun pre odd => odd.length = 15 ∧ odd = bitsF x kN (ringsF x kPre) pre) "odd")
  k_with "pyIter ref" => (k_of "place" => k_state (fun pre odd => odd.length = 15 ∧ odd = ringsF x pre) "odd")
  k_steps
  all_goals exact hret _ _ _ _ _ (by assumption) (news_skip1 (by assumption)) (by first | assumption | exact And.right (by assumption)) (st_e (by assumption) (by assumption) (by assumption) (by assumption)) (toRings_len _)
end Mine
end
section
open PySem PySem.W PyProof.Rows PySem.Spec PySem.Calls
set_option maxRecDepth 100000
set_option maxHeartbeats 8000000
namespace Mine
def ClaimD (w : World) (dd uu : Nat) (f : Addr) : Prop :=
  ∀ (mean : ExcName → Option Value) (mg mb : Str → Option Value) (news : List (Addr × Obj)) (dp un : Nat) (gd : Option (List Code)) (cn : Str) (cs : Scope) (a : Addr) (ccd : Value) (cl : List (Str × Addr)) (outer : List Env) (A₀ : Around) (base h₀ : Heap) (L : Addr) (m : Str → Option Value) (s : Shared) (Q E : Value → Shared → Prop)
    (l : Addr) (vs : List Value) (ns : List Int),
    Below A₀ base outer h₀ → Fr h₀ L s.heap m → (hd.heap_39 w.params).In h₀ → News h₀ L s.heap news → Top hd.view_39 (looseW hd.view_39 [Str.ofString "hash_password"]) mean mg mb h₀ → cs.kind = .function →
    dp + dd < recursionLimit → un + uu < cLine → base.IsList l vs.toArray → IntsAre vs ns → ns.length ≤ 63 →
    (∀ (x : Str) (t : Tok) (h' : Heap) (tk' : Nat), x.length ≤ 15 → Low x → Fr h₀ L h' m → News h₀ L h' news → Q (.str x t) { s with heap := h', toks := tk' }) →
    wpAny (model PySem.Challenge.rw_aa5016_01.row.prog w) (ktrTop dp un gd cn cs L a ccd cl outer) (call (.ref f) [.ref l]) Q E s
theorem low_snoc {x : Str} {c : Nat} (h : Low x) (hc : c < 128) : Low (x ++ ⟨#[c]⟩) := by
  intro d hd
  rw [Str.cps_append, Array.toList_append] at hd
  rcases List.mem_append.mp hd with hd | hd
  · exact h d hd
  · rw [List.mem_singleton.mp hd]; exact hc
theorem dr_a : (Str.ofString "").length ≤ 3 * ([] : List Int).length ∧ Low (Str.ofString "") := by
  have e : Str.ofString "" = Str.empty := by decide +kernel
  rw [e]
  exact ⟨by decide, fun c hc => nomatch hc⟩
theorem dr_b {k : Int} {x : Str} {p : List Int} (h : x.length ≤ 3 * p.length) (hx : Low x) :
    0 ≤ k.fmod 1000003 ∧ k.fmod 1000003 < 1000003 ∧ x.length ≤ 3 * p.length + ([] : List Int).length ∧ ([] : List Int).length ≤ 3 ∧ Low x :=
  ⟨fmod_lo _ (by decide), fmod_hi _ (by decide), by simpa using h, by simp, hx⟩
theorem dr_step {k j d left : Int} {x : Str} {p q : List Int} (hd : d = 4 ∨ d = 95) (h0 : 0 ≤ left) (h1 : left < 1000003) (h2 : x.length ≤ 3 * p.length + q.length) (hx : Low x) (hq : q.length < ((k.fmod 1000003).fmod 4 - 0).toNat) :
    0 ≤ left.fdiv d ∧ left.fdiv d < 1000003 ∧ (x ++ (⟨#[(32 + (left.fdiv d).fmod 95).toNat]⟩ : Str)).length ≤ 3 * p.length + (q ++ [j]).length ∧ (q ++ [j]).length ≤ 3 ∧ Low (x ++ (⟨#[(32 + (left.fdiv d).fmod 95).toNat]⟩ : Str)) := by
  have hd0 : 0 ≤ d := by omega
  have e : left.fdiv d = left / d := Int.fdiv_eq_ediv_of_nonneg _ hd0
  have b1 := fmod_lo (left.fdiv d) (n := 95) (by decide)
  have b2 := fmod_hi (left.fdiv d) (n := 95) (by decide)
  have b3 := fmod_hi (k.fmod 1000003) (n := 4) (by decide)
  refine ⟨?_, ?_, ?_, ?_, low_snoc hx (by omega)⟩
  · rcases hd with rfl | rfl <;> (rw [e]; omega)
  · rcases hd with rfl | rfl <;> (rw [e]; omega)
  · rw [Str.length_append, List.length_append, List.length_singleton]
    show x.length + 1 ≤ _
    omega
  · rw [List.length_append, List.length_singleton]; omega
theorem dr_end {k j : Int} {x : Str} {p : List Int} (h : x.length ≤ 3 * p.length + (rangeKs 0 ((k.fmod 1000003).fmod 4 - 0).toNat).length) (h3 : (rangeKs 0 ((k.fmod 1000003).fmod 4 - 0).toNat).length ≤ 3) (hx : Low x) : x.length ≤ 3 * (p ++ [j]).length ∧ Low x := by
  refine ⟨?_, hx⟩
  rw [List.length_append, List.length_singleton]
  omega
theorem dr_len {x : Str} {ns : List Int} (h : x.length ≤ 3 * (List.take 5 ns).length) (h2 : (List.take 5 ns).length = min 5 ns.length) : x.length ≤ 15 := by omega
local macro_rules | `(tactic| walk_at "InvEndN") => `(tactic| k_dflt kst_close)
theorem drawn_tells (w : World) : ClaimD w 1 8 29 := by
  unfold ClaimD
  w_top off
  k_fill
  intro mean mg mb news dp un gd cn cs a ccd cl outer A₀ base h₀ L m s Q E l vs ns B F X N T hk hdp hun hl hi hlen hret
  refine wpAny_call ?_
  k_dflt cell_enter
  k_with "state" => first | exact dr_a | exact dr_b (by assumption) (by assumption) | exact dr_step (.inl rfl) (by assumption) (by assumption) (by assumption) (by assumption) (by assumption) | exact dr_step (.inr rfl) (by assumption) (by assumption) (by assumption) (by assumption) (by assumption) | exact dr_end (by assumption) (by assumption) (by assumption)
  k_with "pyIter ref" => (k_of "k" => k_state (fun pre left text => 0 ≤ left ∧ left < 1000003 ∧ text.length ≤ 3 * kPre.length + pre.length ∧ pre.length ≤ 3 ∧ Low text) "left" "text")
  k_with "pyIter ref" => (k_of "number" => k_state (fun pre text => text.length ≤ 3 * pre.length ∧ Low text) "text")
  k_steps
  exact hret _ _ _ _ (dr_len (by assumption) (by assumption)) (by assumption) (by assumption) (fun p hp => (by assumption : News _ _ _ (_ :: news)) p (List.Mem.tail _ hp))
end Mine
end
section
open PySem PySem.W PyProof.Rows PySem.Spec PySem.Calls
set_option maxRecDepth 100000
set_option maxHeartbeats 8000000
namespace Mine
theorem hex_gen {prog : Program} {w : World} {A : Around} {E : Value → Shared → Prop} {s : Shared} {a : Int} {x : Str} {t : Tok} {Q : Value → Shared → Prop} (h : a = hashF (KStt.codes x)) (hx : x.length ≤ 22) (hc : ∀ c ∈ x.cps.toList, c < 128)
    (k : ∀ z : Str, z = baseText "0x" 16 (hv x : Int) → z.length = 6 → Q (.str z s.toks) { s with toks := s.toks + 1 }) : wpAny (model prog w) A (call (.builtin "hex") [.int (Builtin.bitXor (Builtin.bitXor a (x.length : Int)) 52811) t]) Q E s := by
  rw [hv_int h hx hc]
  obtain ⟨h0, h1⟩ := hv_range hx hc
  have hl := base_len h0 h1
  exact P.hex_of_int (k _ rfl hl) (by rw [hl]; decide)
theorem hash_end {x z : Str} (h : z = baseText "0x" 16 (hv x : Int)) (hx : x.length ≤ 22) (hc : ∀ c ∈ x.cps.toList, c < 128) : Txt.slice (Txt.upper z) (some 2) none = hexS (hv x) := by
  obtain ⟨h0, h1⟩ := hv_range hx hc
  rw [h, hash_text h0 h1]
local macro_rules | `(tactic| walk_at "InvEndN") => `(tactic| k_dflt kst_close)
local macro_rules | `(tactic| walk_at "exec For Tuple Call cons nil") => `(tactic| (k_here; (rename Fr _ _ _ _ => lF'); (with_unfolding_all refine' For_pairF lF' ?k1 ?k2 ?k3 ?k4 ?_; (case k1 => exact rfl); (case k2 => exact rfl); (case k3 => exact rfl); (case k4 => exact rfl)); k_whole))
local macro_rules | `(tactic| walk_at "call type:enumerate") => `(tactic| (k_here; (rename Fr _ _ _ _ => lF'); (rename News _ _ _ _ => lN'); (with_unfolding_all refine' enum_int1 (y := Str.ofString "password") [Str.ofString "value", Str.ofString "rotated_bits", Str.ofString "char"] (fun pre a => a = hashF pre) 128 22 ?k1 lF' lN' ?k2 ?k3 ?k4 ?k5 ?_ ?_; (case k1 => exact rfl); (case k2 => exact rfl); (case k3 => assumption); (case k4 => assumption); (case k5 => exact rfl)); (all_goals clear lF' lN'); all_goals intros))
local macro_rules | `(tactic| walk_at "call builtin:hex") => `(tactic| (k_here; k_dflt (refine' hex_gen ?kz ?ky ?kx ?_; (case kz => assumption); (case ky => assumption); (case kx => assumption); k_whole); intro zHex hHex hHexL))
theorem hash_tells (w : World) (x : Str) (t1 : Tok) (hx : x.length ≤ 22) (hc : ∀ c ∈ x.cps.toList, c < 128) :
    Claim w 1 8 22 [.str x t1] (fun t => .str (hexS (hv x)) t) := by
  unfold Claim
  w_top off
  k_fill
  intro mean mg mb news dp un gd cn cs a ccd cl outer A₀ base h₀ L m s Q E B F X N T hk hdp hun hret
  refine wpAny_call ?_
  k_dflt (refine' code_def ?k1 ?k2 ?k3 ?k4 ?k5 ?kA ?kF ?kK ?k6 ?k7 ?k8 ?k9 ?kB ?_ ?c2 ?c3 ?c4 ?c5; (case kA => exact rfl); (case kF => exact rfl); (case kK => assumption); (case k1 => k_asm); (case k2 => k_asm); (case k3 => k_asm); (case k4 => k_asm); (case k5 => k_asm); (case k6 => k_is); (case k7 => k_is); (case k8 => ktr_room); (case k9 => exact binds_K (by k_in) rfl (by k_is) rfl rfl rfl); (case c5 => decide); (case kB => exact locs rfl); (case c2 => exact rfl); (case c3 => exact rfl); (case c4 => exact rfl); k_whole; intro g' L' h' FG' F' N' B' X' T'; (try dsimp only); (try k_lift B'); (try k_fold))
  k_with "state" => exact hf_turn (by assumption)
  k_steps
  exact cb_retS hret (hash_end (by assumption) (by assumption) (by assumption)) (by assumption) (by assumption)
theorem hashK_tells (w : World) (x : Str) (t1 : Tok) (hx : x.length ≤ 22) (hc : ∀ c ∈ x.cps.toList, c < 128) :
    ClaimK w 1 8 22 [] [(Str.ofString "plaintext_password", .str x t1)] (fun t => .str (hexS (hv x)) t) := by
  unfold ClaimK
  w_top off
  k_fill
  intro mean mg mb news dp un gd cn cs a ccd cl outer A₀ base h₀ L m s Q E B F X N T hk hdp hun hret
  refine wpAny_call ?_
  k_dflt (refine' code_def ?k1 ?k2 ?k3 ?k4 ?k5 ?kA ?kF ?kK ?k6 ?k7 ?k8 ?k9 ?kB ?_ ?c2 ?c3 ?c4 ?c5; (case kA => exact rfl); (case kF => exact rfl); (case kK => assumption); (case k1 => k_asm); (case k2 => k_asm); (case k3 => k_asm); (case k4 => k_asm); (case k5 => k_asm); (case k6 => k_is); (case k7 => k_is); (case k8 => ktr_room); (case k9 => exact binds_K (by k_in) rfl (by k_is) rfl rfl rfl); (case c5 => decide); (case kB => exact locs rfl); (case c2 => exact rfl); (case c3 => exact rfl); (case c4 => exact rfl); k_whole; intro g' L' h' FG' F' N' B' X' T'; (try dsimp only); (try k_lift B'); (try k_fold))
  k_with "state" => exact hf_turn (by assumption)
  k_steps
  exact cb_retS hret (hash_end (by assumption) (by assumption) (by assumption)) (by assumption) (by assumption)
theorem hex_gen0 {prog : Program} {w : World} {A : Around} {E : Value → Shared → Prop} {s : Shared} {a : Int} {t : Tok} {Q : Value → Shared → Prop} (h : a = hashF (KStt.codes (Str.ofString "")))
    (k : ∀ z : Str, z = baseText "0x" 16 (hv (Str.ofString "") : Int) → z.length = 6 → Q (.str z s.toks) { s with toks := s.toks + 1 }) : wpAny (model prog w) A (call (.builtin "hex") [.int (Builtin.bitXor (Builtin.bitXor a ((0 : Nat) : Int)) 52811) t]) Q E s := by
  have e : (Str.ofString "").length = 0 := by decide +kernel
  rw [← e]
  exact hex_gen h (by rw [e]; decide) (by decide +kernel) k
local macro_rules | `(tactic| walk_at "call builtin:hex") => `(tactic| (k_here; k_dflt (refine' hex_gen0 ?kz ?_; (case kz => assumption); k_whole); intro zHex hHex hHexL))
theorem hash0_tells (w : World) :
    Claim w 1 8 22 [] (fun t => .str (hexS (hv (Str.ofString ""))) t) := by
  have hx : (Str.ofString "").length ≤ 22 := by decide +kernel
  have hc : ∀ c ∈ (Str.ofString "").cps.toList, c < 128 := by decide +kernel
  unfold Claim
  w_top off
  k_fill
  intro mean mg mb news dp un gd cn cs a ccd cl outer A₀ base h₀ L m s Q E B F X N T hk hdp hun hret
  refine wpAny_call ?_
  k_dflt (refine' code_def ?k1 ?k2 ?k3 ?k4 ?k5 ?kA ?kF ?kK ?k6 ?k7 ?k8 ?k9 ?kB ?_ ?c2 ?c3 ?c4 ?c5; (case kA => exact rfl); (case kF => exact rfl); (case kK => assumption); (case k1 => k_asm); (case k2 => k_asm); (case k3 => k_asm); (case k4 => k_asm); (case k5 => k_asm); (case k6 => k_is); (case k7 => k_is); (case k8 => ktr_room); (case k9 => exact binds_K (by k_in) rfl (by k_is) rfl rfl rfl); (case c5 => decide); (case kB => exact locs rfl); (case c2 => exact rfl); (case c3 => exact rfl); (case c4 => exact rfl); k_whole; intro g' L' h' FG' F' N' B' X' T'; (try dsimp only); (try k_lift B'); (try k_fold))
  k_with "state" => exact hf_turn (by assumption)
  k_steps
  exact cb_retS hret (hash_end (by assumption) (by assumption) (by assumption)) (by assumption) (by assumption)
end Mine
end
section
open PySem PySem.W PyProof.Rows PySem.Spec PySem.Calls
set_option maxRecDepth 100000
set_option maxHeartbeats 8000000
namespace Mine
local macro_rules | `(tactic| walk_at "call ref") => `(tactic| (k_here; k_dflt (refine' claimL_use (rings_tells _ _ _ ?p1 ?p2) ?k1 ?k2 ?k3 ?k4 ?k5 ?kK ?kd ?ku ?_; (case p1 => assumption); (case p2 => assumption); (case k1 => k_asm); (case k2 => k_asm); (case k3 => k_asm); (case k4 => k_asm); (case k5 => k_asm); (case kK => first | exact rfl | assumption); (case kd => ktr_room); (case ku => ktr_units); k_whole); intro D9 us9 k9 h9 tk9 F9 N9 l9 i9 e9; (try simp only [AllLt, and_true] at l9); (try dsimp only); (try k_fold)))
theorem figs_at (w : World) (x : Str) (t : Tok) (hx : x.length ≤ 22) (hc : ∀ c ∈ x.cps.toList, c < 128) :
    Claim w 1 8 43 [.int (Builtin.bitXor (Builtin.bitXor 52811 (x.length : Int)) (List.map (fun k : Int => (toRings (hh x)).getD k.toNat 0 * 2 ^ k.toNat) (rangeKs 0 (15 - 0 : Int).toNat)).sum) t] (fun t => .str (hexS (hv x)) t) := by
  have e4 : (52811 : Int) = ((52811 : Nat) : Int) := rfl
  rw [ring_sum (hh_lt hx hc), e4, bitXor_nat, bitXor_nat, ← hv_eq]
  obtain ⟨h0, h1⟩ := hv_range hx hc
  exact figs_tells w _ t h0 h1
local macro_rules | `(tactic| walk_at "binaryOp Mult int int") => `(tactic| (k_here; k_dflt (refine' mul_int ?_ (ring_mul ?m1 ?m2); (case m1 => assumption); (case m2 => assumption); k_whole)))
local macro_rules | `(tactic| walk_at "call ref") => `(tactic| (k_here; k_dflt (refine' claim_use (figs_at _ _ _ ?p1 ?p2) ?k1 ?k2 ?k3 ?k4 ?k5 ?kK ?kd ?ku ?_; (case p1 => assumption); (case p2 => assumption); (case k1 => k_asm); (case k2 => k_asm); (case k3 => k_asm); (case k4 => k_asm); (case k5 => k_asm); (case kK => first | exact rfl | assumption); (case kd => ktr_room); (case ku => ktr_units); k_whole); intro t9 h9 tk9 F9 N9; (try dsimp only); (try k_fold)))
theorem lhash_tells (w : World) (x : Str) (t1 t2 : Tok) (hx : x.length ≤ 22) (hc : ∀ c ∈ x.cps.toList, c < 128) :
    Claim w 2 16 48 [.str x t1, .int 52811 t2] (fun t => .str (hexS (hv x)) t) := by
  unfold Claim
  w_top off
  k_fill
  intro mean mg mb news dp un gd cn cs a ccd cl outer A₀ base h₀ L m s Q E B F X N T hk hdp hun hret
  refine wpAny_call ?_
  k_dflt (refine' code_defC ?k1 ?k2 ?k3 ?k4 ?k5 ?kA ?kF ?kK ?k6 ?k7 ?k8 ?k9 ?kB ?kD ?_ ?c2 ?c3 ?c4; (case kA => exact rfl); (case kF => exact rfl); (case kK => assumption); (case k1 => k_asm); (case k2 => k_asm); (case k3 => k_asm); (case k4 => k_asm); (case k5 => k_asm); (case k6 => k_is); (case k7 => k_is); (case k8 => ktr_room); (case k9 => exact BindsTo.of_eq rfl); (case kB => exact rfl); (case kD => decide +kernel); (case c2 => exact rfl); (case c3 => exact rfl); (case c4 => exact rfl); k_whole; intro g' L' h' tk' cells' FG' F' N' Y' B' X' T' l1; (try k_lt l1); k_cells Y'; (try simp only [List.cons_append, List.nil_append] at N'); (try dsimp only); (try k_lift B'); (try k_fold))
  have l1s : ∀ p ∈ news, p.1 < L' + 1 := fun p hp => Nat.lt_succ_of_lt (l1 p hp)
  have kMark : KstMark := kstMark
  k_steps
  exact cb_retS hret rfl (by assumption) (fun p hp => (by assumption : News _ _ _ (_ :: _ :: _ :: news)) p (List.Mem.tail _ (List.Mem.tail _ (List.Mem.tail _ hp))))
end Mine
end
section
open PySem PySem.W PyProof.Rows PySem.Spec PySem.Calls
set_option maxRecDepth 100000
set_option maxHeartbeats 8000000
namespace Mine
local macro_rules | `(tactic| walk_at "call ref") => `(tactic| (k_here; k_dflt (refine' claim_use (put_tells _ _ _ _ _ _ _ ?p1 ?p2 ?p3 ?p4 ?p5) ?k1 ?k2 ?k3 ?k4 ?k5 ?kK ?kd ?ku ?_; (case p1 => assumption); (case p2 => assumption); (case p3 => assumption); (case p4 => exact And.left (turn_code (by assumption) (by assumption) (by assumption) (by assumption) (by assumption))); (case p5 => exact And.right (turn_code (by assumption) (by assumption) (by assumption) (by assumption) (by assumption))); (case k1 => k_asm); (case k2 => k_asm); (case k3 => k_asm); (case k4 => k_asm); (case k5 => k_asm); (case kK => first | exact rfl | assumption); (case kd => ktr_room); (case ku => ktr_units); k_whole); intro t9 h9 tk9 F9 N9; (try dsimp only); (try k_fold)))
theorem turn_tells (w : World) (x : Str) (t1 : Tok) (i b : Int) (t2 t3 : Tok) (hx : x.length ≤ 22) (hl : Low x) (h0 : 0 ≤ i) (hi : i < x.length) (b0 : 0 ≤ b) (hb : b < 7) :
    Claim w 2 16 62 [.str x t1, .int i t2, .int b t3] (fun t => .str (turnS x i b) t) := by
  unfold Claim
  w_top off
  k_fill
  intro mean mg mb news dp un gd cn cs a ccd cl outer A₀ base h₀ L m s Q E B F X N T hk hdp hun hret
  refine wpAny_call ?_
  k_dflt cell_enter
  k_steps
  exact cb_retS hret rfl (by assumption) (by assumption)
end Mine
end
section
open PySem PySem.W PyProof.Rows PySem.Spec PySem.Calls
set_option maxRecDepth 100000
set_option maxHeartbeats 8000000
namespace Mine
local macro_rules | `(tactic| walk_at "call ref") => `(tactic| (k_here; k_dflt (refine' claim_use (lhash_tells _ _ _ _ ?p1 ?p2) ?k1 ?k2 ?k3 ?k4 ?k5 ?kK ?kd ?ku ?_; (case p1 => assumption); (case p2 => assumption); (case k1 => k_asm); (case k2 => k_asm); (case k3 => k_asm); (case k4 => k_asm); (case k5 => k_asm); (case kK => first | exact rfl | assumption); (case kd => ktr_room); (case ku => ktr_units); k_whole); intro t9 h9 tk9 F9 N9; (try dsimp only); (try k_fold)))
local macro_rules | `(tactic| walk_at "call ref") => `(tactic| (k_here; k_dflt (refine' claim_use (hash_tells _ _ _ ?p1 ?p2) ?k1 ?k2 ?k3 ?k4 ?k5 ?kK ?kd ?ku ?_; (case p1 => assumption); (case p2 => assumption); (case k1 => k_asm); (case k2 => k_asm); (case k3 => k_asm); (case k4 => k_asm); (case k5 => k_asm); (case kK => first | exact rfl | assumption); (case kd => ktr_room); (case ku => ktr_units); k_whole); intro t9 h9 tk9 F9 N9; (try dsimp only); (try k_fold)))
theorem right_tells (w : World) (x : Str) (t1 t2 : Tok) (hx : x.length ≤ 22) (hl : Low x) :
    Claim w 3 24 69 [.str x t1, .int 52811 t2] (fun _ => .bool true) := by
  unfold Claim
  w_top off
  k_fill
  intro mean mg mb news dp un gd cn cs a ccd cl outer A₀ base h₀ L m s Q E B F X N T hk hdp hun hret
  refine wpAny_call ?_
  k_dflt cell_enter
  have hc : ∀ c ∈ x.cps.toList, c < 128 := hl
  k_steps
  exact cb_retB hret (beq_self_eq_true _) (by assumption) (by assumption)
end Mine
end
section
open PySem PySem.W PyProof.Rows PySem.Spec PySem.Calls
set_option maxRecDepth 100000
set_option maxHeartbeats 8000000
namespace Mine
structure TurnIn (x : Str) (i b : Int) : Prop where
  hx : x.length ≤ 22
  hl : Low x
  h0 : 0 ≤ i
  hi : i < x.length
  b0 : 0 ≤ b
  hb : b < 7
theorem turn_use {w : World} {x : Str} {i b : Int} {t1 t2 t3 : Tok} {mean : ExcName → Option Value} {mg mb : Str → Option Value} {news : List (Addr × Obj)} {dp un : Nat} {gd : Option (List Code)} {cn : Str} {cs : Scope} {a : Addr} {ccd : Value} {cl : List (Str × Addr)} {outer : List Env} {A₀ : Around} {base h₀ : Heap} {L : Addr} {m : Str → Option Value} {s : Shared} {Q E : Value → Shared → Prop}
    (I : TurnIn x i b) (B : Below A₀ base outer h₀) (F : Fr h₀ L s.heap m) (X : (hd.heap_39 w.params).In h₀) (N : News h₀ L s.heap news) (T : Top hd.view_39 (looseW hd.view_39 [Str.ofString "hash_password"]) mean mg mb h₀) (hk : cs.kind = .function)
    (hd : dp + 2 < recursionLimit) (hu : un + 16 < cLine)
    (ret : ∀ (y : Str) (t : Tok) (h' : Heap) (tk' : Nat), TurnOk x y i.toNat b.toNat → y.length ≤ 22 → y.length = x.length → Low y → Fr h₀ L h' m → News h₀ L h' news → Q (.str y t) { s with heap := h', toks := tk' }) :
    wpAny (model PySem.Challenge.rw_aa5016_01.row.prog w) (ktrTop dp un gd cn cs L a ccd cl outer) (call (.ref 62) [.str x t1, .int i t2, .int b t3]) Q E s := by
  obtain ⟨hx, hl, h0, hi, b0, hb⟩ := I
  have K := turn_okI hx hl h0 hi b0 hb
  exact claim_use (turn_tells w x t1 i b t2 t3 hx hl h0 hi b0 hb) B F X N T hk hd hu fun t h' tk' F' N' => ret _ t h' tk' K (by rw [K.len]; exact hx) K.len K.low F' N'
theorem int_use {prog : Program} {w : World} {A : Around} {E : Value → Shared → Prop} {s : Shared} {x : Str} {u b : Tok} {Q : Value → Shared → Prop} (hx : x.length ≤ 22) (hl : Low x) (h : Q (.int (hv x : Int) s.toks) { s with toks := s.toks + 1 }) :
    wpAny (model prog w) A (call (.type "int") [.str (hexS (hv x)) u, .int 16 b]) Q E s := call_int_hex (hv_range hx hl).1 (hv_range hx hl).2 h
local macro_rules | `(tactic| walk_at "call ref") => `(tactic| (k_here; k_dflt (refine' claim_use (right_tells _ _ _ _ ?p1 ?p2) ?k1 ?k2 ?k3 ?k4 ?k5 ?kK ?kd ?ku ?_; (case p1 => assumption); (case p2 => assumption); (case k1 => k_asm); (case k2 => k_asm); (case k3 => k_asm); (case k4 => k_asm); (case k5 => k_asm); (case kK => first | exact rfl | assumption); (case kd => ktr_room); (case ku => ktr_units); k_whole); intro t9 h9 tk9 F9 N9; (try dsimp only); (try k_fold)))
local macro_rules | `(tactic| walk_at "call ref") => `(tactic| (k_here; k_dflt (refine' claim_use (hash_tells _ _ _ ?p1 ?p2) ?k1 ?k2 ?k3 ?k4 ?k5 ?kK ?kd ?ku ?_; (case p1 => assumption); (case p2 => assumption); (case k1 => k_asm); (case k2 => k_asm); (case k3 => k_asm); (case k4 => k_asm); (case k5 => k_asm); (case kK => first | exact rfl | assumption); (case kd => ktr_room); (case ku => ktr_units); k_whole); intro t9 h9 tk9 F9 N9; (try dsimp only); (try k_fold)))
local macro_rules | `(tactic| walk_at "call ref") => `(tactic| (k_here; k_dflt (refine' turn_use (TurnIn.mk ?p1 ?p2 ?p3 ?p4 ?p5 ?p6) ?k1 ?k2 ?k3 ?k4 ?k5 ?kK ?kd ?ku ?_; (case p1 => assumption); (case p2 => assumption); (case p3 => first | assumption | l_idx | l_fact); (case p4 => first | assumption | l_idx | l_fact); (case p5 => first | assumption | l_idx | l_fact); (case p6 => first | assumption | l_idx | l_fact); (case k1 => k_asm); (case k2 => k_asm); (case k3 => k_asm); (case k4 => k_asm); (case k5 => k_asm); (case kK => first | exact rfl | assumption); (case kd => ktr_room); (case ku => ktr_units); k_whole); intro y9 t9 h9 tk9 hT9 hY9 hL9 hW9 F9 N9; (try dsimp only); (try k_fold)))
local macro_rules | `(tactic| walk_at "call type:int") => `(tactic| (k_here; k_dflt (refine' int_use ?p1 ?p2 ?_; (case p1 => assumption); (case p2 => assumption); k_whole)))
theorem pair_tells (w : World) (x : Str) (t1 t2 t3 : Tok) (n : Int) (hx : x.length ≤ 22) (hl : Low x) (h1 : 1 ≤ x.length) :
    Claim w 4 32 76 [.str x t1, .int n t2, .int 52811 t3] (fun _ => .bool true) := by
  unfold Claim
  w_top off
  k_fill
  intro mean mg mb news dp un gd cn cs a ccd cl outer A₀ base h₀ L m s Q E B F X N T hk hdp hun hret
  refine wpAny_call ?_
  k_dflt cell_enter
  k_steps
  all_goals first
    | ((with_reducible show Q (Value.bool true) _); exact cb_retB hret rfl (by assumption) (by first | exact news_t2 (by assumption) | exact news_t3 (by assumption) | exact news_t2 (by assumption) | exact news_t4 (by assumption) | exact news_t1 (by assumption)))
    | ((with_reducible show Q (Value.bool false) _); exact (pair_no (by assumption) (by assumption) (fmod_lo _ (by omega)) (fmod_lo _ (by decide))).elim)
    | exact cb_retB hret (pair_law hx hl (by assumption) (by assumption) (by assumption) (by assumption) (fmod_lo _ (by omega)) (fmod_lo _ (by decide)) (fmod_lo _ (by omega)) (fmod_lo _ (by decide))) (by assumption) (by first | exact news_t2 (by assumption) | exact news_t3 (by assumption) | exact news_t2 (by assumption) | exact news_t4 (by assumption) | exact news_t1 (by assumption))
end Mine
end
section
open PySem PySem.W PyProof.Rows PySem.Spec PySem.Calls
set_option maxRecDepth 100000
set_option maxHeartbeats 8000000
namespace Mine
structure PutIn (x : Str) (i c : Int) : Prop where
  hx : x.length ≤ 22
  hl : Low x
  hi : InX i x
  c0 : 0 ≤ c
  hc : c < 128
theorem item_use {prog : Program} {w : World} {A : Around} {E : Value → Shared → Prop} {s : Shared} {x : Str} {t u : Tok} {i : Int} {p1 p2 : Pos} {n1 n2 : Str} {Q : Value → Shared → Prop} (hi : InX i x) (hx : x.length ≤ 22) (h : (1 ≤ (Txt.item x i).length ∧ (Txt.item x i).length ≤ 1) → Q (.str (Txt.item x i) s.toks) { s with toks := s.toks + 1 }) :
    wpAny (model prog w) A (subscriptTail (.Name n1 p1) (.Name n2 p2) (.str x t) (.int i u)) Q E s :=
  item_str (fitsSsize_of (N := 9223372036854775808) (by have := hi.1; omega) (by have := hi.2; omega) (Int.le_refl _)) (by have := hi.1; omega) hi.2 h
theorem put_okI {x : Str} {i c : Int} (I : PutIn x i c) : PutOk x (putS x i c) i.toNat c.toNat := by
  obtain ⟨hx, hl, ⟨h0, hi⟩, c0, hc⟩ := I
  obtain ⟨i, rfl⟩ := Int.eq_ofNat_of_zero_le h0
  obtain ⟨c, rfl⟩ := Int.eq_ofNat_of_zero_le c0
  exact ⟨put_len (by omega), put_low (by omega) hl (by omega), put_cps (by omega), put_hh (by omega)⟩
theorem put_use {w : World} {x : Str} {i c : Int} {t1 t2 t3 : Tok} {mean : ExcName → Option Value} {mg mb : Str → Option Value} {news : List (Addr × Obj)} {dp un : Nat} {gd : Option (List Code)} {cn : Str} {cs : Scope} {a : Addr} {ccd : Value} {cl : List (Str × Addr)} {outer : List Env} {A₀ : Around} {base h₀ : Heap} {L : Addr} {m : Str → Option Value} {s : Shared} {Q E : Value → Shared → Prop}
    (I : PutIn x i c) (B : Below A₀ base outer h₀) (F : Fr h₀ L s.heap m) (X : (hd.heap_39 w.params).In h₀) (N : News h₀ L s.heap news) (T : Top hd.view_39 (looseW hd.view_39 [Str.ofString "hash_password"]) mean mg mb h₀) (hk : cs.kind = .function)
    (hd : dp + 1 < recursionLimit) (hu : un + 8 < cLine)
    (ret : ∀ (y : Str) (t : Tok) (h' : Heap) (tk' : Nat), PutOk x y i.toNat c.toNat → y.length ≤ 22 → y.length = x.length → Low y → Fr h₀ L h' m → News h₀ L h' news → Q (.str y t) { s with heap := h', toks := tk' }) :
    wpAny (model PySem.Challenge.rw_aa5016_01.row.prog w) (ktrTop dp un gd cn cs L a ccd cl outer) (call (.ref 55) [.str x t1, .int i t2, .int c t3]) Q E s := by
  have K := put_okI I
  obtain ⟨hx, hl, ⟨h0, hi⟩, c0, hc⟩ := I
  exact claim_use (put_tells w x t1 i c t2 t3 hx h0 hi c0 hc) B F X N T hk hd hu fun t h' tk' F' N' => ret _ t h' tk' K (by rw [K.len]; exact hx) K.len K.low F' N'
local macro_rules | `(tactic| walk_at "call ref") => `(tactic| (k_here; k_dflt (refine' claim_use (right_tells _ _ _ _ ?p1 ?p2) ?k1 ?k2 ?k3 ?k4 ?k5 ?kK ?kd ?ku ?_; (case p1 => assumption); (case p2 => assumption); (case k1 => k_asm); (case k2 => k_asm); (case k3 => k_asm); (case k4 => k_asm); (case k5 => k_asm); (case kK => first | exact rfl | assumption); (case kd => ktr_room); (case ku => ktr_units); k_whole); intro t9 h9 tk9 F9 N9; (try dsimp only); (try k_fold)))
local macro_rules | `(tactic| walk_at "call ref") => `(tactic| (k_here; k_dflt (refine' claim_use (hash_tells _ _ _ ?p1 ?p2) ?k1 ?k2 ?k3 ?k4 ?k5 ?kK ?kd ?ku ?_; (case p1 => assumption); (case p2 => assumption); (case k1 => k_asm); (case k2 => k_asm); (case k3 => k_asm); (case k4 => k_asm); (case k5 => k_asm); (case kK => first | exact rfl | assumption); (case kd => ktr_room); (case ku => ktr_units); k_whole); intro t9 h9 tk9 F9 N9; (try dsimp only); (try k_fold)))
local macro_rules | `(tactic| walk_at "call ref") => `(tactic| (k_here; k_dflt (refine' claimK_use (hashK_tells _ _ _ ?p1 ?p2) ?k1 ?k2 ?k3 ?k4 ?k5 ?kK ?kd ?ku ?_; (case p1 => assumption); (case p2 => assumption); (case k1 => k_asm); (case k2 => k_asm); (case k3 => k_asm); (case k4 => k_asm); (case k5 => k_asm); (case kK => first | exact rfl | assumption); (case kd => ktr_room); (case ku => ktr_units); k_whole); intro t9 h9 tk9 F9 N9; (try dsimp only); (try k_fold)))
local macro_rules | `(tactic| walk_at "call ref") => `(tactic| (k_here; k_dflt (refine' claimL_use (rings_tells _ _ _ ?p1 ?p2) ?k1 ?k2 ?k3 ?k4 ?k5 ?kK ?kd ?ku ?_; (case p1 => assumption); (case p2 => assumption); (case k1 => k_asm); (case k2 => k_asm); (case k3 => k_asm); (case k4 => k_asm); (case k5 => k_asm); (case kK => first | exact rfl | assumption); (case kd => ktr_room); (case ku => ktr_units); k_whole); intro D9 us9 k9 h9 tk9 F9 N9 l9 i9 e9; (try simp only [AllLt, and_true] at l9); (try dsimp only); (try k_fold)))
local macro_rules | `(tactic| walk_at "call ref") => `(tactic| (k_here; k_dflt (refine' put_use (PutIn.mk ?p1 ?p2 ?p3 code_lo ?p6) ?k1 ?k2 ?k3 ?k4 ?k5 ?kK ?kd ?ku ?_; (case p1 => assumption); (case p2 => assumption); (case p3 => first | exact inx1 _ (by assumption) | exact inx2 _ (by assumption) | exact inx3 _ (by assumption) | (refine inx4 (by assumption) ?_; first | exact inx1 _ (by assumption) | exact inx2 _ (by assumption) | exact inx3 _ (by assumption))); (case p6 => refine code_hi (by assumption) ?_; first | exact inx1 _ (by assumption) | exact inx2 _ (by assumption) | exact inx3 _ (by assumption)); (case k1 => k_asm); (case k2 => k_asm); (case k3 => k_asm); (case k4 => k_asm); (case k5 => k_asm); (case kK => first | exact rfl | assumption); (case kd => ktr_room); (case ku => ktr_units); k_whole); intro y9 t9 h9 tk9 hT9 hY9 hL9 hW9 F9 N9; (try dsimp only); (try k_fold)))
local macro_rules | `(tactic| walk_at "subscriptTail Name Name str int") => `(tactic| (k_here; k_dflt (refine' item_use ?p1 ?p2 ?_; (case p1 => first | exact inx1 _ (by assumption) | exact inx2 _ (by assumption) | exact inx3 _ (by assumption)); (case p2 => assumption); k_whole); intro _))
local macro_rules | `(tactic| walk_at "compareOp Eq ref ref") => `(tactic| (k_here; (with_reducible show wpAny _ _ (compareOp CmpOp.Eq (Value.ref _) (Value.ref _)) _ _ _); k_dflt (refine' eq_intsK ?k1 ?k2 ?k3 ?k4 ?k5 ?_; (case k1 => exact News.isList (by assumption) (by k_mem)); (case k2 => assumption); (case k3 => exact News.isList (by assumption) (by k_mem)); (case k4 => assumption); (case k5 => ktr_units); k_whole)))
theorem exch_tells (w : World) (x : Str) (t1 t2 t3 : Tok) (n : Int) (hx : x.length ≤ 22) (hl : Low x) (h1 : 1 ≤ x.length) :
    Claim w 4 128 83 [.str x t1, .int n t2, .int 52811 t3] (fun _ => .bool true) := by
  unfold Claim
  w_top off
  k_fill
  intro mean mg mb news dp un gd cn cs a ccd cl outer A₀ base h₀ L m s Q E B F X N T hk hdp hun hret
  refine wpAny_call ?_
  k_dflt cell_enter
  have kMark : KstMark := kstMark
  k_steps
  all_goals first
    | ((with_reducible show Q (Value.bool true) _); exact cb_retB hret rfl (by assumption) (by first | exact news_t4 (by assumption) | exact news_t3 (by assumption) | exact news_t2 (by assumption) | exact news_t4 (by assumption) | exact news_t1 (by assumption)))
    | ((with_reducible show Q (Value.bool false) _); (refine' (exch_no ?q1 ?q2 ?q3 ?q4 ?q5 ?q6 hx hl).elim; (case q3 => assumption); (case q4 => assumption); (case q1 => assumption); (case q2 => assumption); (case q5 => first | exact inx1 _ (by assumption) | exact inx2 _ (by assumption) | exact inx3 _ (by assumption)); (case q6 => first | exact inx1 _ (by assumption) | exact inx2 _ (by assumption) | exact inx3 _ (by assumption))))
    | exact cb_retB hret (exch_law hx hl (by assumption) (by assumption) (by assumption) (by assumption)) (by assumption) (by first | exact news_t4 (by assumption) | exact news_t3 (by assumption) | exact news_t2 (by assumption) | exact news_t4 (by assumption) | exact news_t1 (by assumption))
end Mine
end
section
open PySem PySem.W PyProof.Rows PySem.Spec PySem.Calls
set_option maxRecDepth 100000
set_option maxHeartbeats 8000000
namespace Mine
theorem ce4b : hexS (hv (Str.ofString "")) = Str.ofString "CE4B" := by decide +kernel
theorem ce4b2 : hexS 52811 = Str.ofString "CE4B" := by decide +kernel
theorem hash0_said (w : World) : Claim w 1 8 22 [] (fun t => .str (Str.ofString "CE4B") t) := by
  rw [← ce4b]; exact hash0_tells w
theorem hashE_said (w : World) (t : Tok) : Claim w 1 8 22 [.str (Str.ofString "") t] (fun t => .str (Str.ofString "CE4B") t) := by
  rw [← ce4b]; exact hash_tells w _ t (by decide +kernel) (by decide +kernel)
theorem int_ce4b {prog : Program} {w : World} {A : Around} {E : Value → Shared → Prop} {s : Shared} {u b : Tok} {Q : Value → Shared → Prop} (h : Q (.int 52811 s.toks) { s with toks := s.toks + 1 }) :
    wpAny (model prog w) A (call (.type "int") [.str (Str.ofString "CE4B") u, .int 16 b]) Q E s := by
  rw [← ce4b2]
  exact call_int_hex (v := 52811) (by decide) (by decide) h
theorem tail_cps {x : Str} : (Txt.slice (x ++ Str.ofString "sheet's own lock") none (some 22)).cps.toList = (x.cps.toList ++ (Str.ofString "sheet's own lock").cps.toList).take 22 ∨ True := .inr trivial
theorem drawn_use {w : World} {l : Addr} {vs : List Value} {ns : List Int} {mean : ExcName → Option Value} {mg mb : Str → Option Value} {news : List (Addr × Obj)} {dp un : Nat} {gd : Option (List Code)} {cn : Str} {cs : Scope} {a : Addr} {ccd : Value} {cl : List (Str × Addr)} {outer : List Env} {A₀ : Around} {base h₀ : Heap} {L : Addr} {m : Str → Option Value} {s : Shared} {Q E : Value → Shared → Prop}
    (hl : base.IsList l vs.toArray) (hi : IntsAre vs ns) (hn : ns.length ≤ 63) (B : Below A₀ base outer h₀) (F : Fr h₀ L s.heap m) (X : (hd.heap_39 w.params).In h₀) (N : News h₀ L s.heap news) (T : Top hd.view_39 (looseW hd.view_39 [Str.ofString "hash_password"]) mean mg mb h₀) (hk : cs.kind = .function)
    (hd : dp + 1 < recursionLimit) (hu : un + 8 < cLine)
    (ret : ∀ (x : Str) (t : Tok) (h' : Heap) (tk' : Nat), x.length ≤ 15 → x.length ≤ 22 → Low x → Fr h₀ L h' m → News h₀ L h' news → Q (.str x t) { s with heap := h', toks := tk' }) :
    wpAny (model PySem.Challenge.rw_aa5016_01.row.prog w) (ktrTop dp un gd cn cs L a ccd cl outer) (call (.ref 29) [.ref l]) Q E s :=
  drawn_tells w _ _ _ _ _ _ _ _ _ _ _ _ _ _ _ _ _ _ _ _ _ _ _ _ B F X N T hk hd hu hl hi hn fun x t h' tk' a b F' N' => ret x t h' tk' a (Nat.le_trans a (by decide)) b F' N'
local macro_rules | `(tactic| walk_at "call ref") => `(tactic| (k_here; k_dflt (refine' claim_use (hash0_said _) ?k1 ?k2 ?k3 ?k4 ?k5 ?kK ?kd ?ku ?_; (case k1 => k_asm); (case k2 => k_asm); (case k3 => k_asm); (case k4 => k_asm); (case k5 => k_asm); (case kK => first | exact rfl | assumption); (case kd => ktr_room); (case ku => ktr_units); k_whole); intro t9 h9 tk9 F9 N9; (try dsimp only); (try k_fold)))
local macro_rules | `(tactic| walk_at "call ref") => `(tactic| (k_here; k_dflt (refine' claim_use (hashE_said _ _) ?k1 ?k2 ?k3 ?k4 ?k5 ?kK ?kd ?ku ?_; (case k1 => k_asm); (case k2 => k_asm); (case k3 => k_asm); (case k4 => k_asm); (case k5 => k_asm); (case kK => first | exact rfl | assumption); (case kd => ktr_room); (case ku => ktr_units); k_whole); intro t9 h9 tk9 F9 N9; (try dsimp only); (try k_fold)))
local macro_rules | `(tactic| walk_at "call ref") => `(tactic| (k_here; k_dflt (refine' drawn_use ?p1 ?p2 ?p3 ?k1 ?k2 ?k3 ?k4 ?k5 ?kK ?kd ?ku ?_; (case p1 => k_asm); (case p2 => k_asm); (case p3 => omega); (case k1 => k_asm); (case k2 => k_asm); (case k3 => k_asm); (case k4 => k_asm); (case k5 => k_asm); (case kK => first | exact rfl | assumption); (case kd => ktr_room); (case ku => ktr_units); k_whole); intro x9 t9 h9 tk9 hA9 hB9 hC9 F9 N9; (try dsimp only); (try k_fold)))
local macro_rules | `(tactic| walk_at "call type:int") => `(tactic| (k_here; k_dflt (refine' int_ce4b ?_; k_whole)))
local macro_rules | `(tactic| walk_at "call ref") => `(tactic| (k_here; k_dflt (refine' claim_use (right_tells _ _ _ _ ?p1 ?p2) ?k1 ?k2 ?k3 ?k4 ?k5 ?kK ?kd ?ku ?_; (case p1 => assumption); (case p2 => assumption); (case k1 => k_asm); (case k2 => k_asm); (case k3 => k_asm); (case k4 => k_asm); (case k5 => k_asm); (case kK => first | exact rfl | assumption); (case kd => ktr_room); (case ku => ktr_units); k_whole); intro t9 h9 tk9 F9 N9; (try dsimp only); (try k_fold)))
local macro_rules | `(tactic| walk_at "call ref") => `(tactic| (k_here; k_dflt (refine' claim_use (pair_tells _ _ _ _ _ _ ?p1 ?p2 ?p3) ?k1 ?k2 ?k3 ?k4 ?k5 ?kK ?kd ?ku ?_; (case p1 => assumption); (case p2 => assumption); (case p3 => first | assumption | exact len_pos (by assumption)); (case k1 => k_asm); (case k2 => k_asm); (case k3 => k_asm); (case k4 => k_asm); (case k5 => k_asm); (case kK => first | exact rfl | assumption); (case kd => ktr_room); (case ku => ktr_units); k_whole); intro t9 h9 tk9 F9 N9; (try dsimp only); (try k_fold)))
local macro_rules | `(tactic| walk_at "call ref") => `(tactic| (k_here; k_dflt (refine' claim_use (exch_tells _ _ _ _ _ _ ?p1 ?p2 ?p3) ?k1 ?k2 ?k3 ?k4 ?k5 ?kK ?kd ?ku ?_; (case p1 => assumption); (case p2 => assumption); (case p3 => first | assumption | exact len_pos (by assumption)); (case k1 => k_asm); (case k2 => k_asm); (case k3 => k_asm); (case k4 => k_asm); (case k5 => k_asm); (case kK => first | exact rfl | assumption); (case kd => ktr_room); (case ku => ktr_units); k_whole); intro t9 h9 tk9 F9 N9; (try dsimp only); (try k_fold)))
theorem slice_tail {prog : Program} {w : World} {A : Around} {E : Value → Shared → Prop} {s : Shared} {h₀ : Heap} {L : Addr} {m : Str → Option Value} {news : List (Addr × Obj)} {x : Str} {t uj : Tok} {value slice : PySem.Expr} {Q : Value → Shared → Prop} (hA : x.length ≤ 15) (hC : Low x)
    (hF : Fr h₀ L s.heap m) (hN : News h₀ L s.heap news) (h : ∀ (y : Str) h' t' k, y.length ≤ 22 → 1 ≤ y.length → Low y → Fr h₀ L h' m → News h₀ L h' news → Q (.str y t') { s with heap := h', toks := k })
    (hs : subscripted slice false (.str (x ++ Str.ofString "sheet's own lock") t) (.ref s.heap.objs.size) = operate [.ref s.heap.objs.size, .str (x ++ Str.ofString "sheet's own lock") t] (getItem (.str (x ++ Str.ofString "sheet's own lock") t) (.ref s.heap.objs.size)) := by with_unfolding_all rfl)
    (ht : ∀ r, letTemporaryGo value (.str (x ++ Str.ofString "sheet's own lock") t) r = pure () := by intro _; with_unfolding_all rfl) :
    wpAny (model prog w) A (subscriptTail value slice (.str (x ++ Str.ofString "sheet's own lock") t) (.ref s.heap.objs.size)) Q E { s with heap := s.heap.push { cls := .type "slice", data := .fields #[.none, .int 22 uj, .none] } } :=
  slice_strN_ns hF hN (fun h' t' k a b => h _ h' t' k (tail_len hA) tail_pos (tail_low hC) a b) hs ht (by rw [Str.length_append, lock_len, sizeLine_eq]; omega)
local macro_rules | `(tactic| walk_at "subscriptTail") => `(tactic| (k_here; (with_reducible show wpAny _ _ (subscriptTail (PySem.Expr.BinOp _ _ _ _) _ _ _) _ _ _); (with_reducible rename Fr _ _ _ _ => F'); (with_reducible rename News _ _ _ _ => N'); k_dflt (refine slice_tail (s := ⟨_, _, _, _, _⟩) (by assumption) (by assumption) F' N' ?_); intro y9 _ _ _ _ _ _ _ _))
local macro_rules | `(tactic| walk_at "binaryOp Add ref ref") => `(tactic| (k_here; (with_reducible show wpAny _ _ (binaryOp _ (Value.ref _) (Value.ref _)) _ _ _); k_made; (with_reducible rename Fr _ _ _ _ => F'); (with_reducible rename News _ _ _ _ => N'); k_dflt (refine' kmk_add_ints F' N' ?a ?b ?i ?j ?_ ?z; (case a => exact News.isList N' (by k_mem)); (case b => exact News.isList N' (by k_mem)); (case i => l_ints); (case j => l_ints); (case z => ((try simp only [List.length_map, sizeLine_eq, List.length_cons, List.length_nil]); (refine Nat.le_trans (Nat.add_le_add_left (List.length_filter_le _ _) _) ?_); simp only [List.length_take, List.length_drop]; omega))); intro D' ws' h' F' N' l1 hI'; (try k_lt l1); (try k_sweep)))
local macro_rules | `(tactic| walk_at "exec For") => `(tactic| (k_here; (with_reducible show wpAny _ _ (exec (Stmt.For (Expr.Name _ _) (Expr.BinOp _ _ _ _) _ _ _) _) _ _ _); (rename Fr _ _ _ _ => lF'); (with_unfolding_all refine' For_invVF lF' ?k1 ?k2 ?_; (case k1 => exact rfl); (case k2 => exact rfl)); k_whole))
local macro_rules | `(tactic| walk_at "InvEndN") => `(tactic| k_dflt ksr_close)
theorem law_walk : PySem.Challenge.rw_aa5016_01.Holds := hd (by
  w_top off
  k_go0
  (all_goals try k_fold)
  k_with "pyIter ref" => (k_of "number" => k_search (fun _ => True))
  k_steps)
end Mine
end
theorem PySem.Challenge.cw_aa5016_01_holds : PySem.Challenge.rw_aa5016_01.Holds := by
  exact Mine.law_walk
