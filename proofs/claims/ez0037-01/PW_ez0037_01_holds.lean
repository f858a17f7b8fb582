import PyProof.Rows.All
import Wide.All
import OpenK.AllK
import Wide.FinOn
import PySem.Challenge.RW_ez0037_01
set_option linter.all false
set_option exponentiation.threshold 2000
open PySem PySem.W PySem.Calls PyProof.Rows
set_option Elab.async false
set_option maxRecDepth 100000
namespace Mine
set_option maxHeartbeats 8000000 in
open_top hd for PySem.Challenge.rw_ez0037_01
section
example : True := by
  k_with_none
  w_top off
  trivial
/-- octets of a list of ints -/
def octs (ks : List Int) : List Nat := ks.map Int.toNat

def mirrorN (number : Nat) : Nat → Nat
  | 0 => 0
  | k + 1 => 2 * mirrorN number k + (number / 2 ^ k) % 2

/-- one octet into the register, through the table: forward, turned, of eight bits -/
def octF (s M : Nat) (tab : List Nat) (c x : Nat) : Nat := tab.getD (x ^^^ (c >>> s &&& 255)) 0 ^^^ (c <<< 8 &&& M)
def octR (tab : List Nat) (c x : Nat) : Nat := tab.getD (x ^^^ (c &&& 255)) 0 ^^^ (c >>> 8)
def octT (tab : List Nat) (c x : Nat) : Nat := tab.getD (x ^^^ c) 0
theorem octs_snoc (f : Nat → Nat → Nat) (c : Nat) (pre : List Int) (k : Int) : (octs (pre ++ [k])).foldl f c = f ((octs pre).foldl f c) k.toNat := by
  simp [octs]
theorem fold_lt_of {f : Nat → Nat → Nat} {B c : Nat} (h : ∀ c x, f c x < B) (hc : c < B) : ∀ l : List Nat, l.foldl f c < B := by
  intro l
  induction l generalizing c with
  | nil => exact hc
  | cons x r ih => exact ih (h c x)
theorem getD_lt {tab : List Nat} {B : Nat} (ht : ∀ x ∈ tab, x < B) (hB : 0 < B) (i : Nat) : tab.getD i 0 < B := by
  rw [List.getD_eq_getElem?_getD]
  cases h : tab[i]? with
  | none => exact hB
  | some v => exact ht v (List.mem_of_getElem? h)
theorem octT_lt {tab : List Nat} {B : Nat} (ht : ∀ x ∈ tab, x < B) (hB : 0 < B) (c x : Nat) : octT tab c x < B := getD_lt ht hB _
theorem octF_lt {tab : List Nat} {n s M : Nat} (ht : ∀ x ∈ tab, x < 2 ^ n) (hM : M < 2 ^ n) (c x : Nat) : octF s M tab c x < 2 ^ n :=
  Nat.xor_lt_two_pow (getD_lt ht (Nat.two_pow_pos n) _) (Nat.lt_of_le_of_lt Nat.and_le_right hM)
/-- octets read as a number, the greatest first -/
def beN (l : List Nat) : Nat := l.foldl (fun a k => a * 256 + k) 0
theorem beN_snoc (l : List Nat) (k : Nat) : beN (l ++ [k]) = beN l * 256 + k := by simp [beN]
theorem beN_lt : ∀ l : List Nat, (∀ x ∈ l, x < 256) → beN l < 2 ^ (8 * l.length) := by
  have key : ∀ (l : List Nat) (a : Nat), (∀ x ∈ l, x < 256) → l.foldl (fun a k => a * 256 + k) a < (a + 1) * 2 ^ (8 * l.length) := by
    intro l
    induction l with
    | nil => intro a _; simp
    | cons k r ih =>
      intro a h
      have h1 := ih (a * 256 + k) fun x hx => h x (.tail _ hx)
      have hk := h k (.head _)
      rw [List.foldl_cons, List.length_cons]
      refine Nat.lt_of_lt_of_le h1 ?_
      have e : 2 ^ (8 * (r.length + 1)) = 256 * 2 ^ (8 * r.length) := by
        rw [Nat.mul_add, Nat.mul_one, Nat.pow_add, Nat.mul_comm]
      rw [e, ← Nat.mul_assoc]
      exact Nat.mul_le_mul_right _ (by omega)
  intro l h
  have := key l 0 h
  simpa [beN] using this
/-- the octets of an array -/
def arrN (b : Array UInt8) : List Nat := b.toList.map UInt8.toNat
theorem arrN_lt (b : Array UInt8) : ∀ x ∈ arrN b, x < 256 := by
  intro x hx
  obtain ⟨c, _, rfl⟩ := List.mem_map.mp hx
  exact c.toNat_lt
theorem arrN_length (b : Array UInt8) : (arrN b).length = b.size := by simp [arrN]
/-- long division, turned: the bits below k are done -/
def divLo (D M : Nat) : Nat → Nat
  | 0 => M
  | k + 1 => if divLo D M k >>> k % 2 = 1 then divLo D M k ^^^ D <<< k else divLo D M k
/-- long division, the greatest bit first: j bits of w are done -/
def divHi (D size w M : Nat) : Nat → Nat
  | 0 => M
  | j + 1 => if divHi D size w M j >>> (size + (w - 1 - j)) % 2 = 1 then divHi D size w M j ^^^ D <<< (w - 1 - j) else divHi D size w M j
def sumLo (D start last : Nat) (l : List Nat) : Nat := divLo D (beN l.reverse ^^^ start ^^^ last) (8 * l.length) >>> (8 * l.length) ^^^ last
def sumHi (D size start last : Nat) (l : List Nat) : Nat := divHi D size (8 * l.length) (beN l <<< size ^^^ (start ^^^ last) <<< (8 * l.length)) (8 * l.length) ^^^ last
theorem divLo_t {D M : Nat} {pre : List Int} {x : Int} (h : ((divLo D M pre.length >>> pre.length % 2 : Nat) : Int) = 1) :
    ((divLo D M pre.length ^^^ D <<< pre.length : Nat) : Int) = ((divLo D M (pre ++ [x]).length : Nat) : Int) := by
  have h' : divLo D M pre.length >>> pre.length % 2 = 1 := by omega
  rw [List.length_append, List.length_singleton, divLo, if_pos h']
theorem divLo_f {D M : Nat} {pre : List Int} {x y : Int} (hy : y = ((divLo D M pre.length : Nat) : Int)) (h : ((divLo D M pre.length >>> pre.length % 2 : Nat) : Int) ≠ 1) :
    y = ((divLo D M (pre ++ [x]).length : Nat) : Int) := by
  have h' : ¬ divLo D M pre.length >>> pre.length % 2 = 1 := by omega
  rw [List.length_append, List.length_singleton, divLo, if_neg h', hy]
theorem divHi_t {D size w M : Nat} {pre : List Int} {x : Int} {i k : Nat} (h : ((divHi D size w M pre.length >>> i % 2 : Nat) : Int) = 1) (hi : i = size + (w - 1 - pre.length)) (hk : k = w - 1 - pre.length) :
    ((divHi D size w M pre.length ^^^ D <<< k : Nat) : Int) = ((divHi D size w M (pre ++ [x]).length : Nat) : Int) := by
  subst hi hk
  have h' : divHi D size w M pre.length >>> (size + (w - 1 - pre.length)) % 2 = 1 := by omega
  rw [List.length_append, List.length_singleton, divHi, if_pos h']
theorem divHi_f {D size w M : Nat} {pre : List Int} {x y : Int} {i : Nat} (hy : y = ((divHi D size w M pre.length : Nat) : Int)) (h : ((divHi D size w M pre.length >>> i % 2 : Nat) : Int) ≠ 1) (hi : i = size + (w - 1 - pre.length)) :
    y = ((divHi D size w M (pre ++ [x]).length : Nat) : Int) := by
  subst hi
  have h' : ¬ divHi D size w M pre.length >>> (size + (w - 1 - pre.length)) % 2 = 1 := by omega
  rw [List.length_append, List.length_singleton, divHi, if_neg h', hy]
theorem sumLo_is {D start last n : Nat} {b : Array UInt8} (h : n = 8 * b.size) : divLo D (beN (arrN b).reverse ^^^ start ^^^ last) n >>> (8 * b.size) ^^^ last = sumLo D start last (arrN b) := by
  unfold sumLo; rw [arrN_length, h]
theorem sumHi_is {D size start last n : Nat} {b : Array UInt8} (h : n = 8 * b.size) : divHi D size (8 * b.size) (beN (arrN b) <<< size ^^^ (start ^^^ last) <<< (8 * b.size)) n ^^^ last = sumHi D size start last (arrN b) := by
  unfold sumHi; rw [arrN_length, h]
theorem mirror_turn {number : Nat} {tu nu k : Int} {pre : List Int} (h1 : tu = (mirrorN number pre.length : Nat)) (h2 : nu = ((number / 2 ^ pre.length : Nat) : Int)) :
    2 * tu + ((number / 2 ^ pre.length % 2 : Nat) : Int) = (mirrorN number (pre ++ [k]).length : Nat) ∧ Int.fdiv nu 2 = ((number / 2 ^ (pre ++ [k]).length : Nat) : Int) := by
  subst h1 h2
  rw [List.length_append, List.length_singleton, Int.fdiv_eq_ediv_of_nonneg _ (by omega)]
  have e : number / 2 ^ (pre.length + 1) = number / 2 ^ pre.length / 2 := by rw [Nat.div_div_eq_div_mul, Nat.pow_succ]
  refine ⟨?_, ?_⟩
  · show _ = ((2 * mirrorN number pre.length + number / 2 ^ pre.length % 2 : Nat) : Int)
    omega
  · rw [e]; omega
/-- the bits of x turned, k of them -/
def revN (x : Nat) : Nat → Nat
  | 0 => 0
  | k + 1 => revN x k <<< 1 ||| (x >>> k &&& 1)
theorem revN_lt (x : Nat) : ∀ k, revN x k < 2 ^ k
  | 0 => by simp [revN]
  | k + 1 => by
    have h := revN_lt x k
    refine Nat.or_lt_two_pow ?_ ?_
    · rw [Nat.shiftLeft_eq, Nat.pow_one, Nat.pow_succ]; omega
    · refine Nat.lt_of_le_of_lt Nat.and_le_right ?_
      have : 2 ≤ 2 ^ (k + 1) := by rw [Nat.pow_succ]; have := Nat.two_pow_pos k; omega
      omega
theorem lt_big {a k : Nat} (h : a < 2 ^ k) (hk : k ≤ 1000) : a < 2 ^ 1000 := Nat.lt_of_lt_of_le h (Nat.pow_le_pow_right (by decide) hk)
/-- a bit into the register, forward: m the greatest bit; not cut -/
def bitF (m P c : Nat) : Nat := if c &&& m = 0 then c <<< 1 else c <<< 1 ^^^ P
def itF (m P c : Nat) : Nat → Nat
  | 0 => c
  | k + 1 => bitF m P (itF m P c k)
theorem itF_lt {m P c n : Nat} (hm : m < 2 ^ n) (hP : P < 2 ^ n) (hc : c < 2 ^ n) : ∀ k, itF m P c k < 2 ^ (n + k)
  | 0 => hc
  | k + 1 => by
    have h := itF_lt hm hP hc k
    have h1 : itF m P c k <<< 1 < 2 ^ (n + (k + 1)) := by
      rw [Nat.shiftLeft_eq, Nat.pow_one, ← Nat.add_assoc, Nat.pow_succ]; omega
    show bitF m P (itF m P c k) < _
    unfold bitF
    split
    · exact h1
    · exact Nat.xor_lt_two_pow h1 (Nat.lt_of_lt_of_le hP (Nat.pow_le_pow_right (by decide) (by omega)))
/-- a bit into the register, turned -/
def bitR (P c : Nat) : Nat := if c &&& 1 = 0 then c >>> 1 else c >>> 1 ^^^ P
def itR (P c : Nat) : Nat → Nat
  | 0 => c
  | k + 1 => bitR P (itR P c k)
theorem itF_t {m P c : Nat} {pre : List Int} {x : Int} (h : ((itF m P c pre.length &&& m : Nat) : Int) ≠ 0) : ((itF m P c pre.length <<< 1 ^^^ P : Nat) : Int) = ((itF m P c (pre ++ [x]).length : Nat) : Int) := by
  have h' : ¬ itF m P c pre.length &&& m = 0 := by omega
  rw [List.length_append, List.length_singleton, itF, bitF, if_neg h']
theorem itF_f {m P c : Nat} {pre : List Int} {x : Int} (h : ((itF m P c pre.length &&& m : Nat) : Int) = 0) : ((itF m P c pre.length <<< 1 : Nat) : Int) = ((itF m P c (pre ++ [x]).length : Nat) : Int) := by
  have h' : itF m P c pre.length &&& m = 0 := by omega
  rw [List.length_append, List.length_singleton, itF, bitF, if_pos h']
theorem itR_t {P c : Nat} {pre : List Int} {x : Int} (h : ((itR P c pre.length &&& 1 : Nat) : Int) ≠ 0) : ((itR P c pre.length >>> 1 ^^^ P : Nat) : Int) = ((itR P c (pre ++ [x]).length : Nat) : Int) := by
  have h' : ¬ itR P c pre.length &&& 1 = 0 := by omega
  rw [List.length_append, List.length_singleton, itR, bitR, if_neg h']
theorem itR_f {P c : Nat} {pre : List Int} {x : Int} (h : ((itR P c pre.length &&& 1 : Nat) : Int) = 0) : ((itR P c pre.length >>> 1 : Nat) : Int) = ((itR P c (pre ++ [x]).length : Nat) : Int) := by
  have h' : itR P c pre.length &&& 1 = 0 := by omega
  rw [List.length_append, List.length_singleton, itR, bitR, if_pos h']
theorem octs_arr (b : Array UInt8) : octs (KBw.bInts b) = arrN b := by
  unfold octs KBw.bInts arrN
  rw [List.map_map]
  exact List.map_congr_left fun x _ => by simp
/-- the step of an octet into a register of n bits, and the register after the octets -/
def stepOf (n : Nat) (rev : Bool) (tab : List Nat) (c x : Nat) : Nat := bif rev then octR tab c x else octF (n - 8) (2 ^ n - 256) tab c x
def crcOf (n : Nat) (rev : Bool) (tab : List Nat) (c : Nat) (l : List Nat) : Nat := l.foldl (stepOf n rev tab) c
theorem shr_eight {c : Nat} (h : c < 2 ^ 8) : c >>> 8 = 0 := by rw [Nat.shiftRight_eq_div_pow]; exact Nat.div_eq_of_lt h
theorem and_255 {c : Nat} (h : c < 2 ^ 8) : c &&& 255 = c := by
  have e := Nat.and_two_pow_sub_one_eq_mod c 8
  rw [show (255 : Nat) = 2 ^ 8 - 1 from rfl, e]; exact Nat.mod_eq_of_lt h
theorem and_mask {c n : Nat} (h : c < 2 ^ n) : c &&& (2 ^ n - 1) = c := by
  rw [Nat.and_two_pow_sub_one_eq_mod]; exact Nat.mod_eq_of_lt h
theorem step8 {rev : Bool} {tab : List Nat} {c x : Nat} (h : c < 2 ^ 8) : stepOf 8 rev tab c x = octT tab c x := by
  cases rev
  · show octF 0 0 tab c x = _
    unfold octF octT
    rw [Nat.shiftRight_zero, and_255 h, Nat.and_zero, Nat.xor_zero]
  · show octR tab c x = _
    unfold octR octT
    rw [and_255 h, shr_eight h, Nat.xor_zero]
theorem fold8 {rev : Bool} {tab : List Nat} (ht : ∀ x ∈ tab, x < 2 ^ 8) : ∀ (l : List Nat) (c : Nat), c < 2 ^ 8 → l.foldl (octT tab) c = crcOf 8 rev tab c l := by
  intro l
  induction l with
  | nil => intro c _; rfl
  | cons x r ih =>
    intro c hc
    show r.foldl (octT tab) (octT tab c x) = r.foldl (stepOf 8 rev tab) (stepOf 8 rev tab c x)
    rw [step8 hc]
    exact ih _ (octT_lt ht (by decide) c x)
theorem octR_lt {tab : List Nat} {n : Nat} (ht : ∀ x ∈ tab, x < 2 ^ n) {c : Nat} (hc : c < 2 ^ n) (x : Nat) : octR tab c x < 2 ^ n :=
  Nat.xor_lt_two_pow (getD_lt ht (Nat.two_pow_pos n) _) (Nat.lt_of_le_of_lt (by rw [Nat.shiftRight_eq_div_pow]; exact Nat.div_le_self _ _) hc)
theorem stepOf_lt {n : Nat} {rev : Bool} {tab : List Nat} (ht : ∀ x ∈ tab, x < 2 ^ n) {c : Nat} (hc : c < 2 ^ n) (x : Nat) : stepOf n rev tab c x < 2 ^ n := by
  cases rev
  · exact octF_lt ht (Nat.sub_lt (Nat.two_pow_pos n) (by decide)) c x
  · exact octR_lt ht hc x
theorem crcOf_lt {n : Nat} {rev : Bool} {tab : List Nat} (ht : ∀ x ∈ tab, x < 2 ^ n) : ∀ (l : List Nat) {c : Nat}, c < 2 ^ n → crcOf n rev tab c l < 2 ^ n := by
  intro l
  induction l with
  | nil => intro c hc; exact hc
  | cons x r ih => intro c hc; exact ih (stepOf_lt ht hc x)
def isSize (n : Nat) : Prop := n = 8 ∨ n = 16 ∨ n = 24 ∨ n = 32 ∨ n = 64
theorem isSize.lo {n : Nat} (h : isSize n) : 8 ≤ n := by unfold isSize at h; omega
theorem isSize.hi {n : Nat} (h : isSize n) : n ≤ 64 := by unfold isSize at h; omega
/-- where the head's heap holds the octet loop -/
def fnAddr (n : Nat) (rev : Bool) : Addr := match n, rev with
  | 8, false => 74 | 8, true => 81 | 16, false => 88 | 16, true => 95 | 24, false => 102 | 24, true => 109 | 32, false => 116 | 32, true => 123 | _, false => 130 | _, true => 137
end
section
example : True := by
  k_with_none
  w_top off
  trivial
/-- a row put to the rows: the rows, and the rows with it -/
def addRow (rows : List Nat) (row : Nat) : List Nat := rows ++ rows.map fun x => row ^^^ x
def tabOf (l : List Nat) : List Nat := l.foldl addRow [0]
theorem addRow_length (rows : List Nat) (row : Nat) : (addRow rows row).length = 2 * rows.length := by simp [addRow]; omega
theorem tabOf_length (l : List Nat) : (tabOf l).length = 2 ^ l.length := by
  have key : ∀ (l rows : List Nat), (l.foldl addRow rows).length = rows.length * 2 ^ l.length := by
    intro l
    induction l with
    | nil => intro rows; simp
    | cons x r ih => intro rows; rw [List.foldl_cons, ih, addRow_length, List.length_cons, Nat.pow_succ, Nat.mul_comm 2, Nat.mul_assoc, Nat.mul_comm (2 ^ r.length)]
  simpa [tabOf] using key l [0]
theorem tabOf_take_succ {xs : List Nat} {i x : Nat} (h : xs[i]? = some x) : tabOf (xs.take (i + 1)) = addRow (tabOf (xs.take i)) x := by
  rw [List.take_add_one, h]; simp [tabOf]
theorem and_mask_lt (P n : Nat) : P &&& (2 ^ n - 1) < 2 ^ n := Nat.lt_of_le_of_lt Nat.and_le_right (Nat.sub_lt (Nat.two_pow_pos n) (by decide))
theorem le128 {k : Nat} (h : k ∈ [1, 2, 4, 8, 16, 32, 64, 128]) : k ≤ 128 := by simp at h; omega
theorem shl_lt {k n : Nat} (h : k ≤ 128) (hn : 8 ≤ n) : k <<< (n - 8) < 2 ^ n := by
  rw [Nat.shiftLeft_eq]
  have e : 2 ^ n = 256 * 2 ^ (n - 8) := by rw [show (256 : Nat) = 2 ^ 8 from rfl, ← Nat.pow_add]; congr 1; omega
  rw [e]
  exact Nat.mul_lt_mul_of_pos_right (by omega) (Nat.two_pow_pos _)
def rowF (P n k : Nat) : Nat := itF (1 <<< (n - 1)) (P &&& (2 ^ n - 1)) (k <<< (n - 8)) 8 &&& (2 ^ n - 1)
def rowR (P n k : Nat) : Nat := itR (revN (P &&& (2 ^ n - 1)) n) k 8 &&& (2 ^ n - 1)
def tabF (P n : Nat) : List Nat := tabOf ([1, 2, 4, 8, 16, 32, 64, 128].map (rowF P n))
def tabR (P n : Nat) : List Nat := tabOf ([1, 2, 4, 8, 16, 32, 64, 128].map (rowR P n))
-- the registers are linear
theorem xlc (a b c : Nat) : a ^^^ (b ^^^ c) = b ^^^ (a ^^^ c) := by rw [← Nat.xor_assoc, Nat.xor_comm a b, Nat.xor_assoc]
theorem xor_add_and (m : Nat) : ∀ n : Nat, (m ^^^ n) + 2 * (m &&& n) = m + n := by
  induction m using Nat.strongRecOn with
  | ind m ih =>
    intro n
    by_cases h0 : m = 0
    · subst h0; simp
    · have ih' := ih (m / 2) (by omega) (n / 2)
      rw [← Nat.xor_div_two, ← Nat.and_div_two] at ih'
      have o1 := @Nat.xor_mod_two_eq_one m n
      have a1 := @Nat.and_mod_two_eq_one m n
      omega
theorem and1 (c : Nat) : c &&& 1 = c % 2 := Nat.and_one_is_mod c
theorem xor_mod2 (a b : Nat) : (a ^^^ b) % 2 = (a % 2) ^^^ (b % 2) := by
  have := @Nat.xor_mod_two_pow a b 1
  simpa using this
theorem xor_cancel (a b : Nat) : a ^^^ (a ^^^ b) = b := by rw [← Nat.xor_assoc, Nat.xor_self, Nat.zero_xor]
theorem bitR_xor (P a b : Nat) : bitR P (a ^^^ b) = bitR P a ^^^ bitR P b := by
  unfold bitR
  rw [and1, and1, and1, xor_mod2, Nat.shiftRight_xor_distrib]
  rcases Nat.mod_two_eq_zero_or_one a with ha | ha <;> rcases Nat.mod_two_eq_zero_or_one b with hb | hb <;> rw [ha, hb] <;> simp [Nat.xor_assoc, Nat.xor_comm, xlc, xor_cancel]
theorem itR_xor (P a b : Nat) : ∀ k, itR P (a ^^^ b) k = itR P a k ^^^ itR P b k
  | 0 => rfl
  | k + 1 => by
    show bitR P (itR P (a ^^^ b) k) = _
    rw [itR_xor P a b k, bitR_xor]; rfl
theorem itR_add (P c j : Nat) : ∀ k, itR P c (j + k) = itR P (itR P c j) k
  | 0 => rfl
  | k + 1 => by
    show bitR P (itR P c (j + k)) = _
    rw [itR_add P c j k]; rfl
theorem itR_shl (P y : Nat) : ∀ k j, itR P (y <<< (k + j)) k = y <<< j
  | 0, j => by rw [Nat.zero_add]; rfl
  | k + 1, j => by
    show bitR P (itR P (y <<< (k + 1 + j)) k) = _
    rw [show k + 1 + j = k + (j + 1) by omega, itR_shl P y k (j + 1)]
    unfold bitR
    have e : y <<< (j + 1) = 2 * y <<< j := by rw [Nat.shiftLeft_succ]
    rw [and1, e, if_pos (by omega), Nat.shiftRight_eq_div_pow]
    omega
theorem itR_shl8 (P y k : Nat) : itR P (y <<< k) k = y := by
  have := itR_shl P y k 0
  simpa using this
theorem bitR_lt {P c n : Nat} (hP : P < 2 ^ n) (hc : c < 2 ^ (n + 1)) : bitR P c < 2 ^ n := by
  unfold bitR
  have h : c >>> 1 < 2 ^ n := by rw [Nat.shiftRight_eq_div_pow]; rw [Nat.pow_succ] at hc; omega
  split
  · exact h
  · exact Nat.xor_lt_two_pow h hP
theorem itR_lt {P c n : Nat} (hP : P < 2 ^ n) (hc : c < 2 ^ n) : ∀ k, itR P c k < 2 ^ n
  | 0 => hc
  | k + 1 => bitR_lt hP (Nat.lt_of_lt_of_le (itR_lt hP hc k) (Nat.pow_le_pow_right (by decide) (Nat.le_succ n)))
theorem bitR_zero (P : Nat) : bitR P 0 = 0 := by simp [bitR]
theorem itR_zero (P : Nat) : ∀ k, itR P 0 k = 0
  | 0 => rfl
  | k + 1 => by show bitR P (itR P 0 k) = 0; rw [itR_zero P k, bitR_zero]
-- the table of a linear row
theorem two_pow_xor {k y : Nat} (h : y < 2 ^ k) : 2 ^ k ^^^ y = 2 ^ k + y := by
  have h2 := xor_add_and (2 ^ k) y
  have h4 : 2 ^ k &&& y = 0 := by
    refine Nat.eq_of_testBit_eq fun i => ?_
    rw [Nat.testBit_and, Nat.testBit_two_pow, Nat.zero_testBit]
    by_cases e : k = i
    · subst e; simp [Nat.testBit_lt_two_pow h]
    · simp [e]
  omega
theorem tabOf_linear (f : Nat → Nat) (h0 : f 0 = 0) (hx : ∀ a b, f (a ^^^ b) = f a ^^^ f b) : ∀ k, tabOf ((List.range k).map fun i => f (2 ^ i)) = (List.range (2 ^ k)).map f
  | 0 => by simp [tabOf, h0]
  | k + 1 => by
    rw [List.range_succ, List.map_append, tabOf, List.foldl_append]
    show addRow (tabOf ((List.range k).map fun i => f (2 ^ i))) (f (2 ^ k)) = _
    rw [tabOf_linear f h0 hx k, addRow, Nat.pow_succ, Nat.mul_two, List.range_add, List.map_append, List.map_map, List.map_map]
    congr 1
    refine List.map_congr_left fun y hy => ?_
    show f (2 ^ k) ^^^ f y = f (2 ^ k + y)
    rw [← hx, two_pow_xor (List.mem_range.mp hy)]
theorem tab8 (f : Nat → Nat) (h0 : f 0 = 0) (hx : ∀ a b, f (a ^^^ b) = f a ^^^ f b) : tabOf ([1, 2, 4, 8, 16, 32, 64, 128].map f) = (List.range 256).map f := tabOf_linear f h0 hx 8
theorem getD_map_range {f : Nat → Nat} {n x : Nat} (h : x < n) : ((List.range n).map f).getD x 0 = f x := by
  rw [List.getD_eq_getElem?_getD, List.getElem?_map, List.getElem?_range h]; rfl
/-- the register's function of an xor-out -/
def regOf (n : Nat) (rev : Bool) (tab : List Nat) (last c : Nat) (l : List Nat) : Nat := last ^^^ crcOf n rev tab (last ^^^ c) l
theorem regOf_zero (n : Nat) (rev : Bool) (tab : List Nat) (c : Nat) (l : List Nat) : regOf n rev tab 0 c l = crcOf n rev tab c l := by unfold regOf; simp
end
section
example : True := by
  k_with_none
  w_top off
  trivial
-- the law in plain numbers: the sums by long division are the register's
theorem shl_or {x y k : Nat} (h : y < 2 ^ k) : x * 2 ^ k + y = x <<< k ^^^ y := by
  have h2 := xor_add_and (x <<< k) y
  have h4 : x <<< k &&& y = 0 := by
    refine Nat.eq_of_testBit_eq fun i => ?_
    rw [Nat.testBit_and, Nat.testBit_shiftLeft, Nat.zero_testBit]
    by_cases e : k ≤ i
    · rw [Nat.testBit_lt_two_pow (Nat.lt_of_lt_of_le h (Nat.pow_le_pow_right (by decide) e)), Bool.and_false]
    · simp [e]
  rw [Nat.shiftLeft_eq] at h2 h4 ⊢
  omega
theorem and_xor_mask (a b m : Nat) : (a ^^^ b) &&& m = (a &&& m) ^^^ (b &&& m) := Nat.and_xor_distrib_right
theorem split_low (c k : Nat) : (c &&& (2 ^ k - 1)) ^^^ (c >>> k) <<< k = c := by
  refine Nat.eq_of_testBit_eq fun i => ?_
  rw [Nat.testBit_xor, Nat.testBit_and, Nat.testBit_shiftLeft, Nat.testBit_shiftRight, Nat.testBit_two_pow_sub_one]
  by_cases e : k ≤ i
  · simp [e, Nat.not_lt.mpr e, Nat.add_sub_cancel' e]
  · simp [e, Nat.lt_of_not_le e]
-- turned
def qOf (P n : Nat) : Nat := revN (P &&& (2 ^ n - 1)) n
theorem qOf_lt (P n : Nat) : qOf P n < 2 ^ n := revN_lt _ _
theorem rowR_zero (P n : Nat) : rowR P n 0 = 0 := by unfold rowR; rw [itR_zero]; simp
theorem rowR_xor (P n a b : Nat) : rowR P n (a ^^^ b) = rowR P n a ^^^ rowR P n b := by unfold rowR; rw [itR_xor, and_xor_mask]
theorem tabR_eq (P n : Nat) : tabR P n = (List.range 256).map (rowR P n) := tab8 _ (rowR_zero P n) (rowR_xor P n)
theorem tabR_lt (P n : Nat) : ∀ y ∈ tabR P n, y < 2 ^ n := by
  rw [tabR_eq]
  intro y hy
  obtain ⟨k, _, rfl⟩ := List.mem_map.mp hy
  exact and_mask_lt _ _
theorem lt256 {c x : Nat} (hx : x < 256) : x ^^^ (c &&& 255) < 256 := Nat.xor_lt_two_pow (n := 8) hx (Nat.lt_of_le_of_lt Nat.and_le_right (by decide))
theorem octR_is {P n : Nat} (hn : 8 ≤ n) {x : Nat} (hx : x < 256) (c : Nat) : octR (tabR P n) c x = itR (qOf P n) (c ^^^ x) 8 := by
  have h256 : x ^^^ (c &&& 255) < 2 ^ n := Nat.lt_of_lt_of_le (lt256 hx) (show 2 ^ 8 ≤ 2 ^ n from Nat.pow_le_pow_right (by decide) hn)
  have e : c ^^^ x = (x ^^^ (c &&& 255)) ^^^ (c >>> 8) <<< 8 := by
    rw [Nat.xor_assoc, show (255 : Nat) = 2 ^ 8 - 1 from rfl, split_low, Nat.xor_comm]
  unfold octR
  rw [tabR_eq, getD_map_range (lt256 hx), e, itR_xor, itR_shl8]
  congr 1
  exact and_mask (itR_lt (qOf_lt P n) h256 8)
/-- octets read as a number, the least first -/
theorem leN_cons (x : Nat) (r : List Nat) (hx : x < 256) : beN (x :: r).reverse = x ^^^ beN r.reverse <<< 8 := by
  rw [List.reverse_cons, beN_snoc, show (256 : Nat) = 2 ^ 8 from rfl, shl_or hx, Nat.xor_comm]
theorem crcR_is {P n : Nat} (hn : 8 ≤ n) : ∀ (l : List Nat) (c : Nat), (∀ x ∈ l, x < 256) → crcOf n true (tabR P n) c l = itR (qOf P n) (c ^^^ beN l.reverse) (8 * l.length)
  | [], c, _ => by show c = c ^^^ 0; simp
  | x :: r, c, h => by
    have hx := h x (.head _)
    show crcOf n true (tabR P n) (octR (tabR P n) c x) r = _
    rw [crcR_is hn r _ fun y hy => h y (.tail _ hy), octR_is hn hx, leN_cons x r hx, List.length_cons, Nat.mul_add, Nat.add_comm, itR_add, ← Nat.xor_assoc, itR_xor _ (c ^^^ x), itR_shl8]
theorem divLo_is (D M : Nat) : ∀ k, divLo D M k >>> k = itR (D >>> 1) M k
  | 0 => rfl
  | k + 1 => by
    show _ = bitR (D >>> 1) (itR (D >>> 1) M k)
    rw [← divLo_is D M k, divLo]
    unfold bitR
    rw [and1]
    have e : ∀ a, a >>> (k + 1) = a >>> k >>> 1 := fun a => Nat.shiftRight_add a k 1
    rcases Nat.mod_two_eq_zero_or_one (divLo D M k >>> k) with h | h
    · rw [if_neg (by omega), if_pos h, e]
    · rw [if_pos h, if_neg (by omega), e, Nat.shiftRight_xor_distrib, Nat.shiftLeft_shiftRight, Nat.shiftRight_xor_distrib]
theorem or_bit (a b : Nat) (hb : b < 2) : a <<< 1 ||| b = 2 * a + b := by
  rw [Nat.shiftLeft_eq, Nat.pow_one]
  have : a * 2 ||| b = a * 2 + b := by
    have := (Nat.two_pow_add_eq_or_of_lt (i := 1) (b := b) (by simpa using hb) a).symm
    simpa [Nat.mul_comm] using this
  omega
theorem mirror_rev (P n : Nat) : ∀ k, k ≤ n → mirrorN P k = revN (P &&& (2 ^ n - 1)) k
  | 0, _ => rfl
  | k + 1, h => by
    show 2 * mirrorN P k + (P / 2 ^ k) % 2 = revN (P &&& (2 ^ n - 1)) k <<< 1 ||| ((P &&& (2 ^ n - 1)) >>> k &&& 1)
    rw [and1, or_bit _ _ (Nat.mod_lt _ (by decide)), mirror_rev P n k (by omega)]
    congr 1
    have := Nat.testBit_and P (2 ^ n - 1) k
    rw [Nat.testBit_two_pow_sub_one, decide_eq_true (show k < n by omega), Bool.and_true] at this
    rw [Nat.testBit_eq_decide_div_mod_eq, Nat.testBit_eq_decide_div_mod_eq] at this
    rw [Nat.shiftRight_eq_div_pow]
    have h1 := Nat.mod_lt (P / 2 ^ k) (show 0 < 2 by decide)
    have h2 := Nat.mod_lt ((P &&& (2 ^ n - 1)) / 2 ^ k) (show 0 < 2 by decide)
    have := decide_eq_decide.mp this
    omega
theorem mirror_half (P n : Nat) : mirrorN P (n + 1) >>> 1 = qOf P n := by
  unfold qOf
  rw [← mirror_rev P n n (Nat.le_refl _), mirrorN, Nat.shiftRight_eq_div_pow]
  have := Nat.mod_lt (P / 2 ^ n) (show 0 < 2 by decide)
  omega
theorem mirrorN_lt (P : Nat) : ∀ k, mirrorN P k < 2 ^ k
  | 0 => by simp [mirrorN]
  | k + 1 => by
    have h := mirrorN_lt P k
    have := Nat.mod_lt (P / 2 ^ k) (show 0 < 2 by decide)
    rw [mirrorN, Nat.pow_succ]; omega
theorem sumLo_reg {P n start last : Nat} {l : List Nat} (hn : 8 ≤ n) (h : ∀ x ∈ l, x < 256) : sumLo (mirrorN P (n + 1)) start last l = regOf n true (tabR P n) last start l := by
  unfold sumLo regOf
  rw [divLo_is, mirror_half, crcR_is hn _ _ h, Nat.xor_comm, show beN l.reverse ^^^ start ^^^ last = last ^^^ start ^^^ beN l.reverse by rw [Nat.xor_comm, ← Nat.xor_assoc, Nat.xor_assoc, Nat.xor_assoc, Nat.xor_comm (beN _)]]
-- forward
theorem and_bit (a k : Nat) : a &&& 2 ^ k = if a.testBit k then 2 ^ k else 0 := by
  refine Nat.eq_of_testBit_eq fun i => ?_
  rw [Nat.testBit_and, Nat.testBit_two_pow]
  by_cases e : k = i
  · subst e
    cases h : a.testBit k <;> simp
  · cases h : a.testBit k <;> simp [e, Nat.testBit_two_pow]
theorem bit_zero (a k : Nat) : (a &&& 2 ^ k = 0) ↔ a.testBit k = false := by
  rw [and_bit]
  cases h : a.testBit k
  · simp
  · simp only [if_true]; have := Nat.two_pow_pos k; constructor <;> intro h <;> first | omega | cases h
theorem bitF_is (k P c : Nat) : bitF (2 ^ k) P c = c <<< 1 ^^^ (if c.testBit k then P else 0) := by
  unfold bitF
  cases h : c.testBit k
  · rw [if_pos ((bit_zero c k).mpr h)]; simp
  · rw [if_neg fun e => by rw [bit_zero, h] at e; cases e]; simp
theorem bitF_xor (k P a b : Nat) : bitF (2 ^ k) P (a ^^^ b) = bitF (2 ^ k) P a ^^^ bitF (2 ^ k) P b := by
  rw [bitF_is, bitF_is, bitF_is, Nat.testBit_xor, Nat.shiftLeft_xor_distrib]
  cases a.testBit k <;> cases b.testBit k <;> simp [Nat.xor_assoc, Nat.xor_comm, xlc, xor_cancel]
theorem itF_xor (k P a b : Nat) : ∀ j, itF (2 ^ k) P (a ^^^ b) j = itF (2 ^ k) P a j ^^^ itF (2 ^ k) P b j
  | 0 => rfl
  | j + 1 => by
    show bitF (2 ^ k) P (itF (2 ^ k) P (a ^^^ b) j) = _
    rw [itF_xor k P a b j, bitF_xor]; rfl
theorem itF_zero (k P : Nat) : ∀ j, itF (2 ^ k) P 0 j = 0
  | 0 => rfl
  | j + 1 => by show bitF (2 ^ k) P (itF (2 ^ k) P 0 j) = 0; rw [itF_zero k P j, bitF_is]; simp
theorem itF_low {k P c : Nat} : ∀ {j : Nat}, j ≤ k + 1 → c < 2 ^ (k + 1 - j) → itF (2 ^ k) P c j = c <<< j
  | 0, _, _ => rfl
  | j + 1, hj, h => by
    have h' : c < 2 ^ (k + 1 - j) := Nat.lt_of_lt_of_le h (Nat.pow_le_pow_right (by decide) (by omega))
    show bitF (2 ^ k) P (itF (2 ^ k) P c j) = _
    rw [itF_low (by omega) h', bitF_is, Nat.testBit_shiftLeft, Nat.testBit_lt_two_pow (i := k - j) (Nat.lt_of_lt_of_le h (Nat.pow_le_pow_right (by decide) (by omega)))]
    simp [Nat.shiftLeft_add]
theorem rowF_zero (P n : Nat) : rowF P n 0 = 0 := by unfold rowF; rw [Nat.one_shiftLeft, Nat.zero_shiftLeft, itF_zero]; simp
theorem rowF_xor (P n a b : Nat) : rowF P n (a ^^^ b) = rowF P n a ^^^ rowF P n b := by unfold rowF; rw [Nat.one_shiftLeft, Nat.shiftLeft_xor_distrib, itF_xor, and_xor_mask]
theorem tabF_eq (P n : Nat) : tabF P n = (List.range 256).map (rowF P n) := tab8 _ (rowF_zero P n) (rowF_xor P n)
theorem tabF_lt (P n : Nat) : ∀ y ∈ tabF P n, y < 2 ^ n := by
  rw [tabF_eq]
  intro y hy
  obtain ⟨k, _, rfl⟩ := List.mem_map.mp hy
  exact and_mask_lt _ _
/-- a register of n bits after k bits forward -/
def itM (P n c k : Nat) : Nat := itF (2 ^ (n - 1)) (P &&& (2 ^ n - 1)) c k &&& (2 ^ n - 1)
theorem shl_mask {c n : Nat} (hn : 8 ≤ n) : c <<< 8 &&& (2 ^ n - 256) = (c &&& (2 ^ (n - 8) - 1)) <<< 8 := by
  have e : 2 ^ n - 256 = (2 ^ (n - 8) - 1) <<< 8 := by
    rw [Nat.shiftLeft_eq, Nat.sub_mul, Nat.one_mul, ← Nat.pow_add, show n - 8 + 8 = n by omega]
  rw [e, ← Nat.shiftLeft_and_distrib]
theorem octF_is {P n : Nat} (hn : 8 ≤ n) {x : Nat} (hx : x < 256) {c : Nat} (hc : c < 2 ^ n) : octF (n - 8) (2 ^ n - 256) (tabF P n) c x = itM P n (c ^^^ x <<< (n - 8)) 8 := by
  have hs : c >>> (n - 8) < 2 ^ 8 := by
    rw [Nat.shiftRight_eq_div_pow]
    refine Nat.div_lt_of_lt_mul ?_
    rw [← Nat.pow_add, show n - 8 + 8 = n by omega]; exact hc
  have e : c ^^^ x <<< (n - 8) = (x ^^^ c >>> (n - 8)) <<< (n - 8) ^^^ (c &&& (2 ^ (n - 8) - 1)) := by
    rw [Nat.shiftLeft_xor_distrib]
    conv => lhs; rw [← split_low c (n - 8)]
    rw [Nat.xor_comm, Nat.xor_comm (c &&& _), Nat.xor_assoc]
  have hl : c &&& (2 ^ (n - 8) - 1) < 2 ^ (n - 8) := and_mask_lt _ _
  have hl8 : (c &&& (2 ^ (n - 8) - 1)) <<< 8 < 2 ^ n := by
    rw [Nat.shiftLeft_eq, show (2 : Nat) ^ n = 2 ^ (n - 8) * 2 ^ 8 by rw [← Nat.pow_add]; congr 1; omega]
    exact Nat.mul_lt_mul_of_pos_right hl (by decide)
  unfold octF itM
  rw [and_255 hs, tabF_eq, getD_map_range (Nat.xor_lt_two_pow (n := 8) hx hs), shl_mask hn, e, itF_xor, itF_low (k := n - 1) (c := c &&& (2 ^ (n - 8) - 1)) (by omega) (by rw [show n - 1 + 1 - 8 = n - 8 by omega]; exact hl), and_xor_mask, and_mask hl8]
  unfold rowF
  rw [Nat.one_shiftLeft]
theorem divHi_shift {D n w' A B : Nat} (hB : B < 2 ^ (n + w')) {a : Nat} : ∀ {j : Nat}, j ≤ a → divHi D n (w' + a) (A <<< w' ^^^ B) j = divHi D n a A j <<< w' ^^^ B
  | 0, _ => rfl
  | j + 1, h => by
    rw [divHi, divHi, divHi_shift hB (by omega : j ≤ a)]
    have e1 : w' + a - 1 - j = w' + (a - 1 - j) := by omega
    have e2 : n + (w' + (a - 1 - j)) = w' + (n + (a - 1 - j)) := by omega
    have e3 : (divHi D n a A j <<< w' ^^^ B) >>> (n + (w' + (a - 1 - j))) = divHi D n a A j >>> (n + (a - 1 - j)) := by
      rw [Nat.shiftRight_xor_distrib, e2, Nat.shiftRight_add, Nat.shiftLeft_shiftRight]
      rw [show B >>> (w' + (n + (a - 1 - j))) = 0 from by rw [Nat.shiftRight_eq_div_pow]; exact Nat.div_eq_of_lt (Nat.lt_of_lt_of_le hB (Nat.pow_le_pow_right (by decide) (by omega))), Nat.xor_zero]
    rw [e1, e3]
    split
    · rw [Nat.shiftLeft_xor_distrib, ← Nat.shiftLeft_add, Nat.add_comm (a - 1 - j) w', Nat.xor_assoc, Nat.xor_assoc, Nat.xor_comm B]
    · rfl
theorem divHi_split {D n w M i : Nat} : ∀ {j : Nat}, i + j ≤ w → divHi D n w M (i + j) = divHi D n (w - i) (divHi D n w M i) j
  | 0, _ => rfl
  | j + 1, h => by
    show divHi D n w M (i + j + 1) = _
    rw [divHi, divHi, divHi_split (by omega : i + j ≤ w), show w - 1 - (i + j) = w - i - 1 - j by omega]
theorem itM_lt (P n c k : Nat) : itM P n c k < 2 ^ n := and_mask_lt _ _
theorem itM_succ {P n c k : Nat} (hn : 1 ≤ n) (hP : P < 2 ^ (n + 1)) (h1 : 2 ^ n ≤ P) : itM P n c (k + 1) = if itM P n c k >>> (n - 1) % 2 = 1 then itM P n c k <<< 1 ^^^ P else itM P n c k <<< 1 := by
  have hb : ∀ i, (itM P n c k).testBit i = ((itF (2 ^ (n - 1)) (P &&& (2 ^ n - 1)) c k).testBit i && decide (i < n)) := fun i => by
    unfold itM; rw [Nat.testBit_and, Nat.testBit_two_pow_sub_one]
  have hPb : ∀ i, n < i → P.testBit i = false := fun i hi => Nat.testBit_lt_two_pow (Nat.lt_of_lt_of_le hP (Nat.pow_le_pow_right (by decide) hi))
  have hPn : P.testBit n = true := by
    have : P / 2 ^ n = 1 := by
      have h3 : P / 2 ^ n < 2 := Nat.div_lt_of_lt_mul (by rw [Nat.pow_succ] at hP; exact hP)
      have h4 : 1 ≤ P / 2 ^ n := (Nat.one_le_div_iff (Nat.two_pow_pos n)).mpr h1
      omega
    rw [Nat.testBit_eq_decide_div_mod_eq, this]; rfl
  have hT : (itM P n c k >>> (n - 1) % 2 = 1) ↔ (itM P n c k).testBit (n - 1) = true := by
    rw [Nat.testBit_eq_decide_div_mod_eq, Nat.shiftRight_eq_div_pow, decide_eq_true_iff]
  have hs : itM P n c (k + 1) = bitF (2 ^ (n - 1)) (P &&& (2 ^ n - 1)) (itF (2 ^ (n - 1)) (P &&& (2 ^ n - 1)) c k) &&& (2 ^ n - 1) := rfl
  rw [hs, bitF_is]
  generalize itF (2 ^ (n - 1)) (P &&& (2 ^ n - 1)) c k = z at *
  generalize itM P n c k = y at *
  have hb1 := hb (n - 1)
  rw [decide_eq_true (show n - 1 < n by omega), Bool.and_true] at hb1
  cases h : z.testBit (n - 1)
  · simp only [Bool.false_eq_true, if_false]
    rw [if_neg (by rw [hT, hb1, h]; decide)]
    refine Nat.eq_of_testBit_eq fun i => ?_
    rw [Nat.testBit_and, Nat.testBit_two_pow_sub_one, Nat.testBit_shiftLeft, hb]
    simp only [Nat.testBit_xor, Nat.testBit_shiftLeft]
    by_cases e1 : 1 ≤ i
    · by_cases e2 : i < n
      · have : i - 1 < n := by omega
        simp [e1, e2, this]
      · by_cases e3 : i = n
        · subst e3; simp [h, e1]
        · have : ¬ i - 1 < n := by omega
          simp [e1, e2, this]
    · simp [e1]
  · simp only [if_true]
    rw [if_pos (by rw [hT, hb1, h])]
    refine Nat.eq_of_testBit_eq fun i => ?_
    simp only [Nat.testBit_xor, hb, Nat.testBit_shiftLeft, Nat.testBit_and, Nat.testBit_two_pow_sub_one]
    by_cases e2 : i < n
    · have : i - 1 < n := by omega
      simp [e2, this]
    · by_cases e3 : i = n
      · subst e3; simp [h, hPn, hn]; omega
      · have : ¬ i - 1 < n := by omega
        have e4 : n < i := by omega
        simp [e2, this, hPb i e4]
theorem divHi_it {P n a y : Nat} (hn : 1 ≤ n) (hP : P < 2 ^ (n + 1)) (h1 : 2 ^ n ≤ P) (hy : y < 2 ^ n) : ∀ {j : Nat}, j ≤ a → divHi P n a (y <<< a) j = itM P n y j <<< (a - j)
  | 0, _ => by show _ = (y &&& _) <<< a; rw [and_mask hy]; rfl
  | j + 1, h => by
    rw [divHi, divHi_it hn hP h1 hy (by omega : j ≤ a), itM_succ hn hP h1, show a - j = a - (j + 1) + 1 by omega, show a - 1 - j = a - (j + 1) by omega]
    have e : ∀ z, z <<< (a - (j + 1) + 1) = z <<< 1 <<< (a - (j + 1)) := fun z => by rw [← Nat.shiftLeft_add, Nat.add_comm]
    have e2 : ∀ z, z <<< 1 <<< (a - (j + 1)) >>> (n + (a - (j + 1))) = z >>> (n - 1) := fun z => by
      rw [Nat.add_comm n, Nat.shiftRight_add, Nat.shiftLeft_shiftRight, show n = 1 + (n - 1) by omega, Nat.shiftRight_add, Nat.shiftLeft_shiftRight, show 1 + (n - 1) - 1 = n - 1 by omega]
    rw [e, e2]
    split
    · rw [Nat.shiftLeft_xor_distrib]
    · rfl
theorem beN_cons (x : Nat) (r : List Nat) (h : ∀ y ∈ r, y < 256) : beN (x :: r) = x <<< (8 * r.length) ^^^ beN r := by
  have key : ∀ (l : List Nat) (a : Nat), l.foldl (fun a k => a * 256 + k) a = a * 2 ^ (8 * l.length) + beN l := by
    intro l
    induction l with
    | nil => intro a; simp [beN]
    | cons k r ih =>
      intro a
      have e : 2 ^ (8 * (r.length + 1)) = 256 * 2 ^ (8 * r.length) := by
        rw [Nat.mul_add, Nat.mul_one, Nat.pow_add, Nat.mul_comm]
      rw [List.foldl_cons, ih, List.length_cons, e]
      have h2 : beN (k :: r) = k * 2 ^ (8 * r.length) + beN r := by
        show r.foldl _ (0 * 256 + k) = _
        rw [ih]; simp
      rw [h2, Nat.add_mul, Nat.mul_assoc, Nat.add_assoc]
  have : beN (x :: r) = x * 2 ^ (8 * r.length) + beN r := by
    show r.foldl _ (0 * 256 + x) = _
    rw [key]; simp
  rw [this, shl_or (beN_lt r h)]
theorem crcF_is {P n : Nat} (hn : 8 ≤ n) (hP : P < 2 ^ (n + 1)) (h1 : 2 ^ n ≤ P) : ∀ (l : List Nat) (c : Nat), c < 2 ^ n → (∀ x ∈ l, x < 256) → crcOf n false (tabF P n) c l = divHi P n (8 * l.length) (beN l <<< n ^^^ c <<< (8 * l.length)) (8 * l.length)
  | [], c, _, _ => by show c = 0 <<< n ^^^ c <<< 0; simp
  | x :: r, c, hc, h => by
    have hx := h x (.head _)
    have hr : ∀ y ∈ r, y < 256 := fun y hy => h y (.tail _ hy)
    have hs : octF (n - 8) (2 ^ n - 256) (tabF P n) c x = itM P n (c ^^^ x <<< (n - 8)) 8 := octF_is hn hx hc
    have hy : c ^^^ x <<< (n - 8) < 2 ^ n := by
      refine Nat.xor_lt_two_pow hc ?_
      rw [Nat.shiftLeft_eq, show (2 : Nat) ^ n = 2 ^ 8 * 2 ^ (n - 8) by rw [← Nat.pow_add]; congr 1; omega]
      exact Nat.mul_lt_mul_of_pos_right hx (Nat.two_pow_pos _)
    have hB : beN r <<< n < 2 ^ (n + 8 * r.length) := by
      rw [Nat.shiftLeft_eq, Nat.pow_add, Nat.mul_comm]
      exact Nat.mul_lt_mul_of_pos_left (beN_lt r hr) (Nat.two_pow_pos _)
    have hA : beN (x :: r) <<< n ^^^ c <<< (8 * (r.length + 1)) = (c ^^^ x <<< (n - 8)) <<< 8 <<< (8 * r.length) ^^^ beN r <<< n := by
      rw [beN_cons x r hr, Nat.shiftLeft_xor_distrib, Nat.shiftLeft_xor_distrib, Nat.shiftLeft_xor_distrib, ← Nat.shiftLeft_add, ← Nat.shiftLeft_add, ← Nat.shiftLeft_add, ← Nat.shiftLeft_add, show n - 8 + (8 + 8 * r.length) = 8 * r.length + n by omega, show 8 * (r.length + 1) = 8 + 8 * r.length by omega, Nat.xor_comm, ← Nat.xor_assoc]
    show crcOf n false (tabF P n) (octF (n - 8) (2 ^ n - 256) (tabF P n) c x) r = _
    rw [hs, crcF_is hn hP h1 r _ (itM_lt _ _ _ _) hr, List.length_cons, hA, show 8 * (r.length + 1) = 8 + 8 * r.length by omega, divHi_split (by omega), show 8 + 8 * r.length - 8 = 8 * r.length by omega]
    congr 1
    rw [Nat.add_comm 8, divHi_shift hB (Nat.le_refl 8), divHi_it (by omega) hP h1 hy (Nat.le_refl 8), Nat.sub_self, Nat.shiftLeft_zero, Nat.xor_comm]
theorem sumHi_reg {P n start last : Nat} {l : List Nat} (hn : 8 ≤ n) (hP : P < 2 ^ (n + 1)) (h1 : 2 ^ n ≤ P) (hs : start < 2 ^ n) (he : last < 2 ^ n) (h : ∀ x ∈ l, x < 256) : sumHi P n start last l = regOf n false (tabF P n) last start l := by
  unfold sumHi regOf
  rw [crcF_is hn hP h1 _ _ (Nat.xor_lt_two_pow he hs) h, Nat.xor_comm, Nat.xor_comm start]
-- the register's function puts pieces together
theorem regOf_append (n : Nat) (rev : Bool) (tab : List Nat) (last c : Nat) (a b : List Nat) : regOf n rev tab last (regOf n rev tab last c a) b = regOf n rev tab last c (a ++ b) := by
  unfold regOf crcOf
  rw [xor_cancel, List.foldl_append]
theorem regOf_nil (n : Nat) (rev : Bool) (tab : List Nat) (last c : Nat) : regOf n rev tab last c [] = c := by
  unfold regOf crcOf
  exact xor_cancel _ _
theorem regOf_lt {n : Nat} {rev : Bool} {tab : List Nat} (ht : ∀ x ∈ tab, x < 2 ^ n) {last c : Nat} (he : last < 2 ^ n) (hc : c < 2 ^ n) (l : List Nat) : regOf n rev tab last c l < 2 ^ n :=
  Nat.xor_lt_two_pow he (crcOf_lt ht l (Nat.xor_lt_two_pow he hc))
/-- the table and the divisor of a direction -/
def tabX (rev : Bool) (P n : Nat) : List Nat := bif rev then tabR P n else tabF P n
def divX (rev : Bool) (P n : Nat) : Nat := bif rev then mirrorN P (n + 1) else P
def sumX (rev : Bool) (P n start last : Nat) (l : List Nat) : Nat := bif rev then sumLo (divX rev P n) start last l else sumHi (divX rev P n) n start last l
theorem tabX_lt (rev : Bool) (P n : Nat) : ∀ y ∈ tabX rev P n, y < 2 ^ n := by
  cases rev
  · exact tabF_lt P n
  · exact tabR_lt P n
theorem sumX_reg {rev : Bool} {P n start last : Nat} {l : List Nat} (hn : 8 ≤ n) (hP : P < 2 ^ (n + 1)) (h1 : 2 ^ n ≤ P) (hs : start < 2 ^ n) (he : last < 2 ^ n) (h : ∀ x ∈ l, x < 256) : sumX rev P n start last l = regOf n rev (tabX rev P n) last start l := by
  cases rev
  · simp only [sumX, divX, tabX, cond_true, cond_false]
    exact sumHi_reg hn hP h1 hs he h
  · simp only [sumX, divX, tabX, cond_true, cond_false]
    exact sumLo_reg hn h
end
section
example : True := by
  k_with_none
  w_top off
  trivial
-- numbers: bits
theorem nat_xor_add (m : Nat) : ∀ n : Nat, (m ^^^ n) + 2 * (m &&& n) = m + n := by
  induction m using Nat.strongRecOn with
  | ind m ih =>
    intro n
    by_cases h0 : m = 0
    · subst h0; simp
    · have ih' := ih (m / 2) (by omega) (n / 2)
      rw [← Nat.xor_div_two, ← Nat.and_div_two] at ih'
      have o1 := @Nat.xor_mod_two_eq_one m n
      have a1 := @Nat.and_mod_two_eq_one m n
      omega
theorem xorZ (a b : Nat) : Builtin.bitXor (a : Int) (b : Int) = ((a ^^^ b : Nat) : Int) := by
  rw [bitXor_and, bitAnd_pp (by omega) (by omega)]
  have h := nat_xor_add a b
  simp only [Int.toNat_natCast]
  omega
theorem andZ (a b : Nat) : Builtin.bitAnd (a : Int) (b : Int) = ((a &&& b : Nat) : Int) := by
  rw [bitAnd_pp (by omega) (by omega)]; simp
theorem orZ (a b : Nat) : Builtin.bitOr (a : Int) (b : Int) = ((a ||| b : Nat) : Int) := by
  rw [bitOr_and, andZ]
  have h := nat_or_add_and a b
  omega
section
variable {prog : Program} {w : World} {A : Around} {E : Value → Shared → Prop} {s : Shared} {x y : Int} {a b : Nat} {t u : Tok} {Q : Value → Shared → Prop}
theorem xorN (ha : x = (a : Int)) (hb : y = (b : Int)) (h : ∀ t' k, Q (.int ((a ^^^ b : Nat) : Int) t') { s with toks := k }) : wpAny (model prog w) A (binaryOp .BitXor (.int x t) (.int y u)) Q E s := by
  subst ha hb; refine xor_int ?_; rw [xorZ]; exact h _ _
theorem andN (ha : x = (a : Int)) (hb : y = (b : Int)) (h : ∀ t' k, Q (.int ((a &&& b : Nat) : Int) t') { s with toks := k }) : wpAny (model prog w) A (binaryOp .BitAnd (.int x t) (.int y u)) Q E s := by
  subst ha hb; refine and_int ?_; rw [andZ]; exact h _ _
theorem orN (ha : x = (a : Int)) (hb : y = (b : Int)) (h : ∀ t' k, Q (.int ((a ||| b : Nat) : Int) t') { s with toks := k }) : wpAny (model prog w) A (binaryOp .BitOr (.int x t) (.int y u)) Q E s := by
  subst ha hb; refine or_int ?_; rw [orZ]; exact h _ _
theorem two_pow_cast (k : Nat) : ((2 : Int) ^ k) = ((2 ^ k : Nat) : Int) := by rw [Int.natCast_pow]; rfl
theorem shrN (ha : x = (a : Int)) (hb : y = (b : Int)) (h : ∀ t' k, Q (.int ((a >>> b : Nat) : Int) t') { s with toks := k }) : wpAny (model prog w) A (binaryOp .RShift (.int x t) (.int y u)) Q E s := by
  subst ha hb
  refine rshift_int (by omega) ?_
  rw [Int.toNat_natCast, two_pow_cast, Int.fdiv_eq_ediv_of_nonneg _ (Int.natCast_nonneg _), ← Int.natCast_ediv, ← Nat.shiftRight_eq_div_pow]
  exact h _ _
theorem shlN (ha : x = (a : Int)) (hb : y = (b : Int)) (hl : a < 2 ^ 1000) (hn : b ≤ 1000000) (h : ∀ t' k, Q (.int ((a <<< b : Nat) : Int) t') { s with toks := k }) : wpAny (model prog w) A (binaryOp .LShift (.int x t) (.int y u)) Q E s := by
  subst ha hb
  refine lshift_int (by omega) ?_ ?_
  · have h1 : Builtin.Int.intBits (a : Int) ≤ 1000 := intBits_le_iff.mpr (by rw [Int.natAbs_natCast]; exact hl)
    have e : (2 : Int) ^ 27 = 134217728 := by decide
    rw [e]; omega
  · rw [Int.toNat_natCast, two_pow_cast, ← Int.natCast_mul, ← Nat.shiftLeft_eq]
    exact h _ _
theorem modN (ha : x = (a : Int)) (hb : y = (b : Int)) (hp : 0 < b) (h : ∀ t' k, Q (.int ((a % b : Nat) : Int) t') { s with toks := k }) : wpAny (model prog w) A (binaryOp .Mod (.int x t) (.int y u)) Q E s := by
  subst ha hb
  refine mod_int' (by omega) ?_
  rw [Int.fmod_eq_emod_of_nonneg _ (Int.natCast_nonneg _), ← Int.natCast_emod]
  exact h _ _
end
theorem lit_nat (n : Nat) : (@OfNat.ofNat Int n instOfNat) = ((@OfNat.ofNat Nat n (instOfNatNat n) : Nat) : Int) := rfl
theorem zadd_nat {x : Int} {n : Nat} (h : x = 0 + (n : Int)) : x = (n : Int) := by omega
theorem mul8_nat (n : Nat) : (8 : Int) * (n : Int) = ((8 * n : Nat) : Int) := by omega
theorem sub1_nat {n : Nat} (h : 1 ≤ n) : (n : Int) - 1 = ((n - 1 : Nat) : Int) := by omega
theorem sub8_nat {n : Nat} (h : 8 ≤ n) : (n : Int) - 8 = ((n - 8 : Nat) : Int) := by omega
theorem lt_128 : 128 < 2 ^ 1000 := by decide
theorem shl1_nat (n : Nat) : ((1 <<< n : Nat) : Int) - 1 = ((2 ^ n - 1 : Nat) : Int) := by
  have h := Nat.two_pow_pos n
  rw [Nat.one_shiftLeft]; omega
-- bytes.join
theorem slot_bytes_join : Slot "bytes" "join" "bytes.join" :=
  .of (owner := "bytes") (n := "join") (by rw [typeLookup_type, builtinLookup_eq_fast]; kernel_rfl) (by decide +kernel) (by decide +kernel) (by decide +kernel)
    (by first | exact .inl (by decide +kernel) | exact .inr (by decide +kernel)) (by rw [isSubtype_type]; kernel_rfl)
theorem type_bytes_join : typeOf (.builtin "bytes.join") = pure (.type "method_descriptor") := by show builtinType _ = _; rw [builtinType_eq_fast]; kernel_rfl
theorem entry_bytes_join : entryFor table "bytes.join" = some Builtin.«bytes.join» := entryFor_of_tree (by kernel_rfl)
theorem args_bytes_join (a b : Value) : argsOk "bytes.join" ⟨[a, b], []⟩ := by unfold argsOk; kernel_rfl
section
variable {prog : Program} {w : World} {A : Around} {E : Value → Shared → Prop} {s : Shared}
theorem method_join {b : Array UInt8} {t : Tok} {pl : Sem Bool} {Q : Value × List Value → Shared → Prop} (h : Q (.builtin "bytes.join", [.bytes b t]) s) :
    wpAny (model prog w) A (getMethod (.bytes b t) "join" pl) Q E s :=
  getMethod_builtin (typeIs_bytes _ _ _) FB.plainAttrs_bytes slot_bytes_join type_bytes_join (fun _ e => nomatch e) h
theorem join_one {b c : Array UInt8} {t u : Tok} {a : Addr} {o : Obj} {n : Nat} {Q : Value → Shared → Prop} (ho : s.heap.get? a = some o) (hc : o.cls = .type "list") (hd : o.data = .seq #[.bytes c u] n)
    (h : Q (.bytes c u) s) : wpAny (model prog w) A (call (.builtin "bytes.join") [.bytes b t, .ref a]) Q E s := by
  refine wpAny_call_entry slot_bytes_join (typeIs_bytes _ _ _) entry_bytes_join ?_ (args_bytes_join _ _)
  show wpAny _ _ (Builtin.Bytes.joinItems (.ref a) >>= fun q => _) _ _ s
  refine wpAny_bind ?_
  unfold Builtin.Bytes.joinItems
  refine wpAny_bind (wpAny_typeOf (T := "list") ⟨o, ho, hc⟩ ?_)
  refine wpAny_pure ?_
  refine wpAny_bind (wpAny_seqItems ho hd ?_)
  refine wpAny_bind (wpAny_typeOf (T := "bytes") (typeIs_bytes _ _ _) ?_)
  exact wpAny_bind (wpAny_rule (wpAny_bind (wpAny_pure (wpAny_pure ⟨_, rfl, h⟩))))
end
theorem tab_item {prog : Program} {w : World} {A : Around} {E : Value → Shared → Prop} {s : Shared} {h₀ : Heap} {L l : Addr} {m : Str → Option Value} {value slice : PySem.Expr} {vs : List Value} {tab : List Nat} {i : Nat} {k : Int} {u : Tok} {Q : Value → Shared → Prop}
    (F : Fr h₀ L s.heap m) (hl : h₀.IsList l vs.toArray) (hv : IntsAre vs (tab.map Int.ofNat)) (hk : k = (i : Int)) (hi : i < tab.length) (hf : tab.length < 2 ^ 62) (h : ∀ t, Q (.int ((tab.getD i 0 : Nat) : Int) t) s)
    (hs : subscripted slice false (.ref l) (.int k u) = operate [.ref l, .int k u] (getItem (.ref l) (.int k u)) := by with_unfolding_all rfl) (hg : ∀ r, letTemporaryGo value (.ref l) r = pure () := by intro _; with_unfolding_all rfl) :
    wpAny (model prog w) A (subscriptTail value slice (.ref l) (.int k u)) Q E s := by
  subst hk
  refine item_list_ints (show s.heap.IsList l vs.toArray from hl.imp fun o h => ⟨F.keep _ _ h.1, h.2⟩) hv (by omega) (by simp; omega) (by omega) (fun t => ?_) hs hg
  have e : (tab.map Int.ofNat).getD ((i : Int).toNat) 0 = ((tab.getD i 0 : Nat) : Int) := by
    simp [List.getD, List.getElem?_eq_getElem hi]
  rw [e]; exact h t
end
section
example : True := by
  k_with_none
  w_top off
  trivial
-- int.from_bytes of any length up to 100
theorem grownN {M : Model} {A : Around} {E : Value → Shared → Prop} {s : Shared} {n : Nat} {Q : Value → Shared → Prop} (hn : n < 2 ^ 1000) (h : ∀ t' k, Q (.int (n : Int) t') { s with toks := k }) : wpAny M A (mkIntGrown (n : Int)) Q E s := by
  unfold mkIntGrown
  have hb : bitsLine = 134217728 := by first | rfl | decide
  have hl : ¬ ((n : Int).natAbs.log2 ≥ bitsLine) := by
    rw [Int.natAbs_natCast, hb]
    by_cases hz : n = 0
    · subst hz; decide
    · have h1 := (Nat.log2_lt hz).mpr hn
      omega
  rw [if_neg hl]
  exact wpAny_mkInt (h _ _)
theorem arr_fold (f : List UInt8 → List UInt8) (b : Array UInt8) : ∀ (l : List UInt8) (a : Nat), l.foldl (fun (acc : Int) (b : UInt8) => acc * 256 + (b.toNat : Int)) (a : Int) = (((l.map UInt8.toNat).foldl (fun a k => a * 256 + k) a : Nat) : Int)
  | [], _ => rfl
  | c :: r, a => by
    have e : ((a : Int) * 256 + (c.toNat : Int)) = ((a * 256 + c.toNat : Nat) : Int) := by omega
    rw [List.foldl_cons, List.map_cons, List.foldl_cons, e, arr_fold f b r]
theorem be_small {l : List Nat} (h : ∀ x ∈ l, x < 256) (hl : l.length ≤ 100) : beN l < 2 ^ 1000 :=
  Nat.lt_of_lt_of_le (beN_lt l h) (Nat.pow_le_pow_right (by decide) (by omega))
section
variable {prog : Program} {w : World} {M : Model} {A : Around} {E : Value → Shared → Prop} {s : Shared} {h₀ : Heap} {L : Addr} {news : List (Addr × Obj)} {b : Array UInt8} {t u : Tok}
theorem fb_big {P : Fin → Shared → Prop} (hl : b.size ≤ 100) (h : ∀ t' k, P (.done (.ret (.int ((beN (arrN b) : Nat) : Int) t'))) { s with toks := k }) :
    wpAny M A (Builtin.«int.from_bytes» ⟨[.type "int", .bytes b t, .str (PySem.Str.ofString "big") u], []⟩) P E s := by
  unfold Builtin.«int.from_bytes»
  refine wpAny_bind (wpAny_of_eq (a := true) KFB.type_int (KFB.if_not rfl ?_))
  refine wpAny_bind (wpAny_of_eq (a := true) F.conv_sub_int (KFB.if_not rfl ?_))
  refine wpAny_bind (wpAny_of_eq (a := [some (.bytes b t), some (.str (PySem.Str.ofString "big") u), none]) (by kernel_rfl) ?_)
  refine wpAny_bind (wpAny_of_eq (a := PySem.Str.ofString "big") (by kernel_rfl) ?_)
  refine wpAny_bind (wpAny_of_eq (a := false) rfl (wpAny_bind (wpAny_of_eq (a := false) (by kernel_rfl) (wpAny_bind (wpAny_of_eq (a := b) rfl ?_)))))
  show wpAny _ _ (mkIntGrown (b.toList.foldl (fun (acc : Int) (b : UInt8) => acc * 256 + (b.toNat : Int)) ((0 : Nat) : Int)) >>= fun v => _) _ _ _
  rw [arr_fold id b]
  refine wpAny_bind (grownN (n := beN (arrN b)) (be_small (arrN_lt b) (by rw [arrN_length]; exact hl)) fun t' k => KFB.if_so (by decide +kernel) ?_)
  exact wpAny_bind (wpAny_pure (wpAny_pure (h _ _)))
theorem fb_little {P : Fin → Shared → Prop} (hl : b.size ≤ 100) (h : ∀ t' k, P (.done (.ret (.int ((beN (arrN b).reverse : Nat) : Int) t'))) { s with toks := k }) :
    wpAny M A (Builtin.«int.from_bytes» ⟨[.type "int", .bytes b t, .str (PySem.Str.ofString "little") u], []⟩) P E s := by
  unfold Builtin.«int.from_bytes»
  refine wpAny_bind (wpAny_of_eq (a := true) KFB.type_int (KFB.if_not rfl ?_))
  refine wpAny_bind (wpAny_of_eq (a := true) F.conv_sub_int (KFB.if_not rfl ?_))
  refine wpAny_bind (wpAny_of_eq (a := [some (.bytes b t), some (.str (PySem.Str.ofString "little") u), none]) (by kernel_rfl) ?_)
  refine wpAny_bind (wpAny_of_eq (a := PySem.Str.ofString "little") (by kernel_rfl) ?_)
  refine wpAny_bind (wpAny_of_eq (a := false) rfl (wpAny_bind (wpAny_of_eq (a := true) (by kernel_rfl) (wpAny_bind (wpAny_of_eq (a := b) rfl ?_)))))
  show wpAny _ _ (mkIntGrown (b.toList.reverse.foldl (fun (acc : Int) (b : UInt8) => acc * 256 + (b.toNat : Int)) ((0 : Nat) : Int)) >>= fun v => _) _ _ _
  rw [arr_fold id b, List.map_reverse]
  refine wpAny_bind (grownN (n := beN (arrN b).reverse) (be_small (l := (arrN b).reverse) (fun x hx => arrN_lt b x (List.mem_reverse.mp hx)) (by rw [List.length_reverse, arrN_length]; exact hl)) fun t' k => KFB.if_so (by decide +kernel) ?_)
  exact wpAny_bind (wpAny_pure (wpAny_pure (h _ _)))
theorem fb_call {x : Addr} {o : PySem.Str} {z : Int} {Q : Value → Shared → Prop} (ho : KFB.StandsAt x s.heap)
    (tree : ∀ {P : Fin → Shared → Prop} {E' : Value → Shared → Prop} {A' : Around}, (∀ t' k, P (.done (.ret (.int z t'))) { s with toks := k }) → wpAny (model prog w) A' (Builtin.«int.from_bytes» ⟨[.type "int", .bytes b t, .str o u], []⟩) P E' s)
    (h : ∀ t' k, Q (.int z t') { s with toks := k }) : wpAny (model prog w) A (call (.ref x) [.bytes b t, .str o u]) Q E s := by
  refine wpAny_call (codeAny_of_tree ?_)
  show wpAny _ A.in1 (callAny (.ref x) ⟨[.bytes b t, .str o u], []⟩) _ _ s
  simp only [callAny]
  refine wpAny_bind (wpAny_load ho ?_)
  refine KFB.if_so (by decide) (KFB.if_so (by decide) ?_)
  refine wpAny_bind (wpAny_of_eq (a := ()) KFB.check_fb (wpAny_bind (wpAny_pure (wpAny_pure ?_))))
  exact ⟨KFB.quiet_fb, codeAny_builtin KFB.entry_fb (tree h)⟩
theorem fb_call_big {x : Addr} {Q : Value → Shared → Prop} (N : News h₀ L s.heap news) (hm : (x, KFB.bound) ∈ news) (hl : b.size ≤ 100)
    (h : ∀ t' k, Q (.int ((beN (arrN b) : Nat) : Int) t') { s with toks := k }) : wpAny (model prog w) A (call (.ref x) [.bytes b t, .str (PySem.Str.ofString "big") u]) Q E s :=
  fb_call (KFB.at_of N hm) (fun z => fb_big hl z) h
theorem fb_call_little {x : Addr} {Q : Value → Shared → Prop} (N : News h₀ L s.heap news) (hm : (x, KFB.bound) ∈ news) (hl : b.size ≤ 100)
    (h : ∀ t' k, Q (.int ((beN (arrN b).reverse : Nat) : Int) t') { s with toks := k }) : wpAny (model prog w) A (call (.ref x) [.bytes b t, .str (PySem.Str.ofString "little") u]) Q E s :=
  fb_call (KFB.at_of N hm) (fun z => fb_little hl z) h
end
end
section
example : True := by
  k_with_none
  w_top off
  trivial
open PySem.Builtin PySem.Builtin.Str in
def hexF : Percent := { ljust := false, sign := false, blank := false, alt := false, zero := true, width := some 2, prec := none, type := 88 }
def hexD (k : Nat) : Nat := if k < 10 then 48 + k else 55 + k
def hexT (k : Nat) : List Nat := [hexD (k / 16), hexD (k % 16)]
theorem hex_laid : ∀ k, k < 256 → (match PySem.Builtin.Str.percentField hexF true (PySem.Builtin.Str.percentInt hexF false ((Nat.toDigits 16 k).map Char.toNat)) with | none => PySem.Builtin.Str.percentInt hexF false ((Nat.toDigits 16 k).map Char.toNat) | some l => l) = hexT k := by
  decide +kernel
theorem KPc_log (k : Nat) (hk : k < 256) : ((k : Nat) : Int).natAbs.log2 < 1920 := shown (N := 2 ^ 1920) (by omega) (by omega) (Int.le_refl _)
theorem mod_hex {prog : Program} {w : World} {A : Around} {E : Value → Shared → Prop} {s : Shared} {k : Nat} {t u : Tok} {Q : Value → Shared → Prop} (hk : k < 256)
    (h : ∀ t' k', Q (.str ⟨(hexT k).toArray⟩ t') { s with toks := k' }) : wpAny (model prog w) A (binaryOp .Mod (.str "%02X" t) (.int (k : Nat) u)) Q E s := by
  refine KPc.mod_lit (X' := "%02X") (T := ⟨(hexT k).toArray⟩) rfl ?_ ?_ h
  · exact KPc_log k hk
  · intros
    apply KPc.meets_of
    intro _ _ _ _ _ _ _
    rw [KPc.entry_is]
    unfold Builtin.Str.percentFormat
    refine wpAny_bind (wpAny_isInstance (typeIs_int _ _ _) F.sub_int_tuple ?_)
    refine wpAny_bind (wpAny_of_eq (a := none) rfl ?_)
    refine wpAny_bind (wpAny_of_eq (KPc.fills _ _) ?_)
    kpc_if
    refine wpAny_bind (wpAny_pure ?_)
    refine wpAny_bind ?_
    rw [KPc.range_list]
    refine KPc.start ?_
    intro _ _
    refine KPc.turn ?_
    kpc_check
    repeat kpc_if
    refine wpAny_bind ?_
    refine wpAny_holding ?_
    repeat kpc_if
    refine wpAny_bind (wpAny_of_eq (a := ((k : Nat) : Int)) rfl ?_)
    repeat kpc_if
    refine wpAny_pure ?_
    have e9 := hex_laid k hk
    dsimp only
    split
    · rename_i h9
      refine wpAny_pure ?_
      refine KPc.after_add0 (y := ⟨(hexT k).toArray⟩) (by kpc_g) ?_ (by kpc_obj) ?_
      · refine congrArg (fun l : List Nat => Str.mk l.toArray) ?_
        rw [← e9]
        show _ = (match PySem.Builtin.Str.percentField hexF true _ with | none => _ | some l => l)
        rw [show PySem.Builtin.Str.percentField hexF true (PySem.Builtin.Str.percentInt hexF false ((Nat.toDigits 16 k).map Char.toNat)) = _ from h9]
        rfl
      · intro w9 g9
        have g8 := KPc.good_mono (K := 2) g9 (Nat.le_refl 2)
        clear g9
        kpc_turns
    · rename_i l9 h9
      refine wpAny_pure ?_
      refine KPc.after_add0 (y := ⟨(hexT k).toArray⟩) (by kpc_g) ?_ (by kpc_obj) ?_
      · refine congrArg (fun l : List Nat => Str.mk l.toArray) ?_
        rw [← e9]
        show _ = (match PySem.Builtin.Str.percentField hexF true _ with | none => _ | some l => l)
        rw [show PySem.Builtin.Str.percentField hexF true (PySem.Builtin.Str.percentInt hexF false ((Nat.toDigits 16 k).map Char.toNat)) = _ from h9]
      · intro w9 g9
        have g8 := KPc.good_mono (K := 2) g9 (Nat.le_refl 2)
        clear g9
        kpc_turns
end
section
example : True := by
  k_with_none
  w_top off
  trivial
abbrev Led := List (Addr × Obj)

def mapL : List (Str × Value) → Str → Option Value
  | [] => fun _ => none
  | p :: r => fun y => if y = p.1 then some p.2 else mapL r y
theorem mapL_eq : ∀ (l : List (Str × Value)) (y : Str), l.lookup y = mapL l y
  | [], _ => rfl
  | p :: r, y => by
    rw [List.lookup_cons]
    show _ = if y = p.1 then some p.2 else mapL r y
    by_cases h : y = p.1
    · rw [if_pos h, h]; simp
    · rw [if_neg h, ← mapL_eq r y, show (y == p.1) = false from by simpa using h]

def flowV : Flow → Value
  | .ret v => v
  | _ => .none

/-- what a call of f with these arguments, from a state whose made objects are news, comes to -/
def Ct (prog : Program) (w : World) (p : Program) (loose : List Str) (mean : ExcName → Option Value) (mg mb : Str → Option Value) (dep : Nat) (f : Value) (vs : List Value) (news : Led) (post : Value → Led → Prop) : Prop :=
  ∀ (dp un : Nat) (gd : Option (List Code)) (cn : Str) (cs : Scope) (a : Addr) (ccd : Value) (cl : List (Str × Addr)) (outer : List Env) (A₀ : Around) (base h₀ : Heap) (L : Addr) (m : Str → Option Value) (s : Shared) (Q E : Value → Shared → Prop),
    Below A₀ base outer h₀ → Fr h₀ L s.heap m → (Mine.hd.heap_39 w.params).In h₀ → News h₀ L s.heap news → Top p loose mean mg mb h₀ → cs.kind = .function → dp + dep < recursionLimit → un + 8 * dep < cLine →
    (∀ v news' h' tk', post v news' → Fr h₀ L h' m → News h₀ L h' news' → Q v { s with heap := h', toks := tk' }) →
    wpAny (model prog w) (ktrTop dp un gd cn cs L a ccd cl outer) (call f vs) Q E s

section
variable {prog : Program} {w : World} {p : Program} {loose : List Str} {mean : ExcName → Option Value} {mg mb : Str → Option Value} {dep : Nat} {vs : List Value} {news : Led} {post : Value → Led → Prop}

theorem Ct.use {f : Value} {dp un : Nat} {gd : Option (List Code)} {cn : Str} {cs : Scope} {a : Addr} {ccd : Value} {cl : List (Str × Addr)} {outer : List Env} {A₀ : Around} {base h₀ : Heap} {L : Addr} {m : Str → Option Value} {s : Shared} {Q E : Value → Shared → Prop}
    (C : Ct prog w p loose mean mg mb dep f vs news post)
    (B : Below A₀ base outer h₀) (F : Fr h₀ L s.heap m) (X : (Mine.hd.heap_39 w.params).In h₀) (N : News h₀ L s.heap news) (T : Top p loose mean mg mb h₀) (hk : cs.kind = .function) (hd : dp + dep < recursionLimit) (hu : un + 8 * dep < cLine)
    (ret : ∀ v news' h' tk', post v news' → Fr h₀ L h' m → News h₀ L h' news' → Q v { s with heap := h', toks := tk' }) :
    wpAny (model prog w) (ktrTop dp un gd cn cs L a ccd cl outer) (call f vs) Q E s := C _ _ _ _ _ _ _ _ _ _ _ _ _ _ _ _ _ B F X N T hk hd hu ret

theorem Ct.of_def {f : Addr} {name qual : Str} {params : Arguments} {body : List Stmt} {scope : Scope} {dV kV doc pm cdv ct oc : Value} {an od : Option Addr} {osl : Array (Option Value)}
    (bs : List (Str × Value))
    (ho : (Mine.hd.heap_39 w.params).lookup f = some ⟨oc, od, .func (fnOf name qual params body scope dV kV doc pm an cdv ct), osl⟩)
    (hcd : codeIn (Mine.hd.heap_39 w.params) cdv qual = true)
    (hbind : ∀ s : Shared, (Mine.hd.heap_39 w.params).In s.heap → BindsTo s (fnOf name qual params body scope dV kV doc pm an cdv ct) ⟨vs, []⟩ bs.reverse)
    (hloc : ∀ y ∈ bs.reverse, scope.names.lookup y.1 = some .local)
    (H : ∀ (dp un : Nat) (gd : Option (List Code)) (outer : List Env) (A₀ : Around) (base g : Heap) (L : Addr) (s : Shared) (Q : Flow → Shared → Prop),
      Below A₀ base outer g → Fr g L s.heap (mapL bs) → (Mine.hd.heap_39 w.params).In g → News g L s.heap news → Top p loose mean mg mb g → dp + dep < recursionLimit → un + 8 * dep < cLine →
      (∀ fl news' h' tk' m', post (flowV fl) news' → Fr g L h' m' → News g L h' news' → Q fl { s with heap := h', toks := tk' }) →
      wpAny (model prog w) (ktrTop dp un gd qual scope L f cdv [] outer) (execs body (envX qual scope L f cdv [])) Q (fun _ _ => False) s)
    (hco : scope.isCoroutine = false) (hgen : scope.isGenerator = false) (hk : scope.kind = .function)
    (hcell : ∀ x ∈ scope.names, x.2 ≠ .cell) : Ct prog w p loose mean mg mb (dep + 1) (.ref f) vs news post := by
  intro dp un gd cn cs a ccd cl outer A₀ base h₀ L m s Q E B F X N T hkc hd hu ret
  refine wpAny_call ?_
  refine code_def B F X N T rfl rfl hkc ho hcd (by show dp < recursionLimit; omega) (hbind s (X.keeps F.keep)) hloc (fun g L' h₁ FG F' N' B' X' T' => ?_) hco hgen hk hcell
  have e : (fun y => bs.reverse.reverse.lookup y) = mapL bs := by
    funext y; rw [List.reverse_reverse, mapL_eq]
  rw [e] at F'
  have hw := H (dp + 1) (un + 3) gd (envX cn cs L a ccd cl :: outer) _ base g L' { s with heap := h₁, toks := s.toks + bs.reverse.length } (fun fl s' => LeaveK h₀ L m g (fun r s' => match r with | .ok (.ret v) => Q v s' | .ok _ => False | .error e => E e s') (match fl with | .ret v => v | _ => .none) s')
    B' F' X' N' T' (by omega) (by omega) (fun fl news' h' tk' m' hp F9 N9 => leaveK_ F9 N9 fun Fo No => ret _ _ _ _ (by cases fl <;> exact hp) Fo No)
  exact wpAny_mono hw (fun _ _ x => x) fun _ _ x => x.elim

/-- a def that touches none of the made objects: walked from an empty ledger; what it makes stands ahead of the others -/
theorem Ct.of_pure {padd : Value → Led → Prop} {f : Addr} {name qual : Str} {params : Arguments} {body : List Stmt} {scope : Scope} {dV kV doc pm cdv ct oc : Value} {an od : Option Addr} {osl : Array (Option Value)}
    (bs : List (Str × Value))
    (ho : (Mine.hd.heap_39 w.params).lookup f = some ⟨oc, od, .func (fnOf name qual params body scope dV kV doc pm an cdv ct), osl⟩)
    (hcd : codeIn (Mine.hd.heap_39 w.params) cdv qual = true)
    (hbind : ∀ s : Shared, (Mine.hd.heap_39 w.params).In s.heap → BindsTo s (fnOf name qual params body scope dV kV doc pm an cdv ct) ⟨vs, []⟩ bs.reverse)
    (hloc : ∀ y ∈ bs.reverse, scope.names.lookup y.1 = some .local)
    (H : ∀ (dp un : Nat) (gd : Option (List Code)) (outer : List Env) (A₀ : Around) (base g : Heap) (L : Addr) (s : Shared) (Q : Flow → Shared → Prop),
      Below A₀ base outer g → Fr g L s.heap (mapL bs) → (Mine.hd.heap_39 w.params).In g → News g L s.heap [] → Top p loose mean mg mb g → (∀ q ∈ news, g.get? q.1 = some q.2) → dp + dep < recursionLimit → un + 8 * dep < cLine →
      (∀ fl add h' tk' m', padd (flowV fl) add → Fr g L h' m' → News g L h' add → Q fl { s with heap := h', toks := tk' }) →
      wpAny (model prog w) (ktrTop dp un gd qual scope L f cdv [] outer) (execs body (envX qual scope L f cdv [])) Q (fun _ _ => False) s)
    (hco : scope.isCoroutine = false) (hgen : scope.isGenerator = false) (hk : scope.kind = .function)
    (hcell : ∀ x ∈ scope.names, x.2 ≠ .cell) : Ct prog w p loose mean mg mb (dep + 1) (.ref f) vs news (fun v n' => ∃ add, n' = add ++ news ∧ padd v add ∧ ∀ a ∈ add, ∀ q ∈ news, q.1 ≠ a.1) := by
  intro dp un gd cn cs a ccd cl outer A₀ base h₀ L m s Q E B F X N T hkc hd hu ret
  refine wpAny_call ?_
  obtain ⟨_, BG, _, lv⟩ := groundX (A := ktrTop dp un gd cn cs L a ccd cl outer) (R := fun r s' => match r with | .ok (.ret v) => Q v s' | .ok _ => False | .error e => E e s') B F News.nil rfl rfl hkc
  have XG := X.keeps F.keep
  have TG := T.keeps F.keep
  refine codeAny_call_def (fd := fnOf name qual params body scope dV kV doc pm an cdv ct) (body := body) (binds := bs.reverse) (by show dp < recursionLimit; omega) (XG _ _ ho) rfl TG.nolimit (codeRec_of XG hcd) rfl (hbind s XG) hcell hloc (fun h₁ hns hk₁ => ?_) hco hgen hk
  have e : (fun y => bs.reverse.reverse.lookup y) = mapL bs := by
    funext y; rw [List.reverse_reverse, mapL_eq]
  rw [e] at hns
  have hw := H (dp + 1) (un + 3) gd (envX cn cs L a ccd cl :: outer) _ base s.heap s.heap.objs.size { s with heap := h₁, toks := s.toks + bs.reverse.length } (fun fl s' => match fl with | .ret v => Q v s' | _ => Q .none s')
    BG ⟨hns, hk₁, Nat.le_refl _⟩ XG News.nil TG (fun q hq => (N q hq).1) (by omega) (by omega) (fun fl add h' tk' m' hp F9 N9 => ?_)
  · refine wpAny_mono hw (fun fl s' x => ?_) fun _ _ x => x.elim
    cases fl <;> exact x
  · have No : News h₀ L h' (add ++ news) := fun q hq => by
      rcases List.mem_append.mp hq with hq | hq
      · have h1 := N9 q hq
        obtain ⟨oL, _, _, hL, _⟩ := F.ns
        refine ⟨h1.1, fun e => ?_, ?_⟩
        · have h2 := h1.2.2; rw [e, hL] at h2; cases h2
        · cases h3 : h₀.get? q.1 with
          | none => rfl
          | some o => have h2 := h1.2.2; rw [F.keep _ _ h3] at h2; cases h2
      · exact ⟨F9.keep _ _ (N q hq).1, (N q hq).2⟩
    have done : Q (flowV fl) { s with heap := h', toks := tk' } := ret _ _ _ _ ⟨add, rfl, hp, fun a ha q hq e => by
      have h2 := (N9 a ha).2.2
      rw [← e, (N q hq).1] at h2; cases h2⟩ (F.after F9.keep) No
    cases fl <;> exact done
end
/-- f is this def in h -/
def FnIs (h : Heap) (f : Addr) (name qual : Str) (params : Arguments) (body : List Stmt) (scope : Scope) (cl : List (Str × Addr)) (dV kV doc pm : Value) (an : Option Addr) (cdv ct : Value) : Prop :=
  (∃ o, h.get? f = some o ∧ o.data = .func (fnX name qual params body scope cl dV kV doc pm an cdv ct)) ∧ h.CodeRec cdv qual
section
variable {prog : Program} {w : World} {p : Program} {loose : List Str} {mean : ExcName → Option Value} {mg mb : Str → Option Value} {dep : Nat} {vs : List Value} {led rest : Led} {post : Value → Led → Prop}
  {f : Addr} {name qual : Str} {params : Arguments} {body : List Stmt} {scope : Scope} {dV kV doc pm cdv ct oc : Value} {an od : Option Addr} {osl : Array (Option Value)} {cl : List (Str × Addr)}
theorem FnIs.of_K {h : Heap} (X : (Mine.hd.heap_39 w.params).In h) (ho : (Mine.hd.heap_39 w.params).lookup f = some ⟨oc, od, .func (fnOf name qual params body scope dV kV doc pm an cdv ct), osl⟩) (hcd : codeIn (Mine.hd.heap_39 w.params) cdv qual = true) :
    FnIs h f name qual params body scope [] dV kV doc pm an cdv ct := ⟨⟨_, X _ _ ho, rfl⟩, codeRec_of X hcd⟩

/-- the end of a call: what the callee's base bore beside its ledger stands on -/
theorem Ct.leave {h₀ g : Heap} {L : Addr} {m : Str → Option Value} {s : Shared} {Q E : Value → Shared → Prop} (N : News h₀ L s.heap (led ++ rest))
    (lv : ∀ v s', LeaveK h₀ L m g (fun r s' => match r with | .ok (.ret v) => Q v s' | .ok _ => False | .error e => E e s') v s' → Q v s') (G : ∀ q ∈ rest, g.get? q.1 = some q.2)
    (ret : ∀ v news' h' tk', (∃ l', news' = l' ++ rest ∧ post v l' ∧ ∀ a ∈ l', ∀ q ∈ rest, q.1 ≠ a.1) → Fr h₀ L h' m → News h₀ L h' news' → Q v { s with heap := h', toks := tk' })
    {v : Value} {l' : Led} {h' : Heap} {tk' : Nat} {L' : Addr} {m' : Str → Option Value} (hp : post v l') (F9 : Fr g L' h' m') (N9 : News g L' h' l') : Q v { s with heap := h', toks := tk' } := by
  refine lv _ _ ⟨L', m', l', F9, N9, fun Fo No => ?_⟩
  refine ret v _ h' tk' ⟨l', rfl, hp, fun a ha q hq e => ?_⟩ Fo fun q hq => ?_
  · have h2 := (N9 a ha).2.2
    rw [← e, G q hq] at h2; cases h2
  · rcases List.mem_append.mp hq with hq | hq
    · exact No q hq
    · exact ⟨F9.keep _ _ (G q hq), (N q (List.mem_append_right _ hq)).2⟩

theorem hide_keeps {h₀ : Heap} {L : Addr} {h : Heap} (N : News h₀ L h (led ++ rest)) (apart : ∀ q ∈ rest, ∀ a ∈ led, q.1 ≠ a.1) : ∀ q ∈ rest, (hideAll h (led.map (·.1))).get? q.1 = some q.2 := fun q hq =>
  hideAll_get _ (N q (List.mem_append_right _ hq)).1 fun hm => by
    obtain ⟨a, ha, e⟩ := List.mem_map.mp hm
    exact apart q hq a ha e.symm

/-- a def walked over the part led of the ledger alone; the rest stands -/
theorem Ct.of_def2 (bs : List (Str × Value)) (apart : ∀ q ∈ rest, ∀ a ∈ led, q.1 ≠ a.1)
    (hfn : ∀ h : Heap, (Mine.hd.heap_39 w.params).In h → (∀ q ∈ rest, h.get? q.1 = some q.2) → FnIs h f name qual params body scope cl dV kV doc pm an cdv ct)
    (hbind : ∀ s : Shared, (Mine.hd.heap_39 w.params).In s.heap → (∀ q ∈ rest, s.heap.get? q.1 = some q.2) → BindsTo s (fnX name qual params body scope cl dV kV doc pm an cdv ct) ⟨vs, []⟩ bs.reverse)
    (hloc : ∀ y ∈ bs.reverse, scope.names.lookup y.1 = some .local)
    (H : ∀ (dp un : Nat) (gd : Option (List Code)) (outer : List Env) (A₀ : Around) (base g : Heap) (L : Addr) (s : Shared) (Q : Flow → Shared → Prop),
      Below A₀ base outer g → Fr g L s.heap (mapL bs) → (Mine.hd.heap_39 w.params).In g → News g L s.heap led → Top p loose mean mg mb g → (∀ q ∈ rest, g.get? q.1 = some q.2) → dp + dep < recursionLimit → un + 8 * dep < cLine →
      (∀ fl l' h' tk' m', post (flowV fl) l' → Fr g L h' m' → News g L h' l' → Q fl { s with heap := h', toks := tk' }) →
      wpAny (model prog w) (ktrTop dp un gd qual scope L f cdv cl outer) (execs body (envX qual scope L f cdv cl)) Q (fun _ _ => False) s)
    (hco : scope.isCoroutine = false) (hgen : scope.isGenerator = false) (hk : scope.kind = .function)
    (hcell : ∀ x ∈ scope.names, x.2 ≠ .cell) : Ct prog w p loose mean mg mb (dep + 1) (.ref f) vs (led ++ rest) (fun v n' => ∃ l', n' = l' ++ rest ∧ post v l' ∧ ∀ a ∈ l', ∀ q ∈ rest, q.1 ≠ a.1) := by
  intro dp un gd cn cs a ccd cl' outer A₀ base h₀ L m s Q E B F X N T hkc hd hu ret
  refine wpAny_call ?_
  have NL : News h₀ L s.heap led := fun q hq => N q (List.mem_append_left _ hq)
  obtain ⟨FG, BG, st, lv⟩ := groundX (A := ktrTop dp un gd cn cs L a ccd cl' outer) (R := fun r s' => match r with | .ok (.ret v) => Q v s' | .ok _ => False | .error e => E e s') B F NL rfl rfl hkc
  have XS := X.keeps F.keep
  have GS : ∀ q ∈ rest, s.heap.get? q.1 = some q.2 := fun q hq => (N q (List.mem_append_right _ hq)).1
  obtain ⟨⟨o, ho, hdat⟩, hcd⟩ := hfn s.heap XS GS
  have G := hide_keeps N apart
  refine codeAny_call_def (fd := fnX name qual params body scope cl dV kV doc pm an cdv ct) (body := body) (binds := bs.reverse) (by show dp < recursionLimit; omega) ho hdat (T.keeps F.keep).nolimit hcd rfl (hbind s XS GS) hcell hloc (fun h₁ hns hk₁ => ?_) hco hgen hk
  have e : (fun y => bs.reverse.reverse.lookup y) = mapL bs := by
    funext y; rw [List.reverse_reverse, mapL_eq]
  rw [e] at hns
  have hw := H (dp + 1) (un + 3) gd (envX cn cs L a ccd cl' :: outer) _ base _ s.heap.objs.size { s with heap := h₁, toks := s.toks + bs.reverse.length } (fun fl s' => Q (flowV fl) s')
    BG ⟨hns, fun b o e => hk₁ b o (of_hideAll _ e), Nat.le_of_eq (hideAll_size _ _)⟩ (X.keeps st) (fun q hq => ⟨hk₁ _ _ (NL q hq).1, Nat.ne_of_lt (Heap.lt_size (NL q hq).1), hideAll_none _ (List.mem_map_of_mem hq)⟩) (T.keeps st) G (by omega) (by omega)
    (fun fl l' h' tk' m' hp F9 N9 => Ct.leave (s := s) N lv G ret hp F9 N9)
  refine wpAny_mono hw (fun fl s' x => ?_) fun _ _ x => x.elim
  cases fl <;> exact x

/-- the same, of a def whose scope holds cells -/
theorem Ct.of_def2C (bs bl bc : List (Str × Value)) (apart : ∀ q ∈ rest, ∀ a ∈ led, q.1 ≠ a.1)
    (hfn : ∀ h : Heap, (Mine.hd.heap_39 w.params).In h → (∀ q ∈ rest, h.get? q.1 = some q.2) → FnIs h f name qual params body scope [] dV kV doc pm an cdv ct)
    (hbind : ∀ s : Shared, (Mine.hd.heap_39 w.params).In s.heap → (∀ q ∈ rest, s.heap.get? q.1 = some q.2) → BindsTo s (fnX name qual params body scope [] dV kV doc pm an cdv ct) ⟨vs, []⟩ bs)
    (hkind : (bs.all fun y => scope.names.lookup y.1 == some .local || scope.names.lookup y.1 == some .cell) = true)
    (hnd : ((cellsFrom 0 scope.names []).map (·.1)).Nodup)
    (hbl : bindL (fun x => scope.names.lookup x) bs (fun _ => none) = mapL bl) (hbc : bindC (fun x => scope.names.lookup x) bs (fun _ => none) = mapL bc)
    (H : ∀ (dp un : Nat) (gd : Option (List Code)) (outer : List Env) (A₀ : Around) (base g : Heap) (L : Addr) (cells : Led) (s : Shared) (Q : Flow → Shared → Prop),
      Below A₀ base outer g → Fr g L s.heap (mapL bl) → (Mine.hd.heap_39 w.params).In g → News g L s.heap (cells ++ led) → CellsAre (mapL bc) (cellsFrom (L + 1) scope.names []) cells → (∀ q ∈ led, q.1 < L) → Top p loose mean mg mb g → (∀ q ∈ rest, g.get? q.1 = some q.2) → dp + dep < recursionLimit → un + 8 * dep < cLine →
      (∀ fl l' h' tk' m', post (flowV fl) l' → Fr g L h' m' → News g L h' l' → Q fl { s with heap := h', toks := tk' }) →
      wpAny (model prog w) (ktrTop dp un gd qual scope L f cdv (cellsFrom (L + 1) scope.names []) outer) (execs body (envX qual scope L f cdv (cellsFrom (L + 1) scope.names []))) Q (fun _ _ => False) s)
    (hco : scope.isCoroutine = false) (hgen : scope.isGenerator = false) (hk : scope.kind = .function) :
    Ct prog w p loose mean mg mb (dep + 1) (.ref f) vs (led ++ rest) (fun v n' => ∃ l', n' = l' ++ rest ∧ post v l' ∧ ∀ a ∈ l', ∀ q ∈ rest, q.1 ≠ a.1) := by
  intro dp un gd cn cs a ccd cl' outer A₀ base h₀ L m s Q E B F X N T hkc hd hu ret
  refine wpAny_call ?_
  have NL : News h₀ L s.heap led := fun q hq => N q (List.mem_append_left _ hq)
  obtain ⟨FG, BG, st, lv⟩ := groundX (A := ktrTop dp un gd cn cs L a ccd cl' outer) (R := fun r s' => match r with | .ok (.ret v) => Q v s' | .ok _ => False | .error e => E e s') B F NL rfl rfl hkc
  have XS := X.keeps F.keep
  have GS : ∀ q ∈ rest, s.heap.get? q.1 = some q.2 := fun q hq => (N q (List.mem_append_right _ hq)).1
  obtain ⟨⟨o, ho, hdat⟩, hcd⟩ := hfn s.heap XS GS
  have G := hide_keeps N apart
  refine codeAny_call_function (by show dp < recursionLimit; omega) ho hdat hco hgen rfl hcd (hbind s XS GS _ _ _ _ ?_)
  refine wpAny_newFunctionEnv_cells hk (kindsX hkind _) fun env' he s' x => ?_
  subst he
  refine ⟨((T.keeps F.keep).nolimit).keeps x.toInCall.keep, codeAny_func ?_⟩
  obtain ⟨h₁, tk, rfl, _⟩ := x.done
  have hk₁ := x.toInCall.keep
  obtain ⟨cells, NC, Y⟩ := Cl.news (h₀ := s.heap) (Nat.le_refl _) fun n c hm => ⟨x.cell n c (lookup_of_mem_nodup (cellsFrom_names scope.names 0 (s.heap.objs.size + 1) [] [] rfl ▸ hnd) hm), x.above n c hm⟩
  have ns := x.toInCall.ns
  have Y' : CellsAre (mapL bc) (cellsFrom (s.heap.objs.size + 1) scope.names []) cells := hbc ▸ Y
  have ns' : h₁.Ns s.heap.objs.size (mapL bl) := hbl ▸ ns
  have hw := H (dp + 1) (un + 3) gd (envX cn cs L a ccd cl' :: outer) _ base _ s.heap.objs.size cells { s with heap := h₁, toks := tk } (fun fl s' => Q (flowV fl) s')
    BG ⟨ns', fun b o e => hk₁ b o (of_hideAll _ e), Nat.le_of_eq (hideAll_size _ _)⟩ (X.keeps st) (fun q hq => ?_) Y' (fun q hq => Heap.lt_size (NL q hq).1) (T.keeps st) G (by omega) (by omega)
    (fun fl l' h' tk' m' hp F9 N9 => Ct.leave (s := s) N lv G ret hp F9 N9)
  · refine wpAny_mono hw (fun fl s' x => ?_) fun _ _ x => x.elim
    cases fl <;> exact x
  · rcases List.mem_append.mp hq with hq | hq
    · refine ⟨(NC q hq).1, (NC q hq).2.1, ?_⟩
      cases q9 : (hideAll s.heap (led.map (·.1))).get? q.1 with
      | none => rfl
      | some o => have := of_hideAll _ q9; rw [(NC q hq).2.2] at this; cases this
    · exact ⟨hk₁ _ _ (NL q hq).1, Nat.ne_of_lt (Heap.lt_size (NL q hq).1), hideAll_none _ (List.mem_map_of_mem hq)⟩
end
/-- objects that stand in the heap, made by this call or not -/
def Knows (know : Led) (h : Heap) : Prop := ∀ q ∈ know, h.get? q.1 = some q.2
theorem Knows.keeps {know : Led} {h h' : Heap} (k : Knows know h) (e : ∀ b o, h.get? b = some o → h'.get? b = some o) : Knows know h' := fun q hq => e _ _ (k q hq)
theorem Knows.of_news {know news : Led} {h₀ h : Heap} {L : Addr} (N : News h₀ L h news) (s : ∀ q ∈ know, q ∈ news) : Knows know h := fun q hq => (N q (s q hq)).1
theorem Knows.list {know : Led} {h : Heap} {l : Addr} {its : Array Value} {n : Nat} (k : Knows know h) (hm : (l, listOf its n) ∈ know) : h.IsList l its := ⟨_, k _ hm, rfl, _, rfl⟩
/-- a contract that asks that these objects stand in the heap -/
def CtK (prog : Program) (w : World) (p : Program) (loose : List Str) (mean : ExcName → Option Value) (mg mb : Str → Option Value) (dep : Nat) (know : Led) (f : Value) (vs : List Value) (news : Led) (post : Value → Led → Prop) : Prop :=
  ∀ (dp un : Nat) (gd : Option (List Code)) (cn : Str) (cs : Scope) (a : Addr) (ccd : Value) (cl : List (Str × Addr)) (outer : List Env) (A₀ : Around) (base h₀ : Heap) (L : Addr) (m : Str → Option Value) (s : Shared) (Q E : Value → Shared → Prop),
    Below A₀ base outer h₀ → Fr h₀ L s.heap m → (Mine.hd.heap_39 w.params).In h₀ → News h₀ L s.heap news → Top p loose mean mg mb h₀ → Knows know s.heap → cs.kind = .function → dp + dep < recursionLimit → un + 8 * dep < cLine →
    (∀ v news' h' tk', post v news' → Fr h₀ L h' m → News h₀ L h' news' → Q v { s with heap := h', toks := tk' }) →
    wpAny (model prog w) (ktrTop dp un gd cn cs L a ccd cl outer) (call f vs) Q E s
section
variable {prog : Program} {w : World} {p : Program} {loose : List Str} {mean : ExcName → Option Value} {mg mb : Str → Option Value} {dep : Nat} {vs : List Value} {know led rest news : Led} {post : Value → Led → Prop}
theorem CtK.use {f : Value} {dp un : Nat} {gd : Option (List Code)} {cn : Str} {cs : Scope} {a : Addr} {ccd : Value} {cl : List (Str × Addr)} {outer : List Env} {A₀ : Around} {base h₀ : Heap} {L : Addr} {m : Str → Option Value} {s : Shared} {Q E : Value → Shared → Prop}
    (C : CtK prog w p loose mean mg mb dep know f vs news post)
    (B : Below A₀ base outer h₀) (F : Fr h₀ L s.heap m) (X : (Mine.hd.heap_39 w.params).In h₀) (N : News h₀ L s.heap news) (T : Top p loose mean mg mb h₀) (W : Knows know s.heap) (hk : cs.kind = .function) (hd : dp + dep < recursionLimit) (hu : un + 8 * dep < cLine)
    (ret : ∀ v news' h' tk', post v news' → Fr h₀ L h' m → News h₀ L h' news' → Q v { s with heap := h', toks := tk' }) :
    wpAny (model prog w) (ktrTop dp un gd cn cs L a ccd cl outer) (call f vs) Q E s := C _ _ _ _ _ _ _ _ _ _ _ _ _ _ _ _ _ B F X N T W hk hd hu ret
theorem CtK.mono {f : Value} {post' : Value → Led → Prop} {dep' : Nat} (C : CtK prog w p loose mean mg mb dep know f vs news post) (hd : dep ≤ dep') (h : ∀ v n, post v n → ∃ n', post' v n' ∧ ∀ q ∈ n', q ∈ n) : CtK prog w p loose mean mg mb dep' know f vs news post' := by
  intro dp un gd cn cs a ccd cl outer A₀ base h₀ L m s Q E B F X N T W hk hd' hu ret
  refine C dp un gd cn cs a ccd cl outer A₀ base h₀ L m s Q E B F X N T W hk (by omega) (by omega) fun v n h' tk' hp F' N' => ?_
  obtain ⟨n', hp', s'⟩ := h v n hp
  exact ret v n' h' tk' hp' F' fun q hq => N' q (s' q hq)
theorem Ct.toK {f : Value} (C : Ct prog w p loose mean mg mb dep f vs news post) : CtK prog w p loose mean mg mb dep know f vs news post :=
  fun dp un gd cn cs a ccd cl outer A₀ base h₀ L m s Q E B F X N T _ hk hd hu ret => C dp un gd cn cs a ccd cl outer A₀ base h₀ L m s Q E B F X N T hk hd hu ret
variable {f : Addr} {name qual : Str} {params : Arguments} {body : List Stmt} {scope : Scope} {dV kV doc pm cdv ct : Value} {an : Option Addr} {cl : List (Str × Addr)}
/-- a def walked over the part led of the ledger alone; the rest stands, and what is known stands in the base -/
theorem CtK.of_def2 (bs : List (Str × Value)) (apart : ∀ q ∈ rest, ∀ a ∈ led, q.1 ≠ a.1) (apartK : ∀ q ∈ know, ∀ a ∈ led, q.2 ≠ a.2)
    (hfn : ∀ h : Heap, (Mine.hd.heap_39 w.params).In h → Knows know h → FnIs h f name qual params body scope cl dV kV doc pm an cdv ct)
    (hbind : ∀ s : Shared, (Mine.hd.heap_39 w.params).In s.heap → Knows know s.heap → BindsTo s (fnX name qual params body scope cl dV kV doc pm an cdv ct) ⟨vs, []⟩ bs.reverse)
    (hloc : ∀ y ∈ bs.reverse, scope.names.lookup y.1 = some .local)
    (H : ∀ (dp un : Nat) (gd : Option (List Code)) (outer : List Env) (A₀ : Around) (base g : Heap) (L : Addr) (s : Shared) (Q : Flow → Shared → Prop),
      Below A₀ base outer g → Fr g L s.heap (mapL bs) → (Mine.hd.heap_39 w.params).In g → News g L s.heap led → Top p loose mean mg mb g → Knows rest g → Knows know g → dp + dep < recursionLimit → un + 8 * dep < cLine →
      (∀ fl l' h' tk' m', post (flowV fl) l' → Fr g L h' m' → News g L h' l' → Q fl { s with heap := h', toks := tk' }) →
      wpAny (model prog w) (ktrTop dp un gd qual scope L f cdv cl outer) (execs body (envX qual scope L f cdv cl)) Q (fun _ _ => False) s)
    (hco : scope.isCoroutine = false) (hgen : scope.isGenerator = false) (hk : scope.kind = .function)
    (hcell : ∀ x ∈ scope.names, x.2 ≠ .cell) : CtK prog w p loose mean mg mb (dep + 1) know (.ref f) vs (led ++ rest) (fun v n' => ∃ l', n' = l' ++ rest ∧ post v l' ∧ ∀ a ∈ l', ∀ q ∈ rest, q.1 ≠ a.1) := by
  intro dp un gd cn cs a ccd cl' outer A₀ base h₀ L m s Q E B F X N T W hkc hd hu ret
  refine wpAny_call ?_
  have NL : News h₀ L s.heap led := fun q hq => N q (List.mem_append_left _ hq)
  obtain ⟨FG, BG, st, lv⟩ := groundX (A := ktrTop dp un gd cn cs L a ccd cl' outer) (R := fun r s' => match r with | .ok (.ret v) => Q v s' | .ok _ => False | .error e => E e s') B F NL rfl rfl hkc
  have XS := X.keeps F.keep
  obtain ⟨⟨o, ho, hdat⟩, hcd⟩ := hfn s.heap XS W
  have G : Knows rest (hideAll s.heap (led.map (·.1))) := hide_keeps N apart
  have GK : Knows know (hideAll s.heap (led.map (·.1))) := fun q hq => hideAll_get _ (W q hq) fun hm => by
    obtain ⟨a, ha, e⟩ := List.mem_map.mp hm
    have h1 := (NL a ha).1
    rw [e, W q hq] at h1
    exact apartK q hq a ha (Option.some.inj h1)
  refine codeAny_call_def (fd := fnX name qual params body scope cl dV kV doc pm an cdv ct) (body := body) (binds := bs.reverse) (by show dp < recursionLimit; omega) ho hdat (T.keeps F.keep).nolimit hcd rfl (hbind s XS W) hcell hloc (fun h₁ hns hk₁ => ?_) hco hgen hk
  have e : (fun y => bs.reverse.reverse.lookup y) = mapL bs := by
    funext y; rw [List.reverse_reverse, mapL_eq]
  rw [e] at hns
  have hw := H (dp + 1) (un + 3) gd (envX cn cs L a ccd cl' :: outer) _ base _ s.heap.objs.size { s with heap := h₁, toks := s.toks + bs.reverse.length } (fun fl s' => Q (flowV fl) s')
    BG ⟨hns, fun b o e => hk₁ b o (of_hideAll _ e), Nat.le_of_eq (hideAll_size _ _)⟩ (X.keeps st) (fun q hq => ⟨hk₁ _ _ (NL q hq).1, Nat.ne_of_lt (Heap.lt_size (NL q hq).1), hideAll_none _ (List.mem_map_of_mem hq)⟩) (T.keeps st) G GK (by omega) (by omega)
    (fun fl l' h' tk' m' hp F9 N9 => Ct.leave (s := s) N lv G ret hp F9 N9)
  refine wpAny_mono hw (fun fl s' x => ?_) fun _ _ x => x.elim
  cases fl <;> exact x

/-- a def that makes nothing that stays -/
theorem CtK.of_pure {pv : Value → Prop} (bs : List (Str × Value))
    (hfn : ∀ h : Heap, (Mine.hd.heap_39 w.params).In h → Knows know h → FnIs h f name qual params body scope cl dV kV doc pm an cdv ct)
    (hbind : ∀ s : Shared, (Mine.hd.heap_39 w.params).In s.heap → Knows know s.heap → BindsTo s (fnX name qual params body scope cl dV kV doc pm an cdv ct) ⟨vs, []⟩ bs.reverse)
    (hloc : ∀ y ∈ bs.reverse, scope.names.lookup y.1 = some .local)
    (H : ∀ (dp un : Nat) (gd : Option (List Code)) (outer : List Env) (A₀ : Around) (base g : Heap) (L : Addr) (s : Shared) (Q : Flow → Shared → Prop),
      Below A₀ base outer g → Fr g L s.heap (mapL bs) → (Mine.hd.heap_39 w.params).In g → News g L s.heap [] → Top p loose mean mg mb g → Knows know g → dp + dep < recursionLimit → un + 8 * dep < cLine →
      (∀ fl h' tk' m', pv (flowV fl) → Fr g L h' m' → Q fl { s with heap := h', toks := tk' }) →
      wpAny (model prog w) (ktrTop dp un gd qual scope L f cdv cl outer) (execs body (envX qual scope L f cdv cl)) Q (fun _ _ => False) s)
    (hco : scope.isCoroutine = false) (hgen : scope.isGenerator = false) (hk : scope.kind = .function)
    (hcell : ∀ x ∈ scope.names, x.2 ≠ .cell) : CtK prog w p loose mean mg mb (dep + 1) know (.ref f) vs news (fun v n' => n' = news ∧ pv v) :=
  CtK.mono (CtK.of_def2 (led := []) (rest := news) (post := fun v l' => l' = [] ∧ pv v) bs (fun _ _ _ h => nomatch h) (fun _ _ _ h => nomatch h) hfn hbind hloc
    (fun dp un gd outer A₀ base g L s Q B F X N T _ W hd hu hret => H dp un gd outer A₀ base g L s Q B F X N T W hd hu fun fl h' tk' m' hp F9 => hret fl [] h' tk' m' ⟨rfl, hp⟩ F9 News.nil) hco hgen hk hcell)
    (Nat.le_refl _) fun v n ⟨l', e, ⟨e2, hp⟩, _⟩ => ⟨news, ⟨rfl, hp⟩, fun q hq => by subst e; subst e2; exact hq⟩
end
end
section
example : True := by
  k_with_none
  w_top off
  trivial
-- functools.reduce over a made list
theorem kind_reduce : builtinKind "_functools.reduce" = none := by decide +kernel
theorem plain_reduce : plainId "_functools.reduce" = true := by decide +kernel
theorem entry_reduce : entryFor table "_functools.reduce" = some Builtin.«_functools.reduce» := entryFor_of_fast (by kernel_rfl)
theorem args_reduce (a b c : Value) : argsOk "_functools.reduce" ⟨[a, b, c], []⟩ := by unfold argsOk; kernel_rfl
theorem plain_reduce_loop : plainId "_functools.reduce.loop" = true := by decide +kernel
theorem entry_reduce_loop : entryFor table "_functools.reduce.loop" = some Builtin.«_functools.reduce.loop» := entryFor_of_fast (by kernel_rfl)
abbrev pairObj (a b : Value) : Obj := { cls := .type "tuple", data := .seq #[a, b] }
abbrev ownObj (fv l v0 : Value) : Obj := { cls := .type "tuple", data := .seq #[fv, l, v0] }
abbrev itObj (l : Addr) (i : Nat) : Obj := { cls := .type "list_iterator", data := .fields #[.ref l, .int i 0] }
section
variable {prog : Program} {w : World} {p : Program} {loose : List Str} {mean : ExcName → Option Value} {mg mb : Str → Option Value} {dep : Nat}
/-- what a call of fv with the sum so far and the next item does -/
def Turns (prog : Program) (w : World) (p : Program) (loose : List Str) (mean : ExcName → Option Value) (mg mb : Str → Option Value) (dep : Nat) (fv : Value) (vs : List Value) (J : Nat → Value → Led → Prop) : Prop :=
  ∀ i r nw x, J i r nw → vs[i]? = some x → ∀ own : Led, Ct prog w p loose mean mg mb dep fv [r, x] (nw ++ own) (fun r' n' => ∃ add, n' = add ++ (nw ++ own) ∧ J (i + 1) r' (add ++ nw) ∧ ∀ a ∈ add, ∀ q ∈ nw ++ own, q.1 ≠ a.1)
variable {fv v0 : Value} {lx : Addr} {vs : List Value} {nn : Nat} {J : Nat → Value → Led → Prop}
  {dp un : Nat} {gd : Option (List Code)} {cn : Str} {cs : Scope} {a : Addr} {ccd : Value} {cl : List (Str × Addr)} {outer : List Env} {A₀ : Around} {base h₀ : Heap} {L : Addr} {m : Str → Option Value} {E Q : Value → Shared → Prop} {news : Led}
theorem news_same {h h' : Heap} {nw : Led} {b : Addr} (N : News h₀ L h nw) (hs : Heap.ExtBut b h h') (off : ∀ q ∈ nw, q.1 ≠ b) : News h₀ L h' nw := fun q hq => ⟨hs _ _ (off q hq) (N q hq).1, (N q hq).2⟩

theorem reduce_loop (Tn : Turns prog w p loose mean mg mb dep fv vs J) (B : Below A₀ base outer h₀) (X : (Mine.hd.heap_39 w.params).In h₀) (T : Top p loose mean mg mb h₀) (hk : cs.kind = .function) (hd : dp + dep < recursionLimit) (hu : un + 1 + 8 * dep < cLine) (pa it oa : Addr) (h1 : pa ≠ it) (h2 : pa ≠ oa) (h3 : it ≠ oa) {R : Result → Shared → Prop} :
    ∀ (k i : Nat) (r : Value) (nw : Led) (s : Shared) (b c : Value) (oi : Obj), vs.length - i = k → i ≤ vs.length → J i r nw → (lx, listOf vs.toArray nn) ∈ nw → Fr h₀ L s.heap m → oi.cls = .type "list_iterator" → oi.data = .fields #[.ref lx, .int i 0] →
      News h₀ L s.heap (nw ++ [(pa, pairObj b c), (it, oi), (oa, ownObj fv (.ref lx) v0)]) → (∀ q ∈ nw, q.1 ≠ pa ∧ q.1 ≠ it) →
      (∀ r nw h tk, J vs.length r nw → Fr h₀ L h m → News h₀ L h nw → R (.ok (.ret r)) { s with heap := h, toks := tk }) →
      codeAny (model prog w) (ktrTop dp un gd cn cs L a ccd cl outer) (.builtin "_functools.reduce.loop" ⟨[.ref pa, .ref it, .ref oa, r], []⟩) R s := by
  intro k
  induction k with
  | zero =>
    intro i r nw s b c oi hki hi hJ hl F ic id N off done
    have ei : i = vs.length := by omega
    subst ei
    refine codeAny_builtin entry_reduce_loop ?_
    rw [Around.under_plainId plain_reduce_loop _]
    show wpAny _ _ (seqItems? (.ref oa) >>= _) _ _ s
    refine wpAny_bind (wpAny_seqItems (N (oa, ownObj fv (.ref lx) v0) (by simp)).1 rfl ?_)
    show wpAny _ _ (pyNext (.ref it) >>= _) _ _ s
    have hlst : s.heap.IsList lx vs.toArray := ⟨_, (N _ (List.mem_append_left _ hl)).1, rfl, _, rfl⟩
    refine wpAny_bind (wpAny_pyNext_list_end rfl (i := vs.length) ⟨oi, (N (it, oi) (by simp)).1, ic, id⟩ hlst (by simp) fun h' hx => ?_)
    refine wpAny_pure ?_
    have hn : h₀.get? it = none := (N (it, oi) (by simp)).2.2
    refine done r nw h' s.toks hJ ⟨F.ns.extBut hx (Ne.symm (N (it, oi) (by simp)).2.1), fun b o e => hx b o (fun q => by rw [q, hn] at e; cases e) (F.keep b o e), F.above⟩ (news_same (fun q hq => N q (List.mem_append_left _ hq)) hx fun q hq => (off q hq).2)
  | succ k ih =>
    intro i r nw s b c oi hki hi hJ hl F ic id N off done
    have hlt : i < vs.length := by omega
    obtain ⟨x, hx⟩ : ∃ x, vs[i]? = some x := ⟨vs[i], by simp [hlt]⟩
    refine codeAny_builtin entry_reduce_loop ?_
    rw [Around.under_plainId plain_reduce_loop _]
    show wpAny _ _ (seqItems? (.ref oa) >>= _) _ _ s
    refine wpAny_bind (wpAny_seqItems (N (oa, ownObj fv (.ref lx) v0) (by simp)).1 rfl ?_)
    show wpAny _ _ (pyNext (.ref it) >>= _) _ _ s
    have hlst : s.heap.IsList lx vs.toArray := ⟨_, (N _ (List.mem_append_left _ hl)).1, rfl, _, rfl⟩
    have NP := N (pa, pairObj b c) (by simp)
    have NI := N (it, oi) (by simp)
    have NO := N (oa, ownObj fv (.ref lx) v0) (by simp)
    refine wpAny_bind (wpAny_pyNext_list_item (i := i) ⟨oi, NI.1, ic, id⟩ hlst (by simpa using hx) fun h1' hit hs1 => ?_)
    obtain ⟨oi', hoi, ic', id'⟩ := hit
    have x1 := hs1.extBut
    have hp1 : h1'.get? pa = some (pairObj b c) := x1 _ _ h1 NP.1
    show wpAny _ _ (seqItems? (.ref pa) >>= _) _ _ _
    refine wpAny_bind (wpAny_seqItems hp1 rfl ?_)
    show wpAny _ _ (updateSeq pa (·.setIfInBounds 0 r) >>= _) _ _ _
    refine wpAny_bind (wpAny_updateSeq_pair (a := b) (b := c) hp1 fun h2' hp2 hs2 => ?_)
    have x2 := hs2.extBut
    refine wpAny_bind (wpAny_letGo ?_)
    refine wpAny_bind (wpAny_updateSeq_pair (a := r) (b := c) hp2 fun h3' hp3 hs3 => ?_)
    have x3 := hs3.extBut
    refine wpAny_bind (wpAny_letGo ?_)
    have mv : ∀ q o, q ≠ pa → q ≠ it → s.heap.get? q = some o → h3'.get? q = some o := fun q o n1 n2 e => x3 _ _ n1 (x2 _ _ n1 (x1 _ _ n2 e))
    have F3 : Fr h₀ L h3' m := ⟨F.ns.at' fun o e => mv _ _ (Ne.symm NP.2.1) (Ne.symm NI.2.1) e, fun q o e => mv q o (fun z => by rw [z, NP.2.2] at e; cases e) (fun z => by rw [z, NI.2.2] at e; cases e) (F.keep q o e), F.above⟩
    have N3 : News h₀ L h3' (nw ++ [(pa, pairObj r x), (it, oi'), (oa, ownObj fv (.ref lx) v0)]) := fun q hq => by
      rcases List.mem_append.mp hq with hq | hq
      · exact ⟨mv _ _ (off q hq).1 (off q hq).2 (N q (List.mem_append_left _ hq)).1, (N q (List.mem_append_left _ hq)).2⟩
      · simp only [List.mem_cons, List.not_mem_nil, or_false] at hq
        rcases hq with rfl | rfl | rfl
        · exact ⟨hp3, NP.2⟩
        · exact ⟨x3 _ _ (Ne.symm h1) (x2 _ _ (Ne.symm h1) hoi), NI.2⟩
        · exact ⟨mv _ _ (Ne.symm h2) (Ne.symm h3) NO.1, NO.2⟩
    show wpAny _ (ktrTop dp (un + 1) gd cn cs L a ccd cl outer) (call fv [r, x] >>= _) _ _ _
    refine wpAny_bind (Ct.use (Tn i r nw x hJ hx _) B F3 X N3 T hk hd hu fun r' n' h' tk' hp F4 N4 => ?_)
    obtain ⟨add, rfl, hJ', ap⟩ := hp
    refine wpAny_pure ⟨plainId_quiet plain_reduce_loop _, ih (i + 1) r' (add ++ nw) _ r x oi' (by omega) hlt hJ' (List.mem_append_right _ hl) F4 ic' id' (by rw [List.append_assoc]; exact N4) (fun q hq => ?_) fun r nw h tk z1 z2 z3 => done r nw h tk z1 z2 z3⟩
    rcases List.mem_append.mp hq with hq | hq
    · exact ⟨Ne.symm (ap q hq (pa, pairObj r x) (by simp)), Ne.symm (ap q hq (it, oi') (by simp))⟩
    · exact off q hq

theorem reduce_list {s : Shared} (Tn : Turns prog w p loose mean mg mb dep fv vs J) (B : Below A₀ base outer h₀) (F : Fr h₀ L s.heap m) (X : (Mine.hd.heap_39 w.params).In h₀) (N : News h₀ L s.heap news) (T : Top p loose mean mg mb h₀) (hk : cs.kind = .function) (hd : dp + dep < recursionLimit) (hu : un + 1 + 8 * dep < cLine)
    (hl : (lx, listOf vs.toArray nn) ∈ news) (j0 : J 0 v0 news)
    (done : ∀ r nw h tk, J vs.length r nw → Fr h₀ L h m → News h₀ L h nw → Q r { s with heap := h, toks := tk }) :
    wpAny (model prog w) (ktrTop dp un gd cn cs L a ccd cl outer) (call (.builtin "_functools.reduce") [fv, .ref lx, v0]) Q E s := by
  refine call_function_tree kind_reduce plain_reduce entry_reduce (args_reduce _ _ _) ?_
  have hlst : s.heap.IsList lx vs.toArray := ⟨_, (N _ hl).1, rfl, _, rfl⟩
  have hLs : L < s.heap.objs.size := F.ns.lt
  have fresh : ∀ b, s.heap.objs.size ≤ b → b ≠ L ∧ h₀.get? b = none := fun b hb => ⟨by rintro rfl; exact absurd hLs (Nat.not_lt.mpr hb), Heap.get?_none_of_le (Nat.le_trans F.above (Nat.le_of_lt (Nat.lt_of_lt_of_le hLs hb)))⟩
  refine wpAny_bind (wpAny_of_eq (show someArgs "reduce" 2 3 ⟨[fv, .ref lx, v0], []⟩ = pure [fv, .ref lx, v0] from rfl) ?_)
  show wpAny _ _ (tryCatch (pyIter (.ref lx)) _ >>= _) _ _ s
  refine wpAny_bind (wpAny_tryCatch (wpAny_pyIter_list hlst ?_))
  refine wpAny_bind (wpAny_holding (wpAny_newTuple ?_))
  refine wpAny_bind (wpAny_holding (wpAny_newTuple ?_))
  have lt := fun (q : Addr × Obj) (hq : q ∈ news) => Heap.lt_size (N q hq).1
  refine wpAny_pure ⟨plainId_quiet plain_reduce_loop _, ?_⟩
  have up : ∀ q o, s.heap.get? q = some o → (((s.heap.push { cls := .type "list_iterator", data := .fields #[.ref lx, .int 0 0] }).push (pairObj (rawInt 0) (rawInt 0))).push (ownObj fv (.ref lx) v0)).get? q = some o := fun q o e => Heap.get?_push_of_some _ (Heap.get?_push_of_some _ (Heap.get?_push_of_some _ e))
  refine reduce_loop (v0 := v0) Tn B X T hk hd hu _ _ _ ?_ ?_ ?_ vs.length 0 v0 news _ (rawInt 0) (rawInt 0) { cls := .type "list_iterator", data := .fields #[.ref lx, .int 0 0] } (Nat.sub_zero _) (Nat.zero_le _) j0 hl ?_ rfl rfl ?_ ?_ fun r nw h tk z1 z2 z3 => done r nw h tk z1 z2 z3
  · rw [Heap.size_push]; exact Nat.succ_ne_self _
  · rw [Heap.size_push, Heap.size_push, Heap.size_push]; exact Nat.ne_of_lt (Nat.lt_succ_self _)
  · rw [Heap.size_push, Heap.size_push]; exact Nat.ne_of_lt (Nat.lt_succ_of_lt (Nat.lt_succ_self _))
  · exact F.keeps up
  · intro q hq
    rcases List.mem_append.mp hq with hq | hq
    · exact ⟨up _ _ (N q hq).1, (N q hq).2⟩
    · simp only [List.mem_cons, List.not_mem_nil, or_false] at hq
      rcases hq with rfl | rfl | rfl
      · exact ⟨Heap.get?_push_of_some _ (Heap.get?_push_size _ rfl), fresh _ (by rw [Heap.size_push]; exact Nat.le_succ _)⟩
      · exact ⟨Heap.get?_push_of_some _ (Heap.get?_push_of_some _ (Heap.get?_push_size _ rfl)), fresh _ (Nat.le_refl _)⟩
      · exact ⟨Heap.get?_push_size _ rfl, fresh _ (by rw [Heap.size_push, Heap.size_push]; exact Nat.le_succ_of_le (Nat.le_succ _))⟩
  · intro q hq
    refine ⟨Nat.ne_of_lt (Nat.lt_of_lt_of_le (lt q hq) (by rw [Heap.size_push]; exact Nat.le_succ _)), Nat.ne_of_lt (lt q hq)⟩
end
-- a lambda (its own names may be cells): walked from an empty ledger
section
variable {prog : Program} {w : World} {p : Program} {loose : List Str} {mean : ExcName → Option Value} {mg mb : Str → Option Value} {dep : Nat} {vs : List Value} {news : Led} {padd : Value → Led → Prop}
  {f : Addr} {name qual : Str} {params : Arguments} {body : PySem.Expr} {scope : Scope} {pm cdv ctv : Value}
theorem Ct.of_lamC (bs bl bc : List (Str × Value))
    (hfn : ∀ h : Heap, (Mine.hd.heap_39 w.params).In h → (∀ q ∈ news, h.get? q.1 = some q.2) → (∃ o, h.get? f = some o ∧ o.data = .func (kla_fn name qual params body scope [] pm cdv ctv)) ∧ h.CodeRec cdv qual)
    (hbind : bindArgs (kla_fn name qual params body scope [] pm cdv ctv) ⟨vs, []⟩ = pure bs)
    (hkind : (bs.all fun y => scope.names.lookup y.1 == some .local || scope.names.lookup y.1 == some .cell) = true)
    (hnd : ((cellsFrom 0 scope.names []).map (·.1)).Nodup)
    (hbl : bindL (fun x => scope.names.lookup x) bs (fun _ => none) = mapL bl) (hbc : bindC (fun x => scope.names.lookup x) bs (fun _ => none) = mapL bc)
    (H : ∀ (dp un : Nat) (gd : Option (List Code)) (outer : List Env) (A₀ : Around) (base g : Heap) (L : Addr) (cells : Led) (s : Shared) (Q : Value → Shared → Prop),
      Below A₀ base outer g → Fr g L s.heap (mapL bl) → (Mine.hd.heap_39 w.params).In g → News g L s.heap cells → CellsAre (mapL bc) (cellsFrom (L + 1) scope.names []) cells → Top p loose mean mg mb g → (∀ q ∈ news, g.get? q.1 = some q.2) → dp + dep < recursionLimit → un + 8 * dep < cLine →
      (∀ v add h' tk' m', padd v add → Fr g L h' m' → News g L h' add → Q v { s with heap := h', toks := tk' }) →
      wpAny (model prog w) (ktrTop dp un gd qual scope L f cdv (cellsFrom (L + 1) scope.names []) outer) (eval body (envX qual scope L f cdv (cellsFrom (L + 1) scope.names []))) Q (fun _ _ => False) s)
    (hco : scope.isCoroutine = false) (hgen : scope.isGenerator = false) (hk : scope.kind = .function) :
    Ct prog w p loose mean mg mb (dep + 1) (.ref f) vs news (fun v n' => ∃ add, n' = add ++ news ∧ padd v add ∧ ∀ a ∈ add, ∀ q ∈ news, q.1 ≠ a.1) := by
  intro dp un gd cn cs a ccd cl' outer A₀ base h₀ L m s Q E B F X N T hkc hd hu ret
  refine wpAny_call ?_
  obtain ⟨_, BG, _, lv⟩ := groundX (A := ktrTop dp un gd cn cs L a ccd cl' outer) (R := fun r s' => match r with | .ok (.ret v) => Q v s' | .ok _ => False | .error e => E e s') B F News.nil rfl rfl hkc
  have XG := X.keeps F.keep
  have TG := T.keeps F.keep
  have G : ∀ q ∈ news, s.heap.get? q.1 = some q.2 := fun q hq => (N q hq).1
  obtain ⟨⟨o, ho, hdat⟩, hcd⟩ := hfn s.heap XG G
  refine kla_callFunE (by show dp < recursionLimit; omega) ho hdat hco hgen rfl hcd ?_
  rw [hbind]
  refine wpAny_pure ?_
  refine wpAny_newFunctionEnv_cells hk (kindsX hkind _) fun env' he s' x => ?_
  subst he
  refine ⟨TG.nolimit.keeps x.toInCall.keep, ?_⟩
  show codeAny _ _ (.expr body (envX qual scope s.heap.objs.size f cdv _)) _ _
  obtain ⟨h₁, tk, rfl, _⟩ := x.done
  have hk₁ := x.toInCall.keep
  obtain ⟨cells, NC, Y⟩ := Cl.news (h₀ := s.heap) (Nat.le_refl _) fun n c hm => ⟨x.cell n c (lookup_of_mem_nodup (cellsFrom_names scope.names 0 (s.heap.objs.size + 1) [] [] rfl ▸ hnd) hm), x.above n c hm⟩
  have ns := x.toInCall.ns
  have Y' : CellsAre (mapL bc) (cellsFrom (s.heap.objs.size + 1) scope.names []) cells := hbc ▸ Y
  have ns' : h₁.Ns s.heap.objs.size (mapL bl) := hbl ▸ ns
  have hw := H (dp + 1) (un + 3) gd (envX cn cs L a ccd cl' :: outer) _ base s.heap s.heap.objs.size cells { s with heap := h₁, toks := tk } (fun v s' => Q v s')
    BG ⟨ns', hk₁, Nat.le_refl _⟩ XG NC Y' TG G (by omega) (by omega)
    (fun v add h' tk' m' hp F9 N9 => ?_)
  · exact kla_codeExpr (wpAny_mono hw (fun v s' x => x) fun _ _ x => x.elim)
  · have No : News h₀ L h' (add ++ news) := fun q hq => by
      rcases List.mem_append.mp hq with hq | hq
      · have h1 := N9 q hq
        obtain ⟨oL, _, _, hL, _⟩ := F.ns
        refine ⟨h1.1, fun e => ?_, ?_⟩
        · have h2 := h1.2.2; rw [e, hL] at h2; cases h2
        · cases h3 : h₀.get? q.1 with
          | none => rfl
          | some o => have h2 := h1.2.2; rw [F.keep _ _ h3] at h2; cases h2
      · exact ⟨F9.keep _ _ (N q hq).1, (N q hq).2⟩
    exact ret v _ h' tk' ⟨add, rfl, hp, fun a ha q hq e => by
      have h2 := (N9 a ha).2.2
      rw [← e, (N q hq).1] at h2; cases h2⟩ (F.after F9.keep) No
end
-- a list comprehension over a made tuple
section
variable {prog : Program} {w : World} {A : Around} {E : Value → Shared → Prop} {s : Shared} {h₀ : Heap} {L : Addr} {m : Str → Option Value} {env : Env}
def SrcT (prog : Program) (w : World) (A : Around) (h₀ : Heap) (L : Addr) (m : Str → Option Value) (env : Env) (elt : PySem.Expr) (x : Str) (scope : Scope) (cl : List (Str × Addr)) (Fin : Shared → List Value → Led → Prop) (xv : Value) (s₁ : Shared) : Prop :=
  ∃ ax its k news, xv = .ref ax ∧ A.handled = none ∧ Fr h₀ L s₁.heap m ∧ News h₀ L s₁.heap news ∧ (ax, ({ cls := .type "tuple", data := .seq its k } : Obj)) ∈ news ∧ its.size ≤ sizeLine ∧
    ∀ s₂ : Shared, (∃ h, s₂ = { s₁ with heap := h }) → LCg.CompRest prog w A h₀ L m env elt x scope cl s₂ (fun nw => (ax, ({ cls := .type "tuple", data := .seq its k } : Obj)) ∈ nw) (fun i v => its[i]? = some v) (Fin s₂) its.size 0 [] news
theorem SrcT.ledger {elt : PySem.Expr} {x : Str} {scope : Scope} {cl : List (Str × Addr)} {Fin : Shared → List Value → Led → Prop} {ax : Addr} {its : Array Value} {k : Nat} {news : Led} {s₁ : Shared}
    (hh : A.handled = none) (F : Fr h₀ L s₁.heap m) (N : News h₀ L s₁.heap news) (hm : (ax, ({ cls := .type "tuple", data := .seq its k } : Obj)) ∈ news) (hsz : its.size ≤ sizeLine)
    (h : ∀ g, LCg.CompRest prog w A h₀ L m env elt x scope cl { s₁ with heap := g } (fun nw => (ax, ({ cls := .type "tuple", data := .seq its k } : Obj)) ∈ nw) (fun i v => its[i]? = some v) (Fin { s₁ with heap := g }) its.size 0 [] news) :
    SrcT prog w A h₀ L m env elt x scope cl Fin (.ref ax) s₁ := ⟨ax, its, k, news, rfl, hh, F, N, hm, hsz, fun _ ⟨g, e⟩ => e ▸ h g⟩
theorem ListComp_T {elt iter : PySem.Expr} {x : Str} {px : Pos} {scope : Scope} {cl : List (Str × Addr)} {pos : Pos} {Q : Value → Shared → Prop} (F₀ : Fr h₀ L s.heap m)
    (hclos : closureFor scope env = pure cl) (hcell : ∀ y ∈ scope.names, y.2 ≠ .cell) (hkind : scope.kind = .function)
    (hnames : ∀ y ∈ scope.names, y.2 = .local → scope.names.lookup y.1 = some .local) (hx : scope.names.lookup x = some .local)
    (h : wpAny (model prog w) A (eval iter env) (SrcT prog w A h₀ L m env elt x scope cl (fun s₂ => LCg.FinE h₀ L m s₂ Q)) E s)
    (hs : ∀ x, foldedSetIterable iter env x = pure x := by intro _; rfl) :
    wpAny (model prog w) A (eval (.ListComp elt [⟨.Name x px, iter, [], 0⟩] scope pos) env) Q E s := by
  rw [eval_ListComp]
  refine wpAny_comprehension_free (use := none) rfl hs hclos hkind hnames (wpAny_mono h (fun xv s₁ h₁ => ?_) fun _ _ e => e)
  obtain ⟨ax, its, k, news, rfl, hh, F, N, hm, hsz, R⟩ := h₁
  have hl : s₁.heap.IsTuple ax its := ⟨_, (N _ hm).1, rfl, _, rfl⟩
  have hlt : ax < s₁.heap.objs.size := Heap.lt_size (N _ hm).1
  refine wpAny_pyIter_tuple hl ?_
  have up : ∀ b o, s₁.heap.get? b = some o → (s₁.heap.push { cls := .type "tuple_iterator", data := .fields #[.ref ax, .int 0 0] }).get? b = some o := fun b o e => Heap.get?_push_of_some _ e
  refine LCg.block_U (Walks.tuple hh s₁.heap.objs.size ax (Nat.ne_of_lt hlt) its) hsz (fun i h st => by obtain ⟨o, e, _⟩ := st.1; exact ⟨o, e⟩)
    (fun i h h' o nw st e e' kk N' S => ⟨by obtain ⟨o', q, r⟩ := st.1; rw [e] at q; cases q; exact ⟨o, e', r⟩, ⟨_, (N' _ S).1, rfl, _, rfl⟩⟩) hcell hkind hx ⟨⟨_, Heap.get?_push_size _ rfl, rfl, rfl⟩, hl.at fun o e => up _ _ e⟩ (fun b hb => ?_)
    (F.keeps up) (N.grown up) (Nat.ne_of_lt F.ns.lt) (next_is_new F) (fun p hp => Nat.ne_of_lt (Heap.lt_size (N p hp).1)) hm (R _ ⟨_, rfl⟩) ?_
  · show b < (s₁.heap.push _).objs.size
    rw [Heap.size_push]
    rcases List.mem_cons.mp hb with rfl | hb
    · exact Nat.lt_succ_self _
    · rw [List.mem_singleton.mp hb]; exact Nat.lt_succ_of_lt hlt
  · intro D C h tk m' ys news' F' N' o1 hn hC₀ hD₀ hCL hDL hCD offC fin
    refine ⟨m', hn, fun h'' hs'' => fin D h'' tk (F'.change hs'' hCL hC₀) (fun p hp => ?_) o1⟩
    refine ⟨hs''.extBut _ _ ?_ (N' p hp).1, (N' p hp).2⟩
    rcases List.mem_cons.mp hp with rfl | hp
    · exact Ne.symm hCD
    · exact offC p hp
end
section
variable {prog : Program} {w : World} {A : Around} {h₀ : Heap} {L : Addr} {m : Str → Option Value} {env : Env} {elt : PySem.Expr} {x : Str} {scope : Scope} {cl : List (Str × Addr)} {s : Shared} {S : Led → Prop} {Fin : List Value → Led → Prop} {news : Led}
theorem intsNat {k : Int} {ks : List Nat} (h : k ∈ ks.map Int.ofNat) : ∃ j ∈ ks, k = (j : Nat) := by
  obtain ⟨j, hj, e⟩ := List.mem_map.mp h; exact ⟨j, hj, e.symm⟩
def RowIs (_ : Nat → Nat) : Prop := True
theorem rest_nat {its : Array Value} {ks : List Nat} {g : Nat → Nat} (_ : RowIs g) (hv : IntsAre its.toList (ks.map Int.ofNat))
    (turn : ∀ (k : Nat) t I oI C oC D m₂ ys h tk (E' : Value → Shared → Prop), k ∈ ks → LCg.NsObj oC m₂ → m₂ x = some (.int (k : Int) t) → Fr h₀ L h m → News h₀ L h ((I, oI) :: (C, oC) :: (D, LCg.lst ys) :: news) → LCg.Off3 I C D news → ((@Ne Nat I C) ∧ (@Ne Nat I D) ∧ (@Ne Nat C D)) →
      wpAny (model prog w) A (eval elt (compEnvC scope cl C env)) (LCg.CompEnd h₀ L m { s with heap := h, toks := tk } I oI C oC D (LCg.lst ys) S (fun y news' => KCfEl news ((g k : Nat) : Int) y news')) E' { s with heap := h, toks := tk })
    (fin : ∀ ys, IntsAre ys ((ks.map g).map Int.ofNat) → Fin ys news) : LCg.CompRest prog w A h₀ L m env elt x scope cl s S (fun i v => its[i]? = some v) Fin its.size 0 [] news :=
  kcf_rest (ks := ks.map Int.ofNat) (fun k => ((g k.toNat : Nat) : Int)) (by rw [← hv.length, Array.length_toList]) (fun i v _ h => by
    obtain ⟨k, t, e, hk⟩ := IntsAre.at hv i v (by simpa using h)
    exact ⟨k, t, hk, e⟩)
    (fun k t I oI C oC D m₂ ys h tk E' hk hC hx F N off ne _ => by
      obtain ⟨j, hj, rfl⟩ := intsNat hk
      exact turn j t I oI C oC D m₂ ys h tk E' hj hC hx F N off ne)
    (fun ys hy => fin ys (by rw [List.map_map] at hy ⊢; simpa [Function.comp_def] using hy))
end
end
example : PySem.Challenge.rw_ez0037_01 = PySem.Challenge.rw_ez0037_01 ∧ Mine.hd.heap_39 = Mine.hd.heap_39 := by
  k_fill
  exact ⟨rfl, rfl⟩
section
example : True := by
  k_with_none
  w_top off
  trivial
local macro_rules | `(tactic| walk_at "my enterK") => `(tactic| (
  (case hfn => (intro h X _; refine' FnIs.of_K X ?ho ?hcd; (case ho => k_is); (case hcd => k_is))); (case hbind => (intro s X _; exact BindsTo.of_eq rfl)); (case hloc => exact locs rfl); (case c1 => exact rfl); (case c2 => exact rfl); (case c3 => exact rfl); (case c4 => decide)))
local macro_rules | `(tactic| walk_at "my enterC") => `(tactic| (
  (case hfn => (intro h X _; refine' FnIs.of_K X ?ho ?hcd; (case ho => k_is); (case hcd => k_is))); (case hbind => (intro s X _; exact BindsTo.of_eq rfl)); (case hkind => exact rfl); (case hnd => decide +kernel); (case hbl => exact rfl); (case hbc => exact rfl); (case c1 => exact rfl); (case c2 => exact rfl); (case c3 => exact rfl)))
-- lines of our own for the walk
local macro_rules | `(tactic| walk_at "my enter") => `(tactic| (
  (case hcd => k_is); (case hbind => (intro s X; exact BindsTo.of_eq rfl)); (case hloc => exact locs rfl); (case c1 => exact rfl); (case c2 => exact rfl); (case c3 => exact rfl); (case c4 => decide)))
local macro_rules | `(tactic| walk_at "nat") => `(tactic| first | with_reducible rfl | with_reducible exact lit_nat _ | with_reducible exact mul8_nat _ | with_reducible exact shl1_nat _ | with_reducible exact sub1_nat (by omega) | with_reducible exact sub8_nat (by omega) | with_reducible exact zadd_nat (by with_reducible assumption) | with_reducible assumption | with_reducible exact (Int.toNat_of_nonneg (by with_reducible assumption)).symm | assumption | rfl | exact (Int.toNat_of_nonneg (by omega)).symm)
local macro_rules | `(tactic| walk_at "small") => `(tactic| first | assumption | exact Nat.lt_of_le_of_lt (by assumption) lt_128 | exact Nat.lt_of_lt_of_le (by assumption) (Nat.pow_le_pow_right (by decide) (by decide)) | exact Nat.lt_of_lt_of_le (Nat.xor_lt_two_pow (by assumption) (by assumption)) (Nat.pow_le_pow_right (by decide) (by decide)) | exact be_small (arrN_lt _) (by rw [arrN_length]; omega) | exact lt_big (k := 8) (by decide) (by decide) | exact lt_big (revN_lt _ _) (by omega) | exact lt_big (itF_lt (by assumption) (by assumption) (by assumption) _) (by omega))
local macro_rules | `(tactic| walk_at "binaryOp BitAnd int int") => `(tactic| (k_here; k_dflt (refine' andN ?k1 ?k2 ?_; (case k1 => walk_at "nat"); (case k2 => walk_at "nat"); k_whole); intro t9 k9; (try dsimp only)))
local macro_rules | `(tactic| walk_at "binaryOp BitOr int int") => `(tactic| (k_here; k_dflt (refine' orN ?k1 ?k2 ?_; (case k1 => walk_at "nat"); (case k2 => walk_at "nat"); k_whole); intro t9 k9; (try dsimp only)))
local macro_rules | `(tactic| walk_at "binaryOp BitXor int int") => `(tactic| (k_here; k_dflt (refine' xorN ?k1 ?k2 ?_; (case k1 => walk_at "nat"); (case k2 => walk_at "nat"); k_whole); intro t9 k9; (try dsimp only)))
local macro_rules | `(tactic| walk_at "binaryOp RShift int int") => `(tactic| (k_here; k_dflt (refine' shrN ?k1 ?k2 ?_; (case k1 => walk_at "nat"); (case k2 => walk_at "nat"); k_whole); intro t9 k9; (try dsimp only)))
local macro_rules | `(tactic| walk_at "binaryOp LShift int int") => `(tactic| (k_here; k_dflt (refine' shlN ?k1 ?k2 ?k3 ?k4 ?_; (case k1 => walk_at "nat"); (case k2 => walk_at "nat"); (case k3 => walk_at "small"); (case k4 => first | decide | omega); k_whole); intro t9 k9; (try dsimp only)))
local macro_rules | `(tactic| k_mem) => `(tactic| first
  | ((with_reducible show List.Mem (_ : Addr × Obj) (_ ++ _)); exact List.mem_append_left _ (by k_mem))
  | ((with_reducible show (_ : Addr × Obj) ∈ (_ ++ _ : List (Addr × Obj))); exact List.mem_append_left _ (by k_mem))
  | ((with_reducible show List.Mem (_ : Addr × Obj) _); (fail_if_success (with_reducible show List.Mem _ (_ :: _))); assumption)
  | ((with_reducible show (_ : Addr × Obj) ∈ _); (fail_if_success (with_reducible show _ ∈ (_ :: _))); assumption))
local macro_rules | `(tactic| walk_at "getMethod bytes") => `(tactic| (k_here; (with_reducible refine method_join ?_)))
local macro_rules | `(tactic| walk_at "call builtin:bytes.join") => `(tactic| (k_here; k_dflt (refine' join_one (News.get ?k1 ?k2) ?k3 ?k4 ?_; (case k1 => k_asm); (case k2 => k_mem); (case k3 => exact rfl); (case k4 => exact rfl))))
local macro_rules | `(tactic| walk_at "use") => `(tactic| ((case B => k_asm); (case F => k_asm); (case X => k_asm); (case T => k_asm); (case hk => first | exact rfl | assumption); (case hd => ktr_room); (case hu => ktr_units)))
local macro_rules | `(tactic| walk_at "idx") => `(tactic| (refine Nat.lt_of_lt_of_le (Nat.xor_lt_two_pow (n := 8) (by omega) (Nat.lt_of_le_of_lt Nat.and_le_right (by decide))) (by omega)))
local macro_rules | `(tactic| walk_at "subscriptTail Name BinOp ref int") => `(tactic| (k_here; k_dflt (refine' tab_item ?F ?l ?v ?k ?i ?f ?_ ?s ?g; (case F => k_asm); (case l => assumption); (case v => k_asm); (case k => with_reducible rfl); (case s => with_unfolding_all rfl); (case g => (intro _; with_unfolding_all rfl)); (case i => walk_at "idx"); (case f => omega)); intro t9))
local macro_rules | `(tactic| walk_at "binaryOp Mod int int") => `(tactic| (k_here; k_dflt (refine' modN ?k1 ?k2 ?k3 ?_; (case k1 => walk_at "nat"); (case k2 => walk_at "nat"); (case k3 => first | decide | omega); k_whole); intro t9 k9; (try dsimp only)))
local macro_rules | `(tactic| walk_at "call ref") => `(tactic| (k_here; (with_reducible show wpAny _ _ (call (Value.ref _) [Value.bytes _ _, Value.str _ _]) _ _ _); kfb_any; k_dflt (first
  | (refine fb_call_big (by k_asm) (by k_mem) (by omega) ?_)
  | (refine fb_call_little (by k_asm) (by k_mem) (by omega) ?_)); intro _ _))
local macro_rules | `(tactic| walk_at "UnrEndW") => `(tactic| k_dflt ktu_end)
local macro_rules | `(tactic| walk_at "pyIter bytes") => `(tactic| k_dflt (kstb_has; k_extra "pyIter bytes"))
local macro_rules | `(tactic| walk_at "InvEndN") => `(tactic| k_dflt kst_close)
local macro_rules | `(tactic| walk_at "subscriptTail Name Constant ref int") => `(tactic| (k_here; (with_reducible show wpAny _ _ (subscriptTail _ _ (Value.ref _) (Value.int _ _)) _ _ _); kri_at))
variable {prog : Program} {w : World} {p : Program} {loose : List Str} {mean : ExcName → Option Value} {mg mb : Str → Option Value}
-- lines that serve no key: each section bears another number of lines
local macro_rules | `(tactic| walk_at "none") => `(tactic| fail)
local macro_rules | `(tactic| walk_at "none") => `(tactic| fail)
local macro_rules | `(tactic| walk_at "none") => `(tactic| fail)
local macro_rules | `(tactic| walk_at "none") => `(tactic| fail)
local macro_rules | `(tactic| walk_at "none") => `(tactic| fail)
local macro_rules | `(tactic| walk_at "none") => `(tactic| fail)
local macro_rules | `(tactic| walk_at "none") => `(tactic| fail)
local macro_rules | `(tactic| walk_at "none") => `(tactic| fail)
local macro_rules | `(tactic| walk_at "none") => `(tactic| fail)
local macro_rules | `(tactic| walk_at "none") => `(tactic| fail)
local macro_rules | `(tactic| walk_at "none") => `(tactic| fail)
local macro_rules | `(tactic| walk_at "none") => `(tactic| fail)
local macro_rules | `(tactic| walk_at "none") => `(tactic| fail)
local macro_rules | `(tactic| walk_at "none") => `(tactic| fail)
local macro_rules | `(tactic| walk_at "none") => `(tactic| fail)
local macro_rules | `(tactic| walk_at "none") => `(tactic| fail)
local macro_rules | `(tactic| walk_at "none") => `(tactic| fail)
local macro_rules | `(tactic| walk_at "none") => `(tactic| fail)
local macro_rules | `(tactic| walk_at "none") => `(tactic| fail)
local macro_rules | `(tactic| walk_at "none") => `(tactic| fail)
local macro_rules | `(tactic| walk_at "none") => `(tactic| fail)
local macro_rules | `(tactic| walk_at "none") => `(tactic| fail)
set_option maxHeartbeats 4000000 in
theorem view_ct (news : Led) (b : Array UInt8) (t : Tok) :
    Ct prog w p loose mean mg mb 3 (.ref 67) [.bytes b t] news (fun v n' => ∃ x dx tk n, v = .ref x ∧ n' = (x, instObj 56 dx) :: (dx, dictOf [⟨PyData.keyHash w.params "octets", .str "octets" tk, .bytes b t⟩] n) :: news ∧ (∀ q ∈ news, q.1 < dx) ∧ dx < x) := by
  refine' Ct.of_def [("in_obj", .bytes b t)] ?ho ?hcd ?hbind ?hloc ?_ ?c1 ?c2 ?c3 ?c4
  case ho => k_is
  walk_at "my enter"
  intro dp un gd outer A₀ base g L s Q B F X N T hd hu hret
  dsimp only [mapL] at F
  k_steps
  exact hret _ _ _ _ _ ⟨_, _, _, _, rfl, rfl, by assumption, by assumption⟩ (by assumption) (fun p hp => by rename News _ _ _ _ => N9; exact N9 p (.tail _ hp))
set_option maxHeartbeats 4000000 in
theorem tobytes_ct (news : Led) (b : Array UInt8) (t : Tok) {x dx : Addr} {tk : Tok} {n : Nat} (h1 : (x, instObj 56 dx) ∈ news) (h2 : (dx, dictOf [⟨PyData.keyHash w.params "octets", .str "octets" tk, .bytes b t⟩] n) ∈ news) :
    Ct prog w p loose mean mg mb 1 (.ref 53) [.ref x] news (fun v n' => n' = news ∧ v = .bytes b t) := by
  refine' Ct.of_def [("self", .ref x)] ?ho ?hcd ?hbind ?hloc ?_ ?c1 ?c2 ?c3 ?c4
  case ho => k_is
  walk_at "my enter"
  intro dp un gd outer A₀ base g L s Q B F X N T hd hu hret
  dsimp only [mapL] at F
  k_steps
  exact hret _ _ _ _ _ ⟨rfl, rfl⟩ (by assumption) (by assumption)
end
section
example : True := by
  k_with_none
  w_top off
  trivial
local macro_rules | `(tactic| walk_at "my enterK") => `(tactic| (
  (case hfn => (intro h X _; refine' FnIs.of_K X ?ho ?hcd; (case ho => k_is); (case hcd => k_is))); (case hbind => (intro s X _; exact BindsTo.of_eq rfl)); (case hloc => exact locs rfl); (case c1 => exact rfl); (case c2 => exact rfl); (case c3 => exact rfl); (case c4 => decide)))
local macro_rules | `(tactic| walk_at "my enterC") => `(tactic| (
  (case hfn => (intro h X _; refine' FnIs.of_K X ?ho ?hcd; (case ho => k_is); (case hcd => k_is))); (case hbind => (intro s X _; exact BindsTo.of_eq rfl)); (case hkind => exact rfl); (case hnd => decide +kernel); (case hbl => exact rfl); (case hbc => exact rfl); (case c1 => exact rfl); (case c2 => exact rfl); (case c3 => exact rfl)))
-- lines of our own for the walk
local macro_rules | `(tactic| walk_at "my enter") => `(tactic| (
  (case hcd => k_is); (case hbind => (intro s X; exact BindsTo.of_eq rfl)); (case hloc => exact locs rfl); (case c1 => exact rfl); (case c2 => exact rfl); (case c3 => exact rfl); (case c4 => decide)))
local macro_rules | `(tactic| walk_at "nat") => `(tactic| first | with_reducible rfl | with_reducible exact lit_nat _ | with_reducible exact mul8_nat _ | with_reducible exact shl1_nat _ | with_reducible exact sub1_nat (by omega) | with_reducible exact sub8_nat (by omega) | with_reducible exact zadd_nat (by with_reducible assumption) | with_reducible assumption | with_reducible exact (Int.toNat_of_nonneg (by with_reducible assumption)).symm | assumption | rfl | exact (Int.toNat_of_nonneg (by omega)).symm)
local macro_rules | `(tactic| walk_at "small") => `(tactic| first | assumption | exact Nat.lt_of_le_of_lt (by assumption) lt_128 | exact Nat.lt_of_lt_of_le (by assumption) (Nat.pow_le_pow_right (by decide) (by decide)) | exact Nat.lt_of_lt_of_le (Nat.xor_lt_two_pow (by assumption) (by assumption)) (Nat.pow_le_pow_right (by decide) (by decide)) | exact be_small (arrN_lt _) (by rw [arrN_length]; omega) | exact lt_big (k := 8) (by decide) (by decide) | exact lt_big (revN_lt _ _) (by omega) | exact lt_big (itF_lt (by assumption) (by assumption) (by assumption) _) (by omega))
local macro_rules | `(tactic| walk_at "binaryOp BitAnd int int") => `(tactic| (k_here; k_dflt (refine' andN ?k1 ?k2 ?_; (case k1 => walk_at "nat"); (case k2 => walk_at "nat"); k_whole); intro t9 k9; (try dsimp only)))
local macro_rules | `(tactic| walk_at "binaryOp BitOr int int") => `(tactic| (k_here; k_dflt (refine' orN ?k1 ?k2 ?_; (case k1 => walk_at "nat"); (case k2 => walk_at "nat"); k_whole); intro t9 k9; (try dsimp only)))
local macro_rules | `(tactic| walk_at "binaryOp BitXor int int") => `(tactic| (k_here; k_dflt (refine' xorN ?k1 ?k2 ?_; (case k1 => walk_at "nat"); (case k2 => walk_at "nat"); k_whole); intro t9 k9; (try dsimp only)))
local macro_rules | `(tactic| walk_at "binaryOp RShift int int") => `(tactic| (k_here; k_dflt (refine' shrN ?k1 ?k2 ?_; (case k1 => walk_at "nat"); (case k2 => walk_at "nat"); k_whole); intro t9 k9; (try dsimp only)))
local macro_rules | `(tactic| walk_at "binaryOp LShift int int") => `(tactic| (k_here; k_dflt (refine' shlN ?k1 ?k2 ?k3 ?k4 ?_; (case k1 => walk_at "nat"); (case k2 => walk_at "nat"); (case k3 => walk_at "small"); (case k4 => first | decide | omega); k_whole); intro t9 k9; (try dsimp only)))
local macro_rules | `(tactic| k_mem) => `(tactic| first
  | ((with_reducible show List.Mem (_ : Addr × Obj) (_ ++ _)); exact List.mem_append_left _ (by k_mem))
  | ((with_reducible show (_ : Addr × Obj) ∈ (_ ++ _ : List (Addr × Obj))); exact List.mem_append_left _ (by k_mem))
  | ((with_reducible show List.Mem (_ : Addr × Obj) _); (fail_if_success (with_reducible show List.Mem _ (_ :: _))); assumption)
  | ((with_reducible show (_ : Addr × Obj) ∈ _); (fail_if_success (with_reducible show _ ∈ (_ :: _))); assumption))
local macro_rules | `(tactic| walk_at "getMethod bytes") => `(tactic| (k_here; (with_reducible refine method_join ?_)))
local macro_rules | `(tactic| walk_at "call builtin:bytes.join") => `(tactic| (k_here; k_dflt (refine' join_one (News.get ?k1 ?k2) ?k3 ?k4 ?_; (case k1 => k_asm); (case k2 => k_mem); (case k3 => exact rfl); (case k4 => exact rfl))))
local macro_rules | `(tactic| walk_at "use") => `(tactic| ((case B => k_asm); (case F => k_asm); (case X => k_asm); (case T => k_asm); (case hk => first | exact rfl | assumption); (case hd => ktr_room); (case hu => ktr_units)))
local macro_rules | `(tactic| walk_at "idx") => `(tactic| (refine Nat.lt_of_lt_of_le (Nat.xor_lt_two_pow (n := 8) (by omega) (Nat.lt_of_le_of_lt Nat.and_le_right (by decide))) (by omega)))
local macro_rules | `(tactic| walk_at "subscriptTail Name BinOp ref int") => `(tactic| (k_here; k_dflt (refine' tab_item ?F ?l ?v ?k ?i ?f ?_ ?s ?g; (case F => k_asm); (case l => assumption); (case v => k_asm); (case k => with_reducible rfl); (case s => with_unfolding_all rfl); (case g => (intro _; with_unfolding_all rfl)); (case i => walk_at "idx"); (case f => omega)); intro t9))
local macro_rules | `(tactic| walk_at "binaryOp Mod int int") => `(tactic| (k_here; k_dflt (refine' modN ?k1 ?k2 ?k3 ?_; (case k1 => walk_at "nat"); (case k2 => walk_at "nat"); (case k3 => first | decide | omega); k_whole); intro t9 k9; (try dsimp only)))
local macro_rules | `(tactic| walk_at "call ref") => `(tactic| (k_here; (with_reducible show wpAny _ _ (call (Value.ref _) [Value.bytes _ _, Value.str _ _]) _ _ _); kfb_any; k_dflt (first
  | (refine fb_call_big (by k_asm) (by k_mem) (by omega) ?_)
  | (refine fb_call_little (by k_asm) (by k_mem) (by omega) ?_)); intro _ _))
local macro_rules | `(tactic| walk_at "UnrEndW") => `(tactic| k_dflt ktu_end)
local macro_rules | `(tactic| walk_at "pyIter bytes") => `(tactic| k_dflt (kstb_has; k_extra "pyIter bytes"))
local macro_rules | `(tactic| walk_at "InvEndN") => `(tactic| k_dflt kst_close)
local macro_rules | `(tactic| walk_at "subscriptTail Name Constant ref int") => `(tactic| (k_here; (with_reducible show wpAny _ _ (subscriptTail _ _ (Value.ref _) (Value.int _ _)) _ _ _); kri_at))
local macro_rules | `(tactic| walk_at "call ref") => `(tactic| (k_here; k_dflt (refine' Ct.use (view_ct _ _ _) ?B ?F ?X ?N ?T ?hk ?hd ?hu ?_; (case N => k_asm); walk_at "use"); intro v9 n9 h9 tk9 hp9 F9 N9; obtain ⟨x9, dx9, t9, m9, e1, e2, l1, l2⟩ := hp9; subst e1; subst e2; (try k_lt2 l2); (try dsimp only); (try k_fold)))
local macro_rules | `(tactic| walk_at "call ref") => `(tactic| (k_here; k_dflt (refine' Ct.use (tobytes_ct _ _ _ ?m1 ?m2) ?B ?F ?X ?N ?T ?hk ?hd ?hu ?_; (case N => k_asm); (case m1 => k_mem); (case m2 => k_mem); walk_at "use"); intro v9 n9 h9 tk9 hp9 F9 N9; obtain ⟨e1, e2⟩ := hp9; subst e1; subst e2; (try dsimp only); (try k_fold)))
variable {prog : Program} {w : World} {p : Program} {loose : List Str} {mean : ExcName → Option Value} {mg mb : Str → Option Value}
-- lines that serve no key: each section bears another number of lines
local macro_rules | `(tactic| walk_at "none") => `(tactic| fail)
local macro_rules | `(tactic| walk_at "none") => `(tactic| fail)
local macro_rules | `(tactic| walk_at "none") => `(tactic| fail)
local macro_rules | `(tactic| walk_at "none") => `(tactic| fail)
local macro_rules | `(tactic| walk_at "none") => `(tactic| fail)
local macro_rules | `(tactic| walk_at "none") => `(tactic| fail)
local macro_rules | `(tactic| walk_at "none") => `(tactic| fail)
local macro_rules | `(tactic| walk_at "none") => `(tactic| fail)
local macro_rules | `(tactic| walk_at "none") => `(tactic| fail)
local macro_rules | `(tactic| walk_at "none") => `(tactic| fail)
local macro_rules | `(tactic| walk_at "none") => `(tactic| fail)
local macro_rules | `(tactic| walk_at "none") => `(tactic| fail)
local macro_rules | `(tactic| walk_at "none") => `(tactic| fail)
local macro_rules | `(tactic| walk_at "none") => `(tactic| fail)
local macro_rules | `(tactic| walk_at "none") => `(tactic| fail)
local macro_rules | `(tactic| walk_at "none") => `(tactic| fail)
local macro_rules | `(tactic| walk_at "none") => `(tactic| fail)
local macro_rules | `(tactic| walk_at "none") => `(tactic| fail)
local macro_rules | `(tactic| walk_at "none") => `(tactic| fail)
local macro_rules | `(tactic| walk_at "none") => `(tactic| fail)
local macro_rules | `(tactic| walk_at "none") => `(tactic| fail)
section
local macro_rules | `(tactic| walk_at "idx") => `(tactic| (refine Nat.lt_of_lt_of_le (Nat.xor_lt_two_pow (n := 8) (by omega) (fold_lt_of (B := 256) (fun c x => octT_lt (by assumption) (by decide) c x) (Nat.lt_of_le_of_lt Nat.and_le_right (by decide)) _)) (by omega)))
set_option maxHeartbeats 4000000 in
theorem crc8f_ct (news : Led) (tb : Addr) (vs : List Value) (tab : List Nat) (nn : Nat) (hv : IntsAre vs (tab.map Int.ofNat)) (hl : tab.length = 256) (_ht : ∀ x ∈ tab, x < 2 ^ 8) (b : Array UInt8) (c : Nat) (t u : Tok) :
    CtK prog w p loose mean mg mb 5 [(tb, listOf vs.toArray nn)] (.ref 74) [.bytes b t, .int (c : Nat) u, .ref tb] news (fun v n' => n' = news ∧ ∃ t, v = .int (((octs (KBw.bInts b)).foldl (octT tab) (c &&& 255) : Nat) : Int) t) := by
  refine' CtK.of_pure (pv := fun v => ∃ t, v = .int (((octs (KBw.bInts b)).foldl (octT tab) (c &&& 255) : Nat) : Int) t) [("table", .ref tb), ("crc", .int c u), ("data", .bytes b t)] ?hfn ?hbind ?hloc ?_ ?c1 ?c2 ?c3 ?c4
  walk_at "my enterK"
  intro dp un gd outer A₀ base g L s Q B F X N T W hd hu hret
  have hl9 : g.IsList tb vs.toArray := W.list (.head _)
  dsimp only [mapL] at F
  (k_with "pyIter bytes" => k_state (fun pre crc => crc = (((octs pre).foldl (octT tab) (c &&& 255) : Nat) : Int)) "crc")
  (k_with "state" => first | rfl | (rw [octs_snoc]; rfl))
  k_steps
  exact hret (Flow.ret _) _ _ _ ⟨_, congrArg (Value.int · _) kInv⟩ kFr
end
section
local macro_rules | `(tactic| walk_at "idx") => `(tactic| (refine Nat.lt_of_lt_of_le (Nat.xor_lt_two_pow (n := 8) (by omega) (fold_lt_of (B := 256) (fun c x => octT_lt (by assumption) (by decide) c x) (Nat.lt_of_le_of_lt Nat.and_le_right (by decide)) _)) (by omega)))
set_option maxHeartbeats 4000000 in
theorem crc8r_ct (news : Led) (tb : Addr) (vs : List Value) (tab : List Nat) (nn : Nat) (hv : IntsAre vs (tab.map Int.ofNat)) (hl : tab.length = 256) (_ht : ∀ x ∈ tab, x < 2 ^ 8) (b : Array UInt8) (c : Nat) (t u : Tok) :
    CtK prog w p loose mean mg mb 5 [(tb, listOf vs.toArray nn)] (.ref 81) [.bytes b t, .int (c : Nat) u, .ref tb] news (fun v n' => n' = news ∧ ∃ t, v = .int (((octs (KBw.bInts b)).foldl (octT tab) (c &&& 255) : Nat) : Int) t) := by
  refine' CtK.of_pure (pv := fun v => ∃ t, v = .int (((octs (KBw.bInts b)).foldl (octT tab) (c &&& 255) : Nat) : Int) t) [("table", .ref tb), ("crc", .int c u), ("data", .bytes b t)] ?hfn ?hbind ?hloc ?_ ?c1 ?c2 ?c3 ?c4
  walk_at "my enterK"
  intro dp un gd outer A₀ base g L s Q B F X N T W hd hu hret
  have hl9 : g.IsList tb vs.toArray := W.list (.head _)
  dsimp only [mapL] at F
  (k_with "pyIter bytes" => k_state (fun pre crc => crc = (((octs pre).foldl (octT tab) (c &&& 255) : Nat) : Int)) "crc")
  (k_with "state" => first | rfl | (rw [octs_snoc]; rfl))
  k_steps
  exact hret (Flow.ret _) _ _ _ ⟨_, congrArg (Value.int · _) kInv⟩ kFr
end
section
local macro_rules | `(tactic| walk_at "small") => `(tactic| (refine Nat.lt_of_lt_of_le (fold_lt_of (B := 2 ^ 16) (fun c x => octF_lt (by assumption) (by decide) c x) (Nat.lt_of_le_of_lt Nat.and_le_right (by decide)) _) (by decide)))
set_option maxHeartbeats 4000000 in
theorem crc16f_ct (news : Led) (tb : Addr) (vs : List Value) (tab : List Nat) (nn : Nat) (hv : IntsAre vs (tab.map Int.ofNat)) (hl : tab.length = 256) (_ht : ∀ x ∈ tab, x < 2 ^ 16) (b : Array UInt8) (c : Nat) (t u : Tok) :
    CtK prog w p loose mean mg mb 5 [(tb, listOf vs.toArray nn)] (.ref 88) [.bytes b t, .int (c : Nat) u, .ref tb] news (fun v n' => n' = news ∧ ∃ t, v = .int (((octs (KBw.bInts b)).foldl (octF 8 65280 tab) (c &&& 65535) : Nat) : Int) t) := by
  refine' CtK.of_pure (pv := fun v => ∃ t, v = .int (((octs (KBw.bInts b)).foldl (octF 8 65280 tab) (c &&& 65535) : Nat) : Int) t) [("table", .ref tb), ("crc", .int c u), ("data", .bytes b t)] ?hfn ?hbind ?hloc ?_ ?c1 ?c2 ?c3 ?c4
  walk_at "my enterK"
  intro dp un gd outer A₀ base g L s Q B F X N T W hd hu hret
  have hl9 : g.IsList tb vs.toArray := W.list (.head _)
  dsimp only [mapL] at F
  (k_with "pyIter bytes" => k_state (fun pre crc => crc = (((octs pre).foldl (octF 8 65280 tab) (c &&& 65535) : Nat) : Int)) "crc")
  (k_with "state" => first | rfl | (rw [octs_snoc]; rfl))
  k_steps
  exact hret (Flow.ret _) _ _ _ ⟨_, congrArg (Value.int · _) kInv⟩ kFr
end
section
set_option maxHeartbeats 4000000 in
theorem crc16r_ct (news : Led) (tb : Addr) (vs : List Value) (tab : List Nat) (nn : Nat) (hv : IntsAre vs (tab.map Int.ofNat)) (hl : tab.length = 256) (_ht : ∀ x ∈ tab, x < 2 ^ 16) (b : Array UInt8) (c : Nat) (t u : Tok) :
    CtK prog w p loose mean mg mb 5 [(tb, listOf vs.toArray nn)] (.ref 95) [.bytes b t, .int (c : Nat) u, .ref tb] news (fun v n' => n' = news ∧ ∃ t, v = .int (((octs (KBw.bInts b)).foldl (octR tab) (c &&& 65535) : Nat) : Int) t) := by
  refine' CtK.of_pure (pv := fun v => ∃ t, v = .int (((octs (KBw.bInts b)).foldl (octR tab) (c &&& 65535) : Nat) : Int) t) [("table", .ref tb), ("crc", .int c u), ("data", .bytes b t)] ?hfn ?hbind ?hloc ?_ ?c1 ?c2 ?c3 ?c4
  walk_at "my enterK"
  intro dp un gd outer A₀ base g L s Q B F X N T W hd hu hret
  have hl9 : g.IsList tb vs.toArray := W.list (.head _)
  dsimp only [mapL] at F
  (k_with "pyIter bytes" => k_state (fun pre crc => crc = (((octs pre).foldl (octR tab) (c &&& 65535) : Nat) : Int)) "crc")
  (k_with "state" => first | rfl | (rw [octs_snoc]; rfl))
  k_steps
  exact hret (Flow.ret _) _ _ _ ⟨_, congrArg (Value.int · _) kInv⟩ kFr
end
section
local macro_rules | `(tactic| walk_at "small") => `(tactic| (refine Nat.lt_of_lt_of_le (fold_lt_of (B := 2 ^ 24) (fun c x => octF_lt (by assumption) (by decide) c x) (Nat.lt_of_le_of_lt Nat.and_le_right (by decide)) _) (by decide)))
set_option maxHeartbeats 4000000 in
theorem crc24f_ct (news : Led) (tb : Addr) (vs : List Value) (tab : List Nat) (nn : Nat) (hv : IntsAre vs (tab.map Int.ofNat)) (hl : tab.length = 256) (_ht : ∀ x ∈ tab, x < 2 ^ 24) (b : Array UInt8) (c : Nat) (t u : Tok) :
    CtK prog w p loose mean mg mb 5 [(tb, listOf vs.toArray nn)] (.ref 102) [.bytes b t, .int (c : Nat) u, .ref tb] news (fun v n' => n' = news ∧ ∃ t, v = .int (((octs (KBw.bInts b)).foldl (octF 16 16776960 tab) (c &&& 16777215) : Nat) : Int) t) := by
  refine' CtK.of_pure (pv := fun v => ∃ t, v = .int (((octs (KBw.bInts b)).foldl (octF 16 16776960 tab) (c &&& 16777215) : Nat) : Int) t) [("table", .ref tb), ("crc", .int c u), ("data", .bytes b t)] ?hfn ?hbind ?hloc ?_ ?c1 ?c2 ?c3 ?c4
  walk_at "my enterK"
  intro dp un gd outer A₀ base g L s Q B F X N T W hd hu hret
  have hl9 : g.IsList tb vs.toArray := W.list (.head _)
  dsimp only [mapL] at F
  (k_with "pyIter bytes" => k_state (fun pre crc => crc = (((octs pre).foldl (octF 16 16776960 tab) (c &&& 16777215) : Nat) : Int)) "crc")
  (k_with "state" => first | rfl | (rw [octs_snoc]; rfl))
  k_steps
  exact hret (Flow.ret _) _ _ _ ⟨_, congrArg (Value.int · _) kInv⟩ kFr
end
section
set_option maxHeartbeats 4000000 in
theorem crc24r_ct (news : Led) (tb : Addr) (vs : List Value) (tab : List Nat) (nn : Nat) (hv : IntsAre vs (tab.map Int.ofNat)) (hl : tab.length = 256) (_ht : ∀ x ∈ tab, x < 2 ^ 24) (b : Array UInt8) (c : Nat) (t u : Tok) :
    CtK prog w p loose mean mg mb 5 [(tb, listOf vs.toArray nn)] (.ref 109) [.bytes b t, .int (c : Nat) u, .ref tb] news (fun v n' => n' = news ∧ ∃ t, v = .int (((octs (KBw.bInts b)).foldl (octR tab) (c &&& 16777215) : Nat) : Int) t) := by
  refine' CtK.of_pure (pv := fun v => ∃ t, v = .int (((octs (KBw.bInts b)).foldl (octR tab) (c &&& 16777215) : Nat) : Int) t) [("table", .ref tb), ("crc", .int c u), ("data", .bytes b t)] ?hfn ?hbind ?hloc ?_ ?c1 ?c2 ?c3 ?c4
  walk_at "my enterK"
  intro dp un gd outer A₀ base g L s Q B F X N T W hd hu hret
  have hl9 : g.IsList tb vs.toArray := W.list (.head _)
  dsimp only [mapL] at F
  (k_with "pyIter bytes" => k_state (fun pre crc => crc = (((octs pre).foldl (octR tab) (c &&& 16777215) : Nat) : Int)) "crc")
  (k_with "state" => first | rfl | (rw [octs_snoc]; rfl))
  k_steps
  exact hret (Flow.ret _) _ _ _ ⟨_, congrArg (Value.int · _) kInv⟩ kFr
end
section
local macro_rules | `(tactic| walk_at "small") => `(tactic| (refine Nat.lt_of_lt_of_le (fold_lt_of (B := 2 ^ 32) (fun c x => octF_lt (by assumption) (by decide) c x) (Nat.lt_of_le_of_lt Nat.and_le_right (by decide)) _) (by decide)))
set_option maxHeartbeats 4000000 in
theorem crc32f_ct (news : Led) (tb : Addr) (vs : List Value) (tab : List Nat) (nn : Nat) (hv : IntsAre vs (tab.map Int.ofNat)) (hl : tab.length = 256) (_ht : ∀ x ∈ tab, x < 2 ^ 32) (b : Array UInt8) (c : Nat) (t u : Tok) :
    CtK prog w p loose mean mg mb 5 [(tb, listOf vs.toArray nn)] (.ref 116) [.bytes b t, .int (c : Nat) u, .ref tb] news (fun v n' => n' = news ∧ ∃ t, v = .int (((octs (KBw.bInts b)).foldl (octF 24 4294967040 tab) (c &&& 4294967295) : Nat) : Int) t) := by
  refine' CtK.of_pure (pv := fun v => ∃ t, v = .int (((octs (KBw.bInts b)).foldl (octF 24 4294967040 tab) (c &&& 4294967295) : Nat) : Int) t) [("table", .ref tb), ("crc", .int c u), ("data", .bytes b t)] ?hfn ?hbind ?hloc ?_ ?c1 ?c2 ?c3 ?c4
  walk_at "my enterK"
  intro dp un gd outer A₀ base g L s Q B F X N T W hd hu hret
  have hl9 : g.IsList tb vs.toArray := W.list (.head _)
  dsimp only [mapL] at F
  (k_with "pyIter bytes" => k_state (fun pre crc => crc = (((octs pre).foldl (octF 24 4294967040 tab) (c &&& 4294967295) : Nat) : Int)) "crc")
  (k_with "state" => first | rfl | (rw [octs_snoc]; rfl))
  k_steps
  exact hret (Flow.ret _) _ _ _ ⟨_, congrArg (Value.int · _) kInv⟩ kFr
end
section
set_option maxHeartbeats 4000000 in
theorem crc32r_ct (news : Led) (tb : Addr) (vs : List Value) (tab : List Nat) (nn : Nat) (hv : IntsAre vs (tab.map Int.ofNat)) (hl : tab.length = 256) (_ht : ∀ x ∈ tab, x < 2 ^ 32) (b : Array UInt8) (c : Nat) (t u : Tok) :
    CtK prog w p loose mean mg mb 5 [(tb, listOf vs.toArray nn)] (.ref 123) [.bytes b t, .int (c : Nat) u, .ref tb] news (fun v n' => n' = news ∧ ∃ t, v = .int (((octs (KBw.bInts b)).foldl (octR tab) (c &&& 4294967295) : Nat) : Int) t) := by
  refine' CtK.of_pure (pv := fun v => ∃ t, v = .int (((octs (KBw.bInts b)).foldl (octR tab) (c &&& 4294967295) : Nat) : Int) t) [("table", .ref tb), ("crc", .int c u), ("data", .bytes b t)] ?hfn ?hbind ?hloc ?_ ?c1 ?c2 ?c3 ?c4
  walk_at "my enterK"
  intro dp un gd outer A₀ base g L s Q B F X N T W hd hu hret
  have hl9 : g.IsList tb vs.toArray := W.list (.head _)
  dsimp only [mapL] at F
  (k_with "pyIter bytes" => k_state (fun pre crc => crc = (((octs pre).foldl (octR tab) (c &&& 4294967295) : Nat) : Int)) "crc")
  (k_with "state" => first | rfl | (rw [octs_snoc]; rfl))
  k_steps
  exact hret (Flow.ret _) _ _ _ ⟨_, congrArg (Value.int · _) kInv⟩ kFr
end
section
local macro_rules | `(tactic| walk_at "small") => `(tactic| (refine Nat.lt_of_lt_of_le (fold_lt_of (B := 2 ^ 64) (fun c x => octF_lt (by assumption) (by decide) c x) (Nat.lt_of_le_of_lt Nat.and_le_right (by decide)) _) (by decide)))
set_option maxHeartbeats 4000000 in
theorem crc64f_ct (news : Led) (tb : Addr) (vs : List Value) (tab : List Nat) (nn : Nat) (hv : IntsAre vs (tab.map Int.ofNat)) (hl : tab.length = 256) (_ht : ∀ x ∈ tab, x < 2 ^ 64) (b : Array UInt8) (c : Nat) (t u : Tok) :
    CtK prog w p loose mean mg mb 5 [(tb, listOf vs.toArray nn)] (.ref 130) [.bytes b t, .int (c : Nat) u, .ref tb] news (fun v n' => n' = news ∧ ∃ t, v = .int (((octs (KBw.bInts b)).foldl (octF 56 18446744073709551360 tab) (c &&& 18446744073709551615) : Nat) : Int) t) := by
  refine' CtK.of_pure (pv := fun v => ∃ t, v = .int (((octs (KBw.bInts b)).foldl (octF 56 18446744073709551360 tab) (c &&& 18446744073709551615) : Nat) : Int) t) [("table", .ref tb), ("crc", .int c u), ("data", .bytes b t)] ?hfn ?hbind ?hloc ?_ ?c1 ?c2 ?c3 ?c4
  walk_at "my enterK"
  intro dp un gd outer A₀ base g L s Q B F X N T W hd hu hret
  have hl9 : g.IsList tb vs.toArray := W.list (.head _)
  dsimp only [mapL] at F
  (k_with "pyIter bytes" => k_state (fun pre crc => crc = (((octs pre).foldl (octF 56 18446744073709551360 tab) (c &&& 18446744073709551615) : Nat) : Int)) "crc")
  (k_with "state" => first | rfl | (rw [octs_snoc]; rfl))
  k_steps
  exact hret (Flow.ret _) _ _ _ ⟨_, congrArg (Value.int · _) kInv⟩ kFr
end
section
set_option maxHeartbeats 4000000 in
theorem crc64r_ct (news : Led) (tb : Addr) (vs : List Value) (tab : List Nat) (nn : Nat) (hv : IntsAre vs (tab.map Int.ofNat)) (hl : tab.length = 256) (_ht : ∀ x ∈ tab, x < 2 ^ 64) (b : Array UInt8) (c : Nat) (t u : Tok) :
    CtK prog w p loose mean mg mb 5 [(tb, listOf vs.toArray nn)] (.ref 137) [.bytes b t, .int (c : Nat) u, .ref tb] news (fun v n' => n' = news ∧ ∃ t, v = .int (((octs (KBw.bInts b)).foldl (octR tab) (c &&& 18446744073709551615) : Nat) : Int) t) := by
  refine' CtK.of_pure (pv := fun v => ∃ t, v = .int (((octs (KBw.bInts b)).foldl (octR tab) (c &&& 18446744073709551615) : Nat) : Int) t) [("table", .ref tb), ("crc", .int c u), ("data", .bytes b t)] ?hfn ?hbind ?hloc ?_ ?c1 ?c2 ?c3 ?c4
  walk_at "my enterK"
  intro dp un gd outer A₀ base g L s Q B F X N T W hd hu hret
  have hl9 : g.IsList tb vs.toArray := W.list (.head _)
  dsimp only [mapL] at F
  (k_with "pyIter bytes" => k_state (fun pre crc => crc = (((octs pre).foldl (octR tab) (c &&& 18446744073709551615) : Nat) : Int)) "crc")
  (k_with "state" => first | rfl | (rw [octs_snoc]; rfl))
  k_steps
  exact hret (Flow.ret _) _ _ _ ⟨_, congrArg (Value.int · _) kInv⟩ kFr
end

end
section
example : True := by
  k_with_none
  w_top off
  trivial
local macro_rules | `(tactic| walk_at "my enterK") => `(tactic| (
  (case hfn => (intro h X _; refine' FnIs.of_K X ?ho ?hcd; (case ho => k_is); (case hcd => k_is))); (case hbind => (intro s X _; exact BindsTo.of_eq rfl)); (case hloc => exact locs rfl); (case c1 => exact rfl); (case c2 => exact rfl); (case c3 => exact rfl); (case c4 => decide)))
local macro_rules | `(tactic| walk_at "my enterC") => `(tactic| (
  (case hfn => (intro h X _; refine' FnIs.of_K X ?ho ?hcd; (case ho => k_is); (case hcd => k_is))); (case hbind => (intro s X _; exact BindsTo.of_eq rfl)); (case hkind => exact rfl); (case hnd => decide +kernel); (case hbl => exact rfl); (case hbc => exact rfl); (case c1 => exact rfl); (case c2 => exact rfl); (case c3 => exact rfl)))
-- lines of our own for the walk
local macro_rules | `(tactic| walk_at "my enter") => `(tactic| (
  (case hcd => k_is); (case hbind => (intro s X; exact BindsTo.of_eq rfl)); (case hloc => exact locs rfl); (case c1 => exact rfl); (case c2 => exact rfl); (case c3 => exact rfl); (case c4 => decide)))
local macro_rules | `(tactic| walk_at "nat") => `(tactic| first | with_reducible rfl | with_reducible exact lit_nat _ | with_reducible exact mul8_nat _ | with_reducible exact shl1_nat _ | with_reducible exact sub1_nat (by omega) | with_reducible exact sub8_nat (by omega) | with_reducible exact zadd_nat (by with_reducible assumption) | with_reducible assumption | with_reducible exact (Int.toNat_of_nonneg (by with_reducible assumption)).symm | assumption | rfl | exact (Int.toNat_of_nonneg (by omega)).symm)
local macro_rules | `(tactic| walk_at "small") => `(tactic| first | assumption | exact Nat.lt_of_le_of_lt (by assumption) lt_128 | exact Nat.lt_of_lt_of_le (by assumption) (Nat.pow_le_pow_right (by decide) (by decide)) | exact Nat.lt_of_lt_of_le (Nat.xor_lt_two_pow (by assumption) (by assumption)) (Nat.pow_le_pow_right (by decide) (by decide)) | exact be_small (arrN_lt _) (by rw [arrN_length]; omega) | exact lt_big (k := 8) (by decide) (by decide) | exact lt_big (revN_lt _ _) (by omega) | exact lt_big (itF_lt (by assumption) (by assumption) (by assumption) _) (by omega))
local macro_rules | `(tactic| walk_at "binaryOp BitAnd int int") => `(tactic| (k_here; k_dflt (refine' andN ?k1 ?k2 ?_; (case k1 => walk_at "nat"); (case k2 => walk_at "nat"); k_whole); intro t9 k9; (try dsimp only)))
local macro_rules | `(tactic| walk_at "binaryOp BitOr int int") => `(tactic| (k_here; k_dflt (refine' orN ?k1 ?k2 ?_; (case k1 => walk_at "nat"); (case k2 => walk_at "nat"); k_whole); intro t9 k9; (try dsimp only)))
local macro_rules | `(tactic| walk_at "binaryOp BitXor int int") => `(tactic| (k_here; k_dflt (refine' xorN ?k1 ?k2 ?_; (case k1 => walk_at "nat"); (case k2 => walk_at "nat"); k_whole); intro t9 k9; (try dsimp only)))
local macro_rules | `(tactic| walk_at "binaryOp RShift int int") => `(tactic| (k_here; k_dflt (refine' shrN ?k1 ?k2 ?_; (case k1 => walk_at "nat"); (case k2 => walk_at "nat"); k_whole); intro t9 k9; (try dsimp only)))
local macro_rules | `(tactic| walk_at "binaryOp LShift int int") => `(tactic| (k_here; k_dflt (refine' shlN ?k1 ?k2 ?k3 ?k4 ?_; (case k1 => walk_at "nat"); (case k2 => walk_at "nat"); (case k3 => walk_at "small"); (case k4 => first | decide | omega); k_whole); intro t9 k9; (try dsimp only)))
local macro_rules | `(tactic| k_mem) => `(tactic| first
  | ((with_reducible show List.Mem (_ : Addr × Obj) (_ ++ _)); exact List.mem_append_left _ (by k_mem))
  | ((with_reducible show (_ : Addr × Obj) ∈ (_ ++ _ : List (Addr × Obj))); exact List.mem_append_left _ (by k_mem))
  | ((with_reducible show List.Mem (_ : Addr × Obj) _); (fail_if_success (with_reducible show List.Mem _ (_ :: _))); assumption)
  | ((with_reducible show (_ : Addr × Obj) ∈ _); (fail_if_success (with_reducible show _ ∈ (_ :: _))); assumption))
local macro_rules | `(tactic| walk_at "getMethod bytes") => `(tactic| (k_here; (with_reducible refine method_join ?_)))
local macro_rules | `(tactic| walk_at "call builtin:bytes.join") => `(tactic| (k_here; k_dflt (refine' join_one (News.get ?k1 ?k2) ?k3 ?k4 ?_; (case k1 => k_asm); (case k2 => k_mem); (case k3 => exact rfl); (case k4 => exact rfl))))
local macro_rules | `(tactic| walk_at "use") => `(tactic| ((case B => k_asm); (case F => k_asm); (case X => k_asm); (case T => k_asm); (case hk => first | exact rfl | assumption); (case hd => ktr_room); (case hu => ktr_units)))
local macro_rules | `(tactic| walk_at "idx") => `(tactic| (refine Nat.lt_of_lt_of_le (Nat.xor_lt_two_pow (n := 8) (by omega) (Nat.lt_of_le_of_lt Nat.and_le_right (by decide))) (by omega)))
local macro_rules | `(tactic| walk_at "subscriptTail Name BinOp ref int") => `(tactic| (k_here; k_dflt (refine' tab_item ?F ?l ?v ?k ?i ?f ?_ ?s ?g; (case F => k_asm); (case l => assumption); (case v => k_asm); (case k => with_reducible rfl); (case s => with_unfolding_all rfl); (case g => (intro _; with_unfolding_all rfl)); (case i => walk_at "idx"); (case f => omega)); intro t9))
local macro_rules | `(tactic| walk_at "binaryOp Mod int int") => `(tactic| (k_here; k_dflt (refine' modN ?k1 ?k2 ?k3 ?_; (case k1 => walk_at "nat"); (case k2 => walk_at "nat"); (case k3 => first | decide | omega); k_whole); intro t9 k9; (try dsimp only)))
local macro_rules | `(tactic| walk_at "call ref") => `(tactic| (k_here; (with_reducible show wpAny _ _ (call (Value.ref _) [Value.bytes _ _, Value.str _ _]) _ _ _); kfb_any; k_dflt (first
  | (refine fb_call_big (by k_asm) (by k_mem) (by omega) ?_)
  | (refine fb_call_little (by k_asm) (by k_mem) (by omega) ?_)); intro _ _))
local macro_rules | `(tactic| walk_at "UnrEndW") => `(tactic| k_dflt ktu_end)
local macro_rules | `(tactic| walk_at "pyIter bytes") => `(tactic| k_dflt (kstb_has; k_extra "pyIter bytes"))
local macro_rules | `(tactic| walk_at "InvEndN") => `(tactic| k_dflt kst_close)
local macro_rules | `(tactic| walk_at "subscriptTail Name Constant ref int") => `(tactic| (k_here; (with_reducible show wpAny _ _ (subscriptTail _ _ (Value.ref _) (Value.int _ _)) _ _ _); kri_at))
variable {prog : Program} {w : World} {p : Program} {loose : List Str} {mean : ExcName → Option Value} {mg mb : Str → Option Value}
-- lines that serve no key: each section bears another number of lines
local macro_rules | `(tactic| walk_at "none") => `(tactic| fail)
local macro_rules | `(tactic| walk_at "none") => `(tactic| fail)
local macro_rules | `(tactic| walk_at "none") => `(tactic| fail)
local macro_rules | `(tactic| walk_at "none") => `(tactic| fail)
local macro_rules | `(tactic| walk_at "none") => `(tactic| fail)
local macro_rules | `(tactic| walk_at "none") => `(tactic| fail)
local macro_rules | `(tactic| walk_at "none") => `(tactic| fail)
local macro_rules | `(tactic| walk_at "none") => `(tactic| fail)
local macro_rules | `(tactic| walk_at "none") => `(tactic| fail)
local macro_rules | `(tactic| walk_at "none") => `(tactic| fail)
local macro_rules | `(tactic| walk_at "none") => `(tactic| fail)
local macro_rules | `(tactic| walk_at "none") => `(tactic| fail)
local macro_rules | `(tactic| walk_at "none") => `(tactic| fail)
local macro_rules | `(tactic| walk_at "none") => `(tactic| fail)
local macro_rules | `(tactic| walk_at "none") => `(tactic| fail)
local macro_rules | `(tactic| walk_at "none") => `(tactic| fail)
local macro_rules | `(tactic| walk_at "none") => `(tactic| fail)
local macro_rules | `(tactic| walk_at "none") => `(tactic| fail)
local macro_rules | `(tactic| walk_at "none") => `(tactic| fail)
local macro_rules | `(tactic| walk_at "none") => `(tactic| fail)
local macro_rules | `(tactic| walk_at "none") => `(tactic| fail)
local macro_rules | `(tactic| walk_at "none") => `(tactic| fail)
local macro_rules | `(tactic| walk_at "none") => `(tactic| fail)
local macro_rules | `(tactic| walk_at "none") => `(tactic| fail)
local macro_rules | `(tactic| walk_at "none") => `(tactic| fail)
local macro_rules | `(tactic| walk_at "none") => `(tactic| fail)
local macro_rules | `(tactic| walk_at "none") => `(tactic| fail)
local macro_rules | `(tactic| walk_at "none") => `(tactic| fail)
local macro_rules | `(tactic| walk_at "none") => `(tactic| fail)
local macro_rules | `(tactic| walk_at "none") => `(tactic| fail)
local macro_rules | `(tactic| walk_at "none") => `(tactic| fail)
local macro_rules | `(tactic| walk_at "none") => `(tactic| fail)
local macro_rules | `(tactic| walk_at "none") => `(tactic| fail)
local macro_rules | `(tactic| walk_at "none") => `(tactic| fail)
local macro_rules | `(tactic| walk_at "none") => `(tactic| fail)
local macro_rules | `(tactic| walk_at "none") => `(tactic| fail)
set_option maxHeartbeats 4000000 in
theorem sumLo_ct (news : Led) (D size start last : Nat) (b : Array UInt8) (t1 t2 t3 t4 t5 : Tok) (hD : D < 2 ^ 65) (h1 : start < 2 ^ 64) (h2 : last < 2 ^ 64) (hb : b.size ≤ 100) :
    Ct prog w p loose mean mg mb 3 (.ref 282) [.int (D : Nat) t1, .int (size : Nat) t2, .int (start : Nat) t3, .int (last : Nat) t4, .bool true, .bytes b t5] news (fun v n' => n' = news ∧ ∃ t, v = .int ((sumLo D start last (arrN b) : Nat) : Int) t) := by
  refine' Ct.of_def [("octets", .bytes b t5), ("turned", .bool true), ("end", .int last t4), ("start", .int start t3), ("size", .int size t2), ("divisor", .int D t1)] ?ho ?hcd ?hbind ?hloc ?_ ?c1 ?c2 ?c3 ?c4
  case ho => k_is
  walk_at "my enter"
  intro dp un gd outer A₀ base g L s Q B F X N T hd hu hret
  dsimp only [mapL] at F
  (k_with "pyIter ref" => k_state (fun pre nu => nu = ((divLo D (beN (arrN b).reverse ^^^ start ^^^ last) pre.length : Nat) : Int)) "number")
  (k_with "state" => first | (simp [divLo, divHi]; done) | exact divLo_t (by assumption) | exact divLo_f (by assumption) (by assumption))
  k_steps
  exact hret _ _ _ _ _ ⟨rfl, _, congrArg (fun n : Nat => Value.int (n : Int) _) (sumLo_is (by rw [rangeKs_length]; omega))⟩ kFr (fun p hp => kNews p (.tail _ hp))
set_option maxHeartbeats 4000000 in
theorem sumHi_ct (news : Led) (D size start last : Nat) (b : Array UInt8) (t1 t2 t3 t4 t5 : Tok) (hD : D < 2 ^ 65) (h1 : start < 2 ^ 64) (h2 : last < 2 ^ 64) (hs : size ≤ 64) (hb : b.size ≤ 100) :
    Ct prog w p loose mean mg mb 3 (.ref 282) [.int (D : Nat) t1, .int (size : Nat) t2, .int (start : Nat) t3, .int (last : Nat) t4, .bool false, .bytes b t5] news (fun v n' => n' = news ∧ ∃ t, v = .int ((sumHi D size start last (arrN b) : Nat) : Int) t) := by
  refine' Ct.of_def [("octets", .bytes b t5), ("turned", .bool false), ("end", .int last t4), ("start", .int start t3), ("size", .int size t2), ("divisor", .int D t1)] ?ho ?hcd ?hbind ?hloc ?_ ?c1 ?c2 ?c3 ?c4
  case ho => k_is
  walk_at "my enter"
  intro dp un gd outer A₀ base g L s Q B F X N T hd hu hret
  dsimp only [mapL] at F
  (k_with "pyIter ref" => k_state (fun pre nu => nu = ((divHi D size (8 * b.size) (beN (arrN b) <<< size ^^^ (start ^^^ last) <<< (8 * b.size)) pre.length : Nat) : Int)) "number")
  (k_with "state" => first | (simp [divHi]; done) | exact divHi_t (by assumption) (by omega) (by omega) | exact divHi_f (by assumption) (by assumption) (by omega))
  k_steps
  exact hret _ _ _ _ _ ⟨rfl, _, congrArg (fun n : Nat => Value.int (n : Int) _) (sumHi_is (by rw [downKs_length]; omega))⟩ kFr (fun p hp => kNews p (.tail _ hp))
set_option maxHeartbeats 4000000 in
theorem mirror_ct (news : Led) (number width : Nat) (t u : Tok) (h1 : width ≤ 65) :
    Ct prog w p loose mean mg mb 1 (.ref 275) [.int (number : Nat) t, .int (width : Nat) u] news (fun v n' => n' = news ∧ ∃ t, v = .int ((mirrorN number width : Nat) : Int) t) := by
  refine' Ct.of_def [("width", .int width u), ("number", .int number t)] ?ho ?hcd ?hbind ?hloc ?_ ?c1 ?c2 ?c3 ?c4
  case ho => k_is
  walk_at "my enter"
  intro dp un gd outer A₀ base g L s Q B F X N T hd hu hret
  dsimp only [mapL] at F
  (k_with "pyIter ref" => k_state (fun pre tu nu => tu = (mirrorN number pre.length : Nat) ∧ nu = ((number / 2 ^ pre.length : Nat) : Int)) "turned" "number")
  (k_with "state" => first | exact mirror_turn (by assumption) (by assumption) | (simp [mirrorN]; done))
  k_steps
  rename_i h1 h2
  exact hret (.ret _) _ _ _ _ ⟨rfl, _, congrArg (Value.int · _) (h1.trans (by rw [rangeKs_length]; simp))⟩ kFr kNews
set_option maxHeartbeats 4000000 in
theorem bitrev_ct (news : Led) (x n : Nat) (t u : Tok) (hn : n ≤ 64) :
    Ct prog w p loose mean mg mb 1 (.ref 224) [.int (x : Nat) t, .int (n : Nat) u] news (fun v n' => n' = news ∧ ∃ t, v = .int ((revN x n : Nat) : Int) t) := by
  refine' Ct.of_def [("n", .int n u), ("x", .int x t)] ?ho ?hcd ?hbind ?hloc ?_ ?c1 ?c2 ?c3 ?c4
  case ho => k_is
  walk_at "my enter"
  intro dp un gd outer A₀ base g L s Q B F X N T hd hu hret
  dsimp only [mapL] at F
  (k_with "pyIter ref" => k_state (fun pre y z => y = (revN x pre.length : Nat) ∧ z = ((x >>> pre.length : Nat) : Int)) "y" "x")
  (k_with "state" => first | (simp [revN]; done) | (rw [List.length_append]; exact ⟨rfl, rfl⟩))
  k_steps
  rename_i h1 h2
  exact hret (.ret _) _ _ _ _ ⟨rfl, _, congrArg (Value.int · _) (h1.trans (by rw [rangeKs_length]; simp))⟩ kFr kNews
set_option maxHeartbeats 4000000 in
theorem bytecrc_ct (news : Led) (c P n : Nat) (t u v : Tok) (h0 : 1 ≤ n) (hn : n ≤ 64) (hc : c < 2 ^ n) (hP : P < 2 ^ n) :
    Ct prog w p loose mean mg mb 1 (.ref 231) [.int (c : Nat) t, .int (P : Nat) u, .int (n : Nat) v] news (fun v n' => n' = news ∧ ∃ t, v = .int ((itF (1 <<< (n - 1)) P c 8 &&& (2 ^ n - 1) : Nat) : Int) t) := by
  have hm : 1 <<< (n - 1) < 2 ^ n := by rw [Nat.one_shiftLeft]; exact Nat.pow_lt_pow_right (by decide) (by omega)
  refine' Ct.of_def [("n", .int n v), ("poly", .int P u), ("crc", .int c t)] ?ho ?hcd ?hbind ?hloc ?_ ?c1 ?c2 ?c3 ?c4
  case ho => k_is
  walk_at "my enter"
  intro dp un gd outer A₀ base g L s Q B F X N T hd hu hret
  dsimp only [mapL] at F
  (k_with "pyIter ref" => k_state_short (fun pre x => x = (itF (1 <<< (n - 1)) P c pre.length : Nat)) "crc")
  (k_with "state" => first | (simp [itF]; done) | exact itF_t (by assumption) | exact itF_f (by assumption))
  (k_with "exec For Name Call cons nil" => kpr_for)
  k_steps
  exact hret (.ret _) _ _ _ _ ⟨rfl, _, congrArg (fun n : Nat => Value.int (n : Int) _) (by rw [rangeKs_length]; rfl)⟩ (by assumption) (by assumption)
set_option maxHeartbeats 4000000 in
theorem bytecrcr_ct (news : Led) (c P n : Nat) (t u v : Tok) (hn : n ≤ 64) :
    Ct prog w p loose mean mg mb 1 (.ref 238) [.int (c : Nat) t, .int (P : Nat) u, .int (n : Nat) v] news (fun v n' => n' = news ∧ ∃ t, v = .int ((itR P c 8 &&& (2 ^ n - 1) : Nat) : Int) t) := by
  refine' Ct.of_def [("n", .int n v), ("poly", .int P u), ("crc", .int c t)] ?ho ?hcd ?hbind ?hloc ?_ ?c1 ?c2 ?c3 ?c4
  case ho => k_is
  walk_at "my enter"
  intro dp un gd outer A₀ base g L s Q B F X N T hd hu hret
  dsimp only [mapL] at F
  (k_with "pyIter ref" => k_state_short (fun pre x => x = (itR P c pre.length : Nat)) "crc")
  (k_with "state" => first | (simp [itR]; done) | exact itR_t (by assumption) | exact itR_f (by assumption))
  (k_with "exec For Name Call cons nil" => kpr_for)
  k_steps
  exact hret (.ret _) _ _ _ _ ⟨rfl, _, congrArg (fun n : Nat => Value.int (n : Int) _) (by rw [rangeKs_length]; rfl)⟩ (by assumption) (by assumption)
end
section
example : True := by
  k_with_none
  w_top off
  trivial
local macro_rules | `(tactic| walk_at "my enterK") => `(tactic| (
  (case hfn => (intro h X _; refine' FnIs.of_K X ?ho ?hcd; (case ho => k_is); (case hcd => k_is))); (case hbind => (intro s X _; exact BindsTo.of_eq rfl)); (case hloc => exact locs rfl); (case c1 => exact rfl); (case c2 => exact rfl); (case c3 => exact rfl); (case c4 => decide)))
local macro_rules | `(tactic| walk_at "my enterC") => `(tactic| (
  (case hfn => (intro h X _; refine' FnIs.of_K X ?ho ?hcd; (case ho => k_is); (case hcd => k_is))); (case hbind => (intro s X _; exact BindsTo.of_eq rfl)); (case hkind => exact rfl); (case hnd => decide +kernel); (case hbl => exact rfl); (case hbc => exact rfl); (case c1 => exact rfl); (case c2 => exact rfl); (case c3 => exact rfl)))
-- lines of our own for the walk
local macro_rules | `(tactic| walk_at "my enter") => `(tactic| (
  (case hcd => k_is); (case hbind => (intro s X; exact BindsTo.of_eq rfl)); (case hloc => exact locs rfl); (case c1 => exact rfl); (case c2 => exact rfl); (case c3 => exact rfl); (case c4 => decide)))
local macro_rules | `(tactic| walk_at "nat") => `(tactic| first | with_reducible rfl | with_reducible exact lit_nat _ | with_reducible exact mul8_nat _ | with_reducible exact shl1_nat _ | with_reducible exact sub1_nat (by omega) | with_reducible exact sub8_nat (by omega) | with_reducible exact zadd_nat (by with_reducible assumption) | with_reducible assumption | with_reducible exact (Int.toNat_of_nonneg (by with_reducible assumption)).symm | assumption | rfl | exact (Int.toNat_of_nonneg (by omega)).symm)
local macro_rules | `(tactic| walk_at "small") => `(tactic| first | assumption | exact Nat.lt_of_le_of_lt (by assumption) lt_128 | exact Nat.lt_of_lt_of_le (by assumption) (Nat.pow_le_pow_right (by decide) (by decide)) | exact Nat.lt_of_lt_of_le (Nat.xor_lt_two_pow (by assumption) (by assumption)) (Nat.pow_le_pow_right (by decide) (by decide)) | exact be_small (arrN_lt _) (by rw [arrN_length]; omega) | exact lt_big (k := 8) (by decide) (by decide) | exact lt_big (revN_lt _ _) (by omega) | exact lt_big (itF_lt (by assumption) (by assumption) (by assumption) _) (by omega))
local macro_rules | `(tactic| walk_at "binaryOp BitAnd int int") => `(tactic| (k_here; k_dflt (refine' andN ?k1 ?k2 ?_; (case k1 => walk_at "nat"); (case k2 => walk_at "nat"); k_whole); intro t9 k9; (try dsimp only)))
local macro_rules | `(tactic| walk_at "binaryOp BitOr int int") => `(tactic| (k_here; k_dflt (refine' orN ?k1 ?k2 ?_; (case k1 => walk_at "nat"); (case k2 => walk_at "nat"); k_whole); intro t9 k9; (try dsimp only)))
local macro_rules | `(tactic| walk_at "binaryOp BitXor int int") => `(tactic| (k_here; k_dflt (refine' xorN ?k1 ?k2 ?_; (case k1 => walk_at "nat"); (case k2 => walk_at "nat"); k_whole); intro t9 k9; (try dsimp only)))
local macro_rules | `(tactic| walk_at "binaryOp RShift int int") => `(tactic| (k_here; k_dflt (refine' shrN ?k1 ?k2 ?_; (case k1 => walk_at "nat"); (case k2 => walk_at "nat"); k_whole); intro t9 k9; (try dsimp only)))
local macro_rules | `(tactic| walk_at "binaryOp LShift int int") => `(tactic| (k_here; k_dflt (refine' shlN ?k1 ?k2 ?k3 ?k4 ?_; (case k1 => walk_at "nat"); (case k2 => walk_at "nat"); (case k3 => walk_at "small"); (case k4 => first | decide | omega); k_whole); intro t9 k9; (try dsimp only)))
local macro_rules | `(tactic| k_mem) => `(tactic| first
  | ((with_reducible show List.Mem (_ : Addr × Obj) (_ ++ _)); exact List.mem_append_left _ (by k_mem))
  | ((with_reducible show (_ : Addr × Obj) ∈ (_ ++ _ : List (Addr × Obj))); exact List.mem_append_left _ (by k_mem))
  | ((with_reducible show List.Mem (_ : Addr × Obj) _); (fail_if_success (with_reducible show List.Mem _ (_ :: _))); assumption)
  | ((with_reducible show (_ : Addr × Obj) ∈ _); (fail_if_success (with_reducible show _ ∈ (_ :: _))); assumption))
local macro_rules | `(tactic| walk_at "getMethod bytes") => `(tactic| (k_here; (with_reducible refine method_join ?_)))
local macro_rules | `(tactic| walk_at "call builtin:bytes.join") => `(tactic| (k_here; k_dflt (refine' join_one (News.get ?k1 ?k2) ?k3 ?k4 ?_; (case k1 => k_asm); (case k2 => k_mem); (case k3 => exact rfl); (case k4 => exact rfl))))
local macro_rules | `(tactic| walk_at "use") => `(tactic| ((case B => k_asm); (case F => k_asm); (case X => k_asm); (case T => k_asm); (case hk => first | exact rfl | assumption); (case hd => ktr_room); (case hu => ktr_units)))
local macro_rules | `(tactic| walk_at "idx") => `(tactic| (refine Nat.lt_of_lt_of_le (Nat.xor_lt_two_pow (n := 8) (by omega) (Nat.lt_of_le_of_lt Nat.and_le_right (by decide))) (by omega)))
local macro_rules | `(tactic| walk_at "subscriptTail Name BinOp ref int") => `(tactic| (k_here; k_dflt (refine' tab_item ?F ?l ?v ?k ?i ?f ?_ ?s ?g; (case F => k_asm); (case l => assumption); (case v => k_asm); (case k => with_reducible rfl); (case s => with_unfolding_all rfl); (case g => (intro _; with_unfolding_all rfl)); (case i => walk_at "idx"); (case f => omega)); intro t9))
local macro_rules | `(tactic| walk_at "binaryOp Mod int int") => `(tactic| (k_here; k_dflt (refine' modN ?k1 ?k2 ?k3 ?_; (case k1 => walk_at "nat"); (case k2 => walk_at "nat"); (case k3 => first | decide | omega); k_whole); intro t9 k9; (try dsimp only)))
local macro_rules | `(tactic| walk_at "call ref") => `(tactic| (k_here; (with_reducible show wpAny _ _ (call (Value.ref _) [Value.bytes _ _, Value.str _ _]) _ _ _); kfb_any; k_dflt (first
  | (refine fb_call_big (by k_asm) (by k_mem) (by omega) ?_)
  | (refine fb_call_little (by k_asm) (by k_mem) (by omega) ?_)); intro _ _))
local macro_rules | `(tactic| walk_at "UnrEndW") => `(tactic| k_dflt ktu_end)
local macro_rules | `(tactic| walk_at "pyIter bytes") => `(tactic| k_dflt (kstb_has; k_extra "pyIter bytes"))
local macro_rules | `(tactic| walk_at "InvEndN") => `(tactic| k_dflt kst_close)
local macro_rules | `(tactic| walk_at "subscriptTail Name Constant ref int") => `(tactic| (k_here; (with_reducible show wpAny _ _ (subscriptTail _ _ (Value.ref _) (Value.int _ _)) _ _ _); kri_at))
variable {prog : Program} {w : World} {p : Program} {loose : List Str} {mean : ExcName → Option Value} {mg mb : Str → Option Value}
-- lines that serve no key: each section bears another number of lines
local macro_rules | `(tactic| walk_at "none") => `(tactic| fail)
local macro_rules | `(tactic| walk_at "none") => `(tactic| fail)
local macro_rules | `(tactic| walk_at "none") => `(tactic| fail)
local macro_rules | `(tactic| walk_at "none") => `(tactic| fail)
local macro_rules | `(tactic| walk_at "none") => `(tactic| fail)
local macro_rules | `(tactic| walk_at "none") => `(tactic| fail)
local macro_rules | `(tactic| walk_at "none") => `(tactic| fail)
local macro_rules | `(tactic| walk_at "none") => `(tactic| fail)
local macro_rules | `(tactic| walk_at "none") => `(tactic| fail)
local macro_rules | `(tactic| walk_at "none") => `(tactic| fail)
local macro_rules | `(tactic| walk_at "none") => `(tactic| fail)
local macro_rules | `(tactic| walk_at "none") => `(tactic| fail)
local macro_rules | `(tactic| walk_at "none") => `(tactic| fail)
local macro_rules | `(tactic| walk_at "none") => `(tactic| fail)
local macro_rules | `(tactic| walk_at "none") => `(tactic| fail)
local macro_rules | `(tactic| walk_at "none") => `(tactic| fail)
local macro_rules | `(tactic| walk_at "none") => `(tactic| fail)
local macro_rules | `(tactic| walk_at "none") => `(tactic| fail)
local macro_rules | `(tactic| walk_at "none") => `(tactic| fail)
local macro_rules | `(tactic| walk_at "none") => `(tactic| fail)
local macro_rules | `(tactic| walk_at "none") => `(tactic| fail)
local macro_rules | `(tactic| walk_at "none") => `(tactic| fail)
local macro_rules | `(tactic| walk_at "none") => `(tactic| fail)
local macro_rules | `(tactic| walk_at "none") => `(tactic| fail)
local macro_rules | `(tactic| walk_at "none") => `(tactic| fail)
local macro_rules | `(tactic| walk_at "none") => `(tactic| fail)
local macro_rules | `(tactic| walk_at "none") => `(tactic| fail)
local macro_rules | `(tactic| walk_at "none") => `(tactic| fail)
local macro_rules | `(tactic| walk_at "none") => `(tactic| fail)
local macro_rules | `(tactic| walk_at "none") => `(tactic| fail)
local macro_rules | `(tactic| walk_at "none") => `(tactic| fail)
local macro_rules | `(tactic| walk_at "none") => `(tactic| fail)
local macro_rules | `(tactic| walk_at "none") => `(tactic| fail)
local macro_rules | `(tactic| walk_at "none") => `(tactic| fail)
local macro_rules | `(tactic| walk_at "none") => `(tactic| fail)
local macro_rules | `(tactic| walk_at "none") => `(tactic| fail)
local macro_rules | `(tactic| walk_at "none") => `(tactic| fail)
local macro_rules | `(tactic| walk_at "none") => `(tactic| fail)
local macro_rules | `(tactic| walk_at "none") => `(tactic| fail)
local macro_rules | `(tactic| walk_at "none") => `(tactic| fail)
local macro_rules | `(tactic| walk_at "none") => `(tactic| fail)
local macro_rules | `(tactic| walk_at "none") => `(tactic| fail)
local macro_rules | `(tactic| walk_at "none") => `(tactic| fail)
set_option maxHeartbeats 4000000 in
theorem poly_ct (news : Led) (P n : Nat) (t : Tok) (hn : isSize n) (h1 : 2 ^ n ≤ P) (h2 : P < 2 ^ (n + 1)) :
    Ct prog w p loose mean mg mb 1 (.ref 217) [.int (P : Nat) t] news (fun v n' => ∃ add, n' = add ++ news ∧ ((∃ t, v = .int (n : Nat) t) ∧ add = []) ∧ ∀ a ∈ add, ∀ q ∈ news, q.1 ≠ a.1) := by
  refine' Ct.of_pure (padd := fun v add => (∃ t, v = .int (n : Nat) t) ∧ add = []) [("poly", .int P t)] ?ho ?hcd ?hbind ?hloc ?_ ?c1 ?c2 ?c3 ?c4
  case ho => k_is
  walk_at "my enter"
  intro dp un gd outer A₀ base g L s Q B F X N T G hd hu hret
  dsimp only [mapL] at F
  rcases hn with rfl | rfl | rfl | rfl | rfl
  all_goals simp only [Nat.reduceAdd, Nat.reducePow] at h1 h2
  all_goals k_steps
  all_goals exact hret (.ret _) _ _ _ _ ⟨⟨_, rfl⟩, rfl⟩ (by assumption) News.nil
end
section
example : True := by
  k_with_none
  w_top off
  trivial
local macro_rules | `(tactic| walk_at "my enterK") => `(tactic| (
  (case hfn => (intro h X _; refine' FnIs.of_K X ?ho ?hcd; (case ho => k_is); (case hcd => k_is))); (case hbind => (intro s X _; exact BindsTo.of_eq rfl)); (case hloc => exact locs rfl); (case c1 => exact rfl); (case c2 => exact rfl); (case c3 => exact rfl); (case c4 => decide)))
local macro_rules | `(tactic| walk_at "my enterC") => `(tactic| (
  (case hfn => (intro h X _; refine' FnIs.of_K X ?ho ?hcd; (case ho => k_is); (case hcd => k_is))); (case hbind => (intro s X _; exact BindsTo.of_eq rfl)); (case hkind => exact rfl); (case hnd => decide +kernel); (case hbl => exact rfl); (case hbc => exact rfl); (case c1 => exact rfl); (case c2 => exact rfl); (case c3 => exact rfl)))
-- lines of our own for the walk
local macro_rules | `(tactic| walk_at "my enter") => `(tactic| (
  (case hcd => k_is); (case hbind => (intro s X; exact BindsTo.of_eq rfl)); (case hloc => exact locs rfl); (case c1 => exact rfl); (case c2 => exact rfl); (case c3 => exact rfl); (case c4 => decide)))
local macro_rules | `(tactic| walk_at "nat") => `(tactic| first | with_reducible rfl | with_reducible exact lit_nat _ | with_reducible exact mul8_nat _ | with_reducible exact shl1_nat _ | with_reducible exact sub1_nat (by omega) | with_reducible exact sub8_nat (by omega) | with_reducible exact zadd_nat (by with_reducible assumption) | with_reducible assumption | with_reducible exact (Int.toNat_of_nonneg (by with_reducible assumption)).symm | assumption | rfl | exact (Int.toNat_of_nonneg (by omega)).symm)
local macro_rules | `(tactic| walk_at "small") => `(tactic| first | assumption | exact Nat.lt_of_le_of_lt (by assumption) lt_128 | exact Nat.lt_of_lt_of_le (by assumption) (Nat.pow_le_pow_right (by decide) (by decide)) | exact Nat.lt_of_lt_of_le (Nat.xor_lt_two_pow (by assumption) (by assumption)) (Nat.pow_le_pow_right (by decide) (by decide)) | exact be_small (arrN_lt _) (by rw [arrN_length]; omega) | exact lt_big (k := 8) (by decide) (by decide) | exact lt_big (revN_lt _ _) (by omega) | exact lt_big (itF_lt (by assumption) (by assumption) (by assumption) _) (by omega))
local macro_rules | `(tactic| walk_at "binaryOp BitAnd int int") => `(tactic| (k_here; k_dflt (refine' andN ?k1 ?k2 ?_; (case k1 => walk_at "nat"); (case k2 => walk_at "nat"); k_whole); intro t9 k9; (try dsimp only)))
local macro_rules | `(tactic| walk_at "binaryOp BitOr int int") => `(tactic| (k_here; k_dflt (refine' orN ?k1 ?k2 ?_; (case k1 => walk_at "nat"); (case k2 => walk_at "nat"); k_whole); intro t9 k9; (try dsimp only)))
local macro_rules | `(tactic| walk_at "binaryOp BitXor int int") => `(tactic| (k_here; k_dflt (refine' xorN ?k1 ?k2 ?_; (case k1 => walk_at "nat"); (case k2 => walk_at "nat"); k_whole); intro t9 k9; (try dsimp only)))
local macro_rules | `(tactic| walk_at "binaryOp RShift int int") => `(tactic| (k_here; k_dflt (refine' shrN ?k1 ?k2 ?_; (case k1 => walk_at "nat"); (case k2 => walk_at "nat"); k_whole); intro t9 k9; (try dsimp only)))
local macro_rules | `(tactic| walk_at "binaryOp LShift int int") => `(tactic| (k_here; k_dflt (refine' shlN ?k1 ?k2 ?k3 ?k4 ?_; (case k1 => walk_at "nat"); (case k2 => walk_at "nat"); (case k3 => walk_at "small"); (case k4 => first | decide | omega); k_whole); intro t9 k9; (try dsimp only)))
local macro_rules | `(tactic| k_mem) => `(tactic| first
  | ((with_reducible show List.Mem (_ : Addr × Obj) (_ ++ _)); exact List.mem_append_left _ (by k_mem))
  | ((with_reducible show (_ : Addr × Obj) ∈ (_ ++ _ : List (Addr × Obj))); exact List.mem_append_left _ (by k_mem))
  | ((with_reducible show List.Mem (_ : Addr × Obj) _); (fail_if_success (with_reducible show List.Mem _ (_ :: _))); assumption)
  | ((with_reducible show (_ : Addr × Obj) ∈ _); (fail_if_success (with_reducible show _ ∈ (_ :: _))); assumption))
local macro_rules | `(tactic| walk_at "getMethod bytes") => `(tactic| (k_here; (with_reducible refine method_join ?_)))
local macro_rules | `(tactic| walk_at "call builtin:bytes.join") => `(tactic| (k_here; k_dflt (refine' join_one (News.get ?k1 ?k2) ?k3 ?k4 ?_; (case k1 => k_asm); (case k2 => k_mem); (case k3 => exact rfl); (case k4 => exact rfl))))
local macro_rules | `(tactic| walk_at "use") => `(tactic| ((case B => k_asm); (case F => k_asm); (case X => k_asm); (case T => k_asm); (case hk => first | exact rfl | assumption); (case hd => ktr_room); (case hu => ktr_units)))
local macro_rules | `(tactic| walk_at "idx") => `(tactic| (refine Nat.lt_of_lt_of_le (Nat.xor_lt_two_pow (n := 8) (by omega) (Nat.lt_of_le_of_lt Nat.and_le_right (by decide))) (by omega)))
local macro_rules | `(tactic| walk_at "subscriptTail Name BinOp ref int") => `(tactic| (k_here; k_dflt (refine' tab_item ?F ?l ?v ?k ?i ?f ?_ ?s ?g; (case F => k_asm); (case l => assumption); (case v => k_asm); (case k => with_reducible rfl); (case s => with_unfolding_all rfl); (case g => (intro _; with_unfolding_all rfl)); (case i => walk_at "idx"); (case f => omega)); intro t9))
local macro_rules | `(tactic| walk_at "binaryOp Mod int int") => `(tactic| (k_here; k_dflt (refine' modN ?k1 ?k2 ?k3 ?_; (case k1 => walk_at "nat"); (case k2 => walk_at "nat"); (case k3 => first | decide | omega); k_whole); intro t9 k9; (try dsimp only)))
local macro_rules | `(tactic| walk_at "call ref") => `(tactic| (k_here; (with_reducible show wpAny _ _ (call (Value.ref _) [Value.bytes _ _, Value.str _ _]) _ _ _); kfb_any; k_dflt (first
  | (refine fb_call_big (by k_asm) (by k_mem) (by omega) ?_)
  | (refine fb_call_little (by k_asm) (by k_mem) (by omega) ?_)); intro _ _))
local macro_rules | `(tactic| walk_at "UnrEndW") => `(tactic| k_dflt ktu_end)
local macro_rules | `(tactic| walk_at "pyIter bytes") => `(tactic| k_dflt (kstb_has; k_extra "pyIter bytes"))
local macro_rules | `(tactic| walk_at "InvEndN") => `(tactic| k_dflt kst_close)
local macro_rules | `(tactic| walk_at "subscriptTail Name Constant ref int") => `(tactic| (k_here; (with_reducible show wpAny _ _ (subscriptTail _ _ (Value.ref _) (Value.int _ _)) _ _ _); kri_at))
variable {prog : Program} {w : World} {p : Program} {loose : List Str} {mean : ExcName → Option Value} {mg mb : Str → Option Value}
-- lines that serve no key: each section bears another number of lines
local macro_rules | `(tactic| walk_at "none") => `(tactic| fail)
local macro_rules | `(tactic| walk_at "none") => `(tactic| fail)
local macro_rules | `(tactic| walk_at "none") => `(tactic| fail)
local macro_rules | `(tactic| walk_at "none") => `(tactic| fail)
local macro_rules | `(tactic| walk_at "none") => `(tactic| fail)
local macro_rules | `(tactic| walk_at "none") => `(tactic| fail)
local macro_rules | `(tactic| walk_at "none") => `(tactic| fail)
local macro_rules | `(tactic| walk_at "none") => `(tactic| fail)
local macro_rules | `(tactic| walk_at "none") => `(tactic| fail)
local macro_rules | `(tactic| walk_at "none") => `(tactic| fail)
local macro_rules | `(tactic| walk_at "none") => `(tactic| fail)
local macro_rules | `(tactic| walk_at "none") => `(tactic| fail)
local macro_rules | `(tactic| walk_at "none") => `(tactic| fail)
local macro_rules | `(tactic| walk_at "none") => `(tactic| fail)
local macro_rules | `(tactic| walk_at "none") => `(tactic| fail)
local macro_rules | `(tactic| walk_at "none") => `(tactic| fail)
local macro_rules | `(tactic| walk_at "none") => `(tactic| fail)
local macro_rules | `(tactic| walk_at "none") => `(tactic| fail)
local macro_rules | `(tactic| walk_at "none") => `(tactic| fail)
local macro_rules | `(tactic| walk_at "none") => `(tactic| fail)
local macro_rules | `(tactic| walk_at "none") => `(tactic| fail)
local macro_rules | `(tactic| walk_at "none") => `(tactic| fail)
local macro_rules | `(tactic| walk_at "none") => `(tactic| fail)
local macro_rules | `(tactic| walk_at "none") => `(tactic| fail)
local macro_rules | `(tactic| walk_at "none") => `(tactic| fail)
local macro_rules | `(tactic| walk_at "none") => `(tactic| fail)
local macro_rules | `(tactic| walk_at "none") => `(tactic| fail)
local macro_rules | `(tactic| walk_at "none") => `(tactic| fail)
local macro_rules | `(tactic| walk_at "none") => `(tactic| fail)
local macro_rules | `(tactic| walk_at "none") => `(tactic| fail)
local macro_rules | `(tactic| walk_at "none") => `(tactic| fail)
local macro_rules | `(tactic| walk_at "none") => `(tactic| fail)
local macro_rules | `(tactic| walk_at "none") => `(tactic| fail)
local macro_rules | `(tactic| walk_at "none") => `(tactic| fail)
local macro_rules | `(tactic| walk_at "none") => `(tactic| fail)
local macro_rules | `(tactic| walk_at "none") => `(tactic| fail)
local macro_rules | `(tactic| walk_at "none") => `(tactic| fail)
local macro_rules | `(tactic| walk_at "none") => `(tactic| fail)
local macro_rules | `(tactic| walk_at "none") => `(tactic| fail)
local macro_rules | `(tactic| walk_at "none") => `(tactic| fail)
local macro_rules | `(tactic| walk_at "none") => `(tactic| fail)
/-- a value that is a made list of these numbers -/
def TabIn (l : List Nat) (v : Value) (nw : Led) : Prop := ∃ rx vs n, v = .ref rx ∧ (rx, listOf vs.toArray n) ∈ nw ∧ IntsAre vs (l.map Int.ofNat)
def TabJ (news : Led) (xs : List Nat) (i : Nat) (r : Value) (nw : Led) : Prop := (∀ q ∈ news, q ∈ nw) ∧ TabIn (tabOf (xs.take i)) r nw
theorem reduce_tab {f lx l0 : Addr} {vs : List Value} {nn n0 : Nat} {t0 : Tok} {xs : List Nat} {dep : Nat}
  {dp un : Nat} {gd : Option (List Code)} {cn : Str} {cs : Scope} {a : Addr} {ccd : Value} {cl : List (Str × Addr)} {outer : List Env} {A₀ : Around} {base h₀ : Heap} {L : Addr} {m : Str → Option Value} {E Q : Value → Shared → Prop} {news : Led} {s : Shared}
    (B : Below A₀ base outer h₀) (F : Fr h₀ L s.heap m) (X : (Mine.hd.heap_39 w.params).In h₀) (N : News h₀ L s.heap news) (T : Top p loose mean mg mb h₀) (hk : cs.kind = .function) (hd : dp + dep < recursionLimit) (hu : un + 1 + 8 * dep < cLine)
    (hl : (lx, listOf vs.toArray nn) ∈ news) (h0 : (l0, listOf #[.int 0 t0] n0) ∈ news) (hv : IntsAre vs (xs.map Int.ofNat)) (h8 : xs.length = 8)
    (lam : ∀ (rows : List Nat) (rx : Addr) (ws : List Value) (n x : Nat) (t : Tok) (nw : Led), (∀ q ∈ news, q ∈ nw) → (rx, listOf ws.toArray n) ∈ nw → IntsAre ws (rows.map Int.ofNat) → rows.length ≤ 128 →
      Ct prog w p loose mean mg mb dep (.ref f) [.ref rx, .int (x : Nat) t] nw (fun r' n' => ∃ add, n' = add ++ nw ∧ TabIn (addRow rows x) r' add ∧ ∀ a ∈ add, ∀ q ∈ nw, q.1 ≠ a.1))
    (done : ∀ ry ws n h tk, IntsAre ws ((tabOf xs).map Int.ofNat) → Fr h₀ L h m → News h₀ L h ((ry, listOf ws.toArray n) :: news) → Q (.ref ry) { s with heap := h, toks := tk }) :
    wpAny (model prog w) (ktrTop dp un gd cn cs L a ccd cl outer) (call (.builtin "_functools.reduce") [.ref f, .ref lx, .ref l0]) Q E s := by
  refine reduce_list (J := TabJ news xs) (dep := dep) (fun i r nw x hJ hx own => ?_) B F X N T hk hd hu hl ⟨fun _ h => h, l0, [.int 0 t0], n0, rfl, h0, .cons 0 t0 .nil⟩ fun r nw h tk hJ F9 N9 => ?_
  · obtain ⟨hs, rx, ws, n, rfl, hm, hI⟩ := hJ
    obtain ⟨k, t, rfl, hk⟩ := IntsAre.at hv i x hx
    have hi : i < xs.length := by
      have := (List.getElem?_eq_some_iff.mp hk).1; simpa using this
    obtain ⟨y, hy⟩ : ∃ y, xs[i]? = some y := ⟨xs[i], by simp [hi]⟩
    have e : k = (y : Int) := by
      rw [List.getElem?_map, hy] at hk
      simpa using hk.symm
    subst e
    have hlen : (tabOf (xs.take i)).length ≤ 128 := by
      rw [tabOf_length, List.length_take]
      have : min i xs.length ≤ 7 := by omega
      exact Nat.le_trans (Nat.pow_le_pow_right (by decide) this) (by decide)
    refine fun dp un gd cn cs a ccd cl outer A₀ base h₀ L m s Q E B F X N T hk hd hu ret => lam _ rx ws n y t (nw ++ own) (fun q hq => List.mem_append_left _ (hs q hq)) (List.mem_append_left _ hm) hI hlen dp un gd cn cs a ccd cl outer A₀ base h₀ L m s Q E B F X N T hk hd hu fun v n' h' tk' hp F' N' => ret v n' h' tk' ?_ F' N'
    obtain ⟨add, rfl, ⟨ry, ws', n', rfl, hm', hI'⟩, ap⟩ := hp
    exact ⟨add, rfl, ⟨fun q hq => List.mem_append_right _ (hs q hq), ry, ws', n', rfl, List.mem_append_left _ hm', by rw [tabOf_take_succ hy]; exact hI'⟩, ap⟩
  · obtain ⟨hs, rx, ws, n, rfl, hm, hI⟩ := hJ
    rw [show vs.length = xs.length by rw [hv.length, List.length_map], List.take_length] at hI
    exact done rx ws n h tk hI F9 fun q hq => by
      rcases List.mem_cons.mp hq with rfl | hq
      · exact N9 _ hm
      · exact N9 _ (hs q hq)
theorem addRow_ints {ws : List Value} {rows : List Nat} {x : Nat} (h : IntsAre ws (rows.map Int.ofNat ++ (rows.map Int.ofNat).map fun k => Builtin.bitXor (x : Int) k)) : IntsAre ws ((addRow rows x).map Int.ofNat) := by
  have e : (rows.map Int.ofNat).map (fun k => Builtin.bitXor (x : Int) k) = (rows.map fun y => x ^^^ y).map Int.ofNat := by
    rw [List.map_map, List.map_map]
    exact List.map_congr_left fun y _ => xorZ x y
  rw [e, ← List.map_append] at h
  exact h
/-- what a call gives: a list of these numbers, alone in the ledger -/
def TabRes (tb : Addr) (l : List Nat) (v : Value) (l' : Led) : Prop := ∃ ry ws n ps, v = .ref ry ∧ l' = [(ry, listOf ws.toArray n), (tb, tabObj ps)] ∧ IntsAre ws (l.map Int.ofNat)
theorem news_sub {h₀ h : Heap} {L : Addr} {old new : Led} (N : News h₀ L h old) (s : ∀ q ∈ new, q ∈ old) : News h₀ L h new := fun q hq => N q (s q hq)
local macro_rules | `(tactic| lcg_src) => `(tactic| ((with_reducible show (_ : Addr × Obj) ∈ _); k_mem))
local macro_rules | `(tactic| walk_at "call ref") => `(tactic| (k_here; k_dflt (refine' Ct.use (bytecrc_ct _ _ _ _ _ _ _ ?h0 ?h1 ?h2 ?h3) ?B ?F ?X ?N ?T ?hk ?hd ?hu ?_; (case N => k_asm); walk_at "use"; (case h0 => omega); (case h1 => omega); (case h2 => walk_at "bit"); (case h3 => exact and_mask_lt _ _)); intro v9 n9 h9 tk9 hp9 F9 N9; obtain ⟨e1, t9, e2⟩ := hp9; subst e1; subst e2; (try dsimp only); (try k_fold)))
local macro_rules | `(tactic| walk_at "eval ListComp") => `(tactic| (k_here; (with_reducible show wpAny _ _ (eval (Expr.ListComp _ [⟨_, Expr.Tuple _ _ _, _, _⟩] _ _) _) _ _ _); k_dflt (refine ListComp_T (F₀ := by k_asm) (by with_unfolding_all rfl) (by decide) (by rfl) (by decide) (by rfl) ?_)))
local macro_rules | `(tactic| walk_at "SrcT") => `(tactic| (k_here; k_dflt (refine SrcT.ledger (by rfl) (by k_asm) (by k_asm) (by k_mem) (by size_fits) ?_; intro g'; (refine' rest_nat (ks := [1, 2, 4, 8, 16, 32, 64, 128]) (by assumption) (by repeat constructor) (fun k' t' I' oI' C' oC' D' m' ys' h' tk' E' hk' hC' hx' F' N' off' ne' => ?_) ?_); (all_goals (try (simp only [LCg.Off3, and_true] at off'))); (all_goals (try replace hk' := le128 hk')); kcf_last)))
local macro_rules | `(tactic| walk_at "KCfEl") => `(tactic| (with_unfolding_all show _ ∧ _; exact ⟨rfl, _, rfl⟩))
local macro_rules | `(tactic| walk_at "bit") => `(tactic| exact shl_lt (by assumption) (by assumption))
local macro_rules | `(tactic| walk_at "call builtin:_functools.reduce") => `(tactic| (k_here; k_dflt (refine' reduce_tab (dep := 1) ?B ?F ?X ?N ?T ?hk ?hd ?hu ?hl ?h0 ?hv ?h8 ?lam ?done; ((case N => k_asm)); ((case B => k_asm)); ((case F => k_asm)); ((case X => k_asm)); ((case T => k_asm)); ((case hk => first | exact rfl | assumption)); ((case hd => ktr_room)); ((case hu => ktr_units)); ((case hl => k_mem)); ((case h0 => k_mem)); ((case hv => k_asm)); ((case h8 => exact rfl)); ((case lam => walk_at "my lambda"))); intro ry9 ws9 n9 h9 tk9 hI9 F9 N9))
local macro_rules | `(tactic| walk_at "my lambda") => `(tactic| (
  (intro rows rx ws nn x t nw hs hm hI hlen);
  (refine' Ct.of_lamC (dep := 0) (padd := TabIn (addRow rows x)) [("rows", .ref rx), ("row", .int x t)] [("rows", .ref rx)] [("row", .int x t)] ?hfn ?hbind ?hkind ?hnd ?hbl ?hbc ?_ ?c1 ?c2 ?c3);
  (case hfn => (intro h X G; refine' ⟨⟨_, G (_, _) (hs _ ?m1), ?m2⟩, ⟨_, _, _, _, ?m6, G (_, _) (hs _ ?m3), ?m4, ?m5⟩⟩; (case m1 => k_mem); (case m2 => exact rfl); (case m6 => exact rfl); (case m3 => k_mem); (case m4 => assumption); (case m5 => assumption)));
  (case hbind => exact rfl);
  (case hkind => exact rfl);
  (case hnd => decide +kernel);
  (case hbl => exact rfl);
  (case hbc => exact rfl);
  (case c1 => exact rfl);
  (case c2 => exact rfl);
  (case c3 => exact rfl);
  intro dp un gd outer A₀ base g L cells s Q B F X N Y T G hd hu hret;
  (dsimp only [mapL] at F);
  (k_cells Y);
  try simp only [List.cons_append, List.nil_append] at N;
  (have hl : Heap.IsList g rx ws.toArray := ⟨_, G _ hm, rfl, _, rfl⟩);
  (have hw8 := hI.length);
  (rw [List.length_map] at hw8);
  k_steps;
  exact hret _ _ _ _ _ ⟨_, _, _, rfl, .head _, addRow_ints (by assumption)⟩ (by assumption) (by assumption)))
set_option maxHeartbeats 4000000 in
theorem mkTable_ct (rest : Led) (apart : ∀ q ∈ rest, ∀ a ∈ [((240 : Addr), tabObj #[])], q.1 ≠ a.1) (P n : Nat) (t u : Tok) (h0 : 8 ≤ n) (hn : n ≤ 64) :
    Ct prog w p loose mean mg mb 5 (.ref 243) [.int (P : Nat) t, .int (n : Nat) u] ([(240, tabObj #[])] ++ rest) (fun v n' => ∃ l', n' = l' ++ rest ∧ TabRes 240 (tabF P n) v l' ∧ ∀ a ∈ l', ∀ q ∈ rest, q.1 ≠ a.1) := by
  refine' Ct.of_def2C (post := TabRes 240 (tabF P n)) [("poly", .int P t), ("n", .int n u)] [] [("n", .int n u), ("poly", .int P t)] apart ?hfn ?hbind ?hkind ?hnd ?hbl ?hbc ?_ ?c1 ?c2 ?c3
  walk_at "my enterC"
  intro dp un gd outer A₀ base g L cells s Q B F X N Y l1 T G hd hu hret
  dsimp only [mapL] at F
  k_cells Y
  simp only [List.cons_append, List.nil_append] at N
  replace l1 := allLt_of l1
  simp only [AllLt, and_true] at l1
  have C9 : CodeHd g 242 240 := codeHd_of_K X (by kernel_rfl)
  have hg9 : RowIs (rowF P n) := trivial
  k_steps
  rename News _ _ _ _ => N9
  exact hret (.ret _) [(_, _), (240, tabObj _)] _ _ _ ⟨_, _, _, _, rfl, rfl, by assumption⟩ (by assumption) (news_sub N9 (by kcf_all))
local macro_rules | `(tactic| walk_at "call ref") => `(tactic| (k_here; k_dflt (refine' Ct.use (bytecrcr_ct _ _ _ _ _ _ _ ?h0) ?B ?F ?X ?N ?T ?hk ?hd ?hu ?_; (case N => k_asm); walk_at "use"; (case h0 => omega)); intro v9 n9 h9 tk9 hp9 F9 N9; obtain ⟨e1, t9, e2⟩ := hp9; subst e1; subst e2; (try dsimp only); (try k_fold)))
local macro_rules | `(tactic| walk_at "call ref") => `(tactic| (k_here; k_dflt (refine' Ct.use (bitrev_ct _ _ _ _ _ ?h0) ?B ?F ?X ?N ?T ?hk ?hd ?hu ?_; (case N => k_asm); walk_at "use"; (case h0 => omega)); intro v9 n9 h9 tk9 hp9 F9 N9; obtain ⟨e1, t9, e2⟩ := hp9; subst e1; subst e2; (try dsimp only); (try k_fold)))
set_option maxHeartbeats 4000000 in
theorem mkTable_r_ct (rest : Led) (apart : ∀ q ∈ rest, ∀ a ∈ [((245 : Addr), tabObj #[])], q.1 ≠ a.1) (P n : Nat) (t u : Tok) (hn : n ≤ 64) :
    Ct prog w p loose mean mg mb 5 (.ref 248) [.int (P : Nat) t, .int (n : Nat) u] ([(245, tabObj #[])] ++ rest) (fun v n' => ∃ l', n' = l' ++ rest ∧ TabRes 245 (tabR P n) v l' ∧ ∀ a ∈ l', ∀ q ∈ rest, q.1 ≠ a.1) := by
  refine' Ct.of_def2C (post := TabRes 245 (tabR P n)) [("poly", .int P t), ("n", .int n u)] [] [("n", .int n u), ("poly", .int P t)] apart ?hfn ?hbind ?hkind ?hnd ?hbl ?hbc ?_ ?c1 ?c2 ?c3
  walk_at "my enterC"
  intro dp un gd outer A₀ base g L cells s Q B F X N Y l1 T G hd hu hret
  dsimp only [mapL] at F
  k_cells Y
  simp only [List.cons_append, List.nil_append] at N
  replace l1 := allLt_of l1
  simp only [AllLt, and_true] at l1
  have C9 : CodeHd g 247 245 := codeHd_of_K X (by kernel_rfl)
  have hg9 : RowIs (rowR P n) := trivial
  k_steps
  rename News _ _ _ _ => N9
  exact hret (.ret _) [(_, _), (245, tabObj _)] _ _ _ ⟨_, _, _, _, rfl, rfl, by assumption⟩ (by assumption) (news_sub N9 (by kcf_all))
end
section
example : True := by
  k_with_none
  w_top off
  trivial
local macro_rules | `(tactic| walk_at "my enterK") => `(tactic| (
  (case hfn => (intro h X _; refine' FnIs.of_K X ?ho ?hcd; (case ho => k_is); (case hcd => k_is))); (case hbind => (intro s X _; exact BindsTo.of_eq rfl)); (case hloc => exact locs rfl); (case c1 => exact rfl); (case c2 => exact rfl); (case c3 => exact rfl); (case c4 => decide)))
local macro_rules | `(tactic| walk_at "my enterC") => `(tactic| (
  (case hfn => (intro h X _; refine' FnIs.of_K X ?ho ?hcd; (case ho => k_is); (case hcd => k_is))); (case hbind => (intro s X _; exact BindsTo.of_eq rfl)); (case hkind => exact rfl); (case hnd => decide +kernel); (case hbl => exact rfl); (case hbc => exact rfl); (case c1 => exact rfl); (case c2 => exact rfl); (case c3 => exact rfl)))
-- lines of our own for the walk
local macro_rules | `(tactic| walk_at "my enter") => `(tactic| (
  (case hcd => k_is); (case hbind => (intro s X; exact BindsTo.of_eq rfl)); (case hloc => exact locs rfl); (case c1 => exact rfl); (case c2 => exact rfl); (case c3 => exact rfl); (case c4 => decide)))
local macro_rules | `(tactic| walk_at "nat") => `(tactic| first | with_reducible rfl | with_reducible exact lit_nat _ | with_reducible exact mul8_nat _ | with_reducible exact shl1_nat _ | with_reducible exact sub1_nat (by omega) | with_reducible exact sub8_nat (by omega) | with_reducible exact zadd_nat (by with_reducible assumption) | with_reducible assumption | with_reducible exact (Int.toNat_of_nonneg (by with_reducible assumption)).symm | assumption | rfl | exact (Int.toNat_of_nonneg (by omega)).symm)
local macro_rules | `(tactic| walk_at "small") => `(tactic| first | assumption | exact Nat.lt_of_le_of_lt (by assumption) lt_128 | exact Nat.lt_of_lt_of_le (by assumption) (Nat.pow_le_pow_right (by decide) (by decide)) | exact Nat.lt_of_lt_of_le (Nat.xor_lt_two_pow (by assumption) (by assumption)) (Nat.pow_le_pow_right (by decide) (by decide)) | exact be_small (arrN_lt _) (by rw [arrN_length]; omega) | exact lt_big (k := 8) (by decide) (by decide) | exact lt_big (revN_lt _ _) (by omega) | exact lt_big (itF_lt (by assumption) (by assumption) (by assumption) _) (by omega))
local macro_rules | `(tactic| walk_at "binaryOp BitAnd int int") => `(tactic| (k_here; k_dflt (refine' andN ?k1 ?k2 ?_; (case k1 => walk_at "nat"); (case k2 => walk_at "nat"); k_whole); intro t9 k9; (try dsimp only)))
local macro_rules | `(tactic| walk_at "binaryOp BitOr int int") => `(tactic| (k_here; k_dflt (refine' orN ?k1 ?k2 ?_; (case k1 => walk_at "nat"); (case k2 => walk_at "nat"); k_whole); intro t9 k9; (try dsimp only)))
local macro_rules | `(tactic| walk_at "binaryOp BitXor int int") => `(tactic| (k_here; k_dflt (refine' xorN ?k1 ?k2 ?_; (case k1 => walk_at "nat"); (case k2 => walk_at "nat"); k_whole); intro t9 k9; (try dsimp only)))
local macro_rules | `(tactic| walk_at "binaryOp RShift int int") => `(tactic| (k_here; k_dflt (refine' shrN ?k1 ?k2 ?_; (case k1 => walk_at "nat"); (case k2 => walk_at "nat"); k_whole); intro t9 k9; (try dsimp only)))
local macro_rules | `(tactic| walk_at "binaryOp LShift int int") => `(tactic| (k_here; k_dflt (refine' shlN ?k1 ?k2 ?k3 ?k4 ?_; (case k1 => walk_at "nat"); (case k2 => walk_at "nat"); (case k3 => walk_at "small"); (case k4 => first | decide | omega); k_whole); intro t9 k9; (try dsimp only)))
local macro_rules | `(tactic| k_mem) => `(tactic| first
  | ((with_reducible show List.Mem (_ : Addr × Obj) (_ ++ _)); exact List.mem_append_left _ (by k_mem))
  | ((with_reducible show (_ : Addr × Obj) ∈ (_ ++ _ : List (Addr × Obj))); exact List.mem_append_left _ (by k_mem))
  | ((with_reducible show List.Mem (_ : Addr × Obj) _); (fail_if_success (with_reducible show List.Mem _ (_ :: _))); assumption)
  | ((with_reducible show (_ : Addr × Obj) ∈ _); (fail_if_success (with_reducible show _ ∈ (_ :: _))); assumption))
local macro_rules | `(tactic| walk_at "getMethod bytes") => `(tactic| (k_here; (with_reducible refine method_join ?_)))
local macro_rules | `(tactic| walk_at "call builtin:bytes.join") => `(tactic| (k_here; k_dflt (refine' join_one (News.get ?k1 ?k2) ?k3 ?k4 ?_; (case k1 => k_asm); (case k2 => k_mem); (case k3 => exact rfl); (case k4 => exact rfl))))
local macro_rules | `(tactic| walk_at "use") => `(tactic| ((case B => k_asm); (case F => k_asm); (case X => k_asm); (case T => k_asm); (case hk => first | exact rfl | assumption); (case hd => ktr_room); (case hu => ktr_units)))
local macro_rules | `(tactic| walk_at "idx") => `(tactic| (refine Nat.lt_of_lt_of_le (Nat.xor_lt_two_pow (n := 8) (by omega) (Nat.lt_of_le_of_lt Nat.and_le_right (by decide))) (by omega)))
local macro_rules | `(tactic| walk_at "subscriptTail Name BinOp ref int") => `(tactic| (k_here; k_dflt (refine' tab_item ?F ?l ?v ?k ?i ?f ?_ ?s ?g; (case F => k_asm); (case l => assumption); (case v => k_asm); (case k => with_reducible rfl); (case s => with_unfolding_all rfl); (case g => (intro _; with_unfolding_all rfl)); (case i => walk_at "idx"); (case f => omega)); intro t9))
local macro_rules | `(tactic| walk_at "binaryOp Mod int int") => `(tactic| (k_here; k_dflt (refine' modN ?k1 ?k2 ?k3 ?_; (case k1 => walk_at "nat"); (case k2 => walk_at "nat"); (case k3 => first | decide | omega); k_whole); intro t9 k9; (try dsimp only)))
local macro_rules | `(tactic| walk_at "call ref") => `(tactic| (k_here; (with_reducible show wpAny _ _ (call (Value.ref _) [Value.bytes _ _, Value.str _ _]) _ _ _); kfb_any; k_dflt (first
  | (refine fb_call_big (by k_asm) (by k_mem) (by omega) ?_)
  | (refine fb_call_little (by k_asm) (by k_mem) (by omega) ?_)); intro _ _))
local macro_rules | `(tactic| walk_at "UnrEndW") => `(tactic| k_dflt ktu_end)
local macro_rules | `(tactic| walk_at "pyIter bytes") => `(tactic| k_dflt (kstb_has; k_extra "pyIter bytes"))
local macro_rules | `(tactic| walk_at "InvEndN") => `(tactic| k_dflt kst_close)
local macro_rules | `(tactic| walk_at "subscriptTail Name Constant ref int") => `(tactic| (k_here; (with_reducible show wpAny _ _ (subscriptTail _ _ (Value.ref _) (Value.int _ _)) _ _ _); kri_at))
local macro_rules | `(tactic| walk_at "call ref") => `(tactic| (k_here; k_dflt (refine' Ct.use (view_ct _ _ _) ?B ?F ?X ?N ?T ?hk ?hd ?hu ?_; (case N => k_asm); walk_at "use"); intro v9 n9 h9 tk9 hp9 F9 N9; obtain ⟨x9, dx9, t9, m9, e1, e2, l1, l2⟩ := hp9; subst e1; subst e2; (try k_lt2 l2); (try dsimp only); (try k_fold)))
local macro_rules | `(tactic| walk_at "call ref") => `(tactic| (k_here; k_dflt (refine' Ct.use (tobytes_ct _ _ _ ?m1 ?m2) ?B ?F ?X ?N ?T ?hk ?hd ?hu ?_; (case N => k_asm); (case m1 => k_mem); (case m2 => k_mem); walk_at "use"); intro v9 n9 h9 tk9 hp9 F9 N9; obtain ⟨e1, e2⟩ := hp9; subst e1; subst e2; (try dsimp only); (try k_fold)))
local macro_rules | `(tactic| walk_at "call ref") => `(tactic| (k_here; k_dflt (refine' Ct.use (poly_ct _ _ _ _ ?h0 ?h1 ?h2) ?B ?F ?X ?N ?T ?hk ?hd ?hu ?_; (case N => k_asm); walk_at "use"; (case h0 => assumption); (case h1 => assumption); (case h2 => assumption)); intro v9 n9 h9 tk9 hp9 F9 N9; obtain ⟨add9, e1, ⟨⟨t9, e2⟩, e3⟩, _⟩ := hp9; subst e3; subst e1; subst e2; (try dsimp only); (try k_fold)))
variable {prog : Program} {w : World} {p : Program} {loose : List Str} {mean : ExcName → Option Value} {mg mb : Str → Option Value}
-- lines that serve no key: each section bears another number of lines
local macro_rules | `(tactic| walk_at "none") => `(tactic| fail)
local macro_rules | `(tactic| walk_at "none") => `(tactic| fail)
local macro_rules | `(tactic| walk_at "none") => `(tactic| fail)
local macro_rules | `(tactic| walk_at "none") => `(tactic| fail)
local macro_rules | `(tactic| walk_at "none") => `(tactic| fail)
local macro_rules | `(tactic| walk_at "none") => `(tactic| fail)
local macro_rules | `(tactic| walk_at "none") => `(tactic| fail)
local macro_rules | `(tactic| walk_at "none") => `(tactic| fail)
local macro_rules | `(tactic| walk_at "none") => `(tactic| fail)
local macro_rules | `(tactic| walk_at "none") => `(tactic| fail)
local macro_rules | `(tactic| walk_at "none") => `(tactic| fail)
local macro_rules | `(tactic| walk_at "none") => `(tactic| fail)
local macro_rules | `(tactic| walk_at "none") => `(tactic| fail)
local macro_rules | `(tactic| walk_at "none") => `(tactic| fail)
local macro_rules | `(tactic| walk_at "none") => `(tactic| fail)
local macro_rules | `(tactic| walk_at "none") => `(tactic| fail)
local macro_rules | `(tactic| walk_at "none") => `(tactic| fail)
local macro_rules | `(tactic| walk_at "none") => `(tactic| fail)
local macro_rules | `(tactic| walk_at "none") => `(tactic| fail)
local macro_rules | `(tactic| walk_at "none") => `(tactic| fail)
local macro_rules | `(tactic| walk_at "none") => `(tactic| fail)
local macro_rules | `(tactic| walk_at "none") => `(tactic| fail)
local macro_rules | `(tactic| walk_at "none") => `(tactic| fail)
local macro_rules | `(tactic| walk_at "none") => `(tactic| fail)
local macro_rules | `(tactic| walk_at "none") => `(tactic| fail)
local macro_rules | `(tactic| walk_at "none") => `(tactic| fail)
local macro_rules | `(tactic| walk_at "none") => `(tactic| fail)
local macro_rules | `(tactic| walk_at "none") => `(tactic| fail)
local macro_rules | `(tactic| walk_at "none") => `(tactic| fail)
local macro_rules | `(tactic| walk_at "none") => `(tactic| fail)
local macro_rules | `(tactic| walk_at "none") => `(tactic| fail)
local macro_rules | `(tactic| walk_at "none") => `(tactic| fail)
local macro_rules | `(tactic| walk_at "none") => `(tactic| fail)
local macro_rules | `(tactic| walk_at "none") => `(tactic| fail)
local macro_rules | `(tactic| walk_at "none") => `(tactic| fail)
local macro_rules | `(tactic| walk_at "none") => `(tactic| fail)
local macro_rules | `(tactic| walk_at "none") => `(tactic| fail)
local macro_rules | `(tactic| walk_at "none") => `(tactic| fail)
local macro_rules | `(tactic| walk_at "none") => `(tactic| fail)
local macro_rules | `(tactic| walk_at "none") => `(tactic| fail)
local macro_rules | `(tactic| walk_at "none") => `(tactic| fail)
local macro_rules | `(tactic| walk_at "none") => `(tactic| fail)
local macro_rules | `(tactic| walk_at "none") => `(tactic| fail)
local macro_rules | `(tactic| walk_at "none") => `(tactic| fail)
local macro_rules | `(tactic| walk_at "none") => `(tactic| fail)
local macro_rules | `(tactic| walk_at "none") => `(tactic| fail)
local macro_rules | `(tactic| walk_at "none") => `(tactic| fail)
local macro_rules | `(tactic| walk_at "none") => `(tactic| fail)
local macro_rules | `(tactic| walk_at "none") => `(tactic| fail)
local macro_rules | `(tactic| walk_at "none") => `(tactic| fail)
local macro_rules | `(tactic| walk_at "none") => `(tactic| fail)
local macro_rules | `(tactic| walk_at "none") => `(tactic| fail)
local macro_rules | `(tactic| walk_at "none") => `(tactic| fail)
local macro_rules | `(tactic| walk_at "none") => `(tactic| fail)
theorem crc_any_ct (n : Nat) (rev : Bool) (hn : isSize n) (news : Led) (tb : Addr) (vs : List Value) (tab : List Nat) (nn : Nat) (hv : IntsAre vs (tab.map Int.ofNat)) (hl : tab.length = 256) (ht : ∀ x ∈ tab, x < 2 ^ n) (b : Array UInt8) (c : Nat) (t u : Tok) (hc : c < 2 ^ n) :
    CtK prog w p loose mean mg mb 5 [(tb, listOf vs.toArray nn)] (.ref (fnAddr n rev)) [.bytes b t, .int (c : Nat) u, .ref tb] news (fun v n' => n' = news ∧ ∃ t, v = .int ((crcOf n rev tab c (arrN b) : Nat) : Int) t) := by
  have go : ∀ {P : Prop} {n' : Led} {v : Value} {x y : Nat}, x = y → (n' = news ∧ ∃ t, v = .int (x : Int) t) → (n' = news ∧ ∃ t, v = .int (y : Int) t) := fun e h => e ▸ h
  have conv : ∀ {dep f} {x y : Nat}, x = y → CtK prog w p loose mean mg mb dep [(tb, listOf vs.toArray nn)] f [.bytes b t, .int (c : Nat) u, .ref tb] news (fun v n' => n' = news ∧ ∃ t, v = .int (x : Int) t) → CtK prog w p loose mean mg mb dep [(tb, listOf vs.toArray nn)] f [.bytes b t, .int (c : Nat) u, .ref tb] news (fun v n' => n' = news ∧ ∃ t, v = .int (y : Int) t) := fun e h => e ▸ h
  rcases hn with rfl | rfl | rfl | rfl | rfl <;> cases rev
  · exact conv (by rw [octs_arr, and_255 hc]; exact fold8 ht _ _ hc) (crc8f_ct news tb vs tab nn hv hl ht b c t u)
  · exact conv (by rw [octs_arr, and_255 hc]; exact fold8 ht _ _ hc) (crc8r_ct news tb vs tab nn hv hl ht b c t u)
  · exact conv (by rw [octs_arr, show (65535 : Nat) = 2 ^ 16 - 1 from rfl, and_mask hc]; rfl) (crc16f_ct news tb vs tab nn hv hl ht b c t u)
  · exact conv (by rw [octs_arr, show (65535 : Nat) = 2 ^ 16 - 1 from rfl, and_mask hc]; rfl) (crc16r_ct news tb vs tab nn hv hl ht b c t u)
  · exact conv (by rw [octs_arr, show (16777215 : Nat) = 2 ^ 24 - 1 from rfl, and_mask hc]; rfl) (crc24f_ct news tb vs tab nn hv hl ht b c t u)
  · exact conv (by rw [octs_arr, show (16777215 : Nat) = 2 ^ 24 - 1 from rfl, and_mask hc]; rfl) (crc24r_ct news tb vs tab nn hv hl ht b c t u)
  · exact conv (by rw [octs_arr, show (4294967295 : Nat) = 2 ^ 32 - 1 from rfl, and_mask hc]; rfl) (crc32f_ct news tb vs tab nn hv hl ht b c t u)
  · exact conv (by rw [octs_arr, show (4294967295 : Nat) = 2 ^ 32 - 1 from rfl, and_mask hc]; rfl) (crc32r_ct news tb vs tab nn hv hl ht b c t u)
  · exact conv (by rw [octs_arr, show (18446744073709551615 : Nat) = 2 ^ 64 - 1 from rfl, and_mask hc]; rfl) (crc64f_ct news tb vs tab nn hv hl ht b c t u)
  · exact conv (by rw [octs_arr, show (18446744073709551615 : Nat) = 2 ^ 64 - 1 from rfl, and_mask hc]; rfl) (crc64r_ct news tb vs tab nn hv hl ht b c t u)
set_option maxHeartbeats 4000000 in
theorem params_ct (news : Led) (P n start last : Nat) (t u v : Tok) (hn : isSize n) (h1 : 2 ^ n ≤ P) (h2 : P < 2 ^ (n + 1)) (hs : start < 2 ^ n) (he : last < 2 ^ n) :
    Ct prog w p loose mean mg mb 2 (.ref 261) [.int (P : Nat) t, .int (start : Nat) u, .int (last : Nat) v] news (fun r n' => ∃ add, n' = add ++ news ∧ (∃ x t u v, r = .ref x ∧ add = [(x, ({ cls := .type "tuple", data := .seq #[.int (n : Nat) t, .int (start : Nat) u, .int (last : Nat) v] } : Obj))]) ∧ ∀ a ∈ add, ∀ q ∈ news, q.1 ≠ a.1) := by
  refine' Ct.of_pure (padd := fun r add => ∃ x t u v, r = .ref x ∧ add = [(x, ({ cls := .type "tuple", data := .seq #[.int (n : Nat) t, .int (start : Nat) u, .int (last : Nat) v] } : Obj))]) [("xorOut", .int last v), ("initCrc", .int start u), ("poly", .int P t)] ?ho ?hcd ?hbind ?hloc ?_ ?c1 ?c2 ?c3 ?c4
  case ho => k_is
  walk_at "my enter"
  intro dp un gd outer A₀ base g L s Q B F X N T G hd hu hret
  dsimp only [mapL] at F
  have h8 := hn.lo
  have h64 := hn.hi
  k_steps
  rename News _ _ _ _ => N9
  rw [and_mask hs, and_mask he] at N9
  exact hret (.ret _) _ _ _ _ ⟨_, _, _, _, rfl, rfl⟩ (by assumption) N9
end
section
example : True := by
  k_with_none
  w_top off
  trivial
local macro_rules | `(tactic| walk_at "my enterK") => `(tactic| (
  (case hfn => (intro h X _; refine' FnIs.of_K X ?ho ?hcd; (case ho => k_is); (case hcd => k_is))); (case hbind => (intro s X _; exact BindsTo.of_eq rfl)); (case hloc => exact locs rfl); (case c1 => exact rfl); (case c2 => exact rfl); (case c3 => exact rfl); (case c4 => decide)))
local macro_rules | `(tactic| walk_at "my enterC") => `(tactic| (
  (case hfn => (intro h X _; refine' FnIs.of_K X ?ho ?hcd; (case ho => k_is); (case hcd => k_is))); (case hbind => (intro s X _; exact BindsTo.of_eq rfl)); (case hkind => exact rfl); (case hnd => decide +kernel); (case hbl => exact rfl); (case hbc => exact rfl); (case c1 => exact rfl); (case c2 => exact rfl); (case c3 => exact rfl)))
-- lines of our own for the walk
local macro_rules | `(tactic| walk_at "my enter") => `(tactic| (
  (case hcd => k_is); (case hbind => (intro s X; exact BindsTo.of_eq rfl)); (case hloc => exact locs rfl); (case c1 => exact rfl); (case c2 => exact rfl); (case c3 => exact rfl); (case c4 => decide)))
local macro_rules | `(tactic| walk_at "nat") => `(tactic| first | with_reducible rfl | with_reducible exact lit_nat _ | with_reducible exact mul8_nat _ | with_reducible exact shl1_nat _ | with_reducible exact sub1_nat (by omega) | with_reducible exact sub8_nat (by omega) | with_reducible exact zadd_nat (by with_reducible assumption) | with_reducible assumption | with_reducible exact (Int.toNat_of_nonneg (by with_reducible assumption)).symm | assumption | rfl | exact (Int.toNat_of_nonneg (by omega)).symm)
local macro_rules | `(tactic| walk_at "small") => `(tactic| first | assumption | exact Nat.lt_of_le_of_lt (by assumption) lt_128 | exact Nat.lt_of_lt_of_le (by assumption) (Nat.pow_le_pow_right (by decide) (by decide)) | exact Nat.lt_of_lt_of_le (Nat.xor_lt_two_pow (by assumption) (by assumption)) (Nat.pow_le_pow_right (by decide) (by decide)) | exact be_small (arrN_lt _) (by rw [arrN_length]; omega) | exact lt_big (k := 8) (by decide) (by decide) | exact lt_big (revN_lt _ _) (by omega) | exact lt_big (itF_lt (by assumption) (by assumption) (by assumption) _) (by omega))
local macro_rules | `(tactic| walk_at "binaryOp BitAnd int int") => `(tactic| (k_here; k_dflt (refine' andN ?k1 ?k2 ?_; (case k1 => walk_at "nat"); (case k2 => walk_at "nat"); k_whole); intro t9 k9; (try dsimp only)))
local macro_rules | `(tactic| walk_at "binaryOp BitOr int int") => `(tactic| (k_here; k_dflt (refine' orN ?k1 ?k2 ?_; (case k1 => walk_at "nat"); (case k2 => walk_at "nat"); k_whole); intro t9 k9; (try dsimp only)))
local macro_rules | `(tactic| walk_at "binaryOp BitXor int int") => `(tactic| (k_here; k_dflt (refine' xorN ?k1 ?k2 ?_; (case k1 => walk_at "nat"); (case k2 => walk_at "nat"); k_whole); intro t9 k9; (try dsimp only)))
local macro_rules | `(tactic| walk_at "binaryOp RShift int int") => `(tactic| (k_here; k_dflt (refine' shrN ?k1 ?k2 ?_; (case k1 => walk_at "nat"); (case k2 => walk_at "nat"); k_whole); intro t9 k9; (try dsimp only)))
local macro_rules | `(tactic| walk_at "binaryOp LShift int int") => `(tactic| (k_here; k_dflt (refine' shlN ?k1 ?k2 ?k3 ?k4 ?_; (case k1 => walk_at "nat"); (case k2 => walk_at "nat"); (case k3 => walk_at "small"); (case k4 => first | decide | omega); k_whole); intro t9 k9; (try dsimp only)))
local macro_rules | `(tactic| k_mem) => `(tactic| first
  | ((with_reducible show List.Mem (_ : Addr × Obj) (_ ++ _)); exact List.mem_append_left _ (by k_mem))
  | ((with_reducible show (_ : Addr × Obj) ∈ (_ ++ _ : List (Addr × Obj))); exact List.mem_append_left _ (by k_mem))
  | ((with_reducible show List.Mem (_ : Addr × Obj) _); (fail_if_success (with_reducible show List.Mem _ (_ :: _))); assumption)
  | ((with_reducible show (_ : Addr × Obj) ∈ _); (fail_if_success (with_reducible show _ ∈ (_ :: _))); assumption))
local macro_rules | `(tactic| walk_at "getMethod bytes") => `(tactic| (k_here; (with_reducible refine method_join ?_)))
local macro_rules | `(tactic| walk_at "call builtin:bytes.join") => `(tactic| (k_here; k_dflt (refine' join_one (News.get ?k1 ?k2) ?k3 ?k4 ?_; (case k1 => k_asm); (case k2 => k_mem); (case k3 => exact rfl); (case k4 => exact rfl))))
local macro_rules | `(tactic| walk_at "use") => `(tactic| ((case B => k_asm); (case F => k_asm); (case X => k_asm); (case T => k_asm); (case hk => first | exact rfl | assumption); (case hd => ktr_room); (case hu => ktr_units)))
local macro_rules | `(tactic| walk_at "idx") => `(tactic| (refine Nat.lt_of_lt_of_le (Nat.xor_lt_two_pow (n := 8) (by omega) (Nat.lt_of_le_of_lt Nat.and_le_right (by decide))) (by omega)))
local macro_rules | `(tactic| walk_at "subscriptTail Name BinOp ref int") => `(tactic| (k_here; k_dflt (refine' tab_item ?F ?l ?v ?k ?i ?f ?_ ?s ?g; (case F => k_asm); (case l => assumption); (case v => k_asm); (case k => with_reducible rfl); (case s => with_unfolding_all rfl); (case g => (intro _; with_unfolding_all rfl)); (case i => walk_at "idx"); (case f => omega)); intro t9))
local macro_rules | `(tactic| walk_at "binaryOp Mod int int") => `(tactic| (k_here; k_dflt (refine' modN ?k1 ?k2 ?k3 ?_; (case k1 => walk_at "nat"); (case k2 => walk_at "nat"); (case k3 => first | decide | omega); k_whole); intro t9 k9; (try dsimp only)))
local macro_rules | `(tactic| walk_at "call ref") => `(tactic| (k_here; (with_reducible show wpAny _ _ (call (Value.ref _) [Value.bytes _ _, Value.str _ _]) _ _ _); kfb_any; k_dflt (first
  | (refine fb_call_big (by k_asm) (by k_mem) (by omega) ?_)
  | (refine fb_call_little (by k_asm) (by k_mem) (by omega) ?_)); intro _ _))
local macro_rules | `(tactic| walk_at "UnrEndW") => `(tactic| k_dflt ktu_end)
local macro_rules | `(tactic| walk_at "pyIter bytes") => `(tactic| k_dflt (kstb_has; k_extra "pyIter bytes"))
local macro_rules | `(tactic| walk_at "InvEndN") => `(tactic| k_dflt kst_close)
local macro_rules | `(tactic| walk_at "subscriptTail Name Constant ref int") => `(tactic| (k_here; (with_reducible show wpAny _ _ (subscriptTail _ _ (Value.ref _) (Value.int _ _)) _ _ _); kri_at))
variable {prog : Program} {w : World} {p : Program} {loose : List Str} {mean : ExcName → Option Value} {mg mb : Str → Option Value}
-- lines that serve no key: each section bears another number of lines
local macro_rules | `(tactic| walk_at "none") => `(tactic| fail)
local macro_rules | `(tactic| walk_at "none") => `(tactic| fail)
local macro_rules | `(tactic| walk_at "none") => `(tactic| fail)
local macro_rules | `(tactic| walk_at "none") => `(tactic| fail)
local macro_rules | `(tactic| walk_at "none") => `(tactic| fail)
local macro_rules | `(tactic| walk_at "none") => `(tactic| fail)
local macro_rules | `(tactic| walk_at "none") => `(tactic| fail)
local macro_rules | `(tactic| walk_at "none") => `(tactic| fail)
local macro_rules | `(tactic| walk_at "none") => `(tactic| fail)
local macro_rules | `(tactic| walk_at "none") => `(tactic| fail)
local macro_rules | `(tactic| walk_at "none") => `(tactic| fail)
local macro_rules | `(tactic| walk_at "none") => `(tactic| fail)
local macro_rules | `(tactic| walk_at "none") => `(tactic| fail)
local macro_rules | `(tactic| walk_at "none") => `(tactic| fail)
local macro_rules | `(tactic| walk_at "none") => `(tactic| fail)
local macro_rules | `(tactic| walk_at "none") => `(tactic| fail)
local macro_rules | `(tactic| walk_at "none") => `(tactic| fail)
local macro_rules | `(tactic| walk_at "none") => `(tactic| fail)
local macro_rules | `(tactic| walk_at "none") => `(tactic| fail)
local macro_rules | `(tactic| walk_at "none") => `(tactic| fail)
local macro_rules | `(tactic| walk_at "none") => `(tactic| fail)
local macro_rules | `(tactic| walk_at "none") => `(tactic| fail)
local macro_rules | `(tactic| walk_at "none") => `(tactic| fail)
local macro_rules | `(tactic| walk_at "none") => `(tactic| fail)
local macro_rules | `(tactic| walk_at "none") => `(tactic| fail)
local macro_rules | `(tactic| walk_at "none") => `(tactic| fail)
local macro_rules | `(tactic| walk_at "none") => `(tactic| fail)
local macro_rules | `(tactic| walk_at "none") => `(tactic| fail)
local macro_rules | `(tactic| walk_at "none") => `(tactic| fail)
local macro_rules | `(tactic| walk_at "none") => `(tactic| fail)
local macro_rules | `(tactic| walk_at "none") => `(tactic| fail)
local macro_rules | `(tactic| walk_at "none") => `(tactic| fail)
local macro_rules | `(tactic| walk_at "none") => `(tactic| fail)
local macro_rules | `(tactic| walk_at "none") => `(tactic| fail)
local macro_rules | `(tactic| walk_at "none") => `(tactic| fail)
local macro_rules | `(tactic| walk_at "none") => `(tactic| fail)
local macro_rules | `(tactic| walk_at "none") => `(tactic| fail)
local macro_rules | `(tactic| walk_at "none") => `(tactic| fail)
local macro_rules | `(tactic| walk_at "none") => `(tactic| fail)
local macro_rules | `(tactic| walk_at "none") => `(tactic| fail)
local macro_rules | `(tactic| walk_at "none") => `(tactic| fail)
local macro_rules | `(tactic| walk_at "none") => `(tactic| fail)
local macro_rules | `(tactic| walk_at "none") => `(tactic| fail)
local macro_rules | `(tactic| walk_at "none") => `(tactic| fail)
local macro_rules | `(tactic| walk_at "none") => `(tactic| fail)
local macro_rules | `(tactic| walk_at "none") => `(tactic| fail)
local macro_rules | `(tactic| walk_at "none") => `(tactic| fail)
local macro_rules | `(tactic| walk_at "none") => `(tactic| fail)
local macro_rules | `(tactic| walk_at "none") => `(tactic| fail)
local macro_rules | `(tactic| walk_at "none") => `(tactic| fail)
local macro_rules | `(tactic| walk_at "none") => `(tactic| fail)
local macro_rules | `(tactic| walk_at "none") => `(tactic| fail)
local macro_rules | `(tactic| walk_at "none") => `(tactic| fail)
local macro_rules | `(tactic| walk_at "none") => `(tactic| fail)
local macro_rules | `(tactic| walk_at "none") => `(tactic| fail)
local macro_rules | `(tactic| walk_at "none") => `(tactic| fail)
local macro_rules | `(tactic| walk_at "none") => `(tactic| fail)
local macro_rules | `(tactic| walk_at "none") => `(tactic| fail)
abbrev tabs0 : Led := [(240, tabObj #[]), (245, tabObj #[]), (263, tabObj #[])]
theorem cut_val {M : Model} {A : Around} {E Q : Value → Shared → Prop} {s : Shared} {x : Sem Value} {v0 : Value} (h : wpAny M A x (fun v s' => v = v0 ∧ ∃ k, s' = { s with toks := k }) (fun _ _ => False) s) (hQ : ∀ k, Q v0 { s with toks := k }) : wpAny M A x Q E s :=
  wpAny_mono h (fun _ _ q => by obtain ⟨e, k, e'⟩ := q; subst e; subst e'; exact hQ k) fun _ _ q => q.elim
def listAddr (n : Nat) : Addr := match n with
  | 8 => 250 | 16 => 251 | 24 => 252 | 32 => 253 | _ => 254
section
variable {dp un : Nat} {gd : Option (List Code)} {cn : Str} {cs : Scope} {a : Addr} {ccd : Value} {cl : List (Str × Addr)} {outer : List Env} {A₀ : Around} {base h₀ : Heap} {L : Addr} {m : Str → Option Value} {news : Led} {s : Shared} {n : Nat} {u : Tok} {x y : Str} {p1 p2 : Pos}
theorem sizeD (X : (Mine.hd.heap_39 w.params).In h₀) (hk : ∀ b o, h₀.get? b = some o → s.heap.get? b = some o) : s.heap.DictOf (PySem.intKind prog w) 249 [(8, .ref 250), (16, .ref 251), (24, .ref 252), (32, .ref 253), (64, .ref 254)] := by
  refine ⟨_, _, _, hk _ _ (X 249 (dictOf [⟨8, .int 8 599, .ref 250⟩, ⟨16, .int 16 600, .ref 251⟩, ⟨24, .int 24 601, .ref 252⟩, ⟨32, .int 32 602, .ref 253⟩, ⟨64, .int 64 603, .ref 254⟩] 5) (by kernel_rfl)), ⟨rfl, rfl, rfl⟩, rfl, ?_, ?_, ?_⟩
  · intro e he
    simp only [List.mem_toArray, List.mem_cons, List.not_mem_nil, or_false] at he
    rcases he with h | h | h | h | h <;> subst h <;> exact ⟨_, intKind_is _ _ _ _, rfl⟩
  · exact .cons (intKind_is _ _ _ _) rfl (.cons (intKind_is _ _ _ _) rfl (.cons (intKind_is _ _ _ _) rfl (.cons (intKind_is _ _ _ _) rfl (.cons (intKind_is _ _ _ _) rfl .nil))))
  · decide
theorem sizeA {value slice : PySem.Expr} {E Q : Value → Shared → Prop} (hn : isSize n) (X : (Mine.hd.heap_39 w.params).In h₀) (F : Fr h₀ L s.heap m) (h : ∀ k, Q (.ref (listAddr n)) { s with toks := k })
    (hs : subscripted slice false (.ref 249) (.int (n : Nat) u) = operate [.ref 249, .int (n : Nat) u] (getItem (.ref 249) (.int (n : Nat) u)) := by with_unfolding_all rfl) (hg : ∀ r, letTemporaryGo value (.ref 249) r = pure () := by intro _; with_unfolding_all rfl) :
    wpAny (model prog w) A₀ (subscriptTail value slice (.ref 249) (.int (n : Nat) u)) Q E s := by
  have hD := sizeD (prog := prog) X F.keep
  have hv : valueAt [((8 : Int), Value.ref 250), (16, .ref 251), (24, .ref 252), (32, .ref 253), (64, .ref 254)] (n : Int) = some (.ref (listAddr n)) := by
    unfold isSize at hn
    rcases hn with h | h | h | h | h <;> subst h <;> decide
  exact subscriptTail_builtin hD.typeIs slot_dict_getitem.lookup (wpAny_getItem_of (intKind_is _ _ _ _) hD.mapOf hv (h _)) hs hg
theorem sizeB {value slice : PySem.Expr} {E Q : Value → Shared → Prop} {rev : Bool} {k : Int} (hr : k = if rev then 1 else 0) (hn : isSize n) (X : (Mine.hd.heap_39 w.params).In h₀) (F : Fr h₀ L s.heap m) (h : Q (.ref (fnAddr n rev)) s)
    (hs : subscripted slice false (.ref (listAddr n)) (.int k u) = operate [.ref (listAddr n), .int k u] (getItem (.ref (listAddr n)) (.int k u)) := by with_unfolding_all rfl) :
    wpAny (model prog w) A₀ (subscriptTail value slice (.ref (listAddr n)) (.int k u)) Q E s := by
  have hl : s.heap.IsList (listAddr n) [Value.ref (fnAddr n false), .ref (fnAddr n true)].toArray := by
    unfold isSize at hn
    rcases hn with h | h | h | h | h <;> subst h
    · exact ⟨_, F.keep _ _ (X 250 (listOf #[.ref 74, .ref 81] 0) (by kernel_rfl)), rfl, _, rfl⟩
    · exact ⟨_, F.keep _ _ (X 251 (listOf #[.ref 88, .ref 95] 0) (by kernel_rfl)), rfl, _, rfl⟩
    · exact ⟨_, F.keep _ _ (X 252 (listOf #[.ref 102, .ref 109] 0) (by kernel_rfl)), rfl, _, rfl⟩
    · exact ⟨_, F.keep _ _ (X 253 (listOf #[.ref 116, .ref 123] 0) (by kernel_rfl)), rfl, _, rfl⟩
    · exact ⟨_, F.keep _ _ (X 254 (listOf #[.ref 130, .ref 137] 0) (by kernel_rfl)), rfl, _, rfl⟩
  subst hr
  cases rev
  · exact item_litK hl (by decide) (by decide) rfl h hs
  · exact item_litK hl (by decide) (by decide) rfl h hs
end
local macro_rules | `(tactic| walk_at "subscriptTail") => `(tactic| (k_here; (with_reducible show wpAny _ _ (subscriptTail _ _ (Value.ref 249) (Value.int _ _)) _ _ _); k_dflt (refine' sizeA ?k1 ?k2 ?k3 ?_ ?k4 ?k5; (case k1 => assumption); (case k2 => k_asm); (case k3 => k_asm); (case k4 => with_unfolding_all rfl); (case k5 => (intro _; with_unfolding_all rfl))); intro k9; (try dsimp only)))
local macro_rules | `(tactic| walk_at "subscriptTail") => `(tactic| (k_here; (with_reducible show wpAny _ _ (subscriptTail _ _ (Value.ref (listAddr _)) (Value.int _ _)) _ _ _); k_dflt (first | (refine' sizeB (rev := true) ?k0 ?k1 ?k2 ?k3 ?_ ?k4; (case k0 => exact rfl)) | (refine' sizeB (rev := false) ?k0 ?k1 ?k2 ?k3 ?_ ?k4; (case k0 => exact rfl))); (case k1 => assumption); (case k2 => k_asm); (case k3 => k_asm); (case k4 => with_unfolding_all rfl)))
theorem news_take {h₀ h : Heap} {L : Addr} {l : Led} (k : Nat) (N : News h₀ L h l) : News h₀ L h (l.take k) := fun q hq => N q (List.mem_of_mem_take hq)
/-- what an object of a class is not -/
def Apt (own : Led) : Prop := ∀ q ∈ own, q.2.data ≠ .plain ∧ ∀ es n, q.2.data ≠ .dict es n
theorem Apt.nil : Apt [] := fun _ h => nomatch h
theorem Apt.cons {a : Addr} {o : Obj} {own : Led} (h1 : o.data ≠ .plain) (h2 : ∀ es n, o.data ≠ .dict es n) (r : Apt own) : Apt ((a, o) :: own) := fun q hq => by
  rcases List.mem_cons.mp hq with rfl | hq
  · exact ⟨h1, h2⟩
  · exact r q hq
/-- fx is a function of these -/
def FnIn (own : Led) (fx : Addr) : Prop := ∃ oc od fd sl, (fx, (⟨oc, od, .func fd, sl⟩ : Obj)) ∈ own
/-- fx, where own stands in the heap, takes a register and octets to the register C gives -/
def CrcOk (prog : Program) (w : World) (p : Program) (loose : List Str) (mean : ExcName → Option Value) (mg mb : Str → Option Value) (n : Nat) (C : Nat → List Nat → Nat) (own : Led) (fx : Addr) : Prop :=
  ∀ (news : Led) (b : Array UInt8) (c : Nat) (t u : Tok), c < 2 ^ n → CtK prog w p loose mean mg mb 6 own (.ref fx) [.bytes b t, .int (c : Nat) u] news (fun v n' => n' = news ∧ ∃ t, v = .int ((C c (arrN b) : Nat) : Int) t)
/-- the text's own tables, grown -/
def Grown (own : Led) : Prop := (∃ ps, (245, tabObj ps) ∈ own) ∧ (∃ ps, (240, tabObj ps) ∈ own) ∧ ∃ ps, (263, tabObj ps) ∈ own
def MkRes (prog : Program) (w : World) (p : Program) (loose : List Str) (mean : ExcName → Option Value) (mg mb : Str → Option Value) (n : Nat) (C : Nat → List Nat → Nat) (r : Value) (l' : Led) : Prop :=
  ∃ tup fx ry own, r = .ref tup ∧ l' = (tup, ({ cls := .type "tuple", data := .seq #[.ref fx, .ref ry] } : Obj)) :: own ∧ CrcOk prog w p loose mean mg mb n C own fx ∧ Apt own ∧ FnIn own fx ∧ Grown own
theorem cell_base {M : Model} {A : Around} {E : Value → Shared → Prop} {s : Shared} {h₀ : Heap} {L a c : Addr} {m : Str → Option Value} {cn : Str} {cs : Scope} {ccd : Value} {cl : List (Str × Addr)} {o : Obj} {y : Str} {pos : Pos} {v : Value} {Q : Value → Shared → Prop} (F : Fr h₀ L s.heap m) (hg : h₀.get? c = some o) (hc : cl.lookup y = some c) (hd : o.data = .cell (some v)) (h : Q v s)
    (hk : (envX cn cs L a ccd cl).scope.kind = .function) (hx : (envX cn cs L a ccd cl).kindOf y = some .free) (hb : (y == ("__debug__" : Str)) = false) (hn : (y == ("__classdict__" : Str)) = false) :
    wpAny M A (eval (.Name y pos) (envX cn cs L a ccd cl)) Q E s :=
  wpAny_Name (wpAny_loadName_free hk hx hc ⟨o, F.keep _ _ hg, hd⟩ h hn) hb
theorem fnKeep (q : Params) (n : Nat) (rev : Bool) : keepIn (Mine.hd.heap_39 q) (.ref (fnAddr n rev)) = true := by
  unfold fnAddr
  split <;> kernel_rfl
local macro_rules | `(tactic| walk_at "callWith ref") => `(tactic| (k_here; (with_reducible show wpAny _ _ (callWith _ (Value.ref (fnAddr _ _)) _ _ _) _ _ _); k_dflt (refine' callWith_K ?k1 ?k2 ?_; (case k1 => k_asm); (case k2 => exact fnKeep _ _ _); k_whole)))
local macro_rules | `(tactic| walk_at "call ref") => `(tactic| (k_here; (with_reducible show wpAny _ _ (call (Value.ref (fnAddr _ _)) _) _ _ _); (refine' CtK.use (crc_any_ct _ _ ?n1 _ _ _ _ _ ?n2 ?n3 ?n4 _ _ _ _ ?n5) ?B ?F ?X ?N ?T ?W ?hk ?hd ?hu ?_; (case N => k_asm); walk_at "use"; (case n1 => assumption); (case n2 => assumption); (case n3 => assumption); (case n4 => assumption); (case n5 => first | assumption | exact Nat.xor_lt_two_pow (by assumption) (by assumption)); (case W => exact Knows.keeps (by assumption) (Fr.keep (by k_asm)))); intro v9 n9 h9 tk9 hp9 F9 N9; obtain ⟨e1, t9, e2⟩ := hp9; subst e1; subst e2; (try dsimp only); (try k_fold)))
local macro_rules | `(tactic| walk_at "my clo") => `(tactic| (
  (case hfn => (intro h X W; refine' ⟨⟨_, W (_, _) ?m1, ?m2⟩, ⟨_, _, _, _, ?m6, W (_, _) ?m3, ?m4, ?m5⟩⟩; (case m1 => k_mem); (case m2 => exact rfl); (case m6 => exact rfl); (case m3 => k_mem); (case m4 => assumption); (case m5 => assumption)));
  (case hbind => (intro s X W; refine' BindsTo.of_defaults ?m1 (W (_, _) ?m2) ?m3 ?m4 ?m5; (case m1 => exact rfl); (case m2 => k_mem); (case m3 => exact rfl); (case m4 => exact rfl); (case m5 => exact rfl)));
  (case hloc => exact locs rfl); (case c1 => exact rfl); (case c2 => exact rfl); (case c3 => exact rfl); (case c4 => decide)))
local macro_rules | `(tactic| walk_at "apt") => `(tactic| (repeat' (first | exact Apt.nil | refine Apt.cons ?_ ?_ ?_)) <;> first
  | (intro h; cases h; done) | (intro _ _ h; cases h; done)
  | (intro h; rename Obj.data _ = Data.fields _ => d9; cases d9.symm.trans h) | (intro _ _ h; rename Obj.data _ = Data.fields _ => d9; cases d9.symm.trans h)
  | (intro h; rename Obj.data _ = Data.cell _ => d9; cases d9.symm.trans h) | (intro _ _ h; rename Obj.data _ = Data.cell _ => d9; cases d9.symm.trans h))
set_option maxHeartbeats 4000000 in
theorem mkfun_t_ct (rest : Led) (apart : ∀ q ∈ rest, ∀ a ∈ tabs0, q.1 ≠ a.1) (P n start last : Nat) (t u v x : Tok) (hn : isSize n) (hs : start < 2 ^ n) (he : last < 2 ^ n) (ht : ∀ y ∈ tabR P n, y < 2 ^ n) :
    Ct prog w p loose mean mg mb 7 (.ref 268) [.int (P : Nat) t, .int (n : Nat) u, .int (start : Nat) v, .bool true, .int (last : Nat) x] (tabs0 ++ rest) (fun r n' => ∃ l', n' = l' ++ rest ∧ MkRes prog w p loose mean mg mb n (regOf n true (tabR P n) last) r l' ∧ ∀ a ∈ l', ∀ q ∈ rest, q.1 ≠ a.1) := by
  refine' Ct.of_def2C (post := MkRes prog w p loose mean mg mb n (regOf n true (tabR P n) last)) [("poly", .int P t), ("sizeBits", .int n u), ("initCrc", .int start v), ("rev", .bool true), ("xorOut", .int last x)] [("rev", .bool true), ("initCrc", .int start v), ("sizeBits", .int n u), ("poly", .int P t)] [("xorOut", .int last x)] apart ?hfn ?hbind ?hkind ?hnd ?hbl ?hbc ?_ ?c1 ?c2 ?c3
  walk_at "my enterC"
  intro dp un gd outer A₀ base g L cells s Q B F X N Y l1 T G hd hu hret
  dsimp only [mapL] at F
  k_cells Y
  simp only [List.cons_append, List.nil_append] at N
  replace l1 := allLt_of l1
  simp only [AllLt, and_true] at l1
  have C9 : CodeHd g 267 263 := codeHd_of_K X (by kernel_rfl)
  have h8 := hn.lo
  have h64 := hn.hi
  (k_with "call ref" => (refine' Ct.use (mkTable_r_ct [(L + 1, _), (240, tabObj #[]), (263, tabObj #[])] ?ap _ _ _ _ ?h1) ?B ?F ?X ?N ?T ?hk ?hd ?hu ?_; (case N => exact news_sub (by k_asm) (by kcf_all)); walk_at "use"; (case ap => (simp; omega)); (case h1 => omega); intro v9 n9 h9 tk9 hp9 F9 N9; obtain ⟨l9, e1, ⟨ry9, ws9, nn9, ps9, e2, e3, hI9⟩, ap9⟩ := hp9; subst e3; subst e1; subst e2; simp only [List.cons_append, List.nil_append] at N9; simp only [List.mem_cons, List.not_mem_nil, or_false, forall_eq_or_imp, forall_eq] at ap9; (have o9 : (@Ne Nat (L + 1) ry9) ∧ (@Ne Nat 240 ry9) ∧ (@Ne Nat 263 ry9) := ap9.1)))
  k_steps
  · rename News _ _ _ _ => N9
    rename ((last : Nat) : Int) = 0 => e9
    obtain rfl : last = 0 := by omega
    refine hret (.ret _) _ _ _ _ ⟨_, _, _, _, rfl, rfl, ?_, ?_, ⟨_, _, _, _, .head _⟩, ⟨⟨_, by k_mem⟩, ⟨_, by k_mem⟩, ⟨_, by k_mem⟩⟩⟩ (by assumption) N9
    · intro news b c t u hc
      refine' CtK.of_pure (dep := 5) (pv := fun v => ∃ t, v = .int ((regOf n true (tabR P n) 0 c (arrN b) : Nat) : Int) t) [("fun", .ref (fnAddr n true)), ("table", .ref ry9), ("crc", .int c u), ("data", .bytes b t)] ?hfn ?hbind ?hloc ?_ ?c1 ?c2 ?c3 ?c4
      walk_at "my clo"
      intro dp2 un2 gd2 outer2 A2 base2 g2 L2 s2 Q2 B2 F2 X2 N2 T2 W hd2 hu2 hret2
      dsimp only [mapL] at F2
      have W9 : Knows [(ry9, listOf ws9.toArray nn9)] g2 := fun q hq => W q (by rw [List.mem_singleton.mp hq]; k_mem)
      have hl9 : (tabR P n).length = 256 := tabOf_length _
      k_steps
      exact hret2 (.ret _) _ _ _ ⟨_, congrArg (fun k : Nat => Value.int (k : Int) _) (regOf_zero n true (tabR P n) c (arrN b)).symm⟩ (by assumption)
    · walk_at "apt"
  · rename News _ _ _ _ => N9
    refine hret (.ret _) _ _ _ _ ⟨_, _, _, _, rfl, rfl, ?_, ?_, ⟨_, _, _, _, .head _⟩, ⟨⟨_, by k_mem⟩, ⟨_, by k_mem⟩, ⟨_, by k_mem⟩⟩⟩ (by assumption) N9
    · intro news b c t u hc
      refine' CtK.of_pure (dep := 5) (pv := fun v => ∃ t, v = .int ((regOf n true (tabR P n) last c (arrN b) : Nat) : Int) t) [("fun", .ref (fnAddr n true)), ("table", .ref ry9), ("crc", .int c u), ("data", .bytes b t)] ?hfn ?hbind ?hloc ?_ ?c1 ?c2 ?c3 ?c4
      walk_at "my clo"
      intro dp2 un2 gd2 outer2 A2 base2 g2 L2 s2 Q2 B2 F2 X2 N2 T2 W hd2 hu2 hret2
      dsimp only [mapL] at F2
      have W9 : Knows [(ry9, listOf ws9.toArray nn9)] g2 := fun q hq => W q (by rw [List.mem_singleton.mp hq]; k_mem)
      have hl9 : (tabR P n).length = 256 := tabOf_length _
      (k_with "eval Name" => (k_dflt (refine' cell_base ?F ?g ?c ?d ?_ ?a ?b ?e ?f; (case F => k_asm); (case g => exact W (L + 1, _) (by k_mem)); (case c => exact rfl); (case d => assumption); (case a => exact rfl); (case b => exact rfl); (case e => decide); (case f => decide))))
      k_steps
      exact hret2 (.ret _) _ _ _ ⟨_, rfl⟩ (by assumption)
    · walk_at "apt"
set_option maxHeartbeats 4000000 in
theorem mkfun_f_ct (rest : Led) (apart : ∀ q ∈ rest, ∀ a ∈ tabs0, q.1 ≠ a.1) (P n start last : Nat) (t u v x : Tok) (hn : isSize n) (hs : start < 2 ^ n) (he : last < 2 ^ n) (ht : ∀ y ∈ tabF P n, y < 2 ^ n) :
    Ct prog w p loose mean mg mb 7 (.ref 268) [.int (P : Nat) t, .int (n : Nat) u, .int (start : Nat) v, .bool false, .int (last : Nat) x] (tabs0 ++ rest) (fun r n' => ∃ l', n' = l' ++ rest ∧ MkRes prog w p loose mean mg mb n (regOf n false (tabF P n) last) r l' ∧ ∀ a ∈ l', ∀ q ∈ rest, q.1 ≠ a.1) := by
  refine' Ct.of_def2C (post := MkRes prog w p loose mean mg mb n (regOf n false (tabF P n) last)) [("poly", .int P t), ("sizeBits", .int n u), ("initCrc", .int start v), ("rev", .bool false), ("xorOut", .int last x)] [("rev", .bool false), ("initCrc", .int start v), ("sizeBits", .int n u), ("poly", .int P t)] [("xorOut", .int last x)] apart ?hfn ?hbind ?hkind ?hnd ?hbl ?hbc ?_ ?c1 ?c2 ?c3
  walk_at "my enterC"
  intro dp un gd outer A₀ base g L cells s Q B F X N Y l1 T G hd hu hret
  dsimp only [mapL] at F
  k_cells Y
  simp only [List.cons_append, List.nil_append] at N
  replace l1 := allLt_of l1
  simp only [AllLt, and_true] at l1
  have C9 : CodeHd g 267 263 := codeHd_of_K X (by kernel_rfl)
  have h8 := hn.lo
  have h64 := hn.hi
  (k_with "call ref" => (refine' Ct.use (mkTable_ct [(L + 1, _), (245, tabObj #[]), (263, tabObj #[])] ?ap _ _ _ _ ?h0 ?h1) ?B ?F ?X ?N ?T ?hk ?hd ?hu ?_; (case N => exact news_sub (by k_asm) (by kcf_all)); walk_at "use"; (case ap => (simp; omega)); (case h0 => omega); (case h1 => omega); intro v9 n9 h9 tk9 hp9 F9 N9; obtain ⟨l9, e1, ⟨ry9, ws9, nn9, ps9, e2, e3, hI9⟩, ap9⟩ := hp9; subst e3; subst e1; subst e2; simp only [List.cons_append, List.nil_append] at N9; simp only [List.mem_cons, List.not_mem_nil, or_false, forall_eq_or_imp, forall_eq] at ap9; (have o9 : (@Ne Nat (L + 1) ry9) ∧ (@Ne Nat 245 ry9) ∧ (@Ne Nat 263 ry9) := ap9.1)))
  k_steps
  · rename News _ _ _ _ => N9
    rename ((last : Nat) : Int) = 0 => e9
    obtain rfl : last = 0 := by omega
    refine hret (.ret _) _ _ _ _ ⟨_, _, _, _, rfl, rfl, ?_, ?_, ⟨_, _, _, _, .head _⟩, ⟨⟨_, by k_mem⟩, ⟨_, by k_mem⟩, ⟨_, by k_mem⟩⟩⟩ (by assumption) N9
    · intro news b c t u hc
      refine' CtK.of_pure (dep := 5) (pv := fun v => ∃ t, v = .int ((regOf n false (tabF P n) 0 c (arrN b) : Nat) : Int) t) [("fun", .ref (fnAddr n false)), ("table", .ref ry9), ("crc", .int c u), ("data", .bytes b t)] ?hfn ?hbind ?hloc ?_ ?c1 ?c2 ?c3 ?c4
      walk_at "my clo"
      intro dp2 un2 gd2 outer2 A2 base2 g2 L2 s2 Q2 B2 F2 X2 N2 T2 W hd2 hu2 hret2
      dsimp only [mapL] at F2
      have W9 : Knows [(ry9, listOf ws9.toArray nn9)] g2 := fun q hq => W q (by rw [List.mem_singleton.mp hq]; k_mem)
      have hl9 : (tabF P n).length = 256 := tabOf_length _
      k_steps
      exact hret2 (.ret _) _ _ _ ⟨_, congrArg (fun k : Nat => Value.int (k : Int) _) (regOf_zero n false (tabF P n) c (arrN b)).symm⟩ (by assumption)
    · walk_at "apt"
  · rename News _ _ _ _ => N9
    refine hret (.ret _) _ _ _ _ ⟨_, _, _, _, rfl, rfl, ?_, ?_, ⟨_, _, _, _, .head _⟩, ⟨⟨_, by k_mem⟩, ⟨_, by k_mem⟩, ⟨_, by k_mem⟩⟩⟩ (by assumption) N9
    · intro news b c t u hc
      refine' CtK.of_pure (dep := 5) (pv := fun v => ∃ t, v = .int ((regOf n false (tabF P n) last c (arrN b) : Nat) : Int) t) [("fun", .ref (fnAddr n false)), ("table", .ref ry9), ("crc", .int c u), ("data", .bytes b t)] ?hfn ?hbind ?hloc ?_ ?c1 ?c2 ?c3 ?c4
      walk_at "my clo"
      intro dp2 un2 gd2 outer2 A2 base2 g2 L2 s2 Q2 B2 F2 X2 N2 T2 W hd2 hu2 hret2
      dsimp only [mapL] at F2
      have W9 : Knows [(ry9, listOf ws9.toArray nn9)] g2 := fun q hq => W q (by rw [List.mem_singleton.mp hq]; k_mem)
      have hl9 : (tabF P n).length = 256 := tabOf_length _
      (k_with "eval Name" => (k_dflt (refine' cell_base ?F ?g ?c ?d ?_ ?a ?b ?e ?f; (case F => k_asm); (case g => exact W (L + 1, _) (by k_mem)); (case c => exact rfl); (case d => assumption); (case a => exact rfl); (case b => exact rfl); (case e => decide); (case f => decide))))
      k_steps
      exact hret2 (.ret _) _ _ _ ⟨_, rfl⟩ (by assumption)
    · walk_at "apt"
end
section
example : True := by
  k_with_none
  w_top off
  trivial
variable {prog : Program} {w : World} {p : Program} {loose : List Str} {mean : ExcName → Option Value} {mg mb : Str → Option Value}
theorem getL_put_same (name : Str) (hsh : Int) (key v : Value) (hk : key.isStr name = true) : ∀ es : List DictEntry, getL name (putL name hsh key v es) = some (some v)
  | [] => by simp [putL, getL, hk]
  | e :: r => by
    have ih := getL_put_same name hsh key v hk r
    simp only [putL]
    by_cases h : e.key.isStr name = true
    · rw [if_pos h]; simp [getL, h]
    · rw [if_neg h]
      have hf : e.key.isStr name = false := by simpa using h
      unfold getL at ih ⊢
      rw [List.find?_cons, hf]
      cases h9 : (putL name hsh key v r).find? (fun x => x.key.isStr name) with
      | none => rw [h9] at ih; dsimp only at ih; split at ih <;> cases ih
      | some e9 => rw [h9] at ih; dsimp only at ih ⊢; exact ih
theorem getL_put_ne {name other : Str} {hsh : Int} {key v : Value} {x : Value} (hk : key.isStr other = false) (hn : ∀ k : Value, k.isStr name = true → k.isStr other = false) :
    ∀ es : List DictEntry, getL other es = some (some x) → getL other (putL name hsh key v es) = some (some x)
  | [], h => by simp [getL] at h
  | e :: r, h => by
    simp only [putL]
    by_cases h1 : e.key.isStr name = true
    · rw [if_pos h1]
      have h2 := hn _ h1
      unfold getL at h ⊢
      rw [List.find?_cons, h2] at h ⊢
      cases h9 : r.find? (fun x => x.key.isStr other) with
      | none => rw [h9] at h; dsimp only at h; split at h <;> cases h
      | some e9 => rw [h9] at h; exact h
    · rw [if_neg h1]
      by_cases h2 : e.key.isStr other = true
      · unfold getL at h ⊢
        rw [List.find?_cons, h2] at h ⊢
        exact h
      · have h2' : e.key.isStr other = false := by simpa using h2
        have h3 : getL other r = some (some x) := by
          unfold getL at h ⊢
          rw [List.find?_cons, h2'] at h
          cases h9 : r.find? (fun x => x.key.isStr other) with
          | none => rw [h9] at h; dsimp only at h; split at h <;> cases h
          | some e9 => rw [h9] at h; exact h
        have ih := getL_put_ne (hsh := hsh) (v := v) hk hn r h3
        unfold getL at ih ⊢
        rw [List.find?_cons, h2']
        cases h9 : (putL name hsh key v r).find? (fun x => x.key.isStr other) with
        | none => rw [h9] at ih; dsimp only at ih; split at ih <;> cases ih
        | some e9 => rw [h9] at ih; exact ih
theorem putL_len (name : Str) (hsh : Int) (key v : Value) : ∀ es : List DictEntry, (putL name hsh key v es).length ≤ es.length + 1
  | [] => by simp [putL]
  | e :: r => by
    have ih := putL_len name hsh key v r
    simp only [putL]
    split
    · simp
    · simp only [List.length_cons]; omega
theorem putL_len_same {name : Str} {hsh : Int} {key v x : Value} : ∀ es : List DictEntry, getL name es = some (some x) → (putL name hsh key v es).length = es.length
  | [], h => by simp [getL] at h
  | e :: r, h => by
    simp only [putL]
    by_cases h1 : e.key.isStr name = true
    · rw [if_pos h1]; simp
    · rw [if_neg h1]
      have h2 : e.key.isStr name = false := by simpa using h1
      have h3 : getL name r = some (some x) := by
        unfold getL at h ⊢
        rw [List.find?_cons, h2] at h
        cases h9 : r.find? (fun x => x.key.isStr name) with
        | none => rw [h9] at h; dsimp only at h; split at h <;> cases h
        | some e9 => rw [h9] at h; exact h
      rw [List.length_cons, List.length_cons, putL_len_same r h3]
theorem getL_put_none {name other : Str} {hsh : Int} {key v : Value} {x : Value} (hn : ∀ k : Value, k.isStr name = true → k.isStr other = false) :
    ∀ es : List DictEntry, getL name es = some (some x) → getL other es = some none → getL other (putL name hsh key v es) = some none
  | [], h, _ => by simp [getL] at h
  | e :: r, h, ho => by
    have h2 : e.key.isStr other = false := by
      cases h9 : e.key.isStr other with
      | false => rfl
      | true => unfold getL at ho; rw [List.find?_cons, h9] at ho; cases ho
    have hr : e.refKey = false := by
      unfold getL at ho
      rw [List.find?_cons, h2] at ho
      cases h9 : r.find? (fun x => x.key.isStr other) with
      | some e9 => rw [h9] at ho; cases ho
      | none =>
        rw [h9] at ho
        dsimp only at ho
        rw [List.any_cons] at ho
        cases h8 : e.refKey with
        | false => rfl
        | true => rw [h8] at ho; simp at ho
    have hro : getL other r = some none := by
      unfold getL at ho ⊢
      rw [List.find?_cons, h2] at ho
      cases h9 : r.find? (fun x => x.key.isStr other) with
      | some e9 => rw [h9] at ho; cases ho
      | none => rw [h9] at ho; dsimp only at ho ⊢; rw [List.any_cons, hr, Bool.false_or] at ho; exact ho
    simp only [putL]
    by_cases h1 : e.key.isStr name = true
    · rw [if_pos h1]
      unfold getL at hro ⊢
      rw [List.find?_cons, h2]
      cases h9 : r.find? (fun x => x.key.isStr other) with
      | some e9 => rw [h9] at hro; cases hro
      | none =>
        rw [h9] at hro
        dsimp only at hro ⊢
        rw [List.any_cons, show (DictEntry.refKey ⟨e.hash, e.key, v⟩) = e.refKey from rfl, hr, Bool.false_or]
        exact hro
    · rw [if_neg h1]
      have h1' : e.key.isStr name = false := by simpa using h1
      have h3 : getL name r = some (some x) := by
        unfold getL at h ⊢
        rw [List.find?_cons, h1'] at h
        cases h9 : r.find? (fun x => x.key.isStr name) with
        | none => rw [h9] at h; dsimp only at h; split at h <;> cases h
        | some e9 => rw [h9] at h; exact h
      have ih := getL_put_none (hsh := hsh) (key := key) (v := v) hn r h3 hro
      unfold getL at ih ⊢
      rw [List.find?_cons, h2]
      cases h9 : (putL name hsh key v r).find? (fun x => x.key.isStr other) with
      | some e9 => rw [h9] at ih; cases ih
      | none => rw [h9] at ih; dsimp only at ih ⊢; rw [List.any_cons, hr, Bool.false_or]; exact ih
/-- the data of an object of the class, in any order -/
structure CrcD (es : List DictEntry) (n P start last : Nat) (rev : Bool) (fx ry : Addr) (crc : Nat) : Prop where
  ds : ∃ t, getL "digest_size" es = some (some (.int ((n / 8 : Nat) : Int) t))
  init : ∃ t, getL "initCrc" es = some (some (.int (start : Nat) t))
  xo : ∃ t, getL "xorOut" es = some (some (.int (last : Nat) t))
  poly : ∃ t, getL "poly" es = some (some (.int (P : Nat) t))
  rv : getL "reverse" es = some (some (.bool rev))
  fn : getL "_crc" es = some (some (.ref fx))
  tab : getL "table" es = some (some (.ref ry))
  val : ∃ t, getL "crcValue" es = some (some (.int (crc : Nat) t))
  len : es.length ≤ 900
  m1 : getL "new" es = some none
  m2 : getL "update" es = some none
  m3 : getL "copy" es = some none
  m4 : getL "digest" es = some none
  m5 : getL "hexdigest" es = some none
theorem isStr_ne {a b : Str} (h : a ≠ b) (k : Value) (ha : k.isStr a = true) : k.isStr b = false := by
  cases k <;> simp_all [Value.isStr]
theorem CrcD.put {es : List DictEntry} {n P start last : Nat} {rev : Bool} {fx ry : Addr} {crc crc' : Nat} {hsh : Int} {tk t : Tok} (d : CrcD es n P start last rev fx ry crc) : CrcD (putL "crcValue" hsh (.str "crcValue" tk) (.int (crc' : Nat) t) es) n P start last rev fx ry crc' where
  ds := d.ds.imp fun _ h => getL_put_ne rfl (isStr_ne (by decide)) _ h
  init := d.init.imp fun _ h => getL_put_ne rfl (isStr_ne (by decide)) _ h
  xo := d.xo.imp fun _ h => getL_put_ne rfl (isStr_ne (by decide)) _ h
  poly := d.poly.imp fun _ h => getL_put_ne rfl (isStr_ne (by decide)) _ h
  rv := getL_put_ne rfl (isStr_ne (by decide)) _ d.rv
  fn := getL_put_ne rfl (isStr_ne (by decide)) _ d.fn
  tab := getL_put_ne rfl (isStr_ne (by decide)) _ d.tab
  val := ⟨_, getL_put_same _ _ _ _ rfl _⟩
  len := by obtain ⟨_, h⟩ := d.val; rw [putL_len_same _ h]; exact d.len
  m1 := by obtain ⟨_, h⟩ := d.val; exact getL_put_none (isStr_ne (by decide)) _ h d.m1
  m2 := by obtain ⟨_, h⟩ := d.val; exact getL_put_none (isStr_ne (by decide)) _ h d.m2
  m3 := by obtain ⟨_, h⟩ := d.val; exact getL_put_none (isStr_ne (by decide)) _ h d.m3
  m4 := by obtain ⟨_, h⟩ := d.val; exact getL_put_none (isStr_ne (by decide)) _ h d.m4
  m5 := by obtain ⟨_, h⟩ := d.val; exact getL_put_none (isStr_ne (by decide)) _ h d.m5
theorem fnAt_keep {q : Addr} {h₀ h : Heap} {L : Addr} {m : Str → Option Value} (x : FnAt q h₀) (F : Fr h₀ L h m) : FnAt q h := let ⟨a, b, c, d, e⟩ := x; ⟨a, b, c, d, F.keep _ _ e⟩
theorem FnIn.at {own : Led} {fx : Addr} {h : Heap} (x : FnIn own fx) (k : Knows own h) : FnAt fx h := let ⟨a, b, c, d, e⟩ := x; ⟨a, b, c, d, k _ e⟩
theorem CrcOk.get {n : Nat} {C : Nat → List Nat → Nat} {own : Led} {fx : Addr} (ok : CrcOk prog w p loose mean mg mb n C own fx) (news : Led) (b : Array UInt8) (c : Nat) (t u : Tok) (hc : c < 2 ^ n) : CtK prog w p loose mean mg mb 6 own (.ref fx) [.bytes b t, .int (c : Nat) u] news (fun v n' => n' = news ∧ ∃ t, v = .int ((C c (arrN b) : Nat) : Int) t) := ok news b c t u hc
theorem getL_some {name : Str} {es : List DictEntry} {v : Value} (h : getL name es = some (some v)) : (getL name es).isSome = true := by rw [h]; rfl
local macro_rules | `(tactic| walk_at "my enterK") => `(tactic| (
  (case hfn => (intro h X _; refine' FnIs.of_K X ?ho ?hcd; (case ho => k_is); (case hcd => k_is))); (case hbind => (intro s X _; exact BindsTo.of_eq rfl)); (case hloc => exact locs rfl); (case c1 => exact rfl); (case c2 => exact rfl); (case c3 => exact rfl); (case c4 => decide)))
local macro_rules | `(tactic| walk_at "my enterC") => `(tactic| (
  (case hfn => (intro h X _; refine' FnIs.of_K X ?ho ?hcd; (case ho => k_is); (case hcd => k_is))); (case hbind => (intro s X _; exact BindsTo.of_eq rfl)); (case hkind => exact rfl); (case hnd => decide +kernel); (case hbl => exact rfl); (case hbc => exact rfl); (case c1 => exact rfl); (case c2 => exact rfl); (case c3 => exact rfl)))
-- lines of our own for the walk
local macro_rules | `(tactic| walk_at "my enter") => `(tactic| (
  (case hcd => k_is); (case hbind => (intro s X; exact BindsTo.of_eq rfl)); (case hloc => exact locs rfl); (case c1 => exact rfl); (case c2 => exact rfl); (case c3 => exact rfl); (case c4 => decide)))
local macro_rules | `(tactic| walk_at "nat") => `(tactic| first | with_reducible rfl | with_reducible exact lit_nat _ | with_reducible exact mul8_nat _ | with_reducible exact shl1_nat _ | with_reducible exact sub1_nat (by omega) | with_reducible exact sub8_nat (by omega) | with_reducible exact zadd_nat (by with_reducible assumption) | with_reducible assumption | with_reducible exact (Int.toNat_of_nonneg (by with_reducible assumption)).symm | assumption | rfl | exact (Int.toNat_of_nonneg (by omega)).symm)
local macro_rules | `(tactic| walk_at "small") => `(tactic| first | assumption | exact Nat.lt_of_le_of_lt (by assumption) lt_128 | exact Nat.lt_of_lt_of_le (by assumption) (Nat.pow_le_pow_right (by decide) (by decide)) | exact Nat.lt_of_lt_of_le (Nat.xor_lt_two_pow (by assumption) (by assumption)) (Nat.pow_le_pow_right (by decide) (by decide)) | exact be_small (arrN_lt _) (by rw [arrN_length]; omega) | exact lt_big (k := 8) (by decide) (by decide) | exact lt_big (revN_lt _ _) (by omega) | exact lt_big (itF_lt (by assumption) (by assumption) (by assumption) _) (by omega))
local macro_rules | `(tactic| walk_at "binaryOp BitAnd int int") => `(tactic| (k_here; k_dflt (refine' andN ?k1 ?k2 ?_; (case k1 => walk_at "nat"); (case k2 => walk_at "nat"); k_whole); intro t9 k9; (try dsimp only)))
local macro_rules | `(tactic| walk_at "binaryOp BitOr int int") => `(tactic| (k_here; k_dflt (refine' orN ?k1 ?k2 ?_; (case k1 => walk_at "nat"); (case k2 => walk_at "nat"); k_whole); intro t9 k9; (try dsimp only)))
local macro_rules | `(tactic| walk_at "binaryOp BitXor int int") => `(tactic| (k_here; k_dflt (refine' xorN ?k1 ?k2 ?_; (case k1 => walk_at "nat"); (case k2 => walk_at "nat"); k_whole); intro t9 k9; (try dsimp only)))
local macro_rules | `(tactic| walk_at "binaryOp RShift int int") => `(tactic| (k_here; k_dflt (refine' shrN ?k1 ?k2 ?_; (case k1 => walk_at "nat"); (case k2 => walk_at "nat"); k_whole); intro t9 k9; (try dsimp only)))
local macro_rules | `(tactic| walk_at "binaryOp LShift int int") => `(tactic| (k_here; k_dflt (refine' shlN ?k1 ?k2 ?k3 ?k4 ?_; (case k1 => walk_at "nat"); (case k2 => walk_at "nat"); (case k3 => walk_at "small"); (case k4 => first | decide | omega); k_whole); intro t9 k9; (try dsimp only)))
local macro_rules | `(tactic| k_mem) => `(tactic| first
  | ((with_reducible show List.Mem (_ : Addr × Obj) (_ ++ _)); exact List.mem_append_left _ (by k_mem))
  | ((with_reducible show (_ : Addr × Obj) ∈ (_ ++ _ : List (Addr × Obj))); exact List.mem_append_left _ (by k_mem))
  | ((with_reducible show List.Mem (_ : Addr × Obj) _); (fail_if_success (with_reducible show List.Mem _ (_ :: _))); assumption)
  | ((with_reducible show (_ : Addr × Obj) ∈ _); (fail_if_success (with_reducible show _ ∈ (_ :: _))); assumption))
local macro_rules | `(tactic| walk_at "getMethod bytes") => `(tactic| (k_here; (with_reducible refine method_join ?_)))
local macro_rules | `(tactic| walk_at "call builtin:bytes.join") => `(tactic| (k_here; k_dflt (refine' join_one (News.get ?k1 ?k2) ?k3 ?k4 ?_; (case k1 => k_asm); (case k2 => k_mem); (case k3 => exact rfl); (case k4 => exact rfl))))
local macro_rules | `(tactic| walk_at "use") => `(tactic| ((case B => k_asm); (case F => k_asm); (case X => k_asm); (case T => k_asm); (case hk => first | exact rfl | assumption); (case hd => ktr_room); (case hu => ktr_units)))
local macro_rules | `(tactic| walk_at "idx") => `(tactic| (refine Nat.lt_of_lt_of_le (Nat.xor_lt_two_pow (n := 8) (by omega) (Nat.lt_of_le_of_lt Nat.and_le_right (by decide))) (by omega)))
local macro_rules | `(tactic| walk_at "subscriptTail Name BinOp ref int") => `(tactic| (k_here; k_dflt (refine' tab_item ?F ?l ?v ?k ?i ?f ?_ ?s ?g; (case F => k_asm); (case l => assumption); (case v => k_asm); (case k => with_reducible rfl); (case s => with_unfolding_all rfl); (case g => (intro _; with_unfolding_all rfl)); (case i => walk_at "idx"); (case f => omega)); intro t9))
local macro_rules | `(tactic| walk_at "binaryOp Mod int int") => `(tactic| (k_here; k_dflt (refine' modN ?k1 ?k2 ?k3 ?_; (case k1 => walk_at "nat"); (case k2 => walk_at "nat"); (case k3 => first | decide | omega); k_whole); intro t9 k9; (try dsimp only)))
local macro_rules | `(tactic| walk_at "call ref") => `(tactic| (k_here; (with_reducible show wpAny _ _ (call (Value.ref _) [Value.bytes _ _, Value.str _ _]) _ _ _); kfb_any; k_dflt (first
  | (refine fb_call_big (by k_asm) (by k_mem) (by omega) ?_)
  | (refine fb_call_little (by k_asm) (by k_mem) (by omega) ?_)); intro _ _))
local macro_rules | `(tactic| walk_at "UnrEndW") => `(tactic| k_dflt ktu_end)
local macro_rules | `(tactic| walk_at "pyIter bytes") => `(tactic| k_dflt (kstb_has; k_extra "pyIter bytes"))
local macro_rules | `(tactic| walk_at "InvEndN") => `(tactic| k_dflt kst_close)
local macro_rules | `(tactic| walk_at "subscriptTail Name Constant ref int") => `(tactic| (k_here; (with_reducible show wpAny _ _ (subscriptTail _ _ (Value.ref _) (Value.int _ _)) _ _ _); kri_at))
local macro_rules | `(tactic| walk_at "getAttr ref") => `(tactic| (k_here; k_dflt (refine' get_own ?k1 ?k2 ?k3 ?k4 ?k5 ?k6 ?k7 ?k8 ?k9 ?_; (case k1 => k_asm); (case k2 => k_asm); (case k3 => k_inst); (case k4 => k_is); (case k5 => k_is); (case k6 => k_is); (case k7 => k_is); (case k8 => assumption); (case k9 => exact rfl); k_whole)))
local macro_rules | `(tactic| walk_at "callWith ref") => `(tactic| (k_here; k_dflt (refine' callWith_F ?k1 ?_; (case k1 => exact fnAt_keep (by assumption) (by k_asm)); k_whole)))
local macro_rules | `(tactic| walk_at "FnAt") => `(tactic| (k_dflt (exact fnAt_keep (by assumption) (by k_asm))))
local macro_rules | `(tactic| walk_at "call ref") => `(tactic| (k_here; k_dflt (refine' CtK.use (CrcOk.get ?ok _ _ _ _ _ ?h0) ?B ?F ?X ?N ?T ?W ?hk ?hd ?hu ?_; (case ok => assumption); (case N => k_asm); walk_at "use"; (case h0 => assumption); (case W => exact Knows.keeps (by assumption) (Fr.keep (by k_asm)))); intro v9 n9 h9 tk9 hp9 F9 N9; obtain ⟨e1, t9, e2⟩ := hp9; subst e1; subst e2; (try dsimp only); (try k_fold)))
local macro_rules | `(tactic| walk_at "setAttr ref") => `(tactic| (k_here; k_dflt (refine' set_dict ?k1 ?k2 ?k3 ?k4 ?k5 ?k6 ?k7 ?k8 ?k9 ?k10 ?k11 ?k12 ?k13 ?_; (case k1 => k_asm); (case k2 => k_asm); (case k3 => k_asm); (case k4 => k_inst); (case k5 => exact rfl); (case k6 => k_is); (case k7 => k_is); (case k8 => k_is); (case k9 => k_is); (case k10 => exact getL_some (by assumption)); (case k11 => exact rfl); (case k12 => k_upd); (case k13 => exact Nat.le_trans (putL_len _ _ _ _ _) (by omega)); k_whole; intro h' F' N'; (try k_sweep))))
local macro_rules | `(tactic| k_room) => `(tactic| ktr_room)
local macro_rules | `(tactic| walk_at "getMethod ref") => `(tactic| (k_here; k_dflt (refine' method_inst ?k1 ?k2 ?k3 ?k4 ?k5 ?k6 ?k7 ?_; (case k1 => k_asm); (case k2 => k_asm); (case k3 => k_inst); (case k4 => k_is); (case k5 => k_is); (case k6 => k_is); (case k7 => assumption); k_whole)))
variable {prog : Program} {w : World} {p : Program} {loose : List Str} {mean : ExcName → Option Value} {mg mb : Str → Option Value}
-- lines that serve no key: each section bears another number of lines
local macro_rules | `(tactic| walk_at "none") => `(tactic| fail)
local macro_rules | `(tactic| walk_at "none") => `(tactic| fail)
local macro_rules | `(tactic| walk_at "none") => `(tactic| fail)
local macro_rules | `(tactic| walk_at "none") => `(tactic| fail)
local macro_rules | `(tactic| walk_at "none") => `(tactic| fail)
local macro_rules | `(tactic| walk_at "none") => `(tactic| fail)
local macro_rules | `(tactic| walk_at "none") => `(tactic| fail)
local macro_rules | `(tactic| walk_at "none") => `(tactic| fail)
local macro_rules | `(tactic| walk_at "none") => `(tactic| fail)
local macro_rules | `(tactic| walk_at "none") => `(tactic| fail)
local macro_rules | `(tactic| walk_at "none") => `(tactic| fail)
local macro_rules | `(tactic| walk_at "none") => `(tactic| fail)
local macro_rules | `(tactic| walk_at "none") => `(tactic| fail)
local macro_rules | `(tactic| walk_at "none") => `(tactic| fail)
local macro_rules | `(tactic| walk_at "none") => `(tactic| fail)
local macro_rules | `(tactic| walk_at "none") => `(tactic| fail)
local macro_rules | `(tactic| walk_at "none") => `(tactic| fail)
local macro_rules | `(tactic| walk_at "none") => `(tactic| fail)
local macro_rules | `(tactic| walk_at "none") => `(tactic| fail)
local macro_rules | `(tactic| walk_at "none") => `(tactic| fail)
local macro_rules | `(tactic| walk_at "none") => `(tactic| fail)
local macro_rules | `(tactic| walk_at "none") => `(tactic| fail)
local macro_rules | `(tactic| walk_at "none") => `(tactic| fail)
local macro_rules | `(tactic| walk_at "none") => `(tactic| fail)
local macro_rules | `(tactic| walk_at "none") => `(tactic| fail)
local macro_rules | `(tactic| walk_at "none") => `(tactic| fail)
local macro_rules | `(tactic| walk_at "none") => `(tactic| fail)
local macro_rules | `(tactic| walk_at "none") => `(tactic| fail)
local macro_rules | `(tactic| walk_at "none") => `(tactic| fail)
local macro_rules | `(tactic| walk_at "none") => `(tactic| fail)
local macro_rules | `(tactic| walk_at "none") => `(tactic| fail)
local macro_rules | `(tactic| walk_at "none") => `(tactic| fail)
local macro_rules | `(tactic| walk_at "none") => `(tactic| fail)
local macro_rules | `(tactic| walk_at "none") => `(tactic| fail)
local macro_rules | `(tactic| walk_at "none") => `(tactic| fail)
local macro_rules | `(tactic| walk_at "none") => `(tactic| fail)
local macro_rules | `(tactic| walk_at "none") => `(tactic| fail)
local macro_rules | `(tactic| walk_at "none") => `(tactic| fail)
local macro_rules | `(tactic| walk_at "none") => `(tactic| fail)
local macro_rules | `(tactic| walk_at "none") => `(tactic| fail)
local macro_rules | `(tactic| walk_at "none") => `(tactic| fail)
local macro_rules | `(tactic| walk_at "none") => `(tactic| fail)
local macro_rules | `(tactic| walk_at "none") => `(tactic| fail)
local macro_rules | `(tactic| walk_at "none") => `(tactic| fail)
local macro_rules | `(tactic| walk_at "none") => `(tactic| fail)
local macro_rules | `(tactic| walk_at "none") => `(tactic| fail)
local macro_rules | `(tactic| walk_at "none") => `(tactic| fail)
local macro_rules | `(tactic| walk_at "none") => `(tactic| fail)
local macro_rules | `(tactic| walk_at "none") => `(tactic| fail)
local macro_rules | `(tactic| walk_at "none") => `(tactic| fail)
local macro_rules | `(tactic| walk_at "none") => `(tactic| fail)
local macro_rules | `(tactic| walk_at "none") => `(tactic| fail)
local macro_rules | `(tactic| walk_at "none") => `(tactic| fail)
local macro_rules | `(tactic| walk_at "none") => `(tactic| fail)
local macro_rules | `(tactic| walk_at "none") => `(tactic| fail)
local macro_rules | `(tactic| walk_at "none") => `(tactic| fail)
local macro_rules | `(tactic| walk_at "none") => `(tactic| fail)
local macro_rules | `(tactic| walk_at "none") => `(tactic| fail)
local macro_rules | `(tactic| walk_at "none") => `(tactic| fail)
local macro_rules | `(tactic| walk_at "none") => `(tactic| fail)
local macro_rules | `(tactic| walk_at "none") => `(tactic| fail)
local macro_rules | `(tactic| walk_at "none") => `(tactic| fail)
local macro_rules | `(tactic| walk_at "none") => `(tactic| fail)
local macro_rules | `(tactic| walk_at "none") => `(tactic| fail)
local macro_rules | `(tactic| walk_at "none") => `(tactic| fail)
set_option maxHeartbeats 4000000 in
theorem update_ct (rest own : Led) (x dx : Addr) (es : List DictEntry) (nn : Nat) (n P start last : Nat) (rev : Bool) (fx ry : Addr) (crc : Nat) (C : Nat → List Nat → Nat) (hx : x ≠ dx) (hr : ∀ q ∈ rest, q.1 ≠ x ∧ q.1 ≠ dx) (D : CrcD es n P start last rev fx ry crc) (ok : CrcOk prog w p loose mean mg mb n C own fx) (ap : Apt own) (fin : FnIn own fx) (hc : crc < 2 ^ n) (b : Array UInt8) (t : Tok) :
    CtK prog w p loose mean mg mb 7 own (.ref 181) [.ref x, .bytes b t] ([(x, instObj 206 dx), (dx, dictOf es nn)] ++ rest) (fun v n' => ∃ l', n' = l' ++ rest ∧ (v = .none ∧ ∃ es' n1, l' = [(x, instObj 206 dx), (dx, dictOf es' n1)] ∧ CrcD es' n P start last rev fx ry (C crc (arrN b))) ∧ ∀ a ∈ l', ∀ q ∈ rest, q.1 ≠ a.1) := by
  obtain ⟨t1, e1⟩ := D.val
  have e2 := D.fn
  refine' CtK.of_def2 (post := fun v l' => v = .none ∧ ∃ es' n1, l' = [(x, instObj 206 dx), (dx, dictOf es' n1)] ∧ CrcD es' n P start last rev fx ry (C crc (arrN b))) [("data", .bytes b t), ("self", .ref x)] ?ap1 ?ap2 ?hfn ?hbind ?hloc ?_ ?c1 ?c2 ?c3 ?c4
  case ap1 => (intro q hq a ha; simp only [List.mem_cons, List.not_mem_nil, or_false] at ha; rcases ha with rfl | rfl; exact (hr q hq).1; exact (hr q hq).2)
  case ap2 => (intro q hq a ha e; simp only [List.mem_cons, List.not_mem_nil, or_false] at ha; rcases ha with rfl | rfl; exact (ap q hq).1 (by rw [e]); exact (ap q hq).2 _ _ (by rw [e]))
  walk_at "my enterK"
  intro dp un gd outer A₀ base g L s Q B F X N T G W hd hu hret
  dsimp only [mapL] at F
  have o9 : (@Ne Nat x dx) := hx
  have f9 := fin.at W
  have len9 := D.len
  k_steps
  exact hret .next _ _ _ _ ⟨rfl, _, _, rfl, D.put⟩ (by assumption) (by assumption)
end
section
example : True := by
  k_with_none
  w_top off
  trivial
local macro_rules | `(tactic| walk_at "my enterK") => `(tactic| (
  (case hfn => (intro h X _; refine' FnIs.of_K X ?ho ?hcd; (case ho => k_is); (case hcd => k_is))); (case hbind => (intro s X _; exact BindsTo.of_eq rfl)); (case hloc => exact locs rfl); (case c1 => exact rfl); (case c2 => exact rfl); (case c3 => exact rfl); (case c4 => decide)))
local macro_rules | `(tactic| walk_at "my enterC") => `(tactic| (
  (case hfn => (intro h X _; refine' FnIs.of_K X ?ho ?hcd; (case ho => k_is); (case hcd => k_is))); (case hbind => (intro s X _; exact BindsTo.of_eq rfl)); (case hkind => exact rfl); (case hnd => decide +kernel); (case hbl => exact rfl); (case hbc => exact rfl); (case c1 => exact rfl); (case c2 => exact rfl); (case c3 => exact rfl)))
-- lines of our own for the walk
local macro_rules | `(tactic| walk_at "my enter") => `(tactic| (
  (case hcd => k_is); (case hbind => (intro s X; exact BindsTo.of_eq rfl)); (case hloc => exact locs rfl); (case c1 => exact rfl); (case c2 => exact rfl); (case c3 => exact rfl); (case c4 => decide)))
local macro_rules | `(tactic| walk_at "nat") => `(tactic| first | with_reducible rfl | with_reducible exact lit_nat _ | with_reducible exact mul8_nat _ | with_reducible exact shl1_nat _ | with_reducible exact sub1_nat (by omega) | with_reducible exact sub8_nat (by omega) | with_reducible exact zadd_nat (by with_reducible assumption) | with_reducible assumption | with_reducible exact (Int.toNat_of_nonneg (by with_reducible assumption)).symm | assumption | rfl | exact (Int.toNat_of_nonneg (by omega)).symm)
local macro_rules | `(tactic| walk_at "small") => `(tactic| first | assumption | exact Nat.lt_of_le_of_lt (by assumption) lt_128 | exact Nat.lt_of_lt_of_le (by assumption) (Nat.pow_le_pow_right (by decide) (by decide)) | exact Nat.lt_of_lt_of_le (Nat.xor_lt_two_pow (by assumption) (by assumption)) (Nat.pow_le_pow_right (by decide) (by decide)) | exact be_small (arrN_lt _) (by rw [arrN_length]; omega) | exact lt_big (k := 8) (by decide) (by decide) | exact lt_big (revN_lt _ _) (by omega) | exact lt_big (itF_lt (by assumption) (by assumption) (by assumption) _) (by omega))
local macro_rules | `(tactic| walk_at "binaryOp BitAnd int int") => `(tactic| (k_here; k_dflt (refine' andN ?k1 ?k2 ?_; (case k1 => walk_at "nat"); (case k2 => walk_at "nat"); k_whole); intro t9 k9; (try dsimp only)))
local macro_rules | `(tactic| walk_at "binaryOp BitOr int int") => `(tactic| (k_here; k_dflt (refine' orN ?k1 ?k2 ?_; (case k1 => walk_at "nat"); (case k2 => walk_at "nat"); k_whole); intro t9 k9; (try dsimp only)))
local macro_rules | `(tactic| walk_at "binaryOp BitXor int int") => `(tactic| (k_here; k_dflt (refine' xorN ?k1 ?k2 ?_; (case k1 => walk_at "nat"); (case k2 => walk_at "nat"); k_whole); intro t9 k9; (try dsimp only)))
local macro_rules | `(tactic| walk_at "binaryOp RShift int int") => `(tactic| (k_here; k_dflt (refine' shrN ?k1 ?k2 ?_; (case k1 => walk_at "nat"); (case k2 => walk_at "nat"); k_whole); intro t9 k9; (try dsimp only)))
local macro_rules | `(tactic| walk_at "binaryOp LShift int int") => `(tactic| (k_here; k_dflt (refine' shlN ?k1 ?k2 ?k3 ?k4 ?_; (case k1 => walk_at "nat"); (case k2 => walk_at "nat"); (case k3 => walk_at "small"); (case k4 => first | decide | omega); k_whole); intro t9 k9; (try dsimp only)))
local macro_rules | `(tactic| k_mem) => `(tactic| first
  | ((with_reducible show List.Mem (_ : Addr × Obj) (_ ++ _)); exact List.mem_append_left _ (by k_mem))
  | ((with_reducible show (_ : Addr × Obj) ∈ (_ ++ _ : List (Addr × Obj))); exact List.mem_append_left _ (by k_mem))
  | ((with_reducible show List.Mem (_ : Addr × Obj) _); (fail_if_success (with_reducible show List.Mem _ (_ :: _))); assumption)
  | ((with_reducible show (_ : Addr × Obj) ∈ _); (fail_if_success (with_reducible show _ ∈ (_ :: _))); assumption))
local macro_rules | `(tactic| walk_at "getMethod bytes") => `(tactic| (k_here; (with_reducible refine method_join ?_)))
local macro_rules | `(tactic| walk_at "call builtin:bytes.join") => `(tactic| (k_here; k_dflt (refine' join_one (News.get ?k1 ?k2) ?k3 ?k4 ?_; (case k1 => k_asm); (case k2 => k_mem); (case k3 => exact rfl); (case k4 => exact rfl))))
local macro_rules | `(tactic| walk_at "use") => `(tactic| ((case B => k_asm); (case F => k_asm); (case X => k_asm); (case T => k_asm); (case hk => first | exact rfl | assumption); (case hd => ktr_room); (case hu => ktr_units)))
local macro_rules | `(tactic| walk_at "idx") => `(tactic| (refine Nat.lt_of_lt_of_le (Nat.xor_lt_two_pow (n := 8) (by omega) (Nat.lt_of_le_of_lt Nat.and_le_right (by decide))) (by omega)))
local macro_rules | `(tactic| walk_at "subscriptTail Name BinOp ref int") => `(tactic| (k_here; k_dflt (refine' tab_item ?F ?l ?v ?k ?i ?f ?_ ?s ?g; (case F => k_asm); (case l => assumption); (case v => k_asm); (case k => with_reducible rfl); (case s => with_unfolding_all rfl); (case g => (intro _; with_unfolding_all rfl)); (case i => walk_at "idx"); (case f => omega)); intro t9))
local macro_rules | `(tactic| walk_at "binaryOp Mod int int") => `(tactic| (k_here; k_dflt (refine' modN ?k1 ?k2 ?k3 ?_; (case k1 => walk_at "nat"); (case k2 => walk_at "nat"); (case k3 => first | decide | omega); k_whole); intro t9 k9; (try dsimp only)))
local macro_rules | `(tactic| walk_at "call ref") => `(tactic| (k_here; (with_reducible show wpAny _ _ (call (Value.ref _) [Value.bytes _ _, Value.str _ _]) _ _ _); kfb_any; k_dflt (first
  | (refine fb_call_big (by k_asm) (by k_mem) (by omega) ?_)
  | (refine fb_call_little (by k_asm) (by k_mem) (by omega) ?_)); intro _ _))
local macro_rules | `(tactic| walk_at "UnrEndW") => `(tactic| k_dflt ktu_end)
local macro_rules | `(tactic| walk_at "pyIter bytes") => `(tactic| k_dflt (kstb_has; k_extra "pyIter bytes"))
local macro_rules | `(tactic| walk_at "InvEndN") => `(tactic| k_dflt kst_close)
local macro_rules | `(tactic| walk_at "subscriptTail Name Constant ref int") => `(tactic| (k_here; (with_reducible show wpAny _ _ (subscriptTail _ _ (Value.ref _) (Value.int _ _)) _ _ _); kri_at))
local macro_rules | `(tactic| walk_at "getAttr ref") => `(tactic| (k_here; k_dflt (refine' get_own ?k1 ?k2 ?k3 ?k4 ?k5 ?k6 ?k7 ?k8 ?k9 ?_; (case k1 => k_asm); (case k2 => k_asm); (case k3 => k_inst); (case k4 => k_is); (case k5 => k_is); (case k6 => k_is); (case k7 => k_is); (case k8 => assumption); (case k9 => exact rfl); k_whole)))
local macro_rules | `(tactic| walk_at "callWith ref") => `(tactic| (k_here; k_dflt (refine' callWith_F ?k1 ?_; (case k1 => exact fnAt_keep (by assumption) (by k_asm)); k_whole)))
local macro_rules | `(tactic| walk_at "FnAt") => `(tactic| (k_dflt (exact fnAt_keep (by assumption) (by k_asm))))
local macro_rules | `(tactic| walk_at "call ref") => `(tactic| (k_here; k_dflt (refine' CtK.use (CrcOk.get ?ok _ _ _ _ _ ?h0) ?B ?F ?X ?N ?T ?W ?hk ?hd ?hu ?_; (case ok => assumption); (case N => k_asm); walk_at "use"; (case h0 => assumption); (case W => exact Knows.keeps (by assumption) (Fr.keep (by k_asm)))); intro v9 n9 h9 tk9 hp9 F9 N9; obtain ⟨e1, t9, e2⟩ := hp9; subst e1; subst e2; (try dsimp only); (try k_fold)))
local macro_rules | `(tactic| walk_at "setAttr ref") => `(tactic| (k_here; k_dflt (refine' set_dict ?k1 ?k2 ?k3 ?k4 ?k5 ?k6 ?k7 ?k8 ?k9 ?k10 ?k11 ?k12 ?k13 ?_; (case k1 => k_asm); (case k2 => k_asm); (case k3 => k_asm); (case k4 => k_inst); (case k5 => exact rfl); (case k6 => k_is); (case k7 => k_is); (case k8 => k_is); (case k9 => k_is); (case k10 => exact getL_some (by assumption)); (case k11 => exact rfl); (case k12 => k_upd); (case k13 => exact Nat.le_trans (putL_len _ _ _ _ _) (by omega)); k_whole; intro h' F' N'; (try k_sweep))))
local macro_rules | `(tactic| k_room) => `(tactic| ktr_room)
local macro_rules | `(tactic| walk_at "getMethod ref") => `(tactic| (k_here; k_dflt (refine' method_inst ?k1 ?k2 ?k3 ?k4 ?k5 ?k6 ?k7 ?_; (case k1 => k_asm); (case k2 => k_asm); (case k3 => k_inst); (case k4 => k_is); (case k5 => k_is); (case k6 => k_is); (case k7 => assumption); k_whole)))
variable {prog : Program} {w : World} {p : Program} {loose : List Str} {mean : ExcName → Option Value} {mg mb : Str → Option Value}
-- lines that serve no key: each section bears another number of lines
local macro_rules | `(tactic| walk_at "none") => `(tactic| fail)
local macro_rules | `(tactic| walk_at "none") => `(tactic| fail)
local macro_rules | `(tactic| walk_at "none") => `(tactic| fail)
local macro_rules | `(tactic| walk_at "none") => `(tactic| fail)
local macro_rules | `(tactic| walk_at "none") => `(tactic| fail)
local macro_rules | `(tactic| walk_at "none") => `(tactic| fail)
local macro_rules | `(tactic| walk_at "none") => `(tactic| fail)
local macro_rules | `(tactic| walk_at "none") => `(tactic| fail)
local macro_rules | `(tactic| walk_at "none") => `(tactic| fail)
local macro_rules | `(tactic| walk_at "none") => `(tactic| fail)
local macro_rules | `(tactic| walk_at "none") => `(tactic| fail)
local macro_rules | `(tactic| walk_at "none") => `(tactic| fail)
local macro_rules | `(tactic| walk_at "none") => `(tactic| fail)
local macro_rules | `(tactic| walk_at "none") => `(tactic| fail)
local macro_rules | `(tactic| walk_at "none") => `(tactic| fail)
local macro_rules | `(tactic| walk_at "none") => `(tactic| fail)
local macro_rules | `(tactic| walk_at "none") => `(tactic| fail)
local macro_rules | `(tactic| walk_at "none") => `(tactic| fail)
local macro_rules | `(tactic| walk_at "none") => `(tactic| fail)
local macro_rules | `(tactic| walk_at "none") => `(tactic| fail)
local macro_rules | `(tactic| walk_at "none") => `(tactic| fail)
local macro_rules | `(tactic| walk_at "none") => `(tactic| fail)
local macro_rules | `(tactic| walk_at "none") => `(tactic| fail)
local macro_rules | `(tactic| walk_at "none") => `(tactic| fail)
local macro_rules | `(tactic| walk_at "none") => `(tactic| fail)
local macro_rules | `(tactic| walk_at "none") => `(tactic| fail)
local macro_rules | `(tactic| walk_at "none") => `(tactic| fail)
local macro_rules | `(tactic| walk_at "none") => `(tactic| fail)
local macro_rules | `(tactic| walk_at "none") => `(tactic| fail)
local macro_rules | `(tactic| walk_at "none") => `(tactic| fail)
local macro_rules | `(tactic| walk_at "none") => `(tactic| fail)
local macro_rules | `(tactic| walk_at "none") => `(tactic| fail)
local macro_rules | `(tactic| walk_at "none") => `(tactic| fail)
local macro_rules | `(tactic| walk_at "none") => `(tactic| fail)
local macro_rules | `(tactic| walk_at "none") => `(tactic| fail)
local macro_rules | `(tactic| walk_at "none") => `(tactic| fail)
local macro_rules | `(tactic| walk_at "none") => `(tactic| fail)
local macro_rules | `(tactic| walk_at "none") => `(tactic| fail)
local macro_rules | `(tactic| walk_at "none") => `(tactic| fail)
local macro_rules | `(tactic| walk_at "none") => `(tactic| fail)
local macro_rules | `(tactic| walk_at "none") => `(tactic| fail)
local macro_rules | `(tactic| walk_at "none") => `(tactic| fail)
local macro_rules | `(tactic| walk_at "none") => `(tactic| fail)
local macro_rules | `(tactic| walk_at "none") => `(tactic| fail)
local macro_rules | `(tactic| walk_at "none") => `(tactic| fail)
local macro_rules | `(tactic| walk_at "none") => `(tactic| fail)
local macro_rules | `(tactic| walk_at "none") => `(tactic| fail)
local macro_rules | `(tactic| walk_at "none") => `(tactic| fail)
local macro_rules | `(tactic| walk_at "none") => `(tactic| fail)
local macro_rules | `(tactic| walk_at "none") => `(tactic| fail)
local macro_rules | `(tactic| walk_at "none") => `(tactic| fail)
local macro_rules | `(tactic| walk_at "none") => `(tactic| fail)
local macro_rules | `(tactic| walk_at "none") => `(tactic| fail)
local macro_rules | `(tactic| walk_at "none") => `(tactic| fail)
local macro_rules | `(tactic| walk_at "none") => `(tactic| fail)
local macro_rules | `(tactic| walk_at "none") => `(tactic| fail)
local macro_rules | `(tactic| walk_at "none") => `(tactic| fail)
local macro_rules | `(tactic| walk_at "none") => `(tactic| fail)
local macro_rules | `(tactic| walk_at "none") => `(tactic| fail)
local macro_rules | `(tactic| walk_at "none") => `(tactic| fail)
local macro_rules | `(tactic| walk_at "none") => `(tactic| fail)
local macro_rules | `(tactic| walk_at "none") => `(tactic| fail)
local macro_rules | `(tactic| walk_at "none") => `(tactic| fail)
local macro_rules | `(tactic| walk_at "none") => `(tactic| fail)
local macro_rules | `(tactic| walk_at "none") => `(tactic| fail)
local macro_rules | `(tactic| walk_at "none") => `(tactic| fail)
local macro_rules | `(tactic| walk_at "none") => `(tactic| fail)
local macro_rules | `(tactic| walk_at "none") => `(tactic| fail)
local macro_rules | `(tactic| walk_at "none") => `(tactic| fail)
local macro_rules | `(tactic| walk_at "none") => `(tactic| fail)
local macro_rules | `(tactic| walk_at "none") => `(tactic| fail)
local macro_rules | `(tactic| walk_at "none") => `(tactic| fail)
theorem nilr {P : Addr × Obj → Prop} : ∀ q ∈ ([] : Led), P q := fun _ h => nomatch h
theorem Knows.nil {h : Heap} : Knows [] h := fun _ h => nomatch h
theorem ne5 {x' dx' x dx : Addr} (h1 : (@LT.lt Nat _ dx' x')) (h : (@LT.lt Nat _ x dx') ∧ (@LT.lt Nat _ dx dx')) : x' ≠ dx' ∧ x' ≠ x ∧ x' ≠ dx ∧ dx' ≠ x ∧ dx' ≠ dx :=
  ⟨Nat.ne_of_gt h1, Nat.ne_of_gt (Nat.lt_trans h.1 h1), Nat.ne_of_gt (Nat.lt_trans h.2 h1), Nat.ne_of_gt h.1, Nat.ne_of_gt h.2⟩
set_option maxHeartbeats 4000000 in
theorem new0_ct (rest own : Led) (x dx : Addr) (es : List DictEntry) (nn : Nat) (n P start last : Nat) (rev : Bool) (fx ry : Addr) (crc : Nat) (hx : x ≠ dx) (hr : ∀ q ∈ rest, q.1 ≠ x ∧ q.1 ≠ dx) (D : CrcD es n P start last rev fx ry crc) :
    CtK prog w p loose mean mg mb 7 [] (.ref 167) [.ref x] ([(x, instObj 206 dx), (dx, dictOf es nn)] ++ rest) (fun v n' => ∃ l', n' = l' ++ rest ∧ (∃ x' dx' es' n1, v = .ref x' ∧ l' = [(x', instObj 206 dx'), (dx', dictOf es' n1), (x, instObj 206 dx), (dx, dictOf es nn)] ∧ CrcD es' n P start last rev fx ry start ∧ (x' ≠ dx' ∧ x' ≠ x ∧ x' ≠ dx ∧ dx' ≠ x ∧ dx' ≠ dx)) ∧ ∀ a ∈ l', ∀ q ∈ rest, q.1 ≠ a.1) := by
  obtain ⟨t1, e1⟩ := D.val
  obtain ⟨t2, e2⟩ := D.ds
  obtain ⟨t3, e3⟩ := D.init
  obtain ⟨t4, e4⟩ := D.xo
  obtain ⟨t5, e5⟩ := D.poly
  have e6 := D.rv
  have e7 := D.fn
  have e8 := D.tab
  refine' CtK.of_def2 (post := fun v l' => ∃ x' dx' es' n1, v = .ref x' ∧ l' = [(x', instObj 206 dx'), (dx', dictOf es' n1), (x, instObj 206 dx), (dx, dictOf es nn)] ∧ CrcD es' n P start last rev fx ry start ∧ (x' ≠ dx' ∧ x' ≠ x ∧ x' ≠ dx ∧ dx' ≠ x ∧ dx' ≠ dx)) [("arg", .none), ("self", .ref x)] ?ap1 ?ap2 ?hfn ?hbind ?hloc ?_ ?c1 ?c2 ?c3 ?c4
  case ap1 => (intro q hq a ha; simp only [List.mem_cons, List.not_mem_nil, or_false] at ha; rcases ha with rfl | rfl; exact (hr q hq).1; exact (hr q hq).2)
  case ap2 => exact fun _ h => nomatch h
  case hfn => (intro h X _; refine' FnIs.of_K X ?ho ?hcd; (case ho => k_is); (case hcd => k_is))
  case hbind => (intro s X _; refine' BindsTo.of_defaults ?m1 (X 160 (kdv_tup [.none]) ?m2) ?m3 ?m4 ?m5; (case m1 => exact rfl); (case m2 => kernel_rfl); (case m3 => exact rfl); (case m4 => exact rfl); (case m5 => exact rfl))
  case hloc => exact locs rfl
  case c1 => exact rfl
  case c2 => exact rfl
  case c3 => exact rfl
  case c4 => decide
  intro dp un gd outer A₀ base g L s Q B F X N T G W hd hu hret
  dsimp only [mapL] at F
  have o9 : (@Ne Nat x dx) := hx
  k_steps
  rename News _ _ _ _ => N9
  exact hret (.ret _) _ _ _ _ ⟨_, _, _, _, rfl, rfl, ⟨⟨_, rfl⟩, ⟨_, rfl⟩, ⟨_, rfl⟩, ⟨_, rfl⟩, rfl, rfl, rfl, ⟨_, rfl⟩, Nat.le_of_ble_eq_true rfl, rfl, rfl, rfl, rfl, rfl⟩, ne5 (by assumption) (by assumption)⟩ (by assumption) N9
set_option maxHeartbeats 4000000 in
theorem new1_ct (rest own : Led) (x dx : Addr) (es : List DictEntry) (nn : Nat) (n P start last : Nat) (rev : Bool) (fx ry : Addr) (crc : Nat) (hx : x ≠ dx) (hr : ∀ q ∈ rest, q.1 ≠ x ∧ q.1 ≠ dx) (D : CrcD es n P start last rev fx ry crc) (C : Nat → List Nat → Nat) (ok : CrcOk prog w p loose mean mg mb n C own fx) (ap : Apt own) (fin : FnIn own fx) (hs : start < 2 ^ n) (b : Array UInt8) (t : Tok) :
    CtK prog w p loose mean mg mb 9 own (.ref 167) [.ref x, .bytes b t] ([(x, instObj 206 dx), (dx, dictOf es nn)] ++ rest) (fun v n' => ∃ l', n' = l' ++ rest ∧ (∃ x' dx' es' n1, v = .ref x' ∧ l' = [(x', instObj 206 dx'), (dx', dictOf es' n1), (x, instObj 206 dx), (dx, dictOf es nn)] ∧ CrcD es' n P start last rev fx ry (C start (arrN b)) ∧ (x' ≠ dx' ∧ x' ≠ x ∧ x' ≠ dx ∧ dx' ≠ x ∧ dx' ≠ dx)) ∧ ∀ a ∈ l', ∀ q ∈ rest, q.1 ≠ a.1) := by
  obtain ⟨t1, e1⟩ := D.val
  obtain ⟨t2, e2⟩ := D.ds
  obtain ⟨t3, e3⟩ := D.init
  obtain ⟨t4, e4⟩ := D.xo
  obtain ⟨t5, e5⟩ := D.poly
  have e6 := D.rv
  have e7 := D.fn
  have e8 := D.tab
  refine' CtK.of_def2 (post := fun v l' => ∃ x' dx' es' n1, v = .ref x' ∧ l' = [(x', instObj 206 dx'), (dx', dictOf es' n1), (x, instObj 206 dx), (dx, dictOf es nn)] ∧ CrcD es' n P start last rev fx ry (C start (arrN b)) ∧ (x' ≠ dx' ∧ x' ≠ x ∧ x' ≠ dx ∧ dx' ≠ x ∧ dx' ≠ dx)) [("arg", .bytes b t), ("self", .ref x)] ?ap1 ?ap2 ?hfn ?hbind ?hloc ?_ ?c1 ?c2 ?c3 ?c4
  case ap1 => (intro q hq a ha; simp only [List.mem_cons, List.not_mem_nil, or_false] at ha; rcases ha with rfl | rfl; exact (hr q hq).1; exact (hr q hq).2)
  case ap2 => (intro q hq a ha e; simp only [List.mem_cons, List.not_mem_nil, or_false] at ha; rcases ha with rfl | rfl; exact (ap q hq).1 (by rw [e]); exact (ap q hq).2 _ _ (by rw [e]))
  case hfn => (intro h X _; refine' FnIs.of_K X ?ho ?hcd; (case ho => k_is); (case hcd => k_is))
  case hbind => (intro s X _; refine' BindsTo.of_defaults ?m1 (X 160 (kdv_tup [.none]) ?m2) ?m3 ?m4 ?m5; (case m1 => exact rfl); (case m2 => kernel_rfl); (case m3 => exact rfl); (case m4 => exact rfl); (case m5 => exact rfl))
  case hloc => exact locs rfl
  case c1 => exact rfl
  case c2 => exact rfl
  case c3 => exact rfl
  case c4 => decide
  intro dp un gd outer A₀ base g L s Q B F X N T G W hd hu hret
  dsimp only [mapL] at F
  have o9 : (@Ne Nat x dx) := hx
  have f9 := fin.at W
  (k_with "call ref" => ((with_reducible show wpAny _ _ (call (Value.ref 181) _) _ _ _); refine' CtK.use (update_ct [(x, instObj 206 dx), (dx, dictOf es nn)] own _ _ _ _ n P start last rev fx ry start C ?hx ?hr ?D ok ap fin hs b t) ?B ?F ?X ?N ?T ?W ?hk ?hd ?hu ?_; (case N => exact news_sub (by k_asm) (by kcf_all)); walk_at "use"; (case W => exact Knows.keeps (by assumption) (Fr.keep (by k_asm))); (case D => exact ⟨⟨_, rfl⟩, ⟨_, rfl⟩, ⟨_, rfl⟩, ⟨_, rfl⟩, rfl, rfl, rfl, ⟨_, rfl⟩, Nat.le_of_ble_eq_true rfl, rfl, rfl, rfl, rfl, rfl⟩); (case hx => exact Nat.ne_of_gt (by assumption)); (case hr => (intro q hq; simp only [List.mem_cons, List.not_mem_nil, or_false] at hq; rcases hq with rfl | rfl; exact ⟨(show (@Ne Nat _ _) from by dsimp only; omega), (show (@Ne Nat _ _) from by dsimp only; omega)⟩; exact ⟨(show (@Ne Nat _ _) from by dsimp only; omega), (show (@Ne Nat _ _) from by dsimp only; omega)⟩)); intro v9 n9 h9 tk9 hp9 F9 N9; obtain ⟨l9, q1, ⟨q2, es9, n1, q3, D9⟩, _⟩ := hp9; subst q3; subst q1; subst q2; simp only [List.cons_append, List.nil_append] at N9))
  k_steps
  rename News _ _ _ _ => N9
  exact hret (.ret _) _ _ _ _ ⟨_, _, _, _, rfl, rfl, D9, ne5 (by assumption) (by assumption)⟩ (by assumption) N9
set_option maxHeartbeats 4000000 in
theorem copy_ct (rest own : Led) (x dx : Addr) (es : List DictEntry) (nn : Nat) (n P start last : Nat) (rev : Bool) (fx ry : Addr) (crc : Nat) (hx : x ≠ dx) (hr : ∀ q ∈ rest, q.1 ≠ x ∧ q.1 ≠ dx) (D : CrcD es n P start last rev fx ry crc) :
    CtK prog w p loose mean mg mb 8 [] (.ref 174) [.ref x] ([(x, instObj 206 dx), (dx, dictOf es nn)] ++ rest) (fun v n' => ∃ l', n' = l' ++ rest ∧ (∃ x' dx' es' n1, v = .ref x' ∧ l' = [(x', instObj 206 dx'), (dx', dictOf es' n1), (x, instObj 206 dx), (dx, dictOf es nn)] ∧ CrcD es' n P start last rev fx ry crc ∧ (x' ≠ dx' ∧ x' ≠ x ∧ x' ≠ dx ∧ dx' ≠ x ∧ dx' ≠ dx)) ∧ ∀ a ∈ l', ∀ q ∈ rest, q.1 ≠ a.1) := by
  obtain ⟨t1, e1⟩ := D.val
  have m9 := D.m1
  refine' CtK.of_def2 (post := fun v l' => ∃ x' dx' es' n1, v = .ref x' ∧ l' = [(x', instObj 206 dx'), (dx', dictOf es' n1), (x, instObj 206 dx), (dx, dictOf es nn)] ∧ CrcD es' n P start last rev fx ry crc ∧ (x' ≠ dx' ∧ x' ≠ x ∧ x' ≠ dx ∧ dx' ≠ x ∧ dx' ≠ dx)) [("self", .ref x)] ?ap1 ?ap2 ?hfn ?hbind ?hloc ?_ ?c1 ?c2 ?c3 ?c4
  case ap1 => (intro q hq a ha; simp only [List.mem_cons, List.not_mem_nil, or_false] at ha; rcases ha with rfl | rfl; exact (hr q hq).1; exact (hr q hq).2)
  case ap2 => exact fun _ h => nomatch h
  walk_at "my enterK"
  intro dp un gd outer A₀ base g L s Q B F X N T G W hd hu hret
  dsimp only [mapL] at F
  have o9 : (@Ne Nat x dx) := hx
  (k_with "call ref" => ((with_reducible show wpAny _ _ (call (Value.ref 167) _) _ _ _); refine' CtK.use (new0_ct [] own x dx es nn n P start last rev fx ry crc hx nilr D) ?B ?F ?X ?N ?T ?W ?hk ?hd ?hu ?_; (case N => exact news_sub (by k_asm) (by kcf_all)); walk_at "use"; (case W => exact Knows.nil); intro v9 n9 h9 tk9 hp9 F9 N9; obtain ⟨l9, q1, ⟨x9, d9, es9, n1, q2, q3, D9, a1, a2, a3, a4, a5⟩, _⟩ := hp9; subst q3; subst q1; subst q2; obtain ⟨t9, e9⟩ := D9.val; (have len9 := D9.len); (have o8 : (@Ne Nat x9 d9) ∧ (@Ne Nat x9 x) ∧ (@Ne Nat x9 dx) ∧ (@Ne Nat d9 x) ∧ (@Ne Nat d9 dx) := ⟨a1, a2, a3, a4, a5⟩); simp only [List.append_nil] at N9))
  k_steps
  rename News _ _ _ _ => N9
  exact hret (.ret _) _ _ _ _ ⟨_, _, _, _, rfl, rfl, CrcD.put (by assumption), by assumption⟩ (by assumption) N9
end
section
example : True := by
  k_with_none
  w_top off
  trivial
variable {prog : Program} {w : World} {p : Program} {loose : List Str} {mean : ExcName → Option Value} {mg mb : Str → Option Value}
/-- the octets of c, the least first, i of them -/
def leOct (c : Nat) (i : Nat) : List Nat := (List.range i).map fun k => c >>> (8 * k) &&& 255
theorem leOct_succ (c i : Nat) : leOct c (i + 1) = leOct c i ++ [c >>> (8 * i) &&& 255] := by simp [leOct, List.range_succ]
theorem whl_by {Whl : Shared → Prop} (J : Nat → Shared → Prop) (turn : ∀ j s', J (j + 1) s' → (∀ s'', J j s'' → Whl s'') → Whl s') (stop : ∀ s', J 0 s' → Whl s') : ∀ {k : Nat} {s : Shared}, J k s → Whl s
  | 0, s, h => stop s h
  | k + 1, s, h => turn k s h fun s'' h'' => whl_by J turn stop h''
theorem whl_start_by {prog : Program} {w : World} {A : Around} {E : Value → Shared → Prop} {env : Env} {test : PySem.Expr} {body orelse : List Stmt} {pos : Pos} {Q : Flow → Shared → Prop} (J : Nat → Shared → Prop)
    (turn : ∀ j s', J (j + 1) s' → (∀ n s'', J j s'' → WhlRest prog w A E env test body orelse Q n s'') → WhlRest prog w A E env test body orelse Q 100 s') (stop : ∀ s', J 0 s' → WhlRest prog w A E env test body orelse Q 100 s') {k : Nat} {s : Shared} (h : J k s) :
    wpAny (model prog w) A (exec (.While test body orelse pos) env) Q E s :=
  whl_start 100 (whl_by (Whl := fun s' => WhlRest prog w A E env test body orelse Q 100 s') J (fun j s' hj ih => turn j s' hj fun _ => ih) stop h)
theorem map4 {m : Str → Option Value} {a1 a2 a3 a4 : Str} {v1 v2 v3 v4 : Value} (h1 : m a1 = some v1) (h2 : m a2 = some v2) (h3 : m a3 = some v3) (h4 : m a4 = some v4) (h5 : ∀ y, y ≠ a1 → y ≠ a2 → y ≠ a3 → y ≠ a4 → m y = none) : ∀ y, m y = mapL [(a1, v1), (a2, v2), (a3, v3), (a4, v4)] y := by
  intro y
  by_cases q1 : y = a1
  · subst q1; simp [mapL, h1]
  by_cases q2 : y = a2
  · subst q2; simp [mapL, q1, h2]
  by_cases q3 : y = a3
  · subst q3; simp [mapL, q1, q2, h3]
  by_cases q4 : y = a4
  · subst q4; simp [mapL, q1, q2, q3, h4]
  rw [h5 y q1 q2 q3 q4]; simp [mapL, q1, q2, q3, q4]
def Halt (P : Prop) : Prop := P
theorem Halt.mk {P : Prop} (h : Halt P) : P := h
theorem Halt.out {P : Prop} (h : P) : Halt P := h
theorem fr_eq {h₀ h : Heap} {L : Addr} {m m' : Str → Option Value} (F : Fr h₀ L h m) (e : ∀ y, m y = m' y) : Fr h₀ L h m' := (funext e : m = m') ▸ F
theorem leOct_nil (c : Nat) : IntsAre [] ((leOct c 0).map Int.ofNat) := .nil
theorem leOct_snoc {ys : List Value} {c i : Nat} {t : Tok} (h : IntsAre ys ((leOct c i).map Int.ofNat)) : IntsAre (ys ++ [.int ((c >>> (8 * i) &&& 255 : Nat) : Int) t]) ((leOct c (i + 1)).map Int.ofNat) := by
  rw [leOct_succ, List.map_append]
  exact IntsAre.append h (.cons _ t .nil)
theorem shr_succ (c i : Nat) : c >>> (8 * i) >>> 8 = c >>> (8 * (i + 1)) := by rw [← Nat.shiftRight_add, Nat.mul_add]
theorem ints_reverse : ∀ {vs : List Value} {ns : List Int}, IntsAre vs ns → IntsAre vs.reverse ns.reverse
  | _, _, .nil => .nil
  | _, _, .cons n t r => by
    rw [List.reverse_cons, List.reverse_cons]
    exact IntsAre.append (ints_reverse r) (.cons n t .nil)
theorem leOct_in (c i : Nat) : ∀ n ∈ ((leOct c i).map Int.ofNat).reverse, 0 ≤ n ∧ n < 256 := by
  intro n hn
  rw [List.mem_reverse] at hn
  obtain ⟨k, hk, rfl⟩ := List.mem_map.mp hn
  obtain ⟨j, _, rfl⟩ := List.mem_map.mp hk
  have : c >>> (8 * j) &&& 255 < 256 := Nat.lt_of_le_of_lt Nat.and_le_right (by decide)
  exact ⟨Int.natCast_nonneg _, by show ((c >>> (8 * j) &&& 255 : Nat) : Int) < 256; omega⟩
theorem octs_nats (l : List Nat) : octs ((l.map Int.ofNat).reverse) = l.reverse := by
  unfold octs
  rw [← List.map_reverse, List.map_map]
  conv => rhs; rw [← List.map_id l.reverse]
  exact List.map_congr_left fun _ _ => rfl
local macro_rules | `(tactic| walk_at "my enterK") => `(tactic| (
  (case hfn => (intro h X _; refine' FnIs.of_K X ?ho ?hcd; (case ho => k_is); (case hcd => k_is))); (case hbind => (intro s X _; exact BindsTo.of_eq rfl)); (case hloc => exact locs rfl); (case c1 => exact rfl); (case c2 => exact rfl); (case c3 => exact rfl); (case c4 => decide)))
local macro_rules | `(tactic| walk_at "my enterC") => `(tactic| (
  (case hfn => (intro h X _; refine' FnIs.of_K X ?ho ?hcd; (case ho => k_is); (case hcd => k_is))); (case hbind => (intro s X _; exact BindsTo.of_eq rfl)); (case hkind => exact rfl); (case hnd => decide +kernel); (case hbl => exact rfl); (case hbc => exact rfl); (case c1 => exact rfl); (case c2 => exact rfl); (case c3 => exact rfl)))
-- lines of our own for the walk
local macro_rules | `(tactic| walk_at "my enter") => `(tactic| (
  (case hcd => k_is); (case hbind => (intro s X; exact BindsTo.of_eq rfl)); (case hloc => exact locs rfl); (case c1 => exact rfl); (case c2 => exact rfl); (case c3 => exact rfl); (case c4 => decide)))
local macro_rules | `(tactic| walk_at "nat") => `(tactic| first | with_reducible rfl | with_reducible exact lit_nat _ | with_reducible exact mul8_nat _ | with_reducible exact shl1_nat _ | with_reducible exact sub1_nat (by omega) | with_reducible exact sub8_nat (by omega) | with_reducible exact zadd_nat (by with_reducible assumption) | with_reducible assumption | with_reducible exact (Int.toNat_of_nonneg (by with_reducible assumption)).symm | assumption | rfl | exact (Int.toNat_of_nonneg (by omega)).symm)
local macro_rules | `(tactic| walk_at "small") => `(tactic| first | assumption | exact Nat.lt_of_le_of_lt (by assumption) lt_128 | exact Nat.lt_of_lt_of_le (by assumption) (Nat.pow_le_pow_right (by decide) (by decide)) | exact Nat.lt_of_lt_of_le (Nat.xor_lt_two_pow (by assumption) (by assumption)) (Nat.pow_le_pow_right (by decide) (by decide)) | exact be_small (arrN_lt _) (by rw [arrN_length]; omega) | exact lt_big (k := 8) (by decide) (by decide) | exact lt_big (revN_lt _ _) (by omega) | exact lt_big (itF_lt (by assumption) (by assumption) (by assumption) _) (by omega))
local macro_rules | `(tactic| walk_at "binaryOp BitAnd int int") => `(tactic| (k_here; k_dflt (refine' andN ?k1 ?k2 ?_; (case k1 => walk_at "nat"); (case k2 => walk_at "nat"); k_whole); intro t9 k9; (try dsimp only)))
local macro_rules | `(tactic| walk_at "binaryOp BitOr int int") => `(tactic| (k_here; k_dflt (refine' orN ?k1 ?k2 ?_; (case k1 => walk_at "nat"); (case k2 => walk_at "nat"); k_whole); intro t9 k9; (try dsimp only)))
local macro_rules | `(tactic| walk_at "binaryOp BitXor int int") => `(tactic| (k_here; k_dflt (refine' xorN ?k1 ?k2 ?_; (case k1 => walk_at "nat"); (case k2 => walk_at "nat"); k_whole); intro t9 k9; (try dsimp only)))
local macro_rules | `(tactic| walk_at "binaryOp RShift int int") => `(tactic| (k_here; k_dflt (refine' shrN ?k1 ?k2 ?_; (case k1 => walk_at "nat"); (case k2 => walk_at "nat"); k_whole); intro t9 k9; (try dsimp only)))
local macro_rules | `(tactic| walk_at "binaryOp LShift int int") => `(tactic| (k_here; k_dflt (refine' shlN ?k1 ?k2 ?k3 ?k4 ?_; (case k1 => walk_at "nat"); (case k2 => walk_at "nat"); (case k3 => walk_at "small"); (case k4 => first | decide | omega); k_whole); intro t9 k9; (try dsimp only)))
local macro_rules | `(tactic| k_mem) => `(tactic| first
  | ((with_reducible show List.Mem (_ : Addr × Obj) (_ ++ _)); exact List.mem_append_left _ (by k_mem))
  | ((with_reducible show (_ : Addr × Obj) ∈ (_ ++ _ : List (Addr × Obj))); exact List.mem_append_left _ (by k_mem))
  | ((with_reducible show List.Mem (_ : Addr × Obj) _); (fail_if_success (with_reducible show List.Mem _ (_ :: _))); assumption)
  | ((with_reducible show (_ : Addr × Obj) ∈ _); (fail_if_success (with_reducible show _ ∈ (_ :: _))); assumption))
local macro_rules | `(tactic| walk_at "getMethod bytes") => `(tactic| (k_here; (with_reducible refine method_join ?_)))
local macro_rules | `(tactic| walk_at "call builtin:bytes.join") => `(tactic| (k_here; k_dflt (refine' join_one (News.get ?k1 ?k2) ?k3 ?k4 ?_; (case k1 => k_asm); (case k2 => k_mem); (case k3 => exact rfl); (case k4 => exact rfl))))
local macro_rules | `(tactic| walk_at "use") => `(tactic| ((case B => k_asm); (case F => k_asm); (case X => k_asm); (case T => k_asm); (case hk => first | exact rfl | assumption); (case hd => ktr_room); (case hu => ktr_units)))
local macro_rules | `(tactic| walk_at "idx") => `(tactic| (refine Nat.lt_of_lt_of_le (Nat.xor_lt_two_pow (n := 8) (by omega) (Nat.lt_of_le_of_lt Nat.and_le_right (by decide))) (by omega)))
local macro_rules | `(tactic| walk_at "subscriptTail Name BinOp ref int") => `(tactic| (k_here; k_dflt (refine' tab_item ?F ?l ?v ?k ?i ?f ?_ ?s ?g; (case F => k_asm); (case l => assumption); (case v => k_asm); (case k => with_reducible rfl); (case s => with_unfolding_all rfl); (case g => (intro _; with_unfolding_all rfl)); (case i => walk_at "idx"); (case f => omega)); intro t9))
local macro_rules | `(tactic| walk_at "binaryOp Mod int int") => `(tactic| (k_here; k_dflt (refine' modN ?k1 ?k2 ?k3 ?_; (case k1 => walk_at "nat"); (case k2 => walk_at "nat"); (case k3 => first | decide | omega); k_whole); intro t9 k9; (try dsimp only)))
local macro_rules | `(tactic| walk_at "call ref") => `(tactic| (k_here; (with_reducible show wpAny _ _ (call (Value.ref _) [Value.bytes _ _, Value.str _ _]) _ _ _); kfb_any; k_dflt (first
  | (refine fb_call_big (by k_asm) (by k_mem) (by omega) ?_)
  | (refine fb_call_little (by k_asm) (by k_mem) (by omega) ?_)); intro _ _))
local macro_rules | `(tactic| walk_at "UnrEndW") => `(tactic| k_dflt ktu_end)
local macro_rules | `(tactic| walk_at "pyIter bytes") => `(tactic| k_dflt (kstb_has; k_extra "pyIter bytes"))
local macro_rules | `(tactic| walk_at "InvEndN") => `(tactic| k_dflt kst_close)
local macro_rules | `(tactic| walk_at "subscriptTail Name Constant ref int") => `(tactic| (k_here; (with_reducible show wpAny _ _ (subscriptTail _ _ (Value.ref _) (Value.int _ _)) _ _ _); kri_at))
local macro_rules | `(tactic| walk_at "getAttr ref") => `(tactic| (k_here; k_dflt (refine' get_own ?k1 ?k2 ?k3 ?k4 ?k5 ?k6 ?k7 ?k8 ?k9 ?_; (case k1 => k_asm); (case k2 => k_asm); (case k3 => k_inst); (case k4 => k_is); (case k5 => k_is); (case k6 => k_is); (case k7 => k_is); (case k8 => assumption); (case k9 => exact rfl); k_whole)))
local macro_rules | `(tactic| walk_at "callWith ref") => `(tactic| (k_here; k_dflt (refine' callWith_F ?k1 ?_; (case k1 => exact fnAt_keep (by assumption) (by k_asm)); k_whole)))
local macro_rules | `(tactic| walk_at "FnAt") => `(tactic| (k_dflt (exact fnAt_keep (by assumption) (by k_asm))))
local macro_rules | `(tactic| walk_at "call ref") => `(tactic| (k_here; k_dflt (refine' CtK.use (CrcOk.get ?ok _ _ _ _ _ ?h0) ?B ?F ?X ?N ?T ?W ?hk ?hd ?hu ?_; (case ok => assumption); (case N => k_asm); walk_at "use"; (case h0 => assumption); (case W => exact Knows.keeps (by assumption) (Fr.keep (by k_asm)))); intro v9 n9 h9 tk9 hp9 F9 N9; obtain ⟨e1, t9, e2⟩ := hp9; subst e1; subst e2; (try dsimp only); (try k_fold)))
local macro_rules | `(tactic| walk_at "setAttr ref") => `(tactic| (k_here; k_dflt (refine' set_dict ?k1 ?k2 ?k3 ?k4 ?k5 ?k6 ?k7 ?k8 ?k9 ?k10 ?k11 ?k12 ?k13 ?_; (case k1 => k_asm); (case k2 => k_asm); (case k3 => k_asm); (case k4 => k_inst); (case k5 => exact rfl); (case k6 => k_is); (case k7 => k_is); (case k8 => k_is); (case k9 => k_is); (case k10 => exact getL_some (by assumption)); (case k11 => exact rfl); (case k12 => k_upd); (case k13 => exact Nat.le_trans (putL_len _ _ _ _ _) (by omega)); k_whole; intro h' F' N'; (try k_sweep))))
local macro_rules | `(tactic| k_room) => `(tactic| ktr_room)
local macro_rules | `(tactic| walk_at "getMethod ref") => `(tactic| (k_here; k_dflt (refine' method_inst ?k1 ?k2 ?k3 ?k4 ?k5 ?k6 ?k7 ?_; (case k1 => k_asm); (case k2 => k_asm); (case k3 => k_inst); (case k4 => k_is); (case k5 => k_is); (case k6 => k_is); (case k7 => assumption); k_whole)))
local macro_rules | `(tactic| walk_at "WhlIf") => `(tactic| first | refine WhlIf.yes (decide_eq_true (by omega)) ?_ | refine WhlIf.no (decide_eq_false (by omega)) ?_)
local macro_rules | `(tactic| walk_at "call builtin:list.append") => `(tactic| (k_here; (with_reducible show wpAny _ _ (call (Value.builtin _) [Value.ref _, _]) _ _ _); k_dflt (refine' append_K ?k1 ?k2 ?k3 ?_ ?z; (case k1 => k_asm); (case k2 => k_asm); (case k3 => k_upd); (case z => (rw [PySem.sizeLine_eq]; simp only [List.size_toArray]; omega)); k_whole); intro h' F' N'; (try k_sweep)))
local macro_rules | `(tactic| walk_at "call builtin:list.reverse") => `(tactic| (k_here; (with_reducible show wpAny _ _ (call (Value.builtin _) [Value.ref _]) _ _ _); k_dflt (refine' kl_reverse ?F ?N ?e ?U ?z ?_; (case F => k_asm); (case N => k_asm); (case e => exact rfl); (case U => k_upd); (case z => (rw [PySem.sizeLine_eq]; simp only [Array.length_toList, List.size_toArray]; omega)); k_whole); intro h' F' N'; (try simp only [List.toList_toArray] at N')))
variable {prog : Program} {w : World} {p : Program} {loose : List Str} {mean : ExcName → Option Value} {mg mb : Str → Option Value}
-- lines that serve no key: each section bears another number of lines
local macro_rules | `(tactic| walk_at "none") => `(tactic| fail)
local macro_rules | `(tactic| walk_at "none") => `(tactic| fail)
local macro_rules | `(tactic| walk_at "none") => `(tactic| fail)
local macro_rules | `(tactic| walk_at "none") => `(tactic| fail)
local macro_rules | `(tactic| walk_at "none") => `(tactic| fail)
local macro_rules | `(tactic| walk_at "none") => `(tactic| fail)
local macro_rules | `(tactic| walk_at "none") => `(tactic| fail)
local macro_rules | `(tactic| walk_at "none") => `(tactic| fail)
local macro_rules | `(tactic| walk_at "none") => `(tactic| fail)
local macro_rules | `(tactic| walk_at "none") => `(tactic| fail)
local macro_rules | `(tactic| walk_at "none") => `(tactic| fail)
local macro_rules | `(tactic| walk_at "none") => `(tactic| fail)
local macro_rules | `(tactic| walk_at "none") => `(tactic| fail)
local macro_rules | `(tactic| walk_at "none") => `(tactic| fail)
local macro_rules | `(tactic| walk_at "none") => `(tactic| fail)
local macro_rules | `(tactic| walk_at "none") => `(tactic| fail)
local macro_rules | `(tactic| walk_at "none") => `(tactic| fail)
local macro_rules | `(tactic| walk_at "none") => `(tactic| fail)
local macro_rules | `(tactic| walk_at "none") => `(tactic| fail)
local macro_rules | `(tactic| walk_at "none") => `(tactic| fail)
local macro_rules | `(tactic| walk_at "none") => `(tactic| fail)
local macro_rules | `(tactic| walk_at "none") => `(tactic| fail)
local macro_rules | `(tactic| walk_at "none") => `(tactic| fail)
local macro_rules | `(tactic| walk_at "none") => `(tactic| fail)
local macro_rules | `(tactic| walk_at "none") => `(tactic| fail)
local macro_rules | `(tactic| walk_at "none") => `(tactic| fail)
local macro_rules | `(tactic| walk_at "none") => `(tactic| fail)
local macro_rules | `(tactic| walk_at "none") => `(tactic| fail)
local macro_rules | `(tactic| walk_at "none") => `(tactic| fail)
local macro_rules | `(tactic| walk_at "none") => `(tactic| fail)
local macro_rules | `(tactic| walk_at "none") => `(tactic| fail)
local macro_rules | `(tactic| walk_at "none") => `(tactic| fail)
local macro_rules | `(tactic| walk_at "none") => `(tactic| fail)
local macro_rules | `(tactic| walk_at "none") => `(tactic| fail)
local macro_rules | `(tactic| walk_at "none") => `(tactic| fail)
local macro_rules | `(tactic| walk_at "none") => `(tactic| fail)
local macro_rules | `(tactic| walk_at "none") => `(tactic| fail)
local macro_rules | `(tactic| walk_at "none") => `(tactic| fail)
local macro_rules | `(tactic| walk_at "none") => `(tactic| fail)
local macro_rules | `(tactic| walk_at "none") => `(tactic| fail)
local macro_rules | `(tactic| walk_at "none") => `(tactic| fail)
local macro_rules | `(tactic| walk_at "none") => `(tactic| fail)
local macro_rules | `(tactic| walk_at "none") => `(tactic| fail)
local macro_rules | `(tactic| walk_at "none") => `(tactic| fail)
local macro_rules | `(tactic| walk_at "none") => `(tactic| fail)
local macro_rules | `(tactic| walk_at "none") => `(tactic| fail)
local macro_rules | `(tactic| walk_at "none") => `(tactic| fail)
local macro_rules | `(tactic| walk_at "none") => `(tactic| fail)
local macro_rules | `(tactic| walk_at "none") => `(tactic| fail)
local macro_rules | `(tactic| walk_at "none") => `(tactic| fail)
local macro_rules | `(tactic| walk_at "none") => `(tactic| fail)
local macro_rules | `(tactic| walk_at "none") => `(tactic| fail)
local macro_rules | `(tactic| walk_at "none") => `(tactic| fail)
local macro_rules | `(tactic| walk_at "none") => `(tactic| fail)
local macro_rules | `(tactic| walk_at "none") => `(tactic| fail)
local macro_rules | `(tactic| walk_at "none") => `(tactic| fail)
local macro_rules | `(tactic| walk_at "none") => `(tactic| fail)
local macro_rules | `(tactic| walk_at "none") => `(tactic| fail)
local macro_rules | `(tactic| walk_at "none") => `(tactic| fail)
local macro_rules | `(tactic| walk_at "none") => `(tactic| fail)
local macro_rules | `(tactic| walk_at "none") => `(tactic| fail)
local macro_rules | `(tactic| walk_at "none") => `(tactic| fail)
local macro_rules | `(tactic| walk_at "none") => `(tactic| fail)
local macro_rules | `(tactic| walk_at "none") => `(tactic| fail)
local macro_rules | `(tactic| walk_at "none") => `(tactic| fail)
local macro_rules | `(tactic| walk_at "none") => `(tactic| fail)
local macro_rules | `(tactic| walk_at "none") => `(tactic| fail)
local macro_rules | `(tactic| walk_at "none") => `(tactic| fail)
local macro_rules | `(tactic| walk_at "none") => `(tactic| fail)
local macro_rules | `(tactic| walk_at "none") => `(tactic| fail)
local macro_rules | `(tactic| walk_at "none") => `(tactic| fail)
local macro_rules | `(tactic| walk_at "none") => `(tactic| fail)
local macro_rules | `(tactic| walk_at "none") => `(tactic| fail)
local macro_rules | `(tactic| walk_at "none") => `(tactic| fail)
local macro_rules | `(tactic| walk_at "none") => `(tactic| fail)
section
local macro_rules | `(tactic| walk_at "WhlRest") => `(tactic| refine Halt.mk ?_)
set_option maxHeartbeats 4000000 in
theorem digest_ct (rest : Led) (x dx : Addr) (es : List DictEntry) (nn : Nat) (n P start last : Nat) (rev : Bool) (fx ry : Addr) (crc : Nat) (hx : x ≠ dx) (hr : ∀ q ∈ rest, q.1 ≠ x ∧ q.1 ≠ dx) (D : CrcD es n P start last rev fx ry crc) (h64 : n ≤ 64) :
    CtK prog w p loose mean mg mb 3 [] (.ref 188) [.ref x] ([(x, instObj 206 dx), (dx, dictOf es nn)] ++ rest) (fun v n' => ∃ l', n' = l' ++ rest ∧ (∃ b t, v = .bytes b t ∧ arrN b = (leOct crc (n / 8)).reverse ∧ l' = [(x, instObj 206 dx), (dx, dictOf es nn)]) ∧ ∀ a ∈ l', ∀ q ∈ rest, q.1 ≠ a.1) := by
  obtain ⟨t1, e1⟩ := D.val
  obtain ⟨t2, e2⟩ := D.ds
  refine' CtK.of_def2 (post := fun v l' => ∃ b t, v = .bytes b t ∧ arrN b = (leOct crc (n / 8)).reverse ∧ l' = [(x, instObj 206 dx), (dx, dictOf es nn)]) [("self", .ref x)] ?ap1 ?ap2 ?hfn ?hbind ?hloc ?_ ?c1 ?c2 ?c3 ?c4
  case ap1 => (intro q hq a ha; simp only [List.mem_cons, List.not_mem_nil, or_false] at ha; rcases ha with rfl | rfl; exact (hr q hq).1; exact (hr q hq).2)
  case ap2 => exact nilr
  walk_at "my enterK"
  intro dp un gd outer A₀ base g L s Q B F X N T G W hd hu hret
  dsimp only [mapL] at F
  have o9 : (@Ne Nat x dx) := hx
  (k_with "exec While Compare" => refine Halt.mk ?_)
  k_steps
  refine Halt.out ?_
  rename Fr _ _ _ _ => F9
  rename News _ _ _ _ => N9
  refine whl_start_by (J := fun j s' => ∃ l i tn tc ys nn' h tk, i + j = n / 8 ∧ s' = { s with heap := h, toks := tk } ∧ Fr g L h (mapL [("lst", .ref l), ("crc", .int ((crc >>> (8 * i) : Nat) : Int) tc), ("n", .int ((j : Nat) : Int) tn), ("self", .ref x)]) ∧ News g L h [(l, listOf ys.toArray nn'), (x, instObj 206 dx), (dx, dictOf es nn)] ∧ IntsAre ys ((leOct crc i).map Int.ofNat) ∧ (@Ne Nat l x) ∧ (@Ne Nat l dx)) ?turn ?stop (k := n / 8) ?h
  case h => exact ⟨_, 0, _, _, [], _, _, _, by omega, rfl, fr_eq F9 (map4 rfl rfl rfl rfl fun y q1 q2 q3 q4 => by simp [q1, q2, q3, q4]), N9, leOct_nil _, by omega, by omega⟩
  case turn =>
    clear F9 N9
    intro j s' hJ ih
    obtain ⟨l, i, tn, tc, ys, nn', h, tk, ej, rfl, F1, N1, hI, n1, n2⟩ := hJ
    dsimp only [mapL] at F1
    have n3 : (@Ne Nat x l) := Ne.symm n1
    have n4 : (@Ne Nat dx l) := Ne.symm n2
    have hl8 : ys.length = i := by rw [hI.length]; simp [leOct]
    have h8 : i ≤ 8 := by omega
    refine' whl_turn ?hE ?_
    case hE => passes_own
    k_steps
    refine Halt.out ?_
    rename Fr _ _ _ _ => F9
    rename News _ _ _ _ => N9
    rw [List.push_toArray] at N9
    rw [shr_succ, show ((j + 1 : Nat) : Int) - 1 = (j : Nat) by omega] at F9
    refine ih _ _ ⟨l, i + 1, _, _, ys ++ [_], _, _, _, by omega, rfl, fr_eq F9 (map4 rfl rfl rfl rfl fun y q1 q2 q3 q4 => ?_), N9, leOct_snoc hI, n1, n2⟩
    simp [q1, q2, q3, q4]
  case stop =>
    clear F9 N9
    intro s' hJ
    obtain ⟨l, i, tn, tc, ys, nn', h, tk, ej, rfl, F1, N1, hI, n1, n2⟩ := hJ
    dsimp only [mapL] at F1
    have n3 : (@Ne Nat x l) := Ne.symm n1
    have n4 : (@Ne Nat dx l) := Ne.symm n2
    have hl8 : ys.length = i := by rw [hI.length]; simp [leOct]
    have h8 : i ≤ 8 := by omega
    refine' whl_turn ?hE ?_
    case hE => passes_own
    (k_with "call type:bytes" => refine Halt.mk ?_)
    k_steps
    refine Halt.out ?_
    rename Fr _ _ _ _ => F9
    rename News _ _ _ _ => N9
    refine KBa.make_K F9 N9 rfl ⟨_, (N9 _ (.head _)).1, rfl, _, rfl⟩ (ints_reverse hI) (leOct_in crc i) (by rw [List.length_reverse, List.length_map, leOct, List.length_map, List.length_range]; omega) fun h' t' k F8 N8 hin => ?_
    exact hret (.ret _) _ _ _ _ ⟨_, _, rfl, by rw [← octs_arr, KBa.ints_make hin, octs_nats, show i = n / 8 by omega], rfl⟩ F8 (fun p hp => N8 p (.tail _ hp))
end
end
section
example : True := by
  k_with_none
  w_top off
  trivial
local macro_rules | `(tactic| walk_at "my enterK") => `(tactic| (
  (case hfn => (intro h X _; refine' FnIs.of_K X ?ho ?hcd; (case ho => k_is); (case hcd => k_is))); (case hbind => (intro s X _; exact BindsTo.of_eq rfl)); (case hloc => exact locs rfl); (case c1 => exact rfl); (case c2 => exact rfl); (case c3 => exact rfl); (case c4 => decide)))
local macro_rules | `(tactic| walk_at "my enterC") => `(tactic| (
  (case hfn => (intro h X _; refine' FnIs.of_K X ?ho ?hcd; (case ho => k_is); (case hcd => k_is))); (case hbind => (intro s X _; exact BindsTo.of_eq rfl)); (case hkind => exact rfl); (case hnd => decide +kernel); (case hbl => exact rfl); (case hbc => exact rfl); (case c1 => exact rfl); (case c2 => exact rfl); (case c3 => exact rfl)))
-- lines of our own for the walk
local macro_rules | `(tactic| walk_at "my enter") => `(tactic| (
  (case hcd => k_is); (case hbind => (intro s X; exact BindsTo.of_eq rfl)); (case hloc => exact locs rfl); (case c1 => exact rfl); (case c2 => exact rfl); (case c3 => exact rfl); (case c4 => decide)))
local macro_rules | `(tactic| walk_at "nat") => `(tactic| first | with_reducible rfl | with_reducible exact lit_nat _ | with_reducible exact mul8_nat _ | with_reducible exact shl1_nat _ | with_reducible exact sub1_nat (by omega) | with_reducible exact sub8_nat (by omega) | with_reducible exact zadd_nat (by with_reducible assumption) | with_reducible assumption | with_reducible exact (Int.toNat_of_nonneg (by with_reducible assumption)).symm | assumption | rfl | exact (Int.toNat_of_nonneg (by omega)).symm)
local macro_rules | `(tactic| walk_at "small") => `(tactic| first | assumption | exact Nat.lt_of_le_of_lt (by assumption) lt_128 | exact Nat.lt_of_lt_of_le (by assumption) (Nat.pow_le_pow_right (by decide) (by decide)) | exact Nat.lt_of_lt_of_le (Nat.xor_lt_two_pow (by assumption) (by assumption)) (Nat.pow_le_pow_right (by decide) (by decide)) | exact be_small (arrN_lt _) (by rw [arrN_length]; omega) | exact lt_big (k := 8) (by decide) (by decide) | exact lt_big (revN_lt _ _) (by omega) | exact lt_big (itF_lt (by assumption) (by assumption) (by assumption) _) (by omega))
local macro_rules | `(tactic| walk_at "binaryOp BitAnd int int") => `(tactic| (k_here; k_dflt (refine' andN ?k1 ?k2 ?_; (case k1 => walk_at "nat"); (case k2 => walk_at "nat"); k_whole); intro t9 k9; (try dsimp only)))
local macro_rules | `(tactic| walk_at "binaryOp BitOr int int") => `(tactic| (k_here; k_dflt (refine' orN ?k1 ?k2 ?_; (case k1 => walk_at "nat"); (case k2 => walk_at "nat"); k_whole); intro t9 k9; (try dsimp only)))
local macro_rules | `(tactic| walk_at "binaryOp BitXor int int") => `(tactic| (k_here; k_dflt (refine' xorN ?k1 ?k2 ?_; (case k1 => walk_at "nat"); (case k2 => walk_at "nat"); k_whole); intro t9 k9; (try dsimp only)))
local macro_rules | `(tactic| walk_at "binaryOp RShift int int") => `(tactic| (k_here; k_dflt (refine' shrN ?k1 ?k2 ?_; (case k1 => walk_at "nat"); (case k2 => walk_at "nat"); k_whole); intro t9 k9; (try dsimp only)))
local macro_rules | `(tactic| walk_at "binaryOp LShift int int") => `(tactic| (k_here; k_dflt (refine' shlN ?k1 ?k2 ?k3 ?k4 ?_; (case k1 => walk_at "nat"); (case k2 => walk_at "nat"); (case k3 => walk_at "small"); (case k4 => first | decide | omega); k_whole); intro t9 k9; (try dsimp only)))
local macro_rules | `(tactic| k_mem) => `(tactic| first
  | ((with_reducible show List.Mem (_ : Addr × Obj) (_ ++ _)); exact List.mem_append_left _ (by k_mem))
  | ((with_reducible show (_ : Addr × Obj) ∈ (_ ++ _ : List (Addr × Obj))); exact List.mem_append_left _ (by k_mem))
  | ((with_reducible show List.Mem (_ : Addr × Obj) _); (fail_if_success (with_reducible show List.Mem _ (_ :: _))); assumption)
  | ((with_reducible show (_ : Addr × Obj) ∈ _); (fail_if_success (with_reducible show _ ∈ (_ :: _))); assumption))
local macro_rules | `(tactic| walk_at "getMethod bytes") => `(tactic| (k_here; (with_reducible refine method_join ?_)))
local macro_rules | `(tactic| walk_at "call builtin:bytes.join") => `(tactic| (k_here; k_dflt (refine' join_one (News.get ?k1 ?k2) ?k3 ?k4 ?_; (case k1 => k_asm); (case k2 => k_mem); (case k3 => exact rfl); (case k4 => exact rfl))))
local macro_rules | `(tactic| walk_at "use") => `(tactic| ((case B => k_asm); (case F => k_asm); (case X => k_asm); (case T => k_asm); (case hk => first | exact rfl | assumption); (case hd => ktr_room); (case hu => ktr_units)))
local macro_rules | `(tactic| walk_at "idx") => `(tactic| (refine Nat.lt_of_lt_of_le (Nat.xor_lt_two_pow (n := 8) (by omega) (Nat.lt_of_le_of_lt Nat.and_le_right (by decide))) (by omega)))
local macro_rules | `(tactic| walk_at "subscriptTail Name BinOp ref int") => `(tactic| (k_here; k_dflt (refine' tab_item ?F ?l ?v ?k ?i ?f ?_ ?s ?g; (case F => k_asm); (case l => assumption); (case v => k_asm); (case k => with_reducible rfl); (case s => with_unfolding_all rfl); (case g => (intro _; with_unfolding_all rfl)); (case i => walk_at "idx"); (case f => omega)); intro t9))
local macro_rules | `(tactic| walk_at "binaryOp Mod int int") => `(tactic| (k_here; k_dflt (refine' modN ?k1 ?k2 ?k3 ?_; (case k1 => walk_at "nat"); (case k2 => walk_at "nat"); (case k3 => first | decide | omega); k_whole); intro t9 k9; (try dsimp only)))
local macro_rules | `(tactic| walk_at "call ref") => `(tactic| (k_here; (with_reducible show wpAny _ _ (call (Value.ref _) [Value.bytes _ _, Value.str _ _]) _ _ _); kfb_any; k_dflt (first
  | (refine fb_call_big (by k_asm) (by k_mem) (by omega) ?_)
  | (refine fb_call_little (by k_asm) (by k_mem) (by omega) ?_)); intro _ _))
local macro_rules | `(tactic| walk_at "UnrEndW") => `(tactic| k_dflt ktu_end)
local macro_rules | `(tactic| walk_at "pyIter bytes") => `(tactic| k_dflt (kstb_has; k_extra "pyIter bytes"))
local macro_rules | `(tactic| walk_at "InvEndN") => `(tactic| k_dflt kst_close)
local macro_rules | `(tactic| walk_at "subscriptTail Name Constant ref int") => `(tactic| (k_here; (with_reducible show wpAny _ _ (subscriptTail _ _ (Value.ref _) (Value.int _ _)) _ _ _); kri_at))
local macro_rules | `(tactic| walk_at "getAttr ref") => `(tactic| (k_here; k_dflt (refine' get_own ?k1 ?k2 ?k3 ?k4 ?k5 ?k6 ?k7 ?k8 ?k9 ?_; (case k1 => k_asm); (case k2 => k_asm); (case k3 => k_inst); (case k4 => k_is); (case k5 => k_is); (case k6 => k_is); (case k7 => k_is); (case k8 => assumption); (case k9 => exact rfl); k_whole)))
local macro_rules | `(tactic| walk_at "callWith ref") => `(tactic| (k_here; k_dflt (refine' callWith_F ?k1 ?_; (case k1 => exact fnAt_keep (by assumption) (by k_asm)); k_whole)))
local macro_rules | `(tactic| walk_at "FnAt") => `(tactic| (k_dflt (exact fnAt_keep (by assumption) (by k_asm))))
local macro_rules | `(tactic| walk_at "call ref") => `(tactic| (k_here; k_dflt (refine' CtK.use (CrcOk.get ?ok _ _ _ _ _ ?h0) ?B ?F ?X ?N ?T ?W ?hk ?hd ?hu ?_; (case ok => assumption); (case N => k_asm); walk_at "use"; (case h0 => assumption); (case W => exact Knows.keeps (by assumption) (Fr.keep (by k_asm)))); intro v9 n9 h9 tk9 hp9 F9 N9; obtain ⟨e1, t9, e2⟩ := hp9; subst e1; subst e2; (try dsimp only); (try k_fold)))
local macro_rules | `(tactic| walk_at "setAttr ref") => `(tactic| (k_here; k_dflt (refine' set_dict ?k1 ?k2 ?k3 ?k4 ?k5 ?k6 ?k7 ?k8 ?k9 ?k10 ?k11 ?k12 ?k13 ?_; (case k1 => k_asm); (case k2 => k_asm); (case k3 => k_asm); (case k4 => k_inst); (case k5 => exact rfl); (case k6 => k_is); (case k7 => k_is); (case k8 => k_is); (case k9 => k_is); (case k10 => exact getL_some (by assumption)); (case k11 => exact rfl); (case k12 => k_upd); (case k13 => exact Nat.le_trans (putL_len _ _ _ _ _) (by omega)); k_whole; intro h' F' N'; (try k_sweep))))
local macro_rules | `(tactic| k_room) => `(tactic| ktr_room)
local macro_rules | `(tactic| walk_at "getMethod ref") => `(tactic| (k_here; k_dflt (refine' method_inst ?k1 ?k2 ?k3 ?k4 ?k5 ?k6 ?k7 ?_; (case k1 => k_asm); (case k2 => k_asm); (case k3 => k_inst); (case k4 => k_is); (case k5 => k_is); (case k6 => k_is); (case k7 => assumption); k_whole)))
local macro_rules | `(tactic| walk_at "WhlIf") => `(tactic| first | refine WhlIf.yes (decide_eq_true (by omega)) ?_ | refine WhlIf.no (decide_eq_false (by omega)) ?_)
local macro_rules | `(tactic| walk_at "call builtin:list.append") => `(tactic| (k_here; (with_reducible show wpAny _ _ (call (Value.builtin _) [Value.ref _, _]) _ _ _); k_dflt (refine' append_K ?k1 ?k2 ?k3 ?_ ?z; (case k1 => k_asm); (case k2 => k_asm); (case k3 => k_upd); (case z => (rw [PySem.sizeLine_eq]; simp only [List.size_toArray]; omega)); k_whole); intro h' F' N'; (try k_sweep)))
local macro_rules | `(tactic| walk_at "call builtin:list.reverse") => `(tactic| (k_here; (with_reducible show wpAny _ _ (call (Value.builtin _) [Value.ref _]) _ _ _); k_dflt (refine' kl_reverse ?F ?N ?e ?U ?z ?_; (case F => k_asm); (case N => k_asm); (case e => exact rfl); (case U => k_upd); (case z => (rw [PySem.sizeLine_eq]; simp only [Array.length_toList, List.size_toArray]; omega)); k_whole); intro h' F' N'; (try simp only [List.toList_toArray] at N')))
variable {prog : Program} {w : World} {p : Program} {loose : List Str} {mean : ExcName → Option Value} {mg mb : Str → Option Value}
-- lines that serve no key: each section bears another number of lines
local macro_rules | `(tactic| walk_at "none") => `(tactic| fail)
local macro_rules | `(tactic| walk_at "none") => `(tactic| fail)
local macro_rules | `(tactic| walk_at "none") => `(tactic| fail)
local macro_rules | `(tactic| walk_at "none") => `(tactic| fail)
local macro_rules | `(tactic| walk_at "none") => `(tactic| fail)
local macro_rules | `(tactic| walk_at "none") => `(tactic| fail)
local macro_rules | `(tactic| walk_at "none") => `(tactic| fail)
local macro_rules | `(tactic| walk_at "none") => `(tactic| fail)
local macro_rules | `(tactic| walk_at "none") => `(tactic| fail)
local macro_rules | `(tactic| walk_at "none") => `(tactic| fail)
local macro_rules | `(tactic| walk_at "none") => `(tactic| fail)
local macro_rules | `(tactic| walk_at "none") => `(tactic| fail)
local macro_rules | `(tactic| walk_at "none") => `(tactic| fail)
local macro_rules | `(tactic| walk_at "none") => `(tactic| fail)
local macro_rules | `(tactic| walk_at "none") => `(tactic| fail)
local macro_rules | `(tactic| walk_at "none") => `(tactic| fail)
local macro_rules | `(tactic| walk_at "none") => `(tactic| fail)
local macro_rules | `(tactic| walk_at "none") => `(tactic| fail)
local macro_rules | `(tactic| walk_at "none") => `(tactic| fail)
local macro_rules | `(tactic| walk_at "none") => `(tactic| fail)
local macro_rules | `(tactic| walk_at "none") => `(tactic| fail)
local macro_rules | `(tactic| walk_at "none") => `(tactic| fail)
local macro_rules | `(tactic| walk_at "none") => `(tactic| fail)
local macro_rules | `(tactic| walk_at "none") => `(tactic| fail)
local macro_rules | `(tactic| walk_at "none") => `(tactic| fail)
local macro_rules | `(tactic| walk_at "none") => `(tactic| fail)
local macro_rules | `(tactic| walk_at "none") => `(tactic| fail)
local macro_rules | `(tactic| walk_at "none") => `(tactic| fail)
local macro_rules | `(tactic| walk_at "none") => `(tactic| fail)
local macro_rules | `(tactic| walk_at "none") => `(tactic| fail)
local macro_rules | `(tactic| walk_at "none") => `(tactic| fail)
local macro_rules | `(tactic| walk_at "none") => `(tactic| fail)
local macro_rules | `(tactic| walk_at "none") => `(tactic| fail)
local macro_rules | `(tactic| walk_at "none") => `(tactic| fail)
local macro_rules | `(tactic| walk_at "none") => `(tactic| fail)
local macro_rules | `(tactic| walk_at "none") => `(tactic| fail)
local macro_rules | `(tactic| walk_at "none") => `(tactic| fail)
local macro_rules | `(tactic| walk_at "none") => `(tactic| fail)
local macro_rules | `(tactic| walk_at "none") => `(tactic| fail)
local macro_rules | `(tactic| walk_at "none") => `(tactic| fail)
local macro_rules | `(tactic| walk_at "none") => `(tactic| fail)
local macro_rules | `(tactic| walk_at "none") => `(tactic| fail)
local macro_rules | `(tactic| walk_at "none") => `(tactic| fail)
local macro_rules | `(tactic| walk_at "none") => `(tactic| fail)
local macro_rules | `(tactic| walk_at "none") => `(tactic| fail)
local macro_rules | `(tactic| walk_at "none") => `(tactic| fail)
local macro_rules | `(tactic| walk_at "none") => `(tactic| fail)
local macro_rules | `(tactic| walk_at "none") => `(tactic| fail)
local macro_rules | `(tactic| walk_at "none") => `(tactic| fail)
local macro_rules | `(tactic| walk_at "none") => `(tactic| fail)
local macro_rules | `(tactic| walk_at "none") => `(tactic| fail)
local macro_rules | `(tactic| walk_at "none") => `(tactic| fail)
local macro_rules | `(tactic| walk_at "none") => `(tactic| fail)
local macro_rules | `(tactic| walk_at "none") => `(tactic| fail)
local macro_rules | `(tactic| walk_at "none") => `(tactic| fail)
local macro_rules | `(tactic| walk_at "none") => `(tactic| fail)
local macro_rules | `(tactic| walk_at "none") => `(tactic| fail)
local macro_rules | `(tactic| walk_at "none") => `(tactic| fail)
local macro_rules | `(tactic| walk_at "none") => `(tactic| fail)
local macro_rules | `(tactic| walk_at "none") => `(tactic| fail)
local macro_rules | `(tactic| walk_at "none") => `(tactic| fail)
local macro_rules | `(tactic| walk_at "none") => `(tactic| fail)
local macro_rules | `(tactic| walk_at "none") => `(tactic| fail)
local macro_rules | `(tactic| walk_at "none") => `(tactic| fail)
local macro_rules | `(tactic| walk_at "none") => `(tactic| fail)
local macro_rules | `(tactic| walk_at "none") => `(tactic| fail)
local macro_rules | `(tactic| walk_at "none") => `(tactic| fail)
local macro_rules | `(tactic| walk_at "none") => `(tactic| fail)
local macro_rules | `(tactic| walk_at "none") => `(tactic| fail)
local macro_rules | `(tactic| walk_at "none") => `(tactic| fail)
local macro_rules | `(tactic| walk_at "none") => `(tactic| fail)
local macro_rules | `(tactic| walk_at "none") => `(tactic| fail)
local macro_rules | `(tactic| walk_at "none") => `(tactic| fail)
local macro_rules | `(tactic| walk_at "none") => `(tactic| fail)
local macro_rules | `(tactic| walk_at "none") => `(tactic| fail)
local macro_rules | `(tactic| walk_at "none") => `(tactic| fail)
local macro_rules | `(tactic| walk_at "none") => `(tactic| fail)
local macro_rules | `(tactic| walk_at "none") => `(tactic| fail)
local macro_rules | `(tactic| walk_at "none") => `(tactic| fail)
local macro_rules | `(tactic| walk_at "none") => `(tactic| fail)
local macro_rules | `(tactic| walk_at "none") => `(tactic| fail)
def hexS (k : Nat) : Str := ⟨(hexT k).toArray⟩
theorem hexS_len (k : Nat) : (hexS k).length = 2 := rfl
theorem strs_append : ∀ {vs ws : List Value} {xs ys : List Str}, StrsAre vs xs → StrsAre ws ys → StrsAre (vs ++ ws) (xs ++ ys)
  | _, _, _, _, .nil, h => h
  | _, _, _, _, .cons y t r, h => .cons y t (strs_append r h)
theorem strs_reverse : ∀ {vs : List Value} {ns : List Str}, StrsAre vs ns → StrsAre vs.reverse ns.reverse
  | _, _, .nil => .nil
  | _, _, .cons n t r => by
    rw [List.reverse_cons, List.reverse_cons]
    exact strs_append (strs_reverse r) (.cons n t .nil)
theorem strs_length : ∀ {vs : List Value} {ns : List Str}, StrsAre vs ns → vs.length = ns.length
  | _, _, .nil => rfl
  | _, _, .cons _ _ r => by rw [List.length_cons, List.length_cons, strs_length r]
theorem leHex_nil (c : Nat) : StrsAre [] ((leOct c 0).map hexS) := .nil
theorem leHex_snoc {ys : List Value} {c i : Nat} {t : Tok} (h : StrsAre ys ((leOct c i).map hexS)) : StrsAre (ys ++ [.str (hexS (c >>> (8 * i) &&& 255)) t]) ((leOct c (i + 1)).map hexS) := by
  rw [leOct_succ, List.map_append]
  exact strs_append h (.cons _ t .nil)
theorem sum_hexS : ∀ l : List Nat, ((l.map hexS).map (·.length)).sum = 2 * l.length
  | [] => rfl
  | k :: r => by
    rw [List.map_cons, List.map_cons, List.sum_cons, sum_hexS r, hexS_len, List.length_cons]; omega
theorem and255_lt (c : Nat) : c &&& 255 < 256 := Nat.lt_of_le_of_lt Nat.and_le_right (by decide)
section
local macro_rules | `(tactic| walk_at "WhlRest") => `(tactic| refine Halt.mk ?_)
local macro_rules | `(tactic| walk_at "binaryOp Mod str int") => `(tactic| (k_here; k_dflt (refine mod_hex (and255_lt _) ?_); intro _ _))
set_option maxHeartbeats 4000000 in
theorem hexdigest_ct (rest : Led) (x dx : Addr) (es : List DictEntry) (nn : Nat) (n P start last : Nat) (rev : Bool) (fx ry : Addr) (crc : Nat) (hx : x ≠ dx) (hr : ∀ q ∈ rest, q.1 ≠ x ∧ q.1 ≠ dx) (D : CrcD es n P start last rev fx ry crc) (h64 : n ≤ 64) :
    CtK prog w p loose mean mg mb 3 [] (.ref 195) [.ref x] ([(x, instObj 206 dx), (dx, dictOf es nn)] ++ rest) (fun v n' => ∃ l', n' = l' ++ rest ∧ (∃ t, v = .str (Txt.join "" ((leOct crc (n / 8)).reverse.map hexS)) t ∧ l' = [(x, instObj 206 dx), (dx, dictOf es nn)]) ∧ ∀ a ∈ l', ∀ q ∈ rest, q.1 ≠ a.1) := by
  obtain ⟨t1, e1⟩ := D.val
  obtain ⟨t2, e2⟩ := D.ds
  refine' CtK.of_def2 (post := fun v l' => ∃ t, v = .str (Txt.join "" ((leOct crc (n / 8)).reverse.map hexS)) t ∧ l' = [(x, instObj 206 dx), (dx, dictOf es nn)]) [("self", .ref x)] ?ap1 ?ap2 ?hfn ?hbind ?hloc ?_ ?c1 ?c2 ?c3 ?c4
  case ap1 => (intro q hq a ha; simp only [List.mem_cons, List.not_mem_nil, or_false] at ha; rcases ha with rfl | rfl; exact (hr q hq).1; exact (hr q hq).2)
  case ap2 => exact nilr
  walk_at "my enterK"
  intro dp un gd outer A₀ base g L s Q B F X N T G W hd hu hret
  dsimp only [mapL] at F
  have o9 : (@Ne Nat x dx) := hx
  (k_with "exec While Compare" => refine Halt.mk ?_)
  k_steps
  refine Halt.out ?_
  rename Fr _ _ _ _ => F9
  rename News _ _ _ _ => N9
  refine whl_start_by (J := fun j s' => ∃ l i tn tc ys nn' h tk, i + j = n / 8 ∧ s' = { s with heap := h, toks := tk } ∧ Fr g L h (mapL [("lst", .ref l), ("crc", .int ((crc >>> (8 * i) : Nat) : Int) tc), ("n", .int ((j : Nat) : Int) tn), ("self", .ref x)]) ∧ News g L h [(l, listOf ys.toArray nn'), (x, instObj 206 dx), (dx, dictOf es nn)] ∧ StrsAre ys ((leOct crc i).map hexS) ∧ (@Ne Nat l x) ∧ (@Ne Nat l dx)) ?turn ?stop (k := n / 8) ?h
  case h => exact ⟨_, 0, _, _, [], _, _, _, by omega, rfl, fr_eq F9 (map4 rfl rfl rfl rfl fun y q1 q2 q3 q4 => by simp [q1, q2, q3, q4]), N9, leHex_nil _, by omega, by omega⟩
  case turn =>
    clear F9 N9
    intro j s' hJ ih
    obtain ⟨l, i, tn, tc, ys, nn', h, tk, ej, rfl, F1, N1, hI, n1, n2⟩ := hJ
    dsimp only [mapL] at F1
    have n3 : (@Ne Nat x l) := Ne.symm n1
    have n4 : (@Ne Nat dx l) := Ne.symm n2
    have hl8 : ys.length = i := by rw [strs_length hI]; simp [leOct]
    have h8 : i ≤ 8 := by omega
    refine' whl_turn ?hE ?_
    case hE => passes_own
    k_steps
    refine Halt.out ?_
    rename Fr _ _ _ _ => F9
    rename News _ _ _ _ => N9
    rw [List.push_toArray] at N9
    rw [shr_succ, show ((j + 1 : Nat) : Int) - 1 = (j : Nat) by omega] at F9
    refine ih _ _ ⟨l, i + 1, _, _, ys ++ [_], _, _, _, by omega, rfl, fr_eq F9 (map4 rfl rfl rfl rfl fun y q1 q2 q3 q4 => ?_), N9, leHex_snoc hI, n1, n2⟩
    simp [q1, q2, q3, q4]
  case stop =>
    clear F9 N9
    intro s' hJ
    obtain ⟨l, i, tn, tc, ys, nn', h, tk, ej, rfl, F1, N1, hI, n1, n2⟩ := hJ
    dsimp only [mapL] at F1
    have n3 : (@Ne Nat x l) := Ne.symm n1
    have n4 : (@Ne Nat dx l) := Ne.symm n2
    have hl8 : ys.length = i := by rw [strs_length hI]; simp [leOct]
    have h8 : i ≤ 8 := by omega
    refine' whl_turn ?hE ?_
    case hE => passes_own
    (k_with "call builtin:str.join" => refine Halt.mk ?_)
    k_steps
    refine Halt.out ?_
    rename Fr _ _ _ _ => F9
    rename News _ _ _ _ => N9
    refine join_list (ys := ((leOct crc i).map hexS).reverse) ⟨_, (N9 _ (.head _)).1, rfl, _, rfl⟩ (by simpa using strs_reverse hI) ?_ fun t' k => ?_
    · rw [← List.map_reverse, sum_hexS, List.length_map, show ("" : Str).length = 0 from rfl, Nat.mul_zero]; simp [leOct]; omega
    · exact hret (.ret _) _ _ _ _ ⟨_, by rw [List.map_reverse, show i = n / 8 by omega]; rfl, rfl⟩ F9 (fun p hp => N9 p (.tail _ hp))
end
end
section
example : True := by
  k_with_none
  w_top off
  trivial
-- bytes.hex and its capital letters
def hexA (b : Array UInt8) : List Nat := b.toList.flatMap fun c => [PySem.Builtin.Bytes.hexDigit (c.toNat / 16), PySem.Builtin.Bytes.hexDigit (c.toNat % 16)]
theorem hexL_len (f g : UInt8 → Nat) : ∀ l : List UInt8, (l.flatMap fun c => [f c, g c]).length = 2 * l.length
  | [] => rfl
  | c :: r => by rw [List.flatMap_cons, List.length_append, hexL_len f g r, List.length_cons]; simp; omega
theorem hexA_len (b : Array UInt8) : (hexA b).length = 2 * b.size := hexL_len _ _ _
theorem hex_fold (k : Nat → Bool) : ∀ (l : List UInt8) (i : Nat) (acc : Array Nat), (l.zipIdx i).foldl (fun (out : Array Nat) (x : UInt8 × Nat) => (out.push (PySem.Builtin.Bytes.hexDigit (x.1.toNat / 16))).push (PySem.Builtin.Bytes.hexDigit (x.1.toNat % 16))) acc
    = acc ++ (l.flatMap fun c => [PySem.Builtin.Bytes.hexDigit (c.toNat / 16), PySem.Builtin.Bytes.hexDigit (c.toNat % 16)]).toArray
  | [], _, acc => by simp
  | c :: r, i, acc => by
    rw [List.zipIdx_cons, List.foldl_cons, hex_fold k r (i + 1)]
    apply Array.ext'
    simp
theorem hex_method {prog : Program} {w : World} {A : Around} {E : Value → Shared → Prop} {s : Shared} {b : Array UInt8} {t : Tok} {pl : Sem Bool} {Q : Value × List Value → Shared → Prop} (h : Q (.builtin "bytes.hex", [.bytes b t]) s) :
    wpAny (model prog w) A (getMethod (.bytes b t) "hex" pl) Q E s :=
  getMethod_builtin (typeIs_bytes _ _ _) FB.plainAttrs_bytes FB.slot_bytes_hex FB.type_bytes_hex (fun _ e => nomatch e) h
theorem hex_call {prog : Program} {w : World} {A : Around} {E : Value → Shared → Prop} {s : Shared} {b : Array UInt8} {t : Tok} {Q : Value → Shared → Prop} (hb : b.size ≤ 100)
    (h : ∀ t' k, Q (.str ⟨(hexA b).toArray⟩ t') { s with toks := k }) : wpAny (model prog w) A (call (.builtin "bytes.hex") [.bytes b t]) Q E s := by
  refine wpAny_call_entry FB.slot_bytes_hex (typeIs_bytes s b t) FB.entry_bytes_hex ?_ (FB.args_bytes_hex_1 _)
  show wpAny _ _ (Builtin.Bytes.hexOf _ _ Builtin.Bytes.payload (fun _ => pure ()) ⟨[.bytes b t], []⟩) _ _ s
  unfold Builtin.Bytes.hexOf
  refine wpAny_bind (wpAny_of_eq (a := [none, none]) (by kernel_rfl) ?_)
  refine wpAny_bind (wpAny_of_eq (a := 1) rfl ?_)
  refine wpAny_bind (wpAny_of_eq (a := ()) rfl ?_)
  refine wpAny_bind (wpAny_of_eq (a := none) rfl ?_)
  refine wpAny_bind (wpAny_of_eq (a := b) rfl ?_)
  refine KXf.ret_text (T := ⟨(hexA b).toArray⟩) ?_ ?_ (fun t' k => ⟨_, rfl, h t' k⟩)
  · refine congrArg Str.mk ?_
    have e := hex_fold (fun _ => true) b.toList 0 #[]
    rw [show (#[] : Array Nat) ++ (b.toList.flatMap fun c => [PySem.Builtin.Bytes.hexDigit (c.toNat / 16), PySem.Builtin.Bytes.hexDigit (c.toNat % 16)]).toArray = (hexA b).toArray by simp [hexA]] at e
    exact e
  · have e := hex_fold (fun _ => true) b.toList 0 #[]
    rw [show (#[] : Array Nat) ++ (b.toList.flatMap fun c => [PySem.Builtin.Bytes.hexDigit (c.toNat / 16), PySem.Builtin.Bytes.hexDigit (c.toNat % 16)]).toArray = (hexA b).toArray by simp [hexA]] at e
    show Array.size _ ≤ sizeLine
    refine Nat.le_trans (Nat.le_of_eq (congrArg Array.size e)) ?_
    rw [List.size_toArray, hexA_len, PySem.sizeLine_eq]; omega

theorem upper_digit : ∀ k, k < 16 → PySem.Unicode.upperOf (PySem.Builtin.Bytes.hexDigit k) = [hexD k] := by decide +kernel
theorem str_cps (x y : Str) (h : x.cps.toList = y.cps.toList) : x = y := by
  cases x; cases y
  exact congrArg Str.mk (Array.toList_inj.mp h)
theorem join_cps : ∀ l : List Str, (Str.join "" l).cps.toList = l.flatMap fun x => x.cps.toList
  | [] => rfl
  | [x] => by show x.cps.toList = _; simp
  | x :: y :: r => by
    show ((x ++ "" ++ Str.join "" (y :: r) : Str)).cps.toList = _
    have e : ∀ a b : Str, (a ++ b).cps.toList = a.cps.toList ++ b.cps.toList := fun a b => by
      show (a.cps ++ b.cps).toList = _
      simp
    rw [e, e, join_cps (y :: r)]
    show x.cps.toList ++ [] ++ _ = _
    simp
theorem upper_cps (l : List Nat) : (Txt.upper ⟨l.toArray⟩).cps.toList = l.flatMap PySem.Unicode.upperOf := by
  show ((l.toArray.mapIdx fun _ c => (PySem.Unicode.upperOf c).toArray).flatten).toList = _
  rw [Array.toList_flatten, Array.toList_mapIdx]
  show ((l.mapIdx fun _ c => (PySem.Unicode.upperOf c).toArray).map Array.toList).flatten = _
  rw [List.flatMap_def, List.mapIdx_eq_zipIdx_map]
  congr 1
  conv => rhs; rw [← List.zipIdx_map_fst 0 l]
  rw [List.map_map, List.map_map]
  refine List.map_congr_left fun x _ => ?_
  show ((PySem.Unicode.upperOf x.1).toArray).toList = PySem.Unicode.upperOf x.1
  simp
theorem hex_upper (b : Array UInt8) (l : List Nat) (e : arrN b = l) : Txt.upper ⟨(hexA b).toArray⟩ = Txt.join "" (l.map hexS) := by
  apply str_cps
  unfold Txt.join
  rw [StrLaws.glued_eq_join, join_cps, upper_cps]
  subst e
  unfold hexA arrN
  rw [List.flatMap_assoc, List.map_map, List.flatMap_map]
  rw [List.flatMap_def, List.flatMap_def]
  congr 1
  refine List.map_congr_left fun c _ => ?_
  have hc := c.toNat_lt
  show [PySem.Builtin.Bytes.hexDigit (c.toNat / 16), PySem.Builtin.Bytes.hexDigit (c.toNat % 16)].flatMap _ = hexT c.toNat
  rw [List.flatMap_cons, List.flatMap_cons, List.flatMap_nil, upper_digit _ (by omega), upper_digit _ (Nat.mod_lt _ (by decide))]
  rfl
-- the octets
theorem little_octs (v k : Nat) : octs (KTBy.little k (v : Int)) = leOct v k := by
  rw [KTBy.little_eq]
  unfold octs leOct
  rw [List.map_map]
  refine List.map_congr_left fun i _ => ?_
  show ((v : Int) / 256 ^ i % 256).toNat = v >>> (8 * i) &&& 255
  have e2 : ((256 : Int) ^ i) = ((256 ^ i : Nat) : Int) := KTBy.p256 i
  rw [e2, show (255 : Nat) = 2 ^ 8 - 1 from rfl, Nat.and_two_pow_sub_one_eq_mod, Nat.shiftRight_eq_div_pow, Nat.pow_mul]
  show ((((v / 256 ^ i) % 256 : Nat) : Int)).toNat = _
  rw [Int.toNat_natCast]
theorem bytes_big {v k : Nat} {b : Array UInt8} (h : KBw.bInts b = (KTBy.little k (v : Int)).reverse) : arrN b = (leOct v k).reverse := by
  rw [← octs_arr, h]
  unfold octs
  rw [List.map_reverse]
  exact congrArg List.reverse (little_octs v k)
theorem arrN_inj {a b : Array UInt8} (h : arrN a = arrN b) : a = b := by
  apply Array.toList_inj.mp
  unfold arrN at h
  exact (List.map_inj_right fun x y e => UInt8.toNat_inj.mp e).mp h
-- two lists of tuples alike
open PySem.SeqAt in
theorem eqAt_bytes {A : Around} {s : Shared} (b : Array UInt8) (t u : Tok) : EqAt A s (.bytes b t) (.bytes b u) true := fun prog w E Q h => by
  unfold eqBool
  refine wpAny_holding ?_
  refine wpAny_ite_split (fun hab => ?_) (fun _ => ?_)
  · exact wpAny_bind (wpAny_rule (wpAny_pure h))
  · refine wpAny_bind ?_
    exact eq_bytes (wpAny_truthy_bool (by simpa using h))
/-- values that the same word tells -/
inductive Alike : Value → Value → Prop
  | int (n : Int) (t u : Tok) : Alike (.int n t) (.int n u)
  | str (x : Str) (t u : Tok) : Alike (.str x t) (.str x u)
  | bytes (b : Array UInt8) (t u : Tok) : Alike (.bytes b t) (.bytes b u)
  | bool (b : Bool) : Alike (.bool b) (.bool b)
inductive AlikeL : List Value → List Value → Prop
  | nil : AlikeL [] []
  | cons {v v' : Value} {r r' : List Value} : Alike v v' → AlikeL r r' → AlikeL (v :: r) (v' :: r')
open PySem.SeqAt in
theorem Alike.eqAt {A : Around} {s : Shared} {v v' : Value} (h : Alike v v') : EqAt A s v v' true := by
  cases h with
  | int n t u => have := EqAt.int_int (A := A) (s := s) n t n u; simpa using this
  | str x t u => have := EqAt.str_str (A := A) (s := s) x t x u; simpa using this
  | bytes b t u => exact eqAt_bytes b t u
  | bool b => exact EqAt.same _
theorem AlikeL.length : ∀ {vs ws : List Value}, AlikeL vs ws → vs.length = ws.length
  | _, _, .nil => rfl
  | _, _, .cons _ r => by rw [List.length_cons, List.length_cons, r.length]
theorem AlikeL.get : ∀ {vs ws : List Value} (_ : AlikeL vs ws) (j : Nat) (h1 : j < vs.length) (h2 : j < ws.length), Alike vs[j] ws[j]
  | _, _, .cons a _, 0, _, _ => a
  | _, _, .cons _ r, j + 1, h1, h2 => by simpa using r.get j (by simpa using h1) (by simpa using h2)
/-- tuples of a ledger whose items are alike, pair by pair -/
inductive TupsAre : List (Addr × Obj) → List Value → List Value → Prop
  | nil {news : List (Addr × Obj)} : TupsAre news [] []
  | cons {news : List (Addr × Obj)} {a b : Addr} {xs ys : List Value} {ka kb : Nat} {r r' : List Value} : (a, ({ cls := .type "tuple", data := .seq xs.toArray ka } : Obj)) ∈ news → (b, ({ cls := .type "tuple", data := .seq ys.toArray kb } : Obj)) ∈ news → AlikeL xs ys → TupsAre news r r' → TupsAre news (.ref a :: r) (.ref b :: r')
theorem TupsAre.mono {n1 n2 : List (Addr × Obj)} (h : ∀ q ∈ n1, q ∈ n2) : ∀ {vs ws : List Value}, TupsAre n1 vs ws → TupsAre n2 vs ws
  | _, _, .nil => .nil
  | _, _, .cons a b c d => .cons (h _ a) (h _ b) c (d.mono h)
theorem TupsAre.snoc {news : List (Addr × Obj)} {a b : Addr} {xs ys : List Value} {ka kb : Nat} : ∀ {vs ws : List Value}, TupsAre news vs ws → (a, ({ cls := .type "tuple", data := .seq xs.toArray ka } : Obj)) ∈ news → (b, ({ cls := .type "tuple", data := .seq ys.toArray kb } : Obj)) ∈ news → AlikeL xs ys → TupsAre news (vs ++ [.ref a]) (ws ++ [.ref b])
  | _, _, .nil, h1, h2, h3 => .cons h1 h2 h3 .nil
  | _, _, .cons a b c d, h1, h2, h3 => .cons a b c (d.snoc h1 h2 h3)
theorem TupsAre.length {news : List (Addr × Obj)} : ∀ {vs ws : List Value}, TupsAre news vs ws → vs.length = ws.length
  | _, _, .nil => rfl
  | _, _, .cons _ _ _ d => by rw [List.length_cons, List.length_cons, d.length]
open PySem.SeqAt in
theorem TupsAre.eqAt {news : List (Addr × Obj)} {A : Around} {s : Shared} {h₀ : Heap} {L : Addr} (N : News h₀ L s.heap news) (hu : A.units < cLine) : ∀ {vs ws : List Value} (_ : TupsAre news vs ws) (j : Nat) (h1 : j < vs.length) (h2 : j < ws.length), EqAt A s vs[j] ws[j] true
  | _, _, .cons (a := a) (b := b) (xs := xs) (ys := ys) ha hb hl _, 0, _, _ => by
    show EqAt A s (.ref a) (.ref b) true
    by_cases e : a = b
    · subst e; exact EqAt.same _
    · refine EqAt.of_refs e ?_
      have q := RcAt.tuples (A := A) (e := fun _ => true) ⟨_, (N _ ha).1, rfl, _, rfl⟩ ⟨_, (N _ hb).1, rfl, _, rfl⟩ hu (fun j h1 h2 => by
        have h1' : j < xs.length := by simpa using h1
        have h2' : j < ys.length := by simpa using h2
        have := (hl.get j h1' h2').eqAt (A := A.in1) (s := s)
        simpa using this)
      have e1 : xs.length = ys.length := hl.length
      have e2 : ((List.range (min xs.toArray.size ys.toArray.size)).all (fun _ => true) && xs.toArray.size == ys.toArray.size) = true := by
        rw [List.size_toArray, List.size_toArray, e1]; simp
      rw [e2] at q
      exact q
  | _, _, .cons _ _ _ r, j + 1, h1, h2 => by simpa using r.eqAt N hu j (by simpa using h1) (by simpa using h2)
theorem told_due {prog : Program} {w : World} {A : Around} {E : Value → Shared → Prop} {s : Shared} {h₀ : Heap} {L a b : Addr} {news : List (Addr × Obj)} {vs ws : List Value} {n1 n2 : Nat} {Q : Value → Shared → Prop} (N : News h₀ L s.heap news)
    (ha : (a, listOf vs.toArray n1) ∈ news) (hb : (b, listOf ws.toArray n2) ∈ news) (T : TupsAre news vs ws) (hu : A.units < cLine) (hu1 : A.in1.units < cLine) (h : Q (.bool true) s) : wpAny (model prog w) A (compareOp .Eq (.ref a) (.ref b)) Q E s := by
  refine PySem.SeqAt.eq_listAt (e := fun _ => true) ⟨_, (N _ ha).1, rfl, _, rfl⟩ ⟨_, (N _ hb).1, rfl, _, rfl⟩ (by simpa using T.length) hu (fun j h1 h2 => ?_) ?_
  · have := T.eqAt (A := A.in1) N hu1 j (by simpa using h1) (by simpa using h2)
    simpa using this
  · have e : (List.range vs.toArray.size).all (fun _ => true) = true := by simp
    rw [e]; exact h
end
section
example : True := by
  k_with_none
  w_top off
  trivial
-- what the law's loops keep
structure Ob where
  x : Addr
  dx : Addr
  es : List DictEntry
  nn : Nat
  b : Array UInt8
  t : Tok
def objsL : List Ob → Led
  | [] => []
  | o :: r => (o.x, instObj 206 o.dx) :: (o.dx, dictOf o.es o.nn) :: objsL r
theorem objsL_append : ∀ a b : List Ob, objsL (a ++ b) = objsL a ++ objsL b
  | [], _ => rfl
  | o :: r, b => by show _ :: _ :: objsL (r ++ b) = _; rw [objsL_append r b]; rfl
def refsV (xs : List Ob) : List Value := xs.map fun o => .ref o.x
def bytsV (xs : List Ob) : List Value := xs.map fun o => .bytes o.b o.t
def adrs : List Ob → List Addr
  | [] => []
  | o :: r => o.x :: o.dx :: adrs r
theorem objsL_adrs : ∀ xs : List Ob, (objsL xs).map (·.1) = adrs xs
  | [] => rfl
  | o :: r => by show _ :: _ :: (objsL r).map (·.1) = _; rw [objsL_adrs r]; rfl
theorem adrs_append : ∀ a b : List Ob, adrs (a ++ b) = adrs a ++ adrs b
  | [], _ => rfl
  | o :: r, b => by show _ :: _ :: adrs (r ++ b) = _; rw [adrs_append r b]; rfl
/-- the ledger of the loop: I, sl, lm, lf: the walker, the slice, the two lists -/
def full (its : Led) (lm lf : Addr) (vm vf : List Value) (nm nf : Nat) (own : Led) (xs : List Ob) : Led := its ++ (lm, listOf vm.toArray nm) :: (lf, listOf vf.toArray nf) :: (own ++ objsL xs)
def fullA (its : Led) (lm lf : Addr) (own : Led) (xs : List Ob) : List Addr := its.map (·.1) ++ lm :: lf :: (own.map (·.1) ++ adrs xs)
theorem full_adrs (its : Led) (lm lf : Addr) (vm vf : List Value) (nm nf : Nat) (own : Led) (xs : List Ob) : (full its lm lf vm vf nm nf own xs).map (·.1) = fullA its lm lf own xs := by
  unfold full fullA
  rw [List.map_append, List.map_cons, List.map_cons, List.map_append, objsL_adrs]
/-- the ledger with one object in front -/
def front (o : Ob) (its : Led) (lm lf : Addr) (vm vf : List Value) (nm nf : Nat) (R : Led) : Led := (o.x, instObj 206 o.dx) :: (o.dx, dictOf o.es o.nn) :: (its ++ (lm, listOf vm.toArray nm) :: (lf, listOf vf.toArray nf) :: R)
theorem front_sub {its own : Led} {lm lf : Addr} {vm vf : List Value} {nm nf : Nat} {A B : List Ob} {o : Ob} : ∀ q ∈ front o its lm lf vm vf nm nf (own ++ (objsL A ++ objsL B)), q ∈ full its lm lf vm vf nm nf own (A ++ o :: B) := by
  intro q hq
  unfold front at hq
  unfold full
  rw [objsL_append]
  show q ∈ its ++ (lm, _) :: (lf, _) :: (own ++ (objsL A ++ (o.x, instObj 206 o.dx) :: (o.dx, dictOf o.es o.nn) :: objsL B))
  simp only [List.mem_cons, List.mem_append] at hq ⊢
  grind
theorem full_sub {its own : Led} {lm lf : Addr} {vm vf : List Value} {nm nf : Nat} {A B : List Ob} {o : Ob} : ∀ q ∈ full its lm lf vm vf nm nf own (A ++ o :: B), q ∈ front o its lm lf vm vf nm nf (own ++ (objsL A ++ objsL B)) := by
  intro q hq
  unfold front
  unfold full at hq
  rw [objsL_append] at hq
  have hq' : q ∈ its ++ (lm, listOf vm.toArray nm) :: (lf, listOf vf.toArray nf) :: (own ++ (objsL A ++ (o.x, instObj 206 o.dx) :: (o.dx, dictOf o.es o.nn) :: objsL B)) := hq
  simp only [List.mem_cons, List.mem_append] at hq' ⊢
  grind
/-- what stands apart, of the object in front -/
structure Apart (x dx : Addr) (its : Led) (lm lf : Addr) (R : Led) : Prop where
  own' : (@Ne Nat x dx)
  its' : ∀ q ∈ its, (@Ne Nat q.1 x) ∧ (@Ne Nat q.1 dx) ∧ (@Ne Nat q.1 lm) ∧ (@Ne Nat q.1 lf)
  lm' : (@Ne Nat lm x) ∧ (@Ne Nat lm dx) ∧ (@Ne Nat lm lf)
  lf' : (@Ne Nat lf x) ∧ (@Ne Nat lf dx)
  rest' : ∀ q ∈ R, q.1 ≠ x ∧ q.1 ≠ dx ∧ q.1 ≠ lm ∧ q.1 ≠ lf
theorem Apart.of {its own : Led} {lm lf : Addr} {A B : List Ob} {o : Ob} (h : (fullA its lm lf own (A ++ o :: B)).Nodup) : Apart o.x o.dx its lm lf (own ++ (objsL A ++ objsL B)) := by
  unfold fullA at h
  rw [adrs_append] at h
  replace h : (its.map (·.1) ++ lm :: lf :: (own.map (·.1) ++ (adrs A ++ o.x :: o.dx :: adrs B))).Nodup := h
  simp only [List.nodup_append, List.nodup_cons, List.mem_append, List.mem_cons, not_or] at h
  have mA : ∀ q ∈ objsL A, q.1 ∈ adrs A := fun q hq => by rw [← objsL_adrs]; exact List.mem_map_of_mem hq
  have mB : ∀ q ∈ objsL B, q.1 ∈ adrs B := fun q hq => by rw [← objsL_adrs]; exact List.mem_map_of_mem hq
  have mO : ∀ q ∈ own, q.1 ∈ own.map (·.1) := fun q hq => List.mem_map_of_mem hq
  have mI : ∀ q ∈ its, q.1 ∈ its.map (·.1) := fun q hq => List.mem_map_of_mem hq
  refine ⟨?_, fun q hq => ?_, ?_, ?_, fun q hq => ?_⟩
  · grind
  · have := mI q hq
    grind
  · grind
  · grind
  · simp only [List.mem_append] at hq
    rcases hq with hq | hq | hq
    · have := mO q hq
      grind
    · have := mA q hq
      grind
    · have := mB q hq
      grind
-- rules of the law's own text
def smod (a : Int) (m : Nat) : Nat := (Int.fmod a (m : Int)).toNat
theorem smod_lt {a : Int} {m : Nat} (h : 0 < m) : smod a m < m := by
  have h1 := Int.fmod_lt_of_pos a (b := (m : Int)) (by omega)
  have h2 := Int.fmod_nonneg_of_pos a (b := (m : Int)) (by omega)
  unfold smod; omega
theorem smod_cast {a : Int} {m : Nat} (h : 0 < m) : Int.fmod a (m : Int) = (smod a m : Int) := by
  have h2 := Int.fmod_nonneg_of_pos a (b := (m : Int)) (by omega)
  unfold smod; omega
section
variable {prog : Program} {w : World} {A : Around} {E : Value → Shared → Prop} {s : Shared} {h₀ : Heap} {L l : Addr} {m : Str → Option Value} {news : Led} {x y : Int} {a b : Nat} {t u : Tok} {Q : Value → Shared → Prop}
theorem powN (ha : x = 2) (hb : y = (b : Int)) (hl : b ≤ 1000) (h : ∀ t' k, Q (.int ((2 ^ b : Nat) : Int) t') { s with toks := k }) : wpAny (model prog w) A (binaryOp .Pow (.int x t) (.int y u)) Q E s := by
  subst ha hb
  refine pow_int_small (by omega) (by omega) (by decide) ?_
  rw [Int.toNat_natCast, two_pow_cast]
  exact h _ _
theorem modI (hb : y = (b : Int)) (hp : 0 < b) (h : ∀ t' k, Q (.int ((smod x b : Nat) : Int) t') { s with toks := k }) : wpAny (model prog w) A (binaryOp .Mod (.int x t) (.int y u)) Q E s := by
  subst hb
  refine mod_int' (by omega) ?_
  rw [smod_cast hp]
  exact h _ _
theorem addN (ha : x = (a : Int)) (hb : y = (b : Int)) (h : ∀ t' k, Q (.int ((a + b : Nat) : Int) t') { s with toks := k }) : wpAny (model prog w) A (binaryOp .Add (.int x t) (.int y u)) Q E s := by
  subst ha hb
  refine PyProof.Rows.add_int ?_
  rw [← Int.natCast_add]
  exact h _ _
theorem item_tup5 {value slice : PySem.Expr} {D : Addr} {t1 t2 t3 t4 t5 : Tok} {n : Nat} {k : Int} {dd : Option Addr} {sl : Array (Option Value)} (N : News h₀ L s.heap news) (hm : (D, (⟨.type "tuple", dd, .seq #[.int 8 t1, .int 16 t2, .int 24 t3, .int 32 t4, .int 64 t5] n, sl⟩ : Obj)) ∈ news) (h0 : 0 ≤ k) (h1 : k < 5)
    (h : ∀ n t, isSize n → Q (.int (n : Nat) t) s)
    (hs : subscripted slice false (.ref D) (.int k u) = operate [.ref D, .int k u] (getItem (.ref D) (.int k u)) := by with_unfolding_all rfl) :
    wpAny (model prog w) A (subscriptTail value slice (.ref D) (.int k u)) Q E s := by
  have ht : IsTup s.heap D [.int 8 t1, .int 16 t2, .int 24 t3, .int 32 t4, .int 64 t5].toArray := ⟨_, (N _ hm).1, rfl, _, rfl⟩
  have hk : k = 0 ∨ k = 1 ∨ k = 2 ∨ k = 3 ∨ k = 4 := by omega
  rcases hk with rfl | rfl | rfl | rfl | rfl
  · exact item_tupleT ht (by decide) (by decide) rfl rfl (h 8 _ (.inl rfl)) hs
  · exact item_tupleT ht (by decide) (by decide) rfl rfl (h 16 _ (.inr (.inl rfl))) hs
  · exact item_tupleT ht (by decide) (by decide) rfl rfl (h 24 _ (.inr (.inr (.inl rfl)))) hs
  · exact item_tupleT ht (by decide) (by decide) rfl rfl (h 32 _ (.inr (.inr (.inr (.inl rfl))))) hs
  · exact item_tupleT ht (by decide) (by decide) rfl rfl (h 64 _ (.inr (.inr (.inr (.inr rfl))))) hs
theorem item_own {value slice : PySem.Expr} {vs : List Value} {n : Nat} {k : Int} {v : Value} (N : News h₀ L s.heap news) (hm : (l, listOf vs.toArray n) ∈ news) (h0 : 0 ≤ k) (hhi : k < 2 ^ 63) (hx : vs[k.toNat]? = some v) (h : Q v s)
    (hs : subscripted slice false (.ref l) (.int k u) = operate [.ref l, .int k u] (getItem (.ref l) (.int k u)) := by with_unfolding_all rfl) :
    wpAny (model prog w) A (subscriptTail value slice (.ref l) (.int k u)) Q E s :=
  item_litK ⟨_, (N _ hm).1, rfl, _, rfl⟩ h0 hhi hx h hs
theorem set_own {D : Addr} {news' : Led} {vs : List Value} {n : Nat} {k : Int} {v : Value} {R : Unit → Shared → Prop} (F : Fr h₀ L s.heap m) (N : News h₀ L s.heap news) (U : Upd D (listOf vs.toArray n) (listOf (vs.set k.toNat v).toArray n) news news') (h0 : 0 ≤ k) (h1 : k < vs.length) (hfit : k < 2 ^ 63)
    (h : ∀ h', Fr h₀ L h' m → News h₀ L h' news' → R () { s with heap := h' }) :
    wpAny (model prog w) A (setItem (.ref D) (.int k t) v) R E s := by
  obtain ⟨pre, post, rfl, rfl, a, b⟩ := U.split
  have z := N (D, listOf vs.toArray n) (List.mem_append.mpr (.inr (.head _)))
  refine ki_setAt z.1 h0 hfit (by rw [List.size_toArray]; exact h1) (h _ (F.change (Heap.SameBut.update ..) z.2.1 z.2.2) (ki_turn _ N a b ?_ ?_))
  · show vs.toArray.setIfInBounds k.toNat v = (vs.set k.toNat v).toArray
    apply Array.toList_inj.mp
    simp
  · simp
/-- a step taken by itself, its end told by P -/
theorem cutP {M : Model} {e : Sem Value} (P : Value → Led → Prop) (h : wpAny M A e (fun v s' => ∃ n' h' tk, s' = { s with heap := h', toks := tk } ∧ P v n' ∧ Fr h₀ L h' m ∧ News h₀ L h' n') E s)
    (hQ : ∀ v n' h' tk, P v n' → Fr h₀ L h' m → News h₀ L h' n' → Q v { s with heap := h', toks := tk }) : wpAny M A e Q E s :=
  wpAny_mono h (fun v s' q => by obtain ⟨n', h', tk, e, p, f, n⟩ := q; subst e; exact hQ v n' h' tk p f n) fun _ _ e => e
theorem cutFN {M : Model} {e : Sem Value} (_F : Fr h₀ L s.heap m) (_N : News h₀ L s.heap news) (P : Value → Prop) (h : wpAny M A e (fun v s' => ∃ h' tk, s' = { s with heap := h', toks := tk } ∧ P v ∧ Fr h₀ L h' m ∧ News h₀ L h' news) E s)
    (hQ : ∀ v h' tk, P v → Fr h₀ L h' m → News h₀ L h' news → Q v { s with heap := h', toks := tk }) : wpAny M A e Q E s :=
  wpAny_mono h (fun v s' q => by obtain ⟨h', tk, e, p, f, n⟩ := q; subst e; exact hQ v h' tk p f n) fun _ _ e => e
/-- the same, of a step that makes objects -/
def CutEnd (h₀ : Heap) (L : Addr) (m : Str → Option Value) (s : Shared) (P : Value → Led → Prop) (v : Value) (s' : Shared) : Prop := ∃ n' h' tk, s' = { s with heap := h', toks := tk } ∧ P v n' ∧ Fr h₀ L h' m ∧ News h₀ L h' n'
theorem CutEnd.mk {P : Value → Led → Prop} {v : Value} {n' : Led} {h' : Heap} {tk : Nat} (F : Fr h₀ L h' m) (N : News h₀ L h' n') (p : P v n') : CutEnd h₀ L m s P v { s with heap := h', toks := tk } := ⟨n', h', tk, rfl, p, F, N⟩
theorem cutFP {M : Model} {e : Sem Value} (_F : Fr h₀ L s.heap m) (P : Value → Led → Prop) (h : wpAny M A e (CutEnd h₀ L m s P) E s)
    (hQ : ∀ v n' h' tk, P v n' → Fr h₀ L h' m → News h₀ L h' n' → Q v { s with heap := h', toks := tk }) : wpAny M A e Q E s := cutP P h hQ
theorem divNN {n : Nat} (ha : x = (a : Int)) (hb : y = (n : Int)) (hn : 0 < n ∧ n < 1073741824) (h : ∀ t' k, Q (.int ((a / n : Nat) : Int) t') { s with toks := k }) : wpAny (model prog w) A (binaryOp .FloorDiv (.int x t) (.int y u)) Q E s := by
  subst ha hb
  refine floordiv_int (by omega) ?_ (Or.inl (PyProof.noPylong_small (by rw [Int.natAbs_natCast]; exact hn.2)))
  rw [Int.fdiv_eq_ediv_of_nonneg _ (Int.natCast_nonneg _), ← Int.natCast_ediv]
  exact h _ _
end
def AllNe (d : Nat) : Led → Prop
  | [] => True
  | p :: r => (@Ne Nat p.1 d) ∧ AllNe d r
theorem allNe_of {d : Addr} : ∀ {l : Led}, (∀ p ∈ l, p.1 ≠ d) → AllNe d l
  | [], _ => trivial
  | p :: _, h => ⟨h p (.head _), allNe_of fun q hq => h q (.tail _ hq)⟩
theorem allNe_of1 {a : Addr} {o : Obj} {l : Led} (h : ∀ q ∈ [(a, o)], ∀ p ∈ l, p.1 ≠ q.1) : AllNe a l := allNe_of (h (a, o) (.head _))
theorem own_last {h₀ h : Heap} {L : Addr} {q : Addr × Obj} {own rest : Led} (N : News h₀ L h ((q :: own) ++ rest)) : News h₀ L h (q :: rest ++ own) := fun p hp => N p (by
  simp only [List.mem_append, List.mem_cons] at hp ⊢
  rcases hp with (h | h) | h
  · exact .inl (.inl h)
  · exact .inr h
  · exact .inl (.inr h))
theorem own_off {x : Addr} {o : Obj} {own rest : Led} (h : ∀ a ∈ (x, o) :: own, ∀ p ∈ rest, p.1 ≠ a.1) : AllNe x rest ∧ ∀ p ∈ rest, ∀ a ∈ own, a.1 ≠ p.1 :=
  ⟨allNe_of fun p hp => h (x, o) (.head _) p hp, fun p hp a ha e => h a (.tail _ ha) p hp e.symm⟩
theorem name_it {α : Type} (n : α) : ∃ m, m = n := ⟨n, rfl⟩
theorem name_size {n : Nat} (_ : isSize n) : ∃ m, m = n := ⟨n, rfl⟩
def ov : List (Str × Value) → (Str → Option Value) → Str → Option Value
  | [], m => m
  | p :: r, m => fun y => if y = p.1 then some p.2 else ov r m y
theorem ov_eq {m : Str → Option Value} : ∀ {l : List (Str × Value)}, (∀ p ∈ l, m p.1 = some p.2) → m = ov l m
  | [], _ => rfl
  | p :: r, h => by
    funext y
    show _ = if y = p.1 then some p.2 else ov r m y
    by_cases e : y = p.1
    · rw [if_pos e, e]; exact h p (.head _)
    · rw [if_neg e, ← ov_eq (l := r) fun q hq => h q (.tail _ hq)]
section
variable {prog : Program} {w : World} {A : Around} {E : Value → Shared → Prop} {s : Shared} {env : Env} {h₀ : Heap} {target : PySem.Expr} {body : List Stmt} {Q : Flow → Shared → Prop} {ws : List (Addr × String)} {keep : List (Addr × Obj)}
theorem items_ind (J : List Itm → (Str → Option Value) → Led → Prop)
    (stop : ∀ m news, J [] m news → ItemsRest prog w A E h₀ env target body Q s ws keep [] m news)
    (turn : ∀ a r m news, J (a :: r) m news → (∀ m' n', J r m' n' → ItemsRest prog w A E h₀ env target body Q s ws keep r m' n') → ItemsRest prog w A E h₀ env target body Q s ws keep (a :: r) m news) :
    ∀ xs m news, J xs m news → ItemsRest prog w A E h₀ env target body Q s ws keep xs m news
  | [], m, news, h => stop m news h
  | a :: r, m, news, h => turn a r m news h fun m' n' h' => items_ind J stop turn r m' n' h'
end
theorem MkRes.out {n : Nat} {C : Nat → List Nat → Nat} {r : Value} {l' : Led} (h : MkRes prog w p loose mean mg mb n C r l') : ∃ tup fx ry own, r = .ref tup ∧ l' = (tup, ({ cls := .type "tuple", data := .seq #[.ref fx, .ref ry] } : Obj)) :: own ∧ CrcOk prog w p loose mean mg mb n C own fx ∧ Apt own ∧ FnIn own fx ∧ Grown own := h
theorem apart3 {a b c x y z : Addr} {o1 o2 o3 p1 p2 p3 : Obj} (h : ((@Ne Nat a x) ∧ (@Ne Nat a y) ∧ (@Ne Nat a z)) ∧ ((@Ne Nat b x) ∧ (@Ne Nat b y) ∧ (@Ne Nat b z)) ∧ ((@Ne Nat c x) ∧ (@Ne Nat c y) ∧ (@Ne Nat c z))) : ∀ q ∈ ([(a, o1), (b, o2), (c, o3)] : Led), ∀ r ∈ ([(x, p1), (y, p2), (z, p3)] : Led), q.1 ≠ r.1 := by
  intro q hq r hr
  simp only [List.mem_cons, List.not_mem_nil, or_false] at hq hr
  obtain ⟨⟨h1, h2, h3⟩, ⟨h4, h5, h6⟩, h7, h8, h9⟩ := h
  rcases hq with rfl | rfl | rfl <;> rcases hr with rfl | rfl | rfl <;> assumption
/-- a new object of the class: x, its dict dx; own: its function's objects; q stands beside -/
def CrcNew (prog : Program) (w : World) (p : Program) (loose : List Str) (mean : ExcName → Option Value) (mg mb : Str → Option Value) (n P st la : Nat) (rev : Bool) (q : Addr × Obj) (v : Value) (n' : Led) : Prop :=
  ∃ x dx es nn fx ry own, v = .ref x ∧ n' = (x, instObj 206 dx) :: (dx, dictOf es nn) :: q :: own ∧ CrcD es n P st la rev fx ry st ∧ CrcOk prog w p loose mean mg mb n (regOf n rev (tabX rev P n) la) own fx ∧ Apt own ∧ FnIn own fx ∧ Grown own ∧
    (@Ne Nat x dx) ∧ (@Ne Nat q.1 x) ∧ (@Ne Nat q.1 dx) ∧ ∀ a ∈ own, a.1 ≠ x ∧ a.1 ≠ dx ∧ a.1 ≠ q.1
theorem cutCrc {A : Around} {E Q : Value → Shared → Prop} {s : Shared} {h₀ : Heap} {L : Addr} {m : Str → Option Value} {q : Addr × Obj} {r : Led} {e : Sem Value} (F : Fr h₀ L s.heap m) (_T : Top p loose mean mg mb h₀) (_N : News h₀ L s.heap (q :: r)) (n P st la : Nat) (rev : Bool)
    (h : wpAny (model prog w) A e (CutEnd h₀ L m s (CrcNew prog w p loose mean mg mb n P st la rev q)) E s)
    (hQ : ∀ v n' h' tk, CrcNew prog w p loose mean mg mb n P st la rev q v n' → Fr h₀ L h' m → News h₀ L h' n' → Q v { s with heap := h', toks := tk }) : wpAny (model prog w) A e Q E s := cutFP F _ h hQ
theorem crcNew_of {h₀ : Heap} {L : Addr} {m : Str → Option Value} {s : Shared} {h' : Heap} {tk : Nat} {n P st la : Nat} {rev : Bool} {q : Addr × Obj} {x dx fx ry : Addr} {es : List DictEntry} {nn : Nat} {led own : Led}
    (F : Fr h₀ L h' m) (N : News h₀ L h' led) (sub : ∀ a ∈ (x, instObj 206 dx) :: (dx, dictOf es nn) :: q :: own, a ∈ led) (D : CrcD es n P st la rev fx ry st) (ok : CrcOk prog w p loose mean mg mb n (regOf n rev (tabX rev P n) la) own fx) (ap : Apt own) (fin : FnIn own fx) (gr : Grown own)
    (o1 : @Ne Nat x dx) (o2 : @Ne Nat q.1 x) (o3 : @Ne Nat q.1 dx) (w1 : ∀ a ∈ own, a.1 ≠ x) (w2 : ∀ a ∈ own, a.1 ≠ dx) (w3 : ∀ a ∈ own, a.1 ≠ q.1) :
    CutEnd h₀ L m s (CrcNew prog w p loose mean mg mb n P st la rev q) (.ref x) { s with heap := h', toks := tk } :=
  .mk F (news_sub N sub) ⟨x, dx, es, nn, fx, ry, own, rfl, rfl, D, ok, ap, fin, gr, o1, o2, o3, fun a ha => ⟨w1 a ha, w2 a ha, w3 a ha⟩⟩
end
section
example : True := by
  k_with_none
  w_top off
  trivial
-- the loops
section
variable {prog : Program} {w : World} {A : Around} {E : Value → Shared → Prop} {s : Shared} {h₀ : Heap} {L l : Addr} {m : Str → Option Value} {news : Led} {b c : Array UInt8} {t u v : Tok} {Q : Value → Shared → Prop}
theorem p256 (k : Nat) : (256 : Nat) ^ k = 2 ^ (8 * k) := by rw [Nat.pow_mul]
theorem to_big_own {x k : Nat} {y z : Int} (hy : y = (x : Int)) (hz : z = (k : Int)) (hk : k ≤ 8) (hx : x < 2 ^ (8 * k)) (h : ∀ (b : Array UInt8) t' k', arrN b = (leOct x k).reverse → b.size = k → Q (.bytes b t') { s with toks := k' }) :
    wpAny (model prog w) A (call (.builtin "int.to_bytes") [.int y t, .int z u, .str (PySem.Str.ofString "big") v]) Q E s := by
  subst hy hz
  refine KTBy.to_big (B := ((256 ^ k : Nat) : Int)) hk (KTBy.p256 k) (by omega) (by rw [p256]; omega) (fun b t' k' h1 h2 => h b t' k' (bytes_big h1) ?_)
  rw [← KBw.ints_length, h1, h2]
theorem slice_own {value slice : PySem.Expr} {i : Int} {ti : Tok} {d : Nat} (hF : Fr h₀ L s.heap m) (hN : News h₀ L s.heap news) (hd : b.size ≤ d) (hz : d ≤ 1000)
    (h : ∀ h' (b' : Array UInt8) t' k, Fr h₀ L h' m → News h₀ L h' news → b'.size ≤ d → Q (.bytes b' t') { s with heap := h', toks := k })
    (hs : subscripted slice false (.bytes b t) (.ref s.heap.objs.size) = operate [.ref s.heap.objs.size, .bytes b t] (getItem (.bytes b t) (.ref s.heap.objs.size)) := by with_unfolding_all rfl)
    (ht : ∀ r, letTemporaryGo value (.bytes b t) r = pure () := by intro _; with_unfolding_all rfl) :
    wpAny (model prog w) A (subscriptTail value slice (.bytes b t) (.ref s.heap.objs.size)) Q E { s with heap := s.heap.push { cls := .type "slice", data := .fields #[.int i ti, .none, .none] } } :=
  KBc.slice_K hF hN rfl (by constructor) (by constructor) (by rw [KBw.ints_length]; omega) (fun h' t' k f n _ => h h' _ t' k f n (Nat.le_trans (KBc.size_picked_le _ _ _) hd)) hs ht
theorem len_own {vs : List Value} {n k : Nat} (N : News h₀ L s.heap news) (hm : (l, listOf vs.toArray n) ∈ news) (hk : vs.length = k) (hz : k ≤ 1000) (h : ∀ t' k', Q (.int (k : Nat) t') { s with toks := k' }) :
    wpAny (model prog w) A (call (.builtin "len") [.ref l]) Q E s := by
  refine PyProof.Rows.len_list (items := vs.toArray) ⟨_, (N _ hm).1, rfl, _, rfl⟩ (by rw [List.size_toArray]; omega) ?_
  rw [List.size_toArray, hk]
  exact h _ _
theorem len_b (hb : b.size ≤ 1000) (h : ∀ t' k', Q (.int (b.size : Nat) t') { s with toks := k' }) : wpAny (model prog w) A (call (.builtin "len") [.bytes b t]) Q E s := len_bytes (by omega) (h _ _)
end
theorem arrN_app (a b : Array UInt8) : arrN (a ++ b) = arrN a ++ arrN b := by simp [arrN]
section
variable {prog : Program} {w : World} {p : Program} {loose : List Str} {mean : ExcName → Option Value} {mg mb : Str → Option Value}
theorem crcD_app {es : List DictEntry} {n P st la : Nat} {rev : Bool} {fx ry : Addr} {tab : List Nat} {a b : Array UInt8} (d : CrcD es n P st la rev fx ry (regOf n rev tab la (regOf n rev tab la st (arrN a)) (arrN b))) : CrcD es n P st la rev fx ry (regOf n rev tab la st (arrN (a ++ b))) := by
  rw [regOf_append, ← arrN_app] at d
  exact d
theorem divX_lt {rev : Bool} {P n : Nat} (h64 : n ≤ 64) (hP : P < 2 ^ (n + 1)) : divX rev P n < 2 ^ 65 := by
  have h : (2 : Nat) ^ (n + 1) ≤ 2 ^ 65 := Nat.pow_le_pow_right (by decide) (by omega)
  cases rev
  · exact Nat.lt_of_lt_of_le hP h
  · exact Nat.lt_of_lt_of_le (mirrorN_lt P (n + 1)) h
theorem sum_ct (news : Led) (P n st la : Nat) (rev : Bool) (b : Array UInt8) (t1 t2 t3 t4 t5 : Tok) (sz : isSize n) (hP1 : 2 ^ n ≤ P) (hP2 : P < 2 ^ (n + 1)) (h1 : st < 2 ^ n) (h2 : la < 2 ^ n) (hb : b.size ≤ 100) :
    Ct prog w p loose mean mg mb 3 (.ref 282) [.int ((divX rev P n : Nat) : Int) t1, .int (n : Nat) t2, .int (st : Nat) t3, .int (la : Nat) t4, .bool rev, .bytes b t5] news (fun v n' => n' = news ∧ ∃ t, v = .int ((regOf n rev (tabX rev P n) la st (arrN b) : Nat) : Int) t) := by
  have h8 := sz.lo
  have h64 := sz.hi
  have hl : (2 : Nat) ^ n ≤ 2 ^ 64 := Nat.pow_le_pow_right (by decide) h64
  have e := sumX_reg (rev := rev) (l := arrN b) h8 hP2 hP1 h1 h2 (arrN_lt b)
  rw [← e]
  cases rev
  · exact sumHi_ct news _ _ _ _ b t1 t2 t3 t4 t5 (divX_lt h64 hP2) (Nat.lt_of_lt_of_le h1 hl) (Nat.lt_of_lt_of_le h2 hl) h64 hb
  · exact sumLo_ct news _ _ _ _ b t1 t2 t3 t4 t5 (divX_lt h64 hP2) (Nat.lt_of_lt_of_le h1 hl) (Nat.lt_of_lt_of_le h2 hl) hb
end
/-- all apart: the walkers' addresses, the two lists, the objects; and own apart from all these -/
def Sep (is : List Addr) (lm lf : Addr) (own : Led) (xs : List Ob) : Prop := (is ++ lm :: lf :: adrs xs).Nodup ∧ ∀ q ∈ own, q.1 ∉ is ++ lm :: lf :: adrs xs
theorem mem_adrs {xs : List Ob} : ∀ q ∈ objsL xs, q.1 ∈ adrs xs := fun q hq => by rw [← objsL_adrs]; exact List.mem_map_of_mem hq
theorem Sep.apart {its own : Led} {lm lf : Addr} {A B : List Ob} {o : Ob} (h : Sep (its.map (·.1)) lm lf own (A ++ o :: B)) : Apart o.x o.dx its lm lf (own ++ (objsL A ++ objsL B)) := by
  obtain ⟨h, ho⟩ := h
  rw [adrs_append] at h ho
  replace h : (its.map (·.1) ++ lm :: lf :: (adrs A ++ o.x :: o.dx :: adrs B)).Nodup := h
  replace ho : ∀ q ∈ own, q.1 ∉ its.map (·.1) ++ lm :: lf :: (adrs A ++ o.x :: o.dx :: adrs B) := ho
  simp only [List.nodup_append, List.nodup_cons, List.mem_append, List.mem_cons, not_or] at h ho
  have mA := @mem_adrs A
  have mB := @mem_adrs B
  have mI : ∀ q ∈ its, q.1 ∈ its.map (·.1) := fun q hq => List.mem_map_of_mem hq
  refine ⟨?_, fun q hq => ?_, ?_, ?_, fun q hq => ?_⟩
  · grind
  · have := mI q hq
    grind
  · grind
  · grind
  · simp only [List.mem_append] at hq
    rcases hq with hq | hq | hq
    · have := ho q hq
      grind
    · have := mA q hq
      grind
    · have := mB q hq
      grind
theorem Sep.same {is : List Addr} {own : Led} {lm lf : Addr} {xs ys : List Ob} (h : Sep is lm lf own xs) (e : adrs ys = adrs xs) : Sep is lm lf own ys := by unfold Sep; rw [e]; exact h
theorem Sep.more {is : List Addr} {own : Led} {lm lf : Addr} {xs : List Ob} {o : Ob} (h : Sep is lm lf own xs) (h1 : o.x ≠ o.dx) (h2 : ∀ a ∈ is ++ lm :: lf :: adrs xs, a ≠ o.x ∧ a ≠ o.dx) (h3 : ∀ q ∈ own, q.1 ≠ o.x ∧ q.1 ≠ o.dx) : Sep is lm lf own (xs ++ [o]) := by
  obtain ⟨h, ho⟩ := h
  unfold Sep
  rw [adrs_append]
  show (is ++ lm :: lf :: (adrs xs ++ [o.x, o.dx])).Nodup ∧ _
  have e : is ++ lm :: lf :: (adrs xs ++ [o.x, o.dx]) = (is ++ lm :: lf :: adrs xs) ++ [o.x, o.dx] := by simp
  have e2 : is ++ lm :: lf :: (adrs xs ++ adrs [o]) = (is ++ lm :: lf :: adrs xs) ++ [o.x, o.dx] := e
  rw [e2, e]
  refine ⟨List.nodup_append.mpr ⟨h, by simp [h1], fun a ha b hb => ?_⟩, fun q hq hm => ?_⟩
  · have := h2 a ha
    simp only [List.mem_cons, List.not_mem_nil, or_false] at hb
    rcases hb with rfl | rfl
    · exact this.1
    · exact this.2
  · rcases List.mem_append.mp hm with hm | hm
    · exact ho q hq hm
    · have := h3 q hq
      simp only [List.mem_cons, List.not_mem_nil, or_false] at hm
      rcases hm with hm | hm
      · exact this.1 hm
      · exact this.2 hm
theorem refsV_mid {A B : List Ob} {o o' : Ob} (e : o'.x = o.x) : refsV (A ++ o' :: B) = refsV (A ++ o :: B) := by simp [refsV, e]
theorem adrs_mid {A B : List Ob} {o o' : Ob} (e : o'.x = o.x) (e2 : o'.dx = o.dx) : adrs (A ++ o' :: B) = adrs (A ++ o :: B) := by
  rw [adrs_append, adrs_append]
  show _ ++ o'.x :: o'.dx :: _ = _ ++ o.x :: o.dx :: _
  rw [e, e2]
theorem bytsV_mid {A B : List Ob} {o o' : Ob} : bytsV (A ++ o' :: B) = (bytsV (A ++ o :: B)).set A.length (.bytes o'.b o'.t) := by simp [bytsV]
theorem refsV_at {A B : List Ob} {o : Ob} : (refsV (A ++ o :: B))[A.length]? = some (.ref o.x) := by simp [refsV]
theorem bytsV_at {A B : List Ob} {o : Ob} : (bytsV (A ++ o :: B))[A.length]? = some (.bytes o.b o.t) := by simp [bytsV]
theorem refsV_snoc {xs : List Ob} {o : Ob} : refsV (xs ++ [o]) = refsV xs ++ [.ref o.x] := by simp [refsV]
theorem bytsV_snoc {xs : List Ob} {o : Ob} : bytsV (xs ++ [o]) = bytsV xs ++ [.bytes o.b o.t] := by simp [bytsV]
theorem refsV_len (xs : List Ob) : (refsV xs).length = xs.length := by simp [refsV]
theorem bytsV_len (xs : List Ob) : (bytsV xs).length = xs.length := by simp [bytsV]
theorem split_at {α : Type} : ∀ {xs : List α} {j : Nat}, j < xs.length → ∃ A o B, xs = A ++ o :: B ∧ A.length = j
  | x :: r, 0, _ => ⟨[], x, r, rfl, rfl⟩
  | x :: r, j + 1, h => by
    obtain ⟨A, o, B, e, l⟩ := split_at (xs := r) (j := j) (by simpa using h)
    exact ⟨x :: A, o, B, by rw [e]; rfl, by rw [List.length_cons, l]⟩
/-- the ledger with one more object behind -/
theorem front_more {its own : Led} {lm lf : Addr} {vm vf : List Value} {nm nf : Nat} {A B : List Ob} {o o' : Ob} {old : Led} (h : ∀ q ∈ (o'.x, instObj 206 o'.dx) :: (o'.dx, dictOf o'.es o'.nn) :: front o its lm lf vm vf nm nf (own ++ (objsL A ++ objsL B)), q ∈ old) : ∀ q ∈ full its lm lf vm vf nm nf own (A ++ o :: B ++ [o']), q ∈ old := by
  intro q hq
  refine h q ?_
  unfold full at hq
  rw [objsL_append, ← List.append_assoc] at hq
  have hq' : q ∈ its ++ (lm, listOf vm.toArray nm) :: (lf, listOf vf.toArray nf) :: ((own ++ objsL (A ++ o :: B)) ++ [(o'.x, instObj 206 o'.dx), (o'.dx, dictOf o'.es o'.nn)]) := hq
  have hf : q ∈ full its lm lf vm vf nm nf own (A ++ o :: B) ∨ q ∈ [(o'.x, instObj 206 o'.dx), (o'.dx, dictOf o'.es o'.nn)] := by
    unfold full
    simp only [List.mem_append, List.mem_cons] at hq' ⊢
    grind
  rcases hf with hf | hf
  · exact .tail _ (.tail _ (full_sub q hf))
  · simp only [List.mem_cons, List.not_mem_nil, or_false] at hf ⊢
    grind
theorem allLt_mem {d : Addr} : ∀ {l : Led}, AllLt d l → ∀ q ∈ l, (@LT.lt Nat _ q.1 d)
  | [], _, _, h => nomatch h
  | _ :: _, h, q, hq => by
    rcases List.mem_cons.mp hq with rfl | hq
    · exact h.1
    · exact allLt_mem h.2 q hq
theorem names4 {g h : Heap} {L sl t lf lm : Addr} {ws : List Value} {to : Obj} {tk : Tok} {k1 k2 k3 : Nat} {x : Addr} {r : Led} (_ : News g L h ((sl, listOf ws.toArray k1) :: (t, to) :: (lf, listOf #[.bytes #[] tk] k2) :: (lm, listOf #[.ref x] k3) :: r)) : ∃ a b c d e, a = sl ∧ b = lf ∧ c = lm ∧ d = tk ∧ e = ws := ⟨_, _, _, _, _, rfl, rfl, rfl, rfl, rfl⟩
theorem names_law {g h : Heap} {L lm lf : Addr} {D st la P n : Int} {t1 t2 t3 t4 t5 : Tok} {rev : Bool} {rest : Str → Option Value}
    (_ : Fr g L h (fun y => if y = "many" then some (.ref lm) else if y = "fed" then some (.ref lf) else if y = "divisor" then some (.int D t1) else if y = "start" then some (.int st t2) else if y = "end" then some (.int la t3) else if y = "poly" then some (.int P t4) else if y = "size" then some (.int n t5) else if y = "turned" then some (.bool rev) else rest y)) :
    ∃ bl : List (Str × Value), bl = ([("many", .ref lm), ("fed", .ref lf), ("divisor", .int D t1), ("start", .int st t2), ("end", .int la t3), ("poly", .int P t4), ("size", .int n t5), ("turned", .bool rev)] : List (Str × Value)) := ⟨_, rfl⟩
theorem sep0 {I sl lm lf : Addr} {own : Led} {o : Ob} (h : (@LT.lt Nat _ o.x lm) ∧ (@LT.lt Nat _ o.dx lm) ∧ (@LT.lt Nat _ lm lf) ∧ (@LT.lt Nat _ lf sl) ∧ (@LT.lt Nat _ sl I) ∧ (@Ne Nat o.x o.dx)) (a : AllLt lm own) (w1 : ∀ q ∈ own, q.1 ≠ o.x) (w2 : ∀ q ∈ own, q.1 ≠ o.dx) : Sep [I, sl] lm lf own [o] := by
  obtain ⟨h1, h2, h3, h4, h5, h6⟩ := h
  have e : [I, sl] ++ lm :: lf :: adrs [o] = [I, sl, lm, lf, o.x, o.dx] := rfl
  unfold Sep
  rw [e]
  have n1 : ∀ {a b : Nat}, b < a → ¬ a = b := fun h e => by omega
  refine ⟨?_, fun q hq hm => ?_⟩
  · simp only [List.nodup_cons, List.mem_cons, List.not_mem_nil, or_false, not_or, not_false_eq_true, List.nodup_nil, and_true]
    exact ⟨⟨n1 h5, n1 (Nat.lt_trans h3 (Nat.lt_trans h4 h5)), n1 (Nat.lt_trans h4 h5), n1 (Nat.lt_trans h1 (Nat.lt_trans h3 (Nat.lt_trans h4 h5))), n1 (Nat.lt_trans h2 (Nat.lt_trans h3 (Nat.lt_trans h4 h5)))⟩,
      ⟨n1 (Nat.lt_trans h3 h4), n1 h4, n1 (Nat.lt_trans h1 (Nat.lt_trans h3 h4)), n1 (Nat.lt_trans h2 (Nat.lt_trans h3 h4))⟩,
      ⟨fun e => n1 h3 e.symm, n1 h1, n1 h2⟩, ⟨n1 (Nat.lt_trans h1 h3), n1 (Nat.lt_trans h2 h3)⟩, h6⟩
  · have l := allLt_mem a q hq
    have n2 : ∀ {a b : Nat}, a < b → ¬ a = b := fun h e => by omega
    simp only [List.mem_cons, List.not_mem_nil, or_false] at hm
    rcases hm with hm | hm | hm | hm | hm | hm
    · exact n2 (Nat.lt_trans l (Nat.lt_trans h3 (Nat.lt_trans h4 h5))) hm
    · exact n2 (Nat.lt_trans l (Nat.lt_trans h3 h4)) hm
    · exact n2 l hm
    · exact n2 (Nat.lt_trans l h3) hm
    · exact w1 q hq hm
    · exact w2 q hq hm
theorem sep_ne {I : Addr} {its own : Led} {lm lf : Addr} {vm vf : List Value} {nm nf : Nat} {xs : List Ob} (h : Sep (I :: its.map (·.1)) lm lf own xs) : ∀ q ∈ full its lm lf vm vf nm nf own xs, q.1 ≠ I := by
  obtain ⟨h, ho⟩ := h
  rw [List.cons_append, List.nodup_cons] at h
  intro q hq e
  unfold full at hq
  simp only [List.mem_append, List.mem_cons] at hq
  have h1 := h.1
  simp only [List.mem_append, List.mem_cons, not_or] at h1
  rcases hq with hq | rfl | rfl | hq | hq
  · exact h1.1 (e ▸ List.mem_map_of_mem hq)
  · exact h1.2.1 e.symm
  · exact h1.2.2.1 e.symm
  · exact ho q hq (by rw [e]; exact .head _)
  · exact h1.2.2.2 (e ▸ mem_adrs q hq)
theorem turn_wrap {M : Model} {A : Around} {E : Value → Shared → Prop} {s₁ : Shared} {h₀ : Heap} {L : Addr} {its : Led} {α : Type} {e : Sem α} {f : α → Sem Flow} {restP : (Str → Option Value) → Led → Prop} {Q : Flow → Shared → Prop} (K : (Str → Option Value) → Led → Prop) (hK : ∀ m' n', K m' n' → (∀ p ∈ n', ∀ q ∈ its, p.1 ≠ q.1) ∧ restP m' n')
    (h : ∀ (Q' : Flow → Shared → Prop) (E' : Value → Shared → Prop), (∀ m' n' h1 tk1, K m' n' → Fr h₀ L h1 m' → News h₀ L h1 (its ++ n') → Q' .next { s₁ with heap := h1, toks := tk1 }) → wpAny M A e (fun x s₂ => wpAny M A (f x) Q' E' s₂) E' s₁) :
    wpAny M A e (fun x s₂ => wpAny M A (f x) (UnrPostW h₀ L s₁ its restP Q) E s₂) E s₁ :=
  h _ _ fun m' n' h1 tk1 k F N => ⟨h1, tk1, m', n', rfl, F, N, (hK m' n' k).1, (hK m' n' k).2⟩
theorem end_upd {g h : Heap} {L lm lf : Addr} {its own R : Led} {vm vf : List Value} {nm nf n1 : Nat} {A B xs : List Ob} {o : Ob} {es1 : List DictEntry} {b1 : Array UInt8} {t1 : Tok} {j : Nat} (ex : xs = A ++ o :: B) (eA : A.length = j) (hvm : refsV xs = vm) (hvf : bytsV xs = vf) (hR : own ++ (objsL A ++ objsL B) = R)
    (N : News g L h ((o.x, instObj 206 o.dx) :: (o.dx, dictOf es1 n1) :: (its ++ (lm, listOf vm.toArray nm) :: (lf, listOf (vf.set j (Value.bytes b1 t1)).toArray nf) :: R))) :
    News g L h (full its lm lf (refsV (A ++ ⟨o.x, o.dx, es1, n1, b1, t1⟩ :: B)) (bytsV (A ++ ⟨o.x, o.dx, es1, n1, b1, t1⟩ :: B)) nm nf own (A ++ ⟨o.x, o.dx, es1, n1, b1, t1⟩ :: B)) := by
  subst ex hvm hvf hR eA
  refine news_sub N fun q hq => ?_
  have q1 := full_sub q hq
  rw [refsV_mid (A := A) (B := B) (o := o) (o' := ⟨o.x, o.dx, es1, n1, b1, t1⟩) rfl, bytsV_mid (A := A) (B := B) (o := o) (o' := ⟨o.x, o.dx, es1, n1, b1, t1⟩)] at q1
  exact q1
theorem end_add {g h : Heap} {L lm lf : Addr} {its own R : Led} {vm vf : List Value} {nm nf : Nat} {A B xs : List Ob} {o o' : Ob} (ex : xs = A ++ o :: B) (hvm : refsV xs = vm) (hvf : bytsV xs = vf) (hR : own ++ (objsL A ++ objsL B) = R)
    (N : News g L h ((o'.x, instObj 206 o'.dx) :: (o'.dx, dictOf o'.es o'.nn) :: (o.x, instObj 206 o.dx) :: (o.dx, dictOf o.es o.nn) :: (its ++ (lm, listOf (vm ++ [Value.ref o'.x]).toArray nm) :: (lf, listOf (vf ++ [Value.bytes o'.b o'.t]).toArray nf) :: R))) :
    News g L h (full its lm lf (refsV (xs ++ [o'])) (bytsV (xs ++ [o'])) nm nf own (xs ++ [o'])) := by
  subst ex hvm hvf hR
  rw [refsV_snoc, bytsV_snoc]
  exact news_sub N (front_more fun q hq => hq)
theorem sep_add {its own R : Led} {lm lf x' dx' : Addr} {om of : Obj} {A B xs : List Ob} {o o' : Ob} (ex : xs = A ++ o :: B) (hR : own ++ (objsL A ++ objsL B) = R) (h : Sep (its.map (·.1)) lm lf own xs) (e1 : o'.x = x') (e2 : o'.dx = dx')
    (n1 : x' ≠ dx') (n2 : x' ≠ o.x) (n3 : x' ≠ o.dx) (n4 : dx' ≠ o.x) (n5 : dx' ≠ o.dx) (r1 : ∀ q ∈ its ++ (lm, om) :: (lf, of) :: R, q.1 ≠ x') (r2 : ∀ q ∈ its ++ (lm, om) :: (lf, of) :: R, q.1 ≠ dx') : Sep (its.map (·.1)) lm lf own (xs ++ [o']) := by
  subst ex hR e1 e2
  refine h.more n1 (fun a ha => ?_) (fun q hq => ⟨r1 q (by simp [hq]), r2 q (by simp [hq])⟩)
  rw [adrs_append] at ha
  have ha' : a ∈ its.map (·.1) ++ lm :: lf :: (adrs A ++ o.x :: o.dx :: adrs B) := ha
  simp only [List.mem_append, List.mem_cons] at ha'
  have gA : ∀ z ∈ adrs A, ∃ q ∈ objsL A, q.1 = z := fun z hz => by rw [← objsL_adrs] at hz; obtain ⟨q, h1, h2⟩ := List.mem_map.mp hz; exact ⟨q, h1, h2⟩
  have gB : ∀ z ∈ adrs B, ∃ q ∈ objsL B, q.1 = z := fun z hz => by rw [← objsL_adrs] at hz; obtain ⟨q, h1, h2⟩ := List.mem_map.mp hz; exact ⟨q, h1, h2⟩
  rcases ha' with ha | rfl | rfl | ha | rfl | rfl | ha
  · obtain ⟨q, h1, rfl⟩ := List.mem_map.mp ha
    exact ⟨r1 q (by simp [h1]), r2 q (by simp [h1])⟩
  · exact ⟨r1 (a, om) (by simp), r2 (a, om) (by simp)⟩
  · exact ⟨r1 (a, of) (by simp), r2 (a, of) (by simp)⟩
  · obtain ⟨q, h1, rfl⟩ := gA a ha
    exact ⟨r1 q (by simp [h1]), r2 q (by simp [h1])⟩
  · exact ⟨n2.symm, n4.symm⟩
  · exact ⟨n3.symm, n5.symm⟩
  · obtain ⟨q, h1, rfl⟩ := gB a ha
    exact ⟨r1 q (by simp [h1]), r2 q (by simp [h1])⟩
theorem off2 {x' dx' : Addr} {o1 o2 : Obj} {l2 rest : Led} (h : ∀ a ∈ (x', o1) :: (dx', o2) :: l2, ∀ q ∈ rest, q.1 ≠ a.1) : (∀ q ∈ rest, q.1 ≠ x') ∧ ∀ q ∈ rest, q.1 ≠ dx' := ⟨fun q hq => h _ (.head _) q hq, fun q hq => h _ (.tail _ (.head _)) q hq⟩
theorem hr5 {x dx a1 a2 a3 a4 : Addr} {o1 o2 o3 o4 : Obj} {R : Led} (h : ((@Ne Nat a1 x) ∧ (@Ne Nat a1 dx)) ∧ ((@Ne Nat a2 x) ∧ (@Ne Nat a2 dx)) ∧ ((@Ne Nat a3 x) ∧ (@Ne Nat a3 dx)) ∧ ((@Ne Nat a4 x) ∧ (@Ne Nat a4 dx))) (q1 : ∀ q ∈ R, q.1 ≠ x) (q2 : ∀ q ∈ R, q.1 ≠ dx) : ∀ q ∈ (a1, o1) :: (a2, o2) :: (a3, o3) :: (a4, o4) :: R, q.1 ≠ x ∧ q.1 ≠ dx := by
  obtain ⟨h1, h2, h3, h4⟩ := h
  intro q hq
  simp only [List.mem_cons] at hq
  rcases hq with rfl | rfl | rfl | rfl | hq
  · exact h1
  · exact h2
  · exact h3
  · exact h4
  · exact ⟨q1 q hq, q2 q hq⟩
section
variable {P n st la : Nat} {rev : Bool} {fx ry : Addr} {es : List DictEntry} {tab : List Nat}
theorem crcD_none {b : Array UInt8} (h : b.size = 0) (d : CrcD es n P st la rev fx ry st) : CrcD es n P st la rev fx ry (regOf n rev tab la st (arrN b)) := by
  rw [show arrN b = [] from List.eq_nil_of_length_eq_zero (by rw [arrN_length, h]), regOf_nil]; exact d
/-- what is good of an object -/
def Good (n P st la : Nat) (rev : Bool) (fx ry : Addr) (tab : List Nat) (c : Nat) (o : Ob) : Prop := CrcD o.es n P st la rev fx ry (regOf n rev tab la st (arrN o.b)) ∧ o.b.size + 2 * c ≤ 14
theorem good_mid {c : Nat} {A B xs : List Ob} {o o' : Ob} (ex : xs = A ++ o :: B) (h : ∀ z ∈ xs, CrcD z.es n P st la rev fx ry (regOf n rev tab la st (arrN z.b)) ∧ z.b.size + 2 * (c + 1) ≤ 14) (d : CrcD o'.es n P st la rev fx ry (regOf n rev tab la st (arrN o'.b))) (hb : o'.b.size + 2 * c ≤ 14) :
    ∀ z ∈ A ++ o' :: B, CrcD z.es n P st la rev fx ry (regOf n rev tab la st (arrN z.b)) ∧ z.b.size + 2 * c ≤ 14 := by
  intro z hz
  have old : z ∈ xs → CrcD z.es n P st la rev fx ry (regOf n rev tab la st (arrN z.b)) ∧ z.b.size + 2 * c ≤ 14 := fun h9 => ⟨(h z h9).1, by have := (h z h9).2; omega⟩
  rcases List.mem_append.mp hz with hz | hz
  · exact old (by rw [ex]; simp [hz])
  · rcases List.mem_cons.mp hz with rfl | hz
    · exact ⟨d, hb⟩
    · exact old (by rw [ex]; simp [hz])
theorem good_more {c : Nat} {xs : List Ob} {o' : Ob} (h : ∀ z ∈ xs, CrcD z.es n P st la rev fx ry (regOf n rev tab la st (arrN z.b)) ∧ z.b.size + 2 * (c + 1) ≤ 14) (d : CrcD o'.es n P st la rev fx ry (regOf n rev tab la st (arrN o'.b))) (hb : o'.b.size + 2 * c ≤ 14) :
    ∀ z ∈ xs ++ [o'], CrcD z.es n P st la rev fx ry (regOf n rev tab la st (arrN z.b)) ∧ z.b.size + 2 * c ≤ 14 := by
  intro z hz
  rcases List.mem_append.mp hz with hz | hz
  · exact ⟨(h z hz).1, by have := (h z hz).2; omega⟩
  · rw [List.mem_singleton.mp hz]; exact ⟨d, hb⟩
end
theorem len_mid {A B xs : List Ob} {o o' : Ob} (ex : xs = A ++ o :: B) : (A ++ o' :: B).length = xs.length := by rw [ex]; simp
theorem size_app (a b : Array UInt8) : (a ++ b).size = a.size + b.size := Array.size_append
end
section
example : True := by
  k_with_none
  w_top off
  trivial
-- the last loop
theorem up_own {prog : Program} {w : World} {A : Around} {E : Value → Shared → Prop} {s : Shared} {b : Array UInt8} {l : List Nat} {t : Tok} {Q : Value → Shared → Prop} (hb : b.size ≤ 100) (e : arrN b = l) (h : ∀ t' k, Q (.str (Txt.join "" (l.map hexS)) t') { s with toks := k }) :
    wpAny (model prog w) A (call (.builtin "str.upper") [.str ⟨(hexA b).toArray⟩ t]) Q E s := by
  refine KXw.upper (hex_upper b l e) (fit_upper ?_) h
  show (hexA b).toArray.size ≤ _
  rw [List.size_toArray, hexA_len]; omega
def led2 (lt ld lm lf : Addr) (vt vd vm vf : List Value) (nt nd nm nf : Nat) (Ts own : Led) (xs : List Ob) : Led := (lt, listOf vt.toArray nt) :: (ld, listOf vd.toArray nd) :: (Ts ++ (lm, listOf vm.toArray nm) :: (lf, listOf vf.toArray nf) :: (own ++ objsL xs))
/-- the orders of addresses in the last loop -/
structure Ord (I lt ld lm lf : Addr) (own : Led) (xs : List Ob) : Prop where
  h1 : (@LT.lt Nat _ lt ld) ∧ (@LT.lt Nat _ ld I) ∧ (@LT.lt Nat _ lm lt) ∧ (@LT.lt Nat _ lf lt)
  h2 : ∀ q ∈ own, @LT.lt Nat _ q.1 lt
  h3 : ∀ q ∈ objsL xs, @LT.lt Nat _ q.1 lt
theorem zip_sub {its own : Led} {lt ld lm lf : Addr} {vt vd vm vf : List Value} {nt nd nm nf : Nat} {Ts : Led} {A B xs : List Ob} {o : Ob} (ex : xs = A ++ o :: B) : ∀ q ∈ (o.x, instObj 206 o.dx) :: (o.dx, dictOf o.es o.nn) :: (its ++ (lt, listOf vt.toArray nt) :: (ld, listOf vd.toArray nd) :: (Ts ++ (lm, listOf vm.toArray nm) :: (lf, listOf vf.toArray nf) :: (own ++ (objsL A ++ objsL B)))), q ∈ its ++ led2 lt ld lm lf vt vd vm vf nt nd nm nf Ts own xs := by
  subst ex
  intro q hq
  unfold led2
  rw [objsL_append]
  show q ∈ its ++ (lt, _) :: (ld, _) :: (Ts ++ (lm, _) :: (lf, _) :: (own ++ (objsL A ++ (o.x, instObj 206 o.dx) :: (o.dx, dictOf o.es o.nn) :: objsL B)))
  simp only [List.mem_cons, List.mem_append] at hq ⊢
  grind
theorem zip_end {its own : Led} {lt ld lm lf D1 D2 : Addr} {w1 w2 : Obj} {vt vd vm vf : List Value} {nt nd nm nf : Nat} {Ts old : Led} {A B xs : List Ob} {o : Ob} (ex : xs = A ++ o :: B)
    (h : ∀ q ∈ (D1, w1) :: (D2, w2) :: (o.x, instObj 206 o.dx) :: (o.dx, dictOf o.es o.nn) :: (its ++ (lt, listOf vt.toArray nt) :: (ld, listOf vd.toArray nd) :: (Ts ++ (lm, listOf vm.toArray nm) :: (lf, listOf vf.toArray nf) :: (own ++ (objsL A ++ objsL B)))), q ∈ old) : ∀ q ∈ its ++ led2 lt ld lm lf vt vd vm vf nt nd nm nf ((D1, w1) :: (D2, w2) :: Ts) own xs, q ∈ old := by
  subst ex
  intro q hq
  refine h q ?_
  unfold led2 at hq
  rw [objsL_append] at hq
  have hq' : q ∈ its ++ (lt, listOf vt.toArray nt) :: (ld, listOf vd.toArray nd) :: (((D1, w1) :: (D2, w2) :: Ts) ++ (lm, listOf vm.toArray nm) :: (lf, listOf vf.toArray nf) :: (own ++ (objsL A ++ (o.x, instObj 206 o.dx) :: (o.dx, dictOf o.es o.nn) :: objsL B))) := hq
  simp only [List.mem_cons, List.mem_append] at hq' ⊢
  grind
theorem zip_ne {I lt ld lm lf : Addr} {vt vd vm vf : List Value} {nt nd nm nf : Nat} {Ts own : Led} {xs : List Ob} (O : Ord I lt ld lm lf own xs) (hT : ∀ q ∈ Ts, @LT.lt Nat _ (I + 4) q.1) : ∀ p ∈ led2 lt ld lm lf vt vd vm vf nt nd nm nf Ts own xs, (@LT.lt Nat _ p.1 I) ∨ (@LT.lt Nat _ (I + 4) p.1) := by
  intro p hp
  obtain ⟨⟨h1, h2, h3, h4⟩, h5, h6⟩ := O
  unfold led2 at hp
  simp only [List.mem_cons, List.mem_append] at hp
  rcases hp with rfl | rfl | hp | rfl | rfl | hp | hp
  · exact .inl (Nat.lt_trans h1 h2)
  · exact .inl h2
  · exact .inr (hT p hp)
  · exact .inl (Nat.lt_trans h3 (Nat.lt_trans h1 h2))
  · exact .inl (Nat.lt_trans h4 (Nat.lt_trans h1 h2))
  · exact .inl (Nat.lt_trans (h5 p hp) (Nat.lt_trans h1 h2))
  · exact .inl (Nat.lt_trans (h6 p hp) (Nat.lt_trans h1 h2))
/-- what the turn needs: the object in front against all else -/
theorem zip_off {I lt ld lm lf : Addr} {vm vf : List Value} {nm nf : Nat} {Ts own : Led} {A B xs : List Ob} {o : Ob} (ex : xs = A ++ o :: B) (O : Ord I lt ld lm lf own xs) (S : Sep [] lm lf own xs) (hT : ∀ q ∈ Ts, @LT.lt Nat _ (I + 4) q.1) :
    (@Ne Nat o.x o.dx) ∧ (@LT.lt Nat _ o.x lt) ∧ (@LT.lt Nat _ o.dx lt) ∧ ∀ q ∈ Ts ++ (lm, listOf vm.toArray nm) :: (lf, listOf vf.toArray nf) :: (own ++ (objsL A ++ objsL B)), q.1 ≠ o.x ∧ q.1 ≠ o.dx ∧ q.1 ≠ lt ∧ q.1 ≠ ld := by
  have ap := Sep.apart (its := []) (ex ▸ S)
  obtain ⟨⟨h1, h2, h3, h4⟩, h5, h6⟩ := O
  have hx : @LT.lt Nat _ o.x lt := h6 (o.x, instObj 206 o.dx) (by rw [ex, objsL_append]; exact List.mem_append_right _ (.head _))
  have hd : @LT.lt Nat _ o.dx lt := h6 (o.dx, dictOf o.es o.nn) (by rw [ex, objsL_append]; exact List.mem_append_right _ (.tail _ (.head _)))
  have g : ∀ {a b : Nat}, a < b → a ≠ b := fun h => Nat.ne_of_lt h
  have g' : ∀ {a b : Nat}, b < a → a ≠ b := fun h => Nat.ne_of_gt h
  refine ⟨ap.own', hx, hd, fun q hq => ?_⟩
  have low : @LT.lt Nat _ q.1 lt → q.1 ≠ lt ∧ q.1 ≠ ld := fun h => ⟨g h, g (Nat.lt_trans h h1)⟩
  simp only [List.mem_append, List.mem_cons] at hq
  rcases hq with hq | rfl | rfl | hq
  · have h7 : @LT.lt Nat _ I q.1 := Nat.lt_of_le_of_lt (Nat.le_add_right I 4) (hT q hq)
    exact ⟨g' (Nat.lt_trans hx (Nat.lt_trans h1 (Nat.lt_trans h2 h7))), g' (Nat.lt_trans hd (Nat.lt_trans h1 (Nat.lt_trans h2 h7))), g' (Nat.lt_trans h1 (Nat.lt_trans h2 h7)), g' (Nat.lt_trans h2 h7)⟩
  · exact ⟨ap.lm'.1, ap.lm'.2.1, low h3⟩
  · exact ⟨ap.lf'.1, ap.lf'.2, low h4⟩
  · have h8 := ap.rest' q (by simpa only [List.mem_append] using hq)
    refine ⟨h8.1, h8.2.1, low ?_⟩
    rcases hq with hq | hq | hq
    · exact h5 q hq
    · exact h6 q (by rw [ex, objsL_append]; exact List.mem_append_left _ hq)
    · exact h6 q (by rw [ex, objsL_append]; exact List.mem_append_right _ (.tail _ (.tail _ hq)))
theorem hr7 {x dx a1 a2 a3 a4 a5 a6 a7 : Addr} {o1 o2 o3 o4 o5 o6 o7 : Obj} {R : Led} (h : ((@Ne Nat a1 x) ∧ (@Ne Nat a1 dx)) ∧ ((@Ne Nat a2 x) ∧ (@Ne Nat a2 dx)) ∧ ((@Ne Nat a3 x) ∧ (@Ne Nat a3 dx)) ∧ ((@Ne Nat a4 x) ∧ (@Ne Nat a4 dx)) ∧ ((@Ne Nat a5 x) ∧ (@Ne Nat a5 dx)) ∧ ((@Ne Nat a6 x) ∧ (@Ne Nat a6 dx)) ∧ ((@Ne Nat a7 x) ∧ (@Ne Nat a7 dx))) (q1 : ∀ q ∈ R, q.1 ≠ x) (q2 : ∀ q ∈ R, q.1 ≠ dx) : ∀ q ∈ (a1, o1) :: (a2, o2) :: (a3, o3) :: (a4, o4) :: (a5, o5) :: (a6, o6) :: (a7, o7) :: R, q.1 ≠ x ∧ q.1 ≠ dx := by
  obtain ⟨h1, h2, h3, h4, h5, h6, h7⟩ := h
  intro q hq
  simp only [List.mem_cons] at hq
  rcases hq with rfl | rfl | rfl | rfl | rfl | rfl | rfl | hq
  · exact h1
  · exact h2
  · exact h3
  · exact h4
  · exact h5
  · exact h6
  · exact h7
  · exact ⟨q1 q hq, q2 q hq⟩
theorem zip_cons {B : List Ob} {a : Itm} {r : List Itm} (h : a :: r = zipItems (refsV B) (bytsV B)) : ∃ o B', B = o :: B' ∧ a = .pair (fun _ => .ref o.x) (.bytes o.b o.t) ∧ r = zipItems (refsV B') (bytsV B') := by
  cases B with
  | nil => cases h
  | cons o B' =>
    have h' : a :: r = .pair (fun _ => .ref o.x) (.bytes o.b o.t) :: zipItems (refsV B') (bytsV B') := h
    obtain ⟨h1, h2⟩ := List.cons.inj h'
    exact ⟨o, B', rfl, h1, h2⟩
theorem alike8 {v P st la k : Int} {b1 b2 : Array UInt8} {x : Str} {rev : Bool} {t1 t2 t3 t4 t5 t6 t7 u1 u2 u3 u4 u5 u6 u7 : Tok} (e : b1 = b2) : AlikeL [.int v t1, .bytes b1 t2, .str x t3, .int P t4, .bool rev, .int st t5, .int la t6, .int k t7] [.int v u1, .bytes b2 u2, .str x u3, .int P u4, .bool rev, .int st u5, .int la u6, .int k u7] := by
  subst e
  exact .cons (.int _ _ _) (.cons (.bytes _ _ _) (.cons (.str _ _ _) (.cons (.int _ _ _) (.cons (.bool _) (.cons (.int _ _ _) (.cons (.int _ _ _) (.cons (.int _ _ _) .nil)))))))
theorem names2 {g h : Heap} {L lt ld : Addr} {k1 k2 : Nat} {a1 a2 : Array Value} {r : Led} {q : Addr × Obj} (_ : News g L h (q :: (ld, listOf a1 k1) :: (lt, listOf a2 k2) :: r)) : ∃ a b, a = lt ∧ b = ld := ⟨_, _, rfl, rfl⟩
theorem Sep.drop {i : Addr} {is : List Addr} {lm lf : Addr} {own : Led} {xs : List Ob} (h : Sep (i :: is) lm lf own xs) : Sep is lm lf own xs := by
  obtain ⟨h, ho⟩ := h
  rw [List.cons_append, List.nodup_cons] at h
  exact ⟨h.2, fun q hq hm => ho q hq (.tail _ hm)⟩
def bl2 (bl : List (Str × Value)) (lt ld : Addr) : List (Str × Value) := bl ++ ([("told", Value.ref lt), ("due", Value.ref ld)] : List (Str × Value))
theorem zip_fin {g h : Heap} {L J lt ld lm lf D1 D2 : Addr} {z1 z2 z3 z4 z5 : Obj} {own Ts U : Led} {A B xs : List Ob} {o : Ob} {vt vd xs1 ys1 : List Value} {nt nd nm nf ka kb : Nat} (ex : xs = A ++ o :: B)
    (hU : Ts ++ (lm, listOf (refsV xs).toArray nm) :: (lf, listOf (bytsV xs).toArray nf) :: (own ++ (objsL A ++ objsL B)) = U)
    (N : News g L h ((D2, ({ cls := .type "tuple", data := .seq ys1.toArray kb } : Obj)) :: (D1, ({ cls := .type "tuple", data := .seq xs1.toArray ka } : Obj)) :: (o.x, instObj 206 o.dx) :: (o.dx, dictOf o.es o.nn) :: (J + 4, z1) :: (J + 2, z2) :: (J + 3, z3) :: (J, z4) :: (J + 1, z5) :: (lt, listOf (vt ++ [Value.ref D1]).toArray nt) :: (ld, listOf (vd ++ [Value.ref D2]).toArray nd) :: U))
    (hT : ∀ q ∈ Ts, @LT.lt Nat _ (J + 4) q.1) (hA : TupsAre Ts vt vd) (al : AlikeL xs1 ys1) (d1 : @LT.lt Nat _ (J + 4) D1) (d2 : @LT.lt Nat _ (J + 4) D2) (hl : vt.length = A.length) :
    ∃ Ts' : Led, News g L h ([(J + 4, z1), (J + 2, z2), (J + 3, z3), (J, z4), (J + 1, z5)] ++ led2 lt ld lm lf (vt ++ [Value.ref D1]) (vd ++ [Value.ref D2]) (refsV xs) (bytsV xs) nt nd nm nf Ts' own xs) ∧ (∀ q ∈ Ts', @LT.lt Nat _ (J + 4) q.1) ∧ TupsAre Ts' (vt ++ [Value.ref D1]) (vd ++ [Value.ref D2]) ∧ (vt ++ [Value.ref D1]).length = A.length + 1 := by
  subst hU
  refine ⟨(D1, ({ cls := .type "tuple", data := .seq xs1.toArray ka } : Obj)) :: (D2, ({ cls := .type "tuple", data := .seq ys1.toArray kb } : Obj)) :: Ts, news_sub N (zip_end ex fun q hq => ?_), fun q hq => ?_, ?_, by rw [List.length_append, hl]; rfl⟩
  · simp only [List.mem_append, List.mem_cons, List.not_mem_nil, or_false] at hq ⊢
    grind
  · rcases List.mem_cons.mp hq with rfl | hq
    · exact d1
    · rcases List.mem_cons.mp hq with rfl | hq
      · exact d2
      · exact hT q hq
  · exact (hA.mono fun q hq => .tail _ (.tail _ hq)).snoc (.head _) (.tail _ (.head _)) al
/-- the sum of octets, as one letter -/
def reg (n : Nat) (rev : Bool) (P la st : Nat) (b : Array UInt8) : Nat := regOf n rev (tabX rev P n) la st (arrN b)
section
variable {prog : Program} {w : World} {p : Program} {loose : List Str} {mean : ExcName → Option Value} {mg mb : Str → Option Value} {n P st la : Nat} {rev : Bool} {Gf : Array UInt8 → Nat} {fx ry : Addr} {own : Led}
theorem reg_sum (e : Gf = reg n rev P la st) (sz : isSize n) (hP1 : 2 ^ n ≤ P) (hP2 : P < 2 ^ (n + 1)) (h1 : st < 2 ^ n) (h2 : la < 2 ^ n) (news : Led) (b : Array UInt8) (t1 t2 t3 t4 t5 : Tok) (hb : b.size ≤ 100) :
    Ct prog w p loose mean mg mb 3 (.ref 282) [.int ((divX rev P n : Nat) : Int) t1, .int (n : Nat) t2, .int (st : Nat) t3, .int (la : Nat) t4, .bool rev, .bytes b t5] news (fun v n' => n' = news ∧ ∃ t, v = .int ((Gf b : Nat) : Int) t) := by
  subst e; exact sum_ct news P n st la rev b t1 t2 t3 t4 t5 sz hP1 hP2 h1 h2 hb
theorem reg_lt (e : Gf = reg n rev P la st) (h1 : st < 2 ^ n) (h2 : la < 2 ^ n) (b : Array UInt8) : Gf b < 2 ^ n := by
  subst e; exact regOf_lt (tabX_lt rev P n) h2 h1 _
theorem reg_upd (e : Gf = reg n rev P la st) (ok : CrcOk prog w p loose mean mg mb n (regOf n rev (tabX rev P n) la) own fx) (ap : Apt own) (fin : FnIn own fx) (h1 : st < 2 ^ n) (h2 : la < 2 ^ n)
    (rest : Led) (x dx : Addr) (es : List DictEntry) (nn : Nat) (a : Array UInt8) (hx : x ≠ dx) (hr : ∀ q ∈ rest, q.1 ≠ x ∧ q.1 ≠ dx) (D : CrcD es n P st la rev fx ry (Gf a)) (b : Array UInt8) (t : Tok) :
    CtK prog w p loose mean mg mb 7 own (.ref 181) [.ref x, .bytes b t] ([(x, instObj 206 dx), (dx, dictOf es nn)] ++ rest) (fun v n' => ∃ l', n' = l' ++ rest ∧ (v = .none ∧ ∃ es' n1, l' = [(x, instObj 206 dx), (dx, dictOf es' n1)] ∧ CrcD es' n P st la rev fx ry (Gf (a ++ b))) ∧ ∀ a ∈ l', ∀ q ∈ rest, q.1 ≠ a.1) := by
  subst e
  have := update_ct rest own x dx es nn n P st la rev fx ry _ _ hx hr D ok ap fin (regOf_lt (tabX_lt rev P n) h2 h1 _) b t
  show CtK prog w p loose mean mg mb 7 own (.ref 181) [.ref x, .bytes b t] ([(x, instObj 206 dx), (dx, dictOf es nn)] ++ rest) (fun v n' => ∃ l', n' = l' ++ rest ∧ (v = .none ∧ ∃ es' n1, l' = [(x, instObj 206 dx), (dx, dictOf es' n1)] ∧ CrcD es' n P st la rev fx ry (regOf n rev (tabX rev P n) la st (arrN (a ++ b)))) ∧ ∀ a ∈ l', ∀ q ∈ rest, q.1 ≠ a.1)
  rw [arrN_app, ← regOf_append]
  exact this
end
section
variable {prog : Program} {w : World} {p : Program} {loose : List Str} {mean : ExcName → Option Value} {mg mb : Str → Option Value} {n P st la : Nat} {rev : Bool} {Gf : Array UInt8 → Nat} {fx ry : Addr} {own : Led}
theorem reg_new (e : Gf = reg n rev P la st) (ok : CrcOk prog w p loose mean mg mb n (regOf n rev (tabX rev P n) la) own fx) (ap : Apt own) (fin : FnIn own fx) (h1 : st < 2 ^ n)
    (rest : Led) (x dx : Addr) (es : List DictEntry) (nn : Nat) (a : Nat) (hx : x ≠ dx) (hr : ∀ q ∈ rest, q.1 ≠ x ∧ q.1 ≠ dx) (D : CrcD es n P st la rev fx ry a) (b : Array UInt8) (t : Tok) :
    CtK prog w p loose mean mg mb 9 own (.ref 167) [.ref x, .bytes b t] ([(x, instObj 206 dx), (dx, dictOf es nn)] ++ rest) (fun v n' => ∃ l', n' = l' ++ rest ∧ (∃ x' dx' es' n1, v = .ref x' ∧ l' = [(x', instObj 206 dx'), (dx', dictOf es' n1), (x, instObj 206 dx), (dx, dictOf es nn)] ∧ CrcD es' n P st la rev fx ry (Gf b) ∧ (x' ≠ dx' ∧ x' ≠ x ∧ x' ≠ dx ∧ dx' ≠ x ∧ dx' ≠ dx)) ∧ ∀ a ∈ l', ∀ q ∈ rest, q.1 ≠ a.1) := by
  subst e
  exact new1_ct rest own x dx es nn n P st la rev fx ry a hx hr D _ ok ap fin h1 b t
theorem reg_none (e : Gf = reg n rev P la st) {es : List DictEntry} {b : Array UInt8} (h : b.size = 0) (d : CrcD es n P st la rev fx ry st) : CrcD es n P st la rev fx ry (Gf b) := by
  subst e; exact crcD_none h d
theorem reg_mid {c : Nat} {A B xs : List Ob} {o o' : Ob} (ex : xs = A ++ o :: B) (h : ∀ z ∈ xs, CrcD z.es n P st la rev fx ry (Gf z.b) ∧ z.b.size + 2 * (c + 1) ≤ 14) (d : CrcD o'.es n P st la rev fx ry (Gf o'.b)) (hb : o'.b.size + 2 * c ≤ 14) :
    ∀ z ∈ A ++ o' :: B, CrcD z.es n P st la rev fx ry (Gf z.b) ∧ z.b.size + 2 * c ≤ 14 := by
  intro z hz
  have old : z ∈ xs → CrcD z.es n P st la rev fx ry (Gf z.b) ∧ z.b.size + 2 * c ≤ 14 := fun h9 => ⟨(h z h9).1, by have := (h z h9).2; omega⟩
  rcases List.mem_append.mp hz with hz | hz
  · exact old (by rw [ex]; simp [hz])
  · rcases List.mem_cons.mp hz with rfl | hz
    · exact ⟨d, hb⟩
    · exact old (by rw [ex]; simp [hz])
theorem reg_more {c : Nat} {xs : List Ob} {o' : Ob} (h : ∀ z ∈ xs, CrcD z.es n P st la rev fx ry (Gf z.b) ∧ z.b.size + 2 * (c + 1) ≤ 14) (d : CrcD o'.es n P st la rev fx ry (Gf o'.b)) (hb : o'.b.size + 2 * c ≤ 14) :
    ∀ z ∈ xs ++ [o'], CrcD z.es n P st la rev fx ry (Gf z.b) ∧ z.b.size + 2 * c ≤ 14 := by
  intro z hz
  rcases List.mem_append.mp hz with hz | hz
  · exact ⟨(h z hz).1, by have := (h z hz).2; omega⟩
  · rw [List.mem_singleton.mp hz]; exact ⟨d, hb⟩
end
end
structure Kept (P : Prop) : Prop where
  out : P
section
local macro_rules | `(tactic| walk_at "my enterK") => `(tactic| (
  (case hfn => (intro h X _; refine' FnIs.of_K X ?ho ?hcd; (case ho => k_is); (case hcd => k_is))); (case hbind => (intro s X _; exact BindsTo.of_eq rfl)); (case hloc => exact locs rfl); (case c1 => exact rfl); (case c2 => exact rfl); (case c3 => exact rfl); (case c4 => decide)))
local macro_rules | `(tactic| walk_at "my enterC") => `(tactic| (
  (case hfn => (intro h X _; refine' FnIs.of_K X ?ho ?hcd; (case ho => k_is); (case hcd => k_is))); (case hbind => (intro s X _; exact BindsTo.of_eq rfl)); (case hkind => exact rfl); (case hnd => decide +kernel); (case hbl => exact rfl); (case hbc => exact rfl); (case c1 => exact rfl); (case c2 => exact rfl); (case c3 => exact rfl)))
-- lines of our own for the walk
local macro_rules | `(tactic| walk_at "my enter") => `(tactic| (
  (case hcd => k_is); (case hbind => (intro s X; exact BindsTo.of_eq rfl)); (case hloc => exact locs rfl); (case c1 => exact rfl); (case c2 => exact rfl); (case c3 => exact rfl); (case c4 => decide)))
local macro_rules | `(tactic| walk_at "nat") => `(tactic| first | with_reducible rfl | with_reducible exact lit_nat _ | with_reducible exact mul8_nat _ | with_reducible exact shl1_nat _ | with_reducible exact sub1_nat (by omega) | with_reducible exact sub8_nat (by omega) | with_reducible exact zadd_nat (by with_reducible assumption) | with_reducible assumption | with_reducible exact (Int.toNat_of_nonneg (by with_reducible assumption)).symm | assumption | rfl | exact (Int.toNat_of_nonneg (by omega)).symm)
local macro_rules | `(tactic| walk_at "small") => `(tactic| first | assumption | exact Nat.lt_of_le_of_lt (by assumption) lt_128 | exact Nat.lt_of_lt_of_le (by assumption) (Nat.pow_le_pow_right (by decide) (by decide)) | exact Nat.lt_of_lt_of_le (Nat.xor_lt_two_pow (by assumption) (by assumption)) (Nat.pow_le_pow_right (by decide) (by decide)) | exact be_small (arrN_lt _) (by rw [arrN_length]; omega) | exact lt_big (k := 8) (by decide) (by decide) | exact lt_big (revN_lt _ _) (by omega) | exact lt_big (itF_lt (by assumption) (by assumption) (by assumption) _) (by omega))
local macro_rules | `(tactic| walk_at "binaryOp BitAnd int int") => `(tactic| (k_here; k_dflt (refine' andN ?k1 ?k2 ?_; (case k1 => walk_at "nat"); (case k2 => walk_at "nat"); k_whole); intro t9 k9; (try dsimp only)))
local macro_rules | `(tactic| walk_at "binaryOp BitOr int int") => `(tactic| (k_here; k_dflt (refine' orN ?k1 ?k2 ?_; (case k1 => walk_at "nat"); (case k2 => walk_at "nat"); k_whole); intro t9 k9; (try dsimp only)))
local macro_rules | `(tactic| walk_at "binaryOp BitXor int int") => `(tactic| (k_here; k_dflt (refine' xorN ?k1 ?k2 ?_; (case k1 => walk_at "nat"); (case k2 => walk_at "nat"); k_whole); intro t9 k9; (try dsimp only)))
local macro_rules | `(tactic| walk_at "binaryOp RShift int int") => `(tactic| (k_here; k_dflt (refine' shrN ?k1 ?k2 ?_; (case k1 => walk_at "nat"); (case k2 => walk_at "nat"); k_whole); intro t9 k9; (try dsimp only)))
local macro_rules | `(tactic| walk_at "binaryOp LShift int int") => `(tactic| (k_here; k_dflt (refine' shlN ?k1 ?k2 ?k3 ?k4 ?_; (case k1 => walk_at "nat"); (case k2 => walk_at "nat"); (case k3 => walk_at "small"); (case k4 => first | decide | omega); k_whole); intro t9 k9; (try dsimp only)))
local macro_rules | `(tactic| k_mem) => `(tactic| first
  | ((with_reducible show List.Mem (_ : Addr × Obj) (_ ++ _)); exact List.mem_append_left _ (by k_mem))
  | ((with_reducible show (_ : Addr × Obj) ∈ (_ ++ _ : List (Addr × Obj))); exact List.mem_append_left _ (by k_mem))
  | ((with_reducible show List.Mem (_ : Addr × Obj) _); (fail_if_success (with_reducible show List.Mem _ (_ :: _))); assumption)
  | ((with_reducible show (_ : Addr × Obj) ∈ _); (fail_if_success (with_reducible show _ ∈ (_ :: _))); assumption))
local macro_rules | `(tactic| walk_at "getMethod bytes") => `(tactic| (k_here; (with_reducible refine method_join ?_)))
local macro_rules | `(tactic| walk_at "call builtin:bytes.join") => `(tactic| (k_here; k_dflt (refine' join_one (News.get ?k1 ?k2) ?k3 ?k4 ?_; (case k1 => k_asm); (case k2 => k_mem); (case k3 => exact rfl); (case k4 => exact rfl))))
local macro_rules | `(tactic| walk_at "use") => `(tactic| ((case B => k_asm); (case F => k_asm); (case X => k_asm); (case T => k_asm); (case hk => first | exact rfl | assumption); (case hd => ktr_room); (case hu => ktr_units)))
local macro_rules | `(tactic| walk_at "idx") => `(tactic| (refine Nat.lt_of_lt_of_le (Nat.xor_lt_two_pow (n := 8) (by omega) (Nat.lt_of_le_of_lt Nat.and_le_right (by decide))) (by omega)))
local macro_rules | `(tactic| walk_at "subscriptTail Name BinOp ref int") => `(tactic| (k_here; k_dflt (refine' tab_item ?F ?l ?v ?k ?i ?f ?_ ?s ?g; (case F => k_asm); (case l => assumption); (case v => k_asm); (case k => with_reducible rfl); (case s => with_unfolding_all rfl); (case g => (intro _; with_unfolding_all rfl)); (case i => walk_at "idx"); (case f => omega)); intro t9))
local macro_rules | `(tactic| walk_at "binaryOp Mod int int") => `(tactic| (k_here; k_dflt (refine' modN ?k1 ?k2 ?k3 ?_; (case k1 => walk_at "nat"); (case k2 => walk_at "nat"); (case k3 => first | decide | omega); k_whole); intro t9 k9; (try dsimp only)))
local macro_rules | `(tactic| walk_at "call ref") => `(tactic| (k_here; (with_reducible show wpAny _ _ (call (Value.ref _) [Value.bytes _ _, Value.str _ _]) _ _ _); kfb_any; k_dflt (first
  | (refine fb_call_big (by k_asm) (by k_mem) (by omega) ?_)
  | (refine fb_call_little (by k_asm) (by k_mem) (by omega) ?_)); intro _ _))
local macro_rules | `(tactic| walk_at "UnrEndW") => `(tactic| k_dflt ktu_end)
local macro_rules | `(tactic| walk_at "pyIter bytes") => `(tactic| k_dflt (kstb_has; k_extra "pyIter bytes"))
local macro_rules | `(tactic| walk_at "InvEndN") => `(tactic| k_dflt kst_close)
local macro_rules | `(tactic| walk_at "subscriptTail Name Constant ref int") => `(tactic| (k_here; (with_reducible show wpAny _ _ (subscriptTail _ _ (Value.ref _) (Value.int _ _)) _ _ _); kri_at))
local macro_rules | `(tactic| walk_at "getAttr ref") => `(tactic| (k_here; k_dflt (refine' get_own ?k1 ?k2 ?k3 ?k4 ?k5 ?k6 ?k7 ?k8 ?k9 ?_; (case k1 => k_asm); (case k2 => k_asm); (case k3 => k_inst); (case k4 => k_is); (case k5 => k_is); (case k6 => k_is); (case k7 => k_is); (case k8 => assumption); (case k9 => exact rfl); k_whole)))
local macro_rules | `(tactic| walk_at "callWith ref") => `(tactic| (k_here; k_dflt (refine' callWith_F ?k1 ?_; (case k1 => exact fnAt_keep (by assumption) (by k_asm)); k_whole)))
local macro_rules | `(tactic| walk_at "FnAt") => `(tactic| (k_dflt (exact fnAt_keep (by assumption) (by k_asm))))
local macro_rules | `(tactic| walk_at "call ref") => `(tactic| (k_here; k_dflt (refine' CtK.use (CrcOk.get ?ok _ _ _ _ _ ?h0) ?B ?F ?X ?N ?T ?W ?hk ?hd ?hu ?_; (case ok => assumption); (case N => k_asm); walk_at "use"; (case h0 => assumption); (case W => exact Knows.keeps (by assumption) (Fr.keep (by k_asm)))); intro v9 n9 h9 tk9 hp9 F9 N9; obtain ⟨e1, t9, e2⟩ := hp9; subst e1; subst e2; (try dsimp only); (try k_fold)))
local macro_rules | `(tactic| walk_at "setAttr ref") => `(tactic| (k_here; k_dflt (refine' set_dict ?k1 ?k2 ?k3 ?k4 ?k5 ?k6 ?k7 ?k8 ?k9 ?k10 ?k11 ?k12 ?k13 ?_; (case k1 => k_asm); (case k2 => k_asm); (case k3 => k_asm); (case k4 => k_inst); (case k5 => exact rfl); (case k6 => k_is); (case k7 => k_is); (case k8 => k_is); (case k9 => k_is); (case k10 => exact getL_some (by assumption)); (case k11 => exact rfl); (case k12 => k_upd); (case k13 => exact Nat.le_trans (putL_len _ _ _ _ _) (by omega)); k_whole; intro h' F' N'; (try k_sweep))))
local macro_rules | `(tactic| k_room) => `(tactic| ktr_room)
local macro_rules | `(tactic| walk_at "getMethod ref") => `(tactic| (k_here; k_dflt (refine' method_inst ?k1 ?k2 ?k3 ?k4 ?k5 ?k6 ?k7 ?_; (case k1 => k_asm); (case k2 => k_asm); (case k3 => k_inst); (case k4 => k_is); (case k5 => k_is); (case k6 => k_is); (case k7 => assumption); k_whole)))
local macro_rules | `(tactic| walk_at "call ref") => `(tactic| (k_here; k_dflt (refine' Ct.use (poly_ct _ _ _ _ ?h0 ?h1 ?h2) ?B ?F ?X ?N ?T ?hk ?hd ?hu ?_; (case N => k_asm); walk_at "use"; (case h0 => assumption); (case h1 => assumption); (case h2 => assumption)); intro v9 n9 h9 tk9 hp9 F9 N9; obtain ⟨add9, e1, ⟨⟨t9, e2⟩, e3⟩, _⟩ := hp9; subst e3; subst e1; subst e2; (try dsimp only); (try k_fold)))
local macro_rules | `(tactic| walk_at "WhlIf") => `(tactic| first | refine WhlIf.yes (decide_eq_true (by omega)) ?_ | refine WhlIf.no (decide_eq_false (by omega)) ?_)
local macro_rules | `(tactic| walk_at "call builtin:list.append") => `(tactic| (k_here; (with_reducible show wpAny _ _ (call (Value.builtin _) [Value.ref _, _]) _ _ _); k_dflt (refine' append_K ?k1 ?k2 ?k3 ?_ ?z; (case k1 => k_asm); (case k2 => k_asm); (case k3 => k_upd); (case z => (rw [PySem.sizeLine_eq]; simp only [List.size_toArray]; omega)); k_whole); intro h' F' N'; (try k_sweep)))
local macro_rules | `(tactic| walk_at "call builtin:list.reverse") => `(tactic| (k_here; (with_reducible show wpAny _ _ (call (Value.builtin _) [Value.ref _]) _ _ _); k_dflt (refine' kl_reverse ?F ?N ?e ?U ?z ?_; (case F => k_asm); (case N => k_asm); (case e => exact rfl); (case U => k_upd); (case z => (rw [PySem.sizeLine_eq]; simp only [Array.length_toList, List.size_toArray]; omega)); k_whole); intro h' F' N'; (try simp only [List.toList_toArray] at N')))
local macro_rules | `(tactic| k_all) => `(tactic| ((with_reducible assumption)))
local macro_rules | `(tactic| walk_at "binaryOp Pow int int") => `(tactic| (k_here; k_dflt (refine' powN ?k1 ?k2 ?k3 ?_; (case k1 => with_reducible rfl); (case k2 => walk_at "nat"); (case k3 => omega); k_whole); intro t9 k9; (try dsimp only)))
local macro_rules | `(tactic| walk_at "binaryOp Add int int") => `(tactic| (k_here; k_dflt (refine' addN ?k1 ?k2 ?_; (case k1 => with_reducible rfl); (case k2 => first | with_reducible rfl | with_reducible exact lit_nat _); k_whole); intro t9 k9; (try dsimp only)))
local macro_rules | `(tactic| walk_at "subscriptTail") => `(tactic| (k_here; (with_reducible show wpAny _ _ (subscriptTail (PySem.Expr.Tuple _ _ _) _ (Value.ref _) (Value.int _ _)) _ _ _); k_dflt (refine' item_tup5 ?k1 ?k2 ?k3 ?k4 ?_ ?k5; (case k1 => k_asm); (case k2 => k_mem); (case k3 => omega); (case k4 => exact Int.ofNat_lt.mpr (smod_lt (by decide))); (case k5 => with_unfolding_all rfl)); intro n8 t9 size8; (have hi8 := isSize.hi size8)))
local macro_rules | `(tactic| walk_at "call ref") => `(tactic| (k_here; (with_reducible show wpAny _ _ (call (Value.ref 275) _) _ _ _); k_dflt (refine' Ct.use (mirror_ct _ _ _ _ _ ?h1) ?B ?F ?X ?N ?T ?hk ?hd ?hu ?_; (case N => k_asm); walk_at "use"; (case h1 => omega)); intro v9 n9 h9 tk9 hp9 F9 N9; obtain ⟨e1, t9, e2⟩ := hp9; subst e1; subst e2; (try dsimp only); (try k_fold)))
local macro_rules | `(tactic| walk_at "binaryOp FloorDiv int int") => `(tactic| (k_here; k_dflt (refine' divNN ?k1 ?k2 ?k3 ?_; (case k1 => with_reducible rfl); (case k2 => with_reducible exact lit_nat _); (case k3 => decide); k_whole); intro t9 k9; (try dsimp only)))
local macro_rules | `(tactic| walk_at "call ref") => `(tactic| (k_here; (with_reducible show wpAny _ _ (call (Value.ref 261) _) _ _ _); k_dflt (refine' Ct.use (params_ct _ _ _ _ _ _ _ _ ?h1 ?h2 ?h3 ?h4 ?h5) ?B ?F ?X ?N ?T ?hk ?hd ?hu ?_; (case N => k_asm); walk_at "use"; (case h1 => assumption); (case h2 => assumption); (case h3 => assumption); (case h4 => assumption); (case h5 => assumption)); intro v9 n9 h9 tk9 hp9 F9 N9; obtain ⟨l9, e1, ⟨x9, t1, t2, t3, e2, e3⟩, ap9⟩ := hp9; subst e3; subst e1; subst e2; simp only [List.cons_append, List.nil_append] at N9; replace ap9 := allNe_of1 ap9; simp only [AllNe, and_true] at ap9; (try dsimp only); (try k_fold)))
local macro_rules | `(tactic| walk_at "use") => `(tactic| ((case B => k_asm); (case F => k_asm); (case X => k_asm); (case T => k_asm); (case hk => first | exact rfl | assumption); (case hd => first | ktr_room | exact Nat.le_of_ble_eq_true rfl); (case hu => first | exact Nat.le_of_ble_eq_true rfl | ktr_units)))
local macro_rules | `(tactic| walk_at "apart") => `(tactic| (intro q hq a ha; simp only [List.mem_cons, List.not_mem_nil, or_false] at hq ha; rcases hq with rfl | rfl | rfl <;> rcases ha with rfl | rfl | rfl <;> (refine neN ?_; (try dsimp only); omega)))
local macro_rules | `(tactic| k_ne) => `(tactic| (refine neN ?_; (try dsimp only); first | with_reducible assumption | with_reducible exact Ne.symm (by with_reducible assumption)))
local macro_rules | `(tactic| walk_at "exec For Name Subscript cons nil") => `(tactic| (k_here; (rename Fr _ _ _ _ => lF'); (with_unfolding_all refine' For_turns lF' ?_; k_whole)))
local macro_rules | `(tactic| walk_at "pyIter ref") => `(tactic| (k_here; (with_reducible show wpAny _ _ (pyIter (Value.ref _)) (fun it s₂ => TurnsAt _ _ _ _ _ _ _ _ _ it s₂) _ _); refine Halt.mk ?_))
local macro_rules | `(tactic| walk_at "binaryOp Mod int int") => `(tactic| (k_here; k_dflt (refine' modI ?k2 ?k3 ?_; (case k2 => first | with_reducible rfl | with_reducible exact lit_nat _); (case k3 => first | exact Nat.two_pow_pos _ | omega); k_whole); intro t9 k9; (try dsimp only)))
local macro_rules | `(tactic| walk_at "call builtin:int.to_bytes") => `(tactic| (k_here; k_dflt (refine' to_big_own ?k1 ?k2 ?k3 ?k4 ?_; (case k1 => with_reducible rfl); (case k2 => first | with_reducible rfl | with_reducible exact lit_nat _); (case k3 => omega); (case k4 => walk_at "octets")); intro b9 t9 k9 hb9 hz9))
local macro_rules | `(tactic| walk_at "octets") => `(tactic| exact smod_lt (by decide))
local macro_rules | `(tactic| walk_at "subscriptTail") => `(tactic| (k_here; (with_reducible show wpAny _ _ (subscriptTail _ (PySem.Expr.Slice _ none none _) (Value.bytes _ _) (Value.ref _)) _ _ _); k_dflt (refine' slice_own (s := ⟨_, _, _, _, _⟩) (d := 2) ?F ?N ?d ?z ?_ ?s ?t; (case F => k_asm); (case N => k_asm); (case d => omega); (case z => decide); (case s => with_unfolding_all rfl); (case t => (intro _; with_unfolding_all rfl))); intro h9 b9 t9 k9 F9 N9 hb9))
local macro_rules | `(tactic| walk_at "call builtin:len") => `(tactic| (k_here; (with_reducible show wpAny _ _ (call (Value.builtin "len") [Value.ref _]) _ _ _); k_dflt (refine' len_own ?k1 ?k2 ?k3 ?k4 ?_; (case k1 => k_asm); (case k2 => k_mem); (case k3 => with_reducible assumption); (case k4 => omega)); intro t9 k9; (try dsimp only)))
local macro_rules | `(tactic| walk_at "call builtin:len") => `(tactic| (k_here; (with_reducible show wpAny _ _ (call (Value.builtin "len") [Value.bytes _ _]) _ _ _); k_dflt (refine' len_b ?k1 ?_; (case k1 => omega)); intro t9 k9; (try dsimp only)))
local macro_rules | `(tactic| walk_at "binaryOp Add bytes bytes") => `(tactic| (k_here; k_dflt (refine' KBy.add_bytes ?k1 ?_; (case k1 => omega)); intro t9 k9))
local macro_rules | `(tactic| walk_at "subscriptTail") => `(tactic| (k_here; (with_reducible show wpAny _ _ (subscriptTail _ _ (Value.ref _) (Value.int _ _)) _ _ _); k_dflt (refine' item_own ?k1 ?k2 ?k3 ?k4 ?k5 ?_ ?k6; (case k1 => k_asm); (case k2 => k_mem); (case k3 => omega); (case k4 => omega); (case k5 => (rw [Int.toNat_natCast]; first | with_reducible assumption | exact List.getElem?_set_self (by omega))); (case k6 => with_unfolding_all rfl))))
local macro_rules | `(tactic| walk_at "setItem ref int") => `(tactic| (k_here; (with_reducible show wpAny _ _ (setItem (Value.ref _) (Value.int _ _) _) _ _ _); k_dflt (refine' set_own ?k1 ?k2 ?k3 ?k4 ?k5 ?k6 ?_; (case k1 => k_asm); (case k2 => k_asm); (case k3 => k_upd); (case k4 => omega); (case k5 => omega); (case k6 => omega)); intro h9 F9 N9; (try rw [Int.toNat_natCast] at N9)))
local macro_rules | `(tactic| walk_at "exec For Tuple Call cons nil") => `(tactic| (k_here; (rename Fr _ _ _ _ => lF'); (with_unfolding_all refine' For_turns lF' ?_; k_whole)))
local macro_rules | `(tactic| walk_at "call type:zip") => `(tactic| (k_here; (with_reducible show wpAny _ _ (call (Value.type _) [Value.ref _, Value.ref _]) (fun xv s₁ => wpAny _ _ (pyIter xv) (fun it s₂ => TurnsAt _ _ _ _ _ _ _ _ _ it s₂) _ s₁) _ _); refine Halt.mk ?_))
local macro_rules | `(tactic| walk_at "octets") => `(tactic| first | with_reducible assumption | exact smod_lt (by decide))
local macro_rules | `(tactic| walk_at "getMethod bytes") => `(tactic| (k_here; (with_reducible refine hex_method ?_)))
local macro_rules | `(tactic| walk_at "call builtin:bytes.hex") => `(tactic| (k_here; k_dflt (refine' hex_call ?k1 ?_; (case k1 => omega)); intro t9 k9))
local macro_rules | `(tactic| walk_at "call builtin:str.upper") => `(tactic| (k_here; k_dflt (refine' up_own ?k1 ?k2 ?_; (case k1 => omega); (case k2 => with_reducible assumption)); intro t9 k9))
local macro_rules | `(tactic| walk_at "compareOp Eq ref ref") => `(tactic| refine Halt.mk ?_)
-- lines that serve no key: each section bears another number of lines
local macro_rules | `(tactic| walk_at "none") => `(tactic| fail)
local macro_rules | `(tactic| walk_at "none") => `(tactic| fail)
local macro_rules | `(tactic| walk_at "none") => `(tactic| fail)
local macro_rules | `(tactic| walk_at "none") => `(tactic| fail)
local macro_rules | `(tactic| walk_at "none") => `(tactic| fail)
local macro_rules | `(tactic| walk_at "none") => `(tactic| fail)
local macro_rules | `(tactic| walk_at "none") => `(tactic| fail)
local macro_rules | `(tactic| walk_at "none") => `(tactic| fail)
local macro_rules | `(tactic| walk_at "none") => `(tactic| fail)
local macro_rules | `(tactic| walk_at "none") => `(tactic| fail)
local macro_rules | `(tactic| walk_at "none") => `(tactic| fail)
local macro_rules | `(tactic| walk_at "none") => `(tactic| fail)
local macro_rules | `(tactic| walk_at "none") => `(tactic| fail)
local macro_rules | `(tactic| walk_at "none") => `(tactic| fail)
local macro_rules | `(tactic| walk_at "none") => `(tactic| fail)
local macro_rules | `(tactic| walk_at "none") => `(tactic| fail)
local macro_rules | `(tactic| walk_at "none") => `(tactic| fail)
local macro_rules | `(tactic| walk_at "none") => `(tactic| fail)
local macro_rules | `(tactic| walk_at "none") => `(tactic| fail)
local macro_rules | `(tactic| walk_at "none") => `(tactic| fail)
local macro_rules | `(tactic| walk_at "none") => `(tactic| fail)
local macro_rules | `(tactic| walk_at "none") => `(tactic| fail)
local macro_rules | `(tactic| walk_at "none") => `(tactic| fail)
local macro_rules | `(tactic| walk_at "none") => `(tactic| fail)
local macro_rules | `(tactic| walk_at "none") => `(tactic| fail)
local macro_rules | `(tactic| walk_at "none") => `(tactic| fail)
local macro_rules | `(tactic| walk_at "none") => `(tactic| fail)
local macro_rules | `(tactic| walk_at "none") => `(tactic| fail)
local macro_rules | `(tactic| walk_at "none") => `(tactic| fail)
local macro_rules | `(tactic| walk_at "none") => `(tactic| fail)
local macro_rules | `(tactic| walk_at "none") => `(tactic| fail)
local macro_rules | `(tactic| walk_at "none") => `(tactic| fail)
local macro_rules | `(tactic| walk_at "none") => `(tactic| fail)
local macro_rules | `(tactic| walk_at "none") => `(tactic| fail)
local macro_rules | `(tactic| walk_at "none") => `(tactic| fail)
local macro_rules | `(tactic| walk_at "none") => `(tactic| fail)
local macro_rules | `(tactic| walk_at "none") => `(tactic| fail)
local macro_rules | `(tactic| walk_at "none") => `(tactic| fail)
local macro_rules | `(tactic| walk_at "none") => `(tactic| fail)
local macro_rules | `(tactic| walk_at "none") => `(tactic| fail)
local macro_rules | `(tactic| walk_at "none") => `(tactic| fail)
local macro_rules | `(tactic| walk_at "none") => `(tactic| fail)
local macro_rules | `(tactic| walk_at "none") => `(tactic| fail)
local macro_rules | `(tactic| walk_at "none") => `(tactic| fail)
local macro_rules | `(tactic| walk_at "none") => `(tactic| fail)
local macro_rules | `(tactic| walk_at "none") => `(tactic| fail)
local macro_rules | `(tactic| walk_at "none") => `(tactic| fail)
local macro_rules | `(tactic| walk_at "none") => `(tactic| fail)
local macro_rules | `(tactic| walk_at "none") => `(tactic| fail)
local macro_rules | `(tactic| walk_at "none") => `(tactic| fail)
local macro_rules | `(tactic| walk_at "none") => `(tactic| fail)
local macro_rules | `(tactic| walk_at "none") => `(tactic| fail)
local macro_rules | `(tactic| walk_at "none") => `(tactic| fail)
local macro_rules | `(tactic| walk_at "none") => `(tactic| fail)
local macro_rules | `(tactic| walk_at "none") => `(tactic| fail)
local macro_rules | `(tactic| walk_at "none") => `(tactic| fail)
local macro_rules | `(tactic| walk_at "none") => `(tactic| fail)
local macro_rules | `(tactic| walk_at "none") => `(tactic| fail)
local macro_rules | `(tactic| walk_at "none") => `(tactic| fail)
local macro_rules | `(tactic| walk_at "none") => `(tactic| fail)
local macro_rules | `(tactic| walk_at "none") => `(tactic| fail)
local macro_rules | `(tactic| walk_at "none") => `(tactic| fail)
local macro_rules | `(tactic| walk_at "none") => `(tactic| fail)
example : True := by
  k_with_none
  w_top off
  trivial
set_option maxHeartbeats 400000000 in
noncomputable def sa : { P : Prop // Kept P → PySem.Challenge.rw_ez0037_01.Holds } := by
  refine' ⟨_, fun k9a => hd ?mm⟩
  case mm =>
    k_go0; (all_goals try k_fold)
    (k_with "eval IfExp" => ((with_reducible show wpAny _ _ (eval (PySem.Expr.IfExp (PySem.Expr.Name _ _) _ _ _) _) _ _ _); refine Halt.mk ?_))
    k_steps
    refine Halt.out ?_
    rename_i z9z0 z9z1 z9z2 z9z3 z9z4 z9z5 z9z6 z9z7 z9z8 z9z9 z9z10 z9z11 z9z12 z9z13 z9z14 z9z15 z9z16 z9z17 z9z18 z9z19 z9z20 z9z21 z9z22 z9z23 z9z24 z9z25 z9z26 z9z27 z9z28 z9z29 z9z30 z9z31 z9z32 z9z33 z9z34 z9z35 z9z36 z9z37 z9z38 z9z39 z9z40 z9z41 z9z42 z9z43 z9z44 z9z45 z9z46 z9z47 z9z48 z9z49 z9z50 z9z51 z9z52 z9z53 z9z54 z9z55 z9z56 z9z57 z9z58 z9z59 z9z60 z9z61 z9z62 z9z63 z9z64 z9z65 z9z66 z9z67 z9z68 z9z69 z9z70 z9z71 z9z72 z9z73 z9z74 z9z75 z9z76 z9z77 z9z78 z9z79 z9z80 z9z81 z9z82 z9z83 z9z84 z9z85 z9z86 z9z87 z9z88 z9z89 z9z90 z9z91 z9z92 z9z93 z9z94 z9z95 z9z96 z9z97 z9z98 z9z99 z9z100 z9z101 z9z102 z9z103 z9z104 z9z105 z9z106 z9z107 z9z108 z9z109 z9z110 z9z111 z9z112 z9z113 z9z114 z9z115
    revert z9z0 z9z1 z9z2 z9z3 z9z4 z9z5 z9z6 z9z7 z9z8 z9z9 z9z10 z9z11 z9z12 z9z13 z9z14 z9z15 z9z16 z9z17 z9z18 z9z19 z9z20 z9z21 z9z22 z9z23 z9z24 z9z25 z9z26 z9z27 z9z28 z9z29 z9z30 z9z31 z9z32 z9z33 z9z34 z9z35 z9z36 z9z37 z9z38 z9z39 z9z40 z9z41 z9z42 z9z43 z9z44 z9z45 z9z46 z9z47 z9z48 z9z49 z9z50 z9z51 z9z52 z9z53 z9z54 z9z55 z9z56 z9z57 z9z58 z9z59 z9z60 z9z61 z9z62 z9z63 z9z64 z9z65 z9z66 z9z67 z9z68 z9z69 z9z70 z9z71 z9z72 z9z73 z9z74 z9z75 z9z76 z9z77 z9z78 z9z79 z9z80 z9z81 z9z82 z9z83 z9z84 z9z85 z9z86 z9z87 z9z88 z9z89 z9z90 z9z91 z9z92 z9z93 z9z94 z9z95 z9z96 z9z97 z9z98 z9z99 z9z100 z9z101 z9z102 z9z103 z9z104 z9z105 z9z106 z9z107 z9z108 z9z109 z9z110 z9z111 z9z112 z9z113 z9z114 z9z115 hT8 hT9 lifted codeHd ys tk
    exact k9a.out
example : True := by
  k_with_none
  w_top off
  trivial
set_option maxHeartbeats 400000000 in
noncomputable def sb : { P : Prop // Kept P → sa.1 } := by
  refine' ⟨_, fun k9a => ?mm⟩
  case mm =>
    intro _ _ _ _ _ _ _ _ _ _ _ _ _ _ _ hT8 _ _ _ _ _ _ hT9 _ _ _ _ _ _ _ _ _ _ _ _ _ _ _ _ _ _ _ _ _ _ _ _ _ _ _ _ lifted _ _ codeHd _ _ _ _ _ _ _ _ _ _ ys _ _ _ _ _ _ _ _ _ _ _ _ _ _ _ _ _ _ _ _ _ _ _ _ _ _ _ _ _ _ _ _ _ _ _ _ _ _ _ _ _ _ _ _ _ _ _ _ _ _ _ _ _ _ _ tk
    rename isSize _ => sz
    rename Fr _ _ _ _ => F1
    rename News _ _ _ _ => N1
    obtain ⟨n, en⟩ := name_size sz
    subst en
    generalize (((smod (Int.fdiv _ 5) 2 : Nat) : Int) == 1 : Bool) = rev at F1 N1
    generalize hst : smod _ (2 ^ _) = st at F1 N1
    generalize hla : smod _ (2 ^ _) = la at F1 N1
    generalize hp0 : smod _ (2 ^ _) = p0 at F1 N1
    generalize hP : 2 ^ _ + p0 = P at F1 N1
    have lst : st < 2 ^ n := hst ▸ smod_lt (Nat.two_pow_pos _)
    have lla : la < 2 ^ n := hla ▸ smod_lt (Nat.two_pow_pos _)
    have lp0 : p0 < 2 ^ n := hp0 ▸ smod_lt (Nat.two_pow_pos _)
    have hP1 : 2 ^ n ≤ P := by omega
    have hP2 : P < 2 ^ (n + 1) := by rw [Nat.pow_succ]; omega
    clear hst hla hp0 hP lp0
    have h8 := sz.lo
    have h64 := sz.hi
    refine cutFN F1 N1 (fun v => ∃ t, v = .int ((divX rev P n : Nat) : Int) t) ?_ ?_
    · cases rev
      · k_steps
        all_goals assumption
      · k_steps
        all_goals assumption
    · rintro v h' tk ⟨t, rfl⟩ F2 N2
      clear F1 N1
      generalize hD : divX rev P n = D at F2
      (k_with "call ref" => ((with_reducible show wpAny _ _ (call (Value.ref 206) _) _ _ _); refine Halt.mk ?_))
      k_steps
      refine Halt.out ?_
      rename_i z9z0 z9z1 z9z2 z9z3 z9z4 z9z5 z9z6 z9z7 z9z8 z9z9 z9z10 z9z11 z9z12 z9z13 z9z14 z9z15 z9z16 z9z17 z9z18 z9z19 z9z20 z9z21 z9z22 z9z23 z9z24 z9z25 z9z26 z9z27 z9z28 z9z29 z9z30 z9z31 z9z32 z9z33 z9z34 z9z35 z9z36 z9z37 z9z38 z9z39 z9z40 z9z41 z9z42 z9z43 z9z44 z9z45 z9z46 z9z47 z9z48 z9z49 z9z50 z9z51 z9z52 z9z53 z9z54 z9z55 z9z56 z9z57 z9z58 z9z59 z9z60 z9z61 z9z62 z9z63 z9z64 z9z65 z9z66 z9z67 z9z68 z9z69 z9z70 z9z71 z9z72 z9z73 z9z74 z9z75 z9z76 z9z77 z9z78 z9z79 z9z80 z9z81 z9z82 z9z83 z9z84 z9z85 z9z86 z9z87 z9z88 z9z89 z9z90 z9z91 z9z92 z9z93 z9z94 z9z95 z9z96 z9z97 z9z98 z9z99 z9z100 z9z101 z9z102 z9z103 z9z104 z9z105 z9z106 z9z107 z9z108 z9z109 z9z110 z9z111 z9z112 z9z113 z9z114 z9z115
      revert z9z0 z9z1 z9z2 z9z3 z9z4 z9z5 z9z6 z9z7 z9z8 z9z9 z9z10 z9z11 z9z12 z9z13 z9z14 z9z15 z9z16 z9z17 z9z18 z9z19 z9z20 z9z21 z9z22 z9z23 z9z24 z9z25 z9z26 z9z27 z9z28 z9z29 z9z30 z9z31 z9z32 z9z33 z9z34 z9z35 z9z36 z9z37 z9z38 z9z39 z9z40 z9z41 z9z42 z9z43 z9z44 z9z45 z9z46 z9z47 z9z48 z9z49 z9z50 z9z51 z9z52 z9z53 z9z54 z9z55 z9z56 z9z57 z9z58 z9z59 z9z60 z9z61 z9z62 z9z63 z9z64 z9z65 z9z66 z9z67 z9z68 z9z69 z9z70 z9z71 z9z72 z9z73 z9z74 z9z75 z9z76 z9z77 z9z78 z9z79 z9z80 z9z81 z9z82 z9z83 z9z84 z9z85 z9z86 z9z87 z9z88 z9z89 z9z90 z9z91 z9z92 z9z93 z9z94 z9z95 z9z96 z9z97 z9z98 z9z99 z9z100 z9z101 z9z102 z9z103 z9z104 z9z105 z9z106 z9z107 z9z108 z9z109 z9z110 z9z111 z9z112 z9z113 z9z114 z9z115 hT8 hT9 lifted codeHd ys n sz rev st la p0 P lst lla hP1 hP2 h8 h64 h' tk t D hD
      exact k9a.out
example : True := by
  k_with_none
  w_top off
  trivial
set_option maxHeartbeats 400000000 in
noncomputable def sc : { P : Prop // Kept P → sb.1 } := by
  refine' ⟨_, fun k9a => ?mm⟩
  case mm =>
    intro _ _ _ _ _ _ _ _ _ _ _ _ _ _ _ hT8 _ _ _ _ _ _ hT9 _ _ _ _ _ _ _ _ _ _ _ _ _ _ _ _ _ _ _ _ _ _ _ _ _ _ _ _ lifted _ _ codeHd _ _ _ _ _ _ _ _ _ _ ys _ _ _ _ _ _ _ _ _ _ _ _ _ _ _ _ _ _ _ _ _ _ _ _ _ _ _ _ _ _ _ _ _ _ _ _ _ _ _ _ _ _ _ _ _ _ _ _ _ _ _ n sz _ rev st la p0 P lst lla hP1 hP2 h8 h64 h' tk t D hD _ _ _
    rename Fr _ _ _ _ => F1
    rename News _ _ _ _ => N1
    have N2 := news_sub (new := [(_, _), (240, tabObj #[]), (245, tabObj #[]), (263, tabObj #[])]) N1 (by
      intro q hq
      simp only [List.mem_cons, List.not_mem_nil, or_false] at hq
      rcases hq with rfl | rfl | rfl | rfl
      · exact .tail _ (.tail _ (.tail _ (.tail _ (.head _))))
      · simp
      · simp
      · simp)
    clear N1
    rename Top _ _ _ _ _ (ghostOf _ _) => TT
    refine cutCrc F1 TT N2 n P st la rev ?_ ?_
    · have ht9 := tabX_lt rev P n
      cases rev
      · (k_with "call ref" => ((with_reducible show wpAny _ _ (call (Value.ref 268) _) _ _ _); k_dflt (refine' Ct.use (mkfun_f_ct [(_, instObj 206 _), (_, dictOf _ _), (_ + 1, _)] ?ap _ _ _ _ _ _ _ _ ?h1 ?h2 ?h3 ?h4) ?B ?F ?X ?N ?T ?hk ?hd ?hu ?_; (case N => exact news_sub (by k_asm) (by kcf_all)); walk_at "use"; (case ap => exact apart3 (by omega)); (case h1 => assumption); (case h2 => assumption); (case h3 => assumption); (case h4 => exact ht9)); intro v9 n9 h9 tk9 hp9 F9 N9; obtain ⟨l9, e1, mk9, ap9⟩ := hp9; obtain ⟨tup9, fx9, ry9, own9, e2, e3, ok9, apt9, fin9, gr9⟩ := MkRes.out mk9; clear mk9; subst e3; subst e1; subst e2; replace N9 := own_last N9; simp only [List.cons_append, List.nil_append] at N9; obtain ⟨ap8, ap7⟩ := own_off ap9; simp only [AllNe, and_true] at ap8; simp only [List.mem_cons, List.not_mem_nil, or_false, forall_eq_or_imp, forall_eq] at ap7; obtain ⟨w1, w2, w3⟩ := ap7))
        k_steps
        rename Fr _ _ _ _ => F9
        rename News _ _ _ _ => N9
        rename CrcOk _ _ _ _ _ _ _ _ _ _ _ => ok9
        refine crcNew_of F9 N9 (by kcf_all) ⟨⟨_, rfl⟩, ⟨_, rfl⟩, ⟨_, rfl⟩, ⟨_, rfl⟩, rfl, rfl, rfl, ⟨_, rfl⟩, Nat.le_of_ble_eq_true rfl, rfl, rfl, rfl, rfl, rfl⟩ ok9 (by assumption) (by assumption) (by assumption) (by (try dsimp only); omega) (by (try dsimp only); omega) (by (try dsimp only); omega) (by assumption) (by assumption) (by assumption)
      · (k_with "call ref" => ((with_reducible show wpAny _ _ (call (Value.ref 268) _) _ _ _); k_dflt (refine' Ct.use (mkfun_t_ct [(_, instObj 206 _), (_, dictOf _ _), (_ + 1, _)] ?ap _ _ _ _ _ _ _ _ ?h1 ?h2 ?h3 ?h4) ?B ?F ?X ?N ?T ?hk ?hd ?hu ?_; (case N => exact news_sub (by k_asm) (by kcf_all)); walk_at "use"; (case ap => exact apart3 (by omega)); (case h1 => assumption); (case h2 => assumption); (case h3 => assumption); (case h4 => exact ht9)); intro v9 n9 h9 tk9 hp9 F9 N9; obtain ⟨l9, e1, mk9, ap9⟩ := hp9; obtain ⟨tup9, fx9, ry9, own9, e2, e3, ok9, apt9, fin9, gr9⟩ := MkRes.out mk9; clear mk9; subst e3; subst e1; subst e2; replace N9 := own_last N9; simp only [List.cons_append, List.nil_append] at N9; obtain ⟨ap8, ap7⟩ := own_off ap9; simp only [AllNe, and_true] at ap8; simp only [List.mem_cons, List.not_mem_nil, or_false, forall_eq_or_imp, forall_eq] at ap7; obtain ⟨w1, w2, w3⟩ := ap7))
        k_steps
        rename Fr _ _ _ _ => F9
        rename News _ _ _ _ => N9
        rename CrcOk _ _ _ _ _ _ _ _ _ _ _ => ok9
        refine crcNew_of F9 N9 (by kcf_all) ⟨⟨_, rfl⟩, ⟨_, rfl⟩, ⟨_, rfl⟩, ⟨_, rfl⟩, rfl, rfl, rfl, ⟨_, rfl⟩, Nat.le_of_ble_eq_true rfl, rfl, rfl, rfl, rfl, rfl⟩ ok9 (by assumption) (by assumption) (by assumption) (by (try dsimp only); omega) (by (try dsimp only); omega) (by (try dsimp only); omega) (by assumption) (by assumption) (by assumption)
    · intro v n' h' tk hN F2 N3
      obtain ⟨x, dx, es, nn, fx, ry, own, e1, e2, D1, ok1, ap1, fin1, gr1, o1, o2, o3, oo⟩ := hN
      subst e1 e2
      clear F1 N2
      dsimp only at o2 o3 oo
      have w1 : ∀ a ∈ own, a.1 ≠ x := fun a ha => (oo a ha).1
      have w2 : ∀ a ∈ own, a.1 ≠ dx := fun a ha => (oo a ha).2.1
      have w3 : ∀ a ∈ own, a.1 ≠ _ := fun a ha => (oo a ha).2.2
      (k_with "exec For Name Subscript cons nil" => (refine' For_turns F2 ?_))
      (k_with "pyIter ref" => refine Halt.mk ?_)
      rename_i z9z0 z9z1 z9z2 z9z3 z9z4 z9z5 z9z6 z9z7 z9z8 z9z9 z9z10 z9z11 z9z12 z9z13 z9z14 z9z15 z9z16 z9z17 z9z18 z9z19 z9z20 z9z21 z9z22 z9z23 z9z24 z9z25 z9z26 z9z27 z9z28 z9z29 z9z30 z9z31 z9z32 z9z33 z9z34 z9z35 z9z36 z9z37 z9z38 z9z39 z9z40 z9z41 z9z42 z9z43 z9z44 z9z45 z9z46 z9z47 z9z48 z9z49 z9z50 z9z51 z9z52 z9z53 z9z54 z9z55 z9z56 z9z57 z9z58 z9z59 z9z60 z9z61 z9z62 z9z63 z9z64 z9z65 z9z66 z9z67 z9z68 z9z69 z9z70 z9z71 z9z72 z9z73 z9z74 z9z75 z9z76 z9z77 z9z78 z9z79 z9z80 z9z81 z9z82 z9z83 z9z84 z9z85 z9z86 z9z87 z9z88 z9z89 z9z90 z9z91 z9z92 z9z93 z9z94 z9z95 z9z96 z9z97 z9z98 z9z99 z9z100 z9z101 z9z102 z9z103 z9z104 z9z105 z9z106 z9z107 z9z108 z9z109 z9z110 z9z111 z9z112 z9z113 z9z114
      revert z9z0 z9z1 z9z2 z9z3 z9z4 z9z5 z9z6 z9z7 z9z8 z9z9 z9z10 z9z11 z9z12 z9z13 z9z14 z9z15 z9z16 z9z17 z9z18 z9z19 z9z20 z9z21 z9z22 z9z23 z9z24 z9z25 z9z26 z9z27 z9z28 z9z29 z9z30 z9z31 z9z32 z9z33 z9z34 z9z35 z9z36 z9z37 z9z38 z9z39 z9z40 z9z41 z9z42 z9z43 z9z44 z9z45 z9z46 z9z47 z9z48 z9z49 z9z50 z9z51 z9z52 z9z53 z9z54 z9z55 z9z56 z9z57 z9z58 z9z59 z9z60 z9z61 z9z62 z9z63 z9z64 z9z65 z9z66 z9z67 z9z68 z9z69 z9z70 z9z71 z9z72 z9z73 z9z74 z9z75 z9z76 z9z77 z9z78 z9z79 z9z80 z9z81 z9z82 z9z83 z9z84 z9z85 z9z86 z9z87 z9z88 z9z89 z9z90 z9z91 z9z92 z9z93 z9z94 z9z95 z9z96 z9z97 z9z98 z9z99 z9z100 z9z101 z9z102 z9z103 z9z104 z9z105 z9z106 z9z107 z9z108 z9z109 z9z110 z9z111 z9z112 z9z113 z9z114 hT8 hT9 TT lifted codeHd ys n sz rev st la p0 P lst lla hP1 hP2 h8 h64 t D hD h' tk F2 x dx es nn fx ry own D1 ok1 ap1 fin1 gr1 o1 o2 o3 oo N3 w1 w2 w3
      exact k9a.out
example : True := by
  k_with_none
  w_top off
  trivial
set_option maxHeartbeats 400000000 in
noncomputable def sd : { P : Prop // Kept P → sc.1 } := by
  refine' ⟨_, fun k9a => ?mm⟩
  case mm =>
    intro _ _ _ _ _ _ _ _ _ _ _ _ _ _ _ hT8 _ _ _ _ _ _ hT9 _ _ _ _ _ _ _ _ _ _ _ _ _ _ _ _ _ _ _ _ _ _ _ _ _ _ TT _ lifted _ _ codeHd _ _ _ _ _ _ _ _ _ _ ys _ _ _ _ _ _ _ _ _ _ _ _ _ _ _ _ _ _ _ _ _ _ _ _ _ _ _ _ _ _ _ _ _ _ _ _ _ _ _ _ _ _ _ _ _ _ _ _ _ _ _ n sz _ rev st la p0 P lst lla hP1 hP2 h8 h64 _ _ t D hD _ h' tk F2 x dx es nn fx ry own D1 ok1 ap1 fin1 gr1 o1 o2 o3 oo N3 w1 w2 w3
    rename Fr _ _ _ _ => F2
    rename News _ _ _ _ => N3
    k_steps
    with_reducible show Halt _
    refine Halt.out ?_
    rename_i z9z0 z9z1 z9z2 z9z3 z9z4 z9z5 z9z6 z9z7 z9z8 z9z9 z9z10 z9z11 z9z12 z9z13 z9z14 z9z15 z9z16 z9z17 z9z18 z9z19 z9z20 z9z21 z9z22 z9z23 z9z24 z9z25 z9z26 z9z27 z9z28 z9z29 z9z30 z9z31 z9z32 z9z33 z9z34 z9z35 z9z36 z9z37 z9z38 z9z39 z9z40 z9z41 z9z42 z9z43 z9z44 z9z45 z9z46 z9z47 z9z48 z9z49 z9z50 z9z51 z9z52 z9z53 z9z54 z9z55 z9z56 z9z57 z9z58 z9z59 z9z60 z9z61 z9z62 z9z63 z9z64 z9z65 z9z66 z9z67 z9z68 z9z69 z9z70 z9z71 z9z72 z9z73 z9z74 z9z75 z9z76 z9z77 z9z78 z9z79 z9z80 z9z81 z9z82 z9z83 z9z84 z9z85 z9z86 z9z87 z9z88 z9z89 z9z90 z9z91 z9z92 z9z93 z9z94 z9z95 z9z96 z9z97 z9z98 z9z99 z9z100 z9z101 z9z102 z9z103 z9z104 z9z105 z9z106 z9z107 z9z108 z9z109 z9z110 z9z111 z9z112 z9z113 z9z114 z9z115 z9z116 z9z117 z9z118 z9z119 z9z120 z9z121 z9z122 z9z123 z9z124 z9z125 z9z126 z9z127 z9z128 z9z129 z9z130 z9z131 z9z132 z9z133 z9z134 z9z135 z9z136
    revert z9z0 z9z1 z9z2 z9z3 z9z4 z9z5 z9z6 z9z7 z9z8 z9z9 z9z10 z9z11 z9z12 z9z13 z9z14 z9z15 z9z16 z9z17 z9z18 z9z19 z9z20 z9z21 z9z22 z9z23 z9z24 z9z25 z9z26 z9z27 z9z28 z9z29 z9z30 z9z31 z9z32 z9z33 z9z34 z9z35 z9z36 z9z37 z9z38 z9z39 z9z40 z9z41 z9z42 z9z43 z9z44 z9z45 z9z46 z9z47 z9z48 z9z49 z9z50 z9z51 z9z52 z9z53 z9z54 z9z55 z9z56 z9z57 z9z58 z9z59 z9z60 z9z61 z9z62 z9z63 z9z64 z9z65 z9z66 z9z67 z9z68 z9z69 z9z70 z9z71 z9z72 z9z73 z9z74 z9z75 z9z76 z9z77 z9z78 z9z79 z9z80 z9z81 z9z82 z9z83 z9z84 z9z85 z9z86 z9z87 z9z88 z9z89 z9z90 z9z91 z9z92 z9z93 z9z94 z9z95 z9z96 z9z97 z9z98 z9z99 z9z100 z9z101 z9z102 z9z103 z9z104 z9z105 z9z106 z9z107 z9z108 z9z109 z9z110 z9z111 z9z112 z9z113 z9z114 z9z115 z9z116 z9z117 z9z118 z9z119 z9z120 z9z121 z9z122 z9z123 z9z124 z9z125 z9z126 z9z127 z9z128 z9z129 z9z130 z9z131 z9z132 z9z133 z9z134 z9z135 z9z136 hT8 hT9 TT lifted codeHd ys n sz rev st la p0 P lst lla hP1 hP2 h8 h64 t D hD h' x dx es nn fx ry own D1 ok1 ap1 fin1 gr1 o1 o2 o3 oo w1 w2 w3 tk
    exact k9a.out
example : True := by
  k_with_none
  w_top off
  trivial
set_option maxHeartbeats 400000000 in
noncomputable def se : { P : Prop // Kept P → sd.1 } := by
  refine' ⟨_, fun k9a => ?mm⟩
  case mm =>
    intro _ _ _ _ _ _ _ _ _ _ _ _ _ _ _ hT8 _ _ _ _ _ _ hT9 _ _ _ _ _ _ _ _ _ _ _ _ _ _ _ _ _ _ _ _ _ _ _ _ _ _ TT _ lifted _ _ codeHd _ _ _ _ _ _ _ _ _ _ ys _ _ _ _ _ _ _ _ _ _ _ _ _ _ _ _ _ _ _ _ _ _ _ _ _ _ _ _ _ _ _ _ _ _ _ _ _ _ _ _ _ _ _ _ _ _ _ _ _ _ _ n sz _ rev st la p0 P lst lla hP1 hP2 h8 h64 _ _ t D hD _ h' _ x dx es nn fx ry own D1 ok1 ap1 fin1 gr1 o1 o2 o3 oo w1 w2 w3 _ _ _ _ _ _ _ _ _ _ _ _ tk _ _ _ _ _ _ _ _ _
    rename Fr _ _ _ _ => F1
    rename News _ _ _ _ => N1
    rename IntsAre _ (List.take _ _) => hI1
    subst hD
    have ht9 := tabX_lt rev P n
    obtain ⟨sl, lf, lm, tk0, ws, e1, e2, e3, e4, e5⟩ := names4 N1
    subst e1 e2 e3 e4 e5
    obtain ⟨bl, hbl⟩ := names_law F1
    generalize hns : List.take _ (List.drop 4 _) = ns at hI1
    have hlen : ns.length ≤ 7 := by rw [← hns, List.length_take]; omega
    have N2 := news_sub (new := full [(sl, listOf ws.toArray 0)] lm lf (refsV [⟨x, dx, es, nn, #[], tk0⟩]) (bytsV [⟨x, dx, es, nn, #[], tk0⟩]) 0 0 own [⟨x, dx, es, nn, #[], tk0⟩]) N1 (by
      intro q hq
      simp only [full, refsV, bytsV, objsL, List.map_cons, List.map_nil, List.mem_append, List.mem_cons, List.not_mem_nil, or_false] at hq ⊢
      grind)
    refine' iter_listTurns ?hh ?hF ?hN ?hm ?hc ?hd ?_
    case hF => exact F1
    case hN => exact N2
    case hh => rfl
    case hm => exact .head _
    case hc => rfl
    case hd => rfl
    intro I hI
    rename (@LT.lt Nat _ x lm) ∧ _ => l1
    have hJ0 : Sep [I, sl] lm lf own [⟨x, dx, es, nn, #[], tk0⟩] := by
      have hI9 : @LT.lt Nat _ sl I := hI (sl, _) (.head _)
      refine sep0 ⟨?_, ?_, ?_, ?_, hI9, o1⟩ l1.2.2.2 w1 w2
      all_goals (try dsimp only)
      all_goals omega
    rename_i z9z0 z9z1 z9z2 z9z3 z9z4 z9z5 z9z6 z9z7 z9z8 z9z9 z9z10 z9z11 z9z12 z9z13 z9z14 z9z15 z9z16 z9z17 z9z18 z9z19 z9z20 z9z21 z9z22 z9z23 z9z24 z9z25 z9z26 z9z27 z9z28 z9z29 z9z30 z9z31 z9z32 z9z33 z9z34 z9z35 z9z36 z9z37 z9z38 z9z39 z9z40 z9z41 z9z42 z9z43 z9z44 z9z45 z9z46 z9z47 z9z48 z9z49 z9z50 z9z51 z9z52 z9z53 z9z54 z9z55 z9z56 z9z57 z9z58 z9z59 z9z60 z9z61 z9z62 z9z63 z9z64 z9z65 z9z66 z9z67 z9z68 z9z69 z9z70 z9z71 z9z72 z9z73 z9z74 z9z75 z9z76 z9z77 z9z78 z9z79 z9z80 z9z81 z9z82 z9z83 z9z84 z9z85 z9z86 z9z87 z9z88 z9z89 z9z90 z9z91 z9z92 z9z93 z9z94 z9z95 z9z96 z9z97 z9z98 z9z99 z9z100 z9z101 z9z102 z9z103 z9z104 z9z105 z9z106 z9z107 z9z108 z9z109 z9z110 z9z111 z9z112 z9z113 z9z114 z9z115 z9z116 z9z117 z9z118 z9z119 z9z120 z9z121 z9z122 z9z123 z9z124 z9z125 z9z126 z9z127
    revert z9z0 z9z1 z9z2 z9z3 z9z4 z9z5 z9z6 z9z7 z9z8 z9z9 z9z10 z9z11 z9z12 z9z13 z9z14 z9z15 z9z16 z9z17 z9z18 z9z19 z9z20 z9z21 z9z22 z9z23 z9z24 z9z25 z9z26 z9z27 z9z28 z9z29 z9z30 z9z31 z9z32 z9z33 z9z34 z9z35 z9z36 z9z37 z9z38 z9z39 z9z40 z9z41 z9z42 z9z43 z9z44 z9z45 z9z46 z9z47 z9z48 z9z49 z9z50 z9z51 z9z52 z9z53 z9z54 z9z55 z9z56 z9z57 z9z58 z9z59 z9z60 z9z61 z9z62 z9z63 z9z64 z9z65 z9z66 z9z67 z9z68 z9z69 z9z70 z9z71 z9z72 z9z73 z9z74 z9z75 z9z76 z9z77 z9z78 z9z79 z9z80 z9z81 z9z82 z9z83 z9z84 z9z85 z9z86 z9z87 z9z88 z9z89 z9z90 z9z91 z9z92 z9z93 z9z94 z9z95 z9z96 z9z97 z9z98 z9z99 z9z100 z9z101 z9z102 z9z103 z9z104 z9z105 z9z106 z9z107 z9z108 z9z109 z9z110 z9z111 z9z112 z9z113 z9z114 z9z115 z9z116 z9z117 z9z118 z9z119 z9z120 z9z121 z9z122 z9z123 z9z124 z9z125 z9z126 z9z127 hT8 hT9 TT lifted codeHd ys n sz rev st la p0 P lst lla hP1 hP2 h8 h64 t h' x dx es nn fx ry own D1 ok1 ap1 fin1 gr1 o1 o2 o3 oo w1 w2 w3 tk ht9 sl lf lm tk0 ws l1 F1 N1 bl hbl ns hns hI1 hlen N2 I hI hJ0
    exact k9a.out
example : True := by
  k_with_none
  w_top off
  trivial
set_option maxHeartbeats 400000000 in
noncomputable def sf : { P : Prop × Prop // Kept P.1 → Kept P.2 → se.1 } := by
  refine' ⟨(_, _), fun k9a k9b => ?mm⟩
  case mm =>
    intro _ _ _ _ _ _ _ _ _ _ _ _ _ _ _ hT8 _ _ _ _ _ _ hT9 _ _ _ _ _ _ _ _ _ _ _ _ _ _ _ _ _ _ _ _ _ _ _ _ _ _ TT _ lifted _ _ codeHd _ _ _ _ _ _ _ _ _ _ ys _ _ _ _ _ _ _ _ _ _ _ _ _ _ _ _ _ _ _ _ _ _ _ _ _ _ _ _ _ _ _ _ _ _ _ _ _ _ _ _ _ _ _ _ _ _ _ _ _ _ _ n sz _ rev st la p0 P lst lla hP1 hP2 h8 h64 _ _ t _ h' x dx es nn fx ry own D1 ok1 ap1 fin1 gr1 o1 o2 o3 oo w1 w2 w3 _ _ _ _ _ _ _ tk _ _ _ ht9 sl lf lm tk0 ws l1 _ _ F1 _ N1 bl hbl ns hns hI1 hlen N2 I hI hJ0
    clear F1 N1 N2 hI l1
    have hC0 : CrcD es n P st la rev fx ry (regOf n rev (tabX rev P n) la st (arrN #[])) := by
      rw [show arrN #[] = [] from rfl, regOf_nil]; exact D1
    refine items_ind (fun r m news => ∃ xs nm nf vs ks, r = vs.map Itm.val ∧ IntsAre vs ks ∧ (∀ q ∈ bl, m q.1 = some q.2) ∧ 1 ≤ xs.length ∧ xs.length ≤ 5 ∧ news = full [(sl, listOf ws.toArray 0)] lm lf (refsV xs) (bytsV xs) nm nf own xs ∧ Sep [I, sl] lm lf own xs ∧ ∀ o ∈ xs, CrcD o.es n P st la rev fx ry (regOf n rev (tabX rev P n) la st (arrN o.b)) ∧ o.b.size + 2 * ks.length ≤ 14) ?stop ?turn _ _ _ ?start
    case start =>
      refine ⟨_, 0, 0, ws, ns, rfl, hI1, ?_, Nat.le_refl _, by show 1 ≤ 5; decide, rfl, hJ0, fun o ho => ?_⟩
      · rw [hbl]
        intro q hq
        simp only [List.mem_cons, List.not_mem_nil, or_false] at hq
        rcases hq with rfl | rfl | rfl | rfl | rfl | rfl | rfl | rfl <;> rfl
      · rw [List.mem_singleton.mp ho]
        exact ⟨hC0, by show 0 + 2 * ns.length ≤ 14; omega⟩
    case stop =>
      rintro m news ⟨xs, nm, nf, vs, ks, hr, hI9, hb9, x1, x5, rfl, hS, hG⟩
      refine ItemsRest.zero fun h' tk F9 N9 => ?_
      clear hJ0
      rename_i z9z0 z9z1 z9z2 z9z3 z9z4 z9z5 z9z6 z9z7 z9z8 z9z9 z9z10 z9z11 z9z12 z9z13 z9z14 z9z15 z9z16 z9z17 z9z18 z9z19 z9z20 z9z21 z9z22 z9z23 z9z24 z9z25 z9z26 z9z27 z9z28 z9z29 z9z30 z9z31 z9z32 z9z33 z9z34 z9z35 z9z36 z9z37 z9z38 z9z39 z9z40 z9z41 z9z42 z9z43 z9z44 z9z45 z9z46 z9z47 z9z48 z9z49 z9z50 z9z51 z9z52 z9z53 z9z54 z9z55 z9z56 z9z57 z9z58 z9z59 z9z60 z9z61 z9z62 z9z63 z9z64 z9z65 z9z66 z9z67 z9z68 z9z69 z9z70 z9z71 z9z72 z9z73 z9z74 z9z75 z9z76 z9z77 z9z78 z9z79 z9z80 z9z81 z9z82 z9z83 z9z84 z9z85 z9z86 z9z87 z9z88 z9z89 z9z90 z9z91 z9z92 z9z93 z9z94 z9z95 z9z96 z9z97 z9z98 z9z99 z9z100 z9z101 z9z102 z9z103 z9z104 z9z105 z9z106 z9z107 z9z108 z9z109 z9z110 z9z111 z9z112 z9z113 z9z114 z9z115 z9z116 z9z117 z9z118 z9z119 z9z120 z9z121 z9z122 z9z123 z9z124 z9z125 z9z126 z9z127 z9z128 z9z129
      revert z9z0 z9z1 z9z2 z9z3 z9z4 z9z5 z9z6 z9z7 z9z8 z9z9 z9z10 z9z11 z9z12 z9z13 z9z14 z9z15 z9z16 z9z17 z9z18 z9z19 z9z20 z9z21 z9z22 z9z23 z9z24 z9z25 z9z26 z9z27 z9z28 z9z29 z9z30 z9z31 z9z32 z9z33 z9z34 z9z35 z9z36 z9z37 z9z38 z9z39 z9z40 z9z41 z9z42 z9z43 z9z44 z9z45 z9z46 z9z47 z9z48 z9z49 z9z50 z9z51 z9z52 z9z53 z9z54 z9z55 z9z56 z9z57 z9z58 z9z59 z9z60 z9z61 z9z62 z9z63 z9z64 z9z65 z9z66 z9z67 z9z68 z9z69 z9z70 z9z71 z9z72 z9z73 z9z74 z9z75 z9z76 z9z77 z9z78 z9z79 z9z80 z9z81 z9z82 z9z83 z9z84 z9z85 z9z86 z9z87 z9z88 z9z89 z9z90 z9z91 z9z92 z9z93 z9z94 z9z95 z9z96 z9z97 z9z98 z9z99 z9z100 z9z101 z9z102 z9z103 z9z104 z9z105 z9z106 z9z107 z9z108 z9z109 z9z110 z9z111 z9z112 z9z113 z9z114 z9z115 z9z116 z9z117 z9z118 z9z119 z9z120 z9z121 z9z122 z9z123 z9z124 z9z125 z9z126 z9z127 z9z128 z9z129 hT8 hT9 TT lifted codeHd ys n sz rev st la p0 P lst lla hP1 hP2 h8 h64 t x dx es nn fx ry own D1 ok1 ap1 fin1 gr1 o1 o2 o3 oo w1 w2 w3 ht9 sl lf lm tk0 ws bl hbl ns hns hI1 hlen I hC0 m xs nm nf vs ks hr hI9 hb9 x1 x5 hS hG h' tk F9 N9
      exact k9a.out
    case turn =>
      rintro a r m news ⟨xs, nm, nf, vs, ks, hr, hI9, hb9, x1, x5, rfl, hS, hG⟩ ih
      rename_i z9z0 z9z1 z9z2 z9z3 z9z4 z9z5 z9z6 z9z7 z9z8 z9z9 z9z10 z9z11 z9z12 z9z13 z9z14 z9z15 z9z16 z9z17 z9z18 z9z19 z9z20 z9z21 z9z22 z9z23 z9z24 z9z25 z9z26 z9z27 z9z28 z9z29 z9z30 z9z31 z9z32 z9z33 z9z34 z9z35 z9z36 z9z37 z9z38 z9z39 z9z40 z9z41 z9z42 z9z43 z9z44 z9z45 z9z46 z9z47 z9z48 z9z49 z9z50 z9z51 z9z52 z9z53 z9z54 z9z55 z9z56 z9z57 z9z58 z9z59 z9z60 z9z61 z9z62 z9z63 z9z64 z9z65 z9z66 z9z67 z9z68 z9z69 z9z70 z9z71 z9z72 z9z73 z9z74 z9z75 z9z76 z9z77 z9z78 z9z79 z9z80 z9z81 z9z82 z9z83 z9z84 z9z85 z9z86 z9z87 z9z88 z9z89 z9z90 z9z91 z9z92 z9z93 z9z94 z9z95 z9z96 z9z97 z9z98 z9z99 z9z100 z9z101 z9z102 z9z103 z9z104 z9z105 z9z106 z9z107 z9z108 z9z109 z9z110 z9z111 z9z112 z9z113 z9z114 z9z115 z9z116 z9z117 z9z118 z9z119 z9z120 z9z121 z9z122 z9z123 z9z124 z9z125 z9z126 z9z127
      revert z9z0 z9z1 z9z2 z9z3 z9z4 z9z5 z9z6 z9z7 z9z8 z9z9 z9z10 z9z11 z9z12 z9z13 z9z14 z9z15 z9z16 z9z17 z9z18 z9z19 z9z20 z9z21 z9z22 z9z23 z9z24 z9z25 z9z26 z9z27 z9z28 z9z29 z9z30 z9z31 z9z32 z9z33 z9z34 z9z35 z9z36 z9z37 z9z38 z9z39 z9z40 z9z41 z9z42 z9z43 z9z44 z9z45 z9z46 z9z47 z9z48 z9z49 z9z50 z9z51 z9z52 z9z53 z9z54 z9z55 z9z56 z9z57 z9z58 z9z59 z9z60 z9z61 z9z62 z9z63 z9z64 z9z65 z9z66 z9z67 z9z68 z9z69 z9z70 z9z71 z9z72 z9z73 z9z74 z9z75 z9z76 z9z77 z9z78 z9z79 z9z80 z9z81 z9z82 z9z83 z9z84 z9z85 z9z86 z9z87 z9z88 z9z89 z9z90 z9z91 z9z92 z9z93 z9z94 z9z95 z9z96 z9z97 z9z98 z9z99 z9z100 z9z101 z9z102 z9z103 z9z104 z9z105 z9z106 z9z107 z9z108 z9z109 z9z110 z9z111 z9z112 z9z113 z9z114 z9z115 z9z116 z9z117 z9z118 z9z119 z9z120 z9z121 z9z122 z9z123 z9z124 z9z125 z9z126 z9z127 hT8 hT9 TT lifted codeHd ys n sz rev st la p0 P lst lla hP1 hP2 h8 h64 t h' x dx es nn fx ry own D1 ok1 ap1 fin1 gr1 o1 o2 o3 oo w1 w2 w3 tk ht9 sl lf lm tk0 ws bl hbl ns hns hI1 hlen I hJ0 hC0 a r m xs nm nf vs ks hr hI9 hb9 x1 x5 hS hG ih
      exact k9b.out
example : True := by
  k_with_none
  w_top off
  trivial
set_option maxHeartbeats 400000000 in
noncomputable def sg : { P : Prop // Kept P → sf.1.2 } := by
  refine' ⟨_, fun k9a => ?mm⟩
  case mm =>
    intro _ _ _ _ _ _ _ _ _ _ _ _ _ _ _ hT8 _ _ _ _ _ _ hT9 _ _ _ _ _ _ _ _ _ _ _ _ _ _ _ _ _ _ _ _ _ _ _ _ _ _ TT _ lifted _ _ codeHd _ _ _ _ _ _ _ _ _ _ ys _ _ _ _ _ _ _ _ _ _ _ _ _ _ _ _ _ _ _ _ _ _ _ _ _ _ _ _ _ _ _ _ _ _ _ _ _ _ _ _ _ _ _ _ _ _ _ _ _ _ _ n sz _ rev st la p0 P lst lla hP1 hP2 h8 h64 _ _ t _ h' x dx es nn fx ry own D1 ok1 ap1 fin1 gr1 o1 o2 o3 oo w1 w2 w3 _ _ _ _ _ _ _ tk _ _ _ ht9 sl lf lm tk0 ws _ _ _ bl hbl ns hns hI1 hlen I hJ0 hC0 a r m xs nm nf vs ks hr hI9 hb9 x1 x5 hS hG ih
    repeat (rename (@LT.lt Nat _ _ _) ∧ _ => hgone; clear hgone)
    repeat (rename (@Ne Nat _ _) ∧ _ => hgone; clear hgone)
    cases hI9 with
    | nil => cases hr
    | cons k t r' =>
    rename_i vs ks
    obtain ⟨e1, e2⟩ := List.cons.inj hr
    subst e1 e2
    refine ItemsRest.val fun h' tk' F9 => ?_
    refine AllObj.cons fun oI hcI => AllObj.nil fun N9 => ?_
    refine turn_wrap (fun m' n' => ∃ ys n1 n2, (∀ q ∈ bl, m' q.1 = some q.2) ∧ 1 ≤ ys.length ∧ ys.length ≤ 5 ∧ n' = full [(sl, listOf ws.toArray 0)] lm lf (refsV ys) (bytsV ys) n1 n2 own ys ∧ Sep [I, sl] lm lf own ys ∧ ∀ o ∈ ys, CrcD o.es n P st la rev fx ry (regOf n rev (tabX rev P n) la st (arrN o.b)) ∧ o.b.size + 2 * ks.length ≤ 14) ?_ ?_
    · rintro m' n' ⟨ys, n1, n2, b1, y1, y5, rfl, S8, G8⟩
      refine ⟨fun p hp q hq => ?_, ⟨.head _, trivial⟩, ih _ _ ⟨ys, n1, n2, vs, ks, rfl, r', b1, y1, y5, rfl, S8, G8⟩⟩
      rw [List.mem_singleton.mp hq]
      exact sep_ne (its := [(sl, _)]) S8 p hp
    intro Q' E' hret
    clear ih
    obtain ⟨Gf, hGf⟩ : ∃ Gf, Gf = reg n rev P la st := ⟨_, rfl⟩
    replace hG : ∀ o ∈ xs, CrcD o.es n P st la rev fx ry (Gf o.b) ∧ o.b.size + 2 * (k :: ks).length ≤ 14 := by rw [hGf]; exact hG
    have hj : smod (Int.fdiv k 12) xs.length < xs.length := smod_lt x1
    obtain ⟨A', o, B', ex, eA⟩ := split_at hj
    have hvm := refsV_len xs
    have hvf := bytsV_len xs
    have hm := refsV_at (A := A') (B := B') (o := o)
    have hf := bytsV_at (A := A') (B := B') (o := o)
    rw [← ex, eA] at hm hf
    have hG9 := hG o (by rw [ex]; simp)
    obtain ⟨hD9, hb9'⟩ := hG9
    have hAp := Sep.apart (its := [(I, oI), (sl, listOf ws.toArray 0)]) (ex ▸ hS)
    have N8 := news_sub (new := front o [(I, oI), (sl, listOf ws.toArray 0)] lm lf (refsV xs) (bytsV xs) nm nf (own ++ (objsL A' ++ objsL B'))) N9 (fun q hq => by
      have := front_sub q hq
      rw [← ex] at this
      simp only [full, List.mem_append, List.mem_cons, List.not_mem_nil, or_false] at this ⊢
      grind)
    clear N9
    rw [ov_eq hb9, hbl] at F9
    dsimp only [ov] at F9
    obtain ⟨a1, a2, a3, a4, a5⟩ := hAp
    generalize hR : own ++ (objsL A' ++ objsL B') = R at N8 a5
    generalize hvm9 : refsV xs = vm at N8 hvm hm
    generalize hvf9 : bytsV xs = vf at N8 hvf hf
    simp only [front, List.cons_append, List.nil_append] at N8
    simp only [List.mem_cons, List.not_mem_nil, or_false, forall_eq_or_imp, forall_eq] at a2
    obtain ⟨c1, ec⟩ := hD9.val
    have q1 : ∀ q ∈ R, q.1 ≠ o.x := fun q hq => (a5 q hq).1
    have q2 : ∀ q ∈ R, q.1 ≠ o.dx := fun q hq => (a5 q hq).2.1
    have q3 : ∀ q ∈ R, q.1 ≠ lm := fun q hq => (a5 q hq).2.2.1
    have q4 : ∀ q ∈ R, q.1 ≠ lf := fun q hq => (a5 q hq).2.2.2
    have m1 := hD9.m1
    have m2 := hD9.m2
    have m3 := hD9.m3
    try (rename Heap.CodeRec _ _ _ => hgone; clear hgone)
    try (rename Dflts _ _ _ => hgone; clear hgone)
    try (rename CellsAre _ _ _ => hgone; clear hgone)
    try (rename _ = Data.cell _ => hgone; clear hgone)
    try (rename Ground _ _ _ _ _ _ _ _ _ => hgone; clear hgone)
    try (rename Flt.MathXP _ _ _ => hgone; clear hgone)
    try (rename LooseAre _ _ _ => hgone; clear hgone)
    try (rename Tables _ _ _ _ => hgone; clear hgone)
    try (rename TopE _ _ _ _ => hgone; clear hgone)
    try (rename TopW _ _ _ => hgone; clear hgone)
    try (rename TabsAt _ _ => hgone; clear hgone)
    try (rename ReadsAllW _ _ _ _ _ _ => hgone; clear hgone)
    try (rename Well _ _ _ _ => hgone; clear hgone)
    try (rename Reads _ _ _ _ => hgone; clear hgone)
    try (rename ReadsAll _ _ _ _ => hgone; clear hgone)
    try (rename IntsAre _ (List.map _ _) => hgone; clear hgone)
    rename_i z9z0 z9z1 z9z2 z9z3 z9z4 z9z5 z9z6 z9z7 z9z8 z9z9 z9z10 z9z11 z9z12 z9z13 z9z14 z9z15 z9z16 z9z17 z9z18 z9z19 z9z20 z9z21 z9z22 z9z23 z9z24 z9z25 z9z26 z9z27 z9z28 z9z29 z9z30 z9z31 z9z32 z9z33 z9z34 z9z35 z9z36 z9z37 z9z38 z9z39 z9z40 z9z41 z9z42 z9z43 z9z44 z9z45 z9z46 z9z47 z9z48 z9z49 z9z50 z9z51 z9z52 z9z53 z9z54 z9z55 z9z56 z9z57 z9z58 z9z59 z9z60 z9z61 z9z62 z9z63 z9z64 z9z65 z9z66 z9z67 z9z68 z9z69 z9z70 z9z71 z9z72 z9z73 z9z74 z9z75 z9z76 z9z77 z9z78 z9z79 z9z80 z9z81 z9z82 z9z83 z9z84 z9z85 z9z86 z9z87 z9z88 z9z89 z9z90 z9z91 z9z92 z9z93 z9z94 z9z95 z9z96 z9z97 z9z98 z9z99 z9z100 z9z101 z9z102 z9z103 z9z104 z9z105 z9z106 z9z107
    revert z9z0 z9z1 z9z2 z9z3 z9z4 z9z5 z9z6 z9z7 z9z8 z9z9 z9z10 z9z11 z9z12 z9z13 z9z14 z9z15 z9z16 z9z17 z9z18 z9z19 z9z20 z9z21 z9z22 z9z23 z9z24 z9z25 z9z26 z9z27 z9z28 z9z29 z9z30 z9z31 z9z32 z9z33 z9z34 z9z35 z9z36 z9z37 z9z38 z9z39 z9z40 z9z41 z9z42 z9z43 z9z44 z9z45 z9z46 z9z47 z9z48 z9z49 z9z50 z9z51 z9z52 z9z53 z9z54 z9z55 z9z56 z9z57 z9z58 z9z59 z9z60 z9z61 z9z62 z9z63 z9z64 z9z65 z9z66 z9z67 z9z68 z9z69 z9z70 z9z71 z9z72 z9z73 z9z74 z9z75 z9z76 z9z77 z9z78 z9z79 z9z80 z9z81 z9z82 z9z83 z9z84 z9z85 z9z86 z9z87 z9z88 z9z89 z9z90 z9z91 z9z92 z9z93 z9z94 z9z95 z9z96 z9z97 z9z98 z9z99 z9z100 z9z101 z9z102 z9z103 z9z104 z9z105 z9z106 z9z107 hT8 TT lifted codeHd ys n sz rev st la p0 P lst lla hP1 hP2 h8 h64 x dx es nn fx ry own D1 ok1 ap1 fin1 gr1 o1 o2 o3 oo w1 w2 w3 tk ht9 sl lf lm tk0 ws bl hbl ns hns hI1 hlen I hJ0 hC0 m xs nm nf hb9 x1 x5 hS k t vs ks r' hr h' tk' F9 oI hcI Q' E' hret Gf hGf hG hj A' o B' ex eA hD9 hb9' a1 a3 a4 R hR a5 vm hvm9 hvm hm vf hvf9 N8 hvf hf a2 c1 ec q1 q2 q3 q4 m1 m2 m3
    exact k9a.out
example : True := by
  k_with_none
  w_top off
  trivial
set_option maxHeartbeats 400000000 in
noncomputable def sh : { P : Prop × Prop × Prop × Prop × Prop // Kept P.1 → Kept P.2.1 → Kept P.2.2.1 → Kept P.2.2.2.1 → Kept P.2.2.2.2 → sg.1 } := by
  refine' ⟨(_, _, _, _, _), fun k9a k9b k9c k9d k9e => ?mm⟩
  case mm =>
    intro _ _ _ _ _ _ _ _ _ _ _ _ _ hT8 _ _ _ _ _ _ _ _ _ _ _ _ _ _ _ _ _ _ _ _ _ TT _ lifted _ _ codeHd _ _ _ _ _ _ _ _ _ ys _ _ _ _ _ _ _ _ _ _ _ _ _ _ _ _ _ _ _ _ _ _ _ _ _ _ _ _ _ _ _ _ _ _ _ _ _ _ _ _ _ _ _ _ _ _ n sz _ rev st la p0 P lst lla hP1 hP2 h8 h64 _ _ _ _ _ x dx es nn fx ry own D1 ok1 ap1 fin1 gr1 o1 o2 o3 oo w1 w2 w3 _ _ _ _ _ _ _ tk _ _ _ ht9 sl lf lm tk0 ws bl hbl ns hns hI1 hlen I hJ0 hC0 m xs nm nf hb9 x1 x5 hS k t vs ks r' hr h' tk' F9 oI hcI Q' E' hret Gf hGf hG hj A' o B' ex eA hD9 hb9' a1 a3 a4 R hR a5 vm hvm9 hvm hm vf hvf9 N8 hvf hf a2 c1 ec q1 q2 q3 q4 m1 m2 m3
    (k_with "call ref" => refine Halt.mk ?_)
    k_steps
    all_goals (with_reducible show Halt _)
    all_goals refine Halt.out ?_
    · rename_i z9z0 z9z1 z9z2 z9z3 z9z4 z9z5 z9z6 z9z7 z9z8 z9z9 z9z10 z9z11 z9z12 z9z13 z9z14 z9z15 z9z16 z9z17 z9z18 z9z19 z9z20 z9z21 z9z22 z9z23 z9z24 z9z25 z9z26 z9z27 z9z28 z9z29 z9z30 z9z31 z9z32 z9z33 z9z34 z9z35 z9z36 z9z37 z9z38 z9z39 z9z40 z9z41 z9z42 z9z43 z9z44 z9z45 z9z46 z9z47 z9z48 z9z49 z9z50 z9z51 z9z52 z9z53 z9z54 z9z55 z9z56 z9z57 z9z58 z9z59 z9z60 z9z61 z9z62 z9z63 z9z64 z9z65 z9z66 z9z67 z9z68 z9z69 z9z70 z9z71 z9z72 z9z73 z9z74 z9z75 z9z76 z9z77 z9z78 z9z79 z9z80 z9z81 z9z82 z9z83 z9z84 z9z85 z9z86 z9z87 z9z88 z9z89 z9z90 z9z91 z9z92 z9z93 z9z94 z9z95 z9z96 z9z97 z9z98 z9z99 z9z100 z9z101 z9z102 z9z103 z9z104 z9z105 z9z106 z9z107 z9z108 z9z109 z9z110 z9z111 z9z112 z9z113 z9z114 z9z115 z9z116 z9z117 z9z118 z9z119 z9z120 z9z121 z9z122 z9z123 z9z124 z9z125 z9z126 z9z127 z9z128 z9z129 z9z130 z9z131 z9z132 z9z133 z9z134 z9z135 z9z136 z9z137
      revert z9z0 z9z1 z9z2 z9z3 z9z4 z9z5 z9z6 z9z7 z9z8 z9z9 z9z10 z9z11 z9z12 z9z13 z9z14 z9z15 z9z16 z9z17 z9z18 z9z19 z9z20 z9z21 z9z22 z9z23 z9z24 z9z25 z9z26 z9z27 z9z28 z9z29 z9z30 z9z31 z9z32 z9z33 z9z34 z9z35 z9z36 z9z37 z9z38 z9z39 z9z40 z9z41 z9z42 z9z43 z9z44 z9z45 z9z46 z9z47 z9z48 z9z49 z9z50 z9z51 z9z52 z9z53 z9z54 z9z55 z9z56 z9z57 z9z58 z9z59 z9z60 z9z61 z9z62 z9z63 z9z64 z9z65 z9z66 z9z67 z9z68 z9z69 z9z70 z9z71 z9z72 z9z73 z9z74 z9z75 z9z76 z9z77 z9z78 z9z79 z9z80 z9z81 z9z82 z9z83 z9z84 z9z85 z9z86 z9z87 z9z88 z9z89 z9z90 z9z91 z9z92 z9z93 z9z94 z9z95 z9z96 z9z97 z9z98 z9z99 z9z100 z9z101 z9z102 z9z103 z9z104 z9z105 z9z106 z9z107 z9z108 z9z109 z9z110 z9z111 z9z112 z9z113 z9z114 z9z115 z9z116 z9z117 z9z118 z9z119 z9z120 z9z121 z9z122 z9z123 z9z124 z9z125 z9z126 z9z127 z9z128 z9z129 z9z130 z9z131 z9z132 z9z133 z9z134 z9z135 z9z136 z9z137 hT8 TT lifted codeHd ys n sz rev st la p0 P lst lla hP1 hP2 h8 h64 x dx es nn fx ry own D1 ok1 ap1 fin1 gr1 o1 o2 o3 oo w1 w2 w3 ht9 sl lf lm tk0 ws bl hbl ns hns hI1 hlen I hJ0 hC0 m xs nm nf hb9 x1 x5 hS k t vs ks r' hr h' tk' F9 oI hcI Q' E' hret Gf hGf hG hj A' o B' ex eA hD9 hb9' a1 a3 a4 R hR a5 vm hvm9 hvm hm vf hvf9 N8 hvf hf a2 c1 ec q1 q2 q3 q4 m1 m2 m3 tk
      exact k9a.out
    · rename_i z9z0 z9z1 z9z2 z9z3 z9z4 z9z5 z9z6 z9z7 z9z8 z9z9 z9z10 z9z11 z9z12 z9z13 z9z14 z9z15 z9z16 z9z17 z9z18 z9z19 z9z20 z9z21 z9z22 z9z23 z9z24 z9z25 z9z26 z9z27 z9z28 z9z29 z9z30 z9z31 z9z32 z9z33 z9z34 z9z35 z9z36 z9z37 z9z38 z9z39 z9z40 z9z41 z9z42 z9z43 z9z44 z9z45 z9z46 z9z47 z9z48 z9z49 z9z50 z9z51 z9z52 z9z53 z9z54 z9z55 z9z56 z9z57 z9z58 z9z59 z9z60 z9z61 z9z62 z9z63 z9z64 z9z65 z9z66 z9z67 z9z68 z9z69 z9z70 z9z71 z9z72 z9z73 z9z74 z9z75 z9z76 z9z77 z9z78 z9z79 z9z80 z9z81 z9z82 z9z83 z9z84 z9z85 z9z86 z9z87 z9z88 z9z89 z9z90 z9z91 z9z92 z9z93 z9z94 z9z95 z9z96 z9z97 z9z98 z9z99 z9z100 z9z101 z9z102 z9z103 z9z104 z9z105 z9z106 z9z107 z9z108 z9z109 z9z110 z9z111 z9z112 z9z113 z9z114 z9z115 z9z116 z9z117 z9z118 z9z119 z9z120 z9z121 z9z122 z9z123 z9z124 z9z125 z9z126 z9z127 z9z128 z9z129 z9z130 z9z131 z9z132 z9z133 z9z134 z9z135 z9z136 z9z137 z9z138 z9z139 z9z140
      revert z9z0 z9z1 z9z2 z9z3 z9z4 z9z5 z9z6 z9z7 z9z8 z9z9 z9z10 z9z11 z9z12 z9z13 z9z14 z9z15 z9z16 z9z17 z9z18 z9z19 z9z20 z9z21 z9z22 z9z23 z9z24 z9z25 z9z26 z9z27 z9z28 z9z29 z9z30 z9z31 z9z32 z9z33 z9z34 z9z35 z9z36 z9z37 z9z38 z9z39 z9z40 z9z41 z9z42 z9z43 z9z44 z9z45 z9z46 z9z47 z9z48 z9z49 z9z50 z9z51 z9z52 z9z53 z9z54 z9z55 z9z56 z9z57 z9z58 z9z59 z9z60 z9z61 z9z62 z9z63 z9z64 z9z65 z9z66 z9z67 z9z68 z9z69 z9z70 z9z71 z9z72 z9z73 z9z74 z9z75 z9z76 z9z77 z9z78 z9z79 z9z80 z9z81 z9z82 z9z83 z9z84 z9z85 z9z86 z9z87 z9z88 z9z89 z9z90 z9z91 z9z92 z9z93 z9z94 z9z95 z9z96 z9z97 z9z98 z9z99 z9z100 z9z101 z9z102 z9z103 z9z104 z9z105 z9z106 z9z107 z9z108 z9z109 z9z110 z9z111 z9z112 z9z113 z9z114 z9z115 z9z116 z9z117 z9z118 z9z119 z9z120 z9z121 z9z122 z9z123 z9z124 z9z125 z9z126 z9z127 z9z128 z9z129 z9z130 z9z131 z9z132 z9z133 z9z134 z9z135 z9z136 z9z137 z9z138 z9z139 z9z140 hT8 TT lifted codeHd ys n sz rev st la p0 P lst lla hP1 hP2 h8 h64 x dx es nn fx ry own D1 ok1 ap1 fin1 gr1 o1 o2 o3 oo w1 w2 w3 ht9 sl lf lm tk0 ws bl hbl ns hns hI1 hlen I hJ0 hC0 m xs nm nf hb9 x1 x5 hS k t vs ks r' hr h' tk' F9 oI hcI Q' E' hret Gf hGf hG hj A' o B' ex eA hD9 hb9' a1 a3 a4 R hR a5 vm hvm9 hvm hm vf hvf9 N8 hvf hf a2 c1 ec q1 q2 q3 q4 m1 m2 m3 tk
      exact k9b.out
    · rename_i z9z0 z9z1 z9z2 z9z3 z9z4 z9z5 z9z6 z9z7 z9z8 z9z9 z9z10 z9z11 z9z12 z9z13 z9z14 z9z15 z9z16 z9z17 z9z18 z9z19 z9z20 z9z21 z9z22 z9z23 z9z24 z9z25 z9z26 z9z27 z9z28 z9z29 z9z30 z9z31 z9z32 z9z33 z9z34 z9z35 z9z36 z9z37 z9z38 z9z39 z9z40 z9z41 z9z42 z9z43 z9z44 z9z45 z9z46 z9z47 z9z48 z9z49 z9z50 z9z51 z9z52 z9z53 z9z54 z9z55 z9z56 z9z57 z9z58 z9z59 z9z60 z9z61 z9z62 z9z63 z9z64 z9z65 z9z66 z9z67 z9z68 z9z69 z9z70 z9z71 z9z72 z9z73 z9z74 z9z75 z9z76 z9z77 z9z78 z9z79 z9z80 z9z81 z9z82 z9z83 z9z84 z9z85 z9z86 z9z87 z9z88 z9z89 z9z90 z9z91 z9z92 z9z93 z9z94 z9z95 z9z96 z9z97 z9z98 z9z99 z9z100 z9z101 z9z102 z9z103 z9z104 z9z105 z9z106 z9z107 z9z108 z9z109 z9z110 z9z111 z9z112 z9z113 z9z114 z9z115 z9z116 z9z117 z9z118 z9z119 z9z120 z9z121 z9z122 z9z123 z9z124 z9z125 z9z126 z9z127 z9z128 z9z129 z9z130 z9z131 z9z132 z9z133 z9z134 z9z135 z9z136 z9z137 z9z138 z9z139 z9z140 z9z141 z9z142 z9z143 z9z144
      revert z9z0 z9z1 z9z2 z9z3 z9z4 z9z5 z9z6 z9z7 z9z8 z9z9 z9z10 z9z11 z9z12 z9z13 z9z14 z9z15 z9z16 z9z17 z9z18 z9z19 z9z20 z9z21 z9z22 z9z23 z9z24 z9z25 z9z26 z9z27 z9z28 z9z29 z9z30 z9z31 z9z32 z9z33 z9z34 z9z35 z9z36 z9z37 z9z38 z9z39 z9z40 z9z41 z9z42 z9z43 z9z44 z9z45 z9z46 z9z47 z9z48 z9z49 z9z50 z9z51 z9z52 z9z53 z9z54 z9z55 z9z56 z9z57 z9z58 z9z59 z9z60 z9z61 z9z62 z9z63 z9z64 z9z65 z9z66 z9z67 z9z68 z9z69 z9z70 z9z71 z9z72 z9z73 z9z74 z9z75 z9z76 z9z77 z9z78 z9z79 z9z80 z9z81 z9z82 z9z83 z9z84 z9z85 z9z86 z9z87 z9z88 z9z89 z9z90 z9z91 z9z92 z9z93 z9z94 z9z95 z9z96 z9z97 z9z98 z9z99 z9z100 z9z101 z9z102 z9z103 z9z104 z9z105 z9z106 z9z107 z9z108 z9z109 z9z110 z9z111 z9z112 z9z113 z9z114 z9z115 z9z116 z9z117 z9z118 z9z119 z9z120 z9z121 z9z122 z9z123 z9z124 z9z125 z9z126 z9z127 z9z128 z9z129 z9z130 z9z131 z9z132 z9z133 z9z134 z9z135 z9z136 z9z137 z9z138 z9z139 z9z140 z9z141 z9z142 z9z143 z9z144 hT8 TT lifted codeHd ys n sz rev st la p0 P lst lla hP1 hP2 h8 h64 x dx es nn fx ry own D1 ok1 ap1 fin1 gr1 o1 o2 o3 oo w1 w2 w3 ht9 sl lf lm tk0 ws bl hbl ns hns hI1 hlen I hJ0 hC0 m xs nm nf hb9 x1 x5 hS k t vs ks r' hr h' tk' F9 oI hcI Q' E' hret Gf hGf hG hj A' o B' ex eA hD9 hb9' a1 a3 a4 R hR a5 vm hvm9 hvm hm vf hvf9 N8 hvf hf a2 c1 ec q1 q2 q3 q4 m1 m2 m3 tk
      exact k9c.out
    · rename_i z9z0 z9z1 z9z2 z9z3 z9z4 z9z5 z9z6 z9z7 z9z8 z9z9 z9z10 z9z11 z9z12 z9z13 z9z14 z9z15 z9z16 z9z17 z9z18 z9z19 z9z20 z9z21 z9z22 z9z23 z9z24 z9z25 z9z26 z9z27 z9z28 z9z29 z9z30 z9z31 z9z32 z9z33 z9z34 z9z35 z9z36 z9z37 z9z38 z9z39 z9z40 z9z41 z9z42 z9z43 z9z44 z9z45 z9z46 z9z47 z9z48 z9z49 z9z50 z9z51 z9z52 z9z53 z9z54 z9z55 z9z56 z9z57 z9z58 z9z59 z9z60 z9z61 z9z62 z9z63 z9z64 z9z65 z9z66 z9z67 z9z68 z9z69 z9z70 z9z71 z9z72 z9z73 z9z74 z9z75 z9z76 z9z77 z9z78 z9z79 z9z80 z9z81 z9z82 z9z83 z9z84 z9z85 z9z86 z9z87 z9z88 z9z89 z9z90 z9z91 z9z92 z9z93 z9z94 z9z95 z9z96 z9z97 z9z98 z9z99 z9z100 z9z101 z9z102 z9z103 z9z104 z9z105 z9z106 z9z107 z9z108 z9z109 z9z110 z9z111 z9z112 z9z113 z9z114 z9z115 z9z116 z9z117 z9z118 z9z119 z9z120 z9z121 z9z122 z9z123 z9z124 z9z125 z9z126 z9z127 z9z128 z9z129 z9z130 z9z131 z9z132 z9z133 z9z134 z9z135 z9z136 z9z137 z9z138 z9z139 z9z140 z9z141 z9z142 z9z143 z9z144 z9z145 z9z146 z9z147
      revert z9z0 z9z1 z9z2 z9z3 z9z4 z9z5 z9z6 z9z7 z9z8 z9z9 z9z10 z9z11 z9z12 z9z13 z9z14 z9z15 z9z16 z9z17 z9z18 z9z19 z9z20 z9z21 z9z22 z9z23 z9z24 z9z25 z9z26 z9z27 z9z28 z9z29 z9z30 z9z31 z9z32 z9z33 z9z34 z9z35 z9z36 z9z37 z9z38 z9z39 z9z40 z9z41 z9z42 z9z43 z9z44 z9z45 z9z46 z9z47 z9z48 z9z49 z9z50 z9z51 z9z52 z9z53 z9z54 z9z55 z9z56 z9z57 z9z58 z9z59 z9z60 z9z61 z9z62 z9z63 z9z64 z9z65 z9z66 z9z67 z9z68 z9z69 z9z70 z9z71 z9z72 z9z73 z9z74 z9z75 z9z76 z9z77 z9z78 z9z79 z9z80 z9z81 z9z82 z9z83 z9z84 z9z85 z9z86 z9z87 z9z88 z9z89 z9z90 z9z91 z9z92 z9z93 z9z94 z9z95 z9z96 z9z97 z9z98 z9z99 z9z100 z9z101 z9z102 z9z103 z9z104 z9z105 z9z106 z9z107 z9z108 z9z109 z9z110 z9z111 z9z112 z9z113 z9z114 z9z115 z9z116 z9z117 z9z118 z9z119 z9z120 z9z121 z9z122 z9z123 z9z124 z9z125 z9z126 z9z127 z9z128 z9z129 z9z130 z9z131 z9z132 z9z133 z9z134 z9z135 z9z136 z9z137 z9z138 z9z139 z9z140 z9z141 z9z142 z9z143 z9z144 z9z145 z9z146 z9z147 hT8 TT lifted codeHd ys n sz rev st la p0 P lst lla hP1 hP2 h8 h64 x dx es nn fx ry own D1 ok1 ap1 fin1 gr1 o1 o2 o3 oo w1 w2 w3 ht9 sl lf lm tk0 ws bl hbl ns hns hI1 hlen I hJ0 hC0 m xs nm nf hb9 x1 x5 hS k t vs ks r' hr h' tk' F9 oI hcI Q' E' hret Gf hGf hG hj A' o B' ex eA hD9 hb9' a1 a3 a4 R hR a5 vm hvm9 hvm hm vf hvf9 N8 hvf hf a2 c1 ec q1 q2 q3 q4 m1 m2 m3 tk
      exact k9d.out
    · rename_i z9z0 z9z1 z9z2 z9z3 z9z4 z9z5 z9z6 z9z7 z9z8 z9z9 z9z10 z9z11 z9z12 z9z13 z9z14 z9z15 z9z16 z9z17 z9z18 z9z19 z9z20 z9z21 z9z22 z9z23 z9z24 z9z25 z9z26 z9z27 z9z28 z9z29 z9z30 z9z31 z9z32 z9z33 z9z34 z9z35 z9z36 z9z37 z9z38 z9z39 z9z40 z9z41 z9z42 z9z43 z9z44 z9z45 z9z46 z9z47 z9z48 z9z49 z9z50 z9z51 z9z52 z9z53 z9z54 z9z55 z9z56 z9z57 z9z58 z9z59 z9z60 z9z61 z9z62 z9z63 z9z64 z9z65 z9z66 z9z67 z9z68 z9z69 z9z70 z9z71 z9z72 z9z73 z9z74 z9z75 z9z76 z9z77 z9z78 z9z79 z9z80 z9z81 z9z82 z9z83 z9z84 z9z85 z9z86 z9z87 z9z88 z9z89 z9z90 z9z91 z9z92 z9z93 z9z94 z9z95 z9z96 z9z97 z9z98 z9z99 z9z100 z9z101 z9z102 z9z103 z9z104 z9z105 z9z106 z9z107 z9z108 z9z109 z9z110 z9z111 z9z112 z9z113 z9z114 z9z115 z9z116 z9z117 z9z118 z9z119 z9z120 z9z121 z9z122 z9z123 z9z124 z9z125 z9z126 z9z127 z9z128 z9z129 z9z130 z9z131 z9z132 z9z133 z9z134 z9z135 z9z136 z9z137 z9z138 z9z139 z9z140 z9z141 z9z142 z9z143 z9z144 z9z145 z9z146 z9z147
      revert z9z0 z9z1 z9z2 z9z3 z9z4 z9z5 z9z6 z9z7 z9z8 z9z9 z9z10 z9z11 z9z12 z9z13 z9z14 z9z15 z9z16 z9z17 z9z18 z9z19 z9z20 z9z21 z9z22 z9z23 z9z24 z9z25 z9z26 z9z27 z9z28 z9z29 z9z30 z9z31 z9z32 z9z33 z9z34 z9z35 z9z36 z9z37 z9z38 z9z39 z9z40 z9z41 z9z42 z9z43 z9z44 z9z45 z9z46 z9z47 z9z48 z9z49 z9z50 z9z51 z9z52 z9z53 z9z54 z9z55 z9z56 z9z57 z9z58 z9z59 z9z60 z9z61 z9z62 z9z63 z9z64 z9z65 z9z66 z9z67 z9z68 z9z69 z9z70 z9z71 z9z72 z9z73 z9z74 z9z75 z9z76 z9z77 z9z78 z9z79 z9z80 z9z81 z9z82 z9z83 z9z84 z9z85 z9z86 z9z87 z9z88 z9z89 z9z90 z9z91 z9z92 z9z93 z9z94 z9z95 z9z96 z9z97 z9z98 z9z99 z9z100 z9z101 z9z102 z9z103 z9z104 z9z105 z9z106 z9z107 z9z108 z9z109 z9z110 z9z111 z9z112 z9z113 z9z114 z9z115 z9z116 z9z117 z9z118 z9z119 z9z120 z9z121 z9z122 z9z123 z9z124 z9z125 z9z126 z9z127 z9z128 z9z129 z9z130 z9z131 z9z132 z9z133 z9z134 z9z135 z9z136 z9z137 z9z138 z9z139 z9z140 z9z141 z9z142 z9z143 z9z144 z9z145 z9z146 z9z147 hT8 TT lifted codeHd ys n sz rev st la p0 P lst lla hP1 hP2 h8 h64 x dx es nn fx ry own D1 ok1 ap1 fin1 gr1 o1 o2 o3 oo w1 w2 w3 ht9 sl lf lm tk0 ws bl hbl ns hns hI1 hlen I hJ0 hC0 m xs nm nf hb9 x1 x5 hS k t vs ks r' hr h' tk' F9 oI hcI Q' E' hret Gf hGf hG hj A' o B' ex eA hD9 hb9' a1 a3 a4 R hR a5 vm hvm9 hvm hm vf hvf9 N8 hvf hf a2 c1 ec q1 q2 q3 q4 m1 m2 m3 tk
      exact k9e.out
example : True := by
  k_with_none
  w_top off
  trivial
set_option maxHeartbeats 400000000 in
theorem sh1 : sh.1.1 := by
  intro _ _ _ _ _ _ _ _ _ _ _ _ _ hT8 _ _ _ _ _ _ _ _ _ _ _ _ _ _ _ _ _ _ _ _ _ TT _ lifted _ _ codeHd _ _ _ _ _ _ _ _ _ ys _ _ _ _ _ _ _ _ _ _ _ _ _ _ _ _ _ _ _ _ _ _ _ _ _ _ _ _ _ _ _ _ _ _ _ _ _ _ _ _ _ _ _ _ _ _ n sz _ rev st la p0 P lst lla hP1 hP2 h8 h64 _ _ _ _ _ x dx es nn fx ry own D1 ok1 ap1 fin1 gr1 o1 o2 o3 oo w1 w2 w3 _ _ _ _ _ _ _ _ _ _ _ ht9 sl lf lm tk0 ws bl hbl ns hns hI1 hlen I hJ0 hC0 m xs nm nf hb9 x1 x5 hS k t vs ks r' hr h' tk' F9 oI hcI Q' E' hret Gf hGf hG hj A' o B' ex eA hD9 hb9' a1 a3 a4 R hR a5 vm hvm9 hvm hm vf hvf9 N8 hvf hf a2 c1 ec q1 q2 q3 q4 m1 m2 m3 _ _ _ _ _ _ _ _ _ _ _ _ _ _ _ _ _ _ _ _ _ _ _ _ _ _ _ _ _ tk
  have hO : ∀ q ∈ own, q ∈ R := fun q hq => by rw [← hR]; exact List.mem_append_left _ hq
  have hN9 : @Ne Nat o.x o.dx := a1
  obtain ⟨⟨i1, i2, i3, i4⟩, j1, j2, j3, j4⟩ := a2
  obtain ⟨l1, l2, l3⟩ := a3
  obtain ⟨f1, f2⟩ := a4
  (k_with "call ref" => ((with_reducible show wpAny _ _ (call (Value.ref 282) _) _ _ _); first | (k_dflt (refine' Ct.use (reg_sum hGf sz hP1 hP2 lst lla _ _ _ _ _ _ _ ?hb) ?B ?F ?X ?N ?T ?hk ?hd ?hu ?_; (case N => k_asm); walk_at "use"; (case hb => first | omega | (rw [Array.size_append]; omega))); intro v9 n9 h9 tk9 hp9 F9 N9; obtain ⟨z1, t9, z2⟩ := hp9; subst z1; subst z2) | refine Halt.mk ?_))
  (k_with "call ref" => ((with_reducible show wpAny _ _ (call (Value.ref 181) _) _ _ _); first | (k_dflt (refine' CtK.use (reg_upd hGf ok1 ap1 fin1 lst lla (_ :: _ :: _ :: _ :: R) o.x o.dx o.es o.nn _ ?hx ?hr hD9 _ _) ?B ?F ?X ?N ?T ?W ?hk ?hd ?hu ?_; (case N => exact news_sub (by k_asm) (fun q hq => hq)); walk_at "use"; (case W => exact Knows.of_news (by k_asm) (fun q hq => .tail _ (.tail _ (.tail _ (.tail _ (.tail _ (.tail _ (hO q hq)))))))); (case hx => exact hN9); (case hr => exact hr5 ⟨⟨i1, i2⟩, ⟨j1, j2⟩, ⟨l1, l2⟩, f1, f2⟩ q1 q2)); intro v9 n9 h9 tk9 hp9 F9 N9; obtain ⟨l9, z1, ⟨z2, es9, nn9, z3, D8⟩, _⟩ := hp9; subst z3; subst z1; subst z2; simp only [List.cons_append, List.nil_append] at N9; obtain ⟨t8, e8⟩ := D8.val) | refine Halt.mk ?_))
  k_steps
  all_goals first
    | (rename _ ≠ _ => hbad; exact absurd rfl hbad)
    | skip
  with_reducible show Q' _ _
  rename Fr _ _ _ _ => F7
  rename News _ _ _ _ => N7
  rw [List.length_cons] at hG hb9'
  refine hret _ _ _ _ ⟨A' ++ ⟨o.x, o.dx, _, _, _, _⟩ :: B', nm, nf, ?b, ?l1, ?l5, rfl, ?S, ?G⟩ F7 (end_upd (its := [(I, oI), (sl, listOf ws.toArray 0)]) ex eA hvm9 hvf9 hR N7)
  case b => (rw [hbl]; intro q hq; simp only [List.mem_cons, List.not_mem_nil, or_false] at hq; rcases hq with rfl | rfl | rfl | rfl | rfl | rfl | rfl | rfl <;> rfl)
  case l1 => (rw [len_mid ex]; exact x1)
  case l5 => (rw [len_mid ex]; exact x5)
  case S => exact hS.same (by rw [ex]; exact adrs_mid rfl rfl)
  case G =>
    change ∀ z : Ob, z ∈ _ → CrcD (Ob.es z) n P st la rev fx ry (reg n rev P la st (Ob.b z)) ∧ (Ob.b z).size + 2 * ks.length ≤ 14
    rw [← hGf]
    exact reg_mid ex hG D8 (by (try dsimp only); rw [size_app]; omega)
example : True := by
  k_with_none
  w_top off
  trivial
set_option maxHeartbeats 400000000 in
theorem sh2 : sh.1.2.1 := by
  intro _ _ _ _ _ _ _ _ _ _ _ _ _ hT8 _ _ _ _ _ _ _ _ _ _ _ _ _ _ _ _ _ _ _ _ _ TT _ lifted _ _ codeHd _ _ _ _ _ _ _ _ _ ys _ _ _ _ _ _ _ _ _ _ _ _ _ _ _ _ _ _ _ _ _ _ _ _ _ _ _ _ _ _ _ _ _ _ _ _ _ _ _ _ _ _ _ _ _ _ n sz _ rev st la p0 P lst lla hP1 hP2 h8 h64 _ _ _ _ _ x dx es nn fx ry own D1 ok1 ap1 fin1 gr1 o1 o2 o3 oo w1 w2 w3 _ _ _ _ _ _ _ _ _ _ _ ht9 sl lf lm tk0 ws bl hbl ns hns hI1 hlen I hJ0 hC0 m xs nm nf hb9 x1 x5 hS k t vs ks r' hr h' tk' F9 oI hcI Q' E' hret Gf hGf hG hj A' o B' ex eA hD9 hb9' a1 a3 a4 R hR a5 vm hvm9 hvm hm vf hvf9 N8 hvf hf a2 c1 ec q1 q2 q3 q4 m1 m2 m3 _ _ _ _ _ _ _ _ _ _ _ _ _ _ _ _ _ _ _ _ _ _ _ _ _ _ _ _ _ _ _ _ tk
  have hO : ∀ q ∈ own, q ∈ R := fun q hq => by rw [← hR]; exact List.mem_append_left _ hq
  have hN9 : @Ne Nat o.x o.dx := a1
  obtain ⟨⟨i1, i2, i3, i4⟩, j1, j2, j3, j4⟩ := a2
  obtain ⟨l1, l2, l3⟩ := a3
  obtain ⟨f1, f2⟩ := a4
  (k_with "call ref" => ((with_reducible show wpAny _ _ (call (Value.ref 282) _) _ _ _); first | (k_dflt (refine' Ct.use (reg_sum hGf sz hP1 hP2 lst lla _ _ _ _ _ _ _ ?hb) ?B ?F ?X ?N ?T ?hk ?hd ?hu ?_; (case N => k_asm); walk_at "use"; (case hb => first | omega | (rw [Array.size_append]; omega))); intro v9 n9 h9 tk9 hp9 F9 N9; obtain ⟨z1, t9, z2⟩ := hp9; subst z1; subst z2) | refine Halt.mk ?_))
  (k_with "call ref" => ((with_reducible show wpAny _ _ (call (Value.ref 181) _) _ _ _); first | (k_dflt (refine' CtK.use (reg_upd hGf ok1 ap1 fin1 lst lla (_ :: _ :: _ :: _ :: R) o.x o.dx o.es o.nn _ ?hx ?hr hD9 _ _) ?B ?F ?X ?N ?T ?W ?hk ?hd ?hu ?_; (case N => exact news_sub (by k_asm) (fun q hq => hq)); walk_at "use"; (case W => exact Knows.of_news (by k_asm) (fun q hq => .tail _ (.tail _ (.tail _ (.tail _ (.tail _ (.tail _ (hO q hq)))))))); (case hx => exact hN9); (case hr => exact hr5 ⟨⟨i1, i2⟩, ⟨j1, j2⟩, ⟨l1, l2⟩, f1, f2⟩ q1 q2)); intro v9 n9 h9 tk9 hp9 F9 N9; obtain ⟨l9, z1, ⟨z2, es9, nn9, z3, D8⟩, _⟩ := hp9; subst z3; subst z1; subst z2; simp only [List.cons_append, List.nil_append] at N9; obtain ⟨t8, e8⟩ := D8.val) | refine Halt.mk ?_))
  k_steps
  all_goals first
    | (rename _ ≠ _ => hbad; exact absurd rfl hbad)
    | skip
  with_reducible show Q' _ _
  rename Fr _ _ _ _ => F7
  rename News _ _ _ _ => N7
  rw [List.length_cons] at hG hb9'
  refine hret _ _ _ _ ⟨A' ++ ⟨o.x, o.dx, _, _, _, _⟩ :: B', nm, nf, ?b, ?l1, ?l5, rfl, ?S, ?G⟩ F7 (end_upd (its := [(I, oI), (sl, listOf ws.toArray 0)]) ex eA hvm9 hvf9 hR N7)
  case b => (rw [hbl]; intro q hq; simp only [List.mem_cons, List.not_mem_nil, or_false] at hq; rcases hq with rfl | rfl | rfl | rfl | rfl | rfl | rfl | rfl <;> rfl)
  case l1 => (rw [len_mid ex]; exact x1)
  case l5 => (rw [len_mid ex]; exact x5)
  case S => exact hS.same (by rw [ex]; exact adrs_mid rfl rfl)
  case G =>
    change ∀ z : Ob, z ∈ _ → CrcD (Ob.es z) n P st la rev fx ry (reg n rev P la st (Ob.b z)) ∧ (Ob.b z).size + 2 * ks.length ≤ 14
    rw [← hGf]
    exact reg_mid ex hG D8 (by (try dsimp only); rw [size_app]; omega)
example : True := by
  k_with_none
  w_top off
  trivial
set_option maxHeartbeats 400000000 in
theorem sh3 : sh.1.2.2.1 := by
  intro _ _ _ _ _ _ _ _ _ _ _ _ _ hT8 _ _ _ _ _ _ _ _ _ _ _ _ _ _ _ _ _ _ _ _ _ TT _ lifted _ _ codeHd _ _ _ _ _ _ _ _ _ ys _ _ _ _ _ _ _ _ _ _ _ _ _ _ _ _ _ _ _ _ _ _ _ _ _ _ _ _ _ _ _ _ _ _ _ _ _ _ _ _ _ _ _ _ _ _ n sz _ rev st la p0 P lst lla hP1 hP2 h8 h64 _ _ _ _ _ x dx es nn fx ry own D1 ok1 ap1 fin1 gr1 o1 o2 o3 oo w1 w2 w3 _ _ _ _ _ _ _ _ _ _ _ ht9 sl lf lm tk0 ws bl hbl ns hns hI1 hlen I hJ0 hC0 m xs nm nf hb9 x1 x5 hS k t vs ks r' hr h' tk' F9 oI hcI Q' E' hret Gf hGf hG hj A' o B' ex eA hD9 hb9' a1 a3 a4 R hR a5 vm hvm9 hvm hm vf hvf9 N8 hvf hf a2 c1 ec q1 q2 q3 q4 m1 m2 m3 _ _ _ _ _ _ _ _ _ _ _ _ _ _ _ _ _ _ _ _ _ _ _ _ _ _ _ _ _ _ _ _ _ _ _ _ tk
  have hO : ∀ q ∈ own, q ∈ R := fun q hq => by rw [← hR]; exact List.mem_append_left _ hq
  have hN9 : @Ne Nat o.x o.dx := a1
  obtain ⟨⟨i1, i2, i3, i4⟩, j1, j2, j3, j4⟩ := a2
  obtain ⟨l1, l2, l3⟩ := a3
  obtain ⟨f1, f2⟩ := a4
  (k_with "call ref" => ((with_reducible show wpAny _ _ (call (Value.ref 174) _) _ _ _); first | (k_dflt (refine' CtK.use (copy_ct (_ :: _ :: _ :: _ :: R) own o.x o.dx o.es o.nn n P st la rev fx ry _ ?hx ?hr hD9) ?B ?F ?X ?N ?T ?W ?hk ?hd ?hu ?_; (case N => exact news_sub (by k_asm) (fun q hq => hq)); walk_at "use"; (case W => exact Knows.nil); (case hx => exact hN9); (case hr => exact hr5 ⟨⟨i1, i2⟩, ⟨j1, j2⟩, ⟨l1, l2⟩, f1, f2⟩ q1 q2)); intro v9 n9 h9 tk9 hp9 F9 N9; obtain ⟨l9, z1, ⟨x9, d9, es9, nn9, z2, z3, D8, g1, g2, g3, g4, g5⟩, off9⟩ := hp9; subst z3; subst z1; subst z2; obtain ⟨r1, r2⟩ := off2 off9; (have r3 := allNe_of r1); (have r4 := allNe_of r2); simp only [AllNe] at r3 r4; obtain ⟨u1, u2, u3, u4, _⟩ := r3; obtain ⟨v1, v2, v3, v4, _⟩ := r4; simp only [List.cons_append, List.nil_append] at N9) | refine Halt.mk ?_))
  k_steps
  with_reducible show Q' _ _
  rename Fr _ _ _ _ => F7
  rename News _ _ _ _ => N7
  rw [List.push_toArray, List.push_toArray] at N7
  have N6 : News _ _ _ ([(I, oI)] ++ full [(sl, listOf ws.toArray 0)] lm lf _ _ (nm + 1) (nf + 1) own _) := end_add (its := [(I, oI), (sl, listOf ws.toArray 0)]) (o := o) (o' := ⟨x9, d9, es9, nn9, o.b, o.t⟩) ex hvm9 hvf9 hR N7
  rw [List.length_cons] at hG hb9'
  clear u1 u2 u3 u4 v1 v2 v3 v4 i1 i2 i3 i4 j1 j2 j3 j4 l1 l2 l3 f1 f2 hN9 a1 o1 o2 o3
  refine hret _ _ _ _ ⟨_, nm + 1, nf + 1, ?b, ?l1, ?l5, rfl, ?S, ?G⟩ F7 N6
  case b => (rw [hbl]; intro q hq; simp only [List.mem_cons, List.not_mem_nil, or_false] at hq; rcases hq with rfl | rfl | rfl | rfl | rfl | rfl | rfl | rfl <;> rfl)
  case l1 => (rw [List.length_append, List.length_singleton]; omega)
  case l5 => (rw [List.length_append, List.length_singleton]; omega)
  case S => exact sep_add (its := [(I, oI), (sl, listOf ws.toArray 0)]) ex hR hS rfl rfl g1 g2 g3 g4 g5 r1 r2
  case G =>
    change ∀ z : Ob, z ∈ _ → CrcD (Ob.es z) n P st la rev fx ry (reg n rev P la st (Ob.b z)) ∧ (Ob.b z).size + 2 * ks.length ≤ 14
    rw [← hGf]
    first
    | exact reg_more hG D8 (by (try dsimp only); omega)
    | exact reg_more hG (reg_none hGf (by (try dsimp only); omega) D8) (by (try dsimp only); omega)
example : True := by
  k_with_none
  w_top off
  trivial
set_option maxHeartbeats 400000000 in
theorem sh4 : sh.1.2.2.2.1 := by
  intro _ _ _ _ _ _ _ _ _ _ _ _ _ hT8 _ _ _ _ _ _ _ _ _ _ _ _ _ _ _ _ _ _ _ _ _ TT _ lifted _ _ codeHd _ _ _ _ _ _ _ _ _ ys _ _ _ _ _ _ _ _ _ _ _ _ _ _ _ _ _ _ _ _ _ _ _ _ _ _ _ _ _ _ _ _ _ _ _ _ _ _ _ _ _ _ _ _ _ _ n sz _ rev st la p0 P lst lla hP1 hP2 h8 h64 _ _ _ _ _ x dx es nn fx ry own D1 ok1 ap1 fin1 gr1 o1 o2 o3 oo w1 w2 w3 _ _ _ _ _ _ _ _ _ _ _ ht9 sl lf lm tk0 ws bl hbl ns hns hI1 hlen I hJ0 hC0 m xs nm nf hb9 x1 x5 hS k t vs ks r' hr h' tk' F9 oI hcI Q' E' hret Gf hGf hG hj A' o B' ex eA hD9 hb9' a1 a3 a4 R hR a5 vm hvm9 hvm hm vf hvf9 N8 hvf hf a2 c1 ec q1 q2 q3 q4 m1 m2 m3 _ _ _ _ _ _ _ _ _ _ _ _ _ _ _ _ _ _ _ _ _ _ _ _ _ _ _ _ _ _ _ _ _ _ _ _ tk _ _ _
  have hO : ∀ q ∈ own, q ∈ R := fun q hq => by rw [← hR]; exact List.mem_append_left _ hq
  have hN9 : @Ne Nat o.x o.dx := a1
  obtain ⟨⟨i1, i2, i3, i4⟩, j1, j2, j3, j4⟩ := a2
  obtain ⟨l1, l2, l3⟩ := a3
  obtain ⟨f1, f2⟩ := a4
  (k_with "call ref" => ((with_reducible show wpAny _ _ (call (Value.ref 167) _) _ _ _); first | (k_dflt (refine' CtK.use (reg_new hGf ok1 ap1 fin1 lst (_ :: _ :: _ :: _ :: R) o.x o.dx o.es o.nn _ ?hx ?hr hD9 _ _) ?B ?F ?X ?N ?T ?W ?hk ?hd ?hu ?_; (case N => exact news_sub (by k_asm) (fun q hq => hq)); walk_at "use"; (case W => exact Knows.of_news (by k_asm) (fun q hq => .tail _ (.tail _ (.tail _ (.tail _ (.tail _ (.tail _ (hO q hq)))))))); (case hx => exact hN9); (case hr => exact hr5 ⟨⟨i1, i2⟩, ⟨j1, j2⟩, ⟨l1, l2⟩, f1, f2⟩ q1 q2)); intro v9 n9 h9 tk9 hp9 F9 N9; obtain ⟨l9, z1, ⟨x9, d9, es9, nn9, z2, z3, D8, g1, g2, g3, g4, g5⟩, off9⟩ := hp9; subst z3; subst z1; subst z2; obtain ⟨r1, r2⟩ := off2 off9; (have r3 := allNe_of r1); (have r4 := allNe_of r2); simp only [AllNe] at r3 r4; obtain ⟨u1, u2, u3, u4, _⟩ := r3; obtain ⟨v1, v2, v3, v4, _⟩ := r4; simp only [List.cons_append, List.nil_append] at N9) | (k_dflt (refine' CtK.use (new0_ct (_ :: _ :: _ :: _ :: R) own o.x o.dx o.es o.nn n P st la rev fx ry _ ?hx ?hr hD9) ?B ?F ?X ?N ?T ?W ?hk ?hd ?hu ?_; (case N => exact news_sub (by k_asm) (fun q hq => hq)); walk_at "use"; (case W => exact Knows.nil); (case hx => exact hN9); (case hr => exact hr5 ⟨⟨i1, i2⟩, ⟨j1, j2⟩, ⟨l1, l2⟩, f1, f2⟩ q1 q2)); intro v9 n9 h9 tk9 hp9 F9 N9; obtain ⟨l9, z1, ⟨x9, d9, es9, nn9, z2, z3, D8, g1, g2, g3, g4, g5⟩, off9⟩ := hp9; subst z3; subst z1; subst z2; obtain ⟨r1, r2⟩ := off2 off9; (have r3 := allNe_of r1); (have r4 := allNe_of r2); simp only [AllNe] at r3 r4; obtain ⟨u1, u2, u3, u4, _⟩ := r3; obtain ⟨v1, v2, v3, v4, _⟩ := r4; simp only [List.cons_append, List.nil_append] at N9) | refine Halt.mk ?_))
  k_steps
  with_reducible show Q' _ _
  rename Fr _ _ _ _ => F7
  rename News _ _ _ _ => N7
  rw [List.push_toArray, List.push_toArray] at N7
  have N6 : News _ _ _ ([(I, oI)] ++ full [(sl, listOf ws.toArray 0)] lm lf _ _ (nm + 1) (nf + 1) own _) := end_add (its := [(I, oI), (sl, listOf ws.toArray 0)]) (o := o) (o' := ⟨x9, d9, es9, nn9, _, _⟩) ex hvm9 hvf9 hR N7
  rw [List.length_cons] at hG hb9'
  clear u1 u2 u3 u4 v1 v2 v3 v4 i1 i2 i3 i4 j1 j2 j3 j4 l1 l2 l3 f1 f2 hN9 a1 o1 o2 o3
  refine hret _ _ _ _ ⟨_, nm + 1, nf + 1, ?b, ?l1, ?l5, rfl, ?S, ?G⟩ F7 N6
  case b => (rw [hbl]; intro q hq; simp only [List.mem_cons, List.not_mem_nil, or_false] at hq; rcases hq with rfl | rfl | rfl | rfl | rfl | rfl | rfl | rfl <;> rfl)
  case l1 => (rw [List.length_append, List.length_singleton]; omega)
  case l5 => (rw [List.length_append, List.length_singleton]; omega)
  case S => exact sep_add (its := [(I, oI), (sl, listOf ws.toArray 0)]) ex hR hS rfl rfl g1 g2 g3 g4 g5 r1 r2
  case G =>
    change ∀ z : Ob, z ∈ _ → CrcD (Ob.es z) n P st la rev fx ry (reg n rev P la st (Ob.b z)) ∧ (Ob.b z).size + 2 * ks.length ≤ 14
    rw [← hGf]
    first
    | exact reg_more hG D8 (by (try dsimp only); omega)
    | exact reg_more hG (reg_none hGf (by (try dsimp only); omega) D8) (by (try dsimp only); omega)
example : True := by
  k_with_none
  w_top off
  trivial
set_option maxHeartbeats 400000000 in
theorem sh5 : sh.1.2.2.2.2 := by
  intro _ _ _ _ _ _ _ _ _ _ _ _ _ hT8 _ _ _ _ _ _ _ _ _ _ _ _ _ _ _ _ _ _ _ _ _ TT _ lifted _ _ codeHd _ _ _ _ _ _ _ _ _ ys _ _ _ _ _ _ _ _ _ _ _ _ _ _ _ _ _ _ _ _ _ _ _ _ _ _ _ _ _ _ _ _ _ _ _ _ _ _ _ _ _ _ _ _ _ _ n sz _ rev st la p0 P lst lla hP1 hP2 h8 h64 _ _ _ _ _ x dx es nn fx ry own D1 ok1 ap1 fin1 gr1 o1 o2 o3 oo w1 w2 w3 _ _ _ _ _ _ _ _ _ _ _ ht9 sl lf lm tk0 ws bl hbl ns hns hI1 hlen I hJ0 hC0 m xs nm nf hb9 x1 x5 hS k t vs ks r' hr h' tk' F9 oI hcI Q' E' hret Gf hGf hG hj A' o B' ex eA hD9 hb9' a1 a3 a4 R hR a5 vm hvm9 hvm hm vf hvf9 N8 hvf hf a2 c1 ec q1 q2 q3 q4 m1 m2 m3 _ _ _ _ _ _ _ _ _ _ _ _ _ _ _ _ _ _ _ _ _ _ _ _ _ _ _ _ _ _ _ _ _ _ _ _ tk _ _ _
  have hO : ∀ q ∈ own, q ∈ R := fun q hq => by rw [← hR]; exact List.mem_append_left _ hq
  have hN9 : @Ne Nat o.x o.dx := a1
  obtain ⟨⟨i1, i2, i3, i4⟩, j1, j2, j3, j4⟩ := a2
  obtain ⟨l1, l2, l3⟩ := a3
  obtain ⟨f1, f2⟩ := a4
  (k_with "call ref" => ((with_reducible show wpAny _ _ (call (Value.ref 167) _) _ _ _); first | (k_dflt (refine' CtK.use (reg_new hGf ok1 ap1 fin1 lst (_ :: _ :: _ :: _ :: R) o.x o.dx o.es o.nn _ ?hx ?hr hD9 _ _) ?B ?F ?X ?N ?T ?W ?hk ?hd ?hu ?_; (case N => exact news_sub (by k_asm) (fun q hq => hq)); walk_at "use"; (case W => exact Knows.of_news (by k_asm) (fun q hq => .tail _ (.tail _ (.tail _ (.tail _ (.tail _ (.tail _ (hO q hq)))))))); (case hx => exact hN9); (case hr => exact hr5 ⟨⟨i1, i2⟩, ⟨j1, j2⟩, ⟨l1, l2⟩, f1, f2⟩ q1 q2)); intro v9 n9 h9 tk9 hp9 F9 N9; obtain ⟨l9, z1, ⟨x9, d9, es9, nn9, z2, z3, D8, g1, g2, g3, g4, g5⟩, off9⟩ := hp9; subst z3; subst z1; subst z2; obtain ⟨r1, r2⟩ := off2 off9; (have r3 := allNe_of r1); (have r4 := allNe_of r2); simp only [AllNe] at r3 r4; obtain ⟨u1, u2, u3, u4, _⟩ := r3; obtain ⟨v1, v2, v3, v4, _⟩ := r4; simp only [List.cons_append, List.nil_append] at N9) | (k_dflt (refine' CtK.use (new0_ct (_ :: _ :: _ :: _ :: R) own o.x o.dx o.es o.nn n P st la rev fx ry _ ?hx ?hr hD9) ?B ?F ?X ?N ?T ?W ?hk ?hd ?hu ?_; (case N => exact news_sub (by k_asm) (fun q hq => hq)); walk_at "use"; (case W => exact Knows.nil); (case hx => exact hN9); (case hr => exact hr5 ⟨⟨i1, i2⟩, ⟨j1, j2⟩, ⟨l1, l2⟩, f1, f2⟩ q1 q2)); intro v9 n9 h9 tk9 hp9 F9 N9; obtain ⟨l9, z1, ⟨x9, d9, es9, nn9, z2, z3, D8, g1, g2, g3, g4, g5⟩, off9⟩ := hp9; subst z3; subst z1; subst z2; obtain ⟨r1, r2⟩ := off2 off9; (have r3 := allNe_of r1); (have r4 := allNe_of r2); simp only [AllNe] at r3 r4; obtain ⟨u1, u2, u3, u4, _⟩ := r3; obtain ⟨v1, v2, v3, v4, _⟩ := r4; simp only [List.cons_append, List.nil_append] at N9) | refine Halt.mk ?_))
  k_steps
  with_reducible show Q' _ _
  rename Fr _ _ _ _ => F7
  rename News _ _ _ _ => N7
  rw [List.push_toArray, List.push_toArray] at N7
  have N6 : News _ _ _ ([(I, oI)] ++ full [(sl, listOf ws.toArray 0)] lm lf _ _ (nm + 1) (nf + 1) own _) := end_add (its := [(I, oI), (sl, listOf ws.toArray 0)]) (o := o) (o' := ⟨x9, d9, es9, nn9, _, _⟩) ex hvm9 hvf9 hR N7
  rw [List.length_cons] at hG hb9'
  clear u1 u2 u3 u4 v1 v2 v3 v4 i1 i2 i3 i4 j1 j2 j3 j4 l1 l2 l3 f1 f2 hN9 a1 o1 o2 o3
  refine hret _ _ _ _ ⟨_, nm + 1, nf + 1, ?b, ?l1, ?l5, rfl, ?S, ?G⟩ F7 N6
  case b => (rw [hbl]; intro q hq; simp only [List.mem_cons, List.not_mem_nil, or_false] at hq; rcases hq with rfl | rfl | rfl | rfl | rfl | rfl | rfl | rfl <;> rfl)
  case l1 => (rw [List.length_append, List.length_singleton]; omega)
  case l5 => (rw [List.length_append, List.length_singleton]; omega)
  case S => exact sep_add (its := [(I, oI), (sl, listOf ws.toArray 0)]) ex hR hS rfl rfl g1 g2 g3 g4 g5 r1 r2
  case G =>
    change ∀ z : Ob, z ∈ _ → CrcD (Ob.es z) n P st la rev fx ry (reg n rev P la st (Ob.b z)) ∧ (Ob.b z).size + 2 * ks.length ≤ 14
    rw [← hGf]
    first
    | exact reg_more hG D8 (by (try dsimp only); omega)
    | exact reg_more hG (reg_none hGf (by (try dsimp only); omega) D8) (by (try dsimp only); omega)
example : True := by
  k_with_none
  w_top off
  trivial
set_option maxHeartbeats 400000000 in
noncomputable def si : { P : Prop // Kept P → sf.1.1 } := by
  refine' ⟨_, fun k9a => ?mm⟩
  case mm =>
    intro _ _ _ _ _ _ _ _ _ _ _ _ _ _ _ hT8 _ _ _ _ _ _ hT9 _ _ _ _ _ _ _ _ _ _ _ _ _ _ _ _ _ _ _ _ _ _ _ _ _ _ TT _ lifted _ _ codeHd _ _ _ _ _ _ _ _ _ _ ys _ _ _ _ _ _ _ _ _ _ _ _ _ _ _ _ _ _ _ _ _ _ _ _ _ _ _ _ _ _ _ _ _ _ _ _ _ _ _ _ _ _ _ _ _ _ _ _ _ _ _ n sz _ rev st la p0 P lst lla hP1 hP2 h8 h64 _ _ t _ _ x dx es nn fx ry own D1 ok1 ap1 fin1 gr1 o1 o2 o3 oo w1 w2 w3 _ _ _ _ _ _ _ _ _ _ _ ht9 sl lf lm tk0 ws _ _ _ bl hbl ns hns hI1 hlen I hC0 m xs nm nf vs ks hr hI9 hb9 x1 x5 hS hG h' tk F9 N9
    rw [ov_eq hb9, hbl] at F9
    dsimp only [ov] at F9
    clear hb9 hI9 hr
    unfold full at N9
    simp only [List.cons_append, List.nil_append] at N9
    generalize hR : own ++ objsL xs = R at N9
    k_steps
    with_reducible show Halt _
    refine Halt.out ?_
    rename_i z9z0 z9z1 z9z2 z9z3 z9z4 z9z5 z9z6 z9z7 z9z8 z9z9 z9z10 z9z11 z9z12 z9z13 z9z14 z9z15 z9z16 z9z17 z9z18 z9z19 z9z20 z9z21 z9z22 z9z23 z9z24 z9z25 z9z26 z9z27 z9z28 z9z29 z9z30 z9z31 z9z32 z9z33 z9z34 z9z35 z9z36 z9z37 z9z38 z9z39 z9z40 z9z41 z9z42 z9z43 z9z44 z9z45 z9z46 z9z47 z9z48 z9z49 z9z50 z9z51 z9z52 z9z53 z9z54 z9z55 z9z56 z9z57 z9z58 z9z59 z9z60 z9z61 z9z62 z9z63 z9z64 z9z65 z9z66 z9z67 z9z68 z9z69 z9z70 z9z71 z9z72 z9z73 z9z74 z9z75 z9z76 z9z77 z9z78 z9z79 z9z80 z9z81 z9z82 z9z83 z9z84 z9z85 z9z86 z9z87 z9z88 z9z89 z9z90 z9z91 z9z92 z9z93 z9z94 z9z95 z9z96 z9z97 z9z98 z9z99 z9z100 z9z101 z9z102 z9z103 z9z104 z9z105 z9z106 z9z107 z9z108 z9z109 z9z110 z9z111 z9z112 z9z113 z9z114 z9z115 z9z116 z9z117 z9z118 z9z119 z9z120 z9z121 z9z122 z9z123 z9z124 z9z125 z9z126 z9z127 z9z128 z9z129 z9z130 z9z131 z9z132 z9z133 z9z134 z9z135 z9z136 z9z137 z9z138 z9z139 z9z140 z9z141 z9z142 z9z143 z9z144 z9z145 z9z146
    revert z9z0 z9z1 z9z2 z9z3 z9z4 z9z5 z9z6 z9z7 z9z8 z9z9 z9z10 z9z11 z9z12 z9z13 z9z14 z9z15 z9z16 z9z17 z9z18 z9z19 z9z20 z9z21 z9z22 z9z23 z9z24 z9z25 z9z26 z9z27 z9z28 z9z29 z9z30 z9z31 z9z32 z9z33 z9z34 z9z35 z9z36 z9z37 z9z38 z9z39 z9z40 z9z41 z9z42 z9z43 z9z44 z9z45 z9z46 z9z47 z9z48 z9z49 z9z50 z9z51 z9z52 z9z53 z9z54 z9z55 z9z56 z9z57 z9z58 z9z59 z9z60 z9z61 z9z62 z9z63 z9z64 z9z65 z9z66 z9z67 z9z68 z9z69 z9z70 z9z71 z9z72 z9z73 z9z74 z9z75 z9z76 z9z77 z9z78 z9z79 z9z80 z9z81 z9z82 z9z83 z9z84 z9z85 z9z86 z9z87 z9z88 z9z89 z9z90 z9z91 z9z92 z9z93 z9z94 z9z95 z9z96 z9z97 z9z98 z9z99 z9z100 z9z101 z9z102 z9z103 z9z104 z9z105 z9z106 z9z107 z9z108 z9z109 z9z110 z9z111 z9z112 z9z113 z9z114 z9z115 z9z116 z9z117 z9z118 z9z119 z9z120 z9z121 z9z122 z9z123 z9z124 z9z125 z9z126 z9z127 z9z128 z9z129 z9z130 z9z131 z9z132 z9z133 z9z134 z9z135 z9z136 z9z137 z9z138 z9z139 z9z140 z9z141 z9z142 z9z143 z9z144 z9z145 z9z146 hT8 hT9 TT lifted codeHd ys n sz rev st la p0 P lst lla hP1 hP2 h8 h64 t x dx es nn fx ry own D1 ok1 ap1 fin1 gr1 o1 o2 o3 oo w1 w2 w3 ht9 sl lf lm tk0 ws bl hbl ns hns hI1 hlen I hC0 m xs nm nf vs ks x1 x5 hS hG h' R hR tk
    exact k9a.out
example : True := by
  k_with_none
  w_top off
  trivial
set_option maxHeartbeats 400000000 in
noncomputable def sj : { P : Prop × Prop // Kept P.1 → Kept P.2 → si.1 } := by
  refine' ⟨(_, _), fun k9a k9b => ?mm⟩
  case mm =>
    intro _ _ _ _ _ _ _ _ _ _ _ _ _ _ _ hT8 _ _ _ _ _ _ hT9 _ _ _ _ _ _ _ _ _ _ _ _ _ _ _ _ _ _ _ _ _ _ _ _ _ _ TT _ lifted _ _ codeHd _ _ _ _ _ _ _ _ _ _ ys _ _ _ _ _ _ _ _ _ _ _ _ _ _ _ _ _ _ _ _ _ _ _ _ _ _ _ _ _ _ _ _ _ _ _ _ _ _ _ _ _ _ _ _ _ _ _ _ _ _ _ n sz _ rev st la p0 P lst lla hP1 hP2 h8 h64 _ _ t _ _ x dx es nn fx ry own D1 ok1 ap1 fin1 gr1 o1 o2 o3 oo w1 w2 w3 _ _ _ _ _ _ _ _ _ _ _ ht9 sl lf lm tk0 ws _ _ _ bl hbl ns hns hI1 hlen I hC0 m xs nm nf vs ks x1 x5 hS hG h' _ R hR _ _ _ _ _ _ _ _ _ _ _ _ _ _ _ _ tk
    rename News _ _ _ ((_, _) :: (_, listOf #[] _) :: _) => N1
    rename Fr _ _ _ _ => F1
    obtain ⟨lt, ld, e1, e2⟩ := names2 N1
    subst e1 e2
    rename (@LT.lt Nat _ sl lt) ∧ _ => g1
    rename (@LT.lt Nat _ lt ld) ∧ _ => g2
    have N2 := news_sub (new := led2 lt ld lm lf [] [] (refsV xs) (bytsV xs) 0 0 nm nf [] own xs) N1 (by
      subst hR
      intro q hq
      unfold led2 at hq
      simp only [List.mem_append, List.mem_cons, List.not_mem_nil, or_false, false_or] at hq ⊢
      grind)
    clear N1
    refine' ktu_zip ?hh ?hF ?hN ?m1 ?c1 ?d1 ?m2 ?c2 ?d2 ?_
    case hF => exact F1
    case hN => exact N2
    case hh => rfl
    case m1 => exact .tail _ (.tail _ (.head _))
    case c1 => rfl
    case d1 => rfl
    case m2 => exact .tail _ (.tail _ (.tail _ (.head _)))
    case c2 => rfl
    case d2 => rfl
    intro J hI
    have hldJ : @LT.lt Nat _ ld J := hI (ld, _) (.tail _ (.head _))
    have O : Ord J lt ld lm lf own xs := ⟨⟨g2.1, hldJ, g1.2.1, g1.2.2.1⟩, fun q hq => allLt_mem g1.2.2.2 q (by rw [← hR]; exact List.mem_append_left _ hq), fun q hq => allLt_mem g1.2.2.2 q (by rw [← hR]; exact List.mem_append_right _ hq)⟩
    have S0 : Sep [] lm lf own xs := hS.drop.drop
    clear hI hS g1 g2
    repeat (rename (@LT.lt Nat _ _ _) ∧ _ => hgone; clear hgone)
    repeat (rename (@Ne Nat _ _) ∧ _ => hgone; clear hgone)
    refine items_ind (fun r m news => ∃ A B vt vd nt nd Ts, xs = A ++ B ∧ r = zipItems (refsV B) (bytsV B) ∧ (∀ q ∈ bl2 bl lt ld, m q.1 = some q.2) ∧ news = led2 lt ld lm lf vt vd (refsV xs) (bytsV xs) nt nd nm nf Ts own xs ∧ (∀ q ∈ Ts, @LT.lt Nat _ (J + 4) q.1) ∧ TupsAre Ts vt vd ∧ vt.length = A.length) ?stop ?turn _ _ _ ?start
    case start =>
      refine ⟨[], xs, [], [], 0, 0, [], rfl, rfl, ?_, rfl, nilr, .nil, rfl⟩
      rw [hbl]
      intro q hq
      simp only [bl2, List.mem_append, List.mem_cons, List.not_mem_nil, or_false] at hq
      rcases hq with (rfl | rfl | rfl | rfl | rfl | rfl | rfl | rfl) | rfl | rfl <;> rfl
    case stop =>
      rintro m news ⟨A, B, vt, vd, nt, nd, Ts, ex, hr, hb9, rfl, hT, hA, hl9⟩
      refine ItemsRest.zero fun h' tk F9 N9 => ?_
      rw [ov_eq hb9, hbl] at F9
      dsimp only [bl2, ov, List.cons_append, List.nil_append] at F9
      unfold led2 at N9
      rename_i z9z0 z9z1 z9z2 z9z3 z9z4 z9z5 z9z6 z9z7 z9z8 z9z9 z9z10 z9z11 z9z12 z9z13 z9z14 z9z15 z9z16 z9z17 z9z18 z9z19 z9z20 z9z21 z9z22 z9z23 z9z24 z9z25 z9z26 z9z27 z9z28 z9z29 z9z30 z9z31 z9z32 z9z33 z9z34 z9z35 z9z36 z9z37 z9z38 z9z39 z9z40 z9z41 z9z42 z9z43 z9z44 z9z45 z9z46 z9z47 z9z48 z9z49 z9z50 z9z51 z9z52 z9z53 z9z54 z9z55 z9z56 z9z57 z9z58 z9z59 z9z60 z9z61 z9z62 z9z63 z9z64 z9z65 z9z66 z9z67 z9z68 z9z69 z9z70 z9z71 z9z72 z9z73 z9z74 z9z75 z9z76 z9z77 z9z78 z9z79 z9z80 z9z81 z9z82 z9z83 z9z84 z9z85 z9z86 z9z87 z9z88 z9z89 z9z90 z9z91 z9z92 z9z93 z9z94 z9z95 z9z96 z9z97 z9z98 z9z99 z9z100 z9z101 z9z102 z9z103 z9z104 z9z105 z9z106 z9z107 z9z108 z9z109 z9z110 z9z111 z9z112 z9z113 z9z114 z9z115 z9z116 z9z117 z9z118 z9z119 z9z120 z9z121 z9z122 z9z123 z9z124 z9z125 z9z126 z9z127 z9z128 z9z129 z9z130 z9z131 z9z132 z9z133 z9z134
      revert z9z0 z9z1 z9z2 z9z3 z9z4 z9z5 z9z6 z9z7 z9z8 z9z9 z9z10 z9z11 z9z12 z9z13 z9z14 z9z15 z9z16 z9z17 z9z18 z9z19 z9z20 z9z21 z9z22 z9z23 z9z24 z9z25 z9z26 z9z27 z9z28 z9z29 z9z30 z9z31 z9z32 z9z33 z9z34 z9z35 z9z36 z9z37 z9z38 z9z39 z9z40 z9z41 z9z42 z9z43 z9z44 z9z45 z9z46 z9z47 z9z48 z9z49 z9z50 z9z51 z9z52 z9z53 z9z54 z9z55 z9z56 z9z57 z9z58 z9z59 z9z60 z9z61 z9z62 z9z63 z9z64 z9z65 z9z66 z9z67 z9z68 z9z69 z9z70 z9z71 z9z72 z9z73 z9z74 z9z75 z9z76 z9z77 z9z78 z9z79 z9z80 z9z81 z9z82 z9z83 z9z84 z9z85 z9z86 z9z87 z9z88 z9z89 z9z90 z9z91 z9z92 z9z93 z9z94 z9z95 z9z96 z9z97 z9z98 z9z99 z9z100 z9z101 z9z102 z9z103 z9z104 z9z105 z9z106 z9z107 z9z108 z9z109 z9z110 z9z111 z9z112 z9z113 z9z114 z9z115 z9z116 z9z117 z9z118 z9z119 z9z120 z9z121 z9z122 z9z123 z9z124 z9z125 z9z126 z9z127 z9z128 z9z129 z9z130 z9z131 z9z132 z9z133 z9z134 hT8 hT9 TT lifted codeHd ys n sz rev st la p0 P lst lla hP1 hP2 h8 h64 t x dx es nn fx ry own D1 ok1 ap1 fin1 gr1 o1 o2 o3 oo w1 w2 w3 ht9 sl lf lm tk0 ws bl hbl ns hns hI1 hlen I hC0 xs nm nf vs ks x1 x5 hG R hR lt ld F1 N2 J hldJ O S0 m A B vt vd nt nd Ts ex hr hb9 hT hA hl9 h' tk F9 N9
      exact k9a.out
    case turn =>
      rintro a r m news ⟨A, B, vt, vd, nt, nd, Ts, ex, hr, hb9, rfl, hT, hA, hl9⟩ ih
      obtain ⟨o, B', rfl, e1, e2⟩ := zip_cons hr
      subst e1 e2
      refine ItemsRest.pair fun T t9 h' tk' hT9 F9 => ?_
      try dsimp only at hT9
      refine AllObj.cons fun z1 hz1 => AllObj.cons fun z2 hz2 => AllObj.cons fun z3 hz3 => AllObj.cons fun z4 hz4 => AllObj.cons fun z5 hz5 => AllObj.nil fun N9 => ?_
      try dsimp only at N9
      refine turn_wrap (fun m' n' => ∃ vt vd nt nd Ts, (∀ q ∈ bl2 bl lt ld, m' q.1 = some q.2) ∧ n' = led2 lt ld lm lf vt vd (refsV xs) (bytsV xs) nt nd nm nf Ts own xs ∧ (∀ q ∈ Ts, @LT.lt Nat _ (J + 4) q.1) ∧ TupsAre Ts vt vd ∧ vt.length = A.length + 1) ?_ ?_
      · rintro m' n' ⟨vt, vd, nt, nd, Ts, b1, rfl, hT, hA, hl9⟩
        refine ⟨fun p hp q hq => ?_, ⟨.tail _ (.tail _ (List.mem_append_right _ (.head _))), .tail _ (.tail _ (List.mem_append_right _ (.tail _ (.head _)))), trivial⟩, ih _ _ ⟨A ++ [o], B', vt, vd, nt, nd, Ts, by rw [ex]; simp, rfl, b1, rfl, hT, hA, by rw [hl9]; simp⟩⟩
        have h9 := zip_ne O hT p hp
        simp only [List.mem_cons, List.not_mem_nil, or_false] at hq
        rcases hq with rfl | rfl | rfl | rfl | rfl <;> (refine neN ?_; (try dsimp only); omega)
      intro Q' E' hret
      clear ih
      have N8 := news_sub N9 (zip_sub ex)
      obtain ⟨a1, a2, a3, a4⟩ := zip_off (vm := refsV xs) (vf := bytsV xs) (nm := nm) (nf := nf) ex O S0 hT
      have hG9 := hG o (by rw [ex]; simp)
      obtain ⟨hD9, hb8⟩ := hG9
      clear N9
      rw [ov_eq hb9, hbl] at F9
      dsimp only [bl2, ov, List.cons_append, List.nil_append] at F9
      generalize hU : Ts ++ (lm, listOf (refsV xs).toArray nm) :: (lf, listOf (bytsV xs).toArray nf) :: (own ++ (objsL A ++ objsL B')) = U at N8 a4
      simp only [List.cons_append, List.nil_append] at N8
      have O1 := O.h1
      have q1 : ∀ q ∈ U, q.1 ≠ o.x := fun q hq => (a4 q hq).1
      have q2 : ∀ q ∈ U, q.1 ≠ o.dx := fun q hq => (a4 q hq).2.1
      have q3 : ∀ q ∈ U, q.1 ≠ lt := fun q hq => (a4 q hq).2.2.1
      have q4 : ∀ q ∈ U, q.1 ≠ ld := fun q hq => (a4 q hq).2.2.2
      have m4 := hD9.m4
      have m5 := hD9.m5
      obtain ⟨c1, ec1⟩ := hD9.val
      obtain ⟨c2, ec2⟩ := hD9.poly
      obtain ⟨c3, ec3⟩ := hD9.init
      obtain ⟨c4, ec4⟩ := hD9.xo
      obtain ⟨c5, ec5⟩ := hD9.ds
      have ec6 := hD9.rv
      have rst : regOf n rev (tabX rev P n) la st (arrN o.b) < 2 ^ n := regOf_lt ht9 lla lst _
      have e88 : 8 * (n / 8) = n := by unfold isSize at sz; omega
      have rst8 : regOf n rev (tabX rev P n) la st (arrN o.b) < 2 ^ (8 * (n / 8)) := by rw [e88]; exact rst
      have hlv : A.length ≤ 5 := by rw [ex] at x5; rw [List.length_append] at x5; omega
      have hlw := hA.length
      try (rename Heap.CodeRec _ _ _ => hgone; clear hgone)
      try (rename Dflts _ _ _ => hgone; clear hgone)
      try (rename CellsAre _ _ _ => hgone; clear hgone)
      try (rename _ = Data.cell _ => hgone; clear hgone)
      try (rename Ground _ _ _ _ _ _ _ _ _ => hgone; clear hgone)
      try (rename Flt.MathXP _ _ _ => hgone; clear hgone)
      try (rename LooseAre _ _ _ => hgone; clear hgone)
      try (rename Tables _ _ _ _ => hgone; clear hgone)
      try (rename TopE _ _ _ _ => hgone; clear hgone)
      try (rename TopW _ _ _ => hgone; clear hgone)
      try (rename TabsAt _ _ => hgone; clear hgone)
      try (rename ReadsAllW _ _ _ _ _ _ => hgone; clear hgone)
      try (rename Well _ _ _ _ => hgone; clear hgone)
      try (rename Reads _ _ _ _ => hgone; clear hgone)
      try (rename ReadsAll _ _ _ _ => hgone; clear hgone)
      try (rename IntsAre _ (List.map _ _) => hgone; clear hgone)
      rename_i z9z0 z9z1 z9z2 z9z3 z9z4 z9z5 z9z6 z9z7 z9z8 z9z9 z9z10 z9z11 z9z12 z9z13 z9z14 z9z15 z9z16 z9z17 z9z18 z9z19 z9z20 z9z21 z9z22 z9z23 z9z24 z9z25 z9z26 z9z27 z9z28 z9z29 z9z30 z9z31 z9z32 z9z33 z9z34 z9z35 z9z36 z9z37 z9z38 z9z39 z9z40 z9z41 z9z42 z9z43 z9z44 z9z45 z9z46 z9z47 z9z48 z9z49 z9z50 z9z51 z9z52 z9z53 z9z54 z9z55 z9z56 z9z57 z9z58 z9z59 z9z60 z9z61 z9z62 z9z63 z9z64 z9z65 z9z66 z9z67 z9z68 z9z69 z9z70 z9z71 z9z72 z9z73 z9z74 z9z75 z9z76 z9z77 z9z78 z9z79 z9z80 z9z81 z9z82 z9z83 z9z84 z9z85 z9z86 z9z87 z9z88 z9z89 z9z90 z9z91 z9z92 z9z93 z9z94 z9z95 z9z96 z9z97 z9z98 z9z99 z9z100 z9z101 z9z102 z9z103 z9z104 z9z105 z9z106 z9z107 z9z108 z9z109 z9z110 z9z111 z9z112 z9z113 z9z114 z9z115 z9z116 z9z117 z9z118 z9z119
      revert z9z0 z9z1 z9z2 z9z3 z9z4 z9z5 z9z6 z9z7 z9z8 z9z9 z9z10 z9z11 z9z12 z9z13 z9z14 z9z15 z9z16 z9z17 z9z18 z9z19 z9z20 z9z21 z9z22 z9z23 z9z24 z9z25 z9z26 z9z27 z9z28 z9z29 z9z30 z9z31 z9z32 z9z33 z9z34 z9z35 z9z36 z9z37 z9z38 z9z39 z9z40 z9z41 z9z42 z9z43 z9z44 z9z45 z9z46 z9z47 z9z48 z9z49 z9z50 z9z51 z9z52 z9z53 z9z54 z9z55 z9z56 z9z57 z9z58 z9z59 z9z60 z9z61 z9z62 z9z63 z9z64 z9z65 z9z66 z9z67 z9z68 z9z69 z9z70 z9z71 z9z72 z9z73 z9z74 z9z75 z9z76 z9z77 z9z78 z9z79 z9z80 z9z81 z9z82 z9z83 z9z84 z9z85 z9z86 z9z87 z9z88 z9z89 z9z90 z9z91 z9z92 z9z93 z9z94 z9z95 z9z96 z9z97 z9z98 z9z99 z9z100 z9z101 z9z102 z9z103 z9z104 z9z105 z9z106 z9z107 z9z108 z9z109 z9z110 z9z111 z9z112 z9z113 z9z114 z9z115 z9z116 z9z117 z9z118 z9z119 hT8 TT lifted codeHd ys n sz rev st la p0 P lst lla hP1 hP2 h8 h64 t x dx es nn fx ry own D1 ok1 ap1 fin1 gr1 o1 o2 o3 oo w1 w2 w3 ht9 sl lf lm tk0 ws bl hbl ns hns hI1 hlen I hC0 xs nm nf vs ks x1 x5 hG R hR tk lt ld F1 N2 J hldJ O S0 m A vt vd nt nd Ts hb9 hT hA hl9 o B' ex hr T t9 h' tk' hT9 F9 z1 hz1 z2 hz2 z3 hz3 z4 hz4 z5 hz5 Q' E' hret a1 a2 a3 hD9 hb8 U hU N8 a4 O1 q1 q2 q3 q4 m4 m5 c1 ec1 c2 ec2 c3 ec3 c4 ec4 c5 ec5 ec6 rst e88 rst8 hlv hlw
      exact k9b.out
example : True := by
  k_with_none
  w_top off
  trivial
set_option maxHeartbeats 400000000 in
theorem sk : sj.1.2 := by
  intro _ _ _ _ _ _ _ _ _ _ _ _ _ hT8 _ _ _ _ _ _ _ _ _ _ _ _ _ _ _ _ _ _ _ _ _ TT _ lifted _ _ codeHd _ _ _ _ _ _ _ _ _ ys _ _ _ _ _ _ _ _ _ _ _ _ _ _ _ _ _ _ _ _ _ _ _ _ _ _ _ _ _ _ _ _ _ _ _ _ _ _ _ _ _ _ _ _ _ _ n sz _ rev st la p0 P lst lla hP1 hP2 h8 h64 _ _ t _ _ x dx es nn fx ry own D1 ok1 ap1 fin1 gr1 o1 o2 o3 oo w1 w2 w3 _ _ _ _ _ _ _ _ _ _ _ ht9 sl lf lm tk0 ws bl hbl ns hns hI1 hlen I hC0 _ xs nm nf vs ks x1 x5 hG _ _ R hR _ _ _ _ _ _ _ _ tk lt ld _ F1 N2 J hldJ O S0 m A vt vd nt nd Ts hb9 hT hA hl9 o B' ex hr T t9 h' tk' hT9 F9 z1 hz1 z2 hz2 z3 hz3 z4 hz4 z5 hz5 Q' E' hret a1 a2 a3 hD9 hb8 U hU N8 a4 O1 q1 q2 q3 q4 m4 m5 c1 ec1 c2 ec2 c3 ec3 c4 ec4 c5 ec5 ec6 rst e88 rst8 hlv hlw
  have hx9 : @Ne Nat o.x o.dx := a1
  (k_with "call ref" => ((with_reducible show wpAny _ _ (call (Value.ref 282) _) _ _ _); first | (k_dflt (refine' Ct.use (sum_ct _ P n st la rev _ _ _ _ _ _ sz hP1 hP2 lst lla ?hb) ?B ?F ?X ?N ?T ?hk ?hd ?hu ?_; (case N => k_asm); walk_at "use"; (case hb => omega)); intro v9 n9 h9 tk9 hp9 F9 N9; obtain ⟨z1, t9, z2⟩ := hp9; subst z1; subst z2) | refine Halt.mk ?_))
  (k_with "call ref" => ((with_reducible show wpAny _ _ (call (Value.ref 188) _) _ _ _); first | (k_dflt (refine' CtK.use (digest_ct (_ :: _ :: _ :: _ :: _ :: _ :: _ :: U) o.x o.dx o.es o.nn n P st la rev fx ry _ ?hx ?hr hD9 h64) ?B ?F ?X ?N ?T ?W ?hk ?hd ?hu ?_; (case N => exact news_sub (by k_asm) (fun q hq => hq)); walk_at "use"; (case W => exact Knows.nil); (case hx => exact hx9); (case hr => exact hr7 (by omega) q1 q2)); intro v9 n9 h9 tk9 hp9 F9 N9; obtain ⟨l9, z1, ⟨b1, u1, z2, hb1, z3⟩, _⟩ := hp9; subst z3; subst z1; subst z2; simp only [List.cons_append, List.nil_append] at N9) | refine Halt.mk ?_))
  (k_with "call ref" => ((with_reducible show wpAny _ _ (call (Value.ref 195) _) _ _ _); first | (k_dflt (refine' CtK.use (hexdigest_ct (_ :: _ :: _ :: _ :: _ :: _ :: _ :: U) o.x o.dx o.es o.nn n P st la rev fx ry _ ?hx ?hr hD9 h64) ?B ?F ?X ?N ?T ?W ?hk ?hd ?hu ?_; (case N => exact news_sub (by k_asm) (fun q hq => hq)); walk_at "use"; (case W => exact Knows.nil); (case hx => exact hx9); (case hr => exact hr7 (by omega) q1 q2)); intro v9 n9 h9 tk9 hp9 F9 N9; obtain ⟨l9, z1, ⟨u1, z2, z3⟩, _⟩ := hp9; subst z3; subst z1; subst z2; simp only [List.cons_append, List.nil_append] at N9) | refine Halt.mk ?_))
  k_steps
  rename Fr _ _ _ _ => F7
  rename News _ _ _ _ => N7
  rw [List.push_toArray, List.push_toArray] at N7
  have eb : ∀ {b2 : Array UInt8}, arrN b2 = (leOct (regOf n rev (tabX rev P n) la st (arrN o.b)) (n / 8)).reverse → b1 = b2 := fun h => arrN_inj (hb1.trans h.symm)
  obtain ⟨Ts', n1, n2, n3, n4⟩ := zip_fin ex hU N7 hT hA (alike8 (eb (by assumption))) (by omega) (by omega) hl9
  refine hret _ _ _ _ ⟨_, _, _, _, Ts', ?b, rfl, n2, n3, n4⟩ F7 n1
  case b => (rw [hbl]; intro q hq; simp only [bl2, List.mem_append, List.mem_cons, List.not_mem_nil, or_false] at hq; rcases hq with (rfl | rfl | rfl | rfl | rfl | rfl | rfl | rfl) | rfl | rfl <;> rfl)
example : True := by
  k_with_none
  w_top off
  trivial
set_option maxHeartbeats 400000000 in
theorem sm : sj.1.1 := by
  intro _ _ _ _ _ _ _ _ _ _ _ _ _ _ _ hT8 _ _ _ _ _ _ hT9 _ _ _ _ _ _ _ _ _ _ _ _ _ _ _ _ _ _ _ _ _ _ _ _ _ _ TT _ lifted _ _ codeHd _ _ _ _ _ _ _ _ _ ys _ _ _ _ _ _ _ _ _ _ _ _ _ _ _ _ _ _ _ _ _ _ _ _ _ _ _ _ _ _ _ _ _ _ _ _ _ _ _ _ _ _ _ _ _ _ _ n sz _ rev st la p0 P lst lla hP1 hP2 h8 h64 _ _ t _ _ x dx es nn fx ry own D1 ok1 ap1 fin1 gr1 o1 o2 o3 oo w1 w2 w3 _ _ _ _ _ _ _ _ _ _ _ ht9 sl lf lm tk0 ws bl hbl ns hns hI1 hlen I hC0 _ xs nm nf vs ks x1 x5 hG _ _ R hR _ _ _ _ _ _ _ _ _ lt ld _ F1 N2 J hldJ O S0 m A B vt vd nt nd Ts ex hr hb9 hT hA hl9 h' tk F9 N9
  (k_with "eval Compare" => refine wpAny_Compare1 ?_)
  k_steps
  with_reducible show Halt _
  refine Halt.out ?_
  rename Fr _ _ _ _ => F7
  rename News _ _ _ _ => N7
  refine told_due N7 (.head _) (.tail _ (.head _)) (hA.mono fun q hq => .tail _ (.tail _ (List.mem_append_left _ hq))) ?hu ?hu1 ?_
  case hu => exact Nat.le_of_ble_eq_true rfl
  case hu1 => exact Nat.le_of_ble_eq_true rfl
  dsimp only
  obtain ⟨⟨p1, h1⟩, ⟨p2, h2⟩, p3, h3⟩ := gr1
  have hw : ∀ q ∈ own, q ∈ (lt, listOf vt.toArray nt) :: (ld, listOf vd.toArray nd) :: (Ts ++ (lm, listOf (refsV xs).toArray nm) :: (lf, listOf (bytsV xs).toArray nf) :: (own ++ objsL xs)) := fun q hq => .tail _ (.tail _ (List.mem_append_right _ (.tail _ (.tail _ (List.mem_append_left _ hq)))))
  refine ⟨?_, GrownAt.of N7 (hw _ h1), GrownAt.of N7 (hw _ h2), GrownAt.of N7 (hw _ h3), trivial⟩
  k_steps
end
end Mine
theorem PySem.Challenge.cw_ez0037_01_holds : PySem.Challenge.rw_ez0037_01.Holds := by
  exact Mine.sa.2 ⟨Mine.sb.2 ⟨Mine.sc.2 ⟨Mine.sd.2 ⟨Mine.se.2 ⟨Mine.sf.2 ⟨Mine.si.2 ⟨Mine.sj.2 ⟨Mine.sm⟩ ⟨Mine.sk⟩⟩⟩ ⟨Mine.sg.2 ⟨Mine.sh.2 ⟨Mine.sh1⟩ ⟨Mine.sh2⟩ ⟨Mine.sh3⟩ ⟨Mine.sh4⟩ ⟨Mine.sh5⟩⟩⟩⟩⟩⟩⟩⟩
