import PyProof.Rows.All
import Wide.All
import OpenK.AllK
import Wide.FinOn
import Lean
import PySem.Challenge.RW_ix0025_01
open PySem PySem.W PySem.Calls PyProof.Rows
set_option Elab.async false
set_option maxRecDepth 100000
set_option maxHeartbeats 8000000
namespace Mine

section
/-- the octets of x, n of them, the least first -/
def leB (n : Nat) (x : Int) : Array UInt8 := (KTBy.low x n).toArray
/-- the same, the greatest first -/
def beB (n : Nat) (x : Int) : Array UInt8 := (KTBy.low x n).reverse.toArray

theorem leB_size (n : Nat) (x : Int) : (leB n x).size = n := by
  unfold leB; rw [List.size_toArray, KTBy.low_length]
theorem beB_size (n : Nat) (x : Int) : (beB n x).size = n := by
  unfold beB; rw [List.size_toArray, List.length_reverse, KTBy.low_length]

section
variable {prog : Program} {w : World} {M : Model} {A : Around} {E : Value → Shared → Prop} {s : Shared} {x k : Int} {t u v : Tok} {Q : Value → Shared → Prop}
open PySem.Builtin.Int (intBits)
theorem bits_le (hk0 : 0 ≤ k) (h0 : 0 ≤ x) (h1 : x < 256 ^ k.toNat) : (intBits x : Int) ≤ 8 * k := by
  have := KTBy.bits_le (k := k.toNat) rfl h0 h1
  omega

theorem tb_any (little : Bool) (o : String) (ho : (o = "little" ∧ little = true) ∨ (o = "big" ∧ little = false)) (hk0 : 0 ≤ k) (hk : k ≤ 16777216) (h0 : 0 ≤ x) (h1 : x < 256 ^ k.toNat)
    (h : ∀ t' k', Q (.bytes (if little = true then leB k.toNat x else beB k.toNat x) t') { s with toks := k' }) :
    wpAny (model prog w) A (call (.builtin "int.to_bytes") [.int x t, .int k u, .str (PySem.Str.ofString o) v]) Q E s := by
  have hb := bits_le hk0 h0 h1
  have len : (KTBy.low x k.toNat).length ≤ sizeLine := by rw [KTBy.low_length, sizeLine_eq]; omega
  have p1 : (decide (k < -(2 ^ 63 : Int)) || decide (k ≥ 2 ^ 63)) = false := by rw [decide_eq_false (show ¬ (k < -(2 ^ 63 : Int)) by omega), decide_eq_false (show ¬ (k ≥ 2 ^ 63) by omega)]; rfl
  have p2 : (decide (x < 0) && !false) = false := by rw [decide_eq_false (show ¬ x < 0 by omega)]; rfl
  have p3 : ∀ c : Bool, (c && decide ((intBits x : Int) > 8 * k)) = false := fun c => by rw [decide_eq_false (show ¬ ((intBits x : Int) > 8 * k) by omega), Bool.and_false]
  refine wpAny_call_entry KTBy.slot (typeIs_int s x t) KTBy.entry ?_ (KTBy.args _ _ _)
  rcases ho with ⟨rfl, rfl⟩ | ⟨rfl, rfl⟩
  · refine wpAny_bind (wpAny_of_eq (a := x) rfl ?_)
    refine wpAny_bind (wpAny_of_eq (a := [some (.int k u), some (.str (PySem.Str.ofString "little") v), none]) (by kernel_rfl) ?_)
    refine wpAny_bind (wpAny_of_eq (a := k) rfl ?_)
    refine KTBy.if_not p1 ?_
    refine wpAny_bind (wpAny_of_eq (a := PySem.Str.ofString "little") (by kernel_rfl) ?_)
    refine wpAny_bind (wpAny_of_eq (a := false) rfl ?_)
    refine wpAny_bind (wpAny_of_eq (a := true) (by kernel_rfl) ?_)
    refine wpAny_ite_false (decide_eq_false (show ¬ (k < 0) by omega)) ?_
    refine wpAny_ite_false (decide_eq_false (show ¬ (k > 2 ^ 63 - 1 - 33) by omega)) ?_
    refine wpAny_ite_false (decide_eq_false (show ¬ (k > (sizeLine : Int)) by rw [sizeLine_eq]; omega)) ?_
    refine KTBy.if_not p2 ?_
    refine KTBy.if_not (p3 _) ?_
    exact wpAny_bind (wpAny_mkBytes (wpAny_pure ⟨_, rfl, h _ _⟩) len)
  · refine wpAny_bind (wpAny_of_eq (a := x) rfl ?_)
    refine wpAny_bind (wpAny_of_eq (a := [some (.int k u), some (.str (PySem.Str.ofString "big") v), none]) (by kernel_rfl) ?_)
    refine wpAny_bind (wpAny_of_eq (a := k) rfl ?_)
    refine KTBy.if_not p1 ?_
    refine wpAny_bind (wpAny_of_eq (a := PySem.Str.ofString "big") (by kernel_rfl) ?_)
    refine wpAny_bind (wpAny_of_eq (a := false) rfl ?_)
    refine wpAny_bind (wpAny_of_eq (a := false) (by kernel_rfl) ?_)
    refine wpAny_ite_false (decide_eq_false (show ¬ (k < 0) by omega)) ?_
    refine wpAny_ite_false (decide_eq_false (show ¬ (k > 2 ^ 63 - 1 - 33) by omega)) ?_
    refine wpAny_ite_false (decide_eq_false (show ¬ (k > (sizeLine : Int)) by rw [sizeLine_eq]; omega)) ?_
    refine KTBy.if_not p2 ?_
    refine KTBy.if_not (p3 _) ?_
    exact wpAny_bind (wpAny_mkBytes (wpAny_pure ⟨_, rfl, h _ _⟩) (by show (KTBy.low x k.toNat).reverse.length ≤ sizeLine; rw [List.length_reverse]; exact len))
theorem tb_little (hk0 : 0 ≤ k) (hk : k ≤ 16777216) (h0 : 0 ≤ x) (h1 : x < 256 ^ k.toNat) (h : ∀ t' k', Q (.bytes (leB k.toNat x) t') { s with toks := k' }) :
    wpAny (model prog w) A (call (.builtin "int.to_bytes") [.int x t, .int k u, .str (PySem.Str.ofString "little") v]) Q E s := tb_any true "little" (.inl ⟨rfl, rfl⟩) hk0 hk h0 h1 h
theorem tb_big (hk0 : 0 ≤ k) (hk : k ≤ 16777216) (h0 : 0 ≤ x) (h1 : x < 256 ^ k.toNat) (h : ∀ t' k', Q (.bytes (beB k.toNat x) t') { s with toks := k' }) :
    wpAny (model prog w) A (call (.builtin "int.to_bytes") [.int x t, .int k u, .str (PySem.Str.ofString "big") v]) Q E s := tb_any false "big" (.inr ⟨rfl, rfl⟩) hk0 hk h0 h1 h

theorem grown9 {n : Nat} (hn : n < 2 ^ 200) (h : Q (.int (n : Int) s.toks) { s with toks := s.toks + 1 }) : wpAny M A (mkIntGrown (n : Int)) Q E s := by
  unfold mkIntGrown
  have hl : ¬ ((n : Int).natAbs.log2 ≥ bitsLine) := by
    rw [Int.natAbs_natCast]
    have hb : bitsLine = 134217728 := by first | rfl | decide
    by_cases hz : n = 0
    · subst hz
      rw [hb]
      decide
    · have h1 := (Nat.log2_lt hz).mpr hn
      omega
  rw [if_neg hl]
  exact wpAny_mkInt h
theorem tree9 {b : Array UInt8} {P : Fin → Shared → Prop} (hl : b.size ≤ 9) (h : P (.done (.ret (.int (KFB.value (KBw.bInts b)) s.toks))) { s with toks := s.toks + 1 }) :
    wpAny M A (Builtin.«int.from_bytes» ⟨[.type "int", .bytes b t, .str (PySem.Str.ofString "big") u], []⟩) P E s := by
  have hv : ((b.toList.foldl (fun (acc : Nat) (b : UInt8) => acc * 256 + b.toNat) 0 : Nat) : Int) = KFB.value (KBw.bInts b) := KFB.fold_cast b.toList 0
  have hn : b.toList.foldl (fun (acc : Nat) (b : UInt8) => acc * 256 + b.toNat) 0 < 2 ^ 200 := by
    have h1 := KFB.fold_lt b.toList 0
    rw [Nat.zero_add, Nat.one_mul, Array.length_toList] at h1
    have h2 : 256 ^ b.size ≤ 256 ^ 9 := Nat.pow_le_pow_right (by decide) hl
    have h3 : 256 ^ 9 ≤ 2 ^ 200 := by
      have e : (256 : Nat) ^ 9 = 2 ^ 72 := by decide +kernel
      rw [e]
      exact Nat.pow_le_pow_right (by decide) (by decide)
    exact Nat.lt_of_lt_of_le h1 (Nat.le_trans h2 h3)
  unfold Builtin.«int.from_bytes»
  refine wpAny_bind (wpAny_of_eq (a := true) KFB.type_int ?_)
  refine KFB.if_not rfl ?_
  refine wpAny_bind (wpAny_of_eq (a := true) F.conv_sub_int ?_)
  refine KFB.if_not rfl ?_
  refine wpAny_bind (wpAny_of_eq (a := [some (.bytes b t), some (.str (PySem.Str.ofString "big") u), none]) (by kernel_rfl) ?_)
  refine wpAny_bind (wpAny_of_eq (a := PySem.Str.ofString "big") (by kernel_rfl) ?_)
  refine wpAny_bind (wpAny_of_eq (a := false) rfl ?_)
  refine wpAny_bind (wpAny_of_eq (a := false) (by kernel_rfl) ?_)
  refine wpAny_bind (wpAny_of_eq (a := b) rfl ?_)
  show wpAny _ _ (mkIntGrown (b.toList.foldl (fun (acc : Int) (b : UInt8) => acc * 256 + (b.toNat : Int)) ((0 : Nat) : Int)) >>= fun v => _) _ _ _
  rw [KFB.foldI_eq]
  refine wpAny_bind (grown9 hn ?_)
  rw [hv]
  refine KFB.if_so (by decide +kernel) ?_
  exact wpAny_bind (wpAny_pure (wpAny_pure h))
theorem call9 {h₀ : Heap} {L : Addr} {news : List (Addr × Obj)} {a : Addr} {b : Array UInt8} (N : News h₀ L s.heap news) (hm : (a, KFB.bound) ∈ news) (hl : b.size ≤ 9)
    (h : ∀ t' k, Q (.int (KFB.value (KBw.bInts b)) t') { s with toks := k }) : wpAny (model prog w) A (call (.ref a) [.bytes b t, .str (PySem.Str.ofString "big") u]) Q E s :=
  KFB.call_of (KFB.at_of N hm) (fun z => tree9 hl z) (h _ _)
end
end

section
/-- two written powers, kept as letters -/
@[irreducible] def two521 : Int := 2 ^ 521
@[irreducible] def three6000 : Int := 3 ^ 6000
theorem two521_big : (2 : Int) < two521 ∧ 8 * (two521 - 1) ≤ 2 ^ 600 := by unfold two521; decide +kernel
theorem three6000_in : 0 < three6000 ∧ three6000 ≤ 2 ^ 9600 := by unfold three6000; decide +kernel
theorem two521_ne : two521 - 1 ≠ 0 := by have h := two521_big.1; omega
/-- the law's number for a text and a salt -/
def numOf (b : Array UInt8) (salt : Int) : Int := ((KFB.value (KBw.bInts (#[1] ++ b))).fmod (two521 - 1) * 7 + salt + 1) * three6000
/-- the octets that the stream's algorithm tells -/
def part (b : Array UInt8) (salt start count : Int) : Array UInt8 := leB count.toNat (((numOf b salt).fdiv (256 ^ start.toNat)).fmod (256 ^ count.toNat))
/-- the text of a number -/
def txt (n : Int) : Array UInt8 := beB (n.fmod 9).toNat ((n.fdiv 9).fmod (256 ^ (n.fmod 9).toNat))

theorem part_size (b : Array UInt8) (salt start count : Int) : (part b salt start count).size = count.toNat := leB_size _ _
theorem txt_size (n : Int) : (txt n).size ≤ 8 := by
  unfold txt; rw [beB_size]
  have h0 := Int.fmod_nonneg_of_pos n (show (0 : Int) < 9 by decide)
  have h1 := Int.fmod_lt_of_pos n (show (0 : Int) < 9 by decide)
  omega

theorem p256_pos (k : Nat) : (0 : Int) < 256 ^ k := Int.pow_pos (by decide)
theorem fmod_in (x : Int) (k : Nat) : 0 ≤ x.fmod (256 ^ k) ∧ x.fmod (256 ^ k) < 256 ^ k :=
  ⟨Int.fmod_nonneg_of_pos _ (p256_pos k), Int.fmod_lt_of_pos _ (p256_pos k)⟩

theorem ints_inj {b c : Array UInt8} (h : KBw.bInts b = KBw.bInts c) : b = c := by
  have hl : b.toList = c.toList := by
    unfold KBw.bInts at h
    refine List.map_inj_right (f := fun c : UInt8 => ((c.toNat : Nat) : Int)) ?_ |>.mp h
    intro x y e
    exact UInt8.toNat_inj.mp (Int.ofNat_inj.mp e)
  exact Array.toList_inj.mp hl

theorem leB_ints {n : Nat} {x : Int} (h0 : 0 ≤ x) (h1 : x < 256 ^ n) : KBw.bInts (leB n x) = (List.range n).map fun i => x / 256 ^ i % 256 := KTBy.low_ints h0 h1

theorem part_ints (b : Array UInt8) (salt : Int) (i c : Nat) :
    KBw.bInts (part b salt i c) = (List.range c).map fun j => numOf b salt / 256 ^ (i + j) % 256 := by
  unfold part
  simp only [Int.toNat_natCast]
  rw [leB_ints (fmod_in _ _).1 (fmod_in _ _).2]
  refine List.map_congr_left fun j hj => ?_
  have hj : j < c := by simpa using hj
  generalize numOf b salt = N
  rw [Int.fdiv_eq_ediv_of_nonneg _ (Int.le_of_lt (p256_pos i)), Int.fmod_eq_emod_of_nonneg _ (Int.le_of_lt (p256_pos c))]
  have hsplit : (256 : Int) ^ c = 256 ^ j * 256 ^ (c - j) := by rw [← Int.pow_add]; congr 1; omega
  rw [hsplit, Int.pow_add]
  generalize hD : N / 256 ^ i = D
  have e1 : N / (256 ^ i * 256 ^ j) = D / 256 ^ j := by
    rw [← hD, Int.ediv_ediv_of_nonneg (Int.le_of_lt (p256_pos i))]
  rw [e1]
  have e2 : D % (256 ^ j * 256 ^ (c - j)) / 256 ^ j = D / 256 ^ j % 256 ^ (c - j) := by
    rw [Int.emod_def, Int.emod_def]
    have hp := p256_pos j
    have e3 : D / (256 ^ j * 256 ^ (c - j)) = D / 256 ^ j / 256 ^ (c - j) := by
      rw [Int.ediv_ediv_of_nonneg (Int.le_of_lt hp)]
    rw [e3, Int.mul_assoc]
    rw [Int.sub_mul_ediv_left _ _ (Int.ne_of_gt hp)]
  rw [e2]
  have e4 : (256 : Int) ^ (c - j) = 256 * 256 ^ (c - j - 1) := by
    rw [← Int.pow_succ']; congr 1; omega
  rw [e4, Int.emod_emod_of_dvd _ (Int.dvd_mul_right _ _)]

/-- THE LAW: the cut of what is held is the part asked -/
theorem cut_part (b : Array UInt8) (salt i c len : Int) (h0 : 0 ≤ i) (hc : 0 ≤ c) (h : i + c ≤ len) :
    KBy.picked (part b salt 0 len) (some i) (some (i + c)) = part b salt i c := by
  obtain ⟨i, rfl⟩ := Int.eq_ofNat_of_zero_le h0
  obtain ⟨c, rfl⟩ := Int.eq_ofNat_of_zero_le hc
  obtain ⟨len, rfl⟩ := Int.eq_ofNat_of_zero_le (show 0 ≤ len by omega)
  refine ints_inj ?_
  have e0 : KBw.bInts (part b salt 0 len) = (List.range len).map fun j => numOf b salt / 256 ^ (0 + j) % 256 := part_ints b salt 0 len
  rw [KBc.ints_picked e0, part_ints]
  have hl : ((List.range len).map fun j => numOf b salt / 256 ^ (0 + j) % 256).length = len := by simp
  rw [hl]
  simp only [Option.elim]
  have c1 : clipAt len (i : Int) = i := by rw [clipAt_nat]; omega
  have c2 : clipAt len ((i : Int) + (c : Int)) = i + c := by
    have := clipAt_nat len (i + c)
    rw [Int.natCast_add] at this
    rw [this]; omega
  rw [c1, c2, Nat.add_sub_cancel_left]
  refine List.ext_getElem ?_ fun j h1 h2 => ?_
  · simp; omega
  · simp

theorem less_in (x salt : Int) (h0 : 0 ≤ salt) (h1 : salt ≤ 1) : 0 < x.fmod (two521 - 1) * 7 + salt + 1 ∧ x.fmod (two521 - 1) * 7 + salt + 1 < 2 ^ 600 := by
  have hp : 0 < two521 - 1 := by have h := two521_big.1; omega
  have r0 := Int.fmod_nonneg_of_pos x hp
  have r1 := Int.fmod_lt_of_pos x hp
  have k1 := two521_big.2
  generalize (2 : Int) ^ 600 = W at k1 ⊢
  omega
theorem num_in (b : Array UInt8) (salt : Int) (h0 : 0 ≤ salt) (h1 : salt ≤ 1) : 0 ≤ numOf b salt ∧ numOf b salt < 2 ^ 10200 := by
  unfold numOf
  have k4 : (2 : Int) ^ 600 * 2 ^ 9600 = 2 ^ 10200 := by decide +kernel
  obtain ⟨a0, a1⟩ := less_in (KFB.value (KBw.bInts (#[1] ++ b))) salt h0 h1
  obtain ⟨k3, k2⟩ := three6000_in
  generalize (KFB.value (KBw.bInts (#[1] ++ b))).fmod (two521 - 1) * 7 + salt + 1 = r at a0 a1 ⊢
  generalize three6000 = T at k2 k3 ⊢
  generalize (2 : Int) ^ 10200 = Z at k4 ⊢
  generalize (2 : Int) ^ 9600 = V at k2 k4
  generalize (2 : Int) ^ 600 = W at a1 k4
  refine ⟨Int.mul_nonneg (Int.le_of_lt a0) (Int.le_of_lt k3), ?_⟩
  rw [← k4]
  exact Int.lt_of_lt_of_le (Int.mul_lt_mul_of_pos_right a1 k3) (Int.mul_le_mul_of_nonneg_left k2 (by omega))
theorem bits_of_lt {x : Int} {k : Nat} (hk : k ≤ 2 ^ 20) (h0 : 0 ≤ x) (h1 : x < 2 ^ k) : Builtin.Int.intBits x ≤ 2 ^ 20 := by
  refine Nat.le_trans (intBits_le_iff (m := k).mpr ?_) hk
  have e : ((2 ^ k : Nat) : Int) = (2 : Int) ^ k := Int.natCast_pow 2 k
  rw [← e] at h1
  generalize (2 : Nat) ^ k = Z at h1 ⊢
  omega
theorem mul_num (x salt : Int) (h0 : 0 ≤ salt) (h1 : salt ≤ 1) : IntMulOk (x.fmod (two521 - 1) * 7 + salt + 1) three6000 := by
  obtain ⟨a0, a1⟩ := less_in x salt h0 h1
  obtain ⟨k3, k2⟩ := three6000_in
  have k5 : (2 : Int) ^ 9600 < 2 ^ 9601 := by decide +kernel
  exact IntMulOk.of_bits (bits_of_lt (k := 600) (by decide) (Int.le_of_lt a0) a1) (bits_of_lt (k := 9601) (by decide) (Int.le_of_lt k3) (Int.lt_of_le_of_lt k2 k5))

theorem no_pylong {x : Int} (y : Int) (h0 : 0 ≤ x) (h1 : x < 2 ^ 10200) : Builtin.divisionGoesByPylong x y = false := by
  unfold Builtin.divisionGoesByPylong
  have hd : (if (x == 0) = true then 0 else x.natAbs.log2 / 30 + 1) ≤ 341 := by
    by_cases hz : x = 0
    · subst hz; decide
    · have hx : (x == 0) = false := by simpa using hz
      simp only [hx, Bool.false_eq_true, if_false]
      have hn : x.natAbs < 2 ^ 10200 := by
        have e : ((2 ^ 10200 : Nat) : Int) = (2 : Int) ^ 10200 := Int.natCast_pow 2 10200
        rw [← e] at h1
        generalize (2 : Nat) ^ 10200 = Z at h1 ⊢
        omega
      have := (Nat.log2_lt (show x.natAbs ≠ 0 by omega)).mpr hn
      omega
  clear h0 h1
  dsimp only
  rw [Bool.and_eq_false_iff]
  by_cases he : (if (y == 0) = true then 0 else y.natAbs.log2 / 30 + 1) > 300
  · exact .inr (decide_eq_false fun hgt => absurd (Nat.lt_of_lt_of_le hgt hd) (by omega))
  · exact .inl (decide_eq_false he)

section
variable {prog : Program} {w : World} {A : Around} {E : Value → Shared → Prop} {s : Shared} {x salt : Int} {t u : Tok} {Q : Value → Shared → Prop}
theorem pow_two521 (h : ∀ t' k, Q (.int two521 t') { s with toks := k }) : wpAny (model prog w) A (binaryOp .Pow (.int 2 t) (.int 521 u)) Q E s := by
  have e : two521 = (2 : Int) ^ Int.toNat 521 := by unfold two521; rfl
  refine pow_int_small (by decide) (by decide) (by decide) ?_
  rw [← e]
  exact h _ _
theorem pow_three6000 (h : ∀ t' k, Q (.int three6000 t') { s with toks := k }) : wpAny (model prog w) A (binaryOp .Pow (.int 3 t) (.int 6000 u)) Q E s := by
  have e : three6000 = (3 : Int) ^ Int.toNat 6000 := by unfold three6000; rfl
  refine pow_int_small (by decide) (by decide) (by decide) ?_
  rw [← e]
  exact h _ _
theorem mod_two521 (h : ∀ t' k, Q (.int (x.fmod (two521 - 1)) t') { s with toks := k }) : wpAny (model prog w) A (binaryOp .Mod (.int x t) (.int (two521 - 1) u)) Q E s :=
  mod_int' two521_ne (h _ _)
theorem mul_three6000 (h0 : 0 ≤ salt) (h1 : salt ≤ 1) (h : ∀ t' k, Q (.int ((x.fmod (two521 - 1) * 7 + salt + 1) * three6000) t') { s with toks := k }) :
    wpAny (model prog w) A (binaryOp .Mult (.int (x.fmod (two521 - 1) * 7 + salt + 1) t) (.int three6000 u)) Q E s := mul_int (h _ _) (mul_num x salt h0 h1)
theorem div_num {b : Array UInt8} {i : Int} (h0 : 0 ≤ salt) (h1 : salt ≤ 1) (h : ∀ t' k, Q (.int ((numOf b salt).fdiv (256 ^ i.toNat)) t') { s with toks := k }) :
    wpAny (model prog w) A (binaryOp .FloorDiv (.int (numOf b salt) t) (.int (256 ^ i.toNat) u)) Q E s :=
  floordiv_int (Int.ne_of_gt (p256_pos _)) (h _ _) (.inl (no_pylong _ (num_in b salt h0 h1).1 (num_in b salt h0 h1).2))
end
end

open_top hd for PySem.Challenge.rw_ix0025_01

section
/-- what a def that keeps the ledger answers, whoever calls it: D frames and U units of room -/
abbrev Claim (D U : Nat) (w : World) (p : Program) (loose : List PySem.Str) (mean : ExcName → Option Value) (mg mb : PySem.Str → Option Value) (f : Addr) (news : List (Addr × Obj)) (pre : Prop) (vs : List Value) (R : Tok → Value) : Prop :=
  ∀ (dp un : Nat) (gd : Option (List Code)) (cn : PySem.Str) (cs : Scope) (a : Addr) (ccd : Value) (cl : List (PySem.Str × Addr)) (outer : List Env) (A₀ : Around) (base h₀ : Heap) (L : Addr) (m : PySem.Str → Option Value) (s : Shared) (Q E : Value → Shared → Prop),
    Below A₀ base outer h₀ → Fr h₀ L s.heap m → (hd.heap_39 w.params).In h₀ → News h₀ L s.heap news → Top p loose mean mg mb h₀ → cs.kind = .function →
    pre → dp + D < recursionLimit → un + U < cLine → CbRet h₀ L m news s Q R →
      wpAny (model PySem.Challenge.rw_ix0025_01.row.prog w) (ktrTop dp un gd cn cs L a ccd cl outer) (call (.ref f) vs) Q E s

local macro_rules | `(tactic| walk_at "call builtin:int.to_bytes") => `(tactic| (k_here; (with_reducible show wpAny _ _ (call (Value.builtin "int.to_bytes") [Value.int _ _, Value.int _ _, Value.str _ _]) _ _ _); (first
  | (refine' tb_little ?tb1 ?tb2 ?tb3 ?tb4 ?_; (case tb1 => first | assumption | omega); (case tb2 => first | assumption | omega); (case tb3 => exact (fmod_in _ _).1); (case tb4 => exact (fmod_in _ _).2))
  | (refine' tb_big ?tb1 ?tb2 ?tb3 ?tb4 ?_; (case tb1 => first | assumption | omega); (case tb2 => first | assumption | omega); (case tb3 => exact (fmod_in _ _).1); (case tb4 => exact (fmod_in _ _).2))); intro _ _))
theorem size_one (b : Array UInt8) (h : b.size ≤ 8) (c : Array UInt8) (hc : c.size = 1) : c.size + b.size ≤ 16777216 := by omega
theorem size_app (b : Array UInt8) (h : b.size ≤ 8) (c : Array UInt8) (hc : c.size = 1) : (c ++ b).size ≤ 9 := by rw [Array.size_append]; omega
local macro_rules | `(tactic| walk_at "binaryOp Add bytes bytes") => `(tactic| (k_here; (with_reducible show wpAny _ _ (binaryOp Operator.Add (Value.bytes _ _) (Value.bytes _ _)) _ _ _); (refine' KBy.add_bytes ?hsz ?_; (case hsz => exact size_one _ (by assumption) _ rfl)); intro _ _))
local macro_rules | `(tactic| walk_at "call ref") => `(tactic| (k_here; (with_reducible show wpAny _ _ (call (Value.ref _) [Value.bytes _ _, Value.str _ _]) _ _ _); k_dflt (refine' call9 ?N ?hm ?hl ?_; (case N => k_asm); (case hm => k_mem); (case hl => exact size_app _ (by assumption) _ rfl)); intro _ _))
local macro_rules | `(tactic| walk_at "binaryOp Pow int int") => `(tactic| (k_here; (first | (with_reducible refine pow_two521 ?_) | (with_reducible refine pow_three6000 ?_)); intro _ _))
local macro_rules | `(tactic| walk_at "binaryOp Mod int int") => `(tactic| (k_here; (with_reducible refine mod_two521 ?_); intro _ _))
local macro_rules | `(tactic| walk_at "binaryOp Mult int int") => `(tactic| (k_here; (with_reducible refine mul_three6000 (by assumption) (by assumption) ?_); intro _ _))
local macro_rules | `(tactic| walk_at "binaryOp FloorDiv int int") => `(tactic| (k_here; (with_reducible refine div_num (by assumption) (by assumption) ?_); intro _ _))

theorem text_claim (w : World) (p : Program) (loose : List PySem.Str) (mean : ExcName → Option Value) (mg mb : PySem.Str → Option Value) (n : Int) (tn : Tok) (news : List (Addr × Obj)) :
    Claim 1 100 w p loose mean mg mb 84 news (0 ≤ n) [.int n tn] (fun t => .bytes (txt n) t) := by
  unfold Claim; w_top off; k_fill
  intro dp un gd cn cs a ccd cl outer A₀ base h₀ L m s Q E B F X N T hk hpre hd hu hret
  refine wpAny_call ?_
  k_dflt cell_enter
  k_steps
  all_goals exact hret _ _ _ (by assumption) (by assumption)

theorem num_claim (w : World) (p : Program) (loose : List PySem.Str) (mean : ExcName → Option Value) (mg mb : PySem.Str → Option Value) (b : Array UInt8) (tb : Tok) (salt : Int) (ts : Tok) (news : List (Addr × Obj)) :
    Claim 1 100 w p loose mean mg mb 70 news (b.size ≤ 8 ∧ 0 ≤ salt ∧ salt ≤ 1) [.bytes b tb, .int salt ts] (fun t => .int (numOf b salt) t) := by
  unfold Claim; w_top off; k_fill
  intro dp un gd cn cs a ccd cl outer A₀ base h₀ L m s Q E B F X N T hk hpre hd hu hret
  obtain ⟨hp0, hp1, hp2⟩ := hpre
  refine wpAny_call ?_
  k_dflt cell_enter
  k_steps
  all_goals exact hret _ _ _ (by assumption) (cb_drop (by assumption) (by kcj_all))

local macro_rules | `(tactic| walk_at "call ref") => `(tactic| (k_here; (with_reducible show wpAny _ _ (call (Value.ref 70) [Value.bytes _ _, Value.int _ _]) _ _ _); k_dflt (refine' num_claim _ _ _ _ _ _ _ _ _ _ _ _ _ _ _ _ _ _ _ _ _ _ _ _ _ _ _ _ ?k1 ?k2 ?k3 ?k4 ?k5 ?kK ?kp ?kd ?ku ?_; (case k1 => k_asm); (case k2 => k_asm); (case k3 => k_asm); (case k4 => k_asm); (case k5 => k_asm); (case kK => first | exact rfl | assumption); (case kp => exact ⟨by assumption, by assumption, by assumption⟩); (case kd => ktr_room); (case ku => ktr_units); intro t9 h9 tk9 F9 N9; (try dsimp only); (try k_fold))))
theorem part_claim (w : World) (p : Program) (loose : List PySem.Str) (mean : ExcName → Option Value) (mg mb : PySem.Str → Option Value) (b : Array UInt8) (tb : Tok) (salt : Int) (ts : Tok) (start : Int) (tr : Tok) (count : Int) (tc : Tok) (news : List (Addr × Obj)) :
    Claim 2 200 w p loose mean mg mb 77 news (b.size ≤ 8 ∧ 0 ≤ salt ∧ salt ≤ 1 ∧ 0 ≤ start ∧ start ≤ 100000 ∧ 0 ≤ count ∧ count ≤ 100000) [.bytes b tb, .int salt ts, .int start tr, .int count tc] (fun t => .bytes (part b salt start count) t) := by
  unfold Claim; w_top off; k_fill
  intro dp un gd cn cs a ccd cl outer A₀ base h₀ L m s Q E B F X N T hk hpre hd hu hret
  obtain ⟨hp1, hp2, hp3, hp4, hp5, hp6, hp7⟩ := hpre
  refine wpAny_call ?_
  k_dflt cell_enter
  k_steps
  all_goals exact hret _ _ _ (by assumption) (cb_drop (by assumption) (by kcj_all))
end

section
/-- f is a def's object of this part of the ledger -/
def FnIn (f : Addr) (own : List (Addr × Obj)) : Prop := ∃ (oc : Value) (od : Option Addr) (fd : FuncData) (sl : Array (Option Value)), (f, (⟨oc, od, .func fd, sl⟩ : Obj)) ∈ own
/-- the handed-in algorithm f tells the parts with this salt, as long as the ledger holds this part -/
structure AlgIn (w : World) (p : Program) (loose : List PySem.Str) (mean : ExcName → Option Value) (mg mb : PySem.Str → Option Value) (salt : Int) (f : Addr) (own : List (Addr × Obj)) : Prop where
  fn : FnIn f own
  tells : ∀ (b : Array UInt8) (tb : Tok) (count : Int) (tc : Tok) (news : List (Addr × Obj)), (∀ q ∈ own, q ∈ news) →
    Claim 3 300 w p loose mean mg mb f news (b.size ≤ 8 ∧ 0 ≤ count ∧ count ≤ 100000) [.bytes b tb, .int count tc] (fun t => .bytes (part b salt 0 count) t)
section
variable {w : World} {p : Program} {loose : List PySem.Str} {mean : ExcName → Option Value} {mg mb : PySem.Str → Option Value} {salt : Int} {f : Addr} {own : List (Addr × Obj)}
theorem AlgIn.mono {own' : List (Addr × Obj)} (G : AlgIn w p loose mean mg mb salt f own) (h : ∀ q ∈ own, q ∈ own') : AlgIn w p loose mean mg mb salt f own' :=
  ⟨let ⟨a, b, c, d, e⟩ := G.fn; ⟨a, b, c, d, h _ e⟩, fun b tb count tc news hn => G.tells b tb count tc news fun q hq => hn q (h q hq)⟩
theorem AlgIn.use (G : AlgIn w p loose mean mg mb salt f own)
    {dp un : Nat} {gd : Option (List Code)} {cn : PySem.Str} {cs : Scope} {a : Addr} {ccd : Value} {cl : List (PySem.Str × Addr)} {outer : List Env} {A₀ : Around} {base h₀ : Heap} {L : Addr} {m : PySem.Str → Option Value} {s : Shared} {Q E : Value → Shared → Prop}
    {b : Array UInt8} {tb : Tok} {count : Int} {tc : Tok} {news : List (Addr × Obj)} (hn : ∀ q ∈ own, q ∈ news) (B : Below A₀ base outer h₀) (F : Fr h₀ L s.heap m) (X : (hd.heap_39 w.params).In h₀) (N : News h₀ L s.heap news) (T : Top p loose mean mg mb h₀) (hk : cs.kind = .function)
    (hp : b.size ≤ 8 ∧ 0 ≤ count ∧ count ≤ 100000) (hd : dp + 3 < recursionLimit) (hu : un + 300 < cLine) (hr : ∀ t h' tk', Fr h₀ L h' m → News h₀ L h' news → Q (.bytes (part b salt 0 count) t) { s with heap := h', toks := tk' }) :
    wpAny (model PySem.Challenge.rw_ix0025_01.row.prog w) (ktrTop dp un gd cn cs L a ccd cl outer) (call (.ref f) [.bytes b tb, .int count tc]) Q E s :=
  G.tells b tb count tc news hn dp un gd cn cs a ccd cl outer A₀ base h₀ L m s Q E B F X N T hk hp hd hu hr
theorem AlgIn.at {h₀ h : Heap} {L : Addr} {news : List (Addr × Obj)} (G : AlgIn w p loose mean mg mb salt f own) (N : News h₀ L h news) (hs : ∀ q ∈ own, q ∈ news) : FnAt f h := by
  obtain ⟨oc, od, fd, sl, hm⟩ := G.fn
  exact FnAt.of N (hs _ hm)
end

/-- a stream's dict, all six kept -/
abbrev sObj (w : World) (k1 k2 k3 k4 k5 k6 : Tok) (f : Addr) (blk : Int) (kb : Tok) (B : Array UInt8) (tB : Tok) (len : Int) (tl : Tok) (i : Int) (ti : Tok) (t : Array UInt8) (tt : Tok) : Obj :=
  dictOf [⟨PyData.keyHash w.params (PySem.Str.ofString "algorithm"), .str (PySem.Str.ofString "algorithm") k1, .ref f⟩,
    ⟨PyData.keyHash w.params (PySem.Str.ofString "block_length"), .str (PySem.Str.ofString "block_length") k2, .int blk kb⟩,
    ⟨PyData.keyHash w.params (PySem.Str.ofString "buf"), .str (PySem.Str.ofString "buf") k3, .bytes B tB⟩,
    ⟨PyData.keyHash w.params (PySem.Str.ofString "len_buf"), .str (PySem.Str.ofString "len_buf") k4, .int len tl⟩,
    ⟨PyData.keyHash w.params (PySem.Str.ofString "index"), .str (PySem.Str.ofString "index") k5, .int i ti⟩,
    ⟨PyData.keyHash w.params (PySem.Str.ofString "input_bytes"), .str (PySem.Str.ofString "input_bytes") k6, .bytes t tt⟩] 6
/-- as __init__ leaves it -/
abbrev sObj0 (w : World) (k1 k2 k3 k4 : Tok) (f : Addr) (blk : Int) (kb : Tok) (B : Array UInt8) (tB : Tok) (len : Int) (tl : Tok) : Obj :=
  dictOf [⟨PyData.keyHash w.params (PySem.Str.ofString "algorithm"), .str (PySem.Str.ofString "algorithm") k1, .ref f⟩,
    ⟨PyData.keyHash w.params (PySem.Str.ofString "block_length"), .str (PySem.Str.ofString "block_length") k2, .int blk kb⟩,
    ⟨PyData.keyHash w.params (PySem.Str.ofString "buf"), .str (PySem.Str.ofString "buf") k3, .bytes B tB⟩,
    ⟨PyData.keyHash w.params (PySem.Str.ofString "len_buf"), .str (PySem.Str.ofString "len_buf") k4, .int len tl⟩] 4

local macro_rules | `(tactic| k_room) => `(tactic| ktr_room)
local macro_rules | `(tactic| walk_at "getMethod ref") => `(tactic| (k_here; (with_reducible show wpAny _ _ (getMethod (Value.ref _) (PySem.Str.ofString "algorithm") _) _ _ _); k_dflt (refine' kmu_own ?k1 ?k2 ?k3 ?k4 ?k5 ?_; (case k1 => k_asm); (case k2 => k_asm); (case k3 => k_inst); (case k4 => k_is); (case k5 => k_is); k_whole)))
local macro_rules | `(tactic| walk_at "callWith ref") => `(tactic| (k_here; (with_reducible rename AlgIn _ _ _ _ _ _ _ _ _ => gA); k_dflt (refine' callWith_F (AlgIn.at gA ?N ?hs) ?_; (case N => k_asm); (case hs => (intro q hq; repeat' first | exact hq | refine List.Mem.tail _ ?_)); k_whole)))
local macro_rules | `(tactic| walk_at "And") => `(tactic| ((with_reducible show FnAt _ _ ∧ _); (with_reducible rename AlgIn _ _ _ _ _ _ _ _ _ => gA); k_dflt (refine' And.intro (AlgIn.at gA ?N ?hs) ?_; (case N => k_asm); (case hs => (intro q hq; repeat' first | exact hq | refine List.Mem.tail _ ?_))); try dsimp only [List.nil_append, List.cons_append]))
local macro_rules | `(tactic| walk_at "call ref") => `(tactic| (k_here; (with_reducible show wpAny _ _ (call (Value.ref _) [Value.bytes _ _, Value.int _ _]) _ _ _); (with_reducible rename AlgIn _ _ _ _ _ _ _ _ _ => gA); k_dflt (refine' AlgIn.use gA ?kn ?k1 ?k2 ?k3 ?k4 ?k5 ?kK ?kp ?kd ?ku ?_; (case k1 => k_asm); (case k2 => k_asm); (case k3 => k_asm); (case k4 => k_asm); (case k5 => k_asm); (case kn => (intro q hq; repeat' first | exact hq | refine List.Mem.tail _ ?_)); (case kK => first | exact rfl | assumption); (case kp => exact ⟨by assumption, by omega, by omega⟩); (case kd => ktr_room); (case ku => ktr_units); intro t9 h9 tk9 F9 N9; (try dsimp only); (try k_fold))))

theorem absorb_step (w : World) (p : Program) (loose : List PySem.Str) (mean : ExcName → Option Value) (mg mb : PySem.Str → Option Value) (salt : Int) (f : Addr) (own : List (Addr × Obj)) (G : AlgIn w p loose mean mg mb salt f own)
    (k1 k2 k3 k4 k5 k6 : Tok) (blk : Int) (kb : Tok) (B₁ : Array UInt8) (tB : Tok) (len : Int) (tl : Tok) (i : Int) (ti : Tok) (t₁ : Array UInt8) (tt : Tok) (x d : Addr) (b : Array UInt8) (tb : Tok)
    (hb : b.size ≤ 8) (hblk : 1 ≤ blk ∧ blk ≤ 40) (hoff : OwnOff own [d]) (hxd : @LT.lt Nat _ d x)
    (dp un : Nat) (gd : Option (List Code)) (cn : PySem.Str) (cs : Scope) (a : Addr) (ccd : Value) (cl : List (PySem.Str × Addr)) (outer : List Env) (A₀ : Around) (base h₀ : Heap) (L : Addr) (m : PySem.Str → Option Value) (s : Shared) (Q E : Value → Shared → Prop)
    (B : Below A₀ base outer h₀) (F : Fr h₀ L s.heap m) (X : (hd.heap_39 w.params).In h₀)
    (N : News h₀ L s.heap ((x, instObj 59 d) :: (d, sObj w k1 k2 k3 k4 k5 k6 f blk kb B₁ tB len tl i ti t₁ tt) :: own)) (T : Top p loose mean mg mb h₀) (hk : cs.kind = .function) (hd : dp + 6 < recursionLimit) (hu : un + 600 < cLine)
    (hret : ∀ tB' tl' ti' h' tk', Fr h₀ L h' m → News h₀ L h' ((x, instObj 59 d) :: (d, sObj w k1 k2 k3 k4 k5 k6 f blk kb (part b salt 0 (5 * blk)) tB' (5 * blk) tl' 0 ti' b tb) :: own) → Q .none { s with heap := h', toks := tk' }) :
    wpAny (model PySem.Challenge.rw_ix0025_01.row.prog w) (ktrTop dp un gd cn cs L a ccd cl outer) (call (.ref 35) [.ref x, .bytes b tb]) Q E s := by
  w_top off; revert X; k_fill; intro X
  obtain ⟨hb1, hb2⟩ := hblk
  refine wpAny_call ?_
  k_dflt cell_enter
  k_steps
  all_goals exact hret _ _ _ _ _ (by assumption) (by assumption)
theorem absorb0_step (w : World) (p : Program) (loose : List PySem.Str) (mean : ExcName → Option Value) (mg mb : PySem.Str → Option Value) (salt : Int) (f : Addr) (own : List (Addr × Obj)) (G : AlgIn w p loose mean mg mb salt f own)
    (k1 k2 k3 k4 : Tok) (blk : Int) (kb : Tok) (B₁ : Array UInt8) (tB : Tok) (len : Int) (tl : Tok) (x d : Addr) (b : Array UInt8) (tb : Tok)
    (hb : b.size ≤ 8) (hblk : 1 ≤ blk ∧ blk ≤ 40) (hoff : OwnOff own [d]) (hxd : @LT.lt Nat _ d x)
    (dp un : Nat) (gd : Option (List Code)) (cn : PySem.Str) (cs : Scope) (a : Addr) (ccd : Value) (cl : List (PySem.Str × Addr)) (outer : List Env) (A₀ : Around) (base h₀ : Heap) (L : Addr) (m : PySem.Str → Option Value) (s : Shared) (Q E : Value → Shared → Prop)
    (B : Below A₀ base outer h₀) (F : Fr h₀ L s.heap m) (X : (hd.heap_39 w.params).In h₀)
    (N : News h₀ L s.heap ((x, instObj 59 d) :: (d, sObj0 w k1 k2 k3 k4 f blk kb B₁ tB len tl) :: own)) (T : Top p loose mean mg mb h₀) (hk : cs.kind = .function) (hd : dp + 6 < recursionLimit) (hu : un + 600 < cLine)
    (hret : ∀ k5 k6 tB' tl' ti' h' tk', Fr h₀ L h' m → News h₀ L h' ((x, instObj 59 d) :: (d, sObj w k1 k2 k3 k4 k5 k6 f blk kb (part b salt 0 (5 * blk)) tB' (5 * blk) tl' 0 ti' b tb) :: own) → Q .none { s with heap := h', toks := tk' }) :
    wpAny (model PySem.Challenge.rw_ix0025_01.row.prog w) (ktrTop dp un gd cn cs L a ccd cl outer) (call (.ref 35) [.ref x, .bytes b tb]) Q E s := by
  w_top off; revert X; k_fill; intro X
  obtain ⟨hb1, hb2⟩ := hblk
  refine wpAny_call ?_
  k_dflt cell_enter
  k_steps
  all_goals exact hret _ _ _ _ _ _ _ (by assumption) (by assumption)

local macro_rules | `(tactic| walk_at "call ref") => `(tactic| (k_here; (with_reducible show wpAny _ _ (call (Value.ref 35) [Value.ref _, Value.bytes _ _]) _ _ _); (with_reducible rename AlgIn _ _ _ _ _ _ _ _ _ => gA); k_dflt (refine' absorb_step _ _ _ _ _ _ _ _ _ gA _ _ _ _ _ _ _ _ _ _ _ _ _ _ _ _ _ _ _ _ ?h1 ?h2 ?h3 ?h4 _ _ _ _ _ _ _ _ _ _ _ _ _ _ _ _ _ ?k1 ?k2 ?k3 ?k4 ?k5 ?kK ?kd ?ku ?_; (case k1 => k_asm); (case k2 => k_asm); (case k3 => k_asm); (case k4 => k_asm); (case k5 => k_asm); (case kK => first | exact rfl | assumption); (case h1 => assumption); (case h2 => exact ⟨by assumption, by assumption⟩); (case h3 => assumption); (case h4 => assumption); (case kd => ktr_room); (case ku => ktr_units); intro tB9 tl9 ti9 h9 tk9 F9 N9; (try dsimp only); (try k_fold))))
theorem call_step (w : World) (p : Program) (loose : List PySem.Str) (mean : ExcName → Option Value) (mg mb : PySem.Str → Option Value) (salt : Int) (f : Addr) (own : List (Addr × Obj)) (G : AlgIn w p loose mean mg mb salt f own)
    (k1 k2 k3 k4 k5 k6 : Tok) (blk : Int) (kb : Tok) (B₁ : Array UInt8) (tB : Tok) (len : Int) (tl : Tok) (i : Int) (ti : Tok) (t₁ : Array UInt8) (tt : Tok) (x d : Addr) (b : Array UInt8) (tb : Tok)
    (hb : b.size ≤ 8) (hblk : 1 ≤ blk ∧ blk ≤ 40) (hoff : OwnOff own [d]) (hxd : @LT.lt Nat _ d x)
    (dp un : Nat) (gd : Option (List Code)) (cn : PySem.Str) (cs : Scope) (a : Addr) (ccd : Value) (cl : List (PySem.Str × Addr)) (outer : List Env) (A₀ : Around) (base h₀ : Heap) (L : Addr) (m : PySem.Str → Option Value) (s : Shared) (Q E : Value → Shared → Prop)
    (B : Below A₀ base outer h₀) (F : Fr h₀ L s.heap m) (X : (hd.heap_39 w.params).In h₀)
    (N : News h₀ L s.heap ((x, instObj 59 d) :: (d, sObj w k1 k2 k3 k4 k5 k6 f blk kb B₁ tB len tl i ti t₁ tt) :: own)) (T : Top p loose mean mg mb h₀) (hk : cs.kind = .function) (hd : dp + 7 < recursionLimit) (hu : un + 700 < cLine)
    (hret : ∀ tB' tl' ti' h' tk', Fr h₀ L h' m → News h₀ L h' ((x, instObj 59 d) :: (d, sObj w k1 k2 k3 k4 k5 k6 f blk kb (part b salt 0 (5 * blk)) tB' (5 * blk) tl' 0 ti' b tb) :: own) → Q (.ref x) { s with heap := h', toks := tk' }) :
    wpAny (model PySem.Challenge.rw_ix0025_01.row.prog w) (ktrTop dp un gd cn cs L a ccd cl outer) (call (.ref x) [.bytes b tb]) Q E s := by
  w_top off; revert X; k_fill; intro X
  obtain ⟨hb1, hb2⟩ := hblk
  refine wpAny_call ?_
  k_dflt (refine' kco_code (K := Mine.hd.heap_39 w.params) (f := 56) (C := 59) ?q1 ?q2 ?q3 ?q4 ?q5 ?q6 ?_; (case q1 => k_in); (case q2 => k_inst); (case q3 => rfl); (case q4 => k_is); (case q5 => k_is); (case q6 => k_is))
  (try dsimp only)
  k_dflt cell_enter
  k_steps
  all_goals exact hret _ _ _ _ _ (by assumption) (by assumption)
end

section
local macro_rules | `(tactic| k_room) => `(tactic| ktr_room)
local macro_rules | `(tactic| walk_at "getMethod ref") => `(tactic| (k_here; (with_reducible show wpAny _ _ (getMethod (Value.ref _) (PySem.Str.ofString "algorithm") _) _ _ _); k_dflt (refine' kmu_own ?k1 ?k2 ?k3 ?k4 ?k5 ?_; (case k1 => k_asm); (case k2 => k_asm); (case k3 => k_inst); (case k4 => k_is); (case k5 => k_is); k_whole)))
local macro_rules | `(tactic| walk_at "callWith ref") => `(tactic| (k_here; (with_reducible rename AlgIn _ _ _ _ _ _ _ _ _ => gA); k_dflt (refine' callWith_F (AlgIn.at gA ?N ?hs) ?_; (case N => k_asm); (case hs => (intro q hq; repeat' first | exact hq | refine List.Mem.tail _ ?_)); k_whole)))
local macro_rules | `(tactic| walk_at "And") => `(tactic| ((with_reducible show FnAt _ _ ∧ _); (with_reducible rename AlgIn _ _ _ _ _ _ _ _ _ => gA); k_dflt (refine' And.intro (AlgIn.at gA ?N ?hs) ?_; (case N => k_asm); (case hs => (intro q hq; repeat' first | exact hq | refine List.Mem.tail _ ?_))); try dsimp only [List.nil_append, List.cons_append]))
local macro_rules | `(tactic| walk_at "call ref") => `(tactic| (k_here; (with_reducible show wpAny _ _ (call (Value.ref _) [Value.bytes _ _, Value.int _ _]) _ _ _); (with_reducible rename AlgIn _ _ _ _ _ _ _ _ _ => gA); k_dflt (refine' AlgIn.use gA ?kn ?k1 ?k2 ?k3 ?k4 ?k5 ?kK ?kp ?kd ?ku ?_; (case k1 => k_asm); (case k2 => k_asm); (case k3 => k_asm); (case k4 => k_asm); (case k5 => k_asm); (case kn => (intro q hq; repeat' first | exact hq | refine List.Mem.tail _ ?_)); (case kK => first | exact rfl | assumption); (case kp => exact ⟨by assumption, by omega, by omega⟩); (case kd => ktr_room); (case ku => ktr_units); intro t9 h9 tk9 F9 N9; (try dsimp only); (try k_fold))))


/-- the ledger, the facts and the measure of the loop in read -/
abbrev rLed (w : World) (salt : Int) (k1 k2 k3 k4 k5 k6 : Tok) (f : Addr) (blk : Int) (kb : Tok) (i : Int) (ti : Tok) (t : Array UInt8) (tt : Tok) (x d : Addr) (own : List (Addr × Obj)) (c : Tok × Int × Tok) : List (Addr × Obj) :=
  (x, instObj 59 d) :: (d, sObj w k1 k2 k3 k4 k5 k6 f blk kb (part t salt 0 c.2.1) c.1 c.2.1 c.2.2 i ti t tt) :: own
abbrev rFacts (c : Tok × Int × Tok) : Prop := 1 ≤ c.2.1 ∧ c.2.1 ≤ 42000
abbrev rMeas (c : Tok × Int × Tok) : Nat := (21000 - c.2.1).toNat
abbrev rPs (_ : Tok × Int × Tok) : List (PySem.Str × Value) := []
abbrev rTrue (_ : Tok × Int × Tok) : Prop := True
section
variable {prog : Program} {w : World} {A : Around} {E : Value → Shared → Prop} {Q : Flow → Shared → Prop} {s : Shared} {env : Env} {h₀ : Heap} {L : Addr} {salt : Int} {k1 k2 k3 k4 k5 k6 : Tok} {f : Addr} {blk : Int} {kb : Tok} {i : Int} {ti : Tok} {t : Array UInt8} {tt : Tok} {x d : Addr} {own : List (Addr × Obj)}
theorem read_while {test : PySem.Expr} {body : List Stmt} {pos : Pos} {m₀ : PySem.Str → Option Value} {tB : Tok} {len : Int} {tl : Tok}
    (F : Fr h₀ L s.heap m₀) (N : News h₀ L s.heap ((x, instObj 59 d) :: (d, sObj w k1 k2 k3 k4 k5 k6 f blk kb (part t salt 0 len) tB len tl i ti t tt) :: own)) (h1 : 1 ≤ len) (h2 : len ≤ 42000)
    (turn : ∀ (tB1 : Tok) (len1 : Int) (tl1 : Tok) h tk, 1 ≤ len1 → len1 ≤ 42000 → Fr h₀ L h m₀ → News h₀ L h ((x, instObj 59 d) :: (d, sObj w k1 k2 k3 k4 k5 k6 f blk kb (part t salt 0 len1) tB1 len1 tl1 i ti t tt) :: own) →
      wpAny (model prog w) A (isTrue test env (eval test env)) (fun b s₂ =>
        if b = true then wpAny (model prog w) A (execs body env) (KswPost h₀ L s (rLed w salt k1 k2 k3 k4 k5 k6 f blk kb i ti t tt x d own) rPs rFacts [] m₀ rTrue rMeas Q (tB1, len1, tl1)) E s₂ else Q .next s₂) E { s with heap := h, toks := tk })
    (hE : PassesOwn (model prog w) A env E) :
    wpAny (model prog w) A (exec (.While test body [] pos) env) Q E s := by
  refine ksw_while (rLed w salt k1 k2 k3 k4 k5 k6 f blk kb i ti t tt x d own) rPs rFacts [] rTrue rMeas (tB, len, tl) F N ⟨h1, h2⟩ (fun _ hp => nomatch hp) trivial ?_ hE
  rintro ⟨tB1, len1, tl1⟩ u hh tk1 ⟨hf1, hf2⟩ _ F1 N1
  refine turn tB1 len1 tl1 hh tk1 hf1 hf2 ?_ N1
  have e : (kstB (fun z => if ([] : List PySem.Str).contains z then u z else m₀ z) (rPs (tB1, len1, tl1))) = m₀ := by
    funext z
    show (if ([] : List PySem.Str).contains z then u z else m₀ z) = m₀ z
    rfl
  rw [e] at F1
  exact F1
theorem read_end {m₀ : PySem.Str → Option Value} {tB : Tok} {len : Int} {tl tB' : Tok} {len' : Int} {tl' : Tok} {h' : Heap} {tk : Nat}
    (F : Fr h₀ L h' m₀) (N : News h₀ L h' ((x, instObj 59 d) :: (d, sObj w k1 k2 k3 k4 k5 k6 f blk kb (part t salt 0 len') tB' len' tl' i ti t tt) :: own)) (h1 : 1 ≤ len') (h2 : len' ≤ 42000) (h3 : len < len') (h4 : len < 21000) :
    KswEnd h₀ L s (rLed w salt k1 k2 k3 k4 k5 k6 f blk kb i ti t tt x d own) rPs rFacts [] m₀ rTrue rMeas (tB, len, tl) { s with heap := h', toks := tk } :=
  ksw_end (tB', len', tl') F N (fun _ hp => hp) ⟨h1, h2⟩ (fun _ hp => nomatch hp) (fun _ _ _ => rfl) trivial (by show (21000 - len').toNat < (21000 - len).toNat; omega)
end
local macro_rules | `(tactic| walk_at "exec While Compare cons nil") => `(tactic| (k_here; (with_reducible rename AlgIn _ _ _ _ _ _ _ _ _ => gA); k_dflt (refine' read_while ?kF ?kN ?k1 ?k2 ?_ ?kE; (case kF => k_asm); (case kN => k_asm); (case k1 => omega); (case k2 => omega); (case kE => first | passes_own | with_unfolding_all passes_own)); intro tB1 len1 tl1 hh tk1 hf1 hf2 F1 N1; (try k_sweep); (try k_fold)))
local macro_rules | `(tactic| walk_at "KswEnd") => `(tactic| (k_dflt (refine' read_end ?kF ?kN ?k1 ?k2 ?k3 ?k4; (case kF => k_asm); (case kN => k_asm); (all_goals (simp only [decide_eq_true_eq, decide_eq_false_iff_not] at *; omega)))))
local macro_rules | `(tactic| walk_at "subscriptTail") => `(tactic| (k_here; (with_reducible show wpAny _ _ (subscriptTail _ (Expr.Slice _ _ none _) (Value.bytes _ _) (Value.ref _)) _ _ _); (with_reducible rename Fr _ _ _ _ => F'); (with_reducible rename News _ _ _ _ => N'); k_dflt (refine' KBc.slice_K (s := ⟨_, _, _, _, _⟩) F' N' (ks := KBw.bInts _) rfl (by constructor) (by constructor) ?kz ?_; (case kz => rw [KBw.ints_length, part_size]; omega)); intro _ _ _ _ _ _))

theorem read_step (w : World) (p : Program) (loose : List PySem.Str) (mean : ExcName → Option Value) (mg mb : PySem.Str → Option Value) (salt : Int) (f : Addr) (own : List (Addr × Obj)) (G : AlgIn w p loose mean mg mb salt f own)
    (k1 k2 k3 k4 k5 k6 : Tok) (blk : Int) (kb : Tok) (tB : Tok) (len : Int) (tl : Tok) (i : Int) (ti : Tok) (t : Array UInt8) (tt : Tok) (x d : Addr) (n : Int) (tn : Tok)
    (ht : t.size ≤ 8) (hlen : 1 ≤ len ∧ len ≤ 42000) (hi : 0 ≤ i ∧ i ≤ 20000) (hn : 0 ≤ n ∧ n ≤ 1000) (hoff : OwnOff own [d]) (hxd : @LT.lt Nat _ d x)
    (dp un : Nat) (gd : Option (List Code)) (cn : PySem.Str) (cs : Scope) (a : Addr) (ccd : Value) (cl : List (PySem.Str × Addr)) (outer : List Env) (A₀ : Around) (base h₀ : Heap) (L : Addr) (m : PySem.Str → Option Value) (s : Shared) (Q E : Value → Shared → Prop)
    (B : Below A₀ base outer h₀) (F : Fr h₀ L s.heap m) (X : (hd.heap_39 w.params).In h₀)
    (N : News h₀ L s.heap ((x, instObj 59 d) :: (d, sObj w k1 k2 k3 k4 k5 k6 f blk kb (part t salt 0 len) tB len tl i ti t tt) :: own)) (T : Top p loose mean mg mb h₀) (hk : cs.kind = .function) (hd : dp + 6 < recursionLimit) (hu : un + 600 < cLine)
    (hret : ∀ t' tB' len' tl' ti' h' tk', 1 ≤ len' → len' ≤ 42000 → Fr h₀ L h' m → News h₀ L h' ((x, instObj 59 d) :: (d, sObj w k1 k2 k3 k4 k5 k6 f blk kb (part t salt 0 len') tB' len' tl' (i + n) ti' t tt) :: own) → Q (.bytes (part t salt i n) t') { s with heap := h', toks := tk' }) :
    wpAny (model PySem.Challenge.rw_ix0025_01.row.prog w) (ktrTop dp un gd cn cs L a ccd cl outer) (call (.ref 49) [.ref x, .int n tn]) Q E s := by
  w_top off; revert X; k_fill; intro X
  obtain ⟨hl1, hl2⟩ := hlen
  obtain ⟨hi1, hi2⟩ := hi
  obtain ⟨hn1, hn2⟩ := hn
  refine wpAny_call ?_
  k_dflt cell_enter
  k_steps
  rw [cut_part]
  · exact hret _ _ _ _ _ _ _ (by assumption) (by assumption) (by assumption) (by assumption)
  · assumption
  · assumption
  · omega
end

section
theorem upd_mem {d : Addr} {o o' : Obj} {l l' : List (Addr × Obj)} (U : Upd d o o' l l') : (d, o) ∈ l ∧ ∀ p ∈ l', p = (d, o') ∨ (p ∈ l ∧ p.1 ≠ d) := by
  obtain ⟨pre, post, rfl, rfl, h1, h2⟩ := U.split
  refine ⟨List.mem_append_right _ (.head _), fun p hp => ?_⟩
  rcases List.mem_append.mp hp with h | h
  · exact .inr ⟨List.mem_append_left _ h, h1 p h⟩
  · rcases List.mem_cons.mp h with rfl | h
    · exact .inl rfl
    · exact .inr ⟨List.mem_append_right _ (.tail _ h), h2 p h⟩
/-- the ledger without d -/
def offD (d : Addr) (news : List (Addr × Obj)) : List (Addr × Obj) := news.filter fun p => decide (p.1 ≠ d)
theorem mem_offD {d : Addr} {news : List (Addr × Obj)} {p : Addr × Obj} : p ∈ offD d news ↔ p ∈ news ∧ p.1 ≠ d := by unfold offD; simp
theorem off_offD (d : Addr) (news : List (Addr × Obj)) : OwnOff (offD d news) [d] := fun p hp b hb => by
  rw [List.mem_singleton.mp hb]
  exact (mem_offD.mp hp).2
theorem news_in {h₀ h : Heap} {L x d : Addr} {o o' : Obj} {news news' : List (Addr × Obj)} (N : News h₀ L h news) (hx : (x, instObj 59 d) ∈ news) (U : Upd d o o' news news') : News h₀ L h ((x, instObj 59 d) :: (d, o) :: offD d news) := fun p hp => by
  rcases List.mem_cons.mp hp with rfl | hp
  · exact N _ hx
  · rcases List.mem_cons.mp hp with rfl | hp
    · exact N _ (upd_mem U).1
    · exact N _ (mem_offD.mp hp).1
theorem news_out {h₀ h : Heap} {L x d : Addr} {o o' : Obj} {news news' : List (Addr × Obj)} (U : Upd d o o' news news') (N : News h₀ L h ((x, instObj 59 d) :: (d, o') :: offD d news)) : News h₀ L h news' := fun p hp => by
  rcases (upd_mem U).2 p hp with rfl | ⟨h1, h2⟩
  · exact N _ (.tail _ (.head _))
  · exact N _ (.tail _ (.tail _ (mem_offD.mpr ⟨h1, h2⟩)))

section
variable {w : World} {p : Program} {loose : List PySem.Str} {mean : ExcName → Option Value} {mg mb : PySem.Str → Option Value} {salt : Int} {f : Addr} {need news : List (Addr × Obj)}
theorem AlgIn.off {d : Addr} (G : AlgIn w p loose mean mg mb salt f need) (hn : ∀ q ∈ need, q ∈ news) (ho : ∀ q ∈ need, q.1 ≠ d) : AlgIn w p loose mean mg mb salt f (offD d news) :=
  G.mono fun q hq => mem_offD.mpr ⟨hn q hq, ho q hq⟩
/-- a lambda that was made: what it tells is shown over its own two objects -/
theorem alg_of_lam {name qual : PySem.Str} {params : Arguments} {body : Expr} {scope : Scope} {pm : Value} {c' : Addr} {ctv : Value} {oc : Obj} {vs : Array Value} {tq : Tok}
    (hd : oc.data = .fields vs) (hv : vs[1]? = some (.str qual tq))
    (tells : ∀ (b : Array UInt8) (tb : Tok) (count : Int) (tc : Tok) (news : List (Addr × Obj)), (f, kla_obj name qual params body scope [] pm c' ctv) ∈ news → (c', oc) ∈ news → oc.data = .fields vs → vs[1]? = some (.str qual tq) →
      Claim 3 300 w p loose mean mg mb f news (b.size ≤ 8 ∧ 0 ≤ count ∧ count ≤ 100000) [.bytes b tb, .int count tc] (fun t => .bytes (part b salt 0 count) t)) :
    AlgIn w p loose mean mg mb salt f [(f, kla_obj name qual params body scope [] pm c' ctv), (c', oc)] :=
  ⟨⟨_, _, _, _, .head _⟩, fun b tb count tc news hn => tells b tb count tc news (hn _ (.head _)) (hn _ (.tail _ (.head _))) hd hv⟩

variable {k1 k2 k3 k4 k5 k6 : Tok} {blk : Int} {kb : Tok} {B₁ : Array UInt8} {tB : Tok} {len : Int} {tl : Tok} {i : Int} {ti : Tok} {t₁ : Array UInt8} {tt : Tok} {x d : Addr} {b : Array UInt8} {tb : Tok} {n : Int} {tn : Tok}
    {dp un : Nat} {gd : Option (List Code)} {cn : PySem.Str} {cs : Scope} {a : Addr} {ccd : Value} {cl : List (PySem.Str × Addr)} {outer : List Env} {A₀ : Around} {base h₀ : Heap} {L : Addr} {m : PySem.Str → Option Value} {s : Shared} {Q E : Value → Shared → Prop}
theorem absorb0_use {news' : Tok → Tok → Tok → Tok → Tok → List (Addr × Obj)} (G : AlgIn w p loose mean mg mb salt f need) (hb : b.size ≤ 8) (hblk : 1 ≤ blk ∧ blk ≤ 40) (hxd : @LT.lt Nat _ d x) (hx : (x, instObj 59 d) ∈ news) (hn : ∀ q ∈ need, q ∈ news) (ho : ∀ q ∈ need, q.1 ≠ d)
    (hU : ∀ k5 k6 tB' tl' ti', Upd d (sObj0 w k1 k2 k3 k4 f blk kb B₁ tB len tl) (sObj w k1 k2 k3 k4 k5 k6 f blk kb (part b salt 0 (5 * blk)) tB' (5 * blk) tl' 0 ti' b tb) news (news' k5 k6 tB' tl' ti'))
    (B : Below A₀ base outer h₀) (F : Fr h₀ L s.heap m) (X : (hd.heap_39 w.params).In h₀) (N : News h₀ L s.heap news) (T : Top p loose mean mg mb h₀) (hk : cs.kind = .function) (hd : dp + 6 < recursionLimit) (hu : un + 600 < cLine)
    (hret : AlgIn w p loose mean mg mb salt f need → ∀ k5 k6 tB' tl' ti' h' tk', Fr h₀ L h' m → News h₀ L h' (news' k5 k6 tB' tl' ti') → Q .none { s with heap := h', toks := tk' }) :
    wpAny (model PySem.Challenge.rw_ix0025_01.row.prog w) (ktrTop dp un gd cn cs L a ccd cl outer) (call (.ref 35) [.ref x, .bytes b tb]) Q E s :=
  absorb0_step w p loose mean mg mb salt f (offD d news) (G.off hn ho) k1 k2 k3 k4 blk kb B₁ tB len tl x d b tb hb hblk (off_offD d news) hxd dp un gd cn cs a ccd cl outer A₀ base h₀ L m s Q E B F X (news_in N hx (hU 0 0 0 0 0)) T hk hd hu
    fun k5 k6 tB' tl' ti' h' tk' F' N' => hret G k5 k6 tB' tl' ti' h' tk' F' (news_out (hU k5 k6 tB' tl' ti') N')
theorem absorb_use {news' : Tok → Tok → Tok → List (Addr × Obj)} (G : AlgIn w p loose mean mg mb salt f need) (hb : b.size ≤ 8) (hblk : 1 ≤ blk ∧ blk ≤ 40) (hxd : @LT.lt Nat _ d x) (hx : (x, instObj 59 d) ∈ news) (hn : ∀ q ∈ need, q ∈ news) (ho : ∀ q ∈ need, q.1 ≠ d)
    (hU : ∀ tB' tl' ti', Upd d (sObj w k1 k2 k3 k4 k5 k6 f blk kb B₁ tB len tl i ti t₁ tt) (sObj w k1 k2 k3 k4 k5 k6 f blk kb (part b salt 0 (5 * blk)) tB' (5 * blk) tl' 0 ti' b tb) news (news' tB' tl' ti'))
    (B : Below A₀ base outer h₀) (F : Fr h₀ L s.heap m) (X : (hd.heap_39 w.params).In h₀) (N : News h₀ L s.heap news) (T : Top p loose mean mg mb h₀) (hk : cs.kind = .function) (hd : dp + 6 < recursionLimit) (hu : un + 600 < cLine)
    (hret : ∀ tB' tl' ti' h' tk', Fr h₀ L h' m → News h₀ L h' (news' tB' tl' ti') → Q .none { s with heap := h', toks := tk' }) :
    wpAny (model PySem.Challenge.rw_ix0025_01.row.prog w) (ktrTop dp un gd cn cs L a ccd cl outer) (call (.ref 35) [.ref x, .bytes b tb]) Q E s :=
  absorb_step w p loose mean mg mb salt f (offD d news) (G.off hn ho) k1 k2 k3 k4 k5 k6 blk kb B₁ tB len tl i ti t₁ tt x d b tb hb hblk (off_offD d news) hxd dp un gd cn cs a ccd cl outer A₀ base h₀ L m s Q E B F X (news_in N hx (hU 0 0 0)) T hk hd hu
    fun tB' tl' ti' h' tk' F' N' => hret tB' tl' ti' h' tk' F' (news_out (hU tB' tl' ti') N')
theorem call_use {news' : Tok → Tok → Tok → List (Addr × Obj)} (G : AlgIn w p loose mean mg mb salt f need) (hb : b.size ≤ 8) (hblk : 1 ≤ blk ∧ blk ≤ 40) (hxd : @LT.lt Nat _ d x) (hx : (x, instObj 59 d) ∈ news) (hn : ∀ q ∈ need, q ∈ news) (ho : ∀ q ∈ need, q.1 ≠ d)
    (hU : ∀ tB' tl' ti', Upd d (sObj w k1 k2 k3 k4 k5 k6 f blk kb B₁ tB len tl i ti t₁ tt) (sObj w k1 k2 k3 k4 k5 k6 f blk kb (part b salt 0 (5 * blk)) tB' (5 * blk) tl' 0 ti' b tb) news (news' tB' tl' ti'))
    (B : Below A₀ base outer h₀) (F : Fr h₀ L s.heap m) (X : (hd.heap_39 w.params).In h₀) (N : News h₀ L s.heap news) (T : Top p loose mean mg mb h₀) (hk : cs.kind = .function) (hd : dp + 7 < recursionLimit) (hu : un + 700 < cLine)
    (hret : ∀ tB' tl' ti' h' tk', Fr h₀ L h' m → News h₀ L h' (news' tB' tl' ti') → Q (.ref x) { s with heap := h', toks := tk' }) :
    wpAny (model PySem.Challenge.rw_ix0025_01.row.prog w) (ktrTop dp un gd cn cs L a ccd cl outer) (call (.ref x) [.bytes b tb]) Q E s :=
  call_step w p loose mean mg mb salt f (offD d news) (G.off hn ho) k1 k2 k3 k4 k5 k6 blk kb B₁ tB len tl i ti t₁ tt x d b tb hb hblk (off_offD d news) hxd dp un gd cn cs a ccd cl outer A₀ base h₀ L m s Q E B F X (news_in N hx (hU 0 0 0)) T hk hd hu
    fun tB' tl' ti' h' tk' F' N' => hret tB' tl' ti' h' tk' F' (news_out (hU tB' tl' ti') N')
theorem read_use {news' : Tok → Int → Tok → Tok → List (Addr × Obj)} (G : AlgIn w p loose mean mg mb salt f need) (ht : t₁.size ≤ 8) (hlen : 1 ≤ len ∧ len ≤ 42000) (hi : 0 ≤ i ∧ i ≤ 20000) (hnn : 0 ≤ n ∧ n ≤ 1000) (hB : B₁ = part t₁ salt 0 len) (hxd : @LT.lt Nat _ d x) (hx : (x, instObj 59 d) ∈ news) (hn : ∀ q ∈ need, q ∈ news) (ho : ∀ q ∈ need, q.1 ≠ d)
    (hU : ∀ tB' len' tl' ti', Upd d (sObj w k1 k2 k3 k4 k5 k6 f blk kb B₁ tB len tl i ti t₁ tt) (sObj w k1 k2 k3 k4 k5 k6 f blk kb (part t₁ salt 0 len') tB' len' tl' (i + n) ti' t₁ tt) news (news' tB' len' tl' ti'))
    (B : Below A₀ base outer h₀) (F : Fr h₀ L s.heap m) (X : (hd.heap_39 w.params).In h₀) (N : News h₀ L s.heap news) (T : Top p loose mean mg mb h₀) (hk : cs.kind = .function) (hd : dp + 6 < recursionLimit) (hu : un + 600 < cLine)
    (hret : ∀ t' tB' len' tl' ti' h' tk', 1 ≤ len' → len' ≤ 42000 → Fr h₀ L h' m → News h₀ L h' (news' tB' len' tl' ti') → Q (.bytes (part t₁ salt i n) t') { s with heap := h', toks := tk' }) :
    wpAny (model PySem.Challenge.rw_ix0025_01.row.prog w) (ktrTop dp un gd cn cs L a ccd cl outer) (call (.ref 49) [.ref x, .int n tn]) Q E s := by
  subst hB
  exact read_step w p loose mean mg mb salt f (offD d news) (G.off hn ho) k1 k2 k3 k4 k5 k6 blk kb tB len tl i ti t₁ tt x d n tn ht hlen hi hnn (off_offD d news) hxd dp un gd cn cs a ccd cl outer A₀ base h₀ L m s Q E B F X (news_in N hx (hU 0 0 0 0)) T hk hd hu
    fun t' tB' len' tl' ti' h' tk' h1 h2 F' N' => hret t' tB' len' tl' ti' h' tk' h1 h2 F' (news_out (hU tB' len' tl' ti') N')
end
end

section
/-- what a turn of the law's loop changes: the two places, the two texts, the two streams' own parts (tokens beside) -/
structure St where
  p0 : Int
  u0 : Tok
  p1 : Int
  u1 : Tok
  t0 : Array UInt8
  v0 : Tok
  t1 : Array UInt8
  v1 : Tok
  b0 : Tok
  l0 : Int
  m0 : Tok
  i0 : Tok
  j0 : Tok
  b1 : Tok
  l1 : Int
  m1 : Tok
  i1 : Tok
  j1 : Tok
/-- what holds behind k turns -/
structure Good (k : Nat) (c : St) : Prop where
  p0 : 0 ≤ c.p0 ∧ c.p0 ≤ 1000 * (k : Int)
  p1 : 0 ≤ c.p1 ∧ c.p1 ≤ 1000 * (k : Int)
  t0 : c.t0.size ≤ 8
  t1 : c.t1.size ≤ 8
  l0 : 1 ≤ c.l0 ∧ c.l0 ≤ 42000
  l1 : 1 ≤ c.l1 ∧ c.l1 ≤ 42000
/-- the ledger at the loop -/
abbrev lawLed (w : World) (D : Addr) (lst : Obj) (q1 : Addr × Obj) (pl : Addr) (np : Nat) (tx : Addr) (nt : Nat) (q2 q3 : Addr × Obj) (d1 : Addr) (a1 a2 a3 a4 a5 a6 : Tok) (f1 : Addr) (blk1 : Int) (kb1 : Tok) (q4 q5 q6 : Addr × Obj) (d0 : Addr) (e1 e2 e3 e4 e5 e6 : Tok) (f0 : Addr) (blk0 : Int) (kb0 : Tok) (rest : List (Addr × Obj)) (c : St) : List (Addr × Obj) :=
  (D, lst) :: q1 :: (pl, listOf [Value.int c.p0 c.u0, Value.int c.p1 c.u1].toArray np) :: (tx, listOf [Value.bytes c.t0 c.v0, Value.bytes c.t1 c.v1].toArray nt) :: q2 :: q3 ::
  (d1, sObj w a1 a2 a3 a4 a5 a6 f1 blk1 kb1 (part c.t1 1 0 c.l1) c.b1 c.l1 c.m1 c.p1 c.i1 c.t1 c.j1) :: q4 :: q5 :: q6 ::
  (d0, sObj w e1 e2 e3 e4 e5 e6 f0 blk0 kb0 (part c.t0 0 0 c.l0) c.b0 c.l0 c.m0 c.p0 c.i0 c.t0 c.j0) :: rest
def lawJ (led : St → List (Addr × Obj)) (stored : List PySem.Str) (x : PySem.Str) (m₀ : PySem.Str → Option Value) (k : Nat) (m : PySem.Str → Option Value) (nx : List (Addr × Obj)) : Prop :=
  ∃ c : St, nx = led c ∧ Good k c ∧ ∀ z, z ≠ x → stored.contains z = false → m z = m₀ z
theorem frame_eq {stored : List PySem.Str} {x : PySem.Str} {m₀ m : PySem.Str → Option Value} (h : ∀ z, z ≠ x → stored.contains z = false → m z = m₀ z) (v : PySem.Str → Option Value) :
    (fun y => if y = x then v y else m y) = fun y => if y = x then v y else if stored.contains y = true then m y else m₀ y := by
  funext y
  by_cases hy : y = x
  · rw [if_pos hy, if_pos hy]
  · rw [if_neg hy, if_neg hy]
    by_cases hs : stored.contains y = true
    · rw [if_pos hs]
    · rw [if_neg hs]
      exact h y hy (by simpa using hs)
section
variable {prog : Program} {w : World} {A : Around} {E : Value → Shared → Prop} {s : Shared} {env : Env} {h₀ : Heap} {x : PySem.Str} {body : List Stmt} {Q : Flow → Shared → Prop}
  {D : Addr} {vs : List Value} {ns : List Int} {nn : Nat} {q1 : Addr × Obj} {pl : Addr} {np : Nat} {tx : Addr} {nt : Nat} {q2 q3 : Addr × Obj} {d1 : Addr} {a1 a2 a3 a4 a5 a6 : Tok} {f1 : Addr} {blk1 : Int} {kb1 : Tok} {q4 q5 q6 : Addr × Obj} {d0 : Addr} {e1 e2 e3 e4 e5 e6 : Tok} {f0 : Addr} {blk0 : Int} {kb0 : Tok} {rest : List (Addr × Obj)}
  {m₀ : PySem.Str → Option Value}
theorem law_loop (stored : List PySem.Str) {p0 : Int} {u0 : Tok} {p1 : Int} {u1 : Tok} {t0 : Array UInt8} {v0 : Tok} {t1 : Array UInt8} {v1 : Tok} {b0 : Tok} {l0 : Int} {m0 i0 j0 b1 : Tok} {l1 : Int} {m1 i1 j1 : Tok}
    (hh : A.handled = none) (hi : IntsAre vs ns) (hlen : ns.length ≤ 16) (hpos : ∀ n ∈ ns, 0 ≤ n) (F : Fr h₀ env.locals s.heap m₀)
    (N : News h₀ env.locals s.heap (lawLed w D (listOf vs.toArray nn) q1 pl np tx nt q2 q3 d1 a1 a2 a3 a4 a5 a6 f1 blk1 kb1 q4 q5 q6 d0 e1 e2 e3 e4 e5 e6 f0 blk0 kb0 rest ⟨p0, u0, p1, u1, t0, v0, t1, v1, b0, l0, m0, i0, j0, b1, l1, m1, i1, j1⟩))
    (hg : Good 0 ⟨p0, u0, p1, u1, t0, v0, t1, v1, b0, l0, m0, i0, j0, b1, l1, m1, i1, j1⟩)
    (hb0 : 1 ≤ blk0 ∧ blk0 ≤ 40) (hb1 : 1 ≤ blk1 ∧ blk1 ≤ 40)
    (turn : ∀ (p0 : Int) (u0 : Tok) (p1 : Int) (u1 : Tok) (t0 : Array UInt8) (v0 : Tok) (t1 : Array UInt8) (v1 : Tok) (b0 : Tok) (l0 : Int) (m0 i0 j0 b1 : Tok) (l1 : Int) (m1 i1 j1 : Tok) (k : Nat) (n : Int) (t : Tok) (u : PySem.Str → Option Value) (h : Heap) (tk : Nat) (own : List (Addr × Obj)),
      0 ≤ n → k < 16 → 0 ≤ p0 → p0 ≤ 1000 * (k : Int) → 0 ≤ p1 → p1 ≤ 1000 * (k : Int) → t0.size ≤ 8 → t1.size ≤ 8 → 1 ≤ l0 → l0 ≤ 42000 → 1 ≤ l1 → l1 ≤ 42000 → 1 ≤ blk0 → blk0 ≤ 40 → 1 ≤ blk1 → blk1 ≤ 40 →
      OwnOff own ((lawLed w D (listOf vs.toArray nn) q1 pl np tx nt q2 q3 d1 a1 a2 a3 a4 a5 a6 f1 blk1 kb1 q4 q5 q6 d0 e1 e2 e3 e4 e5 e6 f0 blk0 kb0 rest ⟨p0, u0, p1, u1, t0, v0, t1, v1, b0, l0, m0, i0, j0, b1, l1, m1, i1, j1⟩).map (·.1)) →
      Fr h₀ env.locals h (fun y => if y = x then some (.int n t) else if stored.contains y = true then u y else m₀ y) →
      News h₀ env.locals h (lawLed w D (listOf vs.toArray nn) q1 pl np tx nt q2 q3 d1 a1 a2 a3 a4 a5 a6 f1 blk1 kb1 q4 q5 q6 d0 e1 e2 e3 e4 e5 e6 f0 blk0 kb0 rest ⟨p0, u0, p1, u1, t0, v0, t1, v1, b0, l0, m0, i0, j0, b1, l1, m1, i1, j1⟩ ++ own) →
      wpAny (model prog w) A (execs body env) (InvPostN h₀ env.locals (fun m' nx => (D, listOf vs.toArray nn) ∈ nx ∧ lawJ (lawLed w D (listOf vs.toArray nn) q1 pl np tx nt q2 q3 d1 a1 a2 a3 a4 a5 a6 f1 blk1 kb1 q4 q5 q6 d0 e1 e2 e3 e4 e5 e6 f0 blk0 kb0 rest) stored x m₀ (k + 1) m' nx) own
        ((lawLed w D (listOf vs.toArray nn) q1 pl np tx nt q2 q3 d1 a1 a2 a3 a4 a5 a6 f1 blk1 kb1 q4 q5 q6 d0 e1 e2 e3 e4 e5 e6 f0 blk0 kb0 rest ⟨p0, u0, p1, u1, t0, v0, t1, v1, b0, l0, m0, i0, j0, b1, l1, m1, i1, j1⟩).map (·.1)) { s with heap := h, toks := tk } Q) E { s with heap := h, toks := tk })
    (done : ∀ (p0 : Int) (u0 : Tok) (p1 : Int) (u1 : Tok) (t0 : Array UInt8) (v0 : Tok) (t1 : Array UInt8) (v1 : Tok) (b0 : Tok) (l0 : Int) (m0 i0 j0 b1 : Tok) (l1 : Int) (m1 i1 j1 : Tok) (u : PySem.Str → Option Value) (h : Heap) (tk : Nat),
      0 ≤ p0 → p0 ≤ 16000 → 0 ≤ p1 → p1 ≤ 16000 → t0.size ≤ 8 → t1.size ≤ 8 → 1 ≤ l0 → l0 ≤ 42000 → 1 ≤ l1 → l1 ≤ 42000 →
      Fr h₀ env.locals h (fun y => if y = x then u y else if stored.contains y = true then u y else m₀ y) →
      News h₀ env.locals h (lawLed w D (listOf vs.toArray nn) q1 pl np tx nt q2 q3 d1 a1 a2 a3 a4 a5 a6 f1 blk1 kb1 q4 q5 q6 d0 e1 e2 e3 e4 e5 e6 f0 blk0 kb0 rest ⟨p0, u0, p1, u1, t0, v0, t1, v1, b0, l0, m0, i0, j0, b1, l1, m1, i1, j1⟩) →
      Q .next { s with heap := h, toks := tk }) :
    wpAny (model prog w) A (pyIter (.ref D)) (fun it s₂ => LoopAtV prog w A h₀ env x body Q E it s₂) E s := by
  refine iter_invNL (lawJ (lawLed w D (listOf vs.toArray nn) q1 pl np tx nt q2 q3 d1 a1 a2 a3 a4 a5 a6 f1 blk1 kb1 q4 q5 q6 d0 e1 e2 e3 e4 e5 e6 f0 blk0 kb0 rest) stored x m₀) hh (.head _) hi F N ⟨_, rfl, hg, fun _ _ _ => rfl⟩ ?_ ?_
  · rintro k n t m' nx h tk own hn hadr hoff _ ⟨c, rfl, g, hm⟩ F₁ N₁
    obtain ⟨p0, u0, p1, u1, t0, v0, t1, v1, b0, l0, m0, i0, j0, b1, l1, m1, i1, j1⟩ := c
    have hk : k < ns.length := by
      rcases Nat.lt_or_ge k ns.length with h | h
      · exact h
      · rw [List.getElem?_eq_none h] at hn; cases hn
    rw [frame_eq hm (fun _ => some (.int n t))] at F₁
    exact turn p0 u0 p1 u1 t0 v0 t1 v1 b0 l0 m0 i0 j0 b1 l1 m1 i1 j1 k n t m' h tk own (hpos n (List.mem_of_getElem? hn)) (by omega) g.p0.1 g.p0.2 g.p1.1 g.p1.2 g.t0 g.t1 g.l0.1 g.l0.2 g.l1.1 g.l1.2 hb0.1 hb0.2 hb1.1 hb1.2 hoff F₁ N₁
  · rintro m' nx h tk _ ⟨c, rfl, g, hm⟩ F₁ N₁
    obtain ⟨p0, u0, p1, u1, t0, v0, t1, v1, b0, l0, m0, i0, j0, b1, l1, m1, i1, j1⟩ := c
    have e : m' = fun y => if y = x then m' y else if stored.contains y = true then m' y else m₀ y := by
      rw [← frame_eq hm m']
      funext y
      by_cases hy : y = x
      · rw [if_pos hy]
      · rw [if_neg hy]
    rw [e] at F₁
    have a0 := g.p0
    have a1 := g.p1
    exact done p0 u0 p1 u1 t0 v0 t1 v1 b0 l0 m0 i0 j0 b1 l1 m1 i1 j1 m' h tk a0.1 (by dsimp only at a0; omega) a1.1 (by dsimp only at a1; omega) g.t0 g.t1 g.l0.1 g.l0.2 g.l1.1 g.l1.2 F₁ N₁
theorem law_end {stored : List PySem.Str} {lst : Obj} {L : Addr} {k : Nat} {c : St} {own : List (Addr × Obj)} {h' : Heap} {tk : Nat} {m' : PySem.Str → Option Value} {p0 : Int} {u0 : Tok} {p1 : Int} {u1 : Tok} {t0 : Array UInt8} {v0 : Tok} {t1 : Array UInt8} {v1 : Tok} {b0 : Tok} {l0 : Int} {m0 i0 j0 b1 : Tok} {l1 : Int} {m1 i1 j1 : Tok}
    (F : Fr h₀ L h' m') (N : News h₀ L h' (lawLed w D lst q1 pl np tx nt q2 q3 d1 a1 a2 a3 a4 a5 a6 f1 blk1 kb1 q4 q5 q6 d0 e1 e2 e3 e4 e5 e6 f0 blk0 kb0 rest ⟨p0, u0, p1, u1, t0, v0, t1, v1, b0, l0, m0, i0, j0, b1, l1, m1, i1, j1⟩ ++ own))
    (g : Good (k + 1) ⟨p0, u0, p1, u1, t0, v0, t1, v1, b0, l0, m0, i0, j0, b1, l1, m1, i1, j1⟩) (hm : ∀ z, z ≠ x → stored.contains z = false → m' z = m₀ z) :
    InvEndN h₀ L (fun m' nx => (D, lst) ∈ nx ∧ lawJ (lawLed w D lst q1 pl np tx nt q2 q3 d1 a1 a2 a3 a4 a5 a6 f1 blk1 kb1 q4 q5 q6 d0 e1 e2 e3 e4 e5 e6 f0 blk0 kb0 rest) stored x m₀ (k + 1) m' nx) own
      ((lawLed w D lst q1 pl np tx nt q2 q3 d1 a1 a2 a3 a4 a5 a6 f1 blk1 kb1 q4 q5 q6 d0 e1 e2 e3 e4 e5 e6 f0 blk0 kb0 rest c).map (·.1)) s { s with heap := h', toks := tk } :=
  InvEndN.intro (nx := lawLed w D lst q1 pl np tx nt q2 q3 d1 a1 a2 a3 a4 a5 a6 f1 blk1 kb1 q4 q5 q6 d0 e1 e2 e3 e4 e5 e6 f0 blk0 kb0 rest ⟨p0, u0, p1, u1, t0, v0, t1, v1, b0, l0, m0, i0, j0, b1, l1, m1, i1, j1⟩) F N ⟨.head _, _, rfl, g, hm⟩ rfl (fun _ hp => List.mem_append_left _ hp) (fun _ hp => List.mem_append_right _ hp)
end
theorem item_lit {prog : Program} {w : World} {A : Around} {E : Value → Shared → Prop} {s : Shared} {h₀ : Heap} {L : Addr} {news : List (Addr × Obj)} {value slice : PySem.Expr} {D : Addr} {its : List Value} {nn : Nat} {k : Int} {u : Tok} {v : Value} {Q : Value → Shared → Prop}
    (N : News h₀ L s.heap news) (hm : (D, listOf its.toArray nn) ∈ news) (h0 : 0 ≤ k) (h1 : k < 2 ^ 63) (hx : its[k.toNat]? = some v) (h : Q v s)
    (hs : subscripted slice false (.ref D) (.int k u) = operate [.ref D, .int k u] (getItem (.ref D) (.int k u)) := by with_unfolding_all rfl) :
    wpAny (model prog w) A (subscriptTail value slice (.ref D) (.int k u)) Q E s :=
  have hl : s.heap.IsList D its.toArray := ⟨_, (N _ hm).1, rfl, nn, rfl⟩
  tail_any hl.typeIs slot_list_getitem.lookup (wpAny_getItem_list hl h0 h1 (by simpa using hx) h) hs
theorem off_cons {p : Addr × Obj} {own : List (Addr × Obj)} {adr : List Addr} (h1 : ∀ b ∈ adr, p.1 ≠ b) (h2 : OwnOff own adr) : OwnOff (p :: own) adr := fun q hq b hb => by
  rcases List.mem_cons.mp hq with rfl | hq
  · exact h1 b hb
  · exact h2 q hq b hb
theorem off_sub {own : List (Addr × Obj)} {adr adr' : List Addr} (h : OwnOff own adr) (hs : ∀ b ∈ adr', b ∈ adr) : OwnOff own adr' := fun q hq b hb => h q hq b (hs b hb)
theorem which_split {M : Model} {A : Around} {E : Value → Shared → Prop} {s : Shared} {env : Env} {nm : PySem.Str} {n : Int} {t : Tok} {Q : Unit → Shared → Prop}
    (h0 : n.fmod 2 = 0 → wpAny M A (storeName env nm (.int 0 t)) Q E s) (h1 : n.fmod 2 = 1 → wpAny M A (storeName env nm (.int 1 t)) Q E s) : wpAny M A (storeName env nm (.int (n.fmod 2) t)) Q E s := by
  have e0 := Int.fmod_nonneg_of_pos n (show (0 : Int) < 2 by decide)
  have e1 := Int.fmod_lt_of_pos n (show (0 : Int) < 2 by decide)
  rcases (show n.fmod 2 = 0 ∨ n.fmod 2 = 1 by omega) with h | h
  · rw [h]; exact h0 h
  · rw [h]; exact h1 h
theorem mod3 {prog : Program} {w : World} {A : Around} {E : Value → Shared → Prop} {s : Shared} {x : Int} {t u : Tok} {Q : Value → Shared → Prop} (h : 0 ≤ x.fmod 3 → x.fmod 3 < 3 → ∀ t' k, Q (.int (x.fmod 3) t') { s with toks := k }) : wpAny (model prog w) A (binaryOp .Mod (.int x t) (.int 3 u)) Q E s :=
  mod_int' (by decide) (h (Int.fmod_nonneg_of_pos x (by decide)) (Int.fmod_lt_of_pos x (by decide)) _ _)
theorem mod61 {prog : Program} {w : World} {A : Around} {E : Value → Shared → Prop} {s : Shared} {x : Int} {t u : Tok} {Q : Value → Shared → Prop} (h : 0 ≤ x.fmod 61 → x.fmod 61 < 61 → ∀ t' k, Q (.int (x.fmod 61) t') { s with toks := k }) : wpAny (model prog w) A (binaryOp .Mod (.int x t) (.int 61 u)) Q E s :=
  mod_int' (by decide) (h (Int.fmod_nonneg_of_pos x (by decide)) (Int.fmod_lt_of_pos x (by decide)) _ _)
theorem fdiv16 {n : Int} (h : 0 ≤ n) : 0 ≤ n.fdiv 16 := Int.fdiv_nonneg h (by decide)
theorem ne_same {prog : Program} {w : World} {A : Around} {E : Value → Shared → Prop} {s : Shared} {b : Array UInt8} {t u : Tok} {Q : Value → Shared → Prop} (h : Q (.bool false) s) : wpAny (model prog w) A (compareOp .NotEq (.bytes b t) (.bytes b u)) Q E s :=
  ne_bytes (by simpa using h)
theorem eq_same {prog : Program} {w : World} {A : Around} {E : Value → Shared → Prop} {s : Shared} {b : Array UInt8} {t u : Tok} {Q : Value → Shared → Prop} (h : Q (.bool true) s) : wpAny (model prog w) A (compareOp .Eq (.bytes b t) (.bytes b u)) Q E s :=
  eq_bytes (by simpa using h)
theorem loop_len (ns : List Int) : (List.map (fun k' : Int => if k' < 0 then -k' else k') (List.take (min 19 ns.length - 3) (List.drop 3 ns))).length ≤ 16 := by
  rw [List.length_map, List.length_take]; omega
theorem loop_pos (ns : List Int) : ∀ n ∈ List.map (fun k' : Int => if k' < 0 then -k' else k') ns, 0 ≤ n := fun n hn => by
  obtain ⟨k, _, rfl⟩ := List.mem_map.mp hn
  split <;> omega
theorem zero_in : (0 : Int) ≤ 0 ∧ (0 : Int) ≤ 1000 * ((0 : Nat) : Int) := by decide
theorem five {b : Int} (h : 1 ≤ b ∧ b ≤ 40) : 1 ≤ 5 * b ∧ 5 * b ≤ 42000 := by omega
theorem blk_in0 (a b : Int) : 1 ≤ [1 + a.fmod 40, 1 + b.fmod 40].getD (Int.toNat 0) 0 ∧ [1 + a.fmod 40, 1 + b.fmod 40].getD (Int.toNat 0) 0 ≤ 40 := by
  have h0 := Int.fmod_nonneg_of_pos a (show (0 : Int) < 40 by decide)
  have h1 := Int.fmod_lt_of_pos a (show (0 : Int) < 40 by decide)
  show 1 ≤ 1 + a.fmod 40 ∧ 1 + a.fmod 40 ≤ 40
  omega
theorem blk_in1 (a b : Int) : 1 ≤ [1 + a.fmod 40, 1 + b.fmod 40].getD (Int.toNat 1) 0 ∧ [1 + a.fmod 40, 1 + b.fmod 40].getD (Int.toNat 1) 0 ≤ 40 := by
  have h0 := Int.fmod_nonneg_of_pos b (show (0 : Int) < 40 by decide)
  have h1 := Int.fmod_lt_of_pos b (show (0 : Int) < 40 by decide)
  show 1 ≤ 1 + b.fmod 40 ∧ 1 + b.fmod 40 ≤ 40
  omega
end

section
/-- the law's own parts, taken out of the given program -/
def lastDef : List Stmt → List Stmt × Scope
  | [] => ([], default)
  | [.FunctionDef _ _ b _ _ _ sc _ _ _] => (b, sc)
  | _ :: r => lastDef r
def forBody : List Stmt → List Stmt
  | [] => []
  | .For _ _ b _ _ :: _ => b
  | _ :: r => forBody r
def retExpr : List Stmt → Expr
  | [] => default
  | .Return (some e) _ :: _ => e
  | _ :: r => retExpr r
def lawBody : List Stmt := (lastDef PySem.Challenge.pw_ix0025_01.main.body).1
def lawScope : Scope := (lastDef PySem.Challenge.pw_ix0025_01.main.body).2
/-- the ledger, every object that a turn meets written out -/
abbrev turnLed (w : World) (D : Addr) (lst : Obj) (q1 : Addr × Obj) (pl : Addr) (np : Nat) (tx : Addr) (nt : Nat) (sl : Addr) (ns : Nat) (x1 d1 : Addr) (a1 a2 a3 a4 a5 a6 : Tok) (f1 : Addr) (kb1 : Tok) (fo1 : Obj) (c1 : Addr) (co1 : Obj) (x0 d0 : Addr) (e1 e2 e3 e4 e5 e6 : Tok) (f0 : Addr) (kb0 : Tok) (fo0 : Obj) (c0 : Addr) (co0 : Obj) (bl : Addr) (z0 : Int) (y0 : Tok) (z1 : Int) (y1 : Tok) (nb : Nat) (own : List (Addr × Obj)) (c : St) : List (Addr × Obj) :=
  (D, lst) :: q1 :: (pl, listOf [Value.int c.p0 c.u0, Value.int c.p1 c.u1].toArray np) :: (tx, listOf [Value.bytes c.t0 c.v0, Value.bytes c.t1 c.v1].toArray nt) :: (sl, listOf [Value.ref x0, Value.ref x1].toArray ns) :: (x1, instObj 59 d1) ::
  (d1, sObj w a1 a2 a3 a4 a5 a6 f1 z1 kb1 (part c.t1 1 0 c.l1) c.b1 c.l1 c.m1 c.p1 c.i1 c.t1 c.j1) :: (f1, fo1) :: (c1, co1) :: (x0, instObj 59 d0) ::
  (d0, sObj w e1 e2 e3 e4 e5 e6 f0 z0 kb0 (part c.t0 0 0 c.l0) c.b0 c.l0 c.m0 c.p0 c.i0 c.t0 c.j0) :: (f0, fo0) :: (c0, co0) :: (bl, listOf [Value.int z0 y0, Value.int z1 y1].toArray nb) :: own
abbrev lawNames (pl tx sl x1 x0 bl : Addr) (m : PySem.Str → Option Value) : PySem.Str → Option Value := fun y =>
  if y = PySem.Str.ofString "places" then some (.ref pl) else if y = PySem.Str.ofString "texts" then some (.ref tx) else if y = PySem.Str.ofString "streams" then some (.ref sl) else if y = PySem.Str.ofString "there" then some (.ref x1) else if y = PySem.Str.ofString "here" then some (.ref x0) else if y = PySem.Str.ofString "blocks" then some (.ref bl) else m y
abbrev lawStored : List PySem.Str := [PySem.Str.ofString "which", PySem.Str.ofString "kind", PySem.Str.ofString "rest", PySem.Str.ofString "stream", PySem.Str.ofString "count"]

local macro_rules | `(tactic| walk_at "callWith ref") => `(tactic| (k_here; k_dflt (refine' callWith_K ?k1 ?k2 ?_; (case k1 => k_asm); (case k2 => k_is); k_whole)))
local macro_rules | `(tactic| walk_at "call ref") => `(tactic| (k_here; (with_reducible show wpAny _ _ (call (Value.ref 84) [Value.int _ _]) _ _ _); k_dflt (refine' text_claim _ _ _ _ _ _ _ _ _ _ _ _ _ _ _ _ _ _ _ _ _ _ _ _ _ _ ?k1 ?k2 ?k3 ?k4 ?k5 ?kK ?kp ?kd ?ku ?_; (case k1 => k_asm); (case k2 => k_asm); (case k3 => k_asm); (case k4 => k_asm); (case k5 => k_asm); (case kK => first | exact rfl | with_reducible assumption); (case kp => first | with_reducible assumption | omega | exact fdiv16 (by with_reducible assumption) | ((repeat' split) <;> omega)); (case kd => ktr_room); (case ku => ktr_units); intro t9 h9 tk9 F9 N9; (try dsimp only); (try k_sweep); (try k_fold))))
local macro_rules | `(tactic| walk_at "call ref") => `(tactic| (k_here; (with_reducible show wpAny _ _ (call (Value.ref 77) [Value.bytes _ _, Value.int _ _, Value.int _ _, Value.int _ _]) _ _ _); k_dflt (refine' part_claim _ _ _ _ _ _ _ _ _ _ _ _ _ _ _ _ _ _ _ _ _ _ _ _ _ _ _ _ _ _ _ _ ?k1 ?k2 ?k3 ?k4 ?k5 ?kK ?kp ?kd ?ku ?_; (case k1 => k_asm); (case k2 => k_asm); (case k3 => k_asm); (case k4 => k_asm); (case k5 => k_asm); (case kK => first | exact rfl | with_reducible assumption); (case kp => exact ⟨by first | exact txt_size _ | with_reducible assumption, by omega, by omega, by omega, by omega, by omega, by omega⟩); (case kd => ktr_room); (case ku => ktr_units); intro t9 h9 tk9 F9 N9; (try dsimp only); (try k_sweep); (try k_fold))))
local macro_rules | `(tactic| walk_at "call ref") => `(tactic| (k_here; (with_reducible show wpAny _ _ (call (Value.ref 35) [Value.ref _, Value.bytes _ _]) _ _ _); k_dflt (refine' absorb_use ?hG ?hb ?hblk ?hxd ?hx ?hn ?ho ?hU ?k1 ?k2 ?k3 ?k4 ?k5 ?kK ?kd ?ku ?_; (case k1 => k_asm); (case k2 => k_asm); (case k3 => k_asm); (case k4 => k_asm); (case k5 => k_asm); (case kK => first | exact rfl | with_reducible assumption); (case hx => k_mem); (case hU => (intro _ _ _; k_upd)); (case hG => assumption); (case hb => first | exact txt_size _ | with_reducible assumption); (case hblk => exact ⟨by with_reducible assumption, by with_reducible assumption⟩); (case hn => k_allIn); (case hxd => first | with_reducible assumption | omega); (case ho => k_all); (case kd => ktr_room); (case ku => ktr_units); intro tB9 tl9 ti9 h9 tk9 F9 N9; (try dsimp only at N9); (try k_sweep); (try k_fold))))
local macro_rules | `(tactic| walk_at "call ref") => `(tactic| (k_here; (with_reducible show wpAny _ _ (call (Value.ref _) [Value.bytes _ _]) _ _ _); k_dflt (refine' call_use ?hG ?hb ?hblk ?hxd ?hx ?hn ?ho ?hU ?k1 ?k2 ?k3 ?k4 ?k5 ?kK ?kd ?ku ?_; (case k1 => k_asm); (case k2 => k_asm); (case k3 => k_asm); (case k4 => k_asm); (case k5 => k_asm); (case kK => first | exact rfl | with_reducible assumption); (case hx => k_mem); (case hU => (intro _ _ _; k_upd)); (case hG => assumption); (case hb => first | exact txt_size _ | with_reducible assumption); (case hblk => exact ⟨by with_reducible assumption, by with_reducible assumption⟩); (case hn => k_allIn); (case hxd => first | with_reducible assumption | omega); (case ho => k_all); (case kd => ktr_room); (case ku => ktr_units); intro tB9 tl9 ti9 h9 tk9 F9 N9; (try dsimp only at N9); (try k_sweep); (try k_fold))))
local macro_rules | `(tactic| walk_at "call ref") => `(tactic| (k_here; (with_reducible show wpAny _ _ (call (Value.ref 49) [Value.ref _, Value.int _ _]) _ _ _); k_dflt (refine' read_use ?hG ?ht ?hlen ?hi ?hnn ?hB ?hxd ?hx ?hn ?ho ?hU ?k1 ?k2 ?k3 ?k4 ?k5 ?kK ?kd ?ku ?_; (case k1 => k_asm); (case k2 => k_asm); (case k3 => k_asm); (case k4 => k_asm); (case k5 => k_asm); (case kK => first | exact rfl | with_reducible assumption); (case hx => k_mem); (case hU => (intro _ _ _ _; k_upd)); (case hB => exact rfl); (case hG => assumption); (case ht => with_reducible assumption); (case hlen => exact ⟨by with_reducible assumption, by with_reducible assumption⟩); (case hi => exact ⟨by omega, by omega⟩); (case hnn => exact ⟨by omega, by omega⟩); (case hn => k_allIn); (case hxd => first | with_reducible assumption | omega); (case ho => k_all); (case kd => ktr_room); (case ku => ktr_units); intro t9 tB9 len9 tl9 ti9 h9 tk9 g1 g2 F9 N9; (try dsimp only at N9); (try k_sweep); (try k_fold))))
local macro_rules | `(tactic| walk_at "compareOp NotEq bytes bytes") => `(tactic| (k_here; (with_reducible refine ne_same ?_)))
local macro_rules | `(tactic| walk_at "compareOp Eq bytes bytes") => `(tactic| (k_here; (with_reducible refine eq_same ?_)))
local macro_rules | `(tactic| walk_at "storeName") => `(tactic| (k_here; (with_reducible refine which_split ?_ ?_) <;> intro hW))
local macro_rules | `(tactic| walk_at "subscriptTail Name Name ref int") => `(tactic| (k_here; (with_reducible show wpAny _ _ (subscriptTail _ _ (Value.ref _) (Value.int _ _)) _ _ _); k_dflt (refine' item_lit ?iN ?iM ?i0 ?i1 ?iX ?_; (case iN => k_asm); (case iM => k_mem); (case i0 => decide); (case i1 => decide); (case iX => rfl))))
local macro_rules | `(tactic| walk_at "subscriptTail Name Constant ref int") => `(tactic| (k_here; (with_reducible show wpAny _ _ (subscriptTail _ _ (Value.ref _) (Value.int _ _)) _ _ _); k_dflt (refine' item_lit ?iN ?iM ?i0 ?i1 ?iX ?_; (case iN => k_asm); (case iM => k_mem); (case i0 => decide); (case i1 => decide); (case iX => rfl))))
local macro_rules | `(tactic| walk_at "binaryOp Mod int int") => `(tactic| (k_here; (first | (with_reducible refine mod3 ?_) | (with_reducible refine mod61 ?_)); intro hm1 hm2 _ _))
theorem law_turn {w : World} {p : Program} {loose : List PySem.Str} {mean : ExcName → Option Value} {mg mb : PySem.Str → Option Value} {bd : List Stmt} {sc : Scope} (hbd : bd = forBody lawBody) (hsc : sc = lawScope)
    {D : Addr} {lst : Obj} {q1 : Addr × Obj} {pl : Addr} {np : Nat} {tx : Addr} {nt : Nat} {sl : Addr} {ns : Nat} {x1 d1 : Addr} {a1 a2 a3 a4 a5 a6 : Tok} {f1 : Addr} {kb1 : Tok} {fo1 : Obj} {c1 : Addr} {co1 : Obj} {x0 d0 : Addr} {e1 e2 e3 e4 e5 e6 : Tok} {f0 : Addr} {kb0 : Tok} {fo0 : Obj} {c0 : Addr} {co0 : Obj} {bl : Addr} {z0 : Int} {y0 : Tok} {z1 : Int} {y1 : Tok} {nb : Nat} {own : List (Addr × Obj)}
    (G0 : AlgIn w p loose mean mg mb 0 f0 [(f0, fo0), (c0, co0)]) (G1 : AlgIn w p loose mean mg mb 1 f1 [(f1, fo1), (c1, co1)])
    (hord : @LT.lt Nat _ bl c0 ∧ @LT.lt Nat _ c0 f0 ∧ @LT.lt Nat _ f0 d0 ∧ @LT.lt Nat _ d0 x0 ∧ @LT.lt Nat _ x0 c1 ∧ @LT.lt Nat _ c1 f1 ∧ @LT.lt Nat _ f1 d1 ∧ @LT.lt Nat _ d1 x1 ∧ @LT.lt Nat _ x1 sl ∧ @LT.lt Nat _ sl tx ∧ @LT.lt Nat _ tx pl ∧ @LT.lt Nat _ pl q1.1 ∧ @Ne Nat D pl ∧ @Ne Nat D tx ∧ @Ne Nat D d1 ∧ @Ne Nat D d0)
    (hoff : OwnOff own [pl, tx, d1, d0]) (hz0 : 1 ≤ z0 ∧ z0 ≤ 40) (hz1 : 1 ≤ z1 ∧ z1 ≤ 40)
    {c : St} {k : Nat} {n : Int} {t : Tok} (hg : Good k c) (hk : k < 16) (hn : 0 ≤ n)
    {L a : Addr} {m u : PySem.Str → Option Value} {base h₀ : Heap} {s : Shared} {Q : Flow → Shared → Prop} {E : Value → Shared → Prop}
    (B : Below callerA base [] h₀) (F : Fr h₀ L s.heap (fun y => if y = PySem.Str.ofString "number" then some (.int n t) else if lawStored.contains y = true then u y else lawNames pl tx sl x1 x0 bl m y)) (X : (hd.heap_39 w.params).In h₀)
    (N : News h₀ L s.heap (turnLed w D lst q1 pl np tx nt sl ns x1 d1 a1 a2 a3 a4 a5 a6 f1 kb1 fo1 c1 co1 x0 d0 e1 e2 e3 e4 e5 e6 f0 kb0 fo0 c0 co0 bl z0 y0 z1 y1 nb own c)) (T : Top p loose mean mg mb h₀)
    (hend : ∀ (c' : St) (h' : Heap) (tk' : Nat) (m' : PySem.Str → Option Value), Good (k + 1) c' → (∀ z, z ≠ PySem.Str.ofString "number" → lawStored.contains z = false → m' z = lawNames pl tx sl x1 x0 bl m z) → Fr h₀ L h' m' →
      News h₀ L h' (turnLed w D lst q1 pl np tx nt sl ns x1 d1 a1 a2 a3 a4 a5 a6 f1 kb1 fo1 c1 co1 x0 d0 e1 e2 e3 e4 e5 e6 f0 kb0 fo0 c0 co0 bl z0 y0 z1 y1 nb own c') → Q .next { s with heap := h', toks := tk' }) :
    wpAny (model PySem.Challenge.rw_ix0025_01.row.prog w) (callerA.deeper (envOfC (PySem.Str.ofString "law") sc L a (.ref 88))) (execs bd (envOfC (PySem.Str.ofString "law") sc L a (.ref 88))) Q E s := by
  conv at hbd => rhs; whnf
  conv at hsc => rhs; whnf
  subst hbd hsc
  w_top off; revert X; k_fill; intro X
  obtain ⟨p0, u0, p1, u1, t0, v0, t1, v1, b0, l0, m0, i0, j0, b1, l1, m1, i1, j1⟩ := c
  obtain ⟨⟨g1, g2⟩, ⟨g3, g4⟩, g5, g6, ⟨g7, g8⟩, ⟨g9, g10⟩⟩ := hg
  obtain ⟨hz01, hz02⟩ := hz0
  obtain ⟨hz11, hz12⟩ := hz1
  obtain ⟨o1, o2, o3, o4, o5, o6, o7, o8, o9, o10, o11, o12, o13, o14, o15, o16⟩ := hord
  obtain ⟨D1, ob1⟩ := q1
  dsimp only at g1 g2 g3 g4 g5 g6 g7 g8 g9 g10 o12
  simp only [turnLed] at N
  k_steps
  all_goals (
    (rename News _ _ _ _ => lN)
    (refine' hend ⟨_, _, _, _, _, _, _, _, _, _, _, _, _, _, _, _, _, _⟩ _ _ _ ?lwG ?lwM ?lwF lN)
    (case lwF => k_asm)
    (case lwM => (intro z z1 z2; (have z3 := z2); (simp only [lawStored, List.contains_cons, List.contains_nil, Bool.or_false, Bool.or_eq_false_iff, beq_eq_false_iff_ne, ne_eq] at z3); (simp [z1, z2, z3])))
    (case lwG => (refine ⟨⟨?_, ?_⟩, ⟨?_, ?_⟩, ?_, ?_, ⟨?_, ?_⟩, ⟨?_, ?_⟩⟩ <;> (first | exact txt_size _ | with_reducible assumption | (dsimp only; omega)))))

theorem law_last {w : World} {p : Program} {loose : List PySem.Str} {mean : ExcName → Option Value} {mg mb : PySem.Str → Option Value} {ex : Expr} {sc : Scope} (hbd : ex = retExpr lawBody) (hsc : sc = lawScope)
    {D : Addr} {lst : Obj} {q1 : Addr × Obj} {pl : Addr} {np : Nat} {tx : Addr} {nt : Nat} {sl : Addr} {ns : Nat} {x1 d1 : Addr} {a1 a2 a3 a4 a5 a6 : Tok} {f1 : Addr} {kb1 : Tok} {fo1 : Obj} {c1 : Addr} {co1 : Obj} {x0 d0 : Addr} {e1 e2 e3 e4 e5 e6 : Tok} {f0 : Addr} {kb0 : Tok} {fo0 : Obj} {c0 : Addr} {co0 : Obj} {bl : Addr} {z0 : Int} {y0 : Tok} {z1 : Int} {y1 : Tok} {nb : Nat} {own : List (Addr × Obj)}
    (G0 : AlgIn w p loose mean mg mb 0 f0 [(f0, fo0), (c0, co0)]) (G1 : AlgIn w p loose mean mg mb 1 f1 [(f1, fo1), (c1, co1)])
    (hord : @LT.lt Nat _ bl c0 ∧ @LT.lt Nat _ c0 f0 ∧ @LT.lt Nat _ f0 d0 ∧ @LT.lt Nat _ d0 x0 ∧ @LT.lt Nat _ x0 c1 ∧ @LT.lt Nat _ c1 f1 ∧ @LT.lt Nat _ f1 d1 ∧ @LT.lt Nat _ d1 x1 ∧ @LT.lt Nat _ x1 sl ∧ @LT.lt Nat _ sl tx ∧ @LT.lt Nat _ tx pl ∧ @LT.lt Nat _ pl q1.1 ∧ @Ne Nat D pl ∧ @Ne Nat D tx ∧ @Ne Nat D d1 ∧ @Ne Nat D d0)
    (hoff : OwnOff own [pl, tx, d1, d0]) (hz0 : 1 ≤ z0 ∧ z0 ≤ 40) (hz1 : 1 ≤ z1 ∧ z1 ≤ 40)
    {c : St} (hp0 : 0 ≤ c.p0 ∧ c.p0 ≤ 16000) (hp1 : 0 ≤ c.p1 ∧ c.p1 ≤ 16000) (ht0 : c.t0.size ≤ 8) (ht1 : c.t1.size ≤ 8) (hl0 : 1 ≤ c.l0 ∧ c.l0 ≤ 42000) (hl1 : 1 ≤ c.l1 ∧ c.l1 ≤ 42000)
    {L a : Addr} {m u : PySem.Str → Option Value} {base h₀ : Heap} {s : Shared} {Q : Value → Shared → Prop} {E : Value → Shared → Prop}
    (B : Below callerA base [] h₀) (F : Fr h₀ L s.heap (fun y => if y = PySem.Str.ofString "number" then u y else if lawStored.contains y = true then u y else lawNames pl tx sl x1 x0 bl m y)) (X : (hd.heap_39 w.params).In h₀)
    (N : News h₀ L s.heap (turnLed w D lst q1 pl np tx nt sl ns x1 d1 a1 a2 a3 a4 a5 a6 f1 kb1 fo1 c1 co1 x0 d0 e1 e2 e3 e4 e5 e6 f0 kb0 fo0 c0 co0 bl z0 y0 z1 y1 nb own c)) (T : Top p loose mean mg mb h₀)
    (hend : ∀ (h' : Heap) (tk' : Nat), Fr h₀ L h' (fun y => if y = PySem.Str.ofString "number" then u y else if lawStored.contains y = true then u y else lawNames pl tx sl x1 x0 bl m y) →
      News h₀ L h' own → Q (.bool true) { s with heap := h', toks := tk' }) :
    wpAny (model PySem.Challenge.rw_ix0025_01.row.prog w) (callerA.deeper (envOfC (PySem.Str.ofString "law") sc L a (.ref 88))) (eval ex (envOfC (PySem.Str.ofString "law") sc L a (.ref 88))) Q E s := by
  conv at hbd => rhs; whnf
  conv at hsc => rhs; whnf
  subst hbd hsc
  w_top off; revert X; k_fill; intro X
  obtain ⟨p0, u0, p1, u1, t0, v0, t1, v1, b0, l0, m0, i0, j0, b1, l1, m1, i1, j1⟩ := c
  obtain ⟨g1, g2⟩ := hp0
  obtain ⟨g3, g4⟩ := hp1
  obtain ⟨g7, g8⟩ := hl0
  obtain ⟨g9, g10⟩ := hl1
  obtain ⟨hz01, hz02⟩ := hz0
  obtain ⟨hz11, hz12⟩ := hz1
  obtain ⟨o1, o2, o3, o4, o5, o6, o7, o8, o9, o10, o11, o12, o13, o14, o15, o16⟩ := hord
  obtain ⟨D1, ob1⟩ := q1
  dsimp only at g1 g2 g3 g4 ht0 ht1 g7 g8 g9 g10 o12
  simp only [turnLed] at N
  k_steps
  all_goals (
    (rename News _ _ _ _ => lN)
    (exact hend _ _ (by k_asm) (fun q hq => lN q (by repeat' first | exact hq | refine List.Mem.tail _ ?_))))
end

section
local macro_rules | `(tactic| walk_at "callWith ref") => `(tactic| (k_here; k_dflt (refine' callWith_K ?k1 ?k2 ?_; (case k1 => k_asm); (case k2 => k_is); k_whole)))
local macro_rules | `(tactic| walk_at "call ref") => `(tactic| (k_here; (with_reducible show wpAny _ _ (call (Value.ref 84) [Value.int _ _]) _ _ _); k_dflt (refine' text_claim _ _ _ _ _ _ _ _ _ _ _ _ _ _ _ _ _ _ _ _ _ _ _ _ _ _ ?k1 ?k2 ?k3 ?k4 ?k5 ?kK ?kp ?kd ?ku ?_; (case k1 => k_asm); (case k2 => k_asm); (case k3 => k_asm); (case k4 => k_asm); (case k5 => k_asm); (case kK => first | exact rfl | with_reducible assumption); (case kp => first | with_reducible assumption | omega | exact fdiv16 (by with_reducible assumption) | ((repeat' split) <;> omega)); (case kd => ktr_room); (case ku => ktr_units); intro t9 h9 tk9 F9 N9; (try dsimp only); (try k_sweep); (try k_fold))))
local macro_rules | `(tactic| walk_at "call ref") => `(tactic| (k_here; (with_reducible show wpAny _ _ (call (Value.ref 77) [Value.bytes _ _, Value.int _ _, Value.int _ _, Value.int _ _]) _ _ _); k_dflt (refine' part_claim _ _ _ _ _ _ _ _ _ _ _ _ _ _ _ _ _ _ _ _ _ _ _ _ _ _ _ _ _ _ _ _ ?k1 ?k2 ?k3 ?k4 ?k5 ?kK ?kp ?kd ?ku ?_; (case k1 => k_asm); (case k2 => k_asm); (case k3 => k_asm); (case k4 => k_asm); (case k5 => k_asm); (case kK => first | exact rfl | with_reducible assumption); (case kp => exact ⟨by first | exact txt_size _ | with_reducible assumption, by omega, by omega, by omega, by omega, by omega, by omega⟩); (case kd => ktr_room); (case ku => ktr_units); intro t9 h9 tk9 F9 N9; (try dsimp only); (try k_sweep); (try k_fold))))
local macro_rules | `(tactic| walk_at "call ref") => `(tactic| (k_here; (with_reducible show wpAny _ _ (call (Value.ref 35) [Value.ref _, Value.bytes _ _]) _ _ _); k_dflt (refine' absorb0_use (alg_of_lam ?d1 ?d2 ?te) ?hb ?hblk ?hxd ?hx ?hn ?ho ?hU ?k1 ?k2 ?k3 ?k4 ?k5 ?kK ?kd ?ku ?_; (case k1 => k_asm); (case k2 => k_asm); (case k3 => k_asm); (case k4 => k_asm); (case k5 => k_asm); (case kK => first | exact rfl | with_reducible assumption); (case hx => k_mem); (case hU => (intro _ _ _ _ _; k_upd)); (case hn => k_allIn); (case d1 => first | with_reducible assumption | assumption); (case d2 => first | with_reducible assumption | assumption); (case hb => first | exact txt_size _ | with_reducible assumption); (case hblk => first | with_reducible exact blk_in0 _ _ | with_reducible exact blk_in1 _ _); (case hxd => first | with_reducible assumption | omega); (case ho => k_all); (case kd => ktr_room); (case ku => ktr_units);(case te => (intro b tb count tc news m1 m2 hd9 hv9; unfold Claim; intro dp un gd cn cs a ccd cl outer A₀ base h₀ L m s Q E B F X N T hk hpre hdp hun hret; (obtain ⟨hp1, hp2, hp3⟩ := hpre); (refine wpAny_call ?_); (refine' kla_code ?k1 ?k2 ?k3 ?k4 ?k5 ?kA ?kF ?kK ?k6 ?k7 ?k8 ?k9 ?kB ?_ ?c2 ?c3 ?c4 ?c5; (case kA => exact rfl); (case kF => exact rfl); (case kK => assumption); (case k1 => exact B); (case k2 => exact F); (case k3 => exact X); (case k4 => exact N); (case k5 => exact T); (case k6 => exact m1); (case k7 => exact codeRec_news N m2 hd9 hv9); (case k8 => ktr_room); (case k9 => exact rfl); (case c5 => decide); (case kB => exact locs rfl); (case c2 => exact rfl); (case c3 => exact rfl); (case c4 => exact rfl)); intro g' L' h' FG' F' N' B' X' T'; (try dsimp only); (try k_lift B'); (try k_fold); k_steps; exact hret _ _ _ (by assumption) (by assumption)));intro gA k5 k6 tB9 tl9 ti9 h9 tk9 F9 N9; (try dsimp only at N9); (try k_sweep); (try k_fold))))
local macro_rules | `(tactic| walk_at "pyIter ref") => `(tactic| ((with_reducible show wpAny _ _ (pyIter (Value.ref _)) (fun it s₂ => LoopAtV _ _ _ _ _ _ _ _ _ it s₂) _ _); k_here; (with_reducible rename News _ _ _ _ => lN'); k_dflt (refine' law_loop lawStored ?hh ?hi ?hlen ?hpos ?F lN' ?hg ?b0 ?b1 ?lTurn ?_; (case hh => exact rfl); (case F => k_asm); (case hi => assumption); (case hlen => exact loop_len _); (case hpos => exact loop_pos _); (case hg => exact ⟨zero_in, zero_in, txt_size _, txt_size _, five (blk_in0 _ _), five (blk_in1 _ _)⟩); (case b0 => exact blk_in0 _ _); (case b1 => exact blk_in1 _ _); (case lTurn => (intro p0 u0 p1 u1 t0 v0 t1 v1 b0 l0 m0 i0 j0 b1 l1 m1 i1 j1 k n t u h tk own y1 y2 y3 y4 y5 y6 y7 y8 y9 y10 y11 y12 y13 y14 y15 y16 hoff F9 N9; (refine' law_turn rfl rfl ?tG0 ?tG1 ?tO ?tOff ⟨y13, y14⟩ ⟨y15, y16⟩ (c := ⟨p0, u0, p1, u1, t0, v0, t1, v1, b0, l0, m0, i0, j0, b1, l1, m1, i1, j1⟩) ⟨⟨y3, y4⟩, ⟨y5, y6⟩, y7, y8, ⟨y9, y10⟩, ⟨y11, y12⟩⟩ y2 y1 ?tB F9 ?tX N9 ?tT ?tE); (case tB => k_asm); (case tX => k_asm); (case tT => k_asm); (case tG0 => assumption); (case tG1 => assumption); (case tO => (refine ⟨?_, ?_, ?_, ?_, ?_, ?_, ?_, ?_, ?_, ?_, ?_, ?_, ?_, ?_, ?_, ?_⟩ <;> (try dsimp only) <;> omega)); (case tOff => (refine off_cons ?_ (off_cons ?_ (off_cons ?_ (off_sub hoff ?_))) <;> (intro b hb; (simp only [List.mem_cons, List.not_mem_nil, or_false] at hb); (rcases hb with hb | hb | hb | hb) <;> (rw [hb]; first | k_ne | simp only [lawLed, List.map_cons, List.map_nil, List.mem_cons, true_or, or_true])))); (case tE => (intro c' h' tk' m' g' hm' F' N'; (obtain ⟨p0, u0, p1, u1, t0, v0, t1, v1, b0, l0, m0, i0, j0, b1, l1, m1, i1, j1⟩ := c'); exact law_end F' N' g' hm')))); intro p0 u0 p1 u1 t0 v0 t1 v1 b0 l0 m0 i0 j0 b1 l1 m1 i1 j1 u h tk y3 y4 y5 y6 y7 y8 y9 y10 y11 y12 F9 N9; (have gG := (Good.mk ⟨y3, y4⟩ ⟨y5, y6⟩ y7 y8 ⟨y9, y10⟩ ⟨y11, y12⟩ : Good 16 ⟨p0, u0, p1, u1, t0, v0, t1, v1, b0, l0, m0, i0, j0, b1, l1, m1, i1, j1⟩)); (try k_sweep); (try k_fold))))
local macro_rules | `(tactic| walk_at "eval BoolOp") => `(tactic| (k_here; (with_reducible rename Good _ _ => gG); (with_reducible rename Fr _ _ _ _ => lF'); (with_reducible rename News _ _ _ _ => lN'); k_dflt (refine' law_last rfl rfl ?tG0 ?tG1 ?tO ?tOff (blk_in0 _ _) (blk_in1 _ _) ?tp0 ?tp1 ?tt0 ?tt1 ?tl0 ?tl1 ?tB lF' ?tX lN' ?tT ?_; (case tB => k_asm); (case tX => k_asm); (case tT => k_asm); (case tG0 => assumption); (case tG1 => assumption); (case tp0 => exact gG.p0); (case tp1 => exact gG.p1); (case tt0 => exact gG.t0); (case tt1 => exact gG.t1); (case tl0 => exact gG.l0); (case tl1 => exact gG.l1); (case tO => (refine ⟨?_, ?_, ?_, ?_, ?_, ?_, ?_, ?_, ?_, ?_, ?_, ?_, ?_, ?_, ?_, ?_⟩ <;> (try dsimp only) <;> omega)); (case tOff => (refine off_cons ?_ (off_cons ?_ (off_cons ?_ (fun q hq => nomatch hq))) <;> (intro b hb; (simp only [List.mem_cons, List.not_mem_nil, or_false] at hb); (rcases hb with hb | hb | hb | hb) <;> (rw [hb]; k_ne)))); intro h9 tk9 F9 N9; (try k_sweep); (try k_fold))))
theorem law_holds : PySem.Challenge.rw_ix0025_01.Holds := hd (by
  w_strict (k_go0; (all_goals try k_fold); k_steps))
end

end Mine

theorem PySem.Challenge.cw_ix0025_01_holds : PySem.Challenge.rw_ix0025_01.Holds := by
  exact Mine.law_holds
