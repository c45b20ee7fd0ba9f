import PyProof.Rows.All
import Wide.All
import OpenK.AllK
import Wide.FinOn
import PySem.Challenge.RW_yt0004_01
open PySem PySem.W PyProof.Rows PySem.Calls PySem.Spec
set_option Elab.async false
set_option rowWalk.seconds 0
set_option maxRecDepth 100000
namespace Mine
abbrev Ret (h₀ : Heap) (L : Addr) (m : Str → Option Value) (news : List (Addr × Obj)) (s : Shared) (Q : Value → Shared → Prop) (R : Tok → Value) : Prop :=
  ∀ (t : Tok) (h' : Heap) (tk' : Nat), Fr h₀ L h' m → News h₀ L h' news → Q (R t) { s with heap := h', toks := tk' }
/-- what a call of f at the values vs gives back, at whatever caller -/
abbrev Claim (prog : Program) (w : World) (K : Frag) (p : Program) (f : Addr) (d : Nat) (H : Heap → Prop) (vs : List Value) (R : Tok → Value) : Prop :=
  ∀ {loose : List Str} {mean : ExcName → Option Value} {mg mb : Str → Option Value} {news : List (Addr × Obj)} {dp un : Nat} {gd : Option (List Code)} {cn : Str} {cs : Scope} {a : Addr} {ccd : Value} {cl : List (Str × Addr)} {outer : List Env} {A₀ : Around} {base h₀ : Heap} {L : Addr} {m : Str → Option Value} {s : Shared} {Q E : Value → Shared → Prop},
    Below A₀ base outer h₀ → Fr h₀ L s.heap m → K.In h₀ → News h₀ L s.heap news → Top p loose mean mg mb h₀ → cs.kind = .function →
    H base → dp + d < recursionLimit → un + 8 * d < cLine → Ret h₀ L m news s Q R →
      wpAny (model prog w) (ktrTop dp un gd cn cs L a ccd cl outer) (call (.ref f) vs) Q E s
theorem ret_int {h₀ h' : Heap} {L : Addr} {m : Str → Option Value} {news : List (Addr × Obj)} {s : Shared} {Q : Value → Shared → Prop} {t : Tok} {tk' : Nat} {x y : Int} (hret : ∀ (t : Tok) (h' : Heap) (tk' : Nat), Fr h₀ L h' m → News h₀ L h' news → Q (.int x t) { s with heap := h', toks := tk' }) (e : y = x) (F : Fr h₀ L h' m) (N : News h₀ L h' news) : Q (.int y t) { s with heap := h', toks := tk' } := by
  subst e
  exact hret t h' tk' F N
theorem ret_bool {h₀ h' : Heap} {L : Addr} {m : Str → Option Value} {news : List (Addr × Obj)} {s : Shared} {Q : Value → Shared → Prop} {tk' : Nat} {x y : Bool} (hret : ∀ (t : Tok) (h' : Heap) (tk' : Nat), Fr h₀ L h' m → News h₀ L h' news → Q (.bool x) { s with heap := h', toks := tk' }) (e : y = x) (F : Fr h₀ L h' m) (N : News h₀ L h' news) : Q (.bool y) { s with heap := h', toks := tk' } := by
  subst e
  exact hret 0 h' tk' F N
end Mine
namespace Mine
theorem bits_le {x : Int} {n : Nat} (h : x.natAbs < 2 ^ n) : PySem.Builtin.Int.intBits x ≤ n := by
  unfold PySem.Builtin.Int.intBits
  split
  · exact Nat.zero_le _
  · rename_i hx
    have hx' : x.natAbs ≠ 0 := by
      intro e
      apply hx
      have : x = 0 := Int.natAbs_eq_zero.mp e
      rw [this]; rfl
    have := (Nat.log2_lt hx').mpr h
    omega
theorem log2_lt' {x : Int} {n : Nat} (hn : 0 < n) (h : x.natAbs < 2 ^ n) : x.natAbs.log2 < n := by
  rcases Nat.eq_zero_or_pos x.natAbs with h0 | hp
  · rw [h0]; simpa using hn
  · exact (Nat.log2_lt (Nat.ne_of_gt hp)).mpr h
theorem noPy {a b : Int} (h : b.natAbs < 2 ^ 2000) : PySem.Builtin.divisionGoesByPylong a b = false :=
  PyProof.noPylong_of_log2 (Nat.lt_of_lt_of_le (log2_lt' (by decide) h) (by decide))
def ilogF (x b : Int) : Int :=
  if h : 2 ≤ b ∧ b ≤ x then 1 + ilogF (x / b) b else if b < 0 ∧ b ≤ x then 1 else 0
termination_by x.toNat
decreasing_by
  have h1 : x / b < x := Int.ediv_lt_self_of_pos_of_ne_one (by omega) (by omega)
  omega
def ilogPre (x b : Int) : Prop := (2 ≤ b ∨ x < b ∨ (b < 0 ∧ b * b < x)) ∧ b.natAbs < 2 ^ 2000
def ilogInv (x0 b x l : Int) : Prop := b.natAbs < 2 ^ 2000 ∧ ((2 ≤ b ∧ ilogF x0 b = l + ilogF x b) ∨ (b < 2 ∧ x < b ∧ ilogF x0 b = l) ∨ (b < 0 ∧ b * b < x ∧ l = 0 ∧ ilogF x0 b = 1))
theorem ilogF_lt {x b : Int} (h : x < b) : ilogF x b = 0 := by
  rw [ilogF, dif_neg (by omega), if_neg (by omega)]
theorem ilogF_ge {x b : Int} (hb : 2 ≤ b) (h : b ≤ x) : ilogF x b = 1 + ilogF (x / b) b := by
  rw [ilogF, dif_pos ⟨hb, h⟩]
theorem ilog_start {x b : Int} (h : ilogPre x b) : ilogInv x b x 0 := by
  refine ⟨h.2, ?_⟩
  rcases h.1 with h | h | h
  · left; simp [h]
  · by_cases h2 : 2 ≤ b
    · left; simp [h2]
    · right; left; exact ⟨by omega, h, ilogF_lt h⟩
  · right; right
    have hp : 0 ≤ b * b := Int.mul_nonneg_of_nonpos_of_nonpos (by omega) (by omega)
    refine ⟨h.1, h.2, rfl, ?_⟩
    rw [ilogF, dif_neg (by omega), if_pos (by omega)]
theorem ilog_ne {x0 x b l : Int} (h : ilogInv x0 b x l) (hx : b ≤ x) : b ≠ 0 := by
  rcases h.2 with h | h | h <;> omega
theorem fdiv_neg_lt {x b : Int} (hb : b < 0) (hx : b * b < x) : x.fdiv b < b := by
  have hf := fdiv_fmod_facts x b
  have h1 := hf.2.1
  have h2 := (hf.2.2.2 hb).1
  have h3 := (hf.2.2.2 hb).2
  -- b * q ≥ x > b * b, so q < b
  have h4 : b * b < b * x.fdiv b := by omega
  by_cases hq : x.fdiv b < b
  · exact hq
  · exfalso
    have : b * x.fdiv b ≤ b * b := Int.mul_le_mul_of_nonpos_left (by omega) (by omega)
    omega
theorem ilog_turn {x0 x b l : Int} (h : ilogInv x0 b x l) (hx : b ≤ x) : ilogInv x0 b (x.fdiv b) (l + 1) := by
  refine ⟨h.1, ?_⟩
  rcases h.2 with ⟨hb, he⟩ | h | ⟨hb, hx2, hl, he⟩
  · left
    refine ⟨hb, ?_⟩
    rw [he, ilogF_ge hb hx, Int.fdiv_eq_ediv_of_nonneg _ (by omega)]
    omega
  · omega
  · right; left
    refine ⟨by omega, fdiv_neg_lt hb hx2, by omega⟩
theorem ilog_meas {x0 x b l : Int} (h : ilogInv x0 b x l) (hx : b ≤ x) : (x.fdiv b).toNat < x.toNat := by
  rcases h.2 with ⟨hb, he⟩ | h | ⟨hb, hx2, hl, he⟩
  · rw [Int.fdiv_eq_ediv_of_nonneg _ (by omega)]
    have h1 : x / b < x := Int.ediv_lt_self_of_pos_of_ne_one (by omega) (by omega)
    omega
  · omega
  · have := fdiv_neg_lt hb hx2
    have hp : 0 ≤ b * b := Int.mul_nonneg_of_nonpos_of_nonpos (by omega) (by omega)
    omega
theorem ilog_done {x0 x b l : Int} (h : ilogInv x0 b x l) (hx : ¬ b ≤ x) : l = ilogF x0 b := by
  rcases h.2 with ⟨hb, he⟩ | h | ⟨hb, hx2, hl, he⟩
  · rw [he, ilogF_lt (by omega)]; omega
  · omega
  · have hp : 0 ≤ b * b := Int.mul_nonneg_of_nonpos_of_nonpos (by omega) (by omega)
    omega
/-- the place of x among the powers of b -/
theorem ilogF_pow {b : Int} (hb : 2 ≤ b) : ∀ (n : Nat) (x : Int), b ^ n ≤ x → x < b ^ (n + 1) → ilogF x b = n
  | 0, x, h1, h2 => by
    rw [ilogF_lt (by rw [Int.pow_succ, Int.pow_zero] at h2; omega)]; rfl
  | n + 1, x, h1, h2 => by
    have hbn : 1 ≤ b ^ n := Int.pow_pos (by omega : 0 < b)
    have e : b ^ (n + 1) = b ^ n * b := Int.pow_succ b n
    have hx : b ≤ x := by
      have : 1 * b ≤ b ^ n * b := Int.mul_le_mul_of_nonneg_right hbn (by omega)
      omega
    rw [ilogF_ge hb hx, ilogF_pow hb n (x / b)]
    · omega
    · exact (Int.le_ediv_iff_mul_le (by omega)).mpr (by omega)
    · refine (Int.ediv_lt_iff_lt_mul (by omega)).mpr ?_
      have e2 : b ^ (n + 1 + 1) = b ^ (n + 1) * b := Int.pow_succ b (n + 1)
      omega
theorem ilogF_nonneg {x b : Int} (hb : 2 ≤ b) : 0 ≤ ilogF x b := by
  by_cases h : b ≤ x
  · rw [ilogF_ge hb h]
    have h1 : x / b < x := Int.ediv_lt_self_of_pos_of_ne_one (by omega) (by omega)
    have := ilogF_nonneg (x := x / b) hb
    omega
  · rw [ilogF_lt (by omega)]; omega
termination_by x.toNat
theorem ilogF_holds {x b : Int} (hb : 2 ≤ b) (hx : 1 ≤ x) : b ^ (ilogF x b).toNat ≤ x ∧ x < b ^ ((ilogF x b).toNat + 1) := by
  by_cases h : b ≤ x
  · have h1 : x / b < x := Int.ediv_lt_self_of_pos_of_ne_one (by omega) (by omega)
    have h2 : 1 ≤ x / b := (Int.le_ediv_iff_mul_le (by omega)).mpr (by omega)
    have ih := ilogF_holds (x := x / b) hb h2
    have hn := ilogF_nonneg (x := x / b) hb
    rw [ilogF_ge hb h, show (1 + ilogF (x / b) b).toNat = (ilogF (x / b) b).toNat + 1 by omega]
    generalize (ilogF (x / b) b).toNat = k at ih
    have e1 : b ^ (k + 1) = b ^ k * b := Int.pow_succ b k
    have e2 : b ^ (k + 1 + 1) = b ^ (k + 1) * b := Int.pow_succ b (k + 1)
    rw [e2]
    refine ⟨?_, ?_⟩
    · rw [e1]; exact (Int.le_ediv_iff_mul_le (by omega)).mp ih.1
    · exact (Int.ediv_lt_iff_lt_mul (by omega)).mp ih.2
  · rw [ilogF_lt (by omega)]
    show b ^ 0 ≤ x ∧ x < b ^ (0 + 1)
    rw [Int.pow_succ, Int.pow_zero]
    omega
termination_by x.toNat
theorem ilogF_ge1 {x b : Int} (hb : 2 ≤ b) (h : b ≤ x) : 1 ≤ ilogF x b := by
  rw [ilogF_ge hb h]
  have := ilogF_nonneg (x := x / b) hb
  omega
/-- a bound on the answer's size -/
theorem ilogF_le {x b : Int} {n : Nat} (hb : 2 ≤ b) (hx : x < 2 ^ n) : ilogF x b ≤ n := by
  by_cases h : b ≤ x
  · have h1 := (ilogF_holds hb (by omega : 1 ≤ x)).1
    have h2 : (2 : Int) ^ (ilogF x b).toNat ≤ b ^ (ilogF x b).toNat := by
      generalize (ilogF x b).toNat = k
      induction k with
      | zero => simp
      | succ k ih =>
        rw [Int.pow_succ, Int.pow_succ]
        exact Int.mul_le_mul ih hb (by decide) (Int.le_of_lt (Int.pow_pos (by omega)))
    have h3 : (2 : Int) ^ (ilogF x b).toNat < 2 ^ n := by omega
    have h4 : (ilogF x b).toNat < n := by
      have h5 : (2 : Nat) ^ (ilogF x b).toNat < 2 ^ n := by exact_mod_cast h3
      exact (Nat.pow_lt_pow_iff_right (by decide)).mp h5
    omega
  · rw [ilogF_lt (by omega)]; omega
end Mine
namespace Mine
theorem ilog_pre {x b : Int} (hb : 2 ≤ b) (h : b.natAbs < 2 ^ 1000) : ilogPre x b :=
  ⟨.inl hb, Nat.lt_of_lt_of_le h (Nat.pow_le_pow_right (by decide) (by decide))⟩
theorem lt_two_pow {x : Int} {n : Nat} (h : x.natAbs < 2 ^ n) : x < 2 ^ n := by
  have h2 : ((x.natAbs : Nat) : Int) < ((2 ^ n : Nat) : Int) := by exact_mod_cast h
  have h3 : ((2 ^ n : Nat) : Int) = (2 : Int) ^ n := by norm_cast
  omega
theorem holds_bits1 {x b : Int} (hb : 2 ≤ b) (hb2 : b.natAbs < 2 ^ 1000) (hx : x.natAbs < 2 ^ 1000) : (PySem.Builtin.Int.intBits b : Int) * (ilogF x b + 1) ≤ 2 ^ 27 := by
  have h1 := bits_le hb2
  have h2 := ilogF_le hb (lt_two_pow hx)
  have h3 := ilogF_nonneg (x := x) hb
  have : (PySem.Builtin.Int.intBits b : Int) * (ilogF x b + 1) ≤ 1000 * 1001 := Int.mul_le_mul (by omega) (by omega) (by omega) (by omega)
  omega
theorem holds_bits {x b : Int} (hb : 2 ≤ b) (hb2 : b.natAbs < 2 ^ 1000) (hx : x.natAbs < 2 ^ 1000) : (PySem.Builtin.Int.intBits b : Int) * ilogF x b ≤ 2 ^ 27 := by
  have h1 := bits_le hb2
  have h2 := ilogF_le hb (lt_two_pow hx)
  have h3 := ilogF_nonneg (x := x) hb
  have : (PySem.Builtin.Int.intBits b : Int) * (ilogF x b) ≤ 1000 * 1001 := Int.mul_le_mul (by omega) (by omega) (by omega) (by omega)
  omega
end Mine
namespace Mine
theorem holds_end0 {x b : Int} (h : x < b) : (ilogF x b == 0) = true := by rw [ilogF_lt h]; rfl
theorem holds_end1 {x b : Int} (hb : 2 ≤ b) (h : ¬ x < b) : decide (x < b ^ (ilogF x b + 1).toNat) = true := by
  have h1 := (ilogF_holds hb (by omega : 1 ≤ x)).2
  have h2 := ilogF_nonneg (x := x) hb
  rw [show (ilogF x b + 1).toNat = (ilogF x b).toNat + 1 by omega]
  exact decide_eq_true h1
theorem holds_end2 {x b : Int} (hb : 2 ≤ b) (h : ¬ x < b) (h2 : ¬ b ^ (ilogF x b).toNat ≤ x) : False :=
  h2 (ilogF_holds hb (by omega : 1 ≤ x)).1
theorem holds_end3 {x b : Int} (hb : 2 ≤ b) (h : ¬ x < b) (h2 : ¬ 1 ≤ ilogF x b) : False :=
  h2 (ilogF_ge1 hb (by omega))
theorem undone_bits {b k : Int} (hb2 : b.natAbs < 2 ^ 1000) (h0 : 0 ≤ k) (h : k < 40) : (PySem.Builtin.Int.intBits b : Int) * k ≤ 2 ^ 27 := by
  have h1 := bits_le hb2
  have : (PySem.Builtin.Int.intBits b : Int) * k ≤ 1000 * 40 := Int.mul_le_mul (by omega) (by omega) (by omega) (by omega)
  omega
theorem pow_ne {b : Int} {n : Nat} (hb : 2 ≤ b) : b ^ n ≠ 0 := Int.ne_of_gt (Int.pow_pos (by omega))
theorem pow_bd {b : Int} {m k : Nat} (hb : b.natAbs < 2 ^ m) : (b ^ k).natAbs < 2 ^ (m * k + 1) := by
  rw [Int.natAbs_pow]
  have h1 : b.natAbs ^ k ≤ (2 ^ m) ^ k := Nat.pow_le_pow_left (Nat.le_of_lt hb) k
  rw [← Nat.pow_mul] at h1
  exact Nat.lt_of_le_of_lt h1 (Nat.pow_lt_pow_right (by decide) (by omega))
theorem undone_mul {b k lead : Int} (hb : 2 ≤ b) (hb2 : b.natAbs < 2 ^ 1000) (h : k < 40) : PySem.IntMulOk (1 + lead.fmod (b - 1)) (b ^ k.toNat) := by
  have hm := fdiv_fmod_facts lead (b - 1)
  have hm3 := hm.2.2.1 (by omega)
  refine PySem.IntMulOk.of_bits (Nat.le_trans (bits_le (n := 1000) ?_) (by decide)) (Nat.le_trans (bits_le (pow_bd hb2)) (by omega))
  omega
theorem undone_end1 {b k lead low : Int} (hb : 2 ≤ b) (hk0 : 0 ≤ k) (h : ¬ ilogF ((1 + lead.fmod (b - 1)) * b ^ k.toNat + low.fmod (b ^ k.toNat)) b = k) : False := by
  apply h
  have hm3 := (fdiv_fmod_facts lead (b - 1)).2.2.1 (by omega)
  have hp : 0 < b ^ k.toNat := Int.pow_pos (by omega)
  have hm4 := (fdiv_fmod_facts low (b ^ k.toNat)).2.2.1 hp
  generalize lead.fmod (b - 1) = f at *
  generalize low.fmod (b ^ k.toNat) = g at *
  have e1 : b ^ (k.toNat + 1) = b ^ k.toNat * b := Int.pow_succ b k.toNat
  have h1 : b ^ k.toNat ≤ (1 + f) * b ^ k.toNat + g := by
    have : 1 * b ^ k.toNat ≤ (1 + f) * b ^ k.toNat := Int.mul_le_mul_of_nonneg_right (by omega) (by omega)
    omega
  have h2 : (1 + f) * b ^ k.toNat + g < b ^ (k.toNat + 1) := by
    have : (1 + f + 1) * b ^ k.toNat ≤ b * b ^ k.toNat := Int.mul_le_mul_of_nonneg_right (by omega) (by omega)
    rw [Int.add_mul (1 + f) 1, Int.one_mul] at this
    rw [e1, Int.mul_comm (b ^ k.toNat)]
    omega
  rw [ilogF_pow hb k.toNat _ h1 h2]
  omega
theorem undone_end2 {b k : Int} (hb : 2 ≤ b) (hk0 : 0 < k) (h : ¬ ilogF (b ^ k.toNat - 1) b = k - 1) : False := by
  apply h
  have e : k.toNat = (k.toNat - 1) + 1 := by omega
  have hp : 0 < b ^ (k.toNat - 1) := Int.pow_pos (by omega)
  have e1 : b ^ k.toNat = b ^ (k.toNat - 1) * b := by
    have := Int.pow_succ b (k.toNat - 1)
    rw [← this]; exact congrArg (fun n => b ^ n) e
  have h3 : b ^ (k.toNat - 1) * 2 ≤ b ^ (k.toNat - 1) * b := Int.mul_le_mul_of_nonneg_left hb (by omega)
  rw [ilogF_pow hb (k.toNat - 1) _ (by omega) (by rw [Int.pow_succ, ← e1]; omega)]
  omega
end Mine
namespace Mine
def cutF (v top : Int) : Int := if v < 0 then -((-v).fmod top) else v.fmod top
theorem big_lt : (10 ^ 60 + 9 : Nat) < 2 ^ 1000 := by decide +kernel
theorem big_toNat : ((10 : Int) ^ Int.toNat 60 + 7) = 1000000000000000000000000000000000000000000000000000000000007 := by decide +kernel
theorem bd_of {x : Int} (h1 : -1000000000000000000000000000000000000000000000000000000000009 ≤ x) (h2 : x ≤ 1000000000000000000000000000000000000000000000000000000000009) : x.natAbs < 2 ^ 1000 := by
  refine Nat.lt_of_le_of_lt ?_ big_lt
  omega
theorem base_ge (a : Int) : 2 ≤ 2 + a.fmod 30 := by
  have := (fdiv_fmod_facts a 30).2.2.1 (by decide); omega
theorem base_bd (a : Int) : (2 + a.fmod 30).natAbs < 2 ^ 1000 := by
  have := (fdiv_fmod_facts a 30).2.2.1 (by decide)
  exact bd_of (by omega) (by omega)
theorem great_ge (a : Int) : 2 ≤ 2 + a.fmod (10 ^ Int.toNat 60 + 7) := by
  rw [big_toNat]
  have := (fdiv_fmod_facts a 1000000000000000000000000000000000000000000000000000000000007).2.2.1 (by decide); omega
theorem great_bd (a : Int) : (2 + a.fmod (10 ^ Int.toNat 60 + 7)).natAbs < 2 ^ 1000 := by
  rw [big_toNat]
  have := (fdiv_fmod_facts a 1000000000000000000000000000000000000000000000000000000000007).2.2.1 (by decide)
  exact bd_of (by omega) (by omega)
theorem under_bd (a : Int) : (1 - (2 + a.fmod (10 ^ Int.toNat 60 + 7))).natAbs < 2 ^ 2000 := by
  have h : (1 - (2 + a.fmod (10 ^ Int.toNat 60 + 7))).natAbs < 2 ^ 1000 := by
    rw [big_toNat]
    have := (fdiv_fmod_facts a 1000000000000000000000000000000000000000000000000000000000007).2.2.1 (by decide)
    exact bd_of (by omega) (by omega)
  exact Nat.lt_of_lt_of_le h (Nat.pow_le_pow_right (by decide) (by decide))
theorem cut_facts (v : Int) : -1000000000000000000000000000000000000000000000000000000000007 < cutF v (10 ^ Int.toNat 60 + 7) ∧ cutF v (10 ^ Int.toNat 60 + 7) < 1000000000000000000000000000000000000000000000000000000000007 := by
  rw [big_toNat]
  unfold cutF
  split
  · have := (fdiv_fmod_facts (-v) 1000000000000000000000000000000000000000000000000000000000007).2.2.1 (by decide)
    omega
  · have := (fdiv_fmod_facts v 1000000000000000000000000000000000000000000000000000000000007).2.2.1 (by decide)
    omega
theorem cut_bd (v : Int) : (cutF v (10 ^ Int.toNat 60 + 7)).natAbs < 2 ^ 1000 := by
  have := cut_facts v
  exact bd_of (by omega) (by omega)
theorem cut_bd_neg (v : Int) : (-cutF v (10 ^ Int.toNat 60 + 7)).natAbs < 2 ^ 1000 := by
  have := cut_facts v
  exact bd_of (by omega) (by omega)
end Mine
namespace Mine
theorem k40 (a : Int) : 0 ≤ a.fmod 40 ∧ a.fmod 40 < 40 := (fdiv_fmod_facts a 40).2.2.1 (by decide)
theorem k4 (a : Int) : 0 ≤ a.fmod 4 ∧ a.fmod 4 < 4 := (fdiv_fmod_facts a 4).2.2.1 (by decide)
end Mine
namespace Mine
theorem pre1 (x : Int) : ilogPre (-(if x < 0 then -x else x)) 1 := ⟨.inr (.inl (by split <;> omega)), by decide +kernel⟩
theorem pre0 (x : Int) : ilogPre (-1 - (if x < 0 then -x else x)) 0 := ⟨.inr (.inl (by split <;> omega)), by decide +kernel⟩
theorem preU (x a : Int) : ilogPre (1 - (2 + a.fmod (10 ^ Int.toNat 60 + 7)) - 1 - (if x < 0 then -x else x)) (1 - (2 + a.fmod (10 ^ Int.toNat 60 + 7))) :=
  ⟨.inr (.inl (by split <;> omega)), under_bd a⟩
theorem preV (x a : Int) : ilogPre ((1 - (2 + a.fmod (10 ^ Int.toNat 60 + 7))) * (1 - (2 + a.fmod (10 ^ Int.toNat 60 + 7))) + 1 + (if x < 0 then -x else x)) (1 - (2 + a.fmod (10 ^ Int.toNat 60 + 7))) :=
  ⟨.inr (.inr ⟨by have := great_ge a; omega, by split <;> omega⟩), under_bd a⟩
theorem mulU (a : Int) : PySem.IntMulOk (1 - (2 + a.fmod (10 ^ Int.toNat 60 + 7))) (1 - (2 + a.fmod (10 ^ Int.toNat 60 + 7))) :=
  have h := Nat.le_trans (bits_le (under_bd a)) (by decide : 2000 ≤ 2 ^ 20)
  PySem.IntMulOk.of_bits h h
end Mine
namespace Mine
theorem lt1 (x : Int) : (-(if x < 0 then -x else x)) < 1 := by split <;> omega
theorem lt0 (x : Int) : (-1 - (if x < 0 then -x else x)) < 0 := by split <;> omega
theorem ltU (x a : Int) : 1 - a - 1 - (if x < 0 then -x else x) < 1 - a := by split <;> omega
theorem ilogF_V {x b : Int} (h : b < 0) (hx : b * b < x) : ilogF x b = 1 := by
  have hp : 0 ≤ b * b := Int.mul_nonneg_of_nonpos_of_nonpos (by omega) (by omega)
  rw [ilogF, dif_neg (by omega), if_pos (by omega)]
theorem ltV (x a : Int) : a * a < a * a + 1 + (if x < 0 then -x else x) := by split <;> omega
theorem underV (a : Int) : 1 - (2 + a.fmod (10 ^ Int.toNat 60 + 7)) < 0 := by have := great_ge a; omega
theorem one_bd : (1 : Int).natAbs < 2 ^ 2000 := by decide +kernel
theorem zero_bd : (0 : Int).natAbs < 2 ^ 2000 := by decide +kernel
end Mine
namespace Mine
theorem sz0 (x : Int) : 0 ≤ (if x < 0 then -x else x) := by split <;> omega
end Mine
namespace Mine
set_option maxRecDepth 100000 in
set_option maxHeartbeats 8000000 in
open_top hd01 for PySem.Challenge.rw_yt0004_01
end Mine
namespace Mine
abbrev Cl (w : World) := Claim Challenge.rw_yt0004_01.row.prog w (hd01.heap_39 w.params) hd01.view_39
set_option maxRecDepth 100000 in
set_option maxHeartbeats 8000000 in
theorem ilog_spec {w : World} {x b : Int} {t1 t2 : Tok} (hpre : ilogPre x b) : Cl w 21 1 (fun _ => True) [.int x t1, .int b t2] (fun t => .int (ilogF x b) t) := by
  k_with_none
  dsimp only [Cl, Claim, Ret]
  k_fill
  intro loose mean mg mb news dp un gd cn cs a ccd cl outer A₀ base h₀ L m s Q E hB F X N T hk hH hd hu hret
  refine wpAny_call ?_
  (k_dflt cell_enter)
  k_with "exec While Compare cons nil" => k_while (fun script x' l => ilogInv x b x' l) (fun script x' l => x'.toNat) "x" "l"
  k_with "state" => first | exact ilog_start hpre | exact ilog_turn (by assumption) (by assumption)
  k_with "measure" => exact ilog_meas (by assumption) (by assumption)
  k_with "inplaceOp FloorDiv int int" => (refine ifloordiv_int (ilog_ne (by assumption) (by assumption)) ?_ (Or.inl (noPy hpre.2)))
  k_steps
  all_goals (refine ret_int (Q := Q) hret (by exact ilog_done (by assumption) (by assumption)) (by k_asm) (by first | k_asm | exact cb_drop (by assumption) (by kcj_all)))
local macro_rules | `(tactic| walk_at "call ref") => `(tactic| (k_here; (with_reducible show wpAny _ _ (call (Value.ref 21) [Value.int _ _, Value.int _ _]) _ _ _); k_dflt (refine' ilog_spec ?kp0 ?k1 ?k2 ?k3 ?k4 ?k5 ?kK ?kH ?kd ?ku ?_; (case k1 => k_asm); (case k2 => k_asm); (case k3 => k_asm); (case k4 => k_asm); (case k5 => k_asm); (case kK => first | exact rfl | assumption); (case kH => first | trivial | k_asm); (case kp0 => first | assumption | k_extra "ilog_spec 0" | omega | l_fit | decide); (case kd => ktr_room); (case ku => ktr_units)); intro t9 h9 tk9 F9 N9; (try dsimp only); (try k_fold)))
def rowF : List Int := [1000, 8, 500, 3, 4, 77]
def atF (ns : List Int) (i : Int) : Int := if i < ns.length then ns.getD i.toNat 0 else rowF.getD (i.fmod 6).toNat 0
set_option maxRecDepth 100000 in
set_option maxHeartbeats 8000000 in
theorem at_spec {w : World} {l : Addr} {vs : List Value} {ns : List Int} {i : Int} {t2 : Tok} (hI : IntsAre vs ns) (hn : ns.length < 2 ^ 62) (h0 : 0 ≤ i) (hi : i < 100) : Cl w 28 1 (fun base => base.IsList l vs.toArray) [.ref l, .int i t2] (fun t => .int (atF ns i) t) := by
  k_with_none
  dsimp only [Cl, Claim, Ret]
  k_fill
  intro loose mean mg mb news dp un gd cn cs a ccd cl outer A₀ base h₀ L m s Q E hB F X N T hk hH hd hu hret
  refine wpAny_call ?_
  (k_dflt cell_enter)
  k_steps
  all_goals (refine ret_int (Q := Q) hret (by unfold atF rowF; split <;> first | rfl | (exfalso; omega)) (by k_asm) (by first | k_asm | exact cb_drop (by assumption) (by kcj_all)))
local macro_rules | `(tactic| walk_at "call ref") => `(tactic| (k_here; (with_reducible show wpAny _ _ (call (Value.ref 28) [Value.ref _, Value.int _ _]) _ _ _); k_dflt (refine' at_spec ?kp0 ?kp1 ?kp2 ?kp3 ?k1 ?k2 ?k3 ?k4 ?k5 ?kK ?kH ?kd ?ku ?_; (case k1 => k_asm); (case k2 => k_asm); (case k3 => k_asm); (case k4 => k_asm); (case k5 => k_asm); (case kK => first | exact rfl | assumption); (case kH => first | trivial | k_asm); (case kp0 => first | assumption | k_extra "at_spec 0" | omega | l_fit | decide); (case kp1 => first | assumption | k_extra "at_spec 1" | omega | l_fit | decide); (case kp2 => first | assumption | k_extra "at_spec 2" | omega | l_fit | decide); (case kp3 => first | assumption | k_extra "at_spec 3" | omega | l_fit | decide); (case kd => ktr_room); (case ku => ktr_units)); intro t9 h9 tk9 F9 N9; (try dsimp only); (try k_fold)))
set_option maxRecDepth 100000 in
set_option maxHeartbeats 8000000 in
theorem cut_spec {w : World} {v top : Int} {t1 t2 : Tok} (hp : 0 < top) : Cl w 35 1 (fun _ => True) [.int v t1, .int top t2] (fun t => .int (cutF v top) t) := by
  k_with_none
  dsimp only [Cl, Claim, Ret]
  k_fill
  intro loose mean mg mb news dp un gd cn cs a ccd cl outer A₀ base h₀ L m s Q E hB F X N T hk hH hd hu hret
  refine wpAny_call ?_
  (k_dflt cell_enter)
  k_steps
  all_goals (refine ret_int (Q := Q) hret (by unfold cutF; split <;> first | rfl | (exfalso; omega)) (by k_asm) (by first | k_asm | exact cb_drop (by assumption) (by kcj_all)))
local macro_rules | `(tactic| walk_at "call ref") => `(tactic| (k_here; (with_reducible show wpAny _ _ (call (Value.ref 35) [Value.int _ _, Value.int _ _]) _ _ _); k_dflt (refine' cut_spec ?kp0 ?k1 ?k2 ?k3 ?k4 ?k5 ?kK ?kH ?kd ?ku ?_; (case k1 => k_asm); (case k2 => k_asm); (case k3 => k_asm); (case k4 => k_asm); (case k5 => k_asm); (case kK => first | exact rfl | assumption); (case kH => first | trivial | k_asm); (case kp0 => first | assumption | k_extra "cut_spec 0" | omega | l_fit | decide); (case kd => ktr_room); (case ku => ktr_units)); intro t9 h9 tk9 F9 N9; (try dsimp only); (try k_fold)))
set_option maxRecDepth 100000 in
set_option maxHeartbeats 8000000 in
theorem holds_spec {w : World} {x b : Int} {t1 t2 : Tok} (hb : 2 ≤ b) (hb2 : b.natAbs < 2 ^ 1000) (hx : x.natAbs < 2 ^ 1000) : Cl w 42 2 (fun _ => True) [.int x t1, .int b t2] (fun _ => .bool true) := by
  k_with_none
  dsimp only [Cl, Claim, Ret]
  k_fill
  intro loose mean mg mb news dp un gd cn cs a ccd cl outer A₀ base h₀ L m s Q E hB F X N T hk hH hd hu hret
  refine wpAny_call ?_
  (k_dflt cell_enter)
  k_with "ilog_spec 0" => exact ilog_pre hb hb2
  k_with "binaryOp Pow int int" => first | (refine pow_int (ilogF_nonneg hb) (holds_bits hb hb2 hx) ?_) | (refine pow_int (by have := ilogF_nonneg (x := x) hb; omega) (holds_bits1 hb hb2 hx) ?_)
  k_steps
  all_goals (refine ret_bool (Q := Q) hret (by first | exact holds_end0 (by assumption) | exact holds_end1 hb (by assumption) | (exfalso; exact holds_end2 hb (by assumption) (by assumption)) | (exfalso; exact holds_end3 hb (by assumption) (by assumption)) | (trace_state; fail)) (by k_asm) (by first | k_asm | exact cb_drop (by assumption) (by kcj_all)))
local macro_rules | `(tactic| walk_at "call ref") => `(tactic| (k_here; (with_reducible show wpAny _ _ (call (Value.ref 42) [Value.int _ _, Value.int _ _]) _ _ _); k_dflt (refine' holds_spec ?kp0 ?kp1 ?kp2 ?k1 ?k2 ?k3 ?k4 ?k5 ?kK ?kH ?kd ?ku ?_; (case k1 => k_asm); (case k2 => k_asm); (case k3 => k_asm); (case k4 => k_asm); (case k5 => k_asm); (case kK => first | exact rfl | assumption); (case kH => first | trivial | k_asm); (case kp0 => first | assumption | k_extra "holds_spec 0" | omega | l_fit | decide); (case kp1 => first | assumption | k_extra "holds_spec 1" | omega | l_fit | decide); (case kp2 => first | assumption | k_extra "holds_spec 2" | omega | l_fit | decide); (case kd => ktr_room); (case ku => ktr_units)); intro t9 h9 tk9 F9 N9; (try dsimp only); (try k_fold)))
set_option maxRecDepth 100000 in
set_option maxHeartbeats 8000000 in
theorem undone_spec {w : World} {b k lead low : Int} {t1 t2 t3 t4 : Tok} (hb : 2 ≤ b) (hb2 : b.natAbs < 2 ^ 1000) (hk0 : 0 ≤ k) (hk4 : k < 40) : Cl w 49 2 (fun _ => True) [.int b t1, .int k t2, .int lead t3, .int low t4] (fun _ => .bool true) := by
  k_with_none
  dsimp only [Cl, Claim, Ret]
  k_fill
  intro loose mean mg mb news dp un gd cn cs a ccd cl outer A₀ base h₀ L m s Q E hB F X N T hk hH hd hu hret
  refine wpAny_call ?_
  (k_dflt cell_enter)
  k_with "ilog_spec 0" => exact ilog_pre hb hb2
  k_with "binaryOp Pow int int" => (refine pow_int hk0 (undone_bits hb2 hk0 hk4) ?_)
  k_with "binaryOp Mod int int" => (refine mod_int' (by first | omega | exact pow_ne hb) ?_)
  k_with "binaryOp Mult int int" => (refine mul_int ?_ (undone_mul hb hb2 hk4))
  k_steps
  all_goals (refine ret_bool (Q := Q) hret (by first | rfl | (exfalso; exact undone_end1 hb hk0 (by assumption)) | (exfalso; exact undone_end2 hb (by assumption) (by assumption)) | (trace_state; fail)) (by k_asm) (by first | k_asm | exact cb_drop (by assumption) (by kcj_all)))
local macro_rules | `(tactic| walk_at "call ref") => `(tactic| (k_here; (with_reducible show wpAny _ _ (call (Value.ref 49) [Value.int _ _, Value.int _ _, Value.int _ _, Value.int _ _]) _ _ _); k_dflt (refine' undone_spec ?kp0 ?kp1 ?kp2 ?kp3 ?k1 ?k2 ?k3 ?k4 ?k5 ?kK ?kH ?kd ?ku ?_; (case k1 => k_asm); (case k2 => k_asm); (case k3 => k_asm); (case k4 => k_asm); (case k5 => k_asm); (case kK => first | exact rfl | assumption); (case kH => first | trivial | k_asm); (case kp0 => first | assumption | k_extra "undone_spec 0" | omega | l_fit | decide); (case kp1 => first | assumption | k_extra "undone_spec 1" | omega | l_fit | decide); (case kp2 => first | assumption | k_extra "undone_spec 2" | omega | l_fit | decide); (case kp3 => first | assumption | k_extra "undone_spec 3" | omega | l_fit | decide); (case kd => ktr_room); (case ku => ktr_units)); intro t9 h9 tk9 F9 N9; (try dsimp only); (try k_fold)))
theorem ilog_low {w : World} {x b : Int} {t1 t2 : Tok} (h : x < b) (hb : b.natAbs < 2 ^ 2000) : Cl w 21 1 (fun _ => True) [.int x t1, .int b t2] (fun t => .int 0 t) := by
  have hs := @ilog_spec w x b t1 t2 ⟨.inr (.inl h), hb⟩
  rwa [ilogF_lt h] at hs
theorem ilog_one {w : World} {x b : Int} {t1 t2 : Tok} (h : b < 0) (hx : b * b < x) (hb : b.natAbs < 2 ^ 2000) : Cl w 21 1 (fun _ => True) [.int x t1, .int b t2] (fun t => .int 1 t) := by
  have hs := @ilog_spec w x b t1 t2 ⟨.inr (.inr ⟨h, hx⟩), hb⟩
  rwa [ilogF_V h hx] at hs
local macro_rules | `(tactic| walk_at "call ref") => `(tactic| (k_here; (with_reducible show wpAny _ _ (call (Value.ref 21) [Value.int _ _, Value.int _ _]) _ _ _); k_dflt (refine' ilog_low ?kp0 ?kp1 ?k1 ?k2 ?k3 ?k4 ?k5 ?kK ?kH ?kd ?ku ?_; (case k1 => k_asm); (case k2 => k_asm); (case k3 => k_asm); (case k4 => k_asm); (case k5 => k_asm); (case kK => first | exact rfl | assumption); (case kH => first | trivial | k_asm); (case kp0 => first | assumption | k_extra "ilog_low 0" | omega | l_fit | decide); (case kp1 => first | assumption | k_extra "ilog_low 1" | omega | l_fit | decide); (case kd => ktr_room); (case ku => ktr_units)); intro t9 h9 tk9 F9 N9; (try dsimp only); (try k_fold)))
local macro_rules | `(tactic| walk_at "call ref") => `(tactic| (k_here; (with_reducible show wpAny _ _ (call (Value.ref 21) [Value.int _ _, Value.int _ _]) _ _ _); k_dflt (refine' ilog_one ?kp0 ?kp1 ?kp2 ?k1 ?k2 ?k3 ?k4 ?k5 ?kK ?kH ?kd ?ku ?_; (case k1 => k_asm); (case k2 => k_asm); (case k3 => k_asm); (case k4 => k_asm); (case k5 => k_asm); (case kK => first | exact rfl | assumption); (case kH => first | trivial | k_asm); (case kp0 => first | assumption | k_extra "ilog_one 0" | omega | l_fit | decide); (case kp1 => first | assumption | k_extra "ilog_one 1" | omega | l_fit | decide); (case kp2 => first | assumption | k_extra "ilog_one 2" | omega | l_fit | decide); (case kd => ktr_room); (case ku => ktr_units)); intro t9 h9 tk9 F9 N9; (try dsimp only); (try k_fold)))
end Mine
open Mine
local macro_rules | `(tactic| walk_at "call ref") => `(tactic| (k_here; (with_reducible show wpAny _ _ (call (Value.ref 21) [Value.int _ _, Value.int _ _]) _ _ _); k_dflt (refine' ilog_spec ?kp0 ?k1 ?k2 ?k3 ?k4 ?k5 ?kK ?kH ?kd ?ku ?_; (case k1 => k_asm); (case k2 => k_asm); (case k3 => k_asm); (case k4 => k_asm); (case k5 => k_asm); (case kK => first | exact rfl | assumption); (case kH => first | trivial | k_asm); (case kp0 => first | assumption | k_extra "ilog_spec 0" | omega | l_fit | decide); (case kd => ktr_room); (case ku => ktr_units)); intro t9 h9 tk9 F9 N9; (try dsimp only); (try k_fold)))
local macro_rules | `(tactic| walk_at "call ref") => `(tactic| (k_here; (with_reducible show wpAny _ _ (call (Value.ref 28) [Value.ref _, Value.int _ _]) _ _ _); k_dflt (refine' at_spec ?kp0 ?kp1 ?kp2 ?kp3 ?k1 ?k2 ?k3 ?k4 ?k5 ?kK ?kH ?kd ?ku ?_; (case k1 => k_asm); (case k2 => k_asm); (case k3 => k_asm); (case k4 => k_asm); (case k5 => k_asm); (case kK => first | exact rfl | assumption); (case kH => first | trivial | k_asm); (case kp0 => first | assumption | k_extra "at_spec 0" | omega | l_fit | decide); (case kp1 => first | assumption | k_extra "at_spec 1" | omega | l_fit | decide); (case kp2 => first | assumption | k_extra "at_spec 2" | omega | l_fit | decide); (case kp3 => first | assumption | k_extra "at_spec 3" | omega | l_fit | decide); (case kd => ktr_room); (case ku => ktr_units)); intro t9 h9 tk9 F9 N9; (try dsimp only); (try k_fold)))
local macro_rules | `(tactic| walk_at "call ref") => `(tactic| (k_here; (with_reducible show wpAny _ _ (call (Value.ref 35) [Value.int _ _, Value.int _ _]) _ _ _); k_dflt (refine' cut_spec ?kp0 ?k1 ?k2 ?k3 ?k4 ?k5 ?kK ?kH ?kd ?ku ?_; (case k1 => k_asm); (case k2 => k_asm); (case k3 => k_asm); (case k4 => k_asm); (case k5 => k_asm); (case kK => first | exact rfl | assumption); (case kH => first | trivial | k_asm); (case kp0 => first | assumption | k_extra "cut_spec 0" | omega | l_fit | decide); (case kd => ktr_room); (case ku => ktr_units)); intro t9 h9 tk9 F9 N9; (try dsimp only); (try k_fold)))
local macro_rules | `(tactic| walk_at "call ref") => `(tactic| (k_here; (with_reducible show wpAny _ _ (call (Value.ref 42) [Value.int _ _, Value.int _ _]) _ _ _); k_dflt (refine' holds_spec ?kp0 ?kp1 ?kp2 ?k1 ?k2 ?k3 ?k4 ?k5 ?kK ?kH ?kd ?ku ?_; (case k1 => k_asm); (case k2 => k_asm); (case k3 => k_asm); (case k4 => k_asm); (case k5 => k_asm); (case kK => first | exact rfl | assumption); (case kH => first | trivial | k_asm); (case kp0 => first | assumption | k_extra "holds_spec 0" | omega | l_fit | decide); (case kp1 => first | assumption | k_extra "holds_spec 1" | omega | l_fit | decide); (case kp2 => first | assumption | k_extra "holds_spec 2" | omega | l_fit | decide); (case kd => ktr_room); (case ku => ktr_units)); intro t9 h9 tk9 F9 N9; (try dsimp only); (try k_fold)))
local macro_rules | `(tactic| walk_at "call ref") => `(tactic| (k_here; (with_reducible show wpAny _ _ (call (Value.ref 49) [Value.int _ _, Value.int _ _, Value.int _ _, Value.int _ _]) _ _ _); k_dflt (refine' undone_spec ?kp0 ?kp1 ?kp2 ?kp3 ?k1 ?k2 ?k3 ?k4 ?k5 ?kK ?kH ?kd ?ku ?_; (case k1 => k_asm); (case k2 => k_asm); (case k3 => k_asm); (case k4 => k_asm); (case k5 => k_asm); (case kK => first | exact rfl | assumption); (case kH => first | trivial | k_asm); (case kp0 => first | assumption | k_extra "undone_spec 0" | omega | l_fit | decide); (case kp1 => first | assumption | k_extra "undone_spec 1" | omega | l_fit | decide); (case kp2 => first | assumption | k_extra "undone_spec 2" | omega | l_fit | decide); (case kp3 => first | assumption | k_extra "undone_spec 3" | omega | l_fit | decide); (case kd => ktr_room); (case ku => ktr_units)); intro t9 h9 tk9 F9 N9; (try dsimp only); (try k_fold)))
local macro_rules | `(tactic| walk_at "call ref") => `(tactic| (k_here; (with_reducible show wpAny _ _ (call (Value.ref 21) [Value.int _ _, Value.int _ _]) _ _ _); k_dflt (refine' ilog_low ?kp0 ?kp1 ?k1 ?k2 ?k3 ?k4 ?k5 ?kK ?kH ?kd ?ku ?_; (case k1 => k_asm); (case k2 => k_asm); (case k3 => k_asm); (case k4 => k_asm); (case k5 => k_asm); (case kK => first | exact rfl | assumption); (case kH => first | trivial | k_asm); (case kp0 => first | assumption | k_extra "ilog_low 0" | omega | l_fit | decide); (case kp1 => first | assumption | k_extra "ilog_low 1" | omega | l_fit | decide); (case kd => ktr_room); (case ku => ktr_units)); intro t9 h9 tk9 F9 N9; (try dsimp only); (try k_fold)))
local macro_rules | `(tactic| walk_at "call ref") => `(tactic| (k_here; (with_reducible show wpAny _ _ (call (Value.ref 21) [Value.int _ _, Value.int _ _]) _ _ _); k_dflt (refine' ilog_one ?kp0 ?kp1 ?kp2 ?k1 ?k2 ?k3 ?k4 ?k5 ?kK ?kH ?kd ?ku ?_; (case k1 => k_asm); (case k2 => k_asm); (case k3 => k_asm); (case k4 => k_asm); (case k5 => k_asm); (case kK => first | exact rfl | assumption); (case kH => first | trivial | k_asm); (case kp0 => first | assumption | k_extra "ilog_one 0" | omega | l_fit | decide); (case kp1 => first | assumption | k_extra "ilog_one 1" | omega | l_fit | decide); (case kp2 => first | assumption | k_extra "ilog_one 2" | omega | l_fit | decide); (case kd => ktr_room); (case ku => ktr_units)); intro t9 h9 tk9 F9 N9; (try dsimp only); (try k_fold)))
set_option maxRecDepth 100000 in
set_option maxHeartbeats 8000000 in
theorem PySem.Challenge.cw_yt0004_01_holds : PySem.Challenge.rw_yt0004_01.Holds := by
  refine hd01 ?_
  k_with_none
  k_with "cut_spec 0" => (rw [big_toNat]; decide)
  k_with "holds_spec 0" => first | exact base_ge _ | exact great_ge _
  k_with "holds_spec 1" => first | exact base_bd _ | exact great_bd _
  k_with "holds_spec 2" => first | exact cut_bd _ | exact cut_bd_neg _
  k_with "exec While Compare cons nil" => k_while (fun script x l => 0 ≤ x) (fun script x l => 0) "x" "l"
  k_with "state" => first | exact sz0 _ | (exfalso; omega)
  k_with "measure" => (exfalso; omega)
  k_with "ilog_low 0" => first | exact lt1 _ | exact lt0 _ | exact ltU _ _
  k_with "ilog_low 1" => first | exact one_bd | exact zero_bd | exact under_bd _
  k_with "ilog_one 0" => exact underV _
  k_with "ilog_one 1" => exact ltV _ _
  k_with "ilog_one 2" => exact under_bd _
  k_with "binaryOp Mult int int" => (refine mul_int ?_ (mulU _))
  k_with "undone_spec 2" => first | exact (k40 _).1 | exact (k4 _).1
  k_with "undone_spec 3" => first | exact (k40 _).2 | exact Int.lt_trans (k4 _).2 (by decide)
  k_with "undone_spec 0" => first | exact base_ge _ | exact great_ge _
  k_with "undone_spec 1" => first | exact base_bd _ | exact great_bd _
  w_strict (
    k_go0
    all_goals try k_fold
    k_steps)
