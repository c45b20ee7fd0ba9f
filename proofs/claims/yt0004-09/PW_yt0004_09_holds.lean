import PyProof.Rows.All
import Wide.All
import OpenK.AllK
import Wide.FinOn
import PySem.Challenge.RW_yt0004_09
open PySem PySem.W PyProof.Rows PySem.Calls PySem.Spec
set_option Elab.async false
set_option rowWalk.seconds 0
set_option maxRecDepth 100000
namespace Mine
abbrev Ret (h₀ : Heap) (L : Addr) (m : Str → Option Value) (news : List (Addr × Obj)) (s : Shared) (Q : Value → Shared → Prop) (R : Tok → Value) : Prop :=
  ∀ (t : Tok) (h' : Heap) (tk' : Nat), Fr h₀ L h' m → News h₀ L h' news → Q (R t) { s with heap := h', toks := tk' }
/-- what a call of f at the values vs gives back, at whatever caller -/
abbrev Claim (prog : Program) (w : World) (K : Frag) (p : Program) (f : Addr) (d : Nat) (H : Heap → Prop) (vs : List Value) (R : Tok → Value) : Prop :=
  ∀ {loose : List Str} {mean : ExcName → Option Value} {mg mb : Str → Option Value} {news : List (Addr × Obj)} {dp un : Nat} {gd : Option (List Code)} {cn : Str} {cs : Scope} {a : Addr} {ccd : Value} {cl : List (Str × Addr)} {outer : List Env} {A₀ : Around} {base h₀ : Heap} {L : Addr} {m : Str → Option Value} {s : Shared} {Q E : Value → Shared → Prop},
    Below A₀ base outer h₀ → Fr h₀ L s.heap m → K.In h₀ → News h₀ L s.heap news → Top p loose mean mg mb h₀ → cs.kind = .function →
    H base → dp + d < recursionLimit → un + 8 * d < cLine → Ret h₀ L m news s Q R →
      wpAny (model prog w) (ktrTop dp un gd cn cs L a ccd cl outer) (call (.ref f) vs) Q E s
theorem ret_int {h₀ h' : Heap} {L : Addr} {m : Str → Option Value} {news : List (Addr × Obj)} {s : Shared} {Q : Value → Shared → Prop} {t : Tok} {tk' : Nat} {x y : Int} (hret : ∀ (t : Tok) (h' : Heap) (tk' : Nat), Fr h₀ L h' m → News h₀ L h' news → Q (.int x t) { s with heap := h', toks := tk' }) (e : y = x) (F : Fr h₀ L h' m) (N : News h₀ L h' news) : Q (.int y t) { s with heap := h', toks := tk' } := by
  subst e
  exact hret t h' tk' F N
theorem ret_bool {h₀ h' : Heap} {L : Addr} {m : Str → Option Value} {news : List (Addr × Obj)} {s : Shared} {Q : Value → Shared → Prop} {tk' : Nat} {x y : Bool} (hret : ∀ (_t : Tok) (h' : Heap) (tk' : Nat), Fr h₀ L h' m → News h₀ L h' news → Q (.bool x) { s with heap := h', toks := tk' }) (e : y = x) (F : Fr h₀ L h' m) (N : News h₀ L h' news) : Q (.bool y) { s with heap := h', toks := tk' } := by
  subst e
  exact hret 0 h' tk' F N
end Mine
namespace Mine
theorem ret_val {h₀ h' : Heap} {L : Addr} {m : Str → Option Value} {news : List (Addr × Obj)} {s : Shared} {Q : Value → Shared → Prop} {tk' : Nat} {x y : Value} (hret : ∀ (_t : Tok) (h' : Heap) (tk' : Nat), Fr h₀ L h' m → News h₀ L h' news → Q x { s with heap := h', toks := tk' }) (e : y = x) (F : Fr h₀ L h' m) (N : News h₀ L h' news) : Q y { s with heap := h', toks := tk' } := by
  subst e
  exact hret 0 h' tk' F N
end Mine
namespace Mine
theorem good_true {l : OpenLaw} {cl : Str → Option Addr} {mean : ExcName → Option Value} {args : List WData} {s₁ s' : Shared} {L : Addr} {m : Str → Option Value} (F : Fr s₁.heap L s'.heap m) (hg : s'.gens = #[]) (hos : s'.os = s₁.os) :
    GoodW l.row.claim cl mean args s₁ (.ok (.ret (.bool true))) s' :=
  goodW_bool F hg (raisesW_false (fun _ h => nomatch h)) (postW_of rfl (w_eq_bool rfl rfl) rfl) hos
end Mine
namespace Mine
theorem ite_bne {x : Int} {A B : Prop} (h : B) : if (x != x) = true then A else B := by
  rw [if_neg (by simp)]; exact h
theorem ite_beq {x : Int} {A B : Prop} (h : A) : if (x == x) = true then A else B := by
  rw [if_pos (by simp)]; exact h
end Mine
namespace Mine
/-- a local's int, forgotten but for what P says of it -/
theorem store_some {M : Model} {A : Around} {env : Env} {y : Str} {tk : Tok} {Q : Unit → Shared → Prop} {E : Value → Shared → Prop} {s : Shared} {x : Int} (P : Int → Prop) (hx : P x) (h : ∀ z, P z → wpAny M A (storeName env y (.int z tk)) Q E s) : wpAny M A (storeName env y (.int x tk)) Q E s := h x hx
end Mine
namespace Mine
theorem ite_beq_ne {x y : Int} {A B : Prop} (hne : x ≠ y) (h : B) : if (x == y) = true then A else B := by
  rw [if_neg (by simpa using hne)]; exact h
theorem ite_beq_eq {x y : Int} {A B : Prop} (he : x = y) (h : A) : if (x == y) = true then A else B := by
  rw [if_pos (by simpa using he)]; exact h
theorem ite_bne_ne {x y : Int} {A B : Prop} (hne : x ≠ y) (h : A) : if (x != y) = true then A else B := by
  rw [if_pos (by simpa using hne)]; exact h
theorem ite_bne_eq {x y : Int} {A B : Prop} (he : x = y) (h : B) : if (x != y) = true then A else B := by
  rw [if_neg (by simpa using he)]; exact h
end Mine
namespace Mine
theorem good_self {l : OpenLaw} {cl : Str → Option Addr} {mean : ExcName → Option Value} {args : List WData} {s₁ s' : Shared} {L : Addr} {m : Str → Option Value} {x : Int} (F : Fr s₁.heap L s'.heap m) (hg : s'.gens = #[]) (hos : s'.os = s₁.os) :
    GoodW l.row.claim cl mean args s₁ (.ok (.ret (.bool (x == x)))) s' := by
  rw [beq_self_eq_true]; exact good_true F hg hos
end Mine
namespace Mine
/-! sizes of ints -/
theorem bits_le {x : Int} {n : Nat} (h : x.natAbs < 2 ^ n) : PySem.Builtin.Int.intBits x ≤ n := by
  unfold PySem.Builtin.Int.intBits
  split
  · exact Nat.zero_le _
  · rename_i hx
    have hx' : x.natAbs ≠ 0 := by
      intro e
      apply hx
      have : x = 0 := Int.natAbs_eq_zero.mp e
      rw [this]; rfl
    have := (Nat.log2_lt hx').mpr h
    omega
theorem bits_lt {x : Int} : x.natAbs < 2 ^ PySem.Builtin.Int.intBits x := by
  unfold PySem.Builtin.Int.intBits
  split
  · rename_i h
    have : x = 0 := by simpa using h
    rw [this]; decide
  · exact Nat.lt_log2_self
theorem bits_ge {x : Int} (h : x ≠ 0) : 2 ^ (PySem.Builtin.Int.intBits x - 1) ≤ x.natAbs := by
  unfold PySem.Builtin.Int.intBits
  split
  · rename_i h'
    exact absurd (by simpa using h') h
  · rw [Nat.add_sub_cancel]
    exact Nat.log2_self_le (by omega)
theorem log2_lt' {x : Int} {n : Nat} (hn : 0 < n) (h : x.natAbs < 2 ^ n) : x.natAbs.log2 < n := by
  rcases Nat.eq_zero_or_pos x.natAbs with h0 | hp
  · rw [h0]; simpa using hn
  · exact (Nat.log2_lt (Nat.ne_of_gt hp)).mpr h
theorem noPy {a b : Int} (h : b.natAbs < 2 ^ 2000) : PySem.Builtin.divisionGoesByPylong a b = false :=
  PyProof.noPylong_of_log2 (Nat.lt_of_lt_of_le (log2_lt' (by decide) h) (by decide))
theorem pow2_mono {a b : Nat} (h : a ≤ b) : 2 ^ a ≤ 2 ^ b := Nat.pow_le_pow_right (by decide) h
/-! the whole root -/
def rootN (r : Nat) : Nat → Nat
  | 0 => 0
  | n + 1 => if (rootN r n + 1) ^ r ≤ n + 1 then rootN r n + 1 else rootN r n
theorem rootN_facts {r : Nat} (hr : 1 ≤ r) : ∀ n, (rootN r n) ^ r ≤ n ∧ n < (rootN r n + 1) ^ r
  | 0 => by
    refine ⟨?_, ?_⟩
    · show 0 ^ r ≤ 0
      rw [Nat.zero_pow (by omega)]; exact Nat.le_refl _
    · show 0 < (0 + 1) ^ r
      rw [Nat.zero_add, Nat.one_pow]; decide
  | n + 1 => by
    have ih := rootN_facts hr n
    unfold rootN
    split
    · rename_i h
      refine ⟨h, ?_⟩
      have : (rootN r n + 1) ^ r < (rootN r n + 1 + 1) ^ r := Nat.pow_lt_pow_left (by omega) (by omega)
      omega
    · exact ⟨by omega, by omega⟩
theorem rootN_eq {r n t : Nat} (hr : 1 ≤ r) (h1 : t ^ r ≤ n) (h2 : n < (t + 1) ^ r) : rootN r n = t := by
  have h := rootN_facts hr n
  rcases Nat.lt_trichotomy (rootN r n) t with hlt | heq | hgt
  · have : (rootN r n + 1) ^ r ≤ t ^ r := Nat.pow_le_pow_left (by omega) r
    omega
  · exact heq
  · have : (t + 1) ^ r ≤ (rootN r n) ^ r := Nat.pow_le_pow_left (by omega) r
    omega
/-- the whole root of n ≥ 0 -/
def rootF (r n : Int) : Int := (rootN r.toNat n.toNat : Nat)
theorem rootF_nonneg (r n : Int) : 0 ≤ rootF r n := Int.natCast_nonneg _
theorem rootF_facts {r n : Int} (hr : 1 ≤ r) (hn : 0 ≤ n) : (rootF r n) ^ r.toNat ≤ n ∧ n < (rootF r n + 1) ^ r.toNat := by
  have h := rootN_facts (r := r.toNat) (by omega) n.toNat
  have e : (n.toNat : Int) = n := Int.toNat_of_nonneg hn
  refine ⟨?_, ?_⟩
  · have h1 : (((rootN r.toNat n.toNat) ^ r.toNat : Nat) : Int) ≤ (n.toNat : Int) := by exact_mod_cast h.1
    rw [e] at h1
    simpa [rootF] using h1
  · have h1 : (n.toNat : Int) < (((rootN r.toNat n.toNat + 1) ^ r.toNat : Nat) : Int) := by exact_mod_cast h.2
    rw [e] at h1
    simpa [rootF] using h1
theorem rootF_eq {r n t : Int} (hr : 1 ≤ r) (ht : 0 ≤ t) (h1 : t ^ r.toNat ≤ n) (h2 : n < (t + 1) ^ r.toNat) : rootF r n = t := by
  have hn : 0 ≤ n := Int.le_trans (Int.pow_nonneg ht) h1
  have e : (t.toNat : Int) = t := Int.toNat_of_nonneg ht
  have e2 : (n.toNat : Int) = n := Int.toNat_of_nonneg hn
  unfold rootF
  rw [rootN_eq (t := t.toNat) (by omega)]
  · exact e
  · have : ((t.toNat ^ r.toNat : Nat) : Int) ≤ (n.toNat : Int) := by
      rw [Int.natCast_pow, e, e2]; exact h1
    exact_mod_cast this
  · have : (n.toNat : Int) < (((t.toNat + 1) ^ r.toNat : Nat) : Int) := by
      rw [Int.natCast_pow, e2]
      rw [Int.natCast_add, e]; exact h2
    exact_mod_cast this
theorem rootF_one {n : Int} (hn : 0 ≤ n) : rootF 1 n = n := rootF_eq (by decide) hn (by show n ^ 1 ≤ n; rw [Int.pow_succ, Int.pow_zero]; omega) (by show n < (n + 1) ^ 1; rw [Int.pow_succ, Int.pow_zero]; omega)
theorem rootF_small {r n : Int} (hr : 1 ≤ r) (hn : 0 ≤ n) (h2 : n < 2) : rootF r n = n := by
  rcases (by omega : n = 0 ∨ n = 1) with rfl | rfl
  · refine rootF_eq hr (by decide) ?_ ?_
    · rw [Int.zero_pow (by omega)]; decide
    · rw [Int.zero_add, Int.one_pow]; decide
  · refine rootF_eq hr (by decide) ?_ ?_
    · rw [Int.one_pow]; decide
    · have h := Int.pow_pos (n := (2 : Int)) (m := r.toNat - 1) (by decide)
      have e : (2 : Int) ^ r.toNat = 2 ^ (r.toNat - 1) * 2 := by
        have := Int.pow_succ (2 : Int) (r.toNat - 1)
        rw [← this]; exact congrArg (fun k => (2 : Int) ^ k) (by omega)
      show (1 : Int) < 2 ^ r.toNat
      omega
/-! Newton's step for the square root -/
def newt (n x : Int) : Int := (x + n.fdiv x).fdiv 2
theorem sq_pos (a : Int) : 0 ≤ a * a := by
  rcases Int.le_total 0 a with h | h
  · exact Int.mul_nonneg h h
  · exact Int.mul_nonneg_of_nonpos_of_nonpos h h
/-- s is the whole root of n -/
def Sq (n s : Int) : Prop := 0 ≤ s ∧ s * s ≤ n ∧ n < (s + 1) * (s + 1)
theorem newt_ge {n x s : Int} (h : Sq n s) (hx : 0 < x) : s ≤ newt n x := by
  have hn : 0 ≤ n := Int.le_trans (sq_pos s) h.2.1
  unfold newt
  have e1 : n.fdiv x = n / x := Int.fdiv_eq_ediv_of_nonneg _ (by omega)
  have e2 : (x + n.fdiv x).fdiv 2 = (x + n.fdiv x) / 2 := Int.fdiv_eq_ediv_of_nonneg _ (by decide)
  rw [e2, e1]
  -- 2 s ≤ x + n / x, as x (2 s - x) ≤ s * s ≤ n
  have k : x * (2 * s - x) ≤ s * s := by
    have h0 := sq_pos (s - x)
    rw [Int.sub_mul, Int.mul_sub, Int.mul_sub] at h0
    rw [Int.mul_sub, Int.mul_comm 2 s, ← Int.mul_assoc]
    have : x * s * 2 = x * s + x * s := by omega
    have c : s * x = x * s := Int.mul_comm s x
    omega
  have k2 : 2 * s - x ≤ n / x := (Int.le_ediv_iff_mul_le hx).mpr (by rw [Int.mul_comm]; have := h.2.1; omega)
  omega
theorem newt_lt {n x s : Int} (h : Sq n s) (hx : s < x) : newt n x < x := by
  have e1 : n.fdiv x = n / x := Int.fdiv_eq_ediv_of_nonneg _ (by have := h.1; omega)
  have e2 : (x + n.fdiv x).fdiv 2 = (x + n.fdiv x) / 2 := Int.fdiv_eq_ediv_of_nonneg _ (by decide)
  unfold newt
  rw [e2, e1]
  have h1 : n < x * x := by
    have : (s + 1) * (s + 1) ≤ x * x := Int.mul_le_mul (by omega) (by omega) (by have := h.1; omega) (by have := h.1; omega)
    have := h.2.2
    omega
  have h2 : n / x < x := (Int.ediv_lt_iff_lt_mul (by have := h.1; omega)).mpr h1
  omega
theorem Sq.root {n s : Int} (h : Sq n s) : rootF 2 n = s := by
  refine rootF_eq (by decide) h.1 ?_ ?_
  · show s ^ 2 ≤ n
    rw [Int.pow_succ, Int.pow_succ, Int.pow_zero, Int.one_mul]; exact h.2.1
  · show n < (s + 1) ^ 2
    rw [Int.pow_succ, Int.pow_succ, Int.pow_zero, Int.one_mul]; exact h.2.2
theorem sq_root {n : Int} (hn : 0 ≤ n) : Sq n (rootF 2 n) := by
  have h := rootF_facts (r := 2) (by decide) hn
  refine ⟨rootF_nonneg _ _, ?_, ?_⟩
  · have := h.1
    rw [show Int.toNat 2 = 2 from rfl, Int.pow_succ, Int.pow_succ, Int.pow_zero, Int.one_mul] at this
    exact this
  · have := h.2
    rw [show Int.toNat 2 = 2 from rfl, Int.pow_succ, Int.pow_succ, Int.pow_zero, Int.one_mul] at this
    exact this
/-- the root is no greater than the number -/
theorem rootF_le {r n : Int} (hr : 1 ≤ r) (hn : 0 ≤ n) : rootF r n ≤ n := by
  have h := (rootF_facts hr hn).1
  have h0 := rootF_nonneg r n
  rcases (by omega : rootF r n = 0 ∨ 1 ≤ rootF r n) with e | e
  · omega
  · have : (rootF r n) ^ 1 ≤ (rootF r n) ^ r.toNat := by
      have hN : (rootN r.toNat n.toNat) ^ 1 ≤ (rootN r.toNat n.toNat) ^ r.toNat := Nat.pow_le_pow_right (by unfold rootF at e; omega) (by omega)
      unfold rootF
      exact_mod_cast hN
    rw [Int.pow_succ, Int.pow_zero, Int.one_mul] at this
    omega
end Mine
namespace Mine
abbrev cF (n : Int) : Int := (n * 4).fdiv 3
abbrev aF (n : Int) : Int := (↑(PySem.Builtin.Int.intBits (cF n)) : Int).fdiv (2 ^ Int.toNat 1)
abbrev xO (n : Int) : Int := (1 : Int) * 2 ^ (aF n).toNat
abbrev xE (n : Int) : Int := ((3 : Int) * 2 ^ (aF n).toNat).fdiv (2 ^ Int.toNat 2)
theorem two1 : ((2 : Int) ^ Int.toNat 1) = 2 := by decide
theorem two2 : ((2 : Int) ^ Int.toNat 2) = 4 := by decide
theorem newt_form (n y : Int) : (y + n.fdiv y).fdiv (2 ^ Int.toNat 1) = newt n y := by rw [two1]; rfl
theorem cF_facts {n : Int} (hn : 0 ≤ n) : 0 ≤ cF n ∧ 3 * cF n ≤ 4 * n ∧ 4 * n < 3 * cF n + 3 := by
  have := fdiv_fmod_facts (n * 4) 3
  have h2 := this.2.2.1 (by decide)
  have h1 := this.1
  unfold cF
  omega
theorem aF_facts (n : Int) : 0 ≤ aF n ∧ 2 * aF n ≤ (PySem.Builtin.Int.intBits (cF n) : Int) ∧ (PySem.Builtin.Int.intBits (cF n) : Int) ≤ 2 * aF n + 1 := by
  have := fdiv_fmod_facts (PySem.Builtin.Int.intBits (cF n) : Int) (2 ^ Int.toNat 1)
  unfold aF
  rw [two1] at *
  have h2 := this.2.2.1 (by decide)
  omega
theorem cF_bits {n : Int} (hn : 0 ≤ n) (hb : n.natAbs < 2 ^ 1900) : PySem.Builtin.Int.intBits (cF n) ≤ 1901 := by
  refine bits_le ?_
  have h := cF_facts hn
  have e : 2 ^ 1901 = 2 ^ 1900 * 2 := by rw [show 1901 = 1900 + 1 from rfl, Nat.pow_succ]
  generalize 2 ^ 1901 = B at *
  generalize 2 ^ 1900 = C at *
  omega
theorem aF_le {n : Int} (hn : 0 ≤ n) (hb : n.natAbs < 2 ^ 1900) : aF n ≤ 950 := by
  have h1 := cF_bits hn hb
  have h2 := aF_facts n
  omega
theorem shl1_ok {n : Int} (hn : 0 ≤ n) (hb : n.natAbs < 2 ^ 1900) : (PySem.Builtin.Int.intBits 1 : Int) + aF n ≤ 2 ^ 27 := by
  have := aF_le hn hb
  have e : PySem.Builtin.Int.intBits 1 = 1 := by decide
  rw [e]; omega
theorem shl3_ok {n : Int} (hn : 0 ≤ n) (hb : n.natAbs < 2 ^ 1900) : (PySem.Builtin.Int.intBits 3 : Int) + aF n ≤ 2 ^ 27 := by
  have := aF_le hn hb
  have e : PySem.Builtin.Int.intBits 3 = 2 := by decide
  rw [e]; omega
theorem bitAnd1 (k : Nat) : PySem.Builtin.bitAnd (k : Int) 1 = ((k % 2 : Nat) : Int) := by
  unfold PySem.Builtin.bitAnd
  rw [decide_eq_true (Int.natCast_nonneg k), decide_eq_true (by decide : (0 : Int) ≤ 1)]
  show ((((k : Int).toNat &&& (1 : Int).toNat : Nat)) : Int) = _
  rw [Int.toNat_natCast]
  show ((k &&& 1 : Nat) : Int) = _
  rw [Nat.and_one_is_mod]
theorem p2_pos (k : Nat) : (0 : Int) < 2 ^ k := Int.pow_pos (by decide)
/-- the two starting values, and the loop's word -/
def IsqGood (n x y : Int) : Prop := (x = y ∧ x = rootF 2 n) ∨ (1 ≤ n ∧ 0 < x ∧ x.natAbs < 2 ^ 1900 ∧ y = newt n x)
theorem root_ge1 {n : Int} (hn : 1 ≤ n) : 1 ≤ rootF 2 n := by
  have h := sq_root (n := n) (by omega)
  rcases (by have := h.1; omega : rootF 2 n = 0 ∨ 1 ≤ rootF 2 n) with e | e
  · have := h.2.2; rw [e] at this; omega
  · exact e
theorem p2_bd {k : Nat} (hk : k ≤ 951) : ((2 : Int) ^ k).natAbs < 2 ^ 1900 := by
  rw [Int.natAbs_pow]
  exact Nat.pow_lt_pow_right (by decide) (by omega)
theorem isq_odd {n : Int} (hn : 0 ≤ n) (hb : n.natAbs < 2 ^ 1900) (ho : PySem.Builtin.bitAnd (↑(PySem.Builtin.Int.intBits ((n * 4).fdiv 3))) 1 ≠ 0) :
    IsqGood n (xO n) ((xO n + n.fdiv (2 ^ (aF n).toNat)).fdiv (2 ^ Int.toNat 1)) := by
  right
  rw [bitAnd1] at ho
  have ha := aF_facts n
  have hc := cF_facts hn
  have hal := aF_le hn hb
  have hn1 : 1 ≤ n := by
    rcases (by omega : n = 0 ∨ 1 ≤ n) with e | e
    · exfalso; apply ho; rw [e]; rfl
    · exact e
  refine ⟨hn1, ?_, ?_, ?_⟩
  · unfold xO; rw [Int.one_mul]; exact p2_pos _
  · unfold xO; rw [Int.one_mul]; exact p2_bd (by omega)
  · rw [← newt_form]; unfold xO; rw [Int.one_mul]
theorem fdiv_fdiv (a b c : Int) (hb : 0 < b) (hc : 0 < c) : (a.fdiv b).fdiv c = a.fdiv (b * c) := by
  have hbc : 0 < b * c := Int.mul_pos hb hc
  rw [Int.fdiv_eq_ediv_of_nonneg _ (by omega), Int.fdiv_eq_ediv_of_nonneg _ (by omega), Int.fdiv_eq_ediv_of_nonneg _ (by omega)]
  rw [Int.ediv_ediv, if_neg (by omega)]; omega
theorem isq_even {n : Int} (hn : 0 ≤ n) (hb : n.natAbs < 2 ^ 1900) (ho : PySem.Builtin.bitAnd (↑(PySem.Builtin.Int.intBits ((n * 4).fdiv 3))) 1 = 0) :
    IsqGood n (xE n) ((xE n + ((n * 4).fdiv 3).fdiv (2 ^ (aF n).toNat)).fdiv (2 ^ Int.toNat 1)) := by
  rw [bitAnd1] at ho
  have ha := aF_facts n
  have hc := cF_facts hn
  have hal := aF_le hn hb
  have hb1 := bits_lt (x := cF n)
  rcases (by omega : aF n = 0 ∨ aF n = 1 ∨ 2 ≤ aF n) with e | e | e
  · -- d = 0
    have hd : PySem.Builtin.Int.intBits (cF n) = 0 := by unfold cF at *; omega
    rw [hd] at hb1
    have hc0 : cF n = 0 := by omega
    have hn0 : n = 0 := by omega
    left
    rw [hn0]
    have hr : rootF 2 0 = 0 := rootF_small (by decide) (by decide) (by decide)
    refine ⟨?_, ?_⟩
    · decide +kernel
    · rw [hr]; decide +kernel
  · have hd : PySem.Builtin.Int.intBits (cF n) = 2 := by unfold cF at *; omega
    have hb2 := bits_ge (x := cF n) (by intro e0; rw [e0] at hd; exact absurd hd (by decide))
    rw [hd] at hb1 hb2
    have hn2 : n = 2 := by omega
    left
    rw [hn2]
    have hr : rootF 2 2 = 1 := rootF_eq (by decide) (by decide) (by decide) (by decide)
    refine ⟨?_, ?_⟩
    · decide +kernel
    · rw [hr]; decide +kernel
  · right
    have e4 : ∃ k : Nat, (aF n).toNat = k + 2 := ⟨(aF n).toNat - 2, by omega⟩
    obtain ⟨k, hk⟩ := e4
    have ex : xE n = 3 * 2 ^ k := by
      unfold xE
      rw [two2, hk, Int.pow_succ, Int.pow_succ, Int.fdiv_eq_ediv_of_nonneg _ (by decide)]
      omega
    have hp := p2_pos k
    have hbits2 := bits_ge (x := cF n) (by
      intro e0
      have : PySem.Builtin.Int.intBits (cF n) = 0 := by rw [e0]; rfl
      omega)
    have hn1 : 1 ≤ n := by
      rcases (by omega : n = 0 ∨ 1 ≤ n) with e0 | e0
      · exfalso
        rw [e0] at hbits2
        have hz : (cF 0).natAbs = 0 := by decide
        have hq := Nat.pow_pos (n := PySem.Builtin.Int.intBits (cF 0) - 1) (by decide : 0 < 2)
        omega
      · exact e0
    refine ⟨hn1, by rw [ex]; omega, ?_, ?_⟩
    · rw [ex]
      have : (3 * 2 ^ k : Int) ≤ 2 ^ (k + 2) := by rw [Int.pow_succ, Int.pow_succ]; omega
      have h2 := p2_bd (k := k + 2) (by omega)
      have h3 := p2_pos (k + 2)
      omega
    · rw [← newt_form]
      have : ((n * 4).fdiv 3).fdiv (2 ^ (aF n).toNat) = n.fdiv (xE n) := by
        rw [fdiv_fdiv _ _ _ (by decide) (p2_pos _), ex, hk, Int.pow_succ, Int.pow_succ]
        rw [Int.fdiv_eq_ediv_of_nonneg _ (by omega), Int.fdiv_eq_ediv_of_nonneg _ (by omega)]
        rw [show (3 : Int) * (2 ^ k * 2 * 2) = (3 * 2 ^ k) * 4 by omega]
        exact Int.mul_ediv_mul_of_pos_left n (3 * 2 ^ k) (by decide)
      rw [this]
/-- the loop's word -/
def IsqInv (n x y : Int) : Prop := 1 ≤ n ∧ rootF 2 n ≤ x ∧ x.natAbs < 2 ^ 1902 ∧ y = newt n x
theorem newt_bd {n x : Int} (hn : 1 ≤ n) (hb : n.natAbs < 2 ^ 1900) (hx : 0 < x) (hx2 : x.natAbs < 2 ^ 1900) : (newt n x).natAbs < 2 ^ 1900 := by
  have h0 := newt_ge (sq_root (by omega : 0 ≤ n)) hx
  have h1 := root_ge1 hn
  have hq : n.fdiv x ≤ n := by
    rw [Int.fdiv_eq_ediv_of_nonneg _ (by omega)]
    exact Int.ediv_le_self x (by omega)
  have e2 : newt n x = (x + n.fdiv x) / 2 := Int.fdiv_eq_ediv_of_nonneg _ (by decide)
  generalize 2 ^ 1900 = C at *
  omega
theorem isq_div {n x y : Int} (hb : n.natAbs < 2 ^ 1900) (h : IsqGood n x y) (hne : x ≠ y) : y ≠ 0 ∧ y.natAbs < 2 ^ 1900 := by
  rcases h with h | ⟨hn, hx, hx2, e⟩
  · exact absurd h.1 hne
  · have h0 := newt_ge (sq_root (by omega : 0 ≤ n)) hx
    have h1 := root_ge1 hn
    rw [e]
    exact ⟨by omega, newt_bd hn hb hx hx2⟩
theorem isq_start {n x y : Int} (hb : n.natAbs < 2 ^ 1900) (h : IsqGood n x y) (hne : x ≠ y) : IsqInv n y ((y + n.fdiv y).fdiv (2 ^ Int.toNat 1)) := by
  have hd := isq_div hb h hne
  rcases h with h | ⟨hn, hx, hx2, e⟩
  · exact absurd h.1 hne
  · refine ⟨hn, ?_, Nat.lt_of_lt_of_le hd.2 (pow2_mono (by decide)), newt_form n y⟩
    rw [e]
    exact newt_ge (sq_root (by omega : 0 ≤ n)) hx
theorem isq_loop_div {n x y : Int} (h : IsqInv n x y) (hl : y < x) : y ≠ 0 ∧ y.natAbs < 2 ^ 2000 := by
  obtain ⟨hn, hx, hb, e⟩ := h
  have h1 := root_ge1 hn
  have h0 := newt_ge (sq_root (by omega : 0 ≤ n)) (by omega : 0 < x)
  rw [← e] at h0
  have hm := pow2_mono (by decide : 1902 ≤ 2000)
  generalize 2 ^ 1902 = C at *
  generalize 2 ^ 2000 = D at *
  omega
theorem isq_turn {n x y : Int} (h : IsqInv n x y) (hl : y < x) : IsqInv n y ((y + n.fdiv y).fdiv (2 ^ Int.toNat 1)) := by
  obtain ⟨hn, hx, hb, e⟩ := h
  have h1 := root_ge1 hn
  have h0 := newt_ge (sq_root (by omega : 0 ≤ n)) (by omega : 0 < x)
  rw [← e] at h0
  refine ⟨hn, h0, ?_, newt_form n y⟩
  generalize 2 ^ 1902 = C at *
  omega
theorem isq_meas {n x y : Int} (h : IsqInv n x y) (hl : y < x) : y.toNat < x.toNat := by
  obtain ⟨hn, hx, hb, e⟩ := h
  have h1 := root_ge1 hn
  omega
theorem isq_done {n x y : Int} (h : IsqInv n x y) (hl : ¬ y < x) : x = rootF 2 n := by
  obtain ⟨hn, hx, hb, e⟩ := h
  by_cases hlt : rootF 2 n < x
  · exfalso
    have := newt_lt (sq_root (by omega : 0 ≤ n)) hlt
    rw [← e] at this
    exact hl this
  · omega
theorem isq_same {n x y : Int} (h : IsqGood n x y) (he : x = y) : x = rootF 2 n := by
  rcases h with h | ⟨hn, hx, hx2, e⟩
  · exact h.2
  · have h0 := newt_ge (sq_root (by omega : 0 ≤ n)) hx
    by_cases hlt : rootF 2 n < x
    · exfalso
      have := newt_lt (sq_root (by omega : 0 ≤ n)) hlt
      rw [← e] at this
      omega
    · rw [← e] at h0; omega
end Mine
namespace Mine
abbrev kF (n r : Int) : Int := (↑(PySem.Builtin.Int.intBits n) : Int).fdiv r
theorem kF_facts {n r : Int} (hr : 1 ≤ r) (hb : n.natAbs < 2 ^ 1900) : 0 ≤ kF n r ∧ kF n r ≤ 1900 := by
  unfold kF
  rw [Int.fdiv_eq_ediv_of_nonneg _ (by omega)]
  have h1 := bits_le hb
  refine ⟨Int.ediv_nonneg (by omega) (by omega), ?_⟩
  exact Int.le_trans (Int.ediv_le_self _ (by omega)) (by omega)
theorem pow_ge_self {a : Int} {r : Nat} (ha : 1 ≤ a) (hr : 1 ≤ r) : a ≤ a ^ r := by
  have e : a ^ r = a ^ (r - 1) * a := by
    have := Int.pow_succ a (r - 1)
    rw [← this]; exact congrArg (fun k => a ^ k) (by omega)
  rw [e]
  have h : 1 ≤ a ^ (r - 1) := Int.pow_pos (by omega)
  have := Int.mul_le_mul_of_nonneg_right h (by omega : 0 ≤ a)
  omega
theorem pow_mono {a b : Int} {r : Nat} (ha : 0 ≤ a) (h : a ≤ b) : a ^ r ≤ b ^ r := by
  have hN : a.toNat ^ r ≤ b.toNat ^ r := Nat.pow_le_pow_left (by omega) r
  have : ((a.toNat ^ r : Nat) : Int) ≤ ((b.toNat ^ r : Nat) : Int) := by exact_mod_cast hN
  rw [Int.natCast_pow, Int.natCast_pow, Int.toNat_of_nonneg ha, Int.toNat_of_nonneg (by omega)] at this
  exact this
theorem lt_of_pow_lt {a b : Int} {r : Nat} (hb : 0 ≤ b) (h : a ^ r < b ^ r) : a < b := by
  by_cases hab : a < b
  · exact hab
  · have := pow_mono (r := r) hb (by omega : b ≤ a)
    omega
theorem pow_size {a r : Int} (ha : a.natAbs < 2 ^ 1910) (hr : 1 ≤ r) (hr2 : r ≤ 1000) : (PySem.Builtin.Int.intBits a : Int) * r ≤ 2 ^ 27 := by
  have h1 := bits_le ha
  have : (PySem.Builtin.Int.intBits a : Int) * r ≤ 1910 * 1000 := Int.mul_le_mul (by omega) hr2 (by omega) (by decide)
  omega
theorem one_shl_ok {n r : Int} (hr : 1 ≤ r) (hb : n.natAbs < 2 ^ 1900) : (PySem.Builtin.Int.intBits 1 : Int) + kF n r ≤ 2 ^ 27 := by
  have := kF_facts hr hb
  have e : PySem.Builtin.Int.intBits 1 = 1 := by decide
  rw [e]; omega
/-- the first loop -/
def In1 (lo : Int) : Prop := 0 ≤ lo ∧ lo.natAbs < 2 ^ 1910
theorem start_bd {n r : Int} (hr : 1 ≤ r) (hb : n.natAbs < 2 ^ 1900) : ((1 : Int) * 2 ^ (kF n r).toNat).natAbs < 2 ^ 1910 := by
  have := kF_facts hr hb
  rw [Int.one_mul, Int.natAbs_pow]
  exact Nat.pow_lt_pow_right (by decide) (by omega)
theorem in1_start {n r : Int} (hr : 1 ≤ r) (hb : n.natAbs < 2 ^ 1900) : In1 ((1 : Int) * 2 ^ (kF n r).toNat) :=
  ⟨by rw [Int.one_mul]; exact Int.le_of_lt (p2_pos _), start_bd hr hb⟩
theorem in1_turn {lo : Int} (h : In1 lo) : In1 (lo.fdiv (2 ^ Int.toNat 2)) := by
  obtain ⟨h1, h2⟩ := h
  unfold In1
  rw [two2, Int.fdiv_eq_ediv_of_nonneg _ (by decide)]
  generalize 2 ^ 1910 = C at *
  omega
theorem in1_meas {n r lo : Int} (hn : 0 ≤ n) (hr : 1 ≤ r) (h : In1 lo) (hl : n < lo ^ r.toNat) : (lo.fdiv (2 ^ Int.toNat 2)).toNat < lo.toNat := by
  have h0 : lo ≠ 0 := by
    intro e
    rw [e, Int.zero_pow (by omega)] at hl
    omega
  rw [two2, Int.fdiv_eq_ediv_of_nonneg _ (by decide)]
  have := h.1
  omega
/-- the second loop -/
def In2 (up : Int) : Prop := 1 ≤ up ∧ up.natAbs < 2 ^ 1910
theorem in2_start {n r : Int} (hr : 1 ≤ r) (hb : n.natAbs < 2 ^ 1900) : In2 ((1 : Int) * 2 ^ (kF n r).toNat) :=
  ⟨by rw [Int.one_mul]; exact p2_pos _, start_bd hr hb⟩
theorem in2_turn {n r up : Int} (hr : 1 ≤ r) (hb : n.natAbs < 2 ^ 1900) (h : In2 up) (hl : up ^ r.toNat ≤ n) : In2 (up * 2 ^ Int.toNat 2) := by
  have h1 := pow_ge_self (r := r.toNat) h.1 (by omega)
  have h0 := h.1
  rw [two2]
  refine ⟨by omega, ?_⟩
  have e : 2 ^ 1910 = 2 ^ 1900 * 1024 := by rw [show 1910 = 1900 + 10 from rfl, Nat.pow_add]
  rw [e]
  generalize 2 ^ 1900 = C at *
  omega
theorem in2_meas {n r up : Int} (hr : 1 ≤ r) (h : In2 up) (hl : up ^ r.toNat ≤ n) : (n + 1 - up * 2 ^ Int.toNat 2).toNat < (n + 1 - up).toNat := by
  have h1 := pow_ge_self (r := r.toNat) h.1 (by omega)
  have h0 := h.1
  rw [two2]
  omega
theorem in2_shl {up : Int} (h : In2 up) : (PySem.Builtin.Int.intBits up : Int) + 2 ≤ 2 ^ 27 := by
  have := bits_le h.2
  omega
/-- the third loop -/
def In3 (n r lo up : Int) : Prop := 0 ≤ lo ∧ lo < up ∧ lo ^ r.toNat ≤ n ∧ n < up ^ r.toNat ∧ up.natAbs < 2 ^ 1910
theorem in3_start {n r lo up : Int} (h1 : In1 lo) (h2 : In2 up) (hlo : ¬ n < lo ^ r.toNat) (hup : ¬ up ^ r.toNat ≤ n) : In3 n r lo up :=
  ⟨h1.1, lt_of_pow_lt (by have := h2.1; omega) (by omega : lo ^ r.toNat < up ^ r.toNat), by omega, by omega, h2.2⟩
theorem mid_facts {n r lo up : Int} (h : In3 n r lo up) (hne : lo ≠ up - 1) : lo < (lo + up).fdiv 2 ∧ (lo + up).fdiv 2 < up ∧ ((lo + up).fdiv 2).natAbs < 2 ^ 1910 := by
  rw [Int.fdiv_eq_ediv_of_nonneg _ (by decide)]
  obtain ⟨a, b, c, d, e⟩ := h
  generalize 2 ^ 1910 = C at *
  omega
theorem in3_low {n r lo up : Int} (h : In3 n r lo up) (hne : lo ≠ up - 1) (hm : ((lo + up).fdiv 2) ^ r.toNat < n) : In3 n r ((lo + up).fdiv 2) up := by
  have k := mid_facts h hne
  obtain ⟨a, b, c, d, e⟩ := h
  exact ⟨by omega, k.2.1, by omega, d, e⟩
theorem in3_up {n r lo up : Int} (h : In3 n r lo up) (hne : lo ≠ up - 1) (hm : n < ((lo + up).fdiv 2) ^ r.toNat) : In3 n r lo ((lo + up).fdiv 2) := by
  have k := mid_facts h hne
  obtain ⟨a, b, c, d, e⟩ := h
  exact ⟨a, k.1, c, hm, k.2.2⟩
theorem in3_low_m {n r lo up : Int} (h : In3 n r lo up) (hne : lo ≠ up - 1) : (up - (lo + up).fdiv 2).toNat < (up - lo).toNat := by
  have k := mid_facts h hne
  omega
theorem in3_up_m {n r lo up : Int} (h : In3 n r lo up) (hne : lo ≠ up - 1) : ((lo + up).fdiv 2 - lo).toNat < (up - lo).toNat := by
  have k := mid_facts h hne
  omega
theorem in3_hit {n r lo up : Int} (hr : 1 ≤ r) (h : In3 n r lo up) (hne : lo ≠ up - 1) (hm : ((lo + up).fdiv 2) ^ r.toNat = n) : (lo + up).fdiv 2 = rootF r n := by
  have k := mid_facts h hne
  have h0 := h.1
  refine (rootF_eq hr (by omega) (by omega) ?_).symm
  rw [← hm]
  have e1 : ((lo + up).fdiv 2) ^ r.toNat = (((lo + up).fdiv 2).toNat ^ r.toNat : Nat) := by rw [Int.natCast_pow, Int.toNat_of_nonneg (by omega)]
  have e2 : ((lo + up).fdiv 2 + 1) ^ r.toNat = ((((lo + up).fdiv 2).toNat + 1) ^ r.toNat : Nat) := by rw [Int.natCast_pow, Int.natCast_add, Int.toNat_of_nonneg (by omega)]; rfl
  rw [e1, e2]
  exact_mod_cast Nat.pow_lt_pow_left (by omega) (by omega)
theorem in3_done {n r lo up : Int} (hr : 1 ≤ r) (h : In3 n r lo up) (hne : lo = up - 1) : lo = rootF r n := by
  obtain ⟨a, b, c, d, e⟩ := h
  refine (rootF_eq hr a c ?_).symm
  rw [hne, Int.sub_add_cancel]; exact d
end Mine
namespace Mine
theorem pow1 {a r : Int} (h : In1 a) (hr : 1 ≤ r) (hr2 : r ≤ 1000) : (PySem.Builtin.Int.intBits a : Int) * r ≤ 2 ^ 27 := pow_size h.2 hr hr2
theorem pow2 {a r : Int} (h : In2 a) (hr : 1 ≤ r) (hr2 : r ≤ 1000) : (PySem.Builtin.Int.intBits a : Int) * r ≤ 2 ^ 27 := pow_size h.2 hr hr2
theorem pow3 {n r lo up : Int} (h : In3 n r lo up) (hne : lo ≠ up - 1) (hr : 1 ≤ r) (hr2 : r ≤ 1000) : (PySem.Builtin.Int.intBits ((lo + up).fdiv 2) : Int) * r ≤ 2 ^ 27 := pow_size (mid_facts h hne).2.2 hr hr2
theorem r_bd {r : Int} (hr : 1 ≤ r) (hr2 : r ≤ 1000) : r ≠ 0 ∧ r.natAbs < 2 ^ 2000 := by
  refine ⟨by omega, ?_⟩
  have : r.natAbs < 2 ^ 10 := by omega
  exact Nat.lt_of_lt_of_le this (pow2_mono (by decide))
end Mine
namespace Mine
theorem in3_up' {n r lo up : Int} (h : In3 n r lo up) (hne : lo ≠ up - 1) (hm1 : ((lo + up).fdiv 2) ^ r.toNat ≠ n) (hm2 : ¬ ((lo + up).fdiv 2) ^ r.toNat < n) : In3 n r lo ((lo + up).fdiv 2) := in3_up h hne (by omega)
end Mine
namespace Mine
theorem pow_lt {a b : Int} {r : Nat} (ha : 0 ≤ a) (h : a < b) (hr : 1 ≤ r) : a ^ r < b ^ r := by
  have hN : a.toNat ^ r < b.toNat ^ r := Nat.pow_lt_pow_left (by omega) (by omega)
  have : ((a.toNat ^ r : Nat) : Int) < ((b.toNat ^ r : Nat) : Int) := by exact_mod_cast hN
  rw [Int.natCast_pow, Int.natCast_pow, Int.toNat_of_nonneg ha, Int.toNat_of_nonneg (by omega)] at this
  exact this
theorem odd_form {r : Int} (h0 : 0 ≤ r) (ho : r.fmod 2 ≠ 0) : ∃ k : Nat, r.toNat = 2 * k + 1 := by
  have h := fdiv_fmod_facts r 2
  have h2 := h.2.2.1 (by decide)
  refine ⟨(r.fdiv 2).toNat, ?_⟩
  omega
theorem even_form {r : Int} (h0 : 0 ≤ r) (ho : r.fmod 2 = 0) : ∃ k : Nat, r.toNat = 2 * k := by
  have h := fdiv_fmod_facts r 2
  refine ⟨(r.fdiv 2).toNat, ?_⟩
  omega
theorem sq_pow (x : Int) (k : Nat) : x ^ (2 * k) = (x * x) ^ k := by
  rw [Int.pow_mul, show x ^ 2 = x * x by rw [Int.pow_succ, Int.pow_succ, Int.pow_zero, Int.one_mul]]
theorem neg_pow_odd (v : Int) {r : Nat} {k : Nat} (h : r = 2 * k + 1) : (-v) ^ r = -(v ^ r) := by
  rw [h, Int.pow_succ, Int.pow_succ, sq_pow, sq_pow, Int.neg_mul_neg, Int.mul_neg]
/-- v's power r is n, and introot finds v -/
def Hit (n r v : Int) : Prop := v ^ r.toNat = n ∧ (0 ≤ v ∨ r.fmod 2 ≠ 0) ∧ 1 ≤ r ∧ r ≤ 1000 ∧ n.natAbs < 2 ^ 1900
/-- no whole number that introot tries has n as its power r -/
def Miss (n r : Int) : Prop := ((0 ≤ n ∧ (rootF r n) ^ r.toNat ≠ n) ∨ (n < 0 ∧ (r.fmod 2 = 0 ∨ (rootF r (-n)) ^ r.toNat ≠ -n))) ∧ 1 ≤ r ∧ r ≤ 1000 ∧ n.natAbs < 2 ^ 1900
theorem Hit.nonneg {n r v : Int} (h : Hit n r v) (hv : 0 ≤ v) : 0 ≤ n := by rw [← h.1]; exact Int.pow_nonneg hv
theorem root_self {r v : Int} (hr : 1 ≤ r) (hv : 0 ≤ v) : rootF r (v ^ r.toNat) = v := rootF_eq hr hv (Int.le_refl _) (pow_lt hv (by omega) (by omega))
theorem Hit.root {n r v : Int} (h : Hit n r v) (hv : 0 ≤ v) : rootF r n = v := by rw [← h.1]; exact root_self h.2.2.1 hv
theorem Hit.neg {n r v : Int} (h : Hit n r v) (hv : ¬ 0 ≤ v) : n < 0 ∧ r.fmod 2 ≠ 0 ∧ rootF r (-n) = -v := by
  obtain ⟨he, ho, hr, _, _⟩ := h
  have ho' : r.fmod 2 ≠ 0 := by rcases ho with a | a; exact absurd a hv; exact a
  obtain ⟨k, hk⟩ := odd_form (by omega) ho'
  have e := neg_pow_odd v hk
  have hp : 0 < (-v) ^ r.toNat := Int.pow_pos (by omega)
  refine ⟨by omega, ho', ?_⟩
  rw [← he, ← e]
  exact root_self hr (by omega)
/-! the two quick looks -/
theorem and2 (a : Nat) : PySem.Builtin.bitAnd (a : Int) 2 = ((2 * (a / 2 % 2) : Nat) : Int) := by
  unfold PySem.Builtin.bitAnd
  rw [decide_eq_true (Int.natCast_nonneg a), decide_eq_true (by decide : (0 : Int) ≤ 2)]
  show ((((a : Int).toNat &&& (2 : Int).toNat : Nat)) : Int) = _
  rw [Int.toNat_natCast]
  show ((a &&& 2 : Nat) : Int) = _
  have h1 : (a &&& 2) % 2 ^ 2 = (a % 2 ^ 2) &&& (2 % 2 ^ 2) := Nat.and_mod_two_pow
  have h2 : a &&& 2 ≤ 2 := Nat.and_le_right
  have h3 : a &&& 2 = (a % 4) &&& 2 := by
    have : (a &&& 2) % 4 = (a % 4) &&& 2 := h1
    omega
  rw [h3]
  have h4 : a % 4 = 0 ∨ a % 4 = 1 ∨ a % 4 = 2 ∨ a % 4 = 3 := by omega
  have h5 : a / 2 % 2 = (a % 4) / 2 := by omega
  rw [h5]
  rcases h4 with e | e | e | e <;> rw [e] <;> rfl
theorem and7 (n : Int) : PySem.Builtin.bitAnd n 7 = n % 8 := by
  unfold PySem.Builtin.bitAnd
  rw [decide_eq_true (by decide : (0 : Int) ≤ 7)]
  have k : ∀ a : Nat, a &&& 7 = a % 8 := fun a => Nat.and_two_pow_sub_one_eq_mod a 3
  by_cases h : 0 ≤ n
  · rw [decide_eq_true h]
    show ((n.toNat &&& (7 : Int).toNat : Nat) : Int) = _
    rw [show (7 : Int).toNat = 7 from rfl, k]
    omega
  · rw [decide_eq_false h]
    show (7 : Int) - (((7 : Int).toNat &&& (PySem.Builtin.bitNot n).toNat : Nat) : Int) = _
    unfold PySem.Builtin.bitNot
    rw [show (7 : Int).toNat = 7 from rfl, Nat.and_comm, k]
    omega
theorem sq_mod4 (v : Int) : v * v % 4 = 0 ∨ v * v % 4 = 1 := by
  have h : v * v % 4 = (v % 4) * (v % 4) % 4 := Int.mul_emod v v 4
  have h2 : v % 4 = 0 ∨ v % 4 = 1 ∨ v % 4 = 2 ∨ v % 4 = 3 := by omega
  rcases h2 with e | e | e | e <;> rw [e] at h <;> omega
theorem cube_mod8 (v : Int) : v * v * v % 8 ≠ 2 ∧ v * v * v % 8 ≠ 4 ∧ v * v * v % 8 ≠ 6 := by
  have h : v * v * v % 8 = (v % 8) * (v % 8) * (v % 8) % 8 := by
    rw [Int.mul_emod, Int.mul_emod v v, Int.mul_emod ((v % 8) * (v % 8)) (v % 8), Int.emod_emod]
  have h2 : v % 8 = 0 ∨ v % 8 = 1 ∨ v % 8 = 2 ∨ v % 8 = 3 ∨ v % 8 = 4 ∨ v % 8 = 5 ∨ v % 8 = 6 ∨ v % 8 = 7 := by omega
  rcases h2 with e | e | e | e | e | e | e | e <;> rw [e] at h <;> omega
theorem pow2_eq (v : Int) : v ^ Int.toNat 2 = v * v := by rw [show Int.toNat 2 = 2 from rfl, Int.pow_succ, Int.pow_succ, Int.pow_zero, Int.one_mul]
theorem pow3_eq (v : Int) : v ^ Int.toNat 3 = v * v * v := by rw [show Int.toNat 3 = 3 from rfl, Int.pow_succ, Int.pow_succ, Int.pow_succ, Int.pow_zero, Int.one_mul]
theorem hit_and2 {n r v : Int} (h : Hit n r v) (hr : r = 2) : PySem.Builtin.bitAnd n 2 = 0 := by
  have he := h.1
  rw [hr, pow2_eq] at he
  have hn : 0 ≤ n := by rw [← he]; exact sq_pos v
  have e : n = (n.toNat : Int) := (Int.toNat_of_nonneg hn).symm
  rw [e, and2]
  have := sq_mod4 v
  rw [he] at this
  have : n.toNat / 2 % 2 = 0 := by omega
  rw [this]; rfl
theorem hit_and7 {n r v : Int} (h : Hit n r v) (hr : r = 3) : PySem.Builtin.bitAnd n 7 ≠ 2 ∧ PySem.Builtin.bitAnd n 7 ≠ 4 ∧ PySem.Builtin.bitAnd n 7 ≠ 6 := by
  have he := h.1
  rw [hr, pow3_eq] at he
  rw [and7, ← he]
  exact cube_mod8 v
end Mine
namespace Mine
theorem hit_bd {n r v : Int} (h : Hit n r v) (hv : 0 ≤ v) : v.natAbs < 2 ^ 1910 := by
  have h1 := rootF_le h.2.2.1 (h.nonneg hv)
  rw [h.root hv] at h1
  have h2 := h.2.2.2.2
  have := pow2_mono (by decide : 1900 ≤ 1910)
  generalize 2 ^ 1910 = C at *
  generalize 2 ^ 1900 = D at *
  omega
theorem hit_bdn {n r v : Int} (h : Hit n r v) (hv : ¬ 0 ≤ v) : v.natAbs < 2 ^ 1910 := by
  have h0 := h.neg hv
  have h1 := rootF_le h.2.2.1 (by omega : 0 ≤ -n)
  rw [h0.2.2] at h1
  have h2 := h.2.2.2.2
  have := pow2_mono (by decide : 1900 ≤ 1910)
  generalize 2 ^ 1910 = C at *
  generalize 2 ^ 1900 = D at *
  omega
theorem rootp_bd {n r : Int} (hr : 1 ≤ r) (hn : 0 ≤ n) (hb : n.natAbs < 2 ^ 1900) : (rootF r n).natAbs < 2 ^ 1910 := by
  have h1 := rootF_le hr hn
  have h0 := rootF_nonneg r n
  have := pow2_mono (by decide : 1900 ≤ 1910)
  generalize 2 ^ 1910 = C at *
  generalize 2 ^ 1900 = D at *
  omega
theorem rootn_bd {n r : Int} (hr : 1 ≤ r) (hn : n < 0) (hb : n.natAbs < 2 ^ 1900) : (-rootF r (-n)).natAbs < 2 ^ 1910 := by
  rw [Int.natAbs_neg]
  exact rootp_bd hr (by omega) (by rw [Int.natAbs_neg]; exact hb)
theorem miss_odd_end {n r : Int} (hr : 1 ≤ r) (ho : r.fmod 2 ≠ 0) (h : (rootF r (-n)) ^ r.toNat ≠ -n) (h2 : (-rootF r (-n)) ^ r.toNat = n) : False := by
  obtain ⟨k, hk⟩ := odd_form (by omega) ho
  rw [neg_pow_odd _ hk] at h2
  omega
end Mine
namespace Mine
theorem hit_any {n r v : Int} (h : Hit n r v) (hr : r = 3) (ha : ([2, 4, 6].any fun x => x == PySem.Builtin.bitAnd n 7) = true) : False := by
  have k := hit_and7 h hr
  simp only [List.any_cons, List.any_nil, Bool.or_false, Bool.or_eq_true, beq_iff_eq] at ha
  omega
theorem neg_two {n r v : Int} (h : Hit n r v) (hv : ¬ 0 ≤ v) (hr : r = 2) : False := by
  have := (h.neg hv).2.1
  rw [hr] at this
  exact this (by decide)
end Mine
namespace Mine
def TT (t : Int) : Prop := 2 ≤ t ∧ t ≤ 10 ^ 25 + 20
def RR (r : Int) : Prop := 2 ≤ r ∧ r ≤ 9
def UU (u : Int) : Prop := 2 ≤ u ∧ u ≤ 10 ^ 8 + 10
def QQ (q : Int) : Prop := 2 ≤ q ∧ q ≤ 4
def BB (t r b : Int) : Prop := t ^ r.toNat < b ∧ b < (t + 1) ^ r.toNat
def PP (p : Int) : Prop := p.natAbs < 2 ^ 300
theorem tt_ok (a : Int) : TT (2 + (if a < 0 then -a else a).fmod (10 ^ Int.toNat 25 + 13)) := by
  have := (fdiv_fmod_facts (if a < 0 then -a else a) (10 ^ Int.toNat 25 + 13)).2.2.1 (by decide +kernel)
  generalize (if a < 0 then -a else a).fmod (10 ^ Int.toNat 25 + 13) = k at *
  have e : (10 : Int) ^ Int.toNat 25 = 10 ^ 25 := rfl
  rw [e] at this
  unfold TT
  omega
theorem tt_ne : (10 : Int) ^ Int.toNat 25 + 13 ≠ 0 := by decide +kernel
theorem uu_ok (a : Int) : UU (2 + (if a < 0 then -a else a).fmod (10 ^ Int.toNat 8 + 7)) := by
  have := (fdiv_fmod_facts (if a < 0 then -a else a) (10 ^ Int.toNat 8 + 7)).2.2.1 (by decide +kernel)
  generalize (if a < 0 then -a else a).fmod (10 ^ Int.toNat 8 + 7) = k at *
  have e : (10 : Int) ^ Int.toNat 8 = 10 ^ 8 := rfl
  rw [e] at this
  unfold UU
  omega
theorem uu_ne : (10 : Int) ^ Int.toNat 8 + 7 ≠ 0 := by decide +kernel
theorem rr_ok (a : Int) : RR (2 + a.fmod 8) := by
  have := (fdiv_fmod_facts a 8).2.2.1 (by decide)
  unfold RR; omega
theorem qq_ok (a : Int) : QQ (2 + a.fmod 3) := by
  have := (fdiv_fmod_facts a 3).2.2.1 (by decide)
  unfold QQ; omega
def cutF (v top : Int) : Int := if v < 0 then -((-v).fmod top) else v.fmod top
theorem big_pos : (0 : Int) < 10 ^ Int.toNat 60 + 7 := by decide +kernel
theorem pp_ok (v : Int) : PP (cutF v (10 ^ Int.toNat 60 + 7)) := by
  have h1 := (fdiv_fmod_facts v (10 ^ Int.toNat 60 + 7)).2.2.1 big_pos
  have h2 := (fdiv_fmod_facts (-v) (10 ^ Int.toNat 60 + 7)).2.2.1 big_pos
  have hb : (10 ^ Int.toNat 60 + 7 : Int).toNat < 2 ^ 300 := by decide +kernel
  unfold PP cutF
  generalize (10 ^ Int.toNat 60 + 7 : Int) = W at *
  generalize 2 ^ 300 = C at *
  split <;> omega
section
variable {t r b u q p : Int}
theorem tt_bd (h : TT t) : t.natAbs < 2 ^ 84 ∧ (t + 1).natAbs < 2 ^ 84 := by
  unfold TT at h
  have : (10 : Nat) ^ 25 + 30 < 2 ^ 84 := by decide +kernel
  omega
theorem uu_bd (h : UU u) : u.natAbs < 2 ^ 28 := by
  unfold UU at h
  omega
theorem rr0 (h : RR r) : 0 ≤ r := by have := h.1; omega
theorem rr1 (h : RR r) : 1 ≤ r := by have := h.1; omega
theorem rr1000 (h : RR r) : r ≤ 1000 := by have := h.2; omega
theorem qq1 (h : QQ q) : 1 ≤ q := by have := h.1; omega
theorem qq1000 (h : QQ q) : q ≤ 1000 := by have := h.2; omega
theorem rq_facts (hr : RR r) (hq : QQ q) : 1 ≤ r * q ∧ r * q ≤ 36 := by
  have h1 := hr.1; have h2 := hr.2; have h3 := hq.1; have h4 := hq.2
  refine ⟨?_, ?_⟩
  · have : 1 * 1 ≤ r * q := Int.mul_le_mul (by omega) (by omega) (by decide) (by omega)
    omega
  · have : r * q ≤ 9 * 4 := Int.mul_le_mul h2 h4 (by omega) (by decide)
    omega
theorem t_size (h : TT t) (hr : RR r) : (PySem.Builtin.Int.intBits t : Int) * r ≤ 2 ^ 27 :=
  pow_size (Nat.lt_of_lt_of_le (tt_bd h).1 (pow2_mono (by decide))) (rr1 hr) (rr1000 hr)
theorem t_size1 (h : TT t) (hr : RR r) : (PySem.Builtin.Int.intBits (t + 1) : Int) * r ≤ 2 ^ 27 :=
  pow_size (Nat.lt_of_lt_of_le (tt_bd h).2 (pow2_mono (by decide))) (rr1 hr) (rr1000 hr)
theorem u_size (h : UU u) (hr : RR r) : (PySem.Builtin.Int.intBits u : Int) * r ≤ 2 ^ 27 :=
  pow_size (Nat.lt_of_lt_of_le (uu_bd h) (pow2_mono (by decide))) (rr1 hr) (rr1000 hr)
theorem uq_size (h : UU u) (hr : RR r) (hq : QQ q) : (PySem.Builtin.Int.intBits u : Int) * (r * q) ≤ 2 ^ 27 :=
  pow_size (Nat.lt_of_lt_of_le (uu_bd h) (pow2_mono (by decide))) (rq_facts hr hq).1 (by have := (rq_facts hr hq).2; omega)
theorem rq0 (hr : RR r) (hq : QQ q) : 0 ≤ r * q := by have := (rq_facts hr hq).1; omega
theorem rq_mul (hr : RR r) : PySem.IntMulOk r q := by
  have h1 := hr.1; have h2 := hr.2
  exact PySem.IntMulOk.of_left (PySem.intBits_le_64 (by omega) (by omega))
theorem bd_pow {x : Int} {m k : Nat} (h : x.natAbs < 2 ^ m) (hk : m * k ≤ 1899) : (x ^ k).natAbs < 2 ^ 1900 := by
  rw [Int.natAbs_pow]
  have h1 : x.natAbs ^ k ≤ (2 ^ m) ^ k := Nat.pow_le_pow_left (Nat.le_of_lt h) k
  rw [← Nat.pow_mul] at h1
  exact Nat.lt_of_le_of_lt h1 (Nat.pow_lt_pow_right (by decide) (by omega))
theorem low_bd (h : TT t) (hr : RR r) : (t ^ r.toNat).natAbs < 2 ^ 1900 := bd_pow (tt_bd h).1 (by have := hr.2; omega)
theorem high_bd (h : TT t) (hr : RR r) : ((t + 1) ^ r.toNat).natAbs < 2 ^ 1900 := bd_pow (tt_bd h).2 (by have := hr.2; omega)
theorem low_pos (h : TT t) : 1 ≤ t ^ r.toNat := Int.pow_pos (by have := h.1; omega)
/-- powers past the first leave room -/
theorem room (a : Int) (ha : 1 ≤ a) (hr : RR r) : a ^ r.toNat + 2 ≤ (a + 1) ^ r.toNat := by
  have h1 := hr.1
  have e : ∀ x : Int, x ^ r.toNat = x ^ (r.toNat - 1) * x := fun x => by
    have := Int.pow_succ x (r.toNat - 1)
    rw [← this]; exact congrArg (fun k => x ^ k) (by omega)
  rw [e, e]
  have h2 : a ^ (r.toNat - 1) ≤ (a + 1) ^ (r.toNat - 1) := pow_mono (by omega) (by omega)
  have h3 : 2 ≤ (a + 1) ^ (r.toNat - 1) := by
    have := pow_ge_self (a := a + 1) (r := r.toNat - 1) (by omega) (by omega)
    omega
  have h4 : a ^ (r.toNat - 1) * a ≤ (a + 1) ^ (r.toNat - 1) * a := Int.mul_le_mul_of_nonneg_right h2 (by omega)
  rw [Int.mul_add, Int.mul_one]
  omega
theorem gap_ne (h : TT t) (hr : RR r) : (t + 1) ^ r.toNat - t ^ r.toNat - 1 ≠ 0 := by
  have := room t (by have := h.1; omega) hr
  omega
theorem bb_ok (c : Int) (h : TT t) (hr : RR r) : BB t r (t ^ r.toNat + 1 + c.fmod ((t + 1) ^ r.toNat - t ^ r.toNat - 1)) := by
  have := room t (by have := h.1; omega) hr
  have := (fdiv_fmod_facts c ((t + 1) ^ r.toNat - t ^ r.toNat - 1)).2.2.1 (by omega)
  exact ⟨by omega, by omega⟩
theorem hit_low (h : TT t) (hr : RR r) : Hit (t ^ r.toNat) r t := ⟨rfl, .inl (by have := h.1; omega), rr1 hr, rr1000 hr, low_bd h hr⟩
theorem hit_nlow (h : TT t) (hr : RR r) (ho : r.fmod 2 = 1) : Hit (-(t ^ r.toNat)) r (-t) := by
  obtain ⟨k, hk⟩ := odd_form (rr0 hr) (by omega)
  exact ⟨neg_pow_odd t hk, .inr (by omega), rr1 hr, rr1000 hr, by rw [Int.natAbs_neg]; exact low_bd h hr⟩
theorem hit_m1 (hr : RR r) (ho : r.fmod 2 = 1) : Hit (-1) r (-1) := by
  obtain ⟨k, hk⟩ := odd_form (rr0 hr) (by omega)
  refine ⟨?_, .inr (by omega), rr1 hr, rr1000 hr, ?_⟩
  · rw [neg_pow_odd 1 hk, Int.one_pow]
  · exact Nat.lt_of_lt_of_le (by decide : (-1 : Int).natAbs < 2 ^ 1) (pow2_mono (by decide))
theorem hit_0 (hr : RR r) : Hit 0 r 0 := ⟨Int.zero_pow (by have := rr1 hr; omega), .inl (by decide), rr1 hr, rr1000 hr, Nat.pow_pos (by decide)⟩
theorem hit_1 (hr : RR r) : Hit 1 r 1 := ⟨Int.one_pow, .inl (by decide), rr1 hr, rr1000 hr, Nat.lt_of_lt_of_le (by decide : (1 : Int).natAbs < 2 ^ 1) (pow2_mono (by decide))⟩
theorem hit_plain (h : PP p) : Hit p 1 p := ⟨by show p ^ 1 = p; rw [Int.pow_succ, Int.pow_zero, Int.one_mul], .inr (by decide), by decide, by decide, Nat.lt_of_lt_of_le h (pow2_mono (by decide))⟩
theorem rq_nat (hr : RR r) (hq : QQ q) : (r * q).toNat = r.toNat * q.toNat := Int.toNat_mul (rr0 hr) (by have := qq1 hq; omega)
theorem hit_u (h : UU u) (hr : RR r) (hq : QQ q) : Hit (u ^ (r * q).toNat) q (u ^ r.toNat) := by
  refine ⟨?_, .inl (Int.pow_nonneg (by have := h.1; omega)), qq1 hq, qq1000 hq, ?_⟩
  · rw [rq_nat hr hq, Int.pow_mul]
  · exact bd_pow (uu_bd h) (by have := (rq_facts hr hq).2; omega)
theorem hit_uu (h : UU u) (hr : RR r) (hq : QQ q) : Hit (u ^ (r * q).toNat) (r * q) u :=
  ⟨rfl, .inl (by have := h.1; omega), (rq_facts hr hq).1, by have := (rq_facts hr hq).2; omega, bd_pow (uu_bd h) (by have := (rq_facts hr hq).2; omega)⟩
theorem bb_root (h : TT t) (hr : RR r) (hb : BB t r b) : rootF r b = t := rootF_eq (rr1 hr) (by have := h.1; omega) (by have := hb.1; omega) hb.2
theorem bb_bd (h : TT t) (hr : RR r) (hb : BB t r b) : b.natAbs < 2 ^ 1900 := by
  have h1 := high_bd h hr
  have h2 := low_pos (r := r) h
  have h3 := hb.1; have h4 := hb.2
  generalize 2 ^ 1900 = C at *
  omega
theorem miss_b (h : TT t) (hr : RR r) (hb : BB t r b) : Miss b r := by
  refine ⟨.inl ⟨by have := low_pos (r := r) h; have := hb.1; omega, ?_⟩, rr1 hr, rr1000 hr, bb_bd h hr hb⟩
  rw [bb_root h hr hb]
  have := hb.1; omega
theorem miss_nb (h : TT t) (hr : RR r) (hb : BB t r b) : Miss (-b) r := by
  refine ⟨.inr ⟨by have := low_pos (r := r) h; have := hb.1; omega, .inr ?_⟩, rr1 hr, rr1000 hr, by rw [Int.natAbs_neg]; exact bb_bd h hr hb⟩
  rw [Int.neg_neg, bb_root h hr hb]
  have := hb.1; omega
theorem miss_u (h : TT t) (hr : RR r) : Miss (t ^ r.toNat - 1) r := by
  have h1 := h.1
  have hm := room (t - 1) (by omega) hr
  rw [Int.sub_add_cancel] at hm
  have hp := low_pos (r := r) h
  have hroot : rootF r (t ^ r.toNat - 1) = t - 1 := rootF_eq (rr1 hr) (by omega) (by omega) (by rw [Int.sub_add_cancel]; omega)
  refine ⟨.inl ⟨by omega, by rw [hroot]; omega⟩, rr1 hr, rr1000 hr, ?_⟩
  have := low_bd h hr
  generalize 2 ^ 1900 = C at *
  omega
theorem even_of (h : ¬ r.fmod 2 = 1) : r.fmod 2 = 0 := by
  have := (fdiv_fmod_facts r 2).2.2.1 (by decide); omega
theorem miss_nlow (h : TT t) (hr : RR r) (he : r.fmod 2 ≠ 1) : Miss (-(t ^ r.toNat)) r :=
  ⟨.inr ⟨by have := low_pos (r := r) h; omega, .inl (even_of he)⟩, rr1 hr, rr1000 hr, by rw [Int.natAbs_neg]; exact low_bd h hr⟩
theorem miss_m1 (hr : RR r) (he : r.fmod 2 ≠ 1) : Miss (-1) r :=
  ⟨.inr ⟨by decide, .inl (even_of he)⟩, rr1 hr, rr1000 hr, Nat.lt_of_lt_of_le (by decide : (-1 : Int).natAbs < 2 ^ 1) (pow2_mono (by decide))⟩
end
end Mine
namespace Mine
set_option maxRecDepth 100000 in
set_option maxHeartbeats 8000000 in
open_top hd09 for PySem.Challenge.rw_yt0004_09
end Mine
namespace Mine
abbrev Cl (w : World) := Claim Challenge.rw_yt0004_09.row.prog w (hd09.heap_39 w.params) hd09.view_39
set_option maxRecDepth 100000 in
set_option maxHeartbeats 8000000 in
theorem isqrt_spec {w : World} {n : Int} {t1 : Tok} (hn : 0 ≤ n) (hb : n.natAbs < 2 ^ 1900) : Cl w 26 1 (fun _ => True) [.int n t1] (fun t => .int (rootF 2 n) t) := by
  k_with_none
  dsimp only [Cl, Claim, Ret]
  k_fill
  intro loose mean mg mb news dp un gd cn cs a ccd cl outer A₀ base h₀ L m s Q E hB F X N T hk hH hd hu hret
  refine wpAny_call ?_
  (k_dflt cell_enter)
  k_with "exec While Compare cons nil" => k_while (fun script x y => IsqInv n x y) (fun script x y => x.toNat) "x" "y"
  k_with "state" => first | exact isq_start hb (isq_odd hn hb (by assumption)) (by assumption) | exact isq_start hb (isq_even hn hb (by assumption)) (by assumption) | exact isq_turn (by assumption) (by assumption)
  k_with "measure" => exact isq_meas (by assumption) (by assumption)
  k_with "binaryOp LShift int int" => first | (refine lshift_int (aF_facts n).1 (shl1_ok hn hb) ?_) | (refine lshift_int (aF_facts n).1 (shl3_ok hn hb) ?_)
  k_with "binaryOp RShift int int" => first | (refine rshift_int (aF_facts n).1 ?_) | (refine rshift_int (by decide) ?_)
  k_with "binaryOp FloorDiv int int" => first | (refine floordiv_int (isq_div hb (isq_odd hn hb (by assumption)) (by assumption)).1 ?_ (Or.inl (noPy (Nat.lt_of_lt_of_le (isq_div hb (isq_odd hn hb (by assumption)) (by assumption)).2 (pow2_mono (by decide)))))) | (refine floordiv_int (isq_div hb (isq_even hn hb (by assumption)) (by assumption)).1 ?_ (Or.inl (noPy (Nat.lt_of_lt_of_le (isq_div hb (isq_even hn hb (by assumption)) (by assumption)).2 (pow2_mono (by decide)))))) | (refine floordiv_int (isq_loop_div (by assumption) (by assumption)).1 ?_ (Or.inl (noPy (isq_loop_div (by assumption) (by assumption)).2)))
  k_steps
  all_goals first | (refine ret_int (Q := Q) hret (by first | exact isq_same (isq_odd hn hb (by assumption)) (by assumption) | exact isq_same (isq_even hn hb (by assumption)) (by assumption) | exact isq_done (by assumption) (by assumption)) (by k_asm) (by first | k_asm | exact cb_drop (by assumption) (by kcj_all)))
local macro_rules | `(tactic| walk_at "call ref") => `(tactic| (k_here; (with_reducible show wpAny _ _ (call (Value.ref 26) [Value.int _ _]) _ _ _); k_dflt (refine' isqrt_spec ?kp0 ?kp1 ?k1 ?k2 ?k3 ?k4 ?k5 ?kK ?kH ?kd ?ku ?_; (case k1 => k_asm); (case k2 => k_asm); (case k3 => k_asm); (case k4 => k_asm); (case k5 => k_asm); (case kK => first | exact rfl | assumption); (case kH => first | trivial | k_asm); (case kp0 => first | assumption | k_extra "isqrt_spec 0" | omega | l_fit | decide); (case kp1 => first | assumption | k_extra "isqrt_spec 1" | omega | l_fit | decide); (case kd => ktr_room); (case ku => ktr_units)); intro t9 h9 tk9 F9 N9; (try dsimp only); (try k_fold)))
set_option maxRecDepth 100000 in
set_option maxHeartbeats 8000000 in
theorem introot_spec {w : World} {n r : Int} {t1 t2 : Tok} (hn : 0 ≤ n) (hb : n.natAbs < 2 ^ 1900) (hr : 1 ≤ r) (hr2 : r ≤ 1000) : Cl w 34 2 (fun _ => True) [.int n t1, .int r t2] (fun t => .int (rootF r n) t) := by
  k_with_none
  dsimp only [Cl, Claim, Ret]
  k_fill
  intro loose mean mg mb news dp un gd cn cs a ccd cl outer A₀ base h₀ L m s Q E hB F X N T hk hH hd hu hret
  refine wpAny_call ?_
  (k_dflt (refine' code_def ?k1 ?k2 ?k3 ?k4 ?k5 ?kA ?kF ?kK ?k6 ?k7 ?k8 ?k9 ?kB ?_ ?c2 ?c3 ?c4 ?c5; (case kA => exact rfl); (case kF => exact rfl); (case kK => assumption); (case k1 => k_asm); (case k2 => k_asm); (case k3 => k_asm); (case k4 => k_asm); (case k5 => k_asm); (case k6 => k_is); (case k7 => k_is); (case k8 => ktr_room); (case k9 => exact binds_K (by k_in) rfl (by k_is) rfl rfl rfl); (case c5 => decide); (case kB => exact locs rfl); (case c2 => exact rfl); (case c3 => exact rfl); (case c4 => exact rfl); k_whole; intro g' L' h' FG' F' N' B' X' T'; (try dsimp only); (try k_lift B'); (try k_fold)))
  have hr0 : 0 ≤ r := by omega
  k_with "exec While Compare cons nil" => first
    | ((with_reducible show wpAny _ _ (exec (PySem.Stmt.While (PySem.Expr.Compare _ [PySem.CmpOp.Gt] _ _) _ _ _) _) _ _ _); k_while (fun script lo => In1 lo) (fun script lo => lo.toNat) "lower")
    | ((with_reducible show wpAny _ _ (exec (PySem.Stmt.While (PySem.Expr.Compare _ [PySem.CmpOp.LtE] _ _) _ _ _) _) _ _ _); k_while (fun script up => In2 up) (fun script up => (n + 1 - up).toNat) "upper")
    | ((with_reducible show wpAny _ _ (exec (PySem.Stmt.While (PySem.Expr.Compare _ [PySem.CmpOp.NotEq] _ _) _ _ _) _) _ _ _); k_while (fun script lo up => In3 n r lo up) (fun script lo up => (up - lo).toNat) "lower" "upper")
  k_with "state" => first | exact in1_start hr hb | exact in2_start hr hb | exact in1_turn (by assumption) | exact in2_turn hr hb (by assumption) (by assumption) | exact in3_start (by assumption) (by assumption) (by assumption) (by assumption) | exact in3_low (by assumption) (by assumption) (by assumption) | exact in3_up' (by assumption) (by assumption) (by assumption) (by assumption)
  k_with "measure" => first | exact in1_meas hn hr (by assumption) (by assumption) | exact in2_meas hr (by assumption) (by assumption) | exact in3_low_m (by assumption) (by assumption) | exact in3_up_m (by assumption) (by assumption)
  k_with "binaryOp LShift int int" => (refine lshift_int (kF_facts hr hb).1 (one_shl_ok hr hb) ?_)
  k_with "inplaceOp LShift int int" => (refine ilshift_int (by decide) (in2_shl (by assumption)) ?_)
  k_with "inplaceOp RShift int int" => (refine irshift_int (by decide) ?_)
  k_with "binaryOp Pow int int" => first | (refine pow_int hr0 (pow1 (by assumption) hr hr2) ?_) | (refine pow_int hr0 (pow2 (by assumption) hr hr2) ?_) | (refine pow_int hr0 (pow3 (by assumption) (by assumption) hr hr2) ?_)
  k_with "binaryOp FloorDiv int int" => (refine floordiv_int (r_bd hr hr2).1 ?_ (Or.inl (noPy (r_bd hr hr2).2)))
  k_steps
  all_goals first | (refine ret_int (Q := Q) hret (by first | exact in3_hit hr (by assumption) (by assumption) (by assumption) | exact in3_done hr (by assumption) (by assumption) | exact (rootF_small hr hn (by assumption)).symm | (subst_vars; rfl) | (subst_vars; exact (rootF_one hn).symm) | (trace_state; fail)) (by k_asm) (by first | k_asm | exact cb_drop (by assumption) (by kcj_all)))
local macro_rules | `(tactic| walk_at "call ref") => `(tactic| (k_here; (with_reducible show wpAny _ _ (call (Value.ref 34) [Value.int _ _, Value.int _ _]) _ _ _); k_dflt (refine' introot_spec ?kp0 ?kp1 ?kp2 ?kp3 ?k1 ?k2 ?k3 ?k4 ?k5 ?kK ?kH ?kd ?ku ?_; (case k1 => k_asm); (case k2 => k_asm); (case k3 => k_asm); (case k4 => k_asm); (case k5 => k_asm); (case kK => first | exact rfl | assumption); (case kH => first | trivial | k_asm); (case kp0 => first | assumption | k_extra "introot_spec 0" | omega | l_fit | decide); (case kp1 => first | assumption | k_extra "introot_spec 1" | omega | l_fit | decide); (case kp2 => first | assumption | k_extra "introot_spec 2" | omega | l_fit | decide); (case kp3 => first | assumption | k_extra "introot_spec 3" | omega | l_fit | decide); (case kd => ktr_room); (case ku => ktr_units)); intro t9 h9 tk9 F9 N9; (try dsimp only); (try k_fold)))
set_option maxRecDepth 100000 in
set_option maxHeartbeats 8000000 in
theorem introot_none {w : World} {n r : Int} {t1 t2 : Tok} (hn : n < 0) (he : r.fmod 2 = 0) : Cl w 34 2 (fun _ => True) [.int n t1, .int r t2] (fun _ => .none) := by
  k_with_none
  dsimp only [Cl, Claim, Ret]
  k_fill
  intro loose mean mg mb news dp un gd cn cs a ccd cl outer A₀ base h₀ L m s Q E hB F X N T hk hH hd hu hret
  refine wpAny_call ?_
  (k_dflt (refine' code_def ?k1 ?k2 ?k3 ?k4 ?k5 ?kA ?kF ?kK ?k6 ?k7 ?k8 ?k9 ?kB ?_ ?c2 ?c3 ?c4 ?c5; (case kA => exact rfl); (case kF => exact rfl); (case kK => assumption); (case k1 => k_asm); (case k2 => k_asm); (case k3 => k_asm); (case k4 => k_asm); (case k5 => k_asm); (case k6 => k_is); (case k7 => k_is); (case k8 => ktr_room); (case k9 => exact binds_K (by k_in) rfl (by k_is) rfl rfl rfl); (case c5 => decide); (case kB => exact locs rfl); (case c2 => exact rfl); (case c3 => exact rfl); (case c4 => exact rfl); k_whole; intro g' L' h' FG' F' N' B' X' T'; (try dsimp only); (try k_lift B'); (try k_fold)))
  k_steps
  all_goals first | (exact absurd he (by assumption)) | (refine ret_val (Q := Q) hret (by rfl) (by k_asm) (by first | k_asm | exact cb_drop (by assumption) (by kcj_all)))
set_option maxRecDepth 100000 in
set_option maxHeartbeats 8000000 in
theorem introot_odd {w : World} {n r : Int} {t1 t2 : Tok} (hn : n < 0) (ho : r.fmod 2 ≠ 0) (hb : n.natAbs < 2 ^ 1900) (hr : 1 ≤ r) (hr2 : r ≤ 1000) : Cl w 34 3 (fun _ => True) [.int n t1, .int r t2] (fun t => .int (-(rootF r (-n))) t) := by
  k_with_none
  dsimp only [Cl, Claim, Ret]
  k_fill
  intro loose mean mg mb news dp un gd cn cs a ccd cl outer A₀ base h₀ L m s Q E hB F X N T hk hH hd hu hret
  refine wpAny_call ?_
  (k_dflt (refine' code_def ?k1 ?k2 ?k3 ?k4 ?k5 ?kA ?kF ?kK ?k6 ?k7 ?k8 ?k9 ?kB ?_ ?c2 ?c3 ?c4 ?c5; (case kA => exact rfl); (case kF => exact rfl); (case kK => assumption); (case k1 => k_asm); (case k2 => k_asm); (case k3 => k_asm); (case k4 => k_asm); (case k5 => k_asm); (case k6 => k_is); (case k7 => k_is); (case k8 => ktr_room); (case k9 => exact binds_K (by k_in) rfl (by k_is) rfl rfl rfl); (case c5 => decide); (case kB => exact locs rfl); (case c2 => exact rfl); (case c3 => exact rfl); (case c4 => exact rfl); k_whole; intro g' L' h' FG' F' N' B' X' T'; (try dsimp only); (try k_lift B'); (try k_fold)))
  have hn9 : 0 ≤ -n := by omega
  have hb9 : (-n).natAbs < 2 ^ 1900 := by rw [Int.natAbs_neg]; exact hb
  k_steps
  all_goals first | (exact absurd (by assumption) ho) | (refine ret_int (Q := Q) hret (by rfl) (by k_asm) (by first | k_asm | exact cb_drop (by assumption) (by kcj_all)))
local macro_rules | `(tactic| walk_at "call ref") => `(tactic| (k_here; (with_reducible show wpAny _ _ (call (Value.ref 34) [Value.int _ _, Value.int _ _]) _ _ _); k_dflt (refine' introot_none ?kp0 ?kp1 ?k1 ?k2 ?k3 ?k4 ?k5 ?kK ?kH ?kd ?ku ?_; (case k1 => k_asm); (case k2 => k_asm); (case k3 => k_asm); (case k4 => k_asm); (case k5 => k_asm); (case kK => first | exact rfl | assumption); (case kH => first | trivial | k_asm); (case kp0 => first | assumption | k_extra "introot_none 0"); (case kp1 => first | assumption | k_extra "introot_none 1"); (case kd => ktr_room); (case ku => ktr_units)); intro t9 h9 tk9 F9 N9; (try dsimp only); (try k_fold)))
local macro_rules | `(tactic| walk_at "call ref") => `(tactic| (k_here; (with_reducible show wpAny _ _ (call (Value.ref 34) [Value.int _ _, Value.int _ _]) _ _ _); k_dflt (refine' introot_odd ?kp0 ?kp1 ?kp2 ?kp3 ?kp4 ?k1 ?k2 ?k3 ?k4 ?k5 ?kK ?kH ?kd ?ku ?_; (case k1 => k_asm); (case k2 => k_asm); (case k3 => k_asm); (case k4 => k_asm); (case k5 => k_asm); (case kK => first | exact rfl | assumption); (case kH => first | trivial | k_asm); (case kp0 => first | assumption | k_extra "introot_odd 0"); (case kp1 => first | assumption | k_extra "introot_odd 1"); (case kp2 => first | assumption | k_extra "introot_odd 2"); (case kp3 => first | assumption | k_extra "introot_odd 3"); (case kp4 => first | assumption | k_extra "introot_odd 4"); (case kd => ktr_room); (case ku => ktr_units)); intro t9 h9 tk9 F9 N9; (try dsimp only); (try k_fold)))
theorem introot_val {w : World} {n r v : Int} {t1 t2 : Tok} (he : rootF r n = v) (hn : 0 ≤ n) (hb : n.natAbs < 2 ^ 1900) (hr : 1 ≤ r) (hr2 : r ≤ 1000) : Cl w 34 2 (fun _ => True) [.int n t1, .int r t2] (fun t => .int v t) := by
  subst he
  exact introot_spec hn hb hr hr2
theorem introot_oval {w : World} {n r v : Int} {t1 t2 : Tok} (he : -rootF r (-n) = v) (hn : n < 0) (ho : r.fmod 2 ≠ 0) (hb : n.natAbs < 2 ^ 1900) (hr : 1 ≤ r) (hr2 : r ≤ 1000) : Cl w 34 3 (fun _ => True) [.int n t1, .int r t2] (fun t => .int v t) := by
  subst he
  exact introot_odd hn ho hb hr hr2
local macro_rules | `(tactic| walk_at "call ref") => `(tactic| (k_here; (with_reducible show wpAny _ _ (call (Value.ref 34) [Value.int _ _, Value.int _ _]) _ _ _); k_dflt (refine' introot_val ?kp0 ?kp1 ?kp2 ?kp3 ?kp4 ?k1 ?k2 ?k3 ?k4 ?k5 ?kK ?kH ?kd ?ku ?_; (case k1 => k_asm); (case k2 => k_asm); (case k3 => k_asm); (case k4 => k_asm); (case k5 => k_asm); (case kK => first | exact rfl | assumption); (case kH => first | trivial | k_asm); (case kp0 => first | assumption | k_extra "introot_val 0"); (case kp1 => first | assumption | k_extra "introot_val 1"); (case kp2 => first | assumption | k_extra "introot_val 2"); (case kp3 => first | assumption | k_extra "introot_val 3"); (case kp4 => first | assumption | k_extra "introot_val 4"); (case kd => ktr_room); (case ku => ktr_units)); intro t9 h9 tk9 F9 N9; (try dsimp only); (try k_fold)))
local macro_rules | `(tactic| walk_at "call ref") => `(tactic| (k_here; (with_reducible show wpAny _ _ (call (Value.ref 34) [Value.int _ _, Value.int _ _]) _ _ _); k_dflt (refine' introot_oval ?kp0 ?kp1 ?kp2 ?kp3 ?kp4 ?kp5 ?k1 ?k2 ?k3 ?k4 ?k5 ?kK ?kH ?kd ?ku ?_; (case k1 => k_asm); (case k2 => k_asm); (case k3 => k_asm); (case k4 => k_asm); (case k5 => k_asm); (case kK => first | exact rfl | assumption); (case kH => first | trivial | k_asm); (case kp0 => first | assumption | k_extra "introot_oval 0"); (case kp1 => first | assumption | k_extra "introot_oval 1"); (case kp2 => first | assumption | k_extra "introot_oval 2"); (case kp3 => first | assumption | k_extra "introot_oval 3"); (case kp4 => first | assumption | k_extra "introot_oval 4"); (case kp5 => first | assumption | k_extra "introot_oval 5"); (case kd => ktr_room); (case ku => ktr_units)); intro t9 h9 tk9 F9 N9; (try dsimp only); (try k_fold)))
def rowF : List Int := [3, 1, 2, 1, 0, -9]
def atF (ns : List Int) (i : Int) : Int := if i < ns.length then ns.getD i.toNat 0 else rowF.getD (i.fmod 6).toNat 0
set_option maxRecDepth 100000 in
set_option maxHeartbeats 8000000 in
theorem at_spec {w : World} {l : Addr} {vs : List Value} {ns : List Int} {i : Int} {t2 : Tok} (hI : IntsAre vs ns) (hn : ns.length < 2 ^ 62) (h0 : 0 ≤ i) (hi : i < 100) : Cl w 49 1 (fun base => base.IsList l vs.toArray) [.ref l, .int i t2] (fun t => .int (atF ns i) t) := by
  k_with_none
  dsimp only [Cl, Claim, Ret]
  k_fill
  intro loose mean mg mb news dp un gd cn cs a ccd cl outer A₀ base h₀ L m s Q E hB F X N T hk hH hd hu hret
  refine wpAny_call ?_
  (k_dflt cell_enter)
  k_steps
  all_goals first | (refine ret_int (Q := Q) hret (by unfold atF rowF; split <;> first | rfl | (exfalso; omega)) (by k_asm) (by first | k_asm | exact cb_drop (by assumption) (by kcj_all)))
local macro_rules | `(tactic| walk_at "call ref") => `(tactic| (k_here; (with_reducible show wpAny _ _ (call (Value.ref 49) [Value.ref _, Value.int _ _]) _ _ _); k_dflt (refine' at_spec ?kp0 ?kp1 ?kp2 ?kp3 ?k1 ?k2 ?k3 ?k4 ?k5 ?kK ?kH ?kd ?ku ?_; (case k1 => k_asm); (case k2 => k_asm); (case k3 => k_asm); (case k4 => k_asm); (case k5 => k_asm); (case kK => first | exact rfl | assumption); (case kH => first | trivial | k_asm); (case kp0 => first | assumption | k_extra "at_spec 0" | omega | l_fit | decide); (case kp1 => first | assumption | k_extra "at_spec 1" | omega | l_fit | decide); (case kp2 => first | assumption | k_extra "at_spec 2" | omega | l_fit | decide); (case kp3 => first | assumption | k_extra "at_spec 3" | omega | l_fit | decide); (case kd => ktr_room); (case ku => ktr_units)); intro t9 h9 tk9 F9 N9; (try dsimp only); (try k_fold)))
set_option maxRecDepth 100000 in
set_option maxHeartbeats 8000000 in
theorem cut_spec {w : World} {v top : Int} {t1 t2 : Tok} (hp : 0 < top) : Cl w 56 1 (fun _ => True) [.int v t1, .int top t2] (fun t => .int (cutF v top) t) := by
  k_with_none
  dsimp only [Cl, Claim, Ret]
  k_fill
  intro loose mean mg mb news dp un gd cn cs a ccd cl outer A₀ base h₀ L m s Q E hB F X N T hk hH hd hu hret
  refine wpAny_call ?_
  (k_dflt cell_enter)
  k_steps
  all_goals first | (refine ret_int (Q := Q) hret (by unfold cutF; split <;> first | rfl | (exfalso; omega)) (by k_asm) (by first | k_asm | exact cb_drop (by assumption) (by kcj_all)))
local macro_rules | `(tactic| walk_at "call ref") => `(tactic| (k_here; (with_reducible show wpAny _ _ (call (Value.ref 56) [Value.int _ _, Value.int _ _]) _ _ _); k_dflt (refine' cut_spec ?kp0 ?k1 ?k2 ?k3 ?k4 ?k5 ?kK ?kH ?kd ?ku ?_; (case k1 => k_asm); (case k2 => k_asm); (case k3 => k_asm); (case k4 => k_asm); (case k5 => k_asm); (case kK => first | exact rfl | assumption); (case kH => first | trivial | k_asm); (case kp0 => first | assumption | k_extra "cut_spec 0" | omega | l_fit | decide); (case kd => ktr_room); (case ku => ktr_units)); intro t9 h9 tk9 F9 N9; (try dsimp only); (try k_fold)))
end Mine
namespace Mine
local macro_rules | `(tactic| walk_at "call ref") => `(tactic| (k_here; (with_reducible show wpAny _ _ (call (Value.ref 26) [Value.int _ _]) _ _ _); k_dflt (refine' isqrt_spec ?kp0 ?kp1 ?k1 ?k2 ?k3 ?k4 ?k5 ?kK ?kH ?kd ?ku ?_; (case k1 => k_asm); (case k2 => k_asm); (case k3 => k_asm); (case k4 => k_asm); (case k5 => k_asm); (case kK => first | exact rfl | assumption); (case kH => first | trivial | k_asm); (case kp0 => first | assumption | k_extra "isqrt_spec 0" | omega | l_fit | decide); (case kp1 => first | assumption | k_extra "isqrt_spec 1" | omega | l_fit | decide); (case kd => ktr_room); (case ku => ktr_units)); intro t9 h9 tk9 F9 N9; (try dsimp only); (try k_fold)))
local macro_rules | `(tactic| walk_at "call ref") => `(tactic| (k_here; (with_reducible show wpAny _ _ (call (Value.ref 34) [Value.int _ _, Value.int _ _]) _ _ _); k_dflt (refine' introot_spec ?kp0 ?kp1 ?kp2 ?kp3 ?k1 ?k2 ?k3 ?k4 ?k5 ?kK ?kH ?kd ?ku ?_; (case k1 => k_asm); (case k2 => k_asm); (case k3 => k_asm); (case k4 => k_asm); (case k5 => k_asm); (case kK => first | exact rfl | assumption); (case kH => first | trivial | k_asm); (case kp0 => first | assumption | k_extra "introot_spec 0" | omega | l_fit | decide); (case kp1 => first | assumption | k_extra "introot_spec 1" | omega | l_fit | decide); (case kp2 => first | assumption | k_extra "introot_spec 2" | omega | l_fit | decide); (case kp3 => first | assumption | k_extra "introot_spec 3" | omega | l_fit | decide); (case kd => ktr_room); (case ku => ktr_units)); intro t9 h9 tk9 F9 N9; (try dsimp only); (try k_fold)))
local macro_rules | `(tactic| walk_at "call ref") => `(tactic| (k_here; (with_reducible show wpAny _ _ (call (Value.ref 34) [Value.int _ _, Value.int _ _]) _ _ _); k_dflt (refine' introot_none ?kp0 ?kp1 ?k1 ?k2 ?k3 ?k4 ?k5 ?kK ?kH ?kd ?ku ?_; (case k1 => k_asm); (case k2 => k_asm); (case k3 => k_asm); (case k4 => k_asm); (case k5 => k_asm); (case kK => first | exact rfl | assumption); (case kH => first | trivial | k_asm); (case kp0 => first | assumption | k_extra "introot_none 0"); (case kp1 => first | assumption | k_extra "introot_none 1"); (case kd => ktr_room); (case ku => ktr_units)); intro t9 h9 tk9 F9 N9; (try dsimp only); (try k_fold)))
local macro_rules | `(tactic| walk_at "call ref") => `(tactic| (k_here; (with_reducible show wpAny _ _ (call (Value.ref 34) [Value.int _ _, Value.int _ _]) _ _ _); k_dflt (refine' introot_odd ?kp0 ?kp1 ?kp2 ?kp3 ?kp4 ?k1 ?k2 ?k3 ?k4 ?k5 ?kK ?kH ?kd ?ku ?_; (case k1 => k_asm); (case k2 => k_asm); (case k3 => k_asm); (case k4 => k_asm); (case k5 => k_asm); (case kK => first | exact rfl | assumption); (case kH => first | trivial | k_asm); (case kp0 => first | assumption | k_extra "introot_odd 0"); (case kp1 => first | assumption | k_extra "introot_odd 1"); (case kp2 => first | assumption | k_extra "introot_odd 2"); (case kp3 => first | assumption | k_extra "introot_odd 3"); (case kp4 => first | assumption | k_extra "introot_odd 4"); (case kd => ktr_room); (case ku => ktr_units)); intro t9 h9 tk9 F9 N9; (try dsimp only); (try k_fold)))
local macro_rules | `(tactic| walk_at "call ref") => `(tactic| (k_here; (with_reducible show wpAny _ _ (call (Value.ref 34) [Value.int _ _, Value.int _ _]) _ _ _); k_dflt (refine' introot_val ?kp0 ?kp1 ?kp2 ?kp3 ?kp4 ?k1 ?k2 ?k3 ?k4 ?k5 ?kK ?kH ?kd ?ku ?_; (case k1 => k_asm); (case k2 => k_asm); (case k3 => k_asm); (case k4 => k_asm); (case k5 => k_asm); (case kK => first | exact rfl | assumption); (case kH => first | trivial | k_asm); (case kp0 => first | assumption | k_extra "introot_val 0"); (case kp1 => first | assumption | k_extra "introot_val 1"); (case kp2 => first | assumption | k_extra "introot_val 2"); (case kp3 => first | assumption | k_extra "introot_val 3"); (case kp4 => first | assumption | k_extra "introot_val 4"); (case kd => ktr_room); (case ku => ktr_units)); intro t9 h9 tk9 F9 N9; (try dsimp only); (try k_fold)))
local macro_rules | `(tactic| walk_at "call ref") => `(tactic| (k_here; (with_reducible show wpAny _ _ (call (Value.ref 34) [Value.int _ _, Value.int _ _]) _ _ _); k_dflt (refine' introot_oval ?kp0 ?kp1 ?kp2 ?kp3 ?kp4 ?kp5 ?k1 ?k2 ?k3 ?k4 ?k5 ?kK ?kH ?kd ?ku ?_; (case k1 => k_asm); (case k2 => k_asm); (case k3 => k_asm); (case k4 => k_asm); (case k5 => k_asm); (case kK => first | exact rfl | assumption); (case kH => first | trivial | k_asm); (case kp0 => first | assumption | k_extra "introot_oval 0"); (case kp1 => first | assumption | k_extra "introot_oval 1"); (case kp2 => first | assumption | k_extra "introot_oval 2"); (case kp3 => first | assumption | k_extra "introot_oval 3"); (case kp4 => first | assumption | k_extra "introot_oval 4"); (case kp5 => first | assumption | k_extra "introot_oval 5"); (case kd => ktr_room); (case ku => ktr_units)); intro t9 h9 tk9 F9 N9; (try dsimp only); (try k_fold)))
local macro_rules | `(tactic| walk_at "call ref") => `(tactic| (k_here; (with_reducible show wpAny _ _ (call (Value.ref 49) [Value.ref _, Value.int _ _]) _ _ _); k_dflt (refine' at_spec ?kp0 ?kp1 ?kp2 ?kp3 ?k1 ?k2 ?k3 ?k4 ?k5 ?kK ?kH ?kd ?ku ?_; (case k1 => k_asm); (case k2 => k_asm); (case k3 => k_asm); (case k4 => k_asm); (case k5 => k_asm); (case kK => first | exact rfl | assumption); (case kH => first | trivial | k_asm); (case kp0 => first | assumption | k_extra "at_spec 0" | omega | l_fit | decide); (case kp1 => first | assumption | k_extra "at_spec 1" | omega | l_fit | decide); (case kp2 => first | assumption | k_extra "at_spec 2" | omega | l_fit | decide); (case kp3 => first | assumption | k_extra "at_spec 3" | omega | l_fit | decide); (case kd => ktr_room); (case ku => ktr_units)); intro t9 h9 tk9 F9 N9; (try dsimp only); (try k_fold)))
local macro_rules | `(tactic| walk_at "call ref") => `(tactic| (k_here; (with_reducible show wpAny _ _ (call (Value.ref 56) [Value.int _ _, Value.int _ _]) _ _ _); k_dflt (refine' cut_spec ?kp0 ?k1 ?k2 ?k3 ?k4 ?k5 ?kK ?kH ?kd ?ku ?_; (case k1 => k_asm); (case k2 => k_asm); (case k3 => k_asm); (case k4 => k_asm); (case k5 => k_asm); (case kK => first | exact rfl | assumption); (case kH => first | trivial | k_asm); (case kp0 => first | assumption | k_extra "cut_spec 0" | omega | l_fit | decide); (case kd => ktr_room); (case ku => ktr_units)); intro t9 h9 tk9 F9 N9; (try dsimp only); (try k_fold)))
set_option maxRecDepth 100000 in
set_option maxHeartbeats 8000000 in
theorem hit_pos {w : World} {n r v : Int} {t1 t2 : Tok} (h : Hit n r v) (hv : 0 ≤ v) : Cl w 42 4 (fun _ => True) [.int n t1, .int r t2] (fun t => .int v t) := by
  k_with_none
  dsimp only [Cl, Claim, Ret]
  k_fill
  intro loose mean mg mb news dp un gd cn cs a ccd cl outer A₀ base h₀ L m s Q E hB F X N T hk hH hd hu hret
  refine wpAny_call ?_
  (k_dflt (refine' code_def ?k1 ?k2 ?k3 ?k4 ?k5 ?kA ?kF ?kK ?k6 ?k7 ?k8 ?k9 ?kB ?_ ?c2 ?c3 ?c4 ?c5; (case kA => exact rfl); (case kF => exact rfl); (case kK => assumption); (case k1 => k_asm); (case k2 => k_asm); (case k3 => k_asm); (case k4 => k_asm); (case k5 => k_asm); (case k6 => k_is); (case k7 => k_is); (case k8 => ktr_room); (case k9 => exact binds_K (by k_in) rfl (by k_is) rfl rfl rfl); (case c5 => decide); (case kB => exact locs rfl); (case c2 => exact rfl); (case c3 => exact rfl); (case c4 => exact rfl); k_whole; intro g' L' h' FG' F' N' B' X' T'; (try dsimp only); (try k_lift B'); (try k_fold)))
  k_with "ite" => first | with_reducible refine ite_beq_ne (by assumption) ?_ | with_reducible refine ite_beq_eq (by assumption) ?_ | with_reducible refine ite_bne_eq (by assumption) ?_ | with_reducible refine ite_bne_ne (by assumption) ?_
  have hr1 := h.2.2.1
  have hr2 := h.2.2.2.1
  have hr0 : 0 ≤ r := by omega
  have hrz : r ≠ 0 := by omega
  k_with "introot_val 0" => exact h.root hv
  k_with "introot_val 1" => exact h.nonneg hv
  k_with "introot_val 2" => exact h.2.2.2.2
  k_with "binaryOp Pow int int" => (refine pow_int hr0 (pow_size (hit_bd h hv) hr1 hr2) ?_)
  k_steps
  all_goals first | (exfalso; omega) | (exfalso; exact absurd (hit_and2 h (by assumption)) (by assumption)) | (exfalso; exact absurd h.1 (by assumption)) | (exfalso; exact hit_any h (by assumption) (by assumption)) | (exfalso; exact neg_two h hv (by assumption)) | (refine ret_int (Q := Q) hret (by rfl) (by k_asm) (by first | k_asm | exact cb_drop (by assumption) (by kcj_all)))
set_option maxRecDepth 100000 in
set_option maxHeartbeats 8000000 in
theorem hit_neg {w : World} {n r v : Int} {t1 t2 : Tok} (h : Hit n r v) (hv : ¬ 0 ≤ v) : Cl w 42 4 (fun _ => True) [.int n t1, .int r t2] (fun t => .int v t) := by
  k_with_none
  dsimp only [Cl, Claim, Ret]
  k_fill
  intro loose mean mg mb news dp un gd cn cs a ccd cl outer A₀ base h₀ L m s Q E hB F X N T hk hH hd hu hret
  refine wpAny_call ?_
  (k_dflt (refine' code_def ?k1 ?k2 ?k3 ?k4 ?k5 ?kA ?kF ?kK ?k6 ?k7 ?k8 ?k9 ?kB ?_ ?c2 ?c3 ?c4 ?c5; (case kA => exact rfl); (case kF => exact rfl); (case kK => assumption); (case k1 => k_asm); (case k2 => k_asm); (case k3 => k_asm); (case k4 => k_asm); (case k5 => k_asm); (case k6 => k_is); (case k7 => k_is); (case k8 => ktr_room); (case k9 => exact binds_K (by k_in) rfl (by k_is) rfl rfl rfl); (case c5 => decide); (case kB => exact locs rfl); (case c2 => exact rfl); (case c3 => exact rfl); (case c4 => exact rfl); k_whole; intro g' L' h' FG' F' N' B' X' T'; (try dsimp only); (try k_lift B'); (try k_fold)))
  k_with "ite" => first | with_reducible refine ite_beq_ne (by assumption) ?_ | with_reducible refine ite_beq_eq (by assumption) ?_ | with_reducible refine ite_bne_eq (by assumption) ?_ | with_reducible refine ite_bne_ne (by assumption) ?_
  have hr1 := h.2.2.1
  have hr2 := h.2.2.2.1
  have hr0 : 0 ≤ r := by omega
  have hrz : r ≠ 0 := by omega
  have hng := h.neg hv
  k_with "introot_oval 0" => (rw [hng.2.2, Int.neg_neg])
  k_with "introot_oval 1" => exact hng.1
  k_with "introot_oval 2" => exact hng.2.1
  k_with "introot_oval 3" => exact h.2.2.2.2
  k_with "binaryOp Pow int int" => (refine pow_int hr0 (pow_size (hit_bdn h hv) hr1 hr2) ?_)
  k_steps
  all_goals first | (exfalso; omega) | (exfalso; exact absurd (hit_and2 h (by assumption)) (by assumption)) | (exfalso; exact absurd h.1 (by assumption)) | (exfalso; exact hit_any h (by assumption) (by assumption)) | (exfalso; exact neg_two h hv (by assumption)) | (refine ret_int (Q := Q) hret (by rfl) (by k_asm) (by first | k_asm | exact cb_drop (by assumption) (by kcj_all)))
theorem ispower_hit {w : World} {n r v : Int} {t1 t2 : Tok} (h : Hit n r v) : Cl w 42 4 (fun _ => True) [.int n t1, .int r t2] (fun t => .int v t) := by
  by_cases hv : 0 ≤ v
  · exact hit_pos h hv
  · exact hit_neg h hv
set_option maxRecDepth 100000 in
set_option maxHeartbeats 8000000 in
theorem miss_pos {w : World} {n r : Int} {t1 t2 : Tok} (hr1 : 1 ≤ r) (hr2 : r ≤ 1000) (hb : n.natAbs < 2 ^ 1900) (hn : 0 ≤ n) (hm : (rootF r n) ^ r.toNat ≠ n) : Cl w 42 4 (fun _ => True) [.int n t1, .int r t2] (fun _ => .none) := by
  k_with_none
  dsimp only [Cl, Claim, Ret]
  k_fill
  intro loose mean mg mb news dp un gd cn cs a ccd cl outer A₀ base h₀ L m s Q E hB F X N T hk hH hd hu hret
  refine wpAny_call ?_
  (k_dflt (refine' code_def ?k1 ?k2 ?k3 ?k4 ?k5 ?kA ?kF ?kK ?k6 ?k7 ?k8 ?k9 ?kB ?_ ?c2 ?c3 ?c4 ?c5; (case kA => exact rfl); (case kF => exact rfl); (case kK => assumption); (case k1 => k_asm); (case k2 => k_asm); (case k3 => k_asm); (case k4 => k_asm); (case k5 => k_asm); (case k6 => k_is); (case k7 => k_is); (case k8 => ktr_room); (case k9 => exact binds_K (by k_in) rfl (by k_is) rfl rfl rfl); (case c5 => decide); (case kB => exact locs rfl); (case c2 => exact rfl); (case c3 => exact rfl); (case c4 => exact rfl); k_whole; intro g' L' h' FG' F' N' B' X' T'; (try dsimp only); (try k_lift B'); (try k_fold)))
  k_with "ite" => first | with_reducible refine ite_beq_ne (by assumption) ?_ | with_reducible refine ite_beq_eq (by assumption) ?_ | with_reducible refine ite_bne_eq (by assumption) ?_ | with_reducible refine ite_bne_ne (by assumption) ?_
  have hr0 : 0 ≤ r := by omega
  have hrz : r ≠ 0 := by omega
  k_with "introot_val 0" => rfl
  k_with "binaryOp Pow int int" => (refine pow_int hr0 (pow_size (rootp_bd hr1 hn hb) hr1 hr2) ?_)
  k_steps
  all_goals first | (exact absurd (by assumption) hm) | (exfalso; omega) | (refine ret_val (Q := Q) hret (by rfl) (by k_asm) (by first | k_asm | exact cb_drop (by assumption) (by kcj_all)))
set_option maxRecDepth 100000 in
set_option maxHeartbeats 8000000 in
theorem miss_even {w : World} {n r : Int} {t1 t2 : Tok} (hr1 : 1 ≤ r) (hr2 : r ≤ 1000) (hb : n.natAbs < 2 ^ 1900) (hn : n < 0) (he : r.fmod 2 = 0) : Cl w 42 4 (fun _ => True) [.int n t1, .int r t2] (fun _ => .none) := by
  k_with_none
  dsimp only [Cl, Claim, Ret]
  k_fill
  intro loose mean mg mb news dp un gd cn cs a ccd cl outer A₀ base h₀ L m s Q E hB F X N T hk hH hd hu hret
  refine wpAny_call ?_
  (k_dflt (refine' code_def ?k1 ?k2 ?k3 ?k4 ?k5 ?kA ?kF ?kK ?k6 ?k7 ?k8 ?k9 ?kB ?_ ?c2 ?c3 ?c4 ?c5; (case kA => exact rfl); (case kF => exact rfl); (case kK => assumption); (case k1 => k_asm); (case k2 => k_asm); (case k3 => k_asm); (case k4 => k_asm); (case k5 => k_asm); (case k6 => k_is); (case k7 => k_is); (case k8 => ktr_room); (case k9 => exact binds_K (by k_in) rfl (by k_is) rfl rfl rfl); (case c5 => decide); (case kB => exact locs rfl); (case c2 => exact rfl); (case c3 => exact rfl); (case c4 => exact rfl); k_whole; intro g' L' h' FG' F' N' B' X' T'; (try dsimp only); (try k_lift B'); (try k_fold)))
  k_with "ite" => first | with_reducible refine ite_beq_ne (by assumption) ?_ | with_reducible refine ite_beq_eq (by assumption) ?_ | with_reducible refine ite_bne_eq (by assumption) ?_ | with_reducible refine ite_bne_ne (by assumption) ?_
  have hr0 : 0 ≤ r := by omega
  have hrz : r ≠ 0 := by omega
  k_steps
  all_goals first | (refine ret_val (Q := Q) hret (by rfl) (by k_asm) (by first | k_asm | exact cb_drop (by assumption) (by kcj_all)))
set_option maxRecDepth 100000 in
set_option maxHeartbeats 8000000 in
theorem miss_odd {w : World} {n r : Int} {t1 t2 : Tok} (hr1 : 1 ≤ r) (hr2 : r ≤ 1000) (hb : n.natAbs < 2 ^ 1900) (hn : n < 0) (ho : r.fmod 2 ≠ 0) (hm : (rootF r (-n)) ^ r.toNat ≠ -n) : Cl w 42 4 (fun _ => True) [.int n t1, .int r t2] (fun _ => .none) := by
  k_with_none
  dsimp only [Cl, Claim, Ret]
  k_fill
  intro loose mean mg mb news dp un gd cn cs a ccd cl outer A₀ base h₀ L m s Q E hB F X N T hk hH hd hu hret
  refine wpAny_call ?_
  (k_dflt (refine' code_def ?k1 ?k2 ?k3 ?k4 ?k5 ?kA ?kF ?kK ?k6 ?k7 ?k8 ?k9 ?kB ?_ ?c2 ?c3 ?c4 ?c5; (case kA => exact rfl); (case kF => exact rfl); (case kK => assumption); (case k1 => k_asm); (case k2 => k_asm); (case k3 => k_asm); (case k4 => k_asm); (case k5 => k_asm); (case k6 => k_is); (case k7 => k_is); (case k8 => ktr_room); (case k9 => exact binds_K (by k_in) rfl (by k_is) rfl rfl rfl); (case c5 => decide); (case kB => exact locs rfl); (case c2 => exact rfl); (case c3 => exact rfl); (case c4 => exact rfl); k_whole; intro g' L' h' FG' F' N' B' X' T'; (try dsimp only); (try k_lift B'); (try k_fold)))
  k_with "ite" => first | with_reducible refine ite_beq_ne (by assumption) ?_ | with_reducible refine ite_beq_eq (by assumption) ?_ | with_reducible refine ite_bne_eq (by assumption) ?_ | with_reducible refine ite_bne_ne (by assumption) ?_
  have hr0 : 0 ≤ r := by omega
  have hrz : r ≠ 0 := by omega
  k_with "introot_oval 0" => rfl
  k_with "binaryOp Pow int int" => (refine pow_int hr0 (pow_size (rootn_bd hr1 hn hb) hr1 hr2) ?_)
  k_steps
  all_goals first | (exfalso; exact miss_odd_end hr1 ho hm (by assumption)) | (refine ret_val (Q := Q) hret (by rfl) (by k_asm) (by first | k_asm | exact cb_drop (by assumption) (by kcj_all)))
theorem ispower_miss {w : World} {n r : Int} {t1 t2 : Tok} (h : Miss n r) : Cl w 42 4 (fun _ => True) [.int n t1, .int r t2] (fun _ => .none) := by
  obtain ⟨hc, hr1, hr2, hb⟩ := h
  rcases hc with ⟨hn, hm⟩ | ⟨hn, hm⟩
  · exact miss_pos hr1 hr2 hb hn hm
  · by_cases he : r.fmod 2 = 0
    · exact miss_even hr1 hr2 hb hn he
    · exact miss_odd hr1 hr2 hb hn he (hm.resolve_left he)
local macro_rules | `(tactic| walk_at "call ref") => `(tactic| (k_here; (with_reducible show wpAny _ _ (call (Value.ref 42) [Value.int _ _, Value.int _ _]) _ _ _); k_dflt (refine' ispower_miss ?kp0 ?k1 ?k2 ?k3 ?k4 ?k5 ?kK ?kH ?kd ?ku ?_; (case k1 => k_asm); (case k2 => k_asm); (case k3 => k_asm); (case k4 => k_asm); (case k5 => k_asm); (case kK => first | exact rfl | assumption); (case kH => first | trivial | k_asm); (case kp0 => first | assumption | k_extra "ispower_miss 0"); (case kd => ktr_room); (case ku => ktr_units)); intro t9 h9 tk9 F9 N9; (try dsimp only); (try k_fold)))
local macro_rules | `(tactic| walk_at "call ref") => `(tactic| (k_here; (with_reducible show wpAny _ _ (call (Value.ref 42) [Value.int _ _, Value.int _ _]) _ _ _); k_dflt (refine' ispower_hit ?kp0 ?k1 ?k2 ?k3 ?k4 ?k5 ?kK ?kH ?kd ?ku ?_; (case k1 => k_asm); (case k2 => k_asm); (case k3 => k_asm); (case k4 => k_asm); (case k5 => k_asm); (case kK => first | exact rfl | assumption); (case kH => first | trivial | k_asm); (case kp0 => first | assumption | k_extra "ispower_hit 0"); (case kd => ktr_room); (case ku => ktr_units)); intro t9 h9 tk9 F9 N9; (try dsimp only); (try k_fold)))
end Mine
open Mine
local macro_rules | `(tactic| walk_at "call ref") => `(tactic| (k_here; (with_reducible show wpAny _ _ (call (Value.ref 49) [Value.ref _, Value.int _ _]) _ _ _); k_dflt (refine' at_spec ?kp0 ?kp1 ?kp2 ?kp3 ?k1 ?k2 ?k3 ?k4 ?k5 ?kK ?kH ?kd ?ku ?_; (case k1 => k_asm); (case k2 => k_asm); (case k3 => k_asm); (case k4 => k_asm); (case k5 => k_asm); (case kK => first | exact rfl | assumption); (case kH => first | trivial | k_asm); (case kp0 => first | assumption | k_extra "at_spec 0" | omega | l_fit | decide); (case kp1 => first | assumption | k_extra "at_spec 1" | omega | l_fit | decide); (case kp2 => first | assumption | k_extra "at_spec 2" | omega | l_fit | decide); (case kp3 => first | assumption | k_extra "at_spec 3" | omega | l_fit | decide); (case kd => ktr_room); (case ku => ktr_units)); intro t9 h9 tk9 F9 N9; (try dsimp only); (try k_fold)))
local macro_rules | `(tactic| walk_at "call ref") => `(tactic| (k_here; (with_reducible show wpAny _ _ (call (Value.ref 56) [Value.int _ _, Value.int _ _]) _ _ _); k_dflt (refine' cut_spec ?kp0 ?k1 ?k2 ?k3 ?k4 ?k5 ?kK ?kH ?kd ?ku ?_; (case k1 => k_asm); (case k2 => k_asm); (case k3 => k_asm); (case k4 => k_asm); (case k5 => k_asm); (case kK => first | exact rfl | assumption); (case kH => first | trivial | k_asm); (case kp0 => first | assumption | k_extra "cut_spec 0" | omega | l_fit | decide); (case kd => ktr_room); (case ku => ktr_units)); intro t9 h9 tk9 F9 N9; (try dsimp only); (try k_fold)))
local macro_rules | `(tactic| walk_at "call ref") => `(tactic| (k_here; (with_reducible show wpAny _ _ (call (Value.ref 42) [Value.int _ _, Value.int _ _]) _ _ _); k_dflt (refine' ispower_miss ?kp0 ?k1 ?k2 ?k3 ?k4 ?k5 ?kK ?kH ?kd ?ku ?_; (case k1 => k_asm); (case k2 => k_asm); (case k3 => k_asm); (case k4 => k_asm); (case k5 => k_asm); (case kK => first | exact rfl | assumption); (case kH => first | trivial | k_asm); (case kp0 => first | assumption | k_extra "ispower_miss 0"); (case kd => ktr_room); (case ku => ktr_units)); intro t9 h9 tk9 F9 N9; (try dsimp only); (try k_fold)))
local macro_rules | `(tactic| walk_at "call ref") => `(tactic| (k_here; (with_reducible show wpAny _ _ (call (Value.ref 42) [Value.int _ _, Value.int _ _]) _ _ _); k_dflt (refine' ispower_hit ?kp0 ?k1 ?k2 ?k3 ?k4 ?k5 ?kK ?kH ?kd ?ku ?_; (case k1 => k_asm); (case k2 => k_asm); (case k3 => k_asm); (case k4 => k_asm); (case k5 => k_asm); (case kK => first | exact rfl | assumption); (case kH => first | trivial | k_asm); (case kp0 => first | assumption | k_extra "ispower_hit 0"); (case kd => ktr_room); (case ku => ktr_units)); intro t9 h9 tk9 F9 N9; (try dsimp only); (try k_fold)))
set_option maxRecDepth 100000 in
set_option maxHeartbeats 8000000 in
theorem PySem.Challenge.cw_yt0004_09_holds : PySem.Challenge.rw_yt0004_09.Holds := by
  refine hd09 ?_
  k_with_none
  k_with "ite" => first | with_reducible refine ite_bne ?_ | with_reducible refine ite_beq ?_
  k_with "my end" => (refine' Mine.good_self ?hF ?hg ?ho; (case ho => rfl); (case hg => k_asm); (case hF => k_asm))
  k_with "storeName int" => first
    | ((with_reducible show wpAny _ _ (storeName _ (Str.ofString "t") _) _ _ _); refine store_some TT (tt_ok _) ?_; intro T hT)
    | ((with_reducible show wpAny _ _ (storeName _ (Str.ofString "r") _) _ _ _); refine store_some RR (rr_ok _) ?_; intro R hR)
    | ((with_reducible show wpAny _ _ (storeName _ (Str.ofString "between") _) _ _ _); refine store_some (BB _ _) (bb_ok _ (by assumption) (by assumption)) ?_; intro B hB)
    | ((with_reducible show wpAny _ _ (storeName _ (Str.ofString "u") _) _ _ _); refine store_some UU (uu_ok _) ?_; intro U hU)
    | ((with_reducible show wpAny _ _ (storeName _ (Str.ofString "q") _) _ _ _); refine store_some QQ (qq_ok _) ?_; intro q hq)
    | ((with_reducible show wpAny _ _ (storeName _ (Str.ofString "plain") _) _ _ _); refine store_some PP (pp_ok _) ?_; intro P hP)
  k_with "cut_spec 0" => exact big_pos
  k_with "binaryOp Mod int int" => first | (refine mod_int' tt_ne ?_) | (refine mod_int' uu_ne ?_) | (refine mod_int' (gap_ne (by assumption) (by assumption)) ?_) | (refine mod_int' (by decide) ?_)
  k_with "binaryOp Pow int int" => first | (with_reducible refine pow_int (rr0 (by assumption)) (t_size (by assumption) (by assumption)) ?_) | (with_reducible refine pow_int (rr0 (by assumption)) (t_size1 (by assumption) (by assumption)) ?_) | (with_reducible refine pow_int (rr0 (by assumption)) (u_size (by assumption) (by assumption)) ?_) | (with_reducible refine pow_int (rq0 (by assumption) (by assumption)) (uq_size (by assumption) (by assumption) (by assumption)) ?_)
  k_with "binaryOp Mult int int" => (refine mul_int ?_ (rq_mul (by assumption)))
  k_with "ispower_hit 0" => first | with_reducible exact hit_low (by assumption) (by assumption) | with_reducible exact hit_nlow (by assumption) (by assumption) (by assumption) | with_reducible exact hit_m1 (by assumption) (by assumption) | with_reducible exact hit_uu (by assumption) (by assumption) (by assumption) | with_reducible exact hit_u (by assumption) (by assumption) (by assumption) | with_reducible exact hit_0 (by assumption) | with_reducible exact hit_1 (by assumption) | with_reducible exact hit_plain (by assumption)
  k_with "ispower_miss 0" => first | with_reducible exact miss_b (by assumption) (by assumption) (by assumption) | with_reducible exact miss_nb (by assumption) (by assumption) (by assumption) | with_reducible exact miss_u (by assumption) (by assumption) | with_reducible exact miss_nlow (by assumption) (by assumption) (by assumption) | with_reducible exact miss_m1 (by assumption) (by assumption)
  w_strict (
    k_go0
    all_goals try k_fold
    repeat' (first | (k_unfold; (try dsimp only)) | (k_end; refine' Mine.good_true ?gF ?gg ?go; (case go => rfl); (case gg => k_asm); (case gF => k_asm)) | (k_end; k_extra "my end") | (k_end; wrow_close) | walk1 | (dsimp only; walk1) | (leave1; walk_say "STEP leave1"; try dsimp only) | fail "no step"))
