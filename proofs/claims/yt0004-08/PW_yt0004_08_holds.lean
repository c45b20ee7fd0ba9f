import PyProof.Rows.All
import Wide.All
import OpenK.AllK
import Wide.FinOn
import PySem.Challenge.RW_yt0004_08
open PySem PySem.W PyProof.Rows PySem.Calls PySem.Spec
set_option Elab.async false
set_option rowWalk.seconds 0
set_option maxRecDepth 100000
namespace Mine
abbrev Ret (h₀ : Heap) (L : Addr) (m : Str → Option Value) (news : List (Addr × Obj)) (s : Shared) (Q : Value → Shared → Prop) (R : Tok → Value) : Prop :=
  ∀ (t : Tok) (h' : Heap) (tk' : Nat), Fr h₀ L h' m → News h₀ L h' news → Q (R t) { s with heap := h', toks := tk' }
/-- what a call of f at the values vs gives back, at whatever caller -/
abbrev Claim (prog : Program) (w : World) (K : Frag) (p : Program) (f : Addr) (d : Nat) (H : Heap → Prop) (vs : List Value) (R : Tok → Value) : Prop :=
  ∀ {loose : List Str} {mean : ExcName → Option Value} {mg mb : Str → Option Value} {news : List (Addr × Obj)} {dp un : Nat} {gd : Option (List Code)} {cn : Str} {cs : Scope} {a : Addr} {ccd : Value} {cl : List (Str × Addr)} {outer : List Env} {A₀ : Around} {base h₀ : Heap} {L : Addr} {m : Str → Option Value} {s : Shared} {Q E : Value → Shared → Prop},
    Below A₀ base outer h₀ → Fr h₀ L s.heap m → K.In h₀ → News h₀ L s.heap news → Top p loose mean mg mb h₀ → cs.kind = .function →
    H base → dp + d < recursionLimit → un + 8 * d < cLine → Ret h₀ L m news s Q R →
      wpAny (model prog w) (ktrTop dp un gd cn cs L a ccd cl outer) (call (.ref f) vs) Q E s
theorem ret_int {h₀ h' : Heap} {L : Addr} {m : Str → Option Value} {news : List (Addr × Obj)} {s : Shared} {Q : Value → Shared → Prop} {t : Tok} {tk' : Nat} {x y : Int} (hret : ∀ (t : Tok) (h' : Heap) (tk' : Nat), Fr h₀ L h' m → News h₀ L h' news → Q (.int x t) { s with heap := h', toks := tk' }) (e : y = x) (F : Fr h₀ L h' m) (N : News h₀ L h' news) : Q (.int y t) { s with heap := h', toks := tk' } := by
  subst e
  exact hret t h' tk' F N
theorem ret_bool {h₀ h' : Heap} {L : Addr} {m : Str → Option Value} {news : List (Addr × Obj)} {s : Shared} {Q : Value → Shared → Prop} {tk' : Nat} {x y : Bool} (hret : ∀ (_t : Tok) (h' : Heap) (tk' : Nat), Fr h₀ L h' m → News h₀ L h' news → Q (.bool x) { s with heap := h', toks := tk' }) (e : y = x) (F : Fr h₀ L h' m) (N : News h₀ L h' news) : Q (.bool y) { s with heap := h', toks := tk' } := by
  subst e
  exact hret 0 h' tk' F N
end Mine
namespace Mine
theorem ret_val {h₀ h' : Heap} {L : Addr} {m : Str → Option Value} {news : List (Addr × Obj)} {s : Shared} {Q : Value → Shared → Prop} {tk' : Nat} {x y : Value} (hret : ∀ (_t : Tok) (h' : Heap) (tk' : Nat), Fr h₀ L h' m → News h₀ L h' news → Q x { s with heap := h', toks := tk' }) (e : y = x) (F : Fr h₀ L h' m) (N : News h₀ L h' news) : Q y { s with heap := h', toks := tk' } := by
  subst e
  exact hret 0 h' tk' F N
end Mine
namespace Mine
theorem good_true {l : OpenLaw} {cl : Str → Option Addr} {mean : ExcName → Option Value} {args : List WData} {s₁ s' : Shared} {L : Addr} {m : Str → Option Value} (F : Fr s₁.heap L s'.heap m) (hg : s'.gens = #[]) (hos : s'.os = s₁.os) :
    GoodW l.row.claim cl mean args s₁ (.ok (.ret (.bool true))) s' :=
  goodW_bool F hg (raisesW_false (fun _ h => nomatch h)) (postW_of rfl (w_eq_bool rfl rfl) rfl) hos
end Mine
namespace Mine
theorem ite_bne {x : Int} {A B : Prop} (h : B) : if (x != x) = true then A else B := by
  rw [if_neg (by simp)]; exact h
theorem ite_beq {x : Int} {A B : Prop} (h : A) : if (x == x) = true then A else B := by
  rw [if_pos (by simp)]; exact h
end Mine
namespace Mine
/-- a local's int, forgotten but for what P says of it -/
theorem store_some {M : Model} {A : Around} {env : Env} {y : Str} {tk : Tok} {Q : Unit → Shared → Prop} {E : Value → Shared → Prop} {s : Shared} {x : Int} (P : Int → Prop) (hx : P x) (h : ∀ z, P z → wpAny M A (storeName env y (.int z tk)) Q E s) : wpAny M A (storeName env y (.int x tk)) Q E s := h x hx
end Mine
namespace Mine
theorem ite_beq_ne {x y : Int} {A B : Prop} (hne : x ≠ y) (h : B) : if (x == y) = true then A else B := by
  rw [if_neg (by simpa using hne)]; exact h
theorem ite_beq_eq {x y : Int} {A B : Prop} (he : x = y) (h : A) : if (x == y) = true then A else B := by
  rw [if_pos (by simpa using he)]; exact h
theorem ite_bne_ne {x y : Int} {A B : Prop} (hne : x ≠ y) (h : A) : if (x != y) = true then A else B := by
  rw [if_pos (by simpa using hne)]; exact h
theorem ite_bne_eq {x y : Int} {A B : Prop} (he : x = y) (h : B) : if (x != y) = true then A else B := by
  rw [if_neg (by simpa using he)]; exact h
end Mine
namespace Mine
theorem good_self {l : OpenLaw} {cl : Str → Option Addr} {mean : ExcName → Option Value} {args : List WData} {s₁ s' : Shared} {L : Addr} {m : Str → Option Value} {x : Int} (F : Fr s₁.heap L s'.heap m) (hg : s'.gens = #[]) (hos : s'.os = s₁.os) :
    GoodW l.row.claim cl mean args s₁ (.ok (.ret (.bool (x == x)))) s' := by
  rw [beq_self_eq_true]; exact good_true F hg hos
end Mine
namespace Mine
/-- a test's ways meet again: its answer is b, and all else is as it was -/
theorem join {α : Type} {M : Model} {A : Around} {E : Value → Shared → Prop} {s : Shared} {h₀ : Heap} {L : Addr} {m : Str → Option Value} {news : List (Addr × Obj)} {t : Sem α} {Q : α → Shared → Prop} (b : α) (_F : Fr h₀ L s.heap m) (_N : News h₀ L s.heap news)
    (h1 : wpAny M A t (fun b' s' => b' = b ∧ ∃ h' tk', s' = { s with heap := h', toks := tk' } ∧ Fr h₀ L h' m ∧ News h₀ L h' news) E s) (h2 : ∀ h' tk', Fr h₀ L h' m → News h₀ L h' news → Q b { s with heap := h', toks := tk' }) : wpAny M A t Q E s :=
  wpAny_mono h1 (fun b' s' x => by
    obtain ⟨e, h', tk', es, F, N⟩ := x
    subst e
    subst es
    exact h2 h' tk' F N) (fun _ _ x => x)
end Mine
namespace Mine
theorem news_head {h₀ h : Heap} {L : Addr} {p : Addr × Obj} {r : List (Addr × Obj)} (N : News h₀ L h (p :: r)) : News h₀ L h [p] := fun q hq => N q (by
  rcases List.mem_cons.mp hq with e | e
  · rw [e]; exact List.Mem.head _
  · exact nomatch e)
end Mine
namespace Mine
/-! sizes of ints -/
theorem bits_le {x : Int} {n : Nat} (h : x.natAbs < 2 ^ n) : PySem.Builtin.Int.intBits x ≤ n := by
  unfold PySem.Builtin.Int.intBits
  split
  · exact Nat.zero_le _
  · rename_i hx
    have hx' : x.natAbs ≠ 0 := by
      intro e
      apply hx
      have : x = 0 := Int.natAbs_eq_zero.mp e
      rw [this]; rfl
    have := (Nat.log2_lt hx').mpr h
    omega
theorem bits_lt {x : Int} : x.natAbs < 2 ^ PySem.Builtin.Int.intBits x := by
  unfold PySem.Builtin.Int.intBits
  split
  · rename_i h
    have : x = 0 := by simpa using h
    rw [this]; decide
  · exact Nat.lt_log2_self
theorem bits_ge {x : Int} (h : x ≠ 0) : 2 ^ (PySem.Builtin.Int.intBits x - 1) ≤ x.natAbs := by
  unfold PySem.Builtin.Int.intBits
  split
  · rename_i h'
    exact absurd (by simpa using h') h
  · rw [Nat.add_sub_cancel]
    exact Nat.log2_self_le (by omega)
theorem log2_lt' {x : Int} {n : Nat} (hn : 0 < n) (h : x.natAbs < 2 ^ n) : x.natAbs.log2 < n := by
  rcases Nat.eq_zero_or_pos x.natAbs with h0 | hp
  · rw [h0]; simpa using hn
  · exact (Nat.log2_lt (Nat.ne_of_gt hp)).mpr h
theorem noPy {a b : Int} (h : b.natAbs < 2 ^ 2000) : PySem.Builtin.divisionGoesByPylong a b = false :=
  PyProof.noPylong_of_log2 (Nat.lt_of_lt_of_le (log2_lt' (by decide) h) (by decide))
theorem pow2_mono {a b : Nat} (h : a ≤ b) : 2 ^ a ≤ 2 ^ b := Nat.pow_le_pow_right (by decide) h
/-! the whole root -/
def rootN (r : Nat) : Nat → Nat
  | 0 => 0
  | n + 1 => if (rootN r n + 1) ^ r ≤ n + 1 then rootN r n + 1 else rootN r n
theorem rootN_facts {r : Nat} (hr : 1 ≤ r) : ∀ n, (rootN r n) ^ r ≤ n ∧ n < (rootN r n + 1) ^ r
  | 0 => by
    refine ⟨?_, ?_⟩
    · show 0 ^ r ≤ 0
      rw [Nat.zero_pow (by omega)]; exact Nat.le_refl _
    · show 0 < (0 + 1) ^ r
      rw [Nat.zero_add, Nat.one_pow]; decide
  | n + 1 => by
    have ih := rootN_facts hr n
    unfold rootN
    split
    · rename_i h
      refine ⟨h, ?_⟩
      have : (rootN r n + 1) ^ r < (rootN r n + 1 + 1) ^ r := Nat.pow_lt_pow_left (by omega) (by omega)
      omega
    · exact ⟨by omega, by omega⟩
theorem rootN_eq {r n t : Nat} (hr : 1 ≤ r) (h1 : t ^ r ≤ n) (h2 : n < (t + 1) ^ r) : rootN r n = t := by
  have h := rootN_facts hr n
  rcases Nat.lt_trichotomy (rootN r n) t with hlt | heq | hgt
  · have : (rootN r n + 1) ^ r ≤ t ^ r := Nat.pow_le_pow_left (by omega) r
    omega
  · exact heq
  · have : (t + 1) ^ r ≤ (rootN r n) ^ r := Nat.pow_le_pow_left (by omega) r
    omega
/-- the whole root of n ≥ 0 -/
def rootF (r n : Int) : Int := (rootN r.toNat n.toNat : Nat)
theorem rootF_nonneg (r n : Int) : 0 ≤ rootF r n := Int.natCast_nonneg _
theorem rootF_facts {r n : Int} (hr : 1 ≤ r) (hn : 0 ≤ n) : (rootF r n) ^ r.toNat ≤ n ∧ n < (rootF r n + 1) ^ r.toNat := by
  have h := rootN_facts (r := r.toNat) (by omega) n.toNat
  have e : (n.toNat : Int) = n := Int.toNat_of_nonneg hn
  refine ⟨?_, ?_⟩
  · have h1 : (((rootN r.toNat n.toNat) ^ r.toNat : Nat) : Int) ≤ (n.toNat : Int) := by exact_mod_cast h.1
    rw [e] at h1
    simpa [rootF] using h1
  · have h1 : (n.toNat : Int) < (((rootN r.toNat n.toNat + 1) ^ r.toNat : Nat) : Int) := by exact_mod_cast h.2
    rw [e] at h1
    simpa [rootF] using h1
theorem rootF_eq {r n t : Int} (hr : 1 ≤ r) (ht : 0 ≤ t) (h1 : t ^ r.toNat ≤ n) (h2 : n < (t + 1) ^ r.toNat) : rootF r n = t := by
  have hn : 0 ≤ n := Int.le_trans (Int.pow_nonneg ht) h1
  have e : (t.toNat : Int) = t := Int.toNat_of_nonneg ht
  have e2 : (n.toNat : Int) = n := Int.toNat_of_nonneg hn
  unfold rootF
  rw [rootN_eq (t := t.toNat) (by omega)]
  · exact e
  · have : ((t.toNat ^ r.toNat : Nat) : Int) ≤ (n.toNat : Int) := by
      rw [Int.natCast_pow, e, e2]; exact h1
    exact_mod_cast this
  · have : (n.toNat : Int) < (((t.toNat + 1) ^ r.toNat : Nat) : Int) := by
      rw [Int.natCast_pow, e2]
      rw [Int.natCast_add, e]; exact h2
    exact_mod_cast this
theorem rootF_one {n : Int} (hn : 0 ≤ n) : rootF 1 n = n := rootF_eq (by decide) hn (by show n ^ 1 ≤ n; rw [Int.pow_succ, Int.pow_zero]; omega) (by show n < (n + 1) ^ 1; rw [Int.pow_succ, Int.pow_zero]; omega)
theorem rootF_small {r n : Int} (hr : 1 ≤ r) (hn : 0 ≤ n) (h2 : n < 2) : rootF r n = n := by
  rcases (by omega : n = 0 ∨ n = 1) with rfl | rfl
  · refine rootF_eq hr (by decide) ?_ ?_
    · rw [Int.zero_pow (by omega)]; decide
    · rw [Int.zero_add, Int.one_pow]; decide
  · refine rootF_eq hr (by decide) ?_ ?_
    · rw [Int.one_pow]; decide
    · have h := Int.pow_pos (n := (2 : Int)) (m := r.toNat - 1) (by decide)
      have e : (2 : Int) ^ r.toNat = 2 ^ (r.toNat - 1) * 2 := by
        have := Int.pow_succ (2 : Int) (r.toNat - 1)
        rw [← this]; exact congrArg (fun k => (2 : Int) ^ k) (by omega)
      show (1 : Int) < 2 ^ r.toNat
      omega
/-! Newton's step for the square root -/
def newt (n x : Int) : Int := (x + n.fdiv x).fdiv 2
theorem sq_pos (a : Int) : 0 ≤ a * a := by
  rcases Int.le_total 0 a with h | h
  · exact Int.mul_nonneg h h
  · exact Int.mul_nonneg_of_nonpos_of_nonpos h h
/-- s is the whole root of n -/
def Sq (n s : Int) : Prop := 0 ≤ s ∧ s * s ≤ n ∧ n < (s + 1) * (s + 1)
theorem newt_ge {n x s : Int} (h : Sq n s) (hx : 0 < x) : s ≤ newt n x := by
  have hn : 0 ≤ n := Int.le_trans (sq_pos s) h.2.1
  unfold newt
  have e1 : n.fdiv x = n / x := Int.fdiv_eq_ediv_of_nonneg _ (by omega)
  have e2 : (x + n.fdiv x).fdiv 2 = (x + n.fdiv x) / 2 := Int.fdiv_eq_ediv_of_nonneg _ (by decide)
  rw [e2, e1]
  -- 2 s ≤ x + n / x, as x (2 s - x) ≤ s * s ≤ n
  have k : x * (2 * s - x) ≤ s * s := by
    have h0 := sq_pos (s - x)
    rw [Int.sub_mul, Int.mul_sub, Int.mul_sub] at h0
    rw [Int.mul_sub, Int.mul_comm 2 s, ← Int.mul_assoc]
    have : x * s * 2 = x * s + x * s := by omega
    have c : s * x = x * s := Int.mul_comm s x
    omega
  have k2 : 2 * s - x ≤ n / x := (Int.le_ediv_iff_mul_le hx).mpr (by rw [Int.mul_comm]; have := h.2.1; omega)
  omega
theorem newt_lt {n x s : Int} (h : Sq n s) (hx : s < x) : newt n x < x := by
  have e1 : n.fdiv x = n / x := Int.fdiv_eq_ediv_of_nonneg _ (by have := h.1; omega)
  have e2 : (x + n.fdiv x).fdiv 2 = (x + n.fdiv x) / 2 := Int.fdiv_eq_ediv_of_nonneg _ (by decide)
  unfold newt
  rw [e2, e1]
  have h1 : n < x * x := by
    have : (s + 1) * (s + 1) ≤ x * x := Int.mul_le_mul (by omega) (by omega) (by have := h.1; omega) (by have := h.1; omega)
    have := h.2.2
    omega
  have h2 : n / x < x := (Int.ediv_lt_iff_lt_mul (by have := h.1; omega)).mpr h1
  omega
theorem Sq.root {n s : Int} (h : Sq n s) : rootF 2 n = s := by
  refine rootF_eq (by decide) h.1 ?_ ?_
  · show s ^ 2 ≤ n
    rw [Int.pow_succ, Int.pow_succ, Int.pow_zero, Int.one_mul]; exact h.2.1
  · show n < (s + 1) ^ 2
    rw [Int.pow_succ, Int.pow_succ, Int.pow_zero, Int.one_mul]; exact h.2.2
theorem sq_root {n : Int} (hn : 0 ≤ n) : Sq n (rootF 2 n) := by
  have h := rootF_facts (r := 2) (by decide) hn
  refine ⟨rootF_nonneg _ _, ?_, ?_⟩
  · have := h.1
    rw [show Int.toNat 2 = 2 from rfl, Int.pow_succ, Int.pow_succ, Int.pow_zero, Int.one_mul] at this
    exact this
  · have := h.2
    rw [show Int.toNat 2 = 2 from rfl, Int.pow_succ, Int.pow_succ, Int.pow_zero, Int.one_mul] at this
    exact this
/-- the root is no greater than the number -/
theorem rootF_le {r n : Int} (hr : 1 ≤ r) (hn : 0 ≤ n) : rootF r n ≤ n := by
  have h := (rootF_facts hr hn).1
  have h0 := rootF_nonneg r n
  rcases (by omega : rootF r n = 0 ∨ 1 ≤ rootF r n) with e | e
  · omega
  · have : (rootF r n) ^ 1 ≤ (rootF r n) ^ r.toNat := by
      have hN : (rootN r.toNat n.toNat) ^ 1 ≤ (rootN r.toNat n.toNat) ^ r.toNat := Nat.pow_le_pow_right (by unfold rootF at e; omega) (by omega)
      unfold rootF
      exact_mod_cast hN
    rw [Int.pow_succ, Int.pow_zero, Int.one_mul] at this
    omega
end Mine
namespace Mine
abbrev cF (n : Int) : Int := (n * 4).fdiv 3
abbrev aF (n : Int) : Int := (↑(PySem.Builtin.Int.intBits (cF n)) : Int).fdiv (2 ^ Int.toNat 1)
abbrev xO (n : Int) : Int := (1 : Int) * 2 ^ (aF n).toNat
abbrev xE (n : Int) : Int := ((3 : Int) * 2 ^ (aF n).toNat).fdiv (2 ^ Int.toNat 2)
theorem two1 : ((2 : Int) ^ Int.toNat 1) = 2 := by decide
theorem two2 : ((2 : Int) ^ Int.toNat 2) = 4 := by decide
theorem newt_form (n y : Int) : (y + n.fdiv y).fdiv (2 ^ Int.toNat 1) = newt n y := by rw [two1]; rfl
theorem cF_facts {n : Int} (hn : 0 ≤ n) : 0 ≤ cF n ∧ 3 * cF n ≤ 4 * n ∧ 4 * n < 3 * cF n + 3 := by
  have := fdiv_fmod_facts (n * 4) 3
  have h2 := this.2.2.1 (by decide)
  have h1 := this.1
  unfold cF
  omega
theorem aF_facts (n : Int) : 0 ≤ aF n ∧ 2 * aF n ≤ (PySem.Builtin.Int.intBits (cF n) : Int) ∧ (PySem.Builtin.Int.intBits (cF n) : Int) ≤ 2 * aF n + 1 := by
  have := fdiv_fmod_facts (PySem.Builtin.Int.intBits (cF n) : Int) (2 ^ Int.toNat 1)
  unfold aF
  rw [two1] at *
  have h2 := this.2.2.1 (by decide)
  omega
theorem cF_bits {n : Int} (hn : 0 ≤ n) (hb : n.natAbs < 2 ^ 1900) : PySem.Builtin.Int.intBits (cF n) ≤ 1901 := by
  refine bits_le ?_
  have h := cF_facts hn
  have e : 2 ^ 1901 = 2 ^ 1900 * 2 := by rw [show 1901 = 1900 + 1 from rfl, Nat.pow_succ]
  generalize 2 ^ 1901 = B at *
  generalize 2 ^ 1900 = C at *
  omega
theorem aF_le {n : Int} (hn : 0 ≤ n) (hb : n.natAbs < 2 ^ 1900) : aF n ≤ 950 := by
  have h1 := cF_bits hn hb
  have h2 := aF_facts n
  omega
theorem shl1_ok {n : Int} (hn : 0 ≤ n) (hb : n.natAbs < 2 ^ 1900) : (PySem.Builtin.Int.intBits 1 : Int) + aF n ≤ 2 ^ 27 := by
  have := aF_le hn hb
  have e : PySem.Builtin.Int.intBits 1 = 1 := by decide
  rw [e]; omega
theorem shl3_ok {n : Int} (hn : 0 ≤ n) (hb : n.natAbs < 2 ^ 1900) : (PySem.Builtin.Int.intBits 3 : Int) + aF n ≤ 2 ^ 27 := by
  have := aF_le hn hb
  have e : PySem.Builtin.Int.intBits 3 = 2 := by decide
  rw [e]; omega
theorem bitAnd1 (k : Nat) : PySem.Builtin.bitAnd (k : Int) 1 = ((k % 2 : Nat) : Int) := by
  unfold PySem.Builtin.bitAnd
  rw [decide_eq_true (Int.natCast_nonneg k), decide_eq_true (by decide : (0 : Int) ≤ 1)]
  show ((((k : Int).toNat &&& (1 : Int).toNat : Nat)) : Int) = _
  rw [Int.toNat_natCast]
  show ((k &&& 1 : Nat) : Int) = _
  rw [Nat.and_one_is_mod]
theorem p2_pos (k : Nat) : (0 : Int) < 2 ^ k := Int.pow_pos (by decide)
/-- the two starting values, and the loop's word -/
def IsqGood (n x y : Int) : Prop := (x = y ∧ x = rootF 2 n) ∨ (1 ≤ n ∧ 0 < x ∧ x.natAbs < 2 ^ 1900 ∧ y = newt n x)
theorem root_ge1 {n : Int} (hn : 1 ≤ n) : 1 ≤ rootF 2 n := by
  have h := sq_root (n := n) (by omega)
  rcases (by have := h.1; omega : rootF 2 n = 0 ∨ 1 ≤ rootF 2 n) with e | e
  · have := h.2.2; rw [e] at this; omega
  · exact e
theorem p2_bd {k : Nat} (hk : k ≤ 951) : ((2 : Int) ^ k).natAbs < 2 ^ 1900 := by
  rw [Int.natAbs_pow]
  exact Nat.pow_lt_pow_right (by decide) (by omega)
theorem isq_odd {n : Int} (hn : 0 ≤ n) (hb : n.natAbs < 2 ^ 1900) (ho : PySem.Builtin.bitAnd (↑(PySem.Builtin.Int.intBits ((n * 4).fdiv 3))) 1 ≠ 0) :
    IsqGood n (xO n) ((xO n + n.fdiv (2 ^ (aF n).toNat)).fdiv (2 ^ Int.toNat 1)) := by
  right
  rw [bitAnd1] at ho
  have ha := aF_facts n
  have hc := cF_facts hn
  have hal := aF_le hn hb
  have hn1 : 1 ≤ n := by
    rcases (by omega : n = 0 ∨ 1 ≤ n) with e | e
    · exfalso; apply ho; rw [e]; rfl
    · exact e
  refine ⟨hn1, ?_, ?_, ?_⟩
  · unfold xO; rw [Int.one_mul]; exact p2_pos _
  · unfold xO; rw [Int.one_mul]; exact p2_bd (by omega)
  · rw [← newt_form]; unfold xO; rw [Int.one_mul]
theorem fdiv_fdiv (a b c : Int) (hb : 0 < b) (hc : 0 < c) : (a.fdiv b).fdiv c = a.fdiv (b * c) := by
  have hbc : 0 < b * c := Int.mul_pos hb hc
  rw [Int.fdiv_eq_ediv_of_nonneg _ (by omega), Int.fdiv_eq_ediv_of_nonneg _ (by omega), Int.fdiv_eq_ediv_of_nonneg _ (by omega)]
  rw [Int.ediv_ediv, if_neg (by omega)]; omega
theorem isq_even {n : Int} (hn : 0 ≤ n) (hb : n.natAbs < 2 ^ 1900) (ho : PySem.Builtin.bitAnd (↑(PySem.Builtin.Int.intBits ((n * 4).fdiv 3))) 1 = 0) :
    IsqGood n (xE n) ((xE n + ((n * 4).fdiv 3).fdiv (2 ^ (aF n).toNat)).fdiv (2 ^ Int.toNat 1)) := by
  rw [bitAnd1] at ho
  have ha := aF_facts n
  have hc := cF_facts hn
  have hal := aF_le hn hb
  have hb1 := bits_lt (x := cF n)
  rcases (by omega : aF n = 0 ∨ aF n = 1 ∨ 2 ≤ aF n) with e | e | e
  · -- d = 0
    have hd : PySem.Builtin.Int.intBits (cF n) = 0 := by unfold cF at *; omega
    rw [hd] at hb1
    have hc0 : cF n = 0 := by omega
    have hn0 : n = 0 := by omega
    left
    rw [hn0]
    have hr : rootF 2 0 = 0 := rootF_small (by decide) (by decide) (by decide)
    refine ⟨?_, ?_⟩
    · decide +kernel
    · rw [hr]; decide +kernel
  · have hd : PySem.Builtin.Int.intBits (cF n) = 2 := by unfold cF at *; omega
    have hb2 := bits_ge (x := cF n) (by intro e0; rw [e0] at hd; exact absurd hd (by decide))
    rw [hd] at hb1 hb2
    have hn2 : n = 2 := by omega
    left
    rw [hn2]
    have hr : rootF 2 2 = 1 := rootF_eq (by decide) (by decide) (by decide) (by decide)
    refine ⟨?_, ?_⟩
    · decide +kernel
    · rw [hr]; decide +kernel
  · right
    have e4 : ∃ k : Nat, (aF n).toNat = k + 2 := ⟨(aF n).toNat - 2, by omega⟩
    obtain ⟨k, hk⟩ := e4
    have ex : xE n = 3 * 2 ^ k := by
      unfold xE
      rw [two2, hk, Int.pow_succ, Int.pow_succ, Int.fdiv_eq_ediv_of_nonneg _ (by decide)]
      omega
    have hp := p2_pos k
    have hbits2 := bits_ge (x := cF n) (by
      intro e0
      have : PySem.Builtin.Int.intBits (cF n) = 0 := by rw [e0]; rfl
      omega)
    have hn1 : 1 ≤ n := by
      rcases (by omega : n = 0 ∨ 1 ≤ n) with e0 | e0
      · exfalso
        rw [e0] at hbits2
        have hz : (cF 0).natAbs = 0 := by decide
        have hq := Nat.pow_pos (n := PySem.Builtin.Int.intBits (cF 0) - 1) (by decide : 0 < 2)
        omega
      · exact e0
    refine ⟨hn1, by rw [ex]; omega, ?_, ?_⟩
    · rw [ex]
      have : (3 * 2 ^ k : Int) ≤ 2 ^ (k + 2) := by rw [Int.pow_succ, Int.pow_succ]; omega
      have h2 := p2_bd (k := k + 2) (by omega)
      have h3 := p2_pos (k + 2)
      omega
    · rw [← newt_form]
      have : ((n * 4).fdiv 3).fdiv (2 ^ (aF n).toNat) = n.fdiv (xE n) := by
        rw [fdiv_fdiv _ _ _ (by decide) (p2_pos _), ex, hk, Int.pow_succ, Int.pow_succ]
        rw [Int.fdiv_eq_ediv_of_nonneg _ (by omega), Int.fdiv_eq_ediv_of_nonneg _ (by omega)]
        rw [show (3 : Int) * (2 ^ k * 2 * 2) = (3 * 2 ^ k) * 4 by omega]
        exact Int.mul_ediv_mul_of_pos_left n (3 * 2 ^ k) (by decide)
      rw [this]
/-- the loop's word -/
def IsqInv (n x y : Int) : Prop := 1 ≤ n ∧ rootF 2 n ≤ x ∧ x.natAbs < 2 ^ 1902 ∧ y = newt n x
theorem newt_bd {n x : Int} (hn : 1 ≤ n) (hb : n.natAbs < 2 ^ 1900) (hx : 0 < x) (hx2 : x.natAbs < 2 ^ 1900) : (newt n x).natAbs < 2 ^ 1900 := by
  have h0 := newt_ge (sq_root (by omega : 0 ≤ n)) hx
  have h1 := root_ge1 hn
  have hq : n.fdiv x ≤ n := by
    rw [Int.fdiv_eq_ediv_of_nonneg _ (by omega)]
    exact Int.ediv_le_self x (by omega)
  have e2 : newt n x = (x + n.fdiv x) / 2 := Int.fdiv_eq_ediv_of_nonneg _ (by decide)
  generalize 2 ^ 1900 = C at *
  omega
theorem isq_div {n x y : Int} (hb : n.natAbs < 2 ^ 1900) (h : IsqGood n x y) (hne : x ≠ y) : y ≠ 0 ∧ y.natAbs < 2 ^ 1900 := by
  rcases h with h | ⟨hn, hx, hx2, e⟩
  · exact absurd h.1 hne
  · have h0 := newt_ge (sq_root (by omega : 0 ≤ n)) hx
    have h1 := root_ge1 hn
    rw [e]
    exact ⟨by omega, newt_bd hn hb hx hx2⟩
theorem isq_start {n x y : Int} (hb : n.natAbs < 2 ^ 1900) (h : IsqGood n x y) (hne : x ≠ y) : IsqInv n y ((y + n.fdiv y).fdiv (2 ^ Int.toNat 1)) := by
  have hd := isq_div hb h hne
  rcases h with h | ⟨hn, hx, hx2, e⟩
  · exact absurd h.1 hne
  · refine ⟨hn, ?_, Nat.lt_of_lt_of_le hd.2 (pow2_mono (by decide)), newt_form n y⟩
    rw [e]
    exact newt_ge (sq_root (by omega : 0 ≤ n)) hx
theorem isq_loop_div {n x y : Int} (h : IsqInv n x y) (hl : y < x) : y ≠ 0 ∧ y.natAbs < 2 ^ 2000 := by
  obtain ⟨hn, hx, hb, e⟩ := h
  have h1 := root_ge1 hn
  have h0 := newt_ge (sq_root (by omega : 0 ≤ n)) (by omega : 0 < x)
  rw [← e] at h0
  have hm := pow2_mono (by decide : 1902 ≤ 2000)
  generalize 2 ^ 1902 = C at *
  generalize 2 ^ 2000 = D at *
  omega
theorem isq_turn {n x y : Int} (h : IsqInv n x y) (hl : y < x) : IsqInv n y ((y + n.fdiv y).fdiv (2 ^ Int.toNat 1)) := by
  obtain ⟨hn, hx, hb, e⟩ := h
  have h1 := root_ge1 hn
  have h0 := newt_ge (sq_root (by omega : 0 ≤ n)) (by omega : 0 < x)
  rw [← e] at h0
  refine ⟨hn, h0, ?_, newt_form n y⟩
  generalize 2 ^ 1902 = C at *
  omega
theorem isq_meas {n x y : Int} (h : IsqInv n x y) (hl : y < x) : y.toNat < x.toNat := by
  obtain ⟨hn, hx, hb, e⟩ := h
  have h1 := root_ge1 hn
  omega
theorem isq_done {n x y : Int} (h : IsqInv n x y) (hl : ¬ y < x) : x = rootF 2 n := by
  obtain ⟨hn, hx, hb, e⟩ := h
  by_cases hlt : rootF 2 n < x
  · exfalso
    have := newt_lt (sq_root (by omega : 0 ≤ n)) hlt
    rw [← e] at this
    exact hl this
  · omega
theorem isq_same {n x y : Int} (h : IsqGood n x y) (he : x = y) : x = rootF 2 n := by
  rcases h with h | ⟨hn, hx, hx2, e⟩
  · exact h.2
  · have h0 := newt_ge (sq_root (by omega : 0 ≤ n)) hx
    by_cases hlt : rootF 2 n < x
    · exfalso
      have := newt_lt (sq_root (by omega : 0 ≤ n)) hlt
      rw [← e] at this
      omega
    · rw [← e] at h0; omega
end Mine
namespace Mine
abbrev kF (n r : Int) : Int := (↑(PySem.Builtin.Int.intBits n) : Int).fdiv r
theorem kF_facts {n r : Int} (hr : 1 ≤ r) (hb : n.natAbs < 2 ^ 1900) : 0 ≤ kF n r ∧ kF n r ≤ 1900 := by
  unfold kF
  rw [Int.fdiv_eq_ediv_of_nonneg _ (by omega)]
  have h1 := bits_le hb
  refine ⟨Int.ediv_nonneg (by omega) (by omega), ?_⟩
  exact Int.le_trans (Int.ediv_le_self _ (by omega)) (by omega)
theorem pow_ge_self {a : Int} {r : Nat} (ha : 1 ≤ a) (hr : 1 ≤ r) : a ≤ a ^ r := by
  have e : a ^ r = a ^ (r - 1) * a := by
    have := Int.pow_succ a (r - 1)
    rw [← this]; exact congrArg (fun k => a ^ k) (by omega)
  rw [e]
  have h : 1 ≤ a ^ (r - 1) := Int.pow_pos (by omega)
  have := Int.mul_le_mul_of_nonneg_right h (by omega : 0 ≤ a)
  omega
theorem pow_mono {a b : Int} {r : Nat} (ha : 0 ≤ a) (h : a ≤ b) : a ^ r ≤ b ^ r := by
  have hN : a.toNat ^ r ≤ b.toNat ^ r := Nat.pow_le_pow_left (by omega) r
  have : ((a.toNat ^ r : Nat) : Int) ≤ ((b.toNat ^ r : Nat) : Int) := by exact_mod_cast hN
  rw [Int.natCast_pow, Int.natCast_pow, Int.toNat_of_nonneg ha, Int.toNat_of_nonneg (by omega)] at this
  exact this
theorem lt_of_pow_lt {a b : Int} {r : Nat} (hb : 0 ≤ b) (h : a ^ r < b ^ r) : a < b := by
  by_cases hab : a < b
  · exact hab
  · have := pow_mono (r := r) hb (by omega : b ≤ a)
    omega
theorem pow_size {a r : Int} (ha : a.natAbs < 2 ^ 1910) (hr : 1 ≤ r) (hr2 : r ≤ 1000) : (PySem.Builtin.Int.intBits a : Int) * r ≤ 2 ^ 27 := by
  have h1 := bits_le ha
  have : (PySem.Builtin.Int.intBits a : Int) * r ≤ 1910 * 1000 := Int.mul_le_mul (by omega) hr2 (by omega) (by decide)
  omega
theorem one_shl_ok {n r : Int} (hr : 1 ≤ r) (hb : n.natAbs < 2 ^ 1900) : (PySem.Builtin.Int.intBits 1 : Int) + kF n r ≤ 2 ^ 27 := by
  have := kF_facts hr hb
  have e : PySem.Builtin.Int.intBits 1 = 1 := by decide
  rw [e]; omega
/-- the first loop -/
def In1 (lo : Int) : Prop := 0 ≤ lo ∧ lo.natAbs < 2 ^ 1910
theorem start_bd {n r : Int} (hr : 1 ≤ r) (hb : n.natAbs < 2 ^ 1900) : ((1 : Int) * 2 ^ (kF n r).toNat).natAbs < 2 ^ 1910 := by
  have := kF_facts hr hb
  rw [Int.one_mul, Int.natAbs_pow]
  exact Nat.pow_lt_pow_right (by decide) (by omega)
theorem in1_start {n r : Int} (hr : 1 ≤ r) (hb : n.natAbs < 2 ^ 1900) : In1 ((1 : Int) * 2 ^ (kF n r).toNat) :=
  ⟨by rw [Int.one_mul]; exact Int.le_of_lt (p2_pos _), start_bd hr hb⟩
theorem in1_turn {lo : Int} (h : In1 lo) : In1 (lo.fdiv (2 ^ Int.toNat 2)) := by
  obtain ⟨h1, h2⟩ := h
  unfold In1
  rw [two2, Int.fdiv_eq_ediv_of_nonneg _ (by decide)]
  generalize 2 ^ 1910 = C at *
  omega
theorem in1_meas {n r lo : Int} (hn : 0 ≤ n) (hr : 1 ≤ r) (h : In1 lo) (hl : n < lo ^ r.toNat) : (lo.fdiv (2 ^ Int.toNat 2)).toNat < lo.toNat := by
  have h0 : lo ≠ 0 := by
    intro e
    rw [e, Int.zero_pow (by omega)] at hl
    omega
  rw [two2, Int.fdiv_eq_ediv_of_nonneg _ (by decide)]
  have := h.1
  omega
/-- the second loop -/
def In2 (up : Int) : Prop := 1 ≤ up ∧ up.natAbs < 2 ^ 1910
theorem in2_start {n r : Int} (hr : 1 ≤ r) (hb : n.natAbs < 2 ^ 1900) : In2 ((1 : Int) * 2 ^ (kF n r).toNat) :=
  ⟨by rw [Int.one_mul]; exact p2_pos _, start_bd hr hb⟩
theorem in2_turn {n r up : Int} (hr : 1 ≤ r) (hb : n.natAbs < 2 ^ 1900) (h : In2 up) (hl : up ^ r.toNat ≤ n) : In2 (up * 2 ^ Int.toNat 2) := by
  have h1 := pow_ge_self (r := r.toNat) h.1 (by omega)
  have h0 := h.1
  rw [two2]
  refine ⟨by omega, ?_⟩
  have e : 2 ^ 1910 = 2 ^ 1900 * 1024 := by rw [show 1910 = 1900 + 10 from rfl, Nat.pow_add]
  rw [e]
  generalize 2 ^ 1900 = C at *
  omega
theorem in2_meas {n r up : Int} (hr : 1 ≤ r) (h : In2 up) (hl : up ^ r.toNat ≤ n) : (n + 1 - up * 2 ^ Int.toNat 2).toNat < (n + 1 - up).toNat := by
  have h1 := pow_ge_self (r := r.toNat) h.1 (by omega)
  have h0 := h.1
  rw [two2]
  omega
theorem in2_shl {up : Int} (h : In2 up) : (PySem.Builtin.Int.intBits up : Int) + 2 ≤ 2 ^ 27 := by
  have := bits_le h.2
  omega
/-- the third loop -/
def In3 (n r lo up : Int) : Prop := 0 ≤ lo ∧ lo < up ∧ lo ^ r.toNat ≤ n ∧ n < up ^ r.toNat ∧ up.natAbs < 2 ^ 1910
theorem in3_start {n r lo up : Int} (h1 : In1 lo) (h2 : In2 up) (hlo : ¬ n < lo ^ r.toNat) (hup : ¬ up ^ r.toNat ≤ n) : In3 n r lo up :=
  ⟨h1.1, lt_of_pow_lt (by have := h2.1; omega) (by omega : lo ^ r.toNat < up ^ r.toNat), by omega, by omega, h2.2⟩
theorem mid_facts {n r lo up : Int} (h : In3 n r lo up) (hne : lo ≠ up - 1) : lo < (lo + up).fdiv 2 ∧ (lo + up).fdiv 2 < up ∧ ((lo + up).fdiv 2).natAbs < 2 ^ 1910 := by
  rw [Int.fdiv_eq_ediv_of_nonneg _ (by decide)]
  obtain ⟨a, b, c, d, e⟩ := h
  generalize 2 ^ 1910 = C at *
  omega
theorem in3_low {n r lo up : Int} (h : In3 n r lo up) (hne : lo ≠ up - 1) (hm : ((lo + up).fdiv 2) ^ r.toNat < n) : In3 n r ((lo + up).fdiv 2) up := by
  have k := mid_facts h hne
  obtain ⟨a, b, c, d, e⟩ := h
  exact ⟨by omega, k.2.1, by omega, d, e⟩
theorem in3_up {n r lo up : Int} (h : In3 n r lo up) (hne : lo ≠ up - 1) (hm : n < ((lo + up).fdiv 2) ^ r.toNat) : In3 n r lo ((lo + up).fdiv 2) := by
  have k := mid_facts h hne
  obtain ⟨a, b, c, d, e⟩ := h
  exact ⟨a, k.1, c, hm, k.2.2⟩
theorem in3_low_m {n r lo up : Int} (h : In3 n r lo up) (hne : lo ≠ up - 1) : (up - (lo + up).fdiv 2).toNat < (up - lo).toNat := by
  have k := mid_facts h hne
  omega
theorem in3_up_m {n r lo up : Int} (h : In3 n r lo up) (hne : lo ≠ up - 1) : ((lo + up).fdiv 2 - lo).toNat < (up - lo).toNat := by
  have k := mid_facts h hne
  omega
theorem in3_hit {n r lo up : Int} (hr : 1 ≤ r) (h : In3 n r lo up) (hne : lo ≠ up - 1) (hm : ((lo + up).fdiv 2) ^ r.toNat = n) : (lo + up).fdiv 2 = rootF r n := by
  have k := mid_facts h hne
  have h0 := h.1
  refine (rootF_eq hr (by omega) (by omega) ?_).symm
  rw [← hm]
  have e1 : ((lo + up).fdiv 2) ^ r.toNat = (((lo + up).fdiv 2).toNat ^ r.toNat : Nat) := by rw [Int.natCast_pow, Int.toNat_of_nonneg (by omega)]
  have e2 : ((lo + up).fdiv 2 + 1) ^ r.toNat = ((((lo + up).fdiv 2).toNat + 1) ^ r.toNat : Nat) := by rw [Int.natCast_pow, Int.natCast_add, Int.toNat_of_nonneg (by omega)]; rfl
  rw [e1, e2]
  exact_mod_cast Nat.pow_lt_pow_left (by omega) (by omega)
theorem in3_done {n r lo up : Int} (hr : 1 ≤ r) (h : In3 n r lo up) (hne : lo = up - 1) : lo = rootF r n := by
  obtain ⟨a, b, c, d, e⟩ := h
  refine (rootF_eq hr a c ?_).symm
  rw [hne, Int.sub_add_cancel]; exact d
end Mine
namespace Mine
theorem pow1 {a r : Int} (h : In1 a) (hr : 1 ≤ r) (hr2 : r ≤ 1000) : (PySem.Builtin.Int.intBits a : Int) * r ≤ 2 ^ 27 := pow_size h.2 hr hr2
theorem pow2 {a r : Int} (h : In2 a) (hr : 1 ≤ r) (hr2 : r ≤ 1000) : (PySem.Builtin.Int.intBits a : Int) * r ≤ 2 ^ 27 := pow_size h.2 hr hr2
theorem pow3 {n r lo up : Int} (h : In3 n r lo up) (hne : lo ≠ up - 1) (hr : 1 ≤ r) (hr2 : r ≤ 1000) : (PySem.Builtin.Int.intBits ((lo + up).fdiv 2) : Int) * r ≤ 2 ^ 27 := pow_size (mid_facts h hne).2.2 hr hr2
theorem r_bd {r : Int} (hr : 1 ≤ r) (hr2 : r ≤ 1000) : r ≠ 0 ∧ r.natAbs < 2 ^ 2000 := by
  refine ⟨by omega, ?_⟩
  have : r.natAbs < 2 ^ 10 := by omega
  exact Nat.lt_of_lt_of_le this (pow2_mono (by decide))
end Mine
namespace Mine
theorem in3_up' {n r lo up : Int} (h : In3 n r lo up) (hne : lo ≠ up - 1) (hm1 : ((lo + up).fdiv 2) ^ r.toNat ≠ n) (hm2 : ¬ ((lo + up).fdiv 2) ^ r.toNat < n) : In3 n r lo ((lo + up).fdiv 2) := in3_up h hne (by omega)
end Mine
namespace Mine
theorem pow_lt {a b : Int} {r : Nat} (ha : 0 ≤ a) (h : a < b) (hr : 1 ≤ r) : a ^ r < b ^ r := by
  have hN : a.toNat ^ r < b.toNat ^ r := Nat.pow_lt_pow_left (by omega) (by omega)
  have : ((a.toNat ^ r : Nat) : Int) < ((b.toNat ^ r : Nat) : Int) := by exact_mod_cast hN
  rw [Int.natCast_pow, Int.natCast_pow, Int.toNat_of_nonneg ha, Int.toNat_of_nonneg (by omega)] at this
  exact this
theorem odd_form {r : Int} (h0 : 0 ≤ r) (ho : r.fmod 2 ≠ 0) : ∃ k : Nat, r.toNat = 2 * k + 1 := by
  have h := fdiv_fmod_facts r 2
  have h2 := h.2.2.1 (by decide)
  refine ⟨(r.fdiv 2).toNat, ?_⟩
  omega
theorem even_form {r : Int} (h0 : 0 ≤ r) (ho : r.fmod 2 = 0) : ∃ k : Nat, r.toNat = 2 * k := by
  have h := fdiv_fmod_facts r 2
  refine ⟨(r.fdiv 2).toNat, ?_⟩
  omega
theorem sq_pow (x : Int) (k : Nat) : x ^ (2 * k) = (x * x) ^ k := by
  rw [Int.pow_mul, show x ^ 2 = x * x by rw [Int.pow_succ, Int.pow_succ, Int.pow_zero, Int.one_mul]]
theorem neg_pow_odd (v : Int) {r : Nat} {k : Nat} (h : r = 2 * k + 1) : (-v) ^ r = -(v ^ r) := by
  rw [h, Int.pow_succ, Int.pow_succ, sq_pow, sq_pow, Int.neg_mul_neg, Int.mul_neg]
/-- v's power r is n, and introot finds v -/
def Hit (n r v : Int) : Prop := v ^ r.toNat = n ∧ (0 ≤ v ∨ r.fmod 2 ≠ 0) ∧ 1 ≤ r ∧ r ≤ 1000 ∧ n.natAbs < 2 ^ 1900
/-- no whole number that introot tries has n as its power r -/
def Miss (n r : Int) : Prop := ((0 ≤ n ∧ (rootF r n) ^ r.toNat ≠ n) ∨ (n < 0 ∧ (r.fmod 2 = 0 ∨ (rootF r (-n)) ^ r.toNat ≠ -n))) ∧ 1 ≤ r ∧ r ≤ 1000 ∧ n.natAbs < 2 ^ 1900
theorem Hit.nonneg {n r v : Int} (h : Hit n r v) (hv : 0 ≤ v) : 0 ≤ n := by rw [← h.1]; exact Int.pow_nonneg hv
theorem root_self {r v : Int} (hr : 1 ≤ r) (hv : 0 ≤ v) : rootF r (v ^ r.toNat) = v := rootF_eq hr hv (Int.le_refl _) (pow_lt hv (by omega) (by omega))
theorem Hit.root {n r v : Int} (h : Hit n r v) (hv : 0 ≤ v) : rootF r n = v := by rw [← h.1]; exact root_self h.2.2.1 hv
theorem Hit.neg {n r v : Int} (h : Hit n r v) (hv : ¬ 0 ≤ v) : n < 0 ∧ r.fmod 2 ≠ 0 ∧ rootF r (-n) = -v := by
  obtain ⟨he, ho, hr, _, _⟩ := h
  have ho' : r.fmod 2 ≠ 0 := by rcases ho with a | a; exact absurd a hv; exact a
  obtain ⟨k, hk⟩ := odd_form (by omega) ho'
  have e := neg_pow_odd v hk
  have hp : 0 < (-v) ^ r.toNat := Int.pow_pos (by omega)
  refine ⟨by omega, ho', ?_⟩
  rw [← he, ← e]
  exact root_self hr (by omega)
/-! the two quick looks -/
theorem and2 (a : Nat) : PySem.Builtin.bitAnd (a : Int) 2 = ((2 * (a / 2 % 2) : Nat) : Int) := by
  unfold PySem.Builtin.bitAnd
  rw [decide_eq_true (Int.natCast_nonneg a), decide_eq_true (by decide : (0 : Int) ≤ 2)]
  show ((((a : Int).toNat &&& (2 : Int).toNat : Nat)) : Int) = _
  rw [Int.toNat_natCast]
  show ((a &&& 2 : Nat) : Int) = _
  have h1 : (a &&& 2) % 2 ^ 2 = (a % 2 ^ 2) &&& (2 % 2 ^ 2) := Nat.and_mod_two_pow
  have h2 : a &&& 2 ≤ 2 := Nat.and_le_right
  have h3 : a &&& 2 = (a % 4) &&& 2 := by
    have : (a &&& 2) % 4 = (a % 4) &&& 2 := h1
    omega
  rw [h3]
  have h4 : a % 4 = 0 ∨ a % 4 = 1 ∨ a % 4 = 2 ∨ a % 4 = 3 := by omega
  have h5 : a / 2 % 2 = (a % 4) / 2 := by omega
  rw [h5]
  rcases h4 with e | e | e | e <;> rw [e] <;> rfl
theorem and7 (n : Int) : PySem.Builtin.bitAnd n 7 = n % 8 := by
  unfold PySem.Builtin.bitAnd
  rw [decide_eq_true (by decide : (0 : Int) ≤ 7)]
  have k : ∀ a : Nat, a &&& 7 = a % 8 := fun a => Nat.and_two_pow_sub_one_eq_mod a 3
  by_cases h : 0 ≤ n
  · rw [decide_eq_true h]
    show ((n.toNat &&& (7 : Int).toNat : Nat) : Int) = _
    rw [show (7 : Int).toNat = 7 from rfl, k]
    omega
  · rw [decide_eq_false h]
    show (7 : Int) - (((7 : Int).toNat &&& (PySem.Builtin.bitNot n).toNat : Nat) : Int) = _
    unfold PySem.Builtin.bitNot
    rw [show (7 : Int).toNat = 7 from rfl, Nat.and_comm, k]
    omega
theorem sq_mod4 (v : Int) : v * v % 4 = 0 ∨ v * v % 4 = 1 := by
  have h : v * v % 4 = (v % 4) * (v % 4) % 4 := Int.mul_emod v v 4
  have h2 : v % 4 = 0 ∨ v % 4 = 1 ∨ v % 4 = 2 ∨ v % 4 = 3 := by omega
  rcases h2 with e | e | e | e <;> rw [e] at h <;> omega
theorem cube_mod8 (v : Int) : v * v * v % 8 ≠ 2 ∧ v * v * v % 8 ≠ 4 ∧ v * v * v % 8 ≠ 6 := by
  have h : v * v * v % 8 = (v % 8) * (v % 8) * (v % 8) % 8 := by
    rw [Int.mul_emod, Int.mul_emod v v, Int.mul_emod ((v % 8) * (v % 8)) (v % 8), Int.emod_emod]
  have h2 : v % 8 = 0 ∨ v % 8 = 1 ∨ v % 8 = 2 ∨ v % 8 = 3 ∨ v % 8 = 4 ∨ v % 8 = 5 ∨ v % 8 = 6 ∨ v % 8 = 7 := by omega
  rcases h2 with e | e | e | e | e | e | e | e <;> rw [e] at h <;> omega
theorem pow2_eq (v : Int) : v ^ Int.toNat 2 = v * v := by rw [show Int.toNat 2 = 2 from rfl, Int.pow_succ, Int.pow_succ, Int.pow_zero, Int.one_mul]
theorem pow3_eq (v : Int) : v ^ Int.toNat 3 = v * v * v := by rw [show Int.toNat 3 = 3 from rfl, Int.pow_succ, Int.pow_succ, Int.pow_succ, Int.pow_zero, Int.one_mul]
theorem hit_and2 {n r v : Int} (h : Hit n r v) (hr : r = 2) : PySem.Builtin.bitAnd n 2 = 0 := by
  have he := h.1
  rw [hr, pow2_eq] at he
  have hn : 0 ≤ n := by rw [← he]; exact sq_pos v
  have e : n = (n.toNat : Int) := (Int.toNat_of_nonneg hn).symm
  rw [e, and2]
  have := sq_mod4 v
  rw [he] at this
  have : n.toNat / 2 % 2 = 0 := by omega
  rw [this]; rfl
theorem hit_and7 {n r v : Int} (h : Hit n r v) (hr : r = 3) : PySem.Builtin.bitAnd n 7 ≠ 2 ∧ PySem.Builtin.bitAnd n 7 ≠ 4 ∧ PySem.Builtin.bitAnd n 7 ≠ 6 := by
  have he := h.1
  rw [hr, pow3_eq] at he
  rw [and7, ← he]
  exact cube_mod8 v
end Mine
namespace Mine
theorem hit_bd {n r v : Int} (h : Hit n r v) (hv : 0 ≤ v) : v.natAbs < 2 ^ 1910 := by
  have h1 := rootF_le h.2.2.1 (h.nonneg hv)
  rw [h.root hv] at h1
  have h2 := h.2.2.2.2
  have := pow2_mono (by decide : 1900 ≤ 1910)
  generalize 2 ^ 1910 = C at *
  generalize 2 ^ 1900 = D at *
  omega
theorem hit_bdn {n r v : Int} (h : Hit n r v) (hv : ¬ 0 ≤ v) : v.natAbs < 2 ^ 1910 := by
  have h0 := h.neg hv
  have h1 := rootF_le h.2.2.1 (by omega : 0 ≤ -n)
  rw [h0.2.2] at h1
  have h2 := h.2.2.2.2
  have := pow2_mono (by decide : 1900 ≤ 1910)
  generalize 2 ^ 1910 = C at *
  generalize 2 ^ 1900 = D at *
  omega
theorem rootp_bd {n r : Int} (hr : 1 ≤ r) (hn : 0 ≤ n) (hb : n.natAbs < 2 ^ 1900) : (rootF r n).natAbs < 2 ^ 1910 := by
  have h1 := rootF_le hr hn
  have h0 := rootF_nonneg r n
  have := pow2_mono (by decide : 1900 ≤ 1910)
  generalize 2 ^ 1910 = C at *
  generalize 2 ^ 1900 = D at *
  omega
theorem rootn_bd {n r : Int} (hr : 1 ≤ r) (hn : n < 0) (hb : n.natAbs < 2 ^ 1900) : (-rootF r (-n)).natAbs < 2 ^ 1910 := by
  rw [Int.natAbs_neg]
  exact rootp_bd hr (by omega) (by rw [Int.natAbs_neg]; exact hb)
theorem miss_odd_end {n r : Int} (hr : 1 ≤ r) (ho : r.fmod 2 ≠ 0) (h : (rootF r (-n)) ^ r.toNat ≠ -n) (h2 : (-rootF r (-n)) ^ r.toNat = n) : False := by
  obtain ⟨k, hk⟩ := odd_form (by omega) ho
  rw [neg_pow_odd _ hk] at h2
  omega
end Mine
namespace Mine
theorem hit_any {n r v : Int} (h : Hit n r v) (hr : r = 3) (ha : ([2, 4, 6].any fun x => x == PySem.Builtin.bitAnd n 7) = true) : False := by
  have k := hit_and7 h hr
  simp only [List.any_cons, List.any_nil, Bool.or_false, Bool.or_eq_true, beq_iff_eq] at ha
  omega
theorem neg_two {n r v : Int} (h : Hit n r v) (hv : ¬ 0 ≤ v) (hr : r = 2) : False := by
  have := (h.neg hv).2.1
  rw [hr] at this
  exact this (by decide)
end Mine
namespace Mine
abbrev RetL (h₀ : Heap) (L : Addr) (m : Str → Option Value) (news : List (Addr × Obj)) (s : Shared) (Q : Value → Shared → Prop) (ns : List Int) : Prop :=
  ∀ (D : Addr) (vs : List Value) (c : Nat) (h' : Heap) (tk' : Nat), IntsAre vs ns → Fr h₀ L h' m → News h₀ L h' ((D, listOf vs.toArray c) :: news) → (∀ p ∈ news, p.1 < D) → Q (.ref D) { s with heap := h', toks := tk' }
/-- a call that gives back a new list of ints -/
abbrev ClaimL (prog : Program) (w : World) (K : Frag) (p : Program) (f : Addr) (d : Nat) (H : Heap → Prop) (vs : List Value) (ns : List Int) : Prop :=
  ∀ {loose : List Str} {mean : ExcName → Option Value} {mg mb : Str → Option Value} {news : List (Addr × Obj)} {dp un : Nat} {gd : Option (List Code)} {cn : Str} {cs : Scope} {a : Addr} {ccd : Value} {cl : List (Str × Addr)} {outer : List Env} {A₀ : Around} {base h₀ : Heap} {L : Addr} {m : Str → Option Value} {s : Shared} {Q E : Value → Shared → Prop},
    Below A₀ base outer h₀ → Fr h₀ L s.heap m → K.In h₀ → News h₀ L s.heap news → Top p loose mean mg mb h₀ → cs.kind = .function →
    H base → dp + d < recursionLimit → un + 8 * d < cLine → RetL h₀ L m news s Q ns →
      wpAny (model prog w) (ktrTop dp un gd cn cs L a ccd cl outer) (call (.ref f) vs) Q E s
end Mine
namespace Mine
theorem allNe {d i : Addr} {l : List (Addr × Obj)} (h : ∀ p ∈ l, p.1 < i) (hle : @LE.le Nat _ i d) : ∀ p ∈ l, p.1 ≠ d := fun p hp => Nat.ne_of_lt (Nat.lt_of_lt_of_le (h p hp) hle)
theorem allLt_out {i : Addr} : ∀ {l : List (Addr × Obj)}, AllLt i l → ∀ p ∈ l, p.1 < i
  | [], _, _, h => nomatch h
  | _ :: _, x, q, h => by
    rcases List.mem_cons.mp h with e | h
    · rw [e]; exact x.1
    · exact allLt_out x.2 q h
end Mine
namespace Mine
/-- what primegen keeps out -/
def divs (found : List Int) (n : Int) : List Int := found.filter (fun p => decide (p * p ≤ n) && decide (n.fmod p = 0))
/-- primegen's list below 2 + k -/
def plN : Nat → List Int
  | 0 => []
  | k + 1 => if divs (plN k) (2 + k) = [] then plN k ++ [2 + (k : Int)] else plN k
theorem plN_facts : ∀ k, (∀ p ∈ plN k, 2 ≤ p ∧ p < 2 + k) ∧ (plN k).length ≤ k
  | 0 => ⟨fun _ h => (nomatch h), Nat.le_refl _⟩
  | k + 1 => by
    have ih := plN_facts k
    unfold plN
    split
    · refine ⟨fun p hp => ?_, by rw [List.length_append]; simp; omega⟩
      rcases List.mem_append.mp hp with hp | hp
      · have := ih.1 p hp; omega
      · rw [List.mem_singleton.mp hp]; omega
    · exact ⟨fun p hp => by have := ih.1 p hp; omega, by omega⟩
def PG (n : Int) (found : List Int) (k : Int) : Prop := 2 ≤ k ∧ k ≤ n ∧ found = plN (k - 2).toNat ∧ (found.length : Int) ≤ k
end Mine
namespace Mine
theorem pg_start {n : Int} (h2 : 2 ≤ n) : PG n [] 2 := ⟨by decide, h2, rfl, by decide⟩
end Mine
namespace Mine
theorem pg_size {n k : Int} {found : List Int} (h : PG n found k) (hb : n ≤ 1000) : found.length ≤ sizeLine := by
  have := h.2.1; have := h.2.2.2; rw [sizeLine_eq]; omega
end Mine
namespace Mine
section
variable {n k : Int} {found : List Int}
theorem pg_mem (h : PG n found k) {p : Int} (hp : p ∈ found) : 2 ≤ p ∧ p < k := by
  have := (plN_facts (k - 2).toNat).1 p (h.2.2.1 ▸ hp)
  have := h.1
  omega
theorem pg_mul (hb : n ≤ 1000) (h : PG n found k) {p q : Int} (hp : p ∈ found) : PySem.IntMulOk p q := by
  have h1 := pg_mem h hp
  have h2 := h.2.1
  exact PySem.IntMulOk.of_left (PySem.intBits_le_64 (by omega) (by omega))
theorem pg_mod (h : PG n found k) {p : Int} (hp : p ∈ found) : p ≠ 0 := by
  have h1 := pg_mem h hp
  omega
theorem pg_step (h : PG n found k) : plN (k + 1 - 2).toNat = if divs found k = [] then found ++ [k] else found := by
  have h0 := h.1
  have e : (k + 1 - 2).toNat = (k - 2).toNat + 1 := by omega
  rw [e, h.2.2.1]
  show (if divs (plN (k - 2).toNat) (2 + ((k - 2).toNat : Int)) = [] then _ else _) = _
  rw [show (2 : Int) + ((k - 2).toNat : Int) = k by omega]
theorem pg_up (h : PG n found k) (hl : k < n) (hd : ¬ 0 < (divs found k).length) : PG n (found ++ [k]) (k + 1) := by
  have e := pg_step h
  rw [if_pos (List.eq_nil_of_length_eq_zero (by omega))] at e
  exact ⟨by have := h.1; omega, by omega, e.symm, by have := h.2.2.2; rw [List.length_append]; simp; omega⟩
theorem pg_stay (h : PG n found k) (hl : k < n) (hd : 0 < (divs found k).length) : PG n found (k + 1) := by
  have e := pg_step h
  rw [if_neg (by intro e; rw [e] at hd; exact absurd hd (by decide))] at e
  exact ⟨by have := h.1; omega, by omega, e.symm, by have := h.2.2.2; omega⟩
theorem pg_meas (hl : k < n) : (n - (k + 1)).toNat < (n - k).toNat := by omega
theorem pg_done {vs : List Value} (h : PG n found k) (hl : ¬ k < n) (I : IntsAre vs found) : IntsAre vs (plN (n - 2).toNat) := by
  have : k = n := by have := h.2.1; omega
  rw [← this, ← h.2.2.1]; exact I
theorem tst_no {p k : Int} {b : Bool} (h : ¬ p * p ≤ k) : false = (decide (p * p ≤ k) && b) := by rw [decide_eq_false h]; rfl
theorem tst_yes {p k : Int} (h : p * p ≤ k) (e : k.fmod p = 0) : true = (decide (p * p ≤ k) && decide (k.fmod p = 0)) := by
  rw [decide_eq_true h, decide_eq_true e]; rfl
theorem tst_no2 {p k : Int} (h : p * p ≤ k) (e : k.fmod p ≠ 0) : false = (decide (p * p ≤ k) && decide (k.fmod p = 0)) := by
  rw [decide_eq_true h, decide_eq_false e]; rfl
end
end Mine
namespace Mine
theorem divs_fit {n k : Int} {found : List Int} (h : PG n found k) (hb : n ≤ 1000) : (divs found k).length < 2 ^ 62 := by
  have h1 := h.2.1; have h2 := h.2.2.2
  have h3 : (divs found k).length ≤ found.length := List.length_filter_le _ _
  have : (2 : Nat) ^ 62 = 4611686018427387904 := by decide
  omega
end Mine
namespace Mine
abbrev CW := List Int × List Value × Nat × Int × Tok × Obj
abbrev cwLed (l c : Addr) (news : List (Addr × Obj)) (x : CW) : List (Addr × Obj) := (l, listOf x.2.1.toArray x.2.2.1) :: (c, x.2.2.2.2.2) :: news
abbrev cwFacts (x : CW) : Prop := IntsAre x.2.1 x.1 ∧ x.2.2.2.2.2.data = .cell (some (.int x.2.2.2.1 x.2.2.2.2.1))
/-- a while that grows a list of ints and turns an int in a cell -/
theorem cell_while {prog : Program} {w : World} {A : Around} {E : Value → Shared → Prop} {Q : Flow → Shared → Prop} {s : Shared} {env : Env} {h₀ : Heap} {L : Addr}
    {test : Expr} {body : List Stmt} {pos : Pos} {m₀ : Str → Option Value} {l c : Addr} {o : Obj} {news : List (Addr × Obj)} {k0 : Int} {t0 : Tok} (P : List Int → Int → Prop) (μ : List Int → Int → Nat)
    (F : Fr h₀ L s.heap m₀) (N : News h₀ L s.heap ((l, listOf #[] 0) :: (c, o) :: news)) (hd : o.data = .cell (some (.int k0 t0))) (hp : P [] k0)
    (turn : ∀ (found : List Int) (vs : List Value) (cnt : Nat) (k : Int) (t : Tok) (o : Obj) h tk, IntsAre vs found → o.data = .cell (some (.int k t)) → P found k → Fr h₀ L h m₀ → News h₀ L h ((l, listOf vs.toArray cnt) :: (c, o) :: news) →
      wpAny (model prog w) A (isTrue test env (eval test env)) (fun b s₂ =>
        if b = true then wpAny (model prog w) A (execs body env) (KswPost h₀ L s (cwLed l c news) (fun _ => []) cwFacts [] m₀ (fun x => P x.1 x.2.2.2.1) (fun x => μ x.1 x.2.2.2.1) Q (found, vs, cnt, k, t, o)) E s₂ else Q .next s₂) E { s with heap := h, toks := tk })
    (hE : PassesOwn (model prog w) A env E := by passes_own) :
    wpAny (model prog w) A (exec (.While test body [] pos) env) Q E s := by
  refine ksw_while (cwLed l c news) (fun _ => []) cwFacts [] (fun x => P x.1 x.2.2.2.1) (fun x => μ x.1 x.2.2.2.1) ([], [], 0, k0, t0, o) F N ⟨IntsAre.nil, hd⟩ (List.forall_mem_nil _) hp (fun x u h tk hf hp F' N' => ?_) hE
  obtain ⟨found, vs, cnt, k, t, o⟩ := x
  have e : (fun y => kstB (fun z => if ([] : List Str).contains z then u z else m₀ z) ([] : List (Str × Value)) y) = m₀ := by
    funext y; rfl
  exact turn found vs cnt k t o h tk hf.1 hf.2 hp (e ▸ F') N'
end Mine
namespace Mine
theorem cw_end {h₀ : Heap} {L : Addr} {s : Shared} {m₀ : Str → Option Value} {l c : Addr} {q : Addr × Obj} {news : List (Addr × Obj)} {P : List Int → Int → Prop} {μ : List Int → Int → Nat} {found found0 : List Int} {vs vs0 : List Value} {cnt cnt0 : Nat} {k k0 : Int} {t t0 : Tok} {o o0 : Obj} {h' : Heap} {tk : Nat}
    (F : Fr h₀ L h' m₀) (N : News h₀ L h' (q :: (l, listOf vs.toArray cnt) :: (c, o) :: news)) (I : IntsAre vs found) (hd : o.data = .cell (some (.int k t))) (hP : P found k) (hm : μ found k < μ found0 k0) :
    KswEnd h₀ L s (cwLed l c news) (fun _ => []) cwFacts [] m₀ (fun x => P x.1 x.2.2.2.1) (fun x => μ x.1 x.2.2.2.1) (found0, vs0, cnt0, k0, t0, o0) { s with heap := h', toks := tk } :=
  ksw_end (found, vs, cnt, k, t, o) F N (fun _ hq => List.Mem.tail _ hq) ⟨I, hd⟩ (List.forall_mem_nil _) (fun _ _ _ => rfl) hP hm
theorem ints_snoc {vs : List Value} {ns : List Int} {k : Int} {t : Tok} (h : IntsAre vs ns) : IntsAre (vs ++ [.int k t]) (ns ++ [k]) := IntsAre.append h (.cons k t .nil)
theorem news_two {h₀ h : Heap} {L : Addr} {p : Addr × Obj} {r : List (Addr × Obj)} (_N : News h₀ L h (p :: r)) : ∀ q ∈ r, q ∈ p :: r := fun _ hq => List.Mem.tail _ hq
end Mine
namespace Mine
/-- a test's answer, all else as it was -/
def Same (h₀ : Heap) (L : Addr) (m : Str → Option Value) (news : List (Addr × Obj)) (s s' : Shared) : Prop := ∃ h' tk', s' = { s with heap := h', toks := tk' } ∧ Fr h₀ L h' m ∧ News h₀ L h' news
theorem Same.intro {h₀ h' : Heap} {L : Addr} {m : Str → Option Value} {news : List (Addr × Obj)} {s : Shared} {tk' : Nat} (F : Fr h₀ L h' m) (N : News h₀ L h' news) : Same h₀ L m news s { s with heap := h', toks := tk' } := ⟨h', tk', rfl, F, N⟩
def TestIs (b : Bool) (h₀ : Heap) (L : Addr) (m : Str → Option Value) (news : List (Addr × Obj)) (s : Shared) (ok : Bool) (s' : Shared) : Prop := ok = b ∧ Same h₀ L m news s s'
def IntIs (k : Int) (h₀ : Heap) (L : Addr) (m : Str → Option Value) (news : List (Addr × Obj)) (s : Shared) (v : Value) (s' : Shared) : Prop := (∃ t, v = .int k t) ∧ Same h₀ L m news s s'
theorem TestIs.intro {b ok : Bool} {h₀ h' : Heap} {L : Addr} {m : Str → Option Value} {news : List (Addr × Obj)} {s : Shared} {tk' : Nat} (e : ok = b) (F : Fr h₀ L h' m) (N : News h₀ L h' news) : TestIs b h₀ L m news s ok { s with heap := h', toks := tk' } := ⟨e, Same.intro F N⟩
theorem IntIs.intro {k : Int} {t : Tok} {h₀ h' : Heap} {L : Addr} {m : Str → Option Value} {news : List (Addr × Obj)} {s : Shared} {tk' : Nat} (F : Fr h₀ L h' m) (N : News h₀ L h' news) : IntIs k h₀ L m news s (.int k t) { s with heap := h', toks := tk' } := ⟨⟨t, rfl⟩, Same.intro F N⟩
/-- a comprehension with one test: the ints that pass it -/
theorem lct_filter {prog : Program} {w : World} {A : Around} {h₀ : Heap} {L : Addr} {m : Str → Option Value} {env : Env} {ct elt : Expr} {x : Str} {scope : Scope} {cl : List (Str × Addr)} {s : Shared} {S : List (Addr × Obj) → Prop} {Fin : List Value → List (Addr × Obj) → Prop} {news : List (Addr × Obj)}
    {vs : List Value} {ns : List Int} (g : Int → Bool) (hi : IntsAre vs ns) (hS : S news)
    (turn : ∀ k t I oI C oC D m₂ ys h tk (E' : Value → Shared → Prop), k ∈ ns → LCg.NsObj oC m₂ → m₂ x = some (.int k t) → Fr h₀ L h m → News h₀ L h ((I, oI) :: (C, oC) :: (D, LCg.lst ys) :: news) → LCg.Off3 I C D news → ((@Ne Nat I C) ∧ (@Ne Nat I D) ∧ (@Ne Nat C D)) →
      wpAny (model prog w) A (isTrue ct (compEnvC scope cl C env) (eval ct (compEnvC scope cl C env))) (TestIs (g k) h₀ L m ((I, oI) :: (C, oC) :: (D, LCg.lst ys) :: news) { s with heap := h, toks := tk }) E' { s with heap := h, toks := tk })
    (turn2 : ∀ k t I oI C oC D m₂ ys h tk (E' : Value → Shared → Prop), k ∈ ns → LCg.NsObj oC m₂ → m₂ x = some (.int k t) → Fr h₀ L h m → News h₀ L h ((I, oI) :: (C, oC) :: (D, LCg.lst ys) :: news) → LCg.Off3 I C D news → ((@Ne Nat I C) ∧ (@Ne Nat I D) ∧ (@Ne Nat C D)) →
      wpAny (model prog w) A (eval elt (compEnvC scope cl C env)) (IntIs k h₀ L m ((I, oI) :: (C, oC) :: (D, LCg.lst ys) :: news) { s with heap := h, toks := tk }) E' { s with heap := h, toks := tk })
    (fin : ∀ ys, IntsAre ys (ns.filter g) → Fin ys news) : LCt.CompRestT prog w A h₀ L m env ct elt x scope cl s S (fun i v => vs.toArray[i]? = some v) Fin vs.toArray.size 0 [] news := by
  have hl : vs.length = ns.length := hi.length
  have key : ∀ (j i : Nat) (ys : List Value), i + j = ns.length → IntsAre ys ((ns.take i).filter g) → LCt.CompRestT prog w A h₀ L m env ct elt x scope cl s S (fun i v => vs.toArray[i]? = some v) Fin j i ys news := by
    intro j
    induction j with
    | zero =>
      intro i ys hij hy
      have e : i = ns.length := by omega
      subst e
      rw [List.take_length] at hy
      exact LCt.CompRestT.zero (fin ys hy)
    | succ j ih =>
      intro i ys hij hy
      refine LCt.CompRestT.succ ?_
      intro v I oI C oC D m₂ h tk E' hv hC hx F N off ne
      obtain ⟨k, t, ev, hk⟩ := IntsAre.at hi i v (by simpa using hv)
      rw [ev] at hx
      have hmem := List.mem_of_getElem? hk
      refine wpAny_mono (turn k t I oI C oC D m₂ ys h tk E' hmem hC hx F N off ne) (fun ok s₂ hq => ?_) fun _ _ e => e
      obtain ⟨eok, h', tk', es, F', N'⟩ := hq
      subst es
      have htk : ns.take (i + 1) = ns.take i ++ [k] := by rw [List.take_add_one, hk]; rfl
      cases hok : ok with
      | true =>
        rw [if_pos rfl]
        rw [hok] at eok
        refine wpAny_mono (turn2 k t I oI C oC D m₂ ys h' tk' E' hmem hC hx F' N' off ne) (fun y s₃ hq => ?_) fun _ _ e => e
        obtain ⟨⟨t', ey⟩, h'', tk'', es, F'', N''⟩ := hq
        subst es
        refine ⟨h'', tk'', news, rfl, F'', N'', off, hS, ?_⟩
        rw [ey]
        refine ih (i + 1) _ (by omega) ?_
        rw [htk, List.filter_append]
        have : [k].filter g = [k] := by simp [← eok]
        rw [this]
        exact IntsAre.append hy (.cons k t' .nil)
      | false =>
        rw [if_neg (by decide)]
        rw [hok] at eok
        refine ⟨h', tk', news, rfl, F', N', off, hS, ?_⟩
        refine ih (i + 1) _ (by omega) ?_
        rw [htk, List.filter_append]
        have : [k].filter g = [] := by simp [← eok]
        rw [this, List.append_nil]
        exact hy
  have := key ns.length 0 [] (by omega) (by simp only [List.take_zero, List.filter_nil]; exact .nil)
  rw [List.size_toArray, hl]
  exact this
end Mine
namespace Mine
abbrev tup2 (a b : Value) (c : Nat) : Obj := { cls := .type "tuple", data := .seq #[a, b] c }
abbrev RetT (h₀ : Heap) (L : Addr) (m : Str → Option Value) (news : List (Addr × Obj)) (s : Shared) (Q : Value → Shared → Prop) (R1 R2 : Tok → Value) : Prop :=
  ∀ (D : Addr) (t1 t2 : Tok) (c : Nat) (h' : Heap) (tk' : Nat), Fr h₀ L h' m → News h₀ L h' ((D, tup2 (R1 t1) (R2 t2) c) :: news) → (∀ p ∈ news, p.1 < D) → Q (.ref D) { s with heap := h', toks := tk' }
/-- a call that gives back a new pair -/
abbrev ClaimT (prog : Program) (w : World) (K : Frag) (p : Program) (f : Addr) (d : Nat) (H : Heap → Prop) (vs : List Value) (R1 R2 : Tok → Value) : Prop :=
  ∀ {loose : List Str} {mean : ExcName → Option Value} {mg mb : Str → Option Value} {news : List (Addr × Obj)} {dp un : Nat} {gd : Option (List Code)} {cn : Str} {cs : Scope} {a : Addr} {ccd : Value} {cl : List (Str × Addr)} {outer : List Env} {A₀ : Around} {base h₀ : Heap} {L : Addr} {m : Str → Option Value} {s : Shared} {Q E : Value → Shared → Prop},
    Below A₀ base outer h₀ → Fr h₀ L s.heap m → K.In h₀ → News h₀ L s.heap news → Top p loose mean mg mb h₀ → cs.kind = .function →
    H base → dp + d < recursionLimit → un + 8 * d < cLine → RetT h₀ L m news s Q R1 R2 →
      wpAny (model prog w) (ktrTop dp un gd cn cs L a ccd cl outer) (call (.ref f) vs) Q E s
end Mine
namespace Mine
/-- the powers that ispower(n) tries -/
def PL (n : Int) : List Int := plN ((↑(PySem.Builtin.Int.intBits n) : Int) + 1 - 2).toNat
def PHit (n r v : Int) : Prop := 2 ≤ n.natAbs ∧ n.natAbs < 2 ^ 900 ∧ (∃ pre post, PL n = pre ++ r :: post ∧ (∀ p ∈ pre, Miss n p) ∧ r ∉ pre) ∧ Hit n r v
def PNone (n : Int) : Prop := 2 ≤ n.natAbs ∧ n.natAbs < 2 ^ 900 ∧ ∀ p ∈ PL n, Miss n p
theorem nsm_any {n : Int} (h : 2 ≤ n.natAbs) : ¬ ([0, 1, -1].any fun x => x == n) = true := by
  intro e
  simp only [List.any_cons, List.any_nil, Bool.or_false, Bool.or_eq_true, beq_iff_eq] at e
  omega
theorem sm_any {n : Int} (h : n.natAbs < 2) : ([0, 1, -1].any fun x => x == n) = true := by
  simp only [List.any_cons, List.any_nil, Bool.or_false, Bool.or_eq_true, beq_iff_eq]
  omega
theorem pl_lo {n : Int} (h : 2 ≤ n.natAbs) : 2 ≤ (↑(PySem.Builtin.Int.intBits n) : Int) + 1 := by
  have : PySem.Builtin.Int.intBits n ≠ 0 := by
    intro e
    have := bits_lt (x := n)
    rw [e] at this
    omega
  omega
theorem pl_hi {n : Int} (h : n.natAbs < 2 ^ 900) : (↑(PySem.Builtin.Int.intBits n) : Int) + 1 ≤ 1000 := by
  have := bits_le h; omega
theorem phit_miss {n r v p : Int} {kPre kPost : List Int} (h : PHit n r v) (e : PL n = kPre ++ p :: kPost) (hpre : ∀ q ∈ kPre, q ≠ r) (hne : p ≠ r) : Miss n p := by
  obtain ⟨_, _, ⟨pre, post, e2, hm, _⟩, _⟩ := h
  rw [e] at e2
  have hmem : p ∈ pre := by
    rcases List.append_eq_append_iff.mp e2 with ⟨t, e3, e4⟩ | ⟨t, e3, e4⟩
    · cases t with
      | nil =>
        simp at e4
        exact absurd e4.1 hne
      | cons a t =>
        simp at e4
        rw [e3, e4.1]; simp
    · cases t with
      | nil =>
        simp at e4
        exact absurd e4.1.symm hne
      | cons a t =>
        simp at e4
        have : r ∈ kPre := by rw [e3, e4.1]; simp
        exact absurd rfl (hpre r this)
  exact hm p hmem
theorem phit_end {n r v : Int} (h : PHit n r v) (hall : ∀ q ∈ PL n, q ≠ r) : False := by
  obtain ⟨_, _, ⟨pre, post, e2, _, _⟩, _⟩ := h
  exact hall r (by rw [e2]; simp) rfl
theorem ne_snoc {r p : Int} {pre : List Int} (h : ∀ q ∈ pre, q ≠ r) (hp : p ≠ r) : ∀ q ∈ pre ++ [p], q ≠ r := fun q hq => by
  rcases List.mem_append.mp hq with hq | hq
  · exact h q hq
  · rw [List.mem_singleton.mp hq]; exact hp
section
variable {M : Model} {A : Around} {E : Value → Shared → Prop} {s : Shared} {Q : Value → Shared → Prop} {n p : Int} {t1 t2 : Tok} {f : Addr}
theorem split_eq (r : Int) (h1 : r = p → wpAny M A (call (.ref f) [.int n t1, .int p t2]) Q E s) (h2 : p ≠ r → wpAny M A (call (.ref f) [.int n t1, .int p t2]) Q E s) : wpAny M A (call (.ref f) [.int n t1, .int p t2]) Q E s := by
  by_cases h : p = r
  · exact h1 h.symm
  · exact h2 h
end
end Mine
namespace Mine
theorem phit_hit {n r v : Int} (h : PHit n r v) : Hit n r v := h.2.2.2
theorem pnone_miss {n p : Int} {ns : List Int} (h : PNone n) (hp : p ∈ ns) (e : ns = PL n) : Miss n p := h.2.2 p (e ▸ hp)
end Mine
namespace Mine
/-- a call that is handed a list of the caller's ledger -/
abbrev ClaimE (prog : Program) (w : World) (K : Frag) (p : Program) (f : Addr) (d : Nat) (q : Addr × Obj) (vs : List Value) (R : Tok → Value) : Prop :=
  ∀ {loose : List Str} {mean : ExcName → Option Value} {mg mb : Str → Option Value} {news : List (Addr × Obj)} {dp un : Nat} {gd : Option (List Code)} {cn : Str} {cs : Scope} {a : Addr} {ccd : Value} {cl : List (Str × Addr)} {outer : List Env} {A₀ : Around} {base h₀ : Heap} {L : Addr} {m : Str → Option Value} {s : Shared} {Q E : Value → Shared → Prop},
    Below A₀ base outer h₀ → Fr h₀ L s.heap m → K.In h₀ → News h₀ L s.heap news → q ∈ news → Top p loose mean mg mb h₀ → cs.kind = .function →
    dp + d < recursionLimit → un + 8 * d < cLine → Ret h₀ L m news s Q R →
      wpAny (model prog w) (ktrTop dp un gd cn cs L a ccd cl outer) (call (.ref f) vs) Q E s
theorem item_mem {prog : Program} {w : World} {A : Around} {E : Value → Shared → Prop} {s : Shared} {h₀ : Heap} {L : Addr} {news : List (Addr × Obj)} {value slice : PySem.Expr} {l : Addr} {vs : List Value} {c : Nat} {k : Int} {u : Tok} {v : Value} {Q : Value → Shared → Prop}
    (N : News h₀ L s.heap news) (hm : (l, listOf vs.toArray c) ∈ news) (h0 : 0 ≤ k) (hhi : k < 2 ^ 63) (hx : vs[k.toNat]? = some v) (h : Q v s)
    (hs : subscripted slice false (.ref l) (.int k u) = operate [.ref l, .int k u] (getItem (.ref l) (.int k u)) := by with_unfolding_all rfl) :
    wpAny (model prog w) A (subscriptTail value slice (.ref l) (.int k u)) Q E s := by
  have hl : s.heap.IsList l vs.toArray := ⟨_, (N _ hm).1, rfl, c, rfl⟩
  exact tail_any hl.typeIs slot_list_getitem.lookup (wpAny_getItem_list hl h0 hhi (by simpa using hx) h) hs
/-! a loop downward that turns None into a new pair -/
abbrev DueS := Option (Addr × Int × Int × Tok × Tok × Nat)
def dueV : DueS → Value
  | none => .none
  | some c => .ref c.1
def dueL : DueS → List (Addr × Obj)
  | none => []
  | some c => [(c.1, tup2 (.int c.2.1 c.2.2.2.1) (.int c.2.2.1 c.2.2.2.2.1) c.2.2.2.2.2)]
def dueR : DueS → Option (Int × Int)
  | none => none
  | some c => some (c.2.1, c.2.2.1)
def DueJ (x root due : Str) (m₀ : Str → Option Value) (cst : List (Addr × Obj)) (P : Nat → Option (Int × Int) → Prop) (i : Nat) (m : Str → Option Value) (nx : List (Addr × Obj)) : Prop :=
  ∃ c, nx = dueL c ++ cst ∧ m due = some (dueV c) ∧ (∀ z, z ≠ x → z ≠ due → z ≠ root → m z = m₀ z) ∧ P i (dueR c)
theorem due_loop {prog : Program} {w : World} {A : Around} {E : Value → Shared → Prop} {s : Shared} {env : Env} {h₀ : Heap} {x : Str} {body : List Stmt} {Q : Flow → Shared → Prop}
    {r : Addr} {a₀ b₀ : Int} {t₀ u₀ v₀ : Tok} {n : Nat} {m₀ : Str → Option Value} {cst : List (Addr × Obj)} (root due : Str) (P : Nat → Option (Int × Int) → Prop)
    (hh : A.handled = none) (hr : IsRange s.heap r a₀ b₀ (-1) t₀ u₀ v₀) (hsmall : Builtin.Range.small a₀ b₀ (-1) = true) (hn : Builtin.Range.rangeSize a₀ b₀ (-1) = (n : Int)) (F : Fr h₀ env.locals s.heap m₀) (N : News h₀ env.locals s.heap cst) (hd : m₀ due = some .none) (hp : P 0 none)
    (turn : ∀ (c : DueS) (i : Nat) (k : Int) t (u : Str → Option Value) h tk own, k = a₀ - (i : Int) → i < n → P i (dueR c) → OwnOff own ((dueL c ++ cst).map (·.1)) →
      Fr h₀ env.locals h (fun y => if y = x then some (.int k t) else if y = due then some (dueV c) else if y = root then u y else m₀ y) → News h₀ env.locals h (dueL c ++ (cst ++ own)) →
      wpAny (model prog w) A (execs body env) (InvPostG h₀ env.locals (DueJ x root due m₀ cst P (i + 1)) own { s with heap := h, toks := tk } Q) E { s with heap := h, toks := tk })
    (done : ∀ (c : DueS) (u : Str → Option Value) h tk, P n (dueR c) → Fr h₀ env.locals h (fun y => if y = x then u y else if y = due then some (dueV c) else if y = root then u y else m₀ y) → News h₀ env.locals h (dueL c ++ cst) → Q .next { s with heap := h, toks := tk }) :
    wpAny (model prog w) A (pyIter (.ref r)) (fun it s₂ => LoopAtV prog w A h₀ env x body Q E it s₂) E s := by
  refine wpAny_pyIter_range hr hsmall ?_
  have W : Walks prog w A s.heap.objs.size [s.heap.objs.size] [s.heap.objs.size] n (fun i v => i < n ∧ ∃ t, v = .int (a₀ + i * (-1)) t)
      (fun i h => IsRangeIter h s.heap.objs.size (a₀ + (i : Nat) * (-1)) ((n : Int) - (i : Nat)) (-1)) := (Walks.range hh _ a₀ (-1) n).bound
  have frm : ∀ (m : Str → Option Value) (c : DueS), m due = some (dueV c) → (∀ z, z ≠ x → z ≠ due → z ≠ root → m z = m₀ z) → ∀ o : Option Value,
      (fun y => if y = x then o else m y) = (fun y => if y = x then o else if y = due then some (dueV c) else if y = root then m y else m₀ y) := by
    intro m c h1 h2 o
    funext y
    by_cases e1 : y = x
    · rw [if_pos e1, if_pos e1]
    · rw [if_neg e1, if_neg e1]
      by_cases e2 : y = due
      · rw [if_pos e2, e2]; exact h1
      · rw [if_neg e2]
        by_cases e3 : y = root
        · rw [if_pos e3]
        · rw [if_neg e3]; exact h2 y e1 e2 e3
  refine kdr_loop (fun i m nx => DueJ x root due m₀ cst P i m nx) W (fun _ h => h) (fun _ h => h) ?_ ?_ ?_ ?_ (by show IsRangeIter _ _ _ _ _; rw [hn]; simpa using Heap.get?_push_size _ rfl) (F.push _) (fun p hp => ⟨Heap.get?_push_of_some _ (N p hp).1, (N p hp).2⟩) ⟨none, rfl, hd, fun _ _ _ _ => rfl, hp⟩ ?_ ?_
  · intro i h hi b hb
    rw [List.mem_singleton.mp hb]
    exact ⟨_, hi⟩
  · intro hm
    exact absurd F.ns.lt ((List.mem_singleton.mp hm) ▸ Nat.lt_irrefl _)
  · intro b hb
    rw [List.mem_singleton.mp hb]
    exact next_is_new F
  · intro p hp hI
    exact absurd (Heap.lt_size (N p hp).1) ((List.mem_singleton.mp hI) ▸ Nat.lt_irrefl _)
  · rintro i v m₁ nx h tk own hi ⟨_, t, rfl⟩ hoff ⟨c, rfl, h1, h2, hp'⟩ F₁ N₁
    rw [frm m₁ c h1 h2] at F₁
    rw [List.append_assoc] at N₁
    exact turn c i _ t m₁ h tk own (by omega) hi hp' hoff F₁ N₁
  · rintro m₁ nx h tk ⟨c, rfl, h1, h2, hp'⟩ F₁ N₁
    have e : m₁ = (fun y => if y = x then m₁ y else if y = due then some (dueV c) else if y = root then m₁ y else m₀ y) := by
      funext y
      by_cases e1 : y = x
      · rw [if_pos e1]
      · have := congrFun (frm m₁ c h1 h2 none) y
        rw [if_neg e1] at this
        rw [if_neg e1]
        rw [if_neg e1] at this
        exact this
    exact done c m₁ h tk hp' (e ▸ F₁) N₁
end Mine
namespace Mine
theorem unr_end8 {h₀ : Heap} {L I : Addr} {it : Obj} {x : Addr × Obj} {news : List (Addr × Obj)} {rest : (Str → Option Value) → List (Addr × Obj) → Prop} {s₁ : Shared} {h' : Heap} {tk : Nat} {m' : Str → Option Value}
    (F : Fr h₀ L h' m') (N : News h₀ L h' (x :: (I, it) :: news)) (hl : ∀ p ∈ news, p.1 < I) (r : rest m' news) : UnrEnd h₀ L s₁ I it rest { s₁ with heap := h', toks := tk } :=
  UnrEnd.intro F N news (fun _ hp => List.Mem.tail _ hp) (fun p hp => Nat.ne_of_lt (hl p hp)) r
end Mine
namespace Mine
theorem due_keep {h₀ h' : Heap} {L : Addr} {x root due : Str} {m₀ m' : Str → Option Value} {cst own : List (Addr × Obj)} {P : Nat → Option (Int × Int) → Prop} {i : Nat} {s₁ : Shared} {tk : Nat} (c : DueS)
    (F : Fr h₀ L h' m') (N : News h₀ L h' (dueL c ++ (cst ++ own))) (off : OwnOff own ((dueL c ++ cst).map (·.1))) (hd : m' due = some (dueV c)) (hm : ∀ z, z ≠ x → z ≠ due → z ≠ root → m' z = m₀ z) (hp : P i (dueR c)) :
    InvEndG h₀ L (DueJ x root due m₀ cst P i) own s₁ { s₁ with heap := h', toks := tk } :=
  InvEndG.intro F N ⟨c, rfl, hd, hm, hp⟩ off (fun p hp => by rw [← List.append_assoc]; exact List.mem_append_left _ hp) (fun p hp => List.mem_append_right _ (List.mem_append_right _ hp))
theorem due_new {h₀ h' : Heap} {L D : Addr} {x root due : Str} {m₀ m' : Str → Option Value} {cst own : List (Addr × Obj)} {P : Nat → Option (Int × Int) → Prop} {i : Nat} {s₁ : Shared} {tk : Nat} {v r : Int} {t1 t2 : Tok} {n : Nat} (c : DueS)
    (F : Fr h₀ L h' m') (N : News h₀ L h' ((D, tup2 (.int v t1) (.int r t2) n) :: (dueL c ++ (cst ++ own)))) (off : OwnOff own ((dueL c ++ cst).map (·.1))) (hlt : ∀ p ∈ own, p.1 < D) (hd : m' due = some (.ref D)) (hm : ∀ z, z ≠ x → z ≠ due → z ≠ root → m' z = m₀ z) (hp : P i (some (v, r))) :
    InvEndG h₀ L (DueJ x root due m₀ cst P i) own s₁ { s₁ with heap := h', toks := tk } :=
  InvEndG.intro (nx := (D, tup2 (.int v t1) (.int r t2) n) :: cst) F N ⟨some (D, v, r, t1, t2, n), rfl, hd, hm, hp⟩
    (fun p hp b hb => by
      rcases List.mem_map.mp hb with ⟨q, hq, rfl⟩
      rcases List.mem_cons.mp hq with e | hq
      · rw [e]; exact Nat.ne_of_lt (hlt p hp)
      · exact off p hp _ (List.mem_map.mpr ⟨q, List.mem_append_right _ hq, rfl⟩))
    (fun p hp => by
      rcases List.mem_cons.mp hp with e | hp
      · exact List.mem_cons.mpr (.inl e)
      · exact List.mem_cons.mpr (.inr (List.mem_append_right _ (List.mem_append_left _ hp))))
    (fun p hp => List.mem_cons.mpr (.inr (List.mem_append_right _ (List.mem_append_right _ hp))))
theorem split_p {W : Prop} (p : Prop) (h1 : p → W) (h2 : ¬ p → W) : W := by
  by_cases h : p
  · exact h1 h
  · exact h2 h
/-- a local's bool, forgotten -/
def BMark (_ : Bool) : Prop := True
theorem store_bool {M : Model} {A : Around} {env : Env} {y : Str} {Q : Unit → Shared → Prop} {E : Value → Shared → Prop} {s : Shared} {x : Bool} (h : ∀ b, BMark b → wpAny M A (storeName env y (.bool b)) Q E s) : wpAny M A (storeName env y (.bool x)) Q E s := h x trivial
end Mine
namespace Mine
theorem hit_or_miss {n r : Int} (hr : 1 ≤ r) (hr2 : r ≤ 1000) (hb : n.natAbs < 2 ^ 1900) : (∃ v, Hit n r v) ∨ Miss n r := by
  by_cases hn : 0 ≤ n
  · by_cases h : (rootF r n) ^ r.toNat = n
    · exact .inl ⟨_, h, .inl (rootF_nonneg _ _), hr, hr2, hb⟩
    · exact .inr ⟨.inl ⟨hn, h⟩, hr, hr2, hb⟩
  · by_cases he : r.fmod 2 = 0
    · exact .inr ⟨.inr ⟨by omega, .inl he⟩, hr, hr2, hb⟩
    · by_cases h : (rootF r (-n)) ^ r.toNat = -n
      · refine .inl ⟨-(rootF r (-n)), ?_, .inr he, hr, hr2, hb⟩
        obtain ⟨k, e⟩ := odd_form (by omega) he
        rw [neg_pow_odd _ e, h]; omega
      · exact .inr ⟨.inr ⟨by omega, .inr h⟩, hr, hr2, hb⟩
theorem hit_not_miss {n r v : Int} (h : Hit n r v) (m : Miss n r) : False := by
  by_cases hv : 0 ≤ v
  · have e := h.root hv
    rcases m.1 with ⟨_, h2⟩ | ⟨h1, _⟩
    · exact h2 (by rw [e]; exact h.1)
    · have := h.nonneg hv; omega
  · have e := h.neg hv
    rcases m.1 with ⟨h1, _⟩ | ⟨_, h2⟩
    · omega
    · rcases h2 with h2 | h2
      · exact e.2.1 h2
      · apply h2
        rw [e.2.2]
        obtain ⟨k, ek⟩ := odd_form (by have := h.2.2.1; omega) e.2.1
        rw [neg_pow_odd _ ek, h.1]
theorem hit_div {n p m v : Int} (h : Hit n (p * m) v) (hp : 1 ≤ p) (hm : 1 ≤ m) : Hit n p (v ^ m.toNat) := by
  obtain ⟨h1, h2, h3, h4, h5⟩ := h
  have hle : p ≤ p * m := by
    have := Int.mul_le_mul_of_nonneg_left hm (by omega : 0 ≤ p)
    omega
  refine ⟨?_, ?_, hp, by omega, h5⟩
  · rw [← Int.pow_mul, ← h1, Int.mul_comm p m, Int.toNat_mul (by omega) (by omega)]
  · rcases h2 with h2 | h2
    · exact .inl (Int.pow_nonneg h2)
    · refine .inr fun e => h2 ?_
      have a := (fdiv_fmod_facts p 2).1
      rw [e] at a
      have b := fdiv_fmod_facts (p * m) 2
      have c := b.2.2.1 (by decide)
      have d : p * m = 2 * (p.fdiv 2 * m) := by
        rw [← Int.mul_assoc, Int.mul_comm 2 (p.fdiv 2)]
        have : p.fdiv 2 * 2 = p := by omega
        rw [this]
      omega
/-! primegen's list -/
theorem pl_has : ∀ (j : Nat) (k : Int), 2 ≤ k → k < 2 + j → ∃ p ∈ plN j, ∃ m, 1 ≤ m ∧ k = p * m
  | 0, k, h, h2 => by omega
  | j + 1, k, h, h2 => by
    by_cases hk : k < 2 + j
    · obtain ⟨p, hp, m, hm⟩ := pl_has j k h hk
      refine ⟨p, ?_, m, hm⟩
      unfold plN
      split
      · exact List.mem_append_left _ hp
      · exact hp
    · have ek : k = 2 + (j : Int) := by omega
      unfold plN
      split
      · exact ⟨k, List.mem_append_right _ (by rw [ek]; simp), 1, by omega, by omega⟩
      · rename_i hd
        obtain ⟨p, hp⟩ := List.exists_mem_of_ne_nil _ hd
        have hp2 := List.mem_filter.mp hp
        simp only [Bool.and_eq_true, decide_eq_true_eq] at hp2
        have f := (plN_facts j).1 p hp2.1
        have a := (fdiv_fmod_facts k p).2.1
        rw [← ek] at hp2
        refine ⟨p, hp2.1, k.fdiv p, ?_, by rw [hp2.2.2] at a; omega⟩
        have e2 : k.fdiv p = k / p := Int.fdiv_eq_ediv_of_nonneg _ (by omega)
        rw [e2]
        exact (Int.le_ediv_iff_mul_le (by omega)).mpr (by
          have h3 : p * p ≤ k := hp2.2.1
          have := Int.mul_le_mul_of_nonneg_right f.1 (by omega : 0 ≤ p)
          omega)
theorem pl_split : ∀ (j : Nat) (r : Int), r ∈ plN j → ∃ pre post, plN j = pre ++ r :: post ∧ ∀ p ∈ pre, p < r
  | 0, r, h => nomatch h
  | j + 1, r, h => by
    unfold plN at h ⊢
    split at h
    · rename_i hd
      rw [if_pos hd]
      rcases List.mem_append.mp h with h | h
      · obtain ⟨pre, post, e, hp⟩ := pl_split j r h
        exact ⟨pre, post ++ [2 + (j : Int)], by rw [e]; simp, hp⟩
      · rw [List.mem_singleton.mp h]
        exact ⟨plN j, [], rfl, fun p hp => ((plN_facts j).1 p hp).2⟩
    · rename_i hd
      rw [if_neg hd]
      exact pl_split j r h
def bitsF (n : Int) : Int := ↑(PySem.Builtin.Int.intBits n)
theorem pl_mem {n p : Int} (h2 : 2 ≤ n.natAbs) (h : p ∈ PL n) : 2 ≤ p ∧ p ≤ bitsF n := by
  have := (plN_facts _).1 p h
  have := pl_lo h2
  unfold bitsF; omega
theorem pl_has' {n k : Int} (h2 : 2 ≤ n.natAbs) (hk : 2 ≤ k) (hb : k ≤ bitsF n) : ∃ p ∈ PL n, ∃ m, 1 ≤ m ∧ k = p * m := by
  have := pl_lo h2
  exact pl_has _ k hk (by unfold bitsF at hb; omega)
def LHit (n r v : Int) : Prop := 2 ≤ n.natAbs ∧ n.natAbs < 2 ^ 900 ∧ 2 ≤ r ∧ r ≤ bitsF n ∧ Hit n r v ∧ ∀ k, 2 ≤ k → k < r → Miss n k
def LNone (n : Int) : Prop := 2 ≤ n.natAbs ∧ n.natAbs < 2 ^ 900 ∧ ∀ k, 2 ≤ k → k ≤ bitsF n → Miss n k
theorem bits1000 {n : Int} (h : n.natAbs < 2 ^ 900) : bitsF n ≤ 900 := by
  have := bits_le h; unfold bitsF; omega
theorem nb1900' {n : Int} (h : n.natAbs < 2 ^ 900) : n.natAbs < 2 ^ 1900 := Nat.lt_of_lt_of_le h (pow2_mono (by decide))
theorem LHit.phit {n r v : Int} (h : LHit n r v) : PHit n r v := by
  obtain ⟨h2, hb, hr, hrb, hh, hl⟩ := h
  obtain ⟨p, hp, m, hm, e⟩ := pl_has' h2 hr hrb
  have hp2 := pl_mem h2 hp
  have hpr : p ≤ r := by
    have := Int.mul_le_mul_of_nonneg_left hm (by omega : 0 ≤ p)
    omega
  have epr : p = r := by
    by_cases hlt : p < r
    · exact absurd (hl p hp2.1 hlt) (fun m' => hit_not_miss (hit_div (e ▸ hh) (by omega) hm) m')
    · omega
  rw [epr] at hp
  obtain ⟨pre, post, e2, hpre⟩ := pl_split _ r hp
  refine ⟨h2, hb, ⟨pre, post, e2, fun q hq => ?_, fun hq => ?_⟩, hh⟩
  · have hq2 := pl_mem (p := q) h2 (show q ∈ plN _ by rw [e2]; exact List.mem_append_left _ hq)
    exact hl q hq2.1 (hpre q hq)
  · have := hpre r hq; omega
theorem LNone.pnone {n : Int} (h : LNone n) : PNone n := ⟨h.1, h.2.1, fun p hp => have := pl_mem h.1 hp; h.2.2 p this.1 this.2⟩
theorem least {n : Int} (hb : n.natAbs < 2 ^ 900) : ∀ j : Nat, (j : Int) + 1 ≤ bitsF n → (∃ r v, 2 ≤ r ∧ r ≤ (j : Int) + 1 ∧ Hit n r v ∧ ∀ k, 2 ≤ k → k < r → Miss n k) ∨ ∀ k, 2 ≤ k → k ≤ (j : Int) + 1 → Miss n k
  | 0, _ => .inr fun k h1 h2 => by omega
  | j + 1, hj => by
    rcases least hb j (by omega) with ⟨r, v, h1, h2, h3, h4⟩ | h
    · exact .inl ⟨r, v, h1, by omega, h3, h4⟩
    · have b := bits1000 hb
      rcases hit_or_miss (n := n) (r := (j : Int) + 2) (by omega) (by omega) (nb1900' hb) with ⟨v, hv⟩ | hm
      · exact .inl ⟨_, v, by omega, by omega, hv, fun k h1 h2 => h k h1 (by omega)⟩
      · refine .inr fun k h1 h2 => ?_
        by_cases e : k = (j : Int) + 2
        · rw [e]; exact hm
        · exact h k h1 (by omega)
theorem hit_cases {n : Int} (h2 : 2 ≤ n.natAbs) (hb : n.natAbs < 2 ^ 900) : (∃ r v, LHit n r v) ∨ LNone n := by
  have h0 := pl_lo h2
  rcases least hb ((bitsF n).toNat - 1) (by unfold bitsF; omega) with ⟨r, v, h3, h4, h5, h6⟩ | h
  · exact .inl ⟨r, v, h2, hb, h3, by unfold bitsF at *; omega, h5, h6⟩
  · exact .inr ⟨h2, hb, fun k h3 h4 => h k h3 (by unfold bitsF at *; omega)⟩
end Mine
namespace Mine
/-! powers and primes -/
def Pr (p : Nat) : Prop := 1 < p ∧ ∀ x y : Nat, p ∣ x * y → p ∣ x ∨ p ∣ y
theorem pr_of {p : Nat} (h1 : 1 < p) (h : ∀ g, g < p + 1 → g ∣ p → g = 1 ∨ g = p) : Pr p := by
  refine ⟨h1, fun x y hxy => ?_⟩
  have hg := Nat.gcd_dvd_left p x
  rcases h (Nat.gcd p x) (by have := Nat.le_of_dvd (by omega) hg; omega) hg with e | e
  · exact .inr (Nat.Coprime.dvd_of_dvd_mul_left e hxy)
  · exact .inl (e ▸ Nat.gcd_dvd_right p x)
theorem pr2 : Pr 2 := pr_of (by decide) (by decide)
theorem pr3 : Pr 3 := pr_of (by decide) (by decide)
theorem pr5 : Pr 5 := pr_of (by decide) (by decide)
theorem pr7 : Pr 7 := pr_of (by decide) (by decide)
theorem Pr.pow {p x : Nat} (h : Pr p) : ∀ {r : Nat}, p ∣ x ^ r → p ∣ x
  | 0, e => by
    rw [Nat.pow_zero] at e
    have := Nat.le_of_dvd (by decide) e
    have := h.1
    omega
  | r + 1, e => by
    rw [Nat.pow_succ] at e
    rcases h.2 _ _ e with e | e
    · exact h.pow e
    · exact e
theorem val {p r : Nat} (hp : Pr p) (hr : 1 ≤ r) {m : Nat} (hm : ¬ p ∣ m) : ∀ (a w : Nat), w ^ r = p ^ a * m → r ∣ a ∧ ∃ w', w' ^ r = m := by
  intro a
  induction a using Nat.strongRecOn with
  | ind a ih =>
    intro w e
    have hp0 : 0 < p := by have := hp.1; omega
    by_cases hw : p ∣ w
    · obtain ⟨u, rfl⟩ := hw
      rw [Nat.mul_pow] at e
      by_cases ha : a < r
      · exfalso
        apply hm
        have e2 : p ^ r = p ^ a * p ^ (r - a) := by rw [← Nat.pow_add]; congr 1; omega
        rw [e2, Nat.mul_assoc] at e
        have e3 := Nat.eq_of_mul_eq_mul_left (Nat.pow_pos hp0) e
        have e4 : p ^ (r - a) = p ^ (r - a - 1) * p := by rw [← Nat.pow_succ]; congr 1; omega
        rw [← e3, e4]
        exact ⟨p ^ (r - a - 1) * u ^ r, by rw [Nat.mul_comm (p ^ (r - a - 1)) p, Nat.mul_assoc]⟩
      · have e2 : p ^ a = p ^ r * p ^ (a - r) := by rw [← Nat.pow_add]; congr 1; omega
        rw [e2, Nat.mul_assoc] at e
        have e3 := Nat.eq_of_mul_eq_mul_left (Nat.pow_pos hp0) e
        obtain ⟨h1, h2⟩ := ih (a - r) (by omega) u e3
        refine ⟨?_, h2⟩
        have : a = r + (a - r) := by omega
        rw [this]
        exact Nat.dvd_add (Nat.dvd_refl r) h1
    · have ha : a = 0 := by
        cases a with
        | zero => rfl
        | succ a =>
          exfalso
          apply hw
          refine hp.pow (r := r) ?_
          rw [e, Nat.pow_succ, Nat.mul_comm (p ^ a) p, Nat.mul_assoc]
          exact Nat.dvd_mul_right _ _
      subst ha
      exact ⟨Nat.dvd_zero r, w, by rw [e, Nat.pow_zero, Nat.one_mul]⟩
theorem not_dvd {p m : Nat} (h1 : 1 < p) (h : Nat.Coprime p m) : ¬ p ∣ m := fun hd => by
  have := Nat.Coprime.eq_one_of_dvd h hd
  omega
theorem all4 {w r a b c d : Nat} (hr : 1 ≤ r) (e : w ^ r = 2 ^ a * (3 ^ b * (5 ^ c * 7 ^ d))) : r ∣ a ∧ r ∣ b ∧ r ∣ c ∧ r ∣ d := by
  obtain ⟨h1, w1, e1⟩ := val pr2 hr (not_dvd (by decide) (Nat.Coprime.mul_right (Nat.Coprime.pow_right _ (by decide)) (Nat.Coprime.mul_right (Nat.Coprime.pow_right _ (by decide)) (Nat.Coprime.pow_right _ (by decide))))) a w e
  obtain ⟨h2, w2, e2⟩ := val pr3 hr (not_dvd (by decide) (Nat.Coprime.mul_right (Nat.Coprime.pow_right _ (by decide)) (Nat.Coprime.pow_right _ (by decide)))) b w1 e1
  obtain ⟨h3, w3, e3⟩ := val pr5 hr (not_dvd (by decide) (Nat.Coprime.pow_right _ (by decide))) c w2 e2
  obtain ⟨h4, _, _⟩ := val pr7 (m := 1) hr (by decide) d w3 (by rw [Nat.mul_one]; exact e3)
  exact ⟨h1, h2, h3, h4⟩
/-! the statement's numbers -/
def VE (a b c d r : Int) : Int := 1 * 2 ^ (a.fdiv r).toNat * 3 ^ (b.fdiv r).toNat * 5 ^ (c.fdiv r).toNat * 7 ^ (d.fdiv r).toNat
def VS (a b c d r : Int) (w : Bool) : Int := if w = true then -VE a b c d r else VE a b c d r
def RY (a b c d r : Int) (w : Bool) : Prop := ¬ (w = true ∧ r.fmod 2 = 0) ∧ a.fmod r = 0 ∧ b.fmod r = 0 ∧ c.fmod r = 0 ∧ d.fmod r = 0
def E8 (e : Int) : Prop := 0 ≤ e ∧ e ≤ 20
section
variable {a b c d r : Int} {w : Bool}
theorem fd_nat {a r : Int} (ha : 0 ≤ a) (hr : 1 ≤ r) : (a.fdiv r).toNat = a.toNat / r.toNat := by
  rw [Int.fdiv_eq_ediv_of_nonneg _ (by omega)]
  obtain ⟨x, rfl⟩ := Int.eq_ofNat_of_zero_le ha
  obtain ⟨y, rfl⟩ := Int.eq_ofNat_of_zero_le (by omega : 0 ≤ r)
  rw [← Int.natCast_ediv]; rfl
theorem fm_nat {a r : Int} (ha : 0 ≤ a) (hr : 1 ≤ r) : a.fmod r = 0 ↔ r.toNat ∣ a.toNat := by
  rw [Int.fmod_eq_emod_of_nonneg _ (by omega)]
  obtain ⟨x, rfl⟩ := Int.eq_ofNat_of_zero_le ha
  obtain ⟨y, rfl⟩ := Int.eq_ofNat_of_zero_le (by omega : 0 ≤ r)
  rw [← Int.natCast_emod, Int.toNat_natCast, Int.toNat_natCast]
  constructor
  · intro h; exact Nat.dvd_of_mod_eq_zero (by omega)
  · intro h; have := Nat.mod_eq_zero_of_dvd h; omega
theorem ve_nat (ha : E8 a) (hb : E8 b) (hc : E8 c) (hd : E8 d) (hr : 1 ≤ r) : VE a b c d r = ((2 ^ (a.toNat / r.toNat) * (3 ^ (b.toNat / r.toNat) * (5 ^ (c.toNat / r.toNat) * 7 ^ (d.toNat / r.toNat))) : Nat) : Int) := by
  unfold VE
  rw [fd_nat ha.1 hr, fd_nat hb.1 hr, fd_nat hc.1 hr, fd_nat hd.1 hr, Int.one_mul]
  simp only [Int.natCast_mul, Int.natCast_pow, Int.mul_assoc]
  rfl
theorem ve_pow (ha : E8 a) (hb : E8 b) (hc : E8 c) (hd : E8 d) (hr : 1 ≤ r) (h : RY a b c d r w) : VE a b c d r ^ r.toNat = VE a b c d 1 := by
  rw [ve_nat ha hb hc hd hr, ve_nat ha hb hc hd (by decide), ← Int.natCast_pow]
  obtain ⟨_, h1, h2, h3, h4⟩ := h
  rw [fm_nat ha.1 hr] at h1
  rw [fm_nat hb.1 hr] at h2
  rw [fm_nat hc.1 hr] at h3
  rw [fm_nat hd.1 hr] at h4
  congr 1
  simp only [Nat.mul_pow, ← Nat.pow_mul]
  rw [Nat.div_mul_cancel h1, Nat.div_mul_cancel h2, Nat.div_mul_cancel h3, Nat.div_mul_cancel h4]
  simp
theorem ve_pos (ha : E8 a) (hb : E8 b) (hc : E8 c) (hd : E8 d) (hr : 1 ≤ r) : 0 < VE a b c d r := by
  rw [ve_nat ha hb hc hd hr]
  have : 0 < 2 ^ (a.toNat / r.toNat) * (3 ^ (b.toNat / r.toNat) * (5 ^ (c.toNat / r.toNat) * 7 ^ (d.toNat / r.toNat))) :=
    Nat.mul_pos (Nat.pow_pos (by decide)) (Nat.mul_pos (Nat.pow_pos (by decide)) (Nat.mul_pos (Nat.pow_pos (by decide)) (Nat.pow_pos (by decide))))
  omega
theorem ve_bd (ha : E8 a) (hb : E8 b) (hc : E8 c) (hd : E8 d) : (VE a b c d 1).natAbs < 2 ^ 900 := by
  rw [ve_nat ha hb hc hd (by decide), Int.natAbs_natCast]
  have e : Int.toNat 1 = 1 := rfl
  rw [e, Nat.div_one, Nat.div_one, Nat.div_one, Nat.div_one]
  have l : ∀ (p : Nat) (x : Int), 0 < p → E8 x → p ^ x.toNat ≤ p ^ 20 := fun p x hp hx => Nat.pow_le_pow_right hp (by have := hx.2; omega)
  have h := Nat.mul_le_mul (l 2 a (by decide) ha) (Nat.mul_le_mul (l 3 b (by decide) hb) (Nat.mul_le_mul (l 5 c (by decide) hc) (l 7 d (by decide) hd)))
  refine Nat.lt_of_le_of_lt h ?_
  refine Nat.lt_of_lt_of_le (by decide +kernel : 2 ^ 20 * (3 ^ 20 * (5 ^ 20 * 7 ^ 20)) < 2 ^ 200) (pow2_mono (by decide))
theorem vs_bd (ha : E8 a) (hb : E8 b) (hc : E8 c) (hd : E8 d) : (VS a b c d 1 w).natAbs < 2 ^ 900 := by
  unfold VS
  split
  · rw [Int.natAbs_neg]; exact ve_bd ha hb hc hd
  · exact ve_bd ha hb hc hd
theorem hit8 (ha : E8 a) (hb : E8 b) (hc : E8 c) (hd : E8 d) (hr : 1 ≤ r) (hr2 : r ≤ 1000) (h : RY a b c d r w) : Hit (VS a b c d 1 w) r (VS a b c d r w) := by
  refine ⟨?_, ?_, hr, hr2, nb1900' (vs_bd ha hb hc hd)⟩
  · unfold VS
    cases w with
    | false => exact ve_pow ha hb hc hd hr h
    | true =>
      have ho : r.fmod 2 ≠ 0 := fun e => h.1 ⟨rfl, e⟩
      obtain ⟨k, ek⟩ := odd_form (by omega) ho
      show (-VE a b c d r) ^ r.toNat = -VE a b c d 1
      rw [neg_pow_odd _ ek, ve_pow ha hb hc hd hr h]
  · cases w with
    | false => exact .inl (Int.le_of_lt (ve_pos ha hb hc hd hr))
    | true => exact .inr fun e => h.1 ⟨rfl, e⟩
theorem ry_of {v : Int} (ha : E8 a) (hb : E8 b) (hc : E8 c) (hd : E8 d) (h : Hit (VS a b c d 1 w) r v) : RY a b c d r w := by
  have hr := h.2.2.1
  have habs : (VS a b c d 1 w).natAbs = 2 ^ a.toNat * (3 ^ b.toNat * (5 ^ c.toNat * 7 ^ d.toNat)) := by
    have e : (VE a b c d 1).natAbs = 2 ^ a.toNat * (3 ^ b.toNat * (5 ^ c.toNat * 7 ^ d.toNat)) := by
      rw [ve_nat ha hb hc hd (by decide), Int.natAbs_natCast]
      have e : Int.toNat 1 = 1 := rfl
      rw [e, Nat.div_one, Nat.div_one, Nat.div_one, Nat.div_one]
    unfold VS
    split
    · rw [Int.natAbs_neg]; exact e
    · exact e
  have e2 : v.natAbs ^ r.toNat = 2 ^ a.toNat * (3 ^ b.toNat * (5 ^ c.toNat * 7 ^ d.toNat)) := by
    rw [← habs, ← h.1, Int.natAbs_pow]
  obtain ⟨h1, h2, h3, h4⟩ := all4 (by omega) e2
  refine ⟨fun hw => ?_, (fm_nat ha.1 hr).mpr h1, (fm_nat hb.1 hr).mpr h2, (fm_nat hc.1 hr).mpr h3, (fm_nat hd.1 hr).mpr h4⟩
  have hv : 0 ≤ v := by
    rcases h.2.1 with h5 | h5
    · exact h5
    · exact absurd hw.2 h5
  have := h.nonneg hv
  have hp := ve_pos ha hb hc hd (r := 1) (by decide)
  unfold VS at this
  rw [if_pos hw.1] at this
  omega
theorem miss8 (ha : E8 a) (hb : E8 b) (hc : E8 c) (hd : E8 d) (hr : 1 ≤ r) (hr2 : r ≤ 1000) (h : ¬ RY a b c d r w) : Miss (VS a b c d 1 w) r := by
  rcases hit_or_miss hr hr2 (nb1900' (vs_bd (w := w) ha hb hc hd)) with ⟨v, hv⟩ | hm
  · exact absurd (ry_of ha hb hc hd hv) h
  · exact hm
def Nz (a b c d : Int) : Prop := ¬ (a = 0 ∧ b = 0 ∧ c = 0 ∧ d = 0)
theorem vs_zero (w : Bool) : (VS 0 0 0 0 1 w).natAbs < 2 := by cases w <;> decide
theorem vs_two (ha : E8 a) (hb : E8 b) (hc : E8 c) (hd : E8 d) (hz : Nz a b c d) : 2 ≤ (VS a b c d 1 w).natAbs := by
  have e : (VS a b c d 1 w).natAbs = 2 ^ a.toNat * (3 ^ b.toNat * (5 ^ c.toNat * 7 ^ d.toNat)) := by
    have e : (VE a b c d 1).natAbs = 2 ^ a.toNat * (3 ^ b.toNat * (5 ^ c.toNat * 7 ^ d.toNat)) := by
      rw [ve_nat ha hb hc hd (by decide), Int.natAbs_natCast]
      have e : Int.toNat 1 = 1 := rfl
      rw [e, Nat.div_one, Nat.div_one, Nat.div_one, Nat.div_one]
    unfold VS
    split
    · rw [Int.natAbs_neg]; exact e
    · exact e
  rw [e]
  have l : ∀ (p : Nat) (x : Int), 1 < p → 0 < p ^ x.toNat ∧ (0 ≤ x → x ≠ 0 → 2 ≤ p ^ x.toNat) := fun p x hp => by
    refine ⟨Nat.pow_pos (by omega), fun h0 hne => ?_⟩
    have : p ^ 1 ≤ p ^ x.toNat := Nat.pow_le_pow_right (by omega) (by omega)
    rw [Nat.pow_one] at this
    omega
  have la := l 2 a (by decide); have lb := l 3 b (by decide); have lc := l 5 c (by decide); have ld := l 7 d (by decide)
  have la2 := la.2 ha.1; have lb2 := lb.2 hb.1; have lc2 := lc.2 hc.1; have ld2 := ld.2 hd.1
  have key : ∀ A B C D : Nat, 0 < A → 0 < B → 0 < C → 0 < D → (2 ≤ A ∨ 2 ≤ B ∨ 2 ≤ C ∨ 2 ≤ D) → 2 ≤ A * (B * (C * D)) := by
    intro A B C D hA hB hC hD h
    have m1 : C ≤ C * D := Nat.le_mul_of_pos_right C hD
    have m2 : D ≤ C * D := Nat.le_mul_of_pos_left D hC
    have m3 : B ≤ B * (C * D) := Nat.le_mul_of_pos_right B (by omega)
    have m4 : C * D ≤ B * (C * D) := Nat.le_mul_of_pos_left _ hB
    have m5 : A ≤ A * (B * (C * D)) := Nat.le_mul_of_pos_right A (by omega)
    have m6 : B * (C * D) ≤ A * (B * (C * D)) := Nat.le_mul_of_pos_left _ hA
    omega
  refine key _ _ _ _ la.1 lb.1 lc.1 ld.1 ?_
  by_cases h1 : a = 0
  · by_cases h2 : b = 0
    · by_cases h3 : c = 0
      · by_cases h4 : d = 0
        · exact absurd ⟨h1, h2, h3, h4⟩ hz
        · exact .inr (.inr (.inr (ld2 h4)))
      · exact .inr (.inr (.inl (lc2 h3)))
    · exact .inr (.inl (lb2 h2))
  · exact .inl (la2 h1)
theorem ry_le (ha : E8 a) (hb : E8 b) (hc : E8 c) (hd : E8 d) (hz : Nz a b c d) (hr : 20 < r) : ¬ RY a b c d r w := fun h => by
  have f : ∀ e, E8 e → e.fmod r = 0 → e = 0 := fun e he h => by
    have a1 := (fm_nat he.1 (by omega : 1 ≤ r)).mp h
    by_cases e0 : e = 0
    · exact e0
    · have := Nat.le_of_dvd (by have := he.1; omega) a1
      have := he.2
      omega
  exact hz ⟨f a ha h.2.1, f b hb h.2.2.1, f c hc h.2.2.2.1, f d hd h.2.2.2.2⟩
theorem hit_bits {n r v : Int} (h2 : 2 ≤ n.natAbs) (h : Hit n r v) : r ≤ bitsF n := by
  have hr := h.2.2.1
  have e : v.natAbs ^ r.toNat = n.natAbs := by rw [← h.1, Int.natAbs_pow]
  have hv : 2 ≤ v.natAbs := by
    rcases (by omega : v.natAbs = 0 ∨ v.natAbs = 1 ∨ 2 ≤ v.natAbs) with h0 | h0 | h0
    · rw [h0, Nat.zero_pow (by omega)] at e; omega
    · rw [h0, Nat.one_pow] at e; omega
    · exact h0
  have h3 : 2 ^ r.toNat ≤ v.natAbs ^ r.toNat := Nat.pow_le_pow_left hv _
  have h4 := bits_lt (x := n)
  have h5 : r.toNat < PySem.Builtin.Int.intBits n := (Nat.pow_lt_pow_iff_right (by decide : 1 < 2)).mp (by omega : 2 ^ r.toNat < 2 ^ PySem.Builtin.Int.intBits n)
  unfold bitsF; omega
/-- what the last loop has, after i turns -/
def PD (a b c d : Int) (w : Bool) (i : Nat) (res : Option (Int × Int)) : Prop :=
  (res = none ∧ ∀ r, 20 - (i : Int) < r → r ≤ 20 → ¬ RY a b c d r w) ∨ (∃ r, res = some (VS a b c d r w, r) ∧ 20 - (i : Int) < r ∧ r ≤ 20 ∧ RY a b c d r w ∧ ∀ r', 20 - (i : Int) < r' → r' < r → ¬ RY a b c d r' w)
theorem pd_start : PD a b c d w 0 none := .inl ⟨rfl, fun r h1 h2 => by omega⟩
theorem pd_yes {i : Nat} {k : Int} (hk : k = 20 - (i : Int)) (h : RY a b c d k w) : PD a b c d w (i + 1) (some (VS a b c d k w, k)) :=
  .inr ⟨k, rfl, by omega, by omega, h, fun r' h1 h2 => by omega⟩
theorem pd_no {i : Nat} {k : Int} {res : Option (Int × Int)} (hk : k = 20 - (i : Int)) (hp : PD a b c d w i res) (h : ¬ RY a b c d k w) : PD a b c d w (i + 1) res := by
  rcases hp with ⟨e, h1⟩ | ⟨r, e, h1, h2, h3, h4⟩
  · refine .inl ⟨e, fun r h5 h6 => ?_⟩
    by_cases hr : r = k
    · rw [hr]; exact h
    · exact h1 r (by omega) h6
  · refine .inr ⟨r, e, by omega, h2, h3, fun r' h5 h6 => ?_⟩
    by_cases hr : r' = k
    · rw [hr]; exact h
    · exact h4 r' (by omega) h6
theorem pd_none (ha : E8 a) (hb : E8 b) (hc : E8 c) (hd : E8 d) (hz : Nz a b c d) (h : PD a b c d w 19 none) : PNone (VS a b c d 1 w) := by
  refine LNone.pnone ⟨vs_two ha hb hc hd hz, vs_bd ha hb hc hd, fun k h1 h2 => ?_⟩
  have := bits1000 (vs_bd (w := w) ha hb hc hd)
  refine miss8 ha hb hc hd (by omega) (by omega) ?_
  rcases h with ⟨_, h⟩ | ⟨r, e, _⟩
  · by_cases hk : k ≤ 20
    · exact h k (by omega) hk
    · exact ry_le ha hb hc hd hz (by omega)
  · cases e
theorem pd_some {v r : Int} (ha : E8 a) (hb : E8 b) (hc : E8 c) (hd : E8 d) (hz : Nz a b c d) (h : PD a b c d w 19 (some (v, r))) : PHit (VS a b c d 1 w) r v := by
  rcases h with ⟨e, _⟩ | ⟨r', e, h1, h2, h3, h4⟩
  · cases e
  · cases e
    have hh := hit8 ha hb hc hd (by omega) (by omega) h3
    have h2' := vs_two (w := w) ha hb hc hd hz
    refine LHit.phit ⟨h2', vs_bd ha hb hc hd, by omega, hit_bits h2' hh, hh, fun k h5 h6 => ?_⟩
    exact miss8 ha hb hc hd (by omega) (by omega) (h4 k (by omega) h6)
end
end Mine
namespace Mine
section
variable {a b c d r : Int} {w : Bool}
theorem p8_nn {e r : Int} (he : E8 e) (hr : 1 ≤ r) : 0 ≤ e.fdiv r := by
  rw [Int.fdiv_eq_ediv_of_nonneg _ (by omega)]; exact Int.ediv_nonneg he.1 (by omega)
theorem p8_le {e r : Int} (he : E8 e) (hr : 1 ≤ r) : e.fdiv r ≤ 20 := by
  rw [Int.fdiv_eq_ediv_of_nonneg _ (by omega)]
  have := Int.ediv_le_self r he.1
  have := he.2
  omega
theorem p8_size {p e r : Int} (hp : 2 ≤ p) (hp7 : p ≤ 7) (he : E8 e) (hr : 1 ≤ r) : (PySem.Builtin.Int.intBits p : Int) * e.fdiv r ≤ 2 ^ 27 := by
  have h1 : PySem.Builtin.Int.intBits p ≤ 3 := bits_le (n := 3) (by omega)
  have h2 := p8_nn he hr
  have h3 := p8_le he hr
  have : (PySem.Builtin.Int.intBits p : Int) * e.fdiv r ≤ 3 * 20 := Int.mul_le_mul (by omega) h3 h2 (by decide)
  omega
theorem p8_mul {x p e r : Int} (hp : 2 ≤ p) (hp7 : p ≤ 7) (he : E8 e) (hr : 1 ≤ r) : PySem.IntMulOk x (p ^ (e.fdiv r).toNat) := by
  refine PySem.IntMulOk.of_right ?_
  have h3 := p8_le he hr
  have h4 : p.natAbs ^ (e.fdiv r).toNat ≤ 7 ^ 20 := Nat.le_trans (Nat.pow_le_pow_left (by omega) _) (Nat.pow_le_pow_right (by decide) (by omega))
  have : (p ^ (e.fdiv r).toNat).natAbs < 2 ^ 64 := by
    rw [Int.natAbs_pow]
    exact Nat.lt_of_le_of_lt h4 (by decide +kernel)
  exact bits_le this
theorem vs_t (h : w = true) : -VE a b c d r = VS a b c d r w := by unfold VS; rw [if_pos h]
theorem vs_f (h : ¬ w = true) : VE a b c d r = VS a b c d r w := by unfold VS; rw [if_neg h]
theorem ry_one : RY a b c d 1 w := ⟨fun h => absurd h.2 (by decide), Int.fmod_one _, Int.fmod_one _, Int.fmod_one _, Int.fmod_one _⟩
end
end Mine
namespace Mine
theorem four (f : Int → Int) {ys : List Value} (h : IntsAre ys (List.map f (PySem.W.rangeKs 0 (4 - 0 : Int).toNat))) (hf : ∀ k, E8 (f k)) :
    ∃ e0 e1 e2 e3 a0 a1 a2 a3, List.map f (PySem.W.rangeKs 0 (4 - 0 : Int).toNat) = [e0, e1, e2, e3] ∧ ys = [.int e0 a0, .int e1 a1, .int e2 a2, .int e3 a3] ∧ E8 e0 ∧ E8 e1 ∧ E8 e2 ∧ E8 e3 := by
  have e : PySem.W.rangeKs 0 (4 - 0 : Int).toNat = [0, 1, 2, 3] := by decide
  rw [e] at h ⊢
  generalize hm : List.map f [0, 1, 2, 3] = l at h ⊢
  have hm' : l = [f 0, f 1, f 2, f 3] := hm.symm
  rw [hm'] at h ⊢
  rcases h with _ | ⟨_, a0, h⟩
  rcases h with _ | ⟨_, a1, h⟩
  rcases h with _ | ⟨_, a2, h⟩
  rcases h with _ | ⟨_, a3, h⟩
  rcases h with _ | _
  exact ⟨_, _, _, _, a0, a1, a2, a3, rfl, rfl, hf 0, hf 1, hf 2, hf 3⟩
theorem g8_ok (x y : Int) : E8 ((1 + x.fmod 10) * y.fmod 3) := by
  have h1 := (fdiv_fmod_facts x 10).2.2.1 (by decide)
  have h2 := (fdiv_fmod_facts y 3).2.2.1 (by decide)
  refine ⟨Int.mul_nonneg (by omega) h2.1, ?_⟩
  have : (1 + x.fmod 10) * y.fmod 3 ≤ 10 * 2 := Int.mul_le_mul (by omega) (by omega) h2.1 (by decide)
  omega
end Mine
namespace Mine
theorem sm8 {a b c d : Int} {w : Bool} (h : [a, b, c, d] = [0, 0, 0, 0]) : (VS a b c d 1 w).natAbs < 2 := by
  simp only [List.cons.injEq, and_true] at h
  obtain ⟨rfl, rfl, rfl, rfl⟩ := h
  exact vs_zero w
theorem nz8 {a b c d : Int} (h : [a, b, c, d] ≠ [0, 0, 0, 0]) : Nz a b c d := fun e => h (by
  obtain ⟨rfl, rfl, rfl, rfl⟩ := e; rfl)
end Mine
namespace Mine
set_option maxRecDepth 100000 in
set_option maxHeartbeats 8000000 in
open_top hd08 for PySem.Challenge.rw_yt0004_08
end Mine
namespace Mine
abbrev Cl (w : World) := Claim Challenge.rw_yt0004_08.row.prog w (hd08.heap_39 w.params) hd08.view_39
abbrev ClL (w : World) := ClaimL Challenge.rw_yt0004_08.row.prog w (hd08.heap_39 w.params) hd08.view_39
abbrev ClT (w : World) := ClaimT Challenge.rw_yt0004_08.row.prog w (hd08.heap_39 w.params) hd08.view_39
abbrev ClE (w : World) := ClaimE Challenge.rw_yt0004_08.row.prog w (hd08.heap_39 w.params) hd08.view_39
set_option maxRecDepth 100000 in
set_option maxHeartbeats 8000000 in
theorem isqrt_spec {w : World} {n : Int} {t1 : Tok} (hn : 0 ≤ n) (hb : n.natAbs < 2 ^ 1900) : Cl w 26 1 (fun _ => True) [.int n t1] (fun t => .int (rootF 2 n) t) := by
  k_with_none
  dsimp only [Cl, Claim, Ret]
  k_fill
  intro loose mean mg mb news dp un gd cn cs a ccd cl outer A₀ base h₀ L m s Q E hB F X N T hk hH hd hu hret
  refine wpAny_call ?_
  (k_dflt cell_enter)
  k_with "exec While Compare cons nil" => k_while (fun script x y => IsqInv n x y) (fun script x y => x.toNat) "x" "y"
  k_with "state" => first | exact isq_start hb (isq_odd hn hb (by assumption)) (by assumption) | exact isq_start hb (isq_even hn hb (by assumption)) (by assumption) | exact isq_turn (by assumption) (by assumption)
  k_with "measure" => exact isq_meas (by assumption) (by assumption)
  k_with "binaryOp LShift int int" => first | (refine lshift_int (aF_facts n).1 (shl1_ok hn hb) ?_) | (refine lshift_int (aF_facts n).1 (shl3_ok hn hb) ?_)
  k_with "binaryOp RShift int int" => first | (refine rshift_int (aF_facts n).1 ?_) | (refine rshift_int (by decide) ?_)
  k_with "binaryOp FloorDiv int int" => first | (refine floordiv_int (isq_div hb (isq_odd hn hb (by assumption)) (by assumption)).1 ?_ (Or.inl (noPy (Nat.lt_of_lt_of_le (isq_div hb (isq_odd hn hb (by assumption)) (by assumption)).2 (pow2_mono (by decide)))))) | (refine floordiv_int (isq_div hb (isq_even hn hb (by assumption)) (by assumption)).1 ?_ (Or.inl (noPy (Nat.lt_of_lt_of_le (isq_div hb (isq_even hn hb (by assumption)) (by assumption)).2 (pow2_mono (by decide)))))) | (refine floordiv_int (isq_loop_div (by assumption) (by assumption)).1 ?_ (Or.inl (noPy (isq_loop_div (by assumption) (by assumption)).2)))
  k_steps
  all_goals first | (refine ret_int (Q := Q) hret (by first | exact isq_same (isq_odd hn hb (by assumption)) (by assumption) | exact isq_same (isq_even hn hb (by assumption)) (by assumption) | exact isq_done (by assumption) (by assumption)) (by k_asm) (by first | k_asm | exact cb_drop (by assumption) (by kcj_all)))
local macro_rules | `(tactic| walk_at "call ref") => `(tactic| (k_here; (with_reducible show wpAny _ _ (call (Value.ref 26) [Value.int _ _]) _ _ _); k_dflt (refine' isqrt_spec ?kp0 ?kp1 ?k1 ?k2 ?k3 ?k4 ?k5 ?kK ?kH ?kd ?ku ?_; (case k1 => k_asm); (case k2 => k_asm); (case k3 => k_asm); (case k4 => k_asm); (case k5 => k_asm); (case kK => first | exact rfl | assumption); (case kH => first | trivial | k_asm); (case kp0 => first | assumption | k_extra "isqrt_spec 0" | omega | l_fit | decide); (case kp1 => first | assumption | k_extra "isqrt_spec 1" | omega | l_fit | decide); (case kd => ktr_room); (case ku => ktr_units)); intro t9 h9 tk9 F9 N9; (try dsimp only); (try k_fold)))
set_option maxRecDepth 100000 in
set_option maxHeartbeats 8000000 in
theorem introot_spec {w : World} {n r : Int} {t1 t2 : Tok} (hn : 0 ≤ n) (hb : n.natAbs < 2 ^ 1900) (hr : 1 ≤ r) (hr2 : r ≤ 1000) : Cl w 34 2 (fun _ => True) [.int n t1, .int r t2] (fun t => .int (rootF r n) t) := by
  k_with_none
  dsimp only [Cl, Claim, Ret]
  k_fill
  intro loose mean mg mb news dp un gd cn cs a ccd cl outer A₀ base h₀ L m s Q E hB F X N T hk hH hd hu hret
  refine wpAny_call ?_
  (k_dflt (refine' code_def ?k1 ?k2 ?k3 ?k4 ?k5 ?kA ?kF ?kK ?k6 ?k7 ?k8 ?k9 ?kB ?_ ?c2 ?c3 ?c4 ?c5; (case kA => exact rfl); (case kF => exact rfl); (case kK => assumption); (case k1 => k_asm); (case k2 => k_asm); (case k3 => k_asm); (case k4 => k_asm); (case k5 => k_asm); (case k6 => k_is); (case k7 => k_is); (case k8 => ktr_room); (case k9 => exact binds_K (by k_in) rfl (by k_is) rfl rfl rfl); (case c5 => decide); (case kB => exact locs rfl); (case c2 => exact rfl); (case c3 => exact rfl); (case c4 => exact rfl); k_whole; intro g' L' h' FG' F' N' B' X' T'; (try dsimp only); (try k_lift B'); (try k_fold)))
  have hr0 : 0 ≤ r := by omega
  k_with "exec While Compare cons nil" => first
    | ((with_reducible show wpAny _ _ (exec (PySem.Stmt.While (PySem.Expr.Compare _ [PySem.CmpOp.Gt] _ _) _ _ _) _) _ _ _); k_while (fun script lo => In1 lo) (fun script lo => lo.toNat) "lower")
    | ((with_reducible show wpAny _ _ (exec (PySem.Stmt.While (PySem.Expr.Compare _ [PySem.CmpOp.LtE] _ _) _ _ _) _) _ _ _); k_while (fun script up => In2 up) (fun script up => (n + 1 - up).toNat) "upper")
    | ((with_reducible show wpAny _ _ (exec (PySem.Stmt.While (PySem.Expr.Compare _ [PySem.CmpOp.NotEq] _ _) _ _ _) _) _ _ _); k_while (fun script lo up => In3 n r lo up) (fun script lo up => (up - lo).toNat) "lower" "upper")
  k_with "state" => first | exact in1_start hr hb | exact in2_start hr hb | exact in1_turn (by assumption) | exact in2_turn hr hb (by assumption) (by assumption) | exact in3_start (by assumption) (by assumption) (by assumption) (by assumption) | exact in3_low (by assumption) (by assumption) (by assumption) | exact in3_up' (by assumption) (by assumption) (by assumption) (by assumption)
  k_with "measure" => first | exact in1_meas hn hr (by assumption) (by assumption) | exact in2_meas hr (by assumption) (by assumption) | exact in3_low_m (by assumption) (by assumption) | exact in3_up_m (by assumption) (by assumption)
  k_with "binaryOp LShift int int" => (refine lshift_int (kF_facts hr hb).1 (one_shl_ok hr hb) ?_)
  k_with "inplaceOp LShift int int" => (refine ilshift_int (by decide) (in2_shl (by assumption)) ?_)
  k_with "inplaceOp RShift int int" => (refine irshift_int (by decide) ?_)
  k_with "binaryOp Pow int int" => first | (refine pow_int hr0 (pow1 (by assumption) hr hr2) ?_) | (refine pow_int hr0 (pow2 (by assumption) hr hr2) ?_) | (refine pow_int hr0 (pow3 (by assumption) (by assumption) hr hr2) ?_)
  k_with "binaryOp FloorDiv int int" => (refine floordiv_int (r_bd hr hr2).1 ?_ (Or.inl (noPy (r_bd hr hr2).2)))
  k_steps
  all_goals first | (refine ret_int (Q := Q) hret (by first | exact in3_hit hr (by assumption) (by assumption) (by assumption) | exact in3_done hr (by assumption) (by assumption) | exact (rootF_small hr hn (by assumption)).symm | (subst_vars; rfl) | (subst_vars; exact (rootF_one hn).symm) | (trace_state; fail)) (by k_asm) (by first | k_asm | exact cb_drop (by assumption) (by kcj_all)))
local macro_rules | `(tactic| walk_at "call ref") => `(tactic| (k_here; (with_reducible show wpAny _ _ (call (Value.ref 34) [Value.int _ _, Value.int _ _]) _ _ _); k_dflt (refine' introot_spec ?kp0 ?kp1 ?kp2 ?kp3 ?k1 ?k2 ?k3 ?k4 ?k5 ?kK ?kH ?kd ?ku ?_; (case k1 => k_asm); (case k2 => k_asm); (case k3 => k_asm); (case k4 => k_asm); (case k5 => k_asm); (case kK => first | exact rfl | assumption); (case kH => first | trivial | k_asm); (case kp0 => first | assumption | k_extra "introot_spec 0" | omega | l_fit | decide); (case kp1 => first | assumption | k_extra "introot_spec 1" | omega | l_fit | decide); (case kp2 => first | assumption | k_extra "introot_spec 2" | omega | l_fit | decide); (case kp3 => first | assumption | k_extra "introot_spec 3" | omega | l_fit | decide); (case kd => ktr_room); (case ku => ktr_units)); intro t9 h9 tk9 F9 N9; (try dsimp only); (try k_fold)))
set_option maxRecDepth 100000 in
set_option maxHeartbeats 8000000 in
theorem introot_none {w : World} {n r : Int} {t1 t2 : Tok} (hn : n < 0) (he : r.fmod 2 = 0) : Cl w 34 2 (fun _ => True) [.int n t1, .int r t2] (fun _ => .none) := by
  k_with_none
  dsimp only [Cl, Claim, Ret]
  k_fill
  intro loose mean mg mb news dp un gd cn cs a ccd cl outer A₀ base h₀ L m s Q E hB F X N T hk hH hd hu hret
  refine wpAny_call ?_
  (k_dflt (refine' code_def ?k1 ?k2 ?k3 ?k4 ?k5 ?kA ?kF ?kK ?k6 ?k7 ?k8 ?k9 ?kB ?_ ?c2 ?c3 ?c4 ?c5; (case kA => exact rfl); (case kF => exact rfl); (case kK => assumption); (case k1 => k_asm); (case k2 => k_asm); (case k3 => k_asm); (case k4 => k_asm); (case k5 => k_asm); (case k6 => k_is); (case k7 => k_is); (case k8 => ktr_room); (case k9 => exact binds_K (by k_in) rfl (by k_is) rfl rfl rfl); (case c5 => decide); (case kB => exact locs rfl); (case c2 => exact rfl); (case c3 => exact rfl); (case c4 => exact rfl); k_whole; intro g' L' h' FG' F' N' B' X' T'; (try dsimp only); (try k_lift B'); (try k_fold)))
  k_steps
  all_goals first | (exact absurd he (by assumption)) | (refine ret_val (Q := Q) hret (by rfl) (by k_asm) (by first | k_asm | exact cb_drop (by assumption) (by kcj_all)))
set_option maxRecDepth 100000 in
set_option maxHeartbeats 8000000 in
theorem introot_odd {w : World} {n r : Int} {t1 t2 : Tok} (hn : n < 0) (ho : r.fmod 2 ≠ 0) (hb : n.natAbs < 2 ^ 1900) (hr : 1 ≤ r) (hr2 : r ≤ 1000) : Cl w 34 3 (fun _ => True) [.int n t1, .int r t2] (fun t => .int (-(rootF r (-n))) t) := by
  k_with_none
  dsimp only [Cl, Claim, Ret]
  k_fill
  intro loose mean mg mb news dp un gd cn cs a ccd cl outer A₀ base h₀ L m s Q E hB F X N T hk hH hd hu hret
  refine wpAny_call ?_
  (k_dflt (refine' code_def ?k1 ?k2 ?k3 ?k4 ?k5 ?kA ?kF ?kK ?k6 ?k7 ?k8 ?k9 ?kB ?_ ?c2 ?c3 ?c4 ?c5; (case kA => exact rfl); (case kF => exact rfl); (case kK => assumption); (case k1 => k_asm); (case k2 => k_asm); (case k3 => k_asm); (case k4 => k_asm); (case k5 => k_asm); (case k6 => k_is); (case k7 => k_is); (case k8 => ktr_room); (case k9 => exact binds_K (by k_in) rfl (by k_is) rfl rfl rfl); (case c5 => decide); (case kB => exact locs rfl); (case c2 => exact rfl); (case c3 => exact rfl); (case c4 => exact rfl); k_whole; intro g' L' h' FG' F' N' B' X' T'; (try dsimp only); (try k_lift B'); (try k_fold)))
  have hn9 : 0 ≤ -n := by omega
  have hb9 : (-n).natAbs < 2 ^ 1900 := by rw [Int.natAbs_neg]; exact hb
  k_steps
  all_goals first | (exact absurd (by assumption) ho) | (refine ret_int (Q := Q) hret (by rfl) (by k_asm) (by first | k_asm | exact cb_drop (by assumption) (by kcj_all)))
local macro_rules | `(tactic| walk_at "call ref") => `(tactic| (k_here; (with_reducible show wpAny _ _ (call (Value.ref 34) [Value.int _ _, Value.int _ _]) _ _ _); k_dflt (refine' introot_none ?kp0 ?kp1 ?k1 ?k2 ?k3 ?k4 ?k5 ?kK ?kH ?kd ?ku ?_; (case k1 => k_asm); (case k2 => k_asm); (case k3 => k_asm); (case k4 => k_asm); (case k5 => k_asm); (case kK => first | exact rfl | assumption); (case kH => first | trivial | k_asm); (case kp0 => first | assumption | k_extra "introot_none 0"); (case kp1 => first | assumption | k_extra "introot_none 1"); (case kd => ktr_room); (case ku => ktr_units)); intro t9 h9 tk9 F9 N9; (try dsimp only); (try k_fold)))
local macro_rules | `(tactic| walk_at "call ref") => `(tactic| (k_here; (with_reducible show wpAny _ _ (call (Value.ref 34) [Value.int _ _, Value.int _ _]) _ _ _); k_dflt (refine' introot_odd ?kp0 ?kp1 ?kp2 ?kp3 ?kp4 ?k1 ?k2 ?k3 ?k4 ?k5 ?kK ?kH ?kd ?ku ?_; (case k1 => k_asm); (case k2 => k_asm); (case k3 => k_asm); (case k4 => k_asm); (case k5 => k_asm); (case kK => first | exact rfl | assumption); (case kH => first | trivial | k_asm); (case kp0 => first | assumption | k_extra "introot_odd 0"); (case kp1 => first | assumption | k_extra "introot_odd 1"); (case kp2 => first | assumption | k_extra "introot_odd 2"); (case kp3 => first | assumption | k_extra "introot_odd 3"); (case kp4 => first | assumption | k_extra "introot_odd 4"); (case kd => ktr_room); (case ku => ktr_units)); intro t9 h9 tk9 F9 N9; (try dsimp only); (try k_fold)))
theorem introot_val {w : World} {n r v : Int} {t1 t2 : Tok} (he : rootF r n = v) (hn : 0 ≤ n) (hb : n.natAbs < 2 ^ 1900) (hr : 1 ≤ r) (hr2 : r ≤ 1000) : Cl w 34 2 (fun _ => True) [.int n t1, .int r t2] (fun t => .int v t) := by
  subst he
  exact introot_spec hn hb hr hr2
theorem introot_oval {w : World} {n r v : Int} {t1 t2 : Tok} (he : -rootF r (-n) = v) (hn : n < 0) (ho : r.fmod 2 ≠ 0) (hb : n.natAbs < 2 ^ 1900) (hr : 1 ≤ r) (hr2 : r ≤ 1000) : Cl w 34 3 (fun _ => True) [.int n t1, .int r t2] (fun t => .int v t) := by
  subst he
  exact introot_odd hn ho hb hr hr2
local macro_rules | `(tactic| walk_at "call ref") => `(tactic| (k_here; (with_reducible show wpAny _ _ (call (Value.ref 34) [Value.int _ _, Value.int _ _]) _ _ _); k_dflt (refine' introot_val ?kp0 ?kp1 ?kp2 ?kp3 ?kp4 ?k1 ?k2 ?k3 ?k4 ?k5 ?kK ?kH ?kd ?ku ?_; (case k1 => k_asm); (case k2 => k_asm); (case k3 => k_asm); (case k4 => k_asm); (case k5 => k_asm); (case kK => first | exact rfl | assumption); (case kH => first | trivial | k_asm); (case kp0 => first | assumption | k_extra "introot_val 0"); (case kp1 => first | assumption | k_extra "introot_val 1"); (case kp2 => first | assumption | k_extra "introot_val 2"); (case kp3 => first | assumption | k_extra "introot_val 3"); (case kp4 => first | assumption | k_extra "introot_val 4"); (case kd => ktr_room); (case ku => ktr_units)); intro t9 h9 tk9 F9 N9; (try dsimp only); (try k_fold)))
local macro_rules | `(tactic| walk_at "call ref") => `(tactic| (k_here; (with_reducible show wpAny _ _ (call (Value.ref 34) [Value.int _ _, Value.int _ _]) _ _ _); k_dflt (refine' introot_oval ?kp0 ?kp1 ?kp2 ?kp3 ?kp4 ?kp5 ?k1 ?k2 ?k3 ?k4 ?k5 ?kK ?kH ?kd ?ku ?_; (case k1 => k_asm); (case k2 => k_asm); (case k3 => k_asm); (case k4 => k_asm); (case k5 => k_asm); (case kK => first | exact rfl | assumption); (case kH => first | trivial | k_asm); (case kp0 => first | assumption | k_extra "introot_oval 0"); (case kp1 => first | assumption | k_extra "introot_oval 1"); (case kp2 => first | assumption | k_extra "introot_oval 2"); (case kp3 => first | assumption | k_extra "introot_oval 3"); (case kp4 => first | assumption | k_extra "introot_oval 4"); (case kp5 => first | assumption | k_extra "introot_oval 5"); (case kd => ktr_room); (case ku => ktr_units)); intro t9 h9 tk9 F9 N9; (try dsimp only); (try k_fold)))
def rowF : List Int := [1, 2, 0, 0, 5, 1]
def atF (ns : List Int) (i : Int) : Int := if i < ns.length then ns.getD i.toNat 0 else rowF.getD (i.fmod 6).toNat 0
set_option maxRecDepth 100000 in
set_option maxHeartbeats 8000000 in
theorem at_spec {w : World} {l : Addr} {vs : List Value} {ns : List Int} {i : Int} {t2 : Tok} (hI : IntsAre vs ns) (hn : ns.length < 2 ^ 62) (h0 : 0 ≤ i) (hi : i < 100) : Cl w 49 1 (fun base => base.IsList l vs.toArray) [.ref l, .int i t2] (fun t => .int (atF ns i) t) := by
  k_with_none
  dsimp only [Cl, Claim, Ret]
  k_fill
  intro loose mean mg mb news dp un gd cn cs a ccd cl outer A₀ base h₀ L m s Q E hB F X N T hk hH hd hu hret
  refine wpAny_call ?_
  (k_dflt cell_enter)
  k_steps
  all_goals first | (refine ret_int (Q := Q) hret (by unfold atF rowF; split <;> first | rfl | (exfalso; omega)) (by k_asm) (by first | k_asm | exact cb_drop (by assumption) (by kcj_all)))
local macro_rules | `(tactic| walk_at "call ref") => `(tactic| (k_here; (with_reducible show wpAny _ _ (call (Value.ref 49) [Value.ref _, Value.int _ _]) _ _ _); k_dflt (refine' at_spec ?kp0 ?kp1 ?kp2 ?kp3 ?k1 ?k2 ?k3 ?k4 ?k5 ?kK ?kH ?kd ?ku ?_; (case k1 => k_asm); (case k2 => k_asm); (case k3 => k_asm); (case k4 => k_asm); (case k5 => k_asm); (case kK => first | exact rfl | assumption); (case kH => first | trivial | k_asm); (case kp0 => first | assumption | k_extra "at_spec 0" | omega | l_fit | decide); (case kp1 => first | assumption | k_extra "at_spec 1" | omega | l_fit | decide); (case kp2 => first | assumption | k_extra "at_spec 2" | omega | l_fit | decide); (case kp3 => first | assumption | k_extra "at_spec 3" | omega | l_fit | decide); (case kd => ktr_room); (case ku => ktr_units)); intro t9 h9 tk9 F9 N9; (try dsimp only); (try k_fold)))
end Mine
namespace Mine
local macro_rules | `(tactic| walk_at "call ref") => `(tactic| (k_here; (with_reducible show wpAny _ _ (call (Value.ref 26) [Value.int _ _]) _ _ _); k_dflt (refine' isqrt_spec ?kp0 ?kp1 ?k1 ?k2 ?k3 ?k4 ?k5 ?kK ?kH ?kd ?ku ?_; (case k1 => k_asm); (case k2 => k_asm); (case k3 => k_asm); (case k4 => k_asm); (case k5 => k_asm); (case kK => first | exact rfl | assumption); (case kH => first | trivial | k_asm); (case kp0 => first | assumption | k_extra "isqrt_spec 0" | omega | l_fit | decide); (case kp1 => first | assumption | k_extra "isqrt_spec 1" | omega | l_fit | decide); (case kd => ktr_room); (case ku => ktr_units)); intro t9 h9 tk9 F9 N9; (try dsimp only); (try k_fold)))
local macro_rules | `(tactic| walk_at "call ref") => `(tactic| (k_here; (with_reducible show wpAny _ _ (call (Value.ref 34) [Value.int _ _, Value.int _ _]) _ _ _); k_dflt (refine' introot_spec ?kp0 ?kp1 ?kp2 ?kp3 ?k1 ?k2 ?k3 ?k4 ?k5 ?kK ?kH ?kd ?ku ?_; (case k1 => k_asm); (case k2 => k_asm); (case k3 => k_asm); (case k4 => k_asm); (case k5 => k_asm); (case kK => first | exact rfl | assumption); (case kH => first | trivial | k_asm); (case kp0 => first | assumption | k_extra "introot_spec 0" | omega | l_fit | decide); (case kp1 => first | assumption | k_extra "introot_spec 1" | omega | l_fit | decide); (case kp2 => first | assumption | k_extra "introot_spec 2" | omega | l_fit | decide); (case kp3 => first | assumption | k_extra "introot_spec 3" | omega | l_fit | decide); (case kd => ktr_room); (case ku => ktr_units)); intro t9 h9 tk9 F9 N9; (try dsimp only); (try k_fold)))
local macro_rules | `(tactic| walk_at "call ref") => `(tactic| (k_here; (with_reducible show wpAny _ _ (call (Value.ref 34) [Value.int _ _, Value.int _ _]) _ _ _); k_dflt (refine' introot_none ?kp0 ?kp1 ?k1 ?k2 ?k3 ?k4 ?k5 ?kK ?kH ?kd ?ku ?_; (case k1 => k_asm); (case k2 => k_asm); (case k3 => k_asm); (case k4 => k_asm); (case k5 => k_asm); (case kK => first | exact rfl | assumption); (case kH => first | trivial | k_asm); (case kp0 => first | assumption | k_extra "introot_none 0"); (case kp1 => first | assumption | k_extra "introot_none 1"); (case kd => ktr_room); (case ku => ktr_units)); intro t9 h9 tk9 F9 N9; (try dsimp only); (try k_fold)))
local macro_rules | `(tactic| walk_at "call ref") => `(tactic| (k_here; (with_reducible show wpAny _ _ (call (Value.ref 34) [Value.int _ _, Value.int _ _]) _ _ _); k_dflt (refine' introot_odd ?kp0 ?kp1 ?kp2 ?kp3 ?kp4 ?k1 ?k2 ?k3 ?k4 ?k5 ?kK ?kH ?kd ?ku ?_; (case k1 => k_asm); (case k2 => k_asm); (case k3 => k_asm); (case k4 => k_asm); (case k5 => k_asm); (case kK => first | exact rfl | assumption); (case kH => first | trivial | k_asm); (case kp0 => first | assumption | k_extra "introot_odd 0"); (case kp1 => first | assumption | k_extra "introot_odd 1"); (case kp2 => first | assumption | k_extra "introot_odd 2"); (case kp3 => first | assumption | k_extra "introot_odd 3"); (case kp4 => first | assumption | k_extra "introot_odd 4"); (case kd => ktr_room); (case ku => ktr_units)); intro t9 h9 tk9 F9 N9; (try dsimp only); (try k_fold)))
local macro_rules | `(tactic| walk_at "call ref") => `(tactic| (k_here; (with_reducible show wpAny _ _ (call (Value.ref 34) [Value.int _ _, Value.int _ _]) _ _ _); k_dflt (refine' introot_val ?kp0 ?kp1 ?kp2 ?kp3 ?kp4 ?k1 ?k2 ?k3 ?k4 ?k5 ?kK ?kH ?kd ?ku ?_; (case k1 => k_asm); (case k2 => k_asm); (case k3 => k_asm); (case k4 => k_asm); (case k5 => k_asm); (case kK => first | exact rfl | assumption); (case kH => first | trivial | k_asm); (case kp0 => first | assumption | k_extra "introot_val 0"); (case kp1 => first | assumption | k_extra "introot_val 1"); (case kp2 => first | assumption | k_extra "introot_val 2"); (case kp3 => first | assumption | k_extra "introot_val 3"); (case kp4 => first | assumption | k_extra "introot_val 4"); (case kd => ktr_room); (case ku => ktr_units)); intro t9 h9 tk9 F9 N9; (try dsimp only); (try k_fold)))
local macro_rules | `(tactic| walk_at "call ref") => `(tactic| (k_here; (with_reducible show wpAny _ _ (call (Value.ref 34) [Value.int _ _, Value.int _ _]) _ _ _); k_dflt (refine' introot_oval ?kp0 ?kp1 ?kp2 ?kp3 ?kp4 ?kp5 ?k1 ?k2 ?k3 ?k4 ?k5 ?kK ?kH ?kd ?ku ?_; (case k1 => k_asm); (case k2 => k_asm); (case k3 => k_asm); (case k4 => k_asm); (case k5 => k_asm); (case kK => first | exact rfl | assumption); (case kH => first | trivial | k_asm); (case kp0 => first | assumption | k_extra "introot_oval 0"); (case kp1 => first | assumption | k_extra "introot_oval 1"); (case kp2 => first | assumption | k_extra "introot_oval 2"); (case kp3 => first | assumption | k_extra "introot_oval 3"); (case kp4 => first | assumption | k_extra "introot_oval 4"); (case kp5 => first | assumption | k_extra "introot_oval 5"); (case kd => ktr_room); (case ku => ktr_units)); intro t9 h9 tk9 F9 N9; (try dsimp only); (try k_fold)))
local macro_rules | `(tactic| walk_at "call ref") => `(tactic| (k_here; (with_reducible show wpAny _ _ (call (Value.ref 49) [Value.ref _, Value.int _ _]) _ _ _); k_dflt (refine' at_spec ?kp0 ?kp1 ?kp2 ?kp3 ?k1 ?k2 ?k3 ?k4 ?k5 ?kK ?kH ?kd ?ku ?_; (case k1 => k_asm); (case k2 => k_asm); (case k3 => k_asm); (case k4 => k_asm); (case k5 => k_asm); (case kK => first | exact rfl | assumption); (case kH => first | trivial | k_asm); (case kp0 => first | assumption | k_extra "at_spec 0" | omega | l_fit | decide); (case kp1 => first | assumption | k_extra "at_spec 1" | omega | l_fit | decide); (case kp2 => first | assumption | k_extra "at_spec 2" | omega | l_fit | decide); (case kp3 => first | assumption | k_extra "at_spec 3" | omega | l_fit | decide); (case kd => ktr_room); (case ku => ktr_units)); intro t9 h9 tk9 F9 N9; (try dsimp only); (try k_fold)))
set_option maxRecDepth 100000 in
set_option maxHeartbeats 8000000 in
theorem hit_pos {w : World} {n r v : Int} {t1 t2 : Tok} (h : Hit n r v) (hv : 0 ≤ v) : Cl w 42 4 (fun _ => True) [.int n t1, .int r t2] (fun t => .int v t) := by
  k_with_none
  dsimp only [Cl, Claim, Ret]
  k_fill
  intro loose mean mg mb news dp un gd cn cs a ccd cl outer A₀ base h₀ L m s Q E hB F X N T hk hH hd hu hret
  refine wpAny_call ?_
  (k_dflt (refine' code_def ?k1 ?k2 ?k3 ?k4 ?k5 ?kA ?kF ?kK ?k6 ?k7 ?k8 ?k9 ?kB ?_ ?c2 ?c3 ?c4 ?c5; (case kA => exact rfl); (case kF => exact rfl); (case kK => assumption); (case k1 => k_asm); (case k2 => k_asm); (case k3 => k_asm); (case k4 => k_asm); (case k5 => k_asm); (case k6 => k_is); (case k7 => k_is); (case k8 => ktr_room); (case k9 => exact binds_K (by k_in) rfl (by k_is) rfl rfl rfl); (case c5 => decide); (case kB => exact locs rfl); (case c2 => exact rfl); (case c3 => exact rfl); (case c4 => exact rfl); k_whole; intro g' L' h' FG' F' N' B' X' T'; (try dsimp only); (try k_lift B'); (try k_fold)))
  k_with "ite" => first | with_reducible refine ite_beq_ne (by assumption) ?_ | with_reducible refine ite_beq_eq (by assumption) ?_ | with_reducible refine ite_bne_eq (by assumption) ?_ | with_reducible refine ite_bne_ne (by assumption) ?_
  have hr1 := h.2.2.1
  have hr2 := h.2.2.2.1
  have hr0 : 0 ≤ r := by omega
  have hrz : r ≠ 0 := by omega
  k_with "introot_val 0" => exact h.root hv
  k_with "introot_val 1" => exact h.nonneg hv
  k_with "introot_val 2" => exact h.2.2.2.2
  k_with "binaryOp Pow int int" => (refine pow_int hr0 (pow_size (hit_bd h hv) hr1 hr2) ?_)
  k_steps
  all_goals first | (exfalso; omega) | (exfalso; exact absurd (hit_and2 h (by assumption)) (by assumption)) | (exfalso; exact absurd h.1 (by assumption)) | (exfalso; exact hit_any h (by assumption) (by assumption)) | (exfalso; exact neg_two h hv (by assumption)) | (refine ret_int (Q := Q) hret (by rfl) (by k_asm) (by first | k_asm | exact cb_drop (by assumption) (by kcj_all)))
set_option maxRecDepth 100000 in
set_option maxHeartbeats 8000000 in
theorem hit_neg {w : World} {n r v : Int} {t1 t2 : Tok} (h : Hit n r v) (hv : ¬ 0 ≤ v) : Cl w 42 4 (fun _ => True) [.int n t1, .int r t2] (fun t => .int v t) := by
  k_with_none
  dsimp only [Cl, Claim, Ret]
  k_fill
  intro loose mean mg mb news dp un gd cn cs a ccd cl outer A₀ base h₀ L m s Q E hB F X N T hk hH hd hu hret
  refine wpAny_call ?_
  (k_dflt (refine' code_def ?k1 ?k2 ?k3 ?k4 ?k5 ?kA ?kF ?kK ?k6 ?k7 ?k8 ?k9 ?kB ?_ ?c2 ?c3 ?c4 ?c5; (case kA => exact rfl); (case kF => exact rfl); (case kK => assumption); (case k1 => k_asm); (case k2 => k_asm); (case k3 => k_asm); (case k4 => k_asm); (case k5 => k_asm); (case k6 => k_is); (case k7 => k_is); (case k8 => ktr_room); (case k9 => exact binds_K (by k_in) rfl (by k_is) rfl rfl rfl); (case c5 => decide); (case kB => exact locs rfl); (case c2 => exact rfl); (case c3 => exact rfl); (case c4 => exact rfl); k_whole; intro g' L' h' FG' F' N' B' X' T'; (try dsimp only); (try k_lift B'); (try k_fold)))
  k_with "ite" => first | with_reducible refine ite_beq_ne (by assumption) ?_ | with_reducible refine ite_beq_eq (by assumption) ?_ | with_reducible refine ite_bne_eq (by assumption) ?_ | with_reducible refine ite_bne_ne (by assumption) ?_
  have hr1 := h.2.2.1
  have hr2 := h.2.2.2.1
  have hr0 : 0 ≤ r := by omega
  have hrz : r ≠ 0 := by omega
  have hng := h.neg hv
  k_with "introot_oval 0" => (rw [hng.2.2, Int.neg_neg])
  k_with "introot_oval 1" => exact hng.1
  k_with "introot_oval 2" => exact hng.2.1
  k_with "introot_oval 3" => exact h.2.2.2.2
  k_with "binaryOp Pow int int" => (refine pow_int hr0 (pow_size (hit_bdn h hv) hr1 hr2) ?_)
  k_steps
  all_goals first | (exfalso; omega) | (exfalso; exact absurd (hit_and2 h (by assumption)) (by assumption)) | (exfalso; exact absurd h.1 (by assumption)) | (exfalso; exact hit_any h (by assumption) (by assumption)) | (exfalso; exact neg_two h hv (by assumption)) | (refine ret_int (Q := Q) hret (by rfl) (by k_asm) (by first | k_asm | exact cb_drop (by assumption) (by kcj_all)))
theorem ispower_hit {w : World} {n r v : Int} {t1 t2 : Tok} (h : Hit n r v) : Cl w 42 4 (fun _ => True) [.int n t1, .int r t2] (fun t => .int v t) := by
  by_cases hv : 0 ≤ v
  · exact hit_pos h hv
  · exact hit_neg h hv
set_option maxRecDepth 100000 in
set_option maxHeartbeats 8000000 in
theorem miss_pos {w : World} {n r : Int} {t1 t2 : Tok} (hr1 : 1 ≤ r) (hr2 : r ≤ 1000) (hb : n.natAbs < 2 ^ 1900) (hn : 0 ≤ n) (hm : (rootF r n) ^ r.toNat ≠ n) : Cl w 42 4 (fun _ => True) [.int n t1, .int r t2] (fun _ => .none) := by
  k_with_none
  dsimp only [Cl, Claim, Ret]
  k_fill
  intro loose mean mg mb news dp un gd cn cs a ccd cl outer A₀ base h₀ L m s Q E hB F X N T hk hH hd hu hret
  refine wpAny_call ?_
  (k_dflt (refine' code_def ?k1 ?k2 ?k3 ?k4 ?k5 ?kA ?kF ?kK ?k6 ?k7 ?k8 ?k9 ?kB ?_ ?c2 ?c3 ?c4 ?c5; (case kA => exact rfl); (case kF => exact rfl); (case kK => assumption); (case k1 => k_asm); (case k2 => k_asm); (case k3 => k_asm); (case k4 => k_asm); (case k5 => k_asm); (case k6 => k_is); (case k7 => k_is); (case k8 => ktr_room); (case k9 => exact binds_K (by k_in) rfl (by k_is) rfl rfl rfl); (case c5 => decide); (case kB => exact locs rfl); (case c2 => exact rfl); (case c3 => exact rfl); (case c4 => exact rfl); k_whole; intro g' L' h' FG' F' N' B' X' T'; (try dsimp only); (try k_lift B'); (try k_fold)))
  k_with "ite" => first | with_reducible refine ite_beq_ne (by assumption) ?_ | with_reducible refine ite_beq_eq (by assumption) ?_ | with_reducible refine ite_bne_eq (by assumption) ?_ | with_reducible refine ite_bne_ne (by assumption) ?_
  have hr0 : 0 ≤ r := by omega
  have hrz : r ≠ 0 := by omega
  k_with "introot_val 0" => rfl
  k_with "binaryOp Pow int int" => (refine pow_int hr0 (pow_size (rootp_bd hr1 hn hb) hr1 hr2) ?_)
  k_steps
  all_goals first | (exact absurd (by assumption) hm) | (exfalso; omega) | (refine ret_val (Q := Q) hret (by rfl) (by k_asm) (by first | k_asm | exact cb_drop (by assumption) (by kcj_all)))
set_option maxRecDepth 100000 in
set_option maxHeartbeats 8000000 in
theorem miss_even {w : World} {n r : Int} {t1 t2 : Tok} (hr1 : 1 ≤ r) (hr2 : r ≤ 1000) (hb : n.natAbs < 2 ^ 1900) (hn : n < 0) (he : r.fmod 2 = 0) : Cl w 42 4 (fun _ => True) [.int n t1, .int r t2] (fun _ => .none) := by
  k_with_none
  dsimp only [Cl, Claim, Ret]
  k_fill
  intro loose mean mg mb news dp un gd cn cs a ccd cl outer A₀ base h₀ L m s Q E hB F X N T hk hH hd hu hret
  refine wpAny_call ?_
  (k_dflt (refine' code_def ?k1 ?k2 ?k3 ?k4 ?k5 ?kA ?kF ?kK ?k6 ?k7 ?k8 ?k9 ?kB ?_ ?c2 ?c3 ?c4 ?c5; (case kA => exact rfl); (case kF => exact rfl); (case kK => assumption); (case k1 => k_asm); (case k2 => k_asm); (case k3 => k_asm); (case k4 => k_asm); (case k5 => k_asm); (case k6 => k_is); (case k7 => k_is); (case k8 => ktr_room); (case k9 => exact binds_K (by k_in) rfl (by k_is) rfl rfl rfl); (case c5 => decide); (case kB => exact locs rfl); (case c2 => exact rfl); (case c3 => exact rfl); (case c4 => exact rfl); k_whole; intro g' L' h' FG' F' N' B' X' T'; (try dsimp only); (try k_lift B'); (try k_fold)))
  k_with "ite" => first | with_reducible refine ite_beq_ne (by assumption) ?_ | with_reducible refine ite_beq_eq (by assumption) ?_ | with_reducible refine ite_bne_eq (by assumption) ?_ | with_reducible refine ite_bne_ne (by assumption) ?_
  have hr0 : 0 ≤ r := by omega
  have hrz : r ≠ 0 := by omega
  k_steps
  all_goals first | (refine ret_val (Q := Q) hret (by rfl) (by k_asm) (by first | k_asm | exact cb_drop (by assumption) (by kcj_all)))
set_option maxRecDepth 100000 in
set_option maxHeartbeats 8000000 in
theorem miss_odd {w : World} {n r : Int} {t1 t2 : Tok} (hr1 : 1 ≤ r) (hr2 : r ≤ 1000) (hb : n.natAbs < 2 ^ 1900) (hn : n < 0) (ho : r.fmod 2 ≠ 0) (hm : (rootF r (-n)) ^ r.toNat ≠ -n) : Cl w 42 4 (fun _ => True) [.int n t1, .int r t2] (fun _ => .none) := by
  k_with_none
  dsimp only [Cl, Claim, Ret]
  k_fill
  intro loose mean mg mb news dp un gd cn cs a ccd cl outer A₀ base h₀ L m s Q E hB F X N T hk hH hd hu hret
  refine wpAny_call ?_
  (k_dflt (refine' code_def ?k1 ?k2 ?k3 ?k4 ?k5 ?kA ?kF ?kK ?k6 ?k7 ?k8 ?k9 ?kB ?_ ?c2 ?c3 ?c4 ?c5; (case kA => exact rfl); (case kF => exact rfl); (case kK => assumption); (case k1 => k_asm); (case k2 => k_asm); (case k3 => k_asm); (case k4 => k_asm); (case k5 => k_asm); (case k6 => k_is); (case k7 => k_is); (case k8 => ktr_room); (case k9 => exact binds_K (by k_in) rfl (by k_is) rfl rfl rfl); (case c5 => decide); (case kB => exact locs rfl); (case c2 => exact rfl); (case c3 => exact rfl); (case c4 => exact rfl); k_whole; intro g' L' h' FG' F' N' B' X' T'; (try dsimp only); (try k_lift B'); (try k_fold)))
  k_with "ite" => first | with_reducible refine ite_beq_ne (by assumption) ?_ | with_reducible refine ite_beq_eq (by assumption) ?_ | with_reducible refine ite_bne_eq (by assumption) ?_ | with_reducible refine ite_bne_ne (by assumption) ?_
  have hr0 : 0 ≤ r := by omega
  have hrz : r ≠ 0 := by omega
  k_with "introot_oval 0" => rfl
  k_with "binaryOp Pow int int" => (refine pow_int hr0 (pow_size (rootn_bd hr1 hn hb) hr1 hr2) ?_)
  k_steps
  all_goals first | (exfalso; exact miss_odd_end hr1 ho hm (by assumption)) | (refine ret_val (Q := Q) hret (by rfl) (by k_asm) (by first | k_asm | exact cb_drop (by assumption) (by kcj_all)))
theorem ispower_miss {w : World} {n r : Int} {t1 t2 : Tok} (h : Miss n r) : Cl w 42 4 (fun _ => True) [.int n t1, .int r t2] (fun _ => .none) := by
  obtain ⟨hc, hr1, hr2, hb⟩ := h
  rcases hc with ⟨hn, hm⟩ | ⟨hn, hm⟩
  · exact miss_pos hr1 hr2 hb hn hm
  · by_cases he : r.fmod 2 = 0
    · exact miss_even hr1 hr2 hb hn he
    · exact miss_odd hr1 hr2 hb hn he (hm.resolve_left he)
local macro_rules | `(tactic| walk_at "call ref") => `(tactic| (k_here; (with_reducible show wpAny _ _ (call (Value.ref 42) [Value.int _ _, Value.int _ _]) _ _ _); k_dflt (refine' ispower_miss ?kp0 ?k1 ?k2 ?k3 ?k4 ?k5 ?kK ?kH ?kd ?ku ?_; (case k1 => k_asm); (case k2 => k_asm); (case k3 => k_asm); (case k4 => k_asm); (case k5 => k_asm); (case kK => first | exact rfl | assumption); (case kH => first | trivial | k_asm); (case kp0 => first | assumption | k_extra "ispower_miss 0"); (case kd => ktr_room); (case ku => ktr_units)); intro t9 h9 tk9 F9 N9; (try dsimp only); (try k_fold)))
local macro_rules | `(tactic| walk_at "call ref") => `(tactic| (k_here; (with_reducible show wpAny _ _ (call (Value.ref 42) [Value.int _ _, Value.int _ _]) _ _ _); k_dflt (refine' ispower_hit ?kp0 ?k1 ?k2 ?k3 ?k4 ?k5 ?kK ?kH ?kd ?ku ?_; (case k1 => k_asm); (case k2 => k_asm); (case k3 => k_asm); (case k4 => k_asm); (case k5 => k_asm); (case kK => first | exact rfl | assumption); (case kH => first | trivial | k_asm); (case kp0 => first | assumption | k_extra "ispower_hit 0"); (case kd => ktr_room); (case ku => ktr_units)); intro t9 h9 tk9 F9 N9; (try dsimp only); (try k_fold)))
end Mine
namespace Mine
local macro_rules | `(tactic| k_all) => `(tactic| ((refine' allNe ?a ?b); (case a => first | with_reducible assumption | exact allLt_out (And.right (by assumption))); (case b => first | exact Nat.le_refl _ | omega)))
local macro_rules | `(tactic| walk_at "eval ListComp") => `(tactic| (k_here; k_dflt (refine LCt.ListComp_T (F₀ := by k_asm) (by with_unfolding_all rfl) (by decide) (by rfl) (by decide) (by rfl) ?_)))
local macro_rules | `(tactic| walk_at "CompSrcT") => `(tactic| (k_here; k_extra "comp"))
local macro_rules | `(tactic| walk_at "TestIs") => `(tactic| (refine TestIs.intro (by k_extra "test") (by assumption) (by assumption)))
local macro_rules | `(tactic| walk_at "truthy ref") => `(tactic| (k_here; k_extra "tru"))
local macro_rules | `(tactic| walk_at "KswEnd") => `(tactic| (k_here; k_extra "kend"))
local macro_rules | `(tactic| walk_at "call builtin:list.append") => `(tactic| (k_here; (try dsimp only [List.nil_append, List.cons_append]); (with_reducible show wpAny _ _ (call (Value.builtin _) [Value.ref _, _]) _ _ _); k_dflt (refine' append_K ?apF ?apN ?apU ?_ ?apz; (case apF => k_asm); (case apN => k_asm); (case apU => k_upd); (case apz => k_extra "size")); intro h' F' N'; (try simp only [List.push_toArray] at N'); (try k_fold)))
local macro_rules | `(tactic| walk_at "IntIs") => `(tactic| (refine IntIs.intro (by assumption) (by assumption)))
set_option maxRecDepth 100000 in
set_option maxHeartbeats 8000000 in
theorem prim_spec {w : World} {n : Int} {t1 : Tok} (h2 : 2 ≤ n) (hb : n ≤ 1000) : ClL w 19 1 (fun _ => True) [.int n t1] (plN (n - 2).toNat) := by
  k_with_none
  dsimp only [ClL, ClaimL, RetL]
  k_fill
  intro loose mean mg mb news dp un gd cn cs a ccd cl outer A₀ base h₀ L m s Q E hB F X N T hk hH hd hu hret
  refine wpAny_call ?_
  (k_dflt (refine' code_defC ?k1 ?k2 ?k3 ?k4 ?k5 ?kA ?kF ?kK ?k6 ?k7 ?k8 ?k9 ?kB ?kD ?_ ?c2 ?c3 ?c4; (case kA => exact rfl); (case kF => exact rfl); (case kK => assumption); (case k1 => k_asm); (case k2 => k_asm); (case k3 => k_asm); (case k4 => k_asm); (case k5 => k_asm); (case k6 => k_is); (case k7 => k_is); (case k8 => ktr_room); (case k9 => first | exact BindsTo.of_eq rfl | exact binds_K (by k_in) rfl (by k_is) rfl rfl rfl); (case kB => exact rfl); (case kD => decide +kernel); (case c2 => exact rfl); (case c3 => exact rfl); (case c4 => exact rfl); k_whole; intro g' L' h' tk' cells' FG' F' N' Y' B' X' T' l1; (try k_lt l1); k_cells Y'; (try simp only [List.cons_append, List.nil_append] at N'); (try dsimp only); (try k_lift B'); (try k_fold)))
  k_with "exec While Compare cons nil" => ((k_dflt (refine' cell_while (PG n) (fun _ k => (n - k).toNat) ?cwF ?cwN ?cwd ?cwp ?_ ?cwe; (case cwF => k_asm); (case cwN => k_asm); (case cwd => k_asm); (case cwp => exact pg_start h2); (case cwe => passes_own))); intro found vs cnt k t9 o9 h9 tk9 I9 d9 hP F9 N9; (try k_fold))
  k_with "comp" => ((refine LCt.CompSrcT.ledger (by rfl) (by k_asm) (by k_asm) (by k_mem) (by rw [List.size_toArray, IntsAre.length I9]; exact pg_size hP hb) ?_); intro g8; (refine' lct_filter (fun p => decide (p * p ≤ k) && decide (k.fmod p = 0)) I9 (.inr ⟨_, by k_mem, rfl, _, rfl⟩) (fun p tp I8 oI8 C8 oC8 D8 m8 ys8 h8 tk8 E8 hp hC8 hx8 F8 N8 off8 ne8 => ?_) (fun p tp I8 oI8 C8 oC8 D8 m8 ys8 h8 tk8 E8 hp hC8 hx8 F8 N8 off8 ne8 => ?_) (fun ys8 hys D8 h8 tk8 F8 N8 off8 => ?_)); (all_goals (try (simp only [LCg.Off3, LCg.Off1, and_true] at off8))); (all_goals (try k_fold)))
  k_with "tru" => (refine truthy_ints_fit (ns := divs found k) ⟨_, (N8 _ (List.Mem.head _)).1, rfl, _, rfl⟩ hys (divs_fit hP hb) ?_)
  k_with "binaryOp Mult int int" => (refine mul_int ?_ (pg_mul hb hP (by assumption)))
  k_with "binaryOp Mod int int" => (refine mod_int' (pg_mod hP (by assumption)) ?_)
  k_with "test" => first | exact tst_no (by assumption) | exact tst_yes (by assumption) (by assumption) | exact tst_no2 (by assumption) (by assumption)
  k_with "kend" => first
    | ((refine' cw_end (P := PG n) (μ := fun _ k => (n - k).toNat) ?ke1 ?ke2 ?ke3 ?ke4 (pg_up hP (by assumption) (by assumption)) (pg_meas (by assumption))); (case ke1 => assumption); (case ke2 => assumption); (case ke3 => exact ints_snoc I9); (case ke4 => assumption))
    | ((refine' cw_end (P := PG n) (μ := fun _ k => (n - k).toNat) ?ke1 ?ke2 ?ke3 ?ke4 (pg_stay hP (by assumption) (by assumption)) (pg_meas (by assumption))); (case ke1 => assumption); (case ke2 => assumption); (case ke3 => assumption); (case ke4 => assumption))
  k_with "size" => (rw [List.size_toArray, IntsAre.length I9]; exact pg_size hP hb)
  k_steps
  all_goals (refine hret _ _ _ _ _ (by exact pg_done (by assumption) (by assumption) (by assumption)) (by k_asm) (by first | k_asm | exact cb_drop (by assumption) (by kcj_all)) (by first | assumption | exact allLt_out (And.right (by assumption)) | exact allLt_out (And.right (And.right (by assumption))) | exact fun p hp => allLt_out (And.right (And.right (by assumption))) p (List.mem_append_left _ hp) | exact PySem.W.kst_ltOf (by assumption) | (intro q9 h9; first | exact (by assumption : ∀ p ∈ _, p.1 < _) q9 h9)))
end Mine
namespace Mine
local macro_rules | `(tactic| k_all) => `(tactic| ((refine' allNe ?a ?b); (case a => first | with_reducible assumption | exact allLt_out (And.right (by assumption))); (case b => first | exact Nat.le_refl _ | omega)))
local macro_rules | `(tactic| walk_at "exec For Name Call cons nil") => `(tactic| (k_here; (rename Fr _ _ _ _ => lF'); (with_unfolding_all refine' For_invVF lF' ?k1 ?k2 ?_; (case k1 => exact rfl); (case k2 => exact rfl); k_whole)))
local macro_rules | `(tactic| walk_at "call ref") => `(tactic| (k_here; (with_reducible show wpAny _ _ (call (Value.ref 42) [Value.int _ _, Value.int _ _]) _ _ _); k_extra "split"))
local macro_rules | `(tactic| walk_at "call ref") => `(tactic| (k_here; (with_reducible show wpAny _ _ (call (Value.ref 42) [Value.int _ _, Value.int _ _]) _ _ _); k_dflt (refine' ispower_miss ?kp0 ?k1 ?k2 ?k3 ?k4 ?k5 ?kK ?kH ?kd ?ku ?_; (case k1 => k_asm); (case k2 => k_asm); (case k3 => k_asm); (case k4 => k_asm); (case k5 => k_asm); (case kK => first | exact rfl | assumption); (case kH => first | trivial | k_asm); (case kp0 => first | assumption | k_extra "ispower_miss 0"); (case kd => ktr_room); (case ku => ktr_units)); intro t9 h9 tk9 F9 N9; (try dsimp only); (try k_fold)))
local macro_rules | `(tactic| walk_at "call ref") => `(tactic| (k_here; (with_reducible show wpAny _ _ (call (Value.ref 42) [Value.int _ _, Value.int _ _]) _ _ _); k_dflt (refine' ispower_hit ?kp0 ?k1 ?k2 ?k3 ?k4 ?k5 ?kK ?kH ?kd ?ku ?_; (case k1 => k_asm); (case k2 => k_asm); (case k3 => k_asm); (case k4 => k_asm); (case k5 => k_asm); (case kK => first | exact rfl | assumption); (case kH => first | trivial | k_asm); (case kp0 => first | assumption | k_extra "ispower_hit 0"); (case kd => ktr_room); (case ku => ktr_units)); intro t9 h9 tk9 F9 N9; (try dsimp only); (try k_fold)))
local macro_rules | `(tactic| walk_at "call ref") => `(tactic| (k_here; (with_reducible show wpAny _ _ (call (Value.ref 19) [Value.int _ _]) _ _ _); k_dflt (refine' prim_spec ?kp0 ?kp1 ?k1 ?k2 ?k3 ?k4 ?k5 ?kK ?kH ?kd ?ku ?_; (case k1 => k_asm); (case k2 => k_asm); (case k3 => k_asm); (case k4 => k_asm); (case k5 => k_asm); (case kK => first | exact rfl | assumption); (case kH => first | trivial | k_asm); (case kp0 => first | assumption | k_extra "prim_spec 0"); (case kp1 => first | assumption | k_extra "prim_spec 1"); (case kd => ktr_room); (case ku => ktr_units)); intro D9 vs9 c9 h9 tk9 I9 F9 N9 l9; (try k_lt l9); (try dsimp only); (try k_fold)))
set_option maxRecDepth 100000 in
set_option maxHeartbeats 8000000 in
theorem ip_small1 {w : World} {n : Int} {t1 : Tok} (h : n.natAbs < 2) : ClT w 42 5 (fun _ => True) [.int n t1] (fun t => .int n t) (fun t => .int 1 t) := by
  k_with_none
  dsimp only [ClT, ClaimT, RetT]
  k_fill
  intro loose mean mg mb news dp un gd cn cs a ccd cl outer A₀ base h₀ L m s Q E hB F X N T hk hH hd hu hret
  refine wpAny_call ?_
  (k_dflt (refine' code_def ?k1 ?k2 ?k3 ?k4 ?k5 ?kA ?kF ?kK ?k6 ?k7 ?k8 ?k9 ?kB ?_ ?c2 ?c3 ?c4 ?c5; (case kA => exact rfl); (case kF => exact rfl); (case kK => assumption); (case k1 => k_asm); (case k2 => k_asm); (case k3 => k_asm); (case k4 => k_asm); (case k5 => k_asm); (case k6 => k_is); (case k7 => k_is); (case k8 => ktr_room); (case k9 => exact binds_K (by k_in) rfl (by k_is) rfl rfl rfl); (case c5 => decide); (case kB => exact locs rfl); (case c2 => exact rfl); (case c3 => exact rfl); (case c4 => exact rfl); k_whole; intro g' L' h' FG' F' N' B' X' T'; (try dsimp only); (try k_lift B'); (try k_fold)))
  k_with "ite" => first | with_reducible refine ite_beq_ne (by assumption) ?_ | with_reducible refine ite_beq_eq (by assumption) ?_ | with_reducible refine ite_bne_eq (by assumption) ?_ | with_reducible refine ite_bne_ne (by assumption) ?_ | with_reducible refine PySem.W.ite_pos (sm_any h) ?_ | with_reducible refine PySem.W.ite_neg (nsm_any h.1) ?_
  k_steps
  all_goals first | (exact absurd (sm_any h) (by assumption)) | (refine hret _ _ _ _ _ _ (by k_asm) (by first | k_asm | exact cb_drop (by assumption) (by kcj_all)) (by first | assumption | exact allLt_out (And.right (by assumption)) | exact allLt_out (And.right (And.right (by assumption))) | exact fun p hp => allLt_out (And.right (And.right (by assumption))) p (List.mem_append_left _ hp) | exact PySem.W.kst_ltOf (by assumption) | (intro q9 h9; first | exact (by assumption : ∀ p ∈ _, p.1 < _) q9 h9)))
set_option maxRecDepth 100000 in
set_option maxHeartbeats 8000000 in
theorem ip_hit1 {w : World} {n r v : Int} {t1 : Tok} (h : PHit n r v) : ClT w 42 5 (fun _ => True) [.int n t1] (fun t => .int v t) (fun t => .int r t) := by
  k_with_none
  dsimp only [ClT, ClaimT, RetT]
  k_fill
  intro loose mean mg mb news dp un gd cn cs a ccd cl outer A₀ base h₀ L m s Q E hB F X N T hk hH hd hu hret
  refine wpAny_call ?_
  (k_dflt (refine' code_def ?k1 ?k2 ?k3 ?k4 ?k5 ?kA ?kF ?kK ?k6 ?k7 ?k8 ?k9 ?kB ?_ ?c2 ?c3 ?c4 ?c5; (case kA => exact rfl); (case kF => exact rfl); (case kK => assumption); (case k1 => k_asm); (case k2 => k_asm); (case k3 => k_asm); (case k4 => k_asm); (case k5 => k_asm); (case k6 => k_is); (case k7 => k_is); (case k8 => ktr_room); (case k9 => exact binds_K (by k_in) rfl (by k_is) rfl rfl rfl); (case c5 => decide); (case kB => exact locs rfl); (case c2 => exact rfl); (case c3 => exact rfl); (case c4 => exact rfl); k_whole; intro g' L' h' FG' F' N' B' X' T'; (try dsimp only); (try k_lift B'); (try k_fold)))
  k_with "ite" => first | with_reducible refine ite_beq_ne (by assumption) ?_ | with_reducible refine ite_beq_eq (by assumption) ?_ | with_reducible refine ite_bne_eq (by assumption) ?_ | with_reducible refine ite_bne_ne (by assumption) ?_ | with_reducible refine PySem.W.ite_pos (sm_any h) ?_ | with_reducible refine PySem.W.ite_neg (nsm_any h.1) ?_
  k_with "prim_spec 0" => exact pl_lo h.1
  k_with "prim_spec 1" => exact pl_hi h.2.1
  k_with "pyIter ref" => k_search (fun (pre : List Int) => ∀ q ∈ pre, q ≠ r)
  k_with "state" => exact ne_snoc (by assumption) (by assumption)
  k_with "split" => ((refine' split_eq r ?_ ?_) <;> intro e9; (focus subst e9))
  k_with "ispower_hit 0" => exact phit_hit h
  k_with "ispower_miss 0" => exact phit_miss h (by assumption) (by assumption) (by assumption)
  k_steps
  all_goals first | (exact absurd (by assumption) (nsm_any h.1)) | (exfalso; exact phit_end h (by assumption)) | (refine hret _ _ _ _ _ _ (by k_asm) (by first | k_asm | exact cb_drop (by assumption) (by kcj_all)) (by first | assumption | exact allLt_out (And.right (by assumption)) | exact allLt_out (And.right (And.right (by assumption))) | exact fun p hp => allLt_out (And.right (And.right (by assumption))) p (List.mem_append_left _ hp) | exact PySem.W.kst_ltOf (by assumption) | (intro q9 h9; first | exact (by assumption : ∀ p ∈ _, p.1 < _) q9 h9)))
set_option maxRecDepth 100000 in
set_option maxHeartbeats 8000000 in
theorem ip_none1 {w : World} {n : Int} {t1 : Tok} (h : PNone n) : Cl w 42 5 (fun _ => True) [.int n t1] (fun _ => .none) := by
  k_with_none
  dsimp only [Cl, Claim, Ret]
  k_fill
  intro loose mean mg mb news dp un gd cn cs a ccd cl outer A₀ base h₀ L m s Q E hB F X N T hk hH hd hu hret
  refine wpAny_call ?_
  (k_dflt (refine' code_def ?k1 ?k2 ?k3 ?k4 ?k5 ?kA ?kF ?kK ?k6 ?k7 ?k8 ?k9 ?kB ?_ ?c2 ?c3 ?c4 ?c5; (case kA => exact rfl); (case kF => exact rfl); (case kK => assumption); (case k1 => k_asm); (case k2 => k_asm); (case k3 => k_asm); (case k4 => k_asm); (case k5 => k_asm); (case k6 => k_is); (case k7 => k_is); (case k8 => ktr_room); (case k9 => exact binds_K (by k_in) rfl (by k_is) rfl rfl rfl); (case c5 => decide); (case kB => exact locs rfl); (case c2 => exact rfl); (case c3 => exact rfl); (case c4 => exact rfl); k_whole; intro g' L' h' FG' F' N' B' X' T'; (try dsimp only); (try k_lift B'); (try k_fold)))
  k_with "ite" => first | with_reducible refine ite_beq_ne (by assumption) ?_ | with_reducible refine ite_beq_eq (by assumption) ?_ | with_reducible refine ite_bne_eq (by assumption) ?_ | with_reducible refine ite_bne_ne (by assumption) ?_ | with_reducible refine PySem.W.ite_pos (sm_any h) ?_ | with_reducible refine PySem.W.ite_neg (nsm_any h.1) ?_
  k_with "prim_spec 0" => exact pl_lo h.1
  k_with "prim_spec 1" => exact pl_hi h.2.1
  k_with "pyIter ref" => k_search (fun (pre : List Int) => True)
  k_with "state" => trivial
  k_with "ispower_miss 0" => exact pnone_miss h (by assumption) rfl
  k_steps
  all_goals first | (exact absurd (by assumption) (nsm_any h.1)) | (refine ret_val (Q := Q) hret (by rfl) (by k_asm) (by first | k_asm | exact cb_drop (by assumption) (by kcj_all)))
end Mine
namespace Mine
local macro_rules | `(tactic| walk_at "UnrEnd") => `(tactic| (refine unr_end8 (by assumption) (by assumption) (by assumption) ?_))
local macro_rules | `(tactic| k_mem) => `(tactic| first | with_reducible assumption | assumption)
local macro_rules | `(tactic| walk_at "subscriptTail") => `(tactic| (k_here; (with_reducible show wpAny _ _ (subscriptTail _ _ (Value.ref _) (Value.int _ _)) _ _ _); k_extra "item"))
set_option maxRecDepth 100000 in
set_option maxHeartbeats 8000000 in
theorem root8_yes {w : World} {l : Addr} {c : Nat} {e0 e1 e2 e3 r : Int} {a0 a1 a2 a3 t2 : Tok} {b : Bool} (h0 : E8 e0) (h1 : E8 e1) (h2 : E8 e2) (h3 : E8 e3) (hr1 : 1 ≤ r) (hr2 : r ≤ 20) (hy : RY e0 e1 e2 e3 r b) : ClE w 56 1 ((l, listOf [.int e0 a0, .int e1 a1, .int e2 a2, .int e3 a3].toArray c)) [.ref l, .bool b, .int r t2] (fun t => .int (VS e0 e1 e2 e3 r b) t) := by
  k_with_none
  dsimp only [ClE, ClaimE, Ret]
  k_fill
  intro loose mean mg mb news dp un gd cn cs a ccd cl outer A₀ base h₀ L m s Q E hB F X N hm T hk hd hu hret
  refine wpAny_call ?_
  (k_dflt cell_enter)
  have hrn : r ≠ 0 := by omega
  k_with "binaryOp FloorDiv int int" => (refine floordiv_int (r_bd hr1 (by omega)).1 ?_ (Or.inl (noPy (r_bd hr1 (by omega)).2)))
  k_with "binaryOp Mod int int" => first | (refine mod_int' hrn ?_) | (refine mod_int' (by decide) ?_)
  k_with "binaryOp Pow int int" => (refine pow_int (p8_nn (by assumption) hr1) (p8_size (by decide) (by decide) (by assumption) hr1) ?_)
  k_with "binaryOp Mult int int" => (refine mul_int ?_ (p8_mul (by decide) (by decide) (by assumption) hr1))
  k_with "item" => (refine item_mem (by assumption) (by k_mem) (by decide) (by decide) rfl ?_)
  k_steps
  all_goals first | (exact absurd ⟨by assumption, by assumption⟩ hy.1) | (exact absurd hy.2.1 (by assumption)) | (exact absurd hy.2.2.1 (by assumption)) | (exact absurd hy.2.2.2.1 (by assumption)) | (exact absurd hy.2.2.2.2 (by assumption)) | (refine ret_int (Q := Q) hret (by first | exact vs_t (by assumption) | exact vs_f (by assumption) | (subst_vars; exact vs_f (by decide)) | (subst_vars; exact vs_t (by decide))) (by k_asm) (by first | k_asm | exact cb_drop (by assumption) (by kcj_all)))
set_option maxRecDepth 100000 in
set_option maxHeartbeats 8000000 in
theorem root8_no {w : World} {l : Addr} {c : Nat} {e0 e1 e2 e3 r : Int} {a0 a1 a2 a3 t2 : Tok} {b : Bool} (h0 : E8 e0) (h1 : E8 e1) (h2 : E8 e2) (h3 : E8 e3) (hr1 : 1 ≤ r) (hr2 : r ≤ 20) (hy : ¬ RY e0 e1 e2 e3 r b) : ClE w 56 1 ((l, listOf [.int e0 a0, .int e1 a1, .int e2 a2, .int e3 a3].toArray c)) [.ref l, .bool b, .int r t2] (fun _ => .none) := by
  k_with_none
  dsimp only [ClE, ClaimE, Ret]
  k_fill
  intro loose mean mg mb news dp un gd cn cs a ccd cl outer A₀ base h₀ L m s Q E hB F X N hm T hk hd hu hret
  refine wpAny_call ?_
  (k_dflt cell_enter)
  have hrn : r ≠ 0 := by omega
  k_with "binaryOp FloorDiv int int" => (refine floordiv_int (r_bd hr1 (by omega)).1 ?_ (Or.inl (noPy (r_bd hr1 (by omega)).2)))
  k_with "binaryOp Mod int int" => first | (refine mod_int' hrn ?_) | (refine mod_int' (by decide) ?_)
  k_with "binaryOp Pow int int" => (refine pow_int (p8_nn (by assumption) hr1) (p8_size (by decide) (by decide) (by assumption) hr1) ?_)
  k_with "binaryOp Mult int int" => (refine mul_int ?_ (p8_mul (by decide) (by decide) (by assumption) hr1))
  k_with "item" => (refine item_mem (by assumption) (by k_mem) (by decide) (by decide) rfl ?_)
  k_steps
  all_goals first | (exact absurd ⟨fun hw => by first | exact absurd hw.1 (by assumption) | exact absurd hw.2 (by assumption) | exact absurd (hw.1.symm.trans (by assumption)) (by decide), by assumption, by assumption, by assumption, by assumption⟩ hy) | (refine ret_val (Q := Q) hret (by rfl) (by k_asm) (by first | k_asm | exact cb_drop (by assumption) (by kcj_all)))
end Mine
open Mine
local macro_rules | `(tactic| walk_at "call ref") => `(tactic| (k_here; (with_reducible show wpAny _ _ (call (Value.ref 49) [Value.ref _, Value.int _ _]) _ _ _); k_dflt (refine' at_spec ?kp0 ?kp1 ?kp2 ?kp3 ?k1 ?k2 ?k3 ?k4 ?k5 ?kK ?kH ?kd ?ku ?_; (case k1 => k_asm); (case k2 => k_asm); (case k3 => k_asm); (case k4 => k_asm); (case k5 => k_asm); (case kK => first | exact rfl | assumption); (case kH => first | trivial | k_asm); (case kp0 => first | assumption | k_extra "at_spec 0" | omega | l_fit | decide); (case kp1 => first | assumption | k_extra "at_spec 1" | omega | l_fit | decide); (case kp2 => first | assumption | k_extra "at_spec 2" | omega | l_fit | decide); (case kp3 => first | assumption | k_extra "at_spec 3" | omega | l_fit | decide); (case kd => ktr_room); (case ku => ktr_units)); intro t9 h9 tk9 F9 N9; (try dsimp only); (try k_fold)))
local macro_rules | `(tactic| walk_at "InvEndG") => `(tactic| (k_here; k_extra "dend"))
local macro_rules | `(tactic| walk_at "call ref") => `(tactic| (k_here; (with_reducible show wpAny _ _ (call (Value.ref 42) [Value.int _ _, Value.int _ _]) _ _ _); k_extra "split"))
local macro_rules | `(tactic| walk_at "call ref") => `(tactic| (k_here; (with_reducible show wpAny _ _ (call (Value.ref 56) [Value.ref _, Value.bool _, Value.int _ _]) _ _ _); k_extra "split6"))
local macro_rules | `(tactic| walk_at "call ref") => `(tactic| (k_here; (with_reducible show wpAny _ _ (call (Value.ref 42) [Value.int _ _, Value.int _ _]) _ _ _); k_dflt (refine' ispower_miss ?kp0 ?k1 ?k2 ?k3 ?k4 ?k5 ?kK ?kH ?kd ?ku ?_; (case k1 => k_asm); (case k2 => k_asm); (case k3 => k_asm); (case k4 => k_asm); (case k5 => k_asm); (case kK => first | exact rfl | assumption); (case kH => first | trivial | k_asm); (case kp0 => first | assumption | k_extra "ispower_miss 0"); (case kd => ktr_room); (case ku => ktr_units)); intro t9 h9 tk9 F9 N9; (try dsimp only); (try k_fold)))
local macro_rules | `(tactic| walk_at "call ref") => `(tactic| (k_here; (with_reducible show wpAny _ _ (call (Value.ref 42) [Value.int _ _, Value.int _ _]) _ _ _); k_dflt (refine' ispower_hit ?kp0 ?k1 ?k2 ?k3 ?k4 ?k5 ?kK ?kH ?kd ?ku ?_; (case k1 => k_asm); (case k2 => k_asm); (case k3 => k_asm); (case k4 => k_asm); (case k5 => k_asm); (case kK => first | exact rfl | assumption); (case kH => first | trivial | k_asm); (case kp0 => first | assumption | k_extra "ispower_hit 0"); (case kd => ktr_room); (case ku => ktr_units)); intro t9 h9 tk9 F9 N9; (try dsimp only); (try k_fold)))
local macro_rules | `(tactic| walk_at "call ref") => `(tactic| (k_here; (with_reducible show wpAny _ _ (call (Value.ref 56) [Value.ref _, Value.bool _, Value.int _ _]) _ _ _); k_dflt (refine' root8_no ?kp0 ?kp1 ?kp2 ?kp3 ?kp4 ?kp5 ?kp6 ?k1 ?k2 ?k3 ?k4 ?km ?k5 ?kK ?kd ?ku ?_; (case k1 => k_asm); (case k2 => k_asm); (case k3 => k_asm); (case k4 => k_asm); (case km => k_mem); (case k5 => k_asm); (case kK => first | exact rfl | assumption); (case kp0 => first | assumption | k_extra "root8_no 0"); (case kp1 => first | assumption | k_extra "root8_no 1"); (case kp2 => first | assumption | k_extra "root8_no 2"); (case kp3 => first | assumption | k_extra "root8_no 3"); (case kp4 => first | assumption | k_extra "root8_no 4"); (case kp5 => first | assumption | k_extra "root8_no 5"); (case kp6 => first | assumption | k_extra "root8_no 6"); (case kd => ktr_room); (case ku => ktr_units)); intro t9 h9 tk9 F9 N9; (try dsimp only); (try k_fold)))
local macro_rules | `(tactic| walk_at "call ref") => `(tactic| (k_here; (with_reducible show wpAny _ _ (call (Value.ref 56) [Value.ref _, Value.bool _, Value.int _ _]) _ _ _); k_dflt (refine' root8_yes ?kp0 ?kp1 ?kp2 ?kp3 ?kp4 ?kp5 ?kp6 ?k1 ?k2 ?k3 ?k4 ?km ?k5 ?kK ?kd ?ku ?_; (case k1 => k_asm); (case k2 => k_asm); (case k3 => k_asm); (case k4 => k_asm); (case km => k_mem); (case k5 => k_asm); (case kK => first | exact rfl | assumption); (case kp0 => first | assumption | k_extra "root8_yes 0"); (case kp1 => first | assumption | k_extra "root8_yes 1"); (case kp2 => first | assumption | k_extra "root8_yes 2"); (case kp3 => first | assumption | k_extra "root8_yes 3"); (case kp4 => first | assumption | k_extra "root8_yes 4"); (case kp5 => first | assumption | k_extra "root8_yes 5"); (case kp6 => first | assumption | k_extra "root8_yes 6"); (case kd => ktr_room); (case ku => ktr_units)); intro t9 h9 tk9 F9 N9; (try dsimp only); (try k_fold)))
local macro_rules | `(tactic| walk_at "call ref") => `(tactic| (k_here; (with_reducible show wpAny _ _ (call (Value.ref 42) [Value.int _ _]) _ _ _); k_dflt (refine' ip_small1 ?kp0 ?k1 ?k2 ?k3 ?k4 ?k5 ?kK ?kH ?kd ?ku ?_; (case k1 => k_asm); (case k2 => k_asm); (case k3 => k_asm); (case k4 => k_asm); (case k5 => k_asm); (case kK => first | exact rfl | assumption); (case kH => first | trivial | k_asm); (case kp0 => first | assumption | k_extra "ip_small1 0"); (case kd => ktr_room); (case ku => ktr_units)); intro D9 t9 u9 c9 h9 tk9 F9 N9 l9; (try k_lt l9); (try dsimp only); (try k_fold)))
local macro_rules | `(tactic| walk_at "call ref") => `(tactic| (k_here; (with_reducible show wpAny _ _ (call (Value.ref 42) [Value.int _ _]) _ _ _); k_dflt (refine' ip_hit1 ?kp0 ?k1 ?k2 ?k3 ?k4 ?k5 ?kK ?kH ?kd ?ku ?_; (case k1 => k_asm); (case k2 => k_asm); (case k3 => k_asm); (case k4 => k_asm); (case k5 => k_asm); (case kK => first | exact rfl | assumption); (case kH => first | trivial | k_asm); (case kp0 => first | assumption | k_extra "ip_hit1 0"); (case kd => ktr_room); (case ku => ktr_units)); intro D9 t9 u9 c9 h9 tk9 F9 N9 l9; (try k_lt l9); (try dsimp only); (try k_fold)))
local macro_rules | `(tactic| walk_at "call ref") => `(tactic| (k_here; (with_reducible show wpAny _ _ (call (Value.ref 42) [Value.int _ _]) _ _ _); k_dflt (refine' ip_none1 ?kp0 ?k1 ?k2 ?k3 ?k4 ?k5 ?kK ?kH ?kd ?ku ?_; (case k1 => k_asm); (case k2 => k_asm); (case k3 => k_asm); (case k4 => k_asm); (case k5 => k_asm); (case kK => first | exact rfl | assumption); (case kH => first | trivial | k_asm); (case kp0 => first | assumption | k_extra "ip_none1 0"); (case kd => ktr_room); (case ku => ktr_units)); intro t9 h9 tk9 F9 N9; (try dsimp only); (try k_fold)))
set_option maxRecDepth 100000 in
set_option maxHeartbeats 8000000 in
theorem PySem.Challenge.cw_yt0004_08_holds : PySem.Challenge.rw_yt0004_08.Holds := by
  refine hd08 ?_
  k_with_none
  k_with "ite" => first | with_reducible refine ite_bne ?_ | with_reducible refine ite_beq ?_
  k_with "storeName bool" => ((with_reducible show wpAny _ _ (storeName _ (Str.ofString "below") _) _ _ _); (fail_if_success (with_reducible rename BMark _ => h9)); refine store_bool ?_; intro b8 hb8)
  k_with "split6" => first
    | ((rename IntsAre _ (List.map _ _) => hI8); (obtain ⟨e0, e1, e2, e3, a0, a1, a2, a3, heq8, hys8, he0, he1, he2, he3⟩ := four _ hI8 (fun k => g8_ok _ _)); subst hys8; rw [heq8] at hI8; clear heq8)
    | ((refine split_p (RY e0 e1 e2 e3 k8 b8) ?_ ?_) <;> intro h9y)
  k_with "split" => ((refine split_p (RY e0 e1 e2 e3 kN b8) ?_ ?_) <;> intro h9y)
  k_with "root8_yes 4" => first | decide | omega
  k_with "root8_yes 5" => first | decide | omega
  k_with "root8_yes 6" => exact ry_one
  k_with "root8_no 4" => first | decide | omega
  k_with "root8_no 5" => first | decide | omega
  k_with "ispower_hit 0" => exact hit8 (by assumption) (by assumption) (by assumption) (by assumption) (by omega) (by omega) (by assumption)
  k_with "ispower_miss 0" => exact miss8 (by assumption) (by assumption) (by assumption) (by assumption) (by omega) (by omega) (by assumption)
  k_with "state" => trivial
  k_with "dend" => first
    | (exact due_new none (by assumption) (by assumption) off8 (by first | with_reducible assumption | exact allLt_out (And.right (by assumption)) | exact allLt_out (And.right (And.right (by assumption))) | exact allLt_out (And.right (And.right (And.right (by assumption)))) | exact allLt_out (And.right (And.right (And.right (And.right (by assumption))))) | exact allLt_out (And.right (And.right (And.right (And.right (And.right (by assumption)))))) | exact allLt_out (And.right (And.right (And.right (And.right (And.right (And.right (by assumption))))))) | exact allLt_out (And.right (And.right (And.right (And.right (And.right (And.right (And.right (by assumption)))))))) | exact allLt_out (And.right (And.right (And.right (And.right (And.right (And.right (And.right (And.right (by assumption)))))))))) (by with_unfolding_all rfl) (by intro z h1 h2 h3; first | rfl | (simp only [h1, h2, h3, if_false, ↓reduceIte]; done) | (simp [h1, h2, h3]; done)) (pd_yes hk8 (by assumption)))
    | (exact due_keep none (by assumption) (by assumption) off8 (by with_unfolding_all rfl) (by intro z h1 h2 h3; first | rfl | (simp only [h1, h2, h3, if_false, ↓reduceIte]; done) | (simp [h1, h2, h3]; done)) (pd_no hk8 hp8 (by assumption)))
    | (exact due_new (some (D8, v8, r8, x8, y8, n8)) (by assumption) (by assumption) off8 (by first | with_reducible assumption | exact allLt_out (And.right (by assumption)) | exact allLt_out (And.right (And.right (by assumption))) | exact allLt_out (And.right (And.right (And.right (by assumption)))) | exact allLt_out (And.right (And.right (And.right (And.right (by assumption))))) | exact allLt_out (And.right (And.right (And.right (And.right (And.right (by assumption)))))) | exact allLt_out (And.right (And.right (And.right (And.right (And.right (And.right (by assumption))))))) | exact allLt_out (And.right (And.right (And.right (And.right (And.right (And.right (And.right (by assumption)))))))) | exact allLt_out (And.right (And.right (And.right (And.right (And.right (And.right (And.right (And.right (by assumption)))))))))) (by with_unfolding_all rfl) (by intro z h1 h2 h3; first | rfl | (simp only [h1, h2, h3, if_false, ↓reduceIte]; done) | (simp [h1, h2, h3]; done)) (pd_yes hk8 (by assumption)))
    | (exact due_keep (some (D8, v8, r8, x8, y8, n8)) (by assumption) (by assumption) off8 (by with_unfolding_all rfl) (by intro z h1 h2 h3; first | rfl | (simp only [h1, h2, h3, if_false, ↓reduceIte]; done) | (simp [h1, h2, h3]; done)) (pd_no hk8 hp8 (by assumption)))
  k_with "ip_small1 0" => exact sm8 (by assumption)
  k_with "ip_none1 0" => exact pd_none (by assumption) (by assumption) (by assumption) (by assumption) (nz8 (by assumption)) (by assumption)
  k_with "ip_hit1 0" => exact pd_some (by assumption) (by assumption) (by assumption) (by assumption) (nz8 (by assumption)) (by assumption)
  k_with "pyIter ref" => first
    | k_search (fun (pre : List Int) => True)
    | ((refine' due_loop (a₀ := 20) (b₀ := 1) (n := 19) (Str.ofString "root") (Str.ofString "due") (PD e0 e1 e2 e3 b8) ?dl1 ?dl2 ?dl3 ?dl4 ?dl5 ?dl6 ?dl7 ?dl8 ?_ ?_); (case dl1 => rfl); (case dl2 => assumption); (case dl3 => decide); (case dl4 => rfl); (case dl5 => assumption); (case dl6 => assumption); (case dl7 => rfl); (case dl8 => exact pd_start); (focus (intro c8 i8 k8 t8 u8 h8 tk8 own8 hk8 hi8 hp8 off8 F8 N8)); rotate_left; (focus (intro c8 u8 h8 tk8 hp8 F8 N8)); rotate_right; (all_goals ((rcases c8 with _ | ⟨D8, v8, r8, x8, y8, n8⟩) <;> (simp only [dueV, dueL, dueR, List.nil_append, List.cons_append] at *))); (all_goals (try k_fold)))
  w_strict (
    k_go0
    all_goals try k_fold
    repeat' (first | (k_unfold; (try dsimp only)) | (k_end; refine' Mine.good_true ?gF ?gg ?go; (case go => rfl); (case gg => k_asm); (case gF => k_asm)) | (k_end; k_extra "my end") | (k_end; wrow_close) | walk1 | (dsimp only; walk1) | (leave1; walk_say "STEP leave1"; try dsimp only) | fail "no step"))
