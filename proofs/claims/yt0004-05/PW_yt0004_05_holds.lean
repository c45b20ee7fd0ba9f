import PyProof.Rows.All
import Wide.All
import OpenK.AllK
import Wide.FinOn
import PySem.Challenge.RW_yt0004_05
open PySem PySem.W PyProof.Rows PySem.Calls PySem.Spec
set_option Elab.async false
set_option rowWalk.seconds 0
set_option maxRecDepth 100000
namespace Mine
abbrev Ret (h₀ : Heap) (L : Addr) (m : Str → Option Value) (news : List (Addr × Obj)) (s : Shared) (Q : Value → Shared → Prop) (R : Tok → Value) : Prop :=
  ∀ (t : Tok) (h' : Heap) (tk' : Nat), Fr h₀ L h' m → News h₀ L h' news → Q (R t) { s with heap := h', toks := tk' }
/-- what a call of f at the values vs gives back, at whatever caller -/
abbrev Claim (prog : Program) (w : World) (K : Frag) (p : Program) (f : Addr) (d : Nat) (H : Heap → Prop) (vs : List Value) (R : Tok → Value) : Prop :=
  ∀ {loose : List Str} {mean : ExcName → Option Value} {mg mb : Str → Option Value} {news : List (Addr × Obj)} {dp un : Nat} {gd : Option (List Code)} {cn : Str} {cs : Scope} {a : Addr} {ccd : Value} {cl : List (Str × Addr)} {outer : List Env} {A₀ : Around} {base h₀ : Heap} {L : Addr} {m : Str → Option Value} {s : Shared} {Q E : Value → Shared → Prop},
    Below A₀ base outer h₀ → Fr h₀ L s.heap m → K.In h₀ → News h₀ L s.heap news → Top p loose mean mg mb h₀ → cs.kind = .function →
    H base → dp + d < recursionLimit → un + 8 * d < cLine → Ret h₀ L m news s Q R →
      wpAny (model prog w) (ktrTop dp un gd cn cs L a ccd cl outer) (call (.ref f) vs) Q E s
theorem ret_int {h₀ h' : Heap} {L : Addr} {m : Str → Option Value} {news : List (Addr × Obj)} {s : Shared} {Q : Value → Shared → Prop} {t : Tok} {tk' : Nat} {x y : Int} (hret : ∀ (t : Tok) (h' : Heap) (tk' : Nat), Fr h₀ L h' m → News h₀ L h' news → Q (.int x t) { s with heap := h', toks := tk' }) (e : y = x) (F : Fr h₀ L h' m) (N : News h₀ L h' news) : Q (.int y t) { s with heap := h', toks := tk' } := by
  subst e
  exact hret t h' tk' F N
theorem ret_bool {h₀ h' : Heap} {L : Addr} {m : Str → Option Value} {news : List (Addr × Obj)} {s : Shared} {Q : Value → Shared → Prop} {tk' : Nat} {x y : Bool} (hret : ∀ (_t : Tok) (h' : Heap) (tk' : Nat), Fr h₀ L h' m → News h₀ L h' news → Q (.bool x) { s with heap := h', toks := tk' }) (e : y = x) (F : Fr h₀ L h' m) (N : News h₀ L h' news) : Q (.bool y) { s with heap := h', toks := tk' } := by
  subst e
  exact hret 0 h' tk' F N
end Mine
namespace Mine
theorem ret_val {h₀ h' : Heap} {L : Addr} {m : Str → Option Value} {news : List (Addr × Obj)} {s : Shared} {Q : Value → Shared → Prop} {tk' : Nat} {x y : Value} (hret : ∀ (_t : Tok) (h' : Heap) (tk' : Nat), Fr h₀ L h' m → News h₀ L h' news → Q x { s with heap := h', toks := tk' }) (e : y = x) (F : Fr h₀ L h' m) (N : News h₀ L h' news) : Q y { s with heap := h', toks := tk' } := by
  subst e
  exact hret 0 h' tk' F N
end Mine
namespace Mine
theorem good_true {l : OpenLaw} {cl : Str → Option Addr} {mean : ExcName → Option Value} {args : List WData} {s₁ s' : Shared} {L : Addr} {m : Str → Option Value} (F : Fr s₁.heap L s'.heap m) (hg : s'.gens = #[]) (hos : s'.os = s₁.os) :
    GoodW l.row.claim cl mean args s₁ (.ok (.ret (.bool true))) s' :=
  goodW_bool F hg (raisesW_false (fun _ h => nomatch h)) (postW_of rfl (w_eq_bool rfl rfl) rfl) hos
end Mine
namespace Mine
theorem ite_bne {x : Int} {A B : Prop} (h : B) : if (x != x) = true then A else B := by
  rw [if_neg (by simp)]; exact h
theorem ite_beq {x : Int} {A B : Prop} (h : A) : if (x == x) = true then A else B := by
  rw [if_pos (by simp)]; exact h
end Mine
namespace Mine
/-- a local's int, forgotten but for what P says of it -/
theorem store_some {M : Model} {A : Around} {env : Env} {y : Str} {tk : Tok} {Q : Unit → Shared → Prop} {E : Value → Shared → Prop} {s : Shared} {x : Int} (P : Int → Prop) (hx : P x) (h : ∀ z, P z → wpAny M A (storeName env y (.int z tk)) Q E s) : wpAny M A (storeName env y (.int x tk)) Q E s := h x hx
end Mine
namespace Mine
theorem ite_beq_ne {x y : Int} {A B : Prop} (hne : x ≠ y) (h : B) : if (x == y) = true then A else B := by
  rw [if_neg (by simpa using hne)]; exact h
theorem ite_beq_eq {x y : Int} {A B : Prop} (he : x = y) (h : A) : if (x == y) = true then A else B := by
  rw [if_pos (by simpa using he)]; exact h
theorem ite_bne_ne {x y : Int} {A B : Prop} (hne : x ≠ y) (h : A) : if (x != y) = true then A else B := by
  rw [if_pos (by simpa using hne)]; exact h
theorem ite_bne_eq {x y : Int} {A B : Prop} (he : x = y) (h : B) : if (x != y) = true then A else B := by
  rw [if_neg (by simpa using he)]; exact h
end Mine
namespace Mine
theorem good_self {l : OpenLaw} {cl : Str → Option Addr} {mean : ExcName → Option Value} {args : List WData} {s₁ s' : Shared} {L : Addr} {m : Str → Option Value} {x : Int} (F : Fr s₁.heap L s'.heap m) (hg : s'.gens = #[]) (hos : s'.os = s₁.os) :
    GoodW l.row.claim cl mean args s₁ (.ok (.ret (.bool (x == x)))) s' := by
  rw [beq_self_eq_true]; exact good_true F hg hos
end Mine
namespace Mine
/-- a test's ways meet again: its answer is b, and all else is as it was -/
theorem join {α : Type} {M : Model} {A : Around} {E : Value → Shared → Prop} {s : Shared} {h₀ : Heap} {L : Addr} {m : Str → Option Value} {news : List (Addr × Obj)} {t : Sem α} {Q : α → Shared → Prop} (b : α) (_F : Fr h₀ L s.heap m) (_N : News h₀ L s.heap news)
    (h1 : wpAny M A t (fun b' s' => b' = b ∧ ∃ h' tk', s' = { s with heap := h', toks := tk' } ∧ Fr h₀ L h' m ∧ News h₀ L h' news) E s) (h2 : ∀ h' tk', Fr h₀ L h' m → News h₀ L h' news → Q b { s with heap := h', toks := tk' }) : wpAny M A t Q E s :=
  wpAny_mono h1 (fun b' s' x => by
    obtain ⟨e, h', tk', es, F, N⟩ := x
    subst e
    subst es
    exact h2 h' tk' F N) (fun _ _ x => x)
end Mine
namespace Mine
theorem news_head {h₀ h : Heap} {L : Addr} {p : Addr × Obj} {r : List (Addr × Obj)} (N : News h₀ L h (p :: r)) : News h₀ L h [p] := fun q hq => N q (by
  rcases List.mem_cons.mp hq with e | e
  · rw [e]; exact List.Mem.head _
  · exact nomatch e)
end Mine
namespace Mine
/-! sizes of ints -/
theorem bits_le {x : Int} {n : Nat} (h : x.natAbs < 2 ^ n) : PySem.Builtin.Int.intBits x ≤ n := by
  unfold PySem.Builtin.Int.intBits
  split
  · exact Nat.zero_le _
  · rename_i hx
    have hx' : x.natAbs ≠ 0 := by
      intro e
      apply hx
      have : x = 0 := Int.natAbs_eq_zero.mp e
      rw [this]; rfl
    have := (Nat.log2_lt hx').mpr h
    omega
theorem bits_lt {x : Int} : x.natAbs < 2 ^ PySem.Builtin.Int.intBits x := by
  unfold PySem.Builtin.Int.intBits
  split
  · rename_i h
    have : x = 0 := by simpa using h
    rw [this]; decide
  · exact Nat.lt_log2_self
theorem bits_ge {x : Int} (h : x ≠ 0) : 2 ^ (PySem.Builtin.Int.intBits x - 1) ≤ x.natAbs := by
  unfold PySem.Builtin.Int.intBits
  split
  · rename_i h'
    exact absurd (by simpa using h') h
  · rw [Nat.add_sub_cancel]
    exact Nat.log2_self_le (by omega)
theorem log2_lt' {x : Int} {n : Nat} (hn : 0 < n) (h : x.natAbs < 2 ^ n) : x.natAbs.log2 < n := by
  rcases Nat.eq_zero_or_pos x.natAbs with h0 | hp
  · rw [h0]; simpa using hn
  · exact (Nat.log2_lt (Nat.ne_of_gt hp)).mpr h
theorem noPy {a b : Int} (h : b.natAbs < 2 ^ 2000) : PySem.Builtin.divisionGoesByPylong a b = false :=
  PyProof.noPylong_of_log2 (Nat.lt_of_lt_of_le (log2_lt' (by decide) h) (by decide))
theorem pow2_mono {a b : Nat} (h : a ≤ b) : 2 ^ a ≤ 2 ^ b := Nat.pow_le_pow_right (by decide) h
/-! the whole root -/
def rootN (r : Nat) : Nat → Nat
  | 0 => 0
  | n + 1 => if (rootN r n + 1) ^ r ≤ n + 1 then rootN r n + 1 else rootN r n
theorem rootN_facts {r : Nat} (hr : 1 ≤ r) : ∀ n, (rootN r n) ^ r ≤ n ∧ n < (rootN r n + 1) ^ r
  | 0 => by
    refine ⟨?_, ?_⟩
    · show 0 ^ r ≤ 0
      rw [Nat.zero_pow (by omega)]; exact Nat.le_refl _
    · show 0 < (0 + 1) ^ r
      rw [Nat.zero_add, Nat.one_pow]; decide
  | n + 1 => by
    have ih := rootN_facts hr n
    unfold rootN
    split
    · rename_i h
      refine ⟨h, ?_⟩
      have : (rootN r n + 1) ^ r < (rootN r n + 1 + 1) ^ r := Nat.pow_lt_pow_left (by omega) (by omega)
      omega
    · exact ⟨by omega, by omega⟩
theorem rootN_eq {r n t : Nat} (hr : 1 ≤ r) (h1 : t ^ r ≤ n) (h2 : n < (t + 1) ^ r) : rootN r n = t := by
  have h := rootN_facts hr n
  rcases Nat.lt_trichotomy (rootN r n) t with hlt | heq | hgt
  · have : (rootN r n + 1) ^ r ≤ t ^ r := Nat.pow_le_pow_left (by omega) r
    omega
  · exact heq
  · have : (t + 1) ^ r ≤ (rootN r n) ^ r := Nat.pow_le_pow_left (by omega) r
    omega
/-- the whole root of n ≥ 0 -/
def rootF (r n : Int) : Int := (rootN r.toNat n.toNat : Nat)
theorem rootF_nonneg (r n : Int) : 0 ≤ rootF r n := Int.natCast_nonneg _
theorem rootF_facts {r n : Int} (hr : 1 ≤ r) (hn : 0 ≤ n) : (rootF r n) ^ r.toNat ≤ n ∧ n < (rootF r n + 1) ^ r.toNat := by
  have h := rootN_facts (r := r.toNat) (by omega) n.toNat
  have e : (n.toNat : Int) = n := Int.toNat_of_nonneg hn
  refine ⟨?_, ?_⟩
  · have h1 : (((rootN r.toNat n.toNat) ^ r.toNat : Nat) : Int) ≤ (n.toNat : Int) := by exact_mod_cast h.1
    rw [e] at h1
    simpa [rootF] using h1
  · have h1 : (n.toNat : Int) < (((rootN r.toNat n.toNat + 1) ^ r.toNat : Nat) : Int) := by exact_mod_cast h.2
    rw [e] at h1
    simpa [rootF] using h1
theorem rootF_eq {r n t : Int} (hr : 1 ≤ r) (ht : 0 ≤ t) (h1 : t ^ r.toNat ≤ n) (h2 : n < (t + 1) ^ r.toNat) : rootF r n = t := by
  have hn : 0 ≤ n := Int.le_trans (Int.pow_nonneg ht) h1
  have e : (t.toNat : Int) = t := Int.toNat_of_nonneg ht
  have e2 : (n.toNat : Int) = n := Int.toNat_of_nonneg hn
  unfold rootF
  rw [rootN_eq (t := t.toNat) (by omega)]
  · exact e
  · have : ((t.toNat ^ r.toNat : Nat) : Int) ≤ (n.toNat : Int) := by
      rw [Int.natCast_pow, e, e2]; exact h1
    exact_mod_cast this
  · have : (n.toNat : Int) < (((t.toNat + 1) ^ r.toNat : Nat) : Int) := by
      rw [Int.natCast_pow, e2]
      rw [Int.natCast_add, e]; exact h2
    exact_mod_cast this
theorem rootF_one {n : Int} (hn : 0 ≤ n) : rootF 1 n = n := rootF_eq (by decide) hn (by show n ^ 1 ≤ n; rw [Int.pow_succ, Int.pow_zero]; omega) (by show n < (n + 1) ^ 1; rw [Int.pow_succ, Int.pow_zero]; omega)
theorem rootF_small {r n : Int} (hr : 1 ≤ r) (hn : 0 ≤ n) (h2 : n < 2) : rootF r n = n := by
  rcases (by omega : n = 0 ∨ n = 1) with rfl | rfl
  · refine rootF_eq hr (by decide) ?_ ?_
    · rw [Int.zero_pow (by omega)]; decide
    · rw [Int.zero_add, Int.one_pow]; decide
  · refine rootF_eq hr (by decide) ?_ ?_
    · rw [Int.one_pow]; decide
    · have h := Int.pow_pos (n := (2 : Int)) (m := r.toNat - 1) (by decide)
      have e : (2 : Int) ^ r.toNat = 2 ^ (r.toNat - 1) * 2 := by
        have := Int.pow_succ (2 : Int) (r.toNat - 1)
        rw [← this]; exact congrArg (fun k => (2 : Int) ^ k) (by omega)
      show (1 : Int) < 2 ^ r.toNat
      omega
/-! Newton's step for the square root -/
def newt (n x : Int) : Int := (x + n.fdiv x).fdiv 2
theorem sq_pos (a : Int) : 0 ≤ a * a := by
  rcases Int.le_total 0 a with h | h
  · exact Int.mul_nonneg h h
  · exact Int.mul_nonneg_of_nonpos_of_nonpos h h
/-- s is the whole root of n -/
def Sq (n s : Int) : Prop := 0 ≤ s ∧ s * s ≤ n ∧ n < (s + 1) * (s + 1)
theorem newt_ge {n x s : Int} (h : Sq n s) (hx : 0 < x) : s ≤ newt n x := by
  have hn : 0 ≤ n := Int.le_trans (sq_pos s) h.2.1
  unfold newt
  have e1 : n.fdiv x = n / x := Int.fdiv_eq_ediv_of_nonneg _ (by omega)
  have e2 : (x + n.fdiv x).fdiv 2 = (x + n.fdiv x) / 2 := Int.fdiv_eq_ediv_of_nonneg _ (by decide)
  rw [e2, e1]
  -- 2 s ≤ x + n / x, as x (2 s - x) ≤ s * s ≤ n
  have k : x * (2 * s - x) ≤ s * s := by
    have h0 := sq_pos (s - x)
    rw [Int.sub_mul, Int.mul_sub, Int.mul_sub] at h0
    rw [Int.mul_sub, Int.mul_comm 2 s, ← Int.mul_assoc]
    have : x * s * 2 = x * s + x * s := by omega
    have c : s * x = x * s := Int.mul_comm s x
    omega
  have k2 : 2 * s - x ≤ n / x := (Int.le_ediv_iff_mul_le hx).mpr (by rw [Int.mul_comm]; have := h.2.1; omega)
  omega
theorem newt_lt {n x s : Int} (h : Sq n s) (hx : s < x) : newt n x < x := by
  have e1 : n.fdiv x = n / x := Int.fdiv_eq_ediv_of_nonneg _ (by have := h.1; omega)
  have e2 : (x + n.fdiv x).fdiv 2 = (x + n.fdiv x) / 2 := Int.fdiv_eq_ediv_of_nonneg _ (by decide)
  unfold newt
  rw [e2, e1]
  have h1 : n < x * x := by
    have : (s + 1) * (s + 1) ≤ x * x := Int.mul_le_mul (by omega) (by omega) (by have := h.1; omega) (by have := h.1; omega)
    have := h.2.2
    omega
  have h2 : n / x < x := (Int.ediv_lt_iff_lt_mul (by have := h.1; omega)).mpr h1
  omega
theorem Sq.root {n s : Int} (h : Sq n s) : rootF 2 n = s := by
  refine rootF_eq (by decide) h.1 ?_ ?_
  · show s ^ 2 ≤ n
    rw [Int.pow_succ, Int.pow_succ, Int.pow_zero, Int.one_mul]; exact h.2.1
  · show n < (s + 1) ^ 2
    rw [Int.pow_succ, Int.pow_succ, Int.pow_zero, Int.one_mul]; exact h.2.2
theorem sq_root {n : Int} (hn : 0 ≤ n) : Sq n (rootF 2 n) := by
  have h := rootF_facts (r := 2) (by decide) hn
  refine ⟨rootF_nonneg _ _, ?_, ?_⟩
  · have := h.1
    rw [show Int.toNat 2 = 2 from rfl, Int.pow_succ, Int.pow_succ, Int.pow_zero, Int.one_mul] at this
    exact this
  · have := h.2
    rw [show Int.toNat 2 = 2 from rfl, Int.pow_succ, Int.pow_succ, Int.pow_zero, Int.one_mul] at this
    exact this
/-- the root is no greater than the number -/
theorem rootF_le {r n : Int} (hr : 1 ≤ r) (hn : 0 ≤ n) : rootF r n ≤ n := by
  have h := (rootF_facts hr hn).1
  have h0 := rootF_nonneg r n
  rcases (by omega : rootF r n = 0 ∨ 1 ≤ rootF r n) with e | e
  · omega
  · have : (rootF r n) ^ 1 ≤ (rootF r n) ^ r.toNat := by
      have hN : (rootN r.toNat n.toNat) ^ 1 ≤ (rootN r.toNat n.toNat) ^ r.toNat := Nat.pow_le_pow_right (by unfold rootF at e; omega) (by omega)
      unfold rootF
      exact_mod_cast hN
    rw [Int.pow_succ, Int.pow_zero, Int.one_mul] at this
    omega
end Mine
namespace Mine
abbrev cF (n : Int) : Int := (n * 4).fdiv 3
abbrev aF (n : Int) : Int := (↑(PySem.Builtin.Int.intBits (cF n)) : Int).fdiv (2 ^ Int.toNat 1)
abbrev xO (n : Int) : Int := (1 : Int) * 2 ^ (aF n).toNat
abbrev xE (n : Int) : Int := ((3 : Int) * 2 ^ (aF n).toNat).fdiv (2 ^ Int.toNat 2)
theorem two1 : ((2 : Int) ^ Int.toNat 1) = 2 := by decide
theorem two2 : ((2 : Int) ^ Int.toNat 2) = 4 := by decide
theorem newt_form (n y : Int) : (y + n.fdiv y).fdiv (2 ^ Int.toNat 1) = newt n y := by rw [two1]; rfl
theorem cF_facts {n : Int} (hn : 0 ≤ n) : 0 ≤ cF n ∧ 3 * cF n ≤ 4 * n ∧ 4 * n < 3 * cF n + 3 := by
  have := fdiv_fmod_facts (n * 4) 3
  have h2 := this.2.2.1 (by decide)
  have h1 := this.1
  unfold cF
  omega
theorem aF_facts (n : Int) : 0 ≤ aF n ∧ 2 * aF n ≤ (PySem.Builtin.Int.intBits (cF n) : Int) ∧ (PySem.Builtin.Int.intBits (cF n) : Int) ≤ 2 * aF n + 1 := by
  have := fdiv_fmod_facts (PySem.Builtin.Int.intBits (cF n) : Int) (2 ^ Int.toNat 1)
  unfold aF
  rw [two1] at *
  have h2 := this.2.2.1 (by decide)
  omega
theorem cF_bits {n : Int} (hn : 0 ≤ n) (hb : n.natAbs < 2 ^ 1900) : PySem.Builtin.Int.intBits (cF n) ≤ 1901 := by
  refine bits_le ?_
  have h := cF_facts hn
  have e : 2 ^ 1901 = 2 ^ 1900 * 2 := by rw [show 1901 = 1900 + 1 from rfl, Nat.pow_succ]
  generalize 2 ^ 1901 = B at *
  generalize 2 ^ 1900 = C at *
  omega
theorem aF_le {n : Int} (hn : 0 ≤ n) (hb : n.natAbs < 2 ^ 1900) : aF n ≤ 950 := by
  have h1 := cF_bits hn hb
  have h2 := aF_facts n
  omega
theorem shl1_ok {n : Int} (hn : 0 ≤ n) (hb : n.natAbs < 2 ^ 1900) : (PySem.Builtin.Int.intBits 1 : Int) + aF n ≤ 2 ^ 27 := by
  have := aF_le hn hb
  have e : PySem.Builtin.Int.intBits 1 = 1 := by decide
  rw [e]; omega
theorem shl3_ok {n : Int} (hn : 0 ≤ n) (hb : n.natAbs < 2 ^ 1900) : (PySem.Builtin.Int.intBits 3 : Int) + aF n ≤ 2 ^ 27 := by
  have := aF_le hn hb
  have e : PySem.Builtin.Int.intBits 3 = 2 := by decide
  rw [e]; omega
theorem bitAnd1 (k : Nat) : PySem.Builtin.bitAnd (k : Int) 1 = ((k % 2 : Nat) : Int) := by
  unfold PySem.Builtin.bitAnd
  rw [decide_eq_true (Int.natCast_nonneg k), decide_eq_true (by decide : (0 : Int) ≤ 1)]
  show ((((k : Int).toNat &&& (1 : Int).toNat : Nat)) : Int) = _
  rw [Int.toNat_natCast]
  show ((k &&& 1 : Nat) : Int) = _
  rw [Nat.and_one_is_mod]
theorem p2_pos (k : Nat) : (0 : Int) < 2 ^ k := Int.pow_pos (by decide)
/-- the two starting values, and the loop's word -/
def IsqGood (n x y : Int) : Prop := (x = y ∧ x = rootF 2 n) ∨ (1 ≤ n ∧ 0 < x ∧ x.natAbs < 2 ^ 1900 ∧ y = newt n x)
theorem root_ge1 {n : Int} (hn : 1 ≤ n) : 1 ≤ rootF 2 n := by
  have h := sq_root (n := n) (by omega)
  rcases (by have := h.1; omega : rootF 2 n = 0 ∨ 1 ≤ rootF 2 n) with e | e
  · have := h.2.2; rw [e] at this; omega
  · exact e
theorem p2_bd {k : Nat} (hk : k ≤ 951) : ((2 : Int) ^ k).natAbs < 2 ^ 1900 := by
  rw [Int.natAbs_pow]
  exact Nat.pow_lt_pow_right (by decide) (by omega)
theorem isq_odd {n : Int} (hn : 0 ≤ n) (hb : n.natAbs < 2 ^ 1900) (ho : PySem.Builtin.bitAnd (↑(PySem.Builtin.Int.intBits ((n * 4).fdiv 3))) 1 ≠ 0) :
    IsqGood n (xO n) ((xO n + n.fdiv (2 ^ (aF n).toNat)).fdiv (2 ^ Int.toNat 1)) := by
  right
  rw [bitAnd1] at ho
  have ha := aF_facts n
  have hc := cF_facts hn
  have hal := aF_le hn hb
  have hn1 : 1 ≤ n := by
    rcases (by omega : n = 0 ∨ 1 ≤ n) with e | e
    · exfalso; apply ho; rw [e]; rfl
    · exact e
  refine ⟨hn1, ?_, ?_, ?_⟩
  · unfold xO; rw [Int.one_mul]; exact p2_pos _
  · unfold xO; rw [Int.one_mul]; exact p2_bd (by omega)
  · rw [← newt_form]; unfold xO; rw [Int.one_mul]
theorem fdiv_fdiv (a b c : Int) (hb : 0 < b) (hc : 0 < c) : (a.fdiv b).fdiv c = a.fdiv (b * c) := by
  have hbc : 0 < b * c := Int.mul_pos hb hc
  rw [Int.fdiv_eq_ediv_of_nonneg _ (by omega), Int.fdiv_eq_ediv_of_nonneg _ (by omega), Int.fdiv_eq_ediv_of_nonneg _ (by omega)]
  rw [Int.ediv_ediv, if_neg (by omega)]; omega
theorem isq_even {n : Int} (hn : 0 ≤ n) (hb : n.natAbs < 2 ^ 1900) (ho : PySem.Builtin.bitAnd (↑(PySem.Builtin.Int.intBits ((n * 4).fdiv 3))) 1 = 0) :
    IsqGood n (xE n) ((xE n + ((n * 4).fdiv 3).fdiv (2 ^ (aF n).toNat)).fdiv (2 ^ Int.toNat 1)) := by
  rw [bitAnd1] at ho
  have ha := aF_facts n
  have hc := cF_facts hn
  have hal := aF_le hn hb
  have hb1 := bits_lt (x := cF n)
  rcases (by omega : aF n = 0 ∨ aF n = 1 ∨ 2 ≤ aF n) with e | e | e
  · -- d = 0
    have hd : PySem.Builtin.Int.intBits (cF n) = 0 := by unfold cF at *; omega
    rw [hd] at hb1
    have hc0 : cF n = 0 := by omega
    have hn0 : n = 0 := by omega
    left
    rw [hn0]
    have hr : rootF 2 0 = 0 := rootF_small (by decide) (by decide) (by decide)
    refine ⟨?_, ?_⟩
    · decide +kernel
    · rw [hr]; decide +kernel
  · have hd : PySem.Builtin.Int.intBits (cF n) = 2 := by unfold cF at *; omega
    have hb2 := bits_ge (x := cF n) (by intro e0; rw [e0] at hd; exact absurd hd (by decide))
    rw [hd] at hb1 hb2
    have hn2 : n = 2 := by omega
    left
    rw [hn2]
    have hr : rootF 2 2 = 1 := rootF_eq (by decide) (by decide) (by decide) (by decide)
    refine ⟨?_, ?_⟩
    · decide +kernel
    · rw [hr]; decide +kernel
  · right
    have e4 : ∃ k : Nat, (aF n).toNat = k + 2 := ⟨(aF n).toNat - 2, by omega⟩
    obtain ⟨k, hk⟩ := e4
    have ex : xE n = 3 * 2 ^ k := by
      unfold xE
      rw [two2, hk, Int.pow_succ, Int.pow_succ, Int.fdiv_eq_ediv_of_nonneg _ (by decide)]
      omega
    have hp := p2_pos k
    have hbits2 := bits_ge (x := cF n) (by
      intro e0
      have : PySem.Builtin.Int.intBits (cF n) = 0 := by rw [e0]; rfl
      omega)
    have hn1 : 1 ≤ n := by
      rcases (by omega : n = 0 ∨ 1 ≤ n) with e0 | e0
      · exfalso
        rw [e0] at hbits2
        have hz : (cF 0).natAbs = 0 := by decide
        have hq := Nat.pow_pos (n := PySem.Builtin.Int.intBits (cF 0) - 1) (by decide : 0 < 2)
        omega
      · exact e0
    refine ⟨hn1, by rw [ex]; omega, ?_, ?_⟩
    · rw [ex]
      have : (3 * 2 ^ k : Int) ≤ 2 ^ (k + 2) := by rw [Int.pow_succ, Int.pow_succ]; omega
      have h2 := p2_bd (k := k + 2) (by omega)
      have h3 := p2_pos (k + 2)
      omega
    · rw [← newt_form]
      have : ((n * 4).fdiv 3).fdiv (2 ^ (aF n).toNat) = n.fdiv (xE n) := by
        rw [fdiv_fdiv _ _ _ (by decide) (p2_pos _), ex, hk, Int.pow_succ, Int.pow_succ]
        rw [Int.fdiv_eq_ediv_of_nonneg _ (by omega), Int.fdiv_eq_ediv_of_nonneg _ (by omega)]
        rw [show (3 : Int) * (2 ^ k * 2 * 2) = (3 * 2 ^ k) * 4 by omega]
        exact Int.mul_ediv_mul_of_pos_left n (3 * 2 ^ k) (by decide)
      rw [this]
/-- the loop's word -/
def IsqInv (n x y : Int) : Prop := 1 ≤ n ∧ rootF 2 n ≤ x ∧ x.natAbs < 2 ^ 1902 ∧ y = newt n x
theorem newt_bd {n x : Int} (hn : 1 ≤ n) (hb : n.natAbs < 2 ^ 1900) (hx : 0 < x) (hx2 : x.natAbs < 2 ^ 1900) : (newt n x).natAbs < 2 ^ 1900 := by
  have h0 := newt_ge (sq_root (by omega : 0 ≤ n)) hx
  have h1 := root_ge1 hn
  have hq : n.fdiv x ≤ n := by
    rw [Int.fdiv_eq_ediv_of_nonneg _ (by omega)]
    exact Int.ediv_le_self x (by omega)
  have e2 : newt n x = (x + n.fdiv x) / 2 := Int.fdiv_eq_ediv_of_nonneg _ (by decide)
  generalize 2 ^ 1900 = C at *
  omega
theorem isq_div {n x y : Int} (hb : n.natAbs < 2 ^ 1900) (h : IsqGood n x y) (hne : x ≠ y) : y ≠ 0 ∧ y.natAbs < 2 ^ 1900 := by
  rcases h with h | ⟨hn, hx, hx2, e⟩
  · exact absurd h.1 hne
  · have h0 := newt_ge (sq_root (by omega : 0 ≤ n)) hx
    have h1 := root_ge1 hn
    rw [e]
    exact ⟨by omega, newt_bd hn hb hx hx2⟩
theorem isq_start {n x y : Int} (hb : n.natAbs < 2 ^ 1900) (h : IsqGood n x y) (hne : x ≠ y) : IsqInv n y ((y + n.fdiv y).fdiv (2 ^ Int.toNat 1)) := by
  have hd := isq_div hb h hne
  rcases h with h | ⟨hn, hx, hx2, e⟩
  · exact absurd h.1 hne
  · refine ⟨hn, ?_, Nat.lt_of_lt_of_le hd.2 (pow2_mono (by decide)), newt_form n y⟩
    rw [e]
    exact newt_ge (sq_root (by omega : 0 ≤ n)) hx
theorem isq_loop_div {n x y : Int} (h : IsqInv n x y) (hl : y < x) : y ≠ 0 ∧ y.natAbs < 2 ^ 2000 := by
  obtain ⟨hn, hx, hb, e⟩ := h
  have h1 := root_ge1 hn
  have h0 := newt_ge (sq_root (by omega : 0 ≤ n)) (by omega : 0 < x)
  rw [← e] at h0
  have hm := pow2_mono (by decide : 1902 ≤ 2000)
  generalize 2 ^ 1902 = C at *
  generalize 2 ^ 2000 = D at *
  omega
theorem isq_turn {n x y : Int} (h : IsqInv n x y) (hl : y < x) : IsqInv n y ((y + n.fdiv y).fdiv (2 ^ Int.toNat 1)) := by
  obtain ⟨hn, hx, hb, e⟩ := h
  have h1 := root_ge1 hn
  have h0 := newt_ge (sq_root (by omega : 0 ≤ n)) (by omega : 0 < x)
  rw [← e] at h0
  refine ⟨hn, h0, ?_, newt_form n y⟩
  generalize 2 ^ 1902 = C at *
  omega
theorem isq_meas {n x y : Int} (h : IsqInv n x y) (hl : y < x) : y.toNat < x.toNat := by
  obtain ⟨hn, hx, hb, e⟩ := h
  have h1 := root_ge1 hn
  omega
theorem isq_done {n x y : Int} (h : IsqInv n x y) (hl : ¬ y < x) : x = rootF 2 n := by
  obtain ⟨hn, hx, hb, e⟩ := h
  by_cases hlt : rootF 2 n < x
  · exfalso
    have := newt_lt (sq_root (by omega : 0 ≤ n)) hlt
    rw [← e] at this
    exact hl this
  · omega
theorem isq_same {n x y : Int} (h : IsqGood n x y) (he : x = y) : x = rootF 2 n := by
  rcases h with h | ⟨hn, hx, hx2, e⟩
  · exact h.2
  · have h0 := newt_ge (sq_root (by omega : 0 ≤ n)) hx
    by_cases hlt : rootF 2 n < x
    · exfalso
      have := newt_lt (sq_root (by omega : 0 ≤ n)) hlt
      rw [← e] at this
      omega
    · rw [← e] at h0; omega
end Mine
namespace Mine
abbrev kF (n r : Int) : Int := (↑(PySem.Builtin.Int.intBits n) : Int).fdiv r
theorem kF_facts {n r : Int} (hr : 1 ≤ r) (hb : n.natAbs < 2 ^ 1900) : 0 ≤ kF n r ∧ kF n r ≤ 1900 := by
  unfold kF
  rw [Int.fdiv_eq_ediv_of_nonneg _ (by omega)]
  have h1 := bits_le hb
  refine ⟨Int.ediv_nonneg (by omega) (by omega), ?_⟩
  exact Int.le_trans (Int.ediv_le_self _ (by omega)) (by omega)
theorem pow_ge_self {a : Int} {r : Nat} (ha : 1 ≤ a) (hr : 1 ≤ r) : a ≤ a ^ r := by
  have e : a ^ r = a ^ (r - 1) * a := by
    have := Int.pow_succ a (r - 1)
    rw [← this]; exact congrArg (fun k => a ^ k) (by omega)
  rw [e]
  have h : 1 ≤ a ^ (r - 1) := Int.pow_pos (by omega)
  have := Int.mul_le_mul_of_nonneg_right h (by omega : 0 ≤ a)
  omega
theorem pow_mono {a b : Int} {r : Nat} (ha : 0 ≤ a) (h : a ≤ b) : a ^ r ≤ b ^ r := by
  have hN : a.toNat ^ r ≤ b.toNat ^ r := Nat.pow_le_pow_left (by omega) r
  have : ((a.toNat ^ r : Nat) : Int) ≤ ((b.toNat ^ r : Nat) : Int) := by exact_mod_cast hN
  rw [Int.natCast_pow, Int.natCast_pow, Int.toNat_of_nonneg ha, Int.toNat_of_nonneg (by omega)] at this
  exact this
theorem lt_of_pow_lt {a b : Int} {r : Nat} (hb : 0 ≤ b) (h : a ^ r < b ^ r) : a < b := by
  by_cases hab : a < b
  · exact hab
  · have := pow_mono (r := r) hb (by omega : b ≤ a)
    omega
theorem pow_size {a r : Int} (ha : a.natAbs < 2 ^ 1910) (hr : 1 ≤ r) (hr2 : r ≤ 1000) : (PySem.Builtin.Int.intBits a : Int) * r ≤ 2 ^ 27 := by
  have h1 := bits_le ha
  have : (PySem.Builtin.Int.intBits a : Int) * r ≤ 1910 * 1000 := Int.mul_le_mul (by omega) hr2 (by omega) (by decide)
  omega
theorem one_shl_ok {n r : Int} (hr : 1 ≤ r) (hb : n.natAbs < 2 ^ 1900) : (PySem.Builtin.Int.intBits 1 : Int) + kF n r ≤ 2 ^ 27 := by
  have := kF_facts hr hb
  have e : PySem.Builtin.Int.intBits 1 = 1 := by decide
  rw [e]; omega
/-- the first loop -/
def In1 (lo : Int) : Prop := 0 ≤ lo ∧ lo.natAbs < 2 ^ 1910
theorem start_bd {n r : Int} (hr : 1 ≤ r) (hb : n.natAbs < 2 ^ 1900) : ((1 : Int) * 2 ^ (kF n r).toNat).natAbs < 2 ^ 1910 := by
  have := kF_facts hr hb
  rw [Int.one_mul, Int.natAbs_pow]
  exact Nat.pow_lt_pow_right (by decide) (by omega)
theorem in1_start {n r : Int} (hr : 1 ≤ r) (hb : n.natAbs < 2 ^ 1900) : In1 ((1 : Int) * 2 ^ (kF n r).toNat) :=
  ⟨by rw [Int.one_mul]; exact Int.le_of_lt (p2_pos _), start_bd hr hb⟩
theorem in1_turn {lo : Int} (h : In1 lo) : In1 (lo.fdiv (2 ^ Int.toNat 2)) := by
  obtain ⟨h1, h2⟩ := h
  unfold In1
  rw [two2, Int.fdiv_eq_ediv_of_nonneg _ (by decide)]
  generalize 2 ^ 1910 = C at *
  omega
theorem in1_meas {n r lo : Int} (hn : 0 ≤ n) (hr : 1 ≤ r) (h : In1 lo) (hl : n < lo ^ r.toNat) : (lo.fdiv (2 ^ Int.toNat 2)).toNat < lo.toNat := by
  have h0 : lo ≠ 0 := by
    intro e
    rw [e, Int.zero_pow (by omega)] at hl
    omega
  rw [two2, Int.fdiv_eq_ediv_of_nonneg _ (by decide)]
  have := h.1
  omega
/-- the second loop -/
def In2 (up : Int) : Prop := 1 ≤ up ∧ up.natAbs < 2 ^ 1910
theorem in2_start {n r : Int} (hr : 1 ≤ r) (hb : n.natAbs < 2 ^ 1900) : In2 ((1 : Int) * 2 ^ (kF n r).toNat) :=
  ⟨by rw [Int.one_mul]; exact p2_pos _, start_bd hr hb⟩
theorem in2_turn {n r up : Int} (hr : 1 ≤ r) (hb : n.natAbs < 2 ^ 1900) (h : In2 up) (hl : up ^ r.toNat ≤ n) : In2 (up * 2 ^ Int.toNat 2) := by
  have h1 := pow_ge_self (r := r.toNat) h.1 (by omega)
  have h0 := h.1
  rw [two2]
  refine ⟨by omega, ?_⟩
  have e : 2 ^ 1910 = 2 ^ 1900 * 1024 := by rw [show 1910 = 1900 + 10 from rfl, Nat.pow_add]
  rw [e]
  generalize 2 ^ 1900 = C at *
  omega
theorem in2_meas {n r up : Int} (hr : 1 ≤ r) (h : In2 up) (hl : up ^ r.toNat ≤ n) : (n + 1 - up * 2 ^ Int.toNat 2).toNat < (n + 1 - up).toNat := by
  have h1 := pow_ge_self (r := r.toNat) h.1 (by omega)
  have h0 := h.1
  rw [two2]
  omega
theorem in2_shl {up : Int} (h : In2 up) : (PySem.Builtin.Int.intBits up : Int) + 2 ≤ 2 ^ 27 := by
  have := bits_le h.2
  omega
/-- the third loop -/
def In3 (n r lo up : Int) : Prop := 0 ≤ lo ∧ lo < up ∧ lo ^ r.toNat ≤ n ∧ n < up ^ r.toNat ∧ up.natAbs < 2 ^ 1910
theorem in3_start {n r lo up : Int} (h1 : In1 lo) (h2 : In2 up) (hlo : ¬ n < lo ^ r.toNat) (hup : ¬ up ^ r.toNat ≤ n) : In3 n r lo up :=
  ⟨h1.1, lt_of_pow_lt (by have := h2.1; omega) (by omega : lo ^ r.toNat < up ^ r.toNat), by omega, by omega, h2.2⟩
theorem mid_facts {n r lo up : Int} (h : In3 n r lo up) (hne : lo ≠ up - 1) : lo < (lo + up).fdiv 2 ∧ (lo + up).fdiv 2 < up ∧ ((lo + up).fdiv 2).natAbs < 2 ^ 1910 := by
  rw [Int.fdiv_eq_ediv_of_nonneg _ (by decide)]
  obtain ⟨a, b, c, d, e⟩ := h
  generalize 2 ^ 1910 = C at *
  omega
theorem in3_low {n r lo up : Int} (h : In3 n r lo up) (hne : lo ≠ up - 1) (hm : ((lo + up).fdiv 2) ^ r.toNat < n) : In3 n r ((lo + up).fdiv 2) up := by
  have k := mid_facts h hne
  obtain ⟨a, b, c, d, e⟩ := h
  exact ⟨by omega, k.2.1, by omega, d, e⟩
theorem in3_up {n r lo up : Int} (h : In3 n r lo up) (hne : lo ≠ up - 1) (hm : n < ((lo + up).fdiv 2) ^ r.toNat) : In3 n r lo ((lo + up).fdiv 2) := by
  have k := mid_facts h hne
  obtain ⟨a, b, c, d, e⟩ := h
  exact ⟨a, k.1, c, hm, k.2.2⟩
theorem in3_low_m {n r lo up : Int} (h : In3 n r lo up) (hne : lo ≠ up - 1) : (up - (lo + up).fdiv 2).toNat < (up - lo).toNat := by
  have k := mid_facts h hne
  omega
theorem in3_up_m {n r lo up : Int} (h : In3 n r lo up) (hne : lo ≠ up - 1) : ((lo + up).fdiv 2 - lo).toNat < (up - lo).toNat := by
  have k := mid_facts h hne
  omega
theorem in3_hit {n r lo up : Int} (hr : 1 ≤ r) (h : In3 n r lo up) (hne : lo ≠ up - 1) (hm : ((lo + up).fdiv 2) ^ r.toNat = n) : (lo + up).fdiv 2 = rootF r n := by
  have k := mid_facts h hne
  have h0 := h.1
  refine (rootF_eq hr (by omega) (by omega) ?_).symm
  rw [← hm]
  have e1 : ((lo + up).fdiv 2) ^ r.toNat = (((lo + up).fdiv 2).toNat ^ r.toNat : Nat) := by rw [Int.natCast_pow, Int.toNat_of_nonneg (by omega)]
  have e2 : ((lo + up).fdiv 2 + 1) ^ r.toNat = ((((lo + up).fdiv 2).toNat + 1) ^ r.toNat : Nat) := by rw [Int.natCast_pow, Int.natCast_add, Int.toNat_of_nonneg (by omega)]; rfl
  rw [e1, e2]
  exact_mod_cast Nat.pow_lt_pow_left (by omega) (by omega)
theorem in3_done {n r lo up : Int} (hr : 1 ≤ r) (h : In3 n r lo up) (hne : lo = up - 1) : lo = rootF r n := by
  obtain ⟨a, b, c, d, e⟩ := h
  refine (rootF_eq hr a c ?_).symm
  rw [hne, Int.sub_add_cancel]; exact d
end Mine
namespace Mine
theorem pow1 {a r : Int} (h : In1 a) (hr : 1 ≤ r) (hr2 : r ≤ 1000) : (PySem.Builtin.Int.intBits a : Int) * r ≤ 2 ^ 27 := pow_size h.2 hr hr2
theorem pow2 {a r : Int} (h : In2 a) (hr : 1 ≤ r) (hr2 : r ≤ 1000) : (PySem.Builtin.Int.intBits a : Int) * r ≤ 2 ^ 27 := pow_size h.2 hr hr2
theorem pow3 {n r lo up : Int} (h : In3 n r lo up) (hne : lo ≠ up - 1) (hr : 1 ≤ r) (hr2 : r ≤ 1000) : (PySem.Builtin.Int.intBits ((lo + up).fdiv 2) : Int) * r ≤ 2 ^ 27 := pow_size (mid_facts h hne).2.2 hr hr2
theorem r_bd {r : Int} (hr : 1 ≤ r) (hr2 : r ≤ 1000) : r ≠ 0 ∧ r.natAbs < 2 ^ 2000 := by
  refine ⟨by omega, ?_⟩
  have : r.natAbs < 2 ^ 10 := by omega
  exact Nat.lt_of_lt_of_le this (pow2_mono (by decide))
end Mine
namespace Mine
theorem in3_up' {n r lo up : Int} (h : In3 n r lo up) (hne : lo ≠ up - 1) (hm1 : ((lo + up).fdiv 2) ^ r.toNat ≠ n) (hm2 : ¬ ((lo + up).fdiv 2) ^ r.toNat < n) : In3 n r lo ((lo + up).fdiv 2) := in3_up h hne (by omega)
end Mine
namespace Mine
abbrev wideE : Int := 10 ^ Int.toNat 60 + 7
theorem wide_eq : wideE = 1000000000000000000000000000000000000000000000000000000000007 := by decide +kernel
theorem wide_pos : (0 : Int) < 10 ^ Int.toNat 60 + 7 := by decide +kernel
theorem wide_ne : (10 : Int) ^ Int.toNat 60 + 7 ≠ 0 := by decide +kernel
theorem wide_bits : PySem.Builtin.Int.intBits (10 ^ Int.toNat 60 + 7) ≤ 2 ^ 20 := by decide +kernel
def cutW (v : Int) : Int := if v < 0 then -((-v).fmod wideE) else v.fmod wideE
theorem fmodW (a : Int) : 0 ≤ a.fmod wideE ∧ a.fmod wideE < wideE := (fdiv_fmod_facts a wideE).2.2.1 wide_pos
theorem cutW_facts (v : Int) : -wideE < cutW v ∧ cutW v < wideE := by
  unfold cutW
  have h1 := fmodW v
  have h2 := fmodW (-v)
  split <;> omega
theorem natAbs_lt {x b : Int} (h1 : -b < x) (h2 : x < b) : x.natAbs < b.toNat := by omega
theorem cutW_bd (v : Int) : (cutW v).natAbs < 2 ^ 210 := by
  have h := cutW_facts v
  refine Nat.lt_of_lt_of_le (natAbs_lt h.1 h.2) ?_
  decide +kernel
def numOf (a b c : Int) : Int := if c.fmod 2 = 1 then cutW a * wideE + b.fmod wideE else cutW a
theorem numOf_bd (a b c : Int) : (numOf a b c).natAbs < 2 ^ 430 := by
  unfold numOf
  split
  · have h := cutW_facts a
    have h2 := fmodW b
    have e := wide_eq
    have hl : -(wideE * wideE) ≤ cutW a * wideE := by
      have := Int.mul_le_mul_of_nonneg_right (by omega : -wideE ≤ cutW a) (by omega : 0 ≤ wideE)
      rw [Int.neg_mul] at this; exact this
    have hu : cutW a * wideE ≤ wideE * wideE := Int.mul_le_mul_of_nonneg_right (by omega) (by omega)
    have hb : (cutW a * wideE + b.fmod wideE).natAbs < (wideE * wideE + wideE + 1).toNat := by
      generalize cutW a * wideE = A at *
      generalize b.fmod wideE = B at *
      generalize wideE * wideE = C at *
      generalize wideE = D at *
      omega
    exact Nat.lt_of_lt_of_le hb (by decide +kernel)
  · exact Nat.lt_of_lt_of_le (cutW_bd a) (pow2_mono (by decide))
theorem mulW (v : Int) : PySem.IntMulOk (cutW v) (10 ^ Int.toNat 60 + 7) :=
  PySem.IntMulOk.of_bits (Nat.le_trans (bits_le (cutW_bd v)) (by decide)) wide_bits
theorem mulW1 {v : Int} (h : v < 0) : PySem.IntMulOk (-((-v).fmod (10 ^ Int.toNat 60 + 7))) (10 ^ Int.toNat 60 + 7) := by
  have := mulW v
  rwa [cutW, if_pos h] at this
theorem mulW2 {v : Int} (h : ¬ v < 0) : PySem.IntMulOk (v.fmod (10 ^ Int.toNat 60 + 7)) (10 ^ Int.toNat 60 + 7) := by
  have := mulW v
  rwa [cutW, if_neg h] at this
/-! the holds' end -/
theorem pow_size2 {a r : Int} (ha : a.natAbs < 2 ^ 1900) (hr : 1 ≤ r) (hr2 : r ≤ 1000) : (PySem.Builtin.Int.intBits a : Int) * r ≤ 2 ^ 27 :=
  pow_size (Nat.lt_of_lt_of_le ha (pow2_mono (by decide))) hr hr2
theorem root_bd {r n : Int} (hr : 1 ≤ r) (hn : 0 ≤ n) (hb : n.natAbs < 2 ^ 1800) : (rootF r n).natAbs < 2 ^ 1900 := by
  have h1 := rootF_le hr hn
  have h2 := rootF_nonneg r n
  have := pow2_mono (by decide : 1800 ≤ 1900)
  generalize 2 ^ 1900 = C at *
  generalize 2 ^ 1800 = D at *
  omega
theorem root_bd1 {r n : Int} (hr : 1 ≤ r) (hn : 0 ≤ n) (hb : n.natAbs < 2 ^ 1800) : (rootF r n + 1).natAbs < 2 ^ 1900 := by
  have h1 := rootF_le hr hn
  have h2 := rootF_nonneg r n
  have e : 2 ^ 1900 = 2 ^ 1800 * 2 ^ 100 := by rw [← Nat.pow_add]
  have := Nat.pow_le_pow_right (by decide : 0 < 2) (by decide : 1 ≤ 1800)
  generalize 2 ^ 1900 = C at *
  generalize 2 ^ 1800 = D at *
  omega
end Mine
namespace Mine
theorem num_bd (a b c : Int) : (numOf a b c).natAbs < 2 ^ 1800 := Nat.lt_of_lt_of_le (numOf_bd a b c) (pow2_mono (by decide))
theorem num_bd' (a b c : Int) : (-numOf a b c).natAbs < 2 ^ 1800 := by rw [Int.natAbs_neg]; exact num_bd a b c
theorem near1 (a : Int) : 1 ≤ 1 + a.fmod 12 := by have := (fdiv_fmod_facts a 12).2.2.1 (by decide); omega
theorem near2 (a : Int) : 1 + a.fmod 12 ≤ 1000 := by have := (fdiv_fmod_facts a 12).2.2.1 (by decide); omega
theorem far1 (a : Int) : 1 ≤ 1 + a.fmod 450 := by have := (fdiv_fmod_facts a 450).2.2.1 (by decide); omega
theorem far2 (a : Int) : 1 + a.fmod 450 ≤ 1000 := by have := (fdiv_fmod_facts a 450).2.2.1 (by decide); omega
end Mine
namespace Mine
abbrev tup2 (a b : Value) (c : Nat) : Obj := { cls := .type "tuple", data := .seq #[a, b] c }
abbrev RetT (h₀ : Heap) (L : Addr) (m : Str → Option Value) (news : List (Addr × Obj)) (s : Shared) (Q : Value → Shared → Prop) (R1 R2 : Tok → Value) : Prop :=
  ∀ (D : Addr) (t1 t2 : Tok) (c : Nat) (h' : Heap) (tk' : Nat), Fr h₀ L h' m → News h₀ L h' ((D, tup2 (R1 t1) (R2 t2) c) :: news) → (∀ p ∈ news, p.1 < D) → Q (.ref D) { s with heap := h', toks := tk' }
/-- a call that gives back a new pair -/
abbrev ClaimT (prog : Program) (w : World) (K : Frag) (p : Program) (f : Addr) (d : Nat) (H : Heap → Prop) (vs : List Value) (R1 R2 : Tok → Value) : Prop :=
  ∀ {loose : List Str} {mean : ExcName → Option Value} {mg mb : Str → Option Value} {news : List (Addr × Obj)} {dp un : Nat} {gd : Option (List Code)} {cn : Str} {cs : Scope} {a : Addr} {ccd : Value} {cl : List (Str × Addr)} {outer : List Env} {A₀ : Around} {base h₀ : Heap} {L : Addr} {m : Str → Option Value} {s : Shared} {Q E : Value → Shared → Prop},
    Below A₀ base outer h₀ → Fr h₀ L s.heap m → K.In h₀ → News h₀ L s.heap news → Top p loose mean mg mb h₀ → cs.kind = .function →
    H base → dp + d < recursionLimit → un + 8 * d < cLine → RetT h₀ L m news s Q R1 R2 →
      wpAny (model prog w) (ktrTop dp un gd cn cs L a ccd cl outer) (call (.ref f) vs) Q E s
end Mine
namespace Mine
def NBd (n : Int) : Prop := n.natAbs < 2 ^ 300
def ClsA (n r : Int) : Prop := n < 0 ∧ r.fmod 2 = 0
def ClsB (n r v : Int) : Prop := ¬ ClsA n r ∧ ((n.natAbs < 2 ∧ v = n) ∨ (2 ≤ n.natAbs ∧ 1 ≤ r ∧ r ≤ 1000 ∧ n.natAbs < 2 ^ 300 ∧ v = if n < 0 then -rootF r (-n) else rootF r n))
def ClsC (n r : Int) : Prop := 2 ≤ n ∧ r = 0
def ClsD (n r : Int) : Prop := ¬ ClsA n r ∧ 2 ≤ n.natAbs ∧ r < 0
theorem cls {n r : Int} (hn : NBd n) (hr : r ≤ 1000) : ClsA n r ∨ (∃ v, ClsB n r v) ∨ ClsC n r ∨ ClsD n r := by
  by_cases ha : ClsA n r
  · exact .inl ha
  · by_cases h2 : n.natAbs < 2
    · exact .inr (.inl ⟨n, ha, .inl ⟨h2, rfl⟩⟩)
    · rcases (by omega : 1 ≤ r ∨ r = 0 ∨ r < 0) with h | h | h
      · exact .inr (.inl ⟨_, ha, .inr ⟨by omega, h, hr, hn, rfl⟩⟩)
      · refine .inr (.inr (.inl ⟨?_, h⟩))
        have : ¬ n < 0 := fun hlt => ha ⟨hlt, by rw [h]; rfl⟩
        omega
      · exact .inr (.inr (.inr ⟨ha, by omega, h⟩))
end Mine
namespace Mine
def L1 (z r st : Int) : Prop := (∃ k : Nat, st = 2 ^ k) ∧ st ^ r.toNat ≤ z
def L2 (z r st rt : Int) : Prop := 0 ≤ rt ∧ rt ^ r.toNat ≤ z ∧ 0 ≤ st ∧ st ≤ z ∧ ((st = 0 ∧ z < (rt + 1) ^ r.toNat) ∨ (∃ k : Nat, st = 2 ^ k ∧ z < (rt + 2 * st) ^ r.toNat))
section
variable {z r st rt : Int}
theorem l1_start (hz : 1 ≤ z) : L1 z r 1 := ⟨⟨0, rfl⟩, by rw [Int.one_pow]; exact hz⟩
theorem l1_pos (h : L1 z r st) : 1 ≤ st := by obtain ⟨⟨k, e⟩, _⟩ := h; rw [e]; exact p2_pos k
theorem l1_le (hr : 1 ≤ r) (h : L1 z r st) : st ≤ z := by
  have := pow_ge_self (r := r.toNat) (l1_pos h) (by omega)
  have := h.2
  omega
theorem bd301 {x : Int} (hb : z.natAbs < 2 ^ 300) (h0 : 0 ≤ x) (h : x ≤ 2 * z) : x.natAbs < 2 ^ 1910 := by
  have : 2 ^ 1910 = 2 ^ 300 * 2 ^ 1610 := by rw [← Nat.pow_add]
  have h2 : 2 ≤ 2 ^ 1610 := Nat.pow_le_pow_right (by decide : 0 < 2) (by decide : 1 ≤ 1610)
  have h3 := Nat.mul_le_mul_left (2 ^ 300) h2
  generalize 2 ^ 1910 = C at *
  generalize 2 ^ 300 * 2 ^ 1610 = E at *
  generalize 2 ^ 300 = D at *
  omega
theorem l1_size (hb : z.natAbs < 2 ^ 300) (hr : 1 ≤ r) (hr2 : r ≤ 1000) (h : L1 z r st) : (PySem.Builtin.Int.intBits (2 * st) : Int) * r ≤ 2 ^ 27 := by
  have h1 := l1_pos h
  have h2 := l1_le hr h
  exact pow_size (bd301 hb (by omega) (by omega)) hr hr2
theorem l1_turn (h : L1 z r st) (h2 : (2 * st) ^ r.toNat ≤ z) : L1 z r (2 * st) := by
  obtain ⟨⟨k, e⟩, _⟩ := h
  exact ⟨⟨k + 1, by rw [e, Int.pow_succ, Int.mul_comm]⟩, h2⟩
theorem l1_meas (hr : 1 ≤ r) (h : L1 z r st) (h2 : (2 * st) ^ r.toNat ≤ z) : (z + 1 - 2 * st).toNat < (z + 1 - st).toNat := by
  have h1 := l1_pos h
  have := pow_ge_self (a := 2 * st) (r := r.toNat) (by omega) (by omega)
  omega
theorem l2_start (hr : 1 ≤ r) (hz : 1 ≤ z) (h : L1 z r st) (h2 : ¬ (2 * st) ^ r.toNat ≤ z) : L2 z r st 0 := by
  have h1 := l1_pos h
  have h3 := l1_le hr h
  refine ⟨by decide, by rw [Int.zero_pow (by omega)]; omega, by omega, h3, .inr ?_⟩
  obtain ⟨⟨k, e⟩, _⟩ := h
  exact ⟨k, e, by rw [Int.zero_add]; omega⟩
theorem l2_rt (hr : 1 ≤ r) (h : L2 z r st rt) : rt ≤ z := by
  rcases (by have := h.1; omega : rt = 0 ∨ 1 ≤ rt) with e | e
  · have := h.2.2.1; have := h.2.2.2.1; omega
  · have := pow_ge_self (r := r.toNat) e (by omega)
    have := h.2.1
    omega
theorem l2_size (hb : z.natAbs < 2 ^ 300) (hr : 1 ≤ r) (hr2 : r ≤ 1000) (h : L2 z r st rt) : (PySem.Builtin.Int.intBits (rt + st) : Int) * r ≤ 2 ^ 27 := by
  have h1 := l2_rt hr h
  exact pow_size (bd301 hb (by have := h.1; have := h.2.2.1; omega) (by have := h.2.2.2.1; omega)) hr hr2
theorem l2_half (k : Nat) : ((2 : Int) ^ k).fdiv 2 = (if k = 0 then 0 else 2 ^ (k - 1)) := by
  rw [Int.fdiv_eq_ediv_of_nonneg _ (by decide)]
  cases k with
  | zero => rfl
  | succ k => rw [Int.pow_succ, if_neg (by omega), Nat.add_sub_cancel]; omega
theorem l2_step (h : L2 z r st rt) (hs : 0 < st) (rt' : Int) (h0 : 0 ≤ rt') (h1 : rt' ^ r.toNat ≤ z) (h2 : z < (rt' + st) ^ r.toNat) : L2 z r (st.fdiv 2) rt' := by
  have hst := h.2.2.2.1
  obtain ⟨k, e, hk⟩ : ∃ k : Nat, st = 2 ^ k ∧ z < (rt + 2 * st) ^ r.toNat := by
    rcases h.2.2.2.2 with h | h
    · omega
    · exact h
  have hf := l2_half k
  rw [← e] at hf
  have hle : st.fdiv 2 ≤ z ∧ 0 ≤ st.fdiv 2 := by rw [Int.fdiv_eq_ediv_of_nonneg _ (by decide)]; omega
  refine ⟨h0, h1, hle.2, hle.1, ?_⟩
  rw [hf]
  by_cases hk0 : k = 0
  · rw [if_pos hk0]
    rw [hk0] at e
    rw [e] at h2
    exact .inl ⟨rfl, h2⟩
  · rw [if_neg hk0]
    refine .inr ⟨k - 1, rfl, ?_⟩
    have : (2 : Int) * 2 ^ (k - 1) = 2 ^ k := by
      have := Int.pow_succ (2 : Int) (k - 1)
      rw [Int.mul_comm, ← this]; exact congrArg (fun j => (2 : Int) ^ j) (by omega)
    rw [this, ← e]
    exact h2
theorem l2_up (h : L2 z r st rt) (hs : 0 < st) (h2 : (rt + st) ^ r.toNat ≤ z) : L2 z r (st.fdiv 2) (rt + st) := by
  refine l2_step h hs _ (by have := h.1; omega) h2 ?_
  rcases h.2.2.2.2 with h | ⟨k, e, hk⟩
  · omega
  · rw [show rt + st + st = rt + 2 * st by omega]; exact hk
theorem l2_stay (h : L2 z r st rt) (hs : 0 < st) (h2 : ¬ (rt + st) ^ r.toNat ≤ z) : L2 z r (st.fdiv 2) rt := l2_step h hs _ h.1 h.2.1 (by omega)
theorem l2_meas (hs : 0 < st) : (st.fdiv 2).toNat < st.toNat := by rw [Int.fdiv_eq_ediv_of_nonneg _ (by decide)]; omega
theorem l2_done (hr : 1 ≤ r) (h : L2 z r st rt) (hs : ¬ 0 < st) : rt = rootF r z := by
  refine (rootF_eq hr h.1 h.2.1 ?_).symm
  rcases h.2.2.2.2 with h | ⟨k, e, _⟩
  · exact h.2
  · have := p2_pos k; omega
end
end Mine
namespace Mine
section
variable {n r : Int}
theorem abs_root_pos (h : 2 ≤ n) : rootF r (if n < 0 then -n else n) = rootF r n := by rw [if_neg (by omega)]
theorem abs_root_neg (h : n ≤ -2) : rootF r (if n < 0 then -n else n) = rootF r (-n) := by rw [if_pos (by omega)]
theorem abs_ge1 (h : 2 ≤ n.natAbs) : 1 ≤ (if n < 0 then -n else n) := by split <;> omega
theorem abs_bd (hb : n.natAbs < 2 ^ 300) : (if n < 0 then -n else n).natAbs < 2 ^ 300 := by
  split
  · rw [Int.natAbs_neg]; exact hb
  · exact hb
end
end Mine
namespace Mine
theorem split_all0 {G : Prop} {n r : Int} (hn : NBd n) (hr : r ≤ 1000) (hA : ClsA n r → G) (hB1 : ¬ ClsA n r → n.natAbs < 2 → G) (hB2 : 2 ≤ n → n.natAbs < 2 ^ 300 → 1 ≤ r → r ≤ 1000 → G) (hB3 : n ≤ -2 → r.fmod 2 ≠ 0 → n.natAbs < 2 ^ 300 → 1 ≤ r → r ≤ 1000 → G) (hC : ClsC n r → 2 ≤ n → r = 0 → G) (hD1 : ClsD n r → 2 ≤ n → r < 0 → G) (hD2 : ClsD n r → n ≤ -2 → r < 0 → r.fmod 2 ≠ 0 → G) : G := by
  by_cases ha : ClsA n r
  · exact hA ha
  · by_cases h2 : n.natAbs < 2
    · exact hB1 ha h2
    · rcases (by omega : 1 ≤ r ∨ r = 0 ∨ r < 0) with h | h | h
      · by_cases hp : 0 ≤ n
        · exact hB2 (by omega) hn h hr
        · exact hB3 (by omega) (fun e => ha ⟨by omega, e⟩) hn h hr
      · have : ¬ n < 0 := fun hlt => ha ⟨hlt, by rw [h]; rfl⟩
        exact hC ⟨by omega, h⟩ (by omega) h
      · by_cases hp : 0 ≤ n
        · exact hD1 ⟨ha, by omega, h⟩ (by omega) h
        · exact hD2 ⟨ha, by omega, h⟩ (by omega) h (fun e => ha ⟨by omega, e⟩)
theorem split_unit0 {G : Prop} {n r : Int} (hn : n.natAbs < 2) (hA : ClsA n r → G) (hB1 : ¬ ClsA n r → n.natAbs < 2 → G) : G := by
  by_cases ha : ClsA n r
  · exact hA ha
  · exact hB1 ha hn
end Mine
namespace Mine
def SMd (n : Int) : Prop := n.natAbs ≤ 2
def UNd (n : Int) : Prop := n.natAbs < 2
theorem nbd_ok (v : Int) : NBd (cutW v) := Nat.lt_of_lt_of_le (cutW_bd v) (pow2_mono (by decide))
theorem NBd.neg {n : Int} (h : NBd n) : NBd (-n) := by unfold NBd; rw [Int.natAbs_neg]; exact h
theorem smd_ok (a : Int) : SMd (a.fmod 5 - 2) := by
  have := (fdiv_fmod_facts a 5).2.2.1 (by decide); unfold SMd; omega
theorem und_ok (a : Int) : UNd (a.fmod 3 - 1) := by
  have := (fdiv_fmod_facts a 3).2.2.1 (by decide); unfold UNd; omega
theorem smd_nbd {n : Int} (h : SMd n) : NBd n := by
  unfold SMd at h; unfold NBd
  have := pow2_mono (by decide : 2 ≤ 300)
  generalize 2 ^ 300 = C at *
  omega
theorem und_lt {n : Int} (h : UNd n) : n.natAbs < 2 := h
theorem under_ok (x : Int) : -1 - (if x < 0 then -x else x) < 0 := by split <;> omega
end Mine
namespace Mine
section
variable {M : Model} {A : Around} {E : Value → Shared → Prop} {s : Shared} {Q : Value → Shared → Prop} {n r : Int} {t1 t2 : Tok} {f : Addr}
theorem split_all (hn : NBd n) (hr : r ≤ 1000) (hA : ClsA n r → wpAny M A (call (.ref f) [.int n t1, .int r t2]) Q E s) (hB1 : ¬ ClsA n r → n.natAbs < 2 → wpAny M A (call (.ref f) [.int n t1, .int r t2]) Q E s) (hB2 : 2 ≤ n → n.natAbs < 2 ^ 300 → 1 ≤ r → r ≤ 1000 → wpAny M A (call (.ref f) [.int n t1, .int r t2]) Q E s) (hB3 : n ≤ -2 → r.fmod 2 ≠ 0 → n.natAbs < 2 ^ 300 → 1 ≤ r → r ≤ 1000 → wpAny M A (call (.ref f) [.int n t1, .int r t2]) Q E s) (hC : ClsC n r → 2 ≤ n → r = 0 → wpAny M A (call (.ref f) [.int n t1, .int r t2]) Q E s) (hD1 : ClsD n r → 2 ≤ n → r < 0 → wpAny M A (call (.ref f) [.int n t1, .int r t2]) Q E s) (hD2 : ClsD n r → n ≤ -2 → r < 0 → r.fmod 2 ≠ 0 → wpAny M A (call (.ref f) [.int n t1, .int r t2]) Q E s) : wpAny M A (call (.ref f) [.int n t1, .int r t2]) Q E s := split_all0 hn hr hA hB1 hB2 hB3 hC hD1 hD2
theorem split_unit (hn : n.natAbs < 2) (hA : ClsA n r → wpAny M A (call (.ref f) [.int n t1, .int r t2]) Q E s) (hB1 : ¬ ClsA n r → n.natAbs < 2 → wpAny M A (call (.ref f) [.int n t1, .int r t2]) Q E s) : wpAny M A (call (.ref f) [.int n t1, .int r t2]) Q E s := split_unit0 hn hA hB1
end
end Mine
namespace Mine
def UDd (z : Int) : Prop := z < 0 ∧ z.natAbs < 2 ^ 400
theorem udd_ok {x : Int} (h : NBd x) : UDd (-1 - (if x < 0 then -x else x)) := by
  have key : ∀ C D G : Nat, C = D * G → 2 ≤ G → 1 ≤ D → x.natAbs < D → (-1 - (if x < 0 then -x else x)) < 0 ∧ (-1 - (if x < 0 then -x else x)).natAbs < C := by
    intro C D G e hG hD hx
    have h3 := Nat.mul_le_mul_left D hG
    rw [← e] at h3
    split <;> omega
  exact key (2 ^ 400) (2 ^ 300) (2 ^ 100) (by rw [← Nat.pow_add]) (Nat.pow_le_pow_right (by decide : 0 < 2) (by decide : 1 ≤ 100)) (Nat.pow_le_pow_right (by decide : 0 < 2) (by decide : 0 ≤ 300)) h
theorem udd_neg {x : Int} (h : UDd x) : x < 0 := h.1
theorem udd_rbd {x : Int} (h : UDd x) : x ≤ 1000 := by have := h.1; omega
theorem udd_bd {x : Int} (h : UDd x) : x ≠ 0 ∧ x.natAbs < 2 ^ 2000 := ⟨by have := h.1; omega, Nat.lt_of_lt_of_le h.2 (pow2_mono (by decide))⟩
theorem sml_bd {x : Int} (h : x < 0) (h2 : -100 ≤ x) : x ≠ 0 ∧ x.natAbs < 2 ^ 2000 := by
  refine ⟨by omega, ?_⟩
  have : x.natAbs < 2 ^ 10 := by omega
  exact Nat.lt_of_lt_of_le this (pow2_mono (by decide))
theorem kF_neg {n r : Int} (hn : 2 ≤ n) (hr : r < 0) : (↑(PySem.Builtin.Int.intBits n) : Int).fdiv r < 0 := by
  have h0 : (↑(PySem.Builtin.Int.intBits n) : Int) ≠ 0 := by
    intro e
    have := bits_lt (x := n)
    rw [Int.ofNat_eq_zero.mp e] at this
    omega
  have h9 : 0 ≤ (↑(PySem.Builtin.Int.intBits n) : Int) := Int.natCast_nonneg _
  generalize (↑(PySem.Builtin.Int.intBits n) : Int) = B at *
  have hB : 0 < B := by omega
  have f := (fdiv_fmod_facts B r)
  by_cases hq : 0 ≤ B.fdiv r
  · exfalso
    have h2 : B.fdiv r * r ≤ 0 := Int.mul_nonpos_of_nonneg_of_nonpos hq (by omega)
    have h3 := Int.mul_comm (B.fdiv r) r
    omega
  · omega
section
variable {prog : Program} {w : World} {A : Around} {E : Value → Shared → Prop} {s : Shared} {Q : Value → Shared → Prop} {a b : Int} {t u : Tok}
theorem fd_nought (hb : b = 0) (hA : A.handled = none) (h0 : ∀ h' tk e, Heap.NewExc s.heap h' e "ZeroDivisionError" → E (.ref e) { s with heap := h', toks := tk }) : wpAny (model prog w) A (binaryOp .FloorDiv (.int a t) (.int b u)) Q E s :=
  floordiv_int_or hA (fun _ => h0) (fun h => absurd hb h) (fun h => absurd hb h)
theorem lsh_neg (hb : b < 0) (hA : A.handled = none) (h0 : ∀ h' tk e, Heap.NewExc s.heap h' e "ValueError" → E (.ref e) { s with heap := h', toks := tk }) : wpAny (model prog w) A (binaryOp .LShift (.int a t) (.int b u)) Q E s :=
  lshift_int_or hA (fun _ => h0) (fun h => absurd h (by omega)) (fun h => absurd h (by omega))
end
end Mine
namespace Mine
theorem news_tl {h₀ h : Heap} {L : Addr} {p : Addr × Obj} {r : List (Addr × Obj)} (N : News h₀ L h (p :: r)) : News h₀ L h r := fun q hq => N q (List.Mem.tail _ hq)
theorem allLt_mem {i : Addr} : ∀ {l : List (Addr × Obj)}, AllLt i l → ∀ p ∈ l, p.1 < i
  | [], _, _, h => nomatch h
  | _ :: _, x, q, h => by
    rcases List.mem_cons.mp h with e | h
    · rw [e]; exact x.1
    · exact allLt_mem x.2 q h
theorem unr_end {h₀ h' : Heap} {L : Addr} {p : Addr × Obj} {own : List (Addr × Obj)} {rest : (Str → Option Value) → List (Addr × Obj) → Prop} {s₁ : Shared} {tk : Nat} {m' : Str → Option Value} (F : Fr h₀ L h' m') (N : News h₀ L h' (p :: own)) (hl : AllLt p.1 own) (r : rest m' own) : UnrEndW h₀ L s₁ [p] rest { s₁ with heap := h', toks := tk } :=
  ⟨h', tk, m', own, rfl, F, N, fun q hq r hr => by
    rw [List.mem_singleton.mp hr]
    exact Nat.ne_of_lt (allLt_mem hl q hq), r⟩
theorem subL_head {p : Addr × Obj} {l : List (Addr × Obj)} : SubL [p] (p :: l) := ⟨List.Mem.head _, trivial⟩
end Mine
namespace Mine
set_option maxRecDepth 100000 in
set_option maxHeartbeats 8000000 in
open_top hd05 for PySem.Challenge.rw_yt0004_05
end Mine
namespace Mine
abbrev Cl (w : World) := Claim Challenge.rw_yt0004_05.row.prog w (hd05.heap_39 w.params) hd05.view_39
abbrev ClT (w : World) := ClaimT Challenge.rw_yt0004_05.row.prog w (hd05.heap_39 w.params) hd05.view_39
set_option maxRecDepth 100000 in
set_option maxHeartbeats 8000000 in
theorem isqrt_spec {w : World} {n : Int} {t1 : Tok} (hn : 0 ≤ n) (hb : n.natAbs < 2 ^ 1900) : Cl w 21 1 (fun _ => True) [.int n t1] (fun t => .int (rootF 2 n) t) := by
  k_with_none
  dsimp only [Cl, Claim, Ret]
  k_fill
  intro loose mean mg mb news dp un gd cn cs a ccd cl outer A₀ base h₀ L m s Q E hB F X N T hk hH hd hu hret
  refine wpAny_call ?_
  (k_dflt cell_enter)
  k_with "exec While Compare cons nil" => k_while (fun script x y => IsqInv n x y) (fun script x y => x.toNat) "x" "y"
  k_with "state" => first | exact isq_start hb (isq_odd hn hb (by assumption)) (by assumption) | exact isq_start hb (isq_even hn hb (by assumption)) (by assumption) | exact isq_turn (by assumption) (by assumption)
  k_with "measure" => exact isq_meas (by assumption) (by assumption)
  k_with "binaryOp LShift int int" => first | (refine lshift_int (aF_facts n).1 (shl1_ok hn hb) ?_) | (refine lshift_int (aF_facts n).1 (shl3_ok hn hb) ?_)
  k_with "binaryOp RShift int int" => first | (refine rshift_int (aF_facts n).1 ?_) | (refine rshift_int (by decide) ?_)
  k_with "binaryOp FloorDiv int int" => first | (refine floordiv_int (isq_div hb (isq_odd hn hb (by assumption)) (by assumption)).1 ?_ (Or.inl (noPy (Nat.lt_of_lt_of_le (isq_div hb (isq_odd hn hb (by assumption)) (by assumption)).2 (pow2_mono (by decide)))))) | (refine floordiv_int (isq_div hb (isq_even hn hb (by assumption)) (by assumption)).1 ?_ (Or.inl (noPy (Nat.lt_of_lt_of_le (isq_div hb (isq_even hn hb (by assumption)) (by assumption)).2 (pow2_mono (by decide)))))) | (refine floordiv_int (isq_loop_div (by assumption) (by assumption)).1 ?_ (Or.inl (noPy (isq_loop_div (by assumption) (by assumption)).2)))
  k_steps
  all_goals first | (refine ret_int (Q := Q) hret (by first | exact isq_same (isq_odd hn hb (by assumption)) (by assumption) | exact isq_same (isq_even hn hb (by assumption)) (by assumption) | exact isq_done (by assumption) (by assumption)) (by k_asm) (by first | k_asm | exact cb_drop (by assumption) (by kcj_all)))
local macro_rules | `(tactic| walk_at "call ref") => `(tactic| (k_here; (with_reducible show wpAny _ _ (call (Value.ref 21) [Value.int _ _]) _ _ _); k_dflt (refine' isqrt_spec ?kp0 ?kp1 ?k1 ?k2 ?k3 ?k4 ?k5 ?kK ?kH ?kd ?ku ?_; (case k1 => k_asm); (case k2 => k_asm); (case k3 => k_asm); (case k4 => k_asm); (case k5 => k_asm); (case kK => first | exact rfl | assumption); (case kH => first | trivial | k_asm); (case kp0 => first | assumption | k_extra "isqrt_spec 0" | omega | l_fit | decide); (case kp1 => first | assumption | k_extra "isqrt_spec 1" | omega | l_fit | decide); (case kd => ktr_room); (case ku => ktr_units)); intro t9 h9 tk9 F9 N9; (try dsimp only); (try k_fold)))
set_option maxRecDepth 100000 in
set_option maxHeartbeats 8000000 in
theorem introot_spec {w : World} {n r : Int} {t1 t2 : Tok} (hn : 0 ≤ n) (hb : n.natAbs < 2 ^ 1900) (hr : 1 ≤ r) (hr2 : r ≤ 1000) : Cl w 29 2 (fun _ => True) [.int n t1, .int r t2] (fun t => .int (rootF r n) t) := by
  k_with_none
  dsimp only [Cl, Claim, Ret]
  k_fill
  intro loose mean mg mb news dp un gd cn cs a ccd cl outer A₀ base h₀ L m s Q E hB F X N T hk hH hd hu hret
  refine wpAny_call ?_
  (k_dflt (refine' code_def ?k1 ?k2 ?k3 ?k4 ?k5 ?kA ?kF ?kK ?k6 ?k7 ?k8 ?k9 ?kB ?_ ?c2 ?c3 ?c4 ?c5; (case kA => exact rfl); (case kF => exact rfl); (case kK => assumption); (case k1 => k_asm); (case k2 => k_asm); (case k3 => k_asm); (case k4 => k_asm); (case k5 => k_asm); (case k6 => k_is); (case k7 => k_is); (case k8 => ktr_room); (case k9 => exact binds_K (by k_in) rfl (by k_is) rfl rfl rfl); (case c5 => decide); (case kB => exact locs rfl); (case c2 => exact rfl); (case c3 => exact rfl); (case c4 => exact rfl); k_whole; intro g' L' h' FG' F' N' B' X' T'; (try dsimp only); (try k_lift B'); (try k_fold)))
  have hr0 : 0 ≤ r := by omega
  k_with "exec While Compare cons nil" => first
    | ((with_reducible show wpAny _ _ (exec (PySem.Stmt.While (PySem.Expr.Compare _ [PySem.CmpOp.Gt] _ _) _ _ _) _) _ _ _); k_while (fun script lo => In1 lo) (fun script lo => lo.toNat) "lower")
    | ((with_reducible show wpAny _ _ (exec (PySem.Stmt.While (PySem.Expr.Compare _ [PySem.CmpOp.LtE] _ _) _ _ _) _) _ _ _); k_while (fun script up => In2 up) (fun script up => (n + 1 - up).toNat) "upper")
    | ((with_reducible show wpAny _ _ (exec (PySem.Stmt.While (PySem.Expr.Compare _ [PySem.CmpOp.NotEq] _ _) _ _ _) _) _ _ _); k_while (fun script lo up => In3 n r lo up) (fun script lo up => (up - lo).toNat) "lower" "upper")
  k_with "state" => first | exact in1_start hr hb | exact in2_start hr hb | exact in1_turn (by assumption) | exact in2_turn hr hb (by assumption) (by assumption) | exact in3_start (by assumption) (by assumption) (by assumption) (by assumption) | exact in3_low (by assumption) (by assumption) (by assumption) | exact in3_up' (by assumption) (by assumption) (by assumption) (by assumption)
  k_with "measure" => first | exact in1_meas hn hr (by assumption) (by assumption) | exact in2_meas hr (by assumption) (by assumption) | exact in3_low_m (by assumption) (by assumption) | exact in3_up_m (by assumption) (by assumption)
  k_with "binaryOp LShift int int" => (refine lshift_int (kF_facts hr hb).1 (one_shl_ok hr hb) ?_)
  k_with "inplaceOp LShift int int" => (refine ilshift_int (by decide) (in2_shl (by assumption)) ?_)
  k_with "inplaceOp RShift int int" => (refine irshift_int (by decide) ?_)
  k_with "binaryOp Pow int int" => first | (refine pow_int hr0 (pow1 (by assumption) hr hr2) ?_) | (refine pow_int hr0 (pow2 (by assumption) hr hr2) ?_) | (refine pow_int hr0 (pow3 (by assumption) (by assumption) hr hr2) ?_)
  k_with "binaryOp FloorDiv int int" => (refine floordiv_int (r_bd hr hr2).1 ?_ (Or.inl (noPy (r_bd hr hr2).2)))
  k_steps
  all_goals first | (refine ret_int (Q := Q) hret (by first | exact in3_hit hr (by assumption) (by assumption) (by assumption) | exact in3_done hr (by assumption) (by assumption) | exact (rootF_small hr hn (by assumption)).symm | (subst_vars; rfl) | (subst_vars; exact (rootF_one hn).symm) | (trace_state; fail)) (by k_asm) (by first | k_asm | exact cb_drop (by assumption) (by kcj_all)))
local macro_rules | `(tactic| walk_at "call ref") => `(tactic| (k_here; (with_reducible show wpAny _ _ (call (Value.ref 29) [Value.int _ _, Value.int _ _]) _ _ _); k_dflt (refine' introot_spec ?kp0 ?kp1 ?kp2 ?kp3 ?k1 ?k2 ?k3 ?k4 ?k5 ?kK ?kH ?kd ?ku ?_; (case k1 => k_asm); (case k2 => k_asm); (case k3 => k_asm); (case k4 => k_asm); (case k5 => k_asm); (case kK => first | exact rfl | assumption); (case kH => first | trivial | k_asm); (case kp0 => first | assumption | k_extra "introot_spec 0" | omega | l_fit | decide); (case kp1 => first | assumption | k_extra "introot_spec 1" | omega | l_fit | decide); (case kp2 => first | assumption | k_extra "introot_spec 2" | omega | l_fit | decide); (case kp3 => first | assumption | k_extra "introot_spec 3" | omega | l_fit | decide); (case kd => ktr_room); (case ku => ktr_units)); intro t9 h9 tk9 F9 N9; (try dsimp only); (try k_fold)))
set_option maxRecDepth 100000 in
set_option maxHeartbeats 8000000 in
theorem introot_none {w : World} {n r : Int} {t1 t2 : Tok} (hn : n < 0) (he : r.fmod 2 = 0) : Cl w 29 2 (fun _ => True) [.int n t1, .int r t2] (fun _ => .none) := by
  k_with_none
  dsimp only [Cl, Claim, Ret]
  k_fill
  intro loose mean mg mb news dp un gd cn cs a ccd cl outer A₀ base h₀ L m s Q E hB F X N T hk hH hd hu hret
  refine wpAny_call ?_
  (k_dflt (refine' code_def ?k1 ?k2 ?k3 ?k4 ?k5 ?kA ?kF ?kK ?k6 ?k7 ?k8 ?k9 ?kB ?_ ?c2 ?c3 ?c4 ?c5; (case kA => exact rfl); (case kF => exact rfl); (case kK => assumption); (case k1 => k_asm); (case k2 => k_asm); (case k3 => k_asm); (case k4 => k_asm); (case k5 => k_asm); (case k6 => k_is); (case k7 => k_is); (case k8 => ktr_room); (case k9 => exact binds_K (by k_in) rfl (by k_is) rfl rfl rfl); (case c5 => decide); (case kB => exact locs rfl); (case c2 => exact rfl); (case c3 => exact rfl); (case c4 => exact rfl); k_whole; intro g' L' h' FG' F' N' B' X' T'; (try dsimp only); (try k_lift B'); (try k_fold)))
  k_steps
  all_goals first | (exact absurd he (by assumption)) | (refine ret_val (Q := Q) hret (by rfl) (by k_asm) (by first | k_asm | exact cb_drop (by assumption) (by kcj_all)))
set_option maxRecDepth 100000 in
set_option maxHeartbeats 8000000 in
theorem introot_odd {w : World} {n r : Int} {t1 t2 : Tok} (hn : n < 0) (ho : r.fmod 2 ≠ 0) (hb : n.natAbs < 2 ^ 1900) (hr : 1 ≤ r) (hr2 : r ≤ 1000) : Cl w 29 3 (fun _ => True) [.int n t1, .int r t2] (fun t => .int (-(rootF r (-n))) t) := by
  k_with_none
  dsimp only [Cl, Claim, Ret]
  k_fill
  intro loose mean mg mb news dp un gd cn cs a ccd cl outer A₀ base h₀ L m s Q E hB F X N T hk hH hd hu hret
  refine wpAny_call ?_
  (k_dflt (refine' code_def ?k1 ?k2 ?k3 ?k4 ?k5 ?kA ?kF ?kK ?k6 ?k7 ?k8 ?k9 ?kB ?_ ?c2 ?c3 ?c4 ?c5; (case kA => exact rfl); (case kF => exact rfl); (case kK => assumption); (case k1 => k_asm); (case k2 => k_asm); (case k3 => k_asm); (case k4 => k_asm); (case k5 => k_asm); (case k6 => k_is); (case k7 => k_is); (case k8 => ktr_room); (case k9 => exact binds_K (by k_in) rfl (by k_is) rfl rfl rfl); (case c5 => decide); (case kB => exact locs rfl); (case c2 => exact rfl); (case c3 => exact rfl); (case c4 => exact rfl); k_whole; intro g' L' h' FG' F' N' B' X' T'; (try dsimp only); (try k_lift B'); (try k_fold)))
  have hn9 : 0 ≤ -n := by omega
  have hb9 : (-n).natAbs < 2 ^ 1900 := by rw [Int.natAbs_neg]; exact hb
  k_steps
  all_goals first | (exact absurd (by assumption) ho) | (refine ret_int (Q := Q) hret (by rfl) (by k_asm) (by first | k_asm | exact cb_drop (by assumption) (by kcj_all)))
local macro_rules | `(tactic| walk_at "call ref") => `(tactic| (k_here; (with_reducible show wpAny _ _ (call (Value.ref 29) [Value.int _ _, Value.int _ _]) _ _ _); k_dflt (refine' introot_none ?kp0 ?kp1 ?k1 ?k2 ?k3 ?k4 ?k5 ?kK ?kH ?kd ?ku ?_; (case k1 => k_asm); (case k2 => k_asm); (case k3 => k_asm); (case k4 => k_asm); (case k5 => k_asm); (case kK => first | exact rfl | assumption); (case kH => first | trivial | k_asm); (case kp0 => first | assumption | k_extra "introot_none 0"); (case kp1 => first | assumption | k_extra "introot_none 1"); (case kd => ktr_room); (case ku => ktr_units)); intro t9 h9 tk9 F9 N9; (try dsimp only); (try k_fold)))
local macro_rules | `(tactic| walk_at "call ref") => `(tactic| (k_here; (with_reducible show wpAny _ _ (call (Value.ref 29) [Value.int _ _, Value.int _ _]) _ _ _); k_dflt (refine' introot_odd ?kp0 ?kp1 ?kp2 ?kp3 ?kp4 ?k1 ?k2 ?k3 ?k4 ?k5 ?kK ?kH ?kd ?ku ?_; (case k1 => k_asm); (case k2 => k_asm); (case k3 => k_asm); (case k4 => k_asm); (case k5 => k_asm); (case kK => first | exact rfl | assumption); (case kH => first | trivial | k_asm); (case kp0 => first | assumption | k_extra "introot_odd 0"); (case kp1 => first | assumption | k_extra "introot_odd 1"); (case kp2 => first | assumption | k_extra "introot_odd 2"); (case kp3 => first | assumption | k_extra "introot_odd 3"); (case kp4 => first | assumption | k_extra "introot_odd 4"); (case kd => ktr_room); (case ku => ktr_units)); intro t9 h9 tk9 F9 N9; (try dsimp only); (try k_fold)))
def rowF : List Int := [-30, 3, 5]
def atF (ns : List Int) (i : Int) : Int := if i < ns.length then ns.getD i.toNat 0 else rowF.getD (i.fmod 3).toNat 0
set_option maxRecDepth 100000 in
set_option maxHeartbeats 8000000 in
theorem at_spec {w : World} {l : Addr} {vs : List Value} {ns : List Int} {i : Int} {t2 : Tok} (hI : IntsAre vs ns) (hn : ns.length < 2 ^ 62) (h0 : 0 ≤ i) (hi : i < 100) : Cl w 36 1 (fun base => base.IsList l vs.toArray) [.ref l, .int i t2] (fun t => .int (atF ns i) t) := by
  k_with_none
  dsimp only [Cl, Claim, Ret]
  k_fill
  intro loose mean mg mb news dp un gd cn cs a ccd cl outer A₀ base h₀ L m s Q E hB F X N T hk hH hd hu hret
  refine wpAny_call ?_
  (k_dflt cell_enter)
  k_steps
  all_goals first | (refine ret_int (Q := Q) hret (by unfold atF rowF; split <;> first | rfl | (exfalso; omega)) (by k_asm) (by first | k_asm | exact cb_drop (by assumption) (by kcj_all)))
local macro_rules | `(tactic| walk_at "call ref") => `(tactic| (k_here; (with_reducible show wpAny _ _ (call (Value.ref 36) [Value.ref _, Value.int _ _]) _ _ _); k_dflt (refine' at_spec ?kp0 ?kp1 ?kp2 ?kp3 ?k1 ?k2 ?k3 ?k4 ?k5 ?kK ?kH ?kd ?ku ?_; (case k1 => k_asm); (case k2 => k_asm); (case k3 => k_asm); (case k4 => k_asm); (case k5 => k_asm); (case kK => first | exact rfl | assumption); (case kH => first | trivial | k_asm); (case kp0 => first | assumption | k_extra "at_spec 0" | omega | l_fit | decide); (case kp1 => first | assumption | k_extra "at_spec 1" | omega | l_fit | decide); (case kp2 => first | assumption | k_extra "at_spec 2" | omega | l_fit | decide); (case kp3 => first | assumption | k_extra "at_spec 3" | omega | l_fit | decide); (case kd => ktr_room); (case ku => ktr_units)); intro t9 h9 tk9 F9 N9; (try dsimp only); (try k_fold)))
set_option maxRecDepth 100000 in
set_option maxHeartbeats 8000000 in
theorem cut_spec {w : World} {v : Int} {t1 t2 : Tok} : Cl w 43 1 (fun _ => True) [.int v t1, .int (10 ^ Int.toNat 60 + 7) t2] (fun t => .int (cutW v) t) := by
  k_with_none
  dsimp only [Cl, Claim, Ret]
  k_fill
  intro loose mean mg mb news dp un gd cn cs a ccd cl outer A₀ base h₀ L m s Q E hB F X N T hk hH hd hu hret
  refine wpAny_call ?_
  (k_dflt cell_enter)
  k_with "binaryOp Mod int int" => (refine mod_int' wide_ne ?_)
  k_steps
  all_goals first | (refine ret_int (Q := Q) hret (by unfold cutW; split <;> first | rfl | (exfalso; omega)) (by k_asm) (by first | k_asm | exact cb_drop (by assumption) (by kcj_all)))
local macro_rules | `(tactic| walk_at "call ref") => `(tactic| (k_here; (with_reducible show wpAny _ _ (call (Value.ref 43) [Value.int _ _, Value.int _ _]) _ _ _); k_dflt (refine' cut_spec ?k1 ?k2 ?k3 ?k4 ?k5 ?kK ?kH ?kd ?ku ?_; (case k1 => k_asm); (case k2 => k_asm); (case k3 => k_asm); (case k4 => k_asm); (case k5 => k_asm); (case kK => first | exact rfl | assumption); (case kH => first | trivial | k_asm);  (case kd => ktr_room); (case ku => ktr_units)); intro t9 h9 tk9 F9 N9; (try dsimp only); (try k_fold)))
end Mine
namespace Mine
local macro_rules | `(tactic| walk_at "call ref") => `(tactic| (k_here; (with_reducible show wpAny _ _ (call (Value.ref 21) [Value.int _ _]) _ _ _); k_dflt (refine' isqrt_spec ?kp0 ?kp1 ?k1 ?k2 ?k3 ?k4 ?k5 ?kK ?kH ?kd ?ku ?_; (case k1 => k_asm); (case k2 => k_asm); (case k3 => k_asm); (case k4 => k_asm); (case k5 => k_asm); (case kK => first | exact rfl | assumption); (case kH => first | trivial | k_asm); (case kp0 => first | assumption | k_extra "isqrt_spec 0" | omega | l_fit | decide); (case kp1 => first | assumption | k_extra "isqrt_spec 1" | omega | l_fit | decide); (case kd => ktr_room); (case ku => ktr_units)); intro t9 h9 tk9 F9 N9; (try dsimp only); (try k_fold)))
local macro_rules | `(tactic| walk_at "call ref") => `(tactic| (k_here; (with_reducible show wpAny _ _ (call (Value.ref 29) [Value.int _ _, Value.int _ _]) _ _ _); k_dflt (refine' introot_spec ?kp0 ?kp1 ?kp2 ?kp3 ?k1 ?k2 ?k3 ?k4 ?k5 ?kK ?kH ?kd ?ku ?_; (case k1 => k_asm); (case k2 => k_asm); (case k3 => k_asm); (case k4 => k_asm); (case k5 => k_asm); (case kK => first | exact rfl | assumption); (case kH => first | trivial | k_asm); (case kp0 => first | assumption | k_extra "introot_spec 0" | omega | l_fit | decide); (case kp1 => first | assumption | k_extra "introot_spec 1" | omega | l_fit | decide); (case kp2 => first | assumption | k_extra "introot_spec 2" | omega | l_fit | decide); (case kp3 => first | assumption | k_extra "introot_spec 3" | omega | l_fit | decide); (case kd => ktr_room); (case ku => ktr_units)); intro t9 h9 tk9 F9 N9; (try dsimp only); (try k_fold)))
local macro_rules | `(tactic| walk_at "call ref") => `(tactic| (k_here; (with_reducible show wpAny _ _ (call (Value.ref 29) [Value.int _ _, Value.int _ _]) _ _ _); k_dflt (refine' introot_none ?kp0 ?kp1 ?k1 ?k2 ?k3 ?k4 ?k5 ?kK ?kH ?kd ?ku ?_; (case k1 => k_asm); (case k2 => k_asm); (case k3 => k_asm); (case k4 => k_asm); (case k5 => k_asm); (case kK => first | exact rfl | assumption); (case kH => first | trivial | k_asm); (case kp0 => first | assumption | k_extra "introot_none 0"); (case kp1 => first | assumption | k_extra "introot_none 1"); (case kd => ktr_room); (case ku => ktr_units)); intro t9 h9 tk9 F9 N9; (try dsimp only); (try k_fold)))
local macro_rules | `(tactic| walk_at "call ref") => `(tactic| (k_here; (with_reducible show wpAny _ _ (call (Value.ref 29) [Value.int _ _, Value.int _ _]) _ _ _); k_dflt (refine' introot_odd ?kp0 ?kp1 ?kp2 ?kp3 ?kp4 ?k1 ?k2 ?k3 ?k4 ?k5 ?kK ?kH ?kd ?ku ?_; (case k1 => k_asm); (case k2 => k_asm); (case k3 => k_asm); (case k4 => k_asm); (case k5 => k_asm); (case kK => first | exact rfl | assumption); (case kH => first | trivial | k_asm); (case kp0 => first | assumption | k_extra "introot_odd 0"); (case kp1 => first | assumption | k_extra "introot_odd 1"); (case kp2 => first | assumption | k_extra "introot_odd 2"); (case kp3 => first | assumption | k_extra "introot_odd 3"); (case kp4 => first | assumption | k_extra "introot_odd 4"); (case kd => ktr_room); (case ku => ktr_units)); intro t9 h9 tk9 F9 N9; (try dsimp only); (try k_fold)))
local macro_rules | `(tactic| walk_at "call ref") => `(tactic| (k_here; (with_reducible show wpAny _ _ (call (Value.ref 36) [Value.ref _, Value.int _ _]) _ _ _); k_dflt (refine' at_spec ?kp0 ?kp1 ?kp2 ?kp3 ?k1 ?k2 ?k3 ?k4 ?k5 ?kK ?kH ?kd ?ku ?_; (case k1 => k_asm); (case k2 => k_asm); (case k3 => k_asm); (case k4 => k_asm); (case k5 => k_asm); (case kK => first | exact rfl | assumption); (case kH => first | trivial | k_asm); (case kp0 => first | assumption | k_extra "at_spec 0" | omega | l_fit | decide); (case kp1 => first | assumption | k_extra "at_spec 1" | omega | l_fit | decide); (case kp2 => first | assumption | k_extra "at_spec 2" | omega | l_fit | decide); (case kp3 => first | assumption | k_extra "at_spec 3" | omega | l_fit | decide); (case kd => ktr_room); (case ku => ktr_units)); intro t9 h9 tk9 F9 N9; (try dsimp only); (try k_fold)))
local macro_rules | `(tactic| walk_at "call ref") => `(tactic| (k_here; (with_reducible show wpAny _ _ (call (Value.ref 43) [Value.int _ _, Value.int _ _]) _ _ _); k_dflt (refine' cut_spec ?k1 ?k2 ?k3 ?k4 ?k5 ?kK ?kH ?kd ?ku ?_; (case k1 => k_asm); (case k2 => k_asm); (case k3 => k_asm); (case k4 => k_asm); (case k5 => k_asm); (case kK => first | exact rfl | assumption); (case kH => first | trivial | k_asm);  (case kd => ktr_room); (case ku => ktr_units)); intro t9 h9 tk9 F9 N9; (try dsimp only); (try k_fold)))
set_option maxRecDepth 100000 in
set_option maxHeartbeats 8000000 in
theorem root_spec {w : World} {z r : Int} {t1 t2 : Tok} (hz : 1 ≤ z) (hb : z.natAbs < 2 ^ 300) (hr : 1 ≤ r) (hr2 : r ≤ 1000) : Cl w 50 1 (fun _ => True) [.int z t1, .int r t2] (fun t => .int (rootF r z) t) := by
  k_with_none
  dsimp only [Cl, Claim, Ret]
  k_fill
  intro loose mean mg mb news dp un gd cn cs a ccd cl outer A₀ base h₀ L m s Q E hB F X N T hk hH hd hu hret
  refine wpAny_call ?_
  (k_dflt cell_enter)
  have hr0 : 0 ≤ r := by omega
  k_with "exec While Compare cons nil" => first
    | ((with_reducible show wpAny _ _ (exec (PySem.Stmt.While (PySem.Expr.Compare _ [PySem.CmpOp.LtE] _ _) _ _ _) _) _ _ _); k_while (fun script st => L1 z r st) (fun script st => (z + 1 - st).toNat) "step")
    | ((with_reducible show wpAny _ _ (exec (PySem.Stmt.While (PySem.Expr.Compare _ [PySem.CmpOp.Gt] _ _) _ _ _) _) _ _ _); k_while (fun script st rt => L2 z r st rt) (fun script st rt => st.toNat) "step" "root")
  k_with "state" => first | exact l1_start hz | exact l1_turn (by assumption) (by assumption) | exact l2_start hr hz (by assumption) (by assumption) | exact l2_up (by assumption) (by assumption) (by assumption) | exact l2_stay (by assumption) (by assumption) (by assumption)
  k_with "measure" => first | exact l1_meas hr (by assumption) (by assumption) | exact l2_meas (by assumption)
  k_with "binaryOp Pow int int" => first | (refine pow_int hr0 (l1_size hb hr hr2 (by assumption)) ?_) | (refine pow_int hr0 (l2_size hb hr hr2 (by assumption)) ?_)
  k_steps
  all_goals first | (refine ret_int (Q := Q) hret (by exact l2_done hr (by assumption) (by assumption)) (by k_asm) (by first | k_asm | exact cb_drop (by assumption) (by kcj_all)))
theorem root_val {w : World} {z r v : Int} {t1 t2 : Tok} (he : rootF r z = v) (hz : 1 ≤ z) (hb : z.natAbs < 2 ^ 300) (hr : 1 ≤ r) (hr2 : r ≤ 1000) : Cl w 50 1 (fun _ => True) [.int z t1, .int r t2] (fun t => .int v t) := by
  subst he
  exact root_spec hz hb hr hr2
local macro_rules | `(tactic| walk_at "call ref") => `(tactic| (k_here; (with_reducible show wpAny _ _ (call (Value.ref 50) [Value.int _ _, Value.int _ _]) _ _ _); k_dflt (refine' root_val ?kp0 ?kp1 ?kp2 ?kp3 ?kp4 ?k1 ?k2 ?k3 ?k4 ?k5 ?kK ?kH ?kd ?ku ?_; (case k1 => k_asm); (case k2 => k_asm); (case k3 => k_asm); (case k4 => k_asm); (case k5 => k_asm); (case kK => first | exact rfl | assumption); (case kH => first | trivial | k_asm); (case kp0 => first | assumption | k_extra "root_val 0"); (case kp1 => first | assumption | k_extra "root_val 1"); (case kp2 => first | assumption | k_extra "root_val 2"); (case kp3 => first | assumption | k_extra "root_val 3"); (case kp4 => first | assumption | k_extra "root_val 4"); (case kd => ktr_room); (case ku => ktr_units)); intro t9 h9 tk9 F9 N9; (try dsimp only); (try k_fold)))
set_option maxRecDepth 100000 in
set_option maxHeartbeats 8000000 in
theorem dueA {w : World} {n r : Int} {t1 t2 : Tok} (hc : ClsA n r) : ClT w 57 2 (fun _ => True) [.int n t1, .int r t2] (fun t => .str (Str.ofString "value") t) (fun _ => .none) := by
  k_with_none
  dsimp only [ClT, ClaimT, RetT]
  k_fill
  intro loose mean mg mb news dp un gd cn cs a ccd cl outer A₀ base h₀ L m s Q E hB F X N T hk hH hd hu hret
  refine wpAny_call ?_
  (k_dflt cell_enter)
  k_with "ite" => first | with_reducible refine ite_beq_ne (by assumption) ?_ | with_reducible refine ite_beq_eq (by assumption) ?_ | with_reducible refine ite_bne_eq (by assumption) ?_ | with_reducible refine ite_bne_ne (by assumption) ?_
  have hc1 := hc.1
  have hc2 := hc.2
  k_steps
  all_goals first | (exfalso; omega) | (exact absurd hc2 (by assumption)) | (refine hret _ _ _ _ _ _ (by k_asm) (by first | k_asm | exact cb_drop (by assumption) (by kcj_all)) (by first | assumption | exact PySem.W.kst_ltOf (by assumption) | (intro q9 h9; first | exact (by assumption : ∀ p ∈ _, p.1 < _) q9 h9))) | (refine hret _ _ (0 : Tok) _ _ _ (by k_asm) (by first | k_asm | exact cb_drop (by assumption) (by kcj_all)) (by first | assumption | exact PySem.W.kst_ltOf (by assumption) | (intro q9 h9; first | exact (by assumption : ∀ p ∈ _, p.1 < _) q9 h9)))
set_option maxRecDepth 100000 in
set_option maxHeartbeats 8000000 in
theorem dueC {w : World} {n r : Int} {t1 t2 : Tok} (hc : ClsC n r) : ClT w 57 2 (fun _ => True) [.int n t1, .int r t2] (fun t => .str (Str.ofString "nought") t) (fun t => .int 0 t) := by
  k_with_none
  dsimp only [ClT, ClaimT, RetT]
  k_fill
  intro loose mean mg mb news dp un gd cn cs a ccd cl outer A₀ base h₀ L m s Q E hB F X N T hk hH hd hu hret
  refine wpAny_call ?_
  (k_dflt cell_enter)
  k_with "ite" => first | with_reducible refine ite_beq_ne (by assumption) ?_ | with_reducible refine ite_beq_eq (by assumption) ?_ | with_reducible refine ite_bne_eq (by assumption) ?_ | with_reducible refine ite_bne_ne (by assumption) ?_
  have hc1 := hc.1
  have hc2 := hc.2
  k_steps
  all_goals first | (exfalso; omega) | (refine hret _ _ _ _ _ _ (by k_asm) (by first | k_asm | exact cb_drop (by assumption) (by kcj_all)) (by first | assumption | exact PySem.W.kst_ltOf (by assumption) | (intro q9 h9; first | exact (by assumption : ∀ p ∈ _, p.1 < _) q9 h9))) | (refine hret _ _ (0 : Tok) _ _ _ (by k_asm) (by first | k_asm | exact cb_drop (by assumption) (by kcj_all)) (by first | assumption | exact PySem.W.kst_ltOf (by assumption) | (intro q9 h9; first | exact (by assumption : ∀ p ∈ _, p.1 < _) q9 h9)))
set_option maxRecDepth 100000 in
set_option maxHeartbeats 8000000 in
theorem dueD {w : World} {n r : Int} {t1 t2 : Tok} (hc : ClsD n r) : ClT w 57 2 (fun _ => True) [.int n t1, .int r t2] (fun t => .str (Str.ofString "below") t) (fun t => .int 0 t) := by
  k_with_none
  dsimp only [ClT, ClaimT, RetT]
  k_fill
  intro loose mean mg mb news dp un gd cn cs a ccd cl outer A₀ base h₀ L m s Q E hB F X N T hk hH hd hu hret
  refine wpAny_call ?_
  (k_dflt cell_enter)
  k_with "ite" => first | with_reducible refine ite_beq_ne (by assumption) ?_ | with_reducible refine ite_beq_eq (by assumption) ?_ | with_reducible refine ite_bne_eq (by assumption) ?_ | with_reducible refine ite_bne_ne (by assumption) ?_
  have hc1 := hc.1
  have hc2 := hc.2.1
  have hc3 := hc.2.2
  k_steps
  all_goals first | (exfalso; omega) | (exact absurd ⟨by assumption, by assumption⟩ hc1) | (refine hret _ _ _ _ _ _ (by k_asm) (by first | k_asm | exact cb_drop (by assumption) (by kcj_all)) (by first | assumption | exact PySem.W.kst_ltOf (by assumption) | (intro q9 h9; first | exact (by assumption : ∀ p ∈ _, p.1 < _) q9 h9))) | (refine hret _ _ (0 : Tok) _ _ _ (by k_asm) (by first | k_asm | exact cb_drop (by assumption) (by kcj_all)) (by first | assumption | exact PySem.W.kst_ltOf (by assumption) | (intro q9 h9; first | exact (by assumption : ∀ p ∈ _, p.1 < _) q9 h9)))
set_option maxRecDepth 100000 in
set_option maxHeartbeats 8000000 in
theorem dueB1 {w : World} {n r : Int} {t1 t2 : Tok} (hc : ¬ ClsA n r) (h2 : n.natAbs < 2) : ClT w 57 2 (fun _ => True) [.int n t1, .int r t2] (fun t => .str (Str.ofString "value") t) (fun t => .int n t) := by
  k_with_none
  dsimp only [ClT, ClaimT, RetT]
  k_fill
  intro loose mean mg mb news dp un gd cn cs a ccd cl outer A₀ base h₀ L m s Q E hB F X N T hk hH hd hu hret
  refine wpAny_call ?_
  (k_dflt cell_enter)
  k_with "ite" => first | with_reducible refine ite_beq_ne (by assumption) ?_ | with_reducible refine ite_beq_eq (by assumption) ?_ | with_reducible refine ite_bne_eq (by assumption) ?_ | with_reducible refine ite_bne_ne (by assumption) ?_
  k_steps
  all_goals first | (exfalso; omega) | (exact absurd ⟨by assumption, by assumption⟩ hc) | (refine hret _ _ _ _ _ _ (by k_asm) (by first | k_asm | exact cb_drop (by assumption) (by kcj_all)) (by first | assumption | exact PySem.W.kst_ltOf (by assumption) | (intro q9 h9; first | exact (by assumption : ∀ p ∈ _, p.1 < _) q9 h9))) | (refine hret _ _ (0 : Tok) _ _ _ (by k_asm) (by first | k_asm | exact cb_drop (by assumption) (by kcj_all)) (by first | assumption | exact PySem.W.kst_ltOf (by assumption) | (intro q9 h9; first | exact (by assumption : ∀ p ∈ _, p.1 < _) q9 h9)))
set_option maxRecDepth 100000 in
set_option maxHeartbeats 8000000 in
theorem dueB2 {w : World} {n r : Int} {t1 t2 : Tok} (hn : 2 ≤ n) (hb : n.natAbs < 2 ^ 300) (hr : 1 ≤ r) (hr2 : r ≤ 1000) : ClT w 57 2 (fun _ => True) [.int n t1, .int r t2] (fun t => .str (Str.ofString "value") t) (fun t => .int (rootF r n) t) := by
  k_with_none
  dsimp only [ClT, ClaimT, RetT]
  k_fill
  intro loose mean mg mb news dp un gd cn cs a ccd cl outer A₀ base h₀ L m s Q E hB F X N T hk hH hd hu hret
  refine wpAny_call ?_
  (k_dflt cell_enter)
  k_with "ite" => first | with_reducible refine ite_beq_ne (by assumption) ?_ | with_reducible refine ite_beq_eq (by assumption) ?_ | with_reducible refine ite_bne_eq (by assumption) ?_ | with_reducible refine ite_bne_ne (by assumption) ?_
  have hz9 : 2 ≤ n.natAbs := by omega
  have hr9 : r ≠ 0 := by omega
  k_with "root_val 0" => exact abs_root_pos hn
  k_with "root_val 1" => exact abs_ge1 hz9
  k_with "root_val 2" => exact abs_bd hb
  k_steps
  all_goals first | (exfalso; omega) | (refine hret _ _ _ _ _ _ (by k_asm) (by first | k_asm | exact cb_drop (by assumption) (by kcj_all)) (by first | assumption | exact PySem.W.kst_ltOf (by assumption) | (intro q9 h9; first | exact (by assumption : ∀ p ∈ _, p.1 < _) q9 h9))) | (refine hret _ _ (0 : Tok) _ _ _ (by k_asm) (by first | k_asm | exact cb_drop (by assumption) (by kcj_all)) (by first | assumption | exact PySem.W.kst_ltOf (by assumption) | (intro q9 h9; first | exact (by assumption : ∀ p ∈ _, p.1 < _) q9 h9)))
set_option maxRecDepth 100000 in
set_option maxHeartbeats 8000000 in
theorem dueB3 {w : World} {n r : Int} {t1 t2 : Tok} (hn : n ≤ -2) (ho : r.fmod 2 ≠ 0) (hb : n.natAbs < 2 ^ 300) (hr : 1 ≤ r) (hr2 : r ≤ 1000) : ClT w 57 2 (fun _ => True) [.int n t1, .int r t2] (fun t => .str (Str.ofString "value") t) (fun t => .int (-rootF r (-n)) t) := by
  k_with_none
  dsimp only [ClT, ClaimT, RetT]
  k_fill
  intro loose mean mg mb news dp un gd cn cs a ccd cl outer A₀ base h₀ L m s Q E hB F X N T hk hH hd hu hret
  refine wpAny_call ?_
  (k_dflt cell_enter)
  k_with "ite" => first | with_reducible refine ite_beq_ne (by assumption) ?_ | with_reducible refine ite_beq_eq (by assumption) ?_ | with_reducible refine ite_bne_eq (by assumption) ?_ | with_reducible refine ite_bne_ne (by assumption) ?_
  have hz9 : 2 ≤ n.natAbs := by omega
  have hr9 : r ≠ 0 := by omega
  k_with "root_val 0" => exact abs_root_neg hn
  k_with "root_val 1" => exact abs_ge1 hz9
  k_with "root_val 2" => exact abs_bd hb
  k_steps
  all_goals first | (exfalso; omega) | (exact absurd (by assumption) ho) | (refine hret _ _ _ _ _ _ (by k_asm) (by first | k_asm | exact cb_drop (by assumption) (by kcj_all)) (by first | assumption | exact PySem.W.kst_ltOf (by assumption) | (intro q9 h9; first | exact (by assumption : ∀ p ∈ _, p.1 < _) q9 h9))) | (refine hret _ _ (0 : Tok) _ _ _ (by k_asm) (by first | k_asm | exact cb_drop (by assumption) (by kcj_all)) (by first | assumption | exact PySem.W.kst_ltOf (by assumption) | (intro q9 h9; first | exact (by assumption : ∀ p ∈ _, p.1 < _) q9 h9)))
set_option maxRecDepth 100000 in
set_option maxHeartbeats 8000000 in
theorem introot_unit {w : World} {n r : Int} {t1 t2 : Tok} (h0 : 0 ≤ n) (h1 : n < 2) : Cl w 29 1 (fun _ => True) [.int n t1, .int r t2] (fun t => .int n t) := by
  k_with_none
  dsimp only [Cl, Claim, Ret]
  k_fill
  intro loose mean mg mb news dp un gd cn cs a ccd cl outer A₀ base h₀ L m s Q E hB F X N T hk hH hd hu hret
  refine wpAny_call ?_
  (k_dflt (refine' code_def ?k1 ?k2 ?k3 ?k4 ?k5 ?kA ?kF ?kK ?k6 ?k7 ?k8 ?k9 ?kB ?_ ?c2 ?c3 ?c4 ?c5; (case kA => exact rfl); (case kF => exact rfl); (case kK => assumption); (case k1 => k_asm); (case k2 => k_asm); (case k3 => k_asm); (case k4 => k_asm); (case k5 => k_asm); (case k6 => k_is); (case k7 => k_is); (case k8 => ktr_room); (case k9 => exact binds_K (by k_in) rfl (by k_is) rfl rfl rfl); (case c5 => decide); (case kB => exact locs rfl); (case c2 => exact rfl); (case c3 => exact rfl); (case c4 => exact rfl); k_whole; intro g' L' h' FG' F' N' B' X' T'; (try dsimp only); (try k_lift B'); (try k_fold)))
  k_steps
  all_goals first | (refine ret_int (Q := Q) hret (by rfl) (by k_asm) (by first | k_asm | exact cb_drop (by assumption) (by kcj_all)))
local macro_rules | `(tactic| walk_at "call ref") => `(tactic| (k_here; (with_reducible show wpAny _ _ (call (Value.ref 29) [Value.int _ _, Value.int _ _]) _ _ _); k_dflt (refine' introot_unit ?kp0 ?kp1 ?k1 ?k2 ?k3 ?k4 ?k5 ?kK ?kH ?kd ?ku ?_; (case k1 => k_asm); (case k2 => k_asm); (case k3 => k_asm); (case k4 => k_asm); (case k5 => k_asm); (case kK => first | exact rfl | assumption); (case kH => first | trivial | k_asm); (case kp0 => first | assumption | k_extra "introot_unit 0"); (case kp1 => first | assumption | k_extra "introot_unit 1"); (case kd => ktr_room); (case ku => ktr_units)); intro t9 h9 tk9 F9 N9; (try dsimp only); (try k_fold)))
set_option maxRecDepth 100000 in
set_option maxHeartbeats 8000000 in
theorem introot_b1 {w : World} {n r : Int} {t1 t2 : Tok} (hc : ¬ ClsA n r) (h2 : n.natAbs < 2) : Cl w 29 2 (fun _ => True) [.int n t1, .int r t2] (fun t => .int n t) := by
  k_with_none
  dsimp only [Cl, Claim, Ret]
  k_fill
  intro loose mean mg mb news dp un gd cn cs a ccd cl outer A₀ base h₀ L m s Q E hB F X N T hk hH hd hu hret
  refine wpAny_call ?_
  (k_dflt (refine' code_def ?k1 ?k2 ?k3 ?k4 ?k5 ?kA ?kF ?kK ?k6 ?k7 ?k8 ?k9 ?kB ?_ ?c2 ?c3 ?c4 ?c5; (case kA => exact rfl); (case kF => exact rfl); (case kK => assumption); (case k1 => k_asm); (case k2 => k_asm); (case k3 => k_asm); (case k4 => k_asm); (case k5 => k_asm); (case k6 => k_is); (case k7 => k_is); (case k8 => ktr_room); (case k9 => exact binds_K (by k_in) rfl (by k_is) rfl rfl rfl); (case c5 => decide); (case kB => exact locs rfl); (case c2 => exact rfl); (case c3 => exact rfl); (case c4 => exact rfl); k_whole; intro g' L' h' FG' F' N' B' X' T'; (try dsimp only); (try k_lift B'); (try k_fold)))
  k_with "introot_unit 0" => omega
  k_with "introot_unit 1" => omega
  k_steps
  all_goals first | (exact absurd ⟨by assumption, by assumption⟩ hc) | (refine ret_int (Q := Q) hret (by first | rfl | omega) (by k_asm) (by first | k_asm | exact cb_drop (by assumption) (by kcj_all)))
end Mine
namespace Mine
local macro_rules | `(tactic| walk_at "call ref") => `(tactic| (k_here; (with_reducible show wpAny _ _ (call (Value.ref 21) [Value.int _ _]) _ _ _); k_dflt (refine' isqrt_spec ?kp0 ?kp1 ?k1 ?k2 ?k3 ?k4 ?k5 ?kK ?kH ?kd ?ku ?_; (case k1 => k_asm); (case k2 => k_asm); (case k3 => k_asm); (case k4 => k_asm); (case k5 => k_asm); (case kK => first | exact rfl | assumption); (case kH => first | trivial | k_asm); (case kp0 => first | assumption | k_extra "isqrt_spec 0" | omega | l_fit | decide); (case kp1 => first | assumption | k_extra "isqrt_spec 1" | omega | l_fit | decide); (case kd => ktr_room); (case ku => ktr_units)); intro t9 h9 tk9 F9 N9; (try dsimp only); (try k_fold)))
local macro_rules | `(tactic| walk_at "call ref") => `(tactic| (k_here; (with_reducible show wpAny _ _ (call (Value.ref 29) [Value.int _ _, Value.int _ _]) _ _ _); k_dflt (refine' introot_spec ?kp0 ?kp1 ?kp2 ?kp3 ?k1 ?k2 ?k3 ?k4 ?k5 ?kK ?kH ?kd ?ku ?_; (case k1 => k_asm); (case k2 => k_asm); (case k3 => k_asm); (case k4 => k_asm); (case k5 => k_asm); (case kK => first | exact rfl | assumption); (case kH => first | trivial | k_asm); (case kp0 => first | assumption | k_extra "introot_spec 0" | omega | l_fit | decide); (case kp1 => first | assumption | k_extra "introot_spec 1" | omega | l_fit | decide); (case kp2 => first | assumption | k_extra "introot_spec 2" | omega | l_fit | decide); (case kp3 => first | assumption | k_extra "introot_spec 3" | omega | l_fit | decide); (case kd => ktr_room); (case ku => ktr_units)); intro t9 h9 tk9 F9 N9; (try dsimp only); (try k_fold)))
local macro_rules | `(tactic| walk_at "call ref") => `(tactic| (k_here; (with_reducible show wpAny _ _ (call (Value.ref 29) [Value.int _ _, Value.int _ _]) _ _ _); k_dflt (refine' introot_none ?kp0 ?kp1 ?k1 ?k2 ?k3 ?k4 ?k5 ?kK ?kH ?kd ?ku ?_; (case k1 => k_asm); (case k2 => k_asm); (case k3 => k_asm); (case k4 => k_asm); (case k5 => k_asm); (case kK => first | exact rfl | assumption); (case kH => first | trivial | k_asm); (case kp0 => first | assumption | k_extra "introot_none 0"); (case kp1 => first | assumption | k_extra "introot_none 1"); (case kd => ktr_room); (case ku => ktr_units)); intro t9 h9 tk9 F9 N9; (try dsimp only); (try k_fold)))
local macro_rules | `(tactic| walk_at "call ref") => `(tactic| (k_here; (with_reducible show wpAny _ _ (call (Value.ref 29) [Value.int _ _, Value.int _ _]) _ _ _); k_dflt (refine' introot_odd ?kp0 ?kp1 ?kp2 ?kp3 ?kp4 ?k1 ?k2 ?k3 ?k4 ?k5 ?kK ?kH ?kd ?ku ?_; (case k1 => k_asm); (case k2 => k_asm); (case k3 => k_asm); (case k4 => k_asm); (case k5 => k_asm); (case kK => first | exact rfl | assumption); (case kH => first | trivial | k_asm); (case kp0 => first | assumption | k_extra "introot_odd 0"); (case kp1 => first | assumption | k_extra "introot_odd 1"); (case kp2 => first | assumption | k_extra "introot_odd 2"); (case kp3 => first | assumption | k_extra "introot_odd 3"); (case kp4 => first | assumption | k_extra "introot_odd 4"); (case kd => ktr_room); (case ku => ktr_units)); intro t9 h9 tk9 F9 N9; (try dsimp only); (try k_fold)))
local macro_rules | `(tactic| walk_at "call ref") => `(tactic| (k_here; (with_reducible show wpAny _ _ (call (Value.ref 36) [Value.ref _, Value.int _ _]) _ _ _); k_dflt (refine' at_spec ?kp0 ?kp1 ?kp2 ?kp3 ?k1 ?k2 ?k3 ?k4 ?k5 ?kK ?kH ?kd ?ku ?_; (case k1 => k_asm); (case k2 => k_asm); (case k3 => k_asm); (case k4 => k_asm); (case k5 => k_asm); (case kK => first | exact rfl | assumption); (case kH => first | trivial | k_asm); (case kp0 => first | assumption | k_extra "at_spec 0" | omega | l_fit | decide); (case kp1 => first | assumption | k_extra "at_spec 1" | omega | l_fit | decide); (case kp2 => first | assumption | k_extra "at_spec 2" | omega | l_fit | decide); (case kp3 => first | assumption | k_extra "at_spec 3" | omega | l_fit | decide); (case kd => ktr_room); (case ku => ktr_units)); intro t9 h9 tk9 F9 N9; (try dsimp only); (try k_fold)))
local macro_rules | `(tactic| walk_at "call ref") => `(tactic| (k_here; (with_reducible show wpAny _ _ (call (Value.ref 43) [Value.int _ _, Value.int _ _]) _ _ _); k_dflt (refine' cut_spec ?k1 ?k2 ?k3 ?k4 ?k5 ?kK ?kH ?kd ?ku ?_; (case k1 => k_asm); (case k2 => k_asm); (case k3 => k_asm); (case k4 => k_asm); (case k5 => k_asm); (case kK => first | exact rfl | assumption); (case kH => first | trivial | k_asm);  (case kd => ktr_room); (case ku => ktr_units)); intro t9 h9 tk9 F9 N9; (try dsimp only); (try k_fold)))
local macro_rules | `(tactic| walk_at "call ref") => `(tactic| (k_here; (with_reducible show wpAny _ _ (call (Value.ref 50) [Value.int _ _, Value.int _ _]) _ _ _); k_dflt (refine' root_val ?kp0 ?kp1 ?kp2 ?kp3 ?kp4 ?k1 ?k2 ?k3 ?k4 ?k5 ?kK ?kH ?kd ?ku ?_; (case k1 => k_asm); (case k2 => k_asm); (case k3 => k_asm); (case k4 => k_asm); (case k5 => k_asm); (case kK => first | exact rfl | assumption); (case kH => first | trivial | k_asm); (case kp0 => first | assumption | k_extra "root_val 0"); (case kp1 => first | assumption | k_extra "root_val 1"); (case kp2 => first | assumption | k_extra "root_val 2"); (case kp3 => first | assumption | k_extra "root_val 3"); (case kp4 => first | assumption | k_extra "root_val 4"); (case kd => ktr_room); (case ku => ktr_units)); intro t9 h9 tk9 F9 N9; (try dsimp only); (try k_fold)))
local macro_rules | `(tactic| walk_at "call ref") => `(tactic| (k_here; (with_reducible show wpAny _ _ (call (Value.ref 29) [Value.int _ _, Value.int _ _]) _ _ _); k_dflt (refine' introot_unit ?kp0 ?kp1 ?k1 ?k2 ?k3 ?k4 ?k5 ?kK ?kH ?kd ?ku ?_; (case k1 => k_asm); (case k2 => k_asm); (case k3 => k_asm); (case k4 => k_asm); (case k5 => k_asm); (case kK => first | exact rfl | assumption); (case kH => first | trivial | k_asm); (case kp0 => first | assumption | k_extra "introot_unit 0"); (case kp1 => first | assumption | k_extra "introot_unit 1"); (case kd => ktr_room); (case ku => ktr_units)); intro t9 h9 tk9 F9 N9; (try dsimp only); (try k_fold)))
local macro_rules | `(tactic| walk_at "call ref") => `(tactic| (k_here; (with_reducible show wpAny _ _ (call (Value.ref 29) [Value.int _ _, Value.int _ _]) _ _ _); k_dflt (refine' introot_b1 ?kp0 ?kp1 ?k1 ?k2 ?k3 ?k4 ?k5 ?kK ?kH ?kd ?ku ?_; (case k1 => k_asm); (case k2 => k_asm); (case k3 => k_asm); (case k4 => k_asm); (case k5 => k_asm); (case kK => first | exact rfl | assumption); (case kH => first | trivial | k_asm); (case kp0 => first | assumption | k_extra "introot_b1 0"); (case kp1 => first | assumption | k_extra "introot_b1 1"); (case kd => ktr_room); (case ku => ktr_units)); intro t9 h9 tk9 F9 N9; (try dsimp only); (try k_fold)))
set_option maxRecDepth 100000 in
set_option maxHeartbeats 8000000 in
theorem toldA {w : World} {n r : Int} {t1 t2 : Tok} (hc : ClsA n r) : ClT w 64 5 (fun _ => True) [.int n t1, .int r t2] (fun t => .str (Str.ofString "value") t) (fun _ => .none) := by
  k_with_none
  dsimp only [ClT, ClaimT, RetT]
  k_fill
  intro loose mean mg mb news dp un gd cn cs a ccd cl outer A₀ base h₀ L m s Q E hB F X N T hk hH hd hu hret
  refine wpAny_call ?_
  (k_dflt cell_enter)
  k_with "ite" => first | with_reducible refine ite_beq_ne (by assumption) ?_ | with_reducible refine ite_beq_eq (by assumption) ?_ | with_reducible refine ite_bne_eq (by assumption) ?_ | with_reducible refine ite_bne_ne (by assumption) ?_
  k_with "introot_none 0" => exact hc.1
  k_with "introot_none 1" => exact hc.2
  k_steps
  all_goals first | (exfalso; omega) | (refine hret _ _ _ _ _ _ (by k_asm) (by first | k_asm | exact cb_drop (by assumption) (by kcj_all)) (by first | assumption | exact PySem.W.kst_ltOf (by assumption) | (intro q9 h9; first | exact (by assumption : ∀ p ∈ _, p.1 < _) q9 h9))) | (refine hret _ _ (0 : Tok) _ _ _ (by k_asm) (by first | k_asm | exact cb_drop (by assumption) (by kcj_all)) (by first | assumption | exact PySem.W.kst_ltOf (by assumption) | (intro q9 h9; first | exact (by assumption : ∀ p ∈ _, p.1 < _) q9 h9)))
set_option maxRecDepth 100000 in
set_option maxHeartbeats 8000000 in
theorem toldB1 {w : World} {n r : Int} {t1 t2 : Tok} (hc : ¬ ClsA n r) (h2 : n.natAbs < 2) : ClT w 64 5 (fun _ => True) [.int n t1, .int r t2] (fun t => .str (Str.ofString "value") t) (fun t => .int n t) := by
  k_with_none
  dsimp only [ClT, ClaimT, RetT]
  k_fill
  intro loose mean mg mb news dp un gd cn cs a ccd cl outer A₀ base h₀ L m s Q E hB F X N T hk hH hd hu hret
  refine wpAny_call ?_
  (k_dflt cell_enter)
  k_with "ite" => first | with_reducible refine ite_beq_ne (by assumption) ?_ | with_reducible refine ite_beq_eq (by assumption) ?_ | with_reducible refine ite_bne_eq (by assumption) ?_ | with_reducible refine ite_bne_ne (by assumption) ?_
  k_steps
  all_goals first | (exfalso; omega) | (refine hret _ _ _ _ _ _ (by k_asm) (by first | k_asm | exact cb_drop (by assumption) (by kcj_all)) (by first | assumption | exact PySem.W.kst_ltOf (by assumption) | (intro q9 h9; first | exact (by assumption : ∀ p ∈ _, p.1 < _) q9 h9))) | (refine hret _ _ (0 : Tok) _ _ _ (by k_asm) (by first | k_asm | exact cb_drop (by assumption) (by kcj_all)) (by first | assumption | exact PySem.W.kst_ltOf (by assumption) | (intro q9 h9; first | exact (by assumption : ∀ p ∈ _, p.1 < _) q9 h9)))
set_option maxRecDepth 100000 in
set_option maxHeartbeats 8000000 in
theorem toldB2 {w : World} {n r : Int} {t1 t2 : Tok} (hn : 2 ≤ n) (hb : n.natAbs < 2 ^ 300) (hr : 1 ≤ r) (hr2 : r ≤ 1000) : ClT w 64 5 (fun _ => True) [.int n t1, .int r t2] (fun t => .str (Str.ofString "value") t) (fun t => .int (rootF r n) t) := by
  k_with_none
  dsimp only [ClT, ClaimT, RetT]
  k_fill
  intro loose mean mg mb news dp un gd cn cs a ccd cl outer A₀ base h₀ L m s Q E hB F X N T hk hH hd hu hret
  refine wpAny_call ?_
  (k_dflt cell_enter)
  k_with "ite" => first | with_reducible refine ite_beq_ne (by assumption) ?_ | with_reducible refine ite_beq_eq (by assumption) ?_ | with_reducible refine ite_bne_eq (by assumption) ?_ | with_reducible refine ite_bne_ne (by assumption) ?_
  have hn0 : 0 ≤ n := by omega
  have hb9 := Nat.lt_of_lt_of_le hb (pow2_mono (by decide : 300 ≤ 1900))
  k_steps
  all_goals first | (exfalso; omega) | (refine hret _ _ _ _ _ _ (by k_asm) (by first | k_asm | exact cb_drop (by assumption) (by kcj_all)) (by first | assumption | exact PySem.W.kst_ltOf (by assumption) | (intro q9 h9; first | exact (by assumption : ∀ p ∈ _, p.1 < _) q9 h9))) | (refine hret _ _ (0 : Tok) _ _ _ (by k_asm) (by first | k_asm | exact cb_drop (by assumption) (by kcj_all)) (by first | assumption | exact PySem.W.kst_ltOf (by assumption) | (intro q9 h9; first | exact (by assumption : ∀ p ∈ _, p.1 < _) q9 h9)))
set_option maxRecDepth 100000 in
set_option maxHeartbeats 8000000 in
theorem toldB3 {w : World} {n r : Int} {t1 t2 : Tok} (hn : n ≤ -2) (ho : r.fmod 2 ≠ 0) (hb : n.natAbs < 2 ^ 300) (hr : 1 ≤ r) (hr2 : r ≤ 1000) : ClT w 64 5 (fun _ => True) [.int n t1, .int r t2] (fun t => .str (Str.ofString "value") t) (fun t => .int (-rootF r (-n)) t) := by
  k_with_none
  dsimp only [ClT, ClaimT, RetT]
  k_fill
  intro loose mean mg mb news dp un gd cn cs a ccd cl outer A₀ base h₀ L m s Q E hB F X N T hk hH hd hu hret
  refine wpAny_call ?_
  (k_dflt cell_enter)
  k_with "ite" => first | with_reducible refine ite_beq_ne (by assumption) ?_ | with_reducible refine ite_beq_eq (by assumption) ?_ | with_reducible refine ite_bne_eq (by assumption) ?_ | with_reducible refine ite_bne_ne (by assumption) ?_
  have hn0 : n < 0 := by omega
  have hb9 := Nat.lt_of_lt_of_le hb (pow2_mono (by decide : 300 ≤ 1900))
  k_steps
  all_goals first | (exfalso; omega) | (refine hret _ _ _ _ _ _ (by k_asm) (by first | k_asm | exact cb_drop (by assumption) (by kcj_all)) (by first | assumption | exact PySem.W.kst_ltOf (by assumption) | (intro q9 h9; first | exact (by assumption : ∀ p ∈ _, p.1 < _) q9 h9))) | (refine hret _ _ (0 : Tok) _ _ _ (by k_asm) (by first | k_asm | exact cb_drop (by assumption) (by kcj_all)) (by first | assumption | exact PySem.W.kst_ltOf (by assumption) | (intro q9 h9; first | exact (by assumption : ∀ p ∈ _, p.1 < _) q9 h9)))
end Mine
open Mine
local macro_rules | `(tactic| walk_at "call ref") => `(tactic| (k_here; (with_reducible show wpAny _ _ (call (Value.ref 36) [Value.ref _, Value.int _ _]) _ _ _); k_dflt (refine' at_spec ?kp0 ?kp1 ?kp2 ?kp3 ?k1 ?k2 ?k3 ?k4 ?k5 ?kK ?kH ?kd ?ku ?_; (case k1 => k_asm); (case k2 => k_asm); (case k3 => k_asm); (case k4 => k_asm); (case k5 => k_asm); (case kK => first | exact rfl | assumption); (case kH => first | trivial | k_asm); (case kp0 => first | assumption | k_extra "at_spec 0" | omega | l_fit | decide); (case kp1 => first | assumption | k_extra "at_spec 1" | omega | l_fit | decide); (case kp2 => first | assumption | k_extra "at_spec 2" | omega | l_fit | decide); (case kp3 => first | assumption | k_extra "at_spec 3" | omega | l_fit | decide); (case kd => ktr_room); (case ku => ktr_units)); intro t9 h9 tk9 F9 N9; (try dsimp only); (try k_fold)))
local macro_rules | `(tactic| walk_at "call ref") => `(tactic| (k_here; (with_reducible show wpAny _ _ (call (Value.ref 43) [Value.int _ _, Value.int _ _]) _ _ _); k_dflt (refine' cut_spec ?k1 ?k2 ?k3 ?k4 ?k5 ?kK ?kH ?kd ?ku ?_; (case k1 => k_asm); (case k2 => k_asm); (case k3 => k_asm); (case k4 => k_asm); (case k5 => k_asm); (case kK => first | exact rfl | assumption); (case kH => first | trivial | k_asm);  (case kd => ktr_room); (case ku => ktr_units)); intro t9 h9 tk9 F9 N9; (try dsimp only); (try k_fold)))
local macro_rules | `(tactic| walk_at "call ref") => `(tactic| (k_here; (with_reducible show wpAny _ _ (call (Value.ref 64) [Value.int _ _, Value.int _ _]) _ _ _); (fail_if_success (with_reducible rename ClsC _ _ => h9)); (fail_if_success (with_reducible rename ClsD _ _ => h9)); (fail_if_success (with_reducible rename ClsA _ _ => h9)); (fail_if_success (with_reducible rename ¬ ClsA _ _ => h9)); (first | (refine' split_unit ?sp0 ?_ ?_; (case sp0 => k_extra "unit")) | (refine' split_all ?sp1 ?sp2 ?_ ?_ ?_ ?_ ?_ ?_ ?_; (case sp1 => k_extra "nbd"); (case sp2 => k_extra "rbd"))); (all_goals (intros; skip))))
local macro_rules | `(tactic| walk_at "call ref") => `(tactic| (k_here; (with_reducible show wpAny _ _ (call (Value.ref 64) [Value.int _ _, Value.int _ _]) _ _ _); k_dflt (refine' toldA ?kp0 ?k1 ?k2 ?k3 ?k4 ?k5 ?kK ?kH ?kd ?ku ?_; (case k1 => k_asm); (case k2 => k_asm); (case k3 => k_asm); (case k4 => k_asm); (case k5 => k_asm); (case kK => first | exact rfl | assumption); (case kH => first | trivial | k_asm); (case kp0 => first | assumption | k_extra "toldA 0"); (case kd => ktr_room); (case ku => ktr_units)); intro D9 t9 u9 c9 h9 tk9 F9 N9 l9; (try k_lt l9); (try dsimp only); (try k_fold)))
local macro_rules | `(tactic| walk_at "call ref") => `(tactic| (k_here; (with_reducible show wpAny _ _ (call (Value.ref 64) [Value.int _ _, Value.int _ _]) _ _ _); k_dflt (refine' toldB1 ?kp0 ?kp1 ?k1 ?k2 ?k3 ?k4 ?k5 ?kK ?kH ?kd ?ku ?_; (case k1 => k_asm); (case k2 => k_asm); (case k3 => k_asm); (case k4 => k_asm); (case k5 => k_asm); (case kK => first | exact rfl | assumption); (case kH => first | trivial | k_asm); (case kp0 => first | assumption | k_extra "toldB1 0"); (case kp1 => first | assumption | k_extra "toldB1 1"); (case kd => ktr_room); (case ku => ktr_units)); intro D9 t9 u9 c9 h9 tk9 F9 N9 l9; (try k_lt l9); (try dsimp only); (try k_fold)))
local macro_rules | `(tactic| walk_at "call ref") => `(tactic| (k_here; (with_reducible show wpAny _ _ (call (Value.ref 64) [Value.int _ _, Value.int _ _]) _ _ _); k_dflt (refine' toldB2 ?kp0 ?kp1 ?kp2 ?kp3 ?k1 ?k2 ?k3 ?k4 ?k5 ?kK ?kH ?kd ?ku ?_; (case k1 => k_asm); (case k2 => k_asm); (case k3 => k_asm); (case k4 => k_asm); (case k5 => k_asm); (case kK => first | exact rfl | assumption); (case kH => first | trivial | k_asm); (case kp0 => first | assumption | k_extra "toldB2 0"); (case kp1 => first | assumption | k_extra "toldB2 1"); (case kp2 => first | assumption | k_extra "toldB2 2"); (case kp3 => first | assumption | k_extra "toldB2 3"); (case kd => ktr_room); (case ku => ktr_units)); intro D9 t9 u9 c9 h9 tk9 F9 N9 l9; (try k_lt l9); (try dsimp only); (try k_fold)))
local macro_rules | `(tactic| walk_at "call ref") => `(tactic| (k_here; (with_reducible show wpAny _ _ (call (Value.ref 64) [Value.int _ _, Value.int _ _]) _ _ _); k_dflt (refine' toldB3 ?kp0 ?kp1 ?kp2 ?kp3 ?kp4 ?k1 ?k2 ?k3 ?k4 ?k5 ?kK ?kH ?kd ?ku ?_; (case k1 => k_asm); (case k2 => k_asm); (case k3 => k_asm); (case k4 => k_asm); (case k5 => k_asm); (case kK => first | exact rfl | assumption); (case kH => first | trivial | k_asm); (case kp0 => first | assumption | k_extra "toldB3 0"); (case kp1 => first | assumption | k_extra "toldB3 1"); (case kp2 => first | assumption | k_extra "toldB3 2"); (case kp3 => first | assumption | k_extra "toldB3 3"); (case kp4 => first | assumption | k_extra "toldB3 4"); (case kd => ktr_room); (case ku => ktr_units)); intro D9 t9 u9 c9 h9 tk9 F9 N9 l9; (try k_lt l9); (try dsimp only); (try k_fold)))
local macro_rules | `(tactic| walk_at "call ref") => `(tactic| (k_here; (with_reducible show wpAny _ _ (call (Value.ref 57) [Value.int _ _, Value.int _ _]) _ _ _); k_dflt (refine' dueA ?kp0 ?k1 ?k2 ?k3 ?k4 ?k5 ?kK ?kH ?kd ?ku ?_; (case k1 => k_asm); (case k2 => k_asm); (case k3 => k_asm); (case k4 => k_asm); (case k5 => k_asm); (case kK => first | exact rfl | assumption); (case kH => first | trivial | k_asm); (case kp0 => first | assumption | k_extra "dueA 0"); (case kd => ktr_room); (case ku => ktr_units)); intro D9 t9 u9 c9 h9 tk9 F9 N9 l9; (try k_lt l9); (try dsimp only); (try k_fold)))
local macro_rules | `(tactic| walk_at "call ref") => `(tactic| (k_here; (with_reducible show wpAny _ _ (call (Value.ref 57) [Value.int _ _, Value.int _ _]) _ _ _); k_dflt (refine' dueB1 ?kp0 ?kp1 ?k1 ?k2 ?k3 ?k4 ?k5 ?kK ?kH ?kd ?ku ?_; (case k1 => k_asm); (case k2 => k_asm); (case k3 => k_asm); (case k4 => k_asm); (case k5 => k_asm); (case kK => first | exact rfl | assumption); (case kH => first | trivial | k_asm); (case kp0 => first | assumption | k_extra "dueB1 0"); (case kp1 => first | assumption | k_extra "dueB1 1"); (case kd => ktr_room); (case ku => ktr_units)); intro D9 t9 u9 c9 h9 tk9 F9 N9 l9; (try k_lt l9); (try dsimp only); (try k_fold)))
local macro_rules | `(tactic| walk_at "call ref") => `(tactic| (k_here; (with_reducible show wpAny _ _ (call (Value.ref 57) [Value.int _ _, Value.int _ _]) _ _ _); k_dflt (refine' dueB2 ?kp0 ?kp1 ?kp2 ?kp3 ?k1 ?k2 ?k3 ?k4 ?k5 ?kK ?kH ?kd ?ku ?_; (case k1 => k_asm); (case k2 => k_asm); (case k3 => k_asm); (case k4 => k_asm); (case k5 => k_asm); (case kK => first | exact rfl | assumption); (case kH => first | trivial | k_asm); (case kp0 => first | assumption | k_extra "dueB2 0"); (case kp1 => first | assumption | k_extra "dueB2 1"); (case kp2 => first | assumption | k_extra "dueB2 2"); (case kp3 => first | assumption | k_extra "dueB2 3"); (case kd => ktr_room); (case ku => ktr_units)); intro D9 t9 u9 c9 h9 tk9 F9 N9 l9; (try k_lt l9); (try dsimp only); (try k_fold)))
local macro_rules | `(tactic| walk_at "call ref") => `(tactic| (k_here; (with_reducible show wpAny _ _ (call (Value.ref 57) [Value.int _ _, Value.int _ _]) _ _ _); k_dflt (refine' dueB3 ?kp0 ?kp1 ?kp2 ?kp3 ?kp4 ?k1 ?k2 ?k3 ?k4 ?k5 ?kK ?kH ?kd ?ku ?_; (case k1 => k_asm); (case k2 => k_asm); (case k3 => k_asm); (case k4 => k_asm); (case k5 => k_asm); (case kK => first | exact rfl | assumption); (case kH => first | trivial | k_asm); (case kp0 => first | assumption | k_extra "dueB3 0"); (case kp1 => first | assumption | k_extra "dueB3 1"); (case kp2 => first | assumption | k_extra "dueB3 2"); (case kp3 => first | assumption | k_extra "dueB3 3"); (case kp4 => first | assumption | k_extra "dueB3 4"); (case kd => ktr_room); (case ku => ktr_units)); intro D9 t9 u9 c9 h9 tk9 F9 N9 l9; (try k_lt l9); (try dsimp only); (try k_fold)))
local macro_rules | `(tactic| walk_at "call ref") => `(tactic| (k_here; (with_reducible show wpAny _ _ (call (Value.ref 57) [Value.int _ _, Value.int _ _]) _ _ _); k_dflt (refine' dueC ?kp0 ?k1 ?k2 ?k3 ?k4 ?k5 ?kK ?kH ?kd ?ku ?_; (case k1 => k_asm); (case k2 => k_asm); (case k3 => k_asm); (case k4 => k_asm); (case k5 => k_asm); (case kK => first | exact rfl | assumption); (case kH => first | trivial | k_asm); (case kp0 => first | assumption | k_extra "dueC 0"); (case kd => ktr_room); (case ku => ktr_units)); intro D9 t9 u9 c9 h9 tk9 F9 N9 l9; (try k_lt l9); (try dsimp only); (try k_fold)))
local macro_rules | `(tactic| walk_at "call ref") => `(tactic| (k_here; (with_reducible show wpAny _ _ (call (Value.ref 57) [Value.int _ _, Value.int _ _]) _ _ _); k_dflt (refine' dueD ?kp0 ?k1 ?k2 ?k3 ?k4 ?k5 ?kK ?kH ?kd ?ku ?_; (case k1 => k_asm); (case k2 => k_asm); (case k3 => k_asm); (case k4 => k_asm); (case k5 => k_asm); (case kK => first | exact rfl | assumption); (case kH => first | trivial | k_asm); (case kp0 => first | assumption | k_extra "dueD 0"); (case kd => ktr_room); (case ku => ktr_units)); intro D9 t9 u9 c9 h9 tk9 F9 N9 l9; (try k_lt l9); (try dsimp only); (try k_fold)))
local macro_rules | `(tactic| walk_at "UnrEndW") => `(tactic| (refine unr_end (by assumption) (by assumption) (by with_unfolding_all assumption) (And.intro subL_head ?_)))
set_option maxRecDepth 100000 in
set_option maxHeartbeats 8000000 in
theorem PySem.Challenge.cw_yt0004_05_holds : PySem.Challenge.rw_yt0004_05.Holds := by
  refine hd05 ?_
  k_with_none
  k_with "ite" => first | with_reducible refine ite_bne ?_ | with_reducible refine ite_beq ?_ | with_reducible refine ite_beq_ne (by omega) ?_ | with_reducible refine ite_beq_eq (by omega) ?_
  k_with "pyIter ref" => first
    | ((with_reducible show wpAny _ _ (pyIter (Value.ref _)) (fun it s₂ => LoopAtV _ _ _ _ _ _ _ _ _ it s₂) _ _); k_search (fun (pre : List Int) => True))
    | ((with_reducible show wpAny _ _ (pyIter (Value.ref _)) (fun it s₂ => TurnsAt _ _ _ _ _ _ _ _ _ it s₂) _ _); ((rename Fr _ _ _ _ => lF'); (rename News _ _ _ _ => lN'); (with_unfolding_all refine iter_tupTurns (vs := [Value.int _ _, Value.int _ _, Value.int _ _]) (by rfl) lF' lN' (List.Mem.head _) (by rfl) (by rfl) ?_); clear lF' lN'; intro i' l1; (try dsimp only); (try k_lt l1)))
  k_with "state" => trivial
  k_with "storeName int" => first
    | ((with_reducible show wpAny _ _ (storeName _ (Str.ofString "n") _) _ _ _); refine store_some NBd (nbd_ok _) ?_; intro n hn)
    | ((with_reducible show wpAny _ _ (storeName _ (Str.ofString "small") _) _ _ _); refine store_some SMd (smd_ok _) ?_; intro small hsm)
    | ((with_reducible show wpAny _ _ (storeName _ (Str.ofString "unit") _) _ _ _); refine store_some UNd (und_ok _) ?_; intro unit hun)
    | ((with_reducible show wpAny _ _ (storeName _ (Str.ofString "far") _) _ _ _); refine store_some NBd (nbd_ok _) ?_; intro far hfar)
    | ((with_reducible show wpAny _ _ (storeName _ (Str.ofString "under") _) _ _ _); refine store_some UDd (udd_ok hfar) ?_; intro under hund)
  k_with "binaryOp Mod int int" => (refine mod_int' (by decide) ?_)
  k_with "isTrue Compare Call" => (refine' join false (by k_asm) (by k_asm) (wpAny_isTrue_Compare1 ?_) ?_; rotate_left; intro h9 tk9 F9 N9; rotate_right)
  k_with "And" => exact ⟨rfl, _, _, rfl, by with_reducible assumption, by first | with_reducible assumption | with_reducible exact news_tl (by with_reducible assumption) | with_reducible exact news_tl (news_tl (by with_reducible assumption)) | with_reducible exact news_tl (news_tl (news_tl (by with_reducible assumption))) | with_reducible exact news_tl (news_tl (news_tl (news_tl (by with_reducible assumption)))) | with_reducible exact news_tl (news_tl (news_tl (news_tl (news_tl (by with_reducible assumption))))) | exact cb_drop (by assumption) (by kcj_all)⟩
  k_with "nbd" => first | assumption | exact NBd.neg (by assumption) | exact smd_nbd (by assumption)
  k_with "rbd" => first | exact udd_rbd (by assumption) | omega
  k_with "binaryOp FloorDiv int int" => first
    | (with_reducible refine fd_nought (by assumption) rfl (fun _ _ _ _ => ?_))
    | (refine floordiv_int (udd_bd hund).1 ?_ (Or.inl (noPy (udd_bd hund).2)))
    | (refine floordiv_int (sml_bd (by assumption) (by omega)).1 ?_ (Or.inl (noPy (sml_bd (by assumption) (by omega)).2)))
  k_with "binaryOp LShift int int" => (refine lsh_neg (kF_neg (by omega) (by assumption)) rfl (fun _ _ _ _ => ?_))
  k_with "unit" => exact und_lt (by assumption)
  w_strict (
    k_go0
    all_goals try k_fold
    repeat' (first | (k_unfold; (try dsimp only)) | (k_end; refine' Mine.good_true ?gF ?gg ?go; (case go => rfl); (case gg => k_asm); (case gF => k_asm)) | (k_end; k_extra "my end") | (k_end; wrow_close) | walk1 | (dsimp only; walk1) | (leave1; walk_say "STEP leave1"; try dsimp only) | fail "no step"))
