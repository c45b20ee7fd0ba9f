import PyProof.Rows.All
import Wide.All
import OpenK.AllK
import Wide.FinOn
import PySem.Challenge.RW_yt0004_12
open PySem PySem.W PyProof.Rows PySem.Calls PySem.Spec
set_option Elab.async false
set_option rowWalk.seconds 0
set_option maxRecDepth 100000
namespace Mine
abbrev Ret (h₀ : Heap) (L : Addr) (m : Str → Option Value) (news : List (Addr × Obj)) (s : Shared) (Q : Value → Shared → Prop) (R : Tok → Value) : Prop :=
  ∀ (t : Tok) (h' : Heap) (tk' : Nat), Fr h₀ L h' m → News h₀ L h' news → Q (R t) { s with heap := h', toks := tk' }
/-- what a call of f at the values vs gives back, at whatever caller -/
abbrev Claim (prog : Program) (w : World) (K : Frag) (p : Program) (f : Addr) (d : Nat) (H : Heap → Prop) (vs : List Value) (R : Tok → Value) : Prop :=
  ∀ {loose : List Str} {mean : ExcName → Option Value} {mg mb : Str → Option Value} {news : List (Addr × Obj)} {dp un : Nat} {gd : Option (List Code)} {cn : Str} {cs : Scope} {a : Addr} {ccd : Value} {cl : List (Str × Addr)} {outer : List Env} {A₀ : Around} {base h₀ : Heap} {L : Addr} {m : Str → Option Value} {s : Shared} {Q E : Value → Shared → Prop},
    Below A₀ base outer h₀ → Fr h₀ L s.heap m → K.In h₀ → News h₀ L s.heap news → Top p loose mean mg mb h₀ → cs.kind = .function →
    H base → dp + d < recursionLimit → un + 8 * d < cLine → Ret h₀ L m news s Q R →
      wpAny (model prog w) (ktrTop dp un gd cn cs L a ccd cl outer) (call (.ref f) vs) Q E s
theorem ret_int {h₀ h' : Heap} {L : Addr} {m : Str → Option Value} {news : List (Addr × Obj)} {s : Shared} {Q : Value → Shared → Prop} {t : Tok} {tk' : Nat} {x y : Int} (hret : ∀ (t : Tok) (h' : Heap) (tk' : Nat), Fr h₀ L h' m → News h₀ L h' news → Q (.int x t) { s with heap := h', toks := tk' }) (e : y = x) (F : Fr h₀ L h' m) (N : News h₀ L h' news) : Q (.int y t) { s with heap := h', toks := tk' } := by
  subst e
  exact hret t h' tk' F N
theorem ret_bool {h₀ h' : Heap} {L : Addr} {m : Str → Option Value} {news : List (Addr × Obj)} {s : Shared} {Q : Value → Shared → Prop} {tk' : Nat} {x y : Bool} (hret : ∀ (_t : Tok) (h' : Heap) (tk' : Nat), Fr h₀ L h' m → News h₀ L h' news → Q (.bool x) { s with heap := h', toks := tk' }) (e : y = x) (F : Fr h₀ L h' m) (N : News h₀ L h' news) : Q (.bool y) { s with heap := h', toks := tk' } := by
  subst e
  exact hret 0 h' tk' F N
end Mine
namespace Mine
theorem good_true {l : OpenLaw} {cl : Str → Option Addr} {mean : ExcName → Option Value} {args : List WData} {s₁ s' : Shared} {L : Addr} {m : Str → Option Value} (F : Fr s₁.heap L s'.heap m) (hg : s'.gens = #[]) (hos : s'.os = s₁.os) :
    GoodW l.row.claim cl mean args s₁ (.ok (.ret (.bool true))) s' :=
  goodW_bool F hg (raisesW_false (fun _ h => nomatch h)) (postW_of rfl (w_eq_bool rfl rfl) rfl) hos
end Mine
namespace Mine
/-- a local's int, forgotten but for what P says of it -/
theorem store_some {M : Model} {A : Around} {env : Env} {y : Str} {tk : Tok} {Q : Unit → Shared → Prop} {E : Value → Shared → Prop} {s : Shared} {x : Int} (P : Int → Prop) (hx : P x) (h : ∀ z, P z → wpAny M A (storeName env y (.int z tk)) Q E s) : wpAny M A (storeName env y (.int x tk)) Q E s := h x hx
end Mine
namespace Mine
theorem ite_beq_ne {x y : Int} {A B : Prop} (hne : x ≠ y) (h : B) : if (x == y) = true then A else B := by
  rw [if_neg (by simpa using hne)]; exact h
theorem ite_bne_ne {x y : Int} {A B : Prop} (hne : x ≠ y) (h : A) : if (x != y) = true then A else B := by
  rw [if_pos (by simpa using hne)]; exact h
end Mine
namespace Mine
/-! sizes of ints -/
theorem bits_le {x : Int} {n : Nat} (h : x.natAbs < 2 ^ n) : PySem.Builtin.Int.intBits x ≤ n := by
  unfold PySem.Builtin.Int.intBits
  split
  · exact Nat.zero_le _
  · rename_i hx
    have hx' : x.natAbs ≠ 0 := by
      intro e
      apply hx
      have : x = 0 := Int.natAbs_eq_zero.mp e
      rw [this]; rfl
    have := (Nat.log2_lt hx').mpr h
    omega
theorem bits_lt {x : Int} : x.natAbs < 2 ^ PySem.Builtin.Int.intBits x := by
  unfold PySem.Builtin.Int.intBits
  split
  · rename_i h
    have : x = 0 := by simpa using h
    rw [this]; decide
  · exact Nat.lt_log2_self
theorem log2_lt' {x : Int} {n : Nat} (hn : 0 < n) (h : x.natAbs < 2 ^ n) : x.natAbs.log2 < n := by
  rcases Nat.eq_zero_or_pos x.natAbs with h0 | hp
  · rw [h0]; simpa using hn
  · exact (Nat.log2_lt (Nat.ne_of_gt hp)).mpr h
theorem noPy {a b : Int} (h : b.natAbs < 2 ^ 2000) : PySem.Builtin.divisionGoesByPylong a b = false :=
  PyProof.noPylong_of_log2 (Nat.lt_of_lt_of_le (log2_lt' (by decide) h) (by decide))
theorem pow2_mono {a b : Nat} (h : a ≤ b) : 2 ^ a ≤ 2 ^ b := Nat.pow_le_pow_right (by decide) h
/-! the whole root -/
def rootN (r : Nat) : Nat → Nat
  | 0 => 0
  | n + 1 => if (rootN r n + 1) ^ r ≤ n + 1 then rootN r n + 1 else rootN r n
/-- the whole root of n ≥ 0 -/
def rootF (r n : Int) : Int := (rootN r.toNat n.toNat : Nat)
/-! Newton's step for the square root -/
def newt (n x : Int) : Int := (x + n.fdiv x).fdiv 2
/-- s is the whole root of n -/
def Sq (n s : Int) : Prop := 0 ≤ s ∧ s * s ≤ n ∧ n < (s + 1) * (s + 1)
end Mine
namespace Mine
abbrev cF (n : Int) : Int := (n * 4).fdiv 3
abbrev aF (n : Int) : Int := (↑(PySem.Builtin.Int.intBits (cF n)) : Int).fdiv (2 ^ Int.toNat 1)
abbrev xO (n : Int) : Int := (1 : Int) * 2 ^ (aF n).toNat
abbrev xE (n : Int) : Int := ((3 : Int) * 2 ^ (aF n).toNat).fdiv (2 ^ Int.toNat 2)
theorem p2_pos (k : Nat) : (0 : Int) < 2 ^ k := Int.pow_pos (by decide)
/-- the two starting values, and the loop's word -/
def IsqGood (n x y : Int) : Prop := (x = y ∧ x = rootF 2 n) ∨ (1 ≤ n ∧ 0 < x ∧ x.natAbs < 2 ^ 1900 ∧ y = newt n x)
/-- the loop's word -/
def IsqInv (n x y : Int) : Prop := 1 ≤ n ∧ rootF 2 n ≤ x ∧ x.natAbs < 2 ^ 1902 ∧ y = newt n x
end Mine
namespace Mine
abbrev kF (n r : Int) : Int := (↑(PySem.Builtin.Int.intBits n) : Int).fdiv r
/-- the first loop -/
def In1 (lo : Int) : Prop := 0 ≤ lo ∧ lo.natAbs < 2 ^ 1910
/-- the second loop -/
def In2 (up : Int) : Prop := 1 ≤ up ∧ up.natAbs < 2 ^ 1910
/-- the third loop -/
def In3 (n r lo up : Int) : Prop := 0 ≤ lo ∧ lo < up ∧ lo ^ r.toNat ≤ n ∧ n < up ^ r.toNat ∧ up.natAbs < 2 ^ 1910
end Mine
namespace Mine
/-- v's power r is n, and introot finds v -/
def Hit (n r v : Int) : Prop := v ^ r.toNat = n ∧ (0 ≤ v ∨ r.fmod 2 ≠ 0) ∧ 1 ≤ r ∧ r ≤ 1000 ∧ n.natAbs < 2 ^ 1900
/-- no whole number that introot tries has n as its power r -/
def Miss (n r : Int) : Prop := ((0 ≤ n ∧ (rootF r n) ^ r.toNat ≠ n) ∨ (n < 0 ∧ (r.fmod 2 = 0 ∨ (rootF r (-n)) ^ r.toNat ≠ -n))) ∧ 1 ≤ r ∧ r ≤ 1000 ∧ n.natAbs < 2 ^ 1900
/-! the two quick looks -/
end Mine
namespace Mine
theorem pw_kind : builtinKind "pow" = none := by decide +kernel
theorem pw_plain : plainId "pow" = true := by decide +kernel
theorem pw_entry : entryFor table "pow" = some Builtin.«pow» := entryFor_of_fast (by kernel_rfl)
theorem pw_args (a b c : Value) : argsOk "pow" ⟨[a, b, c], []⟩ := by unfold argsOk; kernel_rfl
theorem pw_args3 (a b c : Value) : argsOk "int.__pow__" ⟨[a, b, c], []⟩ := by unfold argsOk; kernel_rfl
section
variable {prog : Program} {w : World} {A : Around} {E : Value → Shared → Prop} {s : Shared} {a n m : Int} {t u z : Tok} {Q : Value → Shared → Prop}
theorem call_int_pow3 (hn : 0 ≤ n) (hm : 1 < m) (h : Q (.int (Builtin.powMod (a % (m.natAbs : Int)).toNat n.natAbs m.natAbs) s.toks) { s with toks := s.toks + 1 }) :
    wpAny (model prog w) A (call (.builtin "int.__pow__") [.int a t, .int n u, .int m z]) (fun v s' => v ≠ .notImplemented ∧ Q v s') E s := by
  refine wpAny_call_entry slot_int_pow (typeIs_int s a t) entry_int_pow ?_ (pw_args3 _ _ _)
  have hm0 : ¬ (m == 0) = true := by simp; omega
  have hm1 : ¬ (m.natAbs == 1) = true := by simp; omega
  have hn0 : ¬ n < 0 := by omega
  have hm2 : ¬ (decide (m < 0) && ((Builtin.powMod (a % (m.natAbs : Int)).toNat n.natAbs m.natAbs : Nat) : Int) != 0) = true := by
    rw [decide_eq_false (by omega : ¬ m < 0)]; simp
  show wpAny _ _ (if (m == 0) = true then _ else _) _ _ s
  rw [if_neg hm0]
  show wpAny _ _ (if (m.natAbs == 1) = true then _ else _) _ _ s
  rw [if_neg hm1]
  show wpAny _ _ (if n < 0 then _ else _) _ _ s
  rw [if_neg hn0]
  show wpAny _ _ (retInt (if (decide (m < 0) && ((Builtin.powMod (a % (m.natAbs : Int)).toNat n.natAbs m.natAbs : Nat) : Int) != 0) = true then _ else _)) _ _ s
  rw [if_neg hm2]
  repeat (first | refine wpAny_pure ?_ | refine wpAny_mkInt ?_ | refine wpAny_rule ?_ | refine wpAny_bind ?_)
  exact ⟨_, rfl, by simp, h⟩
end
end Mine
namespace Mine
section
variable {prog : Program} {w : World} {A : Around} {E : Value → Shared → Prop} {s : Shared} {a n m : Int} {t u z : Tok} {Q : Value → Shared → Prop}
set_option maxHeartbeats 4000000 in
theorem call_pow3 (hn : 0 ≤ n) (hm : 1 < m) (h : Q (.int (Builtin.powMod (a % (m.natAbs : Int)).toNat n.natAbs m.natAbs) s.toks) { s with toks := s.toks + 1 }) :
    wpAny (model prog w) A (call (.builtin "pow") [.int a t, .int n u, .int m z]) Q E s := by
  refine call_function_entry pw_kind pw_plain pw_entry (pw_args _ _ _) ?_
  obtain ⟨hp, g, d, tk, os⟩ := s
  have hT : (⟨hp, g, d, tk, os⟩ : Shared).TypeIs (.int a t) "int" := rfl
  have f3 := slot_int_pow.lookup
  have f4 := slot_int_pow.bind (.int a t)
  repeat (any_goals (first | assumption | ((with_reducible show wpAny _ _ (call (Value.builtin "int.__pow__") _ _) _ _ _); refine wpAny_mono (call_int_pow3 (Q := Q) hn hm h) (fun v s' hv => ?_) (fun _ _ x => x)) | wp_step))
  have f5 : typeLookup (Value.type "int") (Str.ofString "__pow__") = pure (some (Value.builtin "int.__pow__")) := f3
  rw [f5]
  refine wpAny_pure ?_
  dsimp only
  refine wpAny_bind ?_
  refine wpAny_callSpecial?_slot (id := "int.__pow__") hT slot_int_pow (wpAny_mono (call_int_pow3 (Q := Q) hn hm h) (fun v s' hv => ?_) (fun _ _ x => x))
  dsimp only
  have hne : (v != Value.notImplemented) = true := by simpa using hv.1
  rw [if_pos hne]
  repeat (first | refine wpAny_pure ?_ | refine wpAny_rule ?_ | refine wpAny_bind ?_)
  exact ⟨v, rfl, hv.2⟩
end
end Mine
namespace Mine
/-- what pow(a, n, m) gives -/
def powI (a n m : Int) : Int := ((Builtin.powMod (a % (m.natAbs : Int)).toNat n.natAbs m.natAbs : Nat) : Int)
theorem bit_step (e i : Nat) : e / 2 ^ i = 2 * (e / 2 ^ (i + 1)) + (if e.testBit i = true then 1 else 0) := by
  have h1 : e / 2 ^ (i + 1) = e / 2 ^ i / 2 := by rw [Nat.pow_succ, Nat.div_div_eq_div_mul]
  have h2 : e.testBit i = decide (e / 2 ^ i % 2 = 1) := Nat.testBit_eq_decide_div_mod_eq
  rw [h1, h2]
  generalize e / 2 ^ i = x
  by_cases h : x % 2 = 1
  · rw [decide_eq_true h, if_pos rfl]; omega
  · rw [decide_eq_false h, if_neg (by decide)]; omega
theorem pw_even (b q m : Nat) : b ^ q % m * (b ^ q % m) % m = b ^ (2 * q + 0) % m := by
  rw [Nat.add_zero, Nat.two_mul, Nat.pow_add b, ← Nat.mul_mod]
theorem pw_odd (b q m : Nat) : b ^ q % m * (b ^ q % m) % m * b % m = b ^ (2 * q + 1) % m := by
  rw [Nat.pow_succ b, Nat.two_mul, Nat.pow_add b, ← Nat.mul_mod, Nat.mod_mul_mod]
theorem powMod_go (b e m : Nat) : ∀ k, (List.range k).reverse.foldl (fun p i => if e.testBit i then p * p % m * b % m else p * p % m) (b ^ (e / 2 ^ k) % m) = b ^ e % m
  | 0 => by simp
  | k + 1 => by
    rw [List.range_succ, List.reverse_append, List.reverse_singleton, List.foldl_append]
    have ih := powMod_go b e m k
    have hs := bit_step e k
    have key : (if e.testBit k = true then b ^ (e / 2 ^ (k + 1)) % m * (b ^ (e / 2 ^ (k + 1)) % m) % m * b % m else b ^ (e / 2 ^ (k + 1)) % m * (b ^ (e / 2 ^ (k + 1)) % m) % m) = b ^ (e / 2 ^ k) % m := by
      generalize e / 2 ^ (k + 1) = q at hs ⊢
      rw [hs]
      by_cases h : e.testBit k = true
      · rw [if_pos h, if_pos h]; exact pw_odd b q m
      · rw [if_neg h, if_neg h]; exact pw_even b q m
    rw [List.foldl_cons, List.foldl_nil, key]
    exact ih
theorem emod_pow (a m : Int) : ∀ k : Nat, (a % m) ^ k % m = a ^ k % m
  | 0 => by rw [Int.pow_zero, Int.pow_zero]
  | k + 1 => by rw [Int.pow_succ, Int.pow_succ, Int.mul_emod, emod_pow a m k, Int.emod_emod, ← Int.mul_emod]
theorem powMod_eq (b e m : Nat) : Builtin.powMod b e m = b ^ e % m := by
  unfold Builtin.powMod
  have h := powMod_go b e m (Builtin.Int.intBits e)
  have hz : e / 2 ^ (Builtin.Int.intBits (e : Int)) = 0 := Nat.div_eq_of_lt (by simpa using bits_lt (x := (e : Int)))
  rw [hz, Nat.pow_zero] at h
  exact h
theorem powI_eq {a n m : Int} (hn : 0 ≤ n) (hm : 0 < m) : powI a n m = (a ^ n.toNat) % m := by
  unfold powI
  rw [powMod_eq]
  have hm' : (m.natAbs : Int) = m := by omega
  have hn' : n.natAbs = n.toNat := by omega
  rw [hm', hn', Int.natCast_emod, Int.natCast_pow, Int.toNat_of_nonneg (Int.emod_nonneg _ (by omega)), hm']
  exact emod_pow a m _
theorem powI_lo {a n m : Int} (hn : 0 ≤ n) (hm : 0 < m) : 0 ≤ powI a n m ∧ powI a n m < m := by
  rw [powI_eq hn hm]; exact ⟨Int.emod_nonneg _ (by omega), Int.emod_lt_of_pos _ hm⟩
end Mine
namespace Mine
theorem call_pow3i {prog : Program} {w : World} {A : Around} {E : Value → Shared → Prop} {s : Shared} {a n m : Int} {t u z : Tok} {Q : Value → Shared → Prop} (hn : 0 ≤ n) (hm : 1 < m) (h : Q (.int (powI a n m) s.toks) { s with toks := s.toks + 1 }) :
    wpAny (model prog w) A (call (.builtin "pow") [.int a t, .int n u, .int m z]) Q E s := call_pow3 hn hm h
end Mine
namespace Mine
abbrev RetL (h₀ : Heap) (L : Addr) (m : Str → Option Value) (news : List (Addr × Obj)) (s : Shared) (Q : Value → Shared → Prop) (ns : List Int) : Prop :=
  ∀ (D : Addr) (vs : List Value) (c : Nat) (h' : Heap) (tk' : Nat), IntsAre vs ns → Fr h₀ L h' m → News h₀ L h' ((D, listOf vs.toArray c) :: news) → (∀ p ∈ news, p.1 < D) → Q (.ref D) { s with heap := h', toks := tk' }
/-- a call that gives back a new list of ints -/
abbrev ClaimL (prog : Program) (w : World) (K : Frag) (p : Program) (f : Addr) (d : Nat) (H : Heap → Prop) (vs : List Value) (ns : List Int) : Prop :=
  ∀ {loose : List Str} {mean : ExcName → Option Value} {mg mb : Str → Option Value} {news : List (Addr × Obj)} {dp un : Nat} {gd : Option (List Code)} {cn : Str} {cs : Scope} {a : Addr} {ccd : Value} {cl : List (Str × Addr)} {outer : List Env} {A₀ : Around} {base h₀ : Heap} {L : Addr} {m : Str → Option Value} {s : Shared} {Q E : Value → Shared → Prop},
    Below A₀ base outer h₀ → Fr h₀ L s.heap m → K.In h₀ → News h₀ L s.heap news → Top p loose mean mg mb h₀ → cs.kind = .function →
    H base → dp + d < recursionLimit → un + 8 * d < cLine → RetL h₀ L m news s Q ns →
      wpAny (model prog w) (ktrTop dp un gd cn cs L a ccd cl outer) (call (.ref f) vs) Q E s
end Mine
namespace Mine
/-- what primegen keeps out -/
def divs (found : List Int) (n : Int) : List Int := found.filter (fun p => decide (p * p ≤ n) && decide (n.fmod p = 0))
/-- primegen's list below 2 + k -/
def plN : Nat → List Int
  | 0 => []
  | k + 1 => if divs (plN k) (2 + k) = [] then plN k ++ [2 + (k : Int)] else plN k
def PG (n : Int) (found : List Int) (k : Int) : Prop := 2 ≤ k ∧ k ≤ n ∧ found = plN (k - 2).toNat ∧ (found.length : Int) ≤ k
end Mine
namespace Mine
abbrev tup2 (a b : Value) (c : Nat) : Obj := { cls := .type "tuple", data := .seq #[a, b] c }
abbrev RetT (h₀ : Heap) (L : Addr) (m : Str → Option Value) (news : List (Addr × Obj)) (s : Shared) (Q : Value → Shared → Prop) (R1 R2 : Tok → Value) : Prop :=
  ∀ (D : Addr) (t1 t2 : Tok) (c : Nat) (h' : Heap) (tk' : Nat), Fr h₀ L h' m → News h₀ L h' ((D, tup2 (R1 t1) (R2 t2) c) :: news) → (∀ p ∈ news, p.1 < D) → Q (.ref D) { s with heap := h', toks := tk' }
/-- a call that gives back a new pair -/
abbrev ClaimT (prog : Program) (w : World) (K : Frag) (p : Program) (f : Addr) (d : Nat) (H : Heap → Prop) (vs : List Value) (R1 R2 : Tok → Value) : Prop :=
  ∀ {loose : List Str} {mean : ExcName → Option Value} {mg mb : Str → Option Value} {news : List (Addr × Obj)} {dp un : Nat} {gd : Option (List Code)} {cn : Str} {cs : Scope} {a : Addr} {ccd : Value} {cl : List (Str × Addr)} {outer : List Env} {A₀ : Around} {base h₀ : Heap} {L : Addr} {m : Str → Option Value} {s : Shared} {Q E : Value → Shared → Prop},
    Below A₀ base outer h₀ → Fr h₀ L s.heap m → K.In h₀ → News h₀ L s.heap news → Top p loose mean mg mb h₀ → cs.kind = .function →
    H base → dp + d < recursionLimit → un + 8 * d < cLine → RetT h₀ L m news s Q R1 R2 →
      wpAny (model prog w) (ktrTop dp un gd cn cs L a ccd cl outer) (call (.ref f) vs) Q E s
end Mine
namespace Mine
/-- the powers that ispower(n) tries -/
def PL (n : Int) : List Int := plN ((↑(PySem.Builtin.Int.intBits n) : Int) + 1 - 2).toNat
def PHit (n r v : Int) : Prop := 2 ≤ n.natAbs ∧ n.natAbs < 2 ^ 900 ∧ (∃ pre post, PL n = pre ++ r :: post ∧ (∀ p ∈ pre, Miss n p) ∧ r ∉ pre) ∧ Hit n r v
def PNone (n : Int) : Prop := 2 ≤ n.natAbs ∧ n.natAbs < 2 ^ 900 ∧ ∀ p ∈ PL n, Miss n p
end Mine
namespace Mine
/-! primegen's list -/
def bitsF (n : Int) : Int := ↑(PySem.Builtin.Int.intBits n)
def LHit (n r v : Int) : Prop := 2 ≤ n.natAbs ∧ n.natAbs < 2 ^ 900 ∧ 2 ≤ r ∧ r ≤ bitsF n ∧ Hit n r v ∧ ∀ k, 2 ≤ k → k < r → Miss n k
def LNone (n : Int) : Prop := 2 ≤ n.natAbs ∧ n.natAbs < 2 ^ 900 ∧ ∀ k, 2 ≤ k → k ≤ bitsF n → Miss n k
end Mine
namespace Mine
def L2 (z r st rt : Int) : Prop := 0 ≤ rt ∧ rt ^ r.toNat ≤ z ∧ 0 ≤ st ∧ st ≤ z ∧ ((st = 0 ∧ z < (rt + 1) ^ r.toNat) ∨ (∃ k : Nat, st = 2 ^ k ∧ z < (rt + 2 * st) ^ r.toNat))
end Mine
namespace Mine
/-- z's length in bits, hidden -/
def BBd (z b : Int) : Prop := b = ↑(PySem.Builtin.Int.intBits z)
end Mine
namespace Mine
abbrev RetI (h₀ : Heap) (L : Addr) (m : Str → Option Value) (news : List (Addr × Obj)) (s : Shared) (Q : Value → Shared → Prop) (P : Int → Prop) : Prop :=
  ∀ (z : Int) (t : Tok) (h' : Heap) (tk' : Nat), P z → Fr h₀ L h' m → News h₀ L h' news → Q (.int z t) { s with heap := h', toks := tk' }
/-- a call that gives back some int of which P holds -/
abbrev ClaimI (prog : Program) (w : World) (K : Frag) (p : Program) (f : Addr) (d : Nat) (H : Heap → Prop) (vs : List Value) (P : Int → Prop) : Prop :=
  ∀ {loose : List Str} {mean : ExcName → Option Value} {mg mb : Str → Option Value} {news : List (Addr × Obj)} {dp un : Nat} {gd : Option (List Code)} {cn : Str} {cs : Scope} {a : Addr} {ccd : Value} {cl : List (Str × Addr)} {outer : List Env} {A₀ : Around} {base h₀ : Heap} {L : Addr} {m : Str → Option Value} {s : Shared} {Q E : Value → Shared → Prop},
    Below A₀ base outer h₀ → Fr h₀ L s.heap m → K.In h₀ → News h₀ L s.heap news → Top p loose mean mg mb h₀ → cs.kind = .function →
    H base → dp + d < recursionLimit → un + 8 * d < cLine → RetI h₀ L m news s Q P →
      wpAny (model prog w) (ktrTop dp un gd cn cs L a ccd cl outer) (call (.ref f) vs) Q E s
def N0 (z : Int) : Prop := 0 ≤ z ∧ z ≤ 2 ^ 100
def N1 (z : Int) : Prop := -1 ≤ z ∧ z ≤ 2 ^ 100 + 1
def K19 (k : Int) : Prop := 2 ≤ k ∧ k ≤ 20
def N9 (z : Int) : Prop := z.natAbs < 2 ^ 900
/-! the law's ways -/
end Mine
namespace Mine
/-- a call that is handed a list of the caller's ledger -/
abbrev ClaimE (prog : Program) (w : World) (K : Frag) (p : Program) (f : Addr) (d : Nat) (q : Addr × Obj) (vs : List Value) (R : Tok → Value) : Prop :=
  ∀ {loose : List Str} {mean : ExcName → Option Value} {mg mb : Str → Option Value} {news : List (Addr × Obj)} {dp un : Nat} {gd : Option (List Code)} {cn : Str} {cs : Scope} {a : Addr} {ccd : Value} {cl : List (Str × Addr)} {outer : List Env} {A₀ : Around} {base h₀ : Heap} {L : Addr} {m : Str → Option Value} {s : Shared} {Q E : Value → Shared → Prop},
    Below A₀ base outer h₀ → Fr h₀ L s.heap m → K.In h₀ → News h₀ L s.heap news → q ∈ news → Top p loose mean mg mb h₀ → cs.kind = .function →
    dp + d < recursionLimit → un + 8 * d < cLine → Ret h₀ L m news s Q R →
      wpAny (model prog w) (ktrTop dp un gd cn cs L a ccd cl outer) (call (.ref f) vs) Q E s
/-! a loop downward that turns None into a new pair -/
abbrev DueS := Option (Addr × Int × Int × Tok × Tok × Nat)
def dueV : DueS → Value
  | none => .none
  | some c => .ref c.1
def dueL : DueS → List (Addr × Obj)
  | none => []
  | some c => [(c.1, tup2 (.int c.2.1 c.2.2.2.1) (.int c.2.2.1 c.2.2.2.2.1) c.2.2.2.2.2)]
def dueR : DueS → Option (Int × Int)
  | none => none
  | some c => some (c.2.1, c.2.2.1)
def DueJ (x root due : Str) (m₀ : Str → Option Value) (cst : List (Addr × Obj)) (P : Nat → Option (Int × Int) → Prop) (i : Nat) (m : Str → Option Value) (nx : List (Addr × Obj)) : Prop :=
  ∃ c, nx = dueL c ++ cst ∧ m due = some (dueV c) ∧ (∀ z, z ≠ x → z ≠ due → z ≠ root → m z = m₀ z) ∧ P i (dueR c)
end Mine
namespace Mine
/-- a local's bool, forgotten -/
def BMark (_ : Bool) : Prop := True
end Mine
namespace Mine
def ElseEnd (h₀ : Heap) (L : Addr) (I : Addr) (oI : Obj) (news : List (Addr × Obj)) (x y : Str) (m₀ : Str → Option Value) (Jn : Int → Prop) (s₁ s₂ : Shared) : Prop :=
  ∃ h' tk m' z t2, s₂ = { s₁ with heap := h', toks := tk } ∧ Fr h₀ L h' m' ∧ News h₀ L h' ((I, oI) :: news) ∧ m' y = some (.int z t2) ∧ (∀ q, q ≠ x → q ≠ y → m' q = m₀ q) ∧ Jn z
def ElsePost (h₀ : Heap) (L : Addr) (I : Addr) (oI : Obj) (news : List (Addr × Obj)) (x y : Str) (m₀ : Str → Option Value) (Jn : Int → Prop) (s₁ : Shared) (Q : Flow → Shared → Prop) (f : Flow) (s₂ : Shared) : Prop :=
  match f with
  | .ret v => Q (.ret v) s₂
  | .brk => Q .next s₂
  | _ => ElseEnd h₀ L I oI news x y m₀ Jn s₁ s₂
def ElseAt (prog : Program) (w : World) (A : Around) (h₀ : Heap) (env : Env) (x y : Str) (body orelse : List Stmt) (Q : Flow → Shared → Prop) (E : Value → Shared → Prop) (xv : Value) (s₁ : Shared) : Prop :=
  ∃ (r : Addr) (a b : Int) (n : Nat) (t u v : Tok) (m₀ : Str → Option Value) (news : List (Addr × Obj)) (J : Nat → Int → Prop) (z0 : Int) (tz : Tok), xv = .ref r ∧ A.handled = none ∧ IsRange s₁.heap r a b 1 t u v ∧ Builtin.Range.small a b 1 = true ∧ Builtin.Range.rangeSize a b 1 = (n : Int) ∧
    Fr h₀ env.locals s₁.heap m₀ ∧ News h₀ env.locals s₁.heap news ∧ m₀ y = some (.int z0 tz) ∧ J 0 z0 ∧
    (∀ (i : Nat) (z k : Int) (I : Addr) (oI : Obj) (t t2 : Tok) h tk, i < n → k = a + (i : Int) → J i z → Fr h₀ env.locals h (fun q => if q = x then some (.int k t) else if q = y then some (.int z t2) else m₀ q) → News h₀ env.locals h ((I, oI) :: news) →
      wpAny (model prog w) A (execs body env) (ElsePost h₀ env.locals I oI news x y m₀ (J (i + 1)) { s₁ with heap := h, toks := tk } Q) E { s₁ with heap := h, toks := tk }) ∧
    (∀ (z : Int) (t2 : Tok) (q0 : Option Value) h tk, J n z → Fr h₀ env.locals h (fun q => if q = x then q0 else if q = y then some (.int z t2) else m₀ q) → News h₀ env.locals h news → wpAny (model prog w) A (execs orelse env) Q E { s₁ with heap := h, toks := tk })
theorem els_fr {x y : Str} {m m₀ : Str → Option Value} {z : Int} {t2 : Tok} (h1 : m y = some (.int z t2)) (h2 : ∀ q, q ≠ x → q ≠ y → m q = m₀ q) (o : Option Value) :
    (fun q => if q = x then o else m q) = (fun q => if q = x then o else if q = y then some (.int z t2) else m₀ q) := by
  funext q
  by_cases e1 : q = x
  · rw [if_pos e1, if_pos e1]
  · rw [if_neg e1, if_neg e1]
    by_cases e2 : q = y
    · rw [if_pos e2, e2]; exact h1
    · rw [if_neg e2]; exact h2 q e1 e2
theorem for_else {prog : Program} {w : World} {A : Around} {E : Value → Shared → Prop} {s : Shared} {env : Env} {h₀ : Heap} {x : Str} (y : Str) {px pos : Pos} {iter : Expr} {body orelse : List Stmt} {Q : Flow → Shared → Prop} {L₁ : Addr} {m₁ : Str → Option Value}
    (_F : Fr h₀ L₁ s.heap m₁) (hx : env.kindOf x = some .local) (hp : (env.scope.kind == .class || (env.scope.kind == .module && env.locals != env.globals)) = false)
    (h : wpAny (model prog w) A (eval iter env) (ElseAt prog w A h₀ env x y body orelse Q E) E s)
    (hs : ∀ x, foldedSetIterable iter env x = pure x := by intro _; rfl)
    (hE : PassesOwn (model prog w) A env E := by passes_own) :
    wpAny (model prog w) A (exec (.For (.Name x px) iter body orelse pos) env) Q E s := by
  refine wpAny_For (wpAny_mono h (fun xv s₁ h₁ => ?_) fun _ _ e => e) hs
  obtain ⟨r, a, b, n, t, u, v, m₀, news, J, z0, tz, rfl, hh, hr, hsm, hn, F, N, hz0, hJ0, turn, done⟩ := h₁
  refine wpAny_pyIter_range hr hsm ?_
  have W : Walks prog w A s₁.heap.objs.size [s₁.heap.objs.size] [s₁.heap.objs.size] n (fun i v => i < n ∧ ∃ t, v = .int (a + i * 1) t)
      (fun i h => IsRangeIter h s₁.heap.objs.size (a + (i : Nat) * 1) ((n : Int) - (i : Nat)) 1) := (Walks.range hh _ a 1 n).bound
  have hL : env.locals ≠ s₁.heap.objs.size := Nat.ne_of_lt F.ns.lt
  have hI₀ : h₀.get? s₁.heap.objs.size = none := next_is_new F
  have hnw : ∀ p ∈ news, p.1 ≠ s₁.heap.objs.size := fun p hp => Nat.ne_of_lt (Heap.lt_size (N p hp).1)
  refine codeAny_forLoop (R := fun r s' => match r with | .ok f => Q f s' | .error e => cameBackBy (model prog w) A env E e s')
    (fun k s' => ∃ h' tk m' i z t2, s' = { s₁ with heap := h', toks := tk } ∧ IsRangeIter h' s₁.heap.objs.size (a + (i : Nat) * 1) ((n : Int) - (i : Nat)) 1 ∧ Fr h₀ env.locals h' m' ∧ News h₀ env.locals h' news ∧ m' y = some (.int z t2) ∧ (∀ q, q ≠ x → q ≠ y → m' q = m₀ q) ∧ J i z ∧ i ≤ n ∧ k = n + 1 - i) ?_ (n + 1)
    ⟨_, _, m₀, 0, z0, tz, rfl, by show IsRangeIter _ _ _ _ _; rw [hn]; simpa using Heap.get?_push_size _ rfl, F.push _, fun p hp => ⟨Heap.get?_push_of_some _ (N p hp).1, (N p hp).2⟩, hz0, fun _ _ _ => rfl, hJ0, Nat.zero_le _, rfl⟩
  rintro k s' ⟨h', tk, m', i, z, t2, rfl, hst, F', N', hz, hm, hJ, hi, rfl⟩
  have nxt : ∀ h₁ : Heap, (∀ b o, b ∉ [s₁.heap.objs.size] → h'.get? b = some o → h₁.get? b = some o) → Fr h₀ env.locals h₁ m' ∧ News h₀ env.locals h₁ news := fun h₁ hk₁ =>
    ⟨⟨F'.ns.at' fun o e => hk₁ _ o (by simpa using hL) e, fun b o e => hk₁ b o (fun hb => by rw [List.mem_singleton.mp hb, hI₀] at e; cases e) (F'.keep b o e), F'.above⟩, fun p hp => ⟨hk₁ _ _ (by simpa using hnw p hp) (N' p hp).1, (N' p hp).2⟩⟩
  by_cases hlt : i < n
  · refine W.item i _ _ _ hlt hst fun v h₁ tk₁ hP hst₁ hk₁ => ?_
    obtain ⟨F₁, N₁⟩ := nxt h₁ hk₁
    obtain ⟨_, tv, rfl⟩ := hP
    refine wpAny_assign_Name (wpAny_storeName_local hx F₁.ns (fun h₂ hn₂ hs₂ => ?_) hp)
    have F₂ := F₁.set hn₂ hs₂
    have hst₂ := W.frame _ _ h₂ hst₁ fun b hb o e => (hs₂.2 b fun q => hL (by rw [← q]; exact List.mem_singleton.mp hb)).trans e
    obtain ⟨oI, heI⟩ : ∃ oI, h₂.get? s₁.heap.objs.size = some oI := ⟨_, hst₂⟩
    have N₂ : News h₀ env.locals h₂ ((s₁.heap.objs.size, oI) :: news) := fun p hp => by
      rcases List.mem_cons.mp hp with e | hp
      · rw [e]; exact ⟨heI, Ne.symm hL, hI₀⟩
      · exact (N₁.set hs₂) p hp
    have e1 : a + (i : Int) * 1 = a + (i : Int) := by omega
    rw [e1, els_fr hz hm] at F₂
    refine wpAny_passesOwn hE (wpAny_mono (turn i z _ _ oI tv t2 h₂ _ hlt rfl hJ F₂ N₂) (fun f s₃ h₃ => ?_) fun _ _ e => e)
    have fin : ElseEnd h₀ env.locals s₁.heap.objs.size oI news x y m₀ (J (i + 1)) { s₁ with heap := h₂, toks := tk₁ + 1 } s₃ → ∃ m, m < n + 1 - i ∧ ∃ h' tk m' i z t2, s₃ = { s₁ with heap := h', toks := tk } ∧ IsRangeIter h' s₁.heap.objs.size (a + (i : Nat) * 1) ((n : Int) - (i : Nat)) 1 ∧ Fr h₀ env.locals h' m' ∧ News h₀ env.locals h' news ∧ m' y = some (.int z t2) ∧ (∀ q, q ≠ x → q ≠ y → m' q = m₀ q) ∧ J i z ∧ i ≤ n ∧ m = n + 1 - i := by
      rintro ⟨h₃', tk₃, m₃, z₃, t₃, rfl, F₃, N₃, hz₃, hm₃, hJ₃⟩
      refine ⟨n + 1 - (i + 1), by omega, h₃', tk₃, m₃, i + 1, z₃, t₃, rfl, ?_, F₃, fun p hp => N₃ p (List.Mem.tail _ hp), hz₃, hm₃, hJ₃, hlt, rfl⟩
      refine W.frame _ _ _ hst₂ fun b hb o e => ?_
      rw [List.mem_singleton.mp hb] at e ⊢
      rw [heI] at e
      rw [← Option.some.inj e]
      exact (N₃ _ (List.Mem.head _)).1
    cases f with
    | ret v => exact h₃
    | brk => exact h₃
    | cont => exact fin h₃
    | next => exact fin h₃
  · have hin : i = n := by omega
    subst hin
    refine W.done _ _ _ hst fun h₁ tk₁ hk₁ => ?_
    obtain ⟨F₁, N₁⟩ := nxt h₁ hk₁
    have e : m' = (fun q => if q = x then m' x else if q = y then some (.int z t2) else m₀ q) := by
      rw [← els_fr hz hm (m' x)]
      funext q
      by_cases e1 : q = x
      · rw [if_pos e1, e1]
      · rw [if_neg e1]
    exact wpAny_passesOwn hE (done z t2 (m' x) h₁ tk₁ hJ (e ▸ F₁) N₁)
end Mine
namespace Mine
def TupEnd (h₀ : Heap) (L : Addr) (x : Str) (m₀ : Str → Option Value) (Pn : Prop) (all : List (Addr × Obj)) (s₁ s₂ : Shared) : Prop :=
  ∃ h' tk m', s₂ = { s₁ with heap := h', toks := tk } ∧ Fr h₀ L h' m' ∧ News h₀ L h' all ∧ (∀ z, z ≠ x → m' z = m₀ z) ∧ Pn
theorem TupEnd.intro {h₀ h' : Heap} {L : Addr} {x : Str} {m₀ m' : Str → Option Value} {Pn : Prop} {all : List (Addr × Obj)} {s₁ : Shared} {tk : Nat} (F : Fr h₀ L h' m') (N : News h₀ L h' all) (hm : ∀ z, z ≠ x → m' z = m₀ z) (hp : Pn) :
    TupEnd h₀ L x m₀ Pn all s₁ { s₁ with heap := h', toks := tk } := ⟨h', tk, m', rfl, F, N, hm, hp⟩
def TupPost (h₀ : Heap) (L : Addr) (x : Str) (m₀ : Str → Option Value) (Pn : Prop) (all : List (Addr × Obj)) (s₁ : Shared) (Q : Flow → Shared → Prop) (f : Flow) (s₂ : Shared) : Prop :=
  match f with
  | .ret v => Q (.ret v) s₂
  | .brk => Q .next s₂
  | _ => TupEnd h₀ L x m₀ Pn all s₁ s₂
/-- a search through a tuple of ints that stands at the top -/
theorem tup_search {prog : Program} {w : World} {A : Around} {E : Value → Shared → Prop} {s : Shared} {env : Env} {h₀ : Heap} {x : Str} {body : List Stmt} {Q : Flow → Shared → Prop} {l : Addr} {vs : List Value} {ns : List Int} {m₀ : Str → Option Value} {news : List (Addr × Obj)} (P : List Int → Prop)
    (hh : A.handled = none) (hl : h₀.IsTuple l vs.toArray) (hi : IntsAre vs ns) (F : Fr h₀ env.locals s.heap m₀) (N : News h₀ env.locals s.heap news) (hp : P [])
    (turn : ∀ pre k post t h tk own, ns = pre ++ k :: post → P pre → Fr h₀ env.locals h (fun y => if y = x then some (.int k t) else m₀ y) → News h₀ env.locals h (news ++ own) →
      wpAny (model prog w) A (execs body env) (TupPost h₀ env.locals x m₀ (P (pre ++ [k])) (news ++ own) { s with heap := h, toks := tk } Q) E { s with heap := h, toks := tk })
    (done : ∀ (u : Str → Option Value) h tk, P ns → Fr h₀ env.locals h (fun y => if y = x then u y else m₀ y) → News h₀ env.locals h news → Q .next { s with heap := h, toks := tk }) :
    wpAny (model prog w) A (pyIter (.ref l)) (fun it s₂ => LoopAtV prog w A h₀ env x body Q E it s₂) E s := by
  obtain ⟨ol, hol, hcl, hdl⟩ := id hl
  have hls : s.heap.IsTuple l vs.toArray := ⟨ol, F.keep l ol hol, hcl, hdl⟩
  have hlt : l < h₀.objs.size := Heap.lt_size hol
  have hne : l ≠ s.heap.objs.size := Nat.ne_of_lt (Nat.lt_trans (Nat.lt_of_lt_of_le hlt F.above) F.ns.lt)
  refine wpAny_pyIter_tuple hls ?_
  have W := Walks.tuple (prog := prog) (w := w) hh s.heap.objs.size l hne vs.toArray
  have hlen : vs.toArray.size = ns.length := by simp [hi.length]
  rw [hlen] at W
  let J : Nat → (Str → Option Value) → List (Addr × Obj) → Prop := fun i m₁ news₁ => news₁ = news ∧ (∀ z, z ≠ x → m₁ z = m₀ z) ∧ P (ns.take i)
  refine ⟨_, _, _, ns.length, _, _, m₀, news, J, rfl, W, ?_, ?_, ?_, ⟨⟨_, Heap.get?_push_size _ rfl, rfl, rfl⟩, ⟨ol, Heap.get?_push_of_some _ (F.keep l ol hol), hcl, hdl⟩⟩, F.push _, (fun p hp => ⟨Heap.get?_push_of_some _ (N p hp).1, (N p hp).2⟩), ⟨rfl, fun _ _ => rfl, by simpa using hp⟩, ?_, ?_⟩
  · intro hm
    rcases List.mem_cons.mp hm with e | hm
    · exact absurd F.ns.lt (e ▸ Nat.lt_irrefl _)
    · exact absurd (Nat.lt_of_lt_of_le hlt F.above) ((List.mem_singleton.mp hm) ▸ Nat.lt_irrefl _)
  · intro b hb
    rw [List.mem_singleton.mp hb]
    exact next_is_new F
  · intro p hp hI
    exact absurd (Heap.lt_size (N p hp).1) ((List.mem_singleton.mp hI) ▸ Nat.lt_irrefl _)
  · rintro i v m₁ news₁ s₁ own ⟨hh', tk', rfl⟩ hin hP ⟨rfl, hm₁, hPi⟩ hoff hown _ _ _ F₁ N₁
    have hlt' : i < ns.length := hin
    obtain ⟨t, hx⟩ := hi.get i ns[i] (by simp [hlt'])
    have hv : v = .int ns[i] t := by
      have hP' : vs[i]? = some v := by simpa using hP
      rw [hx] at hP'; exact (Option.some.inj hP').symm
    subst hv
    have N₂ : News h₀ env.locals hh' (news₁ ++ own) := fun p hp => N₁ p ((List.mem_append.mp hp).elim (fun h => List.mem_append.mpr (.inr h)) fun h => List.mem_append.mpr (.inl h))
    have e1 : (fun y => if y = x then some (Value.int ns[i] t) else m₁ y) = (fun y => if y = x then some (Value.int ns[i] t) else m₀ y) := by
      funext y
      by_cases h : y = x
      · rw [if_pos h, if_pos h]
      · rw [if_neg h, if_neg h]; exact hm₁ y h
    rw [e1] at F₁
    have e2 : ns = ns.take i ++ ns[i] :: ns.drop (i + 1) := by rw [List.getElem_cons_drop]; exact (List.take_append_drop i ns).symm
    have e3 : ns.take (i + 1) = ns.take i ++ [ns[i]] := by rw [List.take_add_one]; simp [hlt']
    refine wpAny_mono (turn (ns.take i) ns[i] (ns.drop (i + 1)) t hh' tk' own e2 hPi F₁ N₂) (fun f s₂ p => ?_) fun _ _ e => e
    have fin : TupEnd h₀ env.locals x m₀ (P (ns.take i ++ [ns[i]])) (news₁ ++ own) { s with heap := hh', toks := tk' } s₂ → LoopStepU h₀ env.locals [s.heap.objs.size] own (J (i + 1)) { s with heap := hh', toks := tk' } .next s₂ := by
      rintro ⟨h', tk, m', e, F', N', hm, hp⟩
      exact ⟨rfl, h', tk, m', news₁, e, F', fun p hp => N' p ((List.mem_append.mp hp).elim (fun h => List.mem_append.mpr (.inr h)) fun h => List.mem_append.mpr (.inl h)), hoff, rfl, hm, by rw [e3]; exact hp⟩
    cases f with
    | ret v => exact .ret p
    | brk => exact .brk p
    | next => exact .next (fin p)
    | cont => exact .cont (fin p)
  · rintro h' tk m' news' F' N' _ ⟨rfl, hm, hPn⟩
    rw [List.take_length] at hPn
    refine done m' h' tk hPn ?_ N'
    have e : (fun z => if z = x then m' z else m₀ z) = m' := by
      funext z
      by_cases h1 : z = x
      · simp [h1]
      · simp only [if_neg h1]; exact (hm z h1).symm
    rw [e]; exact F'
end Mine
namespace Mine
/-- an int of a tuple at the top, at a place in bounds -/
theorem top_item {prog : Program} {w : World} {A : Around} {E : Value → Shared → Prop} {s : Shared} {h₀ : Heap} {L a : Addr} {m : Str → Option Value} {K : Frag} {n : Nat} {value slice : Expr} {l : List Value} {ns : List Int} {dd : Option Addr} {sl : Array (Option Value)} {k : Int} {u : Tok} {Q : Value → Shared → Prop} (F : Fr h₀ L s.heap m) (X₀ : K.In h₀) (hl : K.lookup a = some ⟨.type "tuple", dd, .seq l.toArray n, sl⟩)
    (hi : IntsAre l ns) (h0 : 0 ≤ k) (h1 : k < ns.length) (hf : k < 2 ^ 63) (h : ∀ t, Q (.int (ns.getD k.toNat 0) t) s)
    (hs : subscripted slice false (.ref a) (.int k u) = operate [.ref a, .int k u] (getItem (.ref a) (.int k u)) := by with_unfolding_all rfl) :
    wpAny (model prog w) A (subscriptTail value slice (.ref a) (.int k u)) Q E s := by
  have hlen := hi.length
  have hx : ns[k.toNat]? = some (ns.getD k.toNat 0) := by
    rw [List.getD_eq_getElem?_getD, List.getElem?_eq_getElem (by omega)]; rfl
  obtain ⟨t, ht⟩ := hi.get k.toNat _ hx
  refine topTup_K (j := k.toNat) F X₀ hl (by omega) hf ?_ ht (h t) hs
  unfold seqIndex?
  rw [hlen, if_neg (by omega : ¬ k < 0)]
  simp only [h0, h1, decide_true, Bool.and_true, if_true]
end Mine
namespace Mine
/-- a search through a tuple of ints that the call has made -/
theorem tupL_search {prog : Program} {w : World} {A : Around} {E : Value → Shared → Prop} {s : Shared} {env : Env} {h₀ : Heap} {x : Str} {body : List Stmt} {Q : Flow → Shared → Prop} {l : Addr} {c : Nat} {vs : List Value} {ns : List Int} {m₀ : Str → Option Value} {news : List (Addr × Obj)} (P : List Int → Prop)
    (hh : A.handled = none) (hl : (l, ({ cls := .type "tuple", data := .seq vs.toArray c } : Obj)) ∈ news) (hi : IntsAre vs ns) (F : Fr h₀ env.locals s.heap m₀) (N : News h₀ env.locals s.heap news) (hp : P [])
    (turn : ∀ pre k post t h tk own, ns = pre ++ k :: post → P pre → Fr h₀ env.locals h (fun y => if y = x then some (.int k t) else m₀ y) → News h₀ env.locals h (news ++ own) →
      wpAny (model prog w) A (execs body env) (TupPost h₀ env.locals x m₀ (P (pre ++ [k])) (news ++ own) { s with heap := h, toks := tk } Q) E { s with heap := h, toks := tk })
    (done : ∀ (u : Str → Option Value) h tk, P ns → Fr h₀ env.locals h (fun y => if y = x then u y else m₀ y) → News h₀ env.locals h news → Q .next { s with heap := h, toks := tk }) :
    wpAny (model prog w) A (pyIter (.ref l)) (fun it s₂ => LoopAtV prog w A h₀ env x body Q E it s₂) E s := by
  have hol := (N _ hl).1
  have hls : s.heap.IsTuple l vs.toArray := ⟨_, hol, rfl, c, rfl⟩
  have hne : l ≠ s.heap.objs.size := Nat.ne_of_lt (Heap.lt_size hol)
  refine wpAny_pyIter_tuple hls ?_
  have W := Walks.tuple (prog := prog) (w := w) hh s.heap.objs.size l hne vs.toArray
  have hlen : vs.toArray.size = ns.length := by simp [hi.length]
  rw [hlen] at W
  let J : Nat → (Str → Option Value) → List (Addr × Obj) → Prop := fun i m₁ news₁ => news₁ = news ∧ (∀ z, z ≠ x → m₁ z = m₀ z) ∧ P (ns.take i)
  refine ⟨_, _, _, ns.length, _, _, m₀, news, J, rfl, W, ?_, ?_, ?_, ⟨⟨_, Heap.get?_push_size _ rfl, rfl, rfl⟩, ⟨_, Heap.get?_push_of_some _ hol, rfl, c, rfl⟩⟩, F.push _, (fun p hp => ⟨Heap.get?_push_of_some _ (N p hp).1, (N p hp).2⟩), ⟨rfl, fun _ _ => rfl, by simpa using hp⟩, ?_, ?_⟩
  · intro hm
    rcases List.mem_cons.mp hm with e | hm
    · exact absurd F.ns.lt (e ▸ Nat.lt_irrefl _)
    · exact (N _ hl).2.1 (List.mem_singleton.mp hm).symm
  · intro b hb
    rw [List.mem_singleton.mp hb]
    exact next_is_new F
  · intro p hp hI
    exact absurd (Heap.lt_size (N p hp).1) ((List.mem_singleton.mp hI) ▸ Nat.lt_irrefl _)
  · rintro i v m₁ news₁ s₁ own ⟨hh', tk', rfl⟩ hin hP ⟨rfl, hm₁, hPi⟩ hoff hown _ _ _ F₁ N₁
    have hlt' : i < ns.length := hin
    obtain ⟨t, hx⟩ := hi.get i ns[i] (by simp [hlt'])
    have hv : v = .int ns[i] t := by
      have hP' : vs[i]? = some v := by simpa using hP
      rw [hx] at hP'; exact (Option.some.inj hP').symm
    subst hv
    have N₂ : News h₀ env.locals hh' (news₁ ++ own) := fun p hp => N₁ p ((List.mem_append.mp hp).elim (fun h => List.mem_append.mpr (.inr h)) fun h => List.mem_append.mpr (.inl h))
    have e1 : (fun y => if y = x then some (Value.int ns[i] t) else m₁ y) = (fun y => if y = x then some (Value.int ns[i] t) else m₀ y) := by
      funext y
      by_cases h : y = x
      · rw [if_pos h, if_pos h]
      · rw [if_neg h, if_neg h]; exact hm₁ y h
    rw [e1] at F₁
    have e2 : ns = ns.take i ++ ns[i] :: ns.drop (i + 1) := by rw [List.getElem_cons_drop]; exact (List.take_append_drop i ns).symm
    have e3 : ns.take (i + 1) = ns.take i ++ [ns[i]] := by rw [List.take_add_one]; simp [hlt']
    refine wpAny_mono (turn (ns.take i) ns[i] (ns.drop (i + 1)) t hh' tk' own e2 hPi F₁ N₂) (fun f s₂ p => ?_) fun _ _ e => e
    have fin : TupEnd h₀ env.locals x m₀ (P (ns.take i ++ [ns[i]])) (news₁ ++ own) { s with heap := hh', toks := tk' } s₂ → LoopStepU h₀ env.locals [s.heap.objs.size] own (J (i + 1)) { s with heap := hh', toks := tk' } .next s₂ := by
      rintro ⟨h', tk, m', e, F', N', hm, hp⟩
      exact ⟨rfl, h', tk, m', news₁, e, F', fun p hp => N' p ((List.mem_append.mp hp).elim (fun h => List.mem_append.mpr (.inr h)) fun h => List.mem_append.mpr (.inl h)), hoff, rfl, hm, by rw [e3]; exact hp⟩
    cases f with
    | ret v => exact .ret p
    | brk => exact .brk p
    | next => exact .next (fin p)
    | cont => exact .cont (fin p)
  · rintro h' tk m' news' F' N' _ ⟨rfl, hm, hPn⟩
    rw [List.take_length] at hPn
    refine done m' h' tk hPn ?_ N'
    have e : (fun z => if z = x then m' z else m₀ z) = m' := by
      funext z
      by_cases h1 : z = x
      · simp [h1]
      · simp only [if_neg h1]; exact (hm z h1).symm
    rw [e]; exact F'
end Mine
namespace Mine
/-- the ints of a list of the ledger, or of a tuple at the top -/
def SrcAt (K : Frag) (l : Addr) (vs : List Value) (news : List (Addr × Obj)) : Prop :=
  (∃ c, (l, listOf vs.toArray c) ∈ news) ∨ ∃ dd n sl, K.lookup l = some ⟨.type "tuple", dd, .seq vs.toArray n, sl⟩
/-- isprime's two ways to be called: with a told list, or with its own basis -/
def Mode (K : Frag) (l : Addr) (vs : List Value) (n : Int) (t1 : Tok) (us : List Value) (news : List (Addr × Obj)) : Prop :=
  (us = [.int n t1, .ref l] ∧ ∃ c, (l, listOf vs.toArray c) ∈ news) ∨ (us = [.int n t1] ∧ l = 64 ∧ ∃ dd n sl, K.lookup l = some ⟨.type "tuple", dd, .seq vs.toArray n, sl⟩)
theorem Mode.src {K : Frag} {l : Addr} {vs : List Value} {n : Int} {t1 : Tok} {us : List Value} {news : List (Addr × Obj)} (h : Mode K l vs n t1 us news) : SrcAt K l vs news :=
  h.elim (fun h => .inl h.2) fun h => .inr h.2.2
abbrev ClaimG (prog : Program) (w : World) (K : Frag) (p : Program) (f : Addr) (d : Nat) (l : Addr) (ws : List Value) (n : Int) (t1 : Tok) (vs : List Value) (R : Tok → Value) : Prop :=
  ∀ {loose : List Str} {mean : ExcName → Option Value} {mg mb : Str → Option Value} {news : List (Addr × Obj)} {dp un : Nat} {gd : Option (List Code)} {cn : Str} {cs : Scope} {a : Addr} {ccd : Value} {cl : List (Str × Addr)} {outer : List Env} {A₀ : Around} {base h₀ : Heap} {L : Addr} {m : Str → Option Value} {s : Shared} {Q E : Value → Shared → Prop},
    Below A₀ base outer h₀ → Fr h₀ L s.heap m → K.In h₀ → News h₀ L s.heap news → Mode K l ws n t1 vs news → Top p loose mean mg mb h₀ → cs.kind = .function →
    dp + d < recursionLimit → un + 8 * d < cLine → Ret h₀ L m news s Q R →
      wpAny (model prog w) (ktrTop dp un gd cn cs L a ccd cl outer) (call (.ref f) vs) Q E s
theorem src_search {prog : Program} {w : World} {A : Around} {E : Value → Shared → Prop} {s : Shared} {env : Env} {h₀ : Heap} {x : Str} {body : List Stmt} {Q : Flow → Shared → Prop} {K : Frag} {l : Addr} {vs : List Value} {ns : List Int} {m₀ : Str → Option Value} {news : List (Addr × Obj)} (P : List Int → Prop)
    (hh : A.handled = none) (hs : SrcAt K l vs news) (X : K.In h₀) (hi : IntsAre vs ns) (F : Fr h₀ env.locals s.heap m₀) (N : News h₀ env.locals s.heap news) (hp : P [])
    (turn : ∀ pre k post t h tk own, ns = pre ++ k :: post → P pre → Fr h₀ env.locals h (fun y => if y = x then some (.int k t) else m₀ y) → News h₀ env.locals h (news ++ own) →
      wpAny (model prog w) A (execs body env) (TupPost h₀ env.locals x m₀ (P (pre ++ [k])) (news ++ own) { s with heap := h, toks := tk } Q) E { s with heap := h, toks := tk })
    (done : ∀ (u : Str → Option Value) h tk, P ns → Fr h₀ env.locals h (fun y => if y = x then u y else m₀ y) → News h₀ env.locals h news → Q .next { s with heap := h, toks := tk }) :
    wpAny (model prog w) A (pyIter (.ref l)) (fun it s₂ => LoopAtV prog w A h₀ env x body Q E it s₂) E s := by
  rcases hs with ⟨c, hl⟩ | ⟨dd, n, sl, hl⟩
  · refine iter_invNL (fun i m nx => nx = news ∧ (∀ z, z ≠ x → m z = m₀ z) ∧ P (ns.take i)) hh hl hi F N ⟨rfl, fun _ _ => rfl, by simpa using hp⟩ ?_ ?_
    · rintro i k t m₁ news₁ h tk own hk _ _ _ ⟨rfl, hm, hPi⟩ F₁ N₁
      have e2 : ns = ns.take i ++ k :: ns.drop (i + 1) := by
        obtain ⟨hlt, e⟩ := List.getElem?_eq_some_iff.mp hk
        rw [← e, List.getElem_cons_drop]; exact (List.take_append_drop i ns).symm
      have e3 : ns.take (i + 1) = ns.take i ++ [k] := by rw [List.take_add_one, hk]; rfl
      have e1 : (fun y => if y = x then some (Value.int k t) else m₁ y) = (fun y => if y = x then some (Value.int k t) else m₀ y) := by
        funext y
        by_cases h : y = x
        · rw [if_pos h, if_pos h]
        · rw [if_neg h, if_neg h]; exact hm y h
      rw [e1] at F₁
      refine wpAny_mono (turn (ns.take i) k (ns.drop (i + 1)) t h tk own e2 hPi F₁ N₁) (fun f s₂ p => ?_) fun _ _ e => e
      have fin : TupEnd h₀ env.locals x m₀ (P (ns.take i ++ [k])) (news₁ ++ own) { s with heap := h, toks := tk } s₂ → InvEndN h₀ env.locals (fun m' nx => (l, listOf vs.toArray c) ∈ nx ∧ nx = news₁ ∧ (∀ z, z ≠ x → m' z = m₀ z) ∧ P (ns.take (i + 1))) own (news₁.map (·.1)) { s with heap := h, toks := tk } s₂ := by
        rintro ⟨h', tk', m', e, F', N', hm', hp'⟩
        exact ⟨h', tk', m', news₁ ++ own, news₁, e, F', N', fun p hp => List.mem_append_left _ hp, fun p hp => List.mem_append_right _ hp, rfl, hl, rfl, hm', by rw [e3]; exact hp'⟩
      cases f with
      | ret v => exact p
      | brk => exact p
      | next => exact fin p
      | cont => exact fin p
    · rintro m₁ news₁ h tk _ ⟨rfl, hm, hPn⟩ F₁ N₁
      rw [List.take_length] at hPn
      refine done m₁ h tk hPn ?_ N₁
      have e : (fun z => if z = x then m₁ z else m₀ z) = m₁ := by
        funext z
        by_cases h1 : z = x
        · simp [h1]
        · simp only [if_neg h1]; exact (hm z h1).symm
      rw [e]; exact F₁
  · exact tup_search P hh (tupK X hl) hi F N hp turn done
end Mine
namespace Mine
abbrev CW := List Int × List Value × Nat × Int × Tok × Obj
abbrev cwLed (l c : Addr) (news : List (Addr × Obj)) (x : CW) : List (Addr × Obj) := (l, listOf x.2.1.toArray x.2.2.1) :: (c, x.2.2.2.2.2) :: news
abbrev cwFacts (x : CW) : Prop := IntsAre x.2.1 x.1 ∧ x.2.2.2.2.2.data = .cell (some (.int x.2.2.2.1 x.2.2.2.2.1))
end Mine
namespace Mine
/-- a test's answer, all else as it was -/
def Same (h₀ : Heap) (L : Addr) (m : Str → Option Value) (news : List (Addr × Obj)) (s s' : Shared) : Prop := ∃ h' tk', s' = { s with heap := h', toks := tk' } ∧ Fr h₀ L h' m ∧ News h₀ L h' news
theorem Same.intro {h₀ h' : Heap} {L : Addr} {m : Str → Option Value} {news : List (Addr × Obj)} {s : Shared} {tk' : Nat} (F : Fr h₀ L h' m) (N : News h₀ L h' news) : Same h₀ L m news s { s with heap := h', toks := tk' } := ⟨h', tk', rfl, F, N⟩
def TestIs (b : Bool) (h₀ : Heap) (L : Addr) (m : Str → Option Value) (news : List (Addr × Obj)) (s : Shared) (ok : Bool) (s' : Shared) : Prop := ok = b ∧ Same h₀ L m news s s'
def IntIs (k : Int) (h₀ : Heap) (L : Addr) (m : Str → Option Value) (news : List (Addr × Obj)) (s : Shared) (v : Value) (s' : Shared) : Prop := (∃ t, v = .int k t) ∧ Same h₀ L m news s s'
theorem TestIs.intro {b ok : Bool} {h₀ h' : Heap} {L : Addr} {m : Str → Option Value} {news : List (Addr × Obj)} {s : Shared} {tk' : Nat} (e : ok = b) (F : Fr h₀ L h' m) (N : News h₀ L h' news) : TestIs b h₀ L m news s ok { s with heap := h', toks := tk' } := ⟨e, Same.intro F N⟩
theorem IntIs.intro {k : Int} {t : Tok} {h₀ h' : Heap} {L : Addr} {m : Str → Option Value} {news : List (Addr × Obj)} {s : Shared} {tk' : Nat} (F : Fr h₀ L h' m) (N : News h₀ L h' news) : IntIs k h₀ L m news s (.int k t) { s with heap := h', toks := tk' } := ⟨⟨t, rfl⟩, Same.intro F N⟩
end Mine
namespace Mine
/-- a comprehension over a range, with one test: f of the ints that pass it -/
theorem lct_range {prog : Program} {w : World} {A : Around} {h₀ : Heap} {L : Addr} {m : Str → Option Value} {env : Env} {ct elt : Expr} {x : Str} {scope : Scope} {cl : List (Str × Addr)} {s : Shared} {S : List (Addr × Obj) → Prop} {Fin : List Value → List (Addr × Obj) → Prop} {news : List (Addr × Obj)}
    {a : Int} {n : Nat} (g : Int → Bool) (f : Int → Int) (hS : S news)
    (turn : ∀ k t I oI C oC D m₂ ys h tk (E' : Value → Shared → Prop), a ≤ k → k < a + n → LCg.NsObj oC m₂ → m₂ x = some (.int k t) → Fr h₀ L h m → News h₀ L h ((I, oI) :: (C, oC) :: (D, LCg.lst ys) :: news) → LCg.Off3 I C D news → ((@Ne Nat I C) ∧ (@Ne Nat I D) ∧ (@Ne Nat C D)) →
      wpAny (model prog w) A (isTrue ct (compEnvC scope cl C env) (eval ct (compEnvC scope cl C env))) (TestIs (g k) h₀ L m ((I, oI) :: (C, oC) :: (D, LCg.lst ys) :: news) { s with heap := h, toks := tk }) E' { s with heap := h, toks := tk })
    (turn2 : ∀ k t I oI C oC D m₂ ys h tk (E' : Value → Shared → Prop), a ≤ k → k < a + n → LCg.NsObj oC m₂ → m₂ x = some (.int k t) → Fr h₀ L h m → News h₀ L h ((I, oI) :: (C, oC) :: (D, LCg.lst ys) :: news) → LCg.Off3 I C D news → ((@Ne Nat I C) ∧ (@Ne Nat I D) ∧ (@Ne Nat C D)) →
      wpAny (model prog w) A (eval elt (compEnvC scope cl C env)) (IntIs (f k) h₀ L m ((I, oI) :: (C, oC) :: (D, LCg.lst ys) :: news) { s with heap := h, toks := tk }) E' { s with heap := h, toks := tk })
    (fin : ∀ ys, IntsAre ys (((rangeKs a n).filter g).map f) → Fin ys news) : LCt.CompRestT prog w A h₀ L m env ct elt x scope cl s S (fun i v => ∃ t, v = .int (a + (i : Int)) t) Fin n 0 [] news := by
  have key : ∀ (j i : Nat) (ys : List Value), i + j = n → IntsAre ys (((rangeKs a i).filter g).map f) → LCt.CompRestT prog w A h₀ L m env ct elt x scope cl s S (fun i v => ∃ t, v = .int (a + (i : Int)) t) Fin j i ys news := by
    intro j
    induction j with
    | zero =>
      intro i ys hij hy
      have e : i = n := by omega
      subst e
      exact LCt.CompRestT.zero (fin ys hy)
    | succ j ih =>
      intro i ys hij hy
      refine LCt.CompRestT.succ ?_
      intro v I oI C oC D m₂ h tk E' hv hC hx F N off ne
      obtain ⟨t, ev⟩ := hv
      rw [ev] at hx
      have hr : rangeKs a (i + 1) = rangeKs a i ++ [a + (i : Int)] := by
        unfold rangeKs; rw [List.range_succ, List.map_append]; rfl
      have h1 : a ≤ a + (i : Int) := by omega
      have h2 : a + (i : Int) < a + (n : Int) := by omega
      generalize a + (i : Int) = k at *
      refine wpAny_mono (turn k t I oI C oC D m₂ ys h tk E' h1 h2 hC hx F N off ne) (fun ok s₂ hq => ?_) fun _ _ e => e
      obtain ⟨eok, h', tk', es, F', N'⟩ := hq
      subst es
      cases hok : ok with
      | true =>
        rw [if_pos rfl]
        rw [hok] at eok
        refine wpAny_mono (turn2 k t I oI C oC D m₂ ys h' tk' E' h1 h2 hC hx F' N' off ne) (fun y s₃ hq => ?_) fun _ _ e => e
        obtain ⟨⟨t', ey⟩, h'', tk'', es, F'', N''⟩ := hq
        subst es
        refine ⟨h'', tk'', news, rfl, F'', N'', off, hS, ?_⟩
        rw [ey]
        refine ih (i + 1) _ (by omega) ?_
        rw [hr, List.filter_append]
        have : [k].filter g = [k] := by simp [← eok]
        rw [this, List.map_append]
        exact IntsAre.append hy (.cons (f k) t' .nil)
      | false =>
        rw [if_neg (by decide)]
        rw [hok] at eok
        refine ⟨h', tk', news, rfl, F', N', off, hS, ?_⟩
        refine ih (i + 1) _ (by omega) ?_
        rw [hr, List.filter_append]
        have : [k].filter g = [] := by simp [← eok]
        rw [this, List.append_nil]
        exact hy
  exact key n 0 [] (by omega) .nil
end Mine
namespace Mine
abbrev RetO (h₀ : Heap) (L : Addr) (m : Str → Option Value) (news : List (Addr × Obj)) (s : Shared) (Q : Value → Shared → Prop) (ns : List Int) : Prop :=
  ∀ (D : Addr) (vs : List Value) (c : Nat) (h' : Heap) (tk' : Nat), IntsAre vs ns → Fr h₀ L h' m → News h₀ L h' ((D, listOf vs.toArray c) :: news) → LCg.Off1 D news → Q (.ref D) { s with heap := h', toks := tk' }
/-- a call that gives back a new list of ints, at an address that is none of the ledger's -/
abbrev ClaimO (prog : Program) (w : World) (K : Frag) (p : Program) (f : Addr) (d : Nat) (H : Heap → Prop) (vs : List Value) (ns : List Int) : Prop :=
  ∀ {loose : List Str} {mean : ExcName → Option Value} {mg mb : Str → Option Value} {news : List (Addr × Obj)} {dp un : Nat} {gd : Option (List Code)} {cn : Str} {cs : Scope} {a : Addr} {ccd : Value} {cl : List (Str × Addr)} {outer : List Env} {A₀ : Around} {base h₀ : Heap} {L : Addr} {m : Str → Option Value} {s : Shared} {Q E : Value → Shared → Prop},
    Below A₀ base outer h₀ → Fr h₀ L s.heap m → K.In h₀ → News h₀ L s.heap news → Top p loose mean mg mb h₀ → cs.kind = .function →
    H base → dp + d < recursionLimit → un + 8 * d < cLine → RetO h₀ L m news s Q ns →
      wpAny (model prog w) (ktrTop dp un gd cn cs L a ccd cl outer) (call (.ref f) vs) Q E s
end Mine
namespace Mine
/-! the strong test to base 2 -/
def NB9 (n : Int) : Prop := 3 ≤ n ∧ n.natAbs < 2 ^ 900
/-- the loop that halves: t * 2 ^ (s - 1) = a -/
def Hf (a t s : Int) : Prop := 1 ≤ t ∧ 1 ≤ s ∧ t * 2 ^ (s - 1).toNat = a
theorem hf_start {a : Int} (ha : 1 ≤ a) : Hf a a 1 := ⟨ha, by decide, by show a * 2 ^ 0 = a; rw [Int.pow_zero, Int.mul_one]⟩
theorem hf_turn {a t s : Int} (h : Hf a t s) (he : t.fmod 2 = 0) : Hf a (t.fdiv 2) (s + 1) := by
  obtain ⟨h1, h2, h3⟩ := h
  have f := (fdiv_fmod_facts t 2).1
  have e : (s + 1 - 1).toNat = (s - 1).toNat + 1 := by omega
  refine ⟨by omega, by omega, ?_⟩
  rw [e, Int.pow_succ, ← h3]
  have : t = t.fdiv 2 * 2 := by omega
  rw [← Int.mul_assoc, Int.mul_assoc _ _ 2, Int.mul_comm _ 2, ← Int.mul_assoc, ← this]
theorem hf_meas {a t s : Int} (h : Hf a t s) (he : t.fmod 2 = 0) : (t.fdiv 2).toNat < t.toNat := by
  have f := (fdiv_fmod_facts t 2).1
  have := h.1
  omega
theorem pow_ge1 (k : Nat) : (1 : Int) ≤ 2 ^ k := p2_pos k
theorem hf_le {a t s : Int} (h : Hf a t s) : t ≤ a ∧ 2 ^ (s - 1).toNat ≤ a := by
  obtain ⟨h1, h2, h3⟩ := h
  have hp := pow_ge1 (s - 1).toNat
  have m1 := Int.mul_le_mul_of_nonneg_left hp (by omega : 0 ≤ t)
  have m2 := Int.mul_le_mul_of_nonneg_right h1 (by omega : (0 : Int) ≤ 2 ^ (s - 1).toNat)
  omega
/-- two ways of halving to an odd end are one -/
theorem hf_uniq {a : Int} : ∀ {t s t' s' : Int}, Hf a t s → Hf a t' s' → t.fmod 2 ≠ 0 → t'.fmod 2 ≠ 0 → t = t' ∧ s = s' := by
  have key : ∀ {t s t' s' : Int}, Hf a t s → Hf a t' s' → t.fmod 2 ≠ 0 → t'.fmod 2 ≠ 0 → s ≤ s' → t = t' ∧ s = s' := by
    intro t s t' s' h h' ho ho' hle
    obtain ⟨h1, h2, h3⟩ := h
    obtain ⟨h1', h2', h3'⟩ := h'
    have e : (s' - 1).toNat = (s' - s).toNat + (s - 1).toNat := by omega
    rw [e, Int.pow_add, ← Int.mul_assoc, ← h3] at h3'
    have hne : (2 : Int) ^ (s - 1).toNat ≠ 0 := by have := pow_ge1 (s - 1).toNat; omega
    have e2 := Int.eq_of_mul_eq_mul_right hne h3'
    by_cases hs : s' - s = 0
    · rw [hs] at e2
      exact ⟨by rw [← e2]; show t' * 2 ^ 0 = t' ; rw [Int.pow_zero, Int.mul_one], by omega⟩
    · exfalso
      apply ho
      have e3 : (s' - s).toNat = (s' - s - 1).toNat + 1 := by omega
      rw [e3, Int.pow_succ, ← Int.mul_assoc] at e2
      have f := fdiv_fmod_facts t 2
      have g := f.2.2.1 (by decide)
      omega
  intro t s t' s' h h' ho ho'
  rcases Int.le_total s s' with hle | hle
  · exact key h h' ho ho' hle
  · have := key h' h ho' ho hle
    exact ⟨this.1.symm, this.2.symm⟩
/-- the squares -/
def sqF (n : Int) : Nat → Int → Int
  | 0, x => x
  | j + 1, x => powI (sqF n j x) 2 n
/-- the strong test refuses n -/
def SFail (n : Int) : Prop := ∀ t s, Hf ((n - 1).fdiv 2) t s → t.fmod 2 ≠ 0 → powI 2 t n ≠ 1 ∧ powI 2 t n ≠ n - 1 ∧ ∀ j : Nat, 1 ≤ j → (j : Int) < s → sqF n j (powI 2 t n) ≠ n - 1
def SPass (n : Int) : Prop := ∀ t s, Hf ((n - 1).fdiv 2) t s → t.fmod 2 ≠ 0 → powI 2 t n = 1 ∨ powI 2 t n = n - 1 ∨ ∃ j : Nat, 1 ≤ j ∧ (j : Int) < s ∧ sqF n j (powI 2 t n) = n - 1 ∧ ∀ i : Nat, 1 ≤ i → i < j → sqF n i (powI 2 t n) ≠ 1 ∧ sqF n i (powI 2 t n) ≠ n - 1
theorem nb_half {n : Int} (h : NB9 n) : 1 ≤ (n - 1).fdiv 2 := by
  have := h.1
  rw [Int.fdiv_eq_ediv_of_nonneg _ (by decide)]; omega
/-- first divisor among the told primes -/
def fstDiv (n : Int) (ns : List Int) : Option Int := ns.find? (fun p => decide (n.fmod p = 0))
theorem fst_hit {n p k : Int} {pre post ns : List Int} (h : fstDiv n ns = some p) (e : ns = pre ++ k :: post) (hp : ∀ q ∈ pre, n.fmod q ≠ 0) (hk : n.fmod k = 0) : k = p := by
  unfold fstDiv at h
  rw [e, List.find?_append] at h
  have h1 : pre.find? (fun p => decide (n.fmod p = 0)) = none := List.find?_eq_none.mpr fun q hq => by simpa using hp q hq
  rw [h1, Option.none_or, List.find?_cons_of_pos (by simpa using hk)] at h
  exact Option.some.inj h
theorem fst_end {n p : Int} {ns : List Int} (h : fstDiv n ns = some p) (hp : ∀ q ∈ ns, n.fmod q ≠ 0) : False := by
  have h1 : fstDiv n ns = none := List.find?_eq_none.mpr fun q hq => by simpa using hp q hq
  rw [h1] at h; cases h
theorem nd_snoc {n k : Int} {pre : List Int} (h : ∀ q ∈ pre, n.fmod q ≠ 0) (hk : n.fmod k ≠ 0) : ∀ q ∈ pre ++ [k], n.fmod q ≠ 0 := fun q hq => by
  rcases List.mem_append.mp hq with hq | hq
  · exact h q hq
  · rw [List.mem_singleton.mp hq]; exact hk
end Mine
namespace Mine
section
variable {n t s : Int}
/-- between the turns of the squaring loop -/
def SQ (n t : Int) (pre : List Int) (x : Int) : Prop := x = sqF n pre.length (powI 2 t n)
theorem s_le (hn : NB9 n) (h : Hf ((n - 1).fdiv 2) t s) : s ≤ 1000 := by
  have h1 := (hf_le h).2
  have h2 : (n - 1).fdiv 2 ≤ n := by
    rw [Int.fdiv_eq_ediv_of_nonneg _ (by decide)]; have := hn.1; omega
  have h3 : ((2 ^ (s - 1).toNat : Nat) : Int) ≤ n := by rw [Int.natCast_pow]; exact Int.le_trans h1 h2
  have h4 : 2 ^ (s - 1).toNat < 2 ^ 900 := by have := hn.2; omega
  have h5 := (Nat.pow_lt_pow_iff_right (by decide : 1 < 2)).mp h4
  omega
end
end Mine
namespace Mine
section
variable {n t s : Int}
theorem hf_nn {a : Int} (h : Hf a t s) : 0 ≤ t := by have := h.1; omega
def SQX (n : Int) (pre : List Int) (x : Int) : Prop := ∃ t s, Hf ((n - 1).fdiv 2) t s ∧ t.fmod 2 ≠ 0 ∧ SQ n t pre x
end
end Mine
namespace Mine
section
variable {n t s x : Int} {i : Nat}
def SQN (n : Int) (i : Nat) (x : Int) : Prop := ∃ t s, Hf ((n - 1).fdiv 2) t s ∧ t.fmod 2 ≠ 0 ∧ x = sqF n i (powI 2 t n)
theorem sqn_start (h : Hf ((n - 1).fdiv 2) t s) (ho : t.fmod 2 ≠ 0) : SQN n 0 (powI 2 t n) := ⟨t, s, h, ho, rfl⟩
theorem sqn_turn (h : SQN n i x) : SQN n (i + 1) (powI x 2 n) := by
  obtain ⟨t, s, h1, h2, rfl⟩ := h
  exact ⟨t, s, h1, h2, rfl⟩
theorem sqn_eq (hh : Hf ((n - 1).fdiv 2) t s) (ho : t.fmod 2 ≠ 0) (h : SQN n i x) : x = sqF n i (powI 2 t n) := by
  obtain ⟨t', s', h1, h2, h3⟩ := h
  have := hf_uniq h1 hh h2 ho
  rw [← this.1]; exact h3
theorem sqn_ne (hf : SFail n) (hh : Hf ((n - 1).fdiv 2) t s) (ho : t.fmod 2 ≠ 0) (h : SQN n i x) (hlt : i < (s - 1).toNat) : powI x 2 n ≠ n - 1 := by
  rw [sqn_eq hh ho h]
  exact (hf t s hh ho).2.2 (i + 1) (by omega) (by omega)
theorem s_lo {a : Int} (h : Hf a t s) : 1 ≤ s := h.2.1
end
end Mine
namespace Mine
theorem SFail.one {n t s : Int} (h : SFail n) (hh : Hf ((n - 1).fdiv 2) t s) (ho : t.fmod 2 ≠ 0) : powI 2 t n ≠ 1 := (h t s hh ho).1
theorem SFail.two {n t s : Int} (h : SFail n) (hh : Hf ((n - 1).fdiv 2) t s) (ho : t.fmod 2 ≠ 0) : powI 2 t n ≠ n - 1 := (h t s hh ho).2.1
end Mine
namespace Mine
def basisF : List Int := [3, 5, 7, 11, 13, 17, 19, 23, 29, 31, 37, 41, 43, 47, 53, 59]
theorem beq_no {n p : Int} (h : n ≠ p) : (n == p) = false := by simpa using h
theorem fst_none {n : Int} {ns : List Int} (h : fstDiv n ns = none) : ∀ q ∈ ns, n.fmod q ≠ 0 := fun q hq => by
  have := List.find?_eq_none.mp h q hq
  simpa using this
theorem fst_mem {n p : Int} {ns : List Int} (h : fstDiv n ns = some p) : p ∈ ns := List.mem_of_find?_eq_some h
end Mine
namespace Mine
theorem bas_all : ∀ q ∈ basisF, 3 ≤ q ∧ q ≤ 59 := by decide
end Mine
namespace Mine
/-- jacobi's loop, in single steps -/
def jacO : Nat → Int → Int → Option Int
  | 0, _, _ => none
  | f + 1, a, n =>
    if a = 0 then some (if n = 1 then 1 else 0)
    else if a.fmod 2 = 0 then (jacO f (a.fdiv 2) n).map (fun v => if n.fmod 8 = 3 ∨ n.fmod 8 = 5 then -v else v)
    else (jacO f (n.fmod a) a).map (fun v => if n.fmod 4 = 3 ∧ a.fmod 4 = 3 then -v else v)
/-- between the turns -/
def JI (V a n t : Int) : Prop := 0 ≤ a ∧ 1 ≤ n ∧ n.fmod 2 ≠ 0 ∧ a.natAbs < 2 ^ 900 ∧ n.natAbs < 2 ^ 900 ∧ (t = 1 ∨ t = -1) ∧ ∃ f v, jacO f a n = some v ∧ t * v = V
def JJ (V a n t : Int) : Prop := JI V a n t ∧ a ≠ 0
section
variable {V a n t : Int}
theorem ji_even (h : JJ V a n t) (he : a.fmod 2 = 0) (hn : n.fmod 8 = 3 ∨ n.fmod 8 = 5) : JJ V (a.fdiv 2) n (t * -1) := by
  obtain ⟨⟨h1, h2, h3, h4, h5, h6, f, v, h7, h8⟩, h0⟩ := h
  have g := (fdiv_fmod_facts a 2).1
  cases f with
  | zero => cases h7
  | succ f =>
    unfold jacO at h7
    rw [if_neg h0, if_pos he] at h7
    obtain ⟨v', h9, h10⟩ := Option.map_eq_some_iff.mp h7
    rw [if_pos hn] at h10
    refine ⟨⟨by omega, h2, h3, by omega, h5, by omega, f, v', h9, ?_⟩, by omega⟩
    rw [← h8, ← h10, Int.mul_assoc, Int.neg_one_mul]
theorem ji_even2 (h : JJ V a n t) (he : a.fmod 2 = 0) (hn : ¬ (n.fmod 8 = 3 ∨ n.fmod 8 = 5)) : JJ V (a.fdiv 2) n t := by
  obtain ⟨⟨h1, h2, h3, h4, h5, h6, f, v, h7, h8⟩, h0⟩ := h
  have g := (fdiv_fmod_facts a 2).1
  cases f with
  | zero => cases h7
  | succ f =>
    unfold jacO at h7
    rw [if_neg h0, if_pos he] at h7
    obtain ⟨v', h9, h10⟩ := Option.map_eq_some_iff.mp h7
    rw [if_neg hn] at h10
    exact ⟨⟨by omega, h2, h3, by omega, h5, h6, f, v', h9, by rw [h10]; exact h8⟩, by omega⟩
theorem ji_meas (h : JJ V a n t) (he : a.fmod 2 = 0) : (a.fdiv 2).toNat < a.toNat := by
  have g := (fdiv_fmod_facts a 2).1
  have := h.1.1; have := h.2
  omega
theorem ji_swap (h : JJ V a n t) (ho : a.fmod 2 ≠ 0) (hn : n.fmod 4 = 3 ∧ a.fmod 4 = 3) : JI V (n.fmod a) a (t * -1) := by
  obtain ⟨⟨h1, h2, h3, h4, h5, h6, f, v, h7, h8⟩, h0⟩ := h
  have g := (fdiv_fmod_facts n a).2.2.1 (by omega)
  cases f with
  | zero => cases h7
  | succ f =>
    unfold jacO at h7
    rw [if_neg h0, if_neg ho] at h7
    obtain ⟨v', h9, h10⟩ := Option.map_eq_some_iff.mp h7
    rw [if_pos hn] at h10
    refine ⟨by omega, by omega, ho, by omega, h4, by omega, f, v', h9, ?_⟩
    rw [← h8, ← h10, Int.mul_assoc, Int.neg_one_mul]
theorem ji_swap2 (h : JJ V a n t) (ho : a.fmod 2 ≠ 0) (hn : ¬ (n.fmod 4 = 3 ∧ a.fmod 4 = 3)) : JI V (n.fmod a) a t := by
  obtain ⟨⟨h1, h2, h3, h4, h5, h6, f, v, h7, h8⟩, h0⟩ := h
  have g := (fdiv_fmod_facts n a).2.2.1 (by omega)
  cases f with
  | zero => cases h7
  | succ f =>
    unfold jacO at h7
    rw [if_neg h0, if_neg ho] at h7
    obtain ⟨v', h9, h10⟩ := Option.map_eq_some_iff.mp h7
    rw [if_neg hn] at h10
    exact ⟨by omega, by omega, ho, by omega, h4, h6, f, v', h9, by rw [h10]; exact h8⟩
theorem ji_done (h : JI V a n t) (h0 : ¬ a ≠ 0) : (if n = 1 then t else 0) = V := by
  obtain ⟨h1, h2, h3, h4, h5, h6, f, v, h7, h8⟩ := h
  cases f with
  | zero => cases h7
  | succ f =>
    unfold jacO at h7
    rw [if_pos (by omega)] at h7
    have e := Option.some.inj h7
    rw [← h8, ← e]
    split
    · rw [Int.mul_one]
    · rw [Int.mul_zero]
theorem ji_start {f : Nat} {a0 : Int} (hn : 1 ≤ n) (ho : n.fmod 2 ≠ 0) (hb : n.natAbs < 2 ^ 900) (h : jacO f (a0.fmod n) n = some V) : JI V (a0.fmod n) n 1 := by
  have g := (fdiv_fmod_facts a0 n).2.2.1 (by omega)
  exact ⟨g.1, hn, ho, by omega, hb, .inl rfl, f, V, h, Int.one_mul V⟩
end
theorem andm (n : Int) (k : Nat) (m : Int) (hm : m = 2 ^ k - 1) (h1 : 0 < m) : PySem.Builtin.bitAnd n m = n.fmod (m + 1) := by
  have hmn : m.toNat = 2 ^ k - 1 := by
    have : ((2 ^ k : Nat) : Int) = 2 ^ k := Int.natCast_pow 2 k
    omega
  have hm1 : m + 1 = ((2 ^ k : Nat) : Int) := by
    have : ((2 ^ k : Nat) : Int) = 2 ^ k := Int.natCast_pow 2 k
    omega
  have k' : ∀ a : Nat, a &&& (2 ^ k - 1) = a % 2 ^ k := fun a => Nat.and_two_pow_sub_one_eq_mod a k
  have hp : 0 < 2 ^ k := Nat.pow_pos (by decide)
  unfold PySem.Builtin.bitAnd
  rw [decide_eq_true (by omega : (0 : Int) ≤ m), Int.fmod_eq_emod_of_nonneg _ (by omega), hm1]
  by_cases h : 0 ≤ n
  · rw [decide_eq_true h]
    show ((n.toNat &&& m.toNat : Nat) : Int) = _
    rw [hmn, k', Int.natCast_emod, Int.toNat_of_nonneg h]
  · rw [decide_eq_false h]
    show m - ((m.toNat &&& (PySem.Builtin.bitNot n).toNat : Nat) : Int) = _
    unfold PySem.Builtin.bitNot
    rw [hmn, Nat.and_comm, k']
    generalize hP : 2 ^ k = P at *
    have e : ((((-n - 1).toNat % P : Nat)) : Int) = (-n - 1) % (P : Int) := by
      rw [Int.natCast_emod, Int.toNat_of_nonneg (by omega)]
    rw [e]
    have hP0 : (0 : Int) < P := by omega
    have a1 := Int.emod_nonneg (-n - 1) (by omega : (P : Int) ≠ 0)
    have a2 := Int.emod_lt_of_pos (-n - 1) hP0
    have a3 := Int.emod_add_mul_ediv (-n - 1) P
    have e2 : n = ((P : Int) - 1 - (-n - 1) % P) + P * (-((-n - 1) / P) - 1) := by
      have : (P : Int) * (-((-n - 1) / P) - 1) = -(P * ((-n - 1) / P)) - P := by rw [Int.mul_sub, Int.mul_neg, Int.mul_one]
      rw [this]
      omega
    generalize (-n - 1) / (P : Int) = q at *
    generalize (-n - 1) % (P : Int) = r at *
    rw [e2, Int.add_mul_emod_self_left, Int.emod_eq_of_lt (by omega) (by omega)]
    omega
section
variable {prog : Program} {w : World} {A : Around} {E : Value → Shared → Prop} {s : Shared} {a : Int} {t u : Tok} {Q : Value → Shared → Prop}
theorem and1_int (h : Q (.int (a.fmod 2) s.toks) { s with toks := s.toks + 1 }) : wpAny (model prog w) A (binaryOp .BitAnd (.int a t) (.int 1 u)) Q E s :=
  and_int (by rw [andm a 1 1 (by decide) (by decide)]; exact h)
theorem and3_int (h : Q (.int (a.fmod 4) s.toks) { s with toks := s.toks + 1 }) : wpAny (model prog w) A (binaryOp .BitAnd (.int a t) (.int 3 u)) Q E s :=
  and_int (by rw [andm a 2 3 (by decide) (by decide)]; exact h)
theorem and7_int (h : Q (.int (a.fmod 8) s.toks) { s with toks := s.toks + 1 }) : wpAny (model prog w) A (binaryOp .BitAnd (.int a t) (.int 7 u)) Q E s :=
  and_int (by rw [andm a 3 7 (by decide) (by decide)]; exact h)
end
end Mine
namespace Mine
def JK (V aa a n t : Int) : Prop := JJ V a n t ∧ a ≤ aa
section
variable {V aa a n t : Int}
theorem any35 (h : ([3, 5].any fun x => x == n.fmod 8) = true) : n.fmod 8 = 3 ∨ n.fmod 8 = 5 := by
  simp only [List.any_cons, List.any_nil, Bool.or_false, Bool.or_eq_true, beq_iff_eq] at h; omega
theorem nany35 (h : ([3, 5].any fun x => x == n.fmod 8) = false) : ¬ (n.fmod 8 = 3 ∨ n.fmod 8 = 5) := fun e => by
  simp only [List.any_cons, List.any_nil, Bool.or_false, Bool.or_eq_false_iff, beq_eq_false_iff_ne] at h; omega
theorem jk_start (h : JI V a n t) (h0 : a ≠ 0) : JK V a a n t := ⟨⟨h, h0⟩, Int.le_refl _⟩
theorem jk_le (h : JK V aa a n t) (he : a.fmod 2 = 0) : a.fdiv 2 ≤ aa := by
  have g := (fdiv_fmod_facts a 2).1
  have := h.1.1.1; have := h.2
  omega
theorem jk_even (h : JK V aa a n t) (he : a.fmod 2 = 0) (hn : ([3, 5].any fun x => x == n.fmod 8) = true) : JK V aa (a.fdiv 2) n (t * -1) := ⟨ji_even h.1 he (any35 hn), jk_le h he⟩
theorem jk_even2 (h : JK V aa a n t) (he : a.fmod 2 = 0) (hn : ([3, 5].any fun x => x == n.fmod 8) = false) : JK V aa (a.fdiv 2) n t := ⟨ji_even2 h.1 he (nany35 hn), jk_le h he⟩
theorem jk_meas (h : JK V aa a n t) (he : a.fmod 2 = 0) : (a.fdiv 2).toNat < a.toNat := ji_meas h.1 he
theorem jk_om (h : JK V aa a n t) : (n.fmod a).toNat < aa.toNat := by
  have h1 := h.1.1.1; have h2 := h.2; have h3 := h.1.2
  have g := (fdiv_fmod_facts n a).2.2.1 (by omega)
  omega
theorem jk_swap (h : JK V aa a n t) (ho : a.fmod 2 ≠ 0) (h1 : n.fmod 4 = 3) (h2 : a.fmod 4 = 3) : JI V (n.fmod a) a (t * -1) := ji_swap h.1 ho ⟨h1, h2⟩
theorem jk_swap1 (h : JK V aa a n t) (ho : a.fmod 2 ≠ 0) (h1 : n.fmod 4 ≠ 3) : JI V (n.fmod a) a t := ji_swap2 h.1 ho fun e => h1 e.1
theorem jk_swap2 (h : JK V aa a n t) (ho : a.fmod 2 ≠ 0) (h2 : a.fmod 4 ≠ 3) : JI V (n.fmod a) a t := ji_swap2 h.1 ho fun e => h2 e.2
theorem jk_ne (h : JK V aa a n t) : a ≠ 0 := h.1.2
theorem ji_yes (h : JI V a n t) (h0 : ¬ a ≠ 0) (h1 : n = 1) : t = V := by have := ji_done h h0; rw [if_pos h1] at this; exact this
theorem ji_no (h : JI V a n t) (h0 : ¬ a ≠ 0) (h1 : n ≠ 1) : 0 = V := by have := ji_done h h0; rw [if_neg h1] at this; exact this
end
end Mine
namespace Mine
def GC (G a b : Int) : Prop := 0 ≤ a ∧ 0 ≤ b ∧ ((Int.gcd a b : Nat) : Int) = G
theorem gc_turn {G a b : Int} (h : GC G a b) (hb : b ≠ 0) : GC G b (a.fmod b) := by
  obtain ⟨h1, h2, h3⟩ := h
  have g := (fdiv_fmod_facts a b).2.2.1 (by omega)
  refine ⟨h2, g.1, ?_⟩
  rw [← h3, Int.fmod_eq_emod_of_nonneg _ h2]
  obtain ⟨x, rfl⟩ := Int.eq_ofNat_of_zero_le h1
  obtain ⟨y, rfl⟩ := Int.eq_ofNat_of_zero_le h2
  rw [← Int.natCast_emod]
  show ((Nat.gcd y (x % y) : Nat) : Int) = ((Nat.gcd x y : Nat) : Int)
  rw [Nat.gcd_comm x y, Nat.gcd_rec y x, Nat.gcd_comm]
theorem gc_meas {a b : Int} {G : Int} (h : GC G a b) (hb : b ≠ 0) : (a.fmod b).toNat < b.toNat := by
  have g := (fdiv_fmod_facts a b).2.2.1 (by have := h.2.1; omega)
  have := h.2.1
  omega
theorem gc_start (a b : Int) : GC ((Int.gcd a b : Nat) : Int) (if a < 0 then -a else a) (if b < 0 then -b else b) := by
  refine ⟨by split <;> omega, by split <;> omega, ?_⟩
  split <;> split <;> simp [Int.gcd]
theorem gc_done {G a : Int} (h : GC G a 0) : a = G := by
  rw [← h.2.2, Int.gcd_zero_right]; have := h.1; omega
/-! modinv -/
def Cop (a m : Int) : Prop := ∀ d : Int, d ∣ a → d ∣ m → d ∣ 1
def MI (a0 M a m r x : Int) : Prop := 0 ≤ m ∧ (m = 0 → 0 < a) ∧ Cop a m ∧ M ∣ x * a0 - a ∧ M ∣ r * a0 - m
theorem mi_start {a0 M : Int} (hM : 1 ≤ M) (hc : Cop a0 M) : MI a0 M a0 M 0 1 :=
  ⟨by omega, fun e => by omega, hc, ⟨0, by omega⟩, ⟨-1, by omega⟩⟩
theorem mi_turn {a0 M a m r x : Int} (h : MI a0 M a m r x) (hm : m ≠ 0) : MI a0 M m (a.fmod m) (x - a.fdiv m * r) r := by
  obtain ⟨h1, h2, h3, h4, h5⟩ := h
  have f := fdiv_fmod_facts a m
  have g := f.2.2.1 (by omega)
  refine ⟨g.1, fun _ => by omega, fun d h6 h7 => h3 d ?_ h6, h5, ?_⟩
  · rw [← f.2.1]; exact Int.dvd_add (Int.dvd_trans h6 (Int.dvd_mul_right _ _)) h7
  · have e : (x - a.fdiv m * r) * a0 - a.fmod m = (x * a0 - a) - a.fdiv m * (r * a0 - m) := by
      rw [Int.sub_mul, Int.mul_sub, Int.mul_assoc]
      have := f.1
      omega
    rw [e]
    exact Int.dvd_sub h4 (Int.dvd_trans h5 (Int.dvd_mul_left _ _))
theorem mi_meas {a0 M a m r x : Int} (h : MI a0 M a m r x) (hm : m ≠ 0) : (a.fmod m).toNat < m.toNat := by
  have g := (fdiv_fmod_facts a m).2.2.1 (by have := h.1; omega)
  have := h.1
  omega
/-- an inverse of a0 over M -/
def Inv (a0 M z : Int) : Prop := 0 ≤ z ∧ z < M ∧ M ∣ z * a0 - 1
theorem mi_one {a0 M a m r x : Int} (h : MI a0 M a m r x) (hm : m = 0) : a = 1 := by
  have h1 := h.2.1 hm
  have h2 := h.2.2.1 a (Int.dvd_refl a) (hm ▸ Int.dvd_zero a)
  have := Int.le_of_dvd (by decide) h2
  omega
theorem mi_done {a0 M a m r x : Int} (hM : 1 ≤ M) (h : MI a0 M a m r x) (hm : m = 0) : Inv a0 M (x.fmod M) := by
  have e := mi_one h hm
  have f := fdiv_fmod_facts x M
  have g := f.2.2.1 (by omega)
  refine ⟨g.1, g.2, ?_⟩
  have h4 := h.2.2.2.1
  rw [e] at h4
  have e2 : x.fmod M * a0 - 1 = (x * a0 - 1) - M * (x.fdiv M * a0) := by
    rw [← Int.mul_assoc]
    have : (M * x.fdiv M + x.fmod M) * a0 = x * a0 := by rw [f.2.1]
    rw [Int.add_mul] at this
    omega
  rw [e2]
  exact Int.dvd_sub h4 (Int.dvd_mul_right _ _)
end Mine
namespace Mine
theorem mul_ok {x y : Int} (hx : x.natAbs < 2 ^ 2000) (hy : y.natAbs < 2 ^ 900) : PySem.IntMulOk x y := by
  have h1 := bits_le hx
  have h2 := bits_le hy
  have hb : PySem.Builtin.Int.intTooBig ((PySem.Builtin.Int.intBits x : Int) + (PySem.Builtin.Int.intBits y : Int)) = false := by
    unfold PySem.Builtin.Int.intTooBig
    refine decide_eq_false ?_
    have e : PySem.bitsLine = 2 ^ 27 := rfl
    rw [e]
    omega
  intro e
  rw [hb, Bool.and_false] at e
  cases e
end Mine
namespace Mine
def MB (M a m r x : Int) : Prop := (r = 0 ∨ 0 < a) ∧ ((0 ≤ x ∧ r ≤ 0 ∧ a * (-r) + m * x = M) ∨ (x ≤ 0 ∧ 0 ≤ r ∧ a * r + m * (-x) = M))
def MK (a0 M a m r x : Int) : Prop := MI a0 M a m r x ∧ MB M a m r x ∧ a.natAbs < 2 ^ 900 ∧ m.natAbs < 2 ^ 900
section
variable {a0 M a m r x : Int}
theorem mk_start (hM : 1 ≤ M) (hc : Cop a0 M) (ha : a0.natAbs < 2 ^ 900) (hb : M.natAbs < 2 ^ 900) : MK a0 M a0 M 0 1 :=
  ⟨mi_start hM hc, ⟨.inl rfl, .inl ⟨by decide, Int.le_refl _, by rw [Int.neg_zero, Int.mul_zero, Int.mul_one, Int.zero_add]⟩⟩, ha, hb⟩
theorem mk_turn (h : MK a0 M a m r x) (hm : m ≠ 0) : MK a0 M m (a.fmod m) (x - a.fdiv m * r) r := by
  obtain ⟨h1, ⟨h2, h3⟩, h4, h5⟩ := h
  have hm0 := h1.1
  have f := fdiv_fmod_facts a m
  have g := f.2.2.1 (by omega)
  refine ⟨mi_turn h1 hm, ⟨.inr (by omega), ?_⟩, h5, by omega⟩
  have fm : a.fmod m = a - m * a.fdiv m := by have := f.2.1; omega
  have q0 : 0 ≤ a.fdiv m * r ∨ True := .inr trivial
  rw [fm]
  generalize hq : a.fdiv m = q at *
  have e1 : m * (x - q * r) + (a - m * q) * (-r) = a * (-r) + m * x := by
    rw [Int.mul_sub, Int.sub_mul, Int.mul_neg, Int.mul_neg, ← Int.mul_assoc, Int.mul_assoc]; omega
  have e2 : m * (-(x - q * r)) + (a - m * q) * r = a * r + m * (-x) := by
    rw [Int.neg_sub, Int.mul_sub, Int.sub_mul, Int.mul_neg, ← Int.mul_assoc, Int.mul_assoc]; omega
  have hqr : (r = 0 → q * r = 0) := fun e => by rw [e, Int.mul_zero]
  have hqn : r ≠ 0 → 0 ≤ q := fun e => by
    have ha : 0 < a := h2.resolve_left e
    rw [← hq, Int.fdiv_eq_ediv_of_nonneg _ hm0]
    exact Int.ediv_nonneg (by omega) hm0
  rcases h3 with ⟨h6, h7, h8⟩ | ⟨h6, h7, h8⟩
  · refine .inr ⟨h7, ?_, by rw [e1]; exact h8⟩
    by_cases hr : r = 0
    · have := hqr hr; omega
    · have := Int.mul_nonpos_of_nonneg_of_nonpos (hqn hr) h7; omega
  · refine .inl ⟨h7, ?_, by rw [e2]; exact h8⟩
    by_cases hr : r = 0
    · have := hqr hr; omega
    · have := Int.mul_nonneg (hqn hr) h7; omega
theorem mk_r (h : MK a0 M a m r x) (hM : M.natAbs < 2 ^ 900) : r.natAbs < 2 ^ 900 := by
  obtain ⟨h1, ⟨h2, h3⟩, h4, h5⟩ := h
  have hm0 := h1.1
  by_cases hr : r = 0
  · rw [hr]; exact Nat.pow_pos (by decide)
  · have ha : 0 < a := h2.resolve_left hr
    have key : ∀ y z : Int, 0 ≤ y → 0 ≤ z → a * y + m * z = M → y ≤ M := by
      intro y z hy hz e
      have m1 := Int.mul_le_mul_of_nonneg_right (by omega : 1 ≤ a) hy
      have m2 := Int.mul_nonneg hm0 hz
      omega
    rcases h3 with ⟨h6, h7, h8⟩ | ⟨h6, h7, h8⟩
    · have := key (-r) x (by omega) h6 h8
      omega
    · have := key r (-x) h7 (by omega) h8
      omega
theorem fd_bd (h : MK a0 M a m r x) : (a.fdiv m).natAbs < 2 ^ 2000 :=
  Nat.lt_of_le_of_lt (Int.natAbs_fdiv_le_natAbs a m) (Nat.lt_of_lt_of_le h.2.2.1 (pow2_mono (by decide)))
theorem mk_mul (h : MK a0 M a m r x) (hM : M.natAbs < 2 ^ 900) : PySem.IntMulOk (a.fdiv m) r := mul_ok (fd_bd h) (mk_r h hM)
theorem mk_no (h : MK a0 M a m r x) : m.natAbs < 2 ^ 2000 := Nat.lt_of_lt_of_le h.2.2.2 (pow2_mono (by decide))
theorem mk_meas (h : MK a0 M a m r x) (hm : m ≠ 0) : (a.fmod m).toNat < m.toNat := mi_meas h.1 hm
theorem mk_one (h : MK a0 M a m r x) (hm : m = 0) : a = 1 := mi_one h.1 hm
theorem mk_done (hM : 1 ≤ M) (h : MK a0 M a m r x) (hm : m = 0) : Inv a0 M (x.fmod M) := mi_done hM h.1 hm
theorem gc_done2 {G : Int} {b : Int} (h : GC G a b) (hb : b = 0) : a = G := by subst hb; exact gc_done h
end
end Mine
namespace Mine
/-- a statement's ways meet: the names ns are forgotten -/
def JS0 (h₀ : Heap) (L : Addr) (m : Str → Option Value) (ns : List Str) (news : List (Addr × Obj)) (s : Shared) (f : Flow) (s' : Shared) : Prop :=
  f = .next ∧ ∃ h' tk' m', s' = { s with heap := h', toks := tk' } ∧ Fr h₀ L h' m' ∧ News h₀ L h' news ∧ ∀ y, ns.contains y = false → m' y = m y
theorem JS0.intro {h₀ h' : Heap} {L : Addr} {m m' : Str → Option Value} {ns : List Str} {news : List (Addr × Obj)} {s : Shared} {tk' : Nat} (F : Fr h₀ L h' m') (N : News h₀ L h' news) (hm : ∀ y, ns.contains y = false → m' y = m y) :
    JS0 h₀ L m ns news s .next { s with heap := h', toks := tk' } := ⟨rfl, h', tk', m', rfl, F, N, hm⟩
theorem join_stmt0 {M : Model} {A : Around} {E : Value → Shared → Prop} {s : Shared} {h₀ : Heap} {L : Addr} {m : Str → Option Value} {news : List (Addr × Obj)} {t : Sem Flow} {Q : Flow → Shared → Prop} (ns : List Str) (_F : Fr h₀ L s.heap m) (_N : News h₀ L s.heap news)
    (h1 : wpAny M A t (JS0 h₀ L m ns news s) E s) (h2 : ∀ h' tk' (u : Str → Option Value), Fr h₀ L h' (fun y => if ns.contains y then u y else m y) → News h₀ L h' news → Q .next { s with heap := h', toks := tk' }) : wpAny M A t Q E s :=
  wpAny_mono h1 (fun f s' x => by
    obtain ⟨e, h', tk', m', es, F, N, hm⟩ := x
    subst e
    subst es
    have em : m' = (fun y => if ns.contains y then m' y else m y) := by
      funext y
      cases hc : ns.contains y with
      | true => simp
      | false => simp only [Bool.false_eq_true, if_false]; exact hm y hc
    exact h2 h' tk' m' (em ▸ F) N) (fun _ _ x => x)
/-- as JS0, but the name x holds the int k -/
def JS1 (h₀ : Heap) (L : Addr) (m : Str → Option Value) (ns : List Str) (x : Str) (k : Int) (news : List (Addr × Obj)) (s : Shared) (f : Flow) (s' : Shared) : Prop :=
  f = .next ∧ ∃ h' tk' m' t, s' = { s with heap := h', toks := tk' } ∧ Fr h₀ L h' m' ∧ News h₀ L h' news ∧ m' x = some (.int k t) ∧ ∀ y, y ≠ x → ns.contains y = false → m' y = m y
theorem join_stmt1 {M : Model} {A : Around} {E : Value → Shared → Prop} {s : Shared} {h₀ : Heap} {L : Addr} {m : Str → Option Value} {news : List (Addr × Obj)} {t : Sem Flow} {Q : Flow → Shared → Prop} (ns : List Str) (x : Str) (k : Int) (_F : Fr h₀ L s.heap m) (_N : News h₀ L s.heap news)
    (h1 : wpAny M A t (JS1 h₀ L m ns x k news s) E s) (h2 : ∀ h' tk' (u : Str → Option Value) tx, Fr h₀ L h' (fun y => if y = x then some (.int k tx) else if ns.contains y then u y else m y) → News h₀ L h' news → Q .next { s with heap := h', toks := tk' }) : wpAny M A t Q E s :=
  wpAny_mono h1 (fun f s' z => by
    obtain ⟨e, h', tk', m', tx, es, F, N, hx, hm⟩ := z
    subst e
    subst es
    have em : m' = (fun y => if y = x then some (.int k tx) else if ns.contains y then m' y else m y) := by
      funext y
      by_cases h0 : y = x
      · rw [if_pos h0, h0]; exact hx
      · rw [if_neg h0]
        cases hc : ns.contains y with
        | true => simp
        | false => simp only [Bool.false_eq_true, if_false]; exact hm y h0 hc
    exact h2 h' tk' m' tx (em ▸ F) N) (fun _ _ x => x)
end Mine
namespace Mine
theorem news_d1 {h₀ h : Heap} {L : Addr} {p : Addr × Obj} {r : List (Addr × Obj)} (N : News h₀ L h (p :: r)) : News h₀ L h r := fun q hq => N q (List.Mem.tail _ hq)
end Mine
namespace Mine
/-- the search for D: a verdict, or D -/
def srch (K : Nat) : Nat → Int → Int → Option (Sum Bool Int)
  | 0, _, _ => none
  | f + 1, c, n => (jacO K (c.fmod n) n).bind fun j => if j = 0 then some (.inl (c == n)) else if j = -1 then some (.inr c) else
      (jacO K ((-2 - c).fmod n) n).bind fun j2 => if j2 = 0 then some (.inl (-(-2 - c) == n)) else if j2 = -1 then some (.inr (-2 - c)) else srch K f (c + 4) n
def SR (K f0 : Nat) (n : Int) (R : Sum Bool Int) (c : Int) : Prop := c.fmod 4 = 1 ∧ ∃ f, f ≤ f0 ∧ c = 5 + 4 * ((f0 - f : Nat) : Int) ∧ srch K f c n = some R
section
variable {K f0 : Nat} {n c : Int} {R : Sum Bool Int}
theorem sr_start (h : srch K f0 5 n = some R) : SR K f0 n R 5 := ⟨by decide, f0, Nat.le_refl _, by omega, h⟩
theorem sr_c (h : SR K f0 n R c) : 5 ≤ c ∧ c < 5 + 4 * (f0 : Int) := by
  obtain ⟨h0, f, h1, h2, h3⟩ := h
  cases f with
  | zero => cases h3
  | succ f => omega
theorem sr_j (h : SR K f0 n R c) : ∃ j, jacO K (c.fmod n) n = some j ∧ (j = 0 → R = .inl (c == n)) ∧ (j = -1 → R = .inr c) ∧
    (j ≠ 0 → j ≠ -1 → ∃ j2, jacO K ((-2 - c).fmod n) n = some j2 ∧ (j2 = 0 → R = .inl (-(-2 - c) == n)) ∧ (j2 = -1 → R = .inr (-2 - c)) ∧ (j2 ≠ 0 → j2 ≠ -1 → SR K f0 n R (c + 4))) := by
  obtain ⟨h0, f, h1, h2, h3⟩ := h
  cases f with
  | zero => cases h3
  | succ f =>
    unfold srch at h3
    obtain ⟨j, hj, h4⟩ := Option.bind_eq_some_iff.mp h3
    refine ⟨j, hj, fun e => ?_, fun e => ?_, fun e1 e2 => ?_⟩
    · rw [if_pos e] at h4; exact (Option.some.inj h4).symm
    · rw [if_neg (by omega), if_pos e] at h4; exact (Option.some.inj h4).symm
    · rw [if_neg e1, if_neg e2] at h4
      obtain ⟨j2, hj2, h5⟩ := Option.bind_eq_some_iff.mp h4
      refine ⟨j2, hj2, fun e => ?_, fun e => ?_, fun e3 e4 => ?_⟩
      · rw [if_pos e] at h5; exact (Option.some.inj h5).symm
      · rw [if_neg (by omega), if_pos e] at h5; exact (Option.some.inj h5).symm
      · rw [if_neg e3, if_neg e4] at h5
        have g := fdiv_fmod_facts c 4
        have g2 := fdiv_fmod_facts (c + 4) 4
        have g3 := g2.2.2.1 (by decide)
        exact ⟨by omega, f, by omega, by omega, h5⟩
theorem sr_ne13 (h : SR K f0 n R c) : -2 - c ≠ -13 := fun e => by
  have g := fdiv_fmod_facts c 4
  have := h.1
  omega
end
end Mine
namespace Mine
section
variable {n t s x : Int} {i : Nat}
/-- the strong test passes, and has not yet said so after i squarings -/
def SQP (n : Int) (i : Nat) (x : Int) : Prop := ∃ t s, Hf ((n - 1).fdiv 2) t s ∧ t.fmod 2 ≠ 0 ∧ x = sqF n i (powI 2 t n) ∧ ∃ j : Nat, i < j ∧ (j : Int) < s ∧ sqF n j (powI 2 t n) = n - 1 ∧ ∀ k : Nat, 1 ≤ k → k < j → sqF n k (powI 2 t n) ≠ 1 ∧ sqF n k (powI 2 t n) ≠ n - 1
theorem sqp_start (hp : SPass n) (h : Hf ((n - 1).fdiv 2) t s) (ho : t.fmod 2 ≠ 0) (h1 : powI 2 t n ≠ 1) (h2 : powI 2 t n ≠ n - 1) : SQP n 0 (powI 2 t n) := by
  rcases hp t s h ho with e | e | ⟨j, h3, h4, h5, h6⟩
  · exact absurd e h1
  · exact absurd e h2
  · exact ⟨t, s, h, ho, rfl, j, h3, h4, h5, h6⟩
theorem sqp_one (hn : NB9 n) (h : SQP n i x) : powI x 2 n ≠ 1 := by
  obtain ⟨t, s, h1, h2, rfl, j, h3, h4, h5, h6⟩ := h
  show sqF n (i + 1) (powI 2 t n) ≠ 1
  by_cases e : i + 1 = j
  · rw [e, h5]; have := hn.1; omega
  · exact (h6 (i + 1) (by omega) (by omega)).1
theorem sqp_turn (h : SQP n i x) (hne : powI x 2 n ≠ n - 1) : SQP n (i + 1) (powI x 2 n) := by
  obtain ⟨t, s, h1, h2, rfl, j, h3, h4, h5, h6⟩ := h
  refine ⟨t, s, h1, h2, rfl, j, ?_, h4, h5, h6⟩
  by_cases e : i + 1 = j
  · exfalso; apply hne; show sqF n (i + 1) (powI 2 t n) = n - 1; rw [e, h5]
  · omega
theorem sqp_end (hh : Hf ((n - 1).fdiv 2) t s) (ho : t.fmod 2 ≠ 0) (h : SQP n (s - 1).toNat x) : False := by
  obtain ⟨t', s', h1, h2, _, j, h3, h4, h5, h6⟩ := h
  have := hf_uniq h1 hh h2 ho
  omega
theorem jz {j D : Int} {b : Bool} (h : j = 0 → (Sum.inr D : Sum Bool Int) = .inl b) : j ≠ 0 := fun e => by cases h e
end
end Mine
namespace Mine
theorem nb_half2 {n : Int} (h : NB9 n) : 1 ≤ (n + 1).fdiv 2 := by
  have := h.1
  rw [Int.fdiv_eq_ediv_of_nonneg _ (by decide)]; omega
end Mine
namespace Mine
theorem bin_len {t : Int} (h0 : 0 ≤ t) (h : t.natAbs < 2 ^ 1000) : (baseText "0b" 2 t).length ≤ sizeLine := by
  have h1 := toDigits_len_pow (b := 2) (k := 1000) (by decide) (by decide) h
  have e1 : (Str.ofString "").length = 0 := by decide +kernel
  have e2 : (Str.ofString "0b").length = 2 := by decide +kernel
  have e3 := ofString_ofList_length (Nat.toDigits 2 t.natAbs)
  rw [baseText_nonneg h0, Str.length_append, Str.length_append, PySem.sizeLine_eq]
  omega
theorem hf_bd {n t s : Int} (hn : NB9 n) (h : Hf ((n + 1).fdiv 2) t s) : t.natAbs < 2 ^ 1000 := by
  have h1 := (hf_le h).1
  have h2 : (n + 1).fdiv 2 ≤ n := by
    rw [Int.fdiv_eq_ediv_of_nonneg _ (by decide)]; have := hn.1; omega
  have h3 : t.natAbs ≤ n.natAbs := by have := h.1; omega
  exact Nat.lt_of_le_of_lt h3 (Nat.lt_of_lt_of_le hn.2 (pow2_mono (by decide)))
end Mine
namespace Mine
structure LS where
  v : Int
  w : Int
  q : Int
  Q : Int
/-- a turn of the Lucas loop at the code c -/
def lstep (n b : Int) (x : LS) (c : Int) : LS :=
  if c = 49 then ⟨(x.w * x.v - (x.q * x.Q).fmod n).fmod n, (x.w * x.w - 2 * (x.q * x.Q).fmod n * b).fmod n, (x.q * x.Q).fmod n, ((x.q * x.Q).fmod n * b).fmod n⟩
  else ⟨(x.v * x.v - 2 * (x.q * x.Q).fmod n).fmod n, (x.w * x.v - (x.q * x.Q).fmod n).fmod n, (x.q * x.Q).fmod n, (x.q * x.Q).fmod n⟩
def lfold (n b : Int) (pre : List Int) : LS := pre.foldl (lstep n b) ⟨2, 1, 1, 1⟩
def LI (n b : Int) (pre : List Int) (v w q Q : Int) : Prop := lfold n b pre = ⟨v, w, q, Q⟩
section
variable {n b v w q Q c : Int} {pre : List Int}
theorem li_start : LI n b [] 2 1 1 1 := rfl
theorem li_one (h : LI n b pre v w q Q) (hc : c = 49) : LI n b (pre ++ [c]) ((w * v - (q * Q).fmod n).fmod n) ((w * w - 2 * (q * Q).fmod n * b).fmod n) ((q * Q).fmod n) (((q * Q).fmod n * b).fmod n) := by
  unfold LI lfold at *
  rw [List.foldl_append, h, List.foldl_cons, List.foldl_nil]
  unfold lstep
  rw [if_pos hc]
theorem li_two (h : LI n b pre v w q Q) (hc : c ≠ 49) : LI n b (pre ++ [c]) ((v * v - 2 * (q * Q).fmod n).fmod n) ((w * v - (q * Q).fmod n).fmod n) ((q * Q).fmod n) ((q * Q).fmod n) := by
  unfold LI lfold at *
  rw [List.foldl_append, h, List.foldl_cons, List.foldl_nil]
  unfold lstep
  rw [if_neg hc]
end
end Mine
namespace Mine
def bcodes (t : Int) : List Int := (Nat.toDigits 2 t.natAbs).map fun c => (c.toNat : Int)
theorem bin_slice {t : Int} (h0 : 0 ≤ t) : Txt.slice (baseText "0b" 2 t) (some 2) none = KStt.txt (bcodes t) := by
  have e1 : (Str.ofString "").cps.toList = [] := by decide +kernel
  have e2 : (Str.ofString "0b").cps.toList = [48, 98] := by decide +kernel
  have e3 : (baseText "0b" 2 t).cps.toList = [48, 98] ++ (Nat.toDigits 2 t.natAbs).map Char.toNat := by
    rw [baseText_nonneg h0, Str.cps_append, Array.toList_append, Str.cps_append, Array.toList_append, e1, e2, PySem.W.Fast.ofString_ofList]
    rfl
  show StrLaws.sliceText _ _ _ = _
  rw [StrLaws.sliceText_from ⟨by decide, by rw [e3, List.length_append]; simp only [List.length_cons, List.length_nil]; omega⟩, e3]
  unfold KStt.txt bcodes
  rw [List.map_map]
  congr 1
  congr 1
  simp only [List.cons_append, List.nil_append, show (2 : Int).toNat = 2 from rfl, List.drop_succ_cons, List.drop_zero]
  rw [List.take_of_length_le (by simp; omega)]
  exact List.map_congr_left fun c _ => (Int.toNat_natCast _).symm
theorem codes_txt (l : List Int) (h : ∀ c ∈ l, 0 ≤ c) : KStt.codes (KStt.txt l) = l := by
  unfold KStt.codes KStt.txt
  show (l.map Int.toNat).map _ = l
  rw [List.map_map]
  conv => rhs; rw [← List.map_id l]
  exact List.map_congr_left fun c hc => Int.toNat_of_nonneg (h c hc)
theorem bcodes_nn {t : Int} : ∀ c ∈ bcodes t, 0 ≤ c := by
  intro c hc
  obtain ⟨d, _, rfl⟩ := List.mem_map.mp hc
  omega
theorem codes_b {t : Int} : KStt.codes (KStt.txt (bcodes t)) = bcodes t := codes_txt _ bcodes_nn
/-! the Lucas loop with its bounds -/
def Lt9 (n x : Int) : Prop := 0 ≤ x ∧ x < n
def LB (n b : Int) (pre : List Int) (v w q Q : Int) : Prop := LI n b pre v w q Q ∧ Lt9 n v ∧ Lt9 n w ∧ Lt9 n q ∧ Lt9 n Q
section
variable {n b v w q Q c : Int} {pre : List Int}
theorem lt9_mod (hn : NB9 n) (x : Int) : Lt9 n (x.fmod n) := by
  have h := hn.1
  have := (fdiv_fmod_facts x n).2.2.1 (by omega)
  exact ⟨this.1, this.2⟩
theorem lb_start (hn : NB9 n) : LB n b [] 2 1 1 1 := by
  have h := hn.1
  exact ⟨li_start, ⟨by omega, by omega⟩, ⟨by omega, by omega⟩, ⟨by omega, by omega⟩, ⟨by omega, by omega⟩⟩
theorem lb_one (hn : NB9 n) (h : LB n b pre v w q Q) (hc : c = 49) : LB n b (pre ++ [c]) ((w * v - (q * Q).fmod n).fmod n) ((w * w - 2 * (q * Q).fmod n * b).fmod n) ((q * Q).fmod n) (((q * Q).fmod n * b).fmod n) :=
  ⟨li_one h.1 hc, lt9_mod hn _, lt9_mod hn _, lt9_mod hn _, lt9_mod hn _⟩
theorem lb_two (hn : NB9 n) (h : LB n b pre v w q Q) (hc : c ≠ 49) : LB n b (pre ++ [c]) ((v * v - 2 * (q * Q).fmod n).fmod n) ((w * v - (q * Q).fmod n).fmod n) ((q * Q).fmod n) ((q * Q).fmod n) :=
  ⟨li_two h.1 hc, lt9_mod hn _, lt9_mod hn _, lt9_mod hn _, lt9_mod hn _⟩
theorem lt9_bd (hn : NB9 n) {x : Int} (h : Lt9 n x) : x.natAbs < 2 ^ 900 := by
  have h1 := hn.2; have h2 := h.1; have h3 := h.2; omega
theorem p2up {x : Nat} (h : x < 2 ^ 900) : x < 2 ^ 2000 := Nat.lt_of_lt_of_le h (pow2_mono (by decide))
theorem lm2 {x y : Int} (hx : x.natAbs < 2 ^ 2000) (hy : y.natAbs < 2 ^ 900) : PySem.IntMulOk x y := mul_ok hx hy
theorem tw (hn : NB9 n) {x : Int} (hx : Lt9 n x) : (2 * x).natAbs < 2 ^ 2000 := by
  have h1 := lt9_bd hn hx
  have h2 : (2 : Nat) ^ 900 * 2 ≤ 2 ^ 2000 := by rw [← Nat.pow_succ]; exact pow2_mono (by decide)
  omega
theorem tws (hn : NB9 n) {x y : Int} (hx : Lt9 n x) (hy : Lt9 n y) : (2 * x - y).natAbs < 2 ^ 2000 := by
  have h1 := lt9_bd hn hx
  have h3 := lt9_bd hn hy
  have h2 : (2 : Nat) ^ 900 * 4 ≤ 2 ^ 2000 := by rw [show (2 : Nat) ^ 900 * 4 = 2 ^ 902 by rw [show 902 = 900 + 2 from rfl, Nat.pow_add]]; exact pow2_mono (by decide)
  omega
end
/-! the end -/
def lloop (n : Int) : Nat → Int → Int → Bool
  | 0, _, _ => false
  | k + 1, v, q => if (v * v - 2 * q).fmod n = 0 then true else lloop n k ((v * v - 2 * q).fmod n) ((q * q).fmod n)
def lend (n b t s : Int) (x : LS) : Bool := decide (x.v = 0) || decide ((2 * x.w - x.v).fmod n = 0) || lloop n (s - 1).toNat x.v (powI b t n)
/-- what the Lucas part answers -/
def LE (n b : Int) (B : Bool) : Prop := ∀ t s, Hf ((n + 1).fdiv 2) t s → t.fmod 2 ≠ 0 → lend n b t s (lfold n b (bcodes t)) = B
def LV (n b : Int) (B : Bool) (t s v w : Int) : Prop := (decide (v = 0) || decide ((2 * w - v).fmod n = 0) || lloop n (s - 1).toNat v (powI b t n)) = B
def LQ (n : Int) (B : Bool) (s : Int) (pre : List Int) (v q : Int) : Prop := Lt9 n v ∧ Lt9 n q ∧ ∃ k : Nat, k + pre.length = (s - 1).toNat ∧ lloop n k v q = B
section
variable {n b v w q Q c t s D z : Int} {pre : List Int} {B : Bool}
theorem lv_of (h : LE n b B) (hh : Hf ((n + 1).fdiv 2) t s) (ho : t.fmod 2 ≠ 0) (hl : LB n b (bcodes t) v w q Q) : LV n b B t s v w := by
  have h1 := h t s hh ho
  have h2 : lfold n b (bcodes t) = ⟨v, w, q, Q⟩ := hl.1
  rw [h2] at h1
  exact h1
theorem lv_zero (h : LV n b B t s v w) (hv : v = 0) : true = B := by
  unfold LV at h
  rw [decide_eq_true hv] at h
  rw [← h]; rfl
theorem inv_iff (hn : NB9 n) (hi : Inv D n z) (x : Int) : (x * z).fmod n = 0 ↔ x.fmod n = 0 := by
  have h3 := hn.1
  have f1 := fdiv_fmod_facts (x * z) n
  have f2 := fdiv_fmod_facts x n
  obtain ⟨h0, h1, k, hk⟩ := hi
  rw [Int.fmod_eq_emod_of_nonneg _ (by omega), Int.fmod_eq_emod_of_nonneg _ (by omega), ← Int.dvd_iff_emod_eq_zero, ← Int.dvd_iff_emod_eq_zero]
  constructor
  · rintro ⟨j, hj⟩
    have hz : z * D = 1 + n * k := by omega
    have e : x = n * (j * D - x * k) := by
      have e1 : x * z * D = n * j * D := by rw [hj]
      rw [Int.mul_assoc, hz] at e1
      grind
    exact ⟨_, e⟩
  · rintro ⟨j, rfl⟩
    exact ⟨j * z, by rw [Int.mul_assoc]⟩
theorem lv_inv (hn : NB9 n) (h : LV n b B t s v w) (hi : Inv D n z) (hv : ((2 * w - v) * z).fmod n = 0) : true = B := by
  unfold LV at h
  rw [decide_eq_true ((inv_iff hn hi _).mp hv)] at h
  rw [← h]; simp
theorem lq_start (hn : NB9 n) (h : LV n b B t s v w) (hl : LB n b pre v w q Q) (hh : Hf ((n + 1).fdiv 2) t s) (hi : Inv D n z) (hv : v ≠ 0) (hw : ((2 * w - v) * z).fmod n ≠ 0) : LQ n B s [] v (powI b t n) := by
  unfold LV at h
  rw [decide_eq_false hv, decide_eq_false (fun e => hw ((inv_iff hn hi _).mpr e)), Bool.false_or, Bool.false_or] at h
  have h3 := hn.1
  have := powI_lo (a := b) (n := t) (m := n) (hf_nn hh) (by omega)
  exact ⟨hl.2.1, ⟨this.1, this.2⟩, _, by simp, h⟩
theorem lq_hit (h : LQ n B s pre v q) (hlt : pre.length < (s - 1).toNat) (hv : (v * v - 2 * q).fmod n = 0) : true = B := by
  obtain ⟨_, _, k, h1, h2⟩ := h
  cases k with
  | zero => omega
  | succ k =>
    unfold lloop at h2
    rw [if_pos hv] at h2
    exact h2
theorem lq_turn (hn : NB9 n) (h : LQ n B s pre v q) (hlt : pre.length < (s - 1).toNat) (hv : (v * v - 2 * q).fmod n ≠ 0) (j : Int) : LQ n B s (pre ++ [j]) ((v * v - 2 * q).fmod n) ((q * q).fmod n) := by
  obtain ⟨_, _, k, h1, h2⟩ := h
  cases k with
  | zero => omega
  | succ k =>
    unfold lloop at h2
    rw [if_neg hv] at h2
    exact ⟨lt9_mod hn _, lt9_mod hn _, k, by rw [List.length_append]; simp; omega, h2⟩
theorem lq_end (h : LQ n B s pre v q) (hlt : pre.length = (s - 1).toNat) : false = B := by
  obtain ⟨_, _, k, h1, h2⟩ := h
  have : k = 0 := by omega
  subst this
  exact h2
theorem s_le2 (hn : NB9 n) (h : Hf ((n + 1).fdiv 2) t s) : s ≤ 1000 := by
  have h1 := (hf_le h).2
  have h2 : (n + 1).fdiv 2 ≤ n := by
    rw [Int.fdiv_eq_ediv_of_nonneg _ (by decide)]; have := hn.1; omega
  have h3 : ((2 ^ (s - 1).toNat : Nat) : Int) ≤ n := by rw [Int.natCast_pow]; exact Int.le_trans h1 h2
  have h4 : 2 ^ (s - 1).toNat < 2 ^ 900 := by have := hn.2; omega
  have h5 := (Nat.pow_lt_pow_iff_right (by decide : 1 < 2)).mp h4
  omega
end
theorem JS1.intro {h₀ h' : Heap} {L : Addr} {m m' : Str → Option Value} {ns : List Str} {x : Str} {k k' : Int} {tx : Tok} {news : List (Addr × Obj)} {s : Shared} {tk' : Nat} (F : Fr h₀ L h' m') (N : News h₀ L h' news) (hx : m' x = some (.int k' tx)) (e : k' = k) (hm : ∀ y, y ≠ x → ns.contains y = false → m' y = m y) :
    JS1 h₀ L m ns x k news s .next { s with heap := h', toks := tk' } := ⟨rfl, h', tk', m', tx, rfl, F, N, e ▸ hx, hm⟩
theorem jm {j c : Int} {B : Bool} (h : j = -1 → (Sum.inl B : Sum Bool Int) = .inr c) : j ≠ -1 := fun e => by cases h e
theorem inlB {j : Int} {B b : Bool} (h : j = 0 → (Sum.inl B : Sum Bool Int) = .inl b) (e : j = 0) : b = B := (Sum.inl.inj (h e)).symm
end Mine
namespace Mine
section
variable {n b v w q Q c t s D z : Int} {B : Bool}
theorem lv_of2 (h : LE n b B) (hh : Hf ((n + 1).fdiv 2) t s) (ho : t.fmod 2 ≠ 0) (hl : LB n b (KStt.codes (KStt.txt (bcodes t))) v w q Q) : LV n b B t s v w := by
  rw [codes_b] at hl
  exact lv_of h hh ho hl
theorem dbd (h : D.natAbs < 2 ^ 800) : D.natAbs < 2 ^ 900 := Nat.lt_of_lt_of_le h (pow2_mono (by decide))
theorem bbd (h : D.natAbs < 2 ^ 800) : ((1 - D).fdiv 4).natAbs < 2 ^ 900 := by
  have h1 := Int.natAbs_fdiv_le_natAbs (1 - D) 4
  have h2 : (2 : Nat) ^ 800 + 1 ≤ 2 ^ 900 := by
    have : (2 : Nat) ^ 801 ≤ 2 ^ 900 := pow2_mono (by decide)
    have h3 : (2 : Nat) ^ 801 = 2 ^ 800 * 2 := Nat.pow_succ ..
    have h4 : 0 < (2 : Nat) ^ 800 := Nat.pow_pos (by decide)
    omega
  omega
theorem lq_end2 {m : Nat} (h : LQ n B s (rangeKs 1 m) v q) (hm : m = (s - 1).toNat) : false = B := lq_end h (by rw [rangeKs_length]; exact hm)
theorem two_bd : (2 : Int).natAbs < 2 ^ 2000 := Nat.lt_of_lt_of_le (by decide : (2 : Int).natAbs < 2 ^ 2) (pow2_mono (by decide))
end
end Mine
namespace Mine
section
variable {n b v w q Q c t s D z : Int} {B : Bool} {pre : List Int}
theorem lb_v (h : LB n b pre v w q Q) : Lt9 n v := h.2.1
theorem lb_w (h : LB n b pre v w q Q) : Lt9 n w := h.2.2.1
theorem lb_q (h : LB n b pre v w q Q) : Lt9 n q := h.2.2.2.1
theorem lb_Q (h : LB n b pre v w q Q) : Lt9 n Q := h.2.2.2.2
theorem lq_v (h : LQ n B s pre v q) : Lt9 n v := h.1
theorem lq_q (h : LQ n B s pre v q) : Lt9 n q := h.2.1
theorem inv_l (h : Inv D n z) : Lt9 n z := ⟨h.1, h.2.1⟩
end
end Mine
namespace Mine
theorem one_s : Str.ofString "1" = ⟨#[49]⟩ := by decide +kernel
theorem one_yes {k : Nat} (h : ((⟨#[k]⟩ : Str) == Str.ofString "1") = true) : (k : Int) = 49 := by
  rw [one_s, beq_iff_eq] at h
  have e := congrArg (fun x : Str => x.cps[0]?) h
  simp at e
  omega
theorem one_no {k : Nat} (h : ((⟨#[k]⟩ : Str) == Str.ofString "1") = false) : (k : Int) ≠ 49 := by
  intro e
  have : k = 49 := by omega
  subst this
  rw [one_s, beq_self_eq_true] at h
  cases h
end Mine
namespace Mine
/-! isprime's answer, reckoned -/
def hv : Nat → Int → Int → Int × Int
  | 0, t, s => (t, s)
  | f + 1, t, s => if t.fmod 2 = 0 then hv f (t.fdiv 2) (s + 1) else (t, s)
def hvn (a : Int) : Int × Int := hv 80 a 1
theorem hv_ok {a : Int} : ∀ (f : Nat) {t s : Int}, Hf a t s → Hf a (hv f t s).1 (hv f t s).2
  | 0, _, _, h => h
  | f + 1, t, s, h => by
    unfold hv
    by_cases e : t.fmod 2 = 0
    · rw [if_pos e]; exact hv_ok f (hf_turn h e)
    · rw [if_neg e]; exact h
theorem hvn_ok {a : Int} (ha : 1 ≤ a) : Hf a (hvn a).1 (hvn a).2 := hv_ok 80 (hf_start ha)
theorem hvn_eq {a t s : Int} (ha : 1 ≤ a) (ho : (hvn a).1.fmod 2 ≠ 0) (h : Hf a t s) (h2 : t.fmod 2 ≠ 0) : t = (hvn a).1 ∧ s = (hvn a).2 := hf_uniq h (hvn_ok ha) h2 ho
def someEq (n : Int) (x : Int) : Nat → Bool
  | 0 => false
  | k + 1 => decide (powI x 2 n = n - 1) || someEq n (powI x 2 n) k
theorem sqF_shift (n x : Int) : ∀ j, sqF n (j + 1) x = sqF n j (powI x 2 n)
  | 0 => rfl
  | j + 1 => by
    show powI (sqF n (j + 1) x) 2 n = powI (sqF n j (powI x 2 n)) 2 n
    rw [sqF_shift n x j]
theorem someEq_no {n : Int} : ∀ (k : Nat) {x : Int}, someEq n x k = false → ∀ j : Nat, 1 ≤ j → j ≤ k → sqF n j x ≠ n - 1
  | 0, _, _, j, h1, h2 => by omega
  | k + 1, x, h, j, h1, h2 => by
    unfold someEq at h
    obtain ⟨h3, h4⟩ := Bool.or_eq_false_iff.mp h
    obtain ⟨i, rfl⟩ : ∃ i, j = i + 1 := ⟨j - 1, by omega⟩
    rw [sqF_shift]
    by_cases e : i = 0
    · subst e; exact of_decide_eq_false h3
    · exact someEq_no k h4 i (by omega) (by omega)
def fstEq (n : Int) (x : Int) : Nat → Bool
  | 0 => false
  | k + 1 => decide (powI x 2 n = n - 1) || (decide (powI x 2 n ≠ 1) && fstEq n (powI x 2 n) k)
theorem fstEq_yes {n : Int} : ∀ (k : Nat) {x : Int}, fstEq n x k = true → ∃ j : Nat, 1 ≤ j ∧ j ≤ k ∧ sqF n j x = n - 1 ∧ ∀ i : Nat, 1 ≤ i → i < j → sqF n i x ≠ 1 ∧ sqF n i x ≠ n - 1
  | 0, _, h => by cases h
  | k + 1, x, h => by
    unfold fstEq at h
    by_cases e : powI x 2 n = n - 1
    · exact ⟨1, by omega, by omega, e, fun i h1 h2 => by omega⟩
    · rw [decide_eq_false e, Bool.false_or, Bool.and_eq_true] at h
      obtain ⟨j, h1, h2, h3, h4⟩ := fstEq_yes k h.2
      refine ⟨j + 1, by omega, by omega, by rw [sqF_shift]; exact h3, fun i h5 h6 => ?_⟩
      obtain ⟨i', rfl⟩ : ∃ i', i = i' + 1 := ⟨i - 1, by omega⟩
      rw [sqF_shift]
      by_cases e2 : i' = 0
      · subst e2; exact ⟨of_decide_eq_true h.1, e⟩
      · exact h4 i' (by omega) (by omega)
def sfB (n : Int) : Bool :=
  let h := hvn ((n - 1).fdiv 2)
  let x := powI 2 h.1 n
  decide (h.1.fmod 2 ≠ 0) && decide (x ≠ 1) && decide (x ≠ n - 1) && !(someEq n x (h.2 - 1).toNat)
def spB (n : Int) : Bool :=
  let h := hvn ((n - 1).fdiv 2)
  let x := powI 2 h.1 n
  decide (h.1.fmod 2 ≠ 0) && (decide (x = 1) || decide (x = n - 1) || fstEq n x (h.2 - 1).toNat)
theorem half1 {n : Int} (hn : 3 ≤ n) : 1 ≤ (n - 1).fdiv 2 := by rw [Int.fdiv_eq_ediv_of_nonneg _ (by decide)]; omega
theorem half2 {n : Int} (hn : 3 ≤ n) : 1 ≤ (n + 1).fdiv 2 := by rw [Int.fdiv_eq_ediv_of_nonneg _ (by decide)]; omega
theorem sfB_ok {n : Int} (hn : 3 ≤ n) (h : sfB n = true) : SFail n := by
  intro t s hh ho
  unfold sfB at h
  simp only [Bool.and_eq_true, decide_eq_true_eq, Bool.not_eq_true'] at h
  obtain ⟨⟨⟨h1, h2⟩, h3⟩, h4⟩ := h
  obtain ⟨rfl, rfl⟩ := hvn_eq (half1 hn) h1 hh ho
  exact ⟨h2, h3, fun j h5 h6 => someEq_no _ h4 j h5 (by omega)⟩
theorem spB_ok {n : Int} (hn : 3 ≤ n) (h : spB n = true) : SPass n := by
  intro t s hh ho
  unfold spB at h
  simp only [Bool.and_eq_true, decide_eq_true_eq, Bool.or_eq_true] at h
  obtain ⟨h1, h2⟩ := h
  obtain ⟨rfl, rfl⟩ := hvn_eq (half1 hn) h1 hh ho
  rcases h2 with (h2 | h2) | h2
  · exact .inl h2
  · exact .inr (.inl h2)
  · obtain ⟨j, h3, h4, h5, h6⟩ := fstEq_yes _ h2
    exact .inr (.inr ⟨j, h3, by omega, h5, h6⟩)
def leB (n b : Int) : Bool := let h := hvn ((n + 1).fdiv 2); lend n b h.1 h.2 (lfold n b (bcodes h.1))
theorem leB_ok {n b : Int} {B : Bool} (hn : 3 ≤ n) (ho : (hvn ((n + 1).fdiv 2)).1.fmod 2 ≠ 0) (h : leB n b = B) : LE n b B := by
  intro t s hh h2
  obtain ⟨rfl, rfl⟩ := hvn_eq (half2 hn) ho hh h2
  exact h
theorem cop_of {D n : Int} (h : Int.gcd D n = 1) : Cop D n := fun d h1 h2 => by
  have h4 : ((d.natAbs : Nat) : Int) ∣ ((Int.gcd D n : Nat) : Int) := Int.dvd_coe_gcd (Int.natAbs_dvd.mpr h1) (Int.natAbs_dvd.mpr h2)
  rw [h] at h4
  exact Int.natAbs_dvd.mp h4
/-- how isprime ends past the trial division, by the answer B -/
inductive Ends (K f0 : Nat) (n : Int) (B : Bool) : Prop
  | fail (h : SFail n) (hB : B = false)
  | inl (hp : SPass n) (h : srch K f0 5 n = some (.inl B))
  | inr (D : Int) (hp : SPass n) (h : srch K f0 5 n = some (.inr D)) (hg : ¬ (1 < ((Int.gcd n ((1 - D).fdiv 4) : Nat) : Int) ∧ ((Int.gcd n ((1 - D).fdiv 4) : Nat) : Int) < n)) (hD : D.natAbs < 2 ^ 800) (hc : Cop D n) (hl : LE n ((1 - D).fdiv 4) B)
def inrB (n D : Int) (B : Bool) : Bool :=
  let b := (1 - D).fdiv 4
  !(decide (1 < Int.gcd n b) && decide (Int.gcd n b < n.toNat)) && decide (D.natAbs < 1000) && decide (Int.gcd D n = 1) && decide ((hvn ((n + 1).fdiv 2)).1.fmod 2 ≠ 0) && (leB n b == B)
def endsB (n : Int) (B : Bool) : Bool :=
  if sfB n then !B else spB n && (match srch 60 40 5 n with
    | none => false
    | some (.inl b) => b == B
    | some (.inr D) => inrB n D B)
theorem inrB_ok {n D : Int} {B : Bool} (hn : 3 ≤ n) (hp : SPass n) (h : srch 60 40 5 n = some (.inr D)) (hb : inrB n D B = true) : Ends 60 40 n B := by
  unfold inrB at hb
  simp only [Bool.and_eq_true, decide_eq_true_eq, Bool.not_eq_true', Bool.and_eq_false_iff, decide_eq_false_iff_not, beq_iff_eq] at hb
  obtain ⟨⟨⟨⟨h1, h2⟩, h3⟩, h4⟩, h5⟩ := hb
  refine .inr D hp h (fun hx => ?_) (Nat.lt_of_lt_of_le h2 (Nat.le_trans (by decide : 1000 ≤ 2 ^ 10) (pow2_mono (by decide)))) (cop_of h3) (leB_ok hn h4 h5)
  rcases h1 with h1 | h1 <;> omega
theorem endsB_ok {n : Int} {B : Bool} (hn : 3 ≤ n) (h : endsB n B = true) : Ends 60 40 n B := by
  unfold endsB at h
  by_cases e : sfB n = true
  · rw [if_pos e] at h
    exact .fail (sfB_ok hn e) (by simpa using h)
  · rw [if_neg e, Bool.and_eq_true] at h
    obtain ⟨h1, h2⟩ := h
    have hp := spB_ok hn h1
    split at h2
    · cases h2
    · rename_i b hb
      have : b = B := by simpa using h2
      subst this
      exact .inl hp hb
    · rename_i D hb
      exact inrB_ok hn hp hb h2
/-! the law's own division -/
def lpF (n : Int) : Nat → Int → Bool
  | 0, _ => true
  | f + 1, d => if n < d * d then true else if n.fmod d = 0 then false else lpF n f (d + 1)
end Mine
namespace Mine
/-! Fermat to base 2 -/
theorem powI2 {x n : Int} (hn : 0 < n) : powI x 2 n = x ^ 2 % n := by
  rw [powI_eq (by decide) hn]; rfl
theorem sqF_eq {n a : Int} {e : Nat} (hn : 0 < n) : ∀ j : Nat, sqF n j (a ^ e % n) = a ^ (e * 2 ^ j) % n
  | 0 => by rw [Nat.pow_zero, Nat.mul_one]; rfl
  | j + 1 => by
    show powI (sqF n j (a ^ e % n)) 2 n = _
    rw [powI2 hn, sqF_eq hn j, emod_pow, ← Int.pow_mul, Nat.pow_succ, Nat.mul_assoc]
theorem dvd_of_res {n y c : Int} (h : y % n = c) : n ∣ y - c := ⟨y / n, by have := Int.mul_ediv_add_emod y n; omega⟩
theorem dvd_of_one {n y : Int} (h : y % n = 1) : n ∣ y - 1 := dvd_of_res h
theorem dvd_of_neg {n y : Int} (h : y % n = n - 1) : n ∣ y + 1 := by
  have h1 := dvd_of_res h
  have e : y + 1 = (y - (n - 1)) + n := by omega
  rw [e]
  exact Int.dvd_add h1 (Int.dvd_refl n)
/-! squares -/
/-- the least factor -/
def lfF (n : Int) : Nat → Int → Int
  | 0, _ => n
  | f + 1, d => if n < d * d then n else if n.fmod d = 0 then d else lfF n f (d + 2)
def wfB (m : Int) : Bool :=
  let p := lfF m 17 3
  decide (3 ≤ p) && decide (m.fmod p = 0) && decide (powI 2 (p * (p - 1)) (p * p) = 1) && decide (powI 2 (p - 1) (p * p) ≠ 1)
end Mine
namespace Mine
def DR (q z : Int) : Prop := 0 ≤ z ∧ z < q
def DS (q z : Int) : Prop := -q < z ∧ z < q
def oneF (ns : List Int) (i : Int) : Int := if i < ns.length then ns.getD i.toNat 0 else 9973 * (i + 1) * (i + 1) + 389 * i + 25
def drawF (ns : List Int) (i q : Int) : Int := (oneF ns i).fmod q
def signF (ns : List Int) (i q : Int) : Int := if oneF ns i < 0 then -((-(oneF ns i)).fmod q) else (oneF ns i).fmod q
theorem fm_ok {q : Int} (hq : 0 < q) (a : Int) : DR q (a.fmod q) := (fdiv_fmod_facts a q).2.2.1 hq
theorem draw_ok {q : Int} (hq : 0 < q) (ns : List Int) (i : Int) : DR q (drawF ns i q) := fm_ok hq _
/-- the law's part of the basis -/
def basOf (mask : Int) : List Int := ((rangeKs 0 16).filter fun k => decide ((mask.fdiv (2 ^ k.toNat)).fmod 2 = 1)).map fun k => basisF.getD k.toNat 0
end Mine
namespace Mine
/-! primes, by Euclid's property -/
def PrI (n : Int) : Prop := 2 ≤ n ∧ ∀ a b : Int, n ∣ a * b → n ∣ a ∨ n ∣ b
theorem PrI.pow {n a : Int} (h : PrI n) : ∀ {k : Nat}, n ∣ a ^ k → n ∣ a
  | 0, h0 => by
    rw [Int.pow_zero] at h0
    have := Int.le_of_dvd (by decide) h0
    have := h.1
    omega
  | k + 1, h1 => by
    rw [Int.pow_succ] at h1
    exact (h.2 _ _ h1).elim (fun h2 => PrI.pow h h2) id
theorem PrI.one {n : Int} (h : PrI n) : ¬ n ∣ 1 := fun h1 => by
  have := Int.le_of_dvd (by decide) h1
  have := h.1
  omega
def prI (l : List Int) : Int := l.foldr (· * ·) 1
theorem prI_cons (a : Int) (l : List Int) : prI (a :: l) = a * prI l := rfl
theorem prI_perm {l r : List Int} (h : l.Perm r) : prI l = prI r := by
  induction h with
  | nil => rfl
  | cons x _ ih => rw [prI_cons, prI_cons, ih]
  | swap x y l => simp only [prI_cons]; grind
  | trans _ _ ih1 ih2 => exact ih1.trans ih2
/-- equal but for multiples of n -/
def Cg (n a b : Int) : Prop := n ∣ a - b
theorem Cg.refl (n a : Int) : Cg n a a := ⟨0, by grind⟩
theorem Cg.symm {n a b : Int} (h : Cg n a b) : Cg n b a := by obtain ⟨c, h⟩ := h; exact ⟨-c, by grind⟩
theorem Cg.trans {n a b c : Int} (h : Cg n a b) (h' : Cg n b c) : Cg n a c := by obtain ⟨x, h⟩ := h; obtain ⟨y, h'⟩ := h'; exact ⟨x + y, by grind⟩
theorem Cg.mul {n a b c d : Int} (h : Cg n a b) (h' : Cg n c d) : Cg n (a * c) (b * d) := by
  obtain ⟨x, h⟩ := h; obtain ⟨y, h'⟩ := h'
  exact ⟨x * c + b * y, by grind⟩
theorem Cg.add {n a b c d : Int} (h : Cg n a b) (h' : Cg n c d) : Cg n (a + c) (b + d) := by
  obtain ⟨x, h⟩ := h; obtain ⟨y, h'⟩ := h'
  exact ⟨x + y, by grind⟩
theorem Cg.sub {n a b c d : Int} (h : Cg n a b) (h' : Cg n c d) : Cg n (a - c) (b - d) := by
  obtain ⟨x, h⟩ := h; obtain ⟨y, h'⟩ := h'
  exact ⟨x - y, by grind⟩
theorem Cg.pow {n a b : Int} (h : Cg n a b) : ∀ k : Nat, Cg n (a ^ k) (b ^ k)
  | 0 => by rw [Int.pow_zero, Int.pow_zero]; exact Cg.refl _ _
  | k + 1 => by rw [Int.pow_succ, Int.pow_succ]; exact (Cg.pow h k).mul h
theorem Cg.dvd {n a b : Int} (h : Cg n a b) (h' : n ∣ b) : n ∣ a := by
  obtain ⟨x, h⟩ := h; obtain ⟨y, rfl⟩ := h'
  exact ⟨x + y, by grind⟩
theorem Cg.zero {n a : Int} : Cg n a 0 ↔ n ∣ a := by unfold Cg; rw [Int.sub_zero]
theorem Cg.cancel {n a b c : Int} (hn : PrI n) (hc : ¬ n ∣ c) (h : Cg n (a * c) (b * c)) : Cg n a b := by
  have : n ∣ (a - b) * c := by obtain ⟨x, h⟩ := h; exact ⟨x, by grind⟩
  exact (hn.2 _ _ this).resolve_right hc
theorem cg_mod {n a : Int} : Cg n (a % n) a := ⟨-(a / n), by have := Int.mul_ediv_add_emod a n; grind⟩
theorem prI_cg {α : Type} {n : Int} {f g : α → Int} : ∀ {l : List α}, (∀ x ∈ l, Cg n (f x) (g x)) → Cg n (prI (l.map f)) (prI (l.map g))
  | [], _ => Cg.refl _ _
  | a :: l, h => by
    rw [List.map_cons, List.map_cons, prI_cons, prI_cons]
    exact (h a (List.mem_cons_self ..)).mul (prI_cg fun x hx => h x (List.mem_cons_of_mem _ hx))
theorem prI_mul {α : Type} {f g : α → Int} : ∀ {l : List α}, prI (l.map fun x => f x * g x) = prI (l.map f) * prI (l.map g)
  | [] => by simp [prI]
  | a :: l => by
    rw [List.map_cons, List.map_cons, List.map_cons, prI_cons, prI_cons, prI_cons, prI_mul (l := l)]
    grind
theorem prI_const {α : Type} {c : Int} {f : α → Int} : ∀ {l : List α}, prI (l.map fun x => c * f x) = c ^ l.length * prI (l.map f)
  | [] => by simp [prI]
  | a :: l => by
    rw [List.map_cons, List.map_cons, prI_cons, prI_cons, prI_const (l := l), List.length_cons, Int.pow_succ]
    grind
theorem prI_no {n : Int} (hn : PrI n) : ∀ {l : List Int}, (∀ x ∈ l, ¬ n ∣ x) → ¬ n ∣ prI l
  | [], _ => hn.one
  | a :: l, h => fun hd => (hn.2 _ _ hd).elim (h a (List.mem_cons_self ..)) (prI_no hn fun x hx => h x (List.mem_cons_of_mem _ hx))
/-- nodup, contained, as long: the same items -/
theorem perm_of {l : List Int} : ∀ {r : List Int}, l.Nodup → (∀ x ∈ l, x ∈ r) → r.length ≤ l.length → l.Perm r := by
  induction l with
  | nil =>
    intro r _ _ h
    have : r = [] := List.length_eq_zero_iff.mp (by simpa using h)
    rw [this]
  | cons a l ih =>
    intro r hd hs hl
    have ha := hs a (List.mem_cons_self ..)
    have hp := List.perm_cons_erase ha
    obtain ⟨hna, hd'⟩ := List.nodup_cons.mp hd
    refine List.Perm.trans (List.Perm.cons a (ih (r := r.erase a) hd' (fun x hx => ?_) ?_)) hp.symm
    · exact (List.mem_erase_of_ne (fun e => hna (by rw [← e]; exact hx))).mpr (hs x (List.mem_cons_of_mem _ hx))
    · rw [List.length_erase_of_mem ha]
      simp only [List.length_cons] at hl
      omega
/-! Gauss' lemma -/
section
variable {n q : Int} {m : Nat}
def rG (n q : Int) (k : Nat) : Int := (q * ((k : Int) + 1)) % n
def sG (n q : Int) (k : Nat) : Int := if 2 * rG n q k < n then rG n q k else n - rG n q k
def eG (n q : Int) (k : Nat) : Int := if 2 * rG n q k < n then 1 else -1
theorem sG_cg {k : Nat} : Cg n (q * ((k : Int) + 1)) (eG n q k * sG n q k) := by
  have h : Cg n (rG n q k) (q * ((k : Int) + 1)) := cg_mod
  unfold eG sG
  split
  · obtain ⟨c, h⟩ := h; exact ⟨-c, by grind⟩
  · obtain ⟨c, h⟩ := h; exact ⟨-c + 1, by grind⟩
theorem small_no (hn : 0 < n) {x : Int} (h0 : x ≠ 0) (h1 : -n < x) (h2 : x < n) : ¬ n ∣ x := fun ⟨c, hc⟩ => by
  rcases Int.lt_trichotomy c 0 with h | h | h
  · have : n * c ≤ n * (-1) := Int.mul_le_mul_of_nonneg_left (by omega) (by omega)
    omega
  · rw [h, Int.mul_zero] at hc; exact h0 hc
  · have : n * 1 ≤ n * c := Int.mul_le_mul_of_nonneg_left (by omega) (by omega)
    omega
theorem rG_bd (hn : PrI n) (hq : ¬ n ∣ q) (hm : n = 2 * (m : Int) + 1) {k : Nat} (hk : k < m) : 0 < rG n q k ∧ rG n q k < n := by
  have h0 := hn.1
  have h1 := Int.emod_nonneg (q * ((k : Int) + 1)) (by omega : n ≠ 0)
  have h2 := Int.emod_lt_of_pos (q * ((k : Int) + 1)) (by omega : 0 < n)
  have h3 : rG n q k ≠ 0 := fun e => by
    have := Int.dvd_of_emod_eq_zero e
    exact (hn.2 _ _ this).elim hq (small_no (by omega) (by omega) (by omega) (by omega))
  unfold rG at *
  omega
theorem sG_bd (hn : PrI n) (hq : ¬ n ∣ q) (hm : n = 2 * (m : Int) + 1) {k : Nat} (hk : k < m) : 1 ≤ sG n q k ∧ sG n q k ≤ m := by
  have := rG_bd hn hq hm hk
  unfold sG
  split <;> omega
theorem sg1 {q i j s n x y : Int} (h1 : q * (i + 1) - 1 * s = n * x) (h2 : q * (j + 1) - 1 * s = n * y) : q * (i - j) = n * (x - y) := by grind
theorem sg2 {q i j s n x y : Int} (h1 : q * (i + 1) - 1 * s = n * x) (h2 : q * (j + 1) - -1 * s = n * y) : q * (i + j + 2) = n * (x + y) := by grind
theorem sg3 {q i j s n x y : Int} (h1 : q * (i + 1) - -1 * s = n * x) (h2 : q * (j + 1) - 1 * s = n * y) : q * (i + j + 2) = n * (x + y) := by grind
theorem sg4 {q i j s n x y : Int} (h1 : q * (i + 1) - -1 * s = n * x) (h2 : q * (j + 1) - -1 * s = n * y) : q * (i - j) = n * (x - y) := by grind
theorem sG_inj (hn : PrI n) (hq : ¬ n ∣ q) (hm : n = 2 * (m : Int) + 1) {i j : Nat} (hi : i < m) (hj : j < m) (e : sG n q i = sG n q j) : i = j := by
  have h1 : Cg n (q * ((i : Int) + 1)) (eG n q i * sG n q i) := sG_cg
  have h2 : Cg n (q * ((j : Int) + 1)) (eG n q j * sG n q j) := sG_cg
  rw [e] at h1
  have key : n ∣ q * ((i : Int) - j) ∨ n ∣ q * ((i : Int) + j + 2) := by
    obtain ⟨x, h1⟩ := h1
    obtain ⟨y, h2⟩ := h2
    unfold eG at h1 h2
    split at h1 <;> split at h2
    · exact .inl ⟨x - y, sg1 h1 h2⟩
    · exact .inr ⟨x + y, sg2 h1 h2⟩
    · exact .inr ⟨x + y, sg3 h1 h2⟩
    · exact .inl ⟨x - y, sg4 h1 h2⟩
  rcases key with h | h
  · rcases hn.2 _ _ h with h | h
    · exact absurd h hq
    · apply Classical.byContradiction
      intro hne
      exact small_no (by omega) (by omega) (by omega) (by omega) h
  · rcases hn.2 _ _ h with h | h
    · exact absurd h hq
    · exact absurd h (small_no (by omega) (by omega) (by omega) (by omega))
theorem gauss (hn : PrI n) (hq : ¬ n ∣ q) (hm : n = 2 * (m : Int) + 1) : Cg n (q ^ m) (prI ((List.range m).map (eG n q))) := by
  have hF : ¬ n ∣ prI ((List.range m).map fun (k : Nat) => (k : Int) + 1) := prI_no hn fun x hx => by
    obtain ⟨k, hk, rfl⟩ := List.mem_map.mp hx
    have := List.mem_range.mp hk
    exact small_no (by omega) (by omega) (by omega) (by omega)
  refine Cg.cancel hn hF ?_
  have h1 : prI ((List.range m).map fun (k : Nat) => q * ((k : Int) + 1)) = q ^ m * prI ((List.range m).map fun (k : Nat) => (k : Int) + 1) := by
    rw [prI_const, List.length_range]
  have h2 : prI ((List.range m).map (sG n q)) = prI ((List.range m).map fun (k : Nat) => (k : Int) + 1) := by
    refine prI_perm (perm_of ?_ (fun x hx => ?_) (by simp))
    · refine List.Pairwise.map (R := fun a b => a < m ∧ b < m ∧ a ≠ b) _ (fun a b h e => h.2.2 (sG_inj hn hq hm h.1 h.2.1 e)) ?_
      have hd : (List.range m).Nodup := List.nodup_range
      exact List.Pairwise.imp_of_mem (fun {a b} ha hb h => ⟨List.mem_range.mp ha, List.mem_range.mp hb, h⟩) hd
    · obtain ⟨k, hk, rfl⟩ := List.mem_map.mp hx
      have h := sG_bd hn hq hm (List.mem_range.mp hk)
      exact List.mem_map.mpr ⟨(sG n q k - 1).toNat, List.mem_range.mpr (by omega), by omega⟩
  have h3 : Cg n (prI ((List.range m).map fun (k : Nat) => q * ((k : Int) + 1))) (prI ((List.range m).map fun k => eG n q k * sG n q k)) := prI_cg fun k _ => sG_cg
  rw [h1, prI_mul, h2] at h3
  exact h3
end
end Mine
namespace Mine
/-! the sign in Gauss' lemma, counted -/
def sumN (f : Nat → Nat) : Nat → Nat
  | 0 => 0
  | k + 1 => sumN f k + f k
theorem sumN_congr {f g : Nat → Nat} : ∀ {m : Nat}, (∀ k < m, f k = g k) → sumN f m = sumN g m
  | 0, _ => rfl
  | m + 1, h => by
    show sumN f m + f m = sumN g m + g m
    rw [sumN_congr (m := m) fun k hk => h k (by omega), h m (by omega)]
theorem sumN_add {f g : Nat → Nat} : ∀ {m : Nat}, sumN (fun k => f k + g k) m = sumN f m + sumN g m
  | 0 => rfl
  | m + 1 => by
    show sumN (fun k => f k + g k) m + (f m + g m) = (sumN f m + f m) + (sumN g m + g m)
    rw [sumN_add (m := m)]; omega
theorem sumN_const {c : Nat} : ∀ {m : Nat}, sumN (fun _ => c) m = c * m
  | 0 => rfl
  | m + 1 => by
    show sumN (fun _ => c) m + c = _
    rw [sumN_const (m := m), Nat.mul_succ]
theorem sumN_swap {f : Nat → Nat → Nat} {b : Nat} : ∀ {a : Nat}, sumN (fun k => sumN (f k) b) a = sumN (fun j => sumN (fun k => f k j) a) b
  | 0 => by
    show 0 = sumN (fun _ => 0) b
    rw [sumN_const, Nat.zero_mul]
  | a + 1 => by
    show sumN (fun k => sumN (f k) b) a + sumN (f a) b = sumN (fun j => sumN (fun k => f k j) a + f a j) b
    rw [sumN_add, sumN_swap (a := a)]
theorem sumN_count {n X : Nat} (hn : 0 < n) (h : ∀ j, (j + 1) * n ≠ X) : ∀ B : Nat, sumN (fun j => if (j + 1) * n < X then 1 else 0) B = min B (X / n)
  | 0 => by simp [sumN]
  | B + 1 => by
    show sumN _ B + (if (B + 1) * n < X then 1 else 0) = _
    rw [sumN_count hn h B]
    have h1 := Nat.le_div_iff_mul_le (x := B + 1) (y := X) hn
    have h2 := h B
    split
    · have := h1.mpr (by omega); omega
    · have : ¬ (B + 1 ≤ X / n) := fun e => by have := h1.mp e; omega
      omega
theorem sumN_ge {F : Nat} : ∀ m : Nat, sumN (fun k => if F ≤ k then 1 else 0) m = m - F
  | 0 => by simp [sumN]
  | m + 1 => by
    show sumN _ m + (if F ≤ m then 1 else 0) = _
    rw [sumN_ge m]
    split <;> omega
def sgN (k : Nat) : Int := if k % 2 = 0 then 1 else -1
theorem sgN_add (a b : Nat) : sgN (a + b) = sgN a * sgN b := by
  unfold sgN
  rcases (by omega : a % 2 = 0 ∨ a % 2 = 1) with h1 | h1 <;> rcases (by omega : b % 2 = 0 ∨ b % 2 = 1) with h2 | h2
  · rw [if_pos (by omega), if_pos h1, if_pos h2]; rfl
  · rw [if_neg (by omega), if_pos h1, if_neg (by omega)]; rfl
  · rw [if_neg (by omega), if_neg (by omega), if_pos h2]; rfl
  · rw [if_pos (by omega), if_neg (by omega), if_neg (by omega)]; rfl
theorem prI_append (l r : List Int) : prI (l ++ r) = prI l * prI r := by
  induction l with
  | nil => simp [prI]
  | cons a l ih => rw [List.cons_append, prI_cons, prI_cons, ih]; grind
theorem prI_sg {e : Nat → Int} {f : Nat → Nat} : ∀ {m : Nat}, (∀ k < m, e k = sgN (f k)) → prI ((List.range m).map e) = sgN (sumN f m)
  | 0, _ => rfl
  | m + 1, h => by
    rw [List.range_succ, List.map_append, prI_append, prI_sg (m := m) fun k hk => h k (by omega)]
    show _ = sgN (sumN f m + f m)
    rw [sgN_add, ← h m (by omega)]
    simp [prI]
theorem sgN_eq {a b : Nat} (h : a % 2 = b % 2) : sgN a = sgN b := by unfold sgN; rw [h]
theorem eG_sg {n q : Nat} (hn : 0 < n) (k : Nat) : eG n q k = sgN (2 * (q * (k + 1)) / n) := by
  have e : rG n q k = ((q * (k + 1) % n : Nat) : Int) := by
    unfold rG
    rw [Int.natCast_emod, Int.natCast_mul, Int.natCast_add]; rfl
  have hr := Nat.mod_lt (q * (k + 1)) hn
  have hd := Nat.div_add_mod (q * (k + 1)) n
  unfold eG sgN
  rw [e]
  generalize q * (k + 1) = x at *
  generalize hQ : x / n = Q at *
  generalize hR : x % n = R at *
  have h2 : 2 * x = n * (2 * Q) + 2 * R := by grind
  by_cases h : 2 * R < n
  · have h3 : 2 * x / n = 2 * Q := by
      rw [h2, Nat.mul_add_div hn, Nat.div_eq_of_lt h]; rfl
    rw [h3, if_pos (by omega), if_pos (by omega)]
  · have h3 : 2 * x / n = 2 * Q + 1 := by
      have h4 : 2 * R = n * 1 + (2 * R - n) := by omega
      rw [h2, Nat.mul_add_div hn, h4, Nat.mul_add_div hn, Nat.div_eq_of_lt (by omega)]
    rw [h3, if_neg (by omega), if_neg (by omega)]
theorem recip {n q m : Nat} (hn : PrI (n : Int)) (hm : n = 2 * m + 1) (hq : q % 2 = 1) (hlt : q < n) : Cg n ((q : Int) ^ m) (sgN (sumN (fun j => (j + 1) * (n % (4 * q)) / (2 * q)) (q - 1))) := by
  have hq0 : ¬ (n : Int) ∣ (q : Int) := small_no (by omega) (by omega) (by omega) (by omega)
  have h2 : ¬ (n : Int) ∣ 2 := by
    have hn3 : 3 ≤ n := by have := hn.1; omega
    exact small_no (by omega) (by omega) (by omega) (by omega)
  have h := gauss (m := m) hn hq0 (by omega)
  have hn0 : 0 < n := by omega
  rw [prI_sg (f := fun k => 2 * (q * (k + 1)) / n) (fun k _ => eG_sg hn0 k)] at h
  have e1 : ∀ k < m, 2 * (q * (k + 1)) / n = sumN (fun j => if (j + 1) * n < 2 * (q * (k + 1)) then 1 else 0) (q - 1) := fun k hk => by
    rw [sumN_count hn0]
    · have : 2 * (q * (k + 1)) / n < q := by
        rw [Nat.div_lt_iff_lt_mul hn0]
        have : q * (k + 1) ≤ q * m := Nat.mul_le_mul_left q (by omega)
        rw [hm, Nat.mul_add]
        grind
      omega
    · intro j e
      have hd : (n : Int) ∣ 2 * ((q : Int) * ((k : Int) + 1)) := ⟨(j : Int) + 1, by
        have := congrArg (fun x : Nat => (x : Int)) e
        simp only [Int.natCast_mul, Int.natCast_add] at this
        grind⟩
      rcases hn.2 _ _ hd with h | h
      · exact h2 h
      · rcases hn.2 _ _ h with h | h
        · exact hq0 h
        · exact small_no (by omega) (by omega) (by omega) (by omega) h
  rw [sumN_congr e1, sumN_swap] at h
  have e2 : ∀ j < q - 1, sumN (fun k => if (j + 1) * n < 2 * (q * (k + 1)) then 1 else 0) m = m - (j + 1) * n / (2 * q) := fun j hj => by
    rw [← sumN_ge]
    refine sumN_congr fun k _ => ?_
    have h3 : (j + 1) * n / (2 * q) ≤ k ↔ (j + 1) * n < 2 * (q * (k + 1)) := by
      rw [← Nat.lt_succ_iff, Nat.div_lt_iff_lt_mul (by omega)]
      have : (k + 1) * (2 * q) = 2 * (q * (k + 1)) := by grind
      rw [Nat.succ_eq_add_one, this]
    by_cases h4 : (j + 1) * n < 2 * (q * (k + 1))
    · rw [if_pos h4, if_pos (h3.mpr h4)]
    · rw [if_neg h4, if_neg (fun e => h4 (h3.mp e))]
  rw [sumN_congr e2] at h
  have e3 : sumN (fun j => m - (j + 1) * n / (2 * q)) (q - 1) + sumN (fun j => (j + 1) * n / (2 * q)) (q - 1) = m * (q - 1) := by
    rw [← sumN_add, ← sumN_const (c := m) (m := q - 1)]
    refine sumN_congr fun j hj => ?_
    have : (j + 1) * n / (2 * q) ≤ m := by
      have h5 : (j + 1) * n < (m + 1) * (2 * q) := by
        have h6 : (j + 1) * n ≤ q * n := Nat.mul_le_mul_right n (by omega)
        rw [hm] at h6 ⊢
        have h7 : (m + 1) * (2 * q) = q * (2 * m + 1) + q := by grind
        omega
      have := (Nat.div_lt_iff_lt_mul (by omega : 0 < 2 * q)).mpr h5
      omega
    omega
  have e4 : sumN (fun j => (j + 1) * n / (2 * q)) (q - 1) = 2 * sumN (fun j => (j + 1) * (n / (4 * q))) (q - 1) + sumN (fun j => (j + 1) * (n % (4 * q)) / (2 * q)) (q - 1) := by
    have e5 : 2 * sumN (fun j => (j + 1) * (n / (4 * q))) (q - 1) = sumN (fun j => (j + 1) * (n / (4 * q)) + (j + 1) * (n / (4 * q))) (q - 1) := by rw [sumN_add]; omega
    rw [e5, ← sumN_add]
    refine sumN_congr fun j _ => ?_
    have hd := Nat.div_add_mod n (4 * q)
    generalize n / (4 * q) = u at *
    generalize n % (4 * q) = r at *
    have e6 : (j + 1) * n = 2 * q * ((j + 1) * u + (j + 1) * u) + (j + 1) * r := by rw [← hd]; grind
    rw [e6, Nat.mul_add_div (by omega)]
  have e7 : m * (q - 1) % 2 = 0 := by
    rw [Nat.mul_mod, show (q - 1) % 2 = 0 by omega, Nat.mul_zero]
  rw [sgN_eq (b := sumN (fun j => (j + 1) * (n % (4 * q)) / (2 * q)) (q - 1)) (by omega)] at h
  exact h
end Mine
namespace Mine
/-! binomials: all but the first and the last are multiples of a prime -/
def bin : Nat → Nat → Int
  | _, 0 => 1
  | 0, _ + 1 => 0
  | n + 1, k + 1 => bin n k + bin n (k + 1)
theorem bin_zero (n : Nat) : bin n 0 = 1 := by cases n <;> rfl
theorem bin_succ (n k : Nat) : bin (n + 1) (k + 1) = bin n k + bin n (k + 1) := rfl
theorem bin_big : ∀ {n k : Nat}, n < k → bin n k = 0
  | 0, k + 1, _ => rfl
  | n + 1, k + 1, h => by rw [bin_succ, bin_big (by omega), bin_big (by omega)]; rfl
theorem bin_self : ∀ n : Nat, bin n n = 1
  | 0 => rfl
  | n + 1 => by rw [bin_succ, bin_self n, bin_big (by omega)]; rfl
theorem bin_mul : ∀ n k : Nat, ((k : Int) + 1) * bin (n + 1) (k + 1) = ((n : Int) + 1) * bin n k
  | n, 0 => by
    rw [bin_zero]
    induction n with
    | zero => rfl
    | succ n ih =>
      rw [bin_succ, bin_zero, Int.natCast_add]
      grind
  | 0, k + 1 => by
    rw [bin_succ, bin_big (by omega), bin_big (by omega)]; simp
  | n + 1, k + 1 => by
    have h1 := bin_mul n (k + 1)
    have h2 := bin_mul n k
    rw [bin_succ (n + 1) (k + 1)]
    have h3 := bin_succ n k
    rw [Int.natCast_add, Int.natCast_add] at *
    grind
theorem bin_dvd {n : Nat} (hn : PrI (n : Int)) {k : Nat} (h1 : 0 < k) (h2 : k < n) : (n : Int) ∣ bin n k := by
  obtain ⟨k, rfl⟩ : ∃ j, k = j + 1 := ⟨k - 1, by omega⟩
  obtain ⟨n, rfl⟩ : ∃ j, n = j + 1 := ⟨n - 1, by omega⟩
  have h := bin_mul n k
  have hd : ((n + 1 : Nat) : Int) ∣ ((k : Int) + 1) * bin (n + 1) (k + 1) := ⟨bin n k, by rw [h, Int.natCast_add]; rfl⟩
  rcases hn.2 _ _ hd with h | h
  · exact absurd h (small_no (by omega) (by omega) (by omega) (by omega))
  · exact h
def sumI (f : Nat → Int) : Nat → Int
  | 0 => 0
  | k + 1 => sumI f k + f k
theorem sumI_add {f g : Nat → Int} : ∀ {m : Nat}, sumI (fun k => f k + g k) m = sumI f m + sumI g m
  | 0 => rfl
  | m + 1 => by
    show sumI (fun k => f k + g k) m + (f m + g m) = (sumI f m + f m) + (sumI g m + g m)
    rw [sumI_add (m := m)]; omega
theorem sumI_congr {f g : Nat → Int} : ∀ {m : Nat}, (∀ k < m, f k = g k) → sumI f m = sumI g m
  | 0, _ => rfl
  | m + 1, h => by
    show sumI f m + f m = sumI g m + g m
    rw [sumI_congr (m := m) fun k hk => h k (by omega), h m (by omega)]
theorem sumI_first (f : Nat → Int) : ∀ m : Nat, sumI f (m + 1) = f 0 + sumI (fun k => f (k + 1)) m
  | 0 => by show 0 + f 0 = f 0 + 0; omega
  | m + 1 => by
    show sumI f (m + 1) + f (m + 1) = f 0 + (sumI (fun k => f (k + 1)) m + f (m + 1))
    rw [sumI_first f m]; omega
theorem sumI_mul {c : Int} {f : Nat → Int} : ∀ {m : Nat}, sumI (fun k => c * f k) m = c * sumI f m
  | 0 => by show 0 = c * 0; rw [Int.mul_zero]
  | m + 1 => by
    show sumI (fun k => c * f k) m + c * f m = c * (sumI f m + f m)
    rw [sumI_mul (m := m), Int.mul_add]
theorem sumI_cg {n : Int} {f : Nat → Int} : ∀ {m : Nat}, (∀ k < m, n ∣ f k) → n ∣ sumI f m
  | 0, _ => Int.dvd_zero n
  | m + 1, h => Int.dvd_add (sumI_cg fun k hk => h k (by omega)) (h m (by omega))
/-- the sum of the binomials times f -/
def bsum (f : Nat → Int) (n : Nat) : Int := sumI (fun k => bin n k * f k) (n + 1)
theorem bsum_succ (f : Nat → Int) (n : Nat) : bsum f (n + 1) = bsum f n + bsum (fun k => f (k + 1)) n := by
  show sumI (fun k => bin (n + 1) k * f k) (n + 1 + 1) = sumI (fun k => bin n k * f k) (n + 1) + sumI (fun k => bin n k * f (k + 1)) (n + 1)
  rw [sumI_first]
  have e1 : sumI (fun k => bin (n + 1) (k + 1) * f (k + 1)) (n + 1) = sumI (fun k => bin n (k + 1) * f (k + 1)) (n + 1) + sumI (fun k => bin n k * f (k + 1)) (n + 1) := by
    rw [← sumI_add]
    exact sumI_congr fun k _ => by rw [bin_succ]; grind
  have e2 : sumI (fun k => bin n k * f k) (n + 1 + 1) = bin n 0 * f 0 + sumI (fun k => bin n (k + 1) * f (k + 1)) (n + 1) := sumI_first _ _
  have e3 : sumI (fun k => bin n k * f k) (n + 1 + 1) = sumI (fun k => bin n k * f k) (n + 1) := by
    show sumI (fun k => bin n k * f k) (n + 1) + bin n (n + 1) * f (n + 1) = _
    rw [bin_big (by omega), Int.zero_mul, Int.add_zero]
  rw [bin_zero] at *
  omega
theorem bsum_prime {n : Nat} (hn : PrI (n : Int)) (f : Nat → Int) : Cg n (bsum f n) (f 0 + f n) := by
  have h0 : 0 < n := by have := hn.1; omega
  obtain ⟨m, rfl⟩ : ∃ m, n = m + 1 := ⟨n - 1, by omega⟩
  have e : bsum f (m + 1) = f 0 + sumI (fun k => bin (m + 1) (k + 1) * f (k + 1)) m + f (m + 1) := by
    show sumI (fun k => bin (m + 1) k * f k) (m + 1) + bin (m + 1) (m + 1) * f (m + 1) = _
    rw [sumI_first, bin_zero, bin_self]; omega
  have hd : ((m + 1 : Nat) : Int) ∣ sumI (fun k => bin (m + 1) (k + 1) * f (k + 1)) m := sumI_cg fun k hk =>
    Int.dvd_trans (bin_dvd hn (by omega) (by omega)) (Int.dvd_mul_right _ _)
  obtain ⟨c, hc⟩ := hd
  exact ⟨c, by rw [e, hc]; omega⟩
/-! (1 + sqrt D) ^ n = X + Y sqrt D -/
mutual
def ex (D : Int) : Nat → Int
  | 0 => 1
  | k + 1 => D * ey D k
def ey (D : Int) : Nat → Int
  | 0 => 0
  | k + 1 => ex D k
end
theorem ex_succ (D : Int) (k : Nat) : ex D (k + 1) = D * ey D k := by rw [ex]
theorem ey_succ (D : Int) (k : Nat) : ey D (k + 1) = ex D k := by rw [ey]
theorem ex_zero (D : Int) : ex D 0 = 1 := by rw [ex]
theorem ey_zero (D : Int) : ey D 0 = 0 := by rw [ey]
theorem ex_even (D : Int) : ∀ m : Nat, ex D (2 * m) = D ^ m ∧ ey D (2 * m) = 0
  | 0 => ⟨by rw [Nat.mul_zero, ex_zero, Int.pow_zero], by rw [Nat.mul_zero, ey_zero]⟩
  | m + 1 => by
    obtain ⟨h1, h2⟩ := ex_even D m
    have e : 2 * (m + 1) = (2 * m + 1) + 1 := by omega
    rw [e, ex_succ, ey_succ, ey_succ, ex_succ, h1, h2, Int.mul_zero, Int.pow_succ, Int.mul_comm]
    exact ⟨rfl, rfl⟩
def XS (D : Int) (n : Nat) : Int := bsum (ex D) n
def YS (D : Int) (n : Nat) : Int := bsum (ey D) n
theorem XS_zero (D : Int) : XS D 0 = 1 := by unfold XS bsum; show 0 + bin 0 0 * ex D 0 = 1; rw [ex_zero, bin_zero]; rfl
theorem YS_zero (D : Int) : YS D 0 = 0 := by unfold YS bsum; show 0 + bin 0 0 * ey D 0 = 0; rw [ey_zero]; rfl
theorem XS_succ (D : Int) (n : Nat) : XS D (n + 1) = XS D n + D * YS D n := by
  unfold XS YS
  rw [bsum_succ]
  congr 1
  unfold bsum
  rw [← sumI_mul]
  exact sumI_congr fun k _ => by show bin n k * ex D (k + 1) = _; rw [ex_succ]; grind
theorem YS_succ (D : Int) (n : Nat) : YS D (n + 1) = YS D n + XS D n := by
  unfold XS YS
  rw [bsum_succ]
  congr 1
theorem XY_add (D : Int) (a : Nat) : ∀ b : Nat, XS D (a + b) = XS D a * XS D b + D * (YS D a * YS D b) ∧ YS D (a + b) = XS D a * YS D b + YS D a * XS D b
  | 0 => by rw [Nat.add_zero, XS_zero, YS_zero]; constructor <;> grind
  | b + 1 => by
    obtain ⟨h1, h2⟩ := XY_add D a b
    rw [← Nat.add_assoc, XS_succ, YS_succ, XS_succ, YS_succ, h1, h2]
    constructor <;> grind
/-- Frobenius: with D no square, Y (n + 1) is a multiple of n -/
theorem YS_frob {D : Int} {n m : Nat} (hn : PrI (n : Int)) (hm : n = 2 * m + 1) (hD : Cg n (D ^ m) (-1)) : (n : Int) ∣ YS D (n + 1) := by
  have h1 : Cg n (XS D n) (ex D 0 + ex D n) := bsum_prime hn _
  have h2 : Cg n (YS D n) (ey D 0 + ey D n) := bsum_prime hn _
  obtain ⟨e1, e2⟩ := ex_even D m
  have e3 : ex D n = 0 := by rw [hm, ex_succ, e2, Int.mul_zero]
  have e4 : ey D n = D ^ m := by rw [hm, ey_succ, e1]
  rw [e3, ex_zero] at h1
  rw [e4, ey_zero] at h2
  rw [YS_succ]
  have h3 := (h2.add h1).trans (((Cg.refl (n : Int) 0).add hD).add (Cg.refl (n : Int) (1 + 0)))
  exact Cg.zero.mp h3
end Mine
namespace Mine
/-! the Lucas sequence V with P = 1, Q = b -/
def vs (b : Int) : Nat → Int × Int
  | 0 => (2, 1)
  | k + 1 => ((vs b k).2, (vs b k).2 - b * (vs b k).1)
def VS (b : Int) (k : Nat) : Int := (vs b k).1
theorem VS0 (b : Int) : VS b 0 = 2 := rfl
theorem VS1 (b : Int) : VS b 1 = 1 := rfl
theorem VS2 (b : Int) (k : Nat) : VS b (k + 2) = VS b (k + 1) - b * VS b k := rfl
theorem VS_inv (b : Int) : ∀ m : Nat, VS b (m + 1) * VS b (m + 1) - VS b (m + 1) * VS b m + b * (VS b m * VS b m) = (4 * b - 1) * b ^ m
  | 0 => by rw [VS0, VS1, Int.pow_zero]; grind
  | m + 1 => by
    have h := VS_inv b m
    rw [VS2, Int.pow_succ]
    grind
theorem VS_dbl (b : Int) : ∀ m : Nat, VS b (2 * m) = VS b m * VS b m - 2 * b ^ m ∧ VS b (2 * m + 1) = VS b (m + 1) * VS b m - b ^ m
  | 0 => by rw [VS0, VS1, Int.pow_zero]; exact ⟨rfl, rfl⟩
  | m + 1 => by
    obtain ⟨h1, h2⟩ := VS_dbl b m
    have h := VS_inv b m
    have e : 2 * (m + 1) = 2 * m + 2 := by omega
    have h3 : VS b (2 * m + 2) = VS b (2 * m + 1) - b * VS b (2 * m) := VS2 _ _
    have h4 : VS b (2 * m + 2 + 1) = VS b (2 * m + 2) - b * VS b (2 * m + 1) := VS2 _ _
    rw [e, h4, h3, h1, h2, VS2, Int.pow_succ]
    constructor <;> grind
theorem VS_dbl2 (b : Int) (m : Nat) : VS b (2 * m + 2) = VS b (m + 1) * VS b (m + 1) - 2 * (b ^ m * b) := by
  have h := (VS_dbl b (m + 1)).1
  rw [show 2 * (m + 1) = 2 * m + 2 by omega, Int.pow_succ] at h
  exact h
theorem VS_XS {b D : Int} (hb : D = 1 - 4 * b) : ∀ k : Nat, 2 ^ k * VS b k = 2 * XS D k ∧ 2 ^ (k + 1) * VS b (k + 1) = 2 * XS D (k + 1)
  | 0 => by
    rw [VS0, VS1, XS_succ, XS_zero, YS_zero]
    constructor <;> grind
  | k + 1 => by
    obtain ⟨h1, h2⟩ := VS_XS hb k
    refine ⟨h2, ?_⟩
    have h3 := XS_succ D k
    have h4 := XS_succ D (k + 1)
    have h5 := YS_succ D k
    rw [VS2, Int.pow_succ, Int.pow_succ] at *
    grind
theorem cg_fmod {n : Int} (x : Int) : Cg n (x.fmod n) x := ⟨-(x.fdiv n), by have := (fdiv_fmod_facts x n).2.1; grind⟩
def LSI (n b : Int) (m : Nat) (x : LS) : Prop := Cg n x.v (VS b m) ∧ Cg n x.w (VS b (m + 1)) ∧ Cg n (x.q * x.Q) (b ^ m)
def bitV (m : Nat) (c : Int) : Nat := 2 * m + (if c = 49 then 1 else 0)
theorem lstep_ok {n b : Int} {m : Nat} {x : LS} (h : LSI n b m x) (c : Int) : LSI n b (bitV m c) (lstep n b x c) := by
  obtain ⟨h1, h2, h3⟩ := h
  have hq : Cg n ((x.q * x.Q).fmod n) (b ^ m) := (cg_fmod _).trans h3
  obtain ⟨d1, d2⟩ := VS_dbl b m
  have d3 := VS_dbl2 b m
  unfold lstep bitV
  by_cases hc : c = 49
  · rw [if_pos hc, if_pos hc]
    refine ⟨?_, ?_, ?_⟩
    · show Cg n ((x.w * x.v - (x.q * x.Q).fmod n).fmod n) (VS b (2 * m + 1))
      rw [d2]
      exact (cg_fmod _).trans ((h2.mul h1).sub hq)
    · show Cg n ((x.w * x.w - 2 * (x.q * x.Q).fmod n * b).fmod n) (VS b (2 * m + 2))
      rw [d3, ← Int.mul_assoc]
      exact (cg_fmod _).trans ((h2.mul h2).sub (((Cg.refl n 2).mul hq).mul (Cg.refl n b)))
    · show Cg n ((x.q * x.Q).fmod n * ((x.q * x.Q).fmod n * b).fmod n) (b ^ (2 * m + 1))
      have e : b ^ (2 * m + 1) = b ^ m * (b ^ m * b) := by rw [Int.pow_succ, Nat.two_mul, Int.pow_add]; grind
      rw [e]
      exact hq.mul ((cg_fmod _).trans (hq.mul (Cg.refl n b)))
  · rw [if_neg hc, if_neg hc, Nat.add_zero]
    refine ⟨?_, ?_, ?_⟩
    · show Cg n ((x.v * x.v - 2 * (x.q * x.Q).fmod n).fmod n) (VS b (2 * m))
      rw [d1]
      exact (cg_fmod _).trans ((h1.mul h1).sub ((Cg.refl n 2).mul hq))
    · show Cg n ((x.w * x.v - (x.q * x.Q).fmod n).fmod n) (VS b (2 * m + 1))
      rw [d2]
      exact (cg_fmod _).trans ((h2.mul h1).sub hq)
    · show Cg n ((x.q * x.Q).fmod n * (x.q * x.Q).fmod n) (b ^ (2 * m))
      have e : b ^ (2 * m) = b ^ m * b ^ m := by rw [Nat.two_mul, Int.pow_add]
      rw [e]
      exact hq.mul hq
theorem lfold_ok {n b : Int} : ∀ (l : List Int) {m : Nat} {x : LS}, LSI n b m x → LSI n b (l.foldl bitV m) (l.foldl (lstep n b) x)
  | [], _, _, h => h
  | c :: l, _, _, h => lfold_ok l (lstep_ok h c)
theorem digit_bit {d : Nat} (h : d < 2) : (if (((Nat.digitChar d).toNat : Nat) : Int) = 49 then 1 else 0) = d := by
  rcases (by omega : d = 0 ∨ d = 1) with rfl | rfl <;> decide
theorem bits_val : ∀ N : Nat, ((Nat.toDigits 2 N).map fun c => (c.toNat : Int)).foldl bitV 0 = N := by
  intro N
  induction N using Nat.strongRecOn with
  | _ N ih =>
    by_cases h : N < 2
    · rw [Nat.toDigits_of_lt_base h]
      show 2 * 0 + _ = N
      rw [digit_bit h]; omega
    · rw [Nat.toDigits_of_base_le (by decide) (by omega), List.map_append, List.foldl_append, ih (N / 2) (by omega)]
      show 2 * (N / 2) + _ = N
      rw [digit_bit (by omega)]; omega
theorem lfold_lt {n b : Int} (hn : NB9 n) : ∀ (l : List Int) {x : LS}, Lt9 n x.v → Lt9 n (l.foldl (lstep n b) x).v
  | [], _, h => h
  | c :: l, x, _ => lfold_lt hn l (by
    unfold lstep
    by_cases hc : c = 49
    · rw [if_pos hc]; exact lt9_mod hn _
    · rw [if_neg hc]; exact lt9_mod hn _)
/-- n prime, D no square: the Lucas test passes -/
theorem le_prime {D b : Int} {n m : Nat} (hb9 : NB9 (n : Int)) (hn : PrI (n : Int)) (hm : n = 4 * m + 1) (hb : D = 1 - 4 * b) (hD : Cg n (D ^ (2 * m)) (-1)) : LE n b true := by
  intro t s hh ho
  have hm0 : 0 < m := by have := hn.1; omega
  have e1 : ((n : Int) + 1).fdiv 2 = ((2 * m + 1 : Nat) : Int) := by
    rw [Int.fdiv_eq_ediv_of_nonneg _ (by decide)]; omega
  rw [e1] at hh
  have hh2 : Hf ((2 * m + 1 : Nat) : Int) ((2 * m + 1 : Nat) : Int) 1 := hf_start (by omega)
  obtain ⟨rfl, rfl⟩ := hf_uniq hh hh2 ho (by rw [Int.fmod_eq_emod_of_nonneg _ (by decide)]; omega)
  have hl : LSI n b (2 * m + 1) (lfold n b (bcodes ((2 * m + 1 : Nat) : Int))) := by
    have h0 : LSI n b 0 ⟨2, 1, 1, 1⟩ := ⟨Cg.refl _ _, Cg.refl _ _, by show Cg n (1 * 1) (b ^ 0); rw [Int.pow_zero]; exact Cg.refl _ _⟩
    have h1 := lfold_ok (bcodes ((2 * m + 1 : Nat) : Int)) h0
    unfold bcodes at h1
    rw [bits_val] at h1
    exact h1
  have hY := YS_frob hn (m := 2 * m) (by omega) hD
  have e2 : n + 1 = (2 * m + 1) + (2 * m + 1) := by omega
  rw [e2, (XY_add D (2 * m + 1) (2 * m + 1)).2] at hY
  have h2n : ¬ (n : Int) ∣ 2 := small_no (by omega) (by decide) (by omega) (by omega)
  have hp : ¬ (n : Int) ∣ 2 ^ (2 * m + 1) := fun h => h2n (hn.pow h)
  obtain ⟨v1, v2⟩ := VS_XS hb (2 * m + 1)
  obtain ⟨l1, l2, _⟩ := hl
  have key : (n : Int) ∣ 2 * XS D (2 * m + 1) ∨ (n : Int) ∣ YS D (2 * m + 1) := by
    have : (n : Int) ∣ (2 * XS D (2 * m + 1)) * YS D (2 * m + 1) := by
      obtain ⟨c, hc⟩ := hY
      exact ⟨c, by grind⟩
    exact hn.2 _ _ this
  have hv : (n : Int) ∣ (lfold n b (bcodes ((2 * m + 1 : Nat) : Int))).v ∨ (n : Int) ∣ 2 * (lfold n b (bcodes ((2 * m + 1 : Nat) : Int))).w - (lfold n b (bcodes ((2 * m + 1 : Nat) : Int))).v := by
    rcases key with h | h
    · left
      rw [← v1] at h
      exact l1.dvd ((hn.2 _ _ h).resolve_left hp)
    · right
      refine (((Cg.refl (n : Int) 2).mul l2).sub l1).dvd ?_
      have : (n : Int) ∣ 2 ^ (2 * m + 1) * (2 * VS b (2 * m + 1 + 1) - VS b (2 * m + 1)) := by
        have h3 := XS_succ D (2 * m + 1)
        obtain ⟨c, hc⟩ := h
        refine ⟨2 * D * c, ?_⟩
        rw [Int.pow_succ] at v2
        grind
      exact (hn.2 _ _ this).resolve_left hp
  have hlv : Lt9 n (lfold n b (bcodes ((2 * m + 1 : Nat) : Int))).v := lfold_lt hb9 _ ⟨by decide, by show (2 : Int) < n; omega⟩
  unfold lend
  rcases hv with h | h
  · have e : (lfold n b (bcodes ((2 * m + 1 : Nat) : Int))).v = 0 := by
      apply Classical.byContradiction
      intro hne
      exact small_no (by omega) hne (by have := hlv.1; omega) hlv.2 h
    rw [decide_eq_true e]; rfl
  · have e : (2 * (lfold n b (bcodes ((2 * m + 1 : Nat) : Int))).w - (lfold n b (bcodes ((2 * m + 1 : Nat) : Int))).v).fmod n = 0 := by
      rw [Int.fmod_eq_emod_of_nonneg _ (by omega)]; exact Int.emod_eq_zero_of_dvd h
    rw [decide_eq_true e, Bool.or_true]; rfl
end Mine
namespace Mine
theorem pm_one {l : List Int} (h : ∀ x ∈ l, x = 1 ∨ x = -1) : prI l = 1 ∨ prI l = -1 := by
  induction l with
  | nil => exact .inl rfl
  | cons a l ih =>
    rw [prI_cons]
    rcases h a (List.mem_cons_self ..) with h1 | h1 <;> rcases ih (fun x hx => h x (List.mem_cons_of_mem _ hx)) with h2 | h2 <;> rw [h1, h2]
    · exact .inl rfl
    · exact .inr rfl
    · exact .inr rfl
    · exact .inl rfl
theorem euler {n a : Int} {m : Nat} (hn : PrI n) (ha : ¬ n ∣ a) (hm : n = 2 * (m : Int) + 1) : Cg n (a ^ m) 1 ∨ Cg n (a ^ m) (-1) := by
  have h := gauss hn ha hm
  rcases pm_one (l := (List.range m).map (eG n a)) (fun x hx => by
    obtain ⟨k, _, rfl⟩ := List.mem_map.mp hx
    unfold eG
    split
    · exact .inl rfl
    · exact .inr rfl) with e | e
  · exact .inl (e ▸ h)
  · exact .inr (e ▸ h)
theorem fermat {n a : Int} {m : Nat} (hn : PrI n) (ha : ¬ n ∣ a) (hm : n = 2 * (m : Int) + 1) : Cg n (a ^ (2 * m)) 1 := by
  rw [Nat.two_mul, Int.pow_add]
  rcases euler hn ha hm with h | h
  · exact h.mul h
  · exact h.mul h
theorem pri_of {N : Nat} (h2 : 2 ≤ N) (h : ∀ d, d ∣ N → d = 1 ∨ d = N) : PrI (N : Int) := by
  refine ⟨by omega, fun a b hd => ?_⟩
  have hd' : N ∣ a.natAbs * b.natAbs := by
    rw [← Int.natAbs_mul]; exact Int.natAbs_dvd_natAbs.mpr hd
  rcases h (Nat.gcd N a.natAbs) (Nat.gcd_dvd_left ..) with e | e
  · right
    exact Int.natAbs_dvd_natAbs.mp (Nat.Coprime.dvd_of_dvd_mul_left e hd')
  · left
    refine Int.natAbs_dvd_natAbs.mp ?_
    show N ∣ a.natAbs
    rw [← e]; exact Nat.gcd_dvd_right ..
theorem ex_prime : ∀ N : Nat, 2 ≤ N → ∃ p : Nat, p ∣ N ∧ PrI (p : Int) := by
  intro N
  induction N using Nat.strongRecOn with
  | _ N ih =>
    intro h2
    by_cases h : ∀ d, d ∣ N → d = 1 ∨ d = N
    · exact ⟨N, Nat.dvd_refl N, pri_of h2 h⟩
    · obtain ⟨d, hd⟩ := Classical.not_forall.mp h
      have h3 : d ∣ N := Classical.byContradiction fun e => hd fun h => absurd h e
      have h4 : ¬ (d = 1 ∨ d = N) := fun e => hd fun _ => e
      have h5 : d ≠ 0 := fun e => by subst e; have := Nat.eq_zero_of_zero_dvd h3; omega
      have h6 := Nat.le_of_dvd (by omega) h3
      obtain ⟨p, h7, h8⟩ := ih d (by omega) (by omega)
      exact ⟨p, Nat.dvd_trans h7 h3, h8⟩
theorem two_part : ∀ N : Nat, 0 < N → ∃ e u : Nat, N = 2 ^ e * u ∧ u % 2 = 1 := by
  intro N
  induction N using Nat.strongRecOn with
  | _ N ih =>
    intro h0
    by_cases h : N % 2 = 1
    · exact ⟨0, N, by rw [Nat.pow_zero, Nat.one_mul], h⟩
    · obtain ⟨e, u, h1, h2⟩ := ih (N / 2) (by omega) (by omega)
      refine ⟨e + 1, u, ?_, h2⟩
      rw [Nat.pow_succ, Nat.mul_assoc, Nat.mul_comm 2 u, ← Nat.mul_assoc, ← h1]; omega
theorem neg_one_odd {u : Nat} (h : u % 2 = 1) : (-1 : Int) ^ u = -1 := by
  obtain ⟨v, rfl⟩ : ∃ v, u = 2 * v + 1 := ⟨u / 2, by omega⟩
  rw [Int.pow_succ, Int.pow_mul, show (-1 : Int) ^ 2 = 1 from rfl, Int.one_pow]; rfl
theorem proth_div {h k : Nat} {a : Int} (hk : 1 ≤ k) {p : Nat} (hp : PrI (p : Int)) (hp2 : p % 2 = 1) (ha : Cg p (a ^ (h * 2 ^ (k - 1))) (-1)) : 2 ^ k + 1 ≤ p := by
  have hp0 := hp.1
  have hm : (p : Int) = 2 * (((p - 1) / 2 : Nat) : Int) + 1 := by omega
  have h2 : ¬ (p : Int) ∣ 2 := small_no (by omega) (by decide) (by omega) (by omega)
  have hpa : ¬ (p : Int) ∣ a := fun hd => by
    have h1 : (p : Int) ∣ a ^ (h * 2 ^ (k - 1)) ∨ h * 2 ^ (k - 1) = 0 := by
      by_cases e : h * 2 ^ (k - 1) = 0
      · exact .inr e
      · left
        obtain ⟨j, hj⟩ : ∃ j, h * 2 ^ (k - 1) = j + 1 := ⟨h * 2 ^ (k - 1) - 1, by omega⟩
        rw [hj, Int.pow_succ]; exact Int.dvd_trans hd (Int.dvd_mul_left ..)
    rcases h1 with h1 | h1
    · have := ha.symm.dvd h1
      exact hp.one (by obtain ⟨c, hc⟩ := this; exact ⟨-c, by rw [Int.mul_neg, ← hc]; rfl⟩)
    · rw [h1, Int.pow_zero] at ha
      exact h2 ha
  obtain ⟨e, u, h1, h3⟩ := two_part (p - 1) (by omega)
  have hf := fermat hp hpa hm
  have e1 : 2 * ((p - 1) / 2) = 2 ^ e * u := by omega
  rw [e1] at hf
  by_cases hek : k ≤ e
  · have h4 : 2 ^ k ≤ 2 ^ e := Nat.pow_le_pow_right (by decide) hek
    have h5 : 2 ^ e * 1 ≤ 2 ^ e * u := Nat.mul_le_mul_left _ (by omega)
    omega
  · exfalso
    have h4 := ha.pow u
    rw [neg_one_odd h3, ← Int.pow_mul] at h4
    have h5 := hf.pow (h * 2 ^ (k - 1 - e))
    rw [Int.one_pow, ← Int.pow_mul] at h5
    have e2 : 2 ^ e * u * (h * 2 ^ (k - 1 - e)) = h * 2 ^ (k - 1) * u := by
      have : 2 ^ (k - 1) = 2 ^ e * 2 ^ (k - 1 - e) := by rw [← Nat.pow_add]; congr 1; omega
      rw [this]; grind
    rw [e2] at h5
    exact h2 (h5.symm.trans h4)
/-- Proth -/
theorem proth {h k : Nat} {a : Int} (hk : 1 ≤ k) (hh : h < 2 ^ k) (h0 : 0 < h) (ha : Cg ((h * 2 ^ k + 1 : Nat) : Int) (a ^ (h * 2 ^ (k - 1))) (-1)) : PrI ((h * 2 ^ k + 1 : Nat) : Int) := by
  have hpow : 2 ^ k = 2 * 2 ^ (k - 1) := by
    conv => lhs; rw [show k = (k - 1) + 1 by omega, Nat.pow_succ]
    omega
  have hP : 0 < 2 ^ k := Nat.pow_pos (by decide)
  have hn2 : 2 ≤ h * 2 ^ k + 1 := by
    have : 1 * 1 ≤ h * 2 ^ k := Nat.mul_le_mul h0 hP
    omega
  have hodd : (h * 2 ^ k + 1) % 2 = 1 := by
    have : h * 2 ^ k = 2 * (h * 2 ^ (k - 1)) := by rw [hpow]; grind
    omega
  have key : ∀ d : Nat, d ∣ h * 2 ^ k + 1 → 2 ≤ d → 2 ^ k + 1 ≤ d := by
    intro d hd h2
    obtain ⟨p, hpd, hp⟩ := ex_prime d h2
    have hpn := Nat.dvd_trans hpd hd
    have hp2 : p % 2 = 1 := by
      obtain ⟨c, hc⟩ := hpn
      rcases (by omega : p % 2 = 0 ∨ p % 2 = 1) with e | e
      · exfalso
        rw [hc, Nat.mul_mod, e, Nat.zero_mul] at hodd
        cases hodd
      · exact e
    have hap : Cg (p : Int) (a ^ (h * 2 ^ (k - 1))) (-1) := Int.dvd_trans (Int.natCast_dvd_natCast.mpr hpn) ha
    have h3 := proth_div hk hp hp2 hap
    have := Nat.le_of_dvd (by omega) hpd
    omega
  refine pri_of hn2 fun d hd => ?_
  apply Classical.byContradiction
  intro hne
  obtain ⟨c, hc⟩ := hd
  have hd0 : d ≠ 0 := fun e => by rw [e, Nat.zero_mul] at hc; omega
  have hd1 : d ≠ 1 := fun e => hne (.inl e)
  have hc1 : c ≠ 1 := fun e => hne (.inr (by rw [hc, e, Nat.mul_one]))
  have hc0 : c ≠ 0 := fun e => by rw [e, Nat.mul_zero] at hc; omega
  have k1 := key d ⟨c, hc⟩ (by omega)
  have k2 := key c ⟨d, by rw [hc, Nat.mul_comm]⟩ (by omega)
  have k3 : (2 ^ k + 1) * (2 ^ k + 1) ≤ d * c := Nat.mul_le_mul k1 k2
  have k4 : h * 2 ^ k ≤ 2 ^ k * 2 ^ k := Nat.mul_le_mul_right _ (by omega)
  have k5 : (2 ^ k + 1) * (2 ^ k + 1) = 2 ^ k * 2 ^ k + 2 * 2 ^ k + 1 := by grind
  omega
/-! the strong test passes at a prime -/
theorem sq_one {n x : Int} (hn : PrI n) (h0 : 0 ≤ x) (h1 : x < n) (h : x ^ 2 % n = 1) : x = 1 ∨ x = n - 1 := by
  have hn2 := hn.1
  have hd : n ∣ (x - 1) * (x + 1) := by
    obtain ⟨c, hc⟩ := dvd_of_one h
    refine ⟨c, ?_⟩
    rw [← hc, Int.pow_succ, Int.pow_succ, Int.pow_zero]; grind
  rcases hn.2 _ _ hd with ⟨c, hc⟩ | ⟨c, hc⟩
  · left
    apply Classical.byContradiction
    intro hne
    exact small_no (n := n) (x := x - 1) (by omega) (by omega) (by omega) (by omega) ⟨c, hc⟩
  · right
    apply Classical.byContradiction
    intro hne
    exact small_no (n := n) (x := x + 1) (by omega) (by omega) (by omega) (by omega) ⟨c, hc⟩
theorem spass_prime {n : Int} {m : Nat} (hn : PrI n) (hm : n = 2 * (m : Int) + 1) (h3 : 3 ≤ n) : SPass n := by
  intro t s hh ho
  have hn0 : 0 < n := by omega
  have hp : powI 2 t n = 2 ^ t.toNat % n := powI_eq (hf_nn hh) hn0
  have hs := hh.2.1
  have hsq : ∀ j, sqF n j (powI 2 t n) = 2 ^ (t.toNat * 2 ^ j) % n := fun j => by rw [hp, sqF_eq hn0]
  have hlo : ∀ j, 0 ≤ sqF n j (powI 2 t n) ∧ sqF n j (powI 2 t n) < n := fun j => by
    rw [hsq]; exact ⟨Int.emod_nonneg _ (by omega), Int.emod_lt_of_pos _ hn0⟩
  have h2n : ¬ n ∣ 2 := small_no hn0 (by decide) (by omega) (by omega)
  have hend : sqF n s.toNat (powI 2 t n) = 1 := by
    rw [hsq]
    have e1 : (n - 1).fdiv 2 = (m : Int) := by rw [Int.fdiv_eq_ediv_of_nonneg _ (by decide)]; omega
    have e2 : t.toNat * 2 ^ s.toNat = 2 * m := by
      have h4 := hh.2.2
      rw [e1] at h4
      have e3 : s.toNat = (s - 1).toNat + 1 := by omega
      have e4 : ((t.toNat * 2 ^ (s - 1).toNat : Nat) : Int) = (m : Int) := by
        rw [Int.natCast_mul, Int.natCast_pow, Int.toNat_of_nonneg (hf_nn hh)]; exact h4
      rw [e3, Nat.pow_succ, ← Nat.mul_assoc]
      omega
    rw [e2]
    have hf := fermat hn h2n hm
    obtain ⟨c, hc⟩ := hf
    have e5 : (2 : Int) ^ (2 * m) = 1 + n * c := by omega
    rw [e5, Int.add_mul_emod_self_left, Int.emod_eq_of_lt (by decide) (by omega)]
  have least : ∀ J : Nat, sqF n J (powI 2 t n) = 1 ∨ sqF n J (powI 2 t n) = n - 1 → ∃ j, j ≤ J ∧ (sqF n j (powI 2 t n) = 1 ∨ sqF n j (powI 2 t n) = n - 1) ∧ ∀ i, i < j → sqF n i (powI 2 t n) ≠ 1 ∧ sqF n i (powI 2 t n) ≠ n - 1 := by
    intro J
    induction J with
    | zero => exact fun h => ⟨0, Nat.le_refl _, h, fun i hi => by omega⟩
    | succ J ih =>
      intro h
      by_cases h' : ∃ i, i ≤ J ∧ (sqF n i (powI 2 t n) = 1 ∨ sqF n i (powI 2 t n) = n - 1)
      · obtain ⟨i, hi, h5⟩ := h'
        -- the least of those up to i
        have : ∀ K, K ≤ J → (sqF n K (powI 2 t n) = 1 ∨ sqF n K (powI 2 t n) = n - 1) → ∃ j, j ≤ K ∧ (sqF n j (powI 2 t n) = 1 ∨ sqF n j (powI 2 t n) = n - 1) ∧ ∀ i, i < j → sqF n i (powI 2 t n) ≠ 1 ∧ sqF n i (powI 2 t n) ≠ n - 1 := by
          intro K
          induction K using Nat.strongRecOn with
          | _ K ihK =>
            intro hK hv
            by_cases h6 : ∃ i, i < K ∧ (sqF n i (powI 2 t n) = 1 ∨ sqF n i (powI 2 t n) = n - 1)
            · obtain ⟨i, hi, hv'⟩ := h6
              obtain ⟨j, hj, h7, h8⟩ := ihK i hi (by omega) hv'
              exact ⟨j, by omega, h7, h8⟩
            · exact ⟨K, Nat.le_refl _, hv, fun i hi => ⟨fun e => h6 ⟨i, hi, .inl e⟩, fun e => h6 ⟨i, hi, .inr e⟩⟩⟩
        obtain ⟨j, hj, h7, h8⟩ := this i hi h5
        exact ⟨j, by omega, h7, h8⟩
      · exact ⟨J + 1, Nat.le_refl _, h, fun i hi => ⟨fun e => h' ⟨i, by omega, .inl e⟩, fun e => h' ⟨i, by omega, .inr e⟩⟩⟩
  obtain ⟨j, hj, h5, h6⟩ := least s.toNat (.inl hend)
  by_cases hj0 : j = 0
  · subst hj0
    rcases h5 with h5 | h5
    · exact .inl h5
    · exact .inr (.inl h5)
  · obtain ⟨i, rfl⟩ : ∃ i, j = i + 1 := ⟨j - 1, by omega⟩
    rcases h5 with h5 | h5
    · exfalso
      have h7 : sqF n (i + 1) (powI 2 t n) = sqF n i (powI 2 t n) ^ 2 % n := powI2 hn0
      rw [h7] at h5
      rcases sq_one hn (hlo i).1 (hlo i).2 h5 with h8 | h8
      · exact (h6 i (by omega)).1 h8
      · exact (h6 i (by omega)).2 h8
    · refine .inr (.inr ⟨i + 1, by omega, ?_, h5, fun l h7 h8 => h6 l h8⟩)
      apply Classical.byContradiction
      intro hne
      have : i + 1 = s.toNat := by omega
      rw [this, hend] at h5
      omega
end Mine
namespace Mine
theorem map_same {o : Option Int} {g : Int → Int} (h : ∀ v, g v = v) : o.map g = o := by
  cases o with
  | none => rfl
  | some v => rw [Option.map_some, h]
theorem fm {a b : Int} (h : 0 ≤ b) : a.fmod b = a % b := Int.fmod_eq_emod_of_nonneg _ h
theorem fd {a b : Int} (h : 0 ≤ b) : a.fdiv b = a / b := Int.fdiv_eq_ediv_of_nonneg _ h
theorem jac_even {f : Nat} {a n : Int} (h0 : a ≠ 0) (he : a % 2 = 0) : jacO (f + 1) a n = (jacO f (a / 2) n).map (fun v => if n % 8 = 3 ∨ n % 8 = 5 then -v else v) := by
  conv => lhs; unfold jacO
  rw [if_neg h0, if_pos (by rw [fm (by decide)]; exact he), fd (by decide), fm (by decide)]
theorem jac_odd {f : Nat} {a n : Int} (h0 : 0 < a) (he : a % 2 = 1) : jacO (f + 1) a n = (jacO f (n % a) a).map (fun v => if n % 4 = 3 ∧ a % 4 = 3 then -v else v) := by
  conv => lhs; unfold jacO
  rw [if_neg (by omega), if_neg (by rw [fm (by decide)]; omega), fm (a := n) (b := a) (by omega), fm (a := n) (b := 4) (by decide), fm (a := a) (b := 4) (by decide)]
theorem jq_pos {f : Nat} {n q : Int} (hn : n % 4 = 1) (hq : q % 2 = 1) (h0 : 0 < q) (hlt : q < n) : jacO (f + 1) (q.fmod n) n = jacO f (n % q) q := by
  rw [fm (by omega), Int.emod_eq_of_lt (by omega) hlt, jac_odd h0 hq]
  exact map_same fun v => by rw [if_neg (by omega)]
theorem jq_neg {f : Nat} {n q : Int} (hn : n % 4 = 1) (hq : q % 4 = 3) (h0 : 0 < q) (hlt : 3 * q < n) : jacO (f + 3) ((-q).fmod n) n = (jacO f ((n - q) / 2 % q) q).map (fun v => if q % 8 = 3 then -v else v) := by
  have e1 : (-q).fmod n = n - q := by
    rw [fm (by omega), ← Int.add_emod_right, Int.emod_eq_of_lt (by omega) (by omega)]; omega
  have e2 : n % ((n - q) / 2) = q := by
    have h : n = q + (n - q) / 2 * 2 := by omega
    conv => lhs; lhs; rw [h]
    rw [Int.add_mul_emod_self_left, Int.emod_eq_of_lt (by omega) (by omega)]
  rw [e1, jac_even (by omega) (by omega), jac_odd (by omega) (by omega), e2, jac_odd (by omega) (by omega)]
  cases jacO f ((n - q) / 2 % q) q with
  | none => rfl
  | some v =>
    simp only [Option.map_some, Option.some.injEq]
    (repeat' split) <;> omega
/-- the sign by n mod 4 q -/
def GQ (q n : Nat) : Int := sgN (sumN (fun j => (j + 1) * (n % (4 * q)) / (2 * q)) (q - 1))
theorem GQ_mod {q n M : Nat} (h : 4 * q ∣ M) : GQ q (n % M) = GQ q n := by
  unfold GQ
  rw [Nat.mod_mod_of_dvd _ h]
theorem GQ_pm (q n : Nat) : GQ q n = 1 ∨ GQ q n = -1 := by
  unfold GQ sgN
  split
  · exact .inl rfl
  · exact .inr rfl
set_option maxRecDepth 100000 in
theorem tab5 : ((List.range 20).all fun r => decide (r % 4 ≠ 1) || decide (r % 5 = 0) || decide (jacO 59 ((r : Int) % 5) 5 = some (GQ 5 r))) = true := by decide +kernel
set_option maxRecDepth 100000 in
theorem tab13 : ((List.range 52).all fun r => decide (r % 4 ≠ 1) || decide (r % 13 = 0) || decide (jacO 59 ((r : Int) % 13) 13 = some (GQ 13 r))) = true := by decide +kernel
set_option maxRecDepth 100000 in
theorem tab9 : ((List.range 36).all fun r => decide (r % 4 ≠ 1) || decide (r % 3 = 0) || decide (jacO 59 ((r : Int) % 9) 9 = some 1)) = true := by decide +kernel
set_option maxRecDepth 100000 in
theorem tab7 : ((List.range 28).all fun r => decide (r % 4 ≠ 1) || decide (r % 7 = 0) || decide (jacO 57 (((r : Int) - 7) / 2 % 7) 7 = some (GQ 7 r))) = true := by decide +kernel
set_option maxRecDepth 100000 in
theorem tab11 : ((List.range 44).all fun r => decide (r % 4 ≠ 1) || decide (r % 11 = 0) || decide (jacO 57 (((r : Int) - 11) / 2 % 11) 11 = some (-(GQ 11 r)))) = true := by decide +kernel
set_option maxRecDepth 100000 in
theorem tab15 : ((List.range 60).all fun r => decide (r % 4 ≠ 1) || decide (r % 3 = 0) || decide (r % 5 = 0) || decide (jacO 57 (((r : Int) - 15) / 2 % 15) 15 = some (GQ 3 r * GQ 5 r))) = true := by decide +kernel
section
variable {n : Nat}
theorem use_tab {M : Nat} {P : Nat → Bool} (hM : 0 < M) (h : (List.range M).all P = true) (n : Nat) : P (n % M) = true := List.all_eq_true.mp h _ (List.mem_range.mpr (Nat.mod_lt _ hM))
theorem j5 (hn : n % 4 = 1) (h5 : n % 5 ≠ 0) (hlo : 61 ≤ n) : jacO 60 ((5 : Int).fmod n) n = some (GQ 5 n) := by
  have h := use_tab (by decide) tab5 n
  simp only [Bool.or_eq_true, decide_eq_true_eq] at h
  rw [jq_pos (by omega) (by decide) (by decide) (by omega), ← GQ_mod (M := 20) (by decide)]
  rcases h with (h | h) | h
  · omega
  · omega
  · rw [← h]; congr 1; omega
theorem j13 (hn : n % 4 = 1) (h5 : n % 13 ≠ 0) (hlo : 61 ≤ n) : jacO 60 ((13 : Int).fmod n) n = some (GQ 13 n) := by
  have h := use_tab (by decide) tab13 n
  simp only [Bool.or_eq_true, decide_eq_true_eq] at h
  rw [jq_pos (by omega) (by decide) (by decide) (by omega), ← GQ_mod (M := 52) (by decide)]
  rcases h with (h | h) | h
  · omega
  · omega
  · rw [← h]; congr 1; omega
theorem j9 (hn : n % 4 = 1) (h5 : n % 3 ≠ 0) (hlo : 61 ≤ n) : jacO 60 ((9 : Int).fmod n) n = some 1 := by
  have h := use_tab (by decide) tab9 n
  simp only [Bool.or_eq_true, decide_eq_true_eq] at h
  rw [jq_pos (by omega) (by decide) (by decide) (by omega)]
  rcases h with (h | h) | h
  · omega
  · omega
  · rw [← h]; congr 1; omega
theorem j7 (hn : n % 4 = 1) (h5 : n % 7 ≠ 0) (hlo : 61 ≤ n) : jacO 60 ((-7 : Int).fmod n) n = some (GQ 7 n) := by
  have h := use_tab (by decide) tab7 n
  simp only [Bool.or_eq_true, decide_eq_true_eq] at h
  rw [jq_neg (by omega) (by decide) (by decide) (by omega), ← GQ_mod (M := 28) (by decide)]
  rcases h with (h | h) | h
  · omega
  · omega
  · have e : ((n : Int) - 7) / 2 % 7 = (((n % 28 : Nat) : Int) - 7) / 2 % 7 := by omega
    rw [e, h]; rfl
theorem j11 (hn : n % 4 = 1) (h5 : n % 11 ≠ 0) (hlo : 61 ≤ n) : jacO 60 ((-11 : Int).fmod n) n = some (GQ 11 n) := by
  have h := use_tab (by decide) tab11 n
  simp only [Bool.or_eq_true, decide_eq_true_eq] at h
  rw [jq_neg (by omega) (by decide) (by decide) (by omega), ← GQ_mod (M := 44) (by decide)]
  rcases h with (h | h) | h
  · omega
  · omega
  · have e : ((n : Int) - 11) / 2 % 11 = (((n % 44 : Nat) : Int) - 11) / 2 % 11 := by omega
    rw [e, h, Option.map_some, if_pos (by decide), Int.neg_neg]
theorem j15 (hn : n % 4 = 1) (h3 : n % 3 ≠ 0) (h5 : n % 5 ≠ 0) (hlo : 61 ≤ n) : jacO 60 ((-15 : Int).fmod n) n = some (GQ 3 n * GQ 5 n) := by
  have h := use_tab (by decide) tab15 n
  simp only [Bool.or_eq_true, decide_eq_true_eq] at h
  rw [jq_neg (by omega) (by decide) (by decide) (by omega), ← GQ_mod (q := 3) (M := 60) (by decide), ← GQ_mod (q := 5) (M := 60) (by decide)]
  rcases h with ((h | h) | h) | h
  · omega
  · omega
  · omega
  · have e : ((n : Int) - 15) / 2 % 15 = (((n % 60 : Nat) : Int) - 15) / 2 % 15 := by omega
    rw [e, h]; rfl
end
theorem srch_hit1 {K f : Nat} {c n : Int} (h : jacO K (c.fmod n) n = some (-1)) : srch K (f + 1) c n = some (.inr c) := by
  conv => lhs; unfold srch
  rw [h]; rfl
theorem srch_hit2 {K f : Nat} {c n : Int} (h : jacO K (c.fmod n) n = some 1) (h2 : jacO K ((-2 - c).fmod n) n = some (-1)) : srch K (f + 1) c n = some (.inr (-2 - c)) := by
  conv => lhs; unfold srch
  rw [h, h2]; rfl
theorem srch_go {K f : Nat} {c n : Int} (h : jacO K (c.fmod n) n = some 1) (h2 : jacO K ((-2 - c).fmod n) n = some 1) : srch K (f + 1) c n = srch K f (c + 4) n := by
  conv => lhs; unfold srch
  rw [h, h2]; rfl
section
variable {n m : Nat}
theorem pr_no {q : Nat} (hn : PrI (n : Int)) (h0 : 1 < q) (hlt : q < n) : n % q ≠ 0 := fun e => by
  have hq := Nat.div_add_mod n q
  have hlt2 : n / q < n := Nat.div_lt_self (by omega) h0
  rw [e] at hq
  generalize n / q = c at *
  have hd : (n : Int) ∣ (q : Int) * (c : Int) := ⟨1, by rw [← Int.natCast_mul]; omega⟩
  have hpos : c ≠ 0 := fun e2 => by rw [e2] at hq; omega
  rcases hn.2 _ _ hd with h | h
  · exact small_no (by omega) (by omega) (by omega) (by omega) h
  · exact small_no (by omega) (by omega) (by omega) (by omega) h
theorem pr_gcd (hn : PrI (n : Int)) (b : Int) : ¬ (1 < ((Int.gcd n b : Nat) : Int) ∧ ((Int.gcd n b : Nat) : Int) < n) := fun ⟨h1, h2⟩ => by
  have hd : Int.gcd n b ∣ n := Int.natCast_dvd_natCast.mp (Int.gcd_dvd_left ..)
  exact pr_no hn (by omega) (by omega) (Nat.mod_eq_zero_of_dvd hd)
theorem cop_neg {D : Int} (hm : 0 < m) (hD : Cg n (D ^ m) (-1)) : Cop D n := fun d h1 h2 => by
  obtain ⟨k, rfl⟩ : ∃ k, m = k + 1 := ⟨m - 1, by omega⟩
  have h3 : d ∣ D ^ (k + 1) := by rw [Int.pow_succ]; exact Int.dvd_trans h1 (Int.dvd_mul_left ..)
  have h4 : d ∣ D ^ (k + 1) - -1 := Int.dvd_trans h2 hD
  have e : (1 : Int) = (D ^ (k + 1) - -1) - D ^ (k + 1) := by omega
  rw [e]; exact Int.dvd_sub h4 h3
theorem ends_D {D b : Int} (hb9 : NB9 (n : Int)) (hn : PrI (n : Int)) (hm : n = 4 * m + 1) (hs : srch 60 40 5 n = some (.inr D)) (hb : (1 - D).fdiv 4 = b) (hb4 : D = 1 - 4 * b) (hDs : D.natAbs < 2 ^ 10) (hD : Cg n (D ^ (2 * m)) (-1)) : Ends 60 40 n true := by
  have h0 : 0 < m := by have := hn.1; omega
  refine .inr D (spass_prime (m := 2 * m) hn (by omega) hb9.1) hs (pr_gcd hn _) (Nat.lt_of_lt_of_le hDs (pow2_mono (by decide))) (cop_neg (by omega) hD) ?_
  rw [hb]
  exact le_prime hb9 hn hm hb4 hD
theorem neg_pow {x : Int} : (-x) ^ (2 * m) = x ^ (2 * m) := by
  rw [Int.pow_mul, Int.pow_mul]
  congr 1
  rw [Int.pow_succ, Int.pow_succ, Int.pow_succ, Int.pow_succ]; grind
theorem ends_big (hb9 : NB9 (n : Int)) (hn : PrI (n : Int)) (hm : n = 4 * m + 1) (hlo : 61 ≤ n) {a : Int} (ha : a ∈ ([3, 5, 7, 11, 13] : List Int)) (hw : Cg n (a ^ (2 * m)) (-1)) : Ends 60 40 n true := by
  have hn4 : n % 4 = 1 := by omega
  have r : ∀ q : Nat, q % 2 = 1 → q < n → Cg n ((q : Int) ^ (2 * m)) (GQ q n) := fun q h1 h2 => recip hn (by omega) h1 h2
  have r3 := r 3 rfl (by omega)
  have r5 := r 5 rfl (by omega)
  have r7 := r 7 rfl (by omega)
  have r11 := r 11 rfl (by omega)
  have r13 := r 13 rfl (by omega)
  have d3 := pr_no (q := 3) hn (by decide) (by omega)
  have d5 := pr_no (q := 5) hn (by decide) (by omega)
  have d7 := pr_no (q := 7) hn (by decide) (by omega)
  have d11 := pr_no (q := 11) hn (by decide) (by omega)
  have d13 := pr_no (q := 13) hn (by decide) (by omega)
  have s5 := j5 hn4 d5 hlo
  have s7 := j7 hn4 d7 hlo
  have s9 := j9 hn4 d3 hlo
  have s11 := j11 hn4 d11 hlo
  have s13 := j13 hn4 d13 hlo
  have s15 := j15 hn4 d3 d5 hlo
  rcases GQ_pm 5 n with e5 | e5
  · rcases GQ_pm 7 n with e7 | e7
    · rw [e5] at s5
      rw [e7] at s7
      have g1 : srch 60 40 5 n = srch 60 39 9 n := srch_go s5 s7
      rcases GQ_pm 11 n with e11 | e11
      · rw [e11] at s11
        have g2 : srch 60 39 9 n = srch 60 38 13 n := srch_go s9 s11
        rcases GQ_pm 13 n with e13 | e13
        · rcases GQ_pm 3 n with e3 | e3
          · exfalso
            have h2 : ¬ (n : Int) ∣ 2 := small_no (by omega) (by decide) (by omega) (by omega)
            rw [e3] at r3; rw [e5] at r5; rw [e7] at r7; rw [e11] at r11; rw [e13] at r13
            simp only [List.mem_cons, List.not_mem_nil, or_false] at ha
            rcases ha with rfl | rfl | rfl | rfl | rfl
            · exact h2 (r3.symm.trans hw)
            · exact h2 (r5.symm.trans hw)
            · exact h2 (r7.symm.trans hw)
            · exact h2 (r11.symm.trans hw)
            · exact h2 (r13.symm.trans hw)
          · rw [e13] at s13
            rw [e3, e5] at s15
            have g3 : srch 60 38 13 n = some (.inr (-15)) := srch_hit2 s13 s15
            refine ends_D (b := 4) hb9 hn hm (g1.trans (g2.trans g3)) rfl (by decide) (by decide) ?_
            rw [e3] at r3
            rw [e5] at r5
            rw [neg_pow, show (15 : Int) = 3 * 5 from rfl, Int.mul_pow]
            exact r3.mul r5
        · rw [e13] at s13 r13
          have g3 : srch 60 38 13 n = some (.inr 13) := srch_hit1 s13
          exact ends_D (b := -3) hb9 hn hm (g1.trans (g2.trans g3)) rfl (by decide) (by decide) r13
      · rw [e11] at s11 r11
        have g2 : srch 60 39 9 n = some (.inr (-11)) := srch_hit2 s9 s11
        refine ends_D (b := 3) hb9 hn hm (g1.trans g2) rfl (by decide) (by decide) ?_
        rw [neg_pow]; exact r11
    · rw [e5] at s5
      rw [e7] at s7 r7
      refine ends_D (b := 2) hb9 hn hm (srch_hit2 s5 s7) rfl (by decide) (by decide) ?_
      show Cg n ((-7) ^ (2 * m)) (-1)
      rw [neg_pow]; exact r7
  · rw [e5] at s5 r5
    exact ends_D (b := -1) hb9 hn hm (srch_hit1 s5) rfl (by decide) (by decide) r5
set_option maxRecDepth 100000 in
theorem tab_low : ((List.range 61).all fun n => decide (n % 4 ≠ 1) || decide (n < 5) || endsB (n : Int) true || (List.range n).any fun d => decide (1 < d) && decide (n % d = 0)) = true := by decide +kernel
theorem ends_low (hn : PrI (n : Int)) (hm : n = 4 * m + 1) (hlo : n < 61) : Ends 60 40 n true := by
  have h2 := hn.1
  have h := List.all_eq_true.mp tab_low n (List.mem_range.mpr hlo)
  simp only [Bool.or_eq_true, decide_eq_true_eq] at h
  rcases h with ((h | h) | h) | h
  · omega
  · omega
  · exact endsB_ok (by omega) h
  · exfalso
    obtain ⟨d, hd, h3⟩ := List.any_eq_true.mp h
    simp only [Bool.and_eq_true, decide_eq_true_eq] at h3
    exact pr_no hn h3.1 (List.mem_range.mp hd) h3.2
theorem ends_prime (hb9 : NB9 (n : Int)) (hn : PrI (n : Int)) (hm : n = 4 * m + 1) {a : Int} (ha : a ∈ ([3, 5, 7, 11, 13] : List Int)) (hw : Cg n (a ^ (2 * m)) (-1)) : Ends 60 40 n true := by
  by_cases h : n < 61
  · exact ends_low hn hm h
  · exact ends_big hb9 hn hm (by omega) ha hw
end
end Mine
namespace Mine
def KP (k : Int) : Prop := ∃ K : Nat, k = K ∧ 2 ≤ K ∧ K ≤ 40
def HP (k h : Int) : Prop := ∃ K H : Nat, k = K ∧ h = H ∧ 0 < H ∧ H < 2 ^ K
def NP (n : Int) : Prop := ∃ K H : Nat, 2 ≤ K ∧ K ≤ 40 ∧ 0 < H ∧ H < 2 ^ K ∧ n = ((H * 2 ^ K + 1 : Nat) : Int)
/-- what the search gives -/
def PP (n : Int) : Prop := ∃ N m : Nat, n = N ∧ N = 4 * m + 1 ∧ N < 2 ^ 81 ∧ PrI (N : Int) ∧ ∃ a, a ∈ ([3, 5, 7, 11, 13] : List Int) ∧ Cg N (a ^ (2 * m)) (-1)
theorem kp_ok (ns : List Int) (i : Int) : KP (2 + drawF ns i 39) := by
  have h := draw_ok (q := 39) (by decide) ns i
  unfold DR at h
  exact ⟨(2 + drawF ns i 39).toNat, by omega, by omega, by omega⟩
section
variable {k h n a x : Int}
theorem kp_nn (h : KP k) : 0 ≤ k ∧ 0 ≤ k - 1 ∧ k ≤ 40 := by obtain ⟨K, rfl, h1, h2⟩ := h; omega
theorem kp_pos (h : KP k) : 0 < (2 : Int) ^ (k - 1).toNat := p2_pos _
theorem hp_ok (hk : KP k) (x : Int) : HP k (2 * x.fmod (2 ^ (k - 1).toNat) + 1) := by
  obtain ⟨K, rfl, h1, h2⟩ := hk
  have hd := (fdiv_fmod_facts x (2 ^ ((K : Int) - 1).toNat)).2.2.1 (p2_pos _)
  have e : ((K : Int) - 1).toNat = K - 1 := by omega
  have e2 : (2 : Nat) ^ K = 2 * 2 ^ (K - 1) := by
    conv => lhs; rw [show K = (K - 1) + 1 by omega, Nat.pow_succ]
    omega
  have e3 : ((2 ^ (K - 1) : Nat) : Int) = 2 ^ (K - 1) := Int.natCast_pow 2 (K - 1)
  rw [e] at hd ⊢
  generalize x.fmod (2 ^ (K - 1)) = y at *
  exact ⟨K, (2 * y + 1).toNat, rfl, by omega, by omega, by omega⟩
theorem np_ok (hk : KP k) (hh : HP k h) : NP (h * 2 ^ k.toNat + 1) := by
  obtain ⟨K, rfl, h1, h2⟩ := hk
  obtain ⟨K', H, e1, rfl, h3, h4⟩ := hh
  have : K = K' := by omega
  subst this
  refine ⟨K, H, h1, h2, h3, h4, ?_⟩
  rw [Int.natCast_add, Int.natCast_mul, Int.natCast_pow, Int.toNat_natCast]; rfl
theorem hp_bd (hk : KP k) (hh : HP k h) : h.natAbs < 2 ^ 40 := by
  obtain ⟨K, rfl, h1, h2⟩ := hk
  obtain ⟨K', H, e1, rfl, h3, h4⟩ := hh
  have : K = K' := by omega
  subst this
  rw [Int.natAbs_natCast]
  exact Nat.lt_of_lt_of_le h4 (pow2_mono h2)
theorem kp2_bd (hk : KP k) : ((2 : Int) ^ k.toNat).natAbs < 2 ^ 900 := by
  rw [Int.natAbs_pow]
  have := kp_nn hk
  exact Nat.lt_of_lt_of_le (Nat.pow_lt_pow_right (a := 2) (by decide) (Nat.lt_succ_self k.toNat)) (pow2_mono (by omega))
theorem mul_hp (hk : KP k) (hh : HP k h) : PySem.IntMulOk h (2 ^ k.toNat) := mul_ok (Nat.lt_of_lt_of_le (hp_bd hk hh) (pow2_mono (by decide))) (kp2_bd hk)
theorem np_lo (h : NP n) : 5 ≤ n := by
  obtain ⟨K, H, h1, h2, h3, h4, rfl⟩ := h
  have h5 : 2 ^ 2 ≤ 2 ^ K := Nat.pow_le_pow_right (by decide) h1
  have h6 : 1 * 2 ^ 2 ≤ H * 2 ^ K := Nat.mul_le_mul h3 h5
  omega
theorem np_half (h : NP n) : 0 ≤ (n - 1).fdiv 2 := by
  have := np_lo h
  rw [Int.fdiv_eq_ediv_of_nonneg _ (by decide)]; omega
theorem pp_hit (h : NP n) (ha : a ∈ ([3, 5, 7, 11, 13] : List Int)) (hv : powI a ((n - 1).fdiv 2) n = n - 1) : PP n := by
  have hlo := np_lo h
  have hnn := np_half h
  rw [powI_eq hnn (by omega)] at hv
  have hc : Cg n (a ^ ((n - 1).fdiv 2).toNat) (-1) := by
    obtain ⟨c, hc⟩ := dvd_of_neg hv
    exact ⟨c, by omega⟩
  obtain ⟨K, H, h1, h2, h3, h4, rfl⟩ := h
  have e1 : 2 ^ K = 4 * 2 ^ (K - 2) := by
    conv => lhs; rw [show K = (K - 2) + 2 by omega, Nat.pow_add]
    omega
  have e2 : 2 ^ (K - 1) = 2 * 2 ^ (K - 2) := by
    conv => lhs; rw [show K - 1 = (K - 2) + 1 by omega, Nat.pow_succ]
    omega
  have e3 : H * 2 ^ K = 4 * (H * 2 ^ (K - 2)) := by rw [e1]; grind
  have e4 : ((((H * 2 ^ K + 1 : Nat) : Int) - 1).fdiv 2).toNat = H * 2 ^ (K - 1) := by
    have e5 : H * 2 ^ (K - 1) = 2 * (H * 2 ^ (K - 2)) := by rw [e2]; grind
    rw [Int.fdiv_eq_ediv_of_nonneg _ (by decide), e3, e5]; omega
  rw [e4] at hc
  refine ⟨H * 2 ^ K + 1, H * 2 ^ (K - 2), rfl, by omega, ?_, proth (by omega) h4 h3 hc, a, ha, ?_⟩
  · have h6 : H * 2 ^ K < 2 ^ 40 * 2 ^ 40 := Nat.mul_lt_mul_of_lt_of_le (Nat.lt_of_lt_of_le h4 (pow2_mono h2)) (pow2_mono h2) (Nat.pow_pos (by decide))
    omega
  · have e6 : 2 * (H * 2 ^ (K - 2)) = H * 2 ^ (K - 1) := by rw [e2]; grind
    rw [e6]; exact hc
theorem pp_last : PP 65537 := by
  refine pp_hit (a := 3) ⟨16, 1, by decide, by decide, by decide, by decide, by decide⟩ (List.Mem.head _) ?_
  decide +kernel
theorem pp_nb (h : PP n) : NB9 n ∧ n.fmod 2 ≠ 0 ∧ 5 ≤ n := by
  obtain ⟨N, m, rfl, h1, h2, h3, _⟩ := h
  have h4 := h3.1
  refine ⟨⟨by omega, ?_⟩, ?_, by omega⟩
  · rw [Int.natAbs_natCast]; exact Nat.lt_of_lt_of_le h2 (pow2_mono (by decide))
  · rw [Int.fmod_eq_emod_of_nonneg _ (by decide)]; omega
theorem pp_ends (h : PP n) : Ends 60 40 n true := by
  have hb := (pp_nb h).1
  obtain ⟨N, m, rfl, h1, h2, h3, a, ha, hw⟩ := h
  exact ends_prime hb h3 h1 ha hw
theorem pp_div (h : PP n) {p : Int} (hp : p ∈ basisF) (hd : n.fmod p = 0) : (n == p) = true := by
  obtain ⟨N, m, rfl, h1, h2, h3, _⟩ := h
  have hb := bas_all p hp
  obtain ⟨q, rfl⟩ := Int.eq_ofNat_of_zero_le (by omega : 0 ≤ p)
  rw [Int.fmod_eq_emod_of_nonneg _ (by omega)] at hd
  have hd' : N % q = 0 := by
    have : ((N % q : Nat) : Int) = 0 := by rw [Int.natCast_emod]; exact hd
    omega
  have hle : q ≤ N := Nat.le_of_dvd (by omega) (Nat.dvd_of_mod_eq_zero hd')
  have : N = q := by
    apply Classical.byContradiction
    intro hne
    exact pr_no h3 (by omega) (by omega) hd'
  rw [this]; simp
set_option maxRecDepth 100000 in
theorem tab_bas : (basisF.all fun p => basisF.all fun c => decide (p.fmod c ≠ 0) || decide (p = c)) = true := by decide +kernel
def BC (c : Int) : Prop := c ∈ basisF
theorem bc_ok {i : Int} (h0 : 0 ≤ i) (h1 : i < 16) : BC (basisF.getD i.toNat 0) := by
  have : i.toNat < basisF.length := by show i.toNat < 16; omega
  unfold BC
  rw [List.getD_eq_getElem?_getD, List.getElem?_eq_getElem this]
  exact List.getElem_mem this
theorem cn_ne {c : Int} (hc : BC c) (h : PP n) {p : Int} (hp : p ∈ basisF) : c * n ≠ p := fun e => by
  have hn := (pp_nb h).2.2
  have hb := bas_all c hc
  have ht := List.all_eq_true.mp (List.all_eq_true.mp tab_bas p hp) c hc
  simp only [Bool.or_eq_true, decide_eq_true_eq] at ht
  rcases ht with ht | ht
  · apply ht
    rw [← e, Int.fmod_eq_emod_of_nonneg _ (by omega), Int.mul_emod_right]
  · rw [ht] at e
    have h2 : c * 5 ≤ c * n := Int.mul_le_mul_of_nonneg_left hn (by omega)
    omega
theorem bc_odd : (basisF.all fun c => decide (c % 2 = 1)) = true := by decide
theorem cn_nb {c : Int} (hc : BC c) (h : PP n) : NB9 (c * n) ∧ (c * n).fmod 2 ≠ 0 := by
  have hn := (pp_nb h).2.2
  have hb := bas_all c hc
  have ho := List.all_eq_true.mp bc_odd c hc
  have ho' : c % 2 = 1 := of_decide_eq_true ho
  obtain ⟨N, m, rfl, h1, h2, h3, _⟩ := h
  refine ⟨⟨?_, ?_⟩, ?_⟩
  · have h2 : 3 * 5 ≤ c * (N : Int) := Int.mul_le_mul (by omega) hn (by decide) (by omega)
    omega
  · rw [Int.natAbs_mul, Int.natAbs_natCast]
    have h4 : c.natAbs * N < 2 ^ 6 * 2 ^ 81 := Nat.mul_lt_mul'' (by omega) h2
    exact Nat.lt_of_lt_of_le (by rw [← Nat.pow_add] at h4; exact h4) (pow2_mono (by decide))
  · rw [Int.fmod_eq_emod_of_nonneg _ (by decide), Int.mul_emod, ho']
    omega
theorem cn_div {c : Int} (hc : BC c) (n : Int) : fstDiv (c * n) basisF ≠ none := fun e => by
  have hb := bas_all c hc
  have := fst_none e c hc
  apply this
  rw [Int.fmod_eq_emod_of_nonneg _ (by omega), Int.mul_emod_right]
theorem mul_cn {c : Int} (hc : BC c) (h : PP n) : PySem.IntMulOk c n := by
  have hb := bas_all c hc
  exact mul_ok (Nat.lt_of_lt_of_le (m := 2 ^ 6) (by omega) (pow2_mono (by decide))) (pp_nb h).1.2
end
end Mine
namespace Mine
theorem store_draw {M : Model} {A : Around} {env : Env} {y : Str} {tk : Tok} {Q : Unit → Shared → Prop} {E : Value → Shared → Prop} {s : Shared} {ns : List Int} {i q : Int} (h : ∀ z, wpAny M A (storeName env y (.int z tk)) Q E s) : wpAny M A (storeName env y (.int (drawF ns i q) tk)) Q E s := h _
end Mine
namespace Mine
set_option maxRecDepth 100000 in
set_option maxHeartbeats 8000000 in
open_top hd12 for PySem.Challenge.rw_yt0004_12
end Mine
namespace Mine
abbrev Cl (w : World) := Claim Challenge.rw_yt0004_12.row.prog w (hd12.heap_39 w.params) hd12.view_39
abbrev ClG (w : World) := ClaimG Challenge.rw_yt0004_12.row.prog w (hd12.heap_39 w.params) hd12.view_39
abbrev ClE (w : World) := ClaimE Challenge.rw_yt0004_12.row.prog w (hd12.heap_39 w.params) hd12.view_39
abbrev ClI (w : World) := ClaimI Challenge.rw_yt0004_12.row.prog w (hd12.heap_39 w.params) hd12.view_39
local macro_rules | `(tactic| k_all) => `(tactic| ((refine' allNe ?a ?b); (case a => first | with_reducible assumption | exact allLt_out (And.right (by assumption))); (case b => first | exact Nat.le_refl _ | omega)))
local macro_rules | `(tactic| walk_at "exec For Name Name cons nil") => `(tactic| (k_here; (rename Fr _ _ _ _ => lF'); (with_unfolding_all refine' For_invVF lF' ?k1 ?k2 ?_; (case k1 => exact rfl); (case k2 => exact rfl); k_whole)))
local macro_rules | `(tactic| walk_at "call builtin:pow") => `(tactic| (k_here; (with_reducible show wpAny _ _ (call (Value.builtin "pow") [Value.int _ _, Value.int _ _, Value.int _ _]) _ _ _); (refine call_pow3i (by k_extra "pow nn") (by k_extra "pow m") ?_)))
local macro_rules | `(tactic| walk_at "exec For Name Call cons cons") => `(tactic| (k_here; (rename Fr _ _ _ _ => lF'); (with_unfolding_all refine' for_else (PySem.Str.ofString "x") lF' ?fe1 ?fe2 ?_; (case fe1 => exact rfl); (case fe2 => exact rfl); k_whole)))
local macro_rules | `(tactic| walk_at "ElseAt") => `(tactic| (k_here; k_extra "else"))
local macro_rules | `(tactic| walk_at "ElsePost") => `(tactic| (dsimp only [ElsePost]))
local macro_rules | `(tactic| walk_at "ElseEnd") => `(tactic| (k_here; k_extra "elsend"))
local macro_rules | `(tactic| walk_at "TupPost") => `(tactic| (dsimp only [TupPost]))
local macro_rules | `(tactic| walk_at "TupEnd") => `(tactic| (k_here; k_extra "tupend"))
local macro_rules | `(tactic| walk_at "pyIter ref") => `(tactic| (k_here; k_extra "src"))
set_option maxRecDepth 100000 in
set_option maxHeartbeats 8000000 in
theorem ipg_even {w : World} {l : Addr} {vs us : List Value} {ns : List Int} {n : Int} {t1 : Tok} (hI : IntsAre vs ns) (hns : ∀ p ∈ ns, 3 ≤ p ∧ p ≤ 59) (he : n.fmod 2 = 0 ∨ n < 3) : ClG w 72 2 l vs n t1 us (fun _ => .bool (n == 2)) := by
  k_with_none
  dsimp only [ClG, ClaimG, Ret]
  k_fill
  intro loose mean mg mb news dp un gd cn cs a ccd cl outer A₀ base h₀ L m s Q E hB F X N hm T hk hd hu hret
  refine wpAny_call ?_
  (k_dflt (refine' code_def (binds := [(Str.ofString "n", .int n t1), (Str.ofString "tb", .ref l)]) ?k1 ?k2 ?k3 ?k4 ?k5 ?kA ?kF ?kK ?k6 ?k7 ?k8 ?k9 ?kB ?_ ?c2 ?c3 ?c4 ?c5; (case kA => exact rfl); (case kF => exact rfl); (case kK => assumption); (case k1 => k_asm); (case k2 => k_asm); (case k3 => k_asm); (case k4 => k_asm); (case k5 => k_asm); (case k6 => k_is); (case k7 => k_is); (case k8 => ktr_room); (case k9 => (rcases hm with ⟨e9, _⟩ | ⟨e9, e9l, _⟩ <;> (try subst e9l) <;> subst e9 <;> exact binds_K (by k_in) rfl (by k_is) rfl rfl rfl)); (case c5 => decide); (case kB => exact locs rfl); (case c2 => exact rfl); (case c3 => exact rfl); (case c4 => exact rfl); k_whole; intro g' L' h' FG' F' N' B' X' T'; (try dsimp only); (try k_lift B'); (try k_fold)))
  k_steps
  all_goals first | (exfalso; omega) | (refine ret_bool (Q := Q) hret (by rfl) (by k_asm) (by first | k_asm | exact cb_drop (by assumption) (by kcj_all)))
set_option maxRecDepth 100000 in
set_option maxHeartbeats 8000000 in
theorem ipg_trial {w : World} {l : Addr} {vs us : List Value} {ns : List Int} {n : Int} {t1 : Tok} (hI : IntsAre vs ns) (hns : ∀ p ∈ ns, 3 ≤ p ∧ p ≤ 59) {p : Int} (hn : NB9 n) (ho : n.fmod 2 ≠ 0) (hdv : fstDiv n ns = some p) : ClG w 72 2 l vs n t1 us (fun _ => .bool (n == p)) := by
  k_with_none
  dsimp only [ClG, ClaimG, Ret]
  k_fill
  intro loose mean mg mb news dp un gd cn cs a ccd cl outer A₀ base h₀ L m s Q E hB F X N hm T hk hd hu hret
  refine wpAny_call ?_
  (k_dflt (refine' code_def (binds := [(Str.ofString "n", .int n t1), (Str.ofString "tb", .ref l)]) ?k1 ?k2 ?k3 ?k4 ?k5 ?kA ?kF ?kK ?k6 ?k7 ?k8 ?k9 ?kB ?_ ?c2 ?c3 ?c4 ?c5; (case kA => exact rfl); (case kF => exact rfl); (case kK => assumption); (case k1 => k_asm); (case k2 => k_asm); (case k3 => k_asm); (case k4 => k_asm); (case k5 => k_asm); (case k6 => k_is); (case k7 => k_is); (case k8 => ktr_room); (case k9 => (rcases hm with ⟨e9, _⟩ | ⟨e9, e9l, _⟩ <;> (try subst e9l) <;> subst e9 <;> exact binds_K (by k_in) rfl (by k_is) rfl rfl rfl)); (case c5 => decide); (case kB => exact locs rfl); (case c2 => exact rfl); (case c3 => exact rfl); (case c4 => exact rfl); k_whole; intro g' L' h' FG' F' N' B' X' T'; (try dsimp only); (try k_lift B'); (try k_fold)))
  have hn3 := hn.1
  have hm2 : ¬ (n.fmod 2 = 0 ∨ n < 3) := by omega
  k_with "pow nn" => first | decide | exact hf_nn (by assumption)
  k_with "pow m" => omega
  k_with "exec While Compare cons nil" => k_while (fun script t s => Hf ((n - 1).fdiv 2) t s) (fun script t s => t.toNat) "t" "s"
  k_with "measure" => exact hf_meas (by assumption) (by assumption)
  k_with "src" => (k_dflt (refine' src_search (fun pre => ∀ q ∈ pre, n.fmod q ≠ 0) ?ts0 ?ts1 ?ts2 ?ts3 ?ts4 ?ts5 ?ts6 ?_ ?_; (case ts1 => exact Mode.src hm); (case ts0 => exact rfl); (case ts2 => k_asm); (case ts3 => exact hI); (case ts4 => k_asm); (case ts5 => k_asm); (case ts6 => first | exact trivial | exact List.forall_mem_nil _)); (focus (intro pre8 k8 post8 t8 h8 tk8 own8 e8 hP8 F8 N8)); rotate_left; (focus (intro u8 h8 tk8 hP8 F8 N8; exact (fst_end hdv hP8).elim)); rotate_right; (all_goals (try k_fold)))
  k_with "tupend" => (refine TupEnd.intro (by assumption) (by assumption) (by intro z h1; first | rfl | (simp only [h1, if_false, ↓reduceIte]; done) | (simp [h1]; done)) (nd_snoc (by assumption) (by assumption)))
  k_with "binaryOp Mod int int" => first | (refine mod_int' (by decide) ?_) | (refine mod_int' (by have := hns k8 (by rw [e8]; simp); omega) ?_)
  k_steps
  all_goals first | (exfalso; exact fst_end hdv hP8) | (exfalso; omega) | (refine ret_bool (Q := Q) hret (by exact congrArg (fun z => n == z) (fst_hit hdv e8 hP8 (by assumption))) (by k_asm) (by first | k_asm | exact cb_drop (by assumption) (by kcj_all)))
set_option maxRecDepth 100000 in
set_option maxHeartbeats 8000000 in
theorem ipg_strong {w : World} {l : Addr} {vs us : List Value} {ns : List Int} {n : Int} {t1 : Tok} (hI : IntsAre vs ns) (hns : ∀ p ∈ ns, 3 ≤ p ∧ p ≤ 59) (hn : NB9 n) (ho : n.fmod 2 ≠ 0) (hdv : ∀ q ∈ ns, n.fmod q ≠ 0) (hf : SFail n) : ClG w 72 2 l vs n t1 us (fun _ => .bool false) := by
  k_with_none
  dsimp only [ClG, ClaimG, Ret]
  k_fill
  intro loose mean mg mb news dp un gd cn cs a ccd cl outer A₀ base h₀ L m s Q E hB F X N hm T hk hd hu hret
  refine wpAny_call ?_
  (k_dflt (refine' code_def (binds := [(Str.ofString "n", .int n t1), (Str.ofString "tb", .ref l)]) ?k1 ?k2 ?k3 ?k4 ?k5 ?kA ?kF ?kK ?k6 ?k7 ?k8 ?k9 ?kB ?_ ?c2 ?c3 ?c4 ?c5; (case kA => exact rfl); (case kF => exact rfl); (case kK => assumption); (case k1 => k_asm); (case k2 => k_asm); (case k3 => k_asm); (case k4 => k_asm); (case k5 => k_asm); (case k6 => k_is); (case k7 => k_is); (case k8 => ktr_room); (case k9 => (rcases hm with ⟨e9, _⟩ | ⟨e9, e9l, _⟩ <;> (try subst e9l) <;> subst e9 <;> exact binds_K (by k_in) rfl (by k_is) rfl rfl rfl)); (case c5 => decide); (case kB => exact locs rfl); (case c2 => exact rfl); (case c3 => exact rfl); (case c4 => exact rfl); k_whole; intro g' L' h' FG' F' N' B' X' T'; (try dsimp only); (try k_lift B'); (try k_fold)))
  have hn3 := hn.1
  have hm2 : ¬ (n.fmod 2 = 0 ∨ n < 3) := by omega
  k_with "pow nn" => first | decide | exact hf_nn (by assumption)
  k_with "pow m" => omega
  k_with "exec While Compare cons nil" => k_while (fun script t s => Hf ((n - 1).fdiv 2) t s) (fun script t s => t.toNat) "t" "s"
  k_with "measure" => exact hf_meas (by assumption) (by assumption)
  k_with "src" => (k_dflt (refine' src_search (fun pre => True) ?ts0 ?ts1 ?ts2 ?ts3 ?ts4 ?ts5 ?ts6 ?_ ?_; (case ts1 => exact Mode.src hm); (case ts0 => exact rfl); (case ts2 => k_asm); (case ts3 => exact hI); (case ts4 => k_asm); (case ts5 => k_asm); (case ts6 => first | exact trivial | exact List.forall_mem_nil _)); (focus (intro pre8 k8 post8 t8 h8 tk8 own8 e8 hP8 F8 N8)); rotate_left; (focus (intro u8 h8 tk8 hP8 F8 N8)); rotate_right; (all_goals (try k_fold)))
  k_with "tupend" => (refine TupEnd.intro (by assumption) (by assumption) (by intro z h1; first | rfl | (simp only [h1, if_false, ↓reduceIte]; done) | (simp [h1]; done)) trivial)
  k_with "else" => (refine' ⟨_, _, _, _, _, _, _, _, _, fun i x => SQN n i x, _, _, rfl, rfl, ?el1, ?el2, ?el3, ?el4, ?el5, ?el6, ?el7, ?_, ?_⟩; (case el1 => assumption); (case el2 => exact small_one (by decide) (by decide) (by have := s_lo (by assumption); omega) (by have := s_le hn (by assumption); omega)); (case el3 => exact rangeSize_nat _ _); (case el4 => assumption); (case el5 => assumption); (case el6 => rfl); (case el7 => exact sqn_start (by assumption) (by assumption)); (focus (intro i8 z8 k8 I8 oI8 t8 u8 h8 tk8 hi8 hk8 hJ8 F8 N8)); rotate_left; (focus (intro z8 u8 q8 h8 tk8 hJ8 F8 N8)); rotate_right; (all_goals (try k_fold)))
  k_with "elsend" => (refine' ⟨_, _, _, _, _, rfl, ?ee1, ?ee2, ?ee3, ?ee4, ?ee5⟩; (case ee1 => assumption); (case ee2 => assumption); (case ee3 => rfl); (case ee4 => (intro z h1 h2; first | rfl | (simp only [h1, h2, if_false, ↓reduceIte]; done) | (simp [h1, h2]; done))); (case ee5 => exact sqn_turn hJ8))
  k_with "state" => first | trivial | exact hf_start (nb_half hn) | exact hf_turn (by assumption) (by assumption) 
  k_with "ite" => first
    | with_reducible refine ite_bne_ne (SFail.one hf (by assumption) (by assumption)) ?_
    | with_reducible refine ite_bne_ne (SFail.two hf (by assumption) (by assumption)) ?_
    | with_reducible refine ite_beq_ne (sqn_ne hf (by assumption) (by assumption) (by assumption) (by assumption)) ?_
    | with_reducible refine ite_beq_ne (hdv k8 (by rw [e8]; simp)) ?_
  k_with "binaryOp Mod int int" => first | (refine mod_int' (by decide) ?_) | (refine mod_int' (by have := hns k8 (by rw [e8]; simp); omega) ?_)
  k_steps
  all_goals first | (exfalso; omega) | (refine ret_bool (Q := Q) hret (by rfl) (by k_asm) (by first | k_asm | exact cb_drop (by assumption) (by kcj_all)))
end Mine
namespace Mine
set_option maxRecDepth 100000 in
set_option maxHeartbeats 8000000 in
theorem jac_spec {w : World} {n a0 V : Int} {f : Nat} {t1 t2 : Tok} (hn1 : 1 ≤ n) (ho : n.fmod 2 ≠ 0) (hnb : n.natAbs < 2 ^ 900) (h0 : a0 ≠ 0) (h1 : a0 ≠ 1) (hj : jacO f (a0.fmod n) n = some V) : Cl w 63 1 (fun _ => True) [.int a0 t1, .int n t2] (fun t => .int V t) := by
  k_with_none
  dsimp only [Cl, Claim, Ret]
  k_fill
  intro loose mean mg mb news dp un gd cn cs a ccd cl outer A₀ base h₀ L m s Q E hB F X N T hk hH hd hu hret
  refine wpAny_call ?_
  (k_dflt cell_enter)
  have hn0 : n ≠ 0 := by omega
  k_with "exec While Compare cons nil" => k_while (fun script a n t => JI V a n t) (fun script a n t => a.toNat) "a" "n" "t"
  k_with "exec While UnaryOp" => k_while_given ["n", "a!"] (fun n aa script a t => JK V aa a n t) (fun n aa script a t => a.toNat) "a" "t"
  k_with "state" => first | exact ji_start hn1 ho hnb hj | exact jk_start (by assumption) (by assumption) | exact jk_even (by assumption) (by assumption) (by assumption) | exact jk_even2 (by assumption) (by assumption) (by assumption) | exact jk_swap (by assumption) (by assumption) (by assumption) (by assumption) | exact jk_swap1 (by assumption) (by assumption) (by assumption) | exact jk_swap2 (by assumption) (by assumption) (by assumption)
  k_with "measure" => first | exact jk_meas (by assumption) (by assumption) | exact jk_om (by assumption)
  k_with "inplaceOp Mod int int" => (refine imod_int (jk_ne (by assumption)) ?_)
  k_with "binaryOp BitAnd int int" => first | refine and1_int ?_ | refine and3_int ?_ | refine and7_int ?_
  k_with "binaryOp Mod int int" => first | (refine mod_int' (by decide) ?_) | (refine mod_int' hn0 ?_)
  k_steps
  all_goals first | (exfalso; omega) | (exfalso; exact absurd (by assumption) ho) | (refine ret_int (Q := Q) hret (by first | exact ji_yes (by assumption) (by assumption) (by assumption) | exact ji_no (by assumption) (by assumption) (by assumption) | exact ji_yes (by assumption) (not_not_intro (by assumption)) (by assumption) | exact ji_no (by assumption) (not_not_intro (by assumption)) (by assumption)) (by k_asm) (by first | k_asm | exact cb_drop (by assumption) (by kcj_all)))
end Mine
namespace Mine
set_option maxRecDepth 100000 in
set_option maxHeartbeats 8000000 in
theorem gcd_spec {w : World} {a0 b0 : Int} {t1 t2 : Tok} : Cl w 21 1 (fun _ => True) [.int a0 t1, .int b0 t2] (fun t => .int ((Int.gcd a0 b0 : Nat) : Int) t) := by
  k_with_none
  dsimp only [Cl, Claim, Ret]
  k_fill
  intro loose mean mg mb news dp un gd cn cs a ccd cl outer A₀ base h₀ L m s Q E hB F X N T hk hH hd hu hret
  refine wpAny_call ?_
  (k_dflt cell_enter)
  k_with "exec While Name cons nil" => k_while (fun script a b => GC ((Int.gcd a0 b0 : Nat) : Int) a b) (fun script a b => b.toNat) "a" "b"
  k_with "state" => first | exact gc_start a0 b0 | exact gc_turn (by assumption) (by assumption)
  k_with "measure" => exact gc_meas (by assumption) (by assumption)
  k_with "binaryOp Mod int int" => (refine mod_int' (by assumption) ?_)
  k_steps
  all_goals first | (refine ret_int (Q := Q) hret (by first | exact gc_done2 (by assumption) (by assumption)) (by k_asm) (by first | k_asm | exact cb_drop (by assumption) (by kcj_all)))
set_option maxRecDepth 100000 in
set_option maxHeartbeats 8000000 in
theorem modinv_spec {w : World} {a0 n : Int} {t1 t2 : Tok} (hn1 : 1 ≤ n) (hnb : n.natAbs < 2 ^ 900) (hc : Cop a0 n) (hab : a0.natAbs < 2 ^ 900) : ClI w 40 1 (fun _ => True) [.int a0 t1, .int n t2] (Inv a0 n) := by
  k_with_none
  dsimp only [ClI, ClaimI, RetI]
  k_fill
  intro loose mean mg mb news dp un gd cn cs a ccd cl outer A₀ base h₀ L m s Q E hB F X N T hk hH hd hu hret
  refine wpAny_call ?_
  (k_dflt cell_enter)
  have hn0 : n ≠ 0 := by omega
  k_with "exec While Compare cons nil" => k_while (fun script a m r x => MK a0 n a m r x) (fun script a m r x => m.toNat) "a" "m" "r" "x"
  k_with "state" => first | exact mk_start hn1 hc hab hnb | exact mk_turn (by assumption) (by assumption)
  k_with "measure" => exact mk_meas (by assumption) (by assumption)
  k_with "binaryOp Mod int int" => first | (refine mod_int' (by assumption) ?_) | (refine mod_int' hn0 ?_)
  k_with "binaryOp FloorDiv int int" => (refine floordiv_int (by assumption) ?_ (Or.inl (noPy (mk_no (by assumption)))))
  k_with "binaryOp Mult int int" => (refine mul_int ?_ (mk_mul (by assumption) hnb))
  k_steps
  all_goals first | (exfalso; omega) | (exfalso; exact absurd (mk_one (by assumption) (by assumption)) (by assumption)) | (exfalso; exact absurd (mk_one (by assumption) (Decidable.not_not.mp (by assumption))) (by assumption)) | (refine hret _ _ _ _ (by first | exact mk_done hn1 (by assumption) (by assumption) | exact mk_done hn1 (by assumption) (Decidable.not_not.mp (by assumption))) (by k_asm) (by first | k_asm | exact cb_drop (by assumption) (by kcj_all)))
end Mine
namespace Mine
local macro_rules | `(tactic| k_mem) => `(tactic| first | with_reducible assumption | assumption)
local macro_rules | `(tactic| k_memK) => `(tactic| first | with_reducible assumption | assumption)
local macro_rules | `(tactic| k_all) => `(tactic| ((refine' allNe ?a ?b); (case a => first | with_reducible assumption | exact allLt_out (And.right (by assumption))); (case b => first | exact Nat.le_refl _ | omega)))
local macro_rules | `(tactic| walk_at "exec For Name Name cons nil") => `(tactic| (k_here; (rename Fr _ _ _ _ => lF'); (with_unfolding_all refine' For_invVF lF' ?k1 ?k2 ?_; (case k1 => exact rfl); (case k2 => exact rfl); k_whole)))
local macro_rules | `(tactic| walk_at "call builtin:pow") => `(tactic| (k_here; (with_reducible show wpAny _ _ (call (Value.builtin "pow") [Value.int _ _, Value.int _ _, Value.int _ _]) _ _ _); (refine call_pow3i (by k_extra "pow nn") (by k_extra "pow m") ?_)))
local macro_rules | `(tactic| walk_at "exec For Name Call cons cons") => `(tactic| (k_here; (rename Fr _ _ _ _ => lF'); (with_unfolding_all refine' for_else (PySem.Str.ofString "x") lF' ?fe1 ?fe2 ?_; (case fe1 => exact rfl); (case fe2 => exact rfl); k_whole)))
local macro_rules | `(tactic| walk_at "ElseAt") => `(tactic| (k_here; k_extra "else"))
local macro_rules | `(tactic| walk_at "ElsePost") => `(tactic| (dsimp only [ElsePost]))
local macro_rules | `(tactic| walk_at "ElseEnd") => `(tactic| (k_here; k_extra "elsend"))
local macro_rules | `(tactic| walk_at "TupPost") => `(tactic| (dsimp only [TupPost]))
local macro_rules | `(tactic| walk_at "TupEnd") => `(tactic| (k_here; k_extra "tupend"))
local macro_rules | `(tactic| walk_at "pyIter ref") => `(tactic| (k_here; k_extra "src"))
local macro_rules | `(tactic| walk_at "exec If") => `(tactic| (k_here; (with_reducible show wpAny _ _ (exec (PySem.Stmt.If (PySem.Expr.BoolOp _ _ _) _ _ _) _) _ _ _); k_extra "ifx"))
local macro_rules | `(tactic| walk_at "exec If") => `(tactic| (k_here; (with_reducible show wpAny _ _ (exec (PySem.Stmt.If (PySem.Expr.Compare _ [_, _] _ _) _ _ _) _) _ _ _); k_extra "ifg"))
local macro_rules | `(tactic| walk_at "JS0") => `(tactic| first | (exfalso; k_extra "jsret") | (refine JS0.intro (by assumption) (by first | assumption | exact news_d1 (by assumption)) (by intro y hy; first | rfl | ((simp only [List.contains_cons, List.contains_nil, Bool.or_false, Bool.or_eq_false_iff, beq_eq_false_iff_ne, ne_eq] at hy); (simp [hy]; done)))))
local macro_rules | `(tactic| walk_at "JS1") => `(tactic| (refine JS1.intro (by assumption) (by first | assumption | exact news_d1 (by assumption)) (by exact rfl) (by k_extra "jsD") (by intro y h9y hy; first | rfl | ((simp only [List.contains_cons, List.contains_nil, Bool.or_false, Bool.or_eq_false_iff, beq_eq_false_iff_ne, ne_eq] at hy); (simp [hy, h9y]; done)))))
local macro_rules | `(tactic| walk_at "subscriptTail Call") => `(tactic| (k_here; (with_reducible show wpAny _ _ (subscriptTail _ (Expr.Slice (some _) none none _) (Value.str _ _) _) _ _ _); k_extra "slice"))
local macro_rules | `(tactic| walk_at "call builtin:bin") => `(tactic| (k_here; (with_reducible show wpAny _ _ (call (Value.builtin "bin") [Value.int _ _]) _ _ _); k_extra "bin"))
local macro_rules | `(tactic| walk_at "call ref") => `(tactic| (k_here; (with_reducible show wpAny _ _ (call (Value.ref 21) [Value.int _ _, Value.int _ _]) _ _ _); k_dflt (refine' gcd_spec  ?k1 ?k2 ?k3 ?k4 ?k5 ?kK ?kH ?kd ?ku ?_; (case k1 => k_asm); (case k2 => k_asm); (case k3 => k_asm); (case k4 => k_asm); (case k5 => k_asm); (case kK => first | exact rfl | assumption); (case kH => first | trivial | k_asm);  (case kd => ktr_room); (case ku => ktr_units)); intro t9 h9 tk9 F9 N9; (try dsimp only); (try k_fold)))
local macro_rules | `(tactic| walk_at "call ref") => `(tactic| (k_here; (with_reducible show wpAny _ _ (call (Value.ref 40) [Value.int _ _, Value.int _ _]) _ _ _); k_dflt (refine' modinv_spec ?kp0 ?kp1 ?kp2 ?kp3 ?k1 ?k2 ?k3 ?k4 ?k5 ?kK ?kH ?kd ?ku ?_; (case k1 => k_asm); (case k2 => k_asm); (case k3 => k_asm); (case k4 => k_asm); (case k5 => k_asm); (case kK => first | exact rfl | assumption); (case kH => first | trivial | k_asm); (case kp0 => first | assumption | k_extra "modinv_spec 0" | omega | l_fit | decide); (case kp1 => first | assumption | k_extra "modinv_spec 1" | omega | l_fit | decide); (case kp2 => first | assumption | k_extra "modinv_spec 2" | omega | l_fit | decide); (case kp3 => first | assumption | k_extra "modinv_spec 3" | omega | l_fit | decide); (case kd => ktr_room); (case ku => ktr_units)); intro z9 t9 h9 tk9 P9 F9 N9; (try dsimp only); (try k_fold)))
local macro_rules | `(tactic| walk_at "call ref") => `(tactic| (k_here; (with_reducible show wpAny _ _ (call (Value.ref 63) [Value.int _ _, Value.int _ _]) _ _ _); k_extra "jac"))
local macro_rules | `(tactic| walk_at "call ref") => `(tactic| (k_here; (with_reducible show wpAny _ _ (call (Value.ref 63) [Value.int _ _, Value.int _ _]) _ _ _); k_dflt (refine' jac_spec ?kp0 ?kp1 ?kp2 ?kp3 ?kp4 ?kp5 ?k1 ?k2 ?k3 ?k4 ?k5 ?kK ?kH ?kd ?ku ?_; (case k1 => k_asm); (case k2 => k_asm); (case k3 => k_asm); (case k4 => k_asm); (case k5 => k_asm); (case kK => first | exact rfl | assumption); (case kH => first | trivial | k_asm); (case kp0 => first | assumption | k_extra "jac_spec 0"); (case kp1 => first | assumption | k_extra "jac_spec 1"); (case kp2 => first | assumption | k_extra "jac_spec 2"); (case kp3 => first | assumption | k_extra "jac_spec 3"); (case kp4 => first | assumption | k_extra "jac_spec 4"); (case kp5 => first | assumption | k_extra "jac_spec 5"); (case kd => ktr_room); (case ku => ktr_units)); intro t9 h9 tk9 F9 N9; (try dsimp only); (try k_fold)))
set_option maxRecDepth 100000 in
set_option maxHeartbeats 8000000 in
theorem ipg_in {w : World} {l : Addr} {vs us : List Value} {ns : List Int} {n : Int} {t1 : Tok} (hI : IntsAre vs ns) (hns : ∀ p ∈ ns, 3 ≤ p ∧ p ≤ 59) {K f0 : Nat} {B : Bool} (hn : NB9 n) (ho : n.fmod 2 ≠ 0) (hdv : ∀ q ∈ ns, n.fmod q ≠ 0) (hp : SPass n) (hs : srch K f0 5 n = some (.inl B)) : ClG w 72 3 l vs n t1 us (fun _ => .bool B) := by
  k_with_none
  dsimp only [ClG, ClaimG, Ret]
  k_fill
  intro loose mean mg mb news dp un gd cn cs a ccd cl outer A₀ base h₀ L m s Q E hB F X N hm T hk hd hu hret
  refine wpAny_call ?_
  (k_dflt (refine' code_def (binds := [(Str.ofString "n", .int n t1), (Str.ofString "tb", .ref l)]) ?k1 ?k2 ?k3 ?k4 ?k5 ?kA ?kF ?kK ?k6 ?k7 ?k8 ?k9 ?kB ?_ ?c2 ?c3 ?c4 ?c5; (case kA => exact rfl); (case kF => exact rfl); (case kK => assumption); (case k1 => k_asm); (case k2 => k_asm); (case k3 => k_asm); (case k4 => k_asm); (case k5 => k_asm); (case k6 => k_is); (case k7 => k_is); (case k8 => ktr_room); (case k9 => (rcases hm with ⟨e9, _⟩ | ⟨e9, e9l, _⟩ <;> (try subst e9l) <;> subst e9 <;> exact binds_K (by k_in) rfl (by k_is) rfl rfl rfl)); (case c5 => decide); (case kB => exact locs rfl); (case c2 => exact rfl); (case c3 => exact rfl); (case c4 => exact rfl); k_whole; intro g' L' h' FG' F' N' B' X' T'; (try dsimp only); (try k_lift B'); (try k_fold)))
  have hn3 := hn.1
  have hn0 : n ≠ 0 := by omega
  have hm2 : ¬ (n.fmod 2 = 0 ∨ n < 3) := by omega
  k_with "pow nn" => first | decide | exact hf_nn (by assumption)
  k_with "pow m" => omega
  k_with "exec While Compare cons nil" => k_while (fun script t s => Hf ((n - 1).fdiv 2) t s) (fun script t s => t.toNat) "t" "s"
  k_with "exec While Constant cons nil" => k_while (fun script c => SR K f0 n (.inl B) c) (fun script c => (5 + 4 * (f0 : Int) - c).toNat) "c"
  k_with "measure" => first | exact hf_meas (by assumption) (by assumption) | (have h9c := sr_c (by assumption : SR K f0 n (.inl B) _); omega)
  k_with "jsret" => exact sqp_end (by assumption) (by assumption) (by assumption)
  k_with "ifx" => ((with_reducible show wpAny _ _ (exec (PySem.Stmt.If (PySem.Expr.BoolOp _ [PySem.Expr.Compare (PySem.Expr.Name (Str.ofString "x") _) _ _ _, _] _) _ _ _) _) _ _ _); (fail_if_success (with_reducible show wpAny _ _ _ (JS0 _ _ _ _ _ _) _ _)); (refine' join_stmt0 [Str.ofString "x", Str.ofString "j"] ?jsF ?jsN ?_ ?_; (case jsF => assumption); (case jsN => assumption)); rotate_left; (intro h7 tk7 u7 F8 N8); rotate_right; (all_goals (try k_fold)))
  k_with "src" => (k_dflt (refine' src_search (fun pre => True) ?ts0 ?ts1 ?ts2 ?ts3 ?ts4 ?ts5 ?ts6 ?_ ?_; (case ts1 => exact Mode.src hm); (case ts0 => exact rfl); (case ts2 => k_asm); (case ts3 => exact hI); (case ts4 => k_asm); (case ts5 => k_asm); (case ts6 => first | exact trivial | exact List.forall_mem_nil _)); (focus (intro pre8 k8 post8 t8 h8 tk8 own8 e8 hP8 F8 N8)); rotate_left; (focus (intro u8 h8 tk8 hP8 F8 N8)); rotate_right; (all_goals (try k_fold)))
  k_with "tupend" => (refine TupEnd.intro (by assumption) (by assumption) (by intro z h1; first | rfl | (simp only [h1, if_false, ↓reduceIte]; done) | (simp [h1]; done)) trivial)
  k_with "else" => (refine' ⟨_, _, _, _, _, _, _, _, _, fun i x => SQP n i x, _, _, rfl, rfl, ?el1, ?el2, ?el3, ?el4, ?el5, ?el6, ?el7, ?_, ?_⟩; (case el1 => assumption); (case el2 => exact small_one (by decide) (by decide) (by have := s_lo (by assumption); omega) (by have := s_le hn (by assumption); omega)); (case el3 => exact rangeSize_nat _ _); (case el4 => assumption); (case el5 => assumption); (case el6 => rfl); (case el7 => exact sqp_start hp (by assumption) (by assumption) (by assumption) (by assumption)); (focus (intro i8 z8 k8 I8 oI8 t8 u8 h8 tk8 hi8 hk8 hJ8 F8 N8)); rotate_left; (focus (intro z8 u8 q8 h8 tk8 hJ8 F8 N8)); rotate_right; (all_goals (try k_fold)))
  k_with "elsend" => (refine' ⟨_, _, _, _, _, rfl, ?ee1, ?ee2, ?ee3, ?ee4, ?ee5⟩; (case ee1 => assumption); (case ee2 => assumption); (case ee3 => rfl); (case ee4 => (intro z h1 h2; first | rfl | (simp only [h1, h2, if_false, ↓reduceIte]; done) | (simp [h1, h2]; done))); (case ee5 => exact sqp_turn hJ8 (by assumption)))
  k_with "state" => first | trivial | exact sr_start hs | exact hr9 (by assumption) (jm hm9) | exact hf_start (nb_half hn) | exact hf_turn (by assumption) (by assumption) 
  k_with "jac" => first
    | (obtain ⟨j9, hj9, hz9, hm9, hr9⟩ := hr8 (by assumption) (jm hm8))
    | (obtain ⟨j8, hj8, hz8, hm8, hr8⟩ := sr_j (by assumption : SR K f0 n (.inl B) _))
  k_with "jac_spec 0" => omega
  k_with "jac_spec 1" => exact ho
  k_with "jac_spec 2" => exact hn.2
  k_with "jac_spec 3" => (have := sr_c (by assumption : SR K f0 n (.inl B) _); omega)
  k_with "jac_spec 4" => (have := sr_c (by assumption : SR K f0 n (.inl B) _); omega)
  k_with "ite" => first
    | with_reducible refine ite_beq_ne (sqp_one hn (by assumption)) ?_
    | with_reducible refine ite_beq_ne (jm (by assumption)) ?_
    | with_reducible refine ite_beq_ne (sr_ne13 (by assumption)) ?_
    | with_reducible refine ite_beq_ne (hdv k8 (by rw [e8]; simp)) ?_
  k_with "binaryOp Mod int int" => first | (refine mod_int' (by decide) ?_) | (refine mod_int' hn0 ?_) | (refine mod_int' (by have := hns k8 (by rw [e8]; simp); omega) ?_)
  k_steps
  all_goals first | (exfalso; omega) | (refine ret_bool (Q := Q) hret (by first | exact inlB hz8 (by assumption) | exact inlB hz9 (by assumption)) (by k_asm) (by first | k_asm | exact cb_drop (by assumption) (by kcj_all)))
end Mine
namespace Mine
local macro_rules | `(tactic| k_mem) => `(tactic| first | with_reducible assumption | assumption)
local macro_rules | `(tactic| k_memK) => `(tactic| first | with_reducible assumption | assumption)
local macro_rules | `(tactic| k_all) => `(tactic| ((refine' allNe ?a ?b); (case a => first | with_reducible assumption | exact allLt_out (And.right (by assumption))); (case b => first | exact Nat.le_refl _ | omega)))
local macro_rules | `(tactic| walk_at "exec For Name Name cons nil") => `(tactic| (k_here; (rename Fr _ _ _ _ => lF'); (with_unfolding_all refine' For_invVF lF' ?k1 ?k2 ?_; (case k1 => exact rfl); (case k2 => exact rfl); k_whole)))
local macro_rules | `(tactic| walk_at "call builtin:pow") => `(tactic| (k_here; (with_reducible show wpAny _ _ (call (Value.builtin "pow") [Value.int _ _, Value.int _ _, Value.int _ _]) _ _ _); (refine call_pow3i (by k_extra "pow nn") (by k_extra "pow m") ?_)))
local macro_rules | `(tactic| walk_at "exec For Name Call cons cons") => `(tactic| (k_here; (rename Fr _ _ _ _ => lF'); (with_unfolding_all refine' for_else (PySem.Str.ofString "x") lF' ?fe1 ?fe2 ?_; (case fe1 => exact rfl); (case fe2 => exact rfl); k_whole)))
local macro_rules | `(tactic| walk_at "ElseAt") => `(tactic| (k_here; k_extra "else"))
local macro_rules | `(tactic| walk_at "ElsePost") => `(tactic| (dsimp only [ElsePost]))
local macro_rules | `(tactic| walk_at "ElseEnd") => `(tactic| (k_here; k_extra "elsend"))
local macro_rules | `(tactic| walk_at "TupPost") => `(tactic| (dsimp only [TupPost]))
local macro_rules | `(tactic| walk_at "TupEnd") => `(tactic| (k_here; k_extra "tupend"))
local macro_rules | `(tactic| walk_at "pyIter ref") => `(tactic| (k_here; k_extra "src"))
local macro_rules | `(tactic| walk_at "exec If") => `(tactic| (k_here; (with_reducible show wpAny _ _ (exec (PySem.Stmt.If (PySem.Expr.BoolOp _ _ _) _ _ _) _) _ _ _); k_extra "ifx"))
local macro_rules | `(tactic| walk_at "exec If") => `(tactic| (k_here; (with_reducible show wpAny _ _ (exec (PySem.Stmt.If (PySem.Expr.Compare _ [_, _] _ _) _ _ _) _) _ _ _); k_extra "ifg"))
local macro_rules | `(tactic| walk_at "JS0") => `(tactic| first | (exfalso; k_extra "jsret") | (refine JS0.intro (by assumption) (by first | assumption | exact news_d1 (by assumption)) (by intro y hy; first | rfl | ((simp only [List.contains_cons, List.contains_nil, Bool.or_false, Bool.or_eq_false_iff, beq_eq_false_iff_ne, ne_eq] at hy); (simp [hy]; done)))))
local macro_rules | `(tactic| walk_at "JS1") => `(tactic| (refine JS1.intro (by assumption) (by first | assumption | exact news_d1 (by assumption)) (by exact rfl) (by k_extra "jsD") (by intro y h9y hy; first | rfl | ((simp only [List.contains_cons, List.contains_nil, Bool.or_false, Bool.or_eq_false_iff, beq_eq_false_iff_ne, ne_eq] at hy); (simp [hy, h9y]; done)))))
local macro_rules | `(tactic| walk_at "subscriptTail Call") => `(tactic| (k_here; (with_reducible show wpAny _ _ (subscriptTail _ (Expr.Slice (some _) none none _) (Value.str _ _) _) _ _ _); k_extra "slice"))
local macro_rules | `(tactic| walk_at "call builtin:bin") => `(tactic| (k_here; (with_reducible show wpAny _ _ (call (Value.builtin "bin") [Value.int _ _]) _ _ _); k_extra "bin"))
local macro_rules | `(tactic| walk_at "call ref") => `(tactic| (k_here; (with_reducible show wpAny _ _ (call (Value.ref 21) [Value.int _ _, Value.int _ _]) _ _ _); k_dflt (refine' gcd_spec  ?k1 ?k2 ?k3 ?k4 ?k5 ?kK ?kH ?kd ?ku ?_; (case k1 => k_asm); (case k2 => k_asm); (case k3 => k_asm); (case k4 => k_asm); (case k5 => k_asm); (case kK => first | exact rfl | assumption); (case kH => first | trivial | k_asm);  (case kd => ktr_room); (case ku => ktr_units)); intro t9 h9 tk9 F9 N9; (try dsimp only); (try k_fold)))
local macro_rules | `(tactic| walk_at "call ref") => `(tactic| (k_here; (with_reducible show wpAny _ _ (call (Value.ref 40) [Value.int _ _, Value.int _ _]) _ _ _); k_dflt (refine' modinv_spec ?kp0 ?kp1 ?kp2 ?kp3 ?k1 ?k2 ?k3 ?k4 ?k5 ?kK ?kH ?kd ?ku ?_; (case k1 => k_asm); (case k2 => k_asm); (case k3 => k_asm); (case k4 => k_asm); (case k5 => k_asm); (case kK => first | exact rfl | assumption); (case kH => first | trivial | k_asm); (case kp0 => first | assumption | k_extra "modinv_spec 0" | omega | l_fit | decide); (case kp1 => first | assumption | k_extra "modinv_spec 1" | omega | l_fit | decide); (case kp2 => first | assumption | k_extra "modinv_spec 2" | omega | l_fit | decide); (case kp3 => first | assumption | k_extra "modinv_spec 3" | omega | l_fit | decide); (case kd => ktr_room); (case ku => ktr_units)); intro z9 t9 h9 tk9 P9 F9 N9; (try dsimp only); (try k_fold)))
local macro_rules | `(tactic| walk_at "call ref") => `(tactic| (k_here; (with_reducible show wpAny _ _ (call (Value.ref 63) [Value.int _ _, Value.int _ _]) _ _ _); k_extra "jac"))
local macro_rules | `(tactic| walk_at "call ref") => `(tactic| (k_here; (with_reducible show wpAny _ _ (call (Value.ref 63) [Value.int _ _, Value.int _ _]) _ _ _); k_dflt (refine' jac_spec ?kp0 ?kp1 ?kp2 ?kp3 ?kp4 ?kp5 ?k1 ?k2 ?k3 ?k4 ?k5 ?kK ?kH ?kd ?ku ?_; (case k1 => k_asm); (case k2 => k_asm); (case k3 => k_asm); (case k4 => k_asm); (case k5 => k_asm); (case kK => first | exact rfl | assumption); (case kH => first | trivial | k_asm); (case kp0 => first | assumption | k_extra "jac_spec 0"); (case kp1 => first | assumption | k_extra "jac_spec 1"); (case kp2 => first | assumption | k_extra "jac_spec 2"); (case kp3 => first | assumption | k_extra "jac_spec 3"); (case kp4 => first | assumption | k_extra "jac_spec 4"); (case kp5 => first | assumption | k_extra "jac_spec 5"); (case kd => ktr_room); (case ku => ktr_units)); intro t9 h9 tk9 F9 N9; (try dsimp only); (try k_fold)))
set_option maxRecDepth 100000 in
set_option maxHeartbeats 8000000 in
theorem ipg_luc {w : World} {l : Addr} {vs us : List Value} {ns : List Int} {n : Int} {t1 : Tok} (hI : IntsAre vs ns) (hns : ∀ p ∈ ns, 3 ≤ p ∧ p ≤ 59) {K f0 : Nat} {D : Int} {B : Bool} (hn : NB9 n) (ho : n.fmod 2 ≠ 0) (hdv : ∀ q ∈ ns, n.fmod q ≠ 0) (hp : SPass n) (hs : srch K f0 5 n = some (.inr D)) (hg : ¬ (1 < ((Int.gcd n ((1 - D).fdiv 4) : Nat) : Int) ∧ ((Int.gcd n ((1 - D).fdiv 4) : Nat) : Int) < n)) (hDb : D.natAbs < 2 ^ 800) (hDc : Cop D n) (hLE : LE n ((1 - D).fdiv 4) B) : ClG w 72 3 l vs n t1 us (fun _ => .bool B) := by
  k_with_none
  dsimp only [ClG, ClaimG, Ret]
  k_fill
  intro loose mean mg mb news dp un gd cn cs a ccd cl outer A₀ base h₀ L m s Q E hB F X N hm T hk hd hu hret
  refine wpAny_call ?_
  (k_dflt (refine' code_def (binds := [(Str.ofString "n", .int n t1), (Str.ofString "tb", .ref l)]) ?k1 ?k2 ?k3 ?k4 ?k5 ?kA ?kF ?kK ?k6 ?k7 ?k8 ?k9 ?kB ?_ ?c2 ?c3 ?c4 ?c5; (case kA => exact rfl); (case kF => exact rfl); (case kK => assumption); (case k1 => k_asm); (case k2 => k_asm); (case k3 => k_asm); (case k4 => k_asm); (case k5 => k_asm); (case k6 => k_is); (case k7 => k_is); (case k8 => ktr_room); (case k9 => (rcases hm with ⟨e9, _⟩ | ⟨e9, e9l, _⟩ <;> (try subst e9l) <;> subst e9 <;> exact binds_K (by k_in) rfl (by k_is) rfl rfl rfl)); (case c5 => decide); (case kB => exact locs rfl); (case c2 => exact rfl); (case c3 => exact rfl); (case c4 => exact rfl); k_whole; intro g' L' h' FG' F' N' B' X' T'; (try dsimp only); (try k_lift B'); (try k_fold)))
  k_with "binaryOp Mult int int" => (refine mul_int ?_ (lm2 (by first | exact two_bd | exact p2up (lt9_bd hn (by with_reducible first | exact lt9_mod hn _ | exact lq_v (by assumption) | exact lq_q (by assumption) | exact lb_v (by assumption) | exact lb_w (by assumption) | exact lb_q (by assumption) | exact lb_Q (by assumption) | exact inv_l (by assumption))) | exact tw hn (by with_reducible first | exact lt9_mod hn _ | exact lq_v (by assumption) | exact lq_q (by assumption) | exact lb_v (by assumption) | exact lb_w (by assumption) | exact lb_q (by assumption) | exact lb_Q (by assumption) | exact inv_l (by assumption)) | exact tws hn (by with_reducible first | exact lt9_mod hn _ | exact lq_v (by assumption) | exact lq_q (by assumption) | exact lb_v (by assumption) | exact lb_w (by assumption) | exact lb_q (by assumption) | exact lb_Q (by assumption) | exact inv_l (by assumption)) (by with_reducible first | exact lt9_mod hn _ | exact lq_v (by assumption) | exact lq_q (by assumption) | exact lb_v (by assumption) | exact lb_w (by assumption) | exact lb_q (by assumption) | exact lb_Q (by assumption) | exact inv_l (by assumption))) (by first | exact lt9_bd hn (by with_reducible first | exact lt9_mod hn _ | exact lq_v (by assumption) | exact lq_q (by assumption) | exact lb_v (by assumption) | exact lb_w (by assumption) | exact lb_q (by assumption) | exact lb_Q (by assumption) | exact inv_l (by assumption)) | exact bbd hDb)))
  k_with "modinv_spec 0" => omega
  k_with "modinv_spec 1" => exact hn.2
  k_with "modinv_spec 2" => exact hDc
  k_with "modinv_spec 3" => exact dbd hDb
  have hn3 := hn.1
  have hn0 : n ≠ 0 := by omega
  have hm2 : ¬ (n.fmod 2 = 0 ∨ n < 3) := by omega
  k_with "pow nn" => first | decide | exact hf_nn (by assumption)
  k_with "pow m" => omega
  k_with "exec While Compare cons nil" => first
    | (have h9g := (by assumption : SR K f0 n (.inr D) _ ∨ True); k_while (fun script t s => Hf ((n + 1).fdiv 2) t s) (fun script t s => t.toNat) "t" "s")
    | k_while (fun script t s => Hf ((n - 1).fdiv 2) t s) (fun script t s => t.toNat) "t" "s"
  k_with "exec While Constant cons nil" => first
    | ((fail_if_success (with_reducible show wpAny _ _ _ (JS1 _ _ _ _ _ _ _ _) _ _)); (refine' join_stmt1 [Str.ofString "c", Str.ofString "j"] (Str.ofString "D") D ?jsF ?jsN ?_ ?_; (case jsF => assumption); (case jsN => assumption)); rotate_left; (intro h7 tk7 u7 tx7 F8 N8; have h9D : SR K f0 n (.inr D) 5 ∨ True := .inr trivial); rotate_right; (all_goals (try k_fold)))
    | k_while (fun script c => SR K f0 n (.inr D) c) (fun script c => (5 + 4 * (f0 : Int) - c).toNat) "c"
  k_with "jsD" => first | exact (Sum.inr.inj (hm8 (by assumption))).symm | exact (Sum.inr.inj (hm9 (by assumption))).symm
  k_with "measure" => first | exact hf_meas (by assumption) (by assumption) | (have h9c := sr_c (by assumption : SR K f0 n (.inr D) _); omega)
  k_with "ifg" => ((fail_if_success (with_reducible show wpAny _ _ _ (JS0 _ _ _ _ _ _) _ _)); (refine' join_stmt0 [] ?jsF ?jsN ?_ ?_; (case jsF => assumption); (case jsN => assumption)); rotate_left; (intro h7 tk7 u7 F8 N8; have h9G : n = n ∧ True := ⟨rfl, trivial⟩); rotate_right; (all_goals (try k_fold)))
  k_with "slice" => ((rename Fr _ _ _ _ => F7); (rename News _ _ _ _ => N7); refine slice_strN_sn F7 N7 (fun h7 t7 k7 F8 N8 => ?_) (hsz := bin_len (hf_nn (by assumption)) (hf_bd hn (by assumption))); (rw [bin_slice (hf_nn (by assumption))]); (try k_fold))
  k_with "bin" => (refine P.bin_of_int ?_ (bin_len (hf_nn (by assumption)) (hf_bd hn (by assumption))))
  k_with "pyIter str" => k_state (fun pre v w q Q => LB n ((1 - D).fdiv 4) pre v w q Q) "v" "w" "q" "Q"
  k_with "jsret" => exact sqp_end (by assumption) (by assumption) (by assumption)
  k_with "ifx" => ((with_reducible show wpAny _ _ (exec (PySem.Stmt.If (PySem.Expr.BoolOp _ [PySem.Expr.Compare (PySem.Expr.Name (Str.ofString "x") _) _ _ _, _] _) _ _ _) _) _ _ _); (fail_if_success (with_reducible show wpAny _ _ _ (JS0 _ _ _ _ _ _) _ _)); (refine' join_stmt0 [Str.ofString "x", Str.ofString "j"] ?jsF ?jsN ?_ ?_; (case jsF => assumption); (case jsN => assumption)); rotate_left; (intro h7 tk7 u7 F8 N8); rotate_right; (all_goals (try k_fold)))
  k_with "src" => (k_dflt (refine' src_search (fun pre => True) ?ts0 ?ts1 ?ts2 ?ts3 ?ts4 ?ts5 ?ts6 ?_ ?_; (case ts1 => exact Mode.src hm); (case ts0 => exact rfl); (case ts2 => k_asm); (case ts3 => exact hI); (case ts4 => k_asm); (case ts5 => k_asm); (case ts6 => first | exact trivial | exact List.forall_mem_nil _)); (focus (intro pre8 k8 post8 t8 h8 tk8 own8 e8 hP8 F8 N8)); rotate_left; (focus (intro u8 h8 tk8 hP8 F8 N8)); rotate_right; (all_goals (try k_fold)))
  k_with "tupend" => (refine TupEnd.intro (by assumption) (by assumption) (by intro z h1; first | rfl | (simp only [h1, if_false, ↓reduceIte]; done) | (simp [h1]; done)) trivial)
  k_with "pyIter ref" => (k_of "_" => ( (have h9s := s_le2 hn (by assumption : Hf ((n + 1).fdiv 2) _ _); have h9l := s_lo (by assumption : Hf ((n + 1).fdiv 2) _ _); k_state_given ["s"] (fun s pre v q => LQ n B s pre v q) "v" "q")))
  k_with "else" => (refine' ⟨_, _, _, _, _, _, _, _, _, fun i x => SQP n i x, _, _, rfl, rfl, ?el1, ?el2, ?el3, ?el4, ?el5, ?el6, ?el7, ?_, ?_⟩; (case el1 => assumption); (case el2 => exact small_one (by decide) (by decide) (by have := s_lo (by assumption); omega) (by have := s_le hn (by assumption); omega)); (case el3 => exact rangeSize_nat _ _); (case el4 => assumption); (case el5 => assumption); (case el6 => rfl); (case el7 => exact sqp_start hp (by assumption) (by assumption) (by assumption) (by assumption)); (focus (intro i8 z8 k8 I8 oI8 t8 u8 h8 tk8 hi8 hk8 hJ8 F8 N8)); rotate_left; (focus (intro z8 u8 q8 h8 tk8 hJ8 F8 N8)); rotate_right; (all_goals (try k_fold)))
  k_with "elsend" => (refine' ⟨_, _, _, _, _, rfl, ?ee1, ?ee2, ?ee3, ?ee4, ?ee5⟩; (case ee1 => assumption); (case ee2 => assumption); (case ee3 => rfl); (case ee4 => (intro z h1 h2; first | rfl | (simp only [h1, h2, if_false, ↓reduceIte]; done) | (simp [h1, h2]; done))); (case ee5 => exact sqp_turn hJ8 (by assumption)))
  k_with "state" => first | trivial | exact sr_start hs | exact hr9 (jz hz9) (by assumption) | exact hf_start (nb_half2 hn) | exact lb_start hn | exact lb_one hn (by assumption) (one_yes (by assumption)) | exact lb_two hn (by assumption) (one_no (by assumption)) | exact lq_start hn (lv_of2 hLE (by assumption) (by assumption) (by assumption)) (by assumption : LB n ((1 - D).fdiv 4) _ _ _ _ _) (by assumption : Hf ((n + 1).fdiv 2) _ _) (by assumption) (by assumption) (by assumption) | exact lq_turn hn (by assumption) (by assumption) (by assumption) _ |  exact hf_start (nb_half hn) | exact hf_turn (by assumption) (by assumption) 
  k_with "jac" => first
    | (obtain ⟨j9, hj9, hz9, hm9, hr9⟩ := hr8 (jz hz8) (by assumption))
    | (obtain ⟨j8, hj8, hz8, hm8, hr8⟩ := sr_j (by assumption : SR K f0 n (.inr D) _))
  k_with "jac_spec 0" => omega
  k_with "jac_spec 1" => exact ho
  k_with "jac_spec 2" => exact hn.2
  k_with "jac_spec 3" => (have := sr_c (by assumption : SR K f0 n (.inr D) _); omega)
  k_with "jac_spec 4" => (have := sr_c (by assumption : SR K f0 n (.inr D) _); omega)
  k_with "ite" => first
    | with_reducible refine ite_beq_ne (sqp_one hn (by assumption)) ?_
    | with_reducible refine ite_beq_ne (jz (by assumption)) ?_
    | with_reducible refine ite_beq_ne (sr_ne13 (by assumption)) ?_
    | with_reducible refine ite_beq_ne (hdv k8 (by rw [e8]; simp)) ?_
  k_with "binaryOp Mod int int" => first | (refine mod_int' (by decide) ?_) | (refine mod_int' hn0 ?_) | (refine mod_int' (by have := hns k8 (by rw [e8]; simp); omega) ?_)
  k_steps
  all_goals first | (exfalso; omega) | (refine ret_bool (Q := Q) hret (by first | rfl | exact lv_zero (lv_of2 hLE (by assumption) (by assumption) (by assumption)) (by assumption) | exact lv_inv hn (lv_of2 hLE (by assumption) (by assumption) (by assumption)) (by assumption) (by assumption) | exact lq_hit (by assumption) (by assumption) (by assumption) | exact lq_end2 (by assumption) rfl) (by k_asm) (by first | k_asm | exact cb_drop (by assumption) (by kcj_all)))
end Mine
namespace Mine
theorem clg_up {w : World} {f d d' : Nat} {l : Addr} {ws : List Value} {n : Int} {t1 : Tok} {vs : List Value} {R : Tok → Value} (hd : d ≤ d') (h : ClG w f d l ws n t1 vs R) : ClG w f d' l ws n t1 vs R := by
  intro loose mean mg mb news dp un gd cn cs a ccd cl outer A₀ base h₀ L m s Q E h1 h2 h3 h4 h5 h6 h7 h8 h9 h10
  exact h h1 h2 h3 h4 h5 h6 h7 (by omega) (by omega) h10
theorem ipg_ends {w : World} {l : Addr} {vs us : List Value} {ns : List Int} {n : Int} {t1 : Tok} {K f0 : Nat} {B : Bool} (hI : IntsAre vs ns) (hns : ∀ p ∈ ns, 3 ≤ p ∧ p ≤ 59) (hn : NB9 n) (ho : n.fmod 2 ≠ 0) (hdv : ∀ q ∈ ns, n.fmod q ≠ 0) (h : Ends K f0 n B) : ClG w 72 3 l vs n t1 us (fun _ => .bool B) := by
  cases h with
  | fail h hB => subst hB; exact clg_up (by decide) (ipg_strong hI hns hn ho hdv h)
  | inl hp h => exact ipg_in hI hns hn ho hdv hp h
  | inr D hp h hg hD hc hl => exact ipg_luc hI hns hn ho hdv hp h hg hD hc hl
theorem g_list {w : World} {l : Addr} {c : Nat} {vs : List Value} {n : Int} {t1 : Tok} {d : Nat} {R : Tok → Value} (h : ClG w 72 d l vs n t1 [.int n t1, .ref l] R) : ClE w 72 d (l, listOf vs.toArray c) [.int n t1, .ref l] R := by
  intro loose mean mg mb news dp un gd cn cs a ccd cl outer A₀ base h₀ L m s Q E h1 h2 h3 h4 h5 h6 h7 h8 h9 h10
  exact h h1 h2 h3 h4 (.inl ⟨rfl, c, h5⟩) h6 h7 h8 h9 h10
set_option maxRecDepth 100000 in
theorem own_tup (w : World) : ∃ vs dd n sl, (hd12.heap_39 w.params).lookup 64 = some ⟨.type "tuple", dd, .seq (List.toArray vs) n, sl⟩ ∧ IntsAre vs basisF := by
  refine ⟨_, _, _, _, rfl, ?_⟩
  unfold basisF
  repeat (first | exact IntsAre.nil | refine IntsAre.cons _ _ ?_)
theorem g_own {w : World} {n : Int} {t1 : Tok} {d : Nat} {R : Tok → Value} (h : ∀ vs, IntsAre vs basisF → ClG w 72 d 64 vs n t1 [.int n t1] R) : Cl w 72 d (fun _ => True) [.int n t1] R := by
  obtain ⟨vs, dd, k, sl, e, hI⟩ := own_tup w
  have h' := @h vs hI
  intro loose mean mg mb news dp un gd cn cs a ccd cl outer A₀ base h₀ L m s Q E h1 h2 h3 h4 h6 h7 h8 h9 h10 h11
  exact h' h1 h2 h3 h4 (.inr ⟨rfl, rfl, dd, k, sl, e⟩) h6 h7 h9 h10 h11
theorem bas_bd {ns : List Int} (h : ∀ p ∈ ns, p ∈ basisF) : ∀ p ∈ ns, 3 ≤ p ∧ p ≤ 59 := fun p hp => bas_all p (h p hp)
theorem fst_prop {n p : Int} {ns : List Int} (h : fstDiv n ns = some p) : n.fmod p = 0 := by
  have := List.find?_some h
  simpa using this
end Mine
namespace Mine
section
variable {w : World} {l : Addr} {c : Nat} {vs us : List Value} {ns : List Int} {n b : Int} {t1 : Tok}
theorem isp_gen (hI : IntsAre vs ns) (hns : ∀ p ∈ ns, p ∈ basisF) (h : PP n) : ClG w 72 3 l vs n t1 us (fun _ => .bool true) := by
  obtain ⟨hb, ho, _⟩ := pp_nb h
  cases hf : fstDiv n ns with
  | none => exact ipg_ends hI (bas_bd hns) hb ho (fst_none hf) (pp_ends h)
  | some p =>
    have h' : ClG w 72 3 l vs n t1 us (fun _ => .bool (n == p)) := clg_up (by decide) (ipg_trial hI (bas_bd hns) hb ho hf)
    rw [pp_div h (hns p (fst_mem hf)) (fst_prop hf)] at h'
    first | exact h' | exact @h'
theorem isp_list (hI : IntsAre vs ns) (hns : ∀ p ∈ ns, p ∈ basisF) (h : PP n) : ClE w 72 3 (l, listOf vs.toArray c) [.int n t1, .ref l] (fun _ => .bool true) :=
  g_list (isp_gen hI hns h)
theorem isp_own (h : PP n) : Cl w 72 3 (fun _ => True) [.int n t1] (fun _ => .bool true) :=
  g_own (fun vs hI => isp_gen hI (fun _ h => h) h)
theorem isp_cgen (hI : IntsAre vs basisF) (hc : BC b) (h : PP n) : ClG w 72 3 l vs (b * n) t1 us (fun _ => .bool false) := by
  obtain ⟨hb, ho⟩ := cn_nb hc h
  cases hf : fstDiv (b * n) basisF with
  | none => exact absurd hf (cn_div hc n)
  | some p =>
    have h' : ClG w 72 3 l vs (b * n) t1 us (fun _ => .bool (b * n == p)) := clg_up (by decide) (ipg_trial hI (bas_bd fun _ h => h) hb ho hf)
    rw [beq_no (cn_ne hc h (fst_mem hf))] at h'
    first | exact h' | exact @h'
theorem isp_cn (hc : BC b) (h : PP n) : Cl w 72 3 (fun _ => True) [.int (b * n) t1] (fun _ => .bool false) :=
  g_own (fun vs hI => isp_cgen hI hc h)
theorem ppn_two (h : PP n) : (-n == 2) = false := by
  have := (pp_nb h).2.2
  exact beq_no (by omega)
theorem isp_neg (hI : IntsAre vs ns) (hns : ∀ p ∈ ns, p ∈ basisF) (h : PP n) : ClE w 72 3 (l, listOf vs.toArray c) [.int (-n) t1, .ref l] (fun _ => .bool false) := by
  have h' : ClG w 72 3 l vs (-n) t1 [.int (-n) t1, .ref l] (fun _ => .bool (-n == 2)) := clg_up (by decide) (ipg_even hI (bas_bd hns) (.inr (by have := (pp_nb h).2.2; omega)))
  rw [ppn_two h] at h'
  intro loose mean mg mb news dp un gd cn cs a ccd cl outer A₀ base h₀ L m s Q E
  exact g_list h'
end
theorem ite_bneB {x : Bool} {A B : Prop} (h : B) : if (x != x) = true then A else B := by
  rw [if_neg (by cases x <;> decide)]; exact h
theorem basOf_mem (mask : Int) : ∀ p ∈ basOf mask, p ∈ basisF := by
  intro p hp
  obtain ⟨k, hk, rfl⟩ := List.mem_map.mp hp
  have hk2 := mem_rangeKs (List.mem_filter.mp hk).1
  have : k.toNat < basisF.length := by show k.toNat < 16; omega
  rw [List.getD_eq_getElem?_getD, List.getElem?_eq_getElem this]
  exact List.getElem_mem this
theorem mask_nn (ns : List Int) (i : Int) : 0 ≤ drawF ns i 65536 := (draw_ok (q := 65536) (by decide) ns i).1
end Mine
namespace Mine
abbrev ClO (w : World) := ClaimO Challenge.rw_yt0004_12.row.prog w (hd12.heap_39 w.params) hd12.view_39
set_option maxRecDepth 100000 in
set_option maxHeartbeats 8000000 in
theorem one_spec {w : World} {l : Addr} {vs : List Value} {ns : List Int} {i : Int} {t2 : Tok} (hI : IntsAre vs ns) (hn : ns.length < 2 ^ 62) (h0 : 0 ≤ i) (hi : i < 100) : Cl w 80 1 (fun base => base.IsList l vs.toArray) [.ref l, .int i t2] (fun t => .int (oneF ns i) t) := by
  k_with_none
  dsimp only [Cl, Claim, Ret]
  k_fill
  intro loose mean mg mb news dp un gd cn cs a ccd cl outer A₀ base h₀ L m s Q E hB F X N T hk hH hd hu hret
  refine wpAny_call ?_
  (k_dflt cell_enter)
  k_steps
  all_goals first | (refine ret_int (Q := Q) hret (by unfold oneF; split <;> first | rfl | (exfalso; omega)) (by k_asm) (by first | k_asm | exact cb_drop (by assumption) (by kcj_all)))
local macro_rules | `(tactic| walk_at "call ref") => `(tactic| (k_here; (with_reducible show wpAny _ _ (call (Value.ref 80) [Value.ref _, Value.int _ _]) _ _ _); k_dflt (refine' one_spec ?kp0 ?kp1 ?kp2 ?kp3 ?k1 ?k2 ?k3 ?k4 ?k5 ?kK ?kH ?kd ?ku ?_; (case k1 => k_asm); (case k2 => k_asm); (case k3 => k_asm); (case k4 => k_asm); (case k5 => k_asm); (case kK => first | exact rfl | assumption); (case kH => first | trivial | k_asm); (case kp0 => first | assumption | k_extra "one_spec 0" | omega | l_fit | decide); (case kp1 => first | assumption | k_extra "one_spec 1" | omega | l_fit | decide); (case kp2 => first | assumption | k_extra "one_spec 2" | omega | l_fit | decide); (case kp3 => first | assumption | k_extra "one_spec 3" | omega | l_fit | decide); (case kd => ktr_room); (case ku => ktr_units)); intro t9 h9 tk9 F9 N9; (try dsimp only); (try k_fold)))
set_option maxRecDepth 100000 in
set_option maxHeartbeats 8000000 in
theorem draw_spec {w : World} {l : Addr} {vs : List Value} {ns : List Int} {i q : Int} {t2 t3 : Tok} (hI : IntsAre vs ns) (hn : ns.length < 2 ^ 62) (h0 : 0 ≤ i) (hi : i < 100) (hq : 0 < q) : Cl w 87 2 (fun base => base.IsList l vs.toArray) [.ref l, .int i t2, .int q t3] (fun t => .int (drawF ns i q) t) := by
  k_with_none
  dsimp only [Cl, Claim, Ret]
  k_fill
  intro loose mean mg mb news dp un gd cn cs a ccd cl outer A₀ base h₀ L m s Q E hB F X N T hk hH hd hu hret
  refine wpAny_call ?_
  (k_dflt cell_enter)
  have hq0 : q ≠ 0 := by omega
  k_with "binaryOp Mod int int" => (refine mod_int' hq0 ?_)
  k_steps
  all_goals first | (refine ret_int (Q := Q) hret (by rfl) (by k_asm) (by first | k_asm | exact cb_drop (by assumption) (by kcj_all)))
end Mine
namespace Mine
local macro_rules | `(tactic| k_all) => `(tactic| ((refine' allNe ?a ?b); (case a => first | with_reducible assumption | exact allLt_out (And.right (by assumption))); (case b => first | exact Nat.le_refl _ | omega)))
local macro_rules | `(tactic| walk_at "eval ListComp") => `(tactic| (k_here; k_dflt (refine LCt.ListComp_T (F₀ := by k_asm) (by with_unfolding_all rfl) (by decide) (by rfl) (by decide) (by rfl) ?_)))
local macro_rules | `(tactic| walk_at "CompSrcT") => `(tactic| (k_here; k_extra "comp"))
local macro_rules | `(tactic| walk_at "TestIs") => `(tactic| (refine TestIs.intro (by k_extra "test") (by assumption) (by assumption)))
local macro_rules | `(tactic| walk_at "truthy ref") => `(tactic| (k_here; k_extra "tru"))
local macro_rules | `(tactic| walk_at "KswEnd") => `(tactic| (k_here; k_extra "kend"))
local macro_rules | `(tactic| walk_at "call builtin:list.append") => `(tactic| (k_here; (with_reducible show wpAny _ _ (call (Value.builtin _) [Value.ref _, _]) _ _ _); k_dflt (refine' append_K ?apF ?apN ?apU ?_ ?apz; (case apF => k_asm); (case apN => k_asm); (case apU => k_upd); (case apz => k_extra "size")); intro h' F' N'; (try simp only [List.push_toArray] at N'); (try k_fold)))
local macro_rules | `(tactic| walk_at "IntIs") => `(tactic| (refine IntIs.intro (by assumption) (by assumption)))
local macro_rules | `(tactic| walk_at "subscriptTail Name") => `(tactic| (k_here; (with_reducible show wpAny _ _ (subscriptTail _ _ (Value.ref 73) (Value.int _ _)) _ _ _); k_extra "bas"))
set_option maxRecDepth 100000 in
set_option maxHeartbeats 8000000 in
theorem basis_spec {w : World} {n : Int} {t1 : Tok} (h0 : 0 ≤ n) : ClO w 92 1 (fun _ => True) [.int n t1] (basOf n) := by
  k_with_none
  dsimp only [ClO, ClaimO, RetO]
  k_fill
  intro loose mean mg mb news dp un gd cn cs a ccd cl outer A₀ base h₀ L m s Q E hB F X N T hk hH hd hu hret
  refine wpAny_call ?_
  (k_dflt (refine' code_defC ?k1 ?k2 ?k3 ?k4 ?k5 ?kA ?kF ?kK ?k6 ?k7 ?k8 ?k9 ?kB ?kD ?_ ?c2 ?c3 ?c4; (case kA => exact rfl); (case kF => exact rfl); (case kK => assumption); (case k1 => k_asm); (case k2 => k_asm); (case k3 => k_asm); (case k4 => k_asm); (case k5 => k_asm); (case k6 => k_is); (case k7 => k_is); (case k8 => ktr_room); (case k9 => first | exact BindsTo.of_eq rfl | exact binds_K (by k_in) rfl (by k_is) rfl rfl rfl); (case kB => exact rfl); (case kD => decide +kernel); (case c2 => exact rfl); (case c3 => exact rfl); (case c4 => exact rfl); k_whole; intro g' L' h' tk' cells' FG' F' N' Y' B' X' T' l1; (try k_lt l1); k_cells Y'; (try simp only [List.cons_append, List.nil_append] at N'); (try dsimp only); (try k_lift B'); (try k_fold)))
  k_with "comp" => ((rename IsRange _ _ _ _ _ _ _ _ => rgX); (refine LCt.CompSrcT.range (n := 16) (by with_unfolding_all exact rfl) (by k_asm) (by k_asm) rgX (by decide) (by decide) (by decide) ?_); intro g8; (refine' lct_range (fun k => decide ((n.fdiv (2 ^ k.toNat)).fmod 2 = 1)) (fun k => basisF.getD k.toNat 0) trivial (fun p tp I8 oI8 C8 oC8 D8 m8 ys8 h8 tk8 E8 hp hp2 hC8 hx8 F8 N8 off8 ne8 => ?_) (fun p tp I8 oI8 C8 oC8 D8 m8 ys8 h8 tk8 E8 hp hp2 hC8 hx8 F8 N8 off8 ne8 => ?_) (fun ys8 hys => ?_)); (all_goals (try (simp only [LCg.Off3, LCg.Off1, and_true] at off8))); (all_goals (try k_fold)))
  k_with "bas" => (refine' top_item (ns := basisF) ?tb1 ?tb2 ?tb3 ?tb4 ?tb5 ?tb6 ?tb7 (fun t8 => ?_); (case tb1 => k_asm); (case tb2 => k_asm); (case tb3 => k_is); (case tb4 => (unfold basisF; repeat (first | exact IntsAre.nil | refine IntsAre.cons _ _ ?_))); (case tb5 => omega); (case tb6 => (show _ < ((16 : Nat) : Int); omega)); (case tb7 => omega))
  k_with "test" => first | rfl | exact decide_eq_true (by assumption) | exact (decide_eq_true (by assumption)).symm | exact decide_eq_false (by assumption) | exact (decide_eq_false (by assumption)).symm | (simp only [*]; done) | (simp [*]; done)
  k_steps
  all_goals (refine hret _ _ _ _ _ (by exact hys) (by k_asm) (by first | k_asm | exact cb_drop (by assumption) (by kcj_all)) (by first | assumption | exact And.right (by assumption) | exact And.right (And.right (by assumption))))
end Mine
namespace Mine
local macro_rules | `(tactic| k_all) => `(tactic| ((refine' allNe ?a ?b); (case a => first | with_reducible assumption | exact allLt_out (And.right (by assumption))); (case b => first | exact Nat.le_refl _ | omega)))
local macro_rules | `(tactic| walk_at "exec For Name Call cons nil") => `(tactic| (k_here; (rename Fr _ _ _ _ => lF'); (with_unfolding_all refine' For_invVF lF' ?k1 ?k2 ?_; (case k1 => exact rfl); (case k2 => exact rfl); k_whole)))
local macro_rules | `(tactic| walk_at "exec For Name Tuple cons nil") => `(tactic| (k_here; (rename Fr _ _ _ _ => lF'); (with_unfolding_all refine' For_invVF lF' ?k1 ?k2 ?_; (case k1 => exact rfl); (case k2 => exact rfl); k_whole)))
local macro_rules | `(tactic| walk_at "TupPost") => `(tactic| (dsimp only [TupPost]))
local macro_rules | `(tactic| walk_at "TupEnd") => `(tactic| (k_here; k_extra "tupend"))
local macro_rules | `(tactic| walk_at "pyIter ref") => `(tactic| (k_here; (with_reducible show wpAny _ _ (pyIter (Value.ref 64)) _ _ _); k_extra "tup64x"))
local macro_rules | `(tactic| walk_at "call builtin:pow") => `(tactic| (k_here; (with_reducible show wpAny _ _ (call (Value.builtin "pow") [Value.int _ _, Value.int _ _, Value.int _ _]) _ _ _); (refine call_pow3i (by k_extra "pow nn") (by k_extra "pow m") ?_)))
local macro_rules | `(tactic| walk_at "pyIter ref") => `(tactic| (k_here; k_extra "lawloop"))
local macro_rules | `(tactic| walk_at "call ref") => `(tactic| (k_here; (with_reducible show wpAny _ _ (call (Value.ref 87) [Value.ref _, Value.int _ _, Value.int _ _]) _ _ _); k_dflt (refine' draw_spec ?kp0 ?kp1 ?kp2 ?kp3 ?kp4 ?k1 ?k2 ?k3 ?k4 ?k5 ?kK ?kH ?kd ?ku ?_; (case k1 => k_asm); (case k2 => k_asm); (case k3 => k_asm); (case k4 => k_asm); (case k5 => k_asm); (case kK => first | exact rfl | assumption); (case kH => first | trivial | k_asm); (case kp0 => first | assumption | k_extra "draw_spec 0" | omega | l_fit | decide); (case kp1 => first | assumption | k_extra "draw_spec 1" | omega | l_fit | decide); (case kp2 => first | assumption | k_extra "draw_spec 2" | omega | l_fit | decide); (case kp3 => first | assumption | k_extra "draw_spec 3" | omega | l_fit | decide); (case kp4 => first | assumption | k_extra "draw_spec 4" | omega | l_fit | decide); (case kd => ktr_room); (case ku => ktr_units)); intro t9 h9 tk9 F9 N9; (try dsimp only); (try k_fold)))
set_option maxRecDepth 100000 in
set_option maxHeartbeats 8000000 in
theorem proth_spec {w : World} {l : Addr} {vs : List Value} {ns : List Int} {i : Int} {t2 : Tok} (hI : IntsAre vs ns) (hn : ns.length < 2 ^ 62) (h0 : 0 ≤ i) (hi : i < 90) : ClI w 99 3 (fun base => base.IsList l vs.toArray) [.ref l, .int i t2] (PP) := by
  k_with_none
  dsimp only [ClI, ClaimI, RetI]
  k_fill
  intro loose mean mg mb news dp un gd cn cs a ccd cl outer A₀ base h₀ L m s Q E hB F X N T hk hH hd hu hret
  refine wpAny_call ?_
  (k_dflt cell_enter)
  k_with "storeName int" => first
    | ((with_reducible show wpAny _ _ (storeName _ (Str.ofString "k") _) _ _ _); refine store_some KP (kp_ok _ _) ?_; intro k0 h9k)
    | ((with_reducible show wpAny _ _ (storeName _ (Str.ofString "half") _) _ _ _); with_reducible refine store_draw ?_; intro f0)
    | ((with_reducible show wpAny _ _ (storeName _ (Str.ofString "h") _) _ _ _); refine store_some (HP k0) (hp_ok (by assumption) _) ?_; intro h0 h9h)
    | ((with_reducible show wpAny _ _ (storeName _ (Str.ofString "n") _) _ _ _); refine store_some NP (np_ok (by assumption) (by assumption)) ?_; intro n0 h9n)
  k_with "draw_spec 4" => first | decide | exact kp_pos (by assumption)
  k_with "binaryOp Mod int int" => (refine mod_int' (kp_ne (by assumption)) ?_)
  k_with "binaryOp Pow int int" => first | (refine pow_int (kp_nn (by assumption)).2.1 (by (have h8k := kp_nn (by assumption : KP k0); have h8b : (PySem.Builtin.Int.intBits 2 : Int) = 2 := by decide); rw [h8b]; omega) ?_) | (refine pow_int (kp_nn (by assumption)).1 (by (have h8k := kp_nn (by assumption : KP k0); have h8b : (PySem.Builtin.Int.intBits 2 : Int) = 2 := by decide); rw [h8b]; omega) ?_)
  k_with "binaryOp Mult int int" => (refine mul_int ?_ (mul_hp (by assumption) (by assumption)))
  k_with "pow nn" => first | exact np_half (by assumption) | (have h8n := np_lo (by assumption : NP n0); omega)
  k_with "pow m" => (have h8n := np_lo (by assumption : NP n0); omega)
  k_with "lawloop" => first
    | (k_of "step" => (k_search (fun (pre : List Int) => True)))
    | (k_dflt (refine' tupL_search (ns := [3, 5, 7, 11, 13]) (fun pre => True) ?ts0 ?ts1 ?ts3 ?ts4 ?ts5 ?ts6 ?_ ?_; (case ts0 => exact rfl); (case ts4 => k_asm); (case ts5 => k_asm); (case ts1 => exact List.Mem.head _); (case ts3 => repeat (first | exact IntsAre.nil | refine IntsAre.cons _ _ ?_)); (case ts6 => exact trivial)); (focus (intro pre8 k8 post8 t8 h8 tk8 own8 e8 hP8 F8 N8)); rotate_left; (focus (intro u8 h8 tk8 hP8 F8 N8)); rotate_right; (all_goals (try k_fold)))
  k_with "tupend" => (refine TupEnd.intro (by assumption) (by assumption) (by intro z h1; first | rfl | (simp only [h1, if_false, ↓reduceIte]; done) | (simp [h1]; done)) trivial)
  k_with "state" => trivial
  k_steps
  all_goals (refine hret _ _ _ _ (by first | exact pp_last | exact pp_hit (a := k8) (by assumption) (by rw [e8]; simp) (by assumption)) (by k_asm) (by first | k_asm | exact cb_drop (by assumption) (by kcj_all)))
end Mine
open Mine
local macro_rules | `(tactic| walk_at "exec For Name Name cons nil") => `(tactic| (k_here; (rename Fr _ _ _ _ => lF'); (with_unfolding_all refine' For_invVF lF' ?k1 ?k2 ?_; (case k1 => exact rfl); (case k2 => exact rfl); k_whole)))
local macro_rules | `(tactic| k_mem) => `(tactic| first | with_reducible assumption | assumption)
local macro_rules | `(tactic| k_memK) => `(tactic| first | with_reducible assumption | assumption)
local macro_rules | `(tactic| walk_at "subscriptTail Name") => `(tactic| (k_here; (with_reducible show wpAny _ _ (subscriptTail _ _ (Value.ref 73) (Value.int _ _)) _ _ _); k_extra "bas"))
local macro_rules | `(tactic| walk_at "call ref") => `(tactic| (k_here; (with_reducible show wpAny _ _ (call (Value.ref 92) [Value.int _ _]) _ _ _); k_dflt (refine' basis_spec ?kp0 ?k1 ?k2 ?k3 ?k4 ?k5 ?kK ?kH ?kd ?ku ?_; (case k1 => k_asm); (case k2 => k_asm); (case k3 => k_asm); (case k4 => k_asm); (case k5 => k_asm); (case kK => first | exact rfl | assumption); (case kH => first | trivial | k_asm); (case kp0 => first | assumption | k_extra "basis_spec 0" | omega | l_fit | decide); (case kd => ktr_room); (case ku => ktr_units)); intro D9 vs9 c9 h9 tk9 I9 F9 N9 o9; (try simp only [LCg.Off1, and_true] at o9); (try dsimp only); (try k_fold)))
local macro_rules | `(tactic| walk_at "call ref") => `(tactic| (k_here; (with_reducible show wpAny _ _ (call (Value.ref 87) [Value.ref _, Value.int _ _, Value.int _ _]) _ _ _); k_dflt (refine' draw_spec ?kp0 ?kp1 ?kp2 ?kp3 ?kp4 ?k1 ?k2 ?k3 ?k4 ?k5 ?kK ?kH ?kd ?ku ?_; (case k1 => k_asm); (case k2 => k_asm); (case k3 => k_asm); (case k4 => k_asm); (case k5 => k_asm); (case kK => first | exact rfl | assumption); (case kH => first | trivial | k_asm); (case kp0 => first | assumption | k_extra "draw_spec 0" | omega | l_fit | decide); (case kp1 => first | assumption | k_extra "draw_spec 1" | omega | l_fit | decide); (case kp2 => first | assumption | k_extra "draw_spec 2" | omega | l_fit | decide); (case kp3 => first | assumption | k_extra "draw_spec 3" | omega | l_fit | decide); (case kp4 => first | assumption | k_extra "draw_spec 4" | omega | l_fit | decide); (case kd => ktr_room); (case ku => ktr_units)); intro t9 h9 tk9 F9 N9; (try dsimp only); (try k_fold)))
local macro_rules | `(tactic| walk_at "call ref") => `(tactic| (k_here; (with_reducible show wpAny _ _ (call (Value.ref 99) [Value.ref _, Value.int _ _]) _ _ _); k_dflt (refine' proth_spec ?kp0 ?kp1 ?kp2 ?kp3 ?k1 ?k2 ?k3 ?k4 ?k5 ?kK ?kH ?kd ?ku ?_; (case k1 => k_asm); (case k2 => k_asm); (case k3 => k_asm); (case k4 => k_asm); (case k5 => k_asm); (case kK => first | exact rfl | assumption); (case kH => first | trivial | k_asm); (case kp0 => first | assumption | k_extra "proth_spec 0" | omega | l_fit | decide); (case kp1 => first | assumption | k_extra "proth_spec 1" | omega | l_fit | decide); (case kp2 => first | assumption | k_extra "proth_spec 2" | omega | l_fit | decide); (case kp3 => first | assumption | k_extra "proth_spec 3" | omega | l_fit | decide); (case kd => ktr_room); (case ku => ktr_units)); intro z9 t9 h9 tk9 P9 F9 N9; (try dsimp only); (try k_fold)))
local macro_rules | `(tactic| walk_at "call ref") => `(tactic| (k_here; (with_reducible show wpAny _ _ (call (Value.ref 72) [Value.int _ _, Value.ref _]) _ _ _); k_dflt (refine' isp_list ?kp0 ?kp1 ?kp2 ?k1 ?k2 ?k3 ?k4 ?km ?k5 ?kK ?kd ?ku ?_; (case k1 => k_asm); (case k2 => k_asm); (case k3 => k_asm); (case k4 => k_asm); (case km => k_mem); (case k5 => k_asm); (case kK => first | exact rfl | assumption); (case kp0 => first | assumption | k_extra "isp_list 0"); (case kp1 => first | assumption | k_extra "isp_list 1"); (case kp2 => first | assumption | k_extra "isp_list 2"); (case kd => ktr_room); (case ku => ktr_units)); intro t9 h9 tk9 F9 N9; (try dsimp only); (try k_fold)))
local macro_rules | `(tactic| walk_at "call ref") => `(tactic| (k_here; (with_reducible show wpAny _ _ (call (Value.ref 72) [Value.int _ _, Value.ref _]) _ _ _); k_dflt (refine' isp_neg ?kp0 ?kp1 ?kp2 ?k1 ?k2 ?k3 ?k4 ?km ?k5 ?kK ?kd ?ku ?_; (case k1 => k_asm); (case k2 => k_asm); (case k3 => k_asm); (case k4 => k_asm); (case km => k_mem); (case k5 => k_asm); (case kK => first | exact rfl | assumption); (case kp0 => first | assumption | k_extra "isp_neg 0"); (case kp1 => first | assumption | k_extra "isp_neg 1"); (case kp2 => first | assumption | k_extra "isp_neg 2"); (case kd => ktr_room); (case ku => ktr_units)); intro t9 h9 tk9 F9 N9; (try dsimp only); (try k_fold)))
local macro_rules | `(tactic| walk_at "call ref") => `(tactic| (k_here; (with_reducible show wpAny _ _ (call (Value.ref 72) [Value.int _ _]) _ _ _); k_dflt (refine' isp_own ?kp0 ?k1 ?k2 ?k3 ?k4 ?k5 ?kK ?kH ?kd ?ku ?_; (case k1 => k_asm); (case k2 => k_asm); (case k3 => k_asm); (case k4 => k_asm); (case k5 => k_asm); (case kK => first | exact rfl | assumption); (case kH => first | trivial | k_asm); (case kp0 => first | assumption | k_extra "isp_own 0"); (case kd => ktr_room); (case ku => ktr_units)); intro t9 h9 tk9 F9 N9; (try dsimp only); (try k_fold)))
local macro_rules | `(tactic| walk_at "call ref") => `(tactic| (k_here; (with_reducible show wpAny _ _ (call (Value.ref 72) [Value.int _ _]) _ _ _); k_dflt (refine' isp_cn ?kp0 ?kp1 ?k1 ?k2 ?k3 ?k4 ?k5 ?kK ?kH ?kd ?ku ?_; (case k1 => k_asm); (case k2 => k_asm); (case k3 => k_asm); (case k4 => k_asm); (case k5 => k_asm); (case kK => first | exact rfl | assumption); (case kH => first | trivial | k_asm); (case kp0 => first | assumption | k_extra "isp_cn 0"); (case kp1 => first | assumption | k_extra "isp_cn 1"); (case kd => ktr_room); (case ku => ktr_units)); intro t9 h9 tk9 F9 N9; (try dsimp only); (try k_fold)))
set_option maxRecDepth 100000 in
set_option maxHeartbeats 8000000 in
theorem PySem.Challenge.cw_yt0004_12_holds : PySem.Challenge.rw_yt0004_12.Holds := by
  refine hd12 ?_
  k_with_none
  k_with "ite" => first | with_reducible refine ite_bne ?_ | with_reducible refine ite_beq ?_
  k_with "ite" => first | with_reducible refine ite_bneB ?_ | with_reducible refine ite_bne ?_ | with_reducible refine ite_beq ?_
  k_with "draw_spec 4" => decide
  k_with "basis_spec 0" => exact mask_nn _ _
  k_with "isp_list 1" => exact basOf_mem _
  k_with "isp_list 2" => exact (by assumption)
  k_with "isp_neg 1" => exact basOf_mem _
  k_with "isp_neg 2" => exact (by assumption)
  k_with "isp_own 0" => exact (by assumption)
  k_with "isp_cn 0" => exact (by assumption)
  k_with "isp_cn 1" => exact (by assumption)
  k_with "binaryOp Mult int int" => (refine mul_int ?_ (mul_cn (by assumption) (by assumption)))
  k_with "storeName int" => ((with_reducible show wpAny _ _ (storeName _ (Str.ofString "c") _) _ _ _); refine store_some BC (bc_ok (draw_ok (q := 16) (by decide) _ _).1 (draw_ok (q := 16) (by decide) _ _).2) ?_; intro c0 h9c)
  k_with "bas" => (refine' top_item (ns := basisF) ?tb1 ?tb2 ?tb3 ?tb4 ?tb5 ?tb6 ?tb7 (fun t8 => ?_); (case tb1 => k_asm); (case tb2 => k_asm); (case tb3 => k_is); (case tb4 => (unfold basisF; repeat (first | exact IntsAre.nil | refine IntsAre.cons _ _ ?_))); (case tb5 => exact (draw_ok (q := 16) (by decide) _ _).1); (case tb6 => exact (draw_ok (q := 16) (by decide) _ _).2); (case tb7 => exact Int.lt_trans (draw_ok (q := 16) (by decide) _ _).2 (by decide)))
  w_strict (
    k_go0
    all_goals try k_fold
    repeat' (first | (k_unfold; (try dsimp only)) | (k_end; refine' Mine.good_true ?gF ?gg ?go; (case go => rfl); (case gg => k_asm); (case gF => k_asm)) | (k_end; k_extra "my end") | (k_end; wrow_close) | walk1 | (dsimp only; walk1) | (leave1; walk_say "STEP leave1"; try dsimp only) | fail "no step"))
