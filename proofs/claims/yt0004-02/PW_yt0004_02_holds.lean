import PyProof.Rows.All
import Wide.All
import OpenK.AllK
import Wide.FinOn
import PySem.Challenge.RW_yt0004_02
open PySem PySem.W PyProof.Rows PySem.Calls PySem.Spec
set_option Elab.async false
set_option rowWalk.seconds 0
set_option maxRecDepth 100000
namespace Mine
abbrev Ret (h₀ : Heap) (L : Addr) (m : Str → Option Value) (news : List (Addr × Obj)) (s : Shared) (Q : Value → Shared → Prop) (R : Tok → Value) : Prop :=
  ∀ (t : Tok) (h' : Heap) (tk' : Nat), Fr h₀ L h' m → News h₀ L h' news → Q (R t) { s with heap := h', toks := tk' }
/-- what a call of f at the values vs gives back, at whatever caller -/
abbrev Claim (prog : Program) (w : World) (K : Frag) (p : Program) (f : Addr) (d : Nat) (H : Heap → Prop) (vs : List Value) (R : Tok → Value) : Prop :=
  ∀ {loose : List Str} {mean : ExcName → Option Value} {mg mb : Str → Option Value} {news : List (Addr × Obj)} {dp un : Nat} {gd : Option (List Code)} {cn : Str} {cs : Scope} {a : Addr} {ccd : Value} {cl : List (Str × Addr)} {outer : List Env} {A₀ : Around} {base h₀ : Heap} {L : Addr} {m : Str → Option Value} {s : Shared} {Q E : Value → Shared → Prop},
    Below A₀ base outer h₀ → Fr h₀ L s.heap m → K.In h₀ → News h₀ L s.heap news → Top p loose mean mg mb h₀ → cs.kind = .function →
    H base → dp + d < recursionLimit → un + 8 * d < cLine → Ret h₀ L m news s Q R →
      wpAny (model prog w) (ktrTop dp un gd cn cs L a ccd cl outer) (call (.ref f) vs) Q E s
theorem ret_int {h₀ h' : Heap} {L : Addr} {m : Str → Option Value} {news : List (Addr × Obj)} {s : Shared} {Q : Value → Shared → Prop} {t : Tok} {tk' : Nat} {x y : Int} (hret : ∀ (t : Tok) (h' : Heap) (tk' : Nat), Fr h₀ L h' m → News h₀ L h' news → Q (.int x t) { s with heap := h', toks := tk' }) (e : y = x) (F : Fr h₀ L h' m) (N : News h₀ L h' news) : Q (.int y t) { s with heap := h', toks := tk' } := by
  subst e
  exact hret t h' tk' F N
theorem ret_bool {h₀ h' : Heap} {L : Addr} {m : Str → Option Value} {news : List (Addr × Obj)} {s : Shared} {Q : Value → Shared → Prop} {tk' : Nat} {x y : Bool} (hret : ∀ (_t : Tok) (h' : Heap) (tk' : Nat), Fr h₀ L h' m → News h₀ L h' news → Q (.bool x) { s with heap := h', toks := tk' }) (e : y = x) (F : Fr h₀ L h' m) (N : News h₀ L h' news) : Q (.bool y) { s with heap := h', toks := tk' } := by
  subst e
  exact hret 0 h' tk' F N
end Mine
namespace Mine
theorem good_true {l : OpenLaw} {cl : Str → Option Addr} {mean : ExcName → Option Value} {args : List WData} {s₁ s' : Shared} {L : Addr} {m : Str → Option Value} (F : Fr s₁.heap L s'.heap m) (hg : s'.gens = #[]) (hos : s'.os = s₁.os) :
    GoodW l.row.claim cl mean args s₁ (.ok (.ret (.bool true))) s' :=
  goodW_bool F hg (raisesW_false (fun _ h => nomatch h)) (postW_of rfl (w_eq_bool rfl rfl) rfl) hos
end Mine
namespace Mine
/-! sizes of ints -/
theorem bits_le {x : Int} {n : Nat} (h : x.natAbs < 2 ^ n) : PySem.Builtin.Int.intBits x ≤ n := by
  unfold PySem.Builtin.Int.intBits
  split
  · exact Nat.zero_le _
  · rename_i hx
    have hx' : x.natAbs ≠ 0 := by
      intro e
      apply hx
      have : x = 0 := Int.natAbs_eq_zero.mp e
      rw [this]; rfl
    have := (Nat.log2_lt hx').mpr h
    omega
theorem bits_lt {x : Int} : x.natAbs < 2 ^ PySem.Builtin.Int.intBits x := by
  unfold PySem.Builtin.Int.intBits
  split
  · rename_i h
    have : x = 0 := by simpa using h
    rw [this]; decide
  · exact Nat.lt_log2_self
theorem pow2_mono {a b : Nat} (h : a ≤ b) : 2 ^ a ≤ 2 ^ b := Nat.pow_le_pow_right (by decide) h
/-! the whole root -/
def rootN (r : Nat) : Nat → Nat
  | 0 => 0
  | n + 1 => if (rootN r n + 1) ^ r ≤ n + 1 then rootN r n + 1 else rootN r n
/-- the whole root of n ≥ 0 -/
def rootF (r n : Int) : Int := (rootN r.toNat n.toNat : Nat)
/-! Newton's step for the square root -/
def newt (n x : Int) : Int := (x + n.fdiv x).fdiv 2
/-- s is the whole root of n -/
def Sq (n s : Int) : Prop := 0 ≤ s ∧ s * s ≤ n ∧ n < (s + 1) * (s + 1)
end Mine
namespace Mine
abbrev cF (n : Int) : Int := (n * 4).fdiv 3
abbrev aF (n : Int) : Int := (↑(PySem.Builtin.Int.intBits (cF n)) : Int).fdiv (2 ^ Int.toNat 1)
abbrev xO (n : Int) : Int := (1 : Int) * 2 ^ (aF n).toNat
abbrev xE (n : Int) : Int := ((3 : Int) * 2 ^ (aF n).toNat).fdiv (2 ^ Int.toNat 2)
/-- the two starting values, and the loop's word -/
def IsqGood (n x y : Int) : Prop := (x = y ∧ x = rootF 2 n) ∨ (1 ≤ n ∧ 0 < x ∧ x.natAbs < 2 ^ 1900 ∧ y = newt n x)
/-- the loop's word -/
def IsqInv (n x y : Int) : Prop := 1 ≤ n ∧ rootF 2 n ≤ x ∧ x.natAbs < 2 ^ 1902 ∧ y = newt n x
end Mine
namespace Mine
abbrev kF (n r : Int) : Int := (↑(PySem.Builtin.Int.intBits n) : Int).fdiv r
/-- the first loop -/
def In1 (lo : Int) : Prop := 0 ≤ lo ∧ lo.natAbs < 2 ^ 1910
/-- the second loop -/
def In2 (up : Int) : Prop := 1 ≤ up ∧ up.natAbs < 2 ^ 1910
/-- the third loop -/
def In3 (n r lo up : Int) : Prop := 0 ≤ lo ∧ lo < up ∧ lo ^ r.toNat ≤ n ∧ n < up ^ r.toNat ∧ up.natAbs < 2 ^ 1910
end Mine
namespace Mine
/-- v's power r is n, and introot finds v -/
def Hit (n r v : Int) : Prop := v ^ r.toNat = n ∧ (0 ≤ v ∨ r.fmod 2 ≠ 0) ∧ 1 ≤ r ∧ r ≤ 1000 ∧ n.natAbs < 2 ^ 1900
/-- no whole number that introot tries has n as its power r -/
def Miss (n r : Int) : Prop := ((0 ≤ n ∧ (rootF r n) ^ r.toNat ≠ n) ∨ (n < 0 ∧ (r.fmod 2 = 0 ∨ (rootF r (-n)) ^ r.toNat ≠ -n))) ∧ 1 ≤ r ∧ r ≤ 1000 ∧ n.natAbs < 2 ^ 1900
/-! the two quick looks -/
end Mine
namespace Mine
theorem pw_kind : builtinKind "pow" = none := by decide +kernel
theorem pw_plain : plainId "pow" = true := by decide +kernel
theorem pw_entry : entryFor table "pow" = some Builtin.«pow» := entryFor_of_fast (by kernel_rfl)
theorem pw_args (a b c : Value) : argsOk "pow" ⟨[a, b, c], []⟩ := by unfold argsOk; kernel_rfl
theorem pw_args3 (a b c : Value) : argsOk "int.__pow__" ⟨[a, b, c], []⟩ := by unfold argsOk; kernel_rfl
section
variable {prog : Program} {w : World} {A : Around} {E : Value → Shared → Prop} {s : Shared} {a n m : Int} {t u z : Tok} {Q : Value → Shared → Prop}
theorem call_int_pow3 (hn : 0 ≤ n) (hm : 1 < m) (h : Q (.int (Builtin.powMod (a % (m.natAbs : Int)).toNat n.natAbs m.natAbs) s.toks) { s with toks := s.toks + 1 }) :
    wpAny (model prog w) A (call (.builtin "int.__pow__") [.int a t, .int n u, .int m z]) (fun v s' => v ≠ .notImplemented ∧ Q v s') E s := by
  refine wpAny_call_entry slot_int_pow (typeIs_int s a t) entry_int_pow ?_ (pw_args3 _ _ _)
  have hm0 : ¬ (m == 0) = true := by simp; omega
  have hm1 : ¬ (m.natAbs == 1) = true := by simp; omega
  have hn0 : ¬ n < 0 := by omega
  have hm2 : ¬ (decide (m < 0) && ((Builtin.powMod (a % (m.natAbs : Int)).toNat n.natAbs m.natAbs : Nat) : Int) != 0) = true := by
    rw [decide_eq_false (by omega : ¬ m < 0)]; simp
  show wpAny _ _ (if (m == 0) = true then _ else _) _ _ s
  rw [if_neg hm0]
  show wpAny _ _ (if (m.natAbs == 1) = true then _ else _) _ _ s
  rw [if_neg hm1]
  show wpAny _ _ (if n < 0 then _ else _) _ _ s
  rw [if_neg hn0]
  show wpAny _ _ (retInt (if (decide (m < 0) && ((Builtin.powMod (a % (m.natAbs : Int)).toNat n.natAbs m.natAbs : Nat) : Int) != 0) = true then _ else _)) _ _ s
  rw [if_neg hm2]
  repeat (first | refine wpAny_pure ?_ | refine wpAny_mkInt ?_ | refine wpAny_rule ?_ | refine wpAny_bind ?_)
  exact ⟨_, rfl, by simp, h⟩
end
end Mine
namespace Mine
section
variable {prog : Program} {w : World} {A : Around} {E : Value → Shared → Prop} {s : Shared} {a n m : Int} {t u z : Tok} {Q : Value → Shared → Prop}
set_option maxHeartbeats 4000000 in
theorem call_pow3 (hn : 0 ≤ n) (hm : 1 < m) (h : Q (.int (Builtin.powMod (a % (m.natAbs : Int)).toNat n.natAbs m.natAbs) s.toks) { s with toks := s.toks + 1 }) :
    wpAny (model prog w) A (call (.builtin "pow") [.int a t, .int n u, .int m z]) Q E s := by
  refine call_function_entry pw_kind pw_plain pw_entry (pw_args _ _ _) ?_
  obtain ⟨hp, g, d, tk, os⟩ := s
  have hT : (⟨hp, g, d, tk, os⟩ : Shared).TypeIs (.int a t) "int" := rfl
  have f3 := slot_int_pow.lookup
  have f4 := slot_int_pow.bind (.int a t)
  repeat (any_goals (first | assumption | ((with_reducible show wpAny _ _ (call (Value.builtin "int.__pow__") _ _) _ _ _); refine wpAny_mono (call_int_pow3 (Q := Q) hn hm h) (fun v s' hv => ?_) (fun _ _ x => x)) | wp_step))
  have f5 : typeLookup (Value.type "int") (Str.ofString "__pow__") = pure (some (Value.builtin "int.__pow__")) := f3
  rw [f5]
  refine wpAny_pure ?_
  dsimp only
  refine wpAny_bind ?_
  refine wpAny_callSpecial?_slot (id := "int.__pow__") hT slot_int_pow (wpAny_mono (call_int_pow3 (Q := Q) hn hm h) (fun v s' hv => ?_) (fun _ _ x => x))
  dsimp only
  have hne : (v != Value.notImplemented) = true := by simpa using hv.1
  rw [if_pos hne]
  repeat (first | refine wpAny_pure ?_ | refine wpAny_rule ?_ | refine wpAny_bind ?_)
  exact ⟨v, rfl, hv.2⟩
end
end Mine
namespace Mine
/-- what pow(a, n, m) gives -/
def powI (a n m : Int) : Int := ((Builtin.powMod (a % (m.natAbs : Int)).toNat n.natAbs m.natAbs : Nat) : Int)
theorem bit_step (e i : Nat) : e / 2 ^ i = 2 * (e / 2 ^ (i + 1)) + (if e.testBit i = true then 1 else 0) := by
  have h1 : e / 2 ^ (i + 1) = e / 2 ^ i / 2 := by rw [Nat.pow_succ, Nat.div_div_eq_div_mul]
  have h2 : e.testBit i = decide (e / 2 ^ i % 2 = 1) := Nat.testBit_eq_decide_div_mod_eq
  rw [h1, h2]
  generalize e / 2 ^ i = x
  by_cases h : x % 2 = 1
  · rw [decide_eq_true h, if_pos rfl]; omega
  · rw [decide_eq_false h, if_neg (by decide)]; omega
theorem pw_even (b q m : Nat) : b ^ q % m * (b ^ q % m) % m = b ^ (2 * q + 0) % m := by
  rw [Nat.add_zero, Nat.two_mul, Nat.pow_add b, ← Nat.mul_mod]
theorem pw_odd (b q m : Nat) : b ^ q % m * (b ^ q % m) % m * b % m = b ^ (2 * q + 1) % m := by
  rw [Nat.pow_succ b, Nat.two_mul, Nat.pow_add b, ← Nat.mul_mod, Nat.mod_mul_mod]
theorem powMod_go (b e m : Nat) : ∀ k, (List.range k).reverse.foldl (fun p i => if e.testBit i then p * p % m * b % m else p * p % m) (b ^ (e / 2 ^ k) % m) = b ^ e % m
  | 0 => by simp
  | k + 1 => by
    rw [List.range_succ, List.reverse_append, List.reverse_singleton, List.foldl_append]
    have ih := powMod_go b e m k
    have hs := bit_step e k
    have key : (if e.testBit k = true then b ^ (e / 2 ^ (k + 1)) % m * (b ^ (e / 2 ^ (k + 1)) % m) % m * b % m else b ^ (e / 2 ^ (k + 1)) % m * (b ^ (e / 2 ^ (k + 1)) % m) % m) = b ^ (e / 2 ^ k) % m := by
      generalize e / 2 ^ (k + 1) = q at hs ⊢
      rw [hs]
      by_cases h : e.testBit k = true
      · rw [if_pos h, if_pos h]; exact pw_odd b q m
      · rw [if_neg h, if_neg h]; exact pw_even b q m
    rw [List.foldl_cons, List.foldl_nil, key]
    exact ih
theorem emod_pow (a m : Int) : ∀ k : Nat, (a % m) ^ k % m = a ^ k % m
  | 0 => by rw [Int.pow_zero, Int.pow_zero]
  | k + 1 => by rw [Int.pow_succ, Int.pow_succ, Int.mul_emod, emod_pow a m k, Int.emod_emod, ← Int.mul_emod]
theorem powMod_eq (b e m : Nat) : Builtin.powMod b e m = b ^ e % m := by
  unfold Builtin.powMod
  have h := powMod_go b e m (Builtin.Int.intBits e)
  have hz : e / 2 ^ (Builtin.Int.intBits (e : Int)) = 0 := Nat.div_eq_of_lt (by simpa using bits_lt (x := (e : Int)))
  rw [hz, Nat.pow_zero] at h
  exact h
theorem powI_eq {a n m : Int} (hn : 0 ≤ n) (hm : 0 < m) : powI a n m = (a ^ n.toNat) % m := by
  unfold powI
  rw [powMod_eq]
  have hm' : (m.natAbs : Int) = m := by omega
  have hn' : n.natAbs = n.toNat := by omega
  rw [hm', hn', Int.natCast_emod, Int.natCast_pow, Int.toNat_of_nonneg (Int.emod_nonneg _ (by omega)), hm']
  exact emod_pow a m _
theorem powI_lo {a n m : Int} (hn : 0 ≤ n) (hm : 0 < m) : 0 ≤ powI a n m ∧ powI a n m < m := by
  rw [powI_eq hn hm]; exact ⟨Int.emod_nonneg _ (by omega), Int.emod_lt_of_pos _ hm⟩
end Mine
namespace Mine
theorem call_pow3i {prog : Program} {w : World} {A : Around} {E : Value → Shared → Prop} {s : Shared} {a n m : Int} {t u z : Tok} {Q : Value → Shared → Prop} (hn : 0 ≤ n) (hm : 1 < m) (h : Q (.int (powI a n m) s.toks) { s with toks := s.toks + 1 }) :
    wpAny (model prog w) A (call (.builtin "pow") [.int a t, .int n u, .int m z]) Q E s := call_pow3 hn hm h
end Mine
namespace Mine
abbrev RetL (h₀ : Heap) (L : Addr) (m : Str → Option Value) (news : List (Addr × Obj)) (s : Shared) (Q : Value → Shared → Prop) (ns : List Int) : Prop :=
  ∀ (D : Addr) (vs : List Value) (c : Nat) (h' : Heap) (tk' : Nat), IntsAre vs ns → Fr h₀ L h' m → News h₀ L h' ((D, listOf vs.toArray c) :: news) → (∀ p ∈ news, p.1 < D) → Q (.ref D) { s with heap := h', toks := tk' }
/-- a call that gives back a new list of ints -/
abbrev ClaimL (prog : Program) (w : World) (K : Frag) (p : Program) (f : Addr) (d : Nat) (H : Heap → Prop) (vs : List Value) (ns : List Int) : Prop :=
  ∀ {loose : List Str} {mean : ExcName → Option Value} {mg mb : Str → Option Value} {news : List (Addr × Obj)} {dp un : Nat} {gd : Option (List Code)} {cn : Str} {cs : Scope} {a : Addr} {ccd : Value} {cl : List (Str × Addr)} {outer : List Env} {A₀ : Around} {base h₀ : Heap} {L : Addr} {m : Str → Option Value} {s : Shared} {Q E : Value → Shared → Prop},
    Below A₀ base outer h₀ → Fr h₀ L s.heap m → K.In h₀ → News h₀ L s.heap news → Top p loose mean mg mb h₀ → cs.kind = .function →
    H base → dp + d < recursionLimit → un + 8 * d < cLine → RetL h₀ L m news s Q ns →
      wpAny (model prog w) (ktrTop dp un gd cn cs L a ccd cl outer) (call (.ref f) vs) Q E s
end Mine
namespace Mine
theorem allNe {d i : Addr} {l : List (Addr × Obj)} (h : ∀ p ∈ l, p.1 < i) (hle : @LE.le Nat _ i d) : ∀ p ∈ l, p.1 ≠ d := fun p hp => Nat.ne_of_lt (Nat.lt_of_lt_of_le (h p hp) hle)
theorem allLt_out {i : Addr} : ∀ {l : List (Addr × Obj)}, AllLt i l → ∀ p ∈ l, p.1 < i
  | [], _, _, h => nomatch h
  | _ :: _, x, q, h => by
    rcases List.mem_cons.mp h with e | h
    · rw [e]; exact x.1
    · exact allLt_out x.2 q h
end Mine
namespace Mine
/-- what primegen keeps out -/
def divs (found : List Int) (n : Int) : List Int := found.filter (fun p => decide (p * p ≤ n) && decide (n.fmod p = 0))
/-- primegen's list below 2 + k -/
def plN : Nat → List Int
  | 0 => []
  | k + 1 => if divs (plN k) (2 + k) = [] then plN k ++ [2 + (k : Int)] else plN k
def PG (n : Int) (found : List Int) (k : Int) : Prop := 2 ≤ k ∧ k ≤ n ∧ found = plN (k - 2).toNat ∧ (found.length : Int) ≤ k
end Mine
namespace Mine
abbrev tup2 (a b : Value) (c : Nat) : Obj := { cls := .type "tuple", data := .seq #[a, b] c }
abbrev RetT (h₀ : Heap) (L : Addr) (m : Str → Option Value) (news : List (Addr × Obj)) (s : Shared) (Q : Value → Shared → Prop) (R1 R2 : Tok → Value) : Prop :=
  ∀ (D : Addr) (t1 t2 : Tok) (c : Nat) (h' : Heap) (tk' : Nat), Fr h₀ L h' m → News h₀ L h' ((D, tup2 (R1 t1) (R2 t2) c) :: news) → (∀ p ∈ news, p.1 < D) → Q (.ref D) { s with heap := h', toks := tk' }
/-- a call that gives back a new pair -/
abbrev ClaimT (prog : Program) (w : World) (K : Frag) (p : Program) (f : Addr) (d : Nat) (H : Heap → Prop) (vs : List Value) (R1 R2 : Tok → Value) : Prop :=
  ∀ {loose : List Str} {mean : ExcName → Option Value} {mg mb : Str → Option Value} {news : List (Addr × Obj)} {dp un : Nat} {gd : Option (List Code)} {cn : Str} {cs : Scope} {a : Addr} {ccd : Value} {cl : List (Str × Addr)} {outer : List Env} {A₀ : Around} {base h₀ : Heap} {L : Addr} {m : Str → Option Value} {s : Shared} {Q E : Value → Shared → Prop},
    Below A₀ base outer h₀ → Fr h₀ L s.heap m → K.In h₀ → News h₀ L s.heap news → Top p loose mean mg mb h₀ → cs.kind = .function →
    H base → dp + d < recursionLimit → un + 8 * d < cLine → RetT h₀ L m news s Q R1 R2 →
      wpAny (model prog w) (ktrTop dp un gd cn cs L a ccd cl outer) (call (.ref f) vs) Q E s
end Mine
namespace Mine
/-- the powers that ispower(n) tries -/
def PL (n : Int) : List Int := plN ((↑(PySem.Builtin.Int.intBits n) : Int) + 1 - 2).toNat
def PHit (n r v : Int) : Prop := 2 ≤ n.natAbs ∧ n.natAbs < 2 ^ 900 ∧ (∃ pre post, PL n = pre ++ r :: post ∧ (∀ p ∈ pre, Miss n p) ∧ r ∉ pre) ∧ Hit n r v
def PNone (n : Int) : Prop := 2 ≤ n.natAbs ∧ n.natAbs < 2 ^ 900 ∧ ∀ p ∈ PL n, Miss n p
end Mine
namespace Mine
/-! primegen's list -/
def bitsF (n : Int) : Int := ↑(PySem.Builtin.Int.intBits n)
def LHit (n r v : Int) : Prop := 2 ≤ n.natAbs ∧ n.natAbs < 2 ^ 900 ∧ 2 ≤ r ∧ r ≤ bitsF n ∧ Hit n r v ∧ ∀ k, 2 ≤ k → k < r → Miss n k
def LNone (n : Int) : Prop := 2 ≤ n.natAbs ∧ n.natAbs < 2 ^ 900 ∧ ∀ k, 2 ≤ k → k ≤ bitsF n → Miss n k
end Mine
namespace Mine
def L2 (z r st rt : Int) : Prop := 0 ≤ rt ∧ rt ^ r.toNat ≤ z ∧ 0 ≤ st ∧ st ≤ z ∧ ((st = 0 ∧ z < (rt + 1) ^ r.toNat) ∨ (∃ k : Nat, st = 2 ^ k ∧ z < (rt + 2 * st) ^ r.toNat))
end Mine
namespace Mine
theorem store_eq {M : Model} {A : Around} {env : Env} {y : Str} {tk : Tok} {Q : Unit → Shared → Prop} {E : Value → Shared → Prop} {s : Shared} {x z : Int} (e : x = z) (h : wpAny M A (storeName env y (.int z tk)) Q E s) : wpAny M A (storeName env y (.int x tk)) Q E s := by subst e; exact h
end Mine
namespace Mine
/-- z's length in bits, hidden -/
def BBd (z b : Int) : Prop := b = ↑(PySem.Builtin.Int.intBits z)
end Mine
namespace Mine
abbrev RetI (h₀ : Heap) (L : Addr) (m : Str → Option Value) (news : List (Addr × Obj)) (s : Shared) (Q : Value → Shared → Prop) (P : Int → Prop) : Prop :=
  ∀ (z : Int) (t : Tok) (h' : Heap) (tk' : Nat), P z → Fr h₀ L h' m → News h₀ L h' news → Q (.int z t) { s with heap := h', toks := tk' }
/-- a call that gives back some int of which P holds -/
abbrev ClaimI (prog : Program) (w : World) (K : Frag) (p : Program) (f : Addr) (d : Nat) (H : Heap → Prop) (vs : List Value) (P : Int → Prop) : Prop :=
  ∀ {loose : List Str} {mean : ExcName → Option Value} {mg mb : Str → Option Value} {news : List (Addr × Obj)} {dp un : Nat} {gd : Option (List Code)} {cn : Str} {cs : Scope} {a : Addr} {ccd : Value} {cl : List (Str × Addr)} {outer : List Env} {A₀ : Around} {base h₀ : Heap} {L : Addr} {m : Str → Option Value} {s : Shared} {Q E : Value → Shared → Prop},
    Below A₀ base outer h₀ → Fr h₀ L s.heap m → K.In h₀ → News h₀ L s.heap news → Top p loose mean mg mb h₀ → cs.kind = .function →
    H base → dp + d < recursionLimit → un + 8 * d < cLine → RetI h₀ L m news s Q P →
      wpAny (model prog w) (ktrTop dp un gd cn cs L a ccd cl outer) (call (.ref f) vs) Q E s
def N0 (z : Int) : Prop := 0 ≤ z ∧ z ≤ 2 ^ 100
def N1 (z : Int) : Prop := -1 ≤ z ∧ z ≤ 2 ^ 100 + 1
def K19 (k : Int) : Prop := 2 ≤ k ∧ k ≤ 20
def N9 (z : Int) : Prop := z.natAbs < 2 ^ 900
/-! the law's ways -/
end Mine
namespace Mine
/-- a call that is handed a list of the caller's ledger -/
abbrev ClaimE (prog : Program) (w : World) (K : Frag) (p : Program) (f : Addr) (d : Nat) (q : Addr × Obj) (vs : List Value) (R : Tok → Value) : Prop :=
  ∀ {loose : List Str} {mean : ExcName → Option Value} {mg mb : Str → Option Value} {news : List (Addr × Obj)} {dp un : Nat} {gd : Option (List Code)} {cn : Str} {cs : Scope} {a : Addr} {ccd : Value} {cl : List (Str × Addr)} {outer : List Env} {A₀ : Around} {base h₀ : Heap} {L : Addr} {m : Str → Option Value} {s : Shared} {Q E : Value → Shared → Prop},
    Below A₀ base outer h₀ → Fr h₀ L s.heap m → K.In h₀ → News h₀ L s.heap news → q ∈ news → Top p loose mean mg mb h₀ → cs.kind = .function →
    dp + d < recursionLimit → un + 8 * d < cLine → Ret h₀ L m news s Q R →
      wpAny (model prog w) (ktrTop dp un gd cn cs L a ccd cl outer) (call (.ref f) vs) Q E s
/-! a loop downward that turns None into a new pair -/
abbrev DueS := Option (Addr × Int × Int × Tok × Tok × Nat)
def dueV : DueS → Value
  | none => .none
  | some c => .ref c.1
def dueL : DueS → List (Addr × Obj)
  | none => []
  | some c => [(c.1, tup2 (.int c.2.1 c.2.2.2.1) (.int c.2.2.1 c.2.2.2.2.1) c.2.2.2.2.2)]
def dueR : DueS → Option (Int × Int)
  | none => none
  | some c => some (c.2.1, c.2.2.1)
def DueJ (x root due : Str) (m₀ : Str → Option Value) (cst : List (Addr × Obj)) (P : Nat → Option (Int × Int) → Prop) (i : Nat) (m : Str → Option Value) (nx : List (Addr × Obj)) : Prop :=
  ∃ c, nx = dueL c ++ cst ∧ m due = some (dueV c) ∧ (∀ z, z ≠ x → z ≠ due → z ≠ root → m z = m₀ z) ∧ P i (dueR c)
end Mine
namespace Mine
/-- a local's bool, forgotten -/
def BMark (_ : Bool) : Prop := True
end Mine
namespace Mine
def ElseEnd (h₀ : Heap) (L : Addr) (I : Addr) (oI : Obj) (news : List (Addr × Obj)) (x y : Str) (m₀ : Str → Option Value) (Jn : Int → Prop) (s₁ s₂ : Shared) : Prop :=
  ∃ h' tk m' z t2, s₂ = { s₁ with heap := h', toks := tk } ∧ Fr h₀ L h' m' ∧ News h₀ L h' ((I, oI) :: news) ∧ m' y = some (.int z t2) ∧ (∀ q, q ≠ x → q ≠ y → m' q = m₀ q) ∧ Jn z
def ElsePost (h₀ : Heap) (L : Addr) (I : Addr) (oI : Obj) (news : List (Addr × Obj)) (x y : Str) (m₀ : Str → Option Value) (Jn : Int → Prop) (s₁ : Shared) (Q : Flow → Shared → Prop) (f : Flow) (s₂ : Shared) : Prop :=
  match f with
  | .ret v => Q (.ret v) s₂
  | .brk => Q .next s₂
  | _ => ElseEnd h₀ L I oI news x y m₀ Jn s₁ s₂
def ElseAt (prog : Program) (w : World) (A : Around) (h₀ : Heap) (env : Env) (x y : Str) (body orelse : List Stmt) (Q : Flow → Shared → Prop) (E : Value → Shared → Prop) (xv : Value) (s₁ : Shared) : Prop :=
  ∃ (r : Addr) (a b : Int) (n : Nat) (t u v : Tok) (m₀ : Str → Option Value) (news : List (Addr × Obj)) (J : Nat → Int → Prop) (z0 : Int) (tz : Tok), xv = .ref r ∧ A.handled = none ∧ IsRange s₁.heap r a b 1 t u v ∧ Builtin.Range.small a b 1 = true ∧ Builtin.Range.rangeSize a b 1 = (n : Int) ∧
    Fr h₀ env.locals s₁.heap m₀ ∧ News h₀ env.locals s₁.heap news ∧ m₀ y = some (.int z0 tz) ∧ J 0 z0 ∧
    (∀ (i : Nat) (z k : Int) (I : Addr) (oI : Obj) (t t2 : Tok) h tk, i < n → k = a + (i : Int) → J i z → Fr h₀ env.locals h (fun q => if q = x then some (.int k t) else if q = y then some (.int z t2) else m₀ q) → News h₀ env.locals h ((I, oI) :: news) →
      wpAny (model prog w) A (execs body env) (ElsePost h₀ env.locals I oI news x y m₀ (J (i + 1)) { s₁ with heap := h, toks := tk } Q) E { s₁ with heap := h, toks := tk }) ∧
    (∀ (z : Int) (t2 : Tok) (q0 : Option Value) h tk, J n z → Fr h₀ env.locals h (fun q => if q = x then q0 else if q = y then some (.int z t2) else m₀ q) → News h₀ env.locals h news → wpAny (model prog w) A (execs orelse env) Q E { s₁ with heap := h, toks := tk })
end Mine
namespace Mine
def TupEnd (h₀ : Heap) (L : Addr) (x : Str) (m₀ : Str → Option Value) (Pn : Prop) (all : List (Addr × Obj)) (s₁ s₂ : Shared) : Prop :=
  ∃ h' tk m', s₂ = { s₁ with heap := h', toks := tk } ∧ Fr h₀ L h' m' ∧ News h₀ L h' all ∧ (∀ z, z ≠ x → m' z = m₀ z) ∧ Pn
def TupPost (h₀ : Heap) (L : Addr) (x : Str) (m₀ : Str → Option Value) (Pn : Prop) (all : List (Addr × Obj)) (s₁ : Shared) (Q : Flow → Shared → Prop) (f : Flow) (s₂ : Shared) : Prop :=
  match f with
  | .ret v => Q (.ret v) s₂
  | .brk => Q .next s₂
  | _ => TupEnd h₀ L x m₀ Pn all s₁ s₂
end Mine
namespace Mine
abbrev CW := List Int × List Value × Nat × Int × Tok × Obj
abbrev cwLed (l c : Addr) (news : List (Addr × Obj)) (x : CW) : List (Addr × Obj) := (l, listOf x.2.1.toArray x.2.2.1) :: (c, x.2.2.2.2.2) :: news
abbrev cwFacts (x : CW) : Prop := IntsAre x.2.1 x.1 ∧ x.2.2.2.2.2.data = .cell (some (.int x.2.2.2.1 x.2.2.2.2.1))
end Mine
namespace Mine
/-- a test's answer, all else as it was -/
def Same (h₀ : Heap) (L : Addr) (m : Str → Option Value) (news : List (Addr × Obj)) (s s' : Shared) : Prop := ∃ h' tk', s' = { s with heap := h', toks := tk' } ∧ Fr h₀ L h' m ∧ News h₀ L h' news
theorem Same.intro {h₀ h' : Heap} {L : Addr} {m : Str → Option Value} {news : List (Addr × Obj)} {s : Shared} {tk' : Nat} (F : Fr h₀ L h' m) (N : News h₀ L h' news) : Same h₀ L m news s { s with heap := h', toks := tk' } := ⟨h', tk', rfl, F, N⟩
def TestIs (b : Bool) (h₀ : Heap) (L : Addr) (m : Str → Option Value) (news : List (Addr × Obj)) (s : Shared) (ok : Bool) (s' : Shared) : Prop := ok = b ∧ Same h₀ L m news s s'
def IntIs (k : Int) (h₀ : Heap) (L : Addr) (m : Str → Option Value) (news : List (Addr × Obj)) (s : Shared) (v : Value) (s' : Shared) : Prop := (∃ t, v = .int k t) ∧ Same h₀ L m news s s'
theorem TestIs.intro {b ok : Bool} {h₀ h' : Heap} {L : Addr} {m : Str → Option Value} {news : List (Addr × Obj)} {s : Shared} {tk' : Nat} (e : ok = b) (F : Fr h₀ L h' m) (N : News h₀ L h' news) : TestIs b h₀ L m news s ok { s with heap := h', toks := tk' } := ⟨e, Same.intro F N⟩
theorem IntIs.intro {k : Int} {t : Tok} {h₀ h' : Heap} {L : Addr} {m : Str → Option Value} {news : List (Addr × Obj)} {s : Shared} {tk' : Nat} (F : Fr h₀ L h' m) (N : News h₀ L h' news) : IntIs k h₀ L m news s (.int k t) { s with heap := h', toks := tk' } := ⟨⟨t, rfl⟩, Same.intro F N⟩
/-- a comprehension with one test: the ints that pass it -/
theorem lct_filter {prog : Program} {w : World} {A : Around} {h₀ : Heap} {L : Addr} {m : Str → Option Value} {env : Env} {ct elt : Expr} {x : Str} {scope : Scope} {cl : List (Str × Addr)} {s : Shared} {S : List (Addr × Obj) → Prop} {Fin : List Value → List (Addr × Obj) → Prop} {news : List (Addr × Obj)}
    {vs : List Value} {ns : List Int} (g : Int → Bool) (hi : IntsAre vs ns) (hS : S news)
    (turn : ∀ k t I oI C oC D m₂ ys h tk (E' : Value → Shared → Prop), k ∈ ns → LCg.NsObj oC m₂ → m₂ x = some (.int k t) → Fr h₀ L h m → News h₀ L h ((I, oI) :: (C, oC) :: (D, LCg.lst ys) :: news) → LCg.Off3 I C D news → ((@Ne Nat I C) ∧ (@Ne Nat I D) ∧ (@Ne Nat C D)) →
      wpAny (model prog w) A (isTrue ct (compEnvC scope cl C env) (eval ct (compEnvC scope cl C env))) (TestIs (g k) h₀ L m ((I, oI) :: (C, oC) :: (D, LCg.lst ys) :: news) { s with heap := h, toks := tk }) E' { s with heap := h, toks := tk })
    (turn2 : ∀ k t I oI C oC D m₂ ys h tk (E' : Value → Shared → Prop), k ∈ ns → LCg.NsObj oC m₂ → m₂ x = some (.int k t) → Fr h₀ L h m → News h₀ L h ((I, oI) :: (C, oC) :: (D, LCg.lst ys) :: news) → LCg.Off3 I C D news → ((@Ne Nat I C) ∧ (@Ne Nat I D) ∧ (@Ne Nat C D)) →
      wpAny (model prog w) A (eval elt (compEnvC scope cl C env)) (IntIs k h₀ L m ((I, oI) :: (C, oC) :: (D, LCg.lst ys) :: news) { s with heap := h, toks := tk }) E' { s with heap := h, toks := tk })
    (fin : ∀ ys, IntsAre ys (ns.filter g) → Fin ys news) : LCt.CompRestT prog w A h₀ L m env ct elt x scope cl s S (fun i v => vs.toArray[i]? = some v) Fin vs.toArray.size 0 [] news := by
  have hl : vs.length = ns.length := hi.length
  have key : ∀ (j i : Nat) (ys : List Value), i + j = ns.length → IntsAre ys ((ns.take i).filter g) → LCt.CompRestT prog w A h₀ L m env ct elt x scope cl s S (fun i v => vs.toArray[i]? = some v) Fin j i ys news := by
    intro j
    induction j with
    | zero =>
      intro i ys hij hy
      have e : i = ns.length := by omega
      subst e
      rw [List.take_length] at hy
      exact LCt.CompRestT.zero (fin ys hy)
    | succ j ih =>
      intro i ys hij hy
      refine LCt.CompRestT.succ ?_
      intro v I oI C oC D m₂ h tk E' hv hC hx F N off ne
      obtain ⟨k, t, ev, hk⟩ := IntsAre.at hi i v (by simpa using hv)
      rw [ev] at hx
      have hmem := List.mem_of_getElem? hk
      refine wpAny_mono (turn k t I oI C oC D m₂ ys h tk E' hmem hC hx F N off ne) (fun ok s₂ hq => ?_) fun _ _ e => e
      obtain ⟨eok, h', tk', es, F', N'⟩ := hq
      subst es
      have htk : ns.take (i + 1) = ns.take i ++ [k] := by rw [List.take_add_one, hk]; rfl
      cases hok : ok with
      | true =>
        rw [if_pos rfl]
        rw [hok] at eok
        refine wpAny_mono (turn2 k t I oI C oC D m₂ ys h' tk' E' hmem hC hx F' N' off ne) (fun y s₃ hq => ?_) fun _ _ e => e
        obtain ⟨⟨t', ey⟩, h'', tk'', es, F'', N''⟩ := hq
        subst es
        refine ⟨h'', tk'', news, rfl, F'', N'', off, hS, ?_⟩
        rw [ey]
        refine ih (i + 1) _ (by omega) ?_
        rw [htk, List.filter_append]
        have : [k].filter g = [k] := by simp [← eok]
        rw [this]
        exact IntsAre.append hy (.cons k t' .nil)
      | false =>
        rw [if_neg (by decide)]
        rw [hok] at eok
        refine ⟨h', tk', news, rfl, F', N', off, hS, ?_⟩
        refine ih (i + 1) _ (by omega) ?_
        rw [htk, List.filter_append]
        have : [k].filter g = [] := by simp [← eok]
        rw [this, List.append_nil]
        exact hy
  have := key ns.length 0 [] (by omega) (by simp only [List.take_zero, List.filter_nil]; exact .nil)
  rw [List.size_toArray, hl]
  exact this
end Mine
namespace Mine
abbrev RetO (h₀ : Heap) (L : Addr) (m : Str → Option Value) (news : List (Addr × Obj)) (s : Shared) (Q : Value → Shared → Prop) (ns : List Int) : Prop :=
  ∀ (D : Addr) (vs : List Value) (c : Nat) (h' : Heap) (tk' : Nat), IntsAre vs ns → Fr h₀ L h' m → News h₀ L h' ((D, listOf vs.toArray c) :: news) → LCg.Off1 D news → Q (.ref D) { s with heap := h', toks := tk' }
/-- a call that gives back a new list of ints, at an address that is none of the ledger's -/
abbrev ClaimO (prog : Program) (w : World) (K : Frag) (p : Program) (f : Addr) (d : Nat) (H : Heap → Prop) (vs : List Value) (ns : List Int) : Prop :=
  ∀ {loose : List Str} {mean : ExcName → Option Value} {mg mb : Str → Option Value} {news : List (Addr × Obj)} {dp un : Nat} {gd : Option (List Code)} {cn : Str} {cs : Scope} {a : Addr} {ccd : Value} {cl : List (Str × Addr)} {outer : List Env} {A₀ : Around} {base h₀ : Heap} {L : Addr} {m : Str → Option Value} {s : Shared} {Q E : Value → Shared → Prop},
    Below A₀ base outer h₀ → Fr h₀ L s.heap m → K.In h₀ → News h₀ L s.heap news → Top p loose mean mg mb h₀ → cs.kind = .function →
    H base → dp + d < recursionLimit → un + 8 * d < cLine → RetO h₀ L m news s Q ns →
      wpAny (model prog w) (ktrTop dp un gd cn cs L a ccd cl outer) (call (.ref f) vs) Q E s
end Mine
namespace Mine
/-! the strong test to base 2 -/
def NB9 (n : Int) : Prop := 3 ≤ n ∧ n.natAbs < 2 ^ 900
/-- the loop that halves: t * 2 ^ (s - 1) = a -/
def Hf (a t s : Int) : Prop := 1 ≤ t ∧ 1 ≤ s ∧ t * 2 ^ (s - 1).toNat = a
/-- the squares -/
def sqF (n : Int) : Nat → Int → Int
  | 0, x => x
  | j + 1, x => powI (sqF n j x) 2 n
/-- the strong test refuses n -/
def SFail (n : Int) : Prop := ∀ t s, Hf ((n - 1).fdiv 2) t s → t.fmod 2 ≠ 0 → powI 2 t n ≠ 1 ∧ powI 2 t n ≠ n - 1 ∧ ∀ j : Nat, 1 ≤ j → (j : Int) < s → sqF n j (powI 2 t n) ≠ n - 1
def SPass (n : Int) : Prop := ∀ t s, Hf ((n - 1).fdiv 2) t s → t.fmod 2 ≠ 0 → powI 2 t n = 1 ∨ powI 2 t n = n - 1 ∨ ∃ j : Nat, 1 ≤ j ∧ (j : Int) < s ∧ sqF n j (powI 2 t n) = n - 1 ∧ ∀ i : Nat, 1 ≤ i → i < j → sqF n i (powI 2 t n) ≠ 1 ∧ sqF n i (powI 2 t n) ≠ n - 1
/-- first divisor among the told primes -/
def fstDiv (n : Int) (ns : List Int) : Option Int := ns.find? (fun p => decide (n.fmod p = 0))
end Mine
namespace Mine
section
variable {n t s : Int}
/-- between the turns of the squaring loop -/
def SQ (n t : Int) (pre : List Int) (x : Int) : Prop := x = sqF n pre.length (powI 2 t n)
end
end Mine
namespace Mine
section
variable {n t s : Int}
def SQX (n : Int) (pre : List Int) (x : Int) : Prop := ∃ t s, Hf ((n - 1).fdiv 2) t s ∧ t.fmod 2 ≠ 0 ∧ SQ n t pre x
end
end Mine
namespace Mine
section
variable {n t s x : Int} {i : Nat}
def SQN (n : Int) (i : Nat) (x : Int) : Prop := ∃ t s, Hf ((n - 1).fdiv 2) t s ∧ t.fmod 2 ≠ 0 ∧ x = sqF n i (powI 2 t n)
end
end Mine
namespace Mine
def basisF : List Int := [3, 5, 7, 11, 13, 17, 19, 23, 29, 31, 37, 41, 43, 47, 53, 59]
end Mine
namespace Mine
/-- jacobi's loop, in single steps -/
def jacO : Nat → Int → Int → Option Int
  | 0, _, _ => none
  | f + 1, a, n =>
    if a = 0 then some (if n = 1 then 1 else 0)
    else if a.fmod 2 = 0 then (jacO f (a.fdiv 2) n).map (fun v => if n.fmod 8 = 3 ∨ n.fmod 8 = 5 then -v else v)
    else (jacO f (n.fmod a) a).map (fun v => if n.fmod 4 = 3 ∧ a.fmod 4 = 3 then -v else v)
/-- between the turns -/
def JI (V a n t : Int) : Prop := 0 ≤ a ∧ 1 ≤ n ∧ n.fmod 2 ≠ 0 ∧ a.natAbs < 2 ^ 900 ∧ n.natAbs < 2 ^ 900 ∧ (t = 1 ∨ t = -1) ∧ ∃ f v, jacO f a n = some v ∧ t * v = V
def JJ (V a n t : Int) : Prop := JI V a n t ∧ a ≠ 0
end Mine
namespace Mine
def JK (V aa a n t : Int) : Prop := JJ V a n t ∧ a ≤ aa
end Mine
namespace Mine
def GC (G a b : Int) : Prop := 0 ≤ a ∧ 0 ≤ b ∧ ((Int.gcd a b : Nat) : Int) = G
/-! modinv -/
def Cop (a m : Int) : Prop := ∀ d : Int, d ∣ a → d ∣ m → d ∣ 1
def MI (a0 M a m r x : Int) : Prop := 0 ≤ m ∧ (m = 0 → 0 < a) ∧ Cop a m ∧ M ∣ x * a0 - a ∧ M ∣ r * a0 - m
/-- an inverse of a0 over M -/
def Inv (a0 M z : Int) : Prop := 0 ≤ z ∧ z < M ∧ M ∣ z * a0 - 1
end Mine
namespace Mine
theorem mul_ok {x y : Int} (hx : x.natAbs < 2 ^ 2000) (hy : y.natAbs < 2 ^ 900) : PySem.IntMulOk x y := by
  have h1 := bits_le hx
  have h2 := bits_le hy
  have hb : PySem.Builtin.Int.intTooBig ((PySem.Builtin.Int.intBits x : Int) + (PySem.Builtin.Int.intBits y : Int)) = false := by
    unfold PySem.Builtin.Int.intTooBig
    refine decide_eq_false ?_
    have e : PySem.bitsLine = 2 ^ 27 := rfl
    rw [e]
    omega
  intro e
  rw [hb, Bool.and_false] at e
  cases e
end Mine
namespace Mine
def MB (M a m r x : Int) : Prop := (r = 0 ∨ 0 < a) ∧ ((0 ≤ x ∧ r ≤ 0 ∧ a * (-r) + m * x = M) ∨ (x ≤ 0 ∧ 0 ≤ r ∧ a * r + m * (-x) = M))
def MK (a0 M a m r x : Int) : Prop := MI a0 M a m r x ∧ MB M a m r x ∧ a.natAbs < 2 ^ 900 ∧ m.natAbs < 2 ^ 900
end Mine
namespace Mine
/-- a statement's ways meet: the names ns are forgotten -/
def JS0 (h₀ : Heap) (L : Addr) (m : Str → Option Value) (ns : List Str) (news : List (Addr × Obj)) (s : Shared) (f : Flow) (s' : Shared) : Prop :=
  f = .next ∧ ∃ h' tk' m', s' = { s with heap := h', toks := tk' } ∧ Fr h₀ L h' m' ∧ News h₀ L h' news ∧ ∀ y, ns.contains y = false → m' y = m y
/-- as JS0, but the name x holds the int k -/
def JS1 (h₀ : Heap) (L : Addr) (m : Str → Option Value) (ns : List Str) (x : Str) (k : Int) (news : List (Addr × Obj)) (s : Shared) (f : Flow) (s' : Shared) : Prop :=
  f = .next ∧ ∃ h' tk' m' t, s' = { s with heap := h', toks := tk' } ∧ Fr h₀ L h' m' ∧ News h₀ L h' news ∧ m' x = some (.int k t) ∧ ∀ y, y ≠ x → ns.contains y = false → m' y = m y
end Mine
namespace Mine
theorem news_d1 {h₀ h : Heap} {L : Addr} {p : Addr × Obj} {r : List (Addr × Obj)} (N : News h₀ L h (p :: r)) : News h₀ L h r := fun q hq => N q (List.Mem.tail _ hq)
end Mine
namespace Mine
/-- the search for D: a verdict, or D -/
def srch (K : Nat) : Nat → Int → Int → Option (Sum Bool Int)
  | 0, _, _ => none
  | f + 1, c, n => (jacO K (c.fmod n) n).bind fun j => if j = 0 then some (.inl (c == n)) else if j = -1 then some (.inr c) else
      (jacO K ((-2 - c).fmod n) n).bind fun j2 => if j2 = 0 then some (.inl (-(-2 - c) == n)) else if j2 = -1 then some (.inr (-2 - c)) else srch K f (c + 4) n
def SR (K f0 : Nat) (n : Int) (R : Sum Bool Int) (c : Int) : Prop := c.fmod 4 = 1 ∧ ∃ f, f ≤ f0 ∧ c = 5 + 4 * ((f0 - f : Nat) : Int) ∧ srch K f c n = some R
end Mine
namespace Mine
section
variable {n t s x : Int} {i : Nat}
/-- the strong test passes, and has not yet said so after i squarings -/
def SQP (n : Int) (i : Nat) (x : Int) : Prop := ∃ t s, Hf ((n - 1).fdiv 2) t s ∧ t.fmod 2 ≠ 0 ∧ x = sqF n i (powI 2 t n) ∧ ∃ j : Nat, i < j ∧ (j : Int) < s ∧ sqF n j (powI 2 t n) = n - 1 ∧ ∀ k : Nat, 1 ≤ k → k < j → sqF n k (powI 2 t n) ≠ 1 ∧ sqF n k (powI 2 t n) ≠ n - 1
end
end Mine
namespace Mine
theorem bin_len {t : Int} (h0 : 0 ≤ t) (h : t.natAbs < 2 ^ 1000) : (baseText "0b" 2 t).length ≤ sizeLine := by
  have h1 := toDigits_len_pow (b := 2) (k := 1000) (by decide) (by decide) h
  have e1 : (Str.ofString "").length = 0 := by decide +kernel
  have e2 : (Str.ofString "0b").length = 2 := by decide +kernel
  have e3 := ofString_ofList_length (Nat.toDigits 2 t.natAbs)
  rw [baseText_nonneg h0, Str.length_append, Str.length_append, PySem.sizeLine_eq]
  omega
end Mine
namespace Mine
structure LS where
  v : Int
  w : Int
  q : Int
  Q : Int
/-- a turn of the Lucas loop at the code c -/
def lstep (n b : Int) (x : LS) (c : Int) : LS :=
  if c = 49 then ⟨(x.w * x.v - (x.q * x.Q).fmod n).fmod n, (x.w * x.w - 2 * (x.q * x.Q).fmod n * b).fmod n, (x.q * x.Q).fmod n, ((x.q * x.Q).fmod n * b).fmod n⟩
  else ⟨(x.v * x.v - 2 * (x.q * x.Q).fmod n).fmod n, (x.w * x.v - (x.q * x.Q).fmod n).fmod n, (x.q * x.Q).fmod n, (x.q * x.Q).fmod n⟩
def lfold (n b : Int) (pre : List Int) : LS := pre.foldl (lstep n b) ⟨2, 1, 1, 1⟩
def LI (n b : Int) (pre : List Int) (v w q Q : Int) : Prop := lfold n b pre = ⟨v, w, q, Q⟩
end Mine
namespace Mine
def bcodes (t : Int) : List Int := (Nat.toDigits 2 t.natAbs).map fun c => (c.toNat : Int)
theorem bin_slice {t : Int} (h0 : 0 ≤ t) : Txt.slice (baseText "0b" 2 t) (some 2) none = KStt.txt (bcodes t) := by
  have e1 : (Str.ofString "").cps.toList = [] := by decide +kernel
  have e2 : (Str.ofString "0b").cps.toList = [48, 98] := by decide +kernel
  have e3 : (baseText "0b" 2 t).cps.toList = [48, 98] ++ (Nat.toDigits 2 t.natAbs).map Char.toNat := by
    rw [baseText_nonneg h0, Str.cps_append, Array.toList_append, Str.cps_append, Array.toList_append, e1, e2, PySem.W.Fast.ofString_ofList]
    rfl
  show StrLaws.sliceText _ _ _ = _
  rw [StrLaws.sliceText_from ⟨by decide, by rw [e3, List.length_append]; simp only [List.length_cons, List.length_nil]; omega⟩, e3]
  unfold KStt.txt bcodes
  rw [List.map_map]
  congr 1
  congr 1
  simp only [List.cons_append, List.nil_append, show (2 : Int).toNat = 2 from rfl, List.drop_succ_cons, List.drop_zero]
  rw [List.take_of_length_le (by simp; omega)]
  exact List.map_congr_left fun c _ => (Int.toNat_natCast _).symm
theorem codes_txt (l : List Int) (h : ∀ c ∈ l, 0 ≤ c) : KStt.codes (KStt.txt l) = l := by
  unfold KStt.codes KStt.txt
  show (l.map Int.toNat).map _ = l
  rw [List.map_map]
  conv => rhs; rw [← List.map_id l]
  exact List.map_congr_left fun c hc => Int.toNat_of_nonneg (h c hc)
theorem bcodes_nn {t : Int} : ∀ c ∈ bcodes t, 0 ≤ c := by
  intro c hc
  obtain ⟨d, _, rfl⟩ := List.mem_map.mp hc
  omega
theorem codes_b {t : Int} : KStt.codes (KStt.txt (bcodes t)) = bcodes t := codes_txt _ bcodes_nn
/-! the Lucas loop with its bounds -/
def Lt9 (n x : Int) : Prop := 0 ≤ x ∧ x < n
def LB (n b : Int) (pre : List Int) (v w q Q : Int) : Prop := LI n b pre v w q Q ∧ Lt9 n v ∧ Lt9 n w ∧ Lt9 n q ∧ Lt9 n Q
/-! the end -/
def lloop (n : Int) : Nat → Int → Int → Bool
  | 0, _, _ => false
  | k + 1, v, q => if (v * v - 2 * q).fmod n = 0 then true else lloop n k ((v * v - 2 * q).fmod n) ((q * q).fmod n)
def lend (n b t s : Int) (x : LS) : Bool := decide (x.v = 0) || decide ((2 * x.w - x.v).fmod n = 0) || lloop n (s - 1).toNat x.v (powI b t n)
/-- what the Lucas part answers -/
def LE (n b : Int) (B : Bool) : Prop := ∀ t s, Hf ((n + 1).fdiv 2) t s → t.fmod 2 ≠ 0 → lend n b t s (lfold n b (bcodes t)) = B
def LV (n b : Int) (B : Bool) (t s v w : Int) : Prop := (decide (v = 0) || decide ((2 * w - v).fmod n = 0) || lloop n (s - 1).toNat v (powI b t n)) = B
def LQ (n : Int) (B : Bool) (s : Int) (pre : List Int) (v q : Int) : Prop := Lt9 n v ∧ Lt9 n q ∧ ∃ k : Nat, k + pre.length = (s - 1).toNat ∧ lloop n k v q = B
end Mine
namespace Mine
theorem one_s : Str.ofString "1" = ⟨#[49]⟩ := by decide +kernel
theorem one_yes {k : Nat} (h : ((⟨#[k]⟩ : Str) == Str.ofString "1") = true) : (k : Int) = 49 := by
  rw [one_s, beq_iff_eq] at h
  have e := congrArg (fun x : Str => x.cps[0]?) h
  simp at e
  omega
theorem one_no {k : Nat} (h : ((⟨#[k]⟩ : Str) == Str.ofString "1") = false) : (k : Int) ≠ 49 := by
  intro e
  have : k = 49 := by omega
  subst this
  rw [one_s, beq_self_eq_true] at h
  cases h
end Mine
namespace Mine
/-! statement 02, reckoned -/
/-- the search for h -/
def hS (a p : Int) : Nat → Int → Option Int
  | 0, _ => none
  | f + 1, h => if powI (h * h - 4 * a) ((p - 1).fdiv (2 ^ Int.toNat 1)) p = p - 1 then some h else hS a p f (h + 1)
structure LT where
  v : Int
  w : Int
  q : Int
  Q : Int
def tstep (p a h : Int) (x : LT) (c : Int) : LT :=
  if c = 49 then ⟨(x.w * x.v - h * (x.q * x.Q).fmod p).fmod p, (x.w * x.w - 2 * (x.q * x.Q).fmod p * a).fmod p, (x.q * x.Q).fmod p, ((x.q * x.Q).fmod p * a).fmod p⟩
  else ⟨(x.v * x.v - 2 * (x.q * x.Q).fmod p).fmod p, (x.w * x.v - h * (x.q * x.Q).fmod p).fmod p, (x.q * x.Q).fmod p, (x.q * x.Q).fmod p⟩
def tfold (p a h : Int) (l : List Int) : LT := l.foldl (tstep p a h) ⟨2, h.fmod p, 1, 1⟩
/-- what sqrtmod_prime gives -/
def sqR (a p : Int) : Option Int :=
  if p.fmod 4 = 3 then some (powI a ((p + 1).fdiv (2 ^ Int.toNat 2)) p)
  else if p.fmod 8 = 5 then
    let v := powI (a * 2 ^ Int.toNat 1) ((p - 5).fdiv (2 ^ Int.toNat 3)) p
    some ((a * v * ((a * v * v * 2 ^ Int.toNat 1).fmod p - 1)).fmod p)
  else if p.fmod 8 = 1 then
    if a = 0 then some 0 else (hS a p 100 2).map fun h => ((tfold p a h (bcodes ((p + 1).fdiv 2))).v * (p + 1).fdiv 2).fmod p
  else some a
/-- the roots of a -/
def rtF (p a : Int) : List Int := (rangeKs 0 p.toNat).filter fun x => decide ((x * x).fmod p = a)
def upF (x p : Int) : Nat → Int
  | 0 => 1
  | k + 1 => (upF x p k * x).fmod p
/-- the law's search for h -/
def hL (a p : Int) : Nat → Int → Int
  | 0, h => h
  | f + 1, h => if h < p + 2 ∧ rtF p ((h * h - 4 * a).fmod p) ≠ [] then hL a p f (h + 1) else h
def luF (a p h : Int) : Nat → Int × Int
  | 0 => (2, h)
  | k + 1 => ((luF a p h k).2, (h * (luF a p h k).2 - a * (luF a p h k).1).fmod p)
def lucF (a p : Int) : Int :=
  let b := (luF a p (hL a p 200 2) ((p + 1).fdiv 2).toNat).1
  if b.fmod 2 = 0 then b.fdiv 2 else (b + p).fdiv 2
/-- what the law wants -/
def gvF (a p : Int) : List Int :=
  if p = 2 ∨ a = 0 then [a]
  else if p.fmod 4 = 3 then (rtF p a).filter fun x => decide (rtF p x ≠ [])
  else if p.fmod 8 = 5 then
    let m := (p - 5).fdiv 8
    let two := upF 2 p m.toNat
    let w1 := if rtF p ((rtF p a).getD 0 0) ≠ [] then two * two * 2 - 1 else two * two * 2 + 1
    let want := (w1 * two).fmod p
    (rtF p a).filter fun x => decide (upF x p (2 * m + 1).toNat = want)
  else [lucF a p]
def primes02 : List Int := [2, 3, 7, 11, 19, 23, 31, 43, 47, 59, 67, 71, 79, 83, 103, 107, 5, 13, 29, 37, 53, 61, 17, 41, 73]
def okA (p a : Int) : Bool := decide (rtF p a = []) || decide (sqR a p = (gvF a p).head? ∧ (gvF a p).length = 1)
def okP (p : Int) : Bool := (rangeKs 0 p.toNat).all (okA p)
end Mine
namespace Mine
def oneG (ns : List Int) (i : Int) : Int := if i < ns.length then ns.getD i.toNat 0 else 7 * i + 4
def drawG (ns : List Int) (i q : Int) : Int := if oneG ns i < 0 then -((-(oneG ns i)).fmod q) else (oneG ns i).fmod q
/-! the law's division -/
def lpG (n : Int) : Nat → Int → Bool
  | 0, _ => false
  | f + 1, d => if d * d ≤ n then (if n.fmod d = 0 then false else lpG n f (d + 1)) else decide (1 < n)
def prB (n : Int) : Bool := lpG n 20 2
def PDI (n d : Int) : Prop := 2 ≤ d ∧ d ≤ 16 ∧ lpG n (22 - d.toNat) d = prB n
section
variable {n d : Int}
theorem pd_start : PDI n 2 := ⟨by decide, by decide, rfl⟩
theorem pd_lt (hn : n ≤ 200) (h : PDI n d) (hd : d * d ≤ n) : d ≤ 14 := by
  apply Classical.byContradiction
  intro hne
  have h1 : 15 * 15 ≤ d * d := Int.mul_le_mul (by omega) (by omega) (by decide) (by omega)
  omega
theorem pd_no (h : PDI n d) (hd : d * d ≤ n) (h0 : n.fmod d = 0) : false = prB n := by
  obtain ⟨h1, h2, h3⟩ := h
  obtain ⟨f, hf⟩ : ∃ f, 22 - d.toNat = f + 1 := ⟨22 - d.toNat - 1, by omega⟩
  rw [← h3, hf]; unfold lpG; rw [if_pos hd, if_pos h0]
theorem pd_turn (hn : n ≤ 200) (h : PDI n d) (hd : d * d ≤ n) (h0 : n.fmod d ≠ 0) : PDI n (d + 1) := by
  have hlt := pd_lt hn h hd
  obtain ⟨h1, h2, h3⟩ := h
  obtain ⟨f, hf⟩ : ∃ f, 22 - d.toNat = f + 1 := ⟨22 - d.toNat - 1, by omega⟩
  refine ⟨by omega, by omega, ?_⟩
  rw [← h3, hf, show 22 - (d + 1).toNat = f by omega]
  conv => rhs; unfold lpG
  rw [if_pos hd, if_neg h0]
theorem pd_end (h : PDI n d) (hd : ¬ d * d ≤ n) (b : Bool) (hb : b = decide (1 < n)) : b = prB n := by
  obtain ⟨h1, h2, h3⟩ := h
  obtain ⟨f, hf⟩ : ∃ f, 22 - d.toNat = f + 1 := ⟨22 - d.toNat - 1, by omega⟩
  rw [← h3, hf, hb]; unfold lpG; rw [if_neg hd]
theorem pd_mul (h : PDI n d) : PySem.IntMulOk d d := by
  have h1 := h.1; have h2 := h.2.1
  exact PySem.IntMulOk.of_left (PySem.intBits_le_64 (by omega) (by omega))
theorem pd_ne (h : PDI n d) : d ≠ 0 := by have := h.1; omega
end
/-- down by steps to a prime -/
def dnF (step : Int) : Nat → Int → Option Int
  | 0, _ => none
  | f + 1, n => if n < 2 ∨ 200 < n then none else if prB n = true then some n else dnF step f (n - step)
def DNI (step v n : Int) : Prop := ∃ f, dnF step f n = some v
section
variable {step v n : Int}
theorem dn_bd (h : DNI step v n) : 2 ≤ n ∧ n ≤ 200 := by
  obtain ⟨f, h⟩ := h
  cases f with
  | zero => cases h
  | succ f =>
    unfold dnF at h
    split at h
    · cases h
    · omega
theorem dn_turn (h : DNI step v n) (hp : prB n = false) : DNI step v (n - step) := by
  obtain ⟨f, h⟩ := h
  cases f with
  | zero => cases h
  | succ f =>
    unfold dnF at h
    split at h
    · cases h
    · rw [if_neg (by rw [hp]; decide)] at h
      exact ⟨f, h⟩
theorem dn_end (h : DNI step v n) (hp : prB n = true) : n = v := by
  obtain ⟨f, h⟩ := h
  cases f with
  | zero => cases h
  | succ f =>
    unfold dnF at h
    split at h
    · cases h
    · first | exact Option.some.inj h | (rw [if_pos hp] at h; exact Option.some.inj h)
theorem dn_meas (hs : 1 ≤ step) (h : DNI step v n) (hp : prB n = false) : (n - step).toNat < n.toNat := by
  have h1 := dn_bd h
  have h2 := dn_bd (dn_turn h hp)
  omega
end
/-! sqrtmod_prime -/
def SP (p : Int) : Prop := 2 ≤ p ∧ p ≤ 200
def SA (p a : Int) : Prop := 0 ≤ a ∧ a < p
/-- the search for h -/
def HI (a p v h : Int) : Prop := 2 ≤ h ∧ h ≤ 102 ∧ hS a p (102 - h.toNat) h = some v
section
variable {a p v h : Int}
theorem hi_start (hv : hS a p 100 2 = some v) : HI a p v 2 := ⟨by decide, by decide, hv⟩
theorem hi_turn (hh : HI a p v h) (hn : powI (h * h - 4 * a) ((p - 1).fdiv (2 ^ Int.toNat 1)) p ≠ p - 1) : HI a p v (h + 1) := by
  obtain ⟨h1, h2, h3⟩ := hh
  cases hf : 102 - h.toNat with
  | zero => rw [hf] at h3; cases h3
  | succ f =>
    rw [hf] at h3
    unfold hS at h3
    rw [if_neg hn] at h3
    exact ⟨by omega, by omega, by rw [show 102 - (h + 1).toNat = f by omega]; exact h3⟩
theorem hi_end (hh : HI a p v h) (hn : powI (h * h - 4 * a) ((p - 1).fdiv (2 ^ Int.toNat 1)) p = p - 1) : h = v := by
  obtain ⟨h1, h2, h3⟩ := hh
  cases hf : 102 - h.toNat with
  | zero => rw [hf] at h3; cases h3
  | succ f =>
    rw [hf] at h3
    unfold hS at h3
    rw [if_pos hn] at h3
    exact Option.some.inj h3
theorem hi_meas (hh : HI a p v h) (hn : powI (h * h - 4 * a) ((p - 1).fdiv (2 ^ Int.toNat 1)) p ≠ p - 1) : (102 - (h + 1)).toNat < (102 - h).toNat := by
  have := (hi_turn hh hn).2.1
  omega
theorem small2 {x y : Int} (h1 : -(2 ^ 62) ≤ x) (h2 : x < 2 ^ 62) : PySem.IntMulOk x y := PySem.IntMulOk.of_left (PySem.intBits_le_64 (by omega) (by omega))
end
end Mine
namespace Mine
def Lt8 (p x : Int) : Prop := 0 ≤ x ∧ x ≤ p
/-- the Lucas loop -/
def TI (p a h : Int) (pre : List Int) (v w q Q : Int) : Prop := tfold p a h pre = ⟨v, w, q, Q⟩ ∧ Lt8 p v ∧ Lt8 p w ∧ Lt8 p q ∧ Lt8 p Q
section
variable {p a h v w q Q c : Int} {pre : List Int}
theorem l8_mod (hp : SP p) (x : Int) : Lt8 p (x.fmod p) := by
  have h := hp.1
  have := (fdiv_fmod_facts x p).2.2.1 (by omega)
  exact ⟨this.1, by omega⟩
theorem ti_start (hp : SP p) : TI p a h [] 2 (h.fmod p) 1 1 := by
  have h1 := hp.1
  exact ⟨rfl, ⟨by omega, by omega⟩, l8_mod hp _, ⟨by omega, by omega⟩, ⟨by omega, by omega⟩⟩
theorem ti_one (hp : SP p) (hh : TI p a h pre v w q Q) (hc : c = 49) : TI p a h (pre ++ [c]) ((w * v - h * (q * Q).fmod p).fmod p) ((w * w - 2 * (q * Q).fmod p * a).fmod p) ((q * Q).fmod p) (((q * Q).fmod p * a).fmod p) := by
  refine ⟨?_, l8_mod hp _, l8_mod hp _, l8_mod hp _, l8_mod hp _⟩
  have h1 := hh.1
  unfold tfold at *
  rw [List.foldl_append, h1, List.foldl_cons, List.foldl_nil]
  unfold tstep
  rw [if_pos hc]
theorem ti_two (hp : SP p) (hh : TI p a h pre v w q Q) (hc : c ≠ 49) : TI p a h (pre ++ [c]) ((v * v - 2 * (q * Q).fmod p).fmod p) ((w * v - h * (q * Q).fmod p).fmod p) ((q * Q).fmod p) ((q * Q).fmod p) := by
  refine ⟨?_, l8_mod hp _, l8_mod hp _, l8_mod hp _, l8_mod hp _⟩
  have h1 := hh.1
  unfold tfold at *
  rw [List.foldl_append, h1, List.foldl_cons, List.foldl_nil]
  unfold tstep
  rw [if_neg hc]
theorem ti_v (hh : TI p a h pre v w q Q) : Lt8 p v := hh.2.1
theorem ti_w (hh : TI p a h pre v w q Q) : Lt8 p w := hh.2.2.1
theorem ti_q (hh : TI p a h pre v w q Q) : Lt8 p q := hh.2.2.2.1
theorem m8 (hp : SP p) {x y : Int} (hx : Lt8 p x) : PySem.IntMulOk x y := by
  have h1 := hp.2; have h2 := hx.1; have h3 := hx.2
  exact small2 (by omega) (by omega)
theorem m82 (hp : SP p) {x y : Int} (hx : Lt8 p x) : PySem.IntMulOk (2 * x) y := by
  have h1 := hp.2; have h2 := hx.1; have h3 := hx.2
  exact small2 (by omega) (by omega)
theorem mh {x : Int} (hh : HI a p v h) : PySem.IntMulOk h x := by
  have h1 := hh.1; have h2 := hh.2.1
  exact small2 (by omega) (by omega)
theorem sr_3 {r : Int} (hv : sqR a p = some r) (h3 : p.fmod 4 = 3) : powI a ((p + 1).fdiv (2 ^ Int.toNat 2)) p = r := by
  unfold sqR at hv; rw [if_pos h3] at hv; exact Option.some.inj hv
theorem sr_5 {r : Int} (hv : sqR a p = some r) (h3 : p.fmod 4 ≠ 3) (h5 : p.fmod 8 = 5) : (a * powI (a * 2 ^ Int.toNat 1) ((p - 5).fdiv (2 ^ Int.toNat 3)) p * ((a * powI (a * 2 ^ Int.toNat 1) ((p - 5).fdiv (2 ^ Int.toNat 3)) p * powI (a * 2 ^ Int.toNat 1) ((p - 5).fdiv (2 ^ Int.toNat 3)) p * 2 ^ Int.toNat 1).fmod p - 1)).fmod p = r := by
  unfold sqR at hv; rw [if_neg h3, if_pos h5] at hv; exact Option.some.inj hv
theorem sr_0 {r : Int} (hv : sqR a p = some r) (h3 : p.fmod 4 ≠ 3) (h5 : p.fmod 8 ≠ 5) (h1 : p.fmod 8 = 1) (h0 : a = 0) : 0 = r := by
  unfold sqR at hv; rw [if_neg h3, if_neg h5, if_pos h1, if_pos h0] at hv; exact Option.some.inj hv
theorem sr_2 {r : Int} (hv : sqR a p = some r) (h3 : p.fmod 4 ≠ 3) (h5 : p.fmod 8 ≠ 5) (h1 : p.fmod 8 ≠ 1) : a = r := by
  unfold sqR at hv; rw [if_neg h3, if_neg h5, if_neg h1] at hv; exact Option.some.inj hv
/-- the h of the search -/
def hV (a p : Int) : Int := (hS a p 100 2).getD 0
theorem hv_ok {r : Int} (hv : sqR a p = some r) (h3 : p.fmod 4 ≠ 3) (h5 : p.fmod 8 ≠ 5) (h1 : p.fmod 8 = 1) (h0 : a ≠ 0) : hS a p 100 2 = some (hV a p) ∧ ((tfold p a (hV a p) (bcodes ((p + 1).fdiv 2))).v * (p + 1).fdiv 2).fmod p = r := by
  unfold sqR at hv; rw [if_neg h3, if_neg h5, if_pos h1, if_neg h0] at hv
  obtain ⟨h, e1, e2⟩ := Option.map_eq_some_iff.mp hv
  have : hV a p = h := by unfold hV; rw [e1]; rfl
  rw [this]; exact ⟨e1, e2⟩
theorem hi_st {r : Int} (hv : sqR a p = some r) (h3 : p.fmod 4 ≠ 3) (h5 : p.fmod 8 ≠ 5) (h1 : p.fmod 8 = 1) (h0 : a ≠ 0) : HI a p (hV a p) 2 := hi_start (hv_ok hv h3 h5 h1 h0).1
end
end Mine
namespace Mine
section
variable {p a h v w q Q c r : Int} {pre : List Int}
theorem bk_nn (hp : SP p) : 0 ≤ (p + 1).fdiv 2 := by
  have := hp.1
  rw [Int.fdiv_eq_ediv_of_nonneg _ (by decide)]; omega
theorem bk_bd (hp : SP p) : ((p + 1).fdiv 2).natAbs < 2 ^ 1000 := by
  have h1 := hp.1; have h2 := hp.2
  rw [Int.fdiv_eq_ediv_of_nonneg _ (by decide)]
  exact Nat.lt_of_lt_of_le (m := 2 ^ 10) (by omega) (pow2_mono (by decide))
theorem nn1 (hp : SP p) : 0 ≤ (p - 1).fdiv (2 ^ Int.toNat 1) := by
  have := hp.1
  show 0 ≤ (p - 1).fdiv 2
  rw [Int.fdiv_eq_ediv_of_nonneg _ (by decide)]; omega
theorem nn2 (hp : SP p) : 0 ≤ (p + 1).fdiv (2 ^ Int.toNat 2) := by
  have := hp.1
  show 0 ≤ (p + 1).fdiv 4
  rw [Int.fdiv_eq_ediv_of_nonneg _ (by decide)]; omega
theorem nn3 (hp : SP p) (h8 : p.fmod 8 = 5) : 0 ≤ (p - 5).fdiv (2 ^ Int.toNat 3) := by
  have := hp.1
  rw [Int.fmod_eq_emod_of_nonneg _ (by decide)] at h8
  show 0 ≤ (p - 5).fdiv 8
  rw [Int.fdiv_eq_ediv_of_nonneg _ (by decide)]; omega
end
end Mine
namespace Mine
section
variable {p a h v w q Q c r g : Int} {pre : List Int}
theorem ti_start2 (hh : HI a p g h) (he : powI (h * h - 4 * a) ((p - 1).fdiv (2 ^ Int.toNat 1)) p = p - 1) (hp : SP p) : TI p a g [] 2 (h.fmod p) 1 1 := by
  rw [hi_end hh he]; exact ti_start hp
theorem ti_one2 (hh : HI a p g h) (he : powI (h * h - 4 * a) ((p - 1).fdiv (2 ^ Int.toNat 1)) p = p - 1) (hp : SP p) (ht : TI p a g pre v w q Q) (hc : c = 49) : TI p a g (pre ++ [c]) ((w * v - h * (q * Q).fmod p).fmod p) ((w * w - 2 * (q * Q).fmod p * a).fmod p) ((q * Q).fmod p) (((q * Q).fmod p * a).fmod p) := by
  rw [hi_end hh he]; exact ti_one hp ht hc
theorem ti_two2 (hh : HI a p g h) (he : powI (h * h - 4 * a) ((p - 1).fdiv (2 ^ Int.toNat 1)) p = p - 1) (hp : SP p) (ht : TI p a g pre v w q Q) (hc : c ≠ 49) : TI p a g (pre ++ [c]) ((v * v - 2 * (q * Q).fmod p).fmod p) ((w * v - h * (q * Q).fmod p).fmod p) ((q * Q).fmod p) ((q * Q).fmod p) := by
  rw [hi_end hh he]; exact ti_two hp ht hc
theorem sr_12 (hv : sqR a p = some r) (h3 : p.fmod 4 ≠ 3) (h5 : p.fmod 8 ≠ 5) (h1 : p.fmod 8 = 1) (h0 : a ≠ 0) (ht : TI p a (hV a p) (KStt.codes (KStt.txt (bcodes ((p + 1).fdiv 2)))) v w q Q) : (v * (p + 1).fdiv 2).fmod p = r := by
  have h6 := (hv_ok hv h3 h5 h1 h0).2
  rw [codes_b] at ht
  rw [← h6, ht.1]
theorem m8a {y x : Int} (hp : SP p) (hA : SA p y) : PySem.IntMulOk y x := by
  have h1 := hp.2; have h2 := hA.1; have h3 := hA.2
  exact small2 (by omega) (by omega)
theorem m8p (hp : SP p) {b n : Int} (hn : 0 ≤ n) : 0 ≤ powI b n p ∧ powI b n p ≤ 200 := by
  have h1 := hp.1; have h2 := hp.2
  have := powI_lo (a := b) (n := n) (m := p) hn (by omega)
  omega
theorem m8b {y x b n : Int} (hp : SP p) (hA : SA p y) (hn : 0 ≤ n) : PySem.IntMulOk (y * powI b n p) x := by
  have h1 := hp.2; have h2 := hA.1; have h3 := hA.2
  have h4 := m8p (b := b) hp hn
  have h5 : 0 ≤ y * powI b n p := Int.mul_nonneg h2 h4.1
  have h6 : y * powI b n p ≤ 200 * 200 := Int.mul_le_mul (by omega) h4.2 h4.1 (by decide)
  exact small2 (by omega) (by omega)
end
end Mine
namespace Mine
theorem sh1 {p y : Int} (hp : SP p) (hA : SA p y) : y.natAbs < 2 ^ 64 := by
  have h1 := hp.2; have h2 := hA.1; have h3 := hA.2
  omega
theorem sh2 {p y b n : Int} (hp : SP p) (hA : SA p y) (hn : 0 ≤ n) : (y * powI b n p * powI b n p).natAbs < 2 ^ 64 := by
  have h1 := hp.2; have h2 := hA.1; have h3 := hA.2
  have h4 := m8p (b := b) hp hn
  have h5 : 0 ≤ y * powI b n p := Int.mul_nonneg h2 h4.1
  have h6 : y * powI b n p ≤ 200 * 200 := Int.mul_le_mul (by omega) h4.2 h4.1 (by decide)
  have h7 : 0 ≤ y * powI b n p * powI b n p := Int.mul_nonneg h5 h4.1
  have h8 : y * powI b n p * powI b n p ≤ 200 * 200 * 200 := Int.mul_le_mul h6 h4.2 h4.1 (by decide)
  omega
end Mine
namespace Mine
/-! a list of lists: a ledger told by membership -/
def cellsOf (adr : Nat → Addr) (vs : Nat → List Value) (cs : Nat → Nat) (n : Nat) : List (Addr × Obj) := (List.range n).map fun i => (adr i, listOf (vs i).toArray (cs i))
def refsOf (adr : Nat → Addr) (n : Nat) : List Value := (List.range n).map fun i => Value.ref (adr i)
def InjN (adr : Nat → Addr) (n : Nat) : Prop := ∀ i j, i < n → j < n → adr i = adr j → i = j
def OffN (adr : Nat → Addr) (n : Nat) (news : List (Addr × Obj)) : Prop := ∀ i, i < n → ∀ q ∈ news, @Ne Nat q.1 (adr i)
theorem mem_cells {adr : Nat → Addr} {vs : Nat → List Value} {cs : Nat → Nat} {n i : Nat} (h : i < n) : (adr i, listOf (vs i).toArray (cs i)) ∈ cellsOf adr vs cs n := List.mem_map.mpr ⟨i, List.mem_range.mpr h, rfl⟩
theorem cells_mem {adr : Nat → Addr} {vs : Nat → List Value} {cs : Nat → Nat} {n : Nat} {q : Addr × Obj} (h : q ∈ cellsOf adr vs cs n) : ∃ i, i < n ∧ q = (adr i, listOf (vs i).toArray (cs i)) := by
  obtain ⟨i, hi, rfl⟩ := List.mem_map.mp h
  exact ⟨i, List.mem_range.mp hi, rfl⟩
def updN {α : Type} (f : Nat → α) (j : Nat) (x : α) : Nat → α := fun i => if i = j then x else f i
theorem updN_same {α : Type} {f : Nat → α} {j : Nat} {x : α} : updN f j x j = x := if_pos rfl
theorem updN_ne {α : Type} {f : Nat → α} {i j : Nat} {x : α} (h : i ≠ j) : updN f j x i = f i := if_neg h
section
variable {prog : Program} {w : World} {A : Around} {E : Value → Shared → Prop} {s : Shared} {h₀ : Heap} {L : Addr} {m : Str → Option Value}
/-- a cell grows by one item -/
theorem append_cell {adr : Nat → Addr} {vs : Nat → List Value} {cs : Nat → Nat} {n j : Nat} {pre post : List (Addr × Obj)} {x : Value} {Q : Value → Shared → Prop}
    (F : Fr h₀ L s.heap m) (N : News h₀ L s.heap (pre ++ (cellsOf adr vs cs n ++ post))) (hj : j < n) (inj : InjN adr n) (h1 : ∀ q ∈ pre, @Ne Nat q.1 (adr j)) (h2 : ∀ q ∈ post, @Ne Nat q.1 (adr j)) (hsz : (vs j).length ≤ sizeLine)
    (h : ∀ h', Fr h₀ L h' m → News h₀ L h' (pre ++ (cellsOf adr (updN vs j (vs j ++ [x])) (updN cs j (cs j + 1)) n ++ post)) → Q .none { s with heap := h' }) :
    wpAny (model prog w) A (call (.builtin "list.append") [.ref (adr j), x]) Q E s := by
  have hm := N _ (List.mem_append_right _ (List.mem_append_left _ (mem_cells (vs := vs) (cs := cs) hj)))
  refine append_at hm.1 (fun h' hs ho' => h h' (F.change hs hm.2.1 hm.2.2) fun q hq => ?_) (by rw [List.size_toArray]; exact hsz)
  have old : ∀ q, q ∈ pre ++ (cellsOf adr vs cs n ++ post) → q.1 ≠ adr j → h'.get? q.1 = some q.2 ∧ q.1 ≠ L ∧ h₀.get? q.1 = none := fun q hq hne =>
    ⟨(hs.2 _ hne).trans (N q hq).1, (N q hq).2⟩
  rcases List.mem_append.mp hq with hq | hq
  · exact old q (List.mem_append_left _ hq) (h1 q hq)
  · rcases List.mem_append.mp hq with hq | hq
    · obtain ⟨i, hi, rfl⟩ := cells_mem hq
      by_cases e : i = j
      · subst e
        refine ⟨?_, hm.2⟩
        show h'.get? (adr i) = some (listOf (updN vs i (vs i ++ [x]) i).toArray (updN cs i (cs i + 1) i))
        rw [updN_same, updN_same, ho']
        simp [W.listOf]
      · have := old (adr i, listOf (vs i).toArray (cs i)) (List.mem_append_right _ (List.mem_append_left _ (mem_cells hi))) (fun e2 => e (inj i j hi hj e2))
        show h'.get? (adr i) = some (listOf (updN vs j (vs j ++ [x]) i).toArray (updN cs j (cs j + 1) i)) ∧ _
        rw [updN_ne e, updN_ne e]
        exact this
    · exact old q (List.mem_append_right _ (List.mem_append_right _ hq)) (h2 q hq)
/-- an element that is a new empty list -/
def NewList (h₀ : Heap) (L : Addr) (m : Str → Option Value) (led : List (Addr × Obj)) (s : Shared) (v : Value) (s' : Shared) : Prop :=
  ∃ X c h' tk', v = .ref X ∧ s' = { s with heap := h', toks := tk' } ∧ Fr h₀ L h' m ∧ News h₀ L h' ((X, listOf #[] c) :: led) ∧ ∀ q ∈ led, @Ne Nat q.1 X
theorem NewList.intro {h' : Heap} {led : List (Addr × Obj)} {X : Addr} {c tk' : Nat} (F : Fr h₀ L h' m) (N : News h₀ L h' ((X, listOf #[] c) :: led)) (hl : ∀ q ∈ led, @Ne Nat q.1 X) : NewList h₀ L m led s (.ref X) { s with heap := h', toks := tk' } :=
  ⟨X, c, h', tk', rfl, rfl, F, N, hl⟩
theorem refs_succ {adr : Nat → Addr} {i : Nat} {X : Addr} : refsOf (updN adr i X) (i + 1) = refsOf adr i ++ [.ref X] := by
  unfold refsOf
  rw [List.range_succ, List.map_append]
  congr 1
  · exact List.map_congr_left fun k hk => by rw [updN_ne (by have := List.mem_range.mp hk; omega)]
  · show [Value.ref (updN adr i X i)] = _
    rw [updN_same]
theorem cells_succ {adr : Nat → Addr} {cs : Nat → Nat} {i : Nat} {X : Addr} {c : Nat} : cellsOf (updN adr i X) (fun _ => []) (updN cs i c) (i + 1) = cellsOf adr (fun _ => []) cs i ++ [(X, listOf #[] c)] := by
  unfold cellsOf
  rw [List.range_succ, List.map_append]
  congr 1
  · exact List.map_congr_left fun k hk => by rw [updN_ne (by have := List.mem_range.mp hk; omega), updN_ne (by have := List.mem_range.mp hk; omega)]
  · show [(updN adr i X i, listOf #[] (updN cs i c i))] = _
    rw [updN_same, updN_same]
/-- a comprehension over a range whose element is a new empty list -/
theorem lct_cells {env : Env} {elt : Expr} {x : Str} {scope : Scope} {cl : List (Str × Addr)} {S : List (Addr × Obj) → Prop} {Fin : List Value → List (Addr × Obj) → Prop} {news : List (Addr × Obj)} {a : Int} {n : Nat} (hS : ∀ l, S l)
    (turn : ∀ I oI C oC D m₂ ys h tk (E' : Value → Shared → Prop) led, LCg.NsObj oC m₂ → Fr h₀ L h m → News h₀ L h ((I, oI) :: (C, oC) :: (D, LCg.lst ys) :: led) →
      wpAny (model prog w) A (eval elt (compEnvC scope cl C env)) (NewList h₀ L m ((I, oI) :: (C, oC) :: (D, LCg.lst ys) :: led) { s with heap := h, toks := tk }) E' { s with heap := h, toks := tk })
    (fin : ∀ adr cs, InjN adr n → OffN adr n news → Fin (refsOf adr n) (cellsOf adr (fun _ => []) cs n ++ news)) : LCg.CompRest prog w A h₀ L m env elt x scope cl s S (fun i v => ∃ t, v = .int (a + (i : Int)) t) Fin n 0 [] news := by
  have key : ∀ (j i : Nat) (adr : Nat → Addr) (cs : Nat → Nat), i + j = n → InjN adr i → OffN adr i news → LCg.CompRest prog w A h₀ L m env elt x scope cl s S (fun i v => ∃ t, v = .int (a + (i : Int)) t) Fin j i (refsOf adr i) (cellsOf adr (fun _ => []) cs i ++ news) := by
    intro j
    induction j with
    | zero =>
      intro i adr cs hij inj off
      have e : i = n := by omega
      subst e
      exact LCg.CompRest.zero (fin adr cs inj off)
    | succ j ih =>
      intro i adr cs hij inj off
      refine LCg.CompRest.succ ?_
      intro v I oI C oC D m₂ h tk E' hv hC hx F N off3 ne
      refine wpAny_mono (turn I oI C oC D m₂ _ h tk E' _ hC F N) (fun y s₂ hq => ?_) fun _ _ e => e
      obtain ⟨X, c, h', tk', rfl, rfl, F', N', hne⟩ := hq
      have inj' : InjN (updN adr i X) (i + 1) := by
        intro k l hk hl e
        by_cases hki : k = i <;> by_cases hli : l = i
        · omega
        · subst hki
          rw [updN_same, updN_ne hli] at e
          exact absurd e.symm (hne _ (List.Mem.tail _ (List.Mem.tail _ (List.Mem.tail _ (List.mem_append_left _ (mem_cells (by omega)))))))
        · subst hli
          rw [updN_same, updN_ne hki] at e
          exact absurd e (hne _ (List.Mem.tail _ (List.Mem.tail _ (List.Mem.tail _ (List.mem_append_left _ (mem_cells (by omega)))))))
        · rw [updN_ne hki, updN_ne hli] at e
          exact inj k l (by omega) (by omega) e
      have off' : OffN (updN adr i X) (i + 1) news := by
        intro k hk q hq
        by_cases hki : k = i
        · subst hki
          rw [updN_same]
          exact hne _ (List.Mem.tail _ (List.Mem.tail _ (List.Mem.tail _ (List.mem_append_right _ hq))))
        · rw [updN_ne hki]
          exact off k (by omega) q hq
      refine ⟨h', tk', cellsOf (updN adr i X) (fun _ => []) (updN cs i c) (i + 1) ++ news, rfl, F', ?_, ?_, hS _, ?_⟩
      · intro q hq
        rw [cells_succ] at hq
        apply N'
        simp only [List.mem_cons, List.mem_append, List.not_mem_nil, or_false] at hq ⊢
        rcases hq with h | h | h | (h | h) | h
        · exact .inr (.inl h)
        · exact .inr (.inr (.inl h))
        · exact .inr (.inr (.inr (.inl h)))
        · exact .inr (.inr (.inr (.inr (.inl h))))
        · exact .inl h
        · exact .inr (.inr (.inr (.inr (.inr h))))
      · rw [cells_succ]
        refine LCg.Off3.of fun p hp => ?_
        rcases List.mem_append.mp hp with hp | hp
        · rcases List.mem_append.mp hp with hp | hp
          · exact off3.mem p (List.mem_append_left _ hp)
          · rw [List.mem_singleton.mp hp]
            exact ⟨fun e => hne _ (List.Mem.head _) e.symm, fun e => hne _ (List.Mem.tail _ (List.Mem.head _)) e.symm, fun e => hne _ (List.Mem.tail _ (List.Mem.tail _ (List.Mem.head _))) e.symm⟩
        · exact off3.mem p (List.mem_append_right _ hp)
      · have := ih (i + 1) (updN adr i X) (updN cs i c) (by omega) inj' off'
        rw [refs_succ] at this
        exact this
  have := key n 0 (fun _ => 0) (fun _ => 0) (by omega) (fun i j hi => by omega) (fun i hi => by omega)
  exact this
end
/-- the ledger holds a list R of p lists; the i-th holds the ints rt i -/
def RootsAt (led : List (Addr × Obj)) (R : Addr) (p : Int) (rt : Int → List Int) : Prop :=
  ∃ (c : Nat) (adr : Nat → Addr), (R, listOf (refsOf adr p.toNat).toArray c) ∈ led ∧ ∀ i, i < p.toNat → ∃ vs c', (adr i, listOf (List.toArray vs) c') ∈ led ∧ IntsAre vs (rt i)
theorem RootsAt.mono {led led' : List (Addr × Obj)} {R : Addr} {p : Int} {rt : Int → List Int} (h : RootsAt led R p rt) (hs : ∀ q ∈ led, q ∈ led') : RootsAt led' R p rt := by
  obtain ⟨c, adr, h1, h2⟩ := h
  refine ⟨c, adr, hs _ h1, fun i hi => ?_⟩
  obtain ⟨vs, c', h3, h4⟩ := h2 i hi
  exact ⟨vs, c', hs _ h3, h4⟩
theorem RootsAt.of {adr : Nat → Addr} {vs : Nat → List Value} {cs : Nat → Nat} {p : Int} {rt : Int → List Int} {R : Addr} {c : Nat} {led : List (Addr × Obj)} (hR : (R, listOf (refsOf adr p.toNat).toArray c) ∈ led) (hc : ∀ q ∈ cellsOf adr vs cs p.toNat, q ∈ led) (hi : ∀ i, i < p.toNat → IntsAre (vs i) (rt i)) : RootsAt led R p rt :=
  ⟨c, adr, hR, fun i h => ⟨vs i, cs i, hc _ (mem_cells h), hi i h⟩⟩
section
variable {prog : Program} {w : World} {A : Around} {E : Value → Shared → Prop} {s : Shared} {h₀ : Heap} {L : Addr} {m : Str → Option Value}
theorem roots_item {led : List (Addr × Obj)} {R : Addr} {p e : Int} {rt : Int → List Int} {value slice : Expr} {u : Tok} {Q : Value → Shared → Prop} (N : News h₀ L s.heap led) (hR : RootsAt led R p rt) (h0 : 0 ≤ e) (h1 : e < p) (hf : p < 2 ^ 63)
    (h : ∀ x vs c, (x, listOf (List.toArray vs) c) ∈ led → IntsAre vs (rt e) → Q (.ref x) s)
    (hs : subscripted slice false (.ref R) (.int e u) = operate [.ref R, .int e u] (getItem (.ref R) (.int e u)) := by with_unfolding_all rfl) :
    wpAny (model prog w) A (subscriptTail value slice (.ref R) (.int e u)) Q E s := by
  obtain ⟨c, adr, h2, h3⟩ := hR
  have hl : s.heap.IsList R (refsOf adr p.toNat).toArray := ⟨_, (N _ h2).1, rfl, c, rfl⟩
  obtain ⟨vs, c', h4, h5⟩ := h3 e.toNat (by omega)
  rw [Int.toNat_of_nonneg h0] at h5
  refine tail_any hl.typeIs slot_list_getitem.lookup (wpAny_getItem_list hl h0 (by omega) ?_ (h (adr e.toNat) vs c' h4 h5)) hs
  have hlt : e.toNat < p.toNat := by omega
  simp [refsOf, hlt]
theorem isl_mem {led : List (Addr × Obj)} {x : Addr} {vs : List Value} {c : Nat} {h : Heap} (N : News h₀ L h led) (hm : (x, listOf vs.toArray c) ∈ led) : h.IsList x vs.toArray := ⟨_, (N _ hm).1, rfl, c, rfl⟩
end
end Mine
namespace Mine
abbrev RetRt (h₀ : Heap) (L : Addr) (m : Str → Option Value) (news : List (Addr × Obj)) (s : Shared) (Q : Value → Shared → Prop) (p : Int) (rt : Int → List Int) : Prop :=
  ∀ (R : Addr) (led : List (Addr × Obj)) (h' : Heap) (tk' : Nat), RootsAt led R p rt → Fr h₀ L h' m → News h₀ L h' (led ++ news) → Q (.ref R) { s with heap := h', toks := tk' }
abbrev ClaimRt (prog : Program) (w : World) (K : Frag) (pp : Program) (f : Addr) (d : Nat) (H : Heap → Prop) (vs : List Value) (p : Int) (rt : Int → List Int) : Prop :=
  ∀ {loose : List Str} {mean : ExcName → Option Value} {mg mb : Str → Option Value} {news : List (Addr × Obj)} {dp un : Nat} {gd : Option (List Code)} {cn : Str} {cs : Scope} {a : Addr} {ccd : Value} {cl : List (Str × Addr)} {outer : List Env} {A₀ : Around} {base h₀ : Heap} {L : Addr} {m : Str → Option Value} {s : Shared} {Q E : Value → Shared → Prop},
    Below A₀ base outer h₀ → Fr h₀ L s.heap m → K.In h₀ → News h₀ L s.heap news → Top pp loose mean mg mb h₀ → cs.kind = .function →
    H base → dp + d < recursionLimit → un + 8 * d < cLine → RetRt h₀ L m news s Q p rt →
      wpAny (model prog w) (ktrTop dp un gd cn cs L a ccd cl outer) (call (.ref f) vs) Q E s
end Mine
namespace Mine
theorem off1_mem {D : Addr} : ∀ {l : List (Addr × Obj)}, LCg.Off1 D l → ∀ p ∈ l, @Ne Nat p.1 D
  | [], _, _, h => nomatch h
  | _ :: _, x, p, h => by
    rcases List.mem_cons.mp h with rfl | h
    · exact x.1
    · exact off1_mem x.2 p h
theorem cells_adr {adr : Nat → Addr} {vs vs' : Nat → List Value} {cs cs' : Nat → Nat} {n : Nat} {d : Addr × Obj} {news : List (Addr × Obj)} : (d :: (cellsOf adr vs cs n ++ news)).map (·.1) = (d :: (cellsOf adr vs' cs' n ++ news)).map (·.1) := by
  unfold cellsOf
  simp [List.map_append, List.map_map, Function.comp_def]
abbrev CSt := (Nat → List Value) × (Nat → Nat)
def CLed (d : Addr × Obj) (adr : Nat → Addr) (n : Nat) (news : List (Addr × Obj)) (c : CSt) : List (Addr × Obj) := d :: (cellsOf adr c.1 c.2 n ++ news)
/-- the squares of pre that are i -/
def CInv (p : Int) (n : Nat) (pre : List Int) (c : CSt) : Prop := ∀ i, i < n → IntsAre (c.1 i) (pre.filter fun x => decide ((x * x).fmod p = (i : Int)))
theorem cinv_start (p : Int) (n : Nat) (cs : Nat → Nat) : CInv p n [] (fun _ => [], cs) := fun _ _ => .nil
def CUp (c : CSt) (j : Nat) (k : Int) (t : Tok) : CSt := (updN c.1 j (c.1 j ++ [.int k t]), updN c.2 j (c.2 j + 1))
theorem cinv_turn {p : Int} {n : Nat} {pre : List Int} {c : CSt} (h : CInv p n pre c) {k e : Int} (he : (k * k).fmod p = e) (h0 : 0 ≤ e) (t : Tok) : CInv p n (pre ++ [k]) (CUp c e.toNat k t) := fun i hi => by
  rw [List.filter_append]
  show IntsAre (updN c.1 e.toNat (c.1 e.toNat ++ [.int k t]) i) _
  by_cases hie : i = e.toNat
  · subst hie
    rw [updN_same]
    have : [k].filter (fun x => decide ((x * x).fmod p = ((e.toNat : Nat) : Int))) = [k] := by simp [he, Int.toNat_of_nonneg h0]
    rw [this]
    exact (h _ hi).append (.cons k t .nil)
  · rw [updN_ne hie]
    have : [k].filter (fun x => decide ((x * x).fmod p = (i : Int))) = [] := by
      simp only [List.filter_cons, List.filter_nil]
      rw [if_neg (by simp; omega)]
    rw [this, List.append_nil]
    exact h i hi
theorem cinv_end {p : Int} {n : Nat} {c : CSt} (h : CInv p n (rangeKs 0 n) c) (hn : n = p.toNat) : ∀ i, i < p.toNat → IntsAre (c.1 i) (rtF p i) := fun i hi => by
  have := h i (by omega)
  unfold rtF
  rw [← hn]
  exact this
theorem cinv_len {p : Int} {n : Nat} {pre : List Int} {c : CSt} (h : CInv p n pre c) {j : Nat} (hj : j < n) : (c.1 j).length ≤ pre.length := by
  rw [(h j hj).length]
  exact List.length_filter_le _ _
section
variable {prog : Program} {w : World} {A : Around} {E : Value → Shared → Prop} {s : Shared} {h₀ : Heap} {L : Addr} {m : Str → Option Value}
theorem roots_itemC {d : Addr} {k0 : Nat} {adr : Nat → Addr} {n : Nat} {news own : List (Addr × Obj)} {c : CSt} {e : Int} {value slice : Expr} {u : Tok} {Q : Value → Shared → Prop} (N : News h₀ L s.heap (CLed (d, listOf (refsOf adr n).toArray k0) adr n news c ++ own)) (h0 : 0 ≤ e) (h1 : e.toNat < n) (hf : e < 2 ^ 63)
    (h : (adr e.toNat, listOf (c.1 e.toNat).toArray (c.2 e.toNat)) ∈ CLed (d, listOf (refsOf adr n).toArray k0) adr n news c ++ own → Q (.ref (adr e.toNat)) s)
    (hs : subscripted slice false (.ref d) (.int e u) = operate [.ref d, .int e u] (getItem (.ref d) (.int e u)) := by with_unfolding_all rfl) :
    wpAny (model prog w) A (subscriptTail value slice (.ref d) (.int e u)) Q E s := by
  have hl : s.heap.IsList d (refsOf adr n).toArray := ⟨_, (N _ (List.mem_append_left _ (List.Mem.head _))).1, rfl, k0, rfl⟩
  have hc : (adr e.toNat, listOf (c.1 e.toNat).toArray (c.2 e.toNat)) ∈ CLed (d, listOf (refsOf adr n).toArray k0) adr n news c ++ own := List.mem_append_left _ (List.Mem.tail _ (List.mem_append_left _ (mem_cells (vs := c.1) (cs := c.2) h1)))
  refine tail_any hl.typeIs slot_list_getitem.lookup (wpAny_getItem_list hl h0 hf ?_ (h hc)) hs
  simp [refsOf, h1]
theorem append_cell2 {d : Addr × Obj} {adr : Nat → Addr} {n j : Nat} {news own : List (Addr × Obj)} {c : CSt} {k : Int} {t : Tok} {Q : Value → Shared → Prop}
    (F : Fr h₀ L s.heap m) (N : News h₀ L s.heap (CLed d adr n news c ++ own)) (hj : j < n) (inj : InjN adr n) (hd : @Ne Nat d.1 (adr j)) (h1 : OffN adr n news) (h2 : ∀ q ∈ own, @Ne Nat q.1 (adr j)) (hsz : (c.1 j).length ≤ sizeLine)
    (h : ∀ h', Fr h₀ L h' m → News h₀ L h' (CLed d adr n news (CUp c j k t) ++ own) → Q .none { s with heap := h' }) :
    wpAny (model prog w) A (call (.builtin "list.append") [.ref (adr j), .int k t]) Q E s := by
  have re : ∀ c : CSt, CLed d adr n news c ++ own = [d] ++ (cellsOf adr c.1 c.2 n ++ (news ++ own)) := fun c => by
    unfold CLed; simp
  rw [re] at N
  refine append_cell F N hj inj (fun q hq => by rw [List.mem_singleton.mp hq]; exact hd) (fun q hq => ?_) hsz (fun h' F' N' => h h' F' (by rw [re]; exact N'))
  rcases List.mem_append.mp hq with hq | hq
  · exact h1 j hj q hq
  · exact h2 q hq
end
end Mine
namespace Mine
theorem own_off {own : List (Addr × Obj)} {d : Addr × Obj} {adr : Nat → Addr} {n : Nat} {news : List (Addr × Obj)} {c : CSt} (h : OwnOff own ((CLed d adr n news c).map (·.1))) {j : Nat} (hj : j < n) : ∀ q ∈ own, @Ne Nat q.1 (adr j) := fun q hq =>
  h q hq _ (List.mem_map.mpr ⟨_, List.Mem.tail _ (List.mem_append_left _ (mem_cells (vs := c.1) (cs := c.2) hj)), rfl⟩)
theorem d_off {D : Addr} {adr : Nat → Addr} {vs : Nat → List Value} {cs : Nat → Nat} {n : Nat} {news : List (Addr × Obj)} (h : LCg.Off1 D (cellsOf adr vs cs n ++ news)) {j : Nat} (hj : j < n) : @Ne Nat D (adr j) := fun e =>
  off1_mem h _ (List.mem_append_left _ (mem_cells hj)) e.symm
theorem roots_ret {d : Addr} {k0 : Nat} {adr : Nat → Addr} {n : Nat} {p : Int} {c : CSt} (hn : n = p.toNat) (hP : CInv p n (rangeKs 0 n) c) : RootsAt ((d, listOf (refsOf adr n).toArray k0) :: cellsOf adr c.1 c.2 n) d p (rtF p) := by
  have hi := cinv_end hP hn
  subst hn
  exact RootsAt.of (List.Mem.head _) (fun q hq => List.Mem.tail _ hq) hi
theorem sq_j {p k : Int} (hp : SP p) : 0 ≤ (k * k).fmod p ∧ ((k * k).fmod p).toNat < (p - 0).toNat ∧ (k * k).fmod p < 2 ^ 63 := by
  have h1 := hp.1; have h2 := hp.2
  have := (fdiv_fmod_facts (k * k) p).2.2.1 (by omega)
  omega
theorem sub0 (p : Int) : (p - 0).toNat = p.toNat := by rw [Int.sub_zero]
end Mine
namespace Mine
/-! _law_up -/
def UPI (y p : Int) (pre : List Int) (o : Int) : Prop := o = upF y p pre.length ∧ Lt8 p o
section
variable {y p o k : Int} {pre : List Int}
theorem up_start (hp : SP p) : UPI y p [] 1 := ⟨rfl, by have := hp.1; exact ⟨by omega, by omega⟩⟩
theorem up_turn (hp : SP p) (h : UPI y p pre o) : UPI y p (pre ++ [k]) ((o * y).fmod p) := by
  refine ⟨?_, l8_mod hp _⟩
  rw [List.length_append]
  show _ = (upF y p pre.length * y).fmod p
  rw [← h.1]
theorem up_end {m : Nat} {t : Int} (h : UPI y p (rangeKs 0 m) o) (hm : m = t.toNat) : o = upF y p t.toNat := by
  have := h.1
  rw [rangeKs_length, hm] at this
  exact this
theorem up_mul (hp : SP p) (h : UPI y p pre o) : PySem.IntMulOk o y := m8 hp h.2
end
/-! _law_lucas -/
def HLI (b p h : Int) : Prop := 2 ≤ h ∧ h ≤ p + 2 ∧ hL b p (202 - h.toNat) h = hL b p 200 2
section
variable {b p h f w k : Int} {pre : List Int}
theorem hl_start (hp : SP p) : HLI b p 2 := by
  have := hp.1
  exact ⟨by omega, by omega, rfl⟩
theorem hl_turn (hp : SP p) (hh : HLI b p h) (h1 : h < p + 2) (h2 : rtF p ((h * h - 4 * b).fmod p) ≠ []) : HLI b p (h + 1) := by
  have hp2 := hp.2
  obtain ⟨h3, h4, h5⟩ := hh
  obtain ⟨n, hn⟩ : ∃ n, 202 - h.toNat = n + 1 := ⟨202 - h.toNat - 1, by omega⟩
  refine ⟨by omega, by omega, ?_⟩
  rw [← h5, hn, show 202 - (h + 1).toNat = n by omega]
  conv => rhs; unfold hL
  rw [if_pos ⟨h1, h2⟩]
theorem hl_no (hh : HLI b p h) (hc : ¬ (h < p + 2 ∧ rtF p ((h * h - 4 * b).fmod p) ≠ [])) : h = hL b p 200 2 := by
  obtain ⟨h3, h4, h5⟩ := hh
  rw [← h5]
  cases 202 - h.toNat with
  | zero => rfl
  | succ n => unfold hL; rw [if_neg hc]
theorem hl_big (hh : HLI b p h) (hc : ¬ h < p + 2) : h = hL b p 200 2 := hl_no hh fun e => hc e.1
theorem hl_nil (hh : HLI b p h) (hc : ¬ rtF p ((h * h - 4 * b).fmod p) ≠ []) : h = hL b p 200 2 := hl_no hh fun e => hc e.2
theorem hl_md (hp : SP p) : 0 ≤ (h * h - 4 * b).fmod p ∧ (h * h - 4 * b).fmod p < p := (fdiv_fmod_facts _ p).2.2.1 (by have := hp.1; omega)
theorem hl_meas (hh : HLI b p h) (h1 : h < p + 2) : (p + 3 - (h + 1)).toNat < (p + 3 - h).toNat := by omega
theorem hl_mul {x : Int} (hp : SP p) (hh : HLI b p h) : PySem.IntMulOk h x := by
  have := hp.2; have := hh.1; have := hh.2.1
  exact small2 (by omega) (by omega)
def LUI (b p h : Int) (pre : List Int) (f w : Int) : Prop := luF b p h pre.length = (f, w) ∧ 0 ≤ f ∧ f ≤ 300 ∧ 0 ≤ w ∧ w ≤ 300
theorem lu_start (hp : SP p) (hh : HLI b p h) : LUI b p h [] 2 h := by
  have := hp.2; have := hh.1; have := hh.2.1
  exact ⟨rfl, by omega, by omega, by omega, by omega⟩
theorem lu_turn (hp : SP p) (hl : LUI b p h pre f w) : LUI b p h (pre ++ [k]) w ((h * w - b * f).fmod p) := by
  have h1 := hp.1; have h2 := hp.2
  obtain ⟨h3, h4, h5, h6, h7⟩ := hl
  have := (fdiv_fmod_facts (h * w - b * f) p).2.2.1 (by omega)
  refine ⟨?_, by omega, by omega, by omega, by omega⟩
  rw [List.length_append]
  show ((luF b p h pre.length).2, (h * (luF b p h pre.length).2 - b * (luF b p h pre.length).1).fmod p) = _
  rw [h3]
theorem lu_fin {m : Nat} (hp : SP p) (hl : LUI b p h (rangeKs 0 m) f w) (hm : m = ((p + 1).fdiv 2 - 0).toNat) (hh : h = hL b p 200 2) : (f.fmod 2 = 0 → f.fdiv 2 = lucF b p) ∧ (f.fmod 2 ≠ 0 → (f + p).fdiv 2 = lucF b p) := by
  have e := hl.1
  rw [rangeKs_length, hm, Int.sub_zero, hh] at e
  unfold lucF
  rw [e]
  exact ⟨fun h => by rw [if_pos h], fun h => by rw [if_neg h]⟩
theorem lu_even {m : Nat} (hp : SP p) (hl : LUI b p h (rangeKs 0 m) f w) (hm : m = ((p + 1).fdiv 2 - 0).toNat) (hh : h = hL b p 200 2) (h2 : f.fmod 2 = 0) : f.fdiv 2 = lucF b p := (lu_fin hp hl hm hh).1 h2
theorem lu_odd {m : Nat} (hp : SP p) (hl : LUI b p h (rangeKs 0 m) f w) (hm : m = ((p + 1).fdiv 2 - 0).toNat) (hh : h = hL b p 200 2) (h2 : f.fmod 2 ≠ 0) : (f + p).fdiv 2 = lucF b p := (lu_fin hp hl hm hh).2 h2
theorem half_sz (hp : SP p) : 0 ≤ (p + 1).fdiv 2 ∧ (p + 1).fdiv 2 ≤ 200 := by
  have := hp.1; have := hp.2
  rw [Int.fdiv_eq_ediv_of_nonneg _ (by decide)]; omega
end
theorem nd_yes2 {x : List Int} (h : decide (x = []) = false) : x ≠ [] := of_decide_eq_false h
theorem nd_no2 {x : List Int} (h : decide (x = []) = true) : ¬ x ≠ [] := fun e => e (of_decide_eq_true h)
/-- a call that is handed the list of roots -/
abbrev ClaimRd (prog : Program) (w : World) (K : Frag) (pp : Program) (f : Addr) (d : Nat) (R : Addr) (p : Int) (vs : List Value) (Rt : Tok → Value) : Prop :=
  ∀ {loose : List Str} {mean : ExcName → Option Value} {mg mb : Str → Option Value} {news : List (Addr × Obj)} {dp un : Nat} {gd : Option (List Code)} {cn : Str} {cs : Scope} {a : Addr} {ccd : Value} {cl : List (Str × Addr)} {outer : List Env} {A₀ : Around} {base h₀ : Heap} {L : Addr} {m : Str → Option Value} {s : Shared} {Q E : Value → Shared → Prop},
    Below A₀ base outer h₀ → Fr h₀ L s.heap m → K.In h₀ → News h₀ L s.heap news → RootsAt news R p (rtF p) → Top pp loose mean mg mb h₀ → cs.kind = .function →
    dp + d < recursionLimit → un + 8 * d < cLine → Ret h₀ L m news s Q Rt →
      wpAny (model prog w) (ktrTop dp un gd cn cs L a ccd cl outer) (call (.ref f) vs) Q E s
abbrev ClaimRl (prog : Program) (w : World) (K : Frag) (pp : Program) (f : Addr) (d : Nat) (R : Addr) (p : Int) (vs : List Value) (ns : List Int) : Prop :=
  ∀ {loose : List Str} {mean : ExcName → Option Value} {mg mb : Str → Option Value} {news : List (Addr × Obj)} {dp un : Nat} {gd : Option (List Code)} {cn : Str} {cs : Scope} {a : Addr} {ccd : Value} {cl : List (Str × Addr)} {outer : List Env} {A₀ : Around} {base h₀ : Heap} {L : Addr} {m : Str → Option Value} {s : Shared} {Q E : Value → Shared → Prop},
    Below A₀ base outer h₀ → Fr h₀ L s.heap m → K.In h₀ → News h₀ L s.heap news → RootsAt news R p (rtF p) → Top pp loose mean mg mb h₀ → cs.kind = .function →
    dp + d < recursionLimit → un + 8 * d < cLine → RetO h₀ L m news s Q ns →
      wpAny (model prog w) (ktrTop dp un gd cn cs L a ccd cl outer) (call (.ref f) vs) Q E s
end Mine
namespace Mine
section
variable {p y k w two : Int}
theorem rt_mem (h : k ∈ rtF p y) : 0 ≤ k ∧ k < p := by
  have := mem_rangeKs (List.mem_filter.mp h).1
  omega
theorem rt_sz (hp : SP p) : (rtF p y).length ≤ 200 := by
  have := hp.2
  unfold rtF
  exact Nat.le_trans (List.length_filter_le _ _) (by rw [rangeKs_length]; omega)
theorem rt0 (h : rtF p y ≠ []) : 0 < (rtF p y).length := by
  cases hh : rtF p y with
  | nil => exact absurd hh h
  | cons a l => simp
theorem rt0_mem (h : rtF p y ≠ []) : (rtF p y).getD (0 : Int).toNat 0 ∈ rtF p y := by
  have := rt0 h
  show (rtF p y).getD 0 0 ∈ _
  rw [List.getD_eq_getElem?_getD, List.getElem?_eq_getElem this]
  exact List.getElem_mem this
theorem gv_a (h : p = 2) : gvF y p = [y] := by unfold gvF; rw [if_pos (.inl h)]
theorem gv_b (h : y = 0) : gvF y p = [y] := by unfold gvF; rw [if_pos (.inr h)]
theorem gv_3 (h1 : p ≠ 2) (h2 : y ≠ 0) (h3 : p.fmod 4 = 3) : gvF y p = (rtF p y).filter fun x => decide (rtF p x ≠ []) := by
  unfold gvF; rw [if_neg (fun e => e.elim h1 h2), if_pos h3]
/-- what the law wants of x at p = 8 m + 5 -/
def wnF (p y : Int) : Int := ((if rtF p ((rtF p y).getD 0 0) ≠ [] then upF 2 p ((p - 5).fdiv 8).toNat * upF 2 p ((p - 5).fdiv 8).toNat * 2 - 1 else upF 2 p ((p - 5).fdiv 8).toNat * upF 2 p ((p - 5).fdiv 8).toNat * 2 + 1) * upF 2 p ((p - 5).fdiv 8).toNat).fmod p
theorem gv_5 (h1 : p ≠ 2) (h2 : y ≠ 0) (h3 : p.fmod 4 ≠ 3) (h5 : p.fmod 8 = 5) : gvF y p = (rtF p y).filter fun x => decide (upF x p (2 * (p - 5).fdiv 8 + 1).toNat = wnF p y) := by
  unfold gvF; rw [if_neg (fun e => e.elim h1 h2), if_neg h3, if_pos h5]; rfl
theorem gv_1 (h1 : p ≠ 2) (h2 : y ≠ 0) (h3 : p.fmod 4 ≠ 3) (h5 : p.fmod 8 ≠ 5) : gvF y p = [lucF y p] := by
  unfold gvF; rw [if_neg (fun e => e.elim h1 h2), if_neg h3, if_neg h5]
theorem wn_yes (h : rtF p ((rtF p y).getD 0 0) ≠ []) : ((upF 2 p ((p - 5).fdiv 8).toNat * upF 2 p ((p - 5).fdiv 8).toNat * 2 - 1) * upF 2 p ((p - 5).fdiv 8).toNat).fmod p = wnF p y := by
  unfold wnF; rw [if_pos h]
theorem wn_no (h : ¬ rtF p ((rtF p y).getD 0 0) ≠ []) : ((upF 2 p ((p - 5).fdiv 8).toNat * upF 2 p ((p - 5).fdiv 8).toNat * 2 + 1) * upF 2 p ((p - 5).fdiv 8).toNat).fmod p = wnF p y := by
  unfold wnF; rw [if_neg h]
theorem m_bd (hp : SP p) (h5 : p.fmod 8 = 5) : 0 ≤ (p - 5).fdiv 8 ∧ (p - 5).fdiv 8 ≤ 100 := by
  have h1 := hp.1; have h2 := hp.2
  rw [Int.fmod_eq_emod_of_nonneg _ (by decide)] at h5
  rw [Int.fdiv_eq_ediv_of_nonneg _ (by decide)]; omega
theorem up_bd (hp : SP p) (x : Int) : ∀ k : Nat, Lt8 p (upF x p k)
  | 0 => by have := hp.1; exact ⟨by show (0 : Int) ≤ 1; decide, by show (1 : Int) ≤ p; omega⟩
  | k + 1 => l8_mod hp _
theorem mul_tt (hp : SP p) {x : Int} {k : Nat} {z : Int} : PySem.IntMulOk (upF x p k) z := m8 hp (up_bd hp x k)
theorem mul_t3 (hp : SP p) {x : Int} {k : Nat} {z : Int} : PySem.IntMulOk (upF x p k * upF x p k) z := by
  have h2 := hp.2
  have h := up_bd hp x k
  have h1 : 0 ≤ upF x p k * upF x p k := Int.mul_nonneg h.1 h.1
  have h3 : upF x p k * upF x p k ≤ 200 * 200 := Int.mul_le_mul (by have := h.2; omega) (by have := h.2; omega) h.1 (by decide)
  exact small2 (by omega) (by omega)
theorem mul_t4 (hp : SP p) {x : Int} {k : Nat} {z c : Int} (hc : -1 ≤ c ∧ c ≤ 1) : PySem.IntMulOk (upF x p k * upF x p k * 2 + c) z := by
  have h2 := hp.2
  have h := up_bd hp x k
  have h1 : 0 ≤ upF x p k * upF x p k := Int.mul_nonneg h.1 h.1
  have h3 : upF x p k * upF x p k ≤ 200 * 200 := Int.mul_le_mul (by have := h.2; omega) (by have := h.2; omega) h.1 (by decide)
  exact small2 (by omega) (by omega)
end
section
variable {prog : Program} {w : World} {A : Around} {E : Value → Shared → Prop} {s : Shared} {h₀ : Heap} {L : Addr} {m : Str → Option Value}
theorem item_memI {led : List (Addr × Obj)} {l : Addr} {vs : List Value} {ns : List Int} {c : Nat} {value slice : Expr} {k : Int} {u : Tok} {Q : Value → Shared → Prop} (N : News h₀ L s.heap led) (hm : (l, listOf vs.toArray c) ∈ led) (hi : IntsAre vs ns) (h0 : 0 ≤ k) (h1 : k.toNat < ns.length) (hf : k < 2 ^ 63) (h : ∀ t, Q (.int (ns.getD k.toNat 0) t) s)
    (hs : subscripted slice false (.ref l) (.int k u) = operate [.ref l, .int k u] (getItem (.ref l) (.int k u)) := by with_unfolding_all rfl) :
    wpAny (model prog w) A (subscriptTail value slice (.ref l) (.int k u)) Q E s := by
  have hx : ns[k.toNat]? = some (ns.getD k.toNat 0) := by
    rw [List.getD_eq_getElem?_getD, List.getElem?_eq_getElem h1]; rfl
  obtain ⟨t, ht⟩ := hi.get k.toNat _ hx
  have hl : s.heap.IsList l vs.toArray := isl_mem N hm
  exact tail_any hl.typeIs slot_list_getitem.lookup (wpAny_getItem_list hl h0 hf (by simpa using ht) (h t)) hs
end
end Mine
namespace Mine
theorem srcAt_mem {h₀ : Heap} {ax : Addr} {its : Array Value} {k : Nat} {news : List (Addr × Obj)} (hm : (ax, listOf its k) ∈ news) : LCg.SrcAt h₀ ax its news := Or.inr ⟨_, hm, rfl, _, rfl⟩
theorem off1_lt {D : Addr} : ∀ {l : List (Addr × Obj)}, (∀ p ∈ l, p.1 < D) → LCg.Off1 D l
  | [], _ => trivial
  | p :: _, h => ⟨Nat.ne_of_lt (h p (List.Mem.head _)), off1_lt fun q hq => h q (List.Mem.tail _ hq)⟩
theorem tst_w {u v w : Int} (e : w = v) : (u == w) = decide (u = v) := by subst e; rfl
end Mine
namespace Mine
theorem news_d4 {h₀ h : Heap} {L : Addr} {p a b c d : Addr × Obj} {r : List (Addr × Obj)} (N : News h₀ L h (p :: a :: b :: c :: d :: r)) : News h₀ L h (p :: r) := fun q hq => N q (by
  rcases List.mem_cons.mp hq with e | e
  · rw [e]; exact List.Mem.head _
  · exact List.Mem.tail _ (List.Mem.tail _ (List.Mem.tail _ (List.Mem.tail _ (List.Mem.tail _ e)))))
end Mine
namespace Mine
def rV (y p : Int) : Int := (sqR y p).getD 0
def WholeOk (p : Int) : Prop := ∀ y, 0 ≤ y → y < p → rtF p y ≠ [] → sqR y p = some (rV y p) ∧ gvF y p = [rV y p]
theorem okP_whole {p : Int} (h : okP p = true) : WholeOk p := fun y h0 h1 hne => by
  have hm : y ∈ rangeKs 0 p.toNat := by
    unfold rangeKs
    exact List.mem_map.mpr ⟨y.toNat, List.mem_range.mpr (by omega), by omega⟩
  have ha := List.all_eq_true.mp h y hm
  unfold okA at ha
  simp only [Bool.or_eq_true, decide_eq_true_eq] at ha
  rcases ha with ha | ⟨h2, h3⟩
  · exact absurd ha hne
  · obtain ⟨x, hx⟩ : ∃ x, gvF y p = [x] := by
      cases hg : gvF y p with
      | nil => rw [hg] at h3; cases h3
      | cons x l =>
        rw [hg] at h3
        have : l = [] := List.length_eq_zero_iff.mp (by simpa using h3)
        rw [this]; exact ⟨x, rfl⟩
    rw [hx] at h2
    have h2' : sqR y p = some x := h2
    have : rV y p = x := by unfold rV; rw [h2']; rfl
    rw [this]
    exact ⟨h2', hx⟩
set_option maxRecDepth 100000 in
theorem okP2 : okP 2 = true := by decide +kernel
set_option maxRecDepth 100000 in
theorem okP3 : okP 3 = true := by decide +kernel
set_option maxRecDepth 100000 in
theorem okP7 : okP 7 = true := by decide +kernel
set_option maxRecDepth 100000 in
theorem okP11 : okP 11 = true := by decide +kernel
set_option maxRecDepth 100000 in
theorem okP19 : okP 19 = true := by decide +kernel
set_option maxRecDepth 100000 in
theorem okP23 : okP 23 = true := by decide +kernel
set_option maxRecDepth 100000 in
theorem okP31 : okP 31 = true := by decide +kernel
set_option maxRecDepth 100000 in
theorem okP43 : okP 43 = true := by decide +kernel
set_option maxRecDepth 100000 in
theorem okP47 : okP 47 = true := by decide +kernel
set_option maxRecDepth 100000 in
theorem okP59 : okP 59 = true := by decide +kernel
set_option maxRecDepth 100000 in
theorem okP67 : okP 67 = true := by decide +kernel
set_option maxRecDepth 100000 in
theorem okP71 : okP 71 = true := by decide +kernel
set_option maxRecDepth 100000 in
theorem okP79 : okP 79 = true := by decide +kernel
set_option maxRecDepth 100000 in
theorem okP83 : okP 83 = true := by decide +kernel
set_option maxRecDepth 100000 in
theorem okP103 : okP 103 = true := by decide +kernel
set_option maxRecDepth 100000 in
theorem okP107 : okP 107 = true := by decide +kernel
set_option maxRecDepth 100000 in
theorem okP5 : okP 5 = true := by decide +kernel
set_option maxRecDepth 100000 in
theorem okP13 : okP 13 = true := by decide +kernel
set_option maxRecDepth 100000 in
theorem okP29 : okP 29 = true := by decide +kernel
set_option maxRecDepth 100000 in
theorem okP37 : okP 37 = true := by decide +kernel
set_option maxRecDepth 100000 in
theorem okP53 : okP 53 = true := by decide +kernel
set_option maxRecDepth 100000 in
theorem okP61 : okP 61 = true := by decide +kernel
set_option maxRecDepth 100000 in
theorem okP17 : okP 17 = true := by decide +kernel
set_option maxRecDepth 100000 in
theorem okP41 : okP 41 = true := by decide +kernel
set_option maxRecDepth 100000 in
theorem okP73 : okP 73 = true := by decide +kernel
theorem okP_all {p : Int} (h : p ∈ primes02) : okP p = true := by
  unfold primes02 at h
  simp only [List.mem_cons, List.not_mem_nil, or_false] at h
  rcases h with rfl | rfl | rfl | rfl | rfl | rfl | rfl | rfl | rfl | rfl | rfl | rfl | rfl | rfl | rfl | rfl | rfl | rfl | rfl | rfl | rfl | rfl | rfl | rfl | rfl
  · exact okP2
  · exact okP3
  · exact okP7
  · exact okP11
  · exact okP19
  · exact okP23
  · exact okP31
  · exact okP43
  · exact okP47
  · exact okP59
  · exact okP67
  · exact okP71
  · exact okP79
  · exact okP83
  · exact okP103
  · exact okP107
  · exact okP5
  · exact okP13
  · exact okP29
  · exact okP37
  · exact okP53
  · exact okP61
  · exact okP17
  · exact okP41
  · exact okP73
/-- a prime of the table -/
def PT (p : Int) : Prop := p ∈ primes02
theorem pt_whole {p : Int} (h : PT p) : WholeOk p := okP_whole (okP_all h)
theorem pt_sp {p : Int} (h : PT p) : SP p := by
  have : primes02.all (fun p => decide (2 ≤ p) && decide (p ≤ 200)) = true := by decide
  have h2 := List.all_eq_true.mp this p h
  simp only [Bool.and_eq_true, decide_eq_true_eq] at h2
  exact h2
theorem pt_two : PT 2 := by unfold PT; decide
def dnV (step n : Int) : Int := (dnF step 40 n).getD 0
def dnB (step n : Int) : Bool := match dnF step 40 n with
  | some v => primes02.contains v
  | none => false
theorem dnB_ok {step n : Int} (h : dnB step n = true) : DNI step (dnV step n) n ∧ PT (dnV step n) := by
  unfold dnB at h
  split at h
  · rename_i v hv
    have : dnV step n = v := by unfold dnV; rw [hv]; rfl
    rw [this]
    exact ⟨⟨40, hv⟩, by unfold PT; simpa using h⟩
  · cases h
set_option maxRecDepth 100000 in
theorem tabd3 : ((List.range 30).all fun k => dnB 4 (3 + 4 * (k : Int))) = true := by decide +kernel
set_option maxRecDepth 100000 in
theorem tabd5 : ((List.range 8).all fun k => dnB 8 (5 + 8 * (k : Int))) = true := by decide +kernel
set_option maxRecDepth 100000 in
theorem tabd1 : ((List.range 8).all fun k => dnB 8 (17 + 8 * (k : Int))) = true := by decide +kernel
theorem md {q : Int} (hq : 0 < q) (x : Int) : ∃ k : Nat, (k : Int) < q ∧ x.fmod q = k := by
  have := (fdiv_fmod_facts x q).2.2.1 hq
  exact ⟨(x.fmod q).toNat, by omega, by omega⟩
theorem dn3 (x : Int) : DNI 4 (dnV 4 (3 + 4 * x.fmod 30)) (3 + 4 * x.fmod 30) ∧ PT (dnV 4 (3 + 4 * x.fmod 30)) := by
  obtain ⟨k, hk, e⟩ := md (q := 30) (by decide) x
  rw [e]
  exact dnB_ok (List.all_eq_true.mp tabd3 k (List.mem_range.mpr (by omega)))
theorem dn5 (x : Int) : DNI 8 (dnV 8 (5 + 8 * x.fmod 8)) (5 + 8 * x.fmod 8) ∧ PT (dnV 8 (5 + 8 * x.fmod 8)) := by
  obtain ⟨k, hk, e⟩ := md (q := 8) (by decide) x
  rw [e]
  exact dnB_ok (List.all_eq_true.mp tabd5 k (List.mem_range.mpr (by omega)))
theorem dn1 (x : Int) : DNI 8 (dnV 8 (17 + 8 * x.fmod 8)) (17 + 8 * x.fmod 8) ∧ PT (dnV 8 (17 + 8 * x.fmod 8)) := by
  obtain ⟨k, hk, e⟩ := md (q := 8) (by decide) x
  rw [e]
  exact dnB_ok (List.all_eq_true.mp tabd1 k (List.mem_range.mpr (by omega)))
def TB (t : Int) : Prop := t.natAbs < 2 ^ 300
theorem w60 : (0 : Int) < 10 ^ Int.toNat 60 + 7 := by decide +kernel
theorem tb_ok (ns : List Int) (i : Int) : TB (drawG ns i (10 ^ Int.toNat 60 + 7)) := by
  have h1 := (fdiv_fmod_facts (oneG ns i) (10 ^ Int.toNat 60 + 7)).2.2.1 w60
  have h2 := (fdiv_fmod_facts (-(oneG ns i)) (10 ^ Int.toNat 60 + 7)).2.2.1 w60
  have hb : (10 ^ Int.toNat 60 + 7 : Int).toNat < 2 ^ 300 := by decide +kernel
  unfold TB drawG
  generalize (10 ^ Int.toNat 60 + 7 : Int) = W at *
  generalize 2 ^ 300 = C at *
  split <;> omega
section
variable {p t k : Int}
theorem mul_tp (hp : SP p) (ht : TB t) : PySem.IntMulOk t p := mul_ok (Nat.lt_of_lt_of_le ht (pow2_mono (by decide))) (Nat.lt_of_lt_of_le (m := 2 ^ 10) (by have := hp.1; have := hp.2; omega) (pow2_mono (by decide)))
theorem at_mod (h0 : 0 ≤ k) (h1 : k < p) : (k + t * p).fmod p = k := by
  rw [Int.fmod_eq_emod_of_nonneg _ (by omega), Int.add_mul_emod_self_right, Int.emod_eq_of_lt h0 h1]
end
end Mine
namespace Mine
def constL (led : List (Addr × Obj)) : Unit → List (Addr × Obj) := fun _ => led
end Mine
namespace Mine
theorem whole_no2 {p k : Int} (h : WholeOk p) (h0 : 0 ≤ k) (h1 : k < p) (hne : rtF p k ≠ []) (hf : ¬ [rV k p] = gvF k p) : False := hf ((h k h0 h1 hne).2.symm)
end Mine
namespace Mine
set_option maxRecDepth 100000 in
set_option maxHeartbeats 8000000 in
open_top hd02 for PySem.Challenge.rw_yt0004_02
end Mine
namespace Mine
abbrev Cl (w : World) := Claim Challenge.rw_yt0004_02.row.prog w (hd02.heap_39 w.params) hd02.view_39
set_option maxRecDepth 100000 in
set_option maxHeartbeats 8000000 in
theorem draw_spec {w : World} {l : Addr} {vs : List Value} {ns : List Int} {i q : Int} {t2 t3 : Tok} (hI : IntsAre vs ns) (hn : ns.length < 2 ^ 62) (h0 : 0 ≤ i) (hi : i < 100) (hq : 0 < q) : Cl w 28 1 (fun base => base.IsList l vs.toArray) [.ref l, .int i t2, .int q t3] (fun t => .int (drawG ns i q) t) := by
  k_with_none
  dsimp only [Cl, Claim, Ret]
  k_fill
  intro loose mean mg mb news dp un gd cn cs a ccd cl outer A₀ base h₀ L m s Q E hB F X N T hk hH hd hu hret
  refine wpAny_call ?_
  (k_dflt cell_enter)
  have hq0 : q ≠ 0 := by omega
  k_with "binaryOp Mod int int" => (refine mod_int' hq0 ?_)
  w_top off
  k_steps
  all_goals first | (refine ret_int (Q := Q) hret (by unfold drawG oneG; (repeat' split) <;> first | rfl | (exfalso; omega)) (by k_asm) (by first | k_asm | exact cb_drop (by assumption) (by kcj_all)))
set_option maxRecDepth 100000 in
set_option maxHeartbeats 8000000 in
theorem prime_spec {w : World} {n : Int} {t1 : Tok} (h2 : 2 ≤ n) (hb2 : n ≤ 200) : Cl w 35 1 (fun _ => True) [.int n t1] (fun _ => .bool (prB n)) := by
  k_with_none
  dsimp only [Cl, Claim, Ret]
  k_fill
  intro loose mean mg mb news dp un gd cn cs a ccd cl outer A₀ base h₀ L m s Q E hB F X N T hk hH hd hu hret
  refine wpAny_call ?_
  (k_dflt cell_enter)
  k_with "exec While Compare cons nil" => k_while (fun script d => PDI n d) (fun script d => (17 - d).toNat) "d"
  k_with "state" => first | exact pd_start | exact pd_turn hb2 (by assumption) (by assumption) (by assumption)
  k_with "measure" => (have h9d := pd_lt hb2 (by assumption : PDI n _) (by assumption); omega)
  k_with "binaryOp Mult int int" => (refine mul_int ?_ (pd_mul (by assumption)))
  k_with "binaryOp Mod int int" => (refine mod_int' (pd_ne (by assumption)) ?_)
  w_top off
  k_steps
  all_goals first | (refine ret_bool (Q := Q) hret (by first | exact pd_no (by assumption) (by assumption) (by assumption) | exact pd_end (by assumption) (by assumption) _ rfl) (by k_asm) (by first | k_asm | exact cb_drop (by assumption) (by kcj_all)))
local macro_rules | `(tactic| walk_at "call ref") => `(tactic| (k_here; (with_reducible show wpAny _ _ (call (Value.ref 35) [Value.int _ _]) _ _ _); k_dflt (refine' prime_spec ?kp0 ?kp1 ?k1 ?k2 ?k3 ?k4 ?k5 ?kK ?kH ?kd ?ku ?_; (case k1 => k_asm); (case k2 => k_asm); (case k3 => k_asm); (case k4 => k_asm); (case k5 => k_asm); (case kK => first | exact rfl | assumption); (case kH => first | trivial | k_asm); (case kp0 => first | assumption | k_extra "prime_spec 0" | omega | l_fit | decide); (case kp1 => first | assumption | k_extra "prime_spec 1" | omega | l_fit | decide); (case kd => ktr_room); (case ku => ktr_units)); intro t9 h9 tk9 F9 N9; (try dsimp only); (try k_fold)))
set_option maxRecDepth 100000 in
set_option maxHeartbeats 8000000 in
theorem down_spec {w : World} {n step v : Int} {t1 t2 : Tok} (hs : 1 ≤ step) (hv : DNI step v n) : Cl w 42 2 (fun _ => True) [.int n t1, .int step t2] (fun t => .int v t) := by
  k_with_none
  dsimp only [Cl, Claim, Ret]
  k_fill
  intro loose mean mg mb news dp un gd cn cs a ccd cl outer A₀ base h₀ L m s Q E hB F X N T hk hH hd hu hret
  refine wpAny_call ?_
  (k_dflt cell_enter)
  k_with "exec While UnaryOp" => k_while (fun script n => DNI step v n) (fun script n => n.toNat) "n"
  k_with "prime_spec 0" => exact (dn_bd (by assumption : DNI step v _)).1
  k_with "prime_spec 1" => exact (dn_bd (by assumption : DNI step v _)).2
  k_with "state" => first | exact hv | exact dn_turn (by assumption) (by assumption)
  k_with "measure" => exact dn_meas hs (by assumption) (by assumption)
  w_top off
  k_steps
  all_goals first | (refine ret_int (Q := Q) hret (by exact dn_end (by assumption) (by assumption)) (by k_asm) (by first | k_asm | exact cb_drop (by assumption) (by kcj_all)))
end Mine
namespace Mine
local macro_rules | `(tactic| walk_at "call builtin:pow") => `(tactic| (k_here; (with_reducible show wpAny _ _ (call (Value.builtin "pow") [Value.int _ _, Value.int _ _, Value.int _ _]) _ _ _); (refine call_pow3i (by k_extra "pow nn") (by k_extra "pow m") ?_)))
local macro_rules | `(tactic| walk_at "call builtin:bin") => `(tactic| (k_here; (with_reducible show wpAny _ _ (call (Value.builtin "bin") [Value.int _ _]) _ _ _); k_extra "bin"))
local macro_rules | `(tactic| walk_at "subscriptTail Call") => `(tactic| (k_here; (with_reducible show wpAny _ _ (subscriptTail _ (Expr.Slice (some _) none none _) (Value.str _ _) _) _ _ _); k_extra "slice"))
local macro_rules | `(tactic| walk_at "exec For Name Subscript cons nil") => `(tactic| (k_here; (rename Fr _ _ _ _ => lF'); (with_unfolding_all refine' For_invVF lF' ?k1 ?k2 ?_; (case k1 => exact rfl); (case k2 => exact rfl); k_whole)))
local macro_rules | `(tactic| walk_at "binaryOp LShift int int") => `(tactic| (k_here; (with_reducible show wpAny _ _ (binaryOp _ (Value.int _ _) (Value.int _ _)) _ _ _); k_extra "lsh"))
set_option maxRecDepth 100000 in
set_option maxHeartbeats 8000000 in
theorem sq_spec {w : World} {a0 p y r : Int} {t1 t2 : Tok} (hp : SP p) (ha : a0.fmod p = y) (hA : SA p y) (hv : sqR y p = some r) : Cl w 21 1 (fun _ => True) [.int a0 t1, .int p t2] (fun t => .int r t) := by
  k_with_none
  dsimp only [Cl, Claim, Ret]
  k_fill
  intro loose mean mg mb news dp un gd cn cs a ccd cl outer A₀ base h₀ L m s Q E hB F X N T hk hH hd hu hret
  refine wpAny_call ?_
  (k_dflt cell_enter)
  have hp1 := hp.1
  have hp2 := hp.2
  have hp0 : p ≠ 0 := by omega
  have hA1 := hA.1
  have hA2 := hA.2
  k_with "storeName int" => ((with_reducible show wpAny _ _ (storeName _ (Str.ofString "a") _) _ _ _); refine store_eq ha ?_)
  k_with "inplaceOp Mod int int" => (refine imod_int hp0 ?_)
  k_with "binaryOp Mod int int" => first | (refine mod_int' (by decide) ?_) | (refine mod_int' hp0 ?_)
  k_with "pow nn" => first | exact nn1 hp | exact nn2 hp | exact nn3 hp (by assumption)
  k_with "pow m" => omega
  k_with "exec While Compare cons nil" => k_while (fun script h => HI y p (hV y p) h) (fun script h => (102 - h).toNat) "h"
  k_with "measure" => exact hi_meas (by assumption) (by assumption)
  k_with "binaryOp Mult int int" => first | (refine mul_int ?_ (m8a hp hA)) | (refine mul_int ?_ (m8b hp hA (nn3 hp (by assumption)))) | (refine mul_int ?_ (m8 hp (by with_reducible first | exact l8_mod hp _ | exact ti_v (by assumption) | exact ti_w (by assumption) | exact ti_q (by assumption) | exact ti_Q (by assumption)))) | (refine mul_int ?_ (m82 hp (by with_reducible first | exact l8_mod hp _ | exact ti_v (by assumption) | exact ti_w (by assumption) | exact ti_q (by assumption) | exact ti_Q (by assumption)))) | (refine mul_int ?_ (mh (by assumption))) | (refine mul_int ?_ (small2 (by omega) (by omega)))
  k_with "lsh" => first | (refine lshift_int_small (by decide) (by decide) (sh1 hp hA) ?_) | (refine lshift_int_small (by decide) (by decide) (sh2 hp hA (nn3 hp (by assumption))) ?_)
  k_with "bin" => (refine P.bin_of_int ?_ (bin_len (bk_nn hp) (bk_bd hp)))
  k_with "slice" => ((rename Fr _ _ _ _ => F7); (rename News _ _ _ _ => N7); refine slice_strN_sn F7 N7 (fun h7 t7 k7 F8 N8 => ?_) (hsz := bin_len (bk_nn hp) (bk_bd hp)); (rw [bin_slice (bk_nn hp)]); (try k_fold))
  k_with "pyIter str" => k_state (fun pre v w q Q => TI p y (hV y p) pre v w q Q) "v" "w" "q" "Q"
  k_with "state" => first | exact hi_st hv (by assumption) (by assumption) (by assumption) (by assumption) | exact hi_turn (by assumption) (by assumption) | exact ti_start2 (by assumption) (by assumption) hp | exact ti_one2 (by assumption) (by assumption) hp (by assumption) (one_yes (by assumption)) | exact ti_two2 (by assumption) (by assumption) hp (by assumption) (one_no (by assumption))
  w_top off
  k_steps
  all_goals first | (refine ret_int (Q := Q) hret (by first | exact sr_3 hv (by assumption) | exact sr_5 hv (by assumption) (by assumption) | exact sr_0 hv (by assumption) (by assumption) (by assumption) (by assumption) | exact sr_2 hv (by assumption) (by assumption) (by assumption) | exact sr_12 hv (by assumption) (by assumption) (by assumption) (by assumption) (by assumption)) (by k_asm) (by first | k_asm | exact cb_drop (by assumption) (by kcj_all)))
end Mine
namespace Mine
abbrev ClRt (w : World) := ClaimRt Challenge.rw_yt0004_02.row.prog w (hd02.heap_39 w.params) hd02.view_39
local macro_rules | `(tactic| walk_at "exec For Name Call cons nil") => `(tactic| (k_here; (rename Fr _ _ _ _ => lF'); (with_unfolding_all refine' For_invVF lF' ?k1 ?k2 ?_; (case k1 => exact rfl); (case k2 => exact rfl); k_whole)))
local macro_rules | `(tactic| k_mem) => `(tactic| first | with_reducible assumption | assumption)
local macro_rules | `(tactic| k_memK) => `(tactic| first | with_reducible assumption | assumption)
local macro_rules | `(tactic| walk_at "CompSrc") => `(tactic| (k_here; k_extra "csrc"))
local macro_rules | `(tactic| walk_at "NewList") => `(tactic| (k_here; k_extra "newl"))
local macro_rules | `(tactic| walk_at "pyIter ref") => `(tactic| (k_here; k_extra "rtloop"))
local macro_rules | `(tactic| walk_at "InvEndN") => `(tactic| (k_here; k_extra "rtend"))
local macro_rules | `(tactic| walk_at "subscriptTail Name") => `(tactic| (k_here; (with_reducible show wpAny _ _ (subscriptTail _ _ (Value.ref _) (Value.int _ _)) _ _ _); k_extra "rtitem"))
local macro_rules | `(tactic| walk_at "call builtin:list.append") => `(tactic| (k_here; (with_reducible show wpAny _ _ (call (Value.builtin _) [Value.ref _, _]) _ _ _); k_extra "rtapp"))
set_option maxRecDepth 100000 in
set_option maxHeartbeats 8000000 in
theorem roots_spec {w : World} {p : Int} {t1 : Tok} (hp : SP p) : ClRt w 47 1 (fun _ => True) [.int p t1] p (rtF p) := by
  k_with_none
  dsimp only [ClRt, ClaimRt, RetRt]
  k_fill
  intro loose mean mg mb news dp un gd cn cs a ccd cl outer A₀ base h₀ L m s Q E hB F X N T hk hH hd hu hret
  refine wpAny_call ?_
  (k_dflt cell_enter)
  have hp1 := hp.1
  have hp2 := hp.2
  have hp0 : p ≠ 0 := by omega
  k_with "csrc" => ((rename IsRange _ _ _ _ _ _ _ _ => rgX); (refine LCg.CompSrc.range (n := (p - 0).toNat) (by with_unfolding_all exact rfl) (by k_asm) (by k_asm) rgX (small_one (by omega) (by omega) (by omega) (by omega)) (rangeSize_nat _ _) (by show (p - 0).toNat ≤ sizeLine; rw [PySem.sizeLine_eq]; omega) ?_); intro g8; (refine lct_cells (fun _ => trivial) (fun I8 oI8 C8 oC8 D8 m8 ys8 h8 tk8 E8 led8 hC8 F8 N8 => ?_) (fun adr8 cs8 inj8 off8 => ?_)); (all_goals (try k_fold)))
  k_with "newl" => (refine NewList.intro (by assumption) (by assumption) (fun q8 hq8 => Nat.ne_of_lt (allLt_out (by assumption) q8 hq8)))
  k_with "rtloop" => ((rename IsRange _ _ _ _ _ _ _ _ => rgX); (rename Fr _ _ _ _ => lF'); (rename News _ _ _ _ => lN'); (rename LCg.Off1 _ _ => o9'); (with_unfolding_all refine' PySem.W.kst_range (σ := CSt) (CLed (_, LCg.lst (refsOf adr8 (p - 0).toNat)) adr8 (p - 0).toNat news) (fun _ => []) (fun _ => True) [] (CInv p (p - 0).toNat) ((fun _ => []), cs8) (by rfl) rgX (small_one (by omega) (by omega) (by omega) (by omega)) (rangeSize_nat _ _) lF' ?kn trivial ?kk (cinv_start _ _ _) ?_ ?_; (case kn => exact lN'); (case kk => exact fun _ h => nomatch h)); (focus (intro c8 pre8 k8 t8 u8 h8 tk8 own8 hk8 hl8 hown8 hf8 hP8 F8 N8)); rotate_left; (focus (intro c8 u8 h8 tk8 hf8 hP8 F8 N8)); rotate_right; (all_goals (try k_fold)))
  k_with "rtitem" => (refine roots_itemC (c := c8) (by assumption) (sq_j hp).1 (sq_j hp).2.1 (sq_j hp).2.2 (fun hl9 => ?_))
  k_with "rtapp" => (refine append_cell2 (c := c8) (by assumption) (by assumption) (sq_j hp).2.1 inj8 (d_off o9' (sq_j hp).2.1) off8 (own_off hown8 (sq_j hp).2.1) (by have h9l := cinv_len hP8 (sq_j (k := k8) hp).2.1; rw [PySem.sizeLine_eq]; omega) (fun h9 F9 N9 => ?_))
  k_with "rtend" => (refine PySem.W.kst_end (c := CUp c8 ((k8 * k8).fmod p).toNat k8 t8) (by assumption) (by assumption) (fun q h => List.mem_append_left _ h) (fun q h => List.mem_append_right _ h) cells_adr trivial (fun _ h => nomatch h) (by intro z h1 h2 h3; first | rfl | (simp only [h1, if_false, ↓reduceIte]; done) | (simp [h1, PySem.W.kstB]; done)) (cinv_turn hP8 rfl (sq_j hp).1 t8))
  k_with "binaryOp Mult int int" => (refine mul_int ?_ (small2 (by omega) (by omega)))
  k_with "binaryOp Mod int int" => (refine mod_int' hp0 ?_)
  w_top off
  k_steps
  all_goals (refine hret _ (_ :: cellsOf adr8 c8.1 c8.2 (p - 0).toNat) _ _ (roots_ret (sub0 p) hP8) (by k_asm) (by assumption))
end Mine
namespace Mine
abbrev ClRd (w : World) := ClaimRd Challenge.rw_yt0004_02.row.prog w (hd02.heap_39 w.params) hd02.view_39
abbrev ClRl (w : World) := ClaimRl Challenge.rw_yt0004_02.row.prog w (hd02.heap_39 w.params) hd02.view_39
local macro_rules | `(tactic| k_mem) => `(tactic| first | with_reducible assumption | assumption)
local macro_rules | `(tactic| k_memK) => `(tactic| first | with_reducible assumption | assumption)
set_option maxRecDepth 100000 in
set_option maxHeartbeats 8000000 in
theorem up_spec {w : World} {y q p : Int} {t1 t2 t3 : Tok} (hp : SP p) (h0 : 0 ≤ q) (hq2 : q ≤ 1000) : Cl w 54 1 (fun _ => True) [.int y t1, .int q t2, .int p t3] (fun t => .int (upF y p q.toNat) t) := by
  k_with_none
  dsimp only [Cl, Claim, Ret]
  k_fill
  intro loose mean mg mb news dp un gd cn cs a ccd cl outer A₀ base h₀ L m s Q E hB F X N T hk hH hd hu hret
  refine wpAny_call ?_
  (k_dflt cell_enter)
  have hp0 : p ≠ 0 := by have := hp.1; omega
  k_with "pyIter ref" => k_state (fun pre o => UPI y p pre o) "out"
  k_with "state" => first | exact up_start hp | exact up_turn hp (by assumption)
  k_with "binaryOp Mult int int" => (refine mul_int ?_ (up_mul hp (by assumption)))
  k_with "binaryOp Mod int int" => (refine mod_int' hp0 ?_)
  w_top off
  k_steps
  all_goals first | (refine ret_int (Q := Q) hret (by exact up_end (by assumption) (by rw [Int.sub_zero])) (by k_asm) (by first | k_asm | exact cb_drop (by assumption) (by kcj_all)))
local macro_rules | `(tactic| walk_at "subscriptTail") => `(tactic| (k_here; (with_reducible show wpAny _ _ (subscriptTail _ _ (Value.ref _) (Value.int _ _)) _ _ _); k_extra "rtitem"))
local macro_rules | `(tactic| walk_at "compareOp NotEq ref ref") => `(tactic| (k_here; (with_reducible show wpAny _ _ (compareOp _ (Value.ref _) (Value.ref _)) _ _ _); k_extra "cmpn"))
set_option maxRecDepth 100000 in
set_option maxHeartbeats 8000000 in
theorem lucas_spec {w : World} {rr : Addr} {p y : Int} {t1 t2 : Tok} (hp : SP p) (hA : SA p y) : ClRd w 61 12 rr p [.int y t1, .int p t2, .ref rr] (fun t => .int (lucF y p) t) := by
  k_with_none
  dsimp only [ClRd, ClaimRd, Ret]
  k_fill
  intro loose mean mg mb news dp un gd cn cs a ccd cl outer A₀ base h₀ L m s Q E hB F X N hR T hk hd hu hret
  refine wpAny_call ?_
  (k_dflt cell_enter)
  have hp1 := hp.1
  have hp2 := hp.2
  have hp0 : p ≠ 0 := by omega
  have hA1 := hA.1
  have hA2 := hA.2
  have hh1 := half_sz hp
  k_with "rtitem" => (refine roots_item (by assumption) (RootsAt.mono hR (fun q hq => by (repeat (first | exact hq | refine List.mem_append_left _ ?_ | refine List.Mem.tail _ ?_ | refine List.mem_append_right _ ?_)))) (hl_md hp).1 (hl_md hp).2 (by omega) (fun x8 vs8 c8 hm8 hI8 => ?_))
  k_with "cmpn" => (refine PySem.W.ke_ne_ints (isl_mem (by assumption) (by repeat (first | assumption | exact List.Mem.head _ | refine List.Mem.tail _ ?_))) (isl_mem (by assumption) (by repeat (first | assumption | exact List.Mem.head _ | refine List.Mem.tail _ ?_))) (by first | assumption | exact IntsAre.nil | exact IntsAre.cons _ _ IntsAre.nil) (by first | assumption | exact IntsAre.nil | exact IntsAre.cons _ _ IntsAre.nil) (by ke_room) ?_)
  k_with "exec While BoolOp" => k_while (fun script h => HLI y p h) (fun script h => (p + 3 - h).toNat) "h"
  k_with "pyIter ref" => k_state_given ["h"] (fun h pre f w => LUI y p h pre f w) "before" "now"
  k_with "state" => first | exact hl_start hp | exact hl_turn hp (by assumption) (by assumption) (nd_yes2 (by assumption)) | exact lu_start hp (by assumption : HLI y p _) | exact lu_turn hp (by assumption)
  k_with "measure" => exact hl_meas (by assumption : HLI y p _) (by assumption)
  k_with "binaryOp Mult int int" => first | (refine mul_int ?_ (hl_mul hp (by assumption))) | (refine mul_int ?_ (m8a hp hA)) | (refine mul_int ?_ (small2 (by omega) (by omega)))
  k_with "binaryOp Mod int int" => first | (refine mod_int' (by decide) ?_) | (refine mod_int' hp0 ?_)
  w_top off
  k_steps
  all_goals first | (refine ret_int (Q := Q) hret (by first | exact lu_even hp (by assumption) rfl (hl_big (by assumption) (by assumption)) (by assumption) | exact lu_odd hp (by assumption) rfl (hl_big (by assumption) (by assumption)) (by assumption) | exact lu_even hp (by assumption) rfl (hl_nil (by assumption) (nd_no2 (by assumption))) (by assumption) | exact lu_odd hp (by assumption) rfl (hl_nil (by assumption) (nd_no2 (by assumption))) (by assumption)) (by k_asm) (by first | k_asm | exact cb_drop (by assumption) (by kcj_all)))
end Mine
namespace Mine
local macro_rules | `(tactic| k_mem) => `(tactic| first | with_reducible assumption | assumption)
local macro_rules | `(tactic| k_memK) => `(tactic| first | with_reducible assumption | assumption)
local macro_rules | `(tactic| k_all) => `(tactic| ((refine' allNe ?a ?b); (case a => first | with_reducible assumption | exact allLt_out (And.right (by assumption))); (case b => first | exact Nat.le_refl _ | omega)))
local macro_rules | `(tactic| walk_at "eval ListComp") => `(tactic| (k_here; k_dflt (refine LCt.ListComp_T (F₀ := by k_asm) (by with_unfolding_all rfl) (by decide) (by rfl) (by decide) (by rfl) ?_)))
local macro_rules | `(tactic| walk_at "CompSrcT") => `(tactic| (k_here; k_extra "comp"))
local macro_rules | `(tactic| walk_at "TestIs") => `(tactic| (refine TestIs.intro (by k_extra "test") (by assumption) (by first | assumption | exact news_d1 (by assumption) | exact cb_drop (by assumption) (by kcj_all))))
local macro_rules | `(tactic| walk_at "IntIs") => `(tactic| (refine IntIs.intro (by assumption) (by first | assumption | exact news_d1 (by assumption))))
local macro_rules | `(tactic| walk_at "subscriptTail") => `(tactic| (k_here; (with_reducible show wpAny _ _ (subscriptTail _ _ (Value.ref _) (Value.int _ _)) _ _ _); k_extra "rtitem"))
local macro_rules | `(tactic| walk_at "compareOp NotEq ref ref") => `(tactic| (k_here; (with_reducible show wpAny _ _ (compareOp _ (Value.ref _) (Value.ref _)) _ _ _); k_extra "cmpn"))
local macro_rules | `(tactic| walk_at "call ref") => `(tactic| (k_here; (with_reducible show wpAny _ _ (call (Value.ref 54) [Value.int _ _, Value.int _ _, Value.int _ _]) _ _ _); k_dflt (refine' up_spec ?kp0 ?kp1 ?kp2 ?k1 ?k2 ?k3 ?k4 ?k5 ?kK ?kH ?kd ?ku ?_; (case k1 => k_asm); (case k2 => k_asm); (case k3 => k_asm); (case k4 => k_asm); (case k5 => k_asm); (case kK => first | exact rfl | assumption); (case kH => first | trivial | k_asm); (case kp0 => first | assumption | k_extra "up_spec 0"); (case kp1 => first | assumption | k_extra "up_spec 1"); (case kp2 => first | assumption | k_extra "up_spec 2"); (case kd => ktr_room); (case ku => ktr_units)); intro t9 h9 tk9 F9 N9; (try dsimp only); (try k_fold)))
local macro_rules | `(tactic| walk_at "call ref") => `(tactic| (k_here; (with_reducible show wpAny _ _ (call (Value.ref 61) [Value.int _ _, Value.int _ _, Value.ref _]) _ _ _); k_dflt (refine' lucas_spec ?kp0 ?kp1 ?k1 ?k2 ?k3 ?k4 ?km ?k5 ?kK ?kd ?ku ?_; (case k1 => k_asm); (case k2 => k_asm); (case k3 => k_asm); (case k4 => k_asm); (case km => k_extra "rmono"); (case k5 => k_asm); (case kK => first | exact rfl | assumption); (case kp0 => first | assumption | k_extra "lucas_spec 0"); (case kp1 => first | assumption | k_extra "lucas_spec 1"); (case kd => ktr_room); (case ku => ktr_units)); intro t9 h9 tk9 F9 N9; (try dsimp only); (try k_fold)))
set_option maxRecDepth 100000 in
set_option maxHeartbeats 8000000 in
theorem given_spec {w : World} {rr : Addr} {p y : Int} {t1 t2 : Tok} (hp : SP p) (hA : SA p y) (hne : rtF p y ≠ []) : ClRl w 66 14 rr p [.int y t1, .int p t2, .ref rr] (gvF y p) := by
  k_with_none
  dsimp only [ClRl, ClaimRl, RetO]
  k_fill
  intro loose mean mg mb news dp un gd cn cs a ccd cl outer A₀ base h₀ L m s Q E hB F X N hR T hk hd hu hret
  refine wpAny_call ?_
  (k_dflt (refine' code_defC ?k1 ?k2 ?k3 ?k4 ?k5 ?kA ?kF ?kK ?k6 ?k7 ?k8 ?k9 ?kB ?kD ?_ ?c2 ?c3 ?c4; (case kA => exact rfl); (case kF => exact rfl); (case kK => assumption); (case k1 => k_asm); (case k2 => k_asm); (case k3 => k_asm); (case k4 => k_asm); (case k5 => k_asm); (case k6 => k_is); (case k7 => k_is); (case k8 => ktr_room); (case k9 => first | exact BindsTo.of_eq rfl | exact binds_K (by k_in) rfl (by k_is) rfl rfl rfl); (case kB => exact rfl); (case kD => decide +kernel); (case c2 => exact rfl); (case c3 => exact rfl); (case c4 => exact rfl); k_whole; intro g' L' h' tk' cells' FG' F' N' Y' B' X' T' l1; (try k_lt l1); k_cells Y'; (try simp only [List.cons_append, List.nil_append] at N'); (try dsimp only); (try k_lift B'); (try k_fold)))
  have hp1 := hp.1
  have hp2 := hp.2
  have hp0 : p ≠ 0 := by omega
  have hA1 := hA.1
  have hA2 := hA.2
  k_with "rmono" => exact RootsAt.mono hR (fun q hq => by (repeat (first | exact hq | refine List.mem_append_left _ ?_ | refine List.Mem.tail _ ?_ | refine List.mem_append_right _ ?_)))
  k_with "rtitem" => first
    | (refine item_memI (by assumption) (by repeat (first | assumption | exact List.Mem.head _ | refine List.Mem.tail _ ?_)) (by assumption : IntsAre _ (rtF p y)) (by decide) (by first | exact rt0 hne | exact (rt0 hne)) (by decide) (fun t9 => ?_))
    | (refine roots_item (by assumption) (RootsAt.mono hR (fun q hq => by (repeat (first | exact hq | refine List.mem_append_left _ ?_ | refine List.Mem.tail _ ?_ | refine List.mem_append_right _ ?_)))) (by first | exact (hl_md hp).1 | exact hA.1 | exact (rt_mem (by assumption : _ ∈ rtF p _)).1 | exact (rt_mem (rt0_mem hne)).1) (by first | exact (hl_md hp).2 | exact hA.2 | exact (rt_mem (by assumption : _ ∈ rtF p _)).2 | exact (rt_mem (rt0_mem hne)).2) (by omega) (fun x8 vs8 c8 hm8 hI8 => ?_))
  k_with "cmpn" => (refine PySem.W.ke_ne_ints (isl_mem (by assumption) (by repeat (first | assumption | exact List.Mem.head _ | refine List.Mem.tail _ ?_))) (isl_mem (by assumption) (by repeat (first | assumption | exact List.Mem.head _ | refine List.Mem.tail _ ?_))) (by first | assumption | exact IntsAre.nil | exact IntsAre.cons _ _ IntsAre.nil) (by first | assumption | exact IntsAre.nil | exact IntsAre.cons _ _ IntsAre.nil) (by ke_room) ?_)
  k_with "comp" => first
    | ((have h9c := (by assumption : p.fmod 4 = 3)); ((refine LCt.CompSrcT.ledger (by with_unfolding_all exact rfl) (by k_asm) (by k_asm) (by k_mem) (by have h9z := rt_sz (y := y) hp; rw [List.size_toArray, IntsAre.length (by assumption : IntsAre _ (rtF p y)), PySem.sizeLine_eq]; omega) ?_); intro g8; (refine' lct_filter (fun x => decide (rtF p x ≠ [])) (by assumption : IntsAre _ (rtF p y)) (srcAt_mem (by k_mem)) (fun q tq I8 oI8 C8 oC8 D8 m8 ys8 h8 tk8 E8 hq hC8 hx8 F8 N8 off8 ne8 => ?_) (fun q tq I8 oI8 C8 oC8 D8 m8 ys8 h8 tk8 E8 hq hC8 hx8 F8 N8 off8 ne8 => ?_) (fun ys8 hys => ?_)); (all_goals (try (simp only [LCg.Off3, LCg.Off1, and_true] at off8))); (all_goals (try k_fold))))
    | ((have h9c := (by assumption : p.fmod 8 = 5)); ((refine LCt.CompSrcT.ledger (by with_unfolding_all exact rfl) (by k_asm) (by k_asm) (by k_mem) (by have h9z := rt_sz (y := y) hp; rw [List.size_toArray, IntsAre.length (by assumption : IntsAre _ (rtF p y)), PySem.sizeLine_eq]; omega) ?_); intro g8; (refine' lct_filter (fun x => decide (upF x p (2 * (p - 5).fdiv 8 + 1).toNat = wnF p y)) (by assumption : IntsAre _ (rtF p y)) (srcAt_mem (by k_mem)) (fun q tq I8 oI8 C8 oC8 D8 m8 ys8 h8 tk8 E8 hq hC8 hx8 F8 N8 off8 ne8 => ?_) (fun q tq I8 oI8 C8 oC8 D8 m8 ys8 h8 tk8 E8 hq hC8 hx8 F8 N8 off8 ne8 => ?_) (fun ys8 hys => ?_)); (all_goals (try (simp only [LCg.Off3, LCg.Off1, and_true] at off8))); (all_goals (try k_fold))))
  k_with "up_spec 0" => exact hp
  k_with "up_spec 1" => first | exact (m_bd hp (by assumption)).1 | (have h9m := m_bd hp (by assumption); omega)
  k_with "up_spec 2" => (have h9m := m_bd hp (by assumption); omega)
  k_with "lucas_spec 0" => exact hp
  k_with "lucas_spec 1" => exact hA
  k_with "binaryOp Mult int int" => first | (refine mul_int ?_ (mul_tt hp)) | (refine mul_int ?_ (mul_t3 hp)) | (refine mul_int ?_ (mul_t4 hp (by decide))) | (refine mul_int ?_ (mul_t5 hp)) | (refine mul_int ?_ (small2 (by decide) (by decide)))
  k_with "binaryOp Mod int int" => first | (refine mod_int' (by decide) ?_) | (refine mod_int' hp0 ?_)
  k_with "test" => first | rfl | exact decide_not.symm | exact tst_w (wn_no (nd_no2 (by assumption))) | exact tst_w (wn_yes (nd_yes2 (by assumption))) | (simp [*]; done)
  w_top off
  k_steps
  all_goals first
    | (refine hret _ _ _ _ _ (by first | (rw [gv_3 (by assumption) (by assumption) (by assumption)]; exact hys) | (rw [gv_5 (by assumption) (by assumption) (by assumption) (by assumption)]; exact hys)) (by k_asm) (by exact cb_drop (by assumption) (by kcj_all)) (by first | exact (by assumption : _ ∧ _ ∧ _ ∧ _ ∧ LCg.Off1 _ news).2.2.2.2 | exact (by assumption : _ ∧ _ ∧ _ ∧ _ ∧ _ ∧ LCg.Off1 _ news).2.2.2.2.2 | exact off1_lt (allLt_out (by assumption : _ ∧ _ ∧ _ ∧ _ ∧ AllLt _ news).2.2.2.2)))
    | (refine hret _ _ _ _ _ ?_ (by k_asm) (news_d4 (by assumption)) (by first | exact (by assumption : _ ∧ _ ∧ _ ∧ _ ∧ LCg.Off1 _ news).2.2.2.2 | exact (by assumption : _ ∧ _ ∧ _ ∧ _ ∧ _ ∧ LCg.Off1 _ news).2.2.2.2.2 | exact off1_lt (allLt_out (by assumption : _ ∧ _ ∧ _ ∧ _ ∧ AllLt _ news).2.2.2.2)); (first | (rw [gv_a (by assumption)]; exact IntsAre.cons _ _ IntsAre.nil) | (rw [gv_b (by assumption)]; exact IntsAre.cons _ _ IntsAre.nil) | (rw [gv_1 (by assumption) (by assumption) (by assumption) (by assumption)]; exact IntsAre.cons _ _ IntsAre.nil)))
end Mine
namespace Mine
local macro_rules | `(tactic| k_mem) => `(tactic| first | with_reducible assumption | assumption)
local macro_rules | `(tactic| k_memK) => `(tactic| first | with_reducible assumption | assumption)
local macro_rules | `(tactic| k_all) => `(tactic| ((refine' allNe ?a ?b); (case a => first | with_reducible assumption | exact allLt_out (And.right (by assumption))); (case b => first | exact Nat.le_refl _ | omega)))
local macro_rules | `(tactic| walk_at "subscriptTail") => `(tactic| (k_here; (with_reducible show wpAny _ _ (subscriptTail _ _ (Value.ref _) (Value.int _ _)) _ _ _); k_extra "rtitem"))
local macro_rules | `(tactic| walk_at "compareOp NotEq ref ref") => `(tactic| (k_here; (with_reducible show wpAny _ _ (compareOp _ (Value.ref _) (Value.ref _)) _ _ _); k_extra "cmpn"))
local macro_rules | `(tactic| walk_at "pyIter ref") => `(tactic| (k_here; k_extra "rtloop"))
local macro_rules | `(tactic| walk_at "InvEndN") => `(tactic| (k_here; k_extra "rtend"))
local macro_rules | `(tactic| walk_at "exec For Name Call cons nil") => `(tactic| (k_here; (rename Fr _ _ _ _ => lF'); (with_unfolding_all refine' For_invVF lF' ?k1 ?k2 ?_; (case k1 => exact rfl); (case k2 => exact rfl); k_whole)))
local macro_rules | `(tactic| walk_at "call ref") => `(tactic| (k_here; (with_reducible show wpAny _ _ (call (Value.ref 47) [Value.int _ _]) _ _ _); k_dflt (refine' roots_spec ?kp0 ?k1 ?k2 ?k3 ?k4 ?k5 ?kK ?kH ?kd ?ku ?_; (case k1 => k_asm); (case k2 => k_asm); (case k3 => k_asm); (case k4 => k_asm); (case k5 => k_asm); (case kK => first | exact rfl | assumption); (case kH => first | trivial | k_asm); (case kp0 => first | assumption | k_extra "roots_spec 0"); (case kd => ktr_room); (case ku => ktr_units)); intro R9 led9 h9 tk9 P9 F9 N9; (try dsimp only); (try k_fold)))
local macro_rules | `(tactic| walk_at "call ref") => `(tactic| (k_here; (with_reducible show wpAny _ _ (call (Value.ref 21) [Value.int _ _, Value.int _ _]) _ _ _); k_dflt (refine' sq_spec ?kp0 ?kp1 ?kp2 ?kp3 ?k1 ?k2 ?k3 ?k4 ?k5 ?kK ?kH ?kd ?ku ?_; (case k1 => k_asm); (case k2 => k_asm); (case k3 => k_asm); (case k4 => k_asm); (case k5 => k_asm); (case kK => first | exact rfl | assumption); (case kH => first | trivial | k_asm); (case kp0 => first | assumption | k_extra "sq_spec 0"); (case kp1 => first | assumption | k_extra "sq_spec 1"); (case kp2 => first | assumption | k_extra "sq_spec 2"); (case kp3 => first | assumption | k_extra "sq_spec 3"); (case kd => ktr_room); (case ku => ktr_units)); intro t9 h9 tk9 F9 N9; (try dsimp only); (try k_fold)))
local macro_rules | `(tactic| walk_at "call ref") => `(tactic| (k_here; (with_reducible show wpAny _ _ (call (Value.ref 66) [Value.int _ _, Value.int _ _, Value.ref _]) _ _ _); k_dflt (refine' given_spec ?kp0 ?kp1 ?kp2 ?k1 ?k2 ?k3 ?k4 ?km ?k5 ?kK ?kd ?ku ?_; (case k1 => k_asm); (case k2 => k_asm); (case k3 => k_asm); (case k4 => k_asm); (case km => k_extra "rmono"); (case k5 => k_asm); (case kK => first | exact rfl | assumption); (case kp0 => first | assumption | k_extra "given_spec 0"); (case kp1 => first | assumption | k_extra "given_spec 1"); (case kp2 => first | assumption | k_extra "given_spec 2"); (case kd => ktr_room); (case ku => ktr_units)); intro D9 vs9 c9 h9 tk9 I9 F9 N9 o9; (try simp only [LCg.Off1, and_true] at o9); (try dsimp only); (try k_fold)))
local macro_rules | `(tactic| walk_at "my pad") => `(tactic| fail "pad")
set_option maxRecDepth 100000 in
set_option maxHeartbeats 8000000 in
theorem whole_spec {w : World} {p tn : Int} {t1 t2 : Tok} (hp : SP p) (hT : TB tn) (hok : WholeOk p) : Cl w 73 18 (fun _ => True) [.int p t1, .int tn t2] (fun _ => .bool true) := by
  k_with_none
  dsimp only [Cl, Claim, Ret]
  k_fill
  intro loose mean mg mb news dp un gd cn cs a ccd cl outer A₀ base h₀ L m s Q E hB F X N T hk hH hd hu hret
  refine wpAny_call ?_
  (k_dflt cell_enter)
  have hp1 := hp.1
  have hp2 := hp.2
  have hp0 : p ≠ 0 := by omega
  k_with "roots_spec 0" => exact hp
  k_with "rtloop" => ((rename IsRange _ _ _ _ _ _ _ _ => rgX); (rename Fr _ _ _ _ => lF'); (rename News _ _ _ _ => lN'); (rename RootsAt _ _ _ _ => P9); (with_unfolding_all refine' PySem.W.kst_range (σ := Unit) (constL (_ ++ news)) (fun _ => []) (fun _ => True) [] (fun _ _ => True) () (by rfl) rgX (small_one (by omega) (by omega) (by omega) (by omega)) (rangeSize_nat _ _) lF' ?kn trivial ?kk trivial ?_ ?_; (case kn => exact lN'); (case kk => exact fun _ h => nomatch h)); (focus (intro c8 pre8 k8 t8 u8 h8 tk8 own8 hk8 hl8 hown8 hf8 hP8 F8 N8; (have hk0 : 0 ≤ k8 := (by omega)); (have hk1 : k8 < p := (by omega)))); rotate_left; (focus (intro c8 u8 h8 tk8 hf8 hP8 F8 N8)); rotate_right; (all_goals (try k_fold)))
  k_with "rtend" => (refine PySem.W.kst_end (c := ()) (by assumption) (by assumption) (fun q h => by repeat (first | exact List.mem_append_left _ h | refine List.Mem.tail _ ?_)) (fun q h => by repeat (first | exact List.mem_append_right _ h | refine List.Mem.tail _ ?_)) rfl trivial (fun _ h => nomatch h) (by intro z h1 h2 h3; first | rfl | (simp only [h1, if_false, ↓reduceIte]; done) | (simp [h1, PySem.W.kstB]; done)) trivial)
  k_with "rtitem" => (refine roots_item (by assumption) (RootsAt.mono P9 (fun q hq => by (repeat (first | exact hq | exact List.mem_append_left _ hq | exact List.mem_append_left _ (List.mem_append_left _ hq) | refine List.Mem.tail _ ?_)))) hk0 hk1 (by omega) (fun x8 vs8 c8 hm8 hI8 => ?_))
  k_with "rmono" => exact RootsAt.mono P9 (fun q hq => by (repeat (first | exact hq | exact List.mem_append_left _ hq | exact List.mem_append_left _ (List.mem_append_left _ hq) | refine List.Mem.tail _ ?_)))
  k_with "cmpn" => (refine PySem.W.ke_ne_ints (isl_mem (by assumption) (by repeat (first | assumption | exact List.Mem.head _ | refine List.Mem.tail _ ?_))) (isl_mem (by assumption) (by repeat (first | assumption | exact List.Mem.head _ | refine List.Mem.tail _ ?_))) (by first | assumption | exact IntsAre.nil | exact IntsAre.cons _ _ IntsAre.nil) (by first | assumption | exact IntsAre.nil | exact IntsAre.cons _ _ IntsAre.nil) (by ke_room) ?_)
  k_with "binaryOp Mult int int" => (refine mul_int ?_ (mul_tp hp hT))
  k_with "sq_spec 0" => exact hp
  k_with "sq_spec 1" => exact at_mod hk0 hk1
  k_with "sq_spec 2" => exact ⟨hk0, hk1⟩
  k_with "sq_spec 3" => exact (hok _ hk0 hk1 (nd_yes2 (by assumption))).1
  k_with "given_spec 0" => exact hp
  k_with "given_spec 1" => exact ⟨hk0, hk1⟩
  k_with "given_spec 2" => exact nd_yes2 (by assumption)
  w_top off
  k_steps
  all_goals first | (exfalso; exact whole_no2 hok hk0 hk1 (nd_yes2 (by assumption)) (by assumption)) | (refine ret_bool (Q := Q) hret (by rfl) (by k_asm) (by first | k_asm | exact cb_drop (by assumption) (by kcj_all)))
end Mine
open Mine
local macro_rules | `(tactic| k_mem) => `(tactic| first | with_reducible assumption | assumption)
local macro_rules | `(tactic| k_memK) => `(tactic| first | with_reducible assumption | assumption)
local macro_rules | `(tactic| walk_at "call ref") => `(tactic| (k_here; (with_reducible show wpAny _ _ (call (Value.ref 28) [Value.ref _, Value.int _ _, Value.int _ _]) _ _ _); k_dflt (refine' draw_spec ?kp0 ?kp1 ?kp2 ?kp3 ?kp4 ?k1 ?k2 ?k3 ?k4 ?k5 ?kK ?kH ?kd ?ku ?_; (case k1 => k_asm); (case k2 => k_asm); (case k3 => k_asm); (case k4 => k_asm); (case k5 => k_asm); (case kK => first | exact rfl | assumption); (case kH => first | trivial | k_asm); (case kp0 => first | assumption | k_extra "draw_spec 0" | omega | l_fit | decide); (case kp1 => first | assumption | k_extra "draw_spec 1" | omega | l_fit | decide); (case kp2 => first | assumption | k_extra "draw_spec 2" | omega | l_fit | decide); (case kp3 => first | assumption | k_extra "draw_spec 3" | omega | l_fit | decide); (case kp4 => first | assumption | k_extra "draw_spec 4" | omega | l_fit | decide); (case kd => ktr_room); (case ku => ktr_units)); intro t9 h9 tk9 F9 N9; (try dsimp only); (try k_fold)))
local macro_rules | `(tactic| walk_at "call ref") => `(tactic| (k_here; (with_reducible show wpAny _ _ (call (Value.ref 42) [Value.int _ _, Value.int _ _]) _ _ _); k_dflt (refine' down_spec ?kp0 ?kp1 ?k1 ?k2 ?k3 ?k4 ?k5 ?kK ?kH ?kd ?ku ?_; (case k1 => k_asm); (case k2 => k_asm); (case k3 => k_asm); (case k4 => k_asm); (case k5 => k_asm); (case kK => first | exact rfl | assumption); (case kH => first | trivial | k_asm); (case kp0 => first | assumption | k_extra "down_spec 0"); (case kp1 => first | assumption | k_extra "down_spec 1"); (case kd => ktr_room); (case ku => ktr_units)); intro t9 h9 tk9 F9 N9; (try dsimp only); (try k_fold)))
local macro_rules | `(tactic| walk_at "call ref") => `(tactic| (k_here; (with_reducible show wpAny _ _ (call (Value.ref 73) [Value.int _ _, Value.int _ _]) _ _ _); k_dflt (refine' whole_spec ?kp0 ?kp1 ?kp2 ?k1 ?k2 ?k3 ?k4 ?k5 ?kK ?kH ?kd ?ku ?_; (case k1 => k_asm); (case k2 => k_asm); (case k3 => k_asm); (case k4 => k_asm); (case k5 => k_asm); (case kK => first | exact rfl | assumption); (case kH => first | trivial | k_asm); (case kp0 => first | assumption | k_extra "whole_spec 0"); (case kp1 => first | assumption | k_extra "whole_spec 1"); (case kp2 => first | assumption | k_extra "whole_spec 2"); (case kd => ktr_room); (case ku => ktr_units)); intro t9 h9 tk9 F9 N9; (try dsimp only); (try k_fold)))
set_option maxRecDepth 100000 in
set_option maxHeartbeats 8000000 in
theorem PySem.Challenge.cw_yt0004_02_holds : PySem.Challenge.rw_yt0004_02.Holds := by
  refine hd02 ?_
  k_with_none
  k_with "ite" => first | with_reducible refine ite_bne ?_ | with_reducible refine ite_beq ?_
  k_with "ite" => first | with_reducible refine ite_bne ?_ | with_reducible refine ite_beq ?_
  k_with "draw_spec 4" => exact w60
  k_with "down_spec 0" => decide
  k_with "down_spec 1" => first | exact (dn3 _).1 | exact (dn5 _).1 | exact (dn1 _).1
  k_with "whole_spec 0" => exact pt_sp (by first | exact pt_two | exact (dn3 _).2 | exact (dn5 _).2 | exact (dn1 _).2)
  k_with "whole_spec 1" => exact tb_ok _ _
  k_with "whole_spec 2" => exact pt_whole (by first | exact pt_two | exact (dn3 _).2 | exact (dn5 _).2 | exact (dn1 _).2)
  w_strict (
    k_go0
    all_goals try k_fold
    w_top off
    repeat' (first | (k_unfold; (try dsimp only)) | (k_end; refine' Mine.good_true ?gF ?gg ?go; (case go => rfl); (case gg => k_asm); (case gF => k_asm)) | (k_end; k_extra "my end") | (k_end; wrow_close) | walk1 | (dsimp only; walk1) | (leave1; walk_say "STEP leave1"; try dsimp only) | fail "no step"))
