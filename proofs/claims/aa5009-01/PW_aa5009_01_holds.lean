import PyProof.Rows.All
import Wide.All
import OpenK.AllK
import Wide.FinOn
import Lean
import PySem.Challenge.RW_aa5009_01
open PySem PySem.W PyProof.Rows
set_option Elab.async false
set_option maxRecDepth 100000
set_option maxHeartbeats 8000000
set_option linter.unusedVariables false
set_option linter.unusedSectionVars false
open_top hd for PySem.Challenge.rw_aa5009_01

namespace Mine
open PySem.Challenge (rw_aa5009_01)

/-- a number as the program keeps it: sign, man, exp, bc -/
structure Mf where
  s : Int
  m : Int
  e : Int
  b : Int

inductive Way where
  | n | f | c | u | d
  deriving DecidableEq

def Way.str : Way → Str
  | .n => Str.ofString "n"
  | .f => Str.ofString "f"
  | .c => Str.ofString "c"
  | .u => Str.ofString "u"
  | .d => Str.ofString "d"

abbrev bl (a : Int) : Int := ((Builtin.Int.intBits a : Nat) : Int)

def tupO (x : Mf) (t1 t2 t3 t4 : Tok) (c : Nat) : Obj :=
  { cls := .type "tuple", data := .seq #[.int x.s t1, .int x.m t2, .int x.e t3, .int x.b t4] c }

def Has (news : List (Addr × Obj)) (a : Addr) (x : Mf) : Prop :=
  (∃ t1 t2 t3 t4 c, (a, tupO x t1 t2 t3 t4 c) ∈ news) ∨ (a = 56 ∧ x = ⟨0, 0, 0, 0⟩)

theorem Has.mono {n1 n2 : List (Addr × Obj)} {a : Addr} {x : Mf} (h : Has n1 a x) (hs : ∀ p ∈ n1, p ∈ n2) : Has n2 a x := by
  rcases h with ⟨t1, t2, t3, t4, c, h⟩ | h
  · exact Or.inl ⟨t1, t2, t3, t4, c, hs _ h⟩
  · exact Or.inr h

theorem News.sub {h₀ h : Heap} {L : Addr} {n1 n2 : List (Addr × Obj)} (N : News h₀ L h n2) (hs : ∀ p ∈ n1, p ∈ n2) : News h₀ L h n1 :=
  fun p hp => N p (hs p hp)

/-- what a caller asks of a function that hands back a number -/
abbrev RetT (h₀ : Heap) (L : Addr) (m : Str → Option Value) (news : List (Addr × Obj)) (s : Shared) (Q : Value → Shared → Prop) (x : Mf) : Prop :=
  ∀ (r : Addr) (tl : List (Addr × Obj)) (h' : Heap) (tk' : Nat), Fr h₀ L h' m → News h₀ L h' (tl ++ news) → Has (tl ++ news) r x → Q (.ref r) { s with heap := h', toks := tk' }
abbrev RetI (h₀ : Heap) (L : Addr) (m : Str → Option Value) (news : List (Addr × Obj)) (s : Shared) (Q : Value → Shared → Prop) (x : Int) : Prop :=
  ∀ (t : Tok) (h' : Heap) (tk' : Nat), Fr h₀ L h' m → News h₀ L h' news → Q (.int x t) { s with heap := h', toks := tk' }

theorem retI {h₀ h' : Heap} {L : Addr} {m : Str → Option Value} {news : List (Addr × Obj)} {s : Shared} {Q : Value → Shared → Prop} {x y : Int} {t : Tok} {tk' : Nat}
    (hret : RetI h₀ L m news s Q x) (e : y = x) (F : Fr h₀ L h' m) (N : News h₀ L h' news) : Q (.int y t) { s with heap := h', toks := tk' } := by
  subst e; exact hret t h' tk' F N
theorem retT {h₀ h' : Heap} {L : Addr} {m : Str → Option Value} {news all : List (Addr × Obj)} {s : Shared} {Q : Value → Shared → Prop} {x y : Mf} {r : Addr} {tk' : Nat}
    (hret : RetT h₀ L m news s Q x) (e : y = x) (F : Fr h₀ L h' m) (N : News h₀ L h' all) (H : Has all r y) (hs : ∀ p ∈ news, p ∈ all) : Q (.ref r) { s with heap := h', toks := tk' } := by
  subst e
  rcases H with ⟨t1, t2, t3, t4, c, h⟩ | h
  · refine hret r [(r, tupO y t1 t2 t3 t4 c)] h' tk' F (fun p hp => ?_) (Or.inl ⟨t1, t2, t3, t4, c, .head _⟩)
    rcases List.mem_cons.mp hp with rfl | hp
    · exact N _ h
    · exact N _ (hs _ hp)
  · exact hret r [] h' tk' F (News.sub N hs) (Or.inr h)

theorem sub_refl {n : List (Addr × Obj)} : ∀ p ∈ n, p ∈ n := fun _ h => h
theorem sub_cons {n n2 : List (Addr × Obj)} {q : Addr × Obj} (h : ∀ p ∈ n, p ∈ n2) : ∀ p ∈ n, p ∈ q :: n2 := fun p hp => .tail _ (h p hp)
theorem sub_app {n n2 tl : List (Addr × Obj)} (h : ∀ p ∈ n, p ∈ n2) : ∀ p ∈ n, p ∈ tl ++ n2 := fun p hp => List.mem_append_right _ (h p hp)
end Mine

namespace Mine

@[irreducible] def shl (a n : Int) : Int := a * 2 ^ n.toNat
@[irreducible] def shr (a n : Int) : Int := a.fdiv (2 ^ n.toNat)
@[irreducible] def band (a b : Int) : Int := Builtin.bitAnd a b
@[irreducible] def bxor (a b : Int) : Int := Builtin.bitXor a b
@[irreducible] def bits (a : Int) : Int := ((Builtin.Int.intBits a : Nat) : Int)
@[irreducible] def mul (a b : Int) : Int := a * b
@[irreducible] def fdv (a b : Int) : Int := a.fdiv b
@[irreducible] def fmd (a b : Int) : Int := a.fmod b
@[irreducible] def ipow (a b : Int) : Int := a ^ b.toNat
/-- a condition that a step leaves for later -/
@[irreducible] def Side (P : Prop) : Prop := P
theorem Side.mk {P : Prop} (h : P) : Side P := by unfold Side; exact h
theorem Side.out {P : Prop} (h : Side P) : P := by unfold Side at h; exact h

section
variable {prog : Program} {w : World} {A : Around} {E : Value → Shared → Prop} {s : Shared} {a b n : Int} {t u : Tok} {Q : Value → Shared → Prop}
theorem r_lshift (hn : Side (0 ≤ n ∧ bits a + n ≤ 2 ^ 27)) (h : Q (.int (shl a n) s.toks) { s with toks := s.toks + 1 }) :
    wpAny (model prog w) A (binaryOp .LShift (.int a t) (.int n u)) Q E s := by
  have h1 := hn.out
  unfold bits at h1
  unfold shl at h
  exact lshift_int h1.1 h1.2 h
theorem r_ilshift (hn : Side (0 ≤ n ∧ bits a + n ≤ 2 ^ 27)) (h : Q (.int (shl a n) s.toks) { s with toks := s.toks + 1 }) :
    wpAny (model prog w) A (inplaceOp .LShift (.int a t) (.int n u)) Q E s := by
  have h1 := hn.out
  unfold bits at h1
  unfold shl at h
  exact ilshift_int h1.1 h1.2 h
theorem r_rshift (hn : Side (0 ≤ n)) (h : Q (.int (shr a n) s.toks) { s with toks := s.toks + 1 }) :
    wpAny (model prog w) A (binaryOp .RShift (.int a t) (.int n u)) Q E s := by
  unfold shr at h
  exact rshift_int hn.out h
theorem r_irshift (hn : Side (0 ≤ n)) (h : Q (.int (shr a n) s.toks) { s with toks := s.toks + 1 }) :
    wpAny (model prog w) A (inplaceOp .RShift (.int a t) (.int n u)) Q E s := by
  unfold shr at h
  exact irshift_int hn.out h
theorem r_and (h : Q (.int (band a b) s.toks) { s with toks := s.toks + 1 }) :
    wpAny (model prog w) A (binaryOp .BitAnd (.int a t) (.int b u)) Q E s := by
  unfold band at h
  exact and_int h
theorem r_xor (h : Q (.int (bxor a b) s.toks) { s with toks := s.toks + 1 }) :
    wpAny (model prog w) A (binaryOp .BitXor (.int a t) (.int b u)) Q E s := by
  unfold bxor at h
  exact xor_int h
theorem r_ixor (h : Q (.int (bxor a b) s.toks) { s with toks := s.toks + 1 }) :
    wpAny (model prog w) A (inplaceOp .BitXor (.int a t) (.int b u)) Q E s := by
  unfold bxor at h
  exact ixor_int h
theorem r_bits (h : Q (.int (bits a) s.toks) { s with toks := s.toks + 1 }) :
    wpAny (model prog w) A (call (.builtin "int.bit_length") [.int a t]) Q E s := by
  unfold bits at h
  exact call_int_bit_length h
theorem r_mul (hm : Side (bits a ≤ 2 ^ 20 ∧ bits b ≤ 2 ^ 20)) (h : Q (.int (mul a b) s.toks) { s with toks := s.toks + 1 }) :
    wpAny (model prog w) A (binaryOp .Mult (.int a t) (.int b u)) Q E s := by
  have h1 := hm.out
  unfold bits at h1
  unfold mul at h
  exact mul_int h (IntMulOk.of_bits (by omega) (by omega))
theorem bits_log2 {b : Int} (h : bits b ≤ 9000) : b.natAbs.log2 < 9000 := by
  unfold bits Builtin.Int.intBits at h
  by_cases hb : b = 0
  · subst hb; decide
  · rw [if_neg (by simpa using hb)] at h
    omega
theorem r_fdiv (hb : Side (b ≠ 0 ∧ bits b ≤ 9000)) (h : Q (.int (fdv a b) s.toks) { s with toks := s.toks + 1 }) :
    wpAny (model prog w) A (binaryOp .FloorDiv (.int a t) (.int b u)) Q E s := by
  unfold fdv at h
  exact floordiv_int hb.out.1 h (Or.inl (PyProof.noPylong_of_log2 (bits_log2 hb.out.2)))
theorem r_ifdiv (hb : Side (b ≠ 0 ∧ bits b ≤ 9000)) (h : Q (.int (fdv a b) s.toks) { s with toks := s.toks + 1 }) :
    wpAny (model prog w) A (inplaceOp .FloorDiv (.int a t) (.int b u)) Q E s := by
  unfold fdv at h
  exact ifloordiv_int hb.out.1 h (Or.inl (PyProof.noPylong_of_log2 (bits_log2 hb.out.2)))
theorem r_mod (hb : Side (b ≠ 0 ∧ bits b ≤ 9000)) (h : Q (.int (fmd a b) s.toks) { s with toks := s.toks + 1 }) :
    wpAny (model prog w) A (binaryOp .Mod (.int a t) (.int b u)) Q E s := by
  unfold fmd at h
  exact mod_int' hb.out.1 h
theorem r_pow (hb : Side (0 ≤ n ∧ n ≤ 1000 ∧ bits a ≤ 10000)) (h : Q (.int (ipow a n) s.toks) { s with toks := s.toks + 1 }) :
    wpAny (model prog w) A (binaryOp .Pow (.int a t) (.int n u)) Q E s := by
  have h1 := hb.out
  unfold ipow at h
  unfold bits at h1
  refine pow_int h1.1 ?_ h
  have h2 : (Builtin.Int.intBits a : Int) * n ≤ 10000 * 1000 := Int.mul_le_mul h1.2.2 h1.2.1 h1.1 (by omega)
  omega
theorem r_divmod {h₀ : Heap} {L : Addr} {m : Str → Option Value} {news : List (Addr × Obj)} (F : Fr h₀ L s.heap m) (N : News h₀ L s.heap news) (hb : Side (b ≠ 0 ∧ bits b ≤ 9000))
    (h : ∀ r h', Fr h₀ L h' m → News h₀ L h' ((r, { cls := .type "tuple", data := .seq #[.int (fdv a b) s.toks, .int (fmd a b) (s.toks + 1)] }) :: news) →
      Q (.ref r) { s with toks := s.toks + 1 + 1, heap := h' }) :
    wpAny (model prog w) A (call (.builtin "divmod") [.int a t, .int b u]) Q E s := by
  unfold fdv fmd at h
  exact divmod_N F N hb.out.1 (h _) (Or.inl (PyProof.noPylong_of_log2 (bits_log2 hb.out.2)))
end
/-- a name's kind, looked up by the kernel -/
theorem kind_dec {cn : Str} {cs : Scope} {L a : Addr} {ccd : Value} {cl : List (Str × Addr)} {x : Str} {k : NameKind} (h : cs.names.lookup x = some k) : (envX cn cs L a ccd cl).kindOf x = some k := h
end Mine

namespace Mine
open PySem.Challenge (rw_aa5009_01)
local macro_rules | `(tactic| walk_at "binaryOp LShift int int") => `(tactic| ((with_reducible refine r_lshift ?_ ?_); rotate_left; (try dsimp only)))
local macro_rules | `(tactic| walk_at "inplaceOp LShift int int") => `(tactic| ((with_reducible refine r_ilshift ?_ ?_); rotate_left; (try dsimp only)))
local macro_rules | `(tactic| walk_at "binaryOp RShift int int") => `(tactic| ((with_reducible refine r_rshift ?_ ?_); rotate_left; (try dsimp only)))
local macro_rules | `(tactic| walk_at "inplaceOp RShift int int") => `(tactic| ((with_reducible refine r_irshift ?_ ?_); rotate_left; (try dsimp only)))
local macro_rules | `(tactic| walk_at "binaryOp BitAnd int int") => `(tactic| ((with_reducible refine r_and ?_); (try dsimp only)))
local macro_rules | `(tactic| walk_at "binaryOp BitXor int int") => `(tactic| ((with_reducible refine r_xor ?_); (try dsimp only)))
local macro_rules | `(tactic| walk_at "inplaceOp BitXor int int") => `(tactic| ((with_reducible refine r_ixor ?_); (try dsimp only)))
local macro_rules | `(tactic| walk_at "binaryOp Mult int int") => `(tactic| ((with_reducible refine r_mul ?_ ?_); rotate_left; (try dsimp only)))
local macro_rules | `(tactic| walk_at "binaryOp FloorDiv int int") => `(tactic| ((with_reducible refine r_fdiv ?_ ?_); rotate_left; (try dsimp only)))
local macro_rules | `(tactic| walk_at "inplaceOp FloorDiv int int") => `(tactic| ((with_reducible refine r_ifdiv ?_ ?_); rotate_left; (try dsimp only)))
local macro_rules | `(tactic| walk_at "binaryOp Mod int int") => `(tactic| ((with_reducible refine r_mod ?_ ?_); rotate_left; (try dsimp only)))
local macro_rules | `(tactic| walk_at "binaryOp Pow int int") => `(tactic| ((with_reducible refine r_pow ?_ ?_); rotate_left; (try dsimp only)))
local macro_rules | `(tactic| walk_at "call builtin:int.bit_length") => `(tactic| ((with_reducible refine r_bits ?_); (try dsimp only)))
local macro_rules | `(tactic| walk_at "eval Call Name cons nil") => `(tactic| (k_dflt (refine Call_ ?_)))
local macro_rules | `(tactic| walk_at "storeName") => `(tactic| (k_dflt (refine' storeX_L ?F ?N ?_ ?a ?b; (case b => exact kind_dec (by decide +kernel)); (case F => k_asm); (case N => k_asm); (case a => rfl); k_whole; intro h' F' N'; (try k_sweep))))
local macro_rules | `(tactic| walk_at "spliced") => `(tactic| (k_dflt (first | refine spliced_more ?_ | (refine spliced_none ?_; (try dsimp only)))))
local macro_rules | `(tactic| walk_at "exec Assign") => `(tactic| ((with_reducible show wpAny _ _ (exec (Stmt.Assign [Expr.Name _ _] _ _) _) _ _ _); k_dflt (refine wpAny_Assign_Name ?_)))
local macro_rules | `(tactic| walk_at "isTrue") => `(tactic| (k_dflt (refine isTrue_plain ?_)))
local macro_rules | `(tactic| walk_at "eval Name") => `(tactic| (k_dflt (refine' nameX_K ?F ?X ?T ?e ?_ ?a ?b; (case b => exact kind_dec (by decide +kernel)); (case F => k_asm); (case X => k_asm); (case T => k_asm); (case a => rfl); (case e => k_is); k_whole)))
local macro_rules | `(tactic| walk_at "eval Name") => `(tactic| (k_dflt (refine' nameX_L ?F ?v ?_ ?a ?b; (case b => exact kind_dec (by decide +kernel)); (case F => k_asm); (case a => rfl); (case v => rfl); k_whole)))
def trailingF (n : Int) : Int := if n = 0 then 0 else bits (band n (-n)) - 1
section
variable {w : World} {dp un : Nat} {gd : Option (List Code)} {cn : Str} {cs : Scope} {a : Addr} {ccd : Value} {cl : List (Str × Addr)} {outer : List Env} {A₀ : Around} {base h₀ : Heap} {L : Addr} {m : Str → Option Value} {news : List (Addr × Obj)} {s : Shared} {Q E : Value → Shared → Prop} {p : Program} {loose : List Str} {mean : ExcName → Option Value} {mg mb : Str → Option Value}
variable (B : Below A₀ base outer h₀) (F : Fr h₀ L s.heap m) (X : (hd.heap_39 w.params).In h₀) (N : News h₀ L s.heap news) (T : Top p loose mean mg mb h₀) (hk : cs.kind = .function)
include B F X N T hk
theorem trailing_spec (hd : dp + 1 < recursionLimit) {n : Int} {t : Tok} (hret : RetI h₀ L m news s Q (trailingF n)) :
    wpAny (model rw_aa5009_01.row.prog w) (ktrTop dp un gd cn cs L a ccd cl outer) (call (.ref 21) [.int n t]) Q E s := by
  revert X; k_fill; intro X
  refine wpAny_call ?_
  k_dflt cell_enter
  k_steps
  all_goals (refine retI hret ?_ (by assumption) (by assumption))
  all_goals unfold trailingF
  · rename_i h _ _ _ _; rw [if_neg h]
  · rename_i h _ _ _ _; rw [if_pos h]
end
end Mine

namespace Mine
open PySem.Challenge (rw_aa5009_01)
theorem retNew {h₀ h' : Heap} {L : Addr} {m : Str → Option Value} {news rest : List (Addr × Obj)} {s : Shared} {Q : Value → Shared → Prop} {x : Mf} {D : Addr} {tk' c : Nat} {s1 m1 e1 b1 : Int} {t1 t2 t3 t4 : Tok}
    (hret : RetT h₀ L m news s Q x) (e : (⟨s1, m1, e1, b1⟩ : Mf) = x) (F : Fr h₀ L h' m)
    (N : News h₀ L h' ((D, { cls := .type "tuple", data := .seq #[.int s1 t1, .int m1 t2, .int e1 t3, .int b1 t4] c }) :: rest)) (hs : ∀ p ∈ news, p ∈ rest) : Q (.ref D) { s with heap := h', toks := tk' } := by
  subst e
  exact retT hret rfl F N (Or.inl ⟨t1, t2, t3, t4, c, .head _⟩) (sub_cons hs)
theorem retZero {h₀ h' : Heap} {L : Addr} {m : Str → Option Value} {news all : List (Addr × Obj)} {s : Shared} {Q : Value → Shared → Prop} {x : Mf} {tk' : Nat}
    (hret : RetT h₀ L m news s Q x) (e : (⟨0, 0, 0, 0⟩ : Mf) = x) (F : Fr h₀ L h' m) (N : News h₀ L h' all) (hs : ∀ p ∈ news, p ∈ all) : Q (.ref 56) { s with heap := h', toks := tk' } :=
  retT hret e F N (Or.inr ⟨rfl, rfl⟩) hs

def finC (sign man exp bc : Int) : Mf := ⟨sign, man, exp, if man = 1 then 1 else bc⟩
def stripC (sign man exp bc : Int) : Mf :=
  if band man 1 = 0 then finC sign (shr man (trailingF man)) (exp + trailingF man) (bc - trailingF man) else finC sign man exp bc
def nearC (man n : Int) : Int :=
  if band (shr man (n - 1)) 1 = 0 then shr (shr man (n - 1)) 1
  else if band (shr man (n - 1)) 2 = 0 then (if band man (shl 1 (n - 1) - 1) = 0 then shr (shr man (n - 1)) 1 else shr (shr man (n - 1)) 1 + 1)
  else shr (shr man (n - 1)) 1 + 1
def Way.down : Way → Int → Bool
  | .f, s => s == 0
  | .c, s => s != 0
  | .d, _ => true
  | .u, _ => false
  | .n, _ => false
@[irreducible] def dnI (way : Way) (sign : Int) : Int := if way.down sign = true then 1 else 0
def rndC (sign man n : Int) : Way → Int
  | .n => nearC man n
  | way => if dnI way sign = 0 then -(shr (-man) n) else shr man n
def normC (sign man exp bc prec : Int) (way : Way) : Mf :=
  if man = 0 then ⟨0, 0, 0, 0⟩
  else if 0 < bc - prec then stripC sign (rndC sign man (bc - prec) way) (exp + (bc - prec)) prec
  else stripC sign man exp bc
theorem band_low {n : Int} (h : n ≠ 0) : band n (-n) ≠ 0 := by
  have key : ∀ k : Nat, ∀ a : Int, a.natAbs ≤ k → a ≠ 0 → ∃ (j : Nat) (b : Int), a = 2 ^ j * (2 * b + 1) := by
    intro k
    induction k with
    | zero => intro a h1 h2; omega
    | succ k ih =>
      intro a h1 h2
      by_cases ho : a % 2 = 1
      · exact ⟨0, a / 2, by rw [Int.pow_zero]; omega⟩
      · obtain ⟨j, b, e⟩ := ih (a / 2) (by omega) (by omega)
        refine ⟨j + 1, b, ?_⟩
        rw [Int.pow_succ, Int.mul_comm (2 ^ j) 2, Int.mul_assoc, ← e]
        omega
  obtain ⟨j, b, e⟩ := key n.natAbs n (Nat.le_refl _) h
  unfold band
  rw [e, kbt_low]
  exact Int.ne_of_gt (kbt_pos j)
theorem bits_nonneg (n : Int) : 0 ≤ bits n := by unfold bits; omega
theorem bits_pos {n : Int} (h : n ≠ 0) : 1 ≤ bits n := by
  unfold bits Builtin.Int.intBits
  rw [if_neg (by simpa using h)]
  omega
theorem trailingF_nonneg (n : Int) : 0 ≤ trailingF n := by
  unfold trailingF
  split
  · omega
  · rename_i h
    have := bits_pos (band_low h)
    omega
theorem bits_one : bits 1 = 1 := by unfold bits; rfl
end Mine

namespace Mine
open PySem.Challenge (rw_aa5009_01)
theorem bits_of_lt {a : Int} {k : Nat} (h : a.natAbs < 2 ^ k) : bits a ≤ k := by
  unfold bits Builtin.Int.intBits
  by_cases h0 : a = 0
  · subst h0; simp
  · rw [if_neg (by simpa using h0)]
    have h1 : a.natAbs ≠ 0 := by omega
    have := (Nat.log2_lt h1).mpr h
    omega
theorem lt_of_bits (a : Int) : a.natAbs < 2 ^ (bits a).toNat := by
  unfold bits
  have := natAbs_lt_pow_bits a
  simpa using this
theorem le_of_bits {a : Int} (h : a ≠ 0) : 2 ^ ((bits a).toNat - 1) ≤ a.natAbs := by
  unfold bits Builtin.Int.intBits
  rw [if_neg (by simpa using h)]
  have h1 : a.natAbs ≠ 0 := by omega
  have h2 := (Nat.le_log2 h1).mp (Nat.le_refl _)
  simpa using h2
theorem bits_mono {a b : Int} (h : a.natAbs ≤ b.natAbs) : bits a ≤ bits b := by
  have h1 := lt_of_bits b
  have h2 := bits_of_lt (Nat.lt_of_le_of_lt h h1)
  have := bits_nonneg b
  omega
theorem bits_eq {a : Int} {k : Nat} (h1 : 2 ^ k ≤ a.natAbs) (h2 : a.natAbs < 2 ^ (k + 1)) : bits a = k + 1 := by
  have h0 : a ≠ 0 := by
    intro e; subst e
    have := Nat.two_pow_pos k
    simp at h1
  have h3 := bits_of_lt h2
  have h4 := lt_of_bits a
  have h5 : 2 ^ k < 2 ^ (bits a).toNat := Nat.lt_of_le_of_lt h1 h4
  have h6 := (Nat.pow_lt_pow_iff_right (by decide : 1 < 2)).mp h5
  have := bits_nonneg a
  omega
theorem bits_zero : bits 0 = 0 := by unfold bits; rfl
theorem bits_neg (a : Int) : bits (-a) = bits a := by
  have h1 : (-a).natAbs = a.natAbs := by omega
  have := bits_mono (a := -a) (b := a) (by omega)
  have := bits_mono (a := a) (b := -a) (by omega)
  omega
theorem bits_mul_le (a b : Int) : bits (a * b) ≤ bits a + bits b := by
  have h1 := lt_of_bits a
  have h2 := lt_of_bits b
  have h3 : (a * b).natAbs < 2 ^ ((bits a).toNat + (bits b).toNat) := by
    rw [Int.natAbs_mul, Nat.pow_add]
    exact Nat.mul_lt_mul'' h1 h2
  have h4 := bits_of_lt h3
  have := bits_nonneg a
  have := bits_nonneg b
  omega
theorem bits_add_le (a b : Int) : bits (a + b) ≤ max (bits a) (bits b) + 1 := by
  have h1 := lt_of_bits a
  have h2 := lt_of_bits b
  have ha := bits_nonneg a
  have hb := bits_nonneg b
  have h3 : (a + b).natAbs < 2 ^ ((max (bits a) (bits b)).toNat + 1) := by
    have h5 : 2 ^ (bits a).toNat ≤ 2 ^ (max (bits a) (bits b)).toNat := Nat.pow_le_pow_right (by decide) (by omega)
    have h6 : 2 ^ (bits b).toNat ≤ 2 ^ (max (bits a) (bits b)).toNat := Nat.pow_le_pow_right (by decide) (by omega)
    rw [Nat.pow_succ]
    omega
  have h4 := bits_of_lt h3
  omega
theorem bits_pow (k : Nat) : bits (2 ^ k) = k + 1 := by
  have h : ((2 : Int) ^ k).natAbs = 2 ^ k := by rw [Int.natAbs_pow]; rfl
  exact bits_eq (by rw [h]; exact Nat.le_refl _) (by rw [h]; exact Nat.pow_lt_pow_right (by decide) (by omega))
theorem shr_eq (a : Int) {n : Int} : shr a n = a / 2 ^ n.toNat := by
  unfold shr
  rw [Int.fdiv_eq_ediv_of_nonneg _ (Int.le_of_lt (kbt_pos _))]
theorem shl_eq (a n : Int) : shl a n = a * 2 ^ n.toNat := by unfold shl; rfl
theorem shr_nonneg {a : Int} (n : Int) (h : 0 ≤ a) : 0 ≤ shr a n := by
  rw [shr_eq]; exact Int.ediv_nonneg h (Int.le_of_lt (kbt_pos _))
theorem shr_le {a : Int} (n : Int) (h : 0 ≤ a) : shr a n ≤ a := by
  rw [shr_eq]; exact Int.ediv_le_self _ h
theorem bits_shl {a n : Int} (h : 0 ≤ n) : bits (shl a n) ≤ bits a + n := by
  rw [shl_eq]
  by_cases h0 : a = 0
  · subst h0
    simp [bits_zero]; exact h
  · have h1 := lt_of_bits a
    have ha := bits_nonneg a
    have h2 : (a * 2 ^ n.toNat).natAbs < 2 ^ ((bits a).toNat + n.toNat) := by
      rw [Int.natAbs_mul, Int.natAbs_pow, Nat.pow_add]
      exact Nat.mul_lt_mul_of_pos_right h1 (Nat.two_pow_pos _)
    have h4 := bits_of_lt h2
    omega
theorem bits_shr {a : Int} (n : Int) (h : 0 ≤ a) : bits (shr a n) ≤ bits a := bits_mono (by have := shr_nonneg n h; have := shr_le n h; omega)
theorem mul_eq (a b : Int) : mul a b = a * b := by unfold mul; rfl
theorem fdv_eq {a b : Int} (h : 0 ≤ b) : fdv a b = a / b := by unfold fdv; exact Int.fdiv_eq_ediv_of_nonneg _ h
theorem fmd_eq {a b : Int} (h : 0 ≤ b) : fmd a b = a % b := by unfold fmd; exact Int.fmod_eq_emod_of_nonneg _ h
theorem shr1 (a : Int) : shr a 1 = a / 2 := by rw [shr_eq]; rfl

/-- the whole root -/
def isq : Nat → Nat
  | 0 => 0
  | n + 1 => if (isq n + 1) * (isq n + 1) ≤ n + 1 then isq n + 1 else isq n
theorem isq_spec : ∀ n : Nat, isq n * isq n ≤ n ∧ n < (isq n + 1) * (isq n + 1)
  | 0 => by simp [isq]
  | n + 1 => by
    have ih := isq_spec n
    unfold isq
    split
    · rename_i h
      refine ⟨h, ?_⟩
      have : (isq n + 1 + 1) * (isq n + 1 + 1) = (isq n + 1) * (isq n + 1) + 2 * (isq n + 1) + 1 := by
        simp only [Nat.add_mul, Nat.mul_add]; omega
      omega
    · rename_i h
      exact ⟨by omega, by omega⟩
theorem isq_unique {n r : Nat} (h1 : r * r ≤ n) (h2 : n < (r + 1) * (r + 1)) : r = isq n := by
  have h := isq_spec n
  rcases Nat.lt_trichotomy r (isq n) with h3 | h3 | h3
  · have := Nat.mul_le_mul (show r + 1 ≤ isq n from h3) (show r + 1 ≤ isq n from h3)
    omega
  · exact h3
  · have := Nat.mul_le_mul (show isq n + 1 ≤ r from h3) (show isq n + 1 ≤ r from h3)
    omega
def isqF (x : Int) : Int := (isq x.toNat : Nat)
theorem isqF_unique {x r : Int} (hr : 0 ≤ r) (h1 : r * r ≤ x) (h2 : x < (r + 1) * (r + 1)) : r = isqF x := by
  obtain ⟨k, rfl⟩ := Int.eq_ofNat_of_zero_le hr
  have hx : 0 ≤ x := Int.le_trans (Int.mul_nonneg hr hr) h1
  obtain ⟨n, rfl⟩ := Int.eq_ofNat_of_zero_le hx
  unfold isqF
  have e := isq_unique (n := n) (r := k) (by exact_mod_cast h1) (by exact_mod_cast h2)
  rw [e]
  rfl

/-- one turn of the root's loop keeps the bound -/
theorem newton_keep {x r : Int} (hr : 1 ≤ r) (hx : 1 ≤ x) : x < ((r + x / r) / 2 + 1) * ((r + x / r) / 2 + 1) ∧ 1 ≤ (r + x / r) / 2 + 1 := by
  have h1 := Int.emod_nonneg x (show r ≠ 0 by omega)
  have h2 := Int.emod_lt_of_pos x (show 0 < r by omega)
  have h3 := Int.mul_ediv_add_emod x r
  have hq : 0 ≤ x / r := Int.ediv_nonneg (by omega) (by omega)
  generalize x / r = q at *
  generalize x % r = z at *
  have hy : (r + q) / 2 * 2 ≥ r + q - 1 := by omega
  have hy0 : 0 ≤ (r + q) / 2 := by omega
  generalize (r + q) / 2 = y at *
  have h5 : x < r * (q + 1) := by rw [Int.mul_add, Int.mul_one]; omega
  have h6 : 4 * (r * (q + 1)) ≤ (r + q + 1) * (r + q + 1) := by
    have h7 : 0 ≤ (r - (q + 1)) * (r - (q + 1)) := by
      rcases Int.le_total 0 (r - (q + 1)) with h | h
      · exact Int.mul_nonneg h h
      · exact Int.mul_nonneg_of_nonpos_of_nonpos h h
    have e1 : (r - (q + 1)) * (r - (q + 1)) = r * r - 2 * (r * (q + 1)) + (q + 1) * (q + 1) := by grind
    have e2 : (r + q + 1) * (r + q + 1) = r * r + 2 * (r * (q + 1)) + (q + 1) * (q + 1) := by grind
    omega
  have h8 : (r + q + 1) * (r + q + 1) ≤ (2 * y + 2) * (2 * y + 2) := Int.mul_le_mul (by omega) (by omega) (by omega) (by omega)
  have e3 : (2 * y + 2) * (2 * y + 2) = 4 * ((y + 1) * (y + 1)) := by grind
  exact ⟨by omega, by omega⟩
theorem newton_stop {x r : Int} (hr : 1 ≤ r) (hx : 1 ≤ x) (h : r ≤ (r + x / r) / 2) : r * r ≤ x := by
  have h1 := Int.emod_nonneg x (show r ≠ 0 by omega)
  have h3 := Int.mul_ediv_add_emod x r
  generalize x / r = q at *
  have h4 : r * r ≤ r * q := Int.mul_le_mul_of_nonneg_left (by omega) (by omega)
  omega
end Mine

namespace Mine
open PySem.Challenge (rw_aa5009_01)
def isqJ (x : Int) (m0 : Str → Option Value) (news0 : List (Addr × Obj)) (n : Nat) (m : Str → Option Value) (nw : List (Addr × Obj)) : Prop :=
  nw = news0 ∧ ∃ (r : Int) (tr : Tok) (yv : Option Value), m = (fun z => if z = Str.ofString "y" then yv else if z = Str.ofString "r" then some (.int r tr) else m0 z) ∧ n = r.toNat ∧ 1 ≤ r ∧ x < (r + 1) * (r + 1) ∧ bits r ≤ 9000
theorem isqJ_start {x r : Int} {tr : Tok} {m0 : Str → Option Value} {news0 : List (Addr × Obj)} (hy : m0 (Str.ofString "y") = none) (h1 : 1 ≤ r) (h2 : x < (r + 1) * (r + 1)) (h3 : bits r ≤ 9000) :
    isqJ x m0 news0 r.toNat (fun z => if z = Str.ofString "r" then some (.int r tr) else m0 z) news0 := by
  refine ⟨rfl, r, tr, none, ?_, rfl, h1, h2, h3⟩
  funext z
  by_cases hz : z = Str.ofString "y"
  · rw [if_pos hz, hz, if_neg (by decide), hy]
  · rw [if_neg hz]
theorem isq_first {x : Int} (hx : 1 ≤ x) (hb : bits x ≤ 9000) : 1 ≤ shl 1 (shr (bits x + 1) 1) ∧ x < (shl 1 (shr (bits x + 1) 1) + 1) * (shl 1 (shr (bits x + 1) 1) + 1) ∧ bits (shl 1 (shr (bits x + 1) 1)) ≤ 9000 := by
  have h1 := lt_of_bits x
  have h0 := bits_pos (show x ≠ 0 by omega)
  have h2 : shr (bits x + 1) 1 = (bits x + 1) / 2 := shr1 _
  have h3 : shl 1 (shr (bits x + 1) 1) = 2 ^ ((bits x + 1) / 2).toNat := by rw [shl_eq, h2, Int.one_mul]
  rw [h3]
  have hp := kbt_pos ((bits x + 1) / 2).toNat
  refine ⟨by omega, ?_, ?_⟩
  · have h4 : (2 : Int) ^ (bits x).toNat ≤ 2 ^ ((bits x + 1) / 2).toNat * 2 ^ ((bits x + 1) / 2).toNat := by
      rw [← Int.pow_add]
      have : (2 : Nat) ^ (bits x).toNat ≤ 2 ^ (((bits x + 1) / 2).toNat + ((bits x + 1) / 2).toNat) := Nat.pow_le_pow_right (by decide) (by omega)
      exact_mod_cast this
    have h5 : x < (2 : Int) ^ (bits x).toNat := by
      have : ((x.natAbs : Nat) : Int) < ((2 ^ (bits x).toNat : Nat) : Int) := by exact_mod_cast h1
      rw [kbt_cast] at this
      omega
    have h6 : (2 ^ ((bits x + 1) / 2).toNat + 1) * (2 ^ ((bits x + 1) / 2).toNat + 1) = (2 : Int) ^ ((bits x + 1) / 2).toNat * 2 ^ ((bits x + 1) / 2).toNat + 2 * 2 ^ ((bits x + 1) / 2).toNat + 1 := by grind
    omega
  · rw [bits_pow]
    omega
theorem isqJ_next {x r r' : Int} {tr tr' : Tok} {yv yv' : Option Value} {m0 : Str → Option Value} {news0 : List (Addr × Obj)} (h1 : 1 ≤ r') (h2 : x < (r' + 1) * (r' + 1)) (h3 : bits r' ≤ 9000) :
    isqJ x m0 news0 r'.toNat (fun z => if z = Str.ofString "r" then some (.int r' tr') else if z = Str.ofString "y" then yv' else if z = Str.ofString "y" then yv else if z = Str.ofString "r" then some (.int r tr) else m0 z) news0 := by
  refine ⟨rfl, r', tr', yv', ?_, rfl, h1, h2, h3⟩
  funext z
  by_cases hz : z = Str.ofString "y"
  · subst hz; rfl
  · by_cases hz2 : z = Str.ofString "r"
    · subst hz2; rfl
    · simp only [if_neg hz, if_neg hz2]
abbrev RetP (h₀ : Heap) (L : Addr) (m : Str → Option Value) (news : List (Addr × Obj)) (s : Shared) (Q : Value → Shared → Prop) (x y : Int) : Prop :=
  ∀ (D : Addr) (t1 t2 : Tok) (c : Nat) (h' : Heap) (tk' : Nat), Fr h₀ L h' m → News h₀ L h' ((D, { cls := .type "tuple", data := .seq #[.int x t1, .int y t2] c }) :: news) → Q (.ref D) { s with heap := h', toks := tk' }
theorem retP {h₀ h' : Heap} {L : Addr} {m : Str → Option Value} {news all : List (Addr × Obj)} {s : Shared} {Q : Value → Shared → Prop} {x y x' y' : Int} {D : Addr} {t1 t2 : Tok} {c tk' : Nat}
    (hret : RetP h₀ L m news s Q x y) (e : x' = x) (e2 : y' = y) (F : Fr h₀ L h' m) (N : News h₀ L h' ((D, { cls := .type "tuple", data := .seq #[.int x' t1, .int y' t2] c }) :: all)) (hs : ∀ p ∈ news, p ∈ all) : Q (.ref D) { s with heap := h', toks := tk' } := by
  subst e; subst e2
  refine hret D t1 t2 c h' tk' F fun p hp => ?_
  rcases List.mem_cons.mp hp with rfl | hp
  · exact N _ (.head _)
  · exact N _ (.tail _ (hs _ hp))
theorem isqF_nonneg (x : Int) : 0 ≤ isqF x := by unfold isqF; omega
theorem isqF_spec {x : Int} (h : 0 ≤ x) : isqF x * isqF x ≤ x ∧ x < (isqF x + 1) * (isqF x + 1) := by
  obtain ⟨n, rfl⟩ := Int.eq_ofNat_of_zero_le h
  have := isq_spec n
  unfold isqF
  exact ⟨by exact_mod_cast this.1, by exact_mod_cast this.2⟩
theorem isqF_le {x : Int} (h : 0 ≤ x) : isqF x ≤ x := by
  have h1 := isqF_spec h
  have h2 := isqF_nonneg x
  rcases Int.lt_or_le (isqF x) 1 with h3 | h3
  · omega
  · have : isqF x * 1 ≤ isqF x * isqF x := Int.mul_le_mul_of_nonneg_left h3 h2
    omega
end Mine

namespace Mine
open PySem.Challenge (rw_aa5009_01)
local macro_rules | `(tactic| walk_at "binaryOp LShift int int") => `(tactic| ((with_reducible refine r_lshift ?_ ?_); rotate_left; (try dsimp only)))
local macro_rules | `(tactic| walk_at "inplaceOp LShift int int") => `(tactic| ((with_reducible refine r_ilshift ?_ ?_); rotate_left; (try dsimp only)))
local macro_rules | `(tactic| walk_at "binaryOp RShift int int") => `(tactic| ((with_reducible refine r_rshift ?_ ?_); rotate_left; (try dsimp only)))
local macro_rules | `(tactic| walk_at "inplaceOp RShift int int") => `(tactic| ((with_reducible refine r_irshift ?_ ?_); rotate_left; (try dsimp only)))
local macro_rules | `(tactic| walk_at "binaryOp BitAnd int int") => `(tactic| ((with_reducible refine r_and ?_); (try dsimp only)))
local macro_rules | `(tactic| walk_at "binaryOp BitXor int int") => `(tactic| ((with_reducible refine r_xor ?_); (try dsimp only)))
local macro_rules | `(tactic| walk_at "inplaceOp BitXor int int") => `(tactic| ((with_reducible refine r_ixor ?_); (try dsimp only)))
local macro_rules | `(tactic| walk_at "binaryOp Mult int int") => `(tactic| ((with_reducible refine r_mul ?_ ?_); rotate_left; (try dsimp only)))
local macro_rules | `(tactic| walk_at "binaryOp FloorDiv int int") => `(tactic| ((with_reducible refine r_fdiv ?_ ?_); rotate_left; (try dsimp only)))
local macro_rules | `(tactic| walk_at "inplaceOp FloorDiv int int") => `(tactic| ((with_reducible refine r_ifdiv ?_ ?_); rotate_left; (try dsimp only)))
local macro_rules | `(tactic| walk_at "binaryOp Mod int int") => `(tactic| ((with_reducible refine r_mod ?_ ?_); rotate_left; (try dsimp only)))
local macro_rules | `(tactic| walk_at "binaryOp Pow int int") => `(tactic| ((with_reducible refine r_pow ?_ ?_); rotate_left; (try dsimp only)))
local macro_rules | `(tactic| walk_at "call builtin:int.bit_length") => `(tactic| ((with_reducible refine r_bits ?_); (try dsimp only)))
local macro_rules | `(tactic| walk_at "eval Call Name cons nil") => `(tactic| (k_dflt (refine Call_ ?_)))
local macro_rules | `(tactic| walk_at "call ref cons nil") => `(tactic| (k_dflt (refine' trailing_spec ?k1 ?k2 ?k3 ?k4 ?k5 ?k6 ?k7 ?_; (case k1 => k_asm); (case k2 => k_asm); (case k3 => k_asm); (case k4 => k_asm); (case k5 => k_asm); (case k6 => first | exact rfl | assumption); (case k7 => first | omega | ktr_room); (intro t9 h9 tk9 F9 N9; (try dsimp only); (try k_fold)))))
local macro_rules | `(tactic| walk_at "my sub") => `(tactic| (repeat (first | exact sub_refl | refine sub_cons ?_ | refine sub_app ?_)))
local macro_rules | `(tactic| walk_at "my has") => `(tactic| (refine Has.mono (by assumption) ?_; walk_at "my sub"))
local macro_rules | `(tactic| walk_at "my end") => `(tactic| first
  | ((rename RetT _ _ _ _ _ _ _ => hR'); first
      | (refine retNew hR' ?_ (by assumption) (by assumption) (by walk_at "my sub"))
      | (refine retZero hR' ?_ (by assumption) (by assumption) (by walk_at "my sub"))
      | (refine retT hR' ?_ (by assumption) (by assumption) (by walk_at "my has") (by walk_at "my sub")))
  | ((rename RetI _ _ _ _ _ _ _ => hR'); refine retI hR' ?_ (by assumption) (News.sub (by assumption) (by walk_at "my sub")))
  | ((rename RetP _ _ _ _ _ _ _ _ => hR'); refine retP hR' ?_ ?_ (by assumption) (by assumption) (by walk_at "my sub")))
local macro_rules | `(tactic| walk_at "my enter") => `(tactic| k_dflt (refine' code_def ?k1 ?k2 ?k3 ?k4 ?k5 ?kA ?kF ?kK ?k6 ?k7 ?k8 ?k9 ?kB ?_ ?c2 ?c3 ?c4 ?c5; (case kA => exact rfl); (case kF => exact rfl); (case kK => assumption); (case k1 => k_asm); (case k2 => k_asm); (case k3 => k_asm); (case k4 => k_asm); (case k5 => k_asm); (case k6 => k_is); (case k7 => k_is); (case k8 => first | omega | ktr_room); (case k9 => first | exact BindsTo.of_eq rfl | exact binds_K (by k_in) rfl (by k_is) rfl rfl rfl); (case c5 => decide); (case kB => exact locs rfl); (case c2 => exact rfl); (case c3 => exact rfl); (case c4 => exact rfl); k_whole; intro g' L' h' FG' F' N' B' X' T'; (try dsimp only); (try k_lift B'); (try k_fold)))
local macro_rules | `(tactic| walk_at "my steps") => `(tactic| (repeat' (first | (k_unfold; (try dsimp only)) | ((fail_if_success (with_reducible show wpAny _ _ (exec (Stmt.While _ _ _ _) _) _ _ _)); (fail_if_success (with_reducible show wpAny _ _ (exec (Stmt.For _ _ _ _ _) _) _ _ _)); first | walk1 | (dsimp only; walk1)))))
local macro_rules | `(tactic| walk_at "WhileStep2 ret") => `(tactic| (dsimp only [WhileStep2]))
local macro_rules | `(tactic| walk_at "TurnPost ret") => `(tactic| (dsimp only [TurnPost]))
local macro_rules | `(tactic| walk_at "my stepsL") => `(tactic| (repeat' (first | (k_unfold; (try dsimp only)) | ((fail_if_success (with_reducible show wpAny _ _ (exec (Stmt.While _ _ _ _) _) _ _ _)); (fail_if_success (with_reducible show wpAny _ _ (exec (Stmt.For _ _ _ _ _) _) _ _ _)); (fail_if_success (with_reducible show wpAny _ _ (exec (Stmt.If _ _ _ _) _) _ _ _)); (fail_if_success (with_reducible show wpAny _ _ (pyIter (Value.ref _)) _ _ _)); first | walk1 | (dsimp only; walk1)))))
local macro_rules | `(tactic| walk_at "storeName") => `(tactic| (k_dflt (refine' storeX_L ?F ?N ?_ ?a ?b; (case b => exact kind_dec (by decide +kernel)); (case F => k_asm); (case N => k_asm); (case a => rfl); k_whole; intro h' F' N'; (try k_sweep))))
local macro_rules | `(tactic| walk_at "spliced") => `(tactic| (k_dflt (first | refine spliced_more ?_ | (refine spliced_none ?_; (try dsimp only)))))
local macro_rules | `(tactic| walk_at "exec Assign") => `(tactic| ((with_reducible show wpAny _ _ (exec (Stmt.Assign [Expr.Name _ _] _ _) _) _ _ _); k_dflt (refine wpAny_Assign_Name ?_)))
local macro_rules | `(tactic| walk_at "isTrue") => `(tactic| (k_dflt (refine isTrue_plain ?_)))
local macro_rules | `(tactic| walk_at "eval Name") => `(tactic| (k_dflt (refine' nameX_K ?F ?X ?T ?e ?_ ?a ?b; (case b => exact kind_dec (by decide +kernel)); (case F => k_asm); (case X => k_asm); (case T => k_asm); (case a => rfl); (case e => k_is); k_whole)))
local macro_rules | `(tactic| walk_at "eval Name") => `(tactic| (k_dflt (refine' nameX_L ?F ?v ?_ ?a ?b; (case b => exact kind_dec (by decide +kernel)); (case F => k_asm); (case a => rfl); (case v => rfl); k_whole)))
section
variable {w : World} {dp un : Nat} {gd : Option (List Code)} {cn : Str} {cs : Scope} {a : Addr} {ccd : Value} {cl : List (Str × Addr)} {outer : List Env} {A₀ : Around} {base h₀ : Heap} {L : Addr} {m : Str → Option Value} {news : List (Addr × Obj)} {s : Shared} {Q E : Value → Shared → Prop} {p : Program} {loose : List Str} {mean : ExcName → Option Value} {mg mb : Str → Option Value}
variable (B : Below A₀ base outer h₀) (F : Fr h₀ L s.heap m) (X : (hd.heap_39 w.params).In h₀) (N : News h₀ L s.heap news) (T : Top p loose mean mg mb h₀) (hk : cs.kind = .function)
include B F X N T hk
theorem isqrt_small_spec (hd : dp + 1 < recursionLimit) {x : Int} {t : Tok} (hx : Side (0 ≤ x ∧ bits x ≤ 9000)) (hret : RetI h₀ L m news s Q (isqF x)) :
    wpAny (model rw_aa5009_01.row.prog w) (ktrTop dp un gd cn cs L a ccd cl outer) (call (.ref 28) [.int x t]) Q E s := by
  revert X; k_fill; intro X
  have hx' := hx.out
  refine wpAny_call ?_
  k_dflt cell_enter
  walk_at "my steps"
  · rename_i hx0 _ _ _
    have hx2 : 1 ≤ x := by omega
    have hq := isq_first hx2 hx'.2
    (rename Fr _ _ _ _ => F'); (rename News _ _ _ _ => N'); refine While_inv2 (isqJ x _ _) F' N' (isqJ_start (by with_unfolding_all rfl) hq.1 hq.2.1 hq.2.2) ?_
    rintro n1 m1 nw1 h1 tk1 F1 N1 ⟨rfl, r1, tr1, yv1, rfl, e1, hr1, hx1, hb1⟩
    try k_fold
    have e2 : shr (r1 + fdv x r1) 1 = (r1 + x / r1) / 2 := by rw [shr1, fdv_eq (by omega)]
    walk_at "my steps"
    · refine retI hret ?_ (by assumption) (by assumption)
      refine isqF_unique (by omega) (newton_stop hr1 hx2 (by omega)) hx1
    · have hk := newton_keep hr1 hx2
      rw [← e2] at hk
      have hr2 : 1 ≤ shr (r1 + fdv x r1) 1 := by
        rcases Int.lt_or_le (shr (r1 + fdv x r1) 1) 1 with h | h
        · have h0 : shr (r1 + fdv x r1) 1 = 0 := by omega
          rw [h0] at hk
          omega
        · exact h
      dsimp only [WhileStep2]
      have hb3 := bits_mono (a := shr (r1 + fdv x r1) 1) (b := r1) (by omega)
      refine ⟨_, _, _, _, _, rfl, by assumption, by assumption, ?_, isqJ_next hr2 hk.1 (by omega)⟩
      omega
    all_goals first
      | exact Side.mk (by omega)
  · exact Side.mk ⟨shr_nonneg _ (by have := bits_nonneg x; omega), by have := bits_one; have := shr_le (a := bits x + 1) 1 (by have := bits_nonneg x; omega); omega⟩
  · exact Side.mk (by omega)
  · refine retI hret ?_ (by assumption) (by assumption)
    rename_i h0 _ _ _ _
    subst h0
    rfl
end
end Mine

namespace Mine
local macro_rules | `(tactic| walk_at "pad 0") => `(tactic| skip)
local macro_rules | `(tactic| walk_at "pad 1") => `(tactic| skip)
local macro_rules | `(tactic| walk_at "pad 2") => `(tactic| skip)
local macro_rules | `(tactic| walk_at "pad 3") => `(tactic| skip)
local macro_rules | `(tactic| walk_at "pad 4") => `(tactic| skip)
local macro_rules | `(tactic| walk_at "pad 5") => `(tactic| skip)
local macro_rules | `(tactic| walk_at "pad 6") => `(tactic| skip)
open PySem.Challenge (rw_aa5009_01)
local macro_rules | `(tactic| walk_at "my sub") => `(tactic| (repeat (first | exact sub_refl | refine sub_cons ?_ | refine sub_app ?_)))
local macro_rules | `(tactic| walk_at "my has") => `(tactic| (refine Has.mono (by assumption) ?_; walk_at "my sub"))
local macro_rules | `(tactic| walk_at "my end") => `(tactic| first
  | ((rename RetT _ _ _ _ _ _ _ => hR'); first
      | (refine retNew hR' ?_ (by assumption) (by assumption) (by walk_at "my sub"))
      | (refine retZero hR' ?_ (by assumption) (by assumption) (by walk_at "my sub"))
      | (refine retT hR' ?_ (by assumption) (by assumption) (by walk_at "my has") (by walk_at "my sub")))
  | ((rename RetI _ _ _ _ _ _ _ => hR'); refine retI hR' ?_ (by assumption) (News.sub (by assumption) (by walk_at "my sub")))
  | ((rename RetP _ _ _ _ _ _ _ _ => hR'); refine retP hR' ?_ ?_ (by assumption) (by assumption) (by walk_at "my sub")))
local macro_rules | `(tactic| walk_at "my enter") => `(tactic| k_dflt (refine' code_def ?k1 ?k2 ?k3 ?k4 ?k5 ?kA ?kF ?kK ?k6 ?k7 ?k8 ?k9 ?kB ?_ ?c2 ?c3 ?c4 ?c5; (case kA => exact rfl); (case kF => exact rfl); (case kK => assumption); (case k1 => k_asm); (case k2 => k_asm); (case k3 => k_asm); (case k4 => k_asm); (case k5 => k_asm); (case k6 => k_is); (case k7 => k_is); (case k8 => first | omega | ktr_room); (case k9 => first | exact BindsTo.of_eq rfl | exact binds_K (by k_in) rfl (by k_is) rfl rfl rfl); (case c5 => decide); (case kB => exact locs rfl); (case c2 => exact rfl); (case c3 => exact rfl); (case c4 => exact rfl); k_whole; intro g' L' h' FG' F' N' B' X' T'; (try dsimp only); (try k_lift B'); (try k_fold)))
local macro_rules | `(tactic| walk_at "my steps") => `(tactic| (repeat' (first | (k_unfold; (try dsimp only)) | ((fail_if_success (with_reducible show wpAny _ _ (exec (Stmt.While _ _ _ _) _) _ _ _)); (fail_if_success (with_reducible show wpAny _ _ (exec (Stmt.For _ _ _ _ _) _) _ _ _)); first | walk1 | (dsimp only; walk1)))))
local macro_rules | `(tactic| walk_at "WhileStep2 ret") => `(tactic| (dsimp only [WhileStep2]))
local macro_rules | `(tactic| walk_at "TurnPost ret") => `(tactic| (dsimp only [TurnPost]))
local macro_rules | `(tactic| walk_at "my stepsL") => `(tactic| (repeat' (first | (k_unfold; (try dsimp only)) | ((fail_if_success (with_reducible show wpAny _ _ (exec (Stmt.While _ _ _ _) _) _ _ _)); (fail_if_success (with_reducible show wpAny _ _ (exec (Stmt.For _ _ _ _ _) _) _ _ _)); (fail_if_success (with_reducible show wpAny _ _ (exec (Stmt.If _ _ _ _) _) _ _ _)); (fail_if_success (with_reducible show wpAny _ _ (pyIter (Value.ref _)) _ _ _)); first | walk1 | (dsimp only; walk1)))))
local macro_rules | `(tactic| walk_at "binaryOp LShift int int") => `(tactic| ((with_reducible refine r_lshift ?_ ?_); rotate_left; (try dsimp only)))
local macro_rules | `(tactic| walk_at "inplaceOp LShift int int") => `(tactic| ((with_reducible refine r_ilshift ?_ ?_); rotate_left; (try dsimp only)))
local macro_rules | `(tactic| walk_at "binaryOp RShift int int") => `(tactic| ((with_reducible refine r_rshift ?_ ?_); rotate_left; (try dsimp only)))
local macro_rules | `(tactic| walk_at "inplaceOp RShift int int") => `(tactic| ((with_reducible refine r_irshift ?_ ?_); rotate_left; (try dsimp only)))
local macro_rules | `(tactic| walk_at "binaryOp BitAnd int int") => `(tactic| ((with_reducible refine r_and ?_); (try dsimp only)))
local macro_rules | `(tactic| walk_at "binaryOp BitXor int int") => `(tactic| ((with_reducible refine r_xor ?_); (try dsimp only)))
local macro_rules | `(tactic| walk_at "inplaceOp BitXor int int") => `(tactic| ((with_reducible refine r_ixor ?_); (try dsimp only)))
local macro_rules | `(tactic| walk_at "binaryOp Mult int int") => `(tactic| ((with_reducible refine r_mul ?_ ?_); rotate_left; (try dsimp only)))
local macro_rules | `(tactic| walk_at "binaryOp FloorDiv int int") => `(tactic| ((with_reducible refine r_fdiv ?_ ?_); rotate_left; (try dsimp only)))
local macro_rules | `(tactic| walk_at "inplaceOp FloorDiv int int") => `(tactic| ((with_reducible refine r_ifdiv ?_ ?_); rotate_left; (try dsimp only)))
local macro_rules | `(tactic| walk_at "binaryOp Mod int int") => `(tactic| ((with_reducible refine r_mod ?_ ?_); rotate_left; (try dsimp only)))
local macro_rules | `(tactic| walk_at "binaryOp Pow int int") => `(tactic| ((with_reducible refine r_pow ?_ ?_); rotate_left; (try dsimp only)))
local macro_rules | `(tactic| walk_at "call builtin:int.bit_length") => `(tactic| ((with_reducible refine r_bits ?_); (try dsimp only)))
local macro_rules | `(tactic| walk_at "eval Call Name cons nil") => `(tactic| (k_dflt (refine Call_ ?_)))
local macro_rules | `(tactic| walk_at "call ref cons nil") => `(tactic| (k_dflt (refine' isqrt_small_spec ?k1 ?k2 ?k3 ?k4 ?k5 ?k6 ?k7 ?_ ?_; (case k1 => k_asm); (case k2 => k_asm); (case k3 => k_asm); (case k4 => k_asm); (case k5 => k_asm); (case k6 => first | exact rfl | assumption); (case k7 => first | omega | ktr_room); (rotate_left 1; intro t9 h9 tk9 F9 N9; (try dsimp only); (try k_fold)))))
section
variable {w : World} {dp un : Nat} {gd : Option (List Code)} {cn : Str} {cs : Scope} {a : Addr} {ccd : Value} {cl : List (Str × Addr)} {outer : List Env} {A₀ : Around} {base h₀ : Heap} {L : Addr} {m : Str → Option Value} {news : List (Addr × Obj)} {s : Shared} {Q E : Value → Shared → Prop} {p : Program} {loose : List Str} {mean : ExcName → Option Value} {mg mb : Str → Option Value}
variable (B : Below A₀ base outer h₀) (F : Fr h₀ L s.heap m) (X : (hd.heap_39 w.params).In h₀) (N : News h₀ L s.heap news) (T : Top p loose mean mg mb h₀) (hk : cs.kind = .function)
include B F X N T hk
theorem sqrtrem_spec (hd : dp + 2 < recursionLimit) {x : Int} {t : Tok} (hx : Side (0 ≤ x ∧ bits x ≤ 9000)) (hret : RetP h₀ L m news s Q (isqF x) (x - mul (isqF x) (isqF x))) :
    wpAny (model rw_aa5009_01.row.prog w) (ktrTop dp un gd cn cs L a ccd cl outer) (call (.ref 35) [.int x t]) Q E s := by
  revert X; k_fill; intro X
  have hx' := hx.out
  have hb : bits (isqF x) ≤ 9000 := by
    have h1 := isqF_nonneg x
    have h2 := isqF_le hx'.1
    have := bits_mono (a := isqF x) (b := x) (by omega)
    omega
  refine wpAny_call ?_
  k_dflt cell_enter
  k_steps
  all_goals first
    | exact hx
    | (exact Side.mk (by omega))
    | (walk_at "my end" <;> rfl)
end
local macro_rules | `(tactic| walk_at "call ref cons nil") => `(tactic| (k_dflt (refine' sqrtrem_spec ?k1 ?k2 ?k3 ?k4 ?k5 ?k6 ?k7 ?_ ?_; (case k1 => k_asm); (case k2 => k_asm); (case k3 => k_asm); (case k4 => k_asm); (case k5 => k_asm); (case k6 => first | exact rfl | assumption); (case k7 => first | omega | ktr_room); (rotate_left 1; intro D9 t9 u9 c9 h9 tk9 F9 N9; (try dsimp only); (try k_fold)))))
local macro_rules | `(tactic| walk_at "storeName") => `(tactic| (k_dflt (refine' storeX_L ?F ?N ?_ ?a ?b; (case b => exact kind_dec (by decide +kernel)); (case F => k_asm); (case N => k_asm); (case a => rfl); k_whole; intro h' F' N'; (try k_sweep))))
local macro_rules | `(tactic| walk_at "spliced") => `(tactic| (k_dflt (first | refine spliced_more ?_ | (refine spliced_none ?_; (try dsimp only)))))
local macro_rules | `(tactic| walk_at "exec Assign") => `(tactic| ((with_reducible show wpAny _ _ (exec (Stmt.Assign [Expr.Name _ _] _ _) _) _ _ _); k_dflt (refine wpAny_Assign_Name ?_)))
local macro_rules | `(tactic| walk_at "isTrue") => `(tactic| (k_dflt (refine isTrue_plain ?_)))
local macro_rules | `(tactic| walk_at "eval Name") => `(tactic| (k_dflt (refine' nameX_K ?F ?X ?T ?e ?_ ?a ?b; (case b => exact kind_dec (by decide +kernel)); (case F => k_asm); (case X => k_asm); (case T => k_asm); (case a => rfl); (case e => k_is); k_whole)))
local macro_rules | `(tactic| walk_at "eval Name") => `(tactic| (k_dflt (refine' nameX_L ?F ?v ?_ ?a ?b; (case b => exact kind_dec (by decide +kernel)); (case F => k_asm); (case a => rfl); (case v => rfl); k_whole)))
section
variable {w : World} {dp un : Nat} {gd : Option (List Code)} {cn : Str} {cs : Scope} {a : Addr} {ccd : Value} {cl : List (Str × Addr)} {outer : List Env} {A₀ : Around} {base h₀ : Heap} {L : Addr} {m : Str → Option Value} {news : List (Addr × Obj)} {s : Shared} {Q E : Value → Shared → Prop} {p : Program} {loose : List Str} {mean : ExcName → Option Value} {mg mb : Str → Option Value}
variable (B : Below A₀ base outer h₀) (F : Fr h₀ L s.heap m) (X : (hd.heap_39 w.params).In h₀) (N : News h₀ L s.heap news) (T : Top p loose mean mg mb h₀) (hk : cs.kind = .function)
include B F X N T hk
theorem isqrt_spec (hd : dp + 3 < recursionLimit) {x : Int} {t : Tok} (hx : Side (0 ≤ x ∧ bits x ≤ 9000)) (hret : RetI h₀ L m news s Q (isqF x)) :
    wpAny (model rw_aa5009_01.row.prog w) (ktrTop dp un gd cn cs L a ccd cl outer) (call (.ref 42) [.int x t]) Q E s := by
  revert X; k_fill; intro X
  refine wpAny_call ?_
  k_dflt cell_enter
  k_steps
  all_goals first
    | exact hx
    | (walk_at "my end" <;> rfl)
end
end Mine

namespace Mine
open PySem.Challenge (rw_aa5009_01)
def shA : Way → Addr
  | .f => 61
  | .c => 62
  | .d => 63
  | _ => 64
theorem shifts_get {A : Around} {x y : Str} {px py : Pos} {way : Way} {t : Tok} {h₀ : Heap} {L : Addr} {m : Str → Option Value} {s : Shared} {Q E : Value → Shared → Prop} {w : World} (F : Fr h₀ L s.heap m) (X : (hd.heap_39 w.params).In h₀) (hw : way ≠ .n) (h : Q (.ref (shA way)) { s with toks := s.toks + 1 }) :
   wpAny (model rw_aa5009_01.row.prog w) A (subscriptTail (.Name x px) (.Name y py) (.ref 60) (.str way.str t)) Q E s := by
  revert X; k_fill; intro X
  cases way <;> dsimp only [Way.str]
  · contradiction
  all_goals walk1
  all_goals exact h
theorem shifts_item {A : Around} {x x1 y : Str} {px px1 py pz : Pos} {way : Way} {sign : Int} {t : Tok} {h₀ : Heap} {L : Addr} {m : Str → Option Value} {s : Shared} {Q E : Value → Shared → Prop} {w : World} (F : Fr h₀ L s.heap m) (X : (hd.heap_39 w.params).In h₀) (hw : way ≠ .n) (hs : sign = 0 ∨ sign = 1) (h : ∀ tk, Q (.int (dnI way sign) tk) s) :
   wpAny (model rw_aa5009_01.row.prog w) A (subscriptTail (.Subscript (.Name x px) (.Name x1 px1) pz) (.Name y py) (.ref (shA way)) (.int sign t)) Q E s := by
  revert X; k_fill; intro X
  unfold dnI at h
  cases way <;> dsimp only [shA]
  · contradiction
  all_goals (rcases hs with rfl | rfl <;> walk1 <;> exact h _)
theorem eq_way {A : Around} {E : Value → Shared → Prop} {way : Way} {t u : Tok} {prog : Program} {w : World} {s : Shared} {Q : Value → Shared → Prop} (hw : way ≠ .n) (h : Q (.bool false) s) :
   wpAny (model prog w) A (compareOp .Eq (.str way.str t) (.str (Str.ofString "n") u)) Q E s := by
  refine eq_str ?_
  have e : (way.str == Str.ofString "n") = false := by cases way <;> first | contradiction | decide
  rw [e]; exact h
end Mine

namespace Mine
open PySem.Challenge (rw_aa5009_01)
theorem execs_append' (env : Env) (l2 : List Stmt) : ∀ l1 : List Stmt, execs (l1 ++ l2) env = (execs l1 env >>= fun f => match f with | .next => execs l2 env | f => pure f)
  | [] => by
    show execs l2 env = (pure Flow.next >>= _)
    rw [pure_bind]
  | st :: r => by
    rw [List.cons_append, execs_cons, execs_cons, bind_assoc]
    congr 1
    funext f
    cases f with
    | next => exact execs_append' env l2 r
    | brk => simp only [pure_bind]
    | cont => simp only [pure_bind]
    | ret v => simp only [pure_bind]
/-- the first statements' end: on to the rest, or out -/
def CutPost (Mid : Shared → Prop) (Q : Flow → Shared → Prop) (f : Flow) (s' : Shared) : Prop := match f with
  | .next => Mid s'
  | .ret v => Q (.ret v) s'
  | .brk => Q .brk s'
  | .cont => Q .cont s'
theorem execs_cut2 {M : Model} {A : Around} {env : Env} {l : List Stmt} {Q : Flow → Shared → Prop} {E : Value → Shared → Prop} {s : Shared} (n : Nat) (Mid : Shared → Prop)
    (h1 : wpAny M A (execs (l.take n) env) (CutPost Mid Q) E s) (h2 : ∀ s', Mid s' → wpAny M A (execs (l.drop n) env) Q E s') : wpAny M A (execs l env) Q E s := by
  have e : execs l env = execs (l.take n ++ l.drop n) env := by rw [List.take_append_drop]
  rw [e, execs_append']
  refine wpAny_bind (wpAny_mono h1 (fun f s' h => ?_) fun _ _ h => h)
  cases f with
  | next => exact h2 s' h
  | ret v => exact wpAny_pure h
  | brk => exact wpAny_pure h
  | cont => exact wpAny_pure h
end Mine

namespace Mine
open PySem.Challenge (rw_aa5009_01)
local macro_rules | `(tactic| walk_at "truthy int") => `(tactic| (with_reducible (first | refine truthy_ne (by assumption) ?_ | refine truthy_eq (by assumption) ?_ | refine truthy_imp (by assumption) (by assumption) ?_)))
local macro_rules | `(tactic| walk_at "my ifs") => `(tactic| repeat (first | (with_reducible rfl) | (refine Eq.trans ?_ (if_pos (by first | assumption | omega)).symm) | (refine Eq.trans ?_ (if_neg (by first | assumption | omega)).symm)))
local macro_rules | `(tactic| walk_at "binaryOp LShift int int") => `(tactic| ((with_reducible refine r_lshift ?_ ?_); rotate_left; (try dsimp only)))
local macro_rules | `(tactic| walk_at "inplaceOp LShift int int") => `(tactic| ((with_reducible refine r_ilshift ?_ ?_); rotate_left; (try dsimp only)))
local macro_rules | `(tactic| walk_at "binaryOp RShift int int") => `(tactic| ((with_reducible refine r_rshift ?_ ?_); rotate_left; (try dsimp only)))
local macro_rules | `(tactic| walk_at "inplaceOp RShift int int") => `(tactic| ((with_reducible refine r_irshift ?_ ?_); rotate_left; (try dsimp only)))
local macro_rules | `(tactic| walk_at "binaryOp BitAnd int int") => `(tactic| ((with_reducible refine r_and ?_); (try dsimp only)))
local macro_rules | `(tactic| walk_at "binaryOp BitXor int int") => `(tactic| ((with_reducible refine r_xor ?_); (try dsimp only)))
local macro_rules | `(tactic| walk_at "inplaceOp BitXor int int") => `(tactic| ((with_reducible refine r_ixor ?_); (try dsimp only)))
local macro_rules | `(tactic| walk_at "binaryOp Mult int int") => `(tactic| ((with_reducible refine r_mul ?_ ?_); rotate_left; (try dsimp only)))
local macro_rules | `(tactic| walk_at "binaryOp FloorDiv int int") => `(tactic| ((with_reducible refine r_fdiv ?_ ?_); rotate_left; (try dsimp only)))
local macro_rules | `(tactic| walk_at "inplaceOp FloorDiv int int") => `(tactic| ((with_reducible refine r_ifdiv ?_ ?_); rotate_left; (try dsimp only)))
local macro_rules | `(tactic| walk_at "binaryOp Mod int int") => `(tactic| ((with_reducible refine r_mod ?_ ?_); rotate_left; (try dsimp only)))
local macro_rules | `(tactic| walk_at "binaryOp Pow int int") => `(tactic| ((with_reducible refine r_pow ?_ ?_); rotate_left; (try dsimp only)))
local macro_rules | `(tactic| walk_at "call builtin:int.bit_length") => `(tactic| ((with_reducible refine r_bits ?_); (try dsimp only)))
local macro_rules | `(tactic| walk_at "eval Call Name cons nil") => `(tactic| (k_dflt (refine Call_ ?_)))
local macro_rules | `(tactic| walk_at "call ref cons nil") => `(tactic| (k_dflt (refine' trailing_spec ?k1 ?k2 ?k3 ?k4 ?k5 ?k6 ?k7 ?_; (case k1 => k_asm); (case k2 => k_asm); (case k3 => k_asm); (case k4 => k_asm); (case k5 => k_asm); (case k6 => first | exact rfl | assumption); (case k7 => first | omega | ktr_room); (intro t9 h9 tk9 F9 N9; (try dsimp only); (try k_fold)))))
local macro_rules | `(tactic| walk_at "my sub") => `(tactic| (repeat (first | exact sub_refl | refine sub_cons ?_ | refine sub_app ?_)))
local macro_rules | `(tactic| walk_at "my has") => `(tactic| (refine Has.mono (by assumption) ?_; walk_at "my sub"))
local macro_rules | `(tactic| walk_at "my end") => `(tactic| first
  | ((rename RetT _ _ _ _ _ _ _ => hR'); first
      | (refine retNew hR' ?_ (by assumption) (by assumption) (by walk_at "my sub"))
      | (refine retZero hR' ?_ (by assumption) (by assumption) (by walk_at "my sub"))
      | (refine retT hR' ?_ (by assumption) (by assumption) (by walk_at "my has") (by walk_at "my sub")))
  | ((rename RetI _ _ _ _ _ _ _ => hR'); refine retI hR' ?_ (by assumption) (News.sub (by assumption) (by walk_at "my sub")))
  | ((rename RetP _ _ _ _ _ _ _ _ => hR'); refine retP hR' ?_ ?_ (by assumption) (by assumption) (by walk_at "my sub")))
local macro_rules | `(tactic| walk_at "my enter") => `(tactic| k_dflt (refine' code_def ?k1 ?k2 ?k3 ?k4 ?k5 ?kA ?kF ?kK ?k6 ?k7 ?k8 ?k9 ?kB ?_ ?c2 ?c3 ?c4 ?c5; (case kA => exact rfl); (case kF => exact rfl); (case kK => assumption); (case k1 => k_asm); (case k2 => k_asm); (case k3 => k_asm); (case k4 => k_asm); (case k5 => k_asm); (case k6 => k_is); (case k7 => k_is); (case k8 => first | omega | ktr_room); (case k9 => first | exact BindsTo.of_eq rfl | exact binds_K (by k_in) rfl (by k_is) rfl rfl rfl); (case c5 => decide); (case kB => exact locs rfl); (case c2 => exact rfl); (case c3 => exact rfl); (case c4 => exact rfl); k_whole; intro g' L' h' FG' F' N' B' X' T'; (try dsimp only); (try k_lift B'); (try k_fold)))
local macro_rules | `(tactic| walk_at "subscriptTail Name Name ref str") => `(tactic| (k_dflt (refine shifts_get (by assumption) (by assumption) (by assumption) ?_)))
local macro_rules | `(tactic| walk_at "subscriptTail Subscript Name Name Name ref int") => `(tactic| (k_dflt (refine shifts_item (by assumption) (by assumption) (by assumption) (by assumption) ?_); intro tk9))
local macro_rules | `(tactic| walk_at "compareOp Eq str str") => `(tactic| (refine eq_way (by assumption) ?_))
local macro_rules | `(tactic| walk_at "my steps") => `(tactic| (repeat' (first | (k_unfold; (try dsimp only)) | ((fail_if_success (with_reducible show wpAny _ _ (exec (Stmt.While _ _ _ _) _) _ _ _)); (fail_if_success (with_reducible show wpAny _ _ (exec (Stmt.For _ _ _ _ _) _) _ _ _)); first | walk1 | (dsimp only; walk1)))))
local macro_rules | `(tactic| walk_at "WhileStep2 ret") => `(tactic| (dsimp only [WhileStep2]))
local macro_rules | `(tactic| walk_at "TurnPost ret") => `(tactic| (dsimp only [TurnPost]))
local macro_rules | `(tactic| walk_at "my stepsL") => `(tactic| (repeat' (first | (k_unfold; (try dsimp only)) | ((fail_if_success (with_reducible show wpAny _ _ (exec (Stmt.While _ _ _ _) _) _ _ _)); (fail_if_success (with_reducible show wpAny _ _ (exec (Stmt.For _ _ _ _ _) _) _ _ _)); (fail_if_success (with_reducible show wpAny _ _ (exec (Stmt.If _ _ _ _) _) _ _ _)); (fail_if_success (with_reducible show wpAny _ _ (pyIter (Value.ref _)) _ _ _)); first | walk1 | (dsimp only; walk1)))))
local macro_rules | `(tactic| walk_at "CutPost ret") => `(tactic| (dsimp only [CutPost]))
local macro_rules | `(tactic| walk_at "my sub") => `(tactic| (repeat (first | exact sub_refl | assumption | refine sub_cons ?_ | refine sub_app ?_)))
local macro_rules | `(tactic| walk_at "storeName") => `(tactic| (k_dflt (refine' storeX_L ?F ?N ?_ ?a ?b; (case b => exact kind_dec (by decide +kernel)); (case F => k_asm); (case N => k_asm); (case a => rfl); k_whole; intro h' F' N'; (try k_sweep))))
local macro_rules | `(tactic| walk_at "spliced") => `(tactic| (k_dflt (first | refine spliced_more ?_ | (refine spliced_none ?_; (try dsimp only)))))
local macro_rules | `(tactic| walk_at "exec Assign") => `(tactic| ((with_reducible show wpAny _ _ (exec (Stmt.Assign [Expr.Name _ _] _ _) _) _ _ _); k_dflt (refine wpAny_Assign_Name ?_)))
local macro_rules | `(tactic| walk_at "isTrue") => `(tactic| (k_dflt (refine isTrue_plain ?_)))
local macro_rules | `(tactic| walk_at "eval Name") => `(tactic| (k_dflt (refine' nameX_K ?F ?X ?T ?e ?_ ?a ?b; (case b => exact kind_dec (by decide +kernel)); (case F => k_asm); (case X => k_asm); (case T => k_asm); (case a => rfl); (case e => k_is); k_whole)))
local macro_rules | `(tactic| walk_at "eval Name") => `(tactic| (k_dflt (refine' nameX_L ?F ?v ?_ ?a ?b; (case b => exact kind_dec (by decide +kernel)); (case F => k_asm); (case a => rfl); (case v => rfl); k_whole)))
/-- the names behind the rounding -/
def JN (s1 m1 e1 b1 : Int) (ts tm te tb : Tok) (m : Str → Option Value) : Prop :=
  m (Str.ofString "bc") = some (.int b1 tb) ∧ m (Str.ofString "exp") = some (.int e1 te) ∧ m (Str.ofString "man") = some (.int m1 tm) ∧ m (Str.ofString "sign") = some (.int s1 ts)
theorem jn_in {s1 m1 e1 b1 : Int} {ts tm te tb : Tok} {m : Str → Option Value} (h : JN s1 m1 e1 b1 ts tm te tb m) :
    m = fun y => if y = Str.ofString "bc" then some (.int b1 tb) else if y = Str.ofString "exp" then some (.int e1 te) else if y = Str.ofString "man" then some (.int m1 tm) else if y = Str.ofString "sign" then some (.int s1 ts) else m y := by
  obtain ⟨h1, h2, h3, h4⟩ := h
  funext y
  by_cases c1 : y = Str.ofString "bc"
  · subst c1; rw [if_pos rfl]; exact h1
  · rw [if_neg c1]
    by_cases c2 : y = Str.ofString "exp"
    · subst c2; rw [if_pos rfl]; exact h2
    · rw [if_neg c2]
      by_cases c3 : y = Str.ofString "man"
      · subst c3; rw [if_pos rfl]; exact h3
      · rw [if_neg c3]
        by_cases c4 : y = Str.ofString "sign"
        · subst c4; rw [if_pos rfl]; exact h4
        · rw [if_neg c4]
section
variable {w : World} {dp un : Nat} {gd : Option (List Code)} {cn : Str} {cs : Scope} {a : Addr} {ccd : Value} {cl : List (Str × Addr)} {outer : List Env} {A₀ : Around} {base h₀ : Heap} {L : Addr} {m : Str → Option Value} {news : List (Addr × Obj)} {s : Shared} {Q E : Value → Shared → Prop} {p : Program} {loose : List Str} {mean : ExcName → Option Value} {mg mb : Str → Option Value}
variable (B : Below A₀ base outer h₀) (F : Fr h₀ L s.heap m) (X : (hd.heap_39 w.params).In h₀) (N : News h₀ L s.heap news) (T : Top p loose mean mg mb h₀) (hk : cs.kind = .function)
include B F X N T hk
theorem normalize0_spec (hd : dp + 2 < recursionLimit) 
  {sign man exp bc prec : Int} {t1 t2 t3 t4 t5 t6 : Tok} {way : Way}
  (hs : Side ((sign = 0 ∨ sign = 1) ∧ bc - prec ≤ 1000000)) 
  (hret : RetT h₀ L m news s Q (normC sign man exp bc prec way)) :
  wpAny (model rw_aa5009_01.row.prog w) (ktrTop dp un gd cn cs L a ccd cl outer) (call (.ref 71) [.int sign t1, .int man t2, .int exp t3, .int bc t4, .int prec t5, .str way.str t6]) Q E s := by
  revert X; k_fill; intro X
  have hb1 := bits_one
  obtain ⟨hs, hsz⟩ := hs.out
  refine wpAny_call ?_
  k_dflt (refine' code_def ?k1 ?k2 ?k3 ?k4 ?k5 ?kA ?kF ?kK ?k6 ?k7 ?k8 ?k9 ?kB ?_ ?c2 ?c3 ?c4 ?c5; (case kA => exact rfl); (case kF => exact rfl); (case kK => assumption); (case k1 => k_asm); (case k2 => k_asm); (case k3 => k_asm); (case k4 => k_asm); (case k5 => k_asm); (case k6 => k_is); (case k7 => k_is); (case k8 => first | omega | ktr_room); (case k9 => first | exact BindsTo.of_eq rfl | exact binds_K (by k_in) rfl (by k_is) rfl rfl rfl); (case c5 => decide); (case kB => exact locs rfl); (case c2 => exact rfl); (case c3 => exact rfl); (case c4 => exact rfl); k_whole; intro g' L' h' FG' F' N' B' X' T'; (try dsimp only); (try k_lift B'); (try k_fold))
  refine execs_cut2 3 (fun s' => ∃ (mm : Str → Option Value) (ts tm te tb : Tok) (m1 e1 b1 : Int) (led2 : List (Addr × Obj)) (hh : Heap) (tk : Nat), s' = { s with heap := hh, toks := tk } ∧ Fr g' L' hh mm ∧ News g' L' hh led2 ∧ (∀ q ∈ news, q ∈ led2) ∧
    JN sign m1 e1 b1 ts tm te tb mm ∧ normC sign man exp bc prec way = stripC sign m1 e1 b1) ?_ ?_
  · dsimp only [List.take]
    by_cases hw : way = .n
    · subst hw; dsimp only [Way.str]
      walk_at "my steps"
      all_goals first
        | (exact Side.mk (by omega))
        | (walk_at "my end"; dsimp only [normC]; (repeat' (first | contradiction | (with_reducible rfl) | split)); done)
        | (dsimp only [CutPost]
           refine ⟨_, _, _, _, _, _, _, _, _, _, _, rfl, by assumption, by assumption, by walk_at "my sub", ⟨by with_unfolding_all exact rfl, by with_unfolding_all exact rfl, by with_unfolding_all exact rfl, by with_unfolding_all exact rfl⟩, ?_⟩
           refine (if_neg (by assumption)).trans ?_
           first
            | (refine (if_neg (by omega)).trans ?_; with_reducible rfl)
            | (refine (if_pos (by omega)).trans ?_; dsimp only [rndC, nearC]; congr 1; refine Eq.symm ?_; walk_at "my ifs"; done))
        | skip
    · have er : ∀ n, rndC sign man n way = if dnI way sign = 0 then -(shr (-man) n) else shr man n := by
        intro n; cases way <;> first | contradiction | rfl
      walk_at "my steps"
      all_goals first
        | (exact Side.mk (by omega))
        | (walk_at "my end"; dsimp only [normC]; (repeat' (first | contradiction | (with_reducible rfl) | split)); done)
        | (dsimp only [CutPost]
           refine ⟨_, _, _, _, _, _, _, _, _, _, _, rfl, by assumption, by assumption, by walk_at "my sub", ⟨by with_unfolding_all exact rfl, by with_unfolding_all exact rfl, by with_unfolding_all exact rfl, by with_unfolding_all exact rfl⟩, ?_⟩
           refine (if_neg (by assumption)).trans ?_
           first
            | (refine (if_neg (by omega)).trans ?_; with_reducible rfl)
            | (refine (if_pos (by omega)).trans ?_; rw [er]; congr 1; (first | exact if_pos (by assumption) | exact if_neg (by assumption))))
        | skip
  · rintro s2 ⟨mm, ts, tm, te, tb, m1, e1, b1, led2, hh, tk, rfl, F2, N2, hs2, hJ, hn⟩
    dsimp only [List.drop]
    rw [jn_in hJ] at F2
    (try k_fold)
    walk_at "my steps"
    all_goals first
      | (exact Side.mk (by omega))
      | (exact Side.mk (trailingF_nonneg _))
      | (walk_at "my end"; refine Eq.trans ?_ hn.symm; dsimp only [stripC, finC]; (repeat' (first | contradiction | (with_reducible rfl) | split)); done)
      | skip
end
end Mine

namespace Mine
open PySem.Challenge (rw_aa5009_01)
local macro_rules | `(tactic| walk_at "binaryOp LShift int int") => `(tactic| ((with_reducible refine r_lshift ?_ ?_); rotate_left; (try dsimp only)))
local macro_rules | `(tactic| walk_at "inplaceOp LShift int int") => `(tactic| ((with_reducible refine r_ilshift ?_ ?_); rotate_left; (try dsimp only)))
local macro_rules | `(tactic| walk_at "binaryOp RShift int int") => `(tactic| ((with_reducible refine r_rshift ?_ ?_); rotate_left; (try dsimp only)))
local macro_rules | `(tactic| walk_at "inplaceOp RShift int int") => `(tactic| ((with_reducible refine r_irshift ?_ ?_); rotate_left; (try dsimp only)))
local macro_rules | `(tactic| walk_at "binaryOp BitAnd int int") => `(tactic| ((with_reducible refine r_and ?_); (try dsimp only)))
local macro_rules | `(tactic| walk_at "binaryOp BitXor int int") => `(tactic| ((with_reducible refine r_xor ?_); (try dsimp only)))
local macro_rules | `(tactic| walk_at "inplaceOp BitXor int int") => `(tactic| ((with_reducible refine r_ixor ?_); (try dsimp only)))
local macro_rules | `(tactic| walk_at "binaryOp Mult int int") => `(tactic| ((with_reducible refine r_mul ?_ ?_); rotate_left; (try dsimp only)))
local macro_rules | `(tactic| walk_at "binaryOp FloorDiv int int") => `(tactic| ((with_reducible refine r_fdiv ?_ ?_); rotate_left; (try dsimp only)))
local macro_rules | `(tactic| walk_at "inplaceOp FloorDiv int int") => `(tactic| ((with_reducible refine r_ifdiv ?_ ?_); rotate_left; (try dsimp only)))
local macro_rules | `(tactic| walk_at "binaryOp Mod int int") => `(tactic| ((with_reducible refine r_mod ?_ ?_); rotate_left; (try dsimp only)))
local macro_rules | `(tactic| walk_at "binaryOp Pow int int") => `(tactic| ((with_reducible refine r_pow ?_ ?_); rotate_left; (try dsimp only)))
local macro_rules | `(tactic| walk_at "call builtin:int.bit_length") => `(tactic| ((with_reducible refine r_bits ?_); (try dsimp only)))
local macro_rules | `(tactic| walk_at "eval Call Name cons nil") => `(tactic| (k_dflt (refine Call_ ?_)))
local macro_rules | `(tactic| walk_at "my sub") => `(tactic| (repeat (first | exact sub_refl | refine sub_cons ?_ | refine sub_app ?_)))
local macro_rules | `(tactic| walk_at "my has") => `(tactic| (refine Has.mono (by assumption) ?_; walk_at "my sub"))
local macro_rules | `(tactic| walk_at "my end") => `(tactic| first
  | ((rename RetT _ _ _ _ _ _ _ => hR'); first
      | (refine retNew hR' ?_ (by assumption) (by assumption) (by walk_at "my sub"))
      | (refine retZero hR' ?_ (by assumption) (by assumption) (by walk_at "my sub"))
      | (refine retT hR' ?_ (by assumption) (by assumption) (by walk_at "my has") (by walk_at "my sub")))
  | ((rename RetI _ _ _ _ _ _ _ => hR'); refine retI hR' ?_ (by assumption) (News.sub (by assumption) (by walk_at "my sub")))
  | ((rename RetP _ _ _ _ _ _ _ _ => hR'); refine retP hR' ?_ ?_ (by assumption) (by assumption) (by walk_at "my sub")))
local macro_rules | `(tactic| walk_at "my enter") => `(tactic| k_dflt (refine' code_def ?k1 ?k2 ?k3 ?k4 ?k5 ?kA ?kF ?kK ?k6 ?k7 ?k8 ?k9 ?kB ?_ ?c2 ?c3 ?c4 ?c5; (case kA => exact rfl); (case kF => exact rfl); (case kK => assumption); (case k1 => k_asm); (case k2 => k_asm); (case k3 => k_asm); (case k4 => k_asm); (case k5 => k_asm); (case k6 => k_is); (case k7 => k_is); (case k8 => first | omega | ktr_room); (case k9 => first | exact BindsTo.of_eq rfl | exact binds_K (by k_in) rfl (by k_is) rfl rfl rfl); (case c5 => decide); (case kB => exact locs rfl); (case c2 => exact rfl); (case c3 => exact rfl); (case c4 => exact rfl); k_whole; intro g' L' h' FG' F' N' B' X' T'; (try dsimp only); (try k_lift B'); (try k_fold)))
local macro_rules | `(tactic| walk_at "call ref cons nil") => `(tactic| (k_dflt (refine' normalize0_spec ?k1 ?k2 ?k3 ?k4 ?k5 ?k6 ?k7 ?_ ?_; (case k1 => k_asm); (case k2 => k_asm); (case k3 => k_asm); (case k4 => k_asm); (case k5 => k_asm); (case k6 => first | exact rfl | assumption); (case k7 => first | omega | ktr_room); (rotate_left 1; intro r9 tl9 h9 tk9 F9 N9 H9; (try dsimp only); (try k_fold)))))
local macro_rules | `(tactic| walk_at "storeName") => `(tactic| (k_dflt (refine' storeX_L ?F ?N ?_ ?a ?b; (case b => exact kind_dec (by decide +kernel)); (case F => k_asm); (case N => k_asm); (case a => rfl); k_whole; intro h' F' N'; (try k_sweep))))
local macro_rules | `(tactic| walk_at "spliced") => `(tactic| (k_dflt (first | refine spliced_more ?_ | (refine spliced_none ?_; (try dsimp only)))))
local macro_rules | `(tactic| walk_at "exec Assign") => `(tactic| ((with_reducible show wpAny _ _ (exec (Stmt.Assign [Expr.Name _ _] _ _) _) _ _ _); k_dflt (refine wpAny_Assign_Name ?_)))
local macro_rules | `(tactic| walk_at "isTrue") => `(tactic| (k_dflt (refine isTrue_plain ?_)))
local macro_rules | `(tactic| walk_at "eval Name") => `(tactic| (k_dflt (refine' nameX_K ?F ?X ?T ?e ?_ ?a ?b; (case b => exact kind_dec (by decide +kernel)); (case F => k_asm); (case X => k_asm); (case T => k_asm); (case a => rfl); (case e => k_is); k_whole)))
local macro_rules | `(tactic| walk_at "eval Name") => `(tactic| (k_dflt (refine' nameX_L ?F ?v ?_ ?a ?b; (case b => exact kind_dec (by decide +kernel)); (case F => k_asm); (case a => rfl); (case v => rfl); k_whole)))
section
variable {w : World} {dp un : Nat} {gd : Option (List Code)} {cn : Str} {cs : Scope} {a : Addr} {ccd : Value} {cl : List (Str × Addr)} {outer : List Env} {A₀ : Around} {base h₀ : Heap} {L : Addr} {m : Str → Option Value} {news : List (Addr × Obj)} {s : Shared} {Q E : Value → Shared → Prop} {p : Program} {loose : List Str} {mean : ExcName → Option Value} {mg mb : Str → Option Value}
variable (B : Below A₀ base outer h₀) (F : Fr h₀ L s.heap m) (X : (hd.heap_39 w.params).In h₀) (N : News h₀ L s.heap news) (T : Top p loose mean mg mb h₀) (hk : cs.kind = .function)
include B F X N T hk
theorem normalize_spec (hd : dp + 3 < recursionLimit) 
  {sign man exp bc prec : Int} {t1 t2 t3 t4 t5 t6 : Tok} {way : Way}
  (hs : Side ((sign = 0 ∨ sign = 1) ∧ bc - prec ≤ 1000000 ∧ bc = bits man ∧ 0 ≤ man)) 
  (hret : RetT h₀ L m news s Q (normC sign man exp bc prec way)) :
  wpAny (model rw_aa5009_01.row.prog w) (ktrTop dp un gd cn cs L a ccd cl outer) (call (.ref 78) [.int sign t1, .int man t2, .int exp t3, .int bc t4, .int prec t5, .str way.str t6]) Q E s := by
  revert X; k_fill; intro X
  obtain ⟨hs1, hs2, hs3, hs4⟩ := hs.out
  refine wpAny_call ?_
  k_dflt cell_enter
  k_steps
  all_goals first
    | (exact Side.mk ⟨by assumption, by assumption⟩)
    | (walk_at "my end"; rfl)
    | (exfalso; omega)
    | skip
end
def fme1 (sign a exp : Int) : Mf :=
  if a = 0 then ⟨0, 0, 0, 0⟩
  else if band a 1 = 0 then
    (if band a 2 = 0 then ⟨sign, shr a (trailingF a), exp + trailingF a, bits a - trailingF a⟩ else ⟨sign, shr a 1, exp + 1, bits a - 1⟩)
  else ⟨sign, a, exp, bits a⟩
def fmeC (man exp : Int) : Mf := if man < 0 then fme1 1 (-man) exp else fme1 0 man exp
end Mine

namespace Mine
open PySem.Challenge (rw_aa5009_01)
local macro_rules | `(tactic| walk_at "binaryOp LShift int int") => `(tactic| ((with_reducible refine r_lshift ?_ ?_); rotate_left; (try dsimp only)))
local macro_rules | `(tactic| walk_at "inplaceOp LShift int int") => `(tactic| ((with_reducible refine r_ilshift ?_ ?_); rotate_left; (try dsimp only)))
local macro_rules | `(tactic| walk_at "binaryOp RShift int int") => `(tactic| ((with_reducible refine r_rshift ?_ ?_); rotate_left; (try dsimp only)))
local macro_rules | `(tactic| walk_at "inplaceOp RShift int int") => `(tactic| ((with_reducible refine r_irshift ?_ ?_); rotate_left; (try dsimp only)))
local macro_rules | `(tactic| walk_at "binaryOp BitAnd int int") => `(tactic| ((with_reducible refine r_and ?_); (try dsimp only)))
local macro_rules | `(tactic| walk_at "binaryOp BitXor int int") => `(tactic| ((with_reducible refine r_xor ?_); (try dsimp only)))
local macro_rules | `(tactic| walk_at "inplaceOp BitXor int int") => `(tactic| ((with_reducible refine r_ixor ?_); (try dsimp only)))
local macro_rules | `(tactic| walk_at "binaryOp Mult int int") => `(tactic| ((with_reducible refine r_mul ?_ ?_); rotate_left; (try dsimp only)))
local macro_rules | `(tactic| walk_at "binaryOp FloorDiv int int") => `(tactic| ((with_reducible refine r_fdiv ?_ ?_); rotate_left; (try dsimp only)))
local macro_rules | `(tactic| walk_at "inplaceOp FloorDiv int int") => `(tactic| ((with_reducible refine r_ifdiv ?_ ?_); rotate_left; (try dsimp only)))
local macro_rules | `(tactic| walk_at "binaryOp Mod int int") => `(tactic| ((with_reducible refine r_mod ?_ ?_); rotate_left; (try dsimp only)))
local macro_rules | `(tactic| walk_at "binaryOp Pow int int") => `(tactic| ((with_reducible refine r_pow ?_ ?_); rotate_left; (try dsimp only)))
local macro_rules | `(tactic| walk_at "call builtin:int.bit_length") => `(tactic| ((with_reducible refine r_bits ?_); (try dsimp only)))
local macro_rules | `(tactic| walk_at "eval Call Name cons nil") => `(tactic| (k_dflt (refine Call_ ?_)))
local macro_rules | `(tactic| walk_at "call ref cons nil") => `(tactic| (k_dflt (refine' trailing_spec ?k1 ?k2 ?k3 ?k4 ?k5 ?k6 ?k7 ?_; (case k1 => k_asm); (case k2 => k_asm); (case k3 => k_asm); (case k4 => k_asm); (case k5 => k_asm); (case k6 => first | exact rfl | assumption); (case k7 => first | omega | ktr_room); (intro t9 h9 tk9 F9 N9; (try dsimp only); (try k_fold)))))
local macro_rules | `(tactic| walk_at "my sub") => `(tactic| (repeat (first | exact sub_refl | refine sub_cons ?_ | refine sub_app ?_)))
local macro_rules | `(tactic| walk_at "my has") => `(tactic| (refine Has.mono (by assumption) ?_; walk_at "my sub"))
local macro_rules | `(tactic| walk_at "my end") => `(tactic| first
  | ((rename RetT _ _ _ _ _ _ _ => hR'); first
      | (refine retNew hR' ?_ (by assumption) (by assumption) (by walk_at "my sub"))
      | (refine retZero hR' ?_ (by assumption) (by assumption) (by walk_at "my sub"))
      | (refine retT hR' ?_ (by assumption) (by assumption) (by walk_at "my has") (by walk_at "my sub")))
  | ((rename RetI _ _ _ _ _ _ _ => hR'); refine retI hR' ?_ (by assumption) (News.sub (by assumption) (by walk_at "my sub")))
  | ((rename RetP _ _ _ _ _ _ _ _ => hR'); refine retP hR' ?_ ?_ (by assumption) (by assumption) (by walk_at "my sub")))
local macro_rules | `(tactic| walk_at "my enter") => `(tactic| k_dflt (refine' code_def ?k1 ?k2 ?k3 ?k4 ?k5 ?kA ?kF ?kK ?k6 ?k7 ?k8 ?k9 ?kB ?_ ?c2 ?c3 ?c4 ?c5; (case kA => exact rfl); (case kF => exact rfl); (case kK => assumption); (case k1 => k_asm); (case k2 => k_asm); (case k3 => k_asm); (case k4 => k_asm); (case k5 => k_asm); (case k6 => k_is); (case k7 => k_is); (case k8 => first | omega | ktr_room); (case k9 => first | exact BindsTo.of_eq rfl | exact binds_K (by k_in) rfl (by k_is) rfl rfl rfl); (case c5 => decide); (case kB => exact locs rfl); (case c2 => exact rfl); (case c3 => exact rfl); (case c4 => exact rfl); k_whole; intro g' L' h' FG' F' N' B' X' T'; (try dsimp only); (try k_lift B'); (try k_fold)))
local macro_rules | `(tactic| walk_at "call ref cons nil") => `(tactic| (k_dflt (refine' normalize_spec ?k1 ?k2 ?k3 ?k4 ?k5 ?k6 ?k7 ?_ ?_; (case k1 => k_asm); (case k2 => k_asm); (case k3 => k_asm); (case k4 => k_asm); (case k5 => k_asm); (case k6 => first | exact rfl | assumption); (case k7 => first | omega | ktr_room); (rotate_left 1; intro r9 tl9 h9 tk9 F9 N9 H9; (try dsimp only); (try k_fold)))))
local macro_rules | `(tactic| walk_at "storeName") => `(tactic| (k_dflt (refine' storeX_L ?F ?N ?_ ?a ?b; (case b => exact kind_dec (by decide +kernel)); (case F => k_asm); (case N => k_asm); (case a => rfl); k_whole; intro h' F' N'; (try k_sweep))))
local macro_rules | `(tactic| walk_at "spliced") => `(tactic| (k_dflt (first | refine spliced_more ?_ | (refine spliced_none ?_; (try dsimp only)))))
local macro_rules | `(tactic| walk_at "exec Assign") => `(tactic| ((with_reducible show wpAny _ _ (exec (Stmt.Assign [Expr.Name _ _] _ _) _) _ _ _); k_dflt (refine wpAny_Assign_Name ?_)))
local macro_rules | `(tactic| walk_at "isTrue") => `(tactic| (k_dflt (refine isTrue_plain ?_)))
local macro_rules | `(tactic| walk_at "eval Name") => `(tactic| (k_dflt (refine' nameX_K ?F ?X ?T ?e ?_ ?a ?b; (case b => exact kind_dec (by decide +kernel)); (case F => k_asm); (case X => k_asm); (case T => k_asm); (case a => rfl); (case e => k_is); k_whole)))
local macro_rules | `(tactic| walk_at "eval Name") => `(tactic| (k_dflt (refine' nameX_L ?F ?v ?_ ?a ?b; (case b => exact kind_dec (by decide +kernel)); (case F => k_asm); (case a => rfl); (case v => rfl); k_whole)))
section
variable {w : World} {dp un : Nat} {gd : Option (List Code)} {cn : Str} {cs : Scope} {a : Addr} {ccd : Value} {cl : List (Str × Addr)} {outer : List Env} {A₀ : Around} {base h₀ : Heap} {L : Addr} {m : Str → Option Value} {news : List (Addr × Obj)} {s : Shared} {Q E : Value → Shared → Prop} {p : Program} {loose : List Str} {mean : ExcName → Option Value} {mg mb : Str → Option Value}
variable (B : Below A₀ base outer h₀) (F : Fr h₀ L s.heap m) (X : (hd.heap_39 w.params).In h₀) (N : News h₀ L s.heap news) (T : Top p loose mean mg mb h₀) (hk : cs.kind = .function)
include B F X N T hk
theorem from_man_exp0_spec (hd : dp + 3 < recursionLimit) {man exp : Int} {t1 t2 : Tok} (hs : Side True)
  (hret : RetT h₀ L m news s Q (fmeC man exp)) :
  wpAny (model rw_aa5009_01.row.prog w) (ktrTop dp un gd cn cs L a ccd cl outer) (call (.ref 86) [.int man t1, .int exp t2]) Q E s := by
  revert X; k_fill; intro X
  refine wpAny_call ?_
  walk_at "my enter"
  k_steps
  all_goals first
    | (exact Side.mk (by omega))
    | (exact Side.mk (trailingF_nonneg _))
    | (walk_at "my end"; dsimp only [fmeC, fme1]; (repeat' (first | contradiction | (with_reducible rfl) | (exfalso; omega) | split)); done)
    | skip
end
section
variable {w : World} {dp un : Nat} {gd : Option (List Code)} {cn : Str} {cs : Scope} {a : Addr} {ccd : Value} {cl : List (Str × Addr)} {outer : List Env} {A₀ : Around} {base h₀ : Heap} {L : Addr} {m : Str → Option Value} {news : List (Addr × Obj)} {s : Shared} {Q E : Value → Shared → Prop} {p : Program} {loose : List Str} {mean : ExcName → Option Value} {mg mb : Str → Option Value}
variable (B : Below A₀ base outer h₀) (F : Fr h₀ L s.heap m) (X : (hd.heap_39 w.params).In h₀) (N : News h₀ L s.heap news) (T : Top p loose mean mg mb h₀) (hk : cs.kind = .function)
include B F X N T hk
theorem from_man_exp_spec (hd : dp + 4 < recursionLimit) {man exp prec : Int} {t1 t2 t3 t4 : Tok} {way : Way} (hs : Side (0 ≤ man ∧ 1 ≤ prec ∧ bits man ≤ 1000000))
  (hret : RetT h₀ L m news s Q (normC 0 man exp (bits man) prec way)) :
  wpAny (model rw_aa5009_01.row.prog w) (ktrTop dp un gd cn cs L a ccd cl outer) (call (.ref 86) [.int man t1, .int exp t2, .int prec t3, .str way.str t4]) Q E s := by
  revert X; k_fill; intro X
  obtain ⟨hs1, hs2, hs3⟩ := hs.out
  refine wpAny_call ?_
  walk_at "my enter"
  k_steps
  all_goals first
    | (exact Side.mk ⟨by omega, by omega, by rfl, by omega⟩)
    | (walk_at "my end"; rfl)
    | (exfalso; omega)
    | skip
end
structure Wf (x : Mf) : Prop where
  s : x.s = 0 ∨ x.s = 1
  m : 0 ≤ x.m
  b : x.b = bits x.m
  z : x.m = 0 → x = ⟨0, 0, 0, 0⟩
  sz : x.b ≤ 5000
  e1 : -20000 ≤ x.e
  e2 : x.e ≤ 20000
theorem Wf.zero : Wf ⟨0, 0, 0, 0⟩ := ⟨Or.inl rfl, by decide, bits_zero.symm, fun _ => rfl, by decide, by decide, by decide⟩
end Mine

namespace Mine
open PySem.Challenge (rw_aa5009_01)
/-- a number's address bears its tuple in every heap of the frame -/
def HasT (w : World) (news : List (Addr × Obj)) (r : Addr) (a b c d : Int) (t1 t2 t3 t4 : Tok) : Prop :=
  ∀ (h₀ h : Heap) (L : Addr) (m : Str → Option Value) (n2 : List (Addr × Obj)), Fr h₀ L h m → (hd.heap_39 w.params).In h₀ → News h₀ L h n2 → (∀ p ∈ news, p ∈ n2) →
    IsTup h r #[.int a t1, .int b t2, .int c t3, .int d t4]
theorem has_T (w : World) {news : List (Addr × Obj)} {r : Addr} {a b c d : Int} (H : Has news r ⟨a, b, c, d⟩) : ∃ t1 t2 t3 t4, HasT w news r a b c d t1 t2 t3 t4 := by
  rcases H with ⟨t1, t2, t3, t4, c, h⟩ | ⟨rfl, e⟩
  · exact ⟨t1, t2, t3, t4, fun h₀ hh L m n2 F X N hs => News.isTup N (hs _ h)⟩
  · cases e
    exact ⟨_, _, _, _, fun h₀ hh L m n2 F X N hs => ⟨_, (X.keeps F.keep) 56 _ rfl, rfl, _, rfl⟩⟩
theorem hasT_tup {w : World} {news n2 : List (Addr × Obj)} {r : Addr} {a b c d : Int} {t1 t2 t3 t4 : Tok} {h₀ h : Heap} {L : Addr} {m : Str → Option Value} (H : HasT w news r a b c d t1 t2 t3 t4) (F : Fr h₀ L h m) (X : (hd.heap_39 w.params).In h₀) (N : News h₀ L h n2) (hs : ∀ p ∈ news, p ∈ n2) :
    IsTup h r #[.int a t1, .int b t2, .int c t3, .int d t4] := H h₀ h L m n2 F X N hs
end Mine

namespace Mine
open PySem.Challenge (rw_aa5009_01)
local macro_rules | `(tactic| walk_at "binaryOp LShift int int") => `(tactic| ((with_reducible refine r_lshift ?_ ?_); rotate_left; (try dsimp only)))
local macro_rules | `(tactic| walk_at "inplaceOp LShift int int") => `(tactic| ((with_reducible refine r_ilshift ?_ ?_); rotate_left; (try dsimp only)))
local macro_rules | `(tactic| walk_at "binaryOp RShift int int") => `(tactic| ((with_reducible refine r_rshift ?_ ?_); rotate_left; (try dsimp only)))
local macro_rules | `(tactic| walk_at "inplaceOp RShift int int") => `(tactic| ((with_reducible refine r_irshift ?_ ?_); rotate_left; (try dsimp only)))
local macro_rules | `(tactic| walk_at "binaryOp BitAnd int int") => `(tactic| ((with_reducible refine r_and ?_); (try dsimp only)))
local macro_rules | `(tactic| walk_at "binaryOp BitXor int int") => `(tactic| ((with_reducible refine r_xor ?_); (try dsimp only)))
local macro_rules | `(tactic| walk_at "inplaceOp BitXor int int") => `(tactic| ((with_reducible refine r_ixor ?_); (try dsimp only)))
local macro_rules | `(tactic| walk_at "binaryOp Mult int int") => `(tactic| ((with_reducible refine r_mul ?_ ?_); rotate_left; (try dsimp only)))
local macro_rules | `(tactic| walk_at "binaryOp FloorDiv int int") => `(tactic| ((with_reducible refine r_fdiv ?_ ?_); rotate_left; (try dsimp only)))
local macro_rules | `(tactic| walk_at "inplaceOp FloorDiv int int") => `(tactic| ((with_reducible refine r_ifdiv ?_ ?_); rotate_left; (try dsimp only)))
local macro_rules | `(tactic| walk_at "binaryOp Mod int int") => `(tactic| ((with_reducible refine r_mod ?_ ?_); rotate_left; (try dsimp only)))
local macro_rules | `(tactic| walk_at "binaryOp Pow int int") => `(tactic| ((with_reducible refine r_pow ?_ ?_); rotate_left; (try dsimp only)))
local macro_rules | `(tactic| walk_at "call builtin:int.bit_length") => `(tactic| ((with_reducible refine r_bits ?_); (try dsimp only)))
local macro_rules | `(tactic| walk_at "eval Call Name cons nil") => `(tactic| (k_dflt (refine Call_ ?_)))
local macro_rules | `(tactic| walk_at "call ref cons nil") => `(tactic| (k_dflt (refine' trailing_spec ?k1 ?k2 ?k3 ?k4 ?k5 ?k6 ?k7 ?_; (case k1 => k_asm); (case k2 => k_asm); (case k3 => k_asm); (case k4 => k_asm); (case k5 => k_asm); (case k6 => first | exact rfl | assumption); (case k7 => first | omega | ktr_room); (intro t9 h9 tk9 F9 N9; (try dsimp only); (try k_fold)))))
local macro_rules | `(tactic| walk_at "my sub") => `(tactic| (repeat (first | exact sub_refl | refine sub_cons ?_ | refine sub_app ?_)))
local macro_rules | `(tactic| walk_at "my has") => `(tactic| (refine Has.mono (by assumption) ?_; walk_at "my sub"))
local macro_rules | `(tactic| walk_at "my end") => `(tactic| first
  | ((rename RetT _ _ _ _ _ _ _ => hR'); first
      | (refine retNew hR' ?_ (by assumption) (by assumption) (by walk_at "my sub"))
      | (refine retZero hR' ?_ (by assumption) (by assumption) (by walk_at "my sub"))
      | (refine retT hR' ?_ (by assumption) (by assumption) (by walk_at "my has") (by walk_at "my sub")))
  | ((rename RetI _ _ _ _ _ _ _ => hR'); refine retI hR' ?_ (by assumption) (News.sub (by assumption) (by walk_at "my sub")))
  | ((rename RetP _ _ _ _ _ _ _ _ => hR'); refine retP hR' ?_ ?_ (by assumption) (by assumption) (by walk_at "my sub")))
local macro_rules | `(tactic| walk_at "my enter") => `(tactic| k_dflt (refine' code_def ?k1 ?k2 ?k3 ?k4 ?k5 ?kA ?kF ?kK ?k6 ?k7 ?k8 ?k9 ?kB ?_ ?c2 ?c3 ?c4 ?c5; (case kA => exact rfl); (case kF => exact rfl); (case kK => assumption); (case k1 => k_asm); (case k2 => k_asm); (case k3 => k_asm); (case k4 => k_asm); (case k5 => k_asm); (case k6 => k_is); (case k7 => k_is); (case k8 => first | omega | ktr_room); (case k9 => first | exact BindsTo.of_eq rfl | exact binds_K (by k_in) rfl (by k_is) rfl rfl rfl); (case c5 => decide); (case kB => exact locs rfl); (case c2 => exact rfl); (case c3 => exact rfl); (case c4 => exact rfl); k_whole; intro g' L' h' FG' F' N' B' X' T'; (try dsimp only); (try k_lift B'); (try k_fold)))
local macro_rules | `(tactic| walk_at "call ref cons nil") => `(tactic| (k_dflt (refine' normalize_spec ?k1 ?k2 ?k3 ?k4 ?k5 ?k6 ?k7 ?_ ?_; (case k1 => k_asm); (case k2 => k_asm); (case k3 => k_asm); (case k4 => k_asm); (case k5 => k_asm); (case k6 => first | exact rfl | assumption); (case k7 => first | omega | ktr_room); (rotate_left 1; intro r9 tl9 h9 tk9 F9 N9 H9; (try dsimp only); (try k_fold)))))
local macro_rules | `(tactic| walk_at "assign Tuple") => `(tactic| ((with_reducible show wpAny _ _ (assign (Expr.Tuple _ _ _) _ (Value.ref _)) _ _ _); k_dflt (refine' unpackN_ ?k1 ?k2 (hasT_tup ?kh ?kf ?kx ?kn ?ks) ?k4 ?k5 ?k6 ?_; (case kh => assumption); (case kf => k_asm); (case kn => k_asm); (case k1 => k_asm); (case k2 => k_asm); (case kx => k_asm); (case ks => walk_at "my sub"); (case k4 => exact rfl); (case k5 => exact rfl); (case k6 => exact rfl); k_whole); intro h' F' N'; (try k_sweep)))
local macro_rules | `(tactic| walk_at "storeName") => `(tactic| (k_dflt (refine' storeX_L ?F ?N ?_ ?a ?b; (case b => exact kind_dec (by decide +kernel)); (case F => k_asm); (case N => k_asm); (case a => rfl); k_whole; intro h' F' N'; (try k_sweep))))
local macro_rules | `(tactic| walk_at "spliced") => `(tactic| (k_dflt (first | refine spliced_more ?_ | (refine spliced_none ?_; (try dsimp only)))))
local macro_rules | `(tactic| walk_at "exec Assign") => `(tactic| ((with_reducible show wpAny _ _ (exec (Stmt.Assign [Expr.Name _ _] _ _) _) _ _ _); k_dflt (refine wpAny_Assign_Name ?_)))
local macro_rules | `(tactic| walk_at "isTrue") => `(tactic| (k_dflt (refine isTrue_plain ?_)))
local macro_rules | `(tactic| walk_at "eval Name") => `(tactic| (k_dflt (refine' nameX_K ?F ?X ?T ?e ?_ ?a ?b; (case b => exact kind_dec (by decide +kernel)); (case F => k_asm); (case X => k_asm); (case T => k_asm); (case a => rfl); (case e => k_is); k_whole)))
local macro_rules | `(tactic| walk_at "eval Name") => `(tactic| (k_dflt (refine' nameX_L ?F ?v ?_ ?a ?b; (case b => exact kind_dec (by decide +kernel)); (case F => k_asm); (case a => rfl); (case v => rfl); k_whole)))
section
variable {w : World} {dp un : Nat} {gd : Option (List Code)} {cn : Str} {cs : Scope} {a : Addr} {ccd : Value} {cl : List (Str × Addr)} {outer : List Env} {A₀ : Around} {base h₀ : Heap} {L : Addr} {m : Str → Option Value} {news : List (Addr × Obj)} {s : Shared} {Q E : Value → Shared → Prop} {p : Program} {loose : List Str} {mean : ExcName → Option Value} {mg mb : Str → Option Value}
variable (B : Below A₀ base outer h₀) (F : Fr h₀ L s.heap m) (X : (hd.heap_39 w.params).In h₀) (N : News h₀ L s.heap news) (T : Top p loose mean mg mb h₀) (hk : cs.kind = .function)
include B F X N T hk
theorem mpf_pos_spec (hd : dp + 4 < recursionLimit) {r : Addr} {x : Mf} {prec : Int} {t2 t3 : Tok} {way : Way} (hx : Has news r x) (hs : Side (Wf x ∧ 1 ≤ prec))
  (hret : RetT h₀ L m news s Q (normC x.s x.m x.e x.b prec way)) :
  wpAny (model rw_aa5009_01.row.prog w) (ktrTop dp un gd cn cs L a ccd cl outer) (call (.ref 94) [.ref r, .int prec t2, .str way.str t3]) Q E s := by
  revert X; k_fill; intro X
  obtain ⟨W, hs2⟩ := hs.out
  obtain ⟨x1, x2, x3, x4⟩ := x
  have w1 := W.s; have w2 := W.m; have w3 := W.b; have w4 := W.z; have w5 := W.sz; 
  dsimp only at hret w1 w2 w3 w4 w5
  obtain ⟨u1, u2, u3, u4, hx0⟩ := has_T w hx
  refine wpAny_call ?_
  walk_at "my enter"
  k_steps
  all_goals first
    | (exact Side.mk ⟨by assumption, by omega, by assumption, by assumption⟩)
    | (walk_at "my end"; rfl)
    | (exfalso; omega)
    | (exfalso; (have e := congrArg Mf.e (w4 (by assumption))); contradiction)
end
def negC (x : Mf) : Mf := if x.m = 0 then x else ⟨1 - x.s, x.m, x.e, x.b⟩
def absC (x : Mf) : Mf := if x.s = 0 then x else ⟨0, x.m, x.e, x.b⟩
end Mine

namespace Mine
local macro_rules | `(tactic| walk_at "pad 0") => `(tactic| skip)
open PySem.Challenge (rw_aa5009_01)
local macro_rules | `(tactic| walk_at "binaryOp LShift int int") => `(tactic| ((with_reducible refine r_lshift ?_ ?_); rotate_left; (try dsimp only)))
local macro_rules | `(tactic| walk_at "inplaceOp LShift int int") => `(tactic| ((with_reducible refine r_ilshift ?_ ?_); rotate_left; (try dsimp only)))
local macro_rules | `(tactic| walk_at "binaryOp RShift int int") => `(tactic| ((with_reducible refine r_rshift ?_ ?_); rotate_left; (try dsimp only)))
local macro_rules | `(tactic| walk_at "inplaceOp RShift int int") => `(tactic| ((with_reducible refine r_irshift ?_ ?_); rotate_left; (try dsimp only)))
local macro_rules | `(tactic| walk_at "binaryOp BitAnd int int") => `(tactic| ((with_reducible refine r_and ?_); (try dsimp only)))
local macro_rules | `(tactic| walk_at "binaryOp BitXor int int") => `(tactic| ((with_reducible refine r_xor ?_); (try dsimp only)))
local macro_rules | `(tactic| walk_at "inplaceOp BitXor int int") => `(tactic| ((with_reducible refine r_ixor ?_); (try dsimp only)))
local macro_rules | `(tactic| walk_at "binaryOp Mult int int") => `(tactic| ((with_reducible refine r_mul ?_ ?_); rotate_left; (try dsimp only)))
local macro_rules | `(tactic| walk_at "binaryOp FloorDiv int int") => `(tactic| ((with_reducible refine r_fdiv ?_ ?_); rotate_left; (try dsimp only)))
local macro_rules | `(tactic| walk_at "inplaceOp FloorDiv int int") => `(tactic| ((with_reducible refine r_ifdiv ?_ ?_); rotate_left; (try dsimp only)))
local macro_rules | `(tactic| walk_at "binaryOp Mod int int") => `(tactic| ((with_reducible refine r_mod ?_ ?_); rotate_left; (try dsimp only)))
local macro_rules | `(tactic| walk_at "binaryOp Pow int int") => `(tactic| ((with_reducible refine r_pow ?_ ?_); rotate_left; (try dsimp only)))
local macro_rules | `(tactic| walk_at "call builtin:int.bit_length") => `(tactic| ((with_reducible refine r_bits ?_); (try dsimp only)))
local macro_rules | `(tactic| walk_at "eval Call Name cons nil") => `(tactic| (k_dflt (refine Call_ ?_)))
local macro_rules | `(tactic| walk_at "call ref cons nil") => `(tactic| (k_dflt (refine' trailing_spec ?k1 ?k2 ?k3 ?k4 ?k5 ?k6 ?k7 ?_; (case k1 => k_asm); (case k2 => k_asm); (case k3 => k_asm); (case k4 => k_asm); (case k5 => k_asm); (case k6 => first | exact rfl | assumption); (case k7 => first | omega | ktr_room); (intro t9 h9 tk9 F9 N9; (try dsimp only); (try k_fold)))))
local macro_rules | `(tactic| walk_at "my sub") => `(tactic| (repeat (first | exact sub_refl | refine sub_cons ?_ | refine sub_app ?_)))
local macro_rules | `(tactic| walk_at "my has") => `(tactic| (refine Has.mono (by assumption) ?_; walk_at "my sub"))
local macro_rules | `(tactic| walk_at "my end") => `(tactic| first
  | ((rename RetT _ _ _ _ _ _ _ => hR'); first
      | (refine retNew hR' ?_ (by assumption) (by assumption) (by walk_at "my sub"))
      | (refine retZero hR' ?_ (by assumption) (by assumption) (by walk_at "my sub"))
      | (refine retT hR' ?_ (by assumption) (by assumption) (by walk_at "my has") (by walk_at "my sub")))
  | ((rename RetI _ _ _ _ _ _ _ => hR'); refine retI hR' ?_ (by assumption) (News.sub (by assumption) (by walk_at "my sub")))
  | ((rename RetP _ _ _ _ _ _ _ _ => hR'); refine retP hR' ?_ ?_ (by assumption) (by assumption) (by walk_at "my sub")))
local macro_rules | `(tactic| walk_at "my enter") => `(tactic| k_dflt (refine' code_def ?k1 ?k2 ?k3 ?k4 ?k5 ?kA ?kF ?kK ?k6 ?k7 ?k8 ?k9 ?kB ?_ ?c2 ?c3 ?c4 ?c5; (case kA => exact rfl); (case kF => exact rfl); (case kK => assumption); (case k1 => k_asm); (case k2 => k_asm); (case k3 => k_asm); (case k4 => k_asm); (case k5 => k_asm); (case k6 => k_is); (case k7 => k_is); (case k8 => first | omega | ktr_room); (case k9 => first | exact BindsTo.of_eq rfl | exact binds_K (by k_in) rfl (by k_is) rfl rfl rfl); (case c5 => decide); (case kB => exact locs rfl); (case c2 => exact rfl); (case c3 => exact rfl); (case c4 => exact rfl); k_whole; intro g' L' h' FG' F' N' B' X' T'; (try dsimp only); (try k_lift B'); (try k_fold)))
local macro_rules | `(tactic| walk_at "call ref cons nil") => `(tactic| (k_dflt (refine' normalize_spec ?k1 ?k2 ?k3 ?k4 ?k5 ?k6 ?k7 ?_ ?_; (case k1 => k_asm); (case k2 => k_asm); (case k3 => k_asm); (case k4 => k_asm); (case k5 => k_asm); (case k6 => first | exact rfl | assumption); (case k7 => first | omega | ktr_room); (rotate_left 1; intro r9 tl9 h9 tk9 F9 N9 H9; (try dsimp only); (try k_fold)))))
local macro_rules | `(tactic| walk_at "assign Tuple") => `(tactic| ((with_reducible show wpAny _ _ (assign (Expr.Tuple _ _ _) _ (Value.ref _)) _ _ _); k_dflt (refine' unpackN_ ?k1 ?k2 (hasT_tup ?kh ?kf ?kx ?kn ?ks) ?k4 ?k5 ?k6 ?_; (case kh => assumption); (case kf => k_asm); (case kn => k_asm); (case k1 => k_asm); (case k2 => k_asm); (case kx => k_asm); (case ks => walk_at "my sub"); (case k4 => exact rfl); (case k5 => exact rfl); (case k6 => exact rfl); k_whole); intro h' F' N'; (try k_sweep)))
local macro_rules | `(tactic| walk_at "storeName") => `(tactic| (k_dflt (refine' storeX_L ?F ?N ?_ ?a ?b; (case b => exact kind_dec (by decide +kernel)); (case F => k_asm); (case N => k_asm); (case a => rfl); k_whole; intro h' F' N'; (try k_sweep))))
local macro_rules | `(tactic| walk_at "spliced") => `(tactic| (k_dflt (first | refine spliced_more ?_ | (refine spliced_none ?_; (try dsimp only)))))
local macro_rules | `(tactic| walk_at "exec Assign") => `(tactic| ((with_reducible show wpAny _ _ (exec (Stmt.Assign [Expr.Name _ _] _ _) _) _ _ _); k_dflt (refine wpAny_Assign_Name ?_)))
local macro_rules | `(tactic| walk_at "isTrue") => `(tactic| (k_dflt (refine isTrue_plain ?_)))
local macro_rules | `(tactic| walk_at "eval Name") => `(tactic| (k_dflt (refine' nameX_K ?F ?X ?T ?e ?_ ?a ?b; (case b => exact kind_dec (by decide +kernel)); (case F => k_asm); (case X => k_asm); (case T => k_asm); (case a => rfl); (case e => k_is); k_whole)))
local macro_rules | `(tactic| walk_at "eval Name") => `(tactic| (k_dflt (refine' nameX_L ?F ?v ?_ ?a ?b; (case b => exact kind_dec (by decide +kernel)); (case F => k_asm); (case a => rfl); (case v => rfl); k_whole)))
section
variable {w : World} {dp un : Nat} {gd : Option (List Code)} {cn : Str} {cs : Scope} {a : Addr} {ccd : Value} {cl : List (Str × Addr)} {outer : List Env} {A₀ : Around} {base h₀ : Heap} {L : Addr} {m : Str → Option Value} {news : List (Addr × Obj)} {s : Shared} {Q E : Value → Shared → Prop} {p : Program} {loose : List Str} {mean : ExcName → Option Value} {mg mb : Str → Option Value}
variable (B : Below A₀ base outer h₀) (F : Fr h₀ L s.heap m) (X : (hd.heap_39 w.params).In h₀) (N : News h₀ L s.heap news) (T : Top p loose mean mg mb h₀) (hk : cs.kind = .function)
include B F X N T hk
theorem mpf_neg_spec (hd : dp + 4 < recursionLimit) {r : Addr} {x : Mf} (hx : Has news r x) (hs : Side (Wf x))
  (hret : RetT h₀ L m news s Q (negC x)) :
  wpAny (model rw_aa5009_01.row.prog w) (ktrTop dp un gd cn cs L a ccd cl outer) (call (.ref 102) [.ref r]) Q E s := by
  revert X; k_fill; intro X
  have W := hs.out
  have hx' := hx
  obtain ⟨x1, x2, x3, x4⟩ := x
  have w4 := W.z
  obtain ⟨u1, u2, u3, u4, hx0⟩ := has_T w hx
  refine wpAny_call ?_
  walk_at "my enter"
  k_steps
  all_goals first
    | (exfalso; (have e := congrArg Mf.e (w4 (by assumption))); contradiction)
    | (walk_at "my end"; dsimp only [negC]; (repeat' (first | contradiction | (with_reducible rfl) | split)); done)
end
section
variable {w : World} {dp un : Nat} {gd : Option (List Code)} {cn : Str} {cs : Scope} {a : Addr} {ccd : Value} {cl : List (Str × Addr)} {outer : List Env} {A₀ : Around} {base h₀ : Heap} {L : Addr} {m : Str → Option Value} {news : List (Addr × Obj)} {s : Shared} {Q E : Value → Shared → Prop} {p : Program} {loose : List Str} {mean : ExcName → Option Value} {mg mb : Str → Option Value}
variable (B : Below A₀ base outer h₀) (F : Fr h₀ L s.heap m) (X : (hd.heap_39 w.params).In h₀) (N : News h₀ L s.heap news) (T : Top p loose mean mg mb h₀) (hk : cs.kind = .function)
include B F X N T hk
theorem mpf_abs_spec (hd : dp + 4 < recursionLimit) {r : Addr} {x : Mf} (hx : Has news r x) (hs : Side (Wf x))
  (hret : RetT h₀ L m news s Q (absC x)) :
  wpAny (model rw_aa5009_01.row.prog w) (ktrTop dp un gd cn cs L a ccd cl outer) (call (.ref 110) [.ref r]) Q E s := by
  revert X; k_fill; intro X
  have W := hs.out
  have hx' := hx
  obtain ⟨x1, x2, x3, x4⟩ := x
  have w4 := W.z
  obtain ⟨u1, u2, u3, u4, hx0⟩ := has_T w hx
  refine wpAny_call ?_
  walk_at "my enter"
  k_steps
  all_goals first
    | (exfalso; (have e := congrArg Mf.e (w4 (by assumption))); contradiction)
    | (walk_at "my end"; dsimp only [absC]; (repeat' (first | contradiction | (with_reducible rfl) | split)); done)
end
def sgC (v e prec : Int) (way : Way) : Mf := if 0 ≤ v then normC 0 v e (bits v) prec way else normC 1 (-v) e (bits (-v)) prec way
def cmbC (ss ts c sum d1 d2 e prec : Int) (way : Way) : Mf :=
  if ss = ts then normC ss sum e (bits sum) prec way else if c = 0 then sgC d2 e prec way else sgC d1 e prec way
def stkC (ss ts sm e prec : Int) (way : Way) : Mf :=
  if ts = ss then normC ss (shl sm (prec + 4) + 1) (e - (prec + 4)) (bits (shl sm (prec + 4) + 1)) prec way
  else normC ss (shl sm (prec + 4) - 1) (e - (prec + 4)) (bits (shl sm (prec + 4) - 1)) prec way
/-- the sum of two numbers, the second one's sign being ts -/
def addC (x y : Mf) (ts prec : Int) (way : Way) : Mf :=
  if x.m = 0 then normC ts y.m y.e y.b prec way
  else if y.m = 0 then normC x.s x.m x.e x.b prec way
  else if x.e - y.e = 0 then cmbC x.s ts x.s (y.m + x.m) (y.m - x.m) (x.m - y.m) y.e prec way
  else if 0 < x.e - y.e then
    (if 100 < x.e - y.e ∧ prec + 4 < x.b + x.e - y.b - y.e then stkC x.s ts x.m x.e prec way
     else cmbC x.s ts x.s (y.m + shl x.m (x.e - y.e)) (y.m - shl x.m (x.e - y.e)) (shl x.m (x.e - y.e) - y.m) y.e prec way)
  else
    (if x.e - y.e < -100 ∧ prec + 4 < y.b + y.e - x.b - x.e then stkC ts x.s y.m y.e prec way
     else cmbC x.s ts ts (x.m + shl y.m (-(x.e - y.e))) (x.m - shl y.m (-(x.e - y.e))) (shl y.m (-(x.e - y.e)) - x.m) x.e prec way)
def mulC (x y : Mf) (prec : Int) (way : Way) : Mf :=
  if mul x.m y.m = 0 then ⟨0, 0, 0, 0⟩ else normC (bxor x.s y.s) (mul x.m y.m) (x.e + y.e) (bits (mul x.m y.m)) prec way
/-- the extra bits of a quotient -/
def extC (x y : Mf) (prec : Int) : Int := if prec - x.b + y.b + 5 < 5 then 5 else prec - x.b + y.b + 5
def divC (x y : Mf) (prec : Int) (way : Way) : Mf :=
  if x.m = 0 then ⟨0, 0, 0, 0⟩
  else if y.m = 1 then normC (bxor x.s y.s) x.m (x.e - y.e) x.b prec way
  else if fmd (shl x.m (extC x y prec)) y.m = 0 then
    normC (bxor x.s y.s) (fdv (shl x.m (extC x y prec)) y.m) (x.e - y.e - extC x y prec) (bits (fdv (shl x.m (extC x y prec)) y.m)) prec way
  else
    normC (bxor x.s y.s) (shl (fdv (shl x.m (extC x y prec)) y.m) 1 + 1) (x.e - y.e - (extC x y prec + 1)) (bits (shl (fdv (shl x.m (extC x y prec)) y.m) 1 + 1)) prec way
def wayFD : Way → Bool
  | .f => true
  | .d => true
  | _ => false
@[irreducible] def mxF (a b : Int) : Int := if b > a then b else a
def shfC (bc prec : Int) : Int := mxF 4 (mul 2 prec - bc + 4)
def rootC (man exp bc prec sh : Int) (way : Way) : Mf :=
  if wayFD way = true then normC 0 (isqF (shl man sh)) (fdv (exp - sh) 2) (bits (isqF (shl man sh))) prec way
  else if shl man sh - mul (isqF (shl man sh)) (isqF (shl man sh)) = 0 then normC 0 (isqF (shl man sh)) (fdv (exp - sh) 2) (bits (isqF (shl man sh))) prec way
  else normC 0 (shl (isqF (shl man sh)) 1 + 1) (fdv (exp - (sh + 2)) 2) (bits (shl (isqF (shl man sh)) 1 + 1)) prec way
def sqrtC (x : Mf) (prec : Int) (way : Way) : Mf :=
  if x.m = 0 then x
  else if band x.e 1 = 0 then
    (if x.m = 1 then normC 0 x.m (fdv x.e 2) x.b prec way
     else rootC x.m x.e x.b prec (shfC x.b prec + band (shfC x.b prec) 1) way)
  else rootC (shl x.m 1) (x.e - 1) (x.b + 1) prec (shfC (x.b + 1) prec + band (shfC (x.b + 1) prec) 1) way
theorem bxor01 {a b : Int} (ha : a = 0 ∨ a = 1) (hb : b = 0 ∨ b = 1) : bxor a b = 0 ∨ bxor a b = 1 := by
  unfold bxor
  rcases ha with rfl | rfl <;> rcases hb with rfl | rfl <;> decide
theorem bxor_0 {a : Int} (ha : a = 0 ∨ a = 1) : bxor a 0 = a := by
  unfold bxor
  rcases ha with rfl | rfl <;> decide
theorem bxor_1 {a : Int} (ha : a = 0 ∨ a = 1) : bxor a 1 = 1 - a := by
  unfold bxor
  rcases ha with rfl | rfl <;> decide
theorem mul_zero' {a b : Int} (h : mul a b = 0) : a = 0 ∨ b = 0 := by rw [mul_eq] at h; exact Int.mul_eq_zero.mp h
theorem bd_mul {a b j k : Int} (ha : bits a ≤ j) (hb : bits b ≤ k) : bits (mul a b) ≤ j + k := by rw [mul_eq]; have := bits_mul_le a b; omega
theorem bd_shl {a n k : Int} (h : 0 ≤ n) (ha : bits a ≤ k) : bits (shl a n) ≤ k + n := by have := bits_shl (a := a) h; omega
theorem shl_nonneg {a : Int} (n : Int) (h : 0 ≤ a) : 0 ≤ shl a n := by rw [shl_eq]; exact Int.mul_nonneg h (Int.le_of_lt (kbt_pos _))
theorem mul_nonneg' {a b : Int} (ha : 0 ≤ a) (hb : 0 ≤ b) : 0 ≤ mul a b := by rw [mul_eq]; exact Int.mul_nonneg ha hb
theorem extC_lo {x y : Mf} {prec : Int} (h : prec - x.b + y.b + 5 < 5) : extC x y prec = 5 := by unfold extC; rw [if_pos h]
theorem extC_hi {x y : Mf} {prec : Int} (h : ¬ prec - x.b + y.b + 5 < 5) : extC x y prec = prec - x.b + y.b + 5 := by unfold extC; rw [if_neg h]
theorem mxF_le (a b k : Int) (h1 : a ≤ k) (h2 : b ≤ k) : mxF a b ≤ k := by unfold mxF; split <;> omega
theorem le_mxF (a b : Int) : a ≤ mxF a b ∧ b ≤ mxF a b := by unfold mxF; split <;> omega
theorem band_one (a : Int) : band a 1 = a % 2 := by
  unfold band
  have := kbt_mask a 1
  simpa using this
section
variable {prog : Program} {w : World} {A : Around} {E : Value → Shared → Prop} {s : Shared} {h₀ : Heap} {L : Addr} {m : Str → Option Value} {news : List (Addr × Obj)} {Q : Value → Shared → Prop} {a b : Int} {t u : Tok}
theorem r_max (hh : A.handled = none) (F : Fr h₀ L s.heap m) (N : News h₀ L s.heap news)
    (h : ∀ tt h' tk, Fr h₀ L h' m → News h₀ L h' news → Q (.int (mxF a b) tt) { s with heap := h', toks := tk }) :
    wpAny (model prog w) A (call (.builtin "max") [.int a t, .int b u]) Q E s :=
  max_two_N hh F N fun h' tk F' N' => by have := h (if b > a then u else t) h' tk F' N'; unfold mxF at this; exact this
theorem in_fd_yes {way : Way} (hw : wayFD way = true) (h : Q (.bool true) s) : wpAny (model prog w) A (compareOp .In (.str way.str t) (.str (Str.ofString "fd") u)) Q E s := by
  refine in_str ?_
  have e : (!(Builtin.Str.occurrences (Str.ofString "fd") way.str 0 (Str.ofString "fd").length 1).isEmpty) = true := by cases way <;> first | (cases hw; done) | decide +kernel
  rw [e]; exact h
theorem in_fd_no {way : Way} (hw : wayFD way = false) (h : Q (.bool false) s) : wpAny (model prog w) A (compareOp .In (.str way.str t) (.str (Str.ofString "fd") u)) Q E s := by
  refine in_str ?_
  have e : (!(Builtin.Str.occurrences (Str.ofString "fd") way.str 0 (Str.ofString "fd").length 1).isEmpty) = false := by cases way <;> first | (cases hw; done) | decide +kernel
  rw [e]; exact h
end
end Mine

namespace Mine
open PySem.Challenge (rw_aa5009_01)
def Mf.data (x : Mf) : PyData := .tuple ([x.s, x.m, x.e, x.b].map PyData.int)
abbrev Mf.same (x y : Mf) : Prop := x.s = y.s ∧ x.m = y.m ∧ x.e = y.e ∧ x.b = y.b
theorem Mf.same_iff {x y : Mf} : x.same y ↔ x = y := by
  obtain ⟨a, b, c, d⟩ := x
  obtain ⟨a', b', c', d'⟩ := y
  simp [Mf.same]
theorem mf_shaped (x : Mf) : SeqAt.shaped x.data = true := by
  simp [Mf.data, SeqAt.shaped, PyData.canLay0, PyData.canLayAll0, PyData.depth, PyData.depthAll]
theorem mf_noMix (x y : Mf) : SeqAt.noMix x.data y.data = true := by simp [Mf.data, SeqAt.noMix, SeqAt.noMixAll]
theorem mf_same (x y : Mf) : PySem.Spec.same x.data y.data = decide (x.same y) := by
  have h : PySem.Spec.same x.data y.data = (x.s == y.s && (x.m == y.m && (x.e == y.e && x.b == y.b))) := by simp [Mf.data, PySem.Spec.same, PySem.Spec.sameAll]
  rw [h, Bool.eq_iff_iff]
  simp [Mf.same]
/-- the heap bears the number at r -/
def ReadsM (h : Heap) (r : Addr) (x : Mf) : Prop := ∃ as, Reads h (.ref r) x.data as
theorem readsM_of {h : Heap} {r : Addr} {x : Mf} {t1 t2 t3 t4 : Tok} {c : Nat} (hg : h.get? r = some (tupO x t1 t2 t3 t4 c)) : ReadsM h r x :=
  ⟨_, reads_tuple_at hg rfl rfl (.cons (.int ..) (.cons (.int ..) (.cons (.int ..) (.cons (.int ..) .nil))))⟩
section
variable {w : World} {s : Shared} {h₀ : Heap} {L : Addr} {m : Str → Option Value} {news n2 : List (Addr × Obj)} {A : Around} {Q E : Value → Shared → Prop} {r1 r2 : Addr} {x y : Mf} {prog : Program}
theorem has_reads (F : Fr h₀ L s.heap m) (X : (hd.heap_39 w.params).In h₀) (N : News h₀ L s.heap n2) (hs : ∀ p ∈ news, p ∈ n2) (H : Has news r1 x) : ReadsM s.heap r1 x := by
  rcases H with ⟨t1, t2, t3, t4, c, h⟩ | ⟨rfl, rfl⟩
  · exact readsM_of (N _ (hs _ h)).1
  · have h0 : PySem.Spec.same (Mf.data ⟨0, 0, 0, 0⟩) (Mf.data ⟨0, 0, 0, 0⟩) = true := by decide
    exact ⟨_, reads_tuple_at ((X.keeps F.keep) 56 _ rfl) rfl rfl (.cons (.int ..) (.cons (.int ..) (.cons (.int ..) (.cons (.int ..) .nil))))⟩
theorem nan_reads (F : Fr h₀ L s.heap m) (X : (hd.heap_39 w.params).In h₀) : ReadsM s.heap 57 ⟨0, 0, -123, -1⟩ :=
  ⟨_, reads_tuple_at ((X.keeps F.keep) 57 _ rfl) rfl rfl (.cons (.int ..) (.cons (.int ..) (.cons (.int ..) (.cons (.int ..) .nil))))⟩
theorem r_eq (h1 : ReadsM s.heap r1 x) (h2 : ReadsM s.heap r2 y) (hu : A.units + 64 < cLine) (h : Q (.bool (decide (x.same y))) s) : wpAny (model prog w) A (compareOp .Eq (.ref r1) (.ref r2)) Q E s := by
  obtain ⟨as, h1⟩ := h1
  obtain ⟨bs, h2⟩ := h2
  exact eq_dataH_same h1 h2 (mf_shaped x) (mf_shaped y) hu (mf_noMix x y) (by rw [mf_same]; exact h)
theorem r_ne (h1 : ReadsM s.heap r1 x) (h2 : ReadsM s.heap r2 y) (hu : A.units + 64 < cLine) (h : Q (.bool (!decide (x.same y))) s) : wpAny (model prog w) A (compareOp .NotEq (.ref r1) (.ref r2)) Q E s := by
  obtain ⟨as, h1⟩ := h1
  obtain ⟨bs, h2⟩ := h2
  exact ne_dataH_same h1 h2 (mf_shaped x) (mf_shaped y) hu (mf_noMix x y) (by rw [mf_same]; exact h)
theorem r_eq_no (h1 : ReadsM s.heap r1 x) (h2 : ReadsM s.heap r2 y) (hu : A.units + 64 < cLine) (hn : ¬ x.same y) (h : Q (.bool false) s) : wpAny (model prog w) A (compareOp .Eq (.ref r1) (.ref r2)) Q E s :=
  r_eq h1 h2 hu (by rw [decide_eq_false hn]; exact h)
theorem r_eq_yes {P : Prop} (h1 : ReadsM s.heap r1 x) (h2 : ReadsM s.heap r2 y) (hu : A.units + 64 < cLine) (hn : P → x.same y) (hp : P) (h : Q (.bool true) s) : wpAny (model prog w) A (compareOp .Eq (.ref r1) (.ref r2)) Q E s :=
  r_eq h1 h2 hu (by rw [decide_eq_true (hn hp)]; exact h)
end
end Mine

namespace Mine
open PySem.Challenge (rw_aa5009_01)
local macro_rules | `(tactic| walk_at "binaryOp LShift int int") => `(tactic| ((with_reducible refine r_lshift ?_ ?_); rotate_left; (try dsimp only)))
local macro_rules | `(tactic| walk_at "inplaceOp LShift int int") => `(tactic| ((with_reducible refine r_ilshift ?_ ?_); rotate_left; (try dsimp only)))
local macro_rules | `(tactic| walk_at "binaryOp RShift int int") => `(tactic| ((with_reducible refine r_rshift ?_ ?_); rotate_left; (try dsimp only)))
local macro_rules | `(tactic| walk_at "inplaceOp RShift int int") => `(tactic| ((with_reducible refine r_irshift ?_ ?_); rotate_left; (try dsimp only)))
local macro_rules | `(tactic| walk_at "binaryOp BitAnd int int") => `(tactic| ((with_reducible refine r_and ?_); (try dsimp only)))
local macro_rules | `(tactic| walk_at "binaryOp BitXor int int") => `(tactic| ((with_reducible refine r_xor ?_); (try dsimp only)))
local macro_rules | `(tactic| walk_at "inplaceOp BitXor int int") => `(tactic| ((with_reducible refine r_ixor ?_); (try dsimp only)))
local macro_rules | `(tactic| walk_at "binaryOp Mult int int") => `(tactic| ((with_reducible refine r_mul ?_ ?_); rotate_left; (try dsimp only)))
local macro_rules | `(tactic| walk_at "binaryOp FloorDiv int int") => `(tactic| ((with_reducible refine r_fdiv ?_ ?_); rotate_left; (try dsimp only)))
local macro_rules | `(tactic| walk_at "inplaceOp FloorDiv int int") => `(tactic| ((with_reducible refine r_ifdiv ?_ ?_); rotate_left; (try dsimp only)))
local macro_rules | `(tactic| walk_at "binaryOp Mod int int") => `(tactic| ((with_reducible refine r_mod ?_ ?_); rotate_left; (try dsimp only)))
local macro_rules | `(tactic| walk_at "binaryOp Pow int int") => `(tactic| ((with_reducible refine r_pow ?_ ?_); rotate_left; (try dsimp only)))
local macro_rules | `(tactic| walk_at "call builtin:int.bit_length") => `(tactic| ((with_reducible refine r_bits ?_); (try dsimp only)))
local macro_rules | `(tactic| walk_at "eval Call Name cons nil") => `(tactic| (k_dflt (refine Call_ ?_)))
local macro_rules | `(tactic| walk_at "call ref cons nil") => `(tactic| (k_dflt (refine' trailing_spec ?k1 ?k2 ?k3 ?k4 ?k5 ?k6 ?k7 ?_; (case k1 => k_asm); (case k2 => k_asm); (case k3 => k_asm); (case k4 => k_asm); (case k5 => k_asm); (case k6 => first | exact rfl | assumption); (case k7 => first | omega | ktr_room); (intro t9 h9 tk9 F9 N9; (try dsimp only); (try k_fold)))))
local macro_rules | `(tactic| walk_at "my sub") => `(tactic| (repeat (first | exact sub_refl | refine sub_cons ?_ | refine sub_app ?_)))
local macro_rules | `(tactic| walk_at "my has") => `(tactic| (refine Has.mono (by assumption) ?_; walk_at "my sub"))
local macro_rules | `(tactic| walk_at "my end") => `(tactic| first
  | ((rename RetT _ _ _ _ _ _ _ => hR'); first
      | (refine retNew hR' ?_ (by assumption) (by assumption) (by walk_at "my sub"))
      | (refine retZero hR' ?_ (by assumption) (by assumption) (by walk_at "my sub"))
      | (refine retT hR' ?_ (by assumption) (by assumption) (by walk_at "my has") (by walk_at "my sub")))
  | ((rename RetI _ _ _ _ _ _ _ => hR'); refine retI hR' ?_ (by assumption) (News.sub (by assumption) (by walk_at "my sub")))
  | ((rename RetP _ _ _ _ _ _ _ _ => hR'); refine retP hR' ?_ ?_ (by assumption) (by assumption) (by walk_at "my sub")))
local macro_rules | `(tactic| walk_at "my enter") => `(tactic| k_dflt (refine' code_def ?k1 ?k2 ?k3 ?k4 ?k5 ?kA ?kF ?kK ?k6 ?k7 ?k8 ?k9 ?kB ?_ ?c2 ?c3 ?c4 ?c5; (case kA => exact rfl); (case kF => exact rfl); (case kK => assumption); (case k1 => k_asm); (case k2 => k_asm); (case k3 => k_asm); (case k4 => k_asm); (case k5 => k_asm); (case k6 => k_is); (case k7 => k_is); (case k8 => first | omega | ktr_room); (case k9 => first | exact BindsTo.of_eq rfl | exact binds_K (by k_in) rfl (by k_is) rfl rfl rfl); (case c5 => decide); (case kB => exact locs rfl); (case c2 => exact rfl); (case c3 => exact rfl); (case c4 => exact rfl); k_whole; intro g' L' h' FG' F' N' B' X' T'; (try dsimp only); (try k_lift B'); (try k_fold)))
local macro_rules | `(tactic| walk_at "subscriptTail Name Name ref str") => `(tactic| (k_dflt (refine shifts_get (by assumption) (by assumption) (by assumption) ?_)))
local macro_rules | `(tactic| walk_at "subscriptTail Subscript Name Name Name ref int") => `(tactic| (k_dflt (refine shifts_item (by assumption) (by assumption) (by assumption) (by assumption) ?_); intro tk9))
local macro_rules | `(tactic| walk_at "compareOp Eq str str") => `(tactic| (refine eq_way (by assumption) ?_))
local macro_rules | `(tactic| walk_at "call builtin:divmod") => `(tactic| (k_dflt (refine' r_divmod ?k1 ?k2 ?_ ?_; (case k1 => k_asm); (case k2 => k_asm)); (rotate_left 1; intro r9 h9 F9 N9; (try dsimp only))))
local macro_rules | `(tactic| walk_at "my units") => `(tactic| first | ((try simp only [units_deeper]); (try dsimp only [ktrTop]); omega) | decide | (exact Nat.le_of_ble_eq_true rfl) | ((try simp only [units_deeper, units_caller, cLine]); omega))
local macro_rules | `(tactic| walk_at "my reads") => `(tactic| first
  | (refine' nan_reads ?f ?x; (case f => k_asm); (case x => k_asm); done)
  | (refine' has_reads ?f ?x ?n ?s (Or.inr ⟨rfl, rfl⟩); (case f => k_asm); (case x => k_asm); (case n => k_asm); (case s => exact sub_refl); done)
  | (refine' has_reads ?f ?x ?n ?s ?h; (case h => assumption); (case f => k_asm); (case x => k_asm); (case n => k_asm); (case s => walk_at "my sub"); done)
  | (refine' readsM_of (x := ⟨_, _, _, _⟩) (News.get ?n ?m); (case n => k_asm); (case m => k_mem)))
local macro_rules | `(tactic| walk_at "compareOp Eq ref ref") => `(tactic| (k_dflt (refine' r_eq ?ra ?rb ?ru ?_; (case ra => walk_at "my reads"); (case rb => walk_at "my reads"); (case ru => walk_at "my units")); (try dsimp only)))
local macro_rules | `(tactic| walk_at "compareOp NotEq ref ref") => `(tactic| (k_dflt (refine' r_ne ?ra ?rb ?ru ?_; (case ra => walk_at "my reads"); (case rb => walk_at "my reads"); (case ru => walk_at "my units")); (try dsimp only)))
local macro_rules | `(tactic| walk_at "compareOp Eq ref ref") => `(tactic| (k_dflt (first
  | (refine' r_eq_no ?ra ?rb ?ru ?rn ?_; (case ra => walk_at "my reads"); (case rb => walk_at "my reads"); (case ru => walk_at "my units"); (case rn => assumption))
  | (refine' r_eq_yes ?ra ?rb ?ru ?rn ?rp ?_; (case ra => walk_at "my reads"); (case rb => walk_at "my reads"); (case ru => walk_at "my units"); (case rn => assumption); (case rp => first | exact True.intro | assumption)))))
local macro_rules | `(tactic| walk_at "call ref cons nil") => `(tactic| (k_dflt (refine' normalize_spec ?k1 ?k2 ?k3 ?k4 ?k5 ?k6 ?k7 ?_ ?_; (case k1 => k_asm); (case k2 => k_asm); (case k3 => k_asm); (case k4 => k_asm); (case k5 => k_asm); (case k6 => first | exact rfl | assumption); (case k7 => first | omega | ktr_room); (rotate_left 1; intro r9 tl9 h9 tk9 F9 N9 H9; (try dsimp only); (try k_fold)))))
local macro_rules | `(tactic| walk_at "assign Tuple") => `(tactic| ((with_reducible show wpAny _ _ (assign (Expr.Tuple _ _ _) _ (Value.ref _)) _ _ _); k_dflt (refine' unpackN_ ?k1 ?k2 (hasT_tup ?kh ?kf ?kx ?kn ?ks) ?k4 ?k5 ?k6 ?_; (case kh => assumption); (case kf => k_asm); (case kn => k_asm); (case k1 => k_asm); (case k2 => k_asm); (case kx => k_asm); (case ks => walk_at "my sub"); (case k4 => exact rfl); (case k5 => exact rfl); (case k6 => exact rfl); k_whole); intro h' F' N'; (try k_sweep)))
local macro_rules | `(tactic| walk_at "storeName") => `(tactic| (k_dflt (refine' storeX_L ?F ?N ?_ ?a ?b; (case b => exact kind_dec (by decide +kernel)); (case F => k_asm); (case N => k_asm); (case a => rfl); k_whole; intro h' F' N'; (try k_sweep))))
local macro_rules | `(tactic| walk_at "spliced") => `(tactic| (k_dflt (first | refine spliced_more ?_ | (refine spliced_none ?_; (try dsimp only)))))
local macro_rules | `(tactic| walk_at "exec Assign") => `(tactic| ((with_reducible show wpAny _ _ (exec (Stmt.Assign [Expr.Name _ _] _ _) _) _ _ _); k_dflt (refine wpAny_Assign_Name ?_)))
local macro_rules | `(tactic| walk_at "isTrue") => `(tactic| (k_dflt (refine isTrue_plain ?_)))
local macro_rules | `(tactic| walk_at "eval Name") => `(tactic| (k_dflt (refine' nameX_K ?F ?X ?T ?e ?_ ?a ?b; (case b => exact kind_dec (by decide +kernel)); (case F => k_asm); (case X => k_asm); (case T => k_asm); (case a => rfl); (case e => k_is); k_whole)))
local macro_rules | `(tactic| walk_at "eval Name") => `(tactic| (k_dflt (refine' nameX_L ?F ?v ?_ ?a ?b; (case b => exact kind_dec (by decide +kernel)); (case F => k_asm); (case a => rfl); (case v => rfl); k_whole)))
section
variable {w : World} {dp un : Nat} {gd : Option (List Code)} {cn : Str} {cs : Scope} {a : Addr} {ccd : Value} {cl : List (Str × Addr)} {outer : List Env} {A₀ : Around} {base h₀ : Heap} {L : Addr} {m : Str → Option Value} {news : List (Addr × Obj)} {s : Shared} {Q E : Value → Shared → Prop} {p : Program} {loose : List Str} {mean : ExcName → Option Value} {mg mb : Str → Option Value}
variable (B : Below A₀ base outer h₀) (F : Fr h₀ L s.heap m) (X : (hd.heap_39 w.params).In h₀) (N : News h₀ L s.heap news) (T : Top p loose mean mg mb h₀) (hk : cs.kind = .function)
include B F X N T hk
theorem mpf_mul_spec (hd : dp + 4 < recursionLimit) {r1 r2 : Addr} {x y : Mf} {prec : Int} {t3 t4 : Tok} {way : Way} (hx : Has news r1 x) (hy : Has news r2 y) (hs : Side (Wf x ∧ Wf y ∧ 1 ≤ prec ∧ way = way))
  (hret : RetT h₀ L m news s Q (mulC x y prec way)) :
  wpAny (model rw_aa5009_01.row.prog w) (ktrTop dp un gd cn cs L a ccd cl outer) (call (.ref 141) [.ref r1, .ref r2, .int prec t3, .str way.str t4]) Q E s := by
  revert X; k_fill; intro X
  obtain ⟨W, V, hs2, _⟩ := hs.out
  obtain ⟨x1, x2, x3, x4⟩ := x
  obtain ⟨y1, y2, y3, y4⟩ := y
  have w1 := W.s; have w2 := W.m; have w3 := W.b; have w4 := W.z; have w5 := W.sz
  have v1 := V.s; have v2 := V.m; have v3 := V.b; have v4 := V.z; have v5 := V.sz
  dsimp only at hret w1 w2 w3 w4 w5 v1 v2 v3 v4 v5
  have b1 := bd_mul (a := x2) (b := y2) (j := 5000) (k := 5000) (by omega) (by omega)
  have b2 := bxor01 w1 v1
  have b3 := mul_nonneg' w2 v2
  have e0 : mul x2 0 = 0 := by rw [mul_eq, Int.mul_zero]
  have e1 : mul 0 y2 = 0 := by rw [mul_eq, Int.zero_mul]
  obtain ⟨u1, u2, u3, u4, hx0⟩ := has_T w hx
  obtain ⟨q1, q2, q3, q4, hy0⟩ := has_T w hy
  refine wpAny_call ?_
  walk_at "my enter"
  k_steps
  all_goals first
    | (exact Side.mk (by omega))
    | (exfalso; omega)
    | (exfalso; (have e := congrArg Mf.e (w4 (by assumption))); contradiction)
    | (exfalso; (have e := congrArg Mf.e (v4 (by assumption))); contradiction)
    | (walk_at "my end"; dsimp only [mulC]; (repeat' (first | contradiction | (with_reducible rfl) | split)); done)
    | skip
end
theorem bd_sum {a b : Int} (ha : bits a ≤ 46000) (hb : bits b ≤ 46000) : bits (a + b) ≤ 46001 ∧ bits (a - b) ≤ 46001 ∧ bits (-(a - b)) ≤ 46001 ∧ bits (b - a) ≤ 46001 ∧ bits (-(b - a)) ≤ 46001 := by
  have h1 := bits_add_le a b
  have h2 := bits_add_le a (-b)
  have h3 := bits_neg b
  have h4 := bits_neg (a - b)
  have h5 := bits_neg (b - a)
  have e1 : a + -b = a - b := by omega
  have e2 : -(b - a) = a - b := by omega
  rw [e1] at h2
  rw [e2] at h5 ⊢
  omega
theorem shl_pos {a : Int} (n : Int) (h : 0 < a) : 0 < shl a n := by rw [shl_eq]; exact Int.mul_pos h (kbt_pos _)
end Mine

namespace Mine
open PySem.Challenge (rw_aa5009_01)
theorem ofs_eq (a b : String) : (Str.ofString a = Str.ofString b) = (a = b) := by
  refine propext ⟨fun h => ?_, fun h => by rw [h]⟩
  rw [Str.ofString_eq_toList, Str.ofString_eq_toList] at h
  have h1 : (a.toList.map Char.toNat).toArray = (b.toList.map Char.toNat).toArray := Str.mk.inj h
  have h2 : a.toList.map Char.toNat = b.toList.map Char.toNat := by simpa using congrArg Array.toList h1
  have h3 : a.toList = b.toList := by
    have inj : ∀ l1 l2 : List Char, l1.map Char.toNat = l2.map Char.toNat → l1 = l2 := by
      intro l1
      induction l1 with
      | nil => intro l2 h; cases l2 with | nil => rfl | cons _ _ => cases h
      | cons c r ih =>
        intro l2 h
        cases l2 with
        | nil => cases h
        | cons c2 r2 =>
          simp only [List.map_cons, List.cons.injEq] at h
          have e : c = c2 := Char.ext (UInt32.toNat.inj h.1)
          rw [e, ih r2 h.2]
    exact inj _ _ h2
  exact String.toList_injective h3
theorem ofs_beq (a b : String) : (Str.ofString a == Str.ofString b) = (a == b) := by
  rw [Bool.eq_iff_iff]
  simp only [beq_iff_eq, ofs_eq]
section
variable {prog : Program} {w : World} {A : Around} {E : Value → Shared → Prop} {s : Shared} {a : Int} {t : Tok} {Q : Bool → Shared → Prop}
theorem truthy_ne (ha : a ≠ 0) (h : Q true s) : wpAny (model prog w) A (truthy (.int a t)) Q E s := truthy_int (by rw [show (a != 0) = true from by simpa using ha]; exact h)
theorem truthy_eq (ha : a = 0) (h : Q false s) : wpAny (model prog w) A (truthy (.int a t)) Q E s := truthy_int (by rw [show (a != 0) = false from by simpa using ha]; exact h)
theorem truthy_imp {P : Prop} (ha : P → a = 0) (hp : P) (h : Q false s) : wpAny (model prog w) A (truthy (.int a t)) Q E s := truthy_eq (ha hp) h
end
theorem addFacts {x y : Mf} {prec sub : Int} (hs : Side (Wf x ∧ Wf y ∧ (sub = 0 ∨ sub = 1) ∧ 1 ≤ prec ∧ prec ≤ 1000)) :
    Side ((x.s = 0 ∨ x.s = 1) ∧ (bxor y.s sub = 0 ∨ bxor y.s sub = 1) ∧ 0 ≤ x.m ∧ 0 ≤ y.m ∧ x.b = bits x.m ∧ y.b = bits y.m ∧ x.b ≤ 5000 ∧ y.b ≤ 5000 ∧
      (∀ a b, bits a ≤ 46000 → bits b ≤ 46000 → bits (a + b) ≤ 46001 ∧ bits (a - b) ≤ 46001 ∧ bits (-(a - b)) ≤ 46001 ∧ bits (b - a) ≤ 46001 ∧ bits (-(b - a)) ≤ 46001) ∧
      (∀ n, 0 ≤ n → n ≤ 40000 → bits (shl x.m n) ≤ 46000 ∧ 0 ≤ shl x.m n ∧ (x.m ≠ 0 → 1 ≤ shl x.m n)) ∧ (∀ n, 0 ≤ n → n ≤ 40000 → bits (shl y.m n) ≤ 46000 ∧ 0 ≤ shl y.m n ∧ (y.m ≠ 0 → 1 ≤ shl y.m n)) ∧ x.e - y.e ≤ 40000 ∧ -40000 ≤ x.e - y.e ∧ prec ≤ 1000) := by
  obtain ⟨W, V, h3, h4, h5⟩ := hs.out
  have w1 := W.b; have w2 := W.sz; have v1 := V.b; have v2 := V.sz
  have w3 := W.e1; have w4 := W.e2; have v3 := V.e1; have v4 := V.e2
  refine Side.mk ⟨W.s, bxor01 V.s h3, W.m, V.m, W.b, V.b, W.sz, V.sz, fun a b => bd_sum, fun n h0 h1 => ⟨?_, shl_nonneg _ W.m, fun h => ?_⟩, fun n h0 h1 => ⟨?_, shl_nonneg _ V.m, fun h => ?_⟩, by omega, by omega, h5⟩
  · have := bd_shl (a := x.m) (k := 5000) h0 (by omega); omega
  · exact shl_pos _ (by have := W.m; omega)
  · have := bd_shl (a := y.m) (k := 5000) h0 (by omega); omega
  · exact shl_pos _ (by have := V.m; omega)
theorem addZero {x y : Mf} {prec sub : Int} (hs : Side (Wf x ∧ Wf y ∧ (sub = 0 ∨ sub = 1) ∧ 1 ≤ prec ∧ prec ≤ 1000)) : Side ((x.m = 0 → x.e = 0) ∧ (y.m = 0 → y.e = 0)) := by
  obtain ⟨W, V, h3, h4, h5⟩ := hs.out
  exact Side.mk ⟨fun h => by rw [W.z h], fun h => by rw [V.z h]⟩
end Mine

namespace Mine
local macro_rules | `(tactic| walk_at "pad 0") => `(tactic| skip)
open PySem.Challenge (rw_aa5009_01)
local macro_rules | `(tactic| walk_at "truthy int") => `(tactic| (with_reducible (first | refine truthy_ne (by assumption) ?_ | refine truthy_eq (by assumption) ?_ | refine truthy_imp (by assumption) (by assumption) ?_)))
local macro_rules | `(tactic| walk_at "my ifs") => `(tactic| repeat (first | (with_reducible rfl) | (refine Eq.trans ?_ (if_pos (by first | assumption | omega)).symm) | (refine Eq.trans ?_ (if_neg (by first | assumption | omega)).symm)))
local macro_rules | `(tactic| walk_at "binaryOp LShift int int") => `(tactic| ((with_reducible refine r_lshift ?_ ?_); rotate_left; (try dsimp only)))
local macro_rules | `(tactic| walk_at "inplaceOp LShift int int") => `(tactic| ((with_reducible refine r_ilshift ?_ ?_); rotate_left; (try dsimp only)))
local macro_rules | `(tactic| walk_at "binaryOp RShift int int") => `(tactic| ((with_reducible refine r_rshift ?_ ?_); rotate_left; (try dsimp only)))
local macro_rules | `(tactic| walk_at "inplaceOp RShift int int") => `(tactic| ((with_reducible refine r_irshift ?_ ?_); rotate_left; (try dsimp only)))
local macro_rules | `(tactic| walk_at "binaryOp BitAnd int int") => `(tactic| ((with_reducible refine r_and ?_); (try dsimp only)))
local macro_rules | `(tactic| walk_at "binaryOp BitXor int int") => `(tactic| ((with_reducible refine r_xor ?_); (try dsimp only)))
local macro_rules | `(tactic| walk_at "inplaceOp BitXor int int") => `(tactic| ((with_reducible refine r_ixor ?_); (try dsimp only)))
local macro_rules | `(tactic| walk_at "binaryOp Mult int int") => `(tactic| ((with_reducible refine r_mul ?_ ?_); rotate_left; (try dsimp only)))
local macro_rules | `(tactic| walk_at "binaryOp FloorDiv int int") => `(tactic| ((with_reducible refine r_fdiv ?_ ?_); rotate_left; (try dsimp only)))
local macro_rules | `(tactic| walk_at "inplaceOp FloorDiv int int") => `(tactic| ((with_reducible refine r_ifdiv ?_ ?_); rotate_left; (try dsimp only)))
local macro_rules | `(tactic| walk_at "binaryOp Mod int int") => `(tactic| ((with_reducible refine r_mod ?_ ?_); rotate_left; (try dsimp only)))
local macro_rules | `(tactic| walk_at "binaryOp Pow int int") => `(tactic| ((with_reducible refine r_pow ?_ ?_); rotate_left; (try dsimp only)))
local macro_rules | `(tactic| walk_at "call builtin:int.bit_length") => `(tactic| ((with_reducible refine r_bits ?_); (try dsimp only)))
local macro_rules | `(tactic| walk_at "eval Call Name cons nil") => `(tactic| (k_dflt (refine Call_ ?_)))
local macro_rules | `(tactic| walk_at "call ref cons nil") => `(tactic| (k_dflt (refine' trailing_spec ?k1 ?k2 ?k3 ?k4 ?k5 ?k6 ?k7 ?_; (case k1 => k_asm); (case k2 => k_asm); (case k3 => k_asm); (case k4 => k_asm); (case k5 => k_asm); (case k6 => first | exact rfl | assumption); (case k7 => first | omega | ktr_room); (intro t9 h9 tk9 F9 N9; (try dsimp only); (try k_fold)))))
local macro_rules | `(tactic| walk_at "my sub") => `(tactic| (repeat (first | exact sub_refl | refine sub_cons ?_ | refine sub_app ?_)))
local macro_rules | `(tactic| walk_at "my has") => `(tactic| (refine Has.mono (by assumption) ?_; walk_at "my sub"))
local macro_rules | `(tactic| walk_at "my end") => `(tactic| first
  | ((rename RetT _ _ _ _ _ _ _ => hR'); first
      | (refine retNew hR' ?_ (by assumption) (by assumption) (by walk_at "my sub"))
      | (refine retZero hR' ?_ (by assumption) (by assumption) (by walk_at "my sub"))
      | (refine retT hR' ?_ (by assumption) (by assumption) (by walk_at "my has") (by walk_at "my sub")))
  | ((rename RetI _ _ _ _ _ _ _ => hR'); refine retI hR' ?_ (by assumption) (News.sub (by assumption) (by walk_at "my sub")))
  | ((rename RetP _ _ _ _ _ _ _ _ => hR'); refine retP hR' ?_ ?_ (by assumption) (by assumption) (by walk_at "my sub")))
local macro_rules | `(tactic| walk_at "my enter") => `(tactic| k_dflt (refine' code_def ?k1 ?k2 ?k3 ?k4 ?k5 ?kA ?kF ?kK ?k6 ?k7 ?k8 ?k9 ?kB ?_ ?c2 ?c3 ?c4 ?c5; (case kA => exact rfl); (case kF => exact rfl); (case kK => assumption); (case k1 => k_asm); (case k2 => k_asm); (case k3 => k_asm); (case k4 => k_asm); (case k5 => k_asm); (case k6 => k_is); (case k7 => k_is); (case k8 => first | omega | ktr_room); (case k9 => first | exact BindsTo.of_eq rfl | exact binds_K (by k_in) rfl (by k_is) rfl rfl rfl); (case c5 => decide); (case kB => exact locs rfl); (case c2 => exact rfl); (case c3 => exact rfl); (case c4 => exact rfl); k_whole; intro g' L' h' FG' F' N' B' X' T'; (try dsimp only); (try k_lift B'); (try k_fold)))
local macro_rules | `(tactic| walk_at "call builtin:divmod") => `(tactic| (k_dflt (refine' r_divmod ?k1 ?k2 ?_ ?_; (case k1 => k_asm); (case k2 => k_asm)); (rotate_left 1; intro r9 h9 F9 N9; (try dsimp only))))
local macro_rules | `(tactic| walk_at "my units") => `(tactic| first | ((try simp only [units_deeper]); (try dsimp only [ktrTop]); omega) | decide | (exact Nat.le_of_ble_eq_true rfl) | ((try simp only [units_deeper, units_caller, cLine]); omega))
local macro_rules | `(tactic| walk_at "my reads") => `(tactic| first
  | (refine' nan_reads ?f ?x; (case f => k_asm); (case x => k_asm); done)
  | (refine' has_reads ?f ?x ?n ?s (Or.inr ⟨rfl, rfl⟩); (case f => k_asm); (case x => k_asm); (case n => k_asm); (case s => exact sub_refl); done)
  | (refine' has_reads ?f ?x ?n ?s ?h; (case h => assumption); (case f => k_asm); (case x => k_asm); (case n => k_asm); (case s => walk_at "my sub"); done)
  | (refine' readsM_of (x := ⟨_, _, _, _⟩) (News.get ?n ?m); (case n => k_asm); (case m => k_mem)))
local macro_rules | `(tactic| walk_at "compareOp Eq ref ref") => `(tactic| (k_dflt (refine' r_eq ?ra ?rb ?ru ?_; (case ra => walk_at "my reads"); (case rb => walk_at "my reads"); (case ru => walk_at "my units")); (try dsimp only)))
local macro_rules | `(tactic| walk_at "compareOp NotEq ref ref") => `(tactic| (k_dflt (refine' r_ne ?ra ?rb ?ru ?_; (case ra => walk_at "my reads"); (case rb => walk_at "my reads"); (case ru => walk_at "my units")); (try dsimp only)))
local macro_rules | `(tactic| walk_at "compareOp Eq ref ref") => `(tactic| (k_dflt (first
  | (refine' r_eq_no ?ra ?rb ?ru ?rn ?_; (case ra => walk_at "my reads"); (case rb => walk_at "my reads"); (case ru => walk_at "my units"); (case rn => assumption))
  | (refine' r_eq_yes ?ra ?rb ?ru ?rn ?rp ?_; (case ra => walk_at "my reads"); (case rb => walk_at "my reads"); (case ru => walk_at "my units"); (case rn => assumption); (case rp => first | exact True.intro | assumption)))))
local macro_rules | `(tactic| walk_at "call ref cons nil") => `(tactic| (k_dflt (refine' mpf_neg_spec ?k1 ?k2 ?k3 ?k4 ?k5 ?k6 ?k7 ?h0 ?_ ?_; (case k1 => k_asm); (case k2 => k_asm); (case k3 => k_asm); (case k4 => k_asm); (case k5 => k_asm); (case k6 => first | exact rfl | assumption); (case k7 => first | omega | ktr_room); (case h0 => walk_at "my has"); (rotate_left 1; intro r9 tl9 h9 tk9 F9 N9 H9; (try dsimp only); (try k_fold)))))
local macro_rules | `(tactic| walk_at "call ref cons nil") => `(tactic| (k_dflt (refine' normalize_spec ?k1 ?k2 ?k3 ?k4 ?k5 ?k6 ?k7 ?_ ?_; (case k1 => k_asm); (case k2 => k_asm); (case k3 => k_asm); (case k4 => k_asm); (case k5 => k_asm); (case k6 => first | exact rfl | assumption); (case k7 => first | omega | ktr_room); (rotate_left 1; intro r9 tl9 h9 tk9 F9 N9 H9; (try dsimp only); (try k_fold)))))
local macro_rules | `(tactic| walk_at "assign Tuple") => `(tactic| ((with_reducible show wpAny _ _ (assign (Expr.Tuple _ _ _) _ (Value.ref _)) _ _ _); k_dflt (refine' unpackN_ ?k1 ?k2 (hasT_tup ?kh ?kf ?kx ?kn ?ks) ?k4 ?k5 ?k6 ?_; (case kh => assumption); (case kf => k_asm); (case kn => k_asm); (case k1 => k_asm); (case k2 => k_asm); (case kx => k_asm); (case ks => walk_at "my sub"); (case k4 => exact rfl); (case k5 => exact rfl); (case k6 => exact rfl); k_whole); intro h' F' N'; (try k_sweep)))
local macro_rules | `(tactic| walk_at "storeName") => `(tactic| (k_dflt (refine' storeX_L ?F ?N ?_ ?a ?b; (case b => exact kind_dec (by decide +kernel)); (case F => k_asm); (case N => k_asm); (case a => rfl); k_whole; intro h' F' N'; (try k_sweep))))
local macro_rules | `(tactic| walk_at "spliced") => `(tactic| (k_dflt (first | refine spliced_more ?_ | (refine spliced_none ?_; (try dsimp only)))))
local macro_rules | `(tactic| walk_at "exec Assign") => `(tactic| ((with_reducible show wpAny _ _ (exec (Stmt.Assign [Expr.Name _ _] _ _) _) _ _ _); k_dflt (refine wpAny_Assign_Name ?_)))
local macro_rules | `(tactic| walk_at "isTrue") => `(tactic| (k_dflt (refine isTrue_plain ?_)))
local macro_rules | `(tactic| walk_at "eval Name") => `(tactic| (k_dflt (refine' nameX_K ?F ?X ?T ?e ?_ ?a ?b; (case b => exact kind_dec (by decide +kernel)); (case F => k_asm); (case X => k_asm); (case T => k_asm); (case a => rfl); (case e => k_is); k_whole)))
local macro_rules | `(tactic| walk_at "eval Name") => `(tactic| (k_dflt (refine' nameX_L ?F ?v ?_ ?a ?b; (case b => exact kind_dec (by decide +kernel)); (case F => k_asm); (case a => rfl); (case v => rfl); k_whole)))
section
variable {w : World} {dp un : Nat} {gd : Option (List Code)} {cn : Str} {cs : Scope} {a : Addr} {ccd : Value} {cl : List (Str × Addr)} {outer : List Env} {A₀ : Around} {base h₀ : Heap} {L : Addr} {m : Str → Option Value} {news : List (Addr × Obj)} {s : Shared} {Q E : Value → Shared → Prop} {p : Program} {loose : List Str} {mean : ExcName → Option Value} {mg mb : Str → Option Value}
variable (B : Below A₀ base outer h₀) (F : Fr h₀ L s.heap m) (X : (hd.heap_39 w.params).In h₀) (N : News h₀ L s.heap news) (T : Top p loose mean mg mb h₀) (hk : cs.kind = .function)
include B F X N T hk
theorem mpf_addG_spec (hd : dp + 5 < recursionLimit) {r1 r2 : Addr} {x y : Mf} {prec sub : Int} {t3 t4 t5 : Tok} {way : Way} {vs : List Value} (hx : Has news r1 x) (hy : Has news r2 y) (hs : Side (Wf x ∧ Wf y ∧ (sub = 0 ∨ sub = 1) ∧ 1 ≤ prec ∧ prec ≤ 1000))
  (hbind : ∀ oc od fd osl (s' : Shared), (_root_.hd.heap_39 w.params).lookup 125 = some ⟨oc, od, .func fd, osl⟩ → (_root_.hd.heap_39 w.params).In s'.heap →
    BindsTo s' fd ⟨vs, []⟩ [(Str.ofString "s", .ref r1), (Str.ofString "t", .ref r2), (Str.ofString "prec", .int prec t3), (Str.ofString "rnd", .str way.str t4), (Str.ofString "_sub", .int sub t5)])
  (hret : RetT h₀ L m news s Q (addC x y (bxor y.s sub) prec way)) :
  wpAny (model rw_aa5009_01.row.prog w) (ktrTop dp un gd cn cs L a ccd cl outer) (call (.ref 125) vs) Q E s := by
  revert X; k_fill; intro X
  have hs2 := hs.out.2.2.2.1
  obtain ⟨x1, x2, x3, x4⟩ := x
  obtain ⟨y1, y2, y3, y4⟩ := y
  have facts := addFacts hs
  have sx := Side.mk hs.out.1
  have sy := Side.mk hs.out.2.1
  have hp0 : prec ≠ 0 := by omega
  obtain ⟨z1, z2⟩ := (addZero hs).out
  dsimp only at hret facts z1 z2
  obtain ⟨u1, u2, u3, u4, hx0⟩ := has_T w hx
  obtain ⟨q1, q2, q3, q4, hy0⟩ := has_T w hy
  refine wpAny_call ?_
  k_dflt (refine' code_def ?k1 ?k2 ?k3 ?k4 ?k5 ?kA ?kF ?kK ?k6 ?k7 ?k8 ?k9 ?kB ?_ ?c2 ?c3 ?c4 ?c5; (case kA => exact rfl); (case kF => exact rfl); (case kK => assumption); (case k1 => k_asm); (case k2 => k_asm); (case k3 => k_asm); (case k4 => k_asm); (case k5 => k_asm); (case k6 => k_is); (case k7 => k_is); (case k8 => first | omega | ktr_room); (case k9 => exact hbind _ _ _ _ _ rfl (by k_in)); (case c5 => decide); (case kB => exact locs rfl); (case c2 => exact rfl); (case c3 => exact rfl); (case c4 => exact rfl); k_whole; intro g' L' h' FG' F' N' B' X' T'; (try dsimp only); (try k_lift B'); (try k_fold))
  k_steps
  all_goals (try (rename ((_ ∧ _) ∨ (_ ∧ _)) => hr9; rcases hr9 with ⟨hc9, hr9⟩ | ⟨hc9, hr9⟩ <;> subst hr9))
  all_goals first
    | exact sx
    | exact sy
    | (exfalso; omega)
    | (obtain ⟨g1, g2, g3, g4, g5, g6, g7, g8, gs, gx, gy, g9, g10, g11⟩ := facts.out
       have g12 := bits_one
       first
        | (exact Side.mk (by omega))
        | (have k1 := gs y2 x2 (by omega) (by omega); exact Side.mk (by omega))
        | (have k0 := gx (x3 - y3) (by omega) (by omega); have k1 := gs y2 (shl x2 (x3 - y3)) (by omega) (by omega); exact Side.mk (by omega))
        | (have k0 := gy (-(x3 - y3)) (by omega) (by omega); have k1 := gs x2 (shl y2 (-(x3 - y3))) (by omega) (by omega); exact Side.mk (by omega))
        | (have k0 := gx (prec + 4) (by omega) (by omega); have k1 := gs (shl x2 (prec + 4)) 1 (by omega) (by omega); exact Side.mk (by omega))
        | (have k0 := gy (prec + 4) (by omega) (by omega); have k1 := gs (shl y2 (prec + 4)) 1 (by omega) (by omega); exact Side.mk (by omega)))
    | (walk_at "my end"; dsimp only [addC, cmbC, sgC, stkC]; walk_at "my ifs"; done)
    | (walk_at "my end"; (have e9 := sy.out.z (by assumption)); dsimp only [addC, negC, normC]; (repeat' (first | contradiction | exact e9 | split)); done)
    | (walk_at "my end"; rfl)
    | (walk_at "my end"; (have e8 : x2 = 0 := by assumption); simp [addC, negC, normC, e8]; done)
    | (walk_at "my end"; simp [addC, negC, normC]; done)
end
end Mine

namespace Mine
open PySem.Challenge (rw_aa5009_01)
local macro_rules | `(tactic| walk_at "truthy int") => `(tactic| (with_reducible (first | refine truthy_ne (by assumption) ?_ | refine truthy_eq (by assumption) ?_ | refine truthy_imp (by assumption) (by assumption) ?_)))
local macro_rules | `(tactic| walk_at "my ifs") => `(tactic| repeat (first | (with_reducible rfl) | (refine Eq.trans ?_ (if_pos (by first | assumption | omega)).symm) | (refine Eq.trans ?_ (if_neg (by first | assumption | omega)).symm)))
local macro_rules | `(tactic| walk_at "binaryOp LShift int int") => `(tactic| ((with_reducible refine r_lshift ?_ ?_); rotate_left; (try dsimp only)))
local macro_rules | `(tactic| walk_at "inplaceOp LShift int int") => `(tactic| ((with_reducible refine r_ilshift ?_ ?_); rotate_left; (try dsimp only)))
local macro_rules | `(tactic| walk_at "binaryOp RShift int int") => `(tactic| ((with_reducible refine r_rshift ?_ ?_); rotate_left; (try dsimp only)))
local macro_rules | `(tactic| walk_at "inplaceOp RShift int int") => `(tactic| ((with_reducible refine r_irshift ?_ ?_); rotate_left; (try dsimp only)))
local macro_rules | `(tactic| walk_at "binaryOp BitAnd int int") => `(tactic| ((with_reducible refine r_and ?_); (try dsimp only)))
local macro_rules | `(tactic| walk_at "binaryOp BitXor int int") => `(tactic| ((with_reducible refine r_xor ?_); (try dsimp only)))
local macro_rules | `(tactic| walk_at "inplaceOp BitXor int int") => `(tactic| ((with_reducible refine r_ixor ?_); (try dsimp only)))
local macro_rules | `(tactic| walk_at "binaryOp Mult int int") => `(tactic| ((with_reducible refine r_mul ?_ ?_); rotate_left; (try dsimp only)))
local macro_rules | `(tactic| walk_at "binaryOp FloorDiv int int") => `(tactic| ((with_reducible refine r_fdiv ?_ ?_); rotate_left; (try dsimp only)))
local macro_rules | `(tactic| walk_at "inplaceOp FloorDiv int int") => `(tactic| ((with_reducible refine r_ifdiv ?_ ?_); rotate_left; (try dsimp only)))
local macro_rules | `(tactic| walk_at "binaryOp Mod int int") => `(tactic| ((with_reducible refine r_mod ?_ ?_); rotate_left; (try dsimp only)))
local macro_rules | `(tactic| walk_at "binaryOp Pow int int") => `(tactic| ((with_reducible refine r_pow ?_ ?_); rotate_left; (try dsimp only)))
local macro_rules | `(tactic| walk_at "call builtin:int.bit_length") => `(tactic| ((with_reducible refine r_bits ?_); (try dsimp only)))
local macro_rules | `(tactic| walk_at "eval Call Name cons nil") => `(tactic| (k_dflt (refine Call_ ?_)))
local macro_rules | `(tactic| walk_at "call ref cons nil") => `(tactic| (k_dflt (refine' trailing_spec ?k1 ?k2 ?k3 ?k4 ?k5 ?k6 ?k7 ?_; (case k1 => k_asm); (case k2 => k_asm); (case k3 => k_asm); (case k4 => k_asm); (case k5 => k_asm); (case k6 => first | exact rfl | assumption); (case k7 => first | omega | ktr_room); (intro t9 h9 tk9 F9 N9; (try dsimp only); (try k_fold)))))
local macro_rules | `(tactic| walk_at "my sub") => `(tactic| (repeat (first | exact sub_refl | refine sub_cons ?_ | refine sub_app ?_)))
local macro_rules | `(tactic| walk_at "my has") => `(tactic| (refine Has.mono (by assumption) ?_; walk_at "my sub"))
local macro_rules | `(tactic| walk_at "my end") => `(tactic| first
  | ((rename RetT _ _ _ _ _ _ _ => hR'); first
      | (refine retNew hR' ?_ (by assumption) (by assumption) (by walk_at "my sub"))
      | (refine retZero hR' ?_ (by assumption) (by assumption) (by walk_at "my sub"))
      | (refine retT hR' ?_ (by assumption) (by assumption) (by walk_at "my has") (by walk_at "my sub")))
  | ((rename RetI _ _ _ _ _ _ _ => hR'); refine retI hR' ?_ (by assumption) (News.sub (by assumption) (by walk_at "my sub")))
  | ((rename RetP _ _ _ _ _ _ _ _ => hR'); refine retP hR' ?_ ?_ (by assumption) (by assumption) (by walk_at "my sub")))
local macro_rules | `(tactic| walk_at "my enter") => `(tactic| k_dflt (refine' code_def ?k1 ?k2 ?k3 ?k4 ?k5 ?kA ?kF ?kK ?k6 ?k7 ?k8 ?k9 ?kB ?_ ?c2 ?c3 ?c4 ?c5; (case kA => exact rfl); (case kF => exact rfl); (case kK => assumption); (case k1 => k_asm); (case k2 => k_asm); (case k3 => k_asm); (case k4 => k_asm); (case k5 => k_asm); (case k6 => k_is); (case k7 => k_is); (case k8 => first | omega | ktr_room); (case k9 => first | exact BindsTo.of_eq rfl | exact binds_K (by k_in) rfl (by k_is) rfl rfl rfl); (case c5 => decide); (case kB => exact locs rfl); (case c2 => exact rfl); (case c3 => exact rfl); (case c4 => exact rfl); k_whole; intro g' L' h' FG' F' N' B' X' T'; (try dsimp only); (try k_lift B'); (try k_fold)))
section
variable {w : World} {dp un : Nat} {gd : Option (List Code)} {cn : Str} {cs : Scope} {a : Addr} {ccd : Value} {cl : List (Str × Addr)} {outer : List Env} {A₀ : Around} {base h₀ : Heap} {L : Addr} {m : Str → Option Value} {news : List (Addr × Obj)} {s : Shared} {Q E : Value → Shared → Prop} {p : Program} {loose : List Str} {mean : ExcName → Option Value} {mg mb : Str → Option Value}
variable (B : Below A₀ base outer h₀) (F : Fr h₀ L s.heap m) (X : (hd.heap_39 w.params).In h₀) (N : News h₀ L s.heap news) (T : Top p loose mean mg mb h₀) (hk : cs.kind = .function)
include B F X N T hk
theorem mpf_add5_spec (hd : dp + 5 < recursionLimit) {r1 r2 : Addr} {x y : Mf} {prec sub : Int} {t3 t4 t5 : Tok} {way : Way} (hx : Has news r1 x) (hy : Has news r2 y) (hs : Side (Wf x ∧ Wf y ∧ (sub = 0 ∨ sub = 1) ∧ 1 ≤ prec ∧ prec ≤ 1000))
  (hret : RetT h₀ L m news s Q (addC x y (bxor y.s sub) prec way)) :
  wpAny (model rw_aa5009_01.row.prog w) (ktrTop dp un gd cn cs L a ccd cl outer) (call (.ref 125) [.ref r1, .ref r2, .int prec t3, .str way.str t4, .int sub t5]) Q E s := by
  refine mpf_addG_spec B F X N T hk hd hx hy hs ?_ hret (t3 := t3) (t4 := t4) (t5 := t5)
  intro oc od fd osl s' h hX
  have e := h.symm.trans (show (_root_.hd.heap_39 w.params).lookup 125 = some _ from rfl)
  injection e with e
  injection e with e1 e2 e3 e4
  injection e3 with e3
  subst e3
  exact binds_K hX rfl (by exact rfl) (by exact rfl) (by exact rfl) (by exact rfl)
end
section
variable {w : World} {dp un : Nat} {gd : Option (List Code)} {cn : Str} {cs : Scope} {a : Addr} {ccd : Value} {cl : List (Str × Addr)} {outer : List Env} {A₀ : Around} {base h₀ : Heap} {L : Addr} {m : Str → Option Value} {news : List (Addr × Obj)} {s : Shared} {Q E : Value → Shared → Prop} {p : Program} {loose : List Str} {mean : ExcName → Option Value} {mg mb : Str → Option Value}
variable (B : Below A₀ base outer h₀) (F : Fr h₀ L s.heap m) (X : (hd.heap_39 w.params).In h₀) (N : News h₀ L s.heap news) (T : Top p loose mean mg mb h₀) (hk : cs.kind = .function)
include B F X N T hk
theorem mpf_add_spec (hd : dp + 5 < recursionLimit) {r1 r2 : Addr} {x y : Mf} {prec : Int} {t3 t4 : Tok} {way : Way} (hx : Has news r1 x) (hy : Has news r2 y) (hs : Side (Wf x ∧ Wf y ∧ 1 ≤ prec ∧ prec ≤ 1000))
  (hret : RetT h₀ L m news s Q (addC x y y.s prec way)) :
  wpAny (model rw_aa5009_01.row.prog w) (ktrTop dp un gd cn cs L a ccd cl outer) (call (.ref 125) [.ref r1, .ref r2, .int prec t3, .str way.str t4]) Q E s := by
  obtain ⟨W, V, h1, h2⟩ := hs.out
  refine' mpf_addG_spec B F X N T hk hd hx hy (sub := 0) (t3 := t3) (t4 := t4) (t5 := ?t5) (Side.mk ⟨W, V, Or.inl rfl, h1, h2⟩) ?hb (by rw [bxor_0 V.s]; exact hret)
  case hb =>
    intro oc od fd osl s' h hX
    have e := h.symm.trans (show (_root_.hd.heap_39 w.params).lookup 125 = some _ from rfl)
    injection e with e
    injection e with e1 e2 e3 e4
    injection e3 with e3
    subst e3
    exact binds_K hX rfl (by exact rfl) (by exact rfl) (by exact rfl) (by exact rfl)
end
local macro_rules | `(tactic| walk_at "call ref cons nil") => `(tactic| (k_dflt (refine' mpf_add5_spec ?k1 ?k2 ?k3 ?k4 ?k5 ?k6 ?k7 ?h0 ?h1 ?_ ?_; (case k1 => k_asm); (case k2 => k_asm); (case k3 => k_asm); (case k4 => k_asm); (case k5 => k_asm); (case k6 => first | exact rfl | assumption); (case k7 => first | omega | ktr_room); (case h0 => walk_at "my has"); (case h1 => walk_at "my has"); (rotate_left 1; intro r9 tl9 h9 tk9 F9 N9 H9; (try dsimp only); (try k_fold)))))
local macro_rules | `(tactic| walk_at "storeName") => `(tactic| (k_dflt (refine' storeX_L ?F ?N ?_ ?a ?b; (case b => exact kind_dec (by decide +kernel)); (case F => k_asm); (case N => k_asm); (case a => rfl); k_whole; intro h' F' N'; (try k_sweep))))
local macro_rules | `(tactic| walk_at "spliced") => `(tactic| (k_dflt (first | refine spliced_more ?_ | (refine spliced_none ?_; (try dsimp only)))))
local macro_rules | `(tactic| walk_at "exec Assign") => `(tactic| ((with_reducible show wpAny _ _ (exec (Stmt.Assign [Expr.Name _ _] _ _) _) _ _ _); k_dflt (refine wpAny_Assign_Name ?_)))
local macro_rules | `(tactic| walk_at "isTrue") => `(tactic| (k_dflt (refine isTrue_plain ?_)))
local macro_rules | `(tactic| walk_at "eval Name") => `(tactic| (k_dflt (refine' nameX_K ?F ?X ?T ?e ?_ ?a ?b; (case b => exact kind_dec (by decide +kernel)); (case F => k_asm); (case X => k_asm); (case T => k_asm); (case a => rfl); (case e => k_is); k_whole)))
local macro_rules | `(tactic| walk_at "eval Name") => `(tactic| (k_dflt (refine' nameX_L ?F ?v ?_ ?a ?b; (case b => exact kind_dec (by decide +kernel)); (case F => k_asm); (case a => rfl); (case v => rfl); k_whole)))
section
variable {w : World} {dp un : Nat} {gd : Option (List Code)} {cn : Str} {cs : Scope} {a : Addr} {ccd : Value} {cl : List (Str × Addr)} {outer : List Env} {A₀ : Around} {base h₀ : Heap} {L : Addr} {m : Str → Option Value} {news : List (Addr × Obj)} {s : Shared} {Q E : Value → Shared → Prop} {p : Program} {loose : List Str} {mean : ExcName → Option Value} {mg mb : Str → Option Value}
variable (B : Below A₀ base outer h₀) (F : Fr h₀ L s.heap m) (X : (hd.heap_39 w.params).In h₀) (N : News h₀ L s.heap news) (T : Top p loose mean mg mb h₀) (hk : cs.kind = .function)
include B F X N T hk
theorem mpf_sub_spec (hd : dp + 6 < recursionLimit) {r1 r2 : Addr} {x y : Mf} {prec : Int} {t3 t4 : Tok} {way : Way} (hx : Has news r1 x) (hy : Has news r2 y) (hs : Side (Wf x ∧ Wf y ∧ 1 ≤ prec ∧ prec ≤ 1000))
  (hret : RetT h₀ L m news s Q (addC x y (1 - y.s) prec way)) :
  wpAny (model rw_aa5009_01.row.prog w) (ktrTop dp un gd cn cs L a ccd cl outer) (call (.ref 133) [.ref r1, .ref r2, .int prec t3, .str way.str t4]) Q E s := by
  revert X; k_fill; intro X
  obtain ⟨W, V, h1, h2⟩ := hs.out
  refine wpAny_call ?_
  walk_at "my enter"
  k_steps
  all_goals first
    | (exact Side.mk ⟨W, V, Or.inr rfl, h1, h2⟩)
    | (walk_at "my end"; rw [bxor_1 V.s])
end
end Mine

namespace Mine
open PySem.Challenge (rw_aa5009_01)
local macro_rules | `(tactic| walk_at "truthy int") => `(tactic| (with_reducible (first | refine truthy_ne (by assumption) ?_ | refine truthy_eq (by assumption) ?_ | refine truthy_imp (by assumption) (by assumption) ?_)))
local macro_rules | `(tactic| walk_at "my ifs") => `(tactic| repeat (first | (with_reducible rfl) | (refine Eq.trans ?_ (if_pos (by first | assumption | omega)).symm) | (refine Eq.trans ?_ (if_neg (by first | assumption | omega)).symm)))
local macro_rules | `(tactic| walk_at "binaryOp LShift int int") => `(tactic| ((with_reducible refine r_lshift ?_ ?_); rotate_left; (try dsimp only)))
local macro_rules | `(tactic| walk_at "inplaceOp LShift int int") => `(tactic| ((with_reducible refine r_ilshift ?_ ?_); rotate_left; (try dsimp only)))
local macro_rules | `(tactic| walk_at "binaryOp RShift int int") => `(tactic| ((with_reducible refine r_rshift ?_ ?_); rotate_left; (try dsimp only)))
local macro_rules | `(tactic| walk_at "inplaceOp RShift int int") => `(tactic| ((with_reducible refine r_irshift ?_ ?_); rotate_left; (try dsimp only)))
local macro_rules | `(tactic| walk_at "binaryOp BitAnd int int") => `(tactic| ((with_reducible refine r_and ?_); (try dsimp only)))
local macro_rules | `(tactic| walk_at "binaryOp BitXor int int") => `(tactic| ((with_reducible refine r_xor ?_); (try dsimp only)))
local macro_rules | `(tactic| walk_at "inplaceOp BitXor int int") => `(tactic| ((with_reducible refine r_ixor ?_); (try dsimp only)))
local macro_rules | `(tactic| walk_at "binaryOp Mult int int") => `(tactic| ((with_reducible refine r_mul ?_ ?_); rotate_left; (try dsimp only)))
local macro_rules | `(tactic| walk_at "binaryOp FloorDiv int int") => `(tactic| ((with_reducible refine r_fdiv ?_ ?_); rotate_left; (try dsimp only)))
local macro_rules | `(tactic| walk_at "inplaceOp FloorDiv int int") => `(tactic| ((with_reducible refine r_ifdiv ?_ ?_); rotate_left; (try dsimp only)))
local macro_rules | `(tactic| walk_at "binaryOp Mod int int") => `(tactic| ((with_reducible refine r_mod ?_ ?_); rotate_left; (try dsimp only)))
local macro_rules | `(tactic| walk_at "binaryOp Pow int int") => `(tactic| ((with_reducible refine r_pow ?_ ?_); rotate_left; (try dsimp only)))
local macro_rules | `(tactic| walk_at "call builtin:int.bit_length") => `(tactic| ((with_reducible refine r_bits ?_); (try dsimp only)))
local macro_rules | `(tactic| walk_at "eval Call Name cons nil") => `(tactic| (k_dflt (refine Call_ ?_)))
local macro_rules | `(tactic| walk_at "call ref cons nil") => `(tactic| (k_dflt (refine' trailing_spec ?k1 ?k2 ?k3 ?k4 ?k5 ?k6 ?k7 ?_; (case k1 => k_asm); (case k2 => k_asm); (case k3 => k_asm); (case k4 => k_asm); (case k5 => k_asm); (case k6 => first | exact rfl | assumption); (case k7 => first | omega | ktr_room); (intro t9 h9 tk9 F9 N9; (try dsimp only); (try k_fold)))))
local macro_rules | `(tactic| walk_at "my sub") => `(tactic| (repeat (first | exact sub_refl | refine sub_cons ?_ | refine sub_app ?_)))
local macro_rules | `(tactic| walk_at "my has") => `(tactic| (refine Has.mono (by assumption) ?_; walk_at "my sub"))
local macro_rules | `(tactic| walk_at "my end") => `(tactic| first
  | ((rename RetT _ _ _ _ _ _ _ => hR'); first
      | (refine retNew hR' ?_ (by assumption) (by assumption) (by walk_at "my sub"))
      | (refine retZero hR' ?_ (by assumption) (by assumption) (by walk_at "my sub"))
      | (refine retT hR' ?_ (by assumption) (by assumption) (by walk_at "my has") (by walk_at "my sub")))
  | ((rename RetI _ _ _ _ _ _ _ => hR'); refine retI hR' ?_ (by assumption) (News.sub (by assumption) (by walk_at "my sub")))
  | ((rename RetP _ _ _ _ _ _ _ _ => hR'); refine retP hR' ?_ ?_ (by assumption) (by assumption) (by walk_at "my sub")))
local macro_rules | `(tactic| walk_at "my enter") => `(tactic| k_dflt (refine' code_def ?k1 ?k2 ?k3 ?k4 ?k5 ?kA ?kF ?kK ?k6 ?k7 ?k8 ?k9 ?kB ?_ ?c2 ?c3 ?c4 ?c5; (case kA => exact rfl); (case kF => exact rfl); (case kK => assumption); (case k1 => k_asm); (case k2 => k_asm); (case k3 => k_asm); (case k4 => k_asm); (case k5 => k_asm); (case k6 => k_is); (case k7 => k_is); (case k8 => first | omega | ktr_room); (case k9 => first | exact BindsTo.of_eq rfl | exact binds_K (by k_in) rfl (by k_is) rfl rfl rfl); (case c5 => decide); (case kB => exact locs rfl); (case c2 => exact rfl); (case c3 => exact rfl); (case c4 => exact rfl); k_whole; intro g' L' h' FG' F' N' B' X' T'; (try dsimp only); (try k_lift B'); (try k_fold)))
local macro_rules | `(tactic| walk_at "my units") => `(tactic| first | ((try simp only [units_deeper]); (try dsimp only [ktrTop]); omega) | decide | (exact Nat.le_of_ble_eq_true rfl) | ((try simp only [units_deeper, units_caller, cLine]); omega))
local macro_rules | `(tactic| walk_at "my reads") => `(tactic| first
  | (refine' nan_reads ?f ?x; (case f => k_asm); (case x => k_asm); done)
  | (refine' has_reads ?f ?x ?n ?s (Or.inr ⟨rfl, rfl⟩); (case f => k_asm); (case x => k_asm); (case n => k_asm); (case s => exact sub_refl); done)
  | (refine' has_reads ?f ?x ?n ?s ?h; (case h => assumption); (case f => k_asm); (case x => k_asm); (case n => k_asm); (case s => walk_at "my sub"); done)
  | (refine' readsM_of (x := ⟨_, _, _, _⟩) (News.get ?n ?m); (case n => k_asm); (case m => k_mem)))
local macro_rules | `(tactic| walk_at "compareOp Eq ref ref") => `(tactic| (k_dflt (refine' r_eq ?ra ?rb ?ru ?_; (case ra => walk_at "my reads"); (case rb => walk_at "my reads"); (case ru => walk_at "my units")); (try dsimp only)))
local macro_rules | `(tactic| walk_at "compareOp NotEq ref ref") => `(tactic| (k_dflt (refine' r_ne ?ra ?rb ?ru ?_; (case ra => walk_at "my reads"); (case rb => walk_at "my reads"); (case ru => walk_at "my units")); (try dsimp only)))
local macro_rules | `(tactic| walk_at "compareOp Eq ref ref") => `(tactic| (k_dflt (first
  | (refine' r_eq_no ?ra ?rb ?ru ?rn ?_; (case ra => walk_at "my reads"); (case rb => walk_at "my reads"); (case ru => walk_at "my units"); (case rn => assumption))
  | (refine' r_eq_yes ?ra ?rb ?ru ?rn ?rp ?_; (case ra => walk_at "my reads"); (case rb => walk_at "my reads"); (case ru => walk_at "my units"); (case rn => assumption); (case rp => first | exact True.intro | assumption)))))
local macro_rules | `(tactic| walk_at "storeName") => `(tactic| (k_dflt (refine' storeX_L ?F ?N ?_ ?a ?b; (case b => exact kind_dec (by decide +kernel)); (case F => k_asm); (case N => k_asm); (case a => rfl); k_whole; intro h' F' N'; (try k_sweep))))
local macro_rules | `(tactic| walk_at "spliced") => `(tactic| (k_dflt (first | refine spliced_more ?_ | (refine spliced_none ?_; (try dsimp only)))))
local macro_rules | `(tactic| walk_at "exec Assign") => `(tactic| ((with_reducible show wpAny _ _ (exec (Stmt.Assign [Expr.Name _ _] _ _) _) _ _ _); k_dflt (refine wpAny_Assign_Name ?_)))
local macro_rules | `(tactic| walk_at "isTrue") => `(tactic| (k_dflt (refine isTrue_plain ?_)))
local macro_rules | `(tactic| walk_at "eval Name") => `(tactic| (k_dflt (refine' nameX_K ?F ?X ?T ?e ?_ ?a ?b; (case b => exact kind_dec (by decide +kernel)); (case F => k_asm); (case X => k_asm); (case T => k_asm); (case a => rfl); (case e => k_is); k_whole)))
local macro_rules | `(tactic| walk_at "eval Name") => `(tactic| (k_dflt (refine' nameX_L ?F ?v ?_ ?a ?b; (case b => exact kind_dec (by decide +kernel)); (case F => k_asm); (case a => rfl); (case v => rfl); k_whole)))
/-- what a turn of a loop must come to: the frame is as J says, the ledger is kept -/
def TurnEnd (h₀ : Heap) (L : Addr) (J : (Str → Option Value) → Prop) (need : List (Addr × Obj)) (s₁ s₂ : Shared) : Prop :=
  ∃ h' tk m' all, s₂ = { s₁ with heap := h', toks := tk } ∧ Fr h₀ L h' m' ∧ News h₀ L h' all ∧ (∀ p ∈ need, p ∈ all) ∧ J m'
def TurnPost (h₀ : Heap) (L : Addr) (J : (Str → Option Value) → Prop) (need : List (Addr × Obj)) (s₁ : Shared) (Q : Flow → Shared → Prop) (f : Flow) (s₂ : Shared) : Prop :=
  match f with
  | .ret v => Q (.ret v) s₂
  | .brk => Q .next s₂
  | .next => TurnEnd h₀ L J need s₁ s₂
  | .cont => TurnEnd h₀ L J need s₁ s₂
section
variable {prog : Program} {w : World} {A : Around} {E : Value → Shared → Prop} {s : Shared} {env : Env} {h₀ : Heap} {x : Str} {body : List Stmt} {Q : Flow → Shared → Prop}
theorem loop_of_walks {I : Addr} {fp : List Addr} {n : Nat} {P : Nat → Value → Prop} {St : Nat → Heap → Prop} {m₀ : Str → Option Value} {news : List (Addr × Obj)} {s₂ : Shared} (J : (Str → Option Value) → Prop)
    (W : Walks prog w A I fp [I] n P St) (hL : env.locals ∉ fp) (hI : h₀.get? I = none) (hn : ∀ p ∈ news, p.1 ≠ I) (h0 : St 0 s₂.heap) (F : Fr h₀ env.locals s₂.heap m₀) (N : News h₀ env.locals s₂.heap news) (hJ : J m₀)
    (turn : ∀ i v m₁ h tk own, i < n → P i v → J m₁ → Fr h₀ env.locals h (fun y => if y = x then some v else m₁ y) → News h₀ env.locals h (own ++ news) →
      wpAny (model prog w) A (execs body env) (TurnPost h₀ env.locals J (own ++ news) { s₂ with heap := h, toks := tk } Q) E { s₂ with heap := h, toks := tk })
    (done : ∀ m₁ h tk, J m₁ → Fr h₀ env.locals h m₁ → News h₀ env.locals h news → Q .next { s₂ with heap := h, toks := tk }) :
    LoopAtV prog w A h₀ env x body Q E (.ref I) s₂ := by
  refine ⟨I, fp, [I], n, P, St, m₀, news, fun _ m nw => nw = news ∧ J m, rfl, W, hL, ?_, ?_, h0, F, N, ⟨rfl, hJ⟩, ?_, ?_⟩
  · intro b hb; rw [List.mem_singleton.mp hb]; exact hI
  · intro p hp hq; exact hn p hp (List.mem_singleton.mp hq)
  · rintro i v m₁ news₁ s₁ own ⟨hh, tk, rfl⟩ hi hP ⟨rfl, hJ₁⟩ hoff _ _ _ _ F₁ N₁
    refine wpAny_mono (turn i v m₁ hh tk own hi hP hJ₁ F₁ N₁) (fun f s₃ p => ?_) fun _ _ e => e
    have fin : TurnEnd h₀ env.locals J (own ++ news₁) { s₂ with heap := hh, toks := tk } s₃ → LoopStepU h₀ env.locals [I] own (fun m nw => nw = news₁ ∧ J m) { s₂ with heap := hh, toks := tk } .next s₃ := by
      rintro ⟨h', tk', m', all, e, F', N', hs, hj⟩
      exact ⟨rfl, h', tk', m', news₁, e, F', News.sub N' hs, hoff, rfl, hj⟩
    cases f with
    | ret v => exact .ret p
    | brk => exact .brk p
    | next => exact .next (fin p)
    | cont => exact .cont (fin p)
  · rintro h' tk m' news' F' N' _ ⟨rfl, hj⟩
    exact done m' h' tk hj F' N'
theorem iter_tup {t : Addr} {vs : List Value} {m₀ : Str → Option Value} {news : List (Addr × Obj)} (J : (Str → Option Value) → Prop)
    (hh : A.handled = none) (ht : IsTup s.heap t vs.toArray) (hL : t ≠ env.locals) (F : Fr h₀ env.locals s.heap m₀) (N : News h₀ env.locals s.heap news) (hJ : J m₀)
    (turn : ∀ v m₁ h tk own, v ∈ vs → J m₁ → Fr h₀ env.locals h (fun y => if y = x then some v else m₁ y) → News h₀ env.locals h (own ++ news) →
      wpAny (model prog w) A (execs body env) (TurnPost h₀ env.locals J (own ++ news) { s with heap := h, toks := tk } Q) E { s with heap := h, toks := tk })
    (done : ∀ m₁ h tk, J m₁ → Fr h₀ env.locals h m₁ → News h₀ env.locals h news → Q .next { s with heap := h, toks := tk }) :
    wpAny (model prog w) A (pyIter (.ref t)) (fun it s₂ => LoopAtV prog w A h₀ env x body Q E it s₂) E s := by
  have hts : s.heap.IsTuple t vs.toArray := ht
  have hne : t ≠ s.heap.objs.size := by obtain ⟨o, ho, _⟩ := id hts; exact Nat.ne_of_lt (Heap.lt_size ho)
  refine wpAny_pyIter_tuple hts ?_
  refine loop_of_walks J (Walks.tuple hh s.heap.objs.size t hne vs.toArray) ?_ (next_is_new F) ?_ ⟨⟨_, Heap.get?_push_size _ rfl, rfl, rfl⟩, hts.at fun o e => Heap.get?_push_of_some _ e⟩ (F.push _) (fun p hp => ⟨Heap.get?_push_of_some _ (N p hp).1, (N p hp).2⟩) hJ ?_ ?_
  · intro hm
    rcases List.mem_cons.mp hm with e | hm
    · exact absurd F.ns.lt (e ▸ Nat.lt_irrefl _)
    · exact hL (List.mem_singleton.mp hm).symm
  · intro p hp e
    exact absurd (Heap.lt_size (N p hp).1) (e ▸ Nat.lt_irrefl _)
  · intro i v m₁ h tk own hi hP hj F₁ N₁
    exact turn v m₁ h tk own (List.mem_of_getElem? (by simpa using hP)) hj F₁ N₁
  · intro m₁ h tk hj F₁ N₁
    exact done m₁ h tk hj F₁ N₁
end
/-- only the loop's own name is turned -/
def JOne (x : Str) (m₀ m : Str → Option Value) : Prop := ∃ kv, m = fun y => if y = x then kv else m₀ y
theorem JOne.start {x : Str} {m₀ : Str → Option Value} : JOne x m₀ m₀ := ⟨m₀ x, by funext y; by_cases h : y = x <;> simp [h]⟩
theorem JOne.step {x : Str} {m₀ : Str → Option Value} {kv : Option Value} : JOne x m₀ (fun y => if y = x then kv else m₀ y) := ⟨kv, rfl⟩
theorem twice {x : Str} {m₀ : Str → Option Value} {kv v : Option Value} : (fun y => if y = x then v else (fun y => if y = x then kv else m₀ y) y) = fun y => if y = x then v else m₀ y := by
  funext y; by_cases h : y = x <;> simp [h]
section
variable {w : World} {dp un : Nat} {gd : Option (List Code)} {cn : Str} {cs : Scope} {a : Addr} {ccd : Value} {cl : List (Str × Addr)} {outer : List Env} {A₀ : Around} {base h₀ : Heap} {L : Addr} {m : Str → Option Value} {news : List (Addr × Obj)} {s : Shared} {Q E : Value → Shared → Prop} {p : Program} {loose : List Str} {mean : ExcName → Option Value} {mg mb : Str → Option Value}
variable (B : Below A₀ base outer h₀) (F : Fr h₀ L s.heap m) (X : (hd.heap_39 w.params).In h₀) (N : News h₀ L s.heap news) (T : Top p loose mean mg mb h₀) (hk : cs.kind = .function)
include B F X N T hk
theorem law_draw_spec (hd : dp + 1 < recursionLimit) {l : Addr} {vs : List Value} {ns : List Int} {i n : Int} {t1 t2 : Tok} (hl : base.IsList l vs.toArray) (hi : IntsAre vs ns) (hlen : ns.length ≤ 63)
  (hs : Side (0 ≤ i ∧ i ≤ 100 ∧ 1 ≤ n ∧ n ≤ 100))
  (hret : ∀ v, 0 ≤ v → v < n → RetI h₀ L m news s Q v) :
  wpAny (model rw_aa5009_01.row.prog w) (ktrTop dp un gd cn cs L a ccd cl outer) (call (.ref 164) [.ref l, .int i t1, .int n t2]) Q E s := by
  revert X; k_fill; intro X
  obtain ⟨h1, h2, h3, h4⟩ := hs.out
  have hfm : ∀ a, 0 ≤ fmd a n ∧ fmd a n < n := by
    intro a
    rw [fmd_eq (by omega)]
    exact ⟨Int.emod_nonneg _ (by omega), Int.emod_lt_of_pos _ (by omega)⟩
  refine wpAny_call ?_
  walk_at "my enter"
  k_steps
  all_goals first
    | (refine hret _ (hfm _).1 (hfm _).2 _ _ _ (by assumption) (by assumption))
    | (exact Side.mk ⟨by omega, by have := bits_of_lt (a := n) (k := 7) (by omega); omega⟩)
    | (exact Side.mk ⟨by omega, by have := bits_of_lt (a := (ns.length : Int)) (k := 7) (by omega); omega⟩)
    | (refine Side.mk ⟨by have := bits_of_lt (a := 5) (k := 7) (by decide); omega, by have := bits_of_lt (a := i) (k := 7) (by omega); omega⟩)
    | (refine Side.mk ⟨by have := bits_of_lt (a := 7) (k := 7) (by decide); omega, ?_⟩
       rw [fdv_eq (by omega)]
       have e1 : i / (ns.length : Int) ≤ i := Int.ediv_le_self _ h1
       have e2 : 0 ≤ i / (ns.length : Int) := Int.ediv_nonneg h1 (by omega)
       have := bits_of_lt (a := i / (ns.length : Int)) (k := 7) (by omega)
       omega)
end
/-- the form that the law asks for -/
def formOk (x : Mf) (p : Int) : Prop := Wf x ∧ (x.m = 0 ∨ (fmd x.m 2 = 1 ∧ x.b ≤ p))
theorem zero_tup {w : World} {h₀ h : Heap} {L : Addr} {m : Str → Option Value} (F : Fr h₀ L h m) (X : (hd.heap_39 w.params).In h₀) :
    ∃ t1 t2 t3 t4, IsTup h 56 (([.int 0 t1, .int 0 t2, .int 0 t3, .int 0 t4] : List Value).toArray) := ⟨_, _, _, _, _, (X.keeps F.keep) 56 _ rfl, rfl, _, rfl⟩
theorem zero_ne {w : World} {h₀ h : Heap} {L : Addr} {m : Str → Option Value} (F : Fr h₀ L h m) (X : (hd.heap_39 w.params).In h₀) : (56 : Addr) ≠ L :=
  Nat.ne_of_lt (Nat.lt_of_lt_of_le (Heap.lt_size (X 56 _ rfl)) F.above)
theorem retB {h₀ h' : Heap} {L : Addr} {m : Str → Option Value} {news all : List (Addr × Obj)} {s : Shared} {Q : Value → Shared → Prop} {b : Bool} {tk' : Nat}
    (hret : ∀ h' tk', Fr h₀ L h' m → News h₀ L h' news → Q (.bool true) { s with heap := h', toks := tk' }) (e : b = true) (F : Fr h₀ L h' m) (N : News h₀ L h' all) (hs : ∀ p ∈ news, p ∈ all) : Q (.bool b) { s with heap := h', toks := tk' } := by
  subst e; exact hret h' tk' F (News.sub N hs)
theorem side2 : Side ((2 : Int) ≠ 0 ∧ bits 2 ≤ 9000) := Side.mk ⟨by decide, by have := bits_of_lt (a := 2) (k := 2) (by decide); omega⟩
end Mine

namespace Mine
open PySem.Challenge (rw_aa5009_01)
local macro_rules | `(tactic| walk_at "truthy int") => `(tactic| (with_reducible (first | refine truthy_ne (by assumption) ?_ | refine truthy_eq (by assumption) ?_ | refine truthy_imp (by assumption) (by assumption) ?_)))
local macro_rules | `(tactic| walk_at "my ifs") => `(tactic| repeat (first | (with_reducible rfl) | (refine Eq.trans ?_ (if_pos (by first | assumption | omega)).symm) | (refine Eq.trans ?_ (if_neg (by first | assumption | omega)).symm)))
local macro_rules | `(tactic| walk_at "binaryOp LShift int int") => `(tactic| ((with_reducible refine r_lshift ?_ ?_); rotate_left; (try dsimp only)))
local macro_rules | `(tactic| walk_at "inplaceOp LShift int int") => `(tactic| ((with_reducible refine r_ilshift ?_ ?_); rotate_left; (try dsimp only)))
local macro_rules | `(tactic| walk_at "binaryOp RShift int int") => `(tactic| ((with_reducible refine r_rshift ?_ ?_); rotate_left; (try dsimp only)))
local macro_rules | `(tactic| walk_at "inplaceOp RShift int int") => `(tactic| ((with_reducible refine r_irshift ?_ ?_); rotate_left; (try dsimp only)))
local macro_rules | `(tactic| walk_at "binaryOp BitAnd int int") => `(tactic| ((with_reducible refine r_and ?_); (try dsimp only)))
local macro_rules | `(tactic| walk_at "binaryOp BitXor int int") => `(tactic| ((with_reducible refine r_xor ?_); (try dsimp only)))
local macro_rules | `(tactic| walk_at "inplaceOp BitXor int int") => `(tactic| ((with_reducible refine r_ixor ?_); (try dsimp only)))
local macro_rules | `(tactic| walk_at "binaryOp Mult int int") => `(tactic| ((with_reducible refine r_mul ?_ ?_); rotate_left; (try dsimp only)))
local macro_rules | `(tactic| walk_at "binaryOp FloorDiv int int") => `(tactic| ((with_reducible refine r_fdiv ?_ ?_); rotate_left; (try dsimp only)))
local macro_rules | `(tactic| walk_at "inplaceOp FloorDiv int int") => `(tactic| ((with_reducible refine r_ifdiv ?_ ?_); rotate_left; (try dsimp only)))
local macro_rules | `(tactic| walk_at "binaryOp Mod int int") => `(tactic| ((with_reducible refine r_mod ?_ ?_); rotate_left; (try dsimp only)))
local macro_rules | `(tactic| walk_at "binaryOp Pow int int") => `(tactic| ((with_reducible refine r_pow ?_ ?_); rotate_left; (try dsimp only)))
local macro_rules | `(tactic| walk_at "call builtin:int.bit_length") => `(tactic| ((with_reducible refine r_bits ?_); (try dsimp only)))
local macro_rules | `(tactic| walk_at "eval Call Name cons nil") => `(tactic| (k_dflt (refine Call_ ?_)))
local macro_rules | `(tactic| walk_at "call ref cons nil") => `(tactic| (k_dflt (refine' trailing_spec ?k1 ?k2 ?k3 ?k4 ?k5 ?k6 ?k7 ?_; (case k1 => k_asm); (case k2 => k_asm); (case k3 => k_asm); (case k4 => k_asm); (case k5 => k_asm); (case k6 => first | exact rfl | assumption); (case k7 => first | omega | ktr_room); (intro t9 h9 tk9 F9 N9; (try dsimp only); (try k_fold)))))
local macro_rules | `(tactic| walk_at "my sub") => `(tactic| (repeat (first | exact sub_refl | refine sub_cons ?_ | refine sub_app ?_)))
local macro_rules | `(tactic| walk_at "my has") => `(tactic| (refine Has.mono (by assumption) ?_; walk_at "my sub"))
local macro_rules | `(tactic| walk_at "my end") => `(tactic| first
  | ((rename RetT _ _ _ _ _ _ _ => hR'); first
      | (refine retNew hR' ?_ (by assumption) (by assumption) (by walk_at "my sub"))
      | (refine retZero hR' ?_ (by assumption) (by assumption) (by walk_at "my sub"))
      | (refine retT hR' ?_ (by assumption) (by assumption) (by walk_at "my has") (by walk_at "my sub")))
  | ((rename RetI _ _ _ _ _ _ _ => hR'); refine retI hR' ?_ (by assumption) (News.sub (by assumption) (by walk_at "my sub")))
  | ((rename RetP _ _ _ _ _ _ _ _ => hR'); refine retP hR' ?_ ?_ (by assumption) (by assumption) (by walk_at "my sub")))
local macro_rules | `(tactic| walk_at "my enter") => `(tactic| k_dflt (refine' code_def ?k1 ?k2 ?k3 ?k4 ?k5 ?kA ?kF ?kK ?k6 ?k7 ?k8 ?k9 ?kB ?_ ?c2 ?c3 ?c4 ?c5; (case kA => exact rfl); (case kF => exact rfl); (case kK => assumption); (case k1 => k_asm); (case k2 => k_asm); (case k3 => k_asm); (case k4 => k_asm); (case k5 => k_asm); (case k6 => k_is); (case k7 => k_is); (case k8 => first | omega | ktr_room); (case k9 => first | exact BindsTo.of_eq rfl | exact binds_K (by k_in) rfl (by k_is) rfl rfl rfl); (case c5 => decide); (case kB => exact locs rfl); (case c2 => exact rfl); (case c3 => exact rfl); (case c4 => exact rfl); k_whole; intro g' L' h' FG' F' N' B' X' T'; (try dsimp only); (try k_lift B'); (try k_fold)))
local macro_rules | `(tactic| walk_at "my units") => `(tactic| first | ((try simp only [units_deeper]); (try dsimp only [ktrTop]); omega) | decide | (exact Nat.le_of_ble_eq_true rfl) | ((try simp only [units_deeper, units_caller, cLine]); omega))
local macro_rules | `(tactic| walk_at "my reads") => `(tactic| first
  | (refine' nan_reads ?f ?x; (case f => k_asm); (case x => k_asm); done)
  | (refine' has_reads ?f ?x ?n ?s (Or.inr ⟨rfl, rfl⟩); (case f => k_asm); (case x => k_asm); (case n => k_asm); (case s => exact sub_refl); done)
  | (refine' has_reads ?f ?x ?n ?s ?h; (case h => assumption); (case f => k_asm); (case x => k_asm); (case n => k_asm); (case s => walk_at "my sub"); done)
  | (refine' readsM_of (x := ⟨_, _, _, _⟩) (News.get ?n ?m); (case n => k_asm); (case m => k_mem)))
local macro_rules | `(tactic| walk_at "compareOp Eq ref ref") => `(tactic| (k_dflt (refine' r_eq ?ra ?rb ?ru ?_; (case ra => walk_at "my reads"); (case rb => walk_at "my reads"); (case ru => walk_at "my units")); (try dsimp only)))
local macro_rules | `(tactic| walk_at "compareOp NotEq ref ref") => `(tactic| (k_dflt (refine' r_ne ?ra ?rb ?ru ?_; (case ra => walk_at "my reads"); (case rb => walk_at "my reads"); (case ru => walk_at "my units")); (try dsimp only)))
local macro_rules | `(tactic| walk_at "compareOp Eq ref ref") => `(tactic| (k_dflt (first
  | (refine' r_eq_no ?ra ?rb ?ru ?rn ?_; (case ra => walk_at "my reads"); (case rb => walk_at "my reads"); (case ru => walk_at "my units"); (case rn => assumption))
  | (refine' r_eq_yes ?ra ?rb ?ru ?rn ?rp ?_; (case ra => walk_at "my reads"); (case rb => walk_at "my reads"); (case ru => walk_at "my units"); (case rn => assumption); (case rp => first | exact True.intro | assumption)))))
local macro_rules | `(tactic| walk_at "my steps") => `(tactic| (repeat' (first | (k_unfold; (try dsimp only)) | ((fail_if_success (with_reducible show wpAny _ _ (exec (Stmt.While _ _ _ _) _) _ _ _)); (fail_if_success (with_reducible show wpAny _ _ (exec (Stmt.For _ _ _ _ _) _) _ _ _)); first | walk1 | (dsimp only; walk1)))))
local macro_rules | `(tactic| walk_at "WhileStep2 ret") => `(tactic| (dsimp only [WhileStep2]))
local macro_rules | `(tactic| walk_at "TurnPost ret") => `(tactic| (dsimp only [TurnPost]))
local macro_rules | `(tactic| walk_at "my stepsL") => `(tactic| (repeat' (first | (k_unfold; (try dsimp only)) | ((fail_if_success (with_reducible show wpAny _ _ (exec (Stmt.While _ _ _ _) _) _ _ _)); (fail_if_success (with_reducible show wpAny _ _ (exec (Stmt.For _ _ _ _ _) _) _ _ _)); (fail_if_success (with_reducible show wpAny _ _ (exec (Stmt.If _ _ _ _) _) _ _ _)); (fail_if_success (with_reducible show wpAny _ _ (pyIter (Value.ref _)) _ _ _)); first | walk1 | (dsimp only; walk1)))))
local macro_rules | `(tactic| walk_at "storeName") => `(tactic| (k_dflt (refine' storeX_L ?F ?N ?_ ?a ?b; (case b => exact kind_dec (by decide +kernel)); (case F => k_asm); (case N => k_asm); (case a => rfl); k_whole; intro h' F' N'; (try k_sweep))))
local macro_rules | `(tactic| walk_at "spliced") => `(tactic| (k_dflt (first | refine spliced_more ?_ | (refine spliced_none ?_; (try dsimp only)))))
local macro_rules | `(tactic| walk_at "exec Assign") => `(tactic| ((with_reducible show wpAny _ _ (exec (Stmt.Assign [Expr.Name _ _] _ _) _) _ _ _); k_dflt (refine wpAny_Assign_Name ?_)))
local macro_rules | `(tactic| walk_at "isTrue") => `(tactic| (k_dflt (refine isTrue_plain ?_)))
local macro_rules | `(tactic| walk_at "eval Name") => `(tactic| (k_dflt (refine' nameX_K ?F ?X ?T ?e ?_ ?a ?b; (case b => exact kind_dec (by decide +kernel)); (case F => k_asm); (case X => k_asm); (case T => k_asm); (case a => rfl); (case e => k_is); k_whole)))
local macro_rules | `(tactic| walk_at "eval Name") => `(tactic| (k_dflt (refine' nameX_L ?F ?v ?_ ?a ?b; (case b => exact kind_dec (by decide +kernel)); (case F => k_asm); (case a => rfl); (case v => rfl); k_whole)))
section
variable {w : World} {dp un : Nat} {gd : Option (List Code)} {cn : Str} {cs : Scope} {a : Addr} {ccd : Value} {cl : List (Str × Addr)} {outer : List Env} {A₀ : Around} {base h₀ : Heap} {L : Addr} {m : Str → Option Value} {news : List (Addr × Obj)} {s : Shared} {Q E : Value → Shared → Prop} {p : Program} {loose : List Str} {mean : ExcName → Option Value} {mg mb : Str → Option Value}
variable (B : Below A₀ base outer h₀) (F : Fr h₀ L s.heap m) (X : (hd.heap_39 w.params).In h₀) (N : News h₀ L s.heap news) (T : Top p loose mean mg mb h₀) (hk : cs.kind = .function)
include B F X N T hk
theorem law_form_spec (hd : dp + 1 < recursionLimit) (hu : un + 100 < cLine) {r1 : Addr} {x : Mf} {p1 : Int} {t1 : Tok} (hx : Has news r1 x) (hs : Side (formOk x p1))
  (hret : ∀ h' tk', Fr h₀ L h' m → News h₀ L h' news → Q (.bool true) { s with heap := h', toks := tk' }) :
  wpAny (model rw_aa5009_01.row.prog w) (ktrTop dp un gd cn cs L a ccd cl outer) (call (.ref 171) [.ref r1, .int p1 t1]) Q E s := by
  revert X; k_fill; intro X
  have hx0 := hx
  obtain ⟨W, hf⟩ := hs.out
  obtain ⟨x1, x2, x3, x4⟩ := x
  have w1 := W.s; have w2 := W.m; have w3 := W.b; have w4 := W.z
  dsimp only at hf w1 w2 w3 w4
  have n2 : x2 = 0 → Mf.same ⟨x1, x2, x3, x4⟩ ⟨0, 0, 0, 0⟩ := fun h => Mf.same_iff.mpr (w4 h)
  rcases hx with ⟨u1, u2, u3, u4, c, hx⟩ | ⟨rfl, hx1⟩
  · dsimp only [tupO] at hx
    refine wpAny_call ?_
    walk_at "my enter"
    walk_at "my steps"
    · (rename Fr _ _ _ _ => lF')
      (with_unfolding_all refine' For_invVF lF' ?k1 ?k2 ?_; (case k1 => exact rfl); (case k2 => exact rfl))
      walk_at "my steps"
      (rename Fr _ _ _ _ => lF2); (rename News _ _ _ _ => lN2)
      refine iter_tup (JOne (Str.ofString "k") _) rfl (News.isTup lN2 hx) (lN2 _ hx).2.1 lF2 lN2 JOne.start (fun v m1 h1 tk1 own1 hv hj F1 N1 => ?_) (fun m1 h1 tk1 hj F1 N1 => ?_)
      · obtain ⟨kv, rfl⟩ := hj
        rw [twice] at F1
        have hv2 : ∃ n t, v = Value.int n t := by
          simp only [List.mem_cons, List.not_mem_nil, or_false] at hv
          rcases hv with rfl | rfl | rfl | rfl <;> exact ⟨_, _, rfl⟩
        obtain ⟨n9, t9, rfl⟩ := hv2
        (try k_fold)
        walk_at "my steps"
        all_goals first
          | (exact ⟨_, _, _, _, rfl, by assumption, by assumption, sub_refl, JOne.step⟩)
          | skip
      · obtain ⟨kv, rfl⟩ := hj
        (try k_fold)
        walk_at "my steps"
        all_goals first
          | (refine retB hret ?_ (by assumption) (by assumption) (by walk_at "my sub"); first | rfl | (exact decide_eq_true (by omega)) | (rcases w1 with rfl | rfl <;> rfl) | (simp; done))
          | exact side2
          | (exact Side.mk (by omega))
          | (exfalso; omega)
          | skip
    all_goals first
      | (refine retB hret ?_ (by assumption) (by assumption) (by walk_at "my sub"); first | rfl | (exact decide_eq_true (by omega)) | (rcases w1 with rfl | rfl <;> rfl) | (simp; done))
          | exact side2
      | (exfalso; omega)
      | skip
  · cases hx1
    refine wpAny_call ?_
    walk_at "my enter"
    walk_at "my steps"
    · (rename Fr _ _ _ _ => lF')
      (with_unfolding_all refine' For_invVF lF' ?k1 ?k2 ?_; (case k1 => exact rfl); (case k2 => exact rfl))
      walk_at "my steps"
      (rename Fr _ _ _ _ => lF2); (rename News _ _ _ _ => lN2)
      obtain ⟨q1, q2, q3, q4, hz⟩ := zero_tup lF2 (by assumption)
      refine iter_tup (JOne (Str.ofString "k") _) rfl hz (zero_ne lF2 (by assumption)) lF2 lN2 JOne.start (fun v m1 h1 tk1 own1 hv hj F1 N1 => ?_) (fun m1 h1 tk1 hj F1 N1 => ?_)
      · obtain ⟨kv, rfl⟩ := hj
        rw [twice] at F1
        have hv2 : ∃ n t, v = Value.int n t := by
          simp only [List.mem_cons, List.not_mem_nil, or_false] at hv
          rcases hv with rfl | rfl | rfl | rfl <;> exact ⟨_, _, rfl⟩
        obtain ⟨n9, t9, rfl⟩ := hv2
        (try k_fold)
        walk_at "my steps"
        all_goals first
          | (exact ⟨_, _, _, _, rfl, by assumption, by assumption, sub_refl, JOne.step⟩)
          | skip
      · obtain ⟨kv, rfl⟩ := hj
        (try k_fold)
        walk_at "my steps"
        all_goals first
          | (refine retB hret ?_ (by assumption) (by assumption) (by walk_at "my sub"); first | rfl | (exact decide_eq_true (by omega)) | (rcases w1 with rfl | rfl <;> rfl) | (simp; done))
          | exact side2
          | (exact Side.mk (by omega))
          | (exfalso; omega)
          | skip
    all_goals first
      | (refine retB hret ?_ (by assumption) (by assumption) (by walk_at "my sub"); first | rfl | (exact decide_eq_true (by omega)) | (rcases w1 with rfl | rfl <;> rfl) | (simp; done))
          | exact side2
      | (exfalso; omega)
      | skip
end
def sgn (x : Mf) : Int := if x.s = 0 then x.m else -x.m
def valN (x : Mf) : Int := if x.e < 0 then sgn x else shl (sgn x) x.e
def valD (x : Mf) : Int := if x.e < 0 then shl 1 (-x.e) else 1
def prN (n d e : Int) : Int := if e < 0 then (if d < 0 then -n else n) else shl (if d < 0 then -n else n) e
def prD (d e : Int) : Int := if e < 0 then shl (if d < 0 then -d else d) (-e) else (if d < 0 then -d else d)
end Mine

namespace Mine
local macro_rules | `(tactic| walk_at "pad 0") => `(tactic| skip)
open PySem.Challenge (rw_aa5009_01)
local macro_rules | `(tactic| walk_at "truthy int") => `(tactic| (with_reducible (first | refine truthy_ne (by assumption) ?_ | refine truthy_eq (by assumption) ?_ | refine truthy_imp (by assumption) (by assumption) ?_)))
local macro_rules | `(tactic| walk_at "my ifs") => `(tactic| repeat (first | (with_reducible rfl) | (refine Eq.trans ?_ (if_pos (by first | assumption | omega)).symm) | (refine Eq.trans ?_ (if_neg (by first | assumption | omega)).symm)))
local macro_rules | `(tactic| walk_at "binaryOp LShift int int") => `(tactic| ((with_reducible refine r_lshift ?_ ?_); rotate_left; (try dsimp only)))
local macro_rules | `(tactic| walk_at "inplaceOp LShift int int") => `(tactic| ((with_reducible refine r_ilshift ?_ ?_); rotate_left; (try dsimp only)))
local macro_rules | `(tactic| walk_at "binaryOp RShift int int") => `(tactic| ((with_reducible refine r_rshift ?_ ?_); rotate_left; (try dsimp only)))
local macro_rules | `(tactic| walk_at "inplaceOp RShift int int") => `(tactic| ((with_reducible refine r_irshift ?_ ?_); rotate_left; (try dsimp only)))
local macro_rules | `(tactic| walk_at "binaryOp BitAnd int int") => `(tactic| ((with_reducible refine r_and ?_); (try dsimp only)))
local macro_rules | `(tactic| walk_at "binaryOp BitXor int int") => `(tactic| ((with_reducible refine r_xor ?_); (try dsimp only)))
local macro_rules | `(tactic| walk_at "inplaceOp BitXor int int") => `(tactic| ((with_reducible refine r_ixor ?_); (try dsimp only)))
local macro_rules | `(tactic| walk_at "binaryOp Mult int int") => `(tactic| ((with_reducible refine r_mul ?_ ?_); rotate_left; (try dsimp only)))
local macro_rules | `(tactic| walk_at "binaryOp FloorDiv int int") => `(tactic| ((with_reducible refine r_fdiv ?_ ?_); rotate_left; (try dsimp only)))
local macro_rules | `(tactic| walk_at "inplaceOp FloorDiv int int") => `(tactic| ((with_reducible refine r_ifdiv ?_ ?_); rotate_left; (try dsimp only)))
local macro_rules | `(tactic| walk_at "binaryOp Mod int int") => `(tactic| ((with_reducible refine r_mod ?_ ?_); rotate_left; (try dsimp only)))
local macro_rules | `(tactic| walk_at "binaryOp Pow int int") => `(tactic| ((with_reducible refine r_pow ?_ ?_); rotate_left; (try dsimp only)))
local macro_rules | `(tactic| walk_at "call builtin:int.bit_length") => `(tactic| ((with_reducible refine r_bits ?_); (try dsimp only)))
local macro_rules | `(tactic| walk_at "eval Call Name cons nil") => `(tactic| (k_dflt (refine Call_ ?_)))
local macro_rules | `(tactic| walk_at "call ref cons nil") => `(tactic| (k_dflt (refine' trailing_spec ?k1 ?k2 ?k3 ?k4 ?k5 ?k6 ?k7 ?_; (case k1 => k_asm); (case k2 => k_asm); (case k3 => k_asm); (case k4 => k_asm); (case k5 => k_asm); (case k6 => first | exact rfl | assumption); (case k7 => first | omega | ktr_room); (intro t9 h9 tk9 F9 N9; (try dsimp only); (try k_fold)))))
local macro_rules | `(tactic| walk_at "my sub") => `(tactic| (repeat (first | exact sub_refl | refine sub_cons ?_ | refine sub_app ?_)))
local macro_rules | `(tactic| walk_at "my has") => `(tactic| (refine Has.mono (by assumption) ?_; walk_at "my sub"))
local macro_rules | `(tactic| walk_at "my end") => `(tactic| first
  | ((rename RetT _ _ _ _ _ _ _ => hR'); first
      | (refine retNew hR' ?_ (by assumption) (by assumption) (by walk_at "my sub"))
      | (refine retZero hR' ?_ (by assumption) (by assumption) (by walk_at "my sub"))
      | (refine retT hR' ?_ (by assumption) (by assumption) (by walk_at "my has") (by walk_at "my sub")))
  | ((rename RetI _ _ _ _ _ _ _ => hR'); refine retI hR' ?_ (by assumption) (News.sub (by assumption) (by walk_at "my sub")))
  | ((rename RetP _ _ _ _ _ _ _ _ => hR'); refine retP hR' ?_ ?_ (by assumption) (by assumption) (by walk_at "my sub")))
local macro_rules | `(tactic| walk_at "my enter") => `(tactic| k_dflt (refine' code_def ?k1 ?k2 ?k3 ?k4 ?k5 ?kA ?kF ?kK ?k6 ?k7 ?k8 ?k9 ?kB ?_ ?c2 ?c3 ?c4 ?c5; (case kA => exact rfl); (case kF => exact rfl); (case kK => assumption); (case k1 => k_asm); (case k2 => k_asm); (case k3 => k_asm); (case k4 => k_asm); (case k5 => k_asm); (case k6 => k_is); (case k7 => k_is); (case k8 => first | omega | ktr_room); (case k9 => first | exact BindsTo.of_eq rfl | exact binds_K (by k_in) rfl (by k_is) rfl rfl rfl); (case c5 => decide); (case kB => exact locs rfl); (case c2 => exact rfl); (case c3 => exact rfl); (case c4 => exact rfl); k_whole; intro g' L' h' FG' F' N' B' X' T'; (try dsimp only); (try k_lift B'); (try k_fold)))
local macro_rules | `(tactic| walk_at "my units") => `(tactic| first | ((try simp only [units_deeper]); (try dsimp only [ktrTop]); omega) | decide | (exact Nat.le_of_ble_eq_true rfl) | ((try simp only [units_deeper, units_caller, cLine]); omega))
local macro_rules | `(tactic| walk_at "my reads") => `(tactic| first
  | (refine' nan_reads ?f ?x; (case f => k_asm); (case x => k_asm); done)
  | (refine' has_reads ?f ?x ?n ?s (Or.inr ⟨rfl, rfl⟩); (case f => k_asm); (case x => k_asm); (case n => k_asm); (case s => exact sub_refl); done)
  | (refine' has_reads ?f ?x ?n ?s ?h; (case h => assumption); (case f => k_asm); (case x => k_asm); (case n => k_asm); (case s => walk_at "my sub"); done)
  | (refine' readsM_of (x := ⟨_, _, _, _⟩) (News.get ?n ?m); (case n => k_asm); (case m => k_mem)))
local macro_rules | `(tactic| walk_at "compareOp Eq ref ref") => `(tactic| (k_dflt (refine' r_eq ?ra ?rb ?ru ?_; (case ra => walk_at "my reads"); (case rb => walk_at "my reads"); (case ru => walk_at "my units")); (try dsimp only)))
local macro_rules | `(tactic| walk_at "compareOp NotEq ref ref") => `(tactic| (k_dflt (refine' r_ne ?ra ?rb ?ru ?_; (case ra => walk_at "my reads"); (case rb => walk_at "my reads"); (case ru => walk_at "my units")); (try dsimp only)))
local macro_rules | `(tactic| walk_at "compareOp Eq ref ref") => `(tactic| (k_dflt (first
  | (refine' r_eq_no ?ra ?rb ?ru ?rn ?_; (case ra => walk_at "my reads"); (case rb => walk_at "my reads"); (case ru => walk_at "my units"); (case rn => assumption))
  | (refine' r_eq_yes ?ra ?rb ?ru ?rn ?rp ?_; (case ra => walk_at "my reads"); (case rb => walk_at "my reads"); (case ru => walk_at "my units"); (case rn => assumption); (case rp => first | exact True.intro | assumption)))))
local macro_rules | `(tactic| walk_at "my steps") => `(tactic| (repeat' (first | (k_unfold; (try dsimp only)) | ((fail_if_success (with_reducible show wpAny _ _ (exec (Stmt.While _ _ _ _) _) _ _ _)); (fail_if_success (with_reducible show wpAny _ _ (exec (Stmt.For _ _ _ _ _) _) _ _ _)); first | walk1 | (dsimp only; walk1)))))
local macro_rules | `(tactic| walk_at "WhileStep2 ret") => `(tactic| (dsimp only [WhileStep2]))
local macro_rules | `(tactic| walk_at "TurnPost ret") => `(tactic| (dsimp only [TurnPost]))
local macro_rules | `(tactic| walk_at "my stepsL") => `(tactic| (repeat' (first | (k_unfold; (try dsimp only)) | ((fail_if_success (with_reducible show wpAny _ _ (exec (Stmt.While _ _ _ _) _) _ _ _)); (fail_if_success (with_reducible show wpAny _ _ (exec (Stmt.For _ _ _ _ _) _) _ _ _)); (fail_if_success (with_reducible show wpAny _ _ (exec (Stmt.If _ _ _ _) _) _ _ _)); (fail_if_success (with_reducible show wpAny _ _ (pyIter (Value.ref _)) _ _ _)); first | walk1 | (dsimp only; walk1)))))
local macro_rules | `(tactic| walk_at "storeName") => `(tactic| (k_dflt (refine' storeX_L ?F ?N ?_ ?a ?b; (case b => exact kind_dec (by decide +kernel)); (case F => k_asm); (case N => k_asm); (case a => rfl); k_whole; intro h' F' N'; (try k_sweep))))
local macro_rules | `(tactic| walk_at "spliced") => `(tactic| (k_dflt (first | refine spliced_more ?_ | (refine spliced_none ?_; (try dsimp only)))))
local macro_rules | `(tactic| walk_at "exec Assign") => `(tactic| ((with_reducible show wpAny _ _ (exec (Stmt.Assign [Expr.Name _ _] _ _) _) _ _ _); k_dflt (refine wpAny_Assign_Name ?_)))
local macro_rules | `(tactic| walk_at "isTrue") => `(tactic| (k_dflt (refine isTrue_plain ?_)))
local macro_rules | `(tactic| walk_at "eval Name") => `(tactic| (k_dflt (refine' nameX_K ?F ?X ?T ?e ?_ ?a ?b; (case b => exact kind_dec (by decide +kernel)); (case F => k_asm); (case X => k_asm); (case T => k_asm); (case a => rfl); (case e => k_is); k_whole)))
local macro_rules | `(tactic| walk_at "eval Name") => `(tactic| (k_dflt (refine' nameX_L ?F ?v ?_ ?a ?b; (case b => exact kind_dec (by decide +kernel)); (case F => k_asm); (case a => rfl); (case v => rfl); k_whole)))
section
variable {w : World} {dp un : Nat} {gd : Option (List Code)} {cn : Str} {cs : Scope} {a : Addr} {ccd : Value} {cl : List (Str × Addr)} {outer : List Env} {A₀ : Around} {base h₀ : Heap} {L : Addr} {m : Str → Option Value} {news : List (Addr × Obj)} {s : Shared} {Q E : Value → Shared → Prop} {p : Program} {loose : List Str} {mean : ExcName → Option Value} {mg mb : Str → Option Value}
variable (B : Below A₀ base outer h₀) (F : Fr h₀ L s.heap m) (X : (hd.heap_39 w.params).In h₀) (N : News h₀ L s.heap news) (T : Top p loose mean mg mb h₀) (hk : cs.kind = .function)
include B F X N T hk
theorem law_value_spec (hd : dp + 1 < recursionLimit) {r1 : Addr} {x : Mf} (hx : Has news r1 x) (hs : Side (Wf x))
  (hret : RetP h₀ L m news s Q (valN x) (valD x)) :
  wpAny (model rw_aa5009_01.row.prog w) (ktrTop dp un gd cn cs L a ccd cl outer) (call (.ref 178) [.ref r1]) Q E s := by
  revert X; k_fill; intro X
  have W := hs.out
  obtain ⟨x1, x2, x3, x4⟩ := x
  have w1 := W.s; have w3 := W.b; have w5 := W.sz; have w6 := W.e1; have w7 := W.e2
  dsimp only at w1 w3 w5 w6 w7
  have o1 := bits_one
  have o2 := bits_neg x2
  rcases hx with ⟨u1, u2, u3, u4, c, hx⟩ | ⟨rfl, hx1⟩
  · dsimp only [tupO] at hx
    refine wpAny_call ?_
    walk_at "my enter"
    k_steps
    all_goals first
      | (exact Side.mk (by omega))
      | (exfalso; omega)
      | (walk_at "my end" <;> (dsimp only [valN, valD, sgn]; (first | simp only [if_pos (show x1 = 0 by assumption)] | simp only [if_neg (show ¬ x1 = 0 by assumption)] | skip); walk_at "my ifs"; done))
      | skip
  · cases hx1
    refine wpAny_call ?_
    walk_at "my enter"
    k_steps
    all_goals first
      | (exact Side.mk (by have := bits_zero; omega))
      | (walk_at "my end" <;> rfl)
      | skip
end
section
variable {w : World} {dp un : Nat} {gd : Option (List Code)} {cn : Str} {cs : Scope} {a : Addr} {ccd : Value} {cl : List (Str × Addr)} {outer : List Env} {A₀ : Around} {base h₀ : Heap} {L : Addr} {m : Str → Option Value} {news : List (Addr × Obj)} {s : Shared} {Q E : Value → Shared → Prop} {p : Program} {loose : List Str} {mean : ExcName → Option Value} {mg mb : Str → Option Value}
variable (B : Below A₀ base outer h₀) (F : Fr h₀ L s.heap m) (X : (hd.heap_39 w.params).In h₀) (N : News h₀ L s.heap news) (T : Top p loose mean mg mb h₀) (hk : cs.kind = .function)
include B F X N T hk
theorem law_pair_spec (hd : dp + 1 < recursionLimit) {n d e : Int} {t1 t2 t3 : Tok} (hs : Side (bits n ≤ 10000 ∧ bits d ≤ 10000 ∧ -20000 ≤ e ∧ e ≤ 20000))
  (hret : RetP h₀ L m news s Q (prN n d e) (prD d e)) :
  wpAny (model rw_aa5009_01.row.prog w) (ktrTop dp un gd cn cs L a ccd cl outer) (call (.ref 185) [.int n t1, .int d t2, .int e t3]) Q E s := by
  revert X; k_fill; intro X
  obtain ⟨h1, h2, h3, h4⟩ := hs.out
  have o2 := bits_neg n
  have o3 := bits_neg d
  refine wpAny_call ?_
  walk_at "my enter"
  k_steps
  all_goals first
    | (exact Side.mk (by omega))
    | (exfalso; omega)
    | (walk_at "my end" <;> (dsimp only [prN, prD]; (first | simp only [if_pos (show d < 0 by omega)] | simp only [if_neg (show ¬ d < 0 by omega)]); walk_at "my ifs"; done))
    | skip
end
end Mine

namespace Mine
open PySem.Challenge (rw_aa5009_01)
local macro_rules | `(tactic| walk_at "truthy int") => `(tactic| (with_reducible (first | refine truthy_ne (by assumption) ?_ | refine truthy_eq (by assumption) ?_ | refine truthy_imp (by assumption) (by assumption) ?_)))
local macro_rules | `(tactic| walk_at "my ifs") => `(tactic| repeat (first | (with_reducible rfl) | (refine Eq.trans ?_ (if_pos (by first | assumption | omega)).symm) | (refine Eq.trans ?_ (if_neg (by first | assumption | omega)).symm)))
local macro_rules | `(tactic| walk_at "binaryOp LShift int int") => `(tactic| ((with_reducible refine r_lshift ?_ ?_); rotate_left; (try dsimp only)))
local macro_rules | `(tactic| walk_at "inplaceOp LShift int int") => `(tactic| ((with_reducible refine r_ilshift ?_ ?_); rotate_left; (try dsimp only)))
local macro_rules | `(tactic| walk_at "binaryOp RShift int int") => `(tactic| ((with_reducible refine r_rshift ?_ ?_); rotate_left; (try dsimp only)))
local macro_rules | `(tactic| walk_at "inplaceOp RShift int int") => `(tactic| ((with_reducible refine r_irshift ?_ ?_); rotate_left; (try dsimp only)))
local macro_rules | `(tactic| walk_at "binaryOp BitAnd int int") => `(tactic| ((with_reducible refine r_and ?_); (try dsimp only)))
local macro_rules | `(tactic| walk_at "binaryOp BitXor int int") => `(tactic| ((with_reducible refine r_xor ?_); (try dsimp only)))
local macro_rules | `(tactic| walk_at "inplaceOp BitXor int int") => `(tactic| ((with_reducible refine r_ixor ?_); (try dsimp only)))
local macro_rules | `(tactic| walk_at "binaryOp Mult int int") => `(tactic| ((with_reducible refine r_mul ?_ ?_); rotate_left; (try dsimp only)))
local macro_rules | `(tactic| walk_at "binaryOp FloorDiv int int") => `(tactic| ((with_reducible refine r_fdiv ?_ ?_); rotate_left; (try dsimp only)))
local macro_rules | `(tactic| walk_at "inplaceOp FloorDiv int int") => `(tactic| ((with_reducible refine r_ifdiv ?_ ?_); rotate_left; (try dsimp only)))
local macro_rules | `(tactic| walk_at "binaryOp Mod int int") => `(tactic| ((with_reducible refine r_mod ?_ ?_); rotate_left; (try dsimp only)))
local macro_rules | `(tactic| walk_at "binaryOp Pow int int") => `(tactic| ((with_reducible refine r_pow ?_ ?_); rotate_left; (try dsimp only)))
local macro_rules | `(tactic| walk_at "call builtin:int.bit_length") => `(tactic| ((with_reducible refine r_bits ?_); (try dsimp only)))
local macro_rules | `(tactic| walk_at "eval Call Name cons nil") => `(tactic| (k_dflt (refine Call_ ?_)))
local macro_rules | `(tactic| walk_at "call ref cons nil") => `(tactic| (k_dflt (refine' trailing_spec ?k1 ?k2 ?k3 ?k4 ?k5 ?k6 ?k7 ?_; (case k1 => k_asm); (case k2 => k_asm); (case k3 => k_asm); (case k4 => k_asm); (case k5 => k_asm); (case k6 => first | exact rfl | assumption); (case k7 => first | omega | ktr_room); (intro t9 h9 tk9 F9 N9; (try dsimp only); (try k_fold)))))
local macro_rules | `(tactic| walk_at "my sub") => `(tactic| (repeat (first | exact sub_refl | refine sub_cons ?_ | refine sub_app ?_)))
local macro_rules | `(tactic| walk_at "my has") => `(tactic| (refine Has.mono (by assumption) ?_; walk_at "my sub"))
local macro_rules | `(tactic| walk_at "my end") => `(tactic| first
  | ((rename RetT _ _ _ _ _ _ _ => hR'); first
      | (refine retNew hR' ?_ (by assumption) (by assumption) (by walk_at "my sub"))
      | (refine retZero hR' ?_ (by assumption) (by assumption) (by walk_at "my sub"))
      | (refine retT hR' ?_ (by assumption) (by assumption) (by walk_at "my has") (by walk_at "my sub")))
  | ((rename RetI _ _ _ _ _ _ _ => hR'); refine retI hR' ?_ (by assumption) (News.sub (by assumption) (by walk_at "my sub")))
  | ((rename RetP _ _ _ _ _ _ _ _ => hR'); refine retP hR' ?_ ?_ (by assumption) (by assumption) (by walk_at "my sub")))
local macro_rules | `(tactic| walk_at "my enter") => `(tactic| k_dflt (refine' code_def ?k1 ?k2 ?k3 ?k4 ?k5 ?kA ?kF ?kK ?k6 ?k7 ?k8 ?k9 ?kB ?_ ?c2 ?c3 ?c4 ?c5; (case kA => exact rfl); (case kF => exact rfl); (case kK => assumption); (case k1 => k_asm); (case k2 => k_asm); (case k3 => k_asm); (case k4 => k_asm); (case k5 => k_asm); (case k6 => k_is); (case k7 => k_is); (case k8 => first | omega | ktr_room); (case k9 => first | exact BindsTo.of_eq rfl | exact binds_K (by k_in) rfl (by k_is) rfl rfl rfl); (case c5 => decide); (case kB => exact locs rfl); (case c2 => exact rfl); (case c3 => exact rfl); (case c4 => exact rfl); k_whole; intro g' L' h' FG' F' N' B' X' T'; (try dsimp only); (try k_lift B'); (try k_fold)))
local macro_rules | `(tactic| walk_at "call builtin:divmod") => `(tactic| (k_dflt (refine' r_divmod ?k1 ?k2 ?_ ?_; (case k1 => k_asm); (case k2 => k_asm)); (rotate_left 1; intro r9 h9 F9 N9; (try dsimp only))))
local macro_rules | `(tactic| walk_at "my units") => `(tactic| first | ((try simp only [units_deeper]); (try dsimp only [ktrTop]); omega) | decide | (exact Nat.le_of_ble_eq_true rfl) | ((try simp only [units_deeper, units_caller, cLine]); omega))
local macro_rules | `(tactic| walk_at "my reads") => `(tactic| first
  | (refine' nan_reads ?f ?x; (case f => k_asm); (case x => k_asm); done)
  | (refine' has_reads ?f ?x ?n ?s (Or.inr ⟨rfl, rfl⟩); (case f => k_asm); (case x => k_asm); (case n => k_asm); (case s => exact sub_refl); done)
  | (refine' has_reads ?f ?x ?n ?s ?h; (case h => assumption); (case f => k_asm); (case x => k_asm); (case n => k_asm); (case s => walk_at "my sub"); done)
  | (refine' readsM_of (x := ⟨_, _, _, _⟩) (News.get ?n ?m); (case n => k_asm); (case m => k_mem)))
local macro_rules | `(tactic| walk_at "compareOp Eq ref ref") => `(tactic| (k_dflt (refine' r_eq ?ra ?rb ?ru ?_; (case ra => walk_at "my reads"); (case rb => walk_at "my reads"); (case ru => walk_at "my units")); (try dsimp only)))
local macro_rules | `(tactic| walk_at "compareOp NotEq ref ref") => `(tactic| (k_dflt (refine' r_ne ?ra ?rb ?ru ?_; (case ra => walk_at "my reads"); (case rb => walk_at "my reads"); (case ru => walk_at "my units")); (try dsimp only)))
local macro_rules | `(tactic| walk_at "compareOp Eq ref ref") => `(tactic| (k_dflt (first
  | (refine' r_eq_no ?ra ?rb ?ru ?rn ?_; (case ra => walk_at "my reads"); (case rb => walk_at "my reads"); (case ru => walk_at "my units"); (case rn => assumption))
  | (refine' r_eq_yes ?ra ?rb ?ru ?rn ?rp ?_; (case ra => walk_at "my reads"); (case rb => walk_at "my reads"); (case ru => walk_at "my units"); (case rn => assumption); (case rp => first | exact True.intro | assumption)))))
local macro_rules | `(tactic| walk_at "call ref cons nil") => `(tactic| (k_dflt (refine' normalize_spec ?k1 ?k2 ?k3 ?k4 ?k5 ?k6 ?k7 ?_ ?_; (case k1 => k_asm); (case k2 => k_asm); (case k3 => k_asm); (case k4 => k_asm); (case k5 => k_asm); (case k6 => first | exact rfl | assumption); (case k7 => first | omega | ktr_room); (rotate_left 1; intro r9 tl9 h9 tk9 F9 N9 H9; (try dsimp only); (try k_fold)))))
local macro_rules | `(tactic| walk_at "assign Tuple") => `(tactic| ((with_reducible show wpAny _ _ (assign (Expr.Tuple _ _ _) _ (Value.ref _)) _ _ _); k_dflt (refine' unpackN_ ?k1 ?k2 (hasT_tup ?kh ?kf ?kx ?kn ?ks) ?k4 ?k5 ?k6 ?_; (case kh => assumption); (case kf => k_asm); (case kn => k_asm); (case k1 => k_asm); (case k2 => k_asm); (case kx => k_asm); (case ks => walk_at "my sub"); (case k4 => exact rfl); (case k5 => exact rfl); (case k6 => exact rfl); k_whole); intro h' F' N'; (try k_sweep)))
local macro_rules | `(tactic| walk_at "storeName") => `(tactic| (k_dflt (refine' storeX_L ?F ?N ?_ ?a ?b; (case b => exact kind_dec (by decide +kernel)); (case F => k_asm); (case N => k_asm); (case a => rfl); k_whole; intro h' F' N'; (try k_sweep))))
local macro_rules | `(tactic| walk_at "spliced") => `(tactic| (k_dflt (first | refine spliced_more ?_ | (refine spliced_none ?_; (try dsimp only)))))
local macro_rules | `(tactic| walk_at "exec Assign") => `(tactic| ((with_reducible show wpAny _ _ (exec (Stmt.Assign [Expr.Name _ _] _ _) _) _ _ _); k_dflt (refine wpAny_Assign_Name ?_)))
local macro_rules | `(tactic| walk_at "isTrue") => `(tactic| (k_dflt (refine isTrue_plain ?_)))
local macro_rules | `(tactic| walk_at "eval Name") => `(tactic| (k_dflt (refine' nameX_K ?F ?X ?T ?e ?_ ?a ?b; (case b => exact kind_dec (by decide +kernel)); (case F => k_asm); (case X => k_asm); (case T => k_asm); (case a => rfl); (case e => k_is); k_whole)))
local macro_rules | `(tactic| walk_at "eval Name") => `(tactic| (k_dflt (refine' nameX_L ?F ?v ?_ ?a ?b; (case b => exact kind_dec (by decide +kernel)); (case F => k_asm); (case a => rfl); (case v => rfl); k_whole)))
section
variable {w : World} {dp un : Nat} {gd : Option (List Code)} {cn : Str} {cs : Scope} {a : Addr} {ccd : Value} {cl : List (Str × Addr)} {outer : List Env} {A₀ : Around} {base h₀ : Heap} {L : Addr} {m : Str → Option Value} {news : List (Addr × Obj)} {s : Shared} {Q E : Value → Shared → Prop} {p : Program} {loose : List Str} {mean : ExcName → Option Value} {mg mb : Str → Option Value}
variable (B : Below A₀ base outer h₀) (F : Fr h₀ L s.heap m) (X : (hd.heap_39 w.params).In h₀) (N : News h₀ L s.heap news) (T : Top p loose mean mg mb h₀) (hk : cs.kind = .function)
include B F X N T hk
theorem mpf_div_spec (hd : dp + 4 < recursionLimit) (hu : un + 100 < cLine) {r1 r2 : Addr} {x y : Mf} {prec : Int} {t3 t4 : Tok} {way : Way} (hx : Has news r1 x) (hy : Has news r2 y) (hs : Side (Wf x ∧ Wf y ∧ y.m ≠ 0 ∧ 1 ≤ prec ∧ prec ≤ 5000))
  (hret : RetT h₀ L m news s Q (divC x y prec way)) :
  wpAny (model rw_aa5009_01.row.prog w) (ktrTop dp un gd cn cs L a ccd cl outer) (call (.ref 149) [.ref r1, .ref r2, .int prec t3, .str way.str t4]) Q E s := by
  revert X; k_fill; intro X
  obtain ⟨W, V, hy2, hs2, hs3⟩ := hs.out
  have el := @extC_lo x y prec
  have eh := @extC_hi x y prec
  obtain ⟨x1, x2, x3, x4⟩ := x
  obtain ⟨y1, y2, y3, y4⟩ := y
  have w1 := W.s; have w2 := W.m; have w3 := W.b; have w4 := W.z; have w5 := W.sz
  have v1 := V.s; have v2 := V.m; have v3 := V.b; have v5 := V.sz
  dsimp only at hret w1 w2 w3 w4 w5 v1 v2 v3 v5 hy2 el eh
  have b2 := bxor01 w1 v1
  have n1 : ¬ Mf.same ⟨y1, y2, y3, y4⟩ ⟨0, 0, 0, 0⟩ := fun h => hy2 h.2.1
  have n4 : ¬ Mf.same ⟨y1, y2, y3, y4⟩ ⟨0, 0, -123, -1⟩ := fun h => hy2 h.2.1
  have n2 : x2 = 0 → Mf.same ⟨x1, x2, x3, x4⟩ ⟨0, 0, 0, 0⟩ := fun h => Mf.same_iff.mpr (w4 h)
  have n3 : True → Mf.same ⟨0, 0, 0, 0⟩ ⟨0, 0, 0, 0⟩ := fun _ => ⟨rfl, rfl, rfl, rfl⟩
  have b5 := bits_nonneg x2
  have b6 := bits_nonneg y2
  have hy' : y2 ≠ 0 ∧ bits y2 ≤ 9000 := ⟨hy2, by omega⟩
  have hsh : ∀ n, 0 ≤ n → n ≤ 20000 → bits (fdv (shl x2 n) y2) ≤ 25000 ∧ 0 ≤ fdv (shl x2 n) y2 := by
    intro n h1 h2
    have c1 := shl_nonneg n w2
    rw [fdv_eq v2]
    have c2 : shl x2 n / y2 ≤ shl x2 n := Int.ediv_le_self _ c1
    have c3 : 0 ≤ shl x2 n / y2 := Int.ediv_nonneg c1 v2
    have c4 := bits_mono (a := shl x2 n / y2) (b := shl x2 n) (by omega)
    have c5 := bd_shl (a := x2) (k := 5000) h1 (by omega)
    exact ⟨by omega, c3⟩
  have hst : ∀ q, bits q ≤ 25000 ∧ 0 ≤ q → bits (shl q 1 + 1) ≤ 25002 ∧ 0 ≤ shl q 1 + 1 := by
    intro q ⟨h1, h2⟩
    have c1 := shl_nonneg 1 h2
    have c2 := bd_shl (a := q) (n := 1) (by omega) h1
    have c3 := bits_add_le (shl q 1) 1
    have c4 := bits_one
    exact ⟨by omega, by omega⟩
  have h5 := hsh 5 (by omega) (by omega)
  have h5' := hst _ h5
  have h6 := hsh (prec - x4 + y4 + 5)
  have h6' := fun a b => hst _ (h6 a b)
  obtain ⟨u1, u2, u3, u4, hx0⟩ := has_T w hx
  obtain ⟨q1, q2, q3, q4, hy0⟩ := has_T w hy
  refine wpAny_call ?_
  walk_at "my enter"
  k_steps
  all_goals first
    | (clear el eh w1 v1 n1 n2 n3 n4 w4 b2; exact Side.mk (by omega))
    | (clear el eh w1 v1 n1 n2 n3 n4 w4; exact Side.mk (by omega))
    | (exact Side.mk (by omega))
    | (exfalso; omega)
    | (exfalso; (have e := congrArg Mf.e (w4 (by assumption))); contradiction)
    | (walk_at "my end"; dsimp only [divC]; (first | rw [el (by omega)] | rw [eh (by omega)] | skip); walk_at "my ifs"; done)
    | (walk_at "my end"; dsimp only [divC]; (first | rw [el (by omega)] | rw [eh (by omega)] | skip); (repeat' (first | contradiction | (with_reducible rfl) | split)); done)
    | skip
end
end Mine

namespace Mine
open PySem.Challenge (rw_aa5009_01)
local macro_rules | `(tactic| walk_at "truthy int") => `(tactic| (with_reducible (first | refine truthy_ne (by assumption) ?_ | refine truthy_eq (by assumption) ?_ | refine truthy_imp (by assumption) (by assumption) ?_)))
local macro_rules | `(tactic| walk_at "my ifs") => `(tactic| repeat (first | (with_reducible rfl) | (refine Eq.trans ?_ (if_pos (by first | assumption | omega)).symm) | (refine Eq.trans ?_ (if_neg (by first | assumption | omega)).symm)))
local macro_rules | `(tactic| walk_at "binaryOp LShift int int") => `(tactic| ((with_reducible refine r_lshift ?_ ?_); rotate_left; (try dsimp only)))
local macro_rules | `(tactic| walk_at "inplaceOp LShift int int") => `(tactic| ((with_reducible refine r_ilshift ?_ ?_); rotate_left; (try dsimp only)))
local macro_rules | `(tactic| walk_at "binaryOp RShift int int") => `(tactic| ((with_reducible refine r_rshift ?_ ?_); rotate_left; (try dsimp only)))
local macro_rules | `(tactic| walk_at "inplaceOp RShift int int") => `(tactic| ((with_reducible refine r_irshift ?_ ?_); rotate_left; (try dsimp only)))
local macro_rules | `(tactic| walk_at "binaryOp BitAnd int int") => `(tactic| ((with_reducible refine r_and ?_); (try dsimp only)))
local macro_rules | `(tactic| walk_at "binaryOp BitXor int int") => `(tactic| ((with_reducible refine r_xor ?_); (try dsimp only)))
local macro_rules | `(tactic| walk_at "inplaceOp BitXor int int") => `(tactic| ((with_reducible refine r_ixor ?_); (try dsimp only)))
local macro_rules | `(tactic| walk_at "binaryOp Mult int int") => `(tactic| ((with_reducible refine r_mul ?_ ?_); rotate_left; (try dsimp only)))
local macro_rules | `(tactic| walk_at "binaryOp FloorDiv int int") => `(tactic| ((with_reducible refine r_fdiv ?_ ?_); rotate_left; (try dsimp only)))
local macro_rules | `(tactic| walk_at "inplaceOp FloorDiv int int") => `(tactic| ((with_reducible refine r_ifdiv ?_ ?_); rotate_left; (try dsimp only)))
local macro_rules | `(tactic| walk_at "binaryOp Mod int int") => `(tactic| ((with_reducible refine r_mod ?_ ?_); rotate_left; (try dsimp only)))
local macro_rules | `(tactic| walk_at "binaryOp Pow int int") => `(tactic| ((with_reducible refine r_pow ?_ ?_); rotate_left; (try dsimp only)))
local macro_rules | `(tactic| walk_at "call builtin:int.bit_length") => `(tactic| ((with_reducible refine r_bits ?_); (try dsimp only)))
local macro_rules | `(tactic| walk_at "eval Call Name cons nil") => `(tactic| (k_dflt (refine Call_ ?_)))
local macro_rules | `(tactic| walk_at "call ref cons nil") => `(tactic| (k_dflt (refine' trailing_spec ?k1 ?k2 ?k3 ?k4 ?k5 ?k6 ?k7 ?_; (case k1 => k_asm); (case k2 => k_asm); (case k3 => k_asm); (case k4 => k_asm); (case k5 => k_asm); (case k6 => first | exact rfl | assumption); (case k7 => first | omega | ktr_room); (intro t9 h9 tk9 F9 N9; (try dsimp only); (try k_fold)))))
local macro_rules | `(tactic| walk_at "my sub") => `(tactic| (repeat (first | exact sub_refl | refine sub_cons ?_ | refine sub_app ?_)))
local macro_rules | `(tactic| walk_at "my has") => `(tactic| (refine Has.mono (by assumption) ?_; walk_at "my sub"))
local macro_rules | `(tactic| walk_at "my end") => `(tactic| first
  | ((rename RetT _ _ _ _ _ _ _ => hR'); first
      | (refine retNew hR' ?_ (by assumption) (by assumption) (by walk_at "my sub"))
      | (refine retZero hR' ?_ (by assumption) (by assumption) (by walk_at "my sub"))
      | (refine retT hR' ?_ (by assumption) (by assumption) (by walk_at "my has") (by walk_at "my sub")))
  | ((rename RetI _ _ _ _ _ _ _ => hR'); refine retI hR' ?_ (by assumption) (News.sub (by assumption) (by walk_at "my sub")))
  | ((rename RetP _ _ _ _ _ _ _ _ => hR'); refine retP hR' ?_ ?_ (by assumption) (by assumption) (by walk_at "my sub")))
local macro_rules | `(tactic| walk_at "my enter") => `(tactic| k_dflt (refine' code_def ?k1 ?k2 ?k3 ?k4 ?k5 ?kA ?kF ?kK ?k6 ?k7 ?k8 ?k9 ?kB ?_ ?c2 ?c3 ?c4 ?c5; (case kA => exact rfl); (case kF => exact rfl); (case kK => assumption); (case k1 => k_asm); (case k2 => k_asm); (case k3 => k_asm); (case k4 => k_asm); (case k5 => k_asm); (case k6 => k_is); (case k7 => k_is); (case k8 => first | omega | ktr_room); (case k9 => first | exact BindsTo.of_eq rfl | exact binds_K (by k_in) rfl (by k_is) rfl rfl rfl); (case c5 => decide); (case kB => exact locs rfl); (case c2 => exact rfl); (case c3 => exact rfl); (case c4 => exact rfl); k_whole; intro g' L' h' FG' F' N' B' X' T'; (try dsimp only); (try k_lift B'); (try k_fold)))
local macro_rules | `(tactic| walk_at "call builtin:divmod") => `(tactic| (k_dflt (refine' r_divmod ?k1 ?k2 ?_ ?_; (case k1 => k_asm); (case k2 => k_asm)); (rotate_left 1; intro r9 h9 F9 N9; (try dsimp only))))
local macro_rules | `(tactic| walk_at "my units") => `(tactic| first | ((try simp only [units_deeper]); (try dsimp only [ktrTop]); omega) | decide | (exact Nat.le_of_ble_eq_true rfl) | ((try simp only [units_deeper, units_caller, cLine]); omega))
local macro_rules | `(tactic| walk_at "my reads") => `(tactic| first
  | (refine' nan_reads ?f ?x; (case f => k_asm); (case x => k_asm); done)
  | (refine' has_reads ?f ?x ?n ?s (Or.inr ⟨rfl, rfl⟩); (case f => k_asm); (case x => k_asm); (case n => k_asm); (case s => exact sub_refl); done)
  | (refine' has_reads ?f ?x ?n ?s ?h; (case h => assumption); (case f => k_asm); (case x => k_asm); (case n => k_asm); (case s => walk_at "my sub"); done)
  | (refine' readsM_of (x := ⟨_, _, _, _⟩) (News.get ?n ?m); (case n => k_asm); (case m => k_mem)))
local macro_rules | `(tactic| walk_at "compareOp Eq ref ref") => `(tactic| (k_dflt (refine' r_eq ?ra ?rb ?ru ?_; (case ra => walk_at "my reads"); (case rb => walk_at "my reads"); (case ru => walk_at "my units")); (try dsimp only)))
local macro_rules | `(tactic| walk_at "compareOp NotEq ref ref") => `(tactic| (k_dflt (refine' r_ne ?ra ?rb ?ru ?_; (case ra => walk_at "my reads"); (case rb => walk_at "my reads"); (case ru => walk_at "my units")); (try dsimp only)))
local macro_rules | `(tactic| walk_at "compareOp Eq ref ref") => `(tactic| (k_dflt (first
  | (refine' r_eq_no ?ra ?rb ?ru ?rn ?_; (case ra => walk_at "my reads"); (case rb => walk_at "my reads"); (case ru => walk_at "my units"); (case rn => assumption))
  | (refine' r_eq_yes ?ra ?rb ?ru ?rn ?rp ?_; (case ra => walk_at "my reads"); (case rb => walk_at "my reads"); (case ru => walk_at "my units"); (case rn => assumption); (case rp => first | exact True.intro | assumption)))))
local macro_rules | `(tactic| walk_at "call builtin:max") => `(tactic| (k_dflt (refine' r_max ?kh ?k1 ?k2 ?_; (case kh => rfl); (case k1 => k_asm); (case k2 => k_asm)); (intro t9 h9 tk9 F9 N9; (try dsimp only))))
local macro_rules | `(tactic| walk_at "compareOp In str str") => `(tactic| (first | refine in_fd_yes (by assumption) ?_ | refine in_fd_no (by assumption) ?_))
local macro_rules | `(tactic| walk_at "call ref cons nil") => `(tactic| (k_dflt (refine' isqrt_spec ?k1 ?k2 ?k3 ?k4 ?k5 ?k6 ?k7 ?_ ?_; (case k1 => k_asm); (case k2 => k_asm); (case k3 => k_asm); (case k4 => k_asm); (case k5 => k_asm); (case k6 => first | exact rfl | assumption); (case k7 => first | omega | ktr_room); (rotate_left 1; intro t9 h9 tk9 F9 N9; (try dsimp only); (try k_fold)))))
local macro_rules | `(tactic| walk_at "call ref cons nil") => `(tactic| (k_dflt (refine' sqrtrem_spec ?k1 ?k2 ?k3 ?k4 ?k5 ?k6 ?k7 ?_ ?_; (case k1 => k_asm); (case k2 => k_asm); (case k3 => k_asm); (case k4 => k_asm); (case k5 => k_asm); (case k6 => first | exact rfl | assumption); (case k7 => first | omega | ktr_room); (rotate_left 1; intro D9 t9 u9 c9 h9 tk9 F9 N9; (try dsimp only); (try k_fold)))))
local macro_rules | `(tactic| walk_at "call ref cons nil") => `(tactic| (k_dflt (refine' from_man_exp_spec ?k1 ?k2 ?k3 ?k4 ?k5 ?k6 ?k7 ?_ ?_; (case k1 => k_asm); (case k2 => k_asm); (case k3 => k_asm); (case k4 => k_asm); (case k5 => k_asm); (case k6 => first | exact rfl | assumption); (case k7 => first | omega | ktr_room); (rotate_left 1; intro r9 tl9 h9 tk9 F9 N9 H9; (try dsimp only); (try k_fold)))))
local macro_rules | `(tactic| walk_at "call ref cons nil") => `(tactic| (k_dflt (refine' normalize_spec ?k1 ?k2 ?k3 ?k4 ?k5 ?k6 ?k7 ?_ ?_; (case k1 => k_asm); (case k2 => k_asm); (case k3 => k_asm); (case k4 => k_asm); (case k5 => k_asm); (case k6 => first | exact rfl | assumption); (case k7 => first | omega | ktr_room); (rotate_left 1; intro r9 tl9 h9 tk9 F9 N9 H9; (try dsimp only); (try k_fold)))))
local macro_rules | `(tactic| walk_at "assign Tuple") => `(tactic| ((with_reducible show wpAny _ _ (assign (Expr.Tuple _ _ _) _ (Value.ref _)) _ _ _); k_dflt (refine' unpackN_ ?k1 ?k2 (hasT_tup ?kh ?kf ?kx ?kn ?ks) ?k4 ?k5 ?k6 ?_; (case kh => assumption); (case kf => k_asm); (case kn => k_asm); (case k1 => k_asm); (case k2 => k_asm); (case kx => k_asm); (case ks => walk_at "my sub"); (case k4 => exact rfl); (case k5 => exact rfl); (case k6 => exact rfl); k_whole); intro h' F' N'; (try k_sweep)))
local macro_rules | `(tactic| walk_at "storeName") => `(tactic| (k_dflt (refine' storeX_L ?F ?N ?_ ?a ?b; (case b => exact kind_dec (by decide +kernel)); (case F => k_asm); (case N => k_asm); (case a => rfl); k_whole; intro h' F' N'; (try k_sweep))))
local macro_rules | `(tactic| walk_at "spliced") => `(tactic| (k_dflt (first | refine spliced_more ?_ | (refine spliced_none ?_; (try dsimp only)))))
local macro_rules | `(tactic| walk_at "exec Assign") => `(tactic| ((with_reducible show wpAny _ _ (exec (Stmt.Assign [Expr.Name _ _] _ _) _) _ _ _); k_dflt (refine wpAny_Assign_Name ?_)))
local macro_rules | `(tactic| walk_at "isTrue") => `(tactic| (k_dflt (refine isTrue_plain ?_)))
local macro_rules | `(tactic| walk_at "eval Name") => `(tactic| (k_dflt (refine' nameX_K ?F ?X ?T ?e ?_ ?a ?b; (case b => exact kind_dec (by decide +kernel)); (case F => k_asm); (case X => k_asm); (case T => k_asm); (case a => rfl); (case e => k_is); k_whole)))
local macro_rules | `(tactic| walk_at "eval Name") => `(tactic| (k_dflt (refine' nameX_L ?F ?v ?_ ?a ?b; (case b => exact kind_dec (by decide +kernel)); (case F => k_asm); (case a => rfl); (case v => rfl); k_whole)))
section
variable {w : World} {dp un : Nat} {gd : Option (List Code)} {cn : Str} {cs : Scope} {a : Addr} {ccd : Value} {cl : List (Str × Addr)} {outer : List Env} {A₀ : Around} {base h₀ : Heap} {L : Addr} {m : Str → Option Value} {news : List (Addr × Obj)} {s : Shared} {Q E : Value → Shared → Prop} {p : Program} {loose : List Str} {mean : ExcName → Option Value} {mg mb : Str → Option Value}
variable (B : Below A₀ base outer h₀) (F : Fr h₀ L s.heap m) (X : (hd.heap_39 w.params).In h₀) (N : News h₀ L s.heap news) (T : Top p loose mean mg mb h₀) (hk : cs.kind = .function)
include B F X N T hk
theorem mpf_sqrt_spec (hd : dp + 5 < recursionLimit) {r1 : Addr} {x : Mf} {prec : Int} {t3 t4 : Tok} {way : Way} (hx : Has news r1 x) (hs : Side (Wf x ∧ x.s = 0 ∧ 1 ≤ prec ∧ prec ≤ 1000))
  (hret : RetT h₀ L m news s Q (sqrtC x prec way)) :
  wpAny (model rw_aa5009_01.row.prog w) (ktrTop dp un gd cn cs L a ccd cl outer) (call (.ref 157) [.ref r1, .int prec t3, .str way.str t4]) Q E s := by
  revert X; k_fill; intro X
  obtain ⟨W, hx1, hs2, hs3⟩ := hs.out
  obtain ⟨x1, x2, x3, x4⟩ := x
  have w2 := W.m; have w3 := W.b; have w4 := W.z; have w5 := W.sz
  dsimp only at hret w2 w3 w4 w5 hx1
  subst hx1
  have c0 := bits_of_lt (a := 2) (k := 2) (by decide)
  have c1 := bits_of_lt (a := prec) (k := 10) (by omega)
  have c2 := bits_nonneg x2
  have c3 := mul_eq 2 prec
  have hsf : ∀ bc, bc = x4 ∨ bc = x4 + 1 → 4 ≤ shfC bc prec + band (shfC bc prec) 1 ∧ shfC bc prec + band (shfC bc prec) 1 ≤ 2100 := by
    intro bc hbc
    have d1 := le_mxF 4 (mul 2 prec - bc + 4)
    have d2 := mxF_le 4 (mul 2 prec - bc + 4) 2010 (by omega) (by omega)
    have d3 := band_one (shfC bc prec)
    have d4 : shfC bc prec = mxF 4 (mul 2 prec - bc + 4) := rfl
    omega
  have hsh : ∀ man sh, 0 ≤ man → bits man ≤ 5001 → 0 ≤ sh → sh ≤ 2100 → 0 ≤ shl man sh ∧ bits (shl man sh) ≤ 7200 := by
    intro man sh h1 h2 h3 h4
    exact ⟨shl_nonneg _ h1, by have := bd_shl (a := man) h3 h2; omega⟩
  have hrt : ∀ v, 0 ≤ v ∧ bits v ≤ 7200 → 0 ≤ isqF v ∧ bits (isqF v) ≤ 7200 ∧ 0 ≤ shl (isqF v) 1 + 1 ∧ bits (shl (isqF v) 1 + 1) ≤ 7300 := by
    intro v ⟨h1, h2⟩
    have d1 := isqF_nonneg v
    have d2 := isqF_le h1
    have d3 := bits_mono (a := isqF v) (b := v) (by omega)
    have d4 := shl_nonneg 1 d1
    have d5 := bd_shl (a := isqF v) (n := 1) (k := 7200) (by omega) (by omega)
    have d6 := bits_add_le (shl (isqF v) 1) 1
    have d7 := bits_one
    refine ⟨d1, by omega, by omega, by omega⟩
  have f1 := hsf x4 (Or.inl rfl)
  have f2 := hsf (x4 + 1) (Or.inr rfl)
  have e1 := shl_nonneg 1 w2
  have e2 := bd_shl (a := x2) (n := 1) (k := 5000) (by omega) (by omega)
  have g1 := hsh x2 _ w2 (by omega) (by omega) f1.2
  have g2 := hsh (shl x2 1) _ e1 e2 (by omega) f2.2
  have i1 := hrt _ g1
  have i2 := hrt _ g2
  unfold shfC at f1 f2 g1 g2 i1 i2
  obtain ⟨u1, u2, u3, u4, hx0⟩ := has_T w hx
  rcases hw : wayFD way with _ | _
  all_goals
    refine wpAny_call ?_
    walk_at "my enter"
    k_steps
    all_goals first
      | (exact Side.mk (by omega))
      | (exfalso; omega)
      | (walk_at "my end"; dsimp only [sqrtC, rootC, shfC]; (try simp only [hw, if_true, if_false, Bool.false_eq_true]); (repeat' (first | contradiction | (with_reducible rfl) | split)); done)
      | (walk_at "my end"; rfl)
      | skip
end
end Mine

namespace Mine
open PySem.Challenge (rw_aa5009_01)
theorem trailing_unique {a : Int} {k : Nat} {b : Int} (h : a = 2 ^ k * (2 * b + 1)) : trailingF a = k := by
  have hp := kbt_pos k
  have h0 : a ≠ 0 := by
    rw [h]
    exact Int.mul_ne_zero (by omega) (by omega)
  unfold trailingF
  rw [if_neg h0]
  have e : band a (-a) = 2 ^ k := by
    unfold band
    rw [h, kbt_low]
  rw [e, bits_pow]
  omega
def stpL (s a e : Int) : Mf := ⟨s, shr a (trailingF a), e + trailingF a, bits (shr a (trailingF a))⟩
def upL (s a rest unit : Int) : Way → Bool
  | .n => if unit < mul 2 rest then true else if mul 2 rest = unit then decide (fmd a 2 = 1) else false
  | .c => decide (s = 0)
  | .f => decide (s = 1)
  | .u => true
  | .d => false
def rlC (x : Mf) (p : Int) (way : Way) : Mf :=
  if bits x.m - p ≤ 0 then x
  else if upL x.s (fdv x.m (shl 1 (bits x.m - p))) (fmd x.m (shl 1 (bits x.m - p))) (shl 1 (bits x.m - p)) way = true then
    stpL x.s (fdv x.m (shl 1 (bits x.m - p)) + 1) (x.e + (bits x.m - p))
  else stpL x.s (fdv x.m (shl 1 (bits x.m - p))) (x.e + (bits x.m - p))
def strJ (a0 e0 : Int) (m0 : Str → Option Value) (news0 : List (Addr × Obj)) (n : Nat) (m : Str → Option Value) (nw : List (Addr × Obj)) : Prop :=
  nw = news0 ∧ ∃ (a : Int) (ta : Tok) (e : Int) (te : Tok) (k : Nat), m = (fun z => if z = Str.ofString "e" then some (.int e te) else if z = Str.ofString "a" then some (.int a ta) else m0 z) ∧
    n = a.toNat ∧ 0 < a ∧ a * 2 ^ k = a0 ∧ e = e0 + k
theorem strJ_start {a0 e0 : Int} {ta te : Tok} {m0 : Str → Option Value} {news0 : List (Addr × Obj)} (he : m0 (Str.ofString "e") = some (.int e0 te)) (ha : m0 (Str.ofString "a") = some (.int a0 ta)) (h : 0 < a0) :
    strJ a0 e0 m0 news0 a0.toNat m0 news0 := by
  refine ⟨rfl, a0, ta, e0, te, 0, ?_, rfl, h, by omega, by omega⟩
  funext z
  by_cases hz : z = Str.ofString "e"
  · rw [if_pos hz, hz, he]
  · by_cases hz2 : z = Str.ofString "a"
    · rw [if_neg hz, if_pos hz2, hz2, ha]
    · rw [if_neg hz, if_neg hz2]
theorem strJ_next {a0 e0 a e : Int} {k : Nat} {ta te ta' te' : Tok} {m0 : Str → Option Value} {news0 : List (Addr × Obj)} (h1 : 0 < a) (h2 : a * 2 ^ k = a0) (h3 : e = e0 + k) (h4 : fmd a 2 = 0) :
    strJ a0 e0 m0 news0 (fdv a 2).toNat (fun z => if z = Str.ofString "e" then some (.int (e + 1) te') else if z = Str.ofString "a" then some (.int (fdv a 2) ta') else if z = Str.ofString "e" then some (.int e te) else if z = Str.ofString "a" then some (.int a ta) else m0 z) news0 := by
  rw [fmd_eq (by decide)] at h4
  rw [fdv_eq (by decide)]
  refine ⟨rfl, a / 2, ta', e + 1, te', k + 1, ?_, rfl, by omega, ?_, by omega⟩
  · funext z
    by_cases hz : z = Str.ofString "e"
    · subst hz; rfl
    · by_cases hz2 : z = Str.ofString "a"
      · subst hz2; rfl
      · simp only [if_neg hz, if_neg hz2]
  · have e1 : a = a / 2 * 2 := by omega
    rw [Int.pow_succ, Int.mul_comm (2 ^ k) 2, ← Int.mul_assoc, ← e1, h2]
theorem fdv_half {a : Int} (h : 0 < a) (h2 : fmd a 2 = 0) : (fdv a 2).toNat < a.toNat := by
  rw [fdv_eq (by decide)]; omega
theorem str_end {a0 e0 a e s : Int} {k : Nat} (h1 : 0 < a) (h2 : a * 2 ^ k = a0) (h3 : e = e0 + k) (h4 : ¬ fmd a 2 = 0) : (⟨s, a, e, bits a⟩ : Mf) = stpL s a0 e0 := by
  rw [fmd_eq (by decide)] at h4
  have e1 : a0 = 2 ^ k * (2 * (a / 2) + 1) := by
    rw [← h2, Int.mul_comm]
    have : 2 * (a / 2) + 1 = a := by omega
    rw [this]
  have e2 := trailing_unique e1
  have e3 : shr a0 (trailingF a0) = a := by
    rw [e2, shr_eq, Int.toNat_natCast, ← h2]
    exact Int.mul_ediv_cancel _ (Int.ne_of_gt (kbt_pos k))
  unfold stpL
  rw [e3, e2, h3]
theorem roundFacts {x : Mf} {p : Int} (W : Wf x) (h : ¬ bits x.m - p ≤ 0) (hp : 1 ≤ p) : 0 < fdv x.m (shl 1 (bits x.m - p)) ∧ shl 1 (bits x.m - p) ≠ 0 ∧ bits (shl 1 (bits x.m - p)) ≤ 5001 ∧ bits (fmd x.m (shl 1 (bits x.m - p))) ≤ 5000 := by
  have b1 := W.b; have b2 := W.sz; have b3 := W.m
  have hm : x.m ≠ 0 := by
    intro e
    rw [e, bits_zero] at h
    omega
  have h1 : shl 1 (bits x.m - p) = 2 ^ (bits x.m - p).toNat := by rw [shl_eq, Int.one_mul]
  have hp2 := kbt_pos (bits x.m - p).toNat
  rw [h1, fdv_eq (by omega), fmd_eq (by omega), bits_pow]
  have h2 := le_of_bits hm
  have h3 : (2 : Int) ^ (bits x.m - p).toNat ≤ x.m := by
    have h4 : (2 : Nat) ^ (bits x.m - p).toNat ≤ 2 ^ ((bits x.m).toNat - 1) := Nat.pow_le_pow_right (by decide) (by omega)
    have h5 : ((2 ^ (bits x.m - p).toNat : Nat) : Int) ≤ ((x.m.natAbs : Nat) : Int) := by exact_mod_cast Nat.le_trans h4 h2
    rw [kbt_cast] at h5
    omega
  refine ⟨(by have := (Int.le_ediv_iff_mul_le hp2).mpr (show 1 * (2 : Int) ^ (bits x.m - p).toNat ≤ x.m by omega); omega), by omega, by omega, ?_⟩
  have h6 := Int.emod_nonneg x.m (show (2 : Int) ^ (bits x.m - p).toNat ≠ 0 by omega)
  have h7 := Int.emod_lt_of_pos x.m hp2
  have := bits_mono (a := x.m % 2 ^ (bits x.m - p).toNat) (b := x.m) (by omega)
  omega
theorem nt {b : Bool} (h : b = false) : ¬ b = true := by rw [h]; decide
end Mine

namespace Mine
open PySem.Challenge (rw_aa5009_01)
section
variable {prog : Program} {w : World} {A : Around} {E : Value → Shared → Prop} {s : Shared} {env : Env} {h₀ : Heap} {x : Str} {target : PySem.Expr} {body : List Stmt} {Q : Flow → Shared → Prop}
theorem iter_listJ {ax : Addr} {vs : List Value} {m₀ : Str → Option Value} {news : List (Addr × Obj)} (J : (Str → Option Value) → Prop)
    (hh : A.handled = none) (hl : s.heap.IsList ax vs.toArray) (hL : ax ≠ env.locals) (F : Fr h₀ env.locals s.heap m₀) (N : News h₀ env.locals s.heap news) (hJ : J m₀)
    (turn : ∀ v m₁ h tk own, v ∈ vs → J m₁ → Fr h₀ env.locals h m₁ → News h₀ env.locals h (own ++ news) →
      wpAny (model prog w) A (assign target env v) (fun _ s₃ => wpAny (model prog w) A (execs body env) (TurnPost h₀ env.locals J (own ++ news) { s with heap := h, toks := tk } Q) E s₃) E { s with heap := h, toks := tk })
    (done : ∀ m₁ h tk, J m₁ → Fr h₀ env.locals h m₁ → News h₀ env.locals h news → Q .next { s with heap := h, toks := tk }) :
    wpAny (model prog w) A (pyIter (.ref ax)) (fun it s₂ => TurnsAt prog w A h₀ env target body Q E it s₂) E s := by
  have hne : ax ≠ s.heap.objs.size := by obtain ⟨o, ho, _⟩ := id hl; exact Nat.ne_of_lt (Heap.lt_size ho)
  refine wpAny_pyIter_list hl ?_
  refine ⟨s.heap.objs.size, _, _, _, _, _, _, m₀, news, fun _ m nw => nw = news ∧ J m, rfl,
    KTurns.ofWalks (Walks.list hh s.heap.objs.size ax hne vs.toArray) (fun i v s Q E st q => letGo_listiter st.1 q), ?_, ?_, ?_, ⟨⟨_, Heap.get?_push_size _ rfl, rfl, rfl⟩, hl.at fun o e => Heap.get?_push_of_some _ e⟩, F.push _, (fun p hp => ⟨Heap.get?_push_of_some _ (N p hp).1, (N p hp).2⟩), ⟨rfl, hJ⟩, ?_, ?_⟩
  · intro hm
    rcases List.mem_cons.mp hm with e | hm
    · exact absurd F.ns.lt (e ▸ Nat.lt_irrefl _)
    · exact hL (List.mem_singleton.mp hm).symm
  · intro b hb; rw [List.mem_singleton.mp hb]; exact next_is_new F
  · intro p hp hI
    exact absurd (Heap.lt_size (N p hp).1) ((List.mem_singleton.mp hI) ▸ Nat.lt_irrefl _)
  · rintro i v m₁ news₁ hh' tk own hi hP ⟨rfl, hJ₁⟩ hoff _ _ _ _ F₁ N₁
    have hP' : vs.toArray[i]? = some v := hP
    refine wpAny_mono (turn v m₁ hh' tk own (List.mem_of_getElem? (by simpa using hP')) hJ₁ F₁ N₁) (fun _ s₃ p => wpAny_mono p (fun f s₄ p => ?_) fun _ _ e => e) fun _ _ e => e
    have fin : TurnEnd h₀ env.locals J (own ++ news₁) { s with heap := hh', toks := tk } s₄ → LoopStepU h₀ env.locals [s.heap.objs.size] own (fun m nw => nw = news₁ ∧ J m) { s with heap := hh', toks := tk } .next s₄ := by
      rintro ⟨h', tk', m', all, e, F', N', hs, hj⟩
      exact ⟨rfl, h', tk', m', news₁, e, F', News.sub N' hs, hoff, rfl, hj⟩
    cases f with
    | ret v => exact .ret p
    | brk => exact .brk p
    | next => exact .next (fin p)
    | cont => exact .cont (fin p)
  · rintro h' tk m' news' F' N' _ ⟨rfl, hj⟩
    exact done m' h' tk hj F' N'
theorem iter_rangeJ {r : Addr} {a b c : Int} {t u v : Tok} {n : Nat} {m₀ : Str → Option Value} {news : List (Addr × Obj)} (J : (Str → Option Value) → Prop)
    (hh : A.handled = none) (hr : IsRange s.heap r a b c t u v) (hsmall : Builtin.Range.small a b c = true) (hn : Builtin.Range.rangeSize a b c = (n : Int)) (F : Fr h₀ env.locals s.heap m₀) (N : News h₀ env.locals s.heap news) (hJ : J m₀)
    (turn : ∀ (i : Nat) tv m₁ h tk own, i < n → J m₁ → Fr h₀ env.locals h (fun y => if y = x then some (.int (a + i * c) tv) else m₁ y) → News h₀ env.locals h (own ++ news) →
      wpAny (model prog w) A (execs body env) (TurnPost h₀ env.locals J (own ++ news) { s with heap := h, toks := tk } Q) E { s with heap := h, toks := tk })
    (done : ∀ m₁ h tk, J m₁ → Fr h₀ env.locals h m₁ → News h₀ env.locals h news → Q .next { s with heap := h, toks := tk }) :
    wpAny (model prog w) A (pyIter (.ref r)) (fun it s₂ => LoopAtV prog w A h₀ env x body Q E it s₂) E s := by
  refine wpAny_pyIter_range hr hsmall ?_
  refine loop_of_walks J (Walks.range hh s.heap.objs.size a c n) ?_ (next_is_new F) ?_ ?_ (F.push _) (fun p hp => ⟨Heap.get?_push_of_some _ (N p hp).1, (N p hp).2⟩) hJ ?_ ?_
  · intro hm
    exact absurd F.ns.lt ((List.mem_singleton.mp hm) ▸ Nat.lt_irrefl _)
  · intro p hp e
    exact absurd (Heap.lt_size (N p hp).1) (e ▸ Nat.lt_irrefl _)
  · show IsRangeIter _ _ _ _ _
    rw [hn]
    simpa using Heap.get?_push_size _ rfl
  · rintro i v m₁ h tk own hi ⟨tv, rfl⟩ hj F₁ N₁
    exact turn i tv m₁ h tk own hi hj F₁ N₁
  · intro m₁ h tk hj F₁ N₁
    exact done m₁ h tk hj F₁ N₁
end
end Mine

namespace Mine
open PySem.Challenge (rw_aa5009_01)
local macro_rules | `(tactic| walk_at "truthy int") => `(tactic| (with_reducible (first | refine truthy_ne (by assumption) ?_ | refine truthy_eq (by assumption) ?_ | refine truthy_imp (by assumption) (by assumption) ?_)))
local macro_rules | `(tactic| walk_at "my ifs") => `(tactic| repeat (first | (with_reducible rfl) | (refine Eq.trans ?_ (if_pos (by first | assumption | omega)).symm) | (refine Eq.trans ?_ (if_neg (by first | assumption | omega)).symm)))
local macro_rules | `(tactic| walk_at "binaryOp LShift int int") => `(tactic| ((with_reducible refine r_lshift ?_ ?_); rotate_left; (try dsimp only)))
local macro_rules | `(tactic| walk_at "inplaceOp LShift int int") => `(tactic| ((with_reducible refine r_ilshift ?_ ?_); rotate_left; (try dsimp only)))
local macro_rules | `(tactic| walk_at "binaryOp RShift int int") => `(tactic| ((with_reducible refine r_rshift ?_ ?_); rotate_left; (try dsimp only)))
local macro_rules | `(tactic| walk_at "inplaceOp RShift int int") => `(tactic| ((with_reducible refine r_irshift ?_ ?_); rotate_left; (try dsimp only)))
local macro_rules | `(tactic| walk_at "binaryOp BitAnd int int") => `(tactic| ((with_reducible refine r_and ?_); (try dsimp only)))
local macro_rules | `(tactic| walk_at "binaryOp BitXor int int") => `(tactic| ((with_reducible refine r_xor ?_); (try dsimp only)))
local macro_rules | `(tactic| walk_at "inplaceOp BitXor int int") => `(tactic| ((with_reducible refine r_ixor ?_); (try dsimp only)))
local macro_rules | `(tactic| walk_at "binaryOp Mult int int") => `(tactic| ((with_reducible refine r_mul ?_ ?_); rotate_left; (try dsimp only)))
local macro_rules | `(tactic| walk_at "binaryOp FloorDiv int int") => `(tactic| ((with_reducible refine r_fdiv ?_ ?_); rotate_left; (try dsimp only)))
local macro_rules | `(tactic| walk_at "inplaceOp FloorDiv int int") => `(tactic| ((with_reducible refine r_ifdiv ?_ ?_); rotate_left; (try dsimp only)))
local macro_rules | `(tactic| walk_at "binaryOp Mod int int") => `(tactic| ((with_reducible refine r_mod ?_ ?_); rotate_left; (try dsimp only)))
local macro_rules | `(tactic| walk_at "binaryOp Pow int int") => `(tactic| ((with_reducible refine r_pow ?_ ?_); rotate_left; (try dsimp only)))
local macro_rules | `(tactic| walk_at "call builtin:int.bit_length") => `(tactic| ((with_reducible refine r_bits ?_); (try dsimp only)))
local macro_rules | `(tactic| walk_at "eval Call Name cons nil") => `(tactic| (k_dflt (refine Call_ ?_)))
local macro_rules | `(tactic| walk_at "call ref cons nil") => `(tactic| (k_dflt (refine' trailing_spec ?k1 ?k2 ?k3 ?k4 ?k5 ?k6 ?k7 ?_; (case k1 => k_asm); (case k2 => k_asm); (case k3 => k_asm); (case k4 => k_asm); (case k5 => k_asm); (case k6 => first | exact rfl | assumption); (case k7 => first | omega | ktr_room); (intro t9 h9 tk9 F9 N9; (try dsimp only); (try k_fold)))))
local macro_rules | `(tactic| walk_at "my sub") => `(tactic| (repeat (first | exact sub_refl | refine sub_cons ?_ | refine sub_app ?_)))
local macro_rules | `(tactic| walk_at "my has") => `(tactic| (refine Has.mono (by assumption) ?_; walk_at "my sub"))
local macro_rules | `(tactic| walk_at "my end") => `(tactic| first
  | ((rename RetT _ _ _ _ _ _ _ => hR'); first
      | (refine retNew hR' ?_ (by assumption) (by assumption) (by walk_at "my sub"))
      | (refine retZero hR' ?_ (by assumption) (by assumption) (by walk_at "my sub"))
      | (refine retT hR' ?_ (by assumption) (by assumption) (by walk_at "my has") (by walk_at "my sub")))
  | ((rename RetI _ _ _ _ _ _ _ => hR'); refine retI hR' ?_ (by assumption) (News.sub (by assumption) (by walk_at "my sub")))
  | ((rename RetP _ _ _ _ _ _ _ _ => hR'); refine retP hR' ?_ ?_ (by assumption) (by assumption) (by walk_at "my sub")))
local macro_rules | `(tactic| walk_at "my enter") => `(tactic| k_dflt (refine' code_def ?k1 ?k2 ?k3 ?k4 ?k5 ?kA ?kF ?kK ?k6 ?k7 ?k8 ?k9 ?kB ?_ ?c2 ?c3 ?c4 ?c5; (case kA => exact rfl); (case kF => exact rfl); (case kK => assumption); (case k1 => k_asm); (case k2 => k_asm); (case k3 => k_asm); (case k4 => k_asm); (case k5 => k_asm); (case k6 => k_is); (case k7 => k_is); (case k8 => first | omega | ktr_room); (case k9 => first | exact BindsTo.of_eq rfl | exact binds_K (by k_in) rfl (by k_is) rfl rfl rfl); (case c5 => decide); (case kB => exact locs rfl); (case c2 => exact rfl); (case c3 => exact rfl); (case c4 => exact rfl); k_whole; intro g' L' h' FG' F' N' B' X' T'; (try dsimp only); (try k_lift B'); (try k_fold)))
local macro_rules | `(tactic| walk_at "call ref cons nil") => `(tactic| (k_dflt (refine' law_draw_spec ?k1 ?k2 ?k3 ?k4 ?k5 ?k6 ?k7 ?hl ?hi ?hn ?_ ?_; (case k1 => k_asm); (case k2 => k_asm); (case k3 => k_asm); (case k4 => k_asm); (case k5 => k_asm); (case k6 => first | exact rfl | assumption); (case k7 => first | omega | ktr_room); (case hl => assumption); (case hi => assumption); (case hn => first | assumption | omega); (rotate_left 1; intro v9 a9 b9 t9 h9 tk9 F9 N9; (try dsimp only); (try k_fold)))))
local macro_rules | `(tactic| walk_at "storeName") => `(tactic| (k_dflt (refine' storeX_L ?F ?N ?_ ?a ?b; (case b => exact kind_dec (by decide +kernel)); (case F => k_asm); (case N => k_asm); (case a => rfl); k_whole; intro h' F' N'; (try k_sweep))))
local macro_rules | `(tactic| walk_at "spliced") => `(tactic| (k_dflt (first | refine spliced_more ?_ | (refine spliced_none ?_; (try dsimp only)))))
local macro_rules | `(tactic| walk_at "exec Assign") => `(tactic| ((with_reducible show wpAny _ _ (exec (Stmt.Assign [Expr.Name _ _] _ _) _) _ _ _); k_dflt (refine wpAny_Assign_Name ?_)))
local macro_rules | `(tactic| walk_at "isTrue") => `(tactic| (k_dflt (refine isTrue_plain ?_)))
local macro_rules | `(tactic| walk_at "eval Name") => `(tactic| (k_dflt (refine' nameX_K ?F ?X ?T ?e ?_ ?a ?b; (case b => exact kind_dec (by decide +kernel)); (case F => k_asm); (case X => k_asm); (case T => k_asm); (case a => rfl); (case e => k_is); k_whole)))
local macro_rules | `(tactic| walk_at "eval Name") => `(tactic| (k_dflt (refine' nameX_L ?F ?v ?_ ?a ?b; (case b => exact kind_dec (by decide +kernel)); (case F => k_asm); (case a => rfl); (case v => rfl); k_whole)))
section
variable {w : World} {dp un : Nat} {gd : Option (List Code)} {cn : Str} {cs : Scope} {a : Addr} {ccd : Value} {cl : List (Str × Addr)} {outer : List Env} {A₀ : Around} {base h₀ : Heap} {L : Addr} {m : Str → Option Value} {news : List (Addr × Obj)} {s : Shared} {Q E : Value → Shared → Prop} {p : Program} {loose : List Str} {mean : ExcName → Option Value} {mg mb : Str → Option Value}
variable (B : Below A₀ base outer h₀) (F : Fr h₀ L s.heap m) (X : (hd.heap_39 w.params).In h₀) (N : News h₀ L s.heap news) (T : Top p loose mean mg mb h₀) (hk : cs.kind = .function)
include B F X N T hk
theorem law_number_spec (hd : dp + 3 < recursionLimit) {l : Addr} {vs : List Value} {ns : List Int} {i n : Int} {t1 t2 : Tok} (hl : base.IsList l vs.toArray) (hi : IntsAre vs ns) (hlen : ns.length ≤ 63)
  (hs : Side (0 ≤ i ∧ i ≤ 90 ∧ 1 ≤ n ∧ n ≤ 100))
  (hret : ∀ v, 0 ≤ v → v < shl 1 n → RetI h₀ L m news s Q v) :
  wpAny (model rw_aa5009_01.row.prog w) (ktrTop dp un gd cn cs L a ccd cl outer) (call (.ref 199) [.ref l, .int i t1, .int n t2]) Q E s := by
  revert X; k_fill; intro X
  obtain ⟨h1, h2, h3, h4⟩ := hs.out
  have hpw : shl 1 n = 2 ^ n.toNat := by rw [shl_eq, Int.one_mul]
  have hp := kbt_pos n.toNat
  have hfm : ∀ a, 0 ≤ fmd a (shl 1 n) ∧ fmd a (shl 1 n) < shl 1 n := by
    intro a
    rw [hpw, fmd_eq (by omega)]
    exact ⟨Int.emod_nonneg _ (by omega), Int.emod_lt_of_pos _ (by omega)⟩
  have hb := bits_pow n.toNat
  rw [← hpw] at hb
  have o1 := bits_one
  have o2 := bits_of_lt (a := 64) (k := 7) (by decide)
  have o3 := bits_of_lt (a := 4096) (k := 13) (by decide)
  refine wpAny_call ?_
  walk_at "my enter"
  k_steps
  all_goals first
    | (refine hret _ (hfm _).1 (hfm _).2 _ _ _ (by assumption) (by assumption))
    | (exact Side.mk ⟨by omega, by omega, by omega, by omega⟩)
    | (exact Side.mk ⟨by omega, by omega⟩)
    | (refine Side.mk ⟨by omega, ?_⟩; refine Int.le_trans (bits_of_lt (k := 7) ?_) (by omega); omega)
    | skip
end
theorem way_char {k : Int} (h0 : 0 ≤ k) (h1 : k < 8) : ∃ way : Way, Txt.item (Str.ofString "nnnnfcud") k = way.str := by
  have hk : k = 0 ∨ k = 1 ∨ k = 2 ∨ k = 3 ∨ k = 4 ∨ k = 5 ∨ k = 6 ∨ k = 7 := by omega
  rcases hk with rfl | rfl | rfl | rfl | rfl | rfl | rfl | rfl
  · exact ⟨.n, by decide +kernel⟩
  · exact ⟨.n, by decide +kernel⟩
  · exact ⟨.n, by decide +kernel⟩
  · exact ⟨.n, by decide +kernel⟩
  · exact ⟨.f, by decide +kernel⟩
  · exact ⟨.c, by decide +kernel⟩
  · exact ⟨.u, by decide +kernel⟩
  · exact ⟨.d, by decide +kernel⟩
theorem way_item {A : Around} {s : Shared} {prog : Program} {w : World} {Q : Value → Shared → Prop} {E : Value → Shared → Prop} {k : Int} {t u : Tok} {v e : PySem.Expr} (h0 : 0 ≤ k) (h1 : k < 8)
    (hs : subscripted e false (.str (Str.ofString "nnnnfcud") t) (.int k u) = operate [.str (Str.ofString "nnnnfcud") t, .int k u] (getItem (.str (Str.ofString "nnnnfcud") t) (.int k u)))
    (ht : ∀ r, letTemporaryGo v (.str (Str.ofString "nnnnfcud") t) r = pure ())
    (h : ∀ (way : Way) (t' : Tok) (tk : Nat), Q (.str way.str t') { s with toks := tk }) :
    wpAny (model prog w) A (subscriptTail v e (.str (Str.ofString "nnnnfcud") t) (.int k u)) Q E s := by
  obtain ⟨way, e1⟩ := way_char h0 h1
  have hl : (Str.ofString "nnnnfcud").length = 8 := by decide +kernel
  refine item_str (by unfold fitsSsize; simp; omega) (by rw [hl]; omega) (by rw [hl]; omega) (fun _ => ?_) hs ht
  rw [e1]
  exact h way _ _
end Mine

namespace Mine
open PySem.Challenge (rw_aa5009_01)
local macro_rules | `(tactic| walk_at "truthy int") => `(tactic| (with_reducible (first | refine truthy_ne (by assumption) ?_ | refine truthy_eq (by assumption) ?_ | refine truthy_imp (by assumption) (by assumption) ?_)))
local macro_rules | `(tactic| walk_at "my ifs") => `(tactic| repeat (first | (with_reducible rfl) | (refine Eq.trans ?_ (if_pos (by first | assumption | omega)).symm) | (refine Eq.trans ?_ (if_neg (by first | assumption | omega)).symm)))
local macro_rules | `(tactic| walk_at "binaryOp LShift int int") => `(tactic| ((with_reducible refine r_lshift ?_ ?_); rotate_left; (try dsimp only)))
local macro_rules | `(tactic| walk_at "inplaceOp LShift int int") => `(tactic| ((with_reducible refine r_ilshift ?_ ?_); rotate_left; (try dsimp only)))
local macro_rules | `(tactic| walk_at "binaryOp RShift int int") => `(tactic| ((with_reducible refine r_rshift ?_ ?_); rotate_left; (try dsimp only)))
local macro_rules | `(tactic| walk_at "inplaceOp RShift int int") => `(tactic| ((with_reducible refine r_irshift ?_ ?_); rotate_left; (try dsimp only)))
local macro_rules | `(tactic| walk_at "binaryOp BitAnd int int") => `(tactic| ((with_reducible refine r_and ?_); (try dsimp only)))
local macro_rules | `(tactic| walk_at "binaryOp BitXor int int") => `(tactic| ((with_reducible refine r_xor ?_); (try dsimp only)))
local macro_rules | `(tactic| walk_at "inplaceOp BitXor int int") => `(tactic| ((with_reducible refine r_ixor ?_); (try dsimp only)))
local macro_rules | `(tactic| walk_at "binaryOp Mult int int") => `(tactic| ((with_reducible refine r_mul ?_ ?_); rotate_left; (try dsimp only)))
local macro_rules | `(tactic| walk_at "binaryOp FloorDiv int int") => `(tactic| ((with_reducible refine r_fdiv ?_ ?_); rotate_left; (try dsimp only)))
local macro_rules | `(tactic| walk_at "inplaceOp FloorDiv int int") => `(tactic| ((with_reducible refine r_ifdiv ?_ ?_); rotate_left; (try dsimp only)))
local macro_rules | `(tactic| walk_at "binaryOp Mod int int") => `(tactic| ((with_reducible refine r_mod ?_ ?_); rotate_left; (try dsimp only)))
local macro_rules | `(tactic| walk_at "binaryOp Pow int int") => `(tactic| ((with_reducible refine r_pow ?_ ?_); rotate_left; (try dsimp only)))
local macro_rules | `(tactic| walk_at "call builtin:int.bit_length") => `(tactic| ((with_reducible refine r_bits ?_); (try dsimp only)))
local macro_rules | `(tactic| walk_at "eval Call Name cons nil") => `(tactic| (k_dflt (refine Call_ ?_)))
local macro_rules | `(tactic| walk_at "call ref cons nil") => `(tactic| (k_dflt (refine' trailing_spec ?k1 ?k2 ?k3 ?k4 ?k5 ?k6 ?k7 ?_; (case k1 => k_asm); (case k2 => k_asm); (case k3 => k_asm); (case k4 => k_asm); (case k5 => k_asm); (case k6 => first | exact rfl | assumption); (case k7 => first | omega | ktr_room); (intro t9 h9 tk9 F9 N9; (try dsimp only); (try k_fold)))))
local macro_rules | `(tactic| walk_at "my sub") => `(tactic| (repeat (first | exact sub_refl | refine sub_cons ?_ | refine sub_app ?_)))
local macro_rules | `(tactic| walk_at "my has") => `(tactic| (refine Has.mono (by assumption) ?_; walk_at "my sub"))
local macro_rules | `(tactic| walk_at "my end") => `(tactic| first
  | ((rename RetT _ _ _ _ _ _ _ => hR'); first
      | (refine retNew hR' ?_ (by assumption) (by assumption) (by walk_at "my sub"))
      | (refine retZero hR' ?_ (by assumption) (by assumption) (by walk_at "my sub"))
      | (refine retT hR' ?_ (by assumption) (by assumption) (by walk_at "my has") (by walk_at "my sub")))
  | ((rename RetI _ _ _ _ _ _ _ => hR'); refine retI hR' ?_ (by assumption) (News.sub (by assumption) (by walk_at "my sub")))
  | ((rename RetP _ _ _ _ _ _ _ _ => hR'); refine retP hR' ?_ ?_ (by assumption) (by assumption) (by walk_at "my sub")))
local macro_rules | `(tactic| walk_at "my enter") => `(tactic| k_dflt (refine' code_def ?k1 ?k2 ?k3 ?k4 ?k5 ?kA ?kF ?kK ?k6 ?k7 ?k8 ?k9 ?kB ?_ ?c2 ?c3 ?c4 ?c5; (case kA => exact rfl); (case kF => exact rfl); (case kK => assumption); (case k1 => k_asm); (case k2 => k_asm); (case k3 => k_asm); (case k4 => k_asm); (case k5 => k_asm); (case k6 => k_is); (case k7 => k_is); (case k8 => first | omega | ktr_room); (case k9 => first | exact BindsTo.of_eq rfl | exact binds_K (by k_in) rfl (by k_is) rfl rfl rfl); (case c5 => decide); (case kB => exact locs rfl); (case c2 => exact rfl); (case c3 => exact rfl); (case c4 => exact rfl); k_whole; intro g' L' h' FG' F' N' B' X' T'; (try dsimp only); (try k_lift B'); (try k_fold)))
local macro_rules | `(tactic| walk_at "call builtin:divmod") => `(tactic| (k_dflt (refine' r_divmod ?k1 ?k2 ?_ ?_; (case k1 => k_asm); (case k2 => k_asm)); (rotate_left 1; intro r9 h9 F9 N9; (try dsimp only))))
local macro_rules | `(tactic| walk_at "my units") => `(tactic| first | ((try simp only [units_deeper]); (try dsimp only [ktrTop]); omega) | decide | (exact Nat.le_of_ble_eq_true rfl) | ((try simp only [units_deeper, units_caller, cLine]); omega))
local macro_rules | `(tactic| walk_at "my reads") => `(tactic| first
  | (refine' nan_reads ?f ?x; (case f => k_asm); (case x => k_asm); done)
  | (refine' has_reads ?f ?x ?n ?s (Or.inr ⟨rfl, rfl⟩); (case f => k_asm); (case x => k_asm); (case n => k_asm); (case s => exact sub_refl); done)
  | (refine' has_reads ?f ?x ?n ?s ?h; (case h => assumption); (case f => k_asm); (case x => k_asm); (case n => k_asm); (case s => walk_at "my sub"); done)
  | (refine' readsM_of (x := ⟨_, _, _, _⟩) (News.get ?n ?m); (case n => k_asm); (case m => k_mem)))
local macro_rules | `(tactic| walk_at "compareOp Eq ref ref") => `(tactic| (k_dflt (refine' r_eq ?ra ?rb ?ru ?_; (case ra => walk_at "my reads"); (case rb => walk_at "my reads"); (case ru => walk_at "my units")); (try dsimp only)))
local macro_rules | `(tactic| walk_at "compareOp NotEq ref ref") => `(tactic| (k_dflt (refine' r_ne ?ra ?rb ?ru ?_; (case ra => walk_at "my reads"); (case rb => walk_at "my reads"); (case ru => walk_at "my units")); (try dsimp only)))
local macro_rules | `(tactic| walk_at "compareOp Eq ref ref") => `(tactic| (k_dflt (first
  | (refine' r_eq_no ?ra ?rb ?ru ?rn ?_; (case ra => walk_at "my reads"); (case rb => walk_at "my reads"); (case ru => walk_at "my units"); (case rn => assumption))
  | (refine' r_eq_yes ?ra ?rb ?ru ?rn ?rp ?_; (case ra => walk_at "my reads"); (case rb => walk_at "my reads"); (case ru => walk_at "my units"); (case rn => assumption); (case rp => first | exact True.intro | assumption)))))
local macro_rules | `(tactic| walk_at "assign Tuple") => `(tactic| ((with_reducible show wpAny _ _ (assign (Expr.Tuple _ _ _) _ (Value.ref _)) _ _ _); k_dflt (refine' unpackN_ ?k1 ?k2 (hasT_tup ?kh ?kf ?kx ?kn ?ks) ?k4 ?k5 ?k6 ?_; (case kh => assumption); (case kf => k_asm); (case kn => k_asm); (case k1 => k_asm); (case k2 => k_asm); (case kx => k_asm); (case ks => walk_at "my sub"); (case k4 => exact rfl); (case k5 => exact rfl); (case k6 => exact rfl); k_whole); intro h' F' N'; (try k_sweep)))
local macro_rules | `(tactic| walk_at "my steps") => `(tactic| (repeat' (first | (k_unfold; (try dsimp only)) | ((fail_if_success (with_reducible show wpAny _ _ (exec (Stmt.While _ _ _ _) _) _ _ _)); (fail_if_success (with_reducible show wpAny _ _ (exec (Stmt.For _ _ _ _ _) _) _ _ _)); first | walk1 | (dsimp only; walk1)))))
local macro_rules | `(tactic| walk_at "WhileStep2 ret") => `(tactic| (dsimp only [WhileStep2]))
local macro_rules | `(tactic| walk_at "TurnPost ret") => `(tactic| (dsimp only [TurnPost]))
local macro_rules | `(tactic| walk_at "my stepsL") => `(tactic| (repeat' (first | (k_unfold; (try dsimp only)) | ((fail_if_success (with_reducible show wpAny _ _ (exec (Stmt.While _ _ _ _) _) _ _ _)); (fail_if_success (with_reducible show wpAny _ _ (exec (Stmt.For _ _ _ _ _) _) _ _ _)); (fail_if_success (with_reducible show wpAny _ _ (exec (Stmt.If _ _ _ _) _) _ _ _)); (fail_if_success (with_reducible show wpAny _ _ (pyIter (Value.ref _)) _ _ _)); first | walk1 | (dsimp only; walk1)))))
local macro_rules | `(tactic| walk_at "CutPost ret") => `(tactic| (dsimp only [CutPost]))
local macro_rules | `(tactic| walk_at "my sub") => `(tactic| (repeat (first | exact sub_refl | assumption | refine sub_cons ?_ | refine sub_app ?_)))
local macro_rules | `(tactic| walk_at "subscriptTail Name Constant ref int") => `(tactic| (k_dflt (refine' item_tupleT (hasT_tup ?kh ?kf ?kx ?kn ?ks) ?h1 ?h2 ?hj ?hx ?_ ?hs; (case kh => assumption); (case kf => k_asm); (case kn => k_asm); (case kx => k_asm); (case ks => walk_at "my sub"); (case h1 => decide); (case h2 => decide); (case hj => exact rfl); (case hx => exact rfl); (case hs => with_unfolding_all rfl))))
local macro_rules | `(tactic| walk_at "storeName") => `(tactic| (k_dflt (refine' storeX_L ?F ?N ?_ ?a ?b; (case b => exact kind_dec (by decide +kernel)); (case F => k_asm); (case N => k_asm); (case a => rfl); k_whole; intro h' F' N'; (try k_sweep))))
local macro_rules | `(tactic| walk_at "spliced") => `(tactic| (k_dflt (first | refine spliced_more ?_ | (refine spliced_none ?_; (try dsimp only)))))
local macro_rules | `(tactic| walk_at "exec Assign") => `(tactic| ((with_reducible show wpAny _ _ (exec (Stmt.Assign [Expr.Name _ _] _ _) _) _ _ _); k_dflt (refine wpAny_Assign_Name ?_)))
local macro_rules | `(tactic| walk_at "isTrue") => `(tactic| (k_dflt (refine isTrue_plain ?_)))
local macro_rules | `(tactic| walk_at "eval Name") => `(tactic| (k_dflt (refine' nameX_K ?F ?X ?T ?e ?_ ?a ?b; (case b => exact kind_dec (by decide +kernel)); (case F => k_asm); (case X => k_asm); (case T => k_asm); (case a => rfl); (case e => k_is); k_whole)))
local macro_rules | `(tactic| walk_at "eval Name") => `(tactic| (k_dflt (refine' nameX_L ?F ?v ?_ ?a ?b; (case b => exact kind_dec (by decide +kernel)); (case F => k_asm); (case a => rfl); (case v => rfl); k_whole)))
/-- the names of the rounding behind its choice -/
def JR (s1 a e : Int) (b : Bool) (ts ta te : Tok) (m : Str → Option Value) : Prop :=
  m (Str.ofString "up") = some (.bool b) ∧ m (Str.ofString "e") = some (.int e te) ∧ m (Str.ofString "a") = some (.int a ta) ∧ m (Str.ofString "sign") = some (.int s1 ts)
theorem jr_in {s1 a e : Int} {b : Bool} {ts ta te : Tok} {m : Str → Option Value} (h : JR s1 a e b ts ta te m) :
    m = fun y => if y = Str.ofString "up" then some (.bool b) else if y = Str.ofString "e" then some (.int e te) else if y = Str.ofString "a" then some (.int a ta) else if y = Str.ofString "sign" then some (.int s1 ts) else m y := by
  obtain ⟨h1, h2, h3, h4⟩ := h
  funext y
  by_cases c1 : y = Str.ofString "up"
  · subst c1; rw [if_pos rfl]; exact h1
  · rw [if_neg c1]
    by_cases c2 : y = Str.ofString "e"
    · subst c2; rw [if_pos rfl]; exact h2
    · rw [if_neg c2]
      by_cases c3 : y = Str.ofString "a"
      · subst c3; rw [if_pos rfl]; exact h3
      · rw [if_neg c3]
        by_cases c4 : y = Str.ofString "sign"
        · subst c4; rw [if_pos rfl]; exact h4
        · rw [if_neg c4]
section
variable {w : World} {dp un : Nat} {gd : Option (List Code)} {cn : Str} {cs : Scope} {a : Addr} {ccd : Value} {cl : List (Str × Addr)} {outer : List Env} {A₀ : Around} {base h₀ : Heap} {L : Addr} {m : Str → Option Value} {news : List (Addr × Obj)} {s : Shared} {Q E : Value → Shared → Prop} {p : Program} {loose : List Str} {mean : ExcName → Option Value} {mg mb : Str → Option Value}
variable (B : Below A₀ base outer h₀) (F : Fr h₀ L s.heap m) (X : (hd.heap_39 w.params).In h₀) (N : News h₀ L s.heap news) (T : Top p loose mean mg mb h₀) (hk : cs.kind = .function)
include B F X N T hk
theorem law_round_spec (hd : dp + 1 < recursionLimit) {r1 : Addr} {x : Mf} {p1 : Int} {t1 t2 : Tok} {way : Way} (hx : Has news r1 x) (hs : Side (Wf x ∧ 1 ≤ p1))
  (hret : RetT h₀ L m news s Q (rlC x p1 way)) :
  wpAny (model rw_aa5009_01.row.prog w) (ktrTop dp un gd cn cs L a ccd cl outer) (call (.ref 192) [.ref r1, .int p1 t1, .str way.str t2]) Q E s := by
  revert X; k_fill; intro X
  obtain ⟨W, hp⟩ := hs.out
  have hrf : Side (¬ bits x.m - p1 ≤ 0 → _) := Side.mk (fun h => roundFacts (x := x) (p := p1) W h hp)
  have hbz := Side.mk W.b
  have hsz := Side.mk W.sz
  obtain ⟨x1, x2, x3, x4⟩ := x
  dsimp only at hrf hbz hsz
  obtain ⟨u1, u2, u3, u4, hx0⟩ := has_T w hx
  refine wpAny_call ?_
  k_dflt (refine' code_def ?k1 ?k2 ?k3 ?k4 ?k5 ?kA ?kF ?kK ?k6 ?k7 ?k8 ?k9 ?kB ?_ ?c2 ?c3 ?c4 ?c5; (case kA => exact rfl); (case kF => exact rfl); (case kK => assumption); (case k1 => k_asm); (case k2 => k_asm); (case k3 => k_asm); (case k4 => k_asm); (case k5 => k_asm); (case k6 => k_is); (case k7 => k_is); (case k8 => first | omega | ktr_room); (case k9 => first | exact BindsTo.of_eq rfl | exact binds_K (by k_in) rfl (by k_is) rfl rfl rfl); (case c5 => decide); (case kB => exact locs rfl); (case c2 => exact rfl); (case c3 => exact rfl); (case c4 => exact rfl); k_whole; intro g' L' h' FG' F' N' B' X' T'; (try dsimp only); (try k_lift B'); (try k_fold))
  refine execs_cut2 7 (fun s' => ∃ (mm : Str → Option Value) (ts ta te : Tok) (b : Bool) (led2 : List (Addr × Obj)) (hh : Heap) (tk : Nat), s' = { s with heap := hh, toks := tk } ∧ Fr g' L' hh mm ∧ News g' L' hh led2 ∧ (∀ q ∈ news, q ∈ led2) ∧
    JR x1 (fdv x2 (shl 1 (bits x2 - p1))) (x3 + (bits x2 - p1)) b ts ta te mm ∧ ¬ bits x2 - p1 ≤ 0 ∧ b = upL x1 (fdv x2 (shl 1 (bits x2 - p1))) (fmd x2 (shl 1 (bits x2 - p1))) (shl 1 (bits x2 - p1)) way) ?_ ?_
  · dsimp only [List.take]
    cases way <;> dsimp only [Way.str]
    all_goals
      walk_at "my steps"
      all_goals first
        | (exact side2)
        | (walk_at "my end"; dsimp only [rlC]; rw [if_pos (by assumption)]; done)
        | ((rename ¬ _ ≤ (0 : Int) => hcut0); (have hrf1 := hrf.out hcut0); (have hbz1 := hbz.out); (have hsz1 := hsz.out); (have o1 := bits_one); (have s2 := side2.out); first
            | (exact Side.mk (by omega))
            | (exfalso; omega)
            | (dsimp only [CutPost]
               refine ⟨_, _, _, _, _, _, _, _, rfl, by assumption, by assumption, by walk_at "my sub", ⟨by with_unfolding_all exact rfl, by with_unfolding_all exact rfl, by with_unfolding_all exact rfl, by with_unfolding_all exact rfl⟩, hcut0, ?_⟩
               dsimp only [upL]
               first | rfl | decide | exact (if_pos (by assumption)).symm | exact (decide_eq_true (by assumption)).symm | exact (decide_eq_false (by assumption)).symm | exact ((if_neg (by omega)).trans (if_pos (by assumption))).symm | exact ((if_neg (by omega)).trans (if_neg (by assumption))).symm | exact (decide_eq_true (by assumption)).trans (if_pos (by assumption)).symm | exact (beq_false_of_ne (by assumption)).trans ((if_neg (by omega)).trans (if_neg (by assumption))).symm | skip))
        | skip
  · rintro s2 ⟨mm, ts, ta, te, b, led2, hh, tk, rfl, F2, N2, hs2, hJ, hcut0, hb⟩
    dsimp only [List.drop]
    rw [jr_in hJ] at F2
    have hrf1 := hrf.out hcut0
    cases b
    all_goals
      (try k_fold)
      walk_at "my steps"
      all_goals first
        | (exact side2)
        | ((rename Fr _ _ _ _ => lF'); (rename News _ _ _ _ => lN')
           (refine While_inv2 (strJ _ _ _ _) lF' lN' (strJ_start (by with_unfolding_all rfl) (by with_unfolding_all rfl) (by omega)) ?_)
           rintro n1 m1 nw1 h1 tk1 F1 N1 ⟨rfl, a9, ta9, e9, te9, k9, rfl, en9, hpos, hk9, he9⟩
           (try k_fold)
           walk_at "my steps"
           all_goals first
             | (exact side2)
             | (show WhileStep2 _ _ _ _ _ _ Flow.next _
                dsimp only [WhileStep2]
                refine ⟨_, _, _, _, _, rfl, by assumption, by assumption, ?_, strJ_next hpos hk9 he9 (by assumption)⟩
                rw [en9]
                exact fdv_half hpos (by assumption))
             | (walk_at "my end"; rw [str_end hpos hk9 he9 (by assumption)]; refine Eq.trans ?_ (if_neg hcut0).symm; dsimp only; first
                  | (refine Eq.trans ?_ (if_pos hb.symm).symm; with_reducible rfl)
                  | (refine Eq.trans ?_ (if_neg (nt hb.symm)).symm; with_reducible rfl))
             | skip)
        | skip
end
end Mine

namespace Mine
open PySem.Challenge (rw_aa5009_01)
structure MidOk (Mid : Shared → Prop) (f : Flow) (s' : Shared) : Prop where
  next : f = .next
  mid : Mid s'
theorem cut_stmt {M : Model} {A : Around} {env : Env} {st : Stmt} {Q : Flow → Shared → Prop} {E : Value → Shared → Prop} {s : Shared} (Mid : Shared → Prop)
    (h1 : wpAny M A (exec st env) (MidOk Mid) E s) (h2 : ∀ s', Mid s' → Q .next s') : wpAny M A (exec st env) Q E s :=
  wpAny_mono h1 (fun f s' h => by obtain ⟨rfl, hm⟩ := h; exact h2 s' hm) fun _ _ h => h
theorem cut_state {M : Model} {A : Around} {α : Type} {t : Sem α} {Q : α → Shared → Prop} {E : Value → Shared → Prop} {s : Shared} (P : Shared → Prop) (h : P s) (k : ∀ s', P s' → wpAny M A t Q E s') : wpAny M A t Q E s := k s h
def JScript (v : Value) (m : Str → Option Value) : Prop := m (Str.ofString "script") = some v
theorem script_in {v : Value} {x : Str} {a : Option Value} {m : Str → Option Value} (h : JScript v m) : (fun y => if y = x then a else m y) = fun y => if y = x then a else if y = Str.ofString "script" then some v else m y := by
  funext y
  by_cases h1 : y = x
  · simp [h1]
  · by_cases h2 : y = Str.ofString "script"
    · subst h2; rw [if_neg h1, if_neg h1, if_pos rfl]; exact h
    · simp [h1, h2]
/-- the tokens of a turn's names -/
structure TkA where
  g : Tok
  e : Tok
  n : Tok
  m : Tok
  w : Tok
  mo : Tok
  p : Tok
  i : Tok
/-- a turn's first frame -/
def frA (p mo : Int) (way : Way) (m n e g iv : Int) (t : TkA) (sc : Value) (m1 : Str → Option Value) : Str → Option Value := fun y =>
  if y = Str.ofString "g" then some (.int g t.g)
  else if y = Str.ofString "e" then some (.int e t.e)
  else if y = Str.ofString "n" then some (.int n t.n)
  else if y = Str.ofString "m" then some (.int m t.m)
  else if y = Str.ofString "way" then some (.str way.str t.w)
  else if y = Str.ofString "more" then some (.int mo t.mo)
  else if y = Str.ofString "p" then some (.int p t.p)
  else if y = Str.ofString "i" then some (.int iv t.i)
  else if y = Str.ofString "script" then some sc
  else m1 y
section
variable {p mo m n e g iv : Int} {way : Way} {t : TkA} {sc : Value} {m1 : Str → Option Value} {v : Int} {k : Tok}
theorem frA_g : (fun y => if y = Str.ofString "g" then some (.int v k) else frA p mo way m n e g iv t sc m1 y) = frA p mo way m n e v iv { t with g := k } sc m1 := by
  funext y; by_cases h : y = Str.ofString "g"
  · subst h; rfl
  · simp only [if_neg h, frA]
theorem frA_e : (fun y => if y = Str.ofString "e" then some (.int v k) else frA p mo way m n e g iv t sc m1 y) = frA p mo way m n v g iv { t with e := k } sc m1 := by
  funext y; by_cases h : y = Str.ofString "e"
  · subst h; rfl
  · simp only [if_neg h, frA]
theorem frA_n : (fun y => if y = Str.ofString "n" then some (.int v k) else frA p mo way m n e g iv t sc m1 y) = frA p mo way m v e g iv { t with n := k } sc m1 := by
  funext y; by_cases h : y = Str.ofString "n"
  · subst h; rfl
  · simp only [if_neg h, frA]
theorem frA_m : (fun y => if y = Str.ofString "m" then some (.int v k) else frA p mo way m n e g iv t sc m1 y) = frA p mo way v n e g iv { t with m := k } sc m1 := by
  funext y; by_cases h : y = Str.ofString "m"
  · subst h; rfl
  · simp only [if_neg h, frA]
end
/-- what stands where a turn's numbers are drawn -/
abbrev MidA (h₀ : Heap) (L : Addr) (led : List (Addr × Obj)) (s0 : Shared) (p mo : Int) (way : Way) (iv : Int) (sc : Value) (m1 : Str → Option Value) (R : Int → Int → Int → Int → Prop) (s' : Shared) : Prop :=
  ∃ (m n e g : Int) (t : TkA) (hh : Heap) (tk : Nat), s' = { s0 with heap := hh, toks := tk } ∧ Fr h₀ L hh (frA p mo way m n e g iv t sc m1) ∧ News h₀ L hh led ∧ R m n e g
end Mine

namespace Mine
open PySem.Challenge (rw_aa5009_01)
theorem execs_cut {M : Model} {A : Around} {env : Env} {l : List Stmt} {Q : Flow → Shared → Prop} {E : Value → Shared → Prop} {s : Shared} (n : Nat) (Mid : Shared → Prop)
    (h1 : wpAny M A (execs (l.take n) env) (MidOk Mid) E s) (h2 : ∀ s', Mid s' → wpAny M A (execs (l.drop n) env) Q E s') : wpAny M A (execs l env) Q E s := by
  have e : execs l env = execs (l.take n ++ l.drop n) env := by rw [List.take_append_drop]
  rw [e, execs_append']
  refine wpAny_bind (wpAny_mono h1 (fun f s' h => ?_) fun _ _ h => h)
  obtain ⟨rfl, hm⟩ := h
  exact h2 s' hm
def lawStmts : List Stmt := match PySem.Challenge.pw_aa5009_01.main.body.drop 39 with
  | [.FunctionDef _ _ b _ _ _ _ _ _ _] => b
  | _ => []
def turnStmts : List Stmt := match lawStmts with
  | .For _ _ b _ _ :: _ => b
  | _ => []
def lawScope : Scope := match PySem.Challenge.pw_aa5009_01.main.body.drop 39 with
  | [.FunctionDef _ _ _ _ _ _ sc _ _ _] => sc
  | _ => { kind := .function, names := [], isGenerator := false, isCoroutine := false }
section
variable {p mo m n e g iv : Int} {way : Way} {t : TkA} {sc : Value} {m1 : Str → Option Value} {v v2 : Int} {k k2 : Tok} {h₀ h : Heap} {L : Addr}
theorem frA_g' (F : Fr h₀ L h (fun y => if y = Str.ofString "g" then some (.int v k) else frA p mo way m n e g iv t sc m1 y)) : Fr h₀ L h (frA p mo way m n e v iv { t with g := k } sc m1) := by rw [← frA_g]; exact F
theorem frA_e' (F : Fr h₀ L h (fun y => if y = Str.ofString "e" then some (.int v k) else frA p mo way m n e g iv t sc m1 y)) : Fr h₀ L h (frA p mo way m n v g iv { t with e := k } sc m1) := by rw [← frA_e]; exact F
theorem frA_n' (F : Fr h₀ L h (fun y => if y = Str.ofString "n" then some (.int v k) else frA p mo way m n e g iv t sc m1 y)) : Fr h₀ L h (frA p mo way m v e g iv { t with n := k } sc m1) := by rw [← frA_n]; exact F
theorem frA_m' (F : Fr h₀ L h (fun y => if y = Str.ofString "m" then some (.int v k) else frA p mo way m n e g iv t sc m1 y)) : Fr h₀ L h (frA p mo way v n e g iv { t with m := k } sc m1) := by rw [← frA_m]; exact F
theorem frA_gn' (F : Fr h₀ L h (fun y => if y = Str.ofString "g" then some (.int v k) else if y = Str.ofString "n" then some (.int v2 k2) else frA p mo way m n e g iv t sc m1 y)) : Fr h₀ L h (frA p mo way m v2 e v iv { t with g := k, n := k2 } sc m1) := by
  have e1 := @frA_n p mo m n e g iv way t sc m1 v2 k2
  have e2 : (fun y => if y = Str.ofString "g" then some (Value.int v k) else if y = Str.ofString "n" then some (.int v2 k2) else frA p mo way m n e g iv t sc m1 y) =
    (fun y => if y = Str.ofString "g" then some (Value.int v k) else frA p mo way m v2 e g iv { t with n := k2 } sc m1 y) := by rw [← e1]
  rw [e2] at F
  exact frA_g' F
theorem frA_em' (F : Fr h₀ L h (fun y => if y = Str.ofString "e" then some (.int v k) else if y = Str.ofString "m" then some (.int v2 k2) else frA p mo way m n e g iv t sc m1 y)) : Fr h₀ L h (frA p mo way v2 n v g iv { t with e := k, m := k2 } sc m1) := by
  have e1 := @frA_m p mo m n e g iv way t sc m1 v2 k2
  have e2 : (fun y => if y = Str.ofString "e" then some (Value.int v k) else if y = Str.ofString "m" then some (.int v2 k2) else frA p mo way m n e g iv t sc m1 y) =
    (fun y => if y = Str.ofString "e" then some (Value.int v k) else frA p mo way v2 n e g iv { t with m := k2 } sc m1 y) := by rw [← e1]
  rw [e2] at F
  exact frA_e' F
end
end Mine

namespace Mine
open PySem.Challenge (rw_aa5009_01)
local macro_rules | `(tactic| walk_at "truthy int") => `(tactic| (with_reducible (first | refine truthy_ne (by assumption) ?_ | refine truthy_eq (by assumption) ?_ | refine truthy_imp (by assumption) (by assumption) ?_)))
local macro_rules | `(tactic| walk_at "my ifs") => `(tactic| repeat (first | (with_reducible rfl) | (refine Eq.trans ?_ (if_pos (by first | assumption | omega)).symm) | (refine Eq.trans ?_ (if_neg (by first | assumption | omega)).symm)))
local macro_rules | `(tactic| walk_at "binaryOp LShift int int") => `(tactic| ((with_reducible refine r_lshift ?_ ?_); rotate_left; (try dsimp only)))
local macro_rules | `(tactic| walk_at "inplaceOp LShift int int") => `(tactic| ((with_reducible refine r_ilshift ?_ ?_); rotate_left; (try dsimp only)))
local macro_rules | `(tactic| walk_at "binaryOp RShift int int") => `(tactic| ((with_reducible refine r_rshift ?_ ?_); rotate_left; (try dsimp only)))
local macro_rules | `(tactic| walk_at "inplaceOp RShift int int") => `(tactic| ((with_reducible refine r_irshift ?_ ?_); rotate_left; (try dsimp only)))
local macro_rules | `(tactic| walk_at "binaryOp BitAnd int int") => `(tactic| ((with_reducible refine r_and ?_); (try dsimp only)))
local macro_rules | `(tactic| walk_at "binaryOp BitXor int int") => `(tactic| ((with_reducible refine r_xor ?_); (try dsimp only)))
local macro_rules | `(tactic| walk_at "inplaceOp BitXor int int") => `(tactic| ((with_reducible refine r_ixor ?_); (try dsimp only)))
local macro_rules | `(tactic| walk_at "binaryOp Mult int int") => `(tactic| ((with_reducible refine r_mul ?_ ?_); rotate_left; (try dsimp only)))
local macro_rules | `(tactic| walk_at "binaryOp FloorDiv int int") => `(tactic| ((with_reducible refine r_fdiv ?_ ?_); rotate_left; (try dsimp only)))
local macro_rules | `(tactic| walk_at "inplaceOp FloorDiv int int") => `(tactic| ((with_reducible refine r_ifdiv ?_ ?_); rotate_left; (try dsimp only)))
local macro_rules | `(tactic| walk_at "binaryOp Mod int int") => `(tactic| ((with_reducible refine r_mod ?_ ?_); rotate_left; (try dsimp only)))
local macro_rules | `(tactic| walk_at "binaryOp Pow int int") => `(tactic| ((with_reducible refine r_pow ?_ ?_); rotate_left; (try dsimp only)))
local macro_rules | `(tactic| walk_at "call builtin:int.bit_length") => `(tactic| ((with_reducible refine r_bits ?_); (try dsimp only)))
local macro_rules | `(tactic| walk_at "eval Call Name cons nil") => `(tactic| (k_dflt (refine Call_ ?_)))
local macro_rules | `(tactic| walk_at "call ref cons nil") => `(tactic| (k_dflt (refine' trailing_spec ?k1 ?k2 ?k3 ?k4 ?k5 ?k6 ?k7 ?_; (case k1 => k_asm); (case k2 => k_asm); (case k3 => k_asm); (case k4 => k_asm); (case k5 => k_asm); (case k6 => first | exact rfl | assumption); (case k7 => first | omega | ktr_room); (intro t9 h9 tk9 F9 N9; (try dsimp only); (try k_fold)))))
local macro_rules | `(tactic| walk_at "my sub") => `(tactic| (repeat (first | exact sub_refl | refine sub_cons ?_ | refine sub_app ?_)))
local macro_rules | `(tactic| walk_at "my has") => `(tactic| (refine Has.mono (by assumption) ?_; walk_at "my sub"))
local macro_rules | `(tactic| walk_at "my end") => `(tactic| first
  | ((rename RetT _ _ _ _ _ _ _ => hR'); first
      | (refine retNew hR' ?_ (by assumption) (by assumption) (by walk_at "my sub"))
      | (refine retZero hR' ?_ (by assumption) (by assumption) (by walk_at "my sub"))
      | (refine retT hR' ?_ (by assumption) (by assumption) (by walk_at "my has") (by walk_at "my sub")))
  | ((rename RetI _ _ _ _ _ _ _ => hR'); refine retI hR' ?_ (by assumption) (News.sub (by assumption) (by walk_at "my sub")))
  | ((rename RetP _ _ _ _ _ _ _ _ => hR'); refine retP hR' ?_ ?_ (by assumption) (by assumption) (by walk_at "my sub")))
local macro_rules | `(tactic| walk_at "my enter") => `(tactic| k_dflt (refine' code_def ?k1 ?k2 ?k3 ?k4 ?k5 ?kA ?kF ?kK ?k6 ?k7 ?k8 ?k9 ?kB ?_ ?c2 ?c3 ?c4 ?c5; (case kA => exact rfl); (case kF => exact rfl); (case kK => assumption); (case k1 => k_asm); (case k2 => k_asm); (case k3 => k_asm); (case k4 => k_asm); (case k5 => k_asm); (case k6 => k_is); (case k7 => k_is); (case k8 => first | omega | ktr_room); (case k9 => first | exact BindsTo.of_eq rfl | exact binds_K (by k_in) rfl (by k_is) rfl rfl rfl); (case c5 => decide); (case kB => exact locs rfl); (case c2 => exact rfl); (case c3 => exact rfl); (case c4 => exact rfl); k_whole; intro g' L' h' FG' F' N' B' X' T'; (try dsimp only); (try k_lift B'); (try k_fold)))
local macro_rules | `(tactic| walk_at "call builtin:divmod") => `(tactic| (k_dflt (refine' r_divmod ?k1 ?k2 ?_ ?_; (case k1 => k_asm); (case k2 => k_asm)); (rotate_left 1; intro r9 h9 F9 N9; (try dsimp only))))
local macro_rules | `(tactic| walk_at "my units") => `(tactic| first | ((try simp only [units_deeper]); (try dsimp only [ktrTop]); omega) | decide | (exact Nat.le_of_ble_eq_true rfl) | ((try simp only [units_deeper, units_caller, cLine]); omega))
local macro_rules | `(tactic| walk_at "my reads") => `(tactic| first
  | (refine' nan_reads ?f ?x; (case f => k_asm); (case x => k_asm); done)
  | (refine' has_reads ?f ?x ?n ?s (Or.inr ⟨rfl, rfl⟩); (case f => k_asm); (case x => k_asm); (case n => k_asm); (case s => exact sub_refl); done)
  | (refine' has_reads ?f ?x ?n ?s ?h; (case h => assumption); (case f => k_asm); (case x => k_asm); (case n => k_asm); (case s => walk_at "my sub"); done)
  | (refine' readsM_of (x := ⟨_, _, _, _⟩) (News.get ?n ?m); (case n => k_asm); (case m => k_mem)))
local macro_rules | `(tactic| walk_at "compareOp Eq ref ref") => `(tactic| (k_dflt (refine' r_eq ?ra ?rb ?ru ?_; (case ra => walk_at "my reads"); (case rb => walk_at "my reads"); (case ru => walk_at "my units")); (try dsimp only)))
local macro_rules | `(tactic| walk_at "compareOp NotEq ref ref") => `(tactic| (k_dflt (refine' r_ne ?ra ?rb ?ru ?_; (case ra => walk_at "my reads"); (case rb => walk_at "my reads"); (case ru => walk_at "my units")); (try dsimp only)))
local macro_rules | `(tactic| walk_at "compareOp Eq ref ref") => `(tactic| (k_dflt (first
  | (refine' r_eq_no ?ra ?rb ?ru ?rn ?_; (case ra => walk_at "my reads"); (case rb => walk_at "my reads"); (case ru => walk_at "my units"); (case rn => assumption))
  | (refine' r_eq_yes ?ra ?rb ?ru ?rn ?rp ?_; (case ra => walk_at "my reads"); (case rb => walk_at "my reads"); (case ru => walk_at "my units"); (case rn => assumption); (case rp => first | exact True.intro | assumption)))))
local macro_rules | `(tactic| walk_at "call builtin:max") => `(tactic| (k_dflt (refine' r_max ?kh ?k1 ?k2 ?_; (case kh => rfl); (case k1 => k_asm); (case k2 => k_asm)); (intro t9 h9 tk9 F9 N9; (try dsimp only))))
local macro_rules | `(tactic| walk_at "compareOp In str str") => `(tactic| (first | refine in_fd_yes (by assumption) ?_ | refine in_fd_no (by assumption) ?_))
local macro_rules | `(tactic| walk_at "call ref cons nil") => `(tactic| (k_dflt (refine' law_draw_spec ?k1 ?k2 ?k3 ?k4 ?k5 ?k6 ?k7 ?hl ?hi ?hn ?_ ?_; (case k1 => k_asm); (case k2 => k_asm); (case k3 => k_asm); (case k4 => k_asm); (case k5 => k_asm); (case k6 => first | exact rfl | assumption); (case k7 => first | omega | ktr_room); (case hl => assumption); (case hi => assumption); (case hn => first | assumption | omega); (rotate_left 1; intro v9 a9 b9 t9 h9 tk9 F9 N9; (try dsimp only); (try k_fold)))))
local macro_rules | `(tactic| walk_at "call ref cons nil") => `(tactic| (k_dflt (refine' law_number_spec ?k1 ?k2 ?k3 ?k4 ?k5 ?k6 ?k7 ?hl ?hi ?hn ?_ ?_; (case k1 => k_asm); (case k2 => k_asm); (case k3 => k_asm); (case k4 => k_asm); (case k5 => k_asm); (case k6 => first | exact rfl | assumption); (case k7 => first | omega | ktr_room); (case hl => assumption); (case hi => assumption); (case hn => first | assumption | omega); (rotate_left 1; intro v9 a9 b9 t9 h9 tk9 F9 N9; (try dsimp only); (try k_fold)))))
local macro_rules | `(tactic| walk_at "subscriptTail Constant") => `(tactic| (refine way_item (by assumption) (by assumption) (by with_unfolding_all rfl) (by intro _; with_unfolding_all rfl) ?_; intro way9 t9 tk9; (try dsimp only)))
local macro_rules | `(tactic| walk_at "my steps") => `(tactic| (repeat' (first | (k_unfold; (try dsimp only)) | ((fail_if_success (with_reducible show wpAny _ _ (exec (Stmt.While _ _ _ _) _) _ _ _)); (fail_if_success (with_reducible show wpAny _ _ (exec (Stmt.For _ _ _ _ _) _) _ _ _)); first | walk1 | (dsimp only; walk1)))))
local macro_rules | `(tactic| walk_at "WhileStep2 ret") => `(tactic| (dsimp only [WhileStep2]))
local macro_rules | `(tactic| walk_at "TurnPost ret") => `(tactic| (dsimp only [TurnPost]))
local macro_rules | `(tactic| walk_at "my stepsL") => `(tactic| (repeat' (first | (k_unfold; (try dsimp only)) | ((fail_if_success (with_reducible show wpAny _ _ (exec (Stmt.While _ _ _ _) _) _ _ _)); (fail_if_success (with_reducible show wpAny _ _ (exec (Stmt.For _ _ _ _ _) _) _ _ _)); (fail_if_success (with_reducible show wpAny _ _ (exec (Stmt.If _ _ _ _) _) _ _ _)); (fail_if_success (with_reducible show wpAny _ _ (pyIter (Value.ref _)) _ _ _)); first | walk1 | (dsimp only; walk1)))))
local macro_rules | `(tactic| walk_at "storeName") => `(tactic| (k_dflt (refine' storeX_L ?F ?N ?_ ?a ?b; (case b => exact kind_dec (by decide +kernel)); (case F => k_asm); (case N => k_asm); (case a => rfl); k_whole; intro h' F' N'; (try k_sweep))))
local macro_rules | `(tactic| walk_at "spliced") => `(tactic| (k_dflt (first | refine spliced_more ?_ | (refine spliced_none ?_; (try dsimp only)))))
local macro_rules | `(tactic| walk_at "exec Assign") => `(tactic| ((with_reducible show wpAny _ _ (exec (Stmt.Assign [Expr.Name _ _] _ _) _) _ _ _); k_dflt (refine wpAny_Assign_Name ?_)))
local macro_rules | `(tactic| walk_at "isTrue") => `(tactic| (k_dflt (refine isTrue_plain ?_)))
local macro_rules | `(tactic| walk_at "eval Name") => `(tactic| (k_dflt (refine' nameX_K ?F ?X ?T ?e ?_ ?a ?b; (case b => exact kind_dec (by decide +kernel)); (case F => k_asm); (case X => k_asm); (case T => k_asm); (case a => rfl); (case e => k_is); k_whole)))
local macro_rules | `(tactic| walk_at "eval Name") => `(tactic| (k_dflt (refine' nameX_L ?F ?v ?_ ?a ?b; (case b => exact kind_dec (by decide +kernel)); (case F => k_asm); (case a => rfl); (case v => rfl); k_whole)))
section
variable {w : World} {fa : Addr} {cd : Value} {base h₀ : Heap} {L : Addr} {led : List (Addr × Obj)} {s : Shared} {E : Value → Shared → Prop} {p0 : Program} {loose : List Str} {mean : ExcName → Option Value} {mg mb : Str → Option Value} {l : Addr} {vs : List Value} {ns : List Int} {iv : Int} {ti : Tok} {m1 : Str → Option Value}
variable (B : Below callerA base [] h₀) (X : (hd.heap_39 w.params).In h₀) (N : News h₀ L s.heap led) (T : Top p0 loose mean mg mb h₀)
include B X N T
theorem seg1 (F : Fr h₀ L s.heap (fun y => if y = Str.ofString "i" then some (.int iv ti) else if y = Str.ofString "script" then some (.ref l) else m1 y))
    (hl : base.IsList l vs.toArray) (hi : IntsAre vs ns) (hlen : ns.length ≤ 63) (hiv : 0 ≤ iv ∧ iv ≤ 22) :
    wpAny (model rw_aa5009_01.row.prog w) (callerA.deeper (envOf (Str.ofString "law") lawScope L fa cd)) (execs (turnStmts.take 7) (envOf (Str.ofString "law") lawScope L fa cd))
      (MidOk fun s' => ∃ (p mo : Int) (way : Way), 2 ≤ p ∧ p ≤ 18 ∧ 0 ≤ mo ∧ mo ≤ 12 ∧ MidA h₀ L led s p mo way iv (.ref l) m1 (fun m n e g => 0 ≤ m ∧ m < shl 1 p ∧ 0 ≤ n ∧ n < shl 1 p ∧ -32 ≤ e ∧ e ≤ 31 ∧ -32 ≤ g ∧ g ≤ 31) s') E s := by
  revert X; k_fill; intro X
  dsimp only [turnStmts, lawStmts, lawScope, PySem.Challenge.pw_aa5009_01, List.drop, List.take]
  (try k_fold)
  k_steps
  all_goals first
    | (exact Side.mk (by omega))
    | ((rename Fr _ _ _ _ => F2); (rename News _ _ _ _ => N2)
       refine ⟨rfl, _, _, _, ?_, ?_, ?_, ?_, _, _, _, _, ⟨_, _, _, _, _, _, _, _⟩, _, _, rfl, F2, N2, ?_⟩
       all_goals omega)
end
theorem ne_way {A : Around} {E : Value → Shared → Prop} {way : Way} {t u : Tok} {prog : Program} {w : World} {s : Shared} {Q : Value → Shared → Prop} (hw : way ≠ .n) (h : Q (.bool true) s) :
   wpAny (model prog w) A (compareOp .NotEq (.str way.str t) (.str (Str.ofString "n") u)) Q E s := by
  refine ne_str ?_
  have e : (way.str != Str.ofString "n") = true := by cases way <;> first | contradiction | decide
  rw [e]; exact h
theorem bits_small {v p : Int} (hp : 0 ≤ p) (h0 : 0 ≤ v) (h1 : v < shl 1 p) : bits v ≤ p := by
  rw [shl_eq, Int.one_mul] at h1
  have h2 : v.natAbs < 2 ^ p.toNat := by
    have : ((v.natAbs : Nat) : Int) < ((2 ^ p.toNat : Nat) : Int) := by rw [kbt_cast]; omega
    exact_mod_cast this
  have := bits_of_lt h2
  omega
theorem bits_shl100 : bits (shl 1 100) = 101 := by
  rw [shl_eq, Int.one_mul]
  exact bits_pow 100
theorem long_facts {n : Int} (h : bits n ≤ 18) : bits (mul n (shl 1 100) + 1) ≤ 119 ∧ mul n (shl 1 100) + 1 ≠ 0 := by
  have h1 := lt_of_bits n
  have h2 : n.natAbs < 2 ^ 18 := Nat.lt_of_lt_of_le h1 (Nat.pow_le_pow_right (by decide) (by omega))
  rw [mul_eq, shl_eq, Int.one_mul]
  have e : (100 : Int).toNat = 100 := rfl
  rw [e]
  refine ⟨?_, by omega⟩
  exact bits_of_lt (k := 119) (by omega)
def R1 (p : Int) (m n e g : Int) : Prop := bits m ≤ p ∧ bits n ≤ p ∧ n ≠ 0 ∧ -32 ≤ e ∧ e ≤ 31 ∧ -32 ≤ g ∧ g ≤ 31
def R2 (p mo : Int) (way : Way) (m n e g : Int) : Prop := bits m ≤ p ∧ bits n ≤ 119 ∧ n ≠ 0 ∧ (way = .n → bits n ≤ p) ∧ (fmd mo 2 = 1 ∨ bits n ≤ p) ∧ -32 ≤ e ∧ e ≤ 31 ∧ -132 ≤ g ∧ g ≤ 31
def R3 (p mo : Int) (way : Way) (eb gb : Int) (m n e g : Int) : Prop := bits m ≤ 119 ∧ bits n ≤ 119 ∧ n ≠ 0 ∧ (way = .n → bits n ≤ p ∧ bits m ≤ p) ∧ (fmd mo 2 = 1 ∨ bits n ≤ p) ∧ (fmd mo 4 = 2 ∨ bits m ≤ p) ∧ -132 ≤ e ∧ e ≤ eb ∧ -132 ≤ g ∧ g ≤ gb
end Mine

namespace Mine
open PySem.Challenge (rw_aa5009_01)
local macro_rules | `(tactic| walk_at "truthy int") => `(tactic| (with_reducible (first | refine truthy_ne (by assumption) ?_ | refine truthy_eq (by assumption) ?_ | refine truthy_imp (by assumption) (by assumption) ?_)))
local macro_rules | `(tactic| walk_at "my ifs") => `(tactic| repeat (first | (with_reducible rfl) | (refine Eq.trans ?_ (if_pos (by first | assumption | omega)).symm) | (refine Eq.trans ?_ (if_neg (by first | assumption | omega)).symm)))
local macro_rules | `(tactic| walk_at "binaryOp LShift int int") => `(tactic| ((with_reducible refine r_lshift ?_ ?_); rotate_left; (try dsimp only)))
local macro_rules | `(tactic| walk_at "inplaceOp LShift int int") => `(tactic| ((with_reducible refine r_ilshift ?_ ?_); rotate_left; (try dsimp only)))
local macro_rules | `(tactic| walk_at "binaryOp RShift int int") => `(tactic| ((with_reducible refine r_rshift ?_ ?_); rotate_left; (try dsimp only)))
local macro_rules | `(tactic| walk_at "inplaceOp RShift int int") => `(tactic| ((with_reducible refine r_irshift ?_ ?_); rotate_left; (try dsimp only)))
local macro_rules | `(tactic| walk_at "binaryOp BitAnd int int") => `(tactic| ((with_reducible refine r_and ?_); (try dsimp only)))
local macro_rules | `(tactic| walk_at "binaryOp BitXor int int") => `(tactic| ((with_reducible refine r_xor ?_); (try dsimp only)))
local macro_rules | `(tactic| walk_at "inplaceOp BitXor int int") => `(tactic| ((with_reducible refine r_ixor ?_); (try dsimp only)))
local macro_rules | `(tactic| walk_at "binaryOp Mult int int") => `(tactic| ((with_reducible refine r_mul ?_ ?_); rotate_left; (try dsimp only)))
local macro_rules | `(tactic| walk_at "binaryOp FloorDiv int int") => `(tactic| ((with_reducible refine r_fdiv ?_ ?_); rotate_left; (try dsimp only)))
local macro_rules | `(tactic| walk_at "inplaceOp FloorDiv int int") => `(tactic| ((with_reducible refine r_ifdiv ?_ ?_); rotate_left; (try dsimp only)))
local macro_rules | `(tactic| walk_at "binaryOp Mod int int") => `(tactic| ((with_reducible refine r_mod ?_ ?_); rotate_left; (try dsimp only)))
local macro_rules | `(tactic| walk_at "binaryOp Pow int int") => `(tactic| ((with_reducible refine r_pow ?_ ?_); rotate_left; (try dsimp only)))
local macro_rules | `(tactic| walk_at "call builtin:int.bit_length") => `(tactic| ((with_reducible refine r_bits ?_); (try dsimp only)))
local macro_rules | `(tactic| walk_at "eval Call Name cons nil") => `(tactic| (k_dflt (refine Call_ ?_)))
local macro_rules | `(tactic| walk_at "call ref cons nil") => `(tactic| (k_dflt (refine' trailing_spec ?k1 ?k2 ?k3 ?k4 ?k5 ?k6 ?k7 ?_; (case k1 => k_asm); (case k2 => k_asm); (case k3 => k_asm); (case k4 => k_asm); (case k5 => k_asm); (case k6 => first | exact rfl | assumption); (case k7 => first | omega | ktr_room); (intro t9 h9 tk9 F9 N9; (try dsimp only); (try k_fold)))))
local macro_rules | `(tactic| walk_at "my sub") => `(tactic| (repeat (first | exact sub_refl | refine sub_cons ?_ | refine sub_app ?_)))
local macro_rules | `(tactic| walk_at "my has") => `(tactic| (refine Has.mono (by assumption) ?_; walk_at "my sub"))
local macro_rules | `(tactic| walk_at "my end") => `(tactic| first
  | ((rename RetT _ _ _ _ _ _ _ => hR'); first
      | (refine retNew hR' ?_ (by assumption) (by assumption) (by walk_at "my sub"))
      | (refine retZero hR' ?_ (by assumption) (by assumption) (by walk_at "my sub"))
      | (refine retT hR' ?_ (by assumption) (by assumption) (by walk_at "my has") (by walk_at "my sub")))
  | ((rename RetI _ _ _ _ _ _ _ => hR'); refine retI hR' ?_ (by assumption) (News.sub (by assumption) (by walk_at "my sub")))
  | ((rename RetP _ _ _ _ _ _ _ _ => hR'); refine retP hR' ?_ ?_ (by assumption) (by assumption) (by walk_at "my sub")))
local macro_rules | `(tactic| walk_at "my enter") => `(tactic| k_dflt (refine' code_def ?k1 ?k2 ?k3 ?k4 ?k5 ?kA ?kF ?kK ?k6 ?k7 ?k8 ?k9 ?kB ?_ ?c2 ?c3 ?c4 ?c5; (case kA => exact rfl); (case kF => exact rfl); (case kK => assumption); (case k1 => k_asm); (case k2 => k_asm); (case k3 => k_asm); (case k4 => k_asm); (case k5 => k_asm); (case k6 => k_is); (case k7 => k_is); (case k8 => first | omega | ktr_room); (case k9 => first | exact BindsTo.of_eq rfl | exact binds_K (by k_in) rfl (by k_is) rfl rfl rfl); (case c5 => decide); (case kB => exact locs rfl); (case c2 => exact rfl); (case c3 => exact rfl); (case c4 => exact rfl); k_whole; intro g' L' h' FG' F' N' B' X' T'; (try dsimp only); (try k_lift B'); (try k_fold)))
local macro_rules | `(tactic| walk_at "my units") => `(tactic| first | ((try simp only [units_deeper]); (try dsimp only [ktrTop]); omega) | decide | (exact Nat.le_of_ble_eq_true rfl) | ((try simp only [units_deeper, units_caller, cLine]); omega))
local macro_rules | `(tactic| walk_at "my reads") => `(tactic| first
  | (refine' nan_reads ?f ?x; (case f => k_asm); (case x => k_asm); done)
  | (refine' has_reads ?f ?x ?n ?s (Or.inr ⟨rfl, rfl⟩); (case f => k_asm); (case x => k_asm); (case n => k_asm); (case s => exact sub_refl); done)
  | (refine' has_reads ?f ?x ?n ?s ?h; (case h => assumption); (case f => k_asm); (case x => k_asm); (case n => k_asm); (case s => walk_at "my sub"); done)
  | (refine' readsM_of (x := ⟨_, _, _, _⟩) (News.get ?n ?m); (case n => k_asm); (case m => k_mem)))
local macro_rules | `(tactic| walk_at "compareOp Eq ref ref") => `(tactic| (k_dflt (refine' r_eq ?ra ?rb ?ru ?_; (case ra => walk_at "my reads"); (case rb => walk_at "my reads"); (case ru => walk_at "my units")); (try dsimp only)))
local macro_rules | `(tactic| walk_at "compareOp NotEq ref ref") => `(tactic| (k_dflt (refine' r_ne ?ra ?rb ?ru ?_; (case ra => walk_at "my reads"); (case rb => walk_at "my reads"); (case ru => walk_at "my units")); (try dsimp only)))
local macro_rules | `(tactic| walk_at "compareOp Eq ref ref") => `(tactic| (k_dflt (first
  | (refine' r_eq_no ?ra ?rb ?ru ?rn ?_; (case ra => walk_at "my reads"); (case rb => walk_at "my reads"); (case ru => walk_at "my units"); (case rn => assumption))
  | (refine' r_eq_yes ?ra ?rb ?ru ?rn ?rp ?_; (case ra => walk_at "my reads"); (case rb => walk_at "my reads"); (case ru => walk_at "my units"); (case rn => assumption); (case rp => first | exact True.intro | assumption)))))
local macro_rules | `(tactic| walk_at "compareOp NotEq str str") => `(tactic| (refine ne_way (by assumption) ?_))
local macro_rules | `(tactic| walk_at "my mid") => `(tactic| (refine ⟨rfl, _, _, _, _, _, _, _, rfl, (by first | assumption | exact frA_n' (by assumption) | exact frA_m' (by assumption) | exact frA_e' (by assumption) | exact frA_g' (by assumption) | exact frA_gn' (by assumption) | exact frA_em' (by assumption)), by assumption, ?_⟩))
local macro_rules | `(tactic| walk_at "my steps") => `(tactic| (repeat' (first | (k_unfold; (try dsimp only)) | ((fail_if_success (with_reducible show wpAny _ _ (exec (Stmt.While _ _ _ _) _) _ _ _)); (fail_if_success (with_reducible show wpAny _ _ (exec (Stmt.For _ _ _ _ _) _) _ _ _)); first | walk1 | (dsimp only; walk1)))))
local macro_rules | `(tactic| walk_at "WhileStep2 ret") => `(tactic| (dsimp only [WhileStep2]))
local macro_rules | `(tactic| walk_at "TurnPost ret") => `(tactic| (dsimp only [TurnPost]))
local macro_rules | `(tactic| walk_at "my stepsL") => `(tactic| (repeat' (first | (k_unfold; (try dsimp only)) | ((fail_if_success (with_reducible show wpAny _ _ (exec (Stmt.While _ _ _ _) _) _ _ _)); (fail_if_success (with_reducible show wpAny _ _ (exec (Stmt.For _ _ _ _ _) _) _ _ _)); (fail_if_success (with_reducible show wpAny _ _ (exec (Stmt.If _ _ _ _) _) _ _ _)); (fail_if_success (with_reducible show wpAny _ _ (pyIter (Value.ref _)) _ _ _)); first | walk1 | (dsimp only; walk1)))))
local macro_rules | `(tactic| walk_at "storeName") => `(tactic| (k_dflt (refine' storeX_L ?F ?N ?_ ?a ?b; (case b => exact kind_dec (by decide +kernel)); (case F => k_asm); (case N => k_asm); (case a => rfl); k_whole; intro h' F' N'; (try k_sweep))))
local macro_rules | `(tactic| walk_at "spliced") => `(tactic| (k_dflt (first | refine spliced_more ?_ | (refine spliced_none ?_; (try dsimp only)))))
local macro_rules | `(tactic| walk_at "exec Assign") => `(tactic| ((with_reducible show wpAny _ _ (exec (Stmt.Assign [Expr.Name _ _] _ _) _) _ _ _); k_dflt (refine wpAny_Assign_Name ?_)))
local macro_rules | `(tactic| walk_at "isTrue") => `(tactic| (k_dflt (refine isTrue_plain ?_)))
local macro_rules | `(tactic| walk_at "eval Name") => `(tactic| (k_dflt (refine' nameX_K ?F ?X ?T ?e ?_ ?a ?b; (case b => exact kind_dec (by decide +kernel)); (case F => k_asm); (case X => k_asm); (case T => k_asm); (case a => rfl); (case e => k_is); k_whole)))
local macro_rules | `(tactic| walk_at "eval Name") => `(tactic| (k_dflt (refine' nameX_L ?F ?v ?_ ?a ?b; (case b => exact kind_dec (by decide +kernel)); (case F => k_asm); (case a => rfl); (case v => rfl); k_whole)))
section
variable {w : World} {fa : Addr} {cd : Value} {base h₀ : Heap} {L : Addr} {led : List (Addr × Obj)} {s : Shared} {E : Value → Shared → Prop} {p0 : Program} {loose : List Str} {mean : ExcName → Option Value} {mg mb : Str → Option Value} {l : Addr} {vs : List Value} {ns : List Int} {iv : Int} {ti : Tok} {m1 : Str → Option Value}
variable (B : Below callerA base [] h₀) (X : (hd.heap_39 w.params).In h₀) (N : News h₀ L s.heap led) (T : Top p0 loose mean mg mb h₀)
include B X N T
theorem if0_ok {p mo m n e g : Int} {way : Way} {t : TkA} {sc : Value} (hp1 : 2 ≤ p) (hp2 : p ≤ 18) (hmo1 : 0 ≤ mo) (hmo2 : mo ≤ 12)
    (F : Fr h₀ L s.heap (frA p mo way m n e g iv t sc m1)) (hR : Side ((fun m n e g => 0 ≤ m ∧ m < shl 1 p ∧ 0 ≤ n ∧ n < shl 1 p ∧ -32 ≤ e ∧ e ≤ 31 ∧ -32 ≤ g ∧ g ≤ 31) m n e g)) :
    wpAny (model rw_aa5009_01.row.prog w) (callerA.deeper (envOf (Str.ofString "law") lawScope L fa cd)) (execs ((turnStmts.drop 7).take 1) (envOf (Str.ofString "law") lawScope L fa cd))
      (MidOk (MidA h₀ L led s p mo way iv sc m1 (R1 p))) E s := by
  revert X; k_fill; intro X
  dsimp only [turnStmts, lawStmts, lawScope, PySem.Challenge.pw_aa5009_01, List.drop, List.take]
  (try k_fold)
  k_steps
  all_goals first
    | (exact Side.mk (by have := bits_one; have := bits_of_lt (a := 2) (k := 3) (by decide); have := bits_of_lt (a := 4) (k := 3) (by decide); have := bits_shl100; have := bits_of_lt (a := 100) (k := 7) (by decide); obtain ⟨r1, r2, r3, r4⟩ := hR.out; omega))
    | (walk_at "my mid"; (have h := hR.out; have q1 := bits_small (p := p) (by omega) h.1 h.2.1; have q2 := bits_small (p := p) (by omega) h.2.2.1 h.2.2.2.1; have := bits_one; unfold R1; omega))

theorem if1_ok {p mo m n e g : Int} {way : Way} {t : TkA} {sc : Value} (hp1 : 2 ≤ p) (hp2 : p ≤ 18) (hmo1 : 0 ≤ mo) (hmo2 : mo ≤ 12)
    (F : Fr h₀ L s.heap (frA p mo way m n e g iv t sc m1)) (hR : Side (R1 p m n e g)) :
    wpAny (model rw_aa5009_01.row.prog w) (callerA.deeper (envOf (Str.ofString "law") lawScope L fa cd)) (execs ((turnStmts.drop 8).take 1) (envOf (Str.ofString "law") lawScope L fa cd))
      (MidOk (MidA h₀ L led s p mo way iv sc m1 (R2 p mo way))) E s := by
  revert X; k_fill; intro X
  dsimp only [turnStmts, lawStmts, lawScope, PySem.Challenge.pw_aa5009_01, List.drop, List.take]
  by_cases hw : way = .n
  · subst hw
    unfold frA at F; dsimp only [Way.str] at F
    (try k_fold)
    k_steps
    all_goals first
      | (refine ⟨rfl, _, _, _, _, t, _, _, rfl, F, by assumption, ?_⟩; (obtain ⟨h1, h2, h3, h4⟩ := hR.out; have q := long_facts (n := n) (by omega); unfold R2; first | (refine ⟨by omega, by omega, by omega, fun _ => by omega, by omega, by omega⟩) | (refine ⟨by omega, by omega, by omega, fun hh => absurd hh hw, by omega, by omega⟩)))
  · (try k_fold)
    k_steps
    all_goals first
      | (exact Side.mk (by have := bits_one; have := bits_of_lt (a := 2) (k := 3) (by decide); have := bits_of_lt (a := 4) (k := 3) (by decide); have := bits_shl100; have := bits_of_lt (a := 100) (k := 7) (by decide); obtain ⟨r1, r2, r3, r4⟩ := hR.out; omega))
      | (walk_at "my mid"; (obtain ⟨h1, h2, h3, h4⟩ := hR.out; have q := long_facts (n := n) (by omega); unfold R2; first | (refine ⟨by omega, by omega, by omega, fun _ => by omega, by omega, by omega⟩) | (refine ⟨by omega, by omega, by omega, fun hh => absurd hh hw, by omega, by omega⟩)))

theorem if2_ok {p mo m n e g : Int} {way : Way} {t : TkA} {sc : Value} (hp1 : 2 ≤ p) (hp2 : p ≤ 18) (hmo1 : 0 ≤ mo) (hmo2 : mo ≤ 12)
    (F : Fr h₀ L s.heap (frA p mo way m n e g iv t sc m1)) (hR : Side (R2 p mo way m n e g)) :
    wpAny (model rw_aa5009_01.row.prog w) (callerA.deeper (envOf (Str.ofString "law") lawScope L fa cd)) (execs ((turnStmts.drop 9).take 1) (envOf (Str.ofString "law") lawScope L fa cd))
      (MidOk (MidA h₀ L led s p mo way iv sc m1 (R3 p mo way 31 31))) E s := by
  revert X; k_fill; intro X
  dsimp only [turnStmts, lawStmts, lawScope, PySem.Challenge.pw_aa5009_01, List.drop, List.take]
  by_cases hw : way = .n
  · subst hw
    unfold frA at F; dsimp only [Way.str] at F
    (try k_fold)
    k_steps
    all_goals first
      | (refine ⟨rfl, _, _, _, _, t, _, _, rfl, F, by assumption, ?_⟩; (obtain ⟨h1, h2, h3, h4, h5⟩ := hR.out; have q := long_facts (n := m) (by omega); unfold R3; first | (refine ⟨by omega, by omega, by omega, fun hh => ⟨h4 hh, by omega⟩, by omega, by omega, by omega⟩) | (refine ⟨by omega, by omega, by omega, fun hh => absurd hh hw, by omega, by omega, by omega⟩)))
  · (try k_fold)
    k_steps
    all_goals first
      | (exact Side.mk (by have := bits_one; have := bits_of_lt (a := 2) (k := 3) (by decide); have := bits_of_lt (a := 4) (k := 3) (by decide); have := bits_shl100; have := bits_of_lt (a := 100) (k := 7) (by decide); obtain ⟨r1, r2, r3, r4⟩ := hR.out; omega))
      | (walk_at "my mid"; (obtain ⟨h1, h2, h3, h4, h5⟩ := hR.out; have q := long_facts (n := m) (by omega); unfold R3; first | (refine ⟨by omega, by omega, by omega, fun hh => ⟨h4 hh, by omega⟩, by omega, by omega, by omega⟩) | (refine ⟨by omega, by omega, by omega, fun hh => absurd hh hw, by omega, by omega, by omega⟩)))

theorem if3_ok {p mo m n e g : Int} {way : Way} {t : TkA} {sc : Value} (hp1 : 2 ≤ p) (hp2 : p ≤ 18) (hmo1 : 0 ≤ mo) (hmo2 : mo ≤ 12)
    (F : Fr h₀ L s.heap (frA p mo way m n e g iv t sc m1)) (hR : Side (R3 p mo way 31 31 m n e g)) :
    wpAny (model rw_aa5009_01.row.prog w) (callerA.deeper (envOf (Str.ofString "law") lawScope L fa cd)) (execs ((turnStmts.drop 10).take 1) (envOf (Str.ofString "law") lawScope L fa cd))
      (MidOk (MidA h₀ L led s p mo way iv sc m1 (R3 p mo way 31 31))) E s := by
  revert X; k_fill; intro X
  dsimp only [turnStmts, lawStmts, lawScope, PySem.Challenge.pw_aa5009_01, List.drop, List.take]
  (try k_fold)
  k_steps
  all_goals first
    | (exact Side.mk (by have := bits_one; have := bits_of_lt (a := 2) (k := 3) (by decide); have := bits_of_lt (a := 4) (k := 3) (by decide); have := bits_shl100; have := bits_of_lt (a := 100) (k := 7) (by decide); obtain ⟨r1, r2, r3, r4⟩ := hR.out; omega))
    | (walk_at "my mid"; (obtain ⟨h1, h2, h3, h4, h5⟩ := hR.out; have q1 := bits_neg m; have q2 := bits_neg n; unfold R3; exact ⟨by omega, by omega, by omega, fun hh => by have := h4 hh; omega, by omega, by omega, by omega⟩))

theorem if4_ok {p mo m n e g : Int} {way : Way} {t : TkA} {sc : Value} (hp1 : 2 ≤ p) (hp2 : p ≤ 18) (hmo1 : 0 ≤ mo) (hmo2 : mo ≤ 12)
    (F : Fr h₀ L s.heap (frA p mo way m n e g iv t sc m1)) (hR : Side (R3 p mo way 31 31 m n e g)) :
    wpAny (model rw_aa5009_01.row.prog w) (callerA.deeper (envOf (Str.ofString "law") lawScope L fa cd)) (execs ((turnStmts.drop 11).take 1) (envOf (Str.ofString "law") lawScope L fa cd))
      (MidOk (MidA h₀ L led s p mo way iv sc m1 (R3 p mo way 31 31))) E s := by
  revert X; k_fill; intro X
  dsimp only [turnStmts, lawStmts, lawScope, PySem.Challenge.pw_aa5009_01, List.drop, List.take]
  (try k_fold)
  k_steps
  all_goals first
    | (exact Side.mk (by have := bits_one; have := bits_of_lt (a := 2) (k := 3) (by decide); have := bits_of_lt (a := 4) (k := 3) (by decide); have := bits_shl100; have := bits_of_lt (a := 100) (k := 7) (by decide); obtain ⟨r1, r2, r3, r4⟩ := hR.out; omega))
    | (walk_at "my mid"; (obtain ⟨h1, h2, h3, h4, h5⟩ := hR.out; have q1 := bits_neg m; have q2 := bits_neg n; unfold R3; exact ⟨by omega, by omega, by omega, fun hh => by have := h4 hh; omega, by omega, by omega, by omega⟩))

theorem if5_ok {p mo m n e g : Int} {way : Way} {t : TkA} {sc : Value} (hp1 : 2 ≤ p) (hp2 : p ≤ 18) (hmo1 : 0 ≤ mo) (hmo2 : mo ≤ 12)
    (F : Fr h₀ L s.heap (frA p mo way m n e g iv t sc m1)) (hR : Side (R3 p mo way 31 31 m n e g)) :
    wpAny (model rw_aa5009_01.row.prog w) (callerA.deeper (envOf (Str.ofString "law") lawScope L fa cd)) (execs ((turnStmts.drop 12).take 1) (envOf (Str.ofString "law") lawScope L fa cd))
      (MidOk (MidA h₀ L led s p mo way iv sc m1 (R3 p mo way 151 31))) E s := by
  revert X; k_fill; intro X
  dsimp only [turnStmts, lawStmts, lawScope, PySem.Challenge.pw_aa5009_01, List.drop, List.take]
  (try k_fold)
  k_steps
  all_goals first
    | (exact Side.mk (by have := bits_one; have := bits_of_lt (a := 2) (k := 3) (by decide); have := bits_of_lt (a := 4) (k := 3) (by decide); have := bits_shl100; have := bits_of_lt (a := 100) (k := 7) (by decide); obtain ⟨r1, r2, r3, r4⟩ := hR.out; omega))
    | (walk_at "my mid"; (obtain ⟨h1, h2, h3, h4, h5⟩ := hR.out; have q1 := bits_neg m; have q2 := bits_neg n; unfold R3; exact ⟨by omega, by omega, by omega, fun hh => by have := h4 hh; omega, by omega, by omega, by omega⟩))

theorem if6_ok {p mo m n e g : Int} {way : Way} {t : TkA} {sc : Value} (hp1 : 2 ≤ p) (hp2 : p ≤ 18) (hmo1 : 0 ≤ mo) (hmo2 : mo ≤ 12)
    (F : Fr h₀ L s.heap (frA p mo way m n e g iv t sc m1)) (hR : Side (R3 p mo way 151 31 m n e g)) :
    wpAny (model rw_aa5009_01.row.prog w) (callerA.deeper (envOf (Str.ofString "law") lawScope L fa cd)) (execs ((turnStmts.drop 13).take 1) (envOf (Str.ofString "law") lawScope L fa cd))
      (MidOk (MidA h₀ L led s p mo way iv sc m1 (R3 p mo way 151 151))) E s := by
  revert X; k_fill; intro X
  dsimp only [turnStmts, lawStmts, lawScope, PySem.Challenge.pw_aa5009_01, List.drop, List.take]
  (try k_fold)
  k_steps
  all_goals first
    | (exact Side.mk (by have := bits_one; have := bits_of_lt (a := 2) (k := 3) (by decide); have := bits_of_lt (a := 4) (k := 3) (by decide); have := bits_shl100; have := bits_of_lt (a := 100) (k := 7) (by decide); obtain ⟨r1, r2, r3, r4⟩ := hR.out; omega))
    | (walk_at "my mid"; (obtain ⟨h1, h2, h3, h4, h5⟩ := hR.out; have q1 := bits_neg m; have q2 := bits_neg n; unfold R3; exact ⟨by omega, by omega, by omega, fun hh => by have := h4 hh; omega, by omega, by omega, by omega⟩))

end
@[irreducible] def mnF (a b : Int) : Int := if b < a then b else a
theorem mnF_le (a b : Int) : mnF a b ≤ a ∧ mnF a b ≤ b ∧ (mnF a b = a ∨ mnF a b = b) := by unfold mnF; split <;> omega
section
variable {prog : Program} {w : World} {A : Around} {E : Value → Shared → Prop} {s : Shared} {h₀ : Heap} {L : Addr} {m : Str → Option Value} {news : List (Addr × Obj)} {Q : Value → Shared → Prop} {a b : Int} {t u : Tok}
theorem r_min (hh : A.handled = none) (F : Fr h₀ L s.heap m) (N : News h₀ L s.heap news)
    (h : ∀ tt h' tk, Fr h₀ L h' m → News h₀ L h' news → Q (.int (mnF a b) tt) { s with heap := h', toks := tk }) :
    wpAny (model prog w) A (call (.builtin "min") [.int a t, .int b u]) Q E s :=
  min_two_N hh F N fun h' tk F' N' => by have := h (if b < a then u else t) h' tk F' N'; unfold mnF at this; exact this
end
/-- a turn's frame behind x, y, low, a, b -/
def frB (rx ry : Addr) (lo a b : Int) (tl ta tb : Tok) (m0 : Str → Option Value) : Str → Option Value := fun y =>
  if y = Str.ofString "a" then some (.int a ta)
  else if y = Str.ofString "b" then some (.int b tb)
  else if y = Str.ofString "low" then some (.int lo tl)
  else if y = Str.ofString "x" then some (.ref rx)
  else if y = Str.ofString "y" then some (.ref ry)
  else m0 y
def frQ (q1 q2 q3 : Int) (t1 t2 t3 : Tok) (m0 : Str → Option Value) : Str → Option Value := fun y =>
  if y = Str.ofString "q1" then some (.int q1 t1)
  else if y = Str.ofString "q2" then some (.int q2 t2)
  else if y = Str.ofString "q3" then some (.int q3 t3)
  else m0 y
end Mine

namespace Mine
open PySem.Challenge (rw_aa5009_01)
local macro_rules | `(tactic| walk_at "truthy int") => `(tactic| (with_reducible (first | refine truthy_ne (by assumption) ?_ | refine truthy_eq (by assumption) ?_ | refine truthy_imp (by assumption) (by assumption) ?_)))
local macro_rules | `(tactic| walk_at "my ifs") => `(tactic| repeat (first | (with_reducible rfl) | (refine Eq.trans ?_ (if_pos (by first | assumption | omega)).symm) | (refine Eq.trans ?_ (if_neg (by first | assumption | omega)).symm)))
local macro_rules | `(tactic| walk_at "binaryOp LShift int int") => `(tactic| ((with_reducible refine r_lshift ?_ ?_); rotate_left; (try dsimp only)))
local macro_rules | `(tactic| walk_at "inplaceOp LShift int int") => `(tactic| ((with_reducible refine r_ilshift ?_ ?_); rotate_left; (try dsimp only)))
local macro_rules | `(tactic| walk_at "binaryOp RShift int int") => `(tactic| ((with_reducible refine r_rshift ?_ ?_); rotate_left; (try dsimp only)))
local macro_rules | `(tactic| walk_at "inplaceOp RShift int int") => `(tactic| ((with_reducible refine r_irshift ?_ ?_); rotate_left; (try dsimp only)))
local macro_rules | `(tactic| walk_at "binaryOp BitAnd int int") => `(tactic| ((with_reducible refine r_and ?_); (try dsimp only)))
local macro_rules | `(tactic| walk_at "binaryOp BitXor int int") => `(tactic| ((with_reducible refine r_xor ?_); (try dsimp only)))
local macro_rules | `(tactic| walk_at "inplaceOp BitXor int int") => `(tactic| ((with_reducible refine r_ixor ?_); (try dsimp only)))
local macro_rules | `(tactic| walk_at "binaryOp Mult int int") => `(tactic| ((with_reducible refine r_mul ?_ ?_); rotate_left; (try dsimp only)))
local macro_rules | `(tactic| walk_at "binaryOp FloorDiv int int") => `(tactic| ((with_reducible refine r_fdiv ?_ ?_); rotate_left; (try dsimp only)))
local macro_rules | `(tactic| walk_at "inplaceOp FloorDiv int int") => `(tactic| ((with_reducible refine r_ifdiv ?_ ?_); rotate_left; (try dsimp only)))
local macro_rules | `(tactic| walk_at "binaryOp Mod int int") => `(tactic| ((with_reducible refine r_mod ?_ ?_); rotate_left; (try dsimp only)))
local macro_rules | `(tactic| walk_at "binaryOp Pow int int") => `(tactic| ((with_reducible refine r_pow ?_ ?_); rotate_left; (try dsimp only)))
local macro_rules | `(tactic| walk_at "call builtin:int.bit_length") => `(tactic| ((with_reducible refine r_bits ?_); (try dsimp only)))
local macro_rules | `(tactic| walk_at "eval Call Name cons nil") => `(tactic| (k_dflt (refine Call_ ?_)))
local macro_rules | `(tactic| walk_at "call ref cons nil") => `(tactic| (k_dflt (refine' trailing_spec ?k1 ?k2 ?k3 ?k4 ?k5 ?k6 ?k7 ?_; (case k1 => k_asm); (case k2 => k_asm); (case k3 => k_asm); (case k4 => k_asm); (case k5 => k_asm); (case k6 => first | exact rfl | assumption); (case k7 => first | omega | ktr_room); (intro t9 h9 tk9 F9 N9; (try dsimp only); (try k_fold)))))
local macro_rules | `(tactic| walk_at "my sub") => `(tactic| (repeat (first | exact sub_refl | refine sub_cons ?_ | refine sub_app ?_)))
local macro_rules | `(tactic| walk_at "my has") => `(tactic| (refine Has.mono (by assumption) ?_; walk_at "my sub"))
local macro_rules | `(tactic| walk_at "my end") => `(tactic| first
  | ((rename RetT _ _ _ _ _ _ _ => hR'); first
      | (refine retNew hR' ?_ (by assumption) (by assumption) (by walk_at "my sub"))
      | (refine retZero hR' ?_ (by assumption) (by assumption) (by walk_at "my sub"))
      | (refine retT hR' ?_ (by assumption) (by assumption) (by walk_at "my has") (by walk_at "my sub")))
  | ((rename RetI _ _ _ _ _ _ _ => hR'); refine retI hR' ?_ (by assumption) (News.sub (by assumption) (by walk_at "my sub")))
  | ((rename RetP _ _ _ _ _ _ _ _ => hR'); refine retP hR' ?_ ?_ (by assumption) (by assumption) (by walk_at "my sub")))
local macro_rules | `(tactic| walk_at "my enter") => `(tactic| k_dflt (refine' code_def ?k1 ?k2 ?k3 ?k4 ?k5 ?kA ?kF ?kK ?k6 ?k7 ?k8 ?k9 ?kB ?_ ?c2 ?c3 ?c4 ?c5; (case kA => exact rfl); (case kF => exact rfl); (case kK => assumption); (case k1 => k_asm); (case k2 => k_asm); (case k3 => k_asm); (case k4 => k_asm); (case k5 => k_asm); (case k6 => k_is); (case k7 => k_is); (case k8 => first | omega | ktr_room); (case k9 => first | exact BindsTo.of_eq rfl | exact binds_K (by k_in) rfl (by k_is) rfl rfl rfl); (case c5 => decide); (case kB => exact locs rfl); (case c2 => exact rfl); (case c3 => exact rfl); (case c4 => exact rfl); k_whole; intro g' L' h' FG' F' N' B' X' T'; (try dsimp only); (try k_lift B'); (try k_fold)))
local macro_rules | `(tactic| walk_at "my units") => `(tactic| first | ((try simp only [units_deeper]); (try dsimp only [ktrTop]); omega) | decide | (exact Nat.le_of_ble_eq_true rfl) | ((try simp only [units_deeper, units_caller, cLine]); omega))
local macro_rules | `(tactic| walk_at "my reads") => `(tactic| first
  | (refine' nan_reads ?f ?x; (case f => k_asm); (case x => k_asm); done)
  | (refine' has_reads ?f ?x ?n ?s (Or.inr ⟨rfl, rfl⟩); (case f => k_asm); (case x => k_asm); (case n => k_asm); (case s => exact sub_refl); done)
  | (refine' has_reads ?f ?x ?n ?s ?h; (case h => assumption); (case f => k_asm); (case x => k_asm); (case n => k_asm); (case s => walk_at "my sub"); done)
  | (refine' readsM_of (x := ⟨_, _, _, _⟩) (News.get ?n ?m); (case n => k_asm); (case m => k_mem)))
local macro_rules | `(tactic| walk_at "compareOp Eq ref ref") => `(tactic| (k_dflt (refine' r_eq ?ra ?rb ?ru ?_; (case ra => walk_at "my reads"); (case rb => walk_at "my reads"); (case ru => walk_at "my units")); (try dsimp only)))
local macro_rules | `(tactic| walk_at "compareOp NotEq ref ref") => `(tactic| (k_dflt (refine' r_ne ?ra ?rb ?ru ?_; (case ra => walk_at "my reads"); (case rb => walk_at "my reads"); (case ru => walk_at "my units")); (try dsimp only)))
local macro_rules | `(tactic| walk_at "compareOp Eq ref ref") => `(tactic| (k_dflt (first
  | (refine' r_eq_no ?ra ?rb ?ru ?rn ?_; (case ra => walk_at "my reads"); (case rb => walk_at "my reads"); (case ru => walk_at "my units"); (case rn => assumption))
  | (refine' r_eq_yes ?ra ?rb ?ru ?rn ?rp ?_; (case ra => walk_at "my reads"); (case rb => walk_at "my reads"); (case ru => walk_at "my units"); (case rn => assumption); (case rp => first | exact True.intro | assumption)))))
local macro_rules | `(tactic| walk_at "compareOp NotEq str str") => `(tactic| (refine ne_way (by assumption) ?_))
local macro_rules | `(tactic| walk_at "my mid") => `(tactic| (refine ⟨rfl, _, _, _, _, _, _, _, rfl, (by first | assumption | exact frA_n' (by assumption) | exact frA_m' (by assumption) | exact frA_e' (by assumption) | exact frA_g' (by assumption) | exact frA_gn' (by assumption) | exact frA_em' (by assumption)), by assumption, ?_⟩))
local macro_rules | `(tactic| walk_at "call builtin:min") => `(tactic| (k_dflt (refine' r_min ?kh ?k1 ?k2 ?_; (case kh => rfl); (case k1 => k_asm); (case k2 => k_asm)); (intro t9 h9 tk9 F9 N9; (try dsimp only))))
local macro_rules | `(tactic| walk_at "call ref cons nil") => `(tactic| (k_dflt (refine' from_man_exp0_spec ?k1 ?k2 ?k3 ?k4 ?k5 ?k6 ?k7 ?_ ?_; (case k1 => k_asm); (case k2 => k_asm); (case k3 => k_asm); (case k4 => k_asm); (case k5 => k_asm); (case k6 => first | exact rfl | assumption); (case k7 => first | omega | ktr_room); (rotate_left 1; intro r9 tl9 h9 tk9 F9 N9 H9; (try dsimp only); (try k_fold)))))
local macro_rules | `(tactic| walk_at "my steps") => `(tactic| (repeat' (first | (k_unfold; (try dsimp only)) | ((fail_if_success (with_reducible show wpAny _ _ (exec (Stmt.While _ _ _ _) _) _ _ _)); (fail_if_success (with_reducible show wpAny _ _ (exec (Stmt.For _ _ _ _ _) _) _ _ _)); first | walk1 | (dsimp only; walk1)))))
local macro_rules | `(tactic| walk_at "WhileStep2 ret") => `(tactic| (dsimp only [WhileStep2]))
local macro_rules | `(tactic| walk_at "TurnPost ret") => `(tactic| (dsimp only [TurnPost]))
local macro_rules | `(tactic| walk_at "my stepsL") => `(tactic| (repeat' (first | (k_unfold; (try dsimp only)) | ((fail_if_success (with_reducible show wpAny _ _ (exec (Stmt.While _ _ _ _) _) _ _ _)); (fail_if_success (with_reducible show wpAny _ _ (exec (Stmt.For _ _ _ _ _) _) _ _ _)); (fail_if_success (with_reducible show wpAny _ _ (exec (Stmt.If _ _ _ _) _) _ _ _)); (fail_if_success (with_reducible show wpAny _ _ (pyIter (Value.ref _)) _ _ _)); first | walk1 | (dsimp only; walk1)))))
local macro_rules | `(tactic| walk_at "storeName") => `(tactic| (k_dflt (refine' storeX_L ?F ?N ?_ ?a ?b; (case b => exact kind_dec (by decide +kernel)); (case F => k_asm); (case N => k_asm); (case a => rfl); k_whole; intro h' F' N'; (try k_sweep))))
local macro_rules | `(tactic| walk_at "spliced") => `(tactic| (k_dflt (first | refine spliced_more ?_ | (refine spliced_none ?_; (try dsimp only)))))
local macro_rules | `(tactic| walk_at "exec Assign") => `(tactic| ((with_reducible show wpAny _ _ (exec (Stmt.Assign [Expr.Name _ _] _ _) _) _ _ _); k_dflt (refine wpAny_Assign_Name ?_)))
local macro_rules | `(tactic| walk_at "isTrue") => `(tactic| (k_dflt (refine isTrue_plain ?_)))
local macro_rules | `(tactic| walk_at "eval Name") => `(tactic| (k_dflt (refine' nameX_K ?F ?X ?T ?e ?_ ?a ?b; (case b => exact kind_dec (by decide +kernel)); (case F => k_asm); (case X => k_asm); (case T => k_asm); (case a => rfl); (case e => k_is); k_whole)))
local macro_rules | `(tactic| walk_at "eval Name") => `(tactic| (k_dflt (refine' nameX_L ?F ?v ?_ ?a ?b; (case b => exact kind_dec (by decide +kernel)); (case F => k_asm); (case a => rfl); (case v => rfl); k_whole)))
section
variable {w : World} {fa : Addr} {cd : Value} {base h₀ : Heap} {L : Addr} {led : List (Addr × Obj)} {s : Shared} {E : Value → Shared → Prop} {p0 : Program} {loose : List Str} {mean : ExcName → Option Value} {mg mb : Str → Option Value} {l : Addr} {vs : List Value} {ns : List Int} {iv : Int} {ti : Tok} {m1 : Str → Option Value}
variable (B : Below callerA base [] h₀) (X : (hd.heap_39 w.params).In h₀) (N : News h₀ L s.heap led) (T : Top p0 loose mean mg mb h₀)
include B X N T
theorem seg3 {p mo m n e g : Int} {way : Way} {t : TkA} {sc : Value} (F : Fr h₀ L s.heap (frA p mo way m n e g iv t sc m1)) (hR : Side (R3 p mo way 151 151 m n e g)) :
    wpAny (model rw_aa5009_01.row.prog w) (callerA.deeper (envOf (Str.ofString "law") lawScope L fa cd)) (execs ((turnStmts.drop 14).take 3) (envOf (Str.ofString "law") lawScope L fa cd))
      (MidOk fun s' => ∃ (rx ry : Addr) (tl ta tb : Tok) (led2 : List (Addr × Obj)) (hh : Heap) (tk : Nat), s' = { s with heap := hh, toks := tk } ∧
        Fr h₀ L hh (frB rx ry (mnF e g) (mul m (shl 1 (e - mnF e g))) (mul n (shl 1 (g - mnF e g))) tl ta tb (frA p mo way m n e g iv t sc m1)) ∧ News h₀ L hh led2 ∧ (∀ q ∈ led, q ∈ led2) ∧
        Has led2 rx (fmeC m e) ∧ Has led2 ry (fmeC n g)) E s := by
  revert X; k_fill; intro X
  have o1 := bits_one
  have o2 := mnF_le e g
  have hR2 := hR.out
  have hR3 : bits m ≤ 119 ∧ bits n ≤ 119 ∧ -132 ≤ e ∧ e ≤ 151 ∧ -132 ≤ g ∧ g ≤ 151 := by unfold R3 at hR2; omega
  have o3 := bd_shl (a := 1) (n := e - mnF e g) (k := 1) (by omega) (by omega)
  have o4 := bd_shl (a := 1) (n := g - mnF e g) (k := 1) (by omega) (by omega)
  dsimp only [turnStmts, lawStmts, lawScope, PySem.Challenge.pw_aa5009_01, List.drop, List.take]
  (try k_fold)
  k_steps
  all_goals first
    | (exact Side.mk trivial)
    | (exact Side.mk (by omega))
    | (refine ⟨rfl, _, _, _, _, _, _, _, _, rfl, by assumption, by assumption, by walk_at "my sub", by walk_at "my has", by walk_at "my has"⟩)
end
section
variable {w : World} {fa : Addr} {cd : Value} {base h₀ : Heap} {L : Addr} {led : List (Addr × Obj)} {s : Shared} {E : Value → Shared → Prop} {p0 : Program} {loose : List Str} {mean : ExcName → Option Value} {mg mb : Str → Option Value} {l : Addr} {vs : List Value} {ns : List Int} {iv : Int} {ti : Tok} {m1 : Str → Option Value}
variable (B : Below callerA base [] h₀) (X : (hd.heap_39 w.params).In h₀) (N : News h₀ L s.heap led) (T : Top p0 loose mean mg mb h₀)
include B X N T
theorem seg3b {p mo m n e g : Int} {way : Way} {t : TkA} {sc : Value} {rx ry : Addr} {lo a b : Int} {tl ta tb : Tok} (hp1 : 2 ≤ p) (hp2 : p ≤ 18) (hmo1 : 0 ≤ mo) (hmo2 : mo ≤ 12)
    (F : Fr h₀ L s.heap (frB rx ry lo a b tl ta tb (frA p mo way m n e g iv t sc m1))) :
    wpAny (model rw_aa5009_01.row.prog w) (callerA.deeper (envOf (Str.ofString "law") lawScope L fa cd)) (execs ((turnStmts.drop 17).take 1) (envOf (Str.ofString "law") lawScope L fa cd))
      (MidOk fun s' => ∃ (q1 q2 q3 : Int) (t1 t2 t3 : Tok) (led2 : List (Addr × Obj)) (hh : Heap) (tk : Nat), s' = { s with heap := hh, toks := tk } ∧
        Fr h₀ L hh (frQ q1 q2 q3 t1 t2 t3 (frB rx ry lo a b tl ta tb (frA p mo way m n e g iv t sc m1))) ∧ News h₀ L hh led2 ∧ (∀ q ∈ led, q ∈ led2) ∧
        p + 1 ≤ q1 ∧ p + 1 ≤ q2 ∧ p + 1 ≤ q3 ∧ q1 ≤ 60 ∧ q2 ≤ 60 ∧ q3 ≤ 60 ∧ (way = .n → 2 * p + 1 ≤ q1 ∧ 2 * p ≤ q2 ∧ 2 * p + 2 ≤ q3)) E s := by
  revert X; k_fill; intro X
  have o1 := bits_of_lt (a := 2) (k := 3) (by decide)
  have o2 := bits_of_lt (a := p) (k := 5) (by omega)
  have o3 := mul_eq 2 p
  dsimp only [turnStmts, lawStmts, lawScope, PySem.Challenge.pw_aa5009_01, List.drop, List.take]
  by_cases hw : way = .n
  · subst hw
    unfold frB frA at F; dsimp only [Way.str] at F
    (try k_fold)
    k_steps
    all_goals first
      | (exact Side.mk (by omega))
      | (refine ⟨rfl, _, _, _, _, _, _, _, _, _, rfl, by assumption, by assumption, by walk_at "my sub", by omega, by omega, by omega, by omega, by omega, by omega, ?_⟩
         first
          | exact fun _ => ⟨by omega, by omega, by omega⟩
          | exact fun hh => absurd hh hw)
  · (try k_fold)
    k_steps
    all_goals first
      | (exact Side.mk (by omega))
      | (refine ⟨rfl, _, _, _, _, _, _, _, _, _, rfl, by assumption, by assumption, by walk_at "my sub", by omega, by omega, by omega, by omega, by omega, by omega, ?_⟩
         first
          | exact fun _ => ⟨by omega, by omega, by omega⟩
          | exact fun hh => absurd hh hw)
end
@[irreducible] def ab (a : Int) : Int := if a < 0 then -a else a
theorem r_abs {prog : Program} {w : World} {A : Around} {E : Value → Shared → Prop} {s : Shared} {a : Int} {t : Tok} {Q : Value → Shared → Prop} (h : ∀ u tk, Q (.int (ab a) u) { s with toks := tk }) :
    wpAny (model prog w) A (call (.builtin "abs") [.int a t]) Q E s := call_abs_int (fun u tk => by have := h u tk; unfold ab at this; exact this)
theorem bits_ab (a : Int) : bits (ab a) = bits a := by
  unfold ab
  split
  · exact bits_neg a
  · rfl
theorem absC_wf {x : Mf} (W : Wf x) : Wf (absC x) ∧ (absC x).s = 0 := by
  unfold absC
  split
  · exact ⟨W, by assumption⟩
  · refine ⟨⟨Or.inl rfl, W.m, W.b, fun h => ?_, W.sz, W.e1, W.e2⟩, rfl⟩
    have e := W.z h
    rw [e]
/-- a row of the law's table -/
def RowAt (led : List (Addr × Obj)) (v : Value) (f o : Mf) (nn dd q pw : Int) : Prop :=
  ∃ (T rf ro re : Addr) (tq tp tn td : Tok) (c c2 : Nat), v = .ref T ∧ (T, ({ cls := .type "tuple", data := .seq #[.ref rf, .ref ro, .ref re, .int q tq, .int pw tp] c } : Obj)) ∈ led ∧ Has led rf f ∧ Has led ro o ∧
    (re, ({ cls := .type "tuple", data := .seq #[.int nn tn, .int dd td] c2 } : Obj)) ∈ led
def frR (R : Addr) (m0 : Str → Option Value) : Str → Option Value := fun y => if y = Str.ofString "rows" then some (.ref R) else m0 y
end Mine

namespace Mine
open PySem.Challenge (rw_aa5009_01)
local macro_rules | `(tactic| walk_at "truthy int") => `(tactic| (with_reducible (first | refine truthy_ne (by assumption) ?_ | refine truthy_eq (by assumption) ?_ | refine truthy_imp (by assumption) (by assumption) ?_)))
local macro_rules | `(tactic| walk_at "my ifs") => `(tactic| repeat (first | (with_reducible rfl) | (refine Eq.trans ?_ (if_pos (by first | assumption | omega)).symm) | (refine Eq.trans ?_ (if_neg (by first | assumption | omega)).symm)))
local macro_rules | `(tactic| walk_at "binaryOp LShift int int") => `(tactic| ((with_reducible refine r_lshift ?_ ?_); rotate_left; (try dsimp only)))
local macro_rules | `(tactic| walk_at "inplaceOp LShift int int") => `(tactic| ((with_reducible refine r_ilshift ?_ ?_); rotate_left; (try dsimp only)))
local macro_rules | `(tactic| walk_at "binaryOp RShift int int") => `(tactic| ((with_reducible refine r_rshift ?_ ?_); rotate_left; (try dsimp only)))
local macro_rules | `(tactic| walk_at "inplaceOp RShift int int") => `(tactic| ((with_reducible refine r_irshift ?_ ?_); rotate_left; (try dsimp only)))
local macro_rules | `(tactic| walk_at "binaryOp BitAnd int int") => `(tactic| ((with_reducible refine r_and ?_); (try dsimp only)))
local macro_rules | `(tactic| walk_at "binaryOp BitXor int int") => `(tactic| ((with_reducible refine r_xor ?_); (try dsimp only)))
local macro_rules | `(tactic| walk_at "inplaceOp BitXor int int") => `(tactic| ((with_reducible refine r_ixor ?_); (try dsimp only)))
local macro_rules | `(tactic| walk_at "binaryOp Mult int int") => `(tactic| ((with_reducible refine r_mul ?_ ?_); rotate_left; (try dsimp only)))
local macro_rules | `(tactic| walk_at "binaryOp FloorDiv int int") => `(tactic| ((with_reducible refine r_fdiv ?_ ?_); rotate_left; (try dsimp only)))
local macro_rules | `(tactic| walk_at "inplaceOp FloorDiv int int") => `(tactic| ((with_reducible refine r_ifdiv ?_ ?_); rotate_left; (try dsimp only)))
local macro_rules | `(tactic| walk_at "binaryOp Mod int int") => `(tactic| ((with_reducible refine r_mod ?_ ?_); rotate_left; (try dsimp only)))
local macro_rules | `(tactic| walk_at "binaryOp Pow int int") => `(tactic| ((with_reducible refine r_pow ?_ ?_); rotate_left; (try dsimp only)))
local macro_rules | `(tactic| walk_at "call builtin:int.bit_length") => `(tactic| ((with_reducible refine r_bits ?_); (try dsimp only)))
local macro_rules | `(tactic| walk_at "eval Call Name cons nil") => `(tactic| (k_dflt (refine Call_ ?_)))
local macro_rules | `(tactic| walk_at "call ref cons nil") => `(tactic| (k_dflt (refine' trailing_spec ?k1 ?k2 ?k3 ?k4 ?k5 ?k6 ?k7 ?_; (case k1 => k_asm); (case k2 => k_asm); (case k3 => k_asm); (case k4 => k_asm); (case k5 => k_asm); (case k6 => first | exact rfl | assumption); (case k7 => first | omega | ktr_room); (intro t9 h9 tk9 F9 N9; (try dsimp only); (try k_fold)))))
local macro_rules | `(tactic| walk_at "my sub") => `(tactic| (repeat (first | exact sub_refl | refine sub_cons ?_ | refine sub_app ?_)))
local macro_rules | `(tactic| walk_at "my has") => `(tactic| (refine Has.mono (by assumption) ?_; walk_at "my sub"))
local macro_rules | `(tactic| walk_at "my end") => `(tactic| first
  | ((rename RetT _ _ _ _ _ _ _ => hR'); first
      | (refine retNew hR' ?_ (by assumption) (by assumption) (by walk_at "my sub"))
      | (refine retZero hR' ?_ (by assumption) (by assumption) (by walk_at "my sub"))
      | (refine retT hR' ?_ (by assumption) (by assumption) (by walk_at "my has") (by walk_at "my sub")))
  | ((rename RetI _ _ _ _ _ _ _ => hR'); refine retI hR' ?_ (by assumption) (News.sub (by assumption) (by walk_at "my sub")))
  | ((rename RetP _ _ _ _ _ _ _ _ => hR'); refine retP hR' ?_ ?_ (by assumption) (by assumption) (by walk_at "my sub")))
local macro_rules | `(tactic| walk_at "my enter") => `(tactic| k_dflt (refine' code_def ?k1 ?k2 ?k3 ?k4 ?k5 ?kA ?kF ?kK ?k6 ?k7 ?k8 ?k9 ?kB ?_ ?c2 ?c3 ?c4 ?c5; (case kA => exact rfl); (case kF => exact rfl); (case kK => assumption); (case k1 => k_asm); (case k2 => k_asm); (case k3 => k_asm); (case k4 => k_asm); (case k5 => k_asm); (case k6 => k_is); (case k7 => k_is); (case k8 => first | omega | ktr_room); (case k9 => first | exact BindsTo.of_eq rfl | exact binds_K (by k_in) rfl (by k_is) rfl rfl rfl); (case c5 => decide); (case kB => exact locs rfl); (case c2 => exact rfl); (case c3 => exact rfl); (case c4 => exact rfl); k_whole; intro g' L' h' FG' F' N' B' X' T'; (try dsimp only); (try k_lift B'); (try k_fold)))
local macro_rules | `(tactic| walk_at "my units") => `(tactic| first | ((try simp only [units_deeper]); (try dsimp only [ktrTop]); omega) | decide | (exact Nat.le_of_ble_eq_true rfl) | ((try simp only [units_deeper, units_caller, cLine]); omega))
local macro_rules | `(tactic| walk_at "my reads") => `(tactic| first
  | (refine' nan_reads ?f ?x; (case f => k_asm); (case x => k_asm); done)
  | (refine' has_reads ?f ?x ?n ?s (Or.inr ⟨rfl, rfl⟩); (case f => k_asm); (case x => k_asm); (case n => k_asm); (case s => exact sub_refl); done)
  | (refine' has_reads ?f ?x ?n ?s ?h; (case h => assumption); (case f => k_asm); (case x => k_asm); (case n => k_asm); (case s => walk_at "my sub"); done)
  | (refine' readsM_of (x := ⟨_, _, _, _⟩) (News.get ?n ?m); (case n => k_asm); (case m => k_mem)))
local macro_rules | `(tactic| walk_at "compareOp Eq ref ref") => `(tactic| (k_dflt (refine' r_eq ?ra ?rb ?ru ?_; (case ra => walk_at "my reads"); (case rb => walk_at "my reads"); (case ru => walk_at "my units")); (try dsimp only)))
local macro_rules | `(tactic| walk_at "compareOp NotEq ref ref") => `(tactic| (k_dflt (refine' r_ne ?ra ?rb ?ru ?_; (case ra => walk_at "my reads"); (case rb => walk_at "my reads"); (case ru => walk_at "my units")); (try dsimp only)))
local macro_rules | `(tactic| walk_at "compareOp Eq ref ref") => `(tactic| (k_dflt (first
  | (refine' r_eq_no ?ra ?rb ?ru ?rn ?_; (case ra => walk_at "my reads"); (case rb => walk_at "my reads"); (case ru => walk_at "my units"); (case rn => assumption))
  | (refine' r_eq_yes ?ra ?rb ?ru ?rn ?rp ?_; (case ra => walk_at "my reads"); (case rb => walk_at "my reads"); (case ru => walk_at "my units"); (case rn => assumption); (case rp => first | exact True.intro | assumption)))))
local macro_rules | `(tactic| walk_at "compareOp NotEq str str") => `(tactic| (refine ne_way (by assumption) ?_))
local macro_rules | `(tactic| walk_at "my mid") => `(tactic| (refine ⟨rfl, _, _, _, _, _, _, _, rfl, (by first | assumption | exact frA_n' (by assumption) | exact frA_m' (by assumption) | exact frA_e' (by assumption) | exact frA_g' (by assumption) | exact frA_gn' (by assumption) | exact frA_em' (by assumption)), by assumption, ?_⟩))
local macro_rules | `(tactic| walk_at "call builtin:min") => `(tactic| (k_dflt (refine' r_min ?kh ?k1 ?k2 ?_; (case kh => rfl); (case k1 => k_asm); (case k2 => k_asm)); (intro t9 h9 tk9 F9 N9; (try dsimp only))))
local macro_rules | `(tactic| walk_at "call builtin:abs") => `(tactic| (k_dflt (refine r_abs ?_); (intro t9 tk9; (try dsimp only))))
local macro_rules | `(tactic| walk_at "my mem") => `(tactic| (repeat (first | exact List.Mem.head _ | assumption | refine List.Mem.tail _ ?_ | refine List.mem_append_right _ ?_)))
local macro_rules | `(tactic| walk_at "my row") => `(tactic| (refine ⟨_, _, _, _, _, _, _, _, _, _, rfl, by walk_at "my mem", by walk_at "my has", by walk_at "my has", by walk_at "my mem"⟩))
local macro_rules | `(tactic| walk_at "call ref cons nil") => `(tactic| (k_dflt (refine' mpf_add_spec ?k1 ?k2 ?k3 ?k4 ?k5 ?k6 ?k7 ?h0 ?h1 ?_ ?_; (case k1 => k_asm); (case k2 => k_asm); (case k3 => k_asm); (case k4 => k_asm); (case k5 => k_asm); (case k6 => first | exact rfl | assumption); (case k7 => first | omega | ktr_room); (case h0 => walk_at "my has"); (case h1 => walk_at "my has"); (rotate_left 1; intro r9 tl9 h9 tk9 F9 N9 H9; (try dsimp only); (try k_fold)))))
local macro_rules | `(tactic| walk_at "call ref cons nil") => `(tactic| (k_dflt (refine' mpf_sub_spec ?k1 ?k2 ?k3 ?k4 ?k5 ?k6 ?k7 ?h0 ?h1 ?_ ?_; (case k1 => k_asm); (case k2 => k_asm); (case k3 => k_asm); (case k4 => k_asm); (case k5 => k_asm); (case k6 => first | exact rfl | assumption); (case k7 => first | omega | ktr_room); (case h0 => walk_at "my has"); (case h1 => walk_at "my has"); (rotate_left 1; intro r9 tl9 h9 tk9 F9 N9 H9; (try dsimp only); (try k_fold)))))
local macro_rules | `(tactic| walk_at "call ref cons nil") => `(tactic| (k_dflt (refine' mpf_mul_spec ?k1 ?k2 ?k3 ?k4 ?k5 ?k6 ?k7 ?h0 ?h1 ?_ ?_; (case k1 => k_asm); (case k2 => k_asm); (case k3 => k_asm); (case k4 => k_asm); (case k5 => k_asm); (case k6 => first | exact rfl | assumption); (case k7 => first | omega | ktr_room); (case h0 => walk_at "my has"); (case h1 => walk_at "my has"); (rotate_left 1; intro r9 tl9 h9 tk9 F9 N9 H9; (try dsimp only); (try k_fold)))))
local macro_rules | `(tactic| walk_at "call ref cons nil") => `(tactic| (k_dflt (refine' mpf_div_spec ?k1 ?k2 ?k3 ?k4 ?k5 ?k6 ?k7 ?ku ?h0 ?h1 ?_ ?_; (case ku => walk_at "my units"); (case k1 => k_asm); (case k2 => k_asm); (case k3 => k_asm); (case k4 => k_asm); (case k5 => k_asm); (case k6 => first | exact rfl | assumption); (case k7 => first | omega | ktr_room); (case h0 => walk_at "my has"); (case h1 => walk_at "my has"); (rotate_left 1; intro r9 tl9 h9 tk9 F9 N9 H9; (try dsimp only); (try k_fold)))))
local macro_rules | `(tactic| walk_at "call ref cons nil") => `(tactic| (k_dflt (refine' mpf_sqrt_spec ?k1 ?k2 ?k3 ?k4 ?k5 ?k6 ?k7 ?h0 ?_ ?_; (case k1 => k_asm); (case k2 => k_asm); (case k3 => k_asm); (case k4 => k_asm); (case k5 => k_asm); (case k6 => first | exact rfl | assumption); (case k7 => first | omega | ktr_room); (case h0 => walk_at "my has"); (rotate_left 1; intro r9 tl9 h9 tk9 F9 N9 H9; (try dsimp only); (try k_fold)))))
local macro_rules | `(tactic| walk_at "call ref cons nil") => `(tactic| (k_dflt (refine' mpf_abs_spec ?k1 ?k2 ?k3 ?k4 ?k5 ?k6 ?k7 ?h0 ?_ ?_; (case k1 => k_asm); (case k2 => k_asm); (case k3 => k_asm); (case k4 => k_asm); (case k5 => k_asm); (case k6 => first | exact rfl | assumption); (case k7 => first | omega | ktr_room); (case h0 => walk_at "my has"); (rotate_left 1; intro r9 tl9 h9 tk9 F9 N9 H9; (try dsimp only); (try k_fold)))))
local macro_rules | `(tactic| walk_at "call ref cons nil") => `(tactic| (k_dflt (refine' law_pair_spec ?k1 ?k2 ?k3 ?k4 ?k5 ?k6 ?k7 ?_ ?_; (case k1 => k_asm); (case k2 => k_asm); (case k3 => k_asm); (case k4 => k_asm); (case k5 => k_asm); (case k6 => first | exact rfl | assumption); (case k7 => first | omega | ktr_room); (rotate_left 1; intro D9 t9 u9 c9 h9 tk9 F9 N9; (try dsimp only); (try k_fold)))))
local macro_rules | `(tactic| walk_at "my steps") => `(tactic| (repeat' (first | (k_unfold; (try dsimp only)) | ((fail_if_success (with_reducible show wpAny _ _ (exec (Stmt.While _ _ _ _) _) _ _ _)); (fail_if_success (with_reducible show wpAny _ _ (exec (Stmt.For _ _ _ _ _) _) _ _ _)); first | walk1 | (dsimp only; walk1)))))
local macro_rules | `(tactic| walk_at "WhileStep2 ret") => `(tactic| (dsimp only [WhileStep2]))
local macro_rules | `(tactic| walk_at "TurnPost ret") => `(tactic| (dsimp only [TurnPost]))
local macro_rules | `(tactic| walk_at "my stepsL") => `(tactic| (repeat' (first | (k_unfold; (try dsimp only)) | ((fail_if_success (with_reducible show wpAny _ _ (exec (Stmt.While _ _ _ _) _) _ _ _)); (fail_if_success (with_reducible show wpAny _ _ (exec (Stmt.For _ _ _ _ _) _) _ _ _)); (fail_if_success (with_reducible show wpAny _ _ (exec (Stmt.If _ _ _ _) _) _ _ _)); (fail_if_success (with_reducible show wpAny _ _ (pyIter (Value.ref _)) _ _ _)); first | walk1 | (dsimp only; walk1)))))
local macro_rules | `(tactic| walk_at "storeName") => `(tactic| (k_dflt (refine' storeX_L ?F ?N ?_ ?a ?b; (case b => exact kind_dec (by decide +kernel)); (case F => k_asm); (case N => k_asm); (case a => rfl); k_whole; intro h' F' N'; (try k_sweep))))
local macro_rules | `(tactic| walk_at "spliced") => `(tactic| (k_dflt (first | refine spliced_more ?_ | (refine spliced_none ?_; (try dsimp only)))))
local macro_rules | `(tactic| walk_at "exec Assign") => `(tactic| ((with_reducible show wpAny _ _ (exec (Stmt.Assign [Expr.Name _ _] _ _) _) _ _ _); k_dflt (refine wpAny_Assign_Name ?_)))
local macro_rules | `(tactic| walk_at "isTrue") => `(tactic| (k_dflt (refine isTrue_plain ?_)))
local macro_rules | `(tactic| walk_at "eval Name") => `(tactic| (k_dflt (refine' nameX_K ?F ?X ?T ?e ?_ ?a ?b; (case b => exact kind_dec (by decide +kernel)); (case F => k_asm); (case X => k_asm); (case T => k_asm); (case a => rfl); (case e => k_is); k_whole)))
local macro_rules | `(tactic| walk_at "eval Name") => `(tactic| (k_dflt (refine' nameX_L ?F ?v ?_ ?a ?b; (case b => exact kind_dec (by decide +kernel)); (case F => k_asm); (case a => rfl); (case v => rfl); k_whole)))
section
variable {w : World} {fa : Addr} {cd : Value} {base h₀ : Heap} {L : Addr} {led : List (Addr × Obj)} {s : Shared} {E : Value → Shared → Prop} {p0 : Program} {loose : List Str} {mean : ExcName → Option Value} {mg mb : Str → Option Value} {l : Addr} {vs : List Value} {ns : List Int} {iv : Int} {ti : Tok} {m1 : Str → Option Value}
variable (B : Below callerA base [] h₀) (X : (hd.heap_39 w.params).In h₀) (N : News h₀ L s.heap led) (T : Top p0 loose mean mg mb h₀)
include B X N T
theorem seg4 {p : Int} {way : Way} {m n e g q1 q2 q3 : Int} {mo : Int} {t : TkA} {sc : Value} {rx ry : Addr} {lo a b : Int} {tl ta tb t1 t2 t3 : Tok} {x y : Mf}
    (F : Fr h₀ L s.heap (frQ q1 q2 q3 t1 t2 t3 (frB rx ry lo a b tl ta tb (frA p mo way m n e g iv t sc m1)))) (hx : Has led rx x) (hy : Has led ry y)
    (hW : Side (Wf x ∧ Wf y ∧ y.m ≠ 0 ∧ 1 ≤ p ∧ p ≤ 1000 ∧ 1 ≤ q1 ∧ 1 ≤ q2 ∧ 1 ≤ q3 ∧ q1 ≤ 1000 ∧ q2 ≤ 1000 ∧ q3 ≤ 1000 ∧ bits a ≤ 1000 ∧ bits b ≤ 1000 ∧ bits m ≤ 119 ∧ bits n ≤ 119 ∧ -400 ≤ e ∧ e ≤ 400 ∧ -400 ≤ g ∧ g ≤ 400 ∧ -400 ≤ lo ∧ lo ≤ 400)) :
    wpAny (model rw_aa5009_01.row.prog w) (callerA.deeper (envOf (Str.ofString "law") lawScope L fa cd)) (execs ((turnStmts.drop 18).take 1) (envOf (Str.ofString "law") lawScope L fa cd))
      (MidOk fun s' => ∃ (R : Addr) (v1 v2 v3 v4 v5 : Value) (c : Nat) (led2 : List (Addr × Obj)) (hh : Heap) (tk : Nat), s' = { s with heap := hh, toks := tk } ∧
        Fr h₀ L hh (frR R (frQ q1 q2 q3 t1 t2 t3 (frB rx ry lo a b tl ta tb (frA p mo way m n e g iv t sc m1)))) ∧ News h₀ L hh led2 ∧ (∀ q ∈ led, q ∈ led2) ∧
        (R, ({ cls := .type "list", data := .seq #[v1, v2, v3, v4, v5] c } : Obj)) ∈ led2 ∧
        RowAt led2 v1 (addC x y y.s q1 way) (addC x y y.s p way) (prN (a + b) 1 lo) (prD 1 lo) q1 1 ∧
        RowAt led2 v2 (addC x y (1 - y.s) q1 way) (addC x y (1 - y.s) p way) (prN (a - b) 1 lo) (prD 1 lo) q1 1 ∧
        RowAt led2 v3 (mulC x y q2 way) (mulC x y p way) (prN (mul m n) 1 (e + g)) (prD 1 (e + g)) q2 1 ∧
        RowAt led2 v4 (divC x y q2 way) (divC x y p way) (prN m n (e - g)) (prD n (e - g)) q2 1 ∧
        RowAt led2 v5 (sqrtC (absC x) q3 way) (sqrtC (absC x) p way) (prN (ab m) 1 e) (prD 1 e) q3 2) E s := by
  revert X; k_fill; intro X
  dsimp only [turnStmts, lawStmts, lawScope, PySem.Challenge.pw_aa5009_01, List.drop, List.take]
  (try k_fold)
  k_steps
  all_goals first
    | (refine ⟨rfl, _, _, _, _, _, _, _, _, _, _, rfl, by assumption, by assumption, by walk_at "my sub", by walk_at "my mem", by walk_at "my row", by walk_at "my row", by walk_at "my row", by walk_at "my row", by walk_at "my row"⟩)
    | (obtain ⟨W1, W2, W3, W4⟩ := hW.out
       have o1 := bits_one
       have o2 := (bd_sum (a := a) (b := b) (by omega) (by omega))
       have o3 := bits_add_le a b
       have o4 := bits_add_le a (-b)
       have o5 := bits_neg b
       have o6 := bd_mul (a := m) (b := n) (j := 119) (k := 119) (by omega) (by omega)
       have o7 := bits_ab m
       have e1 : a + -b = a - b := by omega
       rw [e1] at o4
       first
        | exact Side.mk W1
        | exact Side.mk ⟨W1, W2, by omega, by omega⟩
        | exact Side.mk ⟨W1, W2, by omega, rfl⟩
        | exact Side.mk ⟨W1, W2, W3, by omega, by omega⟩
        | exact Side.mk ⟨(absC_wf W1).1, (absC_wf W1).2, by omega, by omega⟩
        | exact Side.mk (by omega))
end
def offV (f : Mf) (nn dd pw : Int) : Int := mul (ipow (valN f) pw) dd - mul nn (ipow (valD f) pw)
/-- what a row of the table must be -/
structure RowGood (p : Int) (way : Way) (f o : Mf) (nn dd q pw : Int) : Prop where
  ff : formOk f q
  fo : formOk o p
  e1 : normC f.s f.m f.e f.b p way = o
  e2 : rlC f p way = o
  hpw : pw = 1 ∨ pw = 2
  q3 : 3 ≤ q
  q4 : q ≤ 100
  b1 : bits (ipow (valN f) pw) ≤ 9000
  b2 : bits (ipow (valD f) pw) ≤ 9000
  b3 : bits (valN f) ≤ 9000
  b4 : bits (valD f) ≤ 9000
  b5 : bits nn ≤ 9000
  b6 : bits dd ≤ 9000
  b7 : bits (offV f nn dd pw) ≤ 40000
  c1 : ¬ mul (ab nn) (ipow (valD f) pw) < shl (ab (offV f nn dd pw)) (q + 1 - mul 2 pw)
  c2 : way = .f → ¬ 0 < offV f nn dd pw
  c3 : way = .c → ¬ offV f nn dd pw < 0
  c4 : way = .d → ¬ 0 < mul (offV f nn dd pw) nn
  c5 : way = .u → ¬ mul (offV f nn dd pw) nn < 0
theorem r_ne_no {w : World} {s : Shared} {A : Around} {Q : Value → Shared → Prop} {E : Value → Shared → Prop} {r1 r2 : Addr} {x y : Mf} {prog : Program} (h1 : ReadsM s.heap r1 x) (h2 : ReadsM s.heap r2 y) (hu : A.units + 64 < cLine) (he : x = y) (h : Q (.bool false) s) : wpAny (model prog w) A (compareOp .NotEq (.ref r1) (.ref r2)) Q E s :=
  r_ne h1 h2 hu (by rw [decide_eq_true (Mf.same_iff.mpr he)]; exact h)
/-- the names that a row's turn reads -/
def JL (p : Int) (tp : Tok) (way : Way) (tw : Tok) (sc : Value) (m : Str → Option Value) : Prop := m (Str.ofString "p") = some (.int p tp) ∧ m (Str.ofString "way") = some (.str way.str tw) ∧ m (Str.ofString "script") = some sc
theorem jl_in {p : Int} {tp : Tok} {way : Way} {tw : Tok} {sc : Value} {m : Str → Option Value} (h : JL p tp way tw sc m) :
    m = fun y => if y = Str.ofString "p" then some (.int p tp) else if y = Str.ofString "way" then some (.str way.str tw) else if y = Str.ofString "script" then some sc else m y := by
  obtain ⟨a, b, c⟩ := h
  funext y
  by_cases h1 : y = Str.ofString "p"
  · subst h1; rw [if_pos rfl]; exact a
  · by_cases h2 : y = Str.ofString "way"
    · subst h2; rw [if_neg h1, if_pos rfl]; exact b
    · by_cases h3 : y = Str.ofString "script"
      · subst h3; rw [if_neg h1, if_neg h2, if_pos rfl]; exact c
      · rw [if_neg h1, if_neg h2, if_neg h3]
theorem eqw {A : Around} {E : Value → Shared → Prop} {x y : Str} {t u : Tok} {prog : Program} {w : World} {s : Shared} {Q : Value → Shared → Prop} (b : Bool) (hb : (x == y) = b) (h : Q (.bool b) s) :
   wpAny (model prog w) A (compareOp .Eq (.str x t) (.str y u)) Q E s := eq_str (by rw [hb]; exact h)
end Mine

namespace Mine
local macro_rules | `(tactic| walk_at "pad 0") => `(tactic| skip)
open PySem.Challenge (rw_aa5009_01)
local macro_rules | `(tactic| walk_at "truthy int") => `(tactic| (with_reducible (first | refine truthy_ne (by assumption) ?_ | refine truthy_eq (by assumption) ?_ | refine truthy_imp (by assumption) (by assumption) ?_)))
local macro_rules | `(tactic| walk_at "my ifs") => `(tactic| repeat (first | (with_reducible rfl) | (refine Eq.trans ?_ (if_pos (by first | assumption | omega)).symm) | (refine Eq.trans ?_ (if_neg (by first | assumption | omega)).symm)))
local macro_rules | `(tactic| walk_at "binaryOp LShift int int") => `(tactic| ((with_reducible refine r_lshift ?_ ?_); rotate_left; (try dsimp only)))
local macro_rules | `(tactic| walk_at "inplaceOp LShift int int") => `(tactic| ((with_reducible refine r_ilshift ?_ ?_); rotate_left; (try dsimp only)))
local macro_rules | `(tactic| walk_at "binaryOp RShift int int") => `(tactic| ((with_reducible refine r_rshift ?_ ?_); rotate_left; (try dsimp only)))
local macro_rules | `(tactic| walk_at "inplaceOp RShift int int") => `(tactic| ((with_reducible refine r_irshift ?_ ?_); rotate_left; (try dsimp only)))
local macro_rules | `(tactic| walk_at "binaryOp BitAnd int int") => `(tactic| ((with_reducible refine r_and ?_); (try dsimp only)))
local macro_rules | `(tactic| walk_at "binaryOp BitXor int int") => `(tactic| ((with_reducible refine r_xor ?_); (try dsimp only)))
local macro_rules | `(tactic| walk_at "inplaceOp BitXor int int") => `(tactic| ((with_reducible refine r_ixor ?_); (try dsimp only)))
local macro_rules | `(tactic| walk_at "binaryOp Mult int int") => `(tactic| ((with_reducible refine r_mul ?_ ?_); rotate_left; (try dsimp only)))
local macro_rules | `(tactic| walk_at "binaryOp FloorDiv int int") => `(tactic| ((with_reducible refine r_fdiv ?_ ?_); rotate_left; (try dsimp only)))
local macro_rules | `(tactic| walk_at "inplaceOp FloorDiv int int") => `(tactic| ((with_reducible refine r_ifdiv ?_ ?_); rotate_left; (try dsimp only)))
local macro_rules | `(tactic| walk_at "binaryOp Mod int int") => `(tactic| ((with_reducible refine r_mod ?_ ?_); rotate_left; (try dsimp only)))
local macro_rules | `(tactic| walk_at "binaryOp Pow int int") => `(tactic| ((with_reducible refine r_pow ?_ ?_); rotate_left; (try dsimp only)))
local macro_rules | `(tactic| walk_at "call builtin:int.bit_length") => `(tactic| ((with_reducible refine r_bits ?_); (try dsimp only)))
local macro_rules | `(tactic| walk_at "eval Call Name cons nil") => `(tactic| (k_dflt (refine Call_ ?_)))
local macro_rules | `(tactic| walk_at "call ref cons nil") => `(tactic| (k_dflt (refine' trailing_spec ?k1 ?k2 ?k3 ?k4 ?k5 ?k6 ?k7 ?_; (case k1 => k_asm); (case k2 => k_asm); (case k3 => k_asm); (case k4 => k_asm); (case k5 => k_asm); (case k6 => first | exact rfl | assumption); (case k7 => first | omega | ktr_room); (intro t9 h9 tk9 F9 N9; (try dsimp only); (try k_fold)))))
local macro_rules | `(tactic| walk_at "my sub") => `(tactic| (repeat (first | exact sub_refl | refine sub_cons ?_ | refine sub_app ?_)))
local macro_rules | `(tactic| walk_at "my has") => `(tactic| (refine Has.mono (by assumption) ?_; walk_at "my sub"))
local macro_rules | `(tactic| walk_at "my end") => `(tactic| first
  | ((rename RetT _ _ _ _ _ _ _ => hR'); first
      | (refine retNew hR' ?_ (by assumption) (by assumption) (by walk_at "my sub"))
      | (refine retZero hR' ?_ (by assumption) (by assumption) (by walk_at "my sub"))
      | (refine retT hR' ?_ (by assumption) (by assumption) (by walk_at "my has") (by walk_at "my sub")))
  | ((rename RetI _ _ _ _ _ _ _ => hR'); refine retI hR' ?_ (by assumption) (News.sub (by assumption) (by walk_at "my sub")))
  | ((rename RetP _ _ _ _ _ _ _ _ => hR'); refine retP hR' ?_ ?_ (by assumption) (by assumption) (by walk_at "my sub")))
local macro_rules | `(tactic| walk_at "my enter") => `(tactic| k_dflt (refine' code_def ?k1 ?k2 ?k3 ?k4 ?k5 ?kA ?kF ?kK ?k6 ?k7 ?k8 ?k9 ?kB ?_ ?c2 ?c3 ?c4 ?c5; (case kA => exact rfl); (case kF => exact rfl); (case kK => assumption); (case k1 => k_asm); (case k2 => k_asm); (case k3 => k_asm); (case k4 => k_asm); (case k5 => k_asm); (case k6 => k_is); (case k7 => k_is); (case k8 => first | omega | ktr_room); (case k9 => first | exact BindsTo.of_eq rfl | exact binds_K (by k_in) rfl (by k_is) rfl rfl rfl); (case c5 => decide); (case kB => exact locs rfl); (case c2 => exact rfl); (case c3 => exact rfl); (case c4 => exact rfl); k_whole; intro g' L' h' FG' F' N' B' X' T'; (try dsimp only); (try k_lift B'); (try k_fold)))
local macro_rules | `(tactic| walk_at "my units") => `(tactic| first | ((try simp only [units_deeper]); (try dsimp only [ktrTop]); omega) | decide | (exact Nat.le_of_ble_eq_true rfl) | ((try simp only [units_deeper, units_caller, cLine]); omega))
local macro_rules | `(tactic| walk_at "my reads") => `(tactic| first
  | (refine' nan_reads ?f ?x; (case f => k_asm); (case x => k_asm); done)
  | (refine' has_reads ?f ?x ?n ?s (Or.inr ⟨rfl, rfl⟩); (case f => k_asm); (case x => k_asm); (case n => k_asm); (case s => exact sub_refl); done)
  | (refine' has_reads ?f ?x ?n ?s ?h; (case h => assumption); (case f => k_asm); (case x => k_asm); (case n => k_asm); (case s => walk_at "my sub"); done)
  | (refine' readsM_of (x := ⟨_, _, _, _⟩) (News.get ?n ?m); (case n => k_asm); (case m => k_mem)))
local macro_rules | `(tactic| walk_at "compareOp Eq ref ref") => `(tactic| (k_dflt (refine' r_eq ?ra ?rb ?ru ?_; (case ra => walk_at "my reads"); (case rb => walk_at "my reads"); (case ru => walk_at "my units")); (try dsimp only)))
local macro_rules | `(tactic| walk_at "compareOp NotEq ref ref") => `(tactic| (k_dflt (refine' r_ne ?ra ?rb ?ru ?_; (case ra => walk_at "my reads"); (case rb => walk_at "my reads"); (case ru => walk_at "my units")); (try dsimp only)))
local macro_rules | `(tactic| walk_at "compareOp Eq ref ref") => `(tactic| (k_dflt (first
  | (refine' r_eq_no ?ra ?rb ?ru ?rn ?_; (case ra => walk_at "my reads"); (case rb => walk_at "my reads"); (case ru => walk_at "my units"); (case rn => assumption))
  | (refine' r_eq_yes ?ra ?rb ?ru ?rn ?rp ?_; (case ra => walk_at "my reads"); (case rb => walk_at "my reads"); (case ru => walk_at "my units"); (case rn => assumption); (case rp => first | exact True.intro | assumption)))))
local macro_rules | `(tactic| walk_at "compareOp NotEq str str") => `(tactic| (refine ne_way (by assumption) ?_))
local macro_rules | `(tactic| walk_at "my mid") => `(tactic| (refine ⟨rfl, _, _, _, _, _, _, _, rfl, (by first | assumption | exact frA_n' (by assumption) | exact frA_m' (by assumption) | exact frA_e' (by assumption) | exact frA_g' (by assumption) | exact frA_gn' (by assumption) | exact frA_em' (by assumption)), by assumption, ?_⟩))
local macro_rules | `(tactic| walk_at "call builtin:min") => `(tactic| (k_dflt (refine' r_min ?kh ?k1 ?k2 ?_; (case kh => rfl); (case k1 => k_asm); (case k2 => k_asm)); (intro t9 h9 tk9 F9 N9; (try dsimp only))))
local macro_rules | `(tactic| walk_at "call builtin:abs") => `(tactic| (k_dflt (refine r_abs ?_); (intro t9 tk9; (try dsimp only))))
local macro_rules | `(tactic| walk_at "my mem") => `(tactic| (repeat (first | exact List.Mem.head _ | assumption | refine List.Mem.tail _ ?_ | refine List.mem_append_right _ ?_)))
local macro_rules | `(tactic| walk_at "my row") => `(tactic| (refine ⟨_, _, _, _, _, _, _, _, _, _, rfl, by walk_at "my mem", by walk_at "my has", by walk_at "my has", by walk_at "my mem"⟩))
local macro_rules | `(tactic| walk_at "compareOp NotEq ref ref") => `(tactic| (k_dflt (refine' r_ne_no ?ra ?rb ?ru ?re ?_; (case ra => walk_at "my reads"); (case rb => walk_at "my reads"); (case ru => walk_at "my units"); (case re => assumption))))
local macro_rules | `(tactic| walk_at "compareOp Eq str str") => `(tactic| (first | refine eqw false (by decide) ?_ | refine eqw true (by decide) ?_))
local macro_rules | `(tactic| walk_at "subscriptTail Name Constant ref int") => `(tactic| (k_dflt (refine' item_tupleT (News.isTup ?n ?m) ?h1 ?h2 ?hj ?hx ?_ ?hs; (case n => k_asm); (case m => walk_at "my mem"); (case h1 => decide); (case h2 => decide); (case hj => exact rfl); (case hx => exact rfl); (case hs => with_unfolding_all rfl))))
local macro_rules | `(tactic| walk_at "call ref cons nil") => `(tactic| (k_dflt (refine' law_form_spec ?k1 ?k2 ?k3 ?k4 ?k5 ?k6 ?k7 ?ku ?h0 ?_ ?_; (case ku => walk_at "my units"); (case k1 => k_asm); (case k2 => k_asm); (case k3 => k_asm); (case k4 => k_asm); (case k5 => k_asm); (case k6 => first | exact rfl | assumption); (case k7 => first | omega | ktr_room); (case h0 => walk_at "my has"); (rotate_left 1; intro h9 tk9 F9 N9; (try dsimp only); (try k_fold)))))
local macro_rules | `(tactic| walk_at "call ref cons nil") => `(tactic| (k_dflt (refine' law_value_spec ?k1 ?k2 ?k3 ?k4 ?k5 ?k6 ?k7 ?h0 ?_ ?_; (case k1 => k_asm); (case k2 => k_asm); (case k3 => k_asm); (case k4 => k_asm); (case k5 => k_asm); (case k6 => first | exact rfl | assumption); (case k7 => first | omega | ktr_room); (case h0 => walk_at "my has"); (rotate_left 1; intro D9 t9 u9 c9 h9 tk9 F9 N9; (try dsimp only); (try k_fold)))))
local macro_rules | `(tactic| walk_at "call ref cons nil") => `(tactic| (k_dflt (refine' mpf_pos_spec ?k1 ?k2 ?k3 ?k4 ?k5 ?k6 ?k7 ?h0 ?_ ?_; (case k1 => k_asm); (case k2 => k_asm); (case k3 => k_asm); (case k4 => k_asm); (case k5 => k_asm); (case k6 => first | exact rfl | assumption); (case k7 => first | omega | ktr_room); (case h0 => walk_at "my has"); (rotate_left 1; intro r9 tl9 h9 tk9 F9 N9 H9; (try dsimp only); (try k_fold)))))
local macro_rules | `(tactic| walk_at "call ref cons nil") => `(tactic| (k_dflt (refine' law_round_spec ?k1 ?k2 ?k3 ?k4 ?k5 ?k6 ?k7 ?h0 ?_ ?_; (case k1 => k_asm); (case k2 => k_asm); (case k3 => k_asm); (case k4 => k_asm); (case k5 => k_asm); (case k6 => first | exact rfl | assumption); (case k7 => first | omega | ktr_room); (case h0 => walk_at "my has"); (rotate_left 1; intro r9 tl9 h9 tk9 F9 N9 H9; (try dsimp only); (try k_fold)))))
local macro_rules | `(tactic| walk_at "my steps") => `(tactic| (repeat' (first | (k_unfold; (try dsimp only)) | ((fail_if_success (with_reducible show wpAny _ _ (exec (Stmt.While _ _ _ _) _) _ _ _)); (fail_if_success (with_reducible show wpAny _ _ (exec (Stmt.For _ _ _ _ _) _) _ _ _)); first | walk1 | (dsimp only; walk1)))))
local macro_rules | `(tactic| walk_at "WhileStep2 ret") => `(tactic| (dsimp only [WhileStep2]))
local macro_rules | `(tactic| walk_at "TurnPost ret") => `(tactic| (dsimp only [TurnPost]))
local macro_rules | `(tactic| walk_at "my stepsL") => `(tactic| (repeat' (first | (k_unfold; (try dsimp only)) | ((fail_if_success (with_reducible show wpAny _ _ (exec (Stmt.While _ _ _ _) _) _ _ _)); (fail_if_success (with_reducible show wpAny _ _ (exec (Stmt.For _ _ _ _ _) _) _ _ _)); (fail_if_success (with_reducible show wpAny _ _ (exec (Stmt.If _ _ _ _) _) _ _ _)); (fail_if_success (with_reducible show wpAny _ _ (pyIter (Value.ref _)) _ _ _)); first | walk1 | (dsimp only; walk1)))))
local macro_rules | `(tactic| walk_at "storeName") => `(tactic| (k_dflt (refine' storeX_L ?F ?N ?_ ?a ?b; (case b => exact kind_dec (by decide +kernel)); (case F => k_asm); (case N => k_asm); (case a => rfl); k_whole; intro h' F' N'; (try k_sweep))))
local macro_rules | `(tactic| walk_at "spliced") => `(tactic| (k_dflt (first | refine spliced_more ?_ | (refine spliced_none ?_; (try dsimp only)))))
local macro_rules | `(tactic| walk_at "exec Assign") => `(tactic| ((with_reducible show wpAny _ _ (exec (Stmt.Assign [Expr.Name _ _] _ _) _) _ _ _); k_dflt (refine wpAny_Assign_Name ?_)))
local macro_rules | `(tactic| walk_at "isTrue") => `(tactic| (k_dflt (refine isTrue_plain ?_)))
local macro_rules | `(tactic| walk_at "eval Name") => `(tactic| (k_dflt (refine' nameX_K ?F ?X ?T ?e ?_ ?a ?b; (case b => exact kind_dec (by decide +kernel)); (case F => k_asm); (case X => k_asm); (case T => k_asm); (case a => rfl); (case e => k_is); k_whole)))
local macro_rules | `(tactic| walk_at "eval Name") => `(tactic| (k_dflt (refine' nameX_L ?F ?v ?_ ?a ?b; (case b => exact kind_dec (by decide +kernel)); (case F => k_asm); (case a => rfl); (case v => rfl); k_whole)))
/-- the names of a row's turn behind its sums -/
def JO (p : Int) (tp : Tok) (way : Way) (tw : Tok) (sc : Value) (re : Addr) (off : Int) (tf : Tok) (m : Str → Option Value) : Prop :=
  JL p tp way tw sc m ∧ m (Str.ofString "exact") = some (.ref re) ∧ m (Str.ofString "off") = some (.int off tf)
theorem jo_in {p : Int} {tp : Tok} {way : Way} {tw : Tok} {sc : Value} {re : Addr} {off : Int} {tf : Tok} {m : Str → Option Value} (h : JO p tp way tw sc re off tf m) :
    m = fun y => if y = Str.ofString "off" then some (.int off tf) else if y = Str.ofString "exact" then some (.ref re) else if y = Str.ofString "p" then some (.int p tp) else if y = Str.ofString "way" then some (.str way.str tw) else if y = Str.ofString "script" then some sc else m y := by
  obtain ⟨a, b, c⟩ := h
  funext y
  by_cases h1 : y = Str.ofString "off"
  · subst h1; rw [if_pos rfl]; exact c
  · rw [if_neg h1]
    by_cases h2 : y = Str.ofString "exact"
    · subst h2; rw [if_pos rfl]; exact b
    · rw [if_neg h2]
      exact congrFun (jl_in a) y
theorem execs_cutA {α : Type} {M : Model} {A : Around} {env : Env} {l : List Stmt} {t : Sem α} {Q : Flow → Shared → Prop} {E : Value → Shared → Prop} {s : Shared} (n : Nat) (Mid : Shared → Prop)
    (h1 : wpAny M A t (fun _ s1 => wpAny M A (execs (l.take n) env) (MidOk Mid) E s1) E s) (h2 : ∀ s', Mid s' → wpAny M A (execs (l.drop n) env) Q E s') : wpAny M A t (fun _ s1 => wpAny M A (execs l env) Q E s1) E s :=
  wpAny_mono h1 (fun _ _ h => execs_cut n Mid h h2) fun _ _ h => h
section
variable {w : World} {fa : Addr} {cd : Value} {base h₀ : Heap} {L : Addr} {led : List (Addr × Obj)} {s : Shared} {E : Value → Shared → Prop} {p0 : Program} {loose : List Str} {mean : ExcName → Option Value} {mg mb : Str → Option Value} {l : Addr} {vs : List Value} {ns : List Int} {iv : Int} {ti : Tok} {m1 : Str → Option Value}
variable (B : Below callerA base [] h₀) (X : (hd.heap_39 w.params).In h₀) (N : News h₀ L s.heap led) (T : Top p0 loose mean mg mb h₀)
include B X N T
theorem seg5 (hE : PassesOwn (model rw_aa5009_01.row.prog w) (callerA.deeper (envOf (Str.ofString "law") lawScope L fa cd)) (envOf (Str.ofString "law") lawScope L fa cd) E) {p : Int} {way : Way} {tp tw : Tok} {sc : Value} {m0 : Str → Option Value} {R : Addr} {v1 v2 v3 v4 v5 : Value} {c : Nat}
    (F : Fr h₀ L s.heap (frR R m0)) (hJ : JL p tp way tw sc m0) (hp1 : 1 ≤ p) (hp2 : p ≤ 100)
    (hR : (R, ({ cls := .type "list", data := .seq #[v1, v2, v3, v4, v5] c } : Obj)) ∈ led)
    (hrow : ∀ v ∈ [v1, v2, v3, v4, v5], ∃ (f o : Mf) (nn dd q pw : Int), RowAt led v f o nn dd q pw ∧ RowGood p way f o nn dd q pw) :
    wpAny (model rw_aa5009_01.row.prog w) (callerA.deeper (envOf (Str.ofString "law") lawScope L fa cd)) (execs (turnStmts.drop 19) (envOf (Str.ofString "law") lawScope L fa cd))
      (MidOk fun s' => ∃ (mm : Str → Option Value) (led2 : List (Addr × Obj)) (hh : Heap) (tk : Nat), s' = { s with heap := hh, toks := tk } ∧ Fr h₀ L hh mm ∧ News h₀ L hh led2 ∧ (∀ q ∈ led, q ∈ led2) ∧ mm (Str.ofString "script") = some sc) E s := by
  revert X; k_fill; intro X
  dsimp only [turnStmts, lawStmts, lawScope, PySem.Challenge.pw_aa5009_01, List.drop, List.take]
  (try k_fold)
  walk_at "my stepsL"
  (with_unfolding_all refine' For_turns F ?_ (by intro _; rfl) hE)
  walk_at "my stepsL"
  (rename Fr _ _ _ _ => lF2); (rename News _ _ _ _ => lN2)
  refine iter_listJ (JL p tp way tw sc) rfl (News.isList lN2 hR) (lN2 _ hR).2.1 lF2 lN2 ?_ (fun v m1 h1 tk1 own hv hj F1 N1 => ?_) (fun m1 h1 tk1 hj F1 N1 => ?_)
  · exact ⟨hJ.1, hJ.2.1, hJ.2.2⟩
  · obtain ⟨f, o, nn, dd, q, pw, ⟨T, rf, ro, re, tq, tp2, tn, td, c1, c2, rfl, hT, hf, ho, hre⟩, G⟩ := hrow v hv
    rw [jl_in hj] at F1
    clear hrow hv
    have hG := Side.mk G
    have he1 := G.e1
    have he2 := G.e2
    have hc1 := G.c1
    have hc2 := G.c2
    have hc3 := G.c3
    have hc4 := G.c4
    have hc5 := G.c5
    clear G
    refine execs_cutA 5 (fun s' => ∃ (mm : Str → Option Value) (to : Tok) (led2 : List (Addr × Obj)) (hh : Heap) (tk : Nat), s' = { s with heap := hh, toks := tk } ∧ Fr h₀ L hh mm ∧ News h₀ L hh led2 ∧ (∀ q ∈ own ++ led, q ∈ led2) ∧ JO p tp way tw sc re (offV f nn dd pw) to mm) ?_ ?_
    · clear hc2 hc3 hc4 hc5
      dsimp only [List.take]
      unfold offV at hc1
      (try k_fold)
      walk_at "my steps"
      all_goals first
        | (refine ⟨rfl, _, _, _, _, _, rfl, by assumption, by assumption, by walk_at "my sub", ⟨⟨by with_unfolding_all exact rfl, by with_unfolding_all exact rfl, by with_unfolding_all exact rfl⟩, by with_unfolding_all exact rfl, by unfold offV; with_unfolding_all exact rfl⟩⟩)
        | exact Side.mk hG.out.ff
        | exact Side.mk hG.out.fo
        | exact Side.mk hG.out.ff.1
        | exact Side.mk ⟨hG.out.ff.1, hp1⟩
        | (have g1 := hG.out.hpw; have g2 := hG.out.q3; have g3 := hG.out.q4; have g4 := hG.out.b1; have g5 := hG.out.b2; have g6 := hG.out.b3; have g7 := hG.out.b4; have g8 := hG.out.b5; have g9 := hG.out.b6; have g10 := hG.out.b7
           unfold offV at g10
           have g11 := bits_ab nn
           have g12 := bits_ab (mul (ipow (valN f) pw) dd - mul nn (ipow (valD f) pw))
           have g13 := mul_eq 2 pw
           have g14 := bits_of_lt (a := 2) (k := 3) (by decide)
           have g15 := bits_of_lt (a := pw) (k := 3) (by omega)
           exact Side.mk (by omega))
        | skip
    · clear he1 he2 hc1 F1 N1
      rintro s2 ⟨mm, to, led2, hh, tk, rfl, F2, N2, hs2, hJO⟩
      dsimp only [List.drop]
      rw [jo_in hJO] at F2
      have hre2 := hs2 _ (List.mem_append_right own hre)
      have g8 := hG.out.b5
      have g10 := hG.out.b7
      clear hG
      generalize offV f nn dd pw = off at *
      cases way
      all_goals
        (try replace hc2 := hc2 rfl)
        (try replace hc3 := hc3 rfl)
        (try replace hc4 := hc4 rfl)
        (try replace hc5 := hc5 rfl)
        (try k_fold)
        walk_at "my steps"
        all_goals first
          | (refine ⟨_, _, _, _, rfl, by assumption, by assumption, fun q hq => ?_, ⟨by with_unfolding_all exact rfl, by with_unfolding_all exact rfl, by with_unfolding_all exact rfl⟩⟩; first | exact hs2 q hq | exact List.mem_append_right _ (hs2 q hq) | exact List.mem_cons_of_mem _ (hs2 q hq))
          | exact Side.mk (by omega)
          | skip
  · (try k_fold)
    walk_at "my stepsL"
    all_goals first
      | (refine ⟨rfl, _, _, _, _, rfl, by assumption, by assumption, by walk_at "my sub", hj.2.2⟩)
end
end Mine

namespace Mine
open PySem.Challenge (rw_aa5009_01)
theorem shr_nat (W : Int) (n : Nat) : shr W n = W / 2 ^ n := by rw [shr_eq, Int.toNat_natCast]
theorem shl_nat (W : Int) (n : Nat) : shl W n = W * 2 ^ n := by rw [shl_eq, Int.toNat_natCast]
theorem shr_char {W a : Int} {n : Nat} : shr W n = a ↔ a * 2 ^ n ≤ W ∧ W < (a + 1) * 2 ^ n := by
  have hp := kbt_pos n
  rw [shr_nat]
  constructor
  · intro h
    subst h
    have h1 := Int.emod_nonneg W (show (2 : Int) ^ n ≠ 0 by omega)
    have h2 := Int.emod_lt_of_pos W hp
    have h3 := Int.mul_ediv_add_emod W (2 ^ n)
    rw [Int.mul_comm] at h3
    rw [Int.add_mul, Int.one_mul]
    omega
  · rintro ⟨h1, h2⟩
    have h3 := (Int.le_ediv_iff_mul_le hp).mpr h1
    have h4 := (Int.ediv_lt_iff_lt_mul hp).mpr h2
    omega
theorem ceil_char {W a : Int} {n : Nat} : -(shr (-W) n) = a ↔ (a - 1) * 2 ^ n < W ∧ W ≤ a * 2 ^ n := by
  have h : -(shr (-W) n) = a ↔ shr (-W) n = -a := by omega
  rw [h, shr_char, Int.neg_mul]
  have e : (-a + 1) * 2 ^ n = -((a - 1) * 2 ^ n) := by rw [← Int.neg_mul]; congr 1; omega
  rw [e]
  omega
theorem band_two (t : Int) : band t 2 = (t / 2 % 2) * 2 := by
  unfold band
  have := kbt_bit t 1
  simpa using this
theorem band_mask (W : Int) (n : Nat) : band W (shl 1 n - 1) = W % 2 ^ n := by
  rw [shl_nat, Int.one_mul]
  unfold band
  exact kbt_mask W n
/-- what the nearest one is -/
def IsNear (W a : Int) (n : Nat) : Prop :=
  (2 * a - 1) * 2 ^ n ≤ W ∧ W ≤ (2 * a + 1) * 2 ^ n ∧ (W = (2 * a - 1) * 2 ^ n → a % 2 = 0) ∧ (W = (2 * a + 1) * 2 ^ n → a % 2 = 0)
theorem near_is (W : Int) (n : Nat) : IsNear W (nearC W (n + 1)) n := by
  have hp := kbt_pos n
  unfold IsNear nearC
  have e1 : ((n : Int) + 1 - 1) = n := by omega
  rw [e1, shr_nat, band_one, band_two, band_mask, shr1]
  have h1 := Int.emod_nonneg W (show (2 : Int) ^ n ≠ 0 by omega)
  have h2 := Int.emod_lt_of_pos W hp
  have h3 := Int.mul_ediv_add_emod W (2 ^ n)
  generalize W / 2 ^ n = t at *
  generalize W % 2 ^ n = r at *
  generalize (2 : Int) ^ n = P at *
  subst h3
  have fin : ∀ a d : Int, t = 2 * a + d → ((d = 0) ∨ (d = 1 ∧ r = 0 ∧ a % 2 = 0) ∨ (d = -1 ∧ (r ≠ 0 ∨ a % 2 = 0))) →
      (2 * a - 1) * P ≤ P * t + r ∧ P * t + r ≤ (2 * a + 1) * P ∧ (P * t + r = (2 * a - 1) * P → a % 2 = 0) ∧ (P * t + r = (2 * a + 1) * P → a % 2 = 0) := by
    intro a d ht hc
    subst ht
    have m1 : P * (2 * a + d) = 2 * (a * P) + d * P := by rw [Int.mul_comm, Int.add_mul, Int.mul_assoc]
    have m2 : (2 * a - 1) * P = 2 * (a * P) - P := by rw [Int.sub_mul, Int.one_mul, Int.mul_assoc]
    have m3 : (2 * a + 1) * P = 2 * (a * P) + P := by rw [Int.add_mul, Int.one_mul, Int.mul_assoc]
    rw [m1, m2, m3]
    generalize a * P = aP
    rcases hc with rfl | ⟨rfl, hr, ha⟩ | ⟨rfl, hr⟩
    · rw [Int.zero_mul]; omega
    · rw [Int.one_mul]; omega
    · rw [Int.neg_mul, Int.one_mul]; omega
  generalize hv : (if t % 2 = 0 then t / 2 else if t / 2 % 2 * 2 = 0 then if r = 0 then t / 2 else t / 2 + 1 else t / 2 + 1) = v
  by_cases c1 : t % 2 = 0
  · rw [if_pos c1] at hv
    exact fin v 0 (by omega) (by omega)
  · rw [if_neg c1] at hv
    by_cases c2 : t / 2 % 2 * 2 = 0
    · rw [if_pos c2] at hv
      by_cases c3 : r = 0
      · rw [if_pos c3] at hv
        exact fin v 1 (by omega) (by omega)
      · rw [if_neg c3] at hv
        exact fin v (-1) (by omega) (by omega)
    · rw [if_neg c2] at hv
      exact fin v (-1) (by omega) (by omega)
theorem near_unique {W a b : Int} {n : Nat} (ha : IsNear W a n) (hb : IsNear W b n) : a = b := by
  have hp := kbt_pos n
  obtain ⟨a1, a2, a3, a4⟩ := ha
  obtain ⟨b1, b2, b3, b4⟩ := hb
  have h1 : 2 * a - 1 ≤ 2 * b + 1 := Int.le_of_mul_le_mul_right (Int.le_trans a1 b2) hp
  have h2 : 2 * b - 1 ≤ 2 * a + 1 := Int.le_of_mul_le_mul_right (Int.le_trans b1 a2) hp
  rcases Int.lt_trichotomy a b with h | h | h
  · have e : b = a + 1 := by omega
    subst e
    have e2 : 2 * (a + 1) - 1 = 2 * a + 1 := by omega
    rw [e2] at b1 b3
    have hw : W = (2 * a + 1) * 2 ^ n := by omega
    have := a4 hw
    have := b3 hw
    omega
  · exact h
  · have e : a = b + 1 := by omega
    subst e
    have e2 : 2 * (b + 1) - 1 = 2 * b + 1 := by omega
    rw [e2] at a1 a3
    have hw : W = (2 * b + 1) * 2 ^ n := by omega
    have := b4 hw
    have := a3 hw
    omega
end Mine

namespace Mine
open PySem.Challenge (rw_aa5009_01)
theorem pw_le {a b : Nat} (h : a ≤ b) : (2 : Int) ^ a ≤ 2 ^ b := by
  obtain ⟨c, rfl⟩ := Nat.exists_eq_add_of_le h
  rw [Int.pow_add]
  have h1 := kbt_pos a
  have h2 := kbt_pos c
  have : (2 : Int) ^ a * 1 ≤ 2 ^ a * 2 ^ c := Int.mul_le_mul_of_nonneg_left (by omega) (by omega)
  omega
theorem pw_lt {a b : Nat} (h : a < b) : (2 : Int) ^ a < 2 ^ b := by
  have := pw_le (show a + 1 ≤ b from h)
  rw [Int.pow_succ] at this
  have h1 := kbt_pos a
  omega
theorem pw_lt_inv {a b : Nat} (h : (2 : Int) ^ a < 2 ^ b) : a < b := by
  rcases Nat.lt_or_ge a b with h1 | h1
  · exact h1
  · have := pw_le h1; omega
theorem mulp_le {a b : Int} (n : Nat) : a * 2 ^ n ≤ b * 2 ^ n ↔ a ≤ b :=
  ⟨fun h => Int.le_of_mul_le_mul_right h (kbt_pos n), fun h => Int.mul_le_mul_of_nonneg_right h (Int.le_of_lt (kbt_pos n))⟩
theorem mulp_lt {a b : Int} (n : Nat) : a * 2 ^ n < b * 2 ^ n ↔ a < b :=
  ⟨fun h => Int.lt_of_mul_lt_mul_right h (Int.le_of_lt (kbt_pos n)), fun h => Int.mul_lt_mul_of_pos_right h (kbt_pos n)⟩
theorem bits_nat {W : Int} (h : 0 < W) : ∃ b : Nat, bits W = (b : Int) + 1 ∧ 2 ^ b ≤ W ∧ W < 2 ^ (b + 1) := by
  have h0 := bits_pos (show W ≠ 0 by omega)
  have h1 := le_of_bits (show W ≠ 0 by omega)
  have h2 := lt_of_bits W
  refine ⟨(bits W).toNat - 1, by omega, ?_, ?_⟩
  · have : ((2 ^ ((bits W).toNat - 1) : Nat) : Int) ≤ ((W.natAbs : Nat) : Int) := by exact_mod_cast h1
    rw [kbt_cast] at this; omega
  · have e : (bits W).toNat - 1 + 1 = (bits W).toNat := by omega
    rw [e]
    have : ((W.natAbs : Nat) : Int) < ((2 ^ (bits W).toNat : Nat) : Int) := by exact_mod_cast h2
    rw [kbt_cast] at this; omega
theorem bits_of {W : Int} {b : Nat} (h1 : 2 ^ b ≤ W) (h2 : W < 2 ^ (b + 1)) : bits W = (b : Int) + 1 := by
  have hp := kbt_pos b
  apply bits_eq
  · have : ((2 ^ b : Nat) : Int) ≤ ((W.natAbs : Nat) : Int) := by rw [kbt_cast]; omega
    exact_mod_cast this
  · have : ((W.natAbs : Nat) : Int) < ((2 ^ (b + 1) : Nat) : Int) := by rw [kbt_cast]; omega
    exact_mod_cast this
theorem bits_mul_pow {a : Int} (k : Nat) (h : 0 < a) : bits (a * 2 ^ k) = bits a + k := by
  obtain ⟨b, e, h1, h2⟩ := bits_nat h
  have := bits_of (W := a * 2 ^ k) (b := b + k) (by rw [Int.pow_add]; exact (mulp_le k).mpr h1)
    (by rw [show b + k + 1 = (b + 1) + k by omega, Int.pow_add]; exact (mulp_lt k).mpr h2)
  omega
theorem odd_part {a : Int} (h : 0 < a) : ∃ (k : Nat) (c : Int), a = 2 ^ k * (2 * c + 1) ∧ 0 ≤ c := by
  have key : ∀ k : Nat, ∀ a : Int, a.natAbs ≤ k → 0 < a → ∃ (j : Nat) (b : Int), a = 2 ^ j * (2 * b + 1) ∧ 0 ≤ b := by
    intro k
    induction k with
    | zero => intro a h1 h2; omega
    | succ k ih =>
      intro a h1 h2
      by_cases ho : a % 2 = 1
      · exact ⟨0, a / 2, by rw [Int.pow_zero]; omega, by omega⟩
      · obtain ⟨j, b, e, hb⟩ := ih (a / 2) (by omega) (by omega)
        refine ⟨j + 1, b, ?_, hb⟩
        rw [Int.pow_succ, Int.mul_comm (2 ^ j) 2, Int.mul_assoc, ← e]
        omega
  exact key a.natAbs a (Nat.le_refl _) h
theorem stp_odd {s c e : Int} {k : Nat} : stpL s (2 ^ k * (2 * c + 1)) e = ⟨s, 2 * c + 1, e + k, bits (2 * c + 1)⟩ := by
  have ht := trailing_unique (a := 2 ^ k * (2 * c + 1)) (k := k) (b := c) rfl
  have hs : shr (2 ^ k * (2 * c + 1)) k = 2 * c + 1 := by rw [shr_nat, Int.mul_ediv_cancel_left _ (Int.ne_of_gt (kbt_pos k))]
  unfold stpL; rw [ht, hs]
theorem stp_shift {s a e : Int} {k : Nat} (h : 0 < a) : stpL s (a * 2 ^ k) e = stpL s a (e + k) := by
  obtain ⟨j, c, rfl, _⟩ := odd_part h
  have e1 : 2 ^ j * (2 * c + 1) * 2 ^ k = 2 ^ (j + k) * (2 * c + 1) := by rw [Int.pow_add, Int.mul_assoc, Int.mul_assoc, Int.mul_comm (2 * c + 1)]
  rw [e1, stp_odd, stp_odd]
  have e2 : e + ((j + k : Nat) : Int) = e + k + j := by omega
  rw [e2]
theorem stp_one {s e : Int} (k : Nat) : stpL s (2 ^ k) e = ⟨s, 1, e + k, 1⟩ := by
  have := stp_odd (s := s) (c := 0) (e := e) (k := k)
  rw [show (2 : Int) * 0 + 1 = 1 by decide, Int.mul_one, bits_one] at this
  exact this
theorem strip_eq {s man e bc : Int} (h : 0 < man) (hb : bc = bits man ∨ ∃ P : Nat, man = 2 ^ (P + 1)) : stripC s man e bc = stpL s man e := by
  obtain ⟨k, c, rfl, hc⟩ := odd_part h
  have ht := trailing_unique (a := 2 ^ k * (2 * c + 1)) (k := k) (b := c) rfl
  have hs : shr (2 ^ k * (2 * c + 1)) k = 2 * c + 1 := by rw [shr_nat, Int.mul_ediv_cancel_left _ (Int.ne_of_gt (kbt_pos k))]
  have hbt : bits (2 ^ k * (2 * c + 1)) = bits (2 * c + 1) + k := by rw [Int.mul_comm]; exact bits_mul_pow k (by omega)
  rw [stp_odd]
  unfold stripC
  rw [band_one, ht, hs]
  by_cases hk : k = 0
  · subst hk
    rw [Int.pow_zero, Int.one_mul] at *
    rw [if_neg (by omega)]
    unfold finC
    by_cases h1 : 2 * c + 1 = 1
    · rw [if_pos h1, h1, bits_one]; simp
    · rw [if_neg h1]
      rcases hb with hb | ⟨P, hb⟩
      · rw [hb]; simp
      · rw [Int.pow_succ] at hb; omega
  · obtain ⟨j, rfl⟩ := Nat.exists_eq_succ_of_ne_zero hk
    have e0 : 2 ^ (j + 1) * (2 * c + 1) = 2 * (2 ^ j * (2 * c + 1)) := by rw [Int.pow_succ, Int.mul_comm (2 ^ j) 2, Int.mul_assoc]
    rw [if_pos (by rw [e0]; omega)]
    unfold finC
    by_cases h1 : 2 * c + 1 = 1
    · rw [if_pos h1, h1, bits_one]
    · rw [if_neg h1]
      rcases hb with hb | ⟨P, hb⟩
      · rw [hb, hbt]; congr 1; omega
      · have hu := trailing_unique (a := (2 : Int) ^ (P + 1)) (k := P + 1) (b := 0) (by omega)
        rw [← hb, ht] at hu
        have hu2 : j + 1 = P + 1 := by omega
        rw [show j.succ = P + 1 from hu2] at hb
        have := kbt_pos (P + 1)
        have h3 := Int.eq_of_mul_eq_mul_left (Int.ne_of_gt this) (show (2 : Int) ^ (P + 1) * (2 * c + 1) = 2 ^ (P + 1) * 1 by omega)
        exact absurd h3 h1
/-- a way of rounding, with the sign put in -/
inductive Md where
  | n | dn | up
def mdW (s : Int) : Way → Md
  | .n => .n
  | way => if dnI way s = 0 then .up else .dn
def IsR (W a : Int) (h : Nat) : Md → Prop
  | .n => IsNear W a h
  | .dn => a * 2 ^ (h + 1) ≤ W ∧ W < (a + 1) * 2 ^ (h + 1)
  | .up => (a - 1) * 2 ^ (h + 1) < W ∧ W ≤ a * 2 ^ (h + 1)
theorem isR_iff {s W a : Int} {h : Nat} {way : Way} : rndC s W ((h : Int) + 1) way = a ↔ IsR W a h (mdW s way) := by
  have e : (h : Int) + 1 = ((h + 1 : Nat) : Int) := by omega
  have key : ∀ w2 : Way, w2 ≠ .n → ((if dnI w2 s = 0 then -(shr (-W) ((h : Int) + 1)) else shr W ((h : Int) + 1)) = a ↔ IsR W a h (if dnI w2 s = 0 then .up else .dn)) := by
    intro w2 _
    rw [e]
    split
    · exact ceil_char
    · exact shr_char
  cases way with
  | n =>
    constructor
    · intro h1
      subst h1
      exact near_is W h
    · intro h1
      exact near_unique (near_is W h) h1
  | f => exact key .f (by decide)
  | c => exact key .c (by decide)
  | u => exact key .u (by decide)
  | d => exact key .d (by decide)
theorem isR_rnd (s W : Int) (h : Nat) (way : Way) : IsR W (rndC s W ((h : Int) + 1) way) h (mdW s way) := isR_iff.mp rfl
theorem isR_bounds {W a : Int} {h p0 : Nat} {md : Md} (hr : IsR W a h md) (h1 : 2 ^ (p0 + (h + 1)) ≤ W) (h2 : W ≤ 2 ^ (p0 + 1 + (h + 1))) : 2 ^ p0 ≤ a ∧ a ≤ 2 ^ (p0 + 1) := by
  rw [Int.pow_add] at h1 h2
  cases md with
  | dn =>
    obtain ⟨c1, c2⟩ := hr
    have a1 := (mulp_lt (h + 1)).mp (Int.lt_of_le_of_lt h1 c2)
    have a2 := (mulp_le (h + 1)).mp (Int.le_trans c1 h2)
    omega
  | up =>
    obtain ⟨c1, c2⟩ := hr
    have a1 := (mulp_le (h + 1)).mp (Int.le_trans h1 c2)
    have a2 := (mulp_lt (h + 1)).mp (Int.lt_of_lt_of_le c1 h2)
    omega
  | n =>
    obtain ⟨c1, c2, _, _⟩ := hr
    have e1 : (2 : Int) ^ p0 * 2 ^ (h + 1) = (2 * 2 ^ p0) * 2 ^ h := by rw [Int.pow_succ 2 h, Int.mul_comm (2 ^ h) 2, ← Int.mul_assoc, Int.mul_comm (2 ^ p0) 2]
    have e2 : (2 : Int) ^ (p0 + 1) * 2 ^ (h + 1) = (2 * 2 ^ (p0 + 1)) * 2 ^ h := by rw [Int.pow_succ 2 h, Int.mul_comm (2 ^ h) 2, ← Int.mul_assoc, Int.mul_comm (2 ^ (p0 + 1)) 2]
    rw [e1] at h1
    rw [e2] at h2
    have a1 := (mulp_le h).mp (Int.le_trans h1 c2)
    have a2 := (mulp_le h).mp (Int.le_trans c1 h2)
    omega
/-- rounding a whole number times a power of two -/
def Nr (s W e : Int) (p : Nat) (way : Way) : Mf := normC s W e (bits W) p way
theorem nr_zero {s e : Int} {p : Nat} {way : Way} : Nr s 0 e p way = ⟨0, 0, 0, 0⟩ := by unfold Nr normC; rw [if_pos rfl]
theorem nr_small {s W e : Int} {p : Nat} {way : Way} (h : 0 < W) (hb : bits W ≤ p) : Nr s W e p way = stpL s W e := by
  unfold Nr normC
  rw [if_neg (by omega), if_neg (by omega)]
  exact strip_eq h (Or.inl rfl)
theorem nr_big {s W e : Int} {p0 h : Nat} {way : Way} (h1 : 2 ^ (p0 + (h + 1)) ≤ W) (h2 : W < 2 ^ (p0 + 1 + (h + 1))) :
    Nr s W e (p0 + 1) way = stpL s (rndC s W ((h : Int) + 1) way) (e + ((h : Int) + 1)) := by
  have hp := kbt_pos (p0 + (h + 1))
  have hb := bits_of (W := W) (b := p0 + (h + 1)) h1 (by rw [show p0 + (h + 1) + 1 = p0 + 1 + (h + 1) by omega]; exact h2)
  unfold Nr normC
  have e1 : bits W - ((p0 + 1 : Nat) : Int) = (h : Int) + 1 := by omega
  rw [if_neg (by omega), e1, if_pos (by omega)]
  have hr := isR_rnd s W h way
  have ⟨b1, b2⟩ := isR_bounds hr h1 (Int.le_of_lt h2)
  have hp0 := kbt_pos p0
  generalize rndC s W ((h : Int) + 1) way = a at *
  refine strip_eq (by omega) ?_
  by_cases ha : a = 2 ^ (p0 + 1)
  · exact Or.inr ⟨p0, ha⟩
  · have := bits_of (W := a) (b := p0) b1 (by omega)
    exact Or.inl (by omega)
end Mine

namespace Mine
open PySem.Challenge (rw_aa5009_01)
theorem mul_pow_add (a : Int) (m n : Nat) : a * 2 ^ (m + n) = a * 2 ^ m * 2 ^ n := by rw [Int.pow_add, Int.mul_assoc]
theorem isR_scale {W a : Int} {h : Nat} {md : Md} (k : Nat) (hr : IsR W a h md) : IsR (W * 2 ^ k) a (h + k) md := by
  have e1 : ∀ c : Int, c * 2 ^ (h + k) = c * 2 ^ h * 2 ^ k := fun c => mul_pow_add c h k
  have e2 : ∀ c : Int, c * 2 ^ (h + k + 1) = c * 2 ^ (h + 1) * 2 ^ k := fun c => by rw [show h + k + 1 = h + 1 + k by omega]; exact mul_pow_add c (h + 1) k
  cases md with
  | dn =>
    obtain ⟨c1, c2⟩ := hr
    unfold IsR
    rw [e2, e2]
    exact ⟨(mulp_le k).mpr c1, (mulp_lt k).mpr c2⟩
  | up =>
    obtain ⟨c1, c2⟩ := hr
    unfold IsR
    rw [e2 (a - 1), e2 a]
    exact ⟨(mulp_lt k).mpr c1, (mulp_le k).mpr c2⟩
  | n =>
    obtain ⟨c1, c2, c3, c4⟩ := hr
    unfold IsR IsNear
    rw [e1, e1]
    exact ⟨(mulp_le k).mpr c1, (mulp_le k).mpr c2, fun h => c3 (Int.eq_of_mul_eq_mul_right (Int.ne_of_gt (kbt_pos k)) h), fun h => c4 (Int.eq_of_mul_eq_mul_right (Int.ne_of_gt (kbt_pos k)) h)⟩
theorem isR_exact (a : Int) (h : Nat) (md : Md) : IsR (a * 2 ^ (h + 1)) a h md := by
  have hp := kbt_pos (h + 1)
  cases md with
  | dn => exact ⟨Int.le_refl _, (mulp_lt (h + 1)).mpr (by omega)⟩
  | up => exact ⟨(mulp_lt (h + 1)).mpr (by omega), Int.le_refl _⟩
  | n =>
    have e : a * 2 ^ (h + 1) = (2 * a) * 2 ^ h := by rw [Int.pow_succ, Int.mul_comm (2 ^ h) 2, ← Int.mul_assoc, Int.mul_comm a 2]
    unfold IsR IsNear
    rw [e]
    refine ⟨(mulp_le h).mpr (by omega), (mulp_le h).mpr (by omega), fun h1 => ?_, fun h1 => ?_⟩
    · have := Int.eq_of_mul_eq_mul_right (Int.ne_of_gt (kbt_pos h)) h1; omega
    · have := Int.eq_of_mul_eq_mul_right (Int.ne_of_gt (kbt_pos h)) h1; omega
theorem nr_shift {s W e : Int} {p0 : Nat} {way : Way} (k : Nat) (h : 0 < W) : Nr s (W * 2 ^ k) e (p0 + 1) way = Nr s W (e + k) (p0 + 1) way := by
  obtain ⟨b, hb, h1, h2⟩ := bits_nat h
  have hk := bits_mul_pow k h
  have hp : 0 < W * 2 ^ k := Int.mul_pos h (kbt_pos k)
  by_cases c1 : b ≤ p0
  · rw [nr_small (W := W) h (by omega)]
    by_cases c2 : b + k ≤ p0
    · rw [nr_small hp (by omega), stp_shift h]
    · obtain ⟨t, ht⟩ := Nat.exists_eq_add_of_le (show p0 + 1 ≤ b + k by omega)
      obtain ⟨r, hr⟩ := Nat.exists_eq_add_of_le (show t + 1 ≤ k by omega)
      have e1 : W * 2 ^ k = W * 2 ^ r * 2 ^ (t + 1) := by rw [hr, Nat.add_comm, mul_pow_add]
      obtain ⟨b2, hb2, h3, h4⟩ := bits_nat hp
      have e2 : b2 = p0 + (t + 1) := by omega
      rw [e2] at h3 h4
      rw [nr_big h3 (by rw [show p0 + 1 + (t + 1) = p0 + (t + 1) + 1 by omega]; exact h4)]
      have e3 : rndC s (W * 2 ^ k) ((t : Int) + 1) way = W * 2 ^ r := isR_iff.mpr (by rw [e1]; exact isR_exact _ _ _)
      rw [e3, stp_shift h]
      congr 1; omega
  · obtain ⟨t, ht⟩ := Nat.exists_eq_add_of_le (show p0 + 1 ≤ b by omega)
    have e1 : b = p0 + (t + 1) := by omega
    rw [e1] at h1 h2
    rw [nr_big h1 (by rw [show p0 + 1 + (t + 1) = p0 + (t + 1) + 1 by omega]; exact h2)]
    rw [nr_big (h := t + k) (by rw [show p0 + (t + k + 1) = p0 + (t + 1) + k by omega, Int.pow_add]; exact (mulp_le k).mpr h1) (by rw [show p0 + 1 + (t + k + 1) = p0 + (t + 1) + 1 + k by omega, Int.pow_add]; exact (mulp_lt k).mpr h2)]
    have e2 : rndC s (W * 2 ^ k) (((t + k : Nat) : Int) + 1) way = rndC s W ((t : Int) + 1) way := isR_iff.mpr (isR_scale k (isR_rnd s W t way))
    rw [e2]
    congr 1; omega
theorem nr_at {s U e : Int} {p0 h : Nat} {way : Way} (h1 : 2 ^ (p0 + (h + 1)) ≤ U) (h2 : U ≤ 2 ^ (p0 + 1 + (h + 1))) :
    Nr s U e (p0 + 1) way = stpL s (rndC s U ((h : Int) + 1) way) (e + ((h : Int) + 1)) := by
  rcases Int.lt_or_eq_of_le h2 with h3 | h3
  · exact nr_big h1 h3
  · subst h3
    have e1 : (2 : Int) ^ (p0 + 1 + (h + 1)) = 1 * 2 ^ (p0 + 1 + (h + 1)) := by omega
    have e2 : rndC s (2 ^ (p0 + 1 + (h + 1))) ((h : Int) + 1) way = 2 ^ (p0 + 1) := isR_iff.mpr (by rw [Int.pow_add]; exact isR_exact _ _ _)
    rw [e2, e1, nr_shift _ (by decide), nr_small (by decide) (by rw [bits_one]; omega), stp_one]
    have := stp_one (s := s) (e := e + ((p0 + 1 + (h + 1) : Nat) : Int)) 0
    rw [Int.pow_zero] at this
    rw [this]
    congr 1; omega
def Same (j : Nat) (W1 W2 : Int) : Prop := ∀ k : Int, (k * 2 ^ j ≤ W1 ↔ k * 2 ^ j ≤ W2) ∧ (W1 ≤ k * 2 ^ j ↔ W2 ≤ k * 2 ^ j)
theorem Same.symm {j : Nat} {W1 W2 : Int} (h : Same j W1 W2) : Same j W2 W1 := fun k => ⟨(h k).1.symm, (h k).2.symm⟩
theorem Same.up {j h : Nat} {W1 W2 : Int} (hs : Same j W1 W2) (hj : j ≤ h) : Same h W1 W2 := by
  obtain ⟨r, rfl⟩ := Nat.exists_eq_add_of_le hj
  intro k
  have e : k * 2 ^ (j + r) = k * 2 ^ r * 2 ^ j := by rw [Nat.add_comm, mul_pow_add]
  rw [e]
  exact hs _
theorem isR_same {W1 W2 a : Int} {j h : Nat} {md : Md} (hs : Same j W1 W2) (hj : j ≤ h) (hr : IsR W1 a h md) : IsR W2 a h md := by
  have s1 := hs.up hj
  have s2 := hs.up (show j ≤ h + 1 by omega)
  cases md with
  | dn =>
    obtain ⟨c1, c2⟩ := hr
    have t1 := (s2 a).1
    have t2 := (s2 (a + 1)).1
    exact ⟨by omega, by omega⟩
  | up =>
    obtain ⟨c1, c2⟩ := hr
    have t1 := (s2 a).2
    have t2 := (s2 (a - 1)).2
    exact ⟨by omega, by omega⟩
  | n =>
    obtain ⟨c1, c2, c3, c4⟩ := hr
    have t1 := s1 (2 * a - 1)
    have t2 := s1 (2 * a + 1)
    exact ⟨by omega, by omega, fun h => c3 (by omega), fun h => c4 (by omega)⟩
theorem nr_same {s W1 W2 e : Int} {p0 j : Nat} {way : Way} (hs : Same j W1 W2) (h1 : 2 ^ (p0 + 1 + j) ≤ W1) : Nr s W1 e (p0 + 1) way = Nr s W2 e (p0 + 1) way := by
  have hp := kbt_pos (p0 + 1 + j)
  obtain ⟨b, hb, h2, h3⟩ := bits_nat (show 0 < W1 by omega)
  have hbj := pw_lt_inv (Int.lt_of_le_of_lt h1 h3)
  obtain ⟨t, ht⟩ := Nat.exists_eq_add_of_le (show p0 + 1 + j ≤ b by omega)
  have e1 : b = p0 + (j + t + 1) := by omega
  rw [e1] at h2 h3
  have e2 : p0 + (j + t + 1) + 1 = p0 + 1 + (j + t + 1) := by omega
  rw [e2] at h3
  have s1 := (hs.up (show j ≤ p0 + (j + t + 1) by omega) 1).1
  have s2 := (hs.up (show j ≤ p0 + 1 + (j + t + 1) by omega) 1).1
  rw [Int.one_mul] at s1 s2
  rw [nr_big h2 h3, nr_big (s1.mp h2) (by omega)]
  have e3 : rndC s W2 (((j + t : Nat) : Int) + 1) way = rndC s W1 (((j + t : Nat) : Int) + 1) way := isR_iff.mpr (isR_same hs (by omega) (isR_rnd s W1 (j + t) way))
  rw [e3]
theorem nr_floor {s S st e : Int} {p0 : Nat} {way : Way} (hm : mdW s way = .dn) (h1 : 2 ^ p0 ≤ S) (h0 : 0 ≤ st) (h2 : st ≤ 1) : Nr s (2 * S + st) e (p0 + 1) way = Nr s (2 * S) e (p0 + 1) way := by
  have hp := kbt_pos p0
  obtain ⟨b, hb, h3, h4⟩ := bits_nat (show 0 < S by omega)
  have hbj := pw_lt_inv (Int.lt_of_le_of_lt h1 h4)
  obtain ⟨t, ht⟩ := Nat.exists_eq_add_of_le (show p0 ≤ b by omega)
  have g1 : (2 : Int) ^ (p0 + (t + 1)) = 2 * 2 ^ b := by rw [show p0 + (t + 1) = b + 1 by omega, Int.pow_succ]; omega
  have g2 : (2 : Int) ^ (p0 + 1 + (t + 1)) = 2 * 2 ^ (b + 1) := by rw [show p0 + 1 + (t + 1) = b + 1 + 1 by omega, Int.pow_succ 2 (b + 1)]; omega
  rw [nr_big (h := t) (by omega) (by omega), nr_big (h := t) (by omega) (by omega)]
  have hr := isR_rnd s (2 * S) t way
  have e3 : rndC s (2 * S + st) ((t : Int) + 1) way = rndC s (2 * S) ((t : Int) + 1) way := by
    refine isR_iff.mpr ?_
    rw [hm] at hr ⊢
    obtain ⟨c1, c2⟩ := hr
    refine ⟨by omega, ?_⟩
    generalize rndC s (2 * S) ((t : Int) + 1) way = a at *
    have e : (a + 1) * 2 ^ (t + 1) = 2 * ((a + 1) * 2 ^ t) := by rw [Int.pow_succ, ← Int.mul_assoc, Int.mul_comm]
    omega
  rw [e3]
theorem nr_stp {s A e : Int} {p0 : Nat} {way : Way} (h : 0 < A) : Nr (stpL s A e).s (stpL s A e).m (stpL s A e).e (p0 + 1) way = Nr s A e (p0 + 1) way := by
  obtain ⟨k, c, rfl, hc⟩ := odd_part h
  rw [stp_odd]
  dsimp only
  rw [Int.mul_comm (2 ^ k), nr_shift k (by omega)]
/-- no midpoint of p0 + 1 bits is near, but W itself -/
def NM (W : Int) (h n : Nat) : Prop := ∀ c : Int, c % 2 = 1 → W = c * 2 ^ h ∨ c * 2 ^ h + 2 ^ n < W ∨ W < c * 2 ^ h - 2 ^ n
theorem dbl_core {W A a : Int} {n d : Nat} {md : Md} (h1 : IsR W A n md) (h2 : IsR W a (n + d) md) (hn : md = .n → 0 < d ∧ NM W (n + d) n) : IsR (A * 2 ^ (n + 1)) a (n + d) md := by
  have e1 : ∀ c : Int, c * 2 ^ (n + d + 1) = c * 2 ^ d * 2 ^ (n + 1) := fun c => by rw [show n + d + 1 = d + (n + 1) by omega, mul_pow_add]
  cases md with
  | dn =>
    obtain ⟨c1, c2⟩ := h1
    obtain ⟨c3, c4⟩ := h2
    unfold IsR
    rw [e1] at c3 ⊢
    refine ⟨(mulp_le (n + 1)).mpr ?_, by omega⟩
    have := (mulp_lt (n + 1)).mp (Int.lt_of_le_of_lt c3 c2)
    omega
  | up =>
    obtain ⟨c1, c2⟩ := h1
    obtain ⟨c3, c4⟩ := h2
    unfold IsR
    rw [e1 a] at c4 ⊢
    refine ⟨by omega, (mulp_le (n + 1)).mpr ?_⟩
    have := (mulp_lt (n + 1)).mp (Int.lt_of_lt_of_le c1 c4)
    omega
  | n =>
    obtain ⟨hd, nm⟩ := hn rfl
    obtain ⟨c1, c2, c3, c4⟩ := h1
    obtain ⟨d1, d2, d3, d4⟩ := h2
    obtain ⟨r, rfl⟩ := Nat.exists_eq_add_of_le (show 1 ≤ d by omega)
    have hp := kbt_pos n
    have eA : A * 2 ^ (n + 1) = (2 * A) * 2 ^ n := by rw [Int.pow_succ, Int.mul_comm (2 ^ n) 2, ← Int.mul_assoc, Int.mul_comm A 2]
    have eM : ∀ c : Int, c * 2 ^ (n + (1 + r)) = (2 * (c * 2 ^ r)) * 2 ^ n := fun c => by
      rw [show n + (1 + r) = r + 1 + n by omega, mul_pow_add, Int.pow_succ, ← Int.mul_assoc, Int.mul_comm 2]
    have key : ∀ c : Int, c % 2 = 1 → (c * 2 ^ (n + (1 + r)) ≤ W → c * 2 ^ (n + (1 + r)) ≤ A * 2 ^ (n + 1)) ∧ (W ≤ c * 2 ^ (n + (1 + r)) → A * 2 ^ (n + 1) ≤ c * 2 ^ (n + (1 + r))) ∧ (A * 2 ^ (n + 1) = c * 2 ^ (n + (1 + r)) → W = c * 2 ^ (n + (1 + r))) := by
      intro c hc
      have e2 : (2 * A - 1) * 2 ^ n = (2 * A) * 2 ^ n - 2 ^ n := by rw [Int.sub_mul, Int.one_mul]
      have e3 : (2 * A + 1) * 2 ^ n = (2 * A) * 2 ^ n + 2 ^ n := by rw [Int.add_mul, Int.one_mul]
      rcases nm c hc with hw | hw | hw
      · have g1 : W = (2 * (c * 2 ^ r)) * 2 ^ n := by rw [hw, eM]
        rw [g1] at c1 c2
        have i1 := (mulp_le n).mp c1
        have i2 := (mulp_le n).mp c2
        have i3 : A = c * 2 ^ r := by omega
        have i4 : A * 2 ^ (n + 1) = c * 2 ^ (n + (1 + r)) := by rw [eA, eM, i3]
        omega
      · omega
      · omega
    have k1 := key (2 * a - 1) (by omega)
    have k2 := key (2 * a + 1) (by omega)
    exact ⟨k1.1 d1, k2.2.1 d2, fun h => d3 (k1.2.2 h), fun h => d4 (k2.2.2 h)⟩
/-- rounding twice is rounding once -/
theorem dbl {s W e : Int} {p0 n d : Nat} {way : Way} (h1 : 2 ^ (p0 + d + (n + 1)) ≤ W) (h2 : W < 2 ^ (p0 + d + 1 + (n + 1))) (hn : mdW s way = .n → 0 < d ∧ NM W (n + d) n) :
    Nr (Nr s W e (p0 + d + 1) way).s (Nr s W e (p0 + d + 1) way).m (Nr s W e (p0 + d + 1) way).e (p0 + 1) way = Nr s W e (p0 + 1) way := by
  have hr := isR_rnd s W n way
  have ⟨b1, b2⟩ := isR_bounds hr h1 (Int.le_of_lt h2)
  have hp := kbt_pos (p0 + d)
  have hr2 := isR_rnd s W (n + d) way
  have g1 : p0 + d + (n + 1) = p0 + (n + d + 1) := by omega
  have g2 : p0 + d + 1 + (n + 1) = p0 + 1 + (n + d + 1) := by omega
  rw [nr_big h1 h2]
  generalize rndC s W ((n : Int) + 1) way = A at *
  rw [nr_stp (by omega)]
  have e1 := nr_shift (s := s) (e := e) (p0 := p0) (way := way) (n + 1) (show 0 < A by omega)
  rw [show ((n + 1 : Nat) : Int) = (n : Int) + 1 by omega] at e1
  rw [← e1]
  have hr3 := dbl_core hr hr2 hn
  rw [g1] at h1
  rw [g2] at h2
  rw [nr_at (U := W) (h := n + d) h1 (Int.le_of_lt h2), nr_at (h := n + d) (by rw [← g1, Int.pow_add 2 (p0 + d) (n + 1)]; exact (mulp_le _).mpr b1) (by rw [← g2, Int.pow_add 2 (p0 + d + 1) (n + 1)]; exact (mulp_le _).mpr b2), isR_iff.mpr hr3]
end Mine

namespace Mine
open PySem.Challenge (rw_aa5009_01)
theorem nr_out {s W e : Int} {q0 n : Nat} {way : Way} (h1 : 2 ^ (q0 + (n + 1)) ≤ W) (h2 : W < 2 ^ (q0 + 1 + (n + 1))) :
    ∃ (A c : Int) (k : Nat), Nr s W e (q0 + 1) way = ⟨s, 2 * c + 1, e + ((n : Int) + 1) + k, bits (2 * c + 1)⟩ ∧ A = 2 ^ k * (2 * c + 1) ∧ 0 ≤ c ∧ IsR W A n (mdW s way) ∧ 2 ^ q0 ≤ A ∧ bits (2 * c + 1) ≤ (q0 : Int) + 1 ∧ k ≤ q0 + 1 := by
  have hr := isR_rnd s W n way
  have ⟨b1, b2⟩ := isR_bounds hr h1 (Int.le_of_lt h2)
  have hp := kbt_pos q0
  rw [nr_big h1 h2]
  generalize rndC s W ((n : Int) + 1) way = A at *
  obtain ⟨k, c, rfl, hc⟩ := odd_part (show 0 < A by omega)
  refine ⟨_, c, k, stp_odd, rfl, hc, hr, b1, ?_, ?_⟩
  · have hb := bits_mul_pow k (show 0 < 2 * c + 1 by omega)
    rw [Int.mul_comm] at hb
    obtain ⟨x, hx, x1, x2⟩ := bits_nat (show 0 < 2 ^ k * (2 * c + 1) by omega)
    have h3 : (2 : Int) ^ x < 2 ^ (q0 + 2) := by
      have : (2 : Int) ^ (q0 + 2) = 2 * 2 ^ (q0 + 1) := by rw [Int.pow_succ 2 (q0 + 1)]; omega
      have := kbt_pos (q0 + 1)
      omega
    have h4 := pw_lt_inv h3
    by_cases hk : k = 0
    · subst hk
      rw [Int.pow_zero, Int.one_mul] at *
      have h5 : (2 : Int) ^ (q0 + 1) = 2 * 2 ^ q0 := by rw [Int.pow_succ]; omega
      have h6 : (2 : Int) ^ x < 2 ^ (q0 + 1) := by omega
      have h7 := pw_lt_inv h6
      omega
    · omega
  · have h3 : (2 : Int) ^ k * 1 ≤ 2 ^ k * (2 * c + 1) := Int.mul_le_mul_of_nonneg_left (by omega) (Int.le_of_lt (kbt_pos k))
    have h4 : (2 : Int) ^ k < 2 ^ (q0 + 2) := by
      have : (2 : Int) ^ (q0 + 2) = 2 * 2 ^ (q0 + 1) := by rw [Int.pow_succ 2 (q0 + 1)]; omega
      have := kbt_pos (q0 + 1)
      omega
    have h5 := pw_lt_inv h4
    omega
theorem dn_f {s : Int} (hs : s = 0 ∨ s = 1) : mdW s .f = if s = 0 then .dn else .up := by
  rcases hs with rfl | rfl <;> (unfold mdW dnI; simp [Way.down])
theorem dn_c {s : Int} (hs : s = 0 ∨ s = 1) : mdW s .c = if s = 0 then .up else .dn := by
  rcases hs with rfl | rfl <;> (unfold mdW dnI; simp [Way.down])
theorem dn_d {s : Int} : mdW s .d = .dn := by unfold mdW dnI; simp [Way.down]
theorem dn_u {s : Int} : mdW s .u = .up := by unfold mdW dnI; simp [Way.down]
theorem dn_n {s : Int} : mdW s .n = .n := rfl
/-- the law's own rounding is the program's -/
theorem rl_eq {x : Mf} {p0 : Nat} {way : Way} (W : Wf x) (ho : x.m = 0 ∨ fmd x.m 2 = 1) : rlC x ((p0 : Int) + 1) way = Nr x.s x.m x.e (p0 + 1) way := by
  have hs := W.s
  have hm := W.m
  by_cases h0 : x.m = 0
  · have e := W.z h0
    rw [e]
    unfold rlC
    dsimp only
    rw [bits_zero, if_pos (by omega), nr_zero]
  · have ho2 : x.m % 2 = 1 := by
      rcases ho with h | h
      · exact absurd h h0
      · rw [fmd_eq (by decide)] at h; exact h
    have hbx := W.b
    obtain ⟨s, m, e, b⟩ := x
    dsimp only at *
    obtain ⟨b', hb, h1, h2⟩ := bits_nat (show 0 < m by omega)
    by_cases hc : bits m ≤ (p0 : Int) + 1
    · rw [nr_small (by omega) (by omega)]
      unfold rlC
      dsimp only
      rw [if_pos (by omega)]
      have := stp_odd (s := s) (c := m / 2) (e := e) (k := 0)
      rw [Int.pow_zero, Int.one_mul, show 2 * (m / 2) + 1 = m by omega] at this
      rw [this, hbx]
      congr 1
      omega
    · obtain ⟨t, ht⟩ := Nat.exists_eq_add_of_le (show p0 + 1 ≤ b' by omega)
      have g1 : b' = p0 + (t + 1) := by omega
      rw [g1] at h1 h2
      rw [nr_big h1 (by rw [show p0 + 1 + (t + 1) = p0 + (t + 1) + 1 by omega]; exact h2)]
      have g2 : bits m - ((p0 : Int) + 1) = ((t + 1 : Nat) : Int) := by omega
      have hp := kbt_pos (t + 1)
      have hp2 : (2 : Int) ^ (t + 1) = 2 * 2 ^ t := by rw [Int.pow_succ]; omega
      unfold rlC
      dsimp only
      rw [if_neg (by omega), g2, shl_nat, Int.one_mul, fdv_eq (by omega), fmd_eq (by omega)]
      have r1 := Int.emod_nonneg m (show (2 : Int) ^ (t + 1) ≠ 0 by omega)
      have r2 := Int.emod_lt_of_pos m hp
      have r3 := Int.mul_ediv_add_emod m (2 ^ (t + 1))
      have et : ((t + 1 : Nat) : Int) = (t : Int) + 1 := by omega
      rw [et]
      generalize m / 2 ^ (t + 1) = a at *
      generalize hr : m % 2 ^ (t + 1) = r at *
      have m1 : ∀ c : Int, c * 2 ^ (t + 1) = (2 * c) * 2 ^ t := fun c => by rw [hp2, Int.mul_comm 2 c, Int.mul_assoc]
      have m0 : (2 : Int) ^ (t + 1) * a = a * 2 ^ (t + 1) := Int.mul_comm _ _
      have m2 : (a + 1) * 2 ^ (t + 1) = a * 2 ^ (t + 1) + 2 ^ (t + 1) := by rw [Int.add_mul, Int.one_mul]
      have hdn : IsR m a t .dn := ⟨by omega, by omega⟩
      have hup : r ≠ 0 → IsR m (a + 1) t .up := fun h => ⟨by rw [show a + 1 - 1 = a by omega]; omega, by omega⟩
      have hr0 : r ≠ 0 := by
        intro hz
        have : m = 2 * (2 ^ t * a) := by rw [← r3, hz, hp2, Int.mul_assoc]; omega
        omega
      have go : ∀ c, IsR m c t (mdW s way) → stpL s c (e + ((t : Int) + 1)) = stpL s (rndC s m ((t : Int) + 1) way) (e + ((t : Int) + 1)) := fun c hc => by rw [isR_iff.mpr hc]
      have i0 : (2 * a - 1) * 2 ^ t = 2 * a * 2 ^ t - 2 ^ t := by rw [Int.sub_mul, Int.one_mul]
      have i1 : (2 * a + 1) * 2 ^ t = 2 * a * 2 ^ t + 2 ^ t := by rw [Int.add_mul, Int.one_mul]
      have i2 : (2 * (a + 1) - 1) * 2 ^ t = 2 * a * 2 ^ t + 2 ^ t := by rw [show 2 * (a + 1) - 1 = 2 * a + 1 by omega, i1]
      have i3 : (2 * (a + 1) + 1) * 2 ^ t = 2 * a * 2 ^ t + 2 ^ t + 2 ^ t + 2 ^ t := by rw [show 2 * (a + 1) + 1 = 2 * a + 1 + 1 + 1 by omega, Int.add_mul, Int.add_mul, i1]; omega
      have i4 := m1 a
      cases way with
      | n =>
        unfold upL
        rw [mul_eq, fmd_eq (by decide)]
        have near0 : 2 * r ≤ 2 ^ (t + 1) → (2 * r = 2 ^ (t + 1) → a % 2 = 0) → IsR m a t .n := fun h1 h2 => by
          unfold IsR IsNear
          rw [i0, i1]
          exact ⟨by omega, by omega, fun h => by omega, fun h => h2 (by omega)⟩
        have near1 : 2 ^ (t + 1) ≤ 2 * r → (2 * r = 2 ^ (t + 1) → a % 2 = 1) → IsR m (a + 1) t .n := fun h1 h2 => by
          unfold IsR IsNear
          rw [i2, i3]
          exact ⟨by omega, by omega, fun h => by have := h2 (by omega); omega, fun h => by omega⟩
        by_cases d1 : 2 ^ (t + 1) < 2 * r
        · rw [if_pos d1, if_pos rfl]
          exact go _ (near1 (by omega) (by omega))
        · rw [if_neg d1]
          by_cases d2 : 2 * r = 2 ^ (t + 1)
          · rw [if_pos d2]
            by_cases d3 : a % 2 = 1
            · rw [if_pos (by simpa using d3)]
              exact go _ (near1 (by omega) (by omega))
            · rw [if_neg (by simpa using d3)]
              exact go _ (near0 (by omega) (by omega))
          · rw [if_neg d2, if_neg (by simp)]
            exact go _ (near0 (by omega) (by omega))
      | c =>
        unfold upL
        have hd := dn_c hs
        rcases hs with rfl | rfl
        · exact go _ (by rw [hd]; exact hup hr0)
        · exact go _ (by rw [hd]; exact hdn)
      | f =>
        unfold upL
        have hd := dn_f hs
        rcases hs with rfl | rfl
        · exact go _ (by rw [hd]; exact hdn)
        · exact go _ (by rw [hd]; exact hup hr0)
      | u => exact go _ (by rw [dn_u]; exact hup hr0)
      | d => exact go _ (by rw [dn_d]; exact hdn)
end Mine

namespace Mine
open PySem.Challenge (rw_aa5009_01)
def pN (a z : Int) : Int := if z < 0 then a else shl a z
def pD (D z : Int) : Int := if z < 0 then shl D (-z) else D
theorem prN_pN (n d e : Int) : prN n d e = pN (if d < 0 then -n else n) e := by unfold prN pN; rfl
theorem prD_pD (d e : Int) : prD d e = pD (if d < 0 then -d else d) e := by unfold prD pD; rfl
theorem valN_pN (f : Mf) : valN f = pN (sgn f) f.e := by unfold valN pN; rfl
theorem valD_pD (f : Mf) : valD f = pD 1 f.e := by unfold valD pD; rfl
theorem ex_scale {a D z : Int} {K : Nat} (h : 0 ≤ z + K) : pN a z * (2 ^ K * D) = a * 2 ^ (z + K).toNat * pD D z := by
  unfold pN pD
  by_cases hz : z < 0
  · rw [if_pos hz, if_pos hz, shl_eq]
    have e : (2 : Int) ^ K = 2 ^ (z + K).toNat * 2 ^ (-z).toNat := by rw [← Int.pow_add]; congr 1; omega
    rw [e]
    grind
  · rw [if_neg hz, if_neg hz, shl_eq]
    have e : (2 : Int) ^ (z + K).toNat = 2 ^ z.toNat * 2 ^ K := by rw [← Int.pow_add]; congr 1; omega
    rw [e]
    grind
theorem pD_pos {D : Int} (z : Int) (h : 0 < D) : 0 < pD D z := by
  unfold pD
  split
  · rw [shl_eq]; exact Int.mul_pos h (kbt_pos _)
  · exact h
theorem bits_pN (a : Int) {z k : Int} (h0 : 0 ≤ k) (h : z ≤ k) : bits (pN a z) ≤ bits a + k := by
  unfold pN
  split
  · omega
  · have := bits_shl (a := a) (n := z) (by omega); omega
theorem bits_pD (D : Int) {z k : Int} (h0 : 0 ≤ k) (h : -z ≤ k) : bits (pD D z) ≤ bits D + k := by
  unfold pD
  split
  · have := bits_shl (a := D) (n := -z) (by omega); omega
  · omega
theorem ipow1 (a : Int) : ipow a 1 = a := by unfold ipow; exact Int.pow_one a
theorem ipow2 (a : Int) : ipow a 2 = a * a := by
  unfold ipow
  have : (2 : Int).toNat = 1 + 1 := rfl
  rw [this, Int.pow_succ, Int.pow_one]
theorem mpos_lt {a b c : Int} (hc : 0 < c) : a * c < b * c ↔ a < b :=
  ⟨fun h => Int.lt_of_mul_lt_mul_right h (Int.le_of_lt hc), fun h => Int.mul_lt_mul_of_pos_right h hc⟩
theorem mpos_le {a b c : Int} (hc : 0 < c) : a * c ≤ b * c ↔ a ≤ b :=
  ⟨fun h => Int.le_of_mul_le_mul_right h hc, fun h => Int.mul_le_mul_of_nonneg_right h (Int.le_of_lt hc)⟩
/-- signs and size of what a row is off by -/
theorem core_c {off nn v d T σ N G R : Int} (hT : 0 < T) (hv : 0 < v) (hd : 0 < d) (hN : 0 < N) (hσ : σ = 1 ∨ σ = -1) (h1 : off * T = σ * (v * d * G)) (h2 : nn * T = σ * (N * d))
    (h3 : G * R ≤ N) (h4 : -G * R ≤ N) :
    ¬ ab nn * v < ab off * R ∧ (G ≤ 0 → ¬ 0 < off * nn) ∧ (0 ≤ G → ¬ off * nn < 0) ∧ (σ = 1 → G ≤ 0 → ¬ 0 < off) ∧ (σ = -1 → G ≤ 0 → ¬ off < 0) ∧ (σ = 1 → 0 ≤ G → ¬ off < 0) ∧ (σ = -1 → 0 ≤ G → ¬ 0 < off) := by
  have hvd : 0 < v * d := Int.mul_pos hv hd
  have hNd : 0 < N * d := Int.mul_pos hN hd
  have x1 : v * d * G * R ≤ v * d * N := by rw [Int.mul_assoc]; exact Int.mul_le_mul_of_nonneg_left h3 (Int.le_of_lt hvd)
  have x2 : -(v * d * G) * R ≤ v * d * N := by
    have := Int.mul_le_mul_of_nonneg_left h4 (Int.le_of_lt hvd)
    rw [← Int.mul_assoc, Int.mul_neg] at this
    exact this
  have x3 : G ≤ 0 → v * d * G ≤ 0 := fun h => Int.mul_nonpos_of_nonneg_of_nonpos (Int.le_of_lt hvd) h
  have x4 : 0 ≤ G → 0 ≤ v * d * G := fun h => Int.mul_nonneg (Int.le_of_lt hvd) h
  have x5 : v * d * N = N * d * v := by grind
  generalize v * d * G = X at *
  have o1 : 0 < off ↔ 0 < off * T := by have := mpos_lt (a := 0) (b := off) hT; rw [Int.zero_mul] at this; exact this.symm
  have o2 : off < 0 ↔ off * T < 0 := by have := mpos_lt (a := off) (b := 0) hT; rw [Int.zero_mul] at this; exact this.symm
  have n1 : 0 < nn ↔ 0 < nn * T := by have := mpos_lt (a := 0) (b := nn) hT; rw [Int.zero_mul] at this; exact this.symm
  have n2 : nn < 0 ↔ nn * T < 0 := by have := mpos_lt (a := nn) (b := 0) hT; rw [Int.zero_mul] at this; exact this.symm
  have p1 : 0 < off → 0 < nn → 0 < off * nn := fun a b => Int.mul_pos a b
  have p2 : 0 < off → nn < 0 → off * nn < 0 := fun a b => Int.mul_neg_of_pos_of_neg a b
  have p3 : off < 0 → 0 < nn → off * nn < 0 := fun a b => Int.mul_neg_of_neg_of_pos a b
  have p4 : off < 0 → nn < 0 → 0 < off * nn := fun a b => Int.mul_pos_of_neg_of_neg a b
  have p5 : off = 0 → off * nn = 0 := fun a => by rw [a, Int.zero_mul]
  have y1 : (ab nn * T) * v = (ab nn * v) * T := by rw [Int.mul_assoc, Int.mul_comm T v, ← Int.mul_assoc]
  have y2 : (ab off * T) * R = (ab off * R) * T := by rw [Int.mul_assoc, Int.mul_comm T R, ← Int.mul_assoc]
  have a1 : ab nn * T = N * d := by
    unfold ab
    rcases hσ with rfl | rfl
    · rw [if_neg (by omega)]; omega
    · rw [if_pos (by omega), Int.neg_mul]; omega
  have a2 : ab off * T = X ∨ ab off * T = -X := by
    unfold ab
    split
    · rw [Int.neg_mul]; rcases hσ with rfl | rfl <;> omega
    · rcases hσ with rfl | rfl <;> omega
  refine ⟨fun h => ?_, fun h => ?_, fun h => ?_, fun h g => ?_, fun h g => ?_, fun h g => ?_, fun h g => ?_⟩
  · have h5 := (mpos_lt hT).mpr h
    rw [← y1, ← y2, a1] at h5
    rcases a2 with a2 | a2 <;> rw [a2] at h5 <;> omega
  · rcases hσ with rfl | rfl <;> omega
  · rcases hσ with rfl | rfl <;> omega
  · subst h; omega
  · subst h; omega
  · subst h; omega
  · subst h; omega
/-- W bears N over D, in halves -/
def St (W N D : Int) : Prop := ∀ k : Int, (k * D ≤ N ↔ 2 * k ≤ W) ∧ (N ≤ k * D ↔ W ≤ 2 * k)
/-- W bears the root of N, in halves -/
def St2 (W N : Int) : Prop := ∀ k : Int, 0 ≤ k → (k * k ≤ N ↔ 2 * k ≤ W) ∧ (N ≤ k * k ↔ W ≤ 2 * k)
theorem isR_wide {W A : Int} {n : Nat} {md : Md} (h : IsR W A n md) : 2 * ((A - 1) * 2 ^ n) ≤ W ∧ W ≤ 2 * ((A + 1) * 2 ^ n) := by
  have hp := kbt_pos n
  have e : ∀ c : Int, c * 2 ^ (n + 1) = 2 * (c * 2 ^ n) := fun c => by rw [Int.pow_succ, ← Int.mul_assoc, Int.mul_comm]
  have e1 : (A - 1) * 2 ^ n = A * 2 ^ n - 2 ^ n := by rw [Int.sub_mul, Int.one_mul]
  have e2 : (A + 1) * 2 ^ n = A * 2 ^ n + 2 ^ n := by rw [Int.add_mul, Int.one_mul]
  cases md with
  | dn => obtain ⟨c1, c2⟩ := h; rw [e] at c1 c2; omega
  | up => obtain ⟨c1, c2⟩ := h; rw [e] at c1 c2; omega
  | n =>
    obtain ⟨c1, c2, _, _⟩ := h
    have e3 : (2 * A - 1) * 2 ^ n = 2 * (A * 2 ^ n) - 2 ^ n := by rw [Int.sub_mul, Int.one_mul, Int.mul_assoc]
    have e4 : (2 * A + 1) * 2 ^ n = 2 * (A * 2 ^ n) + 2 ^ n := by rw [Int.add_mul, Int.one_mul, Int.mul_assoc]
    omega
theorem isR_side {W A : Int} {n : Nat} {md : Md} (h : IsR W A n md) : (md = .dn → 2 * (A * 2 ^ n) ≤ W) ∧ (md = .up → W ≤ 2 * (A * 2 ^ n)) := by
  have e : ∀ c : Int, c * 2 ^ (n + 1) = 2 * (c * 2 ^ n) := fun c => by rw [Int.pow_succ, ← Int.mul_assoc, Int.mul_comm]
  constructor
  · rintro rfl; obtain ⟨c1, c2⟩ := h; rw [e] at c1; exact c1
  · rintro rfl; obtain ⟨c1, c2⟩ := h; rw [e] at c2; exact c2
theorem pow_half (q0 n : Nat) : (2 : Int) ^ (q0 + (n + 1)) = 2 * (2 ^ q0 * 2 ^ n) := by rw [← Nat.add_assoc, Int.pow_succ, Int.pow_add, Int.mul_comm]
theorem err1 {W N D A : Int} {n q0 : Nat} {md : Md} (hD : 0 < D) (hs : St W N D) (hr : IsR W A n md) (h1 : 2 ^ (q0 + (n + 1)) ≤ W) :
    (A * 2 ^ n * D - N) * 2 ^ q0 ≤ N ∧ -(A * 2 ^ n * D - N) * 2 ^ q0 ≤ N ∧ (md = .dn → A * 2 ^ n * D - N ≤ 0) ∧ (md = .up → 0 ≤ A * 2 ^ n * D - N) ∧ 0 < N := by
  have ⟨w1, w2⟩ := isR_wide hr
  have ⟨s1, s2⟩ := isR_side hr
  have hp := kbt_pos n
  have hq := kbt_pos q0
  rw [pow_half] at h1
  have t1 := (hs ((A - 1) * 2 ^ n)).1.mpr w1
  have t2 := (hs ((A + 1) * 2 ^ n)).2.mpr w2
  have t3 := (hs (2 ^ q0 * 2 ^ n)).1.mpr h1
  have t4 := (hs (A * 2 ^ n))
  have e1 : (A - 1) * 2 ^ n * D = A * 2 ^ n * D - 2 ^ n * D := by rw [Int.sub_mul, Int.one_mul, Int.sub_mul]
  have e2 : (A + 1) * 2 ^ n * D = A * 2 ^ n * D + 2 ^ n * D := by rw [Int.add_mul, Int.one_mul, Int.add_mul]
  have e3 : 2 ^ q0 * 2 ^ n * D = 2 ^ n * D * 2 ^ q0 := by grind
  have hpos : 0 < 2 ^ n * D * 2 ^ q0 := Int.mul_pos (Int.mul_pos hp hD) hq
  refine ⟨?_, ?_, fun h => by have := t4.1.mpr (s1 h); omega, fun h => by have := t4.2.mpr (s2 h); omega, by omega⟩
  · have : (A * 2 ^ n * D - N) * 2 ^ q0 ≤ 2 ^ n * D * 2 ^ q0 := (mulp_le q0).mpr (by omega)
    omega
  · have : -(A * 2 ^ n * D - N) * 2 ^ q0 ≤ 2 ^ n * D * 2 ^ q0 := (mulp_le q0).mpr (by omega)
    omega
theorem sq_le {a b : Int} (h0 : 0 ≤ a) (h : a ≤ b) : a * a ≤ b * b := Int.mul_le_mul h h h0 (by omega)
theorem err2 {W N A : Int} {n r0 : Nat} {md : Md} (hs : St2 W N) (hr : IsR W A n md) (h1 : 2 ^ (r0 + 2 + (n + 1)) ≤ W) (hA : 2 ^ (r0 + 2) ≤ A) :
    (A * 2 ^ n * (A * 2 ^ n) - N) * 2 ^ r0 ≤ N ∧ -(A * 2 ^ n * (A * 2 ^ n) - N) * 2 ^ r0 ≤ N ∧ (md = .dn → A * 2 ^ n * (A * 2 ^ n) - N ≤ 0) ∧ (md = .up → 0 ≤ A * 2 ^ n * (A * 2 ^ n) - N) ∧ 0 < N := by
  have ⟨w1, w2⟩ := isR_wide hr
  have ⟨s1, s2⟩ := isR_side hr
  have hp := kbt_pos n
  have hq := kbt_pos r0
  have hq2 : (2 : Int) ^ (r0 + 2) = 4 * 2 ^ r0 := by rw [Int.pow_add]; omega
  rw [pow_half] at h1
  have hA0 : 0 ≤ A := by omega
  have hAn : 0 ≤ A * 2 ^ n := Int.mul_nonneg hA0 (Int.le_of_lt hp)
  have hAm : 0 ≤ (A - 1) * 2 ^ n := Int.mul_nonneg (by omega) (Int.le_of_lt hp)
  have t1 := (hs ((A - 1) * 2 ^ n) hAm).1.mpr w1
  have t2 := (hs ((A + 1) * 2 ^ n) (Int.mul_nonneg (by omega) (Int.le_of_lt hp))).2.mpr w2
  have hQn : 0 < (2 : Int) ^ (r0 + 2) * 2 ^ n := Int.mul_pos (by omega) hp
  have t3 := (hs (2 ^ (r0 + 2) * 2 ^ n) (Int.le_of_lt hQn)).1.mpr h1
  have t4 := hs (A * 2 ^ n) hAn
  have hN : 0 < N := by have := Int.mul_pos hQn hQn; omega
  rw [hq2] at hA t3
  generalize (2 : Int) ^ n = t at *
  generalize (2 : Int) ^ r0 = R at *
  have htt : 0 < t * t := Int.mul_pos hp hp
  have sqe : ∀ c : Int, c * t * (c * t) = (c * c) * (t * t) := fun c => by grind
  rw [sqe] at t1 t2 t3 t4 ⊢
  have e1 : (A - 1) * (A - 1) * (t * t) = A * A * (t * t) - (2 * A - 1) * (t * t) := by grind
  have e2 : (A + 1) * (A + 1) * (t * t) = A * A * (t * t) + (2 * A + 1) * (t * t) := by grind
  refine ⟨?_, ?_, fun h => by have := t4.1.mpr (s1 h); omega, fun h => by have := t4.2.mpr (s2 h); omega, hN⟩
  · by_cases hAe : A = 4 * R
    · rw [← hAe] at t3
      have : (A * A * (t * t) - N) * R ≤ 0 * R := (mpos_le hq).mpr (by omega)
      rw [Int.zero_mul] at this
      omega
    · have g1 : (A * A * (t * t) - N) * R ≤ (2 * A - 1) * (t * t) * R := (mpos_le hq).mpr (by omega)
      have g2 : (2 * A - 1) * R ≤ (A - 1) * (A - 1) := by
        have u1 : (2 * A - 1) * (4 * R) ≤ (2 * A - 1) * (A - 1) := Int.mul_le_mul_of_nonneg_left (by omega) (by omega)
        have u2 : (2 * A - 1) * (4 * R) = 4 * ((2 * A - 1) * R) := by grind
        have u3 : (2 * A - 1) * (A - 1) ≤ (4 * (A - 1)) * (A - 1) := Int.mul_le_mul_of_nonneg_right (by omega) (by omega)
        have u4 : (4 * (A - 1)) * (A - 1) = 4 * ((A - 1) * (A - 1)) := by grind
        omega
      have g3 : (2 * A - 1) * R * (t * t) ≤ (A - 1) * (A - 1) * (t * t) := Int.mul_le_mul_of_nonneg_right g2 (Int.le_of_lt htt)
      have g4 : (2 * A - 1) * (t * t) * R = (2 * A - 1) * R * (t * t) := by grind
      omega
  · have g1 : -(A * A * (t * t) - N) * R ≤ (2 * A + 1) * (t * t) * R := (mpos_le hq).mpr (by omega)
    by_cases hle : A * A * (t * t) ≤ N
    · have g2 : (2 * A + 1) * R ≤ A * A := by
        have u1 : (2 * A + 1) * (4 * R) ≤ (2 * A + 1) * A := Int.mul_le_mul_of_nonneg_left (by omega) (by omega)
        have u2 : (2 * A + 1) * (4 * R) = 4 * ((2 * A + 1) * R) := by grind
        have u3 : (2 * A + 1) * A ≤ (4 * A) * A := Int.mul_le_mul_of_nonneg_right (by omega) (by omega)
        have u4 : (4 * A) * A = 4 * (A * A) := by grind
        omega
      have g3 : (2 * A + 1) * R * (t * t) ≤ A * A * (t * t) := Int.mul_le_mul_of_nonneg_right g2 (Int.le_of_lt htt)
      have g4 : (2 * A + 1) * (t * t) * R = (2 * A + 1) * R * (t * t) := by grind
      omega
    · have : -(A * A * (t * t) - N) * R ≤ 0 * R := (mpos_le hq).mpr (by omega)
      rw [Int.zero_mul] at this
      omega
end Mine

namespace Mine
open PySem.Challenge (rw_aa5009_01)
theorem form_of {s W e : Int} {q0 n : Nat} {way : Way} (hs : s = 0 ∨ s = 1) (h1 : 2 ^ (q0 + (n + 1)) ≤ W) (h2 : W < 2 ^ (q0 + 1 + (n + 1))) (he1 : -10000 ≤ e) (he2 : e ≤ 5000) (hn : n ≤ 9000) (hq : q0 ≤ 1000) :
    formOk (Nr s W e (q0 + 1) way) ((q0 : Int) + 1) := by
  obtain ⟨A, c, k, hf, rfl, hc, hr, hA, hb, hk⟩ := nr_out (e := e) (s := s) (way := way) h1 h2
  rw [hf]
  refine ⟨⟨hs, by dsimp only; omega, rfl, fun h => by dsimp only at h; omega, by dsimp only; omega, by dsimp only; omega, by dsimp only; omega⟩, Or.inr ⟨?_, hb⟩⟩
  dsimp only
  rw [fmd_eq (by decide)]
  omega
theorem form_zero (q : Int) : formOk ⟨0, 0, 0, 0⟩ q := ⟨Wf.zero, Or.inl rfl⟩
theorem rg_common {f o : Mf} {s W : Int} {p0 d n K : Nat} {way : Way} (hf : f = Nr s W (-(K : Int) - 1) (p0 + d + 1) way) (ho : o = Nr s W (-(K : Int) - 1) (p0 + 1) way)
    (hs : s = 0 ∨ s = 1) (h1 : 2 ^ (p0 + d + (n + 1)) ≤ W) (h2 : W < 2 ^ (p0 + d + 1 + (n + 1))) (hn : way = .n → 0 < d ∧ NM W (n + d) n) (hK : K ≤ 1000) (hn3 : n ≤ 3000) (hq : p0 + d ≤ 90) :
    ∃ A : Int, IsR W A n (mdW s way) ∧ 2 ^ (p0 + d) ≤ A ∧ f.s = s ∧ formOk f (((p0 + d : Nat) : Int) + 1) ∧ formOk o ((p0 : Int) + 1) ∧ normC f.s f.m f.e f.b ((p0 : Int) + 1) way = o ∧ rlC f ((p0 : Int) + 1) way = o ∧
      bits f.m ≤ 100 ∧ 0 ≤ f.e + K ∧ f.e ≤ 3200 ∧ f.m * 2 ^ (f.e + K).toNat = A * 2 ^ n := by
  have hff : formOk f (((p0 + d : Nat) : Int) + 1) := by rw [hf]; exact form_of hs h1 h2 (by omega) (by omega) (by omega) (by omega)
  have g1 : p0 + d + (n + 1) = p0 + (n + d + 1) := by omega
  have g2 : p0 + d + 1 + (n + 1) = p0 + 1 + (n + d + 1) := by omega
  have hoo : formOk o ((p0 : Int) + 1) := by
    rw [ho]
    exact form_of (n := n + d) hs (by rw [← g1]; exact h1) (by rw [← g2]; exact h2) (by omega) (by omega) (by omega) (by omega)
  have hmd : mdW s way = .n → way = .n := by
    intro h
    cases way with
    | n => rfl
    | f => rw [dn_f hs] at h; split at h <;> cases h
    | c => rw [dn_c hs] at h; split at h <;> cases h
    | u => rw [dn_u] at h; cases h
    | d => rw [dn_d] at h; cases h
  have hd := dbl (s := s) (e := -(K : Int) - 1) h1 h2 (fun h => hn (hmd h))
  rw [← hf, ← ho] at hd
  have hbf := hff.1.b
  have e1 : normC f.s f.m f.e f.b ((p0 : Int) + 1) way = o := by rw [hbf]; exact hd
  have e2 : rlC f ((p0 : Int) + 1) way = o := by
    rw [rl_eq hff.1 (by rcases hff.2 with h | h; exact Or.inl h; exact Or.inr h.1)]; exact hd
  obtain ⟨A, c, k, hf2, hA2, hc, hr, hA, hb, hk⟩ := nr_out (e := -(K : Int) - 1) (s := s) (way := way) h1 h2
  rw [← hf] at hf2
  refine ⟨A, hr, hA, by rw [hf2], hff, hoo, e1, e2, ?_⟩
  clear e1 e2 hff hoo hd hbf
  subst hf2
  dsimp only at *
  refine ⟨by omega, by omega, by omega, ?_⟩
  have e3 : (-(K : Int) - 1 + ((n : Int) + 1) + k + K).toNat = n + k := by omega
  rw [e3, hA2, Int.pow_add]
  grind
theorem bits_sgn (f : Mf) : bits (sgn f) = bits f.m := by unfold sgn; split; rfl; exact bits_neg _
theorem mul1 (a : Int) : mul 2 a = 2 * a := mul_eq _ _
theorem bits_sub_le {a b k : Int} (ha : bits a ≤ k) (hb : bits b ≤ k) : bits (a - b) ≤ k + 1 := by
  have h := bits_add_le a (-b)
  rw [bits_neg] at h
  have e : a + -b = a - b := by omega
  rw [e] at h
  omega
/-- a row of the rational ones -/
theorem rg1 {f o : Mf} {s a D z W : Int} {p0 d n K : Nat} {way : Way} (hf : f = Nr s W (-(K : Int) - 1) (p0 + d + 1) way) (ho : o = Nr s W (-(K : Int) - 1) (p0 + 1) way)
    (hs : (s = 0 ∧ 0 < a) ∨ (s = 1 ∧ a < 0)) (hD : 0 < D) (hz : 0 ≤ z + K) (hSt : St W ((if a < 0 then -a else a) * 2 ^ (z + K).toNat) D)
    (h1 : 2 ^ (p0 + d + (n + 1)) ≤ W) (h2 : W < 2 ^ (p0 + d + 1 + (n + 1))) (hn : way = .n → 0 < d ∧ NM W (n + d) n) (hK : K ≤ 1000) (hn3 : n ≤ 3000) (hq : p0 + d ≤ 90) (hq2 : 2 ≤ p0 + d)
    (ha : bits a ≤ 1000) (hDb : bits D ≤ 1000) (hz2 : z ≤ 1000) :
    RowGood ((p0 : Int) + 1) way f o (pN a z) (pD D z) (((p0 + d : Nat) : Int) + 1) 1 := by
  have hs1 : s = 0 ∨ s = 1 := by omega
  obtain ⟨A, hr, hA, hfs, hff, hoo, e1, e2, hb1, hb2, hb3, hval⟩ := rg_common hf ho hs1 h1 h2 hn hK hn3 hq
  have ⟨r1, r2, r3, r4, r5⟩ := err1 hD hSt hr h1
  have hvN := ex_scale (a := sgn f) (D := 1) hb2
  rw [← valN_pN, ← valD_pD, Int.mul_one] at hvN
  have hvD := pD_pos (D := 1) f.e (by decide)
  rw [← valD_pD] at hvD
  have hdd := pD_pos z hD
  have hnn := ex_scale (a := a) (D := D) hz
  have bN := bits_pN (sgn f) (z := f.e) (k := 3200) (by decide) hb3
  rw [← valN_pN, bits_sgn] at bN
  have bD := bits_pD 1 (z := f.e) (k := 1000) (by decide) (by omega)
  rw [← valD_pD, bits_one] at bD
  have bn := bits_pN a (z := z) (k := 1000) (by decide) (by omega)
  have bd := bits_pD D (z := z) (k := 1000) (by decide) (by omega)
  have bm := bits_mul_le (valN f) (pD D z)
  have bm2 := bits_mul_le (pN a z) (valD f)
  have bo := bits_sub_le (a := valN f * pD D z) (b := pN a z * valD f) (k := 9000) (by omega) (by omega)
  have hsv : ∃ σ : Int, (σ = 1 ∨ σ = -1) ∧ (σ = 1 ↔ s = 0) ∧ sgn f * 2 ^ (f.e + K).toNat = σ * (A * 2 ^ n) ∧ a * 2 ^ (z + K).toNat = σ * ((if a < 0 then -a else a) * 2 ^ (z + K).toNat) := by
    unfold sgn
    rw [hfs, ← hval]
    rcases hs with ⟨rfl, h⟩ | ⟨rfl, h⟩
    · refine ⟨1, Or.inl rfl, by omega, ?_, ?_⟩
      · rw [if_pos rfl, Int.one_mul]
      · rw [if_neg (by omega), Int.one_mul]
    · refine ⟨-1, Or.inr rfl, by omega, ?_, ?_⟩
      · rw [if_neg (by decide), Int.neg_mul, Int.neg_mul, Int.one_mul]
      · rw [if_pos (by omega), Int.neg_mul, Int.neg_mul, Int.one_mul]; omega
  obtain ⟨σ, hσ, hσ2, g1, g2⟩ := hsv
  rw [g1] at hvN
  rw [g2] at hnn
  generalize (if a < 0 then -a else a) * 2 ^ (z + K).toNat = N at *
  have hT : 0 < (2 : Int) ^ K * D := Int.mul_pos (kbt_pos K) hD
  have q1 : (valN f * pD D z - pN a z * valD f) * (2 ^ K * D) = σ * (valD f * pD D z * (A * 2 ^ n * D - N)) := by
    have x1 : valN f * pD D z * (2 ^ K * D) = (valN f * 2 ^ K) * (pD D z * D) := by grind
    have x2 : pN a z * valD f * (2 ^ K * D) = (pN a z * (2 ^ K * D)) * valD f := by grind
    rw [Int.sub_mul, x1, x2, hvN, hnn]
    grind
  have q2 : pN a z * (2 ^ K * D) = σ * (N * pD D z) := by rw [hnn, Int.mul_assoc]
  have ⟨k1, k2, k3, k4, k5, k6, k7⟩ := core_c hT hvD hdd r5 hσ q1 q2 r1 r2
  have eo : offV f (pN a z) (pD D z) 1 = valN f * pD D z - pN a z * valD f := by unfold offV; rw [ipow1, ipow1, mul_eq, mul_eq]
  refine ⟨hff, hoo, e1, e2, Or.inl rfl, by omega, by omega, by rw [ipow1]; omega, by rw [ipow1]; omega, by omega, by omega, by omega, by omega, by rw [eo]; omega, ?_, fun h => ?_, fun h => ?_, fun h => ?_, fun h => ?_⟩
  · rw [eo, ipow1, mul_eq, mul_eq, show (((p0 + d : Nat) : Int) + 1 + 1 - 2 * 1) = ((p0 + d : Nat) : Int) by omega, shl_nat]
    exact k1
  · rw [eo]
    subst h
    rcases hs1 with rfl | rfl
    · exact k4 (by omega) (r3 (dn_f (Or.inl rfl)))
    · exact k7 (by omega) (r4 (dn_f (Or.inr rfl)))
  · rw [eo]
    subst h
    rcases hs1 with rfl | rfl
    · exact k6 (by omega) (r4 (dn_c (Or.inl rfl)))
    · exact k5 (by omega) (r3 (dn_c (Or.inr rfl)))
  · rw [eo, mul_eq]
    subst h
    exact k2 (r3 dn_d)
  · rw [eo, mul_eq]
    subst h
    exact k3 (r4 dn_u)
/-- the root's row -/
theorem rg2 {f o : Mf} {a z W : Int} {p0 d n K : Nat} {way : Way} (hf : f = Nr 0 W (-(K : Int) - 1) (p0 + d + 1) way) (ho : o = Nr 0 W (-(K : Int) - 1) (p0 + 1) way)
    (ha0 : 0 < a) (hz : 0 ≤ z + ((2 * K : Nat) : Int)) (hSt : St2 W (a * 2 ^ (z + ((2 * K : Nat) : Int)).toNat))
    (h1 : 2 ^ (p0 + d + (n + 1)) ≤ W) (h2 : W < 2 ^ (p0 + d + 1 + (n + 1))) (hn : way = .n → 0 < d ∧ NM W (n + d) n) (hK : K ≤ 1000) (hn3 : n ≤ 3000) (hq : p0 + d ≤ 90) (hq2 : 2 ≤ p0 + d)
    (ha : bits a ≤ 1000) (hz2 : z ≤ 1000) :
    RowGood ((p0 : Int) + 1) way f o (pN a z) (pD 1 z) (((p0 + d : Nat) : Int) + 1) 2 := by
  obtain ⟨A, hr, hA, hfs, hff, hoo, e1, e2, hb1, hb2, hb3, hval⟩ := rg_common hf ho (Or.inl rfl) h1 h2 hn hK hn3 hq
  obtain ⟨r0, hr0⟩ := Nat.exists_eq_add_of_le hq2
  have hr1 : p0 + d = r0 + 2 := by omega
  have ⟨r1, r2, r3, r4, r5⟩ := err2 (r0 := r0) hSt hr (by rw [← hr1]; exact h1) (by rw [← hr1]; exact hA)
  have hvN := ex_scale (a := sgn f) (D := 1) hb2
  rw [← valN_pN, ← valD_pD, Int.mul_one] at hvN
  have hvD := pD_pos (D := 1) f.e (by decide)
  rw [← valD_pD] at hvD
  have hdd := pD_pos (D := 1) z (by decide)
  have hnn := ex_scale (a := a) (D := 1) hz
  have bN := bits_pN (sgn f) (z := f.e) (k := 3200) (by decide) hb3
  rw [← valN_pN, bits_sgn] at bN
  have bD := bits_pD 1 (z := f.e) (k := 1000) (by decide) (by omega)
  rw [← valD_pD, bits_one] at bD
  have bn := bits_pN a (z := z) (k := 1000) (by decide) (by omega)
  have bd := bits_pD 1 (z := z) (k := 2000) (by decide) (by omega)
  rw [bits_one] at bd
  have bN2 := bits_mul_le (valN f) (valN f)
  have bD2 := bits_mul_le (valD f) (valD f)
  have bm := bits_mul_le (valN f * valN f) (pD 1 z)
  have bm2 := bits_mul_le (pN a z) (valD f * valD f)
  have bo := bits_sub_le (a := valN f * valN f * pD 1 z) (b := pN a z * (valD f * valD f)) (k := 18000) (by omega) (by omega)
  have g1 : sgn f * 2 ^ (f.e + K).toNat = A * 2 ^ n := by
    unfold sgn
    rw [hfs, if_pos rfl, hval]
  rw [g1] at hvN
  generalize a * 2 ^ (z + ((2 * K : Nat) : Int)).toNat = N at *
  have hT : 0 < (2 : Int) ^ (2 * K) := kbt_pos _
  have eK : (2 : Int) ^ (2 * K) = 2 ^ K * 2 ^ K := by rw [← Int.pow_add]; congr 1; omega
  rw [Int.mul_one] at hnn
  have q1 : (valN f * valN f * pD 1 z - pN a z * (valD f * valD f)) * 2 ^ (2 * K) = 1 * (valD f * valD f * pD 1 z * (A * 2 ^ n * (A * 2 ^ n) - N)) := by
    have x1 : valN f * valN f * pD 1 z * 2 ^ (2 * K) = (valN f * 2 ^ K) * (valN f * 2 ^ K) * pD 1 z := by rw [eK]; grind
    have x2 : pN a z * (valD f * valD f) * 2 ^ (2 * K) = (pN a z * 2 ^ (2 * K)) * (valD f * valD f) := by grind
    rw [Int.sub_mul, x1, x2, hvN, hnn]
    grind
  have q2 : pN a z * 2 ^ (2 * K) = 1 * (N * pD 1 z) := by rw [hnn, Int.one_mul]
  have ⟨k1, k2, k3, k4, k5, k6, k7⟩ := core_c hT (Int.mul_pos hvD hvD) hdd r5 (Or.inl rfl) q1 q2 r1 r2
  have eo : offV f (pN a z) (pD 1 z) 2 = valN f * valN f * pD 1 z - pN a z * (valD f * valD f) := by unfold offV; rw [ipow2, ipow2, mul_eq, mul_eq]
  refine ⟨hff, hoo, e1, e2, Or.inr rfl, by omega, by omega, by rw [ipow2]; omega, by rw [ipow2]; omega, by omega, by omega, by omega, by omega, by rw [eo]; omega, ?_, fun h => ?_, fun h => ?_, fun h => ?_, fun h => ?_⟩
  · rw [eo, ipow2, mul_eq, mul_eq, show (((p0 + d : Nat) : Int) + 1 + 1 - 2 * 2) = ((r0 : Nat) : Int) by omega, shl_nat]
    exact k1
  · rw [eo]
    subst h
    exact k4 rfl (r3 (dn_f (Or.inl rfl)))
  · rw [eo]
    subst h
    exact k6 rfl (r4 (dn_c (Or.inl rfl)))
  · rw [eo, mul_eq]
    subst h
    exact k2 (r3 dn_d)
  · rw [eo, mul_eq]
    subst h
    exact k3 (r4 dn_u)
/-- a row that tells nought -/
theorem rg0 {D z p q pw : Int} {way : Way} (hD : 0 < D) (hpw : pw = 1 ∨ pw = 2) (hp : 0 ≤ p) (hq : 3 ≤ q) (hq2 : q ≤ 100) (hz : -1000 ≤ z) (hz2 : z ≤ 1000) (hDb : bits D ≤ 1000) :
    RowGood p way ⟨0, 0, 0, 0⟩ ⟨0, 0, 0, 0⟩ (pN 0 z) (pD D z) q pw := by
  have e1 : pN 0 z = 0 := by unfold pN; split; rfl; rw [shl_eq, Int.zero_mul]
  have e2 : valN ⟨0, 0, 0, 0⟩ = 0 := by unfold valN sgn; simp [shl_eq]
  have e3 : valD ⟨0, 0, 0, 0⟩ = 1 := by unfold valD; simp
  have e4 : ∀ a : Int, (a = 0 → ipow a pw = 0) ∧ (a = 1 → ipow a pw = 1) := by
    intro a
    rcases hpw with rfl | rfl
    · rw [ipow1]; exact ⟨id, id⟩
    · rw [ipow2]; exact ⟨fun h => by rw [h]; rfl, fun h => by rw [h]; rfl⟩
  have e5 : offV ⟨0, 0, 0, 0⟩ (pN 0 z) (pD D z) pw = 0 := by
    unfold offV
    rw [e1, e2, e3, (e4 0).1 rfl, mul_eq, mul_eq]; simp
  have bd := bits_pD D (z := z) (k := 1000) (by decide) (by omega)
  have z0 := bits_zero
  have z1 := bits_one
  refine ⟨form_zero _, form_zero _, by unfold normC; rw [if_pos rfl], ?_, hpw, hq, hq2, by rw [e2, (e4 0).1 rfl]; omega, by rw [e3, (e4 1).2 rfl]; omega, by rw [e2]; omega, by rw [e3]; omega, by rw [e1]; omega, by omega, by rw [e5]; omega, ?_, fun h => ?_, fun h => ?_, fun h => ?_, fun h => ?_⟩
  · unfold rlC
    rw [if_pos (by dsimp only; omega)]
  · rw [e5, e1, mul_eq, show ab 0 = 0 by unfold ab; rfl, Int.zero_mul, shl_eq, Int.zero_mul]
    omega
  · rw [e5]; omega
  · rw [e5]; omega
  · rw [e5, mul_eq, Int.zero_mul]; omega
  · rw [e5, mul_eq, Int.zero_mul]; omega
end Mine

namespace Mine
open PySem.Challenge (rw_aa5009_01)
theorem nr_unit {s W e : Int} {p0 K : Nat} {way : Way} (h : 0 < W) (he : 0 ≤ e + K) : Nr s W e (p0 + 1) way = Nr s (2 * (W * 2 ^ (e + K).toNat)) (-(K : Int) - 1) (p0 + 1) way := by
  have h1 := nr_shift (s := s) (e := -(K : Int) - 1) (p0 := p0) (way := way) ((e + K).toNat + 1) h
  have e1 : W * 2 ^ ((e + K).toNat + 1) = 2 * (W * 2 ^ (e + K).toNat) := by rw [Int.pow_succ, ← Int.mul_assoc, Int.mul_comm]
  have e2 : -(K : Int) - 1 + (((e + K).toNat + 1 : Nat) : Int) = e := by omega
  rw [e1, e2] at h1
  exact h1.symm
def Wd (N D : Int) : Int := 2 * (N / D) + (if N % D = 0 then 0 else 1)
theorem wd_st {N D : Int} (hD : 0 < D) : St (Wd N D) N D := by
  intro k
  have h1 := Int.emod_nonneg N (show D ≠ 0 by omega)
  have h2 := Int.emod_lt_of_pos N hD
  have h3 := Int.mul_ediv_add_emod N D
  have h4 : k * D ≤ N ↔ k ≤ N / D := (Int.le_ediv_iff_mul_le hD).symm
  unfold Wd
  generalize N / D = q at *
  generalize N % D = r at *
  have h5 : D * q = q * D := Int.mul_comm _ _
  have h6 : (q + 1) * D = q * D + D := by rw [Int.add_mul, Int.one_mul]
  refine ⟨?_, ?_⟩
  · rw [h4]; split <;> omega
  · split
    · rename_i hr
      have h7 : N = q * D := by omega
      rw [h7, mpos_le hD]
      omega
    · constructor
      · intro h
        have : q * D < k * D := by omega
        have := (mpos_lt hD).mp this
        omega
      · intro h
        have : (q + 1) * D ≤ k * D := (mpos_le hD).mpr (by omega)
        omega
def Wq (N : Int) : Int := 2 * isqF N + (if isqF N * isqF N = N then 0 else 1)
theorem wq_st {N : Int} (h : 0 ≤ N) : St2 (Wq N) N := by
  intro k hk
  have ⟨h1, h2⟩ := isqF_spec h
  have h0 := isqF_nonneg N
  unfold Wq
  generalize isqF N = q at *
  have m1 : k ≤ q → k * k ≤ q * q := fun h => sq_le hk h
  have m2 : q + 1 ≤ k → (q + 1) * (q + 1) ≤ k * k := fun h => sq_le (by omega) h
  have m3 : q ≤ k → q * q ≤ k * k := fun h => sq_le h0 h
  have m4 : k + 1 ≤ q → k * k + 2 * k + 1 ≤ q * q := fun h => by
    have := sq_le (a := k + 1) (by omega) h
    have e : (k + 1) * (k + 1) = k * k + 2 * k + 1 := by grind
    omega
  refine ⟨?_, ?_⟩
  · split <;> omega
  · split <;> omega
theorem St.same {W1 W N D : Int} {δ : Nat} (h1 : St W1 N D) (h2 : St W (N * 2 ^ δ) D) : Same (δ + 1) (W1 * 2 ^ δ) W := by
  intro k
  have a := h1 k
  have b := h2 (k * 2 ^ δ)
  have e1 : k * 2 ^ δ * D = k * D * 2 ^ δ := by rw [Int.mul_assoc, Int.mul_comm (2 ^ δ) D, ← Int.mul_assoc]
  rw [e1, mulp_le, mulp_le] at b
  have e2 : k * 2 ^ (δ + 1) = 2 * k * 2 ^ δ := by rw [Int.pow_succ, ← Int.mul_assoc, Int.mul_comm, Int.mul_assoc]
  rw [e2, mulp_le, mulp_le]
  rw [show 2 * (k * 2 ^ δ) = 2 * k * 2 ^ δ by rw [Int.mul_assoc]] at b
  exact ⟨a.1.symm.trans b.1, a.2.symm.trans b.2⟩
theorem St2.same {W1 W N : Int} {δ : Nat} (hN : 0 < N) (h1 : St2 W1 N) (h2 : St2 W (N * 2 ^ (2 * δ))) : Same (δ + 1) (W1 * 2 ^ δ) W := by
  have hd := kbt_pos δ
  have z1 := h1 0 (by decide)
  have z2 := h2 0 (by decide)
  have hN2 : 0 < N * 2 ^ (2 * δ) := Int.mul_pos hN (kbt_pos _)
  have hW1 : 0 < W1 := by omega
  have hW1b : 0 < W1 * 2 ^ δ := Int.mul_pos hW1 hd
  intro k
  have e2 : k * 2 ^ (δ + 1) = 2 * k * 2 ^ δ := by rw [Int.pow_succ, ← Int.mul_assoc, Int.mul_comm, Int.mul_assoc]
  have e3 : 2 * (k * 2 ^ δ) = 2 * k * 2 ^ δ := by rw [Int.mul_assoc]
  by_cases hk : 0 ≤ k
  · have a := h1 k hk
    have b := h2 (k * 2 ^ δ) (Int.mul_nonneg hk (Int.le_of_lt hd))
    have e1 : k * 2 ^ δ * (k * 2 ^ δ) = k * k * 2 ^ (2 * δ) := by rw [show 2 * δ = δ + δ by omega, Int.pow_add]; grind
    rw [e1, mulp_le, mulp_le, e3] at b
    rw [e2, mulp_le, mulp_le]
    exact ⟨a.1.symm.trans b.1, a.2.symm.trans b.2⟩
  · have : k * 2 ^ (δ + 1) < 0 := Int.mul_neg_of_neg_of_pos (by omega) (kbt_pos _)
    omega
theorem same_nr {s e W1 W : Int} {δ p0 : Nat} {way : Way} (hs : Same (δ + 1) (W1 * 2 ^ δ) W) (hb : 2 ^ (p0 + 2) ≤ W1) : Nr s W1 (e + δ) (p0 + 1) way = Nr s W e (p0 + 1) way := by
  have := kbt_pos (p0 + 2)
  rw [← nr_shift δ (by omega)]
  refine nr_same hs ?_
  rw [show p0 + 1 + (δ + 1) = p0 + 2 + δ by omega, Int.pow_add]
  exact (mulp_le δ).mpr hb
theorem mul_univ {x y : Mf} {p0 K : Nat} {way : Way} (hx : 0 < x.m) (hy : 0 < y.m) (he : 0 ≤ x.e + y.e + K) :
    mulC x y ((p0 : Int) + 1) way = Nr (bxor x.s y.s) (2 * (x.m * y.m * 2 ^ (x.e + y.e + K).toNat)) (-(K : Int) - 1) (p0 + 1) way := by
  have h : 0 < x.m * y.m := Int.mul_pos hx hy
  unfold mulC
  rw [mul_eq, if_neg (by omega), ← nr_unit h he]
  rfl
theorem div_univ {x y : Mf} {p0 K : Nat} {way : Way} (hx : 0 < x.m) (hy : 0 < y.m) (hxb : x.b = bits x.m) (hyb : y.b = bits y.m) (he : 0 ≤ x.e - y.e + K - ((p0 : Int) + 1 + y.b + 5)) :
    divC x y ((p0 : Int) + 1) way = Nr (bxor x.s y.s) (Wd (x.m * 2 ^ (x.e - y.e + K).toNat) y.m) (-(K : Int) - 1) (p0 + 1) way := by
  have hyb0 := bits_nonneg y.m
  unfold divC
  rw [if_neg (by omega)]
  by_cases h1 : y.m = 1
  · have hw : Wd (x.m * 2 ^ (x.e - y.e + K).toNat) y.m = 2 * (x.m * 2 ^ (x.e - y.e + K).toNat) := by
      unfold Wd; rw [h1, Int.ediv_one, Int.emod_one, if_pos rfl]; omega
    rw [if_pos h1, hw, ← nr_unit hx (by omega), hxb]
    rfl
  · rw [if_neg h1]
    obtain ⟨xb, hx1, hx2, hx3⟩ := bits_nat hx
    obtain ⟨yb, hy1, hy2, hy3⟩ := bits_nat hy
    have hext : ∃ t : Nat, extC x y ((p0 : Int) + 1) = (t : Int) ∧ p0 + 1 + yb + 1 + 4 ≤ xb + t ∧ (t : Int) ≤ (p0 : Int) + 1 + y.b + 5 := by
      unfold extC
      split
      · exact ⟨5, rfl, by omega, by omega⟩
      · exact ⟨((p0 : Int) + 1 - x.b + y.b + 5).toNat, by omega, by omega, by omega⟩
    obtain ⟨t, ht, ht2, ht3⟩ := hext
    rw [ht, shl_nat, fmd_eq (by omega), fdv_eq (by omega)]
    obtain ⟨δ, hδ⟩ := Nat.exists_eq_add_of_le (show t ≤ (x.e - y.e + K).toNat by omega)
    have hN : x.m * 2 ^ (x.e - y.e + K).toNat = x.m * 2 ^ t * 2 ^ δ := by rw [hδ, mul_pow_add]
    have hq : 2 ^ (p0 + 1) ≤ x.m * 2 ^ t / y.m := by
      refine (Int.le_ediv_iff_mul_le hy).mpr ?_
      have g1 : (2 : Int) ^ (p0 + 1) * y.m ≤ 2 ^ (p0 + 1) * 2 ^ (yb + 1) := Int.mul_le_mul_of_nonneg_left (Int.le_of_lt hy3) (Int.le_of_lt (kbt_pos _))
      have g2 : (2 : Int) ^ xb * 2 ^ t ≤ x.m * 2 ^ t := (mulp_le t).mpr hx2
      rw [← Int.pow_add] at g1 g2
      have g3 := pw_le (show p0 + 1 + (yb + 1) ≤ xb + t by omega)
      omega
    have hq2 : (2 : Int) ^ (p0 + 2) = 2 * 2 ^ (p0 + 1) := by rw [Int.pow_succ 2 (p0 + 1)]; omega
    have hp := kbt_pos (p0 + 1)
    have hfin := same_nr (s := bxor x.s y.s) (e := -(K : Int) - 1) (p0 := p0) (way := way) ((wd_st (N := x.m * 2 ^ t) hy).same (wd_st (N := x.m * 2 ^ t * 2 ^ δ) hy)) (by unfold Wd; split <;> omega)
    rw [hN, ← hfin]
    unfold Wd
    split
    · have h3 := nr_shift (s := bxor x.s y.s) (e := -(K : Int) - 1 + δ) (p0 := p0) (way := way) 1 (show 0 < x.m * 2 ^ t / y.m by omega)
      rw [Int.pow_one] at h3
      rw [show 2 * (x.m * 2 ^ t / y.m) + 0 = x.m * 2 ^ t / y.m * 2 by omega, h3]
      have h4 : x.e - y.e - (t : Int) = -(K : Int) - 1 + δ + ((1 : Nat) : Int) := by omega
      rw [h4]
      rfl
    · have h4 : x.e - y.e - ((t : Int) + 1) = -(K : Int) - 1 + δ := by omega
      have h5 : shl (x.m * 2 ^ t / y.m) 1 + 1 = 2 * (x.m * 2 ^ t / y.m) + 1 := by
        have := shl_nat (x.m * 2 ^ t / y.m) 1
        rw [Int.pow_one] at this
        rw [show (1 : Int) = ((1 : Nat) : Int) by rfl, this]
        omega
      rw [h4, h5]
      rfl
theorem fd_dn {way : Way} (h : wayFD way = true) : mdW 0 way = .dn := by
  cases way with
  | f => exact dn_f (Or.inl rfl)
  | d => exact dn_d
  | n => cases h
  | c => cases h
  | u => cases h
theorem root_univ {m ex b : Int} {p0 K t : Nat} {way : Way} (hm : 0 < m) (hb : b = bits m) (hx : ex % 2 = 0) (ht : t % 2 = 0) (ht2 : 2 * (p0 + 1) + 4 ≤ b + t) (he : 0 ≤ ex - t + ((2 * K : Nat) : Int)) :
    rootC m ex b ((p0 : Int) + 1) t way = Nr 0 (Wq (m * 2 ^ (ex + ((2 * K : Nat) : Int)).toNat)) (-(K : Int) - 1) (p0 + 1) way := by
  obtain ⟨mb, hm1, hm2, hm3⟩ := bits_nat hm
  have hN1 : 0 < m * 2 ^ t := Int.mul_pos hm (kbt_pos t)
  have ⟨s1, s2⟩ := isqF_spec (Int.le_of_lt hN1)
  have s0 := isqF_nonneg (m * 2 ^ t)
  obtain ⟨δ, hδ⟩ : ∃ δ : Nat, (ex - t) / 2 + K = (δ : Int) := ⟨((ex - t) / 2 + K).toNat, by omega⟩
  have hN : m * 2 ^ (ex + ((2 * K : Nat) : Int)).toNat = m * 2 ^ t * 2 ^ (2 * δ) := by
    rw [show (ex + ((2 * K : Nat) : Int)).toNat = t + 2 * δ by omega, mul_pow_add]
  have hS : 2 ^ (p0 + 2) ≤ isqF (m * 2 ^ t) := by
    rcases Int.lt_or_le (isqF (m * 2 ^ t)) (2 ^ (p0 + 2)) with h | h
    · have g1 : (isqF (m * 2 ^ t) + 1) * (isqF (m * 2 ^ t) + 1) ≤ 2 ^ (p0 + 2) * 2 ^ (p0 + 2) := sq_le (by omega) (by omega)
      have g2 : (2 : Int) ^ mb * 2 ^ t ≤ m * 2 ^ t := (mulp_le t).mpr hm2
      rw [← Int.pow_add] at g1 g2
      have g3 := pw_le (show p0 + 2 + (p0 + 2) ≤ mb + t by omega)
      omega
    · exact h
  have hp1 : (2 : Int) ^ (p0 + 2) = 4 * 2 ^ p0 := by rw [Int.pow_add]; omega
  have hp0 := kbt_pos p0
  have hfin := same_nr (s := 0) (e := -(K : Int) - 1) (p0 := p0) (way := way) (St2.same hN1 (wq_st (Int.le_of_lt hN1)) (wq_st (Int.le_of_lt (Int.mul_pos hN1 (kbt_pos (2 * δ)))))) (by unfold Wq; split <;> omega)
  rw [hN, ← hfin]
  have h3 := nr_shift (s := 0) (e := -(K : Int) - 1 + δ) (p0 := p0) (way := way) 1 (show 0 < isqF (m * 2 ^ t) by omega)
  rw [Int.pow_one] at h3
  have h4 : fdv (ex - (t : Int)) 2 = -(K : Int) - 1 + δ + ((1 : Nat) : Int) := by rw [fdv_eq (by decide)]; omega
  have h4b : fdv (ex - ((t : Int) + 2)) 2 = -(K : Int) - 1 + δ := by rw [fdv_eq (by decide)]; omega
  have h5 : shl (isqF (m * 2 ^ t)) 1 + 1 = 2 * isqF (m * 2 ^ t) + 1 := by
    have := shl_nat (isqF (m * 2 ^ t)) 1
    rw [Int.pow_one] at this
    rw [show (1 : Int) = ((1 : Nat) : Int) by rfl, this]
    omega
  have hmain : Nr 0 (isqF (m * 2 ^ t)) (fdv (ex - (t : Int)) 2) (p0 + 1) way = Nr 0 (2 * isqF (m * 2 ^ t) + 0) (-(K : Int) - 1 + δ) (p0 + 1) way := by
    rw [h4, ← h3]
    congr 1; omega
  unfold rootC
  rw [shl_nat, h4b, h5, mul_eq]
  unfold Wq
  by_cases hw : wayFD way = true
  · rw [if_pos hw]
    refine hmain.trans ?_
    split
    · rfl
    · rw [Int.add_zero]; exact (nr_floor (fd_dn hw) (by omega) (by decide) (by decide)).symm
  · rw [if_neg hw]
    by_cases hz : isqF (m * 2 ^ t) * isqF (m * 2 ^ t) = m * 2 ^ t
    · rw [if_pos (by omega), if_pos hz]
      exact hmain
    · rw [if_neg (by omega), if_neg hz]
      rfl
end Mine

namespace Mine
open PySem.Challenge (rw_aa5009_01)
theorem sh_ok (b prec : Int) : ∃ t : Nat, shfC b prec + band (shfC b prec) 1 = (t : Int) ∧ t % 2 = 0 ∧ 2 * prec + 4 ≤ b + t ∧ ((t : Int) ≤ 2 * prec - b + 5 ∨ (t : Int) ≤ 5) := by
  rw [band_one]
  have h1 := le_mxF 4 (mul 2 prec - b + 4)
  have h2 : shfC b prec = 4 ∨ shfC b prec = 2 * prec - b + 4 := by
    unfold shfC mxF
    rw [mul_eq]
    split
    · exact Or.inr rfl
    · exact Or.inl rfl
  have h3 : shfC b prec = mxF 4 (mul 2 prec - b + 4) := rfl
  rw [mul_eq] at h1 h3
  exact ⟨(shfC b prec + shfC b prec % 2).toNat, by omega, by omega, by omega, by omega⟩
theorem isqF_sq {a : Int} (h : 0 ≤ a) : isqF (a * a) = a := by
  refine (isqF_unique h (Int.le_refl _) ?_).symm
  have e : (a + 1) * (a + 1) = a * a + 2 * a + 1 := by grind
  omega
theorem sqrt_univ {x : Mf} {p0 K : Nat} {way : Way} (hx : 0 < x.m) (hb : x.b = bits x.m) (he : 0 ≤ x.e + ((2 * K : Nat) : Int) - (2 * (p0 + 1) + 10)) :
    sqrtC x ((p0 : Int) + 1) way = Nr 0 (Wq (x.m * 2 ^ (x.e + ((2 * K : Nat) : Int)).toNat)) (-(K : Int) - 1) (p0 + 1) way := by
  have hb0 := bits_pos (show x.m ≠ 0 by omega)
  unfold sqrtC
  rw [if_neg (by omega), band_one]
  by_cases h1 : x.e % 2 = 0
  · rw [if_pos h1]
    by_cases h2 : x.m = 1
    · rw [if_pos h2, h2]
      have hu := nr_unit (s := 0) (W := 1) (e := fdv x.e 2) (p0 := p0) (K := K) (way := way) (by decide) (by rw [fdv_eq (by decide)]; omega)
      have g1 : (1 : Int) * 2 ^ (x.e + ((2 * K : Nat) : Int)).toNat = (1 * 2 ^ (fdv x.e 2 + K).toNat) * (1 * 2 ^ (fdv x.e 2 + K).toNat) := by
        rw [fdv_eq (by decide), Int.one_mul, Int.one_mul, ← Int.pow_add]
        congr 1
        omega
      have g2 := kbt_pos (fdv x.e 2 + K).toNat
      have g3 : Wq ((1 * 2 ^ (fdv x.e 2 + K).toNat) * (1 * 2 ^ (fdv x.e 2 + K).toNat)) = 2 * (1 * 2 ^ (fdv x.e 2 + K).toNat) := by
        unfold Wq
        rw [isqF_sq (by omega), if_pos rfl]
        omega
      rw [g1, g3, ← hu, hb, h2]
      rfl
    · rw [if_neg h2]
      obtain ⟨t, t1, t2, t3, t4⟩ := sh_ok x.b ((p0 : Int) + 1)
      rw [t1]
      exact root_univ hx hb h1 t2 t3 (by omega)
  · rw [if_neg h1]
    obtain ⟨t, t1, t2, t3, t4⟩ := sh_ok (x.b + 1) ((p0 : Int) + 1)
    have g1 := shl_nat x.m 1
    rw [Int.pow_one] at g1
    have g1b : shl x.m 1 = x.m * 2 := g1
    have g2 := bits_mul_pow 1 hx
    rw [Int.pow_one] at g2
    have g3 : x.m * 2 * 2 ^ (x.e - 1 + ((2 * K : Nat) : Int)).toNat = x.m * 2 ^ (x.e + ((2 * K : Nat) : Int)).toNat := by
      rw [show (x.e + ((2 * K : Nat) : Int)).toNat = (x.e - 1 + ((2 * K : Nat) : Int)).toNat + 1 by omega, Int.pow_succ]
      grind
    rw [t1, g1b, root_univ (K := K) (by omega) (by omega) (by omega) t2 t3 (by omega), g3]
/-- a whole number with its sign, in units -/
def addU (S : Int) (K : Nat) (p : Nat) (way : Way) : Mf := Nr (if S < 0 then 1 else 0) (2 * (if S < 0 then -S else S)) (-(K : Int) - 1) p way
theorem addU_zero {K p : Nat} {way : Way} : addU 0 K p way = ⟨0, 0, 0, 0⟩ := by unfold addU; exact nr_zero
theorem addU_pos {s W e : Int} {p0 K : Nat} {way : Way} (hs : s = 0 ∨ s = 1) (hW : 0 < W) (he : 0 ≤ e + K) :
    Nr s W e (p0 + 1) way = addU ((if s = 0 then W else -W) * 2 ^ (e + K).toNat) K (p0 + 1) way := by
  have hp : 0 < W * 2 ^ (e + K).toNat := Int.mul_pos hW (kbt_pos _)
  rw [nr_unit (K := K) hW he]
  unfold addU
  rcases hs with rfl | rfl
  · rw [if_pos rfl, if_neg (by omega), if_neg (by omega)]
  · rw [if_neg (show ¬ (1 : Int) = 0 by decide), Int.neg_mul, if_pos (by omega), if_pos (by omega), Int.neg_neg]
theorem sgC_univ {v e : Int} {p0 K : Nat} {way : Way} (he : 0 ≤ e + K) : sgC v e ((p0 : Int) + 1) way = addU (v * 2 ^ (e + K).toNat) K (p0 + 1) way := by
  unfold sgC
  rcases Int.lt_trichotomy v 0 with h | h | h
  · rw [if_neg (by omega)]
    have := addU_pos (s := 1) (W := -v) (p0 := p0) (way := way) (Or.inr rfl) (by omega) he
    rw [if_neg (by decide), Int.neg_neg] at this
    exact this
  · subst h
    rw [if_pos (by decide), Int.zero_mul, addU_zero]
    exact nr_zero
  · rw [if_pos (by omega)]
    have := addU_pos (s := 0) (p0 := p0) (way := way) (Or.inl rfl) h he
    rw [if_pos rfl] at this
    exact this
def sg (s a : Int) : Int := if s = 0 then a else -a
theorem cmb_univ {ss ts c U V d1 d2 e : Int} {p0 K : Nat} {way : Way} (hs : ss = 0 ∨ ss = 1) (ht : ts = 0 ∨ ts = 1) (hU : 0 < U) (hV : 0 < V) (he : 0 ≤ e + K)
    (h1 : ss ≠ ts → c = 0 → d2 = sg ss U + sg ts V) (h2 : ss ≠ ts → c ≠ 0 → d1 = sg ss U + sg ts V) :
    cmbC ss ts c (V + U) d1 d2 e ((p0 : Int) + 1) way = addU ((sg ss U + sg ts V) * 2 ^ (e + K).toNat) K (p0 + 1) way := by
  unfold cmbC
  by_cases h : ss = ts
  · subst h
    rw [if_pos rfl]
    have := addU_pos (s := ss) (W := V + U) (p0 := p0) (way := way) hs (by omega) he
    have e1 : sg ss U + sg ss V = if ss = 0 then V + U else -(V + U) := by unfold sg; split <;> omega
    rw [e1, ← this]
    rfl
  · rw [if_neg h]
    by_cases hc : c = 0
    · rw [if_pos hc, ← h1 h hc, sgC_univ he]
    · rw [if_neg hc, ← h2 h hc, sgC_univ he]
theorem same_between {j : Nat} {W1 W2 α : Int} (h1 : α * 2 ^ j < W1) (h2 : W1 < (α + 1) * 2 ^ j) (h3 : α * 2 ^ j < W2) (h4 : W2 < (α + 1) * 2 ^ j) : Same j W1 W2 := by
  intro k
  have hle : k ≤ α → k * 2 ^ j ≤ α * 2 ^ j := fun h => (mulp_le j).mpr h
  have hge : α + 1 ≤ k → (α + 1) * 2 ^ j ≤ k * 2 ^ j := fun h => (mulp_le j).mpr h
  rcases Int.lt_or_le α k with h | h
  · have := hge (by omega); constructor <;> omega
  · have := hle h; constructor <;> omega
theorem stk_same {a b ε : Int} {off δ j : Nat} (hε : ε = 1 ∨ ε = -1) (hb : 0 < b) (hbj : b < 2 ^ j) (hδ : δ < j) (hj : j ≤ off) : Same j (a * 2 ^ off + ε * 2 ^ δ) (a * 2 ^ off + ε * b) := by
  obtain ⟨r, rfl⟩ := Nat.exists_eq_add_of_le hj
  have e1 : a * 2 ^ (j + r) = a * 2 ^ r * 2 ^ j := by rw [Nat.add_comm, mul_pow_add]
  have hd := kbt_pos δ
  have hd2 := pw_lt hδ
  rw [e1]
  generalize a * 2 ^ r = α
  have e2 : (α + 1) * 2 ^ j = α * 2 ^ j + 2 ^ j := by rw [Int.add_mul, Int.one_mul]
  have e3 : (α - 1) * 2 ^ j = α * 2 ^ j - 2 ^ j := by rw [Int.sub_mul, Int.one_mul]
  rcases hε with rfl | rfl
  · exact same_between (α := α) (by omega) (by omega) (by omega) (by omega)
  · exact same_between (α := α - 1) (by omega) (by rw [show α - 1 + 1 = α by omega]; omega) (by omega) (by rw [show α - 1 + 1 = α by omega]; omega)
/-- the sum of a number and a tiny one -/
theorem stk_univ {ss ts a b e eb xb : Int} {p0 K : Nat} {way : Way} (hs : ss = 0 ∨ ss = 1) (ht : ts = 0 ∨ ts = 1) (ha : 0 < a) (hb : 0 < b) (hxb : xb = bits a) (he : 0 ≤ eb + K) (hoff : 100 < e - eb)
    (hd : ((p0 : Int) + 1) + 4 < xb + e - bits b - eb) (hp : p0 ≤ 62) (hor : bits b ≤ 18 ∨ xb ≤ (p0 : Int) + 1) :
    stkC ss ts a e ((p0 : Int) + 1) way = addU (sg ss (a * 2 ^ (e + K).toNat) + sg ts (b * 2 ^ (eb + K).toNat)) K (p0 + 1) way := by
  obtain ⟨ab, ha1, ha2, ha3⟩ := bits_nat ha
  obtain ⟨bb, hb1, hb2, hb3⟩ := bits_nat hb
  obtain ⟨off, ho⟩ : ∃ off : Nat, e - eb = (off : Int) := ⟨(e - eb).toNat, by omega⟩
  obtain ⟨δ, hδ⟩ : ∃ δ : Nat, off = p0 + 5 + δ := ⟨off - (p0 + 5), by omega⟩
  obtain ⟨j, hj1, hj2, hj3, hj4⟩ : ∃ j : Nat, bb + 1 ≤ j ∧ δ < j ∧ j ≤ off ∧ p0 + 1 + j + 1 ≤ off + ab := by
    rcases hor with h | h
    · exact ⟨δ + 1, by omega, by omega, by omega, by omega⟩
    · exact ⟨off + ab - (p0 + 2), by omega, by omega, by omega, by omega⟩
  have hbj : b < 2 ^ j := Int.lt_of_lt_of_le hb3 (pw_le hj1)
  have key : ∀ ε : Int, ε = 1 ∨ ε = -1 → Nr ss (a * 2 ^ (p0 + 5) + ε) (e - ((p0 : Int) + 5)) (p0 + 1) way = addU ((if ss = 0 then a * 2 ^ off + ε * b else -(a * 2 ^ off + ε * b)) * 2 ^ (eb + K).toNat) K (p0 + 1) way := by
    intro ε hε
    have hsame := stk_same (a := a) hε hb hbj hj2 hj3
    have g1 : (2 : Int) ^ ab * 2 ^ off ≤ a * 2 ^ off := (mulp_le off).mpr ha2
    rw [← Int.pow_add] at g1
    have g2 := pw_le (show p0 + 1 + j + 1 ≤ ab + off by omega)
    have g2b := pw_le (show j ≤ p0 + 1 + j by omega)
    have hd2 := pw_lt hj2
    have hd3 := kbt_pos δ
    have hj0 := kbt_pos j
    rw [Int.pow_succ] at g2
    have hbig : 2 ^ (p0 + 1 + j) ≤ a * 2 ^ off + ε * 2 ^ δ := by rcases hε with rfl | rfl <;> omega
    have e1 : a * 2 ^ off + ε * 2 ^ δ = (a * 2 ^ (p0 + 5) + ε) * 2 ^ δ := by rw [hδ, mul_pow_add, Int.add_mul]
    have hpos : 0 < a * 2 ^ (p0 + 5) + ε := by
      have := pw_le (show 1 ≤ p0 + 5 by omega)
      have h2 : (2 : Int) ^ (p0 + 5) * 1 ≤ 2 ^ (p0 + 5) * a := Int.mul_le_mul_of_nonneg_left (by omega) (Int.le_of_lt (kbt_pos _))
      rw [Int.mul_comm a]
      rw [Int.pow_one] at this
      rcases hε with rfl | rfl <;> omega
    have hpos2 : 0 < a * 2 ^ off + ε * b := by rcases hε with rfl | rfl <;> omega
    have e2 := nr_shift (s := ss) (e := eb) (p0 := p0) (way := way) δ hpos
    rw [← e1] at e2
    have e3 : eb + (δ : Int) = e - ((p0 : Int) + 5) := by omega
    rw [e3] at e2
    rw [← e2, nr_same hsame hbig, addU_pos hs hpos2 he]
  unfold stkC
  have e5 : ((p0 : Int) + 1 + 4) = ((p0 + 5 : Nat) : Int) := by omega
  rw [e5, shl_nat]
  have e6 : e - ((p0 + 5 : Nat) : Int) = e - ((p0 : Int) + 5) := by omega
  rw [e6]
  have e7 : a * 2 ^ (e + K).toNat = a * 2 ^ off * 2 ^ (eb + K).toNat := by rw [← mul_pow_add]; congr 2; omega
  rw [e7]
  generalize a * 2 ^ off = A at key ⊢
  by_cases h : ts = ss
  · subst h
    rw [if_pos rfl]
    refine (key 1 (Or.inl rfl)).trans ?_
    rw [Int.one_mul]
    congr 1
    unfold sg
    split
    · rw [Int.add_mul]
    · rw [Int.neg_mul, Int.add_mul]; omega
  · rw [if_neg h]
    refine (key (-1) (Or.inr rfl)).trans ?_
    rw [Int.neg_mul, Int.one_mul]
    congr 1
    unfold sg
    split
    · rw [if_neg (by omega), Int.add_mul, Int.neg_mul]
    · rw [if_pos (by omega), Int.neg_mul, Int.add_mul, Int.neg_mul]; omega
end Mine

namespace Mine
open PySem.Challenge (rw_aa5009_01)
theorem sg_mul (s a b : Int) : sg s (a * b) = sg s a * b := by unfold sg; split; rfl; rw [Int.neg_mul]
theorem add_univ {x y : Mf} {ts : Int} {p0 K : Nat} {way : Way} (hs : x.s = 0 ∨ x.s = 1) (ht : ts = 0 ∨ ts = 1) (hx : 0 ≤ x.m) (hy : 0 ≤ y.m) (hxb : x.b = bits x.m) (hyb : y.b = bits y.m)
    (hxe : 0 ≤ x.e + K) (hye : 0 ≤ y.e + K) (hp : p0 ≤ 62) (h1 : y.b ≤ 18 ∨ x.b ≤ (p0 : Int) + 1) (h2 : x.b ≤ 18 ∨ y.b ≤ (p0 : Int) + 1) :
    addC x y ts ((p0 : Int) + 1) way = addU (sg x.s (x.m * 2 ^ (x.e + K).toNat) + sg ts (y.m * 2 ^ (y.e + K).toNat)) K (p0 + 1) way := by
  have sg0 : ∀ s : Int, sg s 0 = 0 := fun s => by unfold sg; split <;> rfl
  unfold addC
  by_cases x0 : x.m = 0
  · rw [if_pos x0, x0, Int.zero_mul, sg0, Int.zero_add]
    by_cases y0 : y.m = 0
    · rw [y0, Int.zero_mul, sg0, addU_zero]; unfold normC; rw [if_pos rfl]
    · have := addU_pos (s := ts) (p0 := p0) (way := way) ht (show 0 < y.m by omega) hye
      rw [hyb, sg_mul]; exact this
  · rw [if_neg x0]
    by_cases y0 : y.m = 0
    · rw [if_pos y0, y0, Int.zero_mul, sg0, Int.add_zero]
      have := addU_pos (s := x.s) (p0 := p0) (way := way) hs (show 0 < x.m by omega) hxe
      rw [hxb, sg_mul]; exact this
    · rw [if_neg y0]
      have hx' : 0 < x.m := by omega
      have hy' : 0 < y.m := by omega
      by_cases c0 : x.e - y.e = 0
      · rw [if_pos c0, cmb_univ (K := K) hs ht hx' hy' hye (fun a b => by unfold sg; rw [if_pos b, if_neg (by omega)]; omega) (fun a b => by unfold sg; rw [if_neg b, if_pos (by omega)]; omega)]
        rw [show x.e = y.e by omega, sg_mul, sg_mul, Int.add_mul]
      · rw [if_neg c0]
        by_cases c1 : 0 < x.e - y.e
        · rw [if_pos c1]
          by_cases c2 : 100 < x.e - y.e ∧ (p0 : Int) + 1 + 4 < x.b + x.e - y.b - y.e
          · rw [if_pos c2]
            exact stk_univ hs ht hx' hy' hxb hye c2.1 (by rw [← hyb]; exact c2.2) hp (by rw [← hyb]; exact h1)
          · rw [if_neg c2]
            obtain ⟨off, ho⟩ : ∃ off : Nat, x.e - y.e = (off : Int) := ⟨(x.e - y.e).toNat, by omega⟩
            have hX : 0 < x.m * 2 ^ off := Int.mul_pos hx' (kbt_pos _)
            have e7 : x.m * 2 ^ (x.e + K).toNat = x.m * 2 ^ off * 2 ^ (y.e + K).toNat := by rw [← mul_pow_add]; congr 2; omega
            rw [ho, shl_nat, cmb_univ (K := K) hs ht hX hy' hye (fun a b => by unfold sg; rw [if_pos b, if_neg (by omega)]; omega) (fun a b => by unfold sg; rw [if_neg b, if_pos (by omega)]; omega)]
            rw [e7, sg_mul ts, sg_mul x.s (x.m * 2 ^ off), Int.add_mul]
        · rw [if_neg c1]
          by_cases c2 : x.e - y.e < -100 ∧ (p0 : Int) + 1 + 4 < y.b + y.e - x.b - x.e
          · rw [if_pos c2, Int.add_comm (sg x.s _)]
            exact stk_univ ht hs hy' hx' hyb hxe (by omega) (by rw [← hxb]; exact c2.2) hp (by rw [← hxb]; exact h2)
          · rw [if_neg c2]
            obtain ⟨off, ho⟩ : ∃ off : Nat, -(x.e - y.e) = (off : Int) := ⟨(-(x.e - y.e)).toNat, by omega⟩
            have hY : 0 < y.m * 2 ^ off := Int.mul_pos hy' (kbt_pos _)
            have e7 : y.m * 2 ^ (y.e + K).toNat = y.m * 2 ^ off * 2 ^ (x.e + K).toNat := by rw [← mul_pow_add]; congr 2; omega
            have e8 : ∀ d1 d2, cmbC x.s ts ts (x.m + y.m * 2 ^ off) d1 d2 x.e ((p0 : Int) + 1) way = cmbC ts x.s ts (x.m + y.m * 2 ^ off) d1 d2 x.e ((p0 : Int) + 1) way := fun d1 d2 => by
              unfold cmbC
              by_cases h : x.s = ts
              · rw [h]
              · rw [if_neg h, if_neg (show ¬ ts = x.s from fun g => h g.symm)]
            rw [ho, shl_nat, e8, cmb_univ (K := K) ht hs hY hx' hxe (fun a b => by unfold sg; rw [if_pos b, if_neg (by omega)]; omega) (fun a b => by unfold sg; rw [if_neg b, if_pos (by omega)]; omega)]
            rw [e7, sg_mul x.s, sg_mul ts (y.m * 2 ^ off), Int.add_mul, Int.add_comm]
theorem nm_mult {S : Int} {n d : Nat} (hd : 0 < d) : NM (S * 2 ^ (n + 1)) (n + d) n := by
  intro c hc
  obtain ⟨r, rfl⟩ := Nat.exists_eq_add_of_le (show 1 ≤ d by omega)
  have e1 : c * 2 ^ (n + (1 + r)) = c * 2 ^ r * 2 ^ (n + 1) := by rw [show n + (1 + r) = r + (n + 1) by omega, mul_pow_add]
  have hp := kbt_pos n
  have e2 : (2 : Int) ^ (n + 1) = 2 * 2 ^ n := by rw [Int.pow_succ]; omega
  rw [e1]
  rcases Int.lt_trichotomy S (c * 2 ^ r) with h | h | h
  · refine Or.inr (Or.inr ?_)
    have h1 : (S + 1) * 2 ^ (n + 1) ≤ c * 2 ^ r * 2 ^ (n + 1) := (mulp_le _).mpr (by omega)
    rw [Int.add_mul, Int.one_mul] at h1
    omega
  · exact Or.inl (by rw [h])
  · refine Or.inr (Or.inl ?_)
    have h1 : (c * 2 ^ r + 1) * 2 ^ (n + 1) ≤ S * 2 ^ (n + 1) := (mulp_le _).mpr (by omega)
    rw [Int.add_mul, Int.one_mul] at h1
    omega
theorem nm_sum {W α β : Int} {u v p0 d n : Nat} (hW : W = α * 2 ^ u + β * 2 ^ v) (huv : v ≤ u) (ha : α < 2 ^ (p0 + 1)) (hb1 : β < 2 ^ (p0 + 1)) (hb2 : -(2 ^ (p0 + 1)) < β)
    (h1 : 2 ^ (p0 + d + (n + 1)) ≤ W) (hd : p0 + 2 ≤ d) : NM W (n + d) n := by
  rcases Nat.lt_or_ge n v with hv | hv
  · obtain ⟨r, rfl⟩ := Nat.exists_eq_add_of_le (show n + 1 ≤ v by omega)
    obtain ⟨t, rfl⟩ := Nat.exists_eq_add_of_le huv
    have e : W = (α * 2 ^ (r + t) + β * 2 ^ r) * 2 ^ (n + 1) := by
      rw [hW, Int.add_mul, ← mul_pow_add, ← mul_pow_add]
      congr 3 <;> omega
    rw [e]
    exact nm_mult (by omega)
  · have hpv := pw_le hv
    have hpn := kbt_pos n
    have hpv0 := kbt_pos v
    have hP := kbt_pos (p0 + 1)
    have q1 : β * 2 ^ v < 2 ^ (p0 + 1) * 2 ^ n := by
      have a1 : β * 2 ^ v < 2 ^ (p0 + 1) * 2 ^ v := (mulp_lt v).mpr hb1
      have a2 : (2 : Int) ^ (p0 + 1) * 2 ^ v ≤ 2 ^ (p0 + 1) * 2 ^ n := Int.mul_le_mul_of_nonneg_left hpv (Int.le_of_lt hP)
      omega
    have q2 : -(2 ^ (p0 + 1) * 2 ^ n) < β * 2 ^ v := by
      have a1 : -(2 ^ (p0 + 1)) * 2 ^ v < β * 2 ^ v := (mulp_lt v).mpr hb2
      have a2 : (2 : Int) ^ (p0 + 1) * 2 ^ v ≤ 2 ^ (p0 + 1) * 2 ^ n := Int.mul_le_mul_of_nonneg_left hpv (Int.le_of_lt hP)
      rw [Int.neg_mul] at a1
      omega
    have q3 : (2 : Int) ^ (p0 + 1) * 2 ^ n = 2 ^ (p0 + 1 + n) := (Int.pow_add 2 (p0 + 1) n).symm
    rw [q3] at q1 q2
    obtain ⟨d', rfl⟩ := Nat.exists_eq_add_of_le hd
    have s1 : (2 : Int) ^ (p0 + (p0 + 2 + d') + (n + 1)) = 2 ^ (p0 + (p0 + 2 + d') + n) * 2 := by rw [← Nat.add_assoc, Int.pow_succ]
    have s2 := pw_le (show p0 + 1 + n ≤ p0 + (p0 + 2 + d') + n by omega)
    have hua : u + 1 > p0 + 2 + d' + n := by
      rcases Nat.lt_or_ge (p0 + 2 + d' + n) (u + 1) with h | h
      · exact h
      · exfalso
        have h5 : α * 2 ^ u < 2 ^ (p0 + 1) * 2 ^ u := (mulp_lt u).mpr ha
        rw [← Int.pow_add] at h5
        have h6 := pw_le (show p0 + 1 + u ≤ p0 + (p0 + 2 + d') + n by omega)
        omega
    have hu2 : u ≠ n + (p0 + 2 + d') := by
      intro hu
      have h5 : α * 2 ^ u ≤ (2 ^ (p0 + 1) - 1) * 2 ^ u := (mulp_le u).mpr (by omega)
      rw [Int.sub_mul, ← Int.pow_add, Int.one_mul] at h5
      have h6 : p0 + 1 + u = p0 + (p0 + 2 + d') + (n + 1) := by omega
      have h7 := pw_le (show p0 + 1 + n ≤ u by omega)
      rw [h6] at h5
      omega
    obtain ⟨r, rfl⟩ := Nat.exists_eq_add_of_le (show n + (p0 + 2 + d') + 1 ≤ u by omega)
    intro c hc
    have e1 : α * 2 ^ (n + (p0 + 2 + d') + 1 + r) = 2 * (α * 2 ^ r) * 2 ^ (n + (p0 + 2 + d')) := by
      rw [show n + (p0 + 2 + d') + 1 + r = r + 1 + (n + (p0 + 2 + d')) by omega, mul_pow_add, Int.pow_succ, ← Int.mul_assoc, Int.mul_comm 2]
    rw [e1] at hW
    generalize α * 2 ^ r = A at *
    have s3 : (2 : Int) ^ (p0 + 1 + n + 1) ≤ 2 ^ (n + (p0 + 2 + d')) := pw_le (by omega)
    have s4 : (2 : Int) ^ (n + 1) ≤ 2 ^ (p0 + 1 + n) := pw_le (by omega)
    rw [Int.pow_succ] at s3 s4
    rcases Int.lt_or_le (2 * A) c with h | h
    · refine Or.inr (Or.inr ?_)
      have h5 : (2 * A + 1) * 2 ^ (n + (p0 + 2 + d')) ≤ c * 2 ^ (n + (p0 + 2 + d')) := (mulp_le _).mpr (by omega)
      rw [Int.add_mul, Int.one_mul] at h5
      omega
    · refine Or.inr (Or.inl ?_)
      have h5 : (c + 1) * 2 ^ (n + (p0 + 2 + d')) ≤ 2 * A * 2 ^ (n + (p0 + 2 + d')) := (mulp_le _).mpr (by omega)
      rw [Int.add_mul, Int.one_mul] at h5
      omega
theorem nm_div {W a D : Int} {E p0 d n : Nat} (hD : 0 < D) (ha : a < 2 ^ (p0 + 1)) (hDb : D < 2 ^ (p0 + 1)) (hs : St W (a * 2 ^ E) D) (h1 : 2 ^ (p0 + d + (n + 1 + 1)) ≤ W) (hd : p0 + 1 ≤ d) :
    NM W (n + 1 + d) (n + 1) := by
  have hE : d + n < E := by
    rw [← Nat.add_assoc, Int.pow_succ, Int.mul_comm] at h1
    have h2 := (hs _).1.mpr h1
    have h3 : (2 : Int) ^ (p0 + d + (n + 1)) * 1 ≤ 2 ^ (p0 + d + (n + 1)) * D := Int.mul_le_mul_of_nonneg_left (by omega) (Int.le_of_lt (kbt_pos _))
    have h4 : a * 2 ^ E < 2 ^ (p0 + 1) * 2 ^ E := (mulp_lt E).mpr ha
    rw [← Int.pow_add] at h4
    have h5 := pw_lt_inv (show (2 : Int) ^ (p0 + d + (n + 1)) < 2 ^ (p0 + 1 + E) by omega)
    omega
  obtain ⟨r, rfl⟩ := Nat.exists_eq_add_of_le (show n + d ≤ E by omega)
  have eN : a * 2 ^ (n + d + r) = a * 2 ^ r * 2 ^ (n + d) := by rw [show n + d + r = r + (n + d) by omega, mul_pow_add]
  rw [eN] at hs
  generalize a * 2 ^ r = ν at hs
  intro c hc
  have eM : c * 2 ^ (n + 1 + d) = 2 * (c * 2 ^ (n + d)) := by rw [show n + 1 + d = n + d + 1 by omega, Int.pow_succ, ← Int.mul_assoc, Int.mul_comm]
  have eT : (2 : Int) ^ (n + 1) = 2 * 2 ^ n := by rw [Int.pow_succ, Int.mul_comm]
  have hn := kbt_pos n
  have eμ : c * 2 ^ (n + d) * D = c * D * 2 ^ (n + d) := by grind
  have tiny : (2 : Int) ^ n * D < 2 ^ (n + d) := by
    have g1 : (2 : Int) ^ n * D < 2 ^ n * 2 ^ (p0 + 1) := Int.mul_lt_mul_of_pos_left hDb hn
    rw [← Int.pow_add] at g1
    have := pw_le (show n + (p0 + 1) ≤ n + d by omega)
    omega
  rw [eM, eT]
  rcases Int.lt_trichotomy ν (c * D) with h | h | h
  · refine Or.inr (Or.inr ?_)
    have h5 : (ν + 1) * 2 ^ (n + d) ≤ c * D * 2 ^ (n + d) := (mulp_le _).mpr (by omega)
    rw [Int.add_mul, Int.one_mul] at h5
    have h6 := (hs (c * 2 ^ (n + d) - 2 ^ n)).1
    rw [Int.sub_mul, eμ] at h6
    omega
  · refine Or.inl ?_
    have h6 := hs (c * 2 ^ (n + d))
    rw [eμ, h] at h6
    omega
  · refine Or.inr (Or.inl ?_)
    have h5 : (c * D + 1) * 2 ^ (n + d) ≤ ν * 2 ^ (n + d) := (mulp_le _).mpr (by omega)
    rw [Int.add_mul, Int.one_mul] at h5
    have h6 := (hs (c * 2 ^ (n + d) + 2 ^ n)).2
    rw [Int.add_mul, eμ] at h6
    omega
theorem nm_sqrt {W a : Int} {E p0 d n : Nat} (ha : a < 2 ^ (p0 + 1)) (hs : St2 W (a * 2 ^ E)) (h1 : 2 ^ (p0 + d + (n + 1 + 1)) ≤ W) (h2 : W < 2 ^ (p0 + d + 1 + (n + 1 + 1))) (hd : p0 + 3 ≤ d) :
    NM W (n + 1 + d) (n + 1) := by
  have hb0 := kbt_pos (p0 + d + (n + 1))
  have e0 : (2 : Int) ^ (p0 + d + (n + 1 + 1)) = 2 * 2 ^ (p0 + d + (n + 1)) := by rw [← Nat.add_assoc, Int.pow_succ, Int.mul_comm]
  have e00 : (2 : Int) ^ (p0 + d + 1 + (n + 1 + 1)) = 2 * 2 ^ (p0 + d + (n + 1 + 1)) := by rw [show p0 + d + 1 + (n + 1 + 1) = p0 + d + (n + 1 + 1) + 1 by omega, Int.pow_succ, Int.mul_comm]
  have hE : 2 * (n + d) ≤ E := by
    rw [e0] at h1
    have h3 := (hs _ (Int.le_of_lt hb0)).1.mpr h1
    have h4 : a * 2 ^ E < 2 ^ (p0 + 1) * 2 ^ E := (mulp_lt E).mpr ha
    rw [← Int.pow_add] at h3 h4
    have h5 := pw_lt_inv (show (2 : Int) ^ (p0 + d + (n + 1) + (p0 + d + (n + 1))) < 2 ^ (p0 + 1 + E) by omega)
    omega
  have hNb : a * 2 ^ E < 2 ^ (p0 + d + (n + 1 + 1)) * 2 ^ (p0 + d + (n + 1 + 1)) := by
    have := (hs (2 ^ (p0 + d + (n + 1 + 1))) (Int.le_of_lt (kbt_pos _))).1
    omega
  obtain ⟨r, rfl⟩ := Nat.exists_eq_add_of_le hE
  have eN : a * 2 ^ (2 * (n + d) + r) = a * 2 ^ r * (2 ^ (n + d) * 2 ^ (n + d)) := by rw [show 2 * (n + d) + r = r + (n + d) + (n + d) by omega, mul_pow_add, mul_pow_add]; grind
  rw [eN] at hs hNb
  generalize a * 2 ^ r = ν at hs hNb
  have e1 : (2 : Int) ^ (p0 + d + (n + 1 + 1)) = 2 ^ (p0 + 2) * 2 ^ (n + d) := by rw [← Int.pow_add]; congr 1; omega
  rw [e1] at h1 hNb
  have e2 : (2 : Int) ^ (p0 + 3) = 2 * 2 ^ (p0 + 2) := by rw [Int.pow_succ 2 (p0 + 2), Int.mul_comm]
  have tiny : (2 : Int) ^ n * 2 ^ (p0 + 3) ≤ 2 ^ (n + d) := by
    rw [← Int.pow_add]; exact pw_le (by omega)
  rw [e2] at tiny
  have hn := kbt_pos n
  have hH := kbt_pos (n + d)
  have hP : (4 : Int) ≤ 2 ^ (p0 + 2) := by
    have := pw_le (show 2 ≤ p0 + 2 by omega)
    have e : (2 : Int) ^ 2 = 4 := by decide
    omega
  intro c hc
  have eM : c * 2 ^ (n + 1 + d) = 2 * (c * 2 ^ (n + d)) := by rw [show n + 1 + d = n + d + 1 by omega, Int.pow_succ, ← Int.mul_assoc, Int.mul_comm]
  have eT : (2 : Int) ^ (n + 1) = 2 * 2 ^ n := by rw [Int.pow_succ, Int.mul_comm]
  rw [eM, eT]
  generalize (2 : Int) ^ (n + d) = H at *
  generalize (2 : Int) ^ n = τ at *
  generalize (2 : Int) ^ (p0 + 2) = P at *
  have hHH : 0 < H * H := Int.mul_pos hH hH
  have hPH : 0 < P * H := Int.mul_pos (by omega) hH
  have hτH : 8 * τ ≤ H := by
    have : τ * (2 * 4) ≤ τ * (2 * P) := Int.mul_le_mul_of_nonneg_left (by omega) (Int.le_of_lt hn)
    omega
  have eμ : c * H * (c * H) = c * c * (H * H) := by grind
  have ePH : P * H * (P * H) = P * P * (H * H) := by grind
  rcases Int.lt_or_le c 1 with hc0 | hc0
  · refine Or.inr (Or.inl ?_)
    have : c * H ≤ -1 * H := (mpos_le hH).mpr (by omega)
    omega
  · have hcH : 1 * H ≤ c * H := (mpos_le hH).mpr hc0
    rw [ePH] at hNb
    rcases Int.lt_trichotomy ν (c * c) with h | h | h
    · refine Or.inr (Or.inr ?_)
      have h5 : (ν + 1) * (H * H) ≤ c * c * (H * H) := (mpos_le hHH).mpr (by omega)
      rw [Int.add_mul, Int.one_mul] at h5
      have h6 := (hs (c * H - τ) (by omega)).1
      have h7 : ν * (H * H) < (c * H - τ) * (c * H - τ) := by
        rcases Int.lt_or_le P c with hcP | hcP
        · have g1 : (P + 1) * H ≤ c * H := (mpos_le hH).mpr (by omega)
          rw [Int.add_mul, Int.one_mul] at g1
          have g2 := sq_le (Int.le_of_lt hPH) (show P * H ≤ c * H - τ by omega)
          omega
        · have g1 : (c * H - τ) * (c * H - τ) = c * H * (c * H) - τ * (2 * (c * H) - τ) := by grind
          have g2 : c * H ≤ P * H := (mpos_le hH).mpr hcP
          have g3 : τ * (2 * (c * H) - τ) < τ * (2 * (P * H)) := Int.mul_lt_mul_of_pos_left (by omega) hn
          have g4 : τ * (2 * (P * H)) = τ * (2 * P) * H := by grind
          have g5 : τ * (2 * P) * H ≤ H * H := (mpos_le hH).mpr tiny
          omega
      omega
    · refine Or.inl ?_
      have h6 := hs (c * H) (by omega)
      rw [eμ, h] at h6
      omega
    · refine Or.inr (Or.inl ?_)
      have h5 : (c * c + 1) * (H * H) ≤ ν * (H * H) := (mpos_le hHH).mpr (by omega)
      rw [Int.add_mul, Int.one_mul] at h5
      have h6 := (hs (c * H + τ) (by omega)).2
      have h7 : (c * H + τ) * (c * H + τ) < ν * (H * H) := by
        have hcP : c < P := by
          rcases Int.lt_or_le c P with hcP | hcP
          · exact hcP
          · exfalso
            have := sq_le (show 0 ≤ P by omega) hcP
            have := (mpos_le hHH).mpr this
            omega
        have g1 : (c * H + τ) * (c * H + τ) = c * H * (c * H) + τ * (2 * (c * H) + τ) := by grind
        have g2 : (c + 1) * H ≤ P * H := (mpos_le hH).mpr (by omega)
        rw [Int.add_mul, Int.one_mul] at g2
        have g3 : τ * (2 * (c * H) + τ) < τ * (2 * (P * H)) := Int.mul_lt_mul_of_pos_left (by omega) hn
        have g4 : τ * (2 * (P * H)) = τ * (2 * P) * H := by grind
        have g5 : τ * (2 * P) * H ≤ H * H := (mpos_le hH).mpr tiny
        omega
      omega
end Mine

namespace Mine
open PySem.Challenge (rw_aa5009_01)
theorem fme1_eq {s a e : Int} (h : 0 < a) : fme1 s a e = stpL s a e := by
  obtain ⟨k, c, rfl, hc⟩ := odd_part h
  have ht := trailing_unique (a := 2 ^ k * (2 * c + 1)) (k := k) (b := c) rfl
  have hbt : bits (2 ^ k * (2 * c + 1)) = bits (2 * c + 1) + k := by rw [Int.mul_comm]; exact bits_mul_pow k (by omega)
  have hs : shr (2 ^ k * (2 * c + 1)) k = 2 * c + 1 := by rw [shr_nat, Int.mul_ediv_cancel_left _ (Int.ne_of_gt (kbt_pos k))]
  rw [stp_odd]
  unfold fme1
  rw [if_neg (by omega), band_one, band_two]
  by_cases hk : k = 0
  · subst hk
    rw [Int.pow_zero, Int.one_mul] at *
    rw [if_neg (by omega)]
    simp
  · obtain ⟨j, rfl⟩ := Nat.exists_eq_succ_of_ne_zero hk
    have e0 : 2 ^ (j + 1) * (2 * c + 1) = 2 * (2 ^ j * (2 * c + 1)) := by rw [Int.pow_succ, Int.mul_comm (2 ^ j) 2, Int.mul_assoc]
    rw [if_pos (by rw [e0]; omega)]
    by_cases h2 : 2 ^ (j + 1) * (2 * c + 1) / 2 % 2 * 2 = 0
    · rw [if_pos h2, ht, hs, hbt]
      congr 1; omega
    · rw [if_neg h2]
      have hj : j = 0 := by
        rcases Nat.eq_zero_or_pos j with h | h
        · exact h
        · exfalso
          obtain ⟨i, rfl⟩ := Nat.exists_eq_succ_of_ne_zero (show j ≠ 0 by omega)
          have e1 : 2 ^ (i + 1) * (2 * c + 1) = 2 * (2 ^ i * (2 * c + 1)) := by rw [Int.pow_succ, Int.mul_comm (2 ^ i) 2, Int.mul_assoc]
          have e2 : 2 ^ (i + 1 + 1) * (2 * c + 1) = 2 * (2 * (2 ^ i * (2 * c + 1))) := e0.trans (by rw [show i.succ = i + 1 from rfl, e1])
          have e3 : 2 ^ (i.succ + 1) * (2 * c + 1) = 2 * (2 * (2 ^ i * (2 * c + 1))) := e2
          rw [e3] at h2
          omega
      subst hj
      have hs1 : shr (2 ^ (0 + 1) * (2 * c + 1)) 1 = 2 * c + 1 := hs
      have e5 : ((Nat.succ 0 : Nat) : Int) = 1 := rfl
      rw [hs1, hbt, e5]
      congr 1; omega
theorem num_cases (a z : Int) : (a = 0 ∧ fmeC a z = ⟨0, 0, 0, 0⟩) ∨
    ∃ (μ : Int) (k : Nat) (s : Int), a ≠ 0 ∧ 0 < μ ∧ fmeC a z = ⟨s, μ, z + k, bits μ⟩ ∧ (s = 0 ∧ 0 < a ∧ a = μ * 2 ^ k ∨ s = 1 ∧ a < 0 ∧ a = -(μ * 2 ^ k)) ∧ bits μ + k = bits a := by
  unfold fmeC
  rcases Int.lt_trichotomy a 0 with h | h | h
  · refine Or.inr ?_
    rw [if_pos h, fme1_eq (by omega)]
    obtain ⟨k, c, hk, hc⟩ := odd_part (show 0 < -a by omega)
    have hbt := bits_mul_pow k (show 0 < 2 * c + 1 by omega)
    have hb := bits_neg a
    rw [Int.mul_comm] at hbt
    refine ⟨2 * c + 1, k, 1, by omega, by omega, by rw [hk, stp_odd], Or.inr ⟨rfl, h, ?_⟩, by rw [← hb, hk]; omega⟩
    rw [Int.mul_comm]; omega
  · subst h
    refine Or.inl ⟨rfl, ?_⟩
    rw [if_neg (by decide)]
    unfold fme1
    rw [if_pos rfl]
  · refine Or.inr ?_
    rw [if_neg (by omega), fme1_eq h]
    obtain ⟨k, c, hk, hc⟩ := odd_part h
    have hbt := bits_mul_pow k (show 0 < 2 * c + 1 by omega)
    rw [Int.mul_comm] at hbt
    refine ⟨2 * c + 1, k, 0, by omega, by omega, by rw [hk, stp_odd], Or.inl ⟨rfl, h, ?_⟩, by rw [hk]; omega⟩
    rw [Int.mul_comm]; exact hk
theorem lt_pw {a : Int} {k : Nat} (h : bits a ≤ k) : a < 2 ^ k ∧ -(2 ^ k) < a := by
  have h1 := lt_of_bits a
  have h2 : (2 : Nat) ^ (bits a).toNat ≤ 2 ^ k := Nat.pow_le_pow_right (by decide) (by omega)
  have h3 : ((a.natAbs : Nat) : Int) < ((2 ^ k : Nat) : Int) := by exact_mod_cast Nat.lt_of_lt_of_le h1 h2
  rw [kbt_cast] at h3
  omega
theorem fme_wf {a z : Int} (ha : bits a ≤ 200) (h1 : -1000 ≤ z) (h2 : z ≤ 1000) : Wf (fmeC a z) := by
  rcases num_cases a z with ⟨_, h⟩ | ⟨μ, k, s, h0, hm, h, hs, hb⟩
  · rw [h]; exact Wf.zero
  · have := bits_nonneg μ
    rw [h]
    exact ⟨by dsimp only; omega, by dsimp only; omega, rfl, fun h => by dsimp only at h; omega, by dsimp only; omega, by dsimp only; omega, by dsimp only; omega⟩
/-- a rational row, whatever its size -/
theorem rgW1 {f o : Mf} {s a D z W : Int} {p0 d w : Nat} {way : Way} (hf : f = Nr s W (-((1000 : Nat) : Int) - 1) (p0 + d + 1) way) (ho : o = Nr s W (-((1000 : Nat) : Int) - 1) (p0 + 1) way)
    (hs : (s = 0 ∧ 0 < a) ∨ (s = 1 ∧ a < 0)) (hD : 0 < D) (hz : -900 ≤ z) (hSt : St W ((if a < 0 then -a else a) * 2 ^ (z + ((1000 : Nat) : Int)).toNat) D)
    (hw1 : 2 ^ w ≤ W) (hw2 : 97 ≤ w) (hw3 : W < 2 ^ 3000)
    (hn : ∀ n, way = .n → 1 ≤ n → 2 ^ (p0 + d + (n + 1)) ≤ W → W < 2 ^ (p0 + d + 1 + (n + 1)) → 0 < d ∧ NM W (n + d) n) (hq : p0 + d ≤ 90) (hq2 : 2 ≤ p0 + d)
    (ha : bits a ≤ 1000) (hDb : bits D ≤ 1000) (hz2 : z ≤ 1000) :
    RowGood ((p0 : Int) + 1) way f o (pN a z) (pD D z) (((p0 + d : Nat) : Int) + 1) 1 := by
  have := kbt_pos w
  obtain ⟨b, hb, b1, b2⟩ := bits_nat (show 0 < W by omega)
  have c1 := pw_lt_inv (Int.lt_of_le_of_lt hw1 b2)
  have c2 := pw_lt_inv (Int.lt_of_le_of_lt b1 hw3)
  obtain ⟨n, hn1⟩ := Nat.exists_eq_add_of_le (show p0 + d + 1 ≤ b by omega)
  have e1 : b = p0 + d + (n + 1) := by omega
  have e2 : b + 1 = p0 + d + 1 + (n + 1) := by omega
  rw [e1] at b1
  rw [e2] at b2
  exact rg1 (K := 1000) hf ho hs hD (by omega) hSt b1 b2 (fun h => hn n h (by omega) b1 b2) (by omega) (by omega) hq hq2 ha hDb hz2
theorem rgW2 {f o : Mf} {a z W : Int} {p0 d w : Nat} {way : Way} (hf : f = Nr 0 W (-((1000 : Nat) : Int) - 1) (p0 + d + 1) way) (ho : o = Nr 0 W (-((1000 : Nat) : Int) - 1) (p0 + 1) way)
    (ha0 : 0 < a) (hz : -900 ≤ z) (hSt : St2 W (a * 2 ^ (z + ((2 * 1000 : Nat) : Int)).toNat))
    (hw1 : 2 ^ w ≤ W) (hw2 : 97 ≤ w) (hw3 : W < 2 ^ 3000)
    (hn : ∀ n, way = .n → 1 ≤ n → 2 ^ (p0 + d + (n + 1)) ≤ W → W < 2 ^ (p0 + d + 1 + (n + 1)) → 0 < d ∧ NM W (n + d) n) (hq : p0 + d ≤ 90) (hq2 : 2 ≤ p0 + d)
    (ha : bits a ≤ 1000) (hz2 : z ≤ 1000) :
    RowGood ((p0 : Int) + 1) way f o (pN a z) (pD 1 z) (((p0 + d : Nat) : Int) + 1) 2 := by
  have := kbt_pos w
  obtain ⟨b, hb, b1, b2⟩ := bits_nat (show 0 < W by omega)
  have c1 := pw_lt_inv (Int.lt_of_le_of_lt hw1 b2)
  have c2 := pw_lt_inv (Int.lt_of_le_of_lt b1 hw3)
  obtain ⟨n, hn1⟩ := Nat.exists_eq_add_of_le (show p0 + d + 1 ≤ b by omega)
  have e1 : b = p0 + d + (n + 1) := by omega
  have e2 : b + 1 = p0 + d + 1 + (n + 1) := by omega
  rw [e1] at b1
  rw [e2] at b2
  exact rg2 (K := 1000) hf ho ha0 (by omega) hSt b1 b2 (fun h => hn n h (by omega) b1 b2) (by omega) (by omega) hq hq2 ha hz2
theorem st_one {N : Int} : St (2 * N) N 1 := fun k => ⟨by omega, by omega⟩
theorem abs_bits {a : Int} (h : a ≠ 0) : bits (if a < 0 then -a else a) = bits a ∧ 0 < (if a < 0 then -a else a) := by
  split
  · exact ⟨bits_neg a, by omega⟩
  · exact ⟨rfl, by omega⟩
theorem pow_bounds {c : Int} {t B : Nat} (h : 0 < c) (hb : bits c ≤ B) : 2 ^ t ≤ c * 2 ^ t ∧ c * 2 ^ t < 2 ^ (B + t) := by
  have h1 : 1 * (2 : Int) ^ t ≤ c * 2 ^ t := (mulp_le t).mpr (by omega)
  have h2 := (mulp_lt t).mpr (lt_pw hb).1
  rw [← Int.pow_add] at h2
  omega
end Mine

namespace Mine
open PySem.Challenge (rw_aa5009_01)
theorem num_sg {a z : Int} {K : Nat} (hz : 0 ≤ z + K) : sg (fmeC a z).s ((fmeC a z).m * 2 ^ ((fmeC a z).e + K).toNat) = a * 2 ^ (z + K).toNat := by
  rcases num_cases a z with ⟨h1, h⟩ | ⟨μ, k, s, h0, hm, h, hs, hb⟩
  · rw [h, h1]
    unfold sg
    simp
  · rw [h]
    dsimp only
    have e1 : (z + k + K).toNat = k + (z + K).toNat := by omega
    rw [e1, mul_pow_add]
    unfold sg
    rcases hs with ⟨rfl, h1, h2⟩ | ⟨rfl, h1, h2⟩
    · rw [if_pos rfl, h2]
    · rw [if_neg (by decide), h2, Int.neg_mul]
structure Hyp (p q : Int) (way : Way) (m n e g : Int) : Prop where
  p1 : 2 ≤ p
  p2 : p ≤ 18
  q1 : p + 1 ≤ q
  q2 : q ≤ 60
  bm : bits m ≤ 119
  bn : bits n ≤ 119
  n0 : n ≠ 0
  bw : way = .n → bits n ≤ p ∧ bits m ≤ p
  bo : bits m ≤ p ∨ bits n ≤ p
  e1 : -132 ≤ e
  e2 : e ≤ 151
  g1 : -132 ≤ g
  g2 : g ≤ 151
theorem Hyp.nat {p q m n e g : Int} {way : Way} (h : Hyp p q way m n e g) : ∃ p0 d : Nat, p = (p0 : Int) + 1 ∧ q = ((p0 + d : Nat) : Int) + 1 ∧ 1 ≤ p0 ∧ p0 ≤ 17 ∧ 1 ≤ d ∧ p0 + d ≤ 59 := by
  have := h.p1; have := h.p2; have := h.q1; have := h.q2
  exact ⟨(p - 1).toNat, (q - p).toNat, by omega, by omega, by omega, by omega, by omega, by omega⟩
theorem prN_1 (c z : Int) : prN c 1 z = pN c z := by rw [prN_pN, if_neg (by decide)]
theorem prD_1 (z : Int) : prD 1 z = pD 1 z := by rw [prD_pD, if_neg (by decide)]
theorem row_add {p q m n e g σ ts : Int} {way : Way} (H : Hyp p q way m n e g) (hσ : σ = 1 ∧ ts = (fmeC n g).s ∨ σ = -1 ∧ ts = 1 - (fmeC n g).s) (hq : way = .n → 2 * p + 1 ≤ q) :
    RowGood p way (addC (fmeC m e) (fmeC n g) ts q way) (addC (fmeC m e) (fmeC n g) ts p way)
      (prN (mul m (shl 1 (e - mnF e g)) + σ * mul n (shl 1 (g - mnF e g))) 1 (mnF e g)) (prD 1 (mnF e g)) q 1 := by
  obtain ⟨p0, d, rfl, rfl, g1, g2, g3, g4⟩ := H.nat
  obtain ⟨a1, a2, a3, a4, a5, a6, a7, a8, a9, a10, a11, a12, a13⟩ := H
  have lo := mnF_le e g
  generalize mnF e g = lo' at *
  have wx := fme_wf (a := m) (z := e) (by omega) (by omega) (by omega)
  have wy := fme_wf (a := n) (z := g) (by omega) (by omega) (by omega)
  have bx : (fmeC m e).b ≤ bits m ∧ (-132 ≤ (fmeC m e).e) := by
    rcases num_cases m e with ⟨_, h⟩ | ⟨μ, k, s, h0, hm, h, hs, hb⟩
    · rw [h]; have := bits_nonneg m; exact ⟨by dsimp only; omega, by dsimp only; omega⟩
    · rw [h]; exact ⟨by dsimp only; omega, by dsimp only; omega⟩
  have by' : (fmeC n g).b ≤ bits n ∧ (-132 ≤ (fmeC n g).e) := by
    rcases num_cases n g with ⟨_, h⟩ | ⟨μ, k, s, h0, hm, h, hs, hb⟩
    · rw [h]; have := bits_nonneg n; exact ⟨by dsimp only; omega, by dsimp only; omega⟩
    · rw [h]; exact ⟨by dsimp only; omega, by dsimp only; omega⟩
  have hts : ts = 0 ∨ ts = 1 := by have := wy.s; omega
  have hor1 : ∀ P : Nat, p0 ≤ P → ((fmeC n g).b ≤ 18 ∨ (fmeC m e).b ≤ (P : Int) + 1) := fun P hP => by rcases a9 with h | h <;> omega
  have hor2 : ∀ P : Nat, p0 ≤ P → ((fmeC m e).b ≤ 18 ∨ (fmeC n g).b ≤ (P : Int) + 1) := fun P hP => by rcases a9 with h | h <;> omega
  have univ : ∀ P : Nat, p0 ≤ P → P ≤ 60 → addC (fmeC m e) (fmeC n g) ts ((P : Int) + 1) way = addU ((m * shl 1 (e - lo') + σ * (n * shl 1 (g - lo'))) * 2 ^ (lo' + (1000 : Nat)).toNat) 1000 (P + 1) way := by
    intro P hP1 hP2
    rw [add_univ (K := 1000) wx.s hts wx.m wy.m wx.b wy.b (by omega) (by omega) (by omega) (hor1 P hP1) (hor2 P hP1)]
    congr 1
    rw [num_sg (by omega)]
    have e1 : sg ts ((fmeC n g).m * 2 ^ ((fmeC n g).e + (1000 : Nat)).toNat) = σ * (n * 2 ^ (g + (1000 : Nat)).toNat) := by
      rw [← num_sg (a := n) (z := g) (K := 1000) (by omega)]
      have hs := wy.s
      rcases hσ with ⟨rfl, rfl⟩ | ⟨rfl, rfl⟩
      · rw [Int.one_mul]
      · rw [Int.neg_mul, Int.one_mul]
        unfold sg
        rcases hs with h | h <;> rw [h]
        · rw [if_neg (by decide), if_pos rfl]
        · rw [if_pos (by decide), if_neg (by decide), Int.neg_neg]
    rw [e1, shl_eq, shl_eq, Int.one_mul, Int.one_mul, Int.add_mul, ← mul_pow_add, Int.mul_assoc σ, ← mul_pow_add]
    have e2 : (e - lo').toNat + (lo' + (1000 : Nat)).toNat = (e + (1000 : Nat)).toNat := by omega
    have e3 : (g - lo').toNat + (lo' + (1000 : Nat)).toNat = (g + (1000 : Nat)).toNat := by omega
    rw [e2, e3]
  rw [univ p0 (by omega) (by omega), univ (p0 + d) (by omega) (by omega), prN_1, prD_1, mul_eq, mul_eq]
  have hbs : bits (m * shl 1 (e - lo') + σ * (n * shl 1 (g - lo'))) ≤ 404 := by
    have o1 := bits_one
    have o2 := bits_shl (a := 1) (n := e - lo') (by omega)
    have o3 := bits_shl (a := 1) (n := g - lo') (by omega)
    have o4 := bits_mul_le m (shl 1 (e - lo'))
    have o5 := bits_mul_le n (shl 1 (g - lo'))
    have o6 : bits (σ * (n * shl 1 (g - lo'))) = bits (n * shl 1 (g - lo')) := by
      rcases hσ with ⟨rfl, _⟩ | ⟨rfl, _⟩
      · rw [Int.one_mul]
      · rw [Int.neg_mul, Int.one_mul, bits_neg]
    have o7 := bits_add_le (m * shl 1 (e - lo')) (σ * (n * shl 1 (g - lo')))
    omega
  have hval : (m * shl 1 (e - lo') + σ * (n * shl 1 (g - lo'))) * 2 ^ (lo' + (1000 : Nat)).toNat = m * 2 ^ (e + (1000 : Nat)).toNat + σ * (n * 2 ^ (g + (1000 : Nat)).toNat) := by
    rw [shl_eq, shl_eq, Int.one_mul, Int.one_mul, Int.add_mul, ← mul_pow_add, Int.mul_assoc σ, ← mul_pow_add]
    have e2 : (e - lo').toNat + (lo' + (1000 : Nat)).toNat = (e + (1000 : Nat)).toNat := by omega
    have e3 : (g - lo').toNat + (lo' + (1000 : Nat)).toNat = (g + (1000 : Nat)).toNat := by omega
    rw [e2, e3]
  generalize m * shl 1 (e - lo') + σ * (n * shl 1 (g - lo')) = c at *
  by_cases hc : c = 0
  · subst hc
    rw [Int.zero_mul, addU_zero, addU_zero]
    exact rg0 (by decide) (Or.inl rfl) (by omega) (by omega) (by omega) (by omega) (by omega) (by rw [bits_one]; omega)
  · have ⟨hab1, hab2⟩ := abs_bits hc
    have ⟨hb1, hb2⟩ := pow_bounds (t := (lo' + (1000 : Nat)).toNat) (B := 404) hab2 (by omega)
    have hpK := kbt_pos (lo' + (1000 : Nat)).toNat
    have hW : (if c * 2 ^ (lo' + (1000 : Nat)).toNat < 0 then -(c * 2 ^ (lo' + (1000 : Nat)).toNat) else c * 2 ^ (lo' + (1000 : Nat)).toNat) = (if c < 0 then -c else c) * 2 ^ (lo' + (1000 : Nat)).toNat := by
      by_cases h : c < 0
      · rw [if_pos h, if_pos (Int.mul_neg_of_neg_of_pos h hpK), Int.neg_mul]
      · rw [if_neg h, if_neg (by have := Int.mul_nonneg (show 0 ≤ c by omega) (Int.le_of_lt hpK); omega)]
    have hS : (if c * 2 ^ (lo' + (1000 : Nat)).toNat < 0 then (1 : Int) else 0) = if c < 0 then 1 else 0 := by
      by_cases h : c < 0
      · rw [if_pos h, if_pos (Int.mul_neg_of_neg_of_pos h hpK)]
      · rw [if_neg h, if_neg (by have := Int.mul_nonneg (show 0 ≤ c by omega) (Int.le_of_lt hpK); omega)]
    unfold addU
    rw [hW, hS]
    have hlo := pw_le (show 97 ≤ (lo' + (1000 : Nat)).toNat by omega)
    have hhi := pw_le (show 404 + (lo' + (1000 : Nat)).toNat + 1 ≤ 3000 by omega)
    rw [Int.pow_succ] at hhi
    refine rgW1 (D := 1) (w := 97) rfl rfl ?_ (by decide) (by omega) st_one (by omega) (by omega) (by omega) ?_ (by omega) (by omega) (by omega) (by rw [bits_one]; omega) (by omega)
    · by_cases h : c < 0
      · rw [if_pos h]; exact Or.inr ⟨rfl, h⟩
      · rw [if_neg h]; exact Or.inl ⟨rfl, by omega⟩
    · intro nn hway hnn hl1 hl2
      have hq' := hq hway
      have ⟨hbn, hbm⟩ := a8 hway
      refine ⟨by omega, ?_⟩
      have lm := lt_pw (a := m) (k := p0 + 1) (by omega)
      have ln := lt_pw (a := n) (k := p0 + 1) (by omega)
      have hcv : ∃ τ : Int, (τ = 1 ∨ τ = -1) ∧ 2 * ((if c < 0 then -c else c) * 2 ^ (lo' + (1000 : Nat)).toNat) = τ * m * 2 ^ ((e + (1000 : Nat)).toNat + 1) + τ * (σ * n) * 2 ^ ((g + (1000 : Nat)).toNat + 1) := by
        rw [Int.pow_succ, Int.pow_succ]
        by_cases h : c < 0
        · refine ⟨-1, Or.inr rfl, ?_⟩
          rw [if_pos h, Int.neg_mul, hval]
          grind
        · refine ⟨1, Or.inl rfl, ?_⟩
          rw [if_neg h, hval]
          grind
      obtain ⟨τ, hτ, hcv⟩ := hcv
      have hm2 : τ * m = m ∨ τ * m = -m := by rcases hτ with rfl | rfl <;> omega
      have hn2 : τ * (σ * n) = n ∨ τ * (σ * n) = -n := by
        rcases hτ with rfl | rfl <;> rcases hσ with ⟨rfl, _⟩ | ⟨rfl, _⟩ <;> omega
      rcases Nat.le_total (g + (1000 : Nat)).toNat (e + (1000 : Nat)).toNat with hh | hh
      · exact nm_sum (p0 := p0) hcv (by omega) (by omega) (by omega) (by omega) hl1 (by omega)
      · exact nm_sum (p0 := p0) (hcv.trans (Int.add_comm _ _)) (by omega) (by omega) (by omega) (by omega) hl1 (by omega)
end Mine

namespace Mine
open PySem.Challenge (rw_aa5009_01)
theorem bx00 : bxor 0 0 = 0 := by unfold bxor; decide
theorem bx01 : bxor 0 1 = 1 := by unfold bxor; decide
theorem bx10 : bxor 1 0 = 1 := by unfold bxor; decide
theorem bx11 : bxor 1 1 = 0 := by unfold bxor; decide
theorem big_le {N : Int} {t B : Nat} (hN1 : 2 ^ t ≤ N) (hN2 : N < 2 ^ B) (ht : 97 ≤ t) (hB : B ≤ 2990) : 2 ^ 97 ≤ 2 * N ∧ 2 * N < 2 ^ 3000 := by
  have hlo := pw_le ht
  have hhi := pw_le (show B + 1 ≤ 3000 by omega)
  rw [Int.pow_succ] at hhi
  exact ⟨by omega, by omega⟩
theorem row_mul {p q m n e g : Int} {way : Way} (H : Hyp p q way m n e g) (hq : way = .n → 2 * p ≤ q) :
    RowGood p way (mulC (fmeC m e) (fmeC n g) q way) (mulC (fmeC m e) (fmeC n g) p way) (prN (mul m n) 1 (e + g)) (prD 1 (e + g)) q 1 := by
  obtain ⟨p0, d, rfl, rfl, g1, g2, g3, g4⟩ := H.nat
  obtain ⟨a1, a2, a3, a4, a5, a6, a7, a8, a9, a10, a11, a12, a13⟩ := H
  rw [prN_1, prD_1, mul_eq]
  rcases num_cases m e with ⟨h0, hx⟩ | ⟨μ, k, s, h0, hm, hx, hs, hb⟩
  · rw [hx, h0, Int.zero_mul]
    have e1 : ∀ P : Int, mulC ⟨0, 0, 0, 0⟩ (fmeC n g) P way = ⟨0, 0, 0, 0⟩ := fun P => by unfold mulC; rw [mul_eq, if_pos (by dsimp only; omega)]
    rw [e1, e1]
    exact rg0 (by decide) (Or.inl rfl) (by omega) (by omega) (by omega) (by omega) (by omega) (by rw [bits_one]; omega)
  rcases num_cases n g with ⟨i0, hy⟩ | ⟨ν, l, t, i0, hn, hy, ht, hc⟩
  · exact absurd i0 a7
  rw [hx, hy]
  have hμν : 0 < μ * ν := Int.mul_pos hm hn
  have hbb := bits_mul_le m n
  have hmn0 : m * n ≠ 0 := Int.mul_ne_zero h0 i0
  have ⟨hab1, hab2⟩ := abs_bits hmn0
  have ⟨hb1, hb2⟩ := pow_bounds (t := (e + g + (1000 : Nat)).toNat) (B := 238) hab2 (by omega)
  have hpk := Int.mul_pos hm (kbt_pos k)
  have hpl := Int.mul_pos hn (kbt_pos l)
  have hpp := Int.mul_pos hpk hpl
  have hsig : (bxor s t = 0 ∧ 0 < m * n) ∨ (bxor s t = 1 ∧ m * n < 0) := by
    rcases hs with ⟨rfl, h1, h2⟩ | ⟨rfl, h1, h2⟩ <;> rcases ht with ⟨rfl, k1, k2⟩ | ⟨rfl, k1, k2⟩
    · exact Or.inl ⟨bx00, Int.mul_pos h1 k1⟩
    · exact Or.inr ⟨bx01, Int.mul_neg_of_pos_of_neg h1 k1⟩
    · exact Or.inr ⟨bx10, Int.mul_neg_of_neg_of_pos h1 k1⟩
    · exact Or.inl ⟨bx11, Int.mul_pos_of_neg_of_neg h1 k1⟩
  have habs : (if m * n < 0 then -(m * n) else m * n) = μ * ν * 2 ^ (k + l) := by
    have e3 : μ * ν * 2 ^ (k + l) = μ * 2 ^ k * (ν * 2 ^ l) := by rw [Int.pow_add]; grind
    rw [e3]
    rcases hs with ⟨rfl, h1, h2⟩ | ⟨rfl, h1, h2⟩ <;> rcases ht with ⟨rfl, k1, k2⟩ | ⟨rfl, k1, k2⟩
    · rw [if_neg (by have := Int.mul_pos h1 k1; omega), h2, k2]
    · rw [if_pos (Int.mul_neg_of_pos_of_neg h1 k1), h2, k2, Int.mul_neg, Int.neg_neg]
    · rw [if_pos (Int.mul_neg_of_neg_of_pos h1 k1), h2, k2, Int.neg_mul, Int.neg_neg]
    · rw [if_neg (by have := Int.mul_pos_of_neg_of_neg h1 k1; omega), h2, k2, Int.neg_mul_neg]
  have hval : μ * ν * 2 ^ (e + k + (g + l) + (1000 : Nat)).toNat = (if m * n < 0 then -(m * n) else m * n) * 2 ^ (e + g + (1000 : Nat)).toNat := by
    rw [habs, ← mul_pow_add]
    congr 2; omega
  have univ : ∀ P : Nat, mulC ⟨s, μ, e + k, bits μ⟩ ⟨t, ν, g + l, bits ν⟩ ((P : Int) + 1) way = Nr (bxor s t) (2 * ((if m * n < 0 then -(m * n) else m * n) * 2 ^ (e + g + (1000 : Nat)).toNat)) (-((1000 : Nat) : Int) - 1) (P + 1) way := by
    intro P
    rw [mul_univ (K := 1000) hm hn (by dsimp only; omega)]
    dsimp only
    rw [hval]
  rw [univ, univ]
  have ⟨w1, w2⟩ := big_le hb1 hb2 (by omega) (by omega)
  refine rgW1 (D := 1) (w := 97) rfl rfl hsig (by decide) (by omega) st_one w1 (by omega) w2 ?_ (by omega) (by omega) (by omega) (by rw [bits_one]; omega) (by omega)
  intro nn hway hnn hl1 hl2
  have hq' := hq hway
  have ⟨hbn, hbm⟩ := a8 hway
  refine ⟨by omega, ?_⟩
  have hlt := (lt_pw (a := (if m * n < 0 then -(m * n) else m * n)) (k := 2 * (p0 + 1)) (by omega)).1
  have e4 : ∀ c : Int, 2 * (c * 2 ^ (e + g + (1000 : Nat)).toNat) = c * 2 ^ ((e + g + (1000 : Nat)).toNat + 1) := fun c => by rw [Int.pow_succ]; grind
  rw [e4] at hl1 ⊢
  have hlt2 := (mulp_lt ((e + g + (1000 : Nat)).toNat + 1)).mpr hlt
  rw [← Int.pow_add] at hlt2
  have h5 := pw_lt_inv (Int.lt_of_le_of_lt hl1 hlt2)
  obtain ⟨r, hr⟩ := Nat.exists_eq_add_of_le (show nn + 1 ≤ (e + g + (1000 : Nat)).toNat + 1 by omega)
  rw [hr, Nat.add_comm, mul_pow_add]
  exact nm_mult (by omega)
theorem St.scale {W N D : Int} (l : Nat) (h : St W N D) : St W (N * 2 ^ l) (D * 2 ^ l) := by
  intro k
  rw [← Int.mul_assoc, mulp_le, mulp_le]
  exact h k
theorem row_div {p q m n e g : Int} {way : Way} (H : Hyp p q way m n e g) (hq : way = .n → 2 * p ≤ q) :
    RowGood p way (divC (fmeC m e) (fmeC n g) q way) (divC (fmeC m e) (fmeC n g) p way) (prN m n (e - g)) (prD n (e - g)) q 1 := by
  obtain ⟨p0, d, rfl, rfl, g1, g2, g3, g4⟩ := H.nat
  obtain ⟨a1, a2, a3, a4, a5, a6, a7, a8, a9, a10, a11, a12, a13⟩ := H
  have ⟨hn1, hn2⟩ := abs_bits a7
  rw [prN_pN, prD_pD]
  rcases num_cases m e with ⟨h0, hx⟩ | ⟨μ, k, s, h0, hm, hx, hs, hb⟩
  · rw [hx, h0]
    have e1 : ∀ P : Int, divC ⟨0, 0, 0, 0⟩ (fmeC n g) P way = ⟨0, 0, 0, 0⟩ := fun P => by unfold divC; rw [if_pos rfl]
    rw [e1, e1, show (if n < 0 then -(0 : Int) else 0) = 0 by split <;> rfl]
    exact rg0 hn2 (Or.inl rfl) (by omega) (by omega) (by omega) (by omega) (by omega) (by omega)
  rcases num_cases n g with ⟨i0, hy⟩ | ⟨ν, l, t, i0, hn, hy, ht, hc⟩
  · exact absurd i0 a7
  rw [hx, hy]
  have hpk := Int.mul_pos hm (kbt_pos k)
  have hpl := Int.mul_pos hn (kbt_pos l)
  have habsn : (if n < 0 then -n else n) = ν * 2 ^ l := by
    rcases ht with ⟨rfl, k1, k2⟩ | ⟨rfl, k1, k2⟩
    · rw [if_neg (by omega), k2]
    · rw [if_pos k1, k2, Int.neg_neg]
  have hbx0 := bits_nonneg ν
  have hbm0 := bits_nonneg μ
  have hsig : (bxor s t = 0 ∧ 0 < (if n < 0 then -m else m)) ∨ (bxor s t = 1 ∧ (if n < 0 then -m else m) < 0) := by
    rcases hs with ⟨rfl, h1, h2⟩ | ⟨rfl, h1, h2⟩ <;> rcases ht with ⟨rfl, k1, k2⟩ | ⟨rfl, k1, k2⟩
    · rw [if_neg (by omega)]; exact Or.inl ⟨bx00, h1⟩
    · rw [if_pos k1]; exact Or.inr ⟨bx01, by omega⟩
    · rw [if_neg (by omega)]; exact Or.inr ⟨bx10, h1⟩
    · rw [if_pos k1]; exact Or.inl ⟨bx11, by omega⟩
  have hbc : bits (if n < 0 then -m else m) ≤ 119 := by
    split
    · rw [bits_neg]; exact a5
    · exact a5
  have habs : (if (if n < 0 then -m else m) < 0 then -(if n < 0 then -m else m) else (if n < 0 then -m else m)) = μ * 2 ^ k := by
    rcases hs with ⟨rfl, h1, h2⟩ | ⟨rfl, h1, h2⟩ <;> rcases ht with ⟨rfl, k1, k2⟩ | ⟨rfl, k1, k2⟩
    · rw [if_neg (show ¬ n < 0 by omega), if_neg (by omega), h2]
    · rw [if_pos k1, if_pos (by omega), Int.neg_neg, h2]
    · rw [if_neg (show ¬ n < 0 by omega), if_pos h1, h2, Int.neg_neg]
    · rw [if_pos k1, if_neg (by omega), h2, Int.neg_neg]
  have hN : μ * 2 ^ k * 2 ^ (e - g + (1000 : Nat)).toNat = μ * 2 ^ (e + k - (g + l) + (1000 : Nat)).toNat * 2 ^ l := by
    rw [← mul_pow_add, ← mul_pow_add]; congr 2; omega
  have univ : ∀ P : Nat, P ≤ 60 → divC ⟨s, μ, e + k, bits μ⟩ ⟨t, ν, g + l, bits ν⟩ ((P : Int) + 1) way = Nr (bxor s t) (Wd (μ * 2 ^ (e + k - (g + l) + (1000 : Nat)).toNat) ν) (-((1000 : Nat) : Int) - 1) (P + 1) way := by
    intro P hP
    rw [div_univ (K := 1000) hm hn rfl rfl (by dsimp only; omega)]
  rw [univ _ (by omega), univ _ (by omega)]
  have hSt := wd_st (N := μ * 2 ^ (e + k - (g + l) + (1000 : Nat)).toNat) hn
  have ⟨hb1, hb2⟩ := pow_bounds (t := (e + k - (g + l) + (1000 : Nat)).toNat) (B := 119) hm (by omega)
  have hν := lt_pw (a := ν) (k := 119) (by omega)
  have hq1 : 2 ^ 97 ≤ Wd (μ * 2 ^ (e + k - (g + l) + (1000 : Nat)).toNat) ν := by
    have h1 := (hSt (2 ^ 96)).1
    have e1 : (2 : Int) ^ 96 * ν ≤ 2 ^ 96 * 2 ^ 119 := Int.mul_le_mul_of_nonneg_left (by omega) (by decide)
    rw [← Int.pow_add] at e1
    have e2 := pw_le (show 96 + 119 ≤ (e + k - (g + l) + (1000 : Nat)).toNat by omega)
    have e3 : (2 : Int) ^ 97 = 2 * 2 ^ 96 := by decide
    omega
  have hq2 : Wd (μ * 2 ^ (e + k - (g + l) + (1000 : Nat)).toNat) ν < 2 ^ 3000 := by
    have h1 := (hSt (2 ^ 2999)).2
    have e1 : (2 : Int) ^ 2999 * 1 ≤ 2 ^ 2999 * ν := Int.mul_le_mul_of_nonneg_left (by omega) (Int.le_of_lt (kbt_pos _))
    have e2 := pw_lt (show 119 + (e + k - (g + l) + (1000 : Nat)).toNat < 2998 by omega)
    have e3 := pw_lt (show 2998 < 2999 by omega)
    have h2 := (hSt (2 ^ 2998)).2
    have e4 : (2 : Int) ^ 2998 * 1 ≤ 2 ^ 2998 * ν := Int.mul_le_mul_of_nonneg_left (by omega) (Int.le_of_lt (kbt_pos _))
    have e5 : (2 : Int) ^ (2998 + 1) = 2 ^ 2998 * 2 := Int.pow_succ _ _
    have e6 : (2 : Int) ^ (2999 + 1) = 2 ^ 2999 * 2 := Int.pow_succ _ _
    omega
  refine rgW1 (w := 97) rfl rfl hsig hn2 (by omega) ?_ hq1 (by omega) hq2 ?_ (by omega) (by omega) (by omega) (by omega) (by omega)
  · rw [habs, habsn, hN]
    exact hSt.scale l
  · intro nn hway hnn hl1 hl2
    have hq' := hq hway
    have ⟨hbn, hbm⟩ := a8 hway
    obtain ⟨r, hr⟩ := Nat.exists_eq_add_of_le hnn
    rw [Nat.add_comm] at hr
    subst hr
    exact ⟨by omega, nm_div (p0 := p0) hn (lt_pw (by omega)).1 (lt_pw (by omega)).1 hSt hl1 (by omega)⟩
theorem row_sqrt {p q m n e g : Int} {way : Way} (H : Hyp p q way m n e g) (hq : way = .n → 2 * p + 2 ≤ q) :
    RowGood p way (sqrtC (absC (fmeC m e)) q way) (sqrtC (absC (fmeC m e)) p way) (prN (ab m) 1 e) (prD 1 e) q 2 := by
  obtain ⟨p0, d, rfl, rfl, g1, g2, g3, g4⟩ := H.nat
  obtain ⟨a1, a2, a3, a4, a5, a6, a7, a8, a9, a10, a11, a12, a13⟩ := H
  rw [prN_1, prD_1]
  rcases num_cases m e with ⟨h0, hx⟩ | ⟨μ, k, s, h0, hm, hx, hs, hb⟩
  · rw [hx, h0]
    have e1 : ∀ P : Int, sqrtC (absC ⟨0, 0, 0, 0⟩) P way = ⟨0, 0, 0, 0⟩ := fun P => by unfold absC; rw [if_pos rfl]; unfold sqrtC; rw [if_pos rfl]
    rw [e1, e1, show ab 0 = 0 by unfold ab; rfl]
    exact rg0 (by decide) (Or.inr rfl) (by omega) (by omega) (by omega) (by omega) (by omega) (by rw [bits_one]; omega)
  rw [hx]
  have hax : absC ⟨s, μ, e + k, bits μ⟩ = ⟨0, μ, e + k, bits μ⟩ := by
    unfold absC
    rcases hs with ⟨rfl, h1, h2⟩ | ⟨rfl, h1, h2⟩
    · rw [if_pos rfl]
    · rw [if_neg (show ¬ (1 : Int) = 0 by decide)]
  rw [hax]
  have hpk := Int.mul_pos hm (kbt_pos k)
  have habs : ab m = μ * 2 ^ k := by
    unfold ab
    rcases hs with ⟨rfl, h1, h2⟩ | ⟨rfl, h1, h2⟩
    · rw [if_neg (by omega), h2]
    · rw [if_pos h1, h2, Int.neg_neg]
  have hbm0 := bits_nonneg μ
  have univ : ∀ P : Nat, P ≤ 60 → sqrtC ⟨0, μ, e + k, bits μ⟩ ((P : Int) + 1) way = Nr 0 (Wq (μ * 2 ^ (e + k + ((2 * 1000 : Nat) : Int)).toNat)) (-((1000 : Nat) : Int) - 1) (P + 1) way := by
    intro P hP
    rw [sqrt_univ (K := 1000) hm rfl (by dsimp only; omega)]
  rw [univ _ (by omega), univ _ (by omega)]
  have hN : μ * 2 ^ k * 2 ^ (e + ((2 * 1000 : Nat) : Int)).toNat = μ * 2 ^ (e + k + ((2 * 1000 : Nat) : Int)).toNat := by
    rw [← mul_pow_add]; congr 2; omega
  have hNp : 0 < μ * 2 ^ (e + k + ((2 * 1000 : Nat) : Int)).toNat := Int.mul_pos hm (kbt_pos _)
  have hSt := wq_st (Int.le_of_lt hNp)
  have ⟨hb1, hb2⟩ := pow_bounds (t := (e + k + ((2 * 1000 : Nat) : Int)).toNat) (B := 119) hm (by omega)
  have hq1 : 2 ^ 97 ≤ Wq (μ * 2 ^ (e + k + ((2 * 1000 : Nat) : Int)).toNat) := by
    have h1 := (hSt (2 ^ 96) (by decide)).1
    rw [← Int.pow_add] at h1
    have e2 := pw_le (show 96 + 96 ≤ (e + k + ((2 * 1000 : Nat) : Int)).toNat by omega)
    have e3 : (2 : Int) ^ 97 = 2 * 2 ^ 96 := by decide
    omega
  have hq2 : Wq (μ * 2 ^ (e + k + ((2 * 1000 : Nat) : Int)).toNat) < 2 ^ 3000 := by
    have h1 := (hSt (2 ^ 2998) (Int.le_of_lt (kbt_pos _))).2
    rw [← Int.pow_add] at h1
    have e2 := pw_le (show 119 + (e + k + ((2 * 1000 : Nat) : Int)).toNat ≤ 2998 + 2998 by omega)
    have e5 : (2 : Int) ^ (2998 + 1) = 2 ^ 2998 * 2 := Int.pow_succ _ _
    have e3 := pw_lt (show 2998 + 1 < 3000 by omega)
    omega
  refine rgW2 (w := 97) rfl rfl (by omega) (by omega) (by rw [habs, hN]; exact hSt) hq1 (by omega) hq2 ?_ (by omega) (by omega) (by rw [bits_ab]; omega) (by omega)
  intro nn hway hnn hl1 hl2
  have hq' := hq hway
  have ⟨hbn, hbm⟩ := a8 hway
  obtain ⟨r, hr⟩ := Nat.exists_eq_add_of_le hnn
  rw [Nat.add_comm] at hr
  subst hr
  exact ⟨by omega, nm_sqrt (p0 := p0) (lt_pw (by omega)).1 hSt hl1 hl2 (by omega)⟩
end Mine

namespace Mine
open PySem.Challenge (rw_aa5009_01)
theorem hyp_of {p mo q m n e g : Int} {way : Way} (hp1 : 2 ≤ p) (hp2 : p ≤ 18) (hR : R3 p mo way 151 151 m n e g) (hq1 : p + 1 ≤ q) (hq2 : q ≤ 60) : Hyp p q way m n e g := by
  obtain ⟨r1, r2, r3, r4, r5, r6, r7, r8, r9, r10⟩ := hR
  refine ⟨hp1, hp2, hq1, hq2, r1, r2, r3, r4, ?_, r7, r8, r9, r10⟩
  rw [fmd_eq (by decide)] at r5 r6
  omega
/-- what the table's building asks -/
theorem seg4_side {p mo m n e g q1 q2 q3 : Int} {way : Way} (hp1 : 2 ≤ p) (hp2 : p ≤ 18) (hR : R3 p mo way 151 151 m n e g)
    (h1 : p + 1 ≤ q1) (h2 : p + 1 ≤ q2) (h3 : p + 1 ≤ q3) (h4 : q1 ≤ 60) (h5 : q2 ≤ 60) (h6 : q3 ≤ 60) :
    Side (Wf (fmeC m e) ∧ Wf (fmeC n g) ∧ (fmeC n g).m ≠ 0 ∧ 1 ≤ p ∧ p ≤ 1000 ∧ 1 ≤ q1 ∧ 1 ≤ q2 ∧ 1 ≤ q3 ∧ q1 ≤ 1000 ∧ q2 ≤ 1000 ∧ q3 ≤ 1000 ∧
      bits (mul m (shl 1 (e - mnF e g))) ≤ 1000 ∧ bits (mul n (shl 1 (g - mnF e g))) ≤ 1000 ∧ bits m ≤ 119 ∧ bits n ≤ 119 ∧ -400 ≤ e ∧ e ≤ 400 ∧ -400 ≤ g ∧ g ≤ 400 ∧ -400 ≤ mnF e g ∧ mnF e g ≤ 400) := by
  obtain ⟨r1, r2, r3, r4, r5, r6, r7, r8, r9, r10⟩ := hR
  have lo := mnF_le e g
  have o1 := bits_one
  have o2 := bits_shl (a := 1) (n := e - mnF e g) (by omega)
  have o3 := bits_shl (a := 1) (n := g - mnF e g) (by omega)
  have o4 := bits_mul_le m (shl 1 (e - mnF e g))
  have o5 := bits_mul_le n (shl 1 (g - mnF e g))
  rw [mul_eq, mul_eq]
  refine Side.mk ⟨fme_wf (by omega) (by omega) (by omega), fme_wf (by omega) (by omega) (by omega), ?_, by omega, by omega, by omega, by omega, by omega, by omega, by omega, by omega, by omega, by omega, r1, r2, by omega, by omega, by omega, by omega, by omega, by omega⟩
  rcases num_cases n g with ⟨i0, hy⟩ | ⟨ν, l, t, i0, hn, hy, ht, hc⟩
  · exact absurd i0 r3
  · rw [hy]; dsimp only; omega
/-- every row is good -/
theorem rows_good {p mo m n e g q1 q2 q3 : Int} {way : Way} {led : List (Addr × Obj)} {v1 v2 v3 v4 v5 : Value} (hp1 : 2 ≤ p) (hp2 : p ≤ 18) (hR : R3 p mo way 151 151 m n e g)
    (h1 : p + 1 ≤ q1) (h2 : p + 1 ≤ q2) (h3 : p + 1 ≤ q3) (h4 : q1 ≤ 60) (h5 : q2 ≤ 60) (h6 : q3 ≤ 60) (hw : way = .n → 2 * p + 1 ≤ q1 ∧ 2 * p ≤ q2 ∧ 2 * p + 2 ≤ q3)
    (R1 : RowAt led v1 (addC (fmeC m e) (fmeC n g) (fmeC n g).s q1 way) (addC (fmeC m e) (fmeC n g) (fmeC n g).s p way) (prN (mul m (shl 1 (e - mnF e g)) + mul n (shl 1 (g - mnF e g))) 1 (mnF e g)) (prD 1 (mnF e g)) q1 1)
    (R2 : RowAt led v2 (addC (fmeC m e) (fmeC n g) (1 - (fmeC n g).s) q1 way) (addC (fmeC m e) (fmeC n g) (1 - (fmeC n g).s) p way) (prN (mul m (shl 1 (e - mnF e g)) - mul n (shl 1 (g - mnF e g))) 1 (mnF e g)) (prD 1 (mnF e g)) q1 1)
    (R3' : RowAt led v3 (mulC (fmeC m e) (fmeC n g) q2 way) (mulC (fmeC m e) (fmeC n g) p way) (prN (mul m n) 1 (e + g)) (prD 1 (e + g)) q2 1)
    (R4 : RowAt led v4 (divC (fmeC m e) (fmeC n g) q2 way) (divC (fmeC m e) (fmeC n g) p way) (prN m n (e - g)) (prD n (e - g)) q2 1)
    (R5 : RowAt led v5 (sqrtC (absC (fmeC m e)) q3 way) (sqrtC (absC (fmeC m e)) p way) (prN (ab m) 1 e) (prD 1 e) q3 2) :
    ∀ v ∈ [v1, v2, v3, v4, v5], ∃ (f o : Mf) (nn dd q pw : Int), RowAt led v f o nn dd q pw ∧ RowGood p way f o nn dd q pw := by
  have H1 := hyp_of hp1 hp2 hR h1 h4
  have H2 := hyp_of hp1 hp2 hR h2 h5
  have H3 := hyp_of hp1 hp2 hR h3 h6
  have g1 := row_add (σ := 1) H1 (Or.inl ⟨rfl, rfl⟩) (fun h => (hw h).1)
  have g2 := row_add (σ := -1) H1 (Or.inr ⟨rfl, rfl⟩) (fun h => (hw h).1)
  rw [Int.one_mul] at g1
  have e2 : mul m (shl 1 (e - mnF e g)) + -1 * mul n (shl 1 (g - mnF e g)) = mul m (shl 1 (e - mnF e g)) - mul n (shl 1 (g - mnF e g)) := by omega
  rw [e2] at g2
  intro v hv
  simp only [List.mem_cons, List.not_mem_nil, or_false] at hv
  rcases hv with rfl | rfl | rfl | rfl | rfl
  · exact ⟨_, _, _, _, _, _, R1, g1⟩
  · exact ⟨_, _, _, _, _, _, R2, g2⟩
  · exact ⟨_, _, _, _, _, _, R3', row_mul H2 (fun h => (hw h).2.1)⟩
  · exact ⟨_, _, _, _, _, _, R4, row_div H2 (fun h => (hw h).2.1)⟩
  · exact ⟨_, _, _, _, _, _, R5, row_sqrt H3 (fun h => (hw h).2.2)⟩
end Mine

namespace Mine
open PySem.Challenge (rw_aa5009_01)
structure TailGood (p j : Int) : Prop where
  wx : Wf (fmeC (shl 1 p - 1) (p + 2 + mul 2 j))
  sx : (fmeC (shl 1 p - 1) (p + 2 + mul 2 j)).s = 0
  once : sqrtC (fmeC (shl 1 p - 1) (p + 2 + mul 2 j)) p .n = ⟨0, shl 1 p - 1, 1 + j, p⟩
  fo : formOk ⟨0, shl 1 p - 1, 1 + j, p⟩ p
  w2 : Wf (sqrtC (fmeC (shl 1 p - 1) (p + 2 + mul 2 j)) (mul 2 p + 2) .n)
  e2 : normC (sqrtC (fmeC (shl 1 p - 1) (p + 2 + mul 2 j)) (mul 2 p + 2) .n).s (sqrtC (fmeC (shl 1 p - 1) (p + 2 + mul 2 j)) (mul 2 p + 2) .n).m (sqrtC (fmeC (shl 1 p - 1) (p + 2 + mul 2 j)) (mul 2 p + 2) .n).e (sqrtC (fmeC (shl 1 p - 1) (p + 2 + mul 2 j)) (mul 2 p + 2) .n).b p .n = ⟨0, shl 1 p - 1, 1 + j, p⟩
  w1 : Wf (sqrtC (fmeC (shl 1 p - 1) (p + 2 + mul 2 j)) (mul 2 p + 1) .n)
  e1 : normC (sqrtC (fmeC (shl 1 p - 1) (p + 2 + mul 2 j)) (mul 2 p + 1) .n).s (sqrtC (fmeC (shl 1 p - 1) (p + 2 + mul 2 j)) (mul 2 p + 1) .n).m (sqrtC (fmeC (shl 1 p - 1) (p + 2 + mul 2 j)) (mul 2 p + 1) .n).e (sqrtC (fmeC (shl 1 p - 1) (p + 2 + mul 2 j)) (mul 2 p + 1) .n).b p .n = ⟨0, 1, p + 1 + j, 1⟩
theorem tail_good {p j : Int} (hp1 : 2 ≤ p) (hp2 : p ≤ 18) (hj1 : -20 ≤ j) (hj2 : j ≤ 20) : TailGood p j := by
  obtain ⟨p0, rfl⟩ : ∃ p0 : Nat, p = (p0 : Int) + 1 := ⟨(p - 1).toNat, by omega⟩
  have es : shl 1 ((p0 : Int) + 1) = 2 ^ (p0 + 1) := by
    have := shl_nat 1 (p0 + 1)
    rw [Int.one_mul] at this
    exact this
  have ht4 : (4 : Int) ≤ 2 ^ (p0 + 1) := by
    have := pw_le (show 2 ≤ p0 + 1 by omega)
    exact this
  have ht2 : (2 : Int) ^ (p0 + 1) = 2 * 2 ^ p0 := by rw [Int.pow_succ, Int.mul_comm]
  have hp0 := kbt_pos p0
  have emj : mul 2 j = 2 * j := mul_eq _ _
  have emp : mul 2 ((p0 : Int) + 1) = 2 * ((p0 : Int) + 1) := mul_eq _ _
  have hbm : bits ((2 : Int) ^ (p0 + 1) - 1) = (p0 : Int) + 1 := bits_of (b := p0) (by omega) (by omega)
  have hX : fmeC ((2 : Int) ^ (p0 + 1) - 1) ((p0 : Int) + 1 + 2 + 2 * j) = ⟨0, 2 ^ (p0 + 1) - 1, (p0 : Int) + 1 + 2 + 2 * j, (p0 : Int) + 1⟩ := by
    unfold fmeC
    rw [if_neg (by omega), fme1_eq (by omega)]
    have := stp_odd (s := 0) (c := 2 ^ p0 - 1) (e := (p0 : Int) + 1 + 2 + 2 * j) (k := 0)
    rw [Int.pow_zero, Int.one_mul, show 2 * (2 ^ p0 - 1) + 1 = (2 : Int) ^ (p0 + 1) - 1 by omega, hbm] at this
    rw [this]
    congr 1
    omega
  obtain ⟨c, hc⟩ : ∃ c : Nat, 1 + j + ((1000 : Nat) : Int) = (c : Int) := ⟨(1 + j + ((1000 : Nat) : Int)).toNat, by omega⟩
  have hN : ((2 : Int) ^ (p0 + 1) - 1) * 2 ^ ((p0 : Int) + 1 + 2 + 2 * j + ((2 * 1000 : Nat) : Int)).toNat = ((2 : Int) ^ (p0 + 1) - 1) * 2 ^ (p0 + 1) * (2 ^ c * 2 ^ c) := by
    rw [show ((p0 : Int) + 1 + 2 + 2 * j + ((2 * 1000 : Nat) : Int)).toNat = p0 + 1 + (c + c) by omega, mul_pow_add, Int.pow_add 2 c c]
  have univ : ∀ P : Nat, P ≤ 60 → sqrtC (fmeC ((2 : Int) ^ (p0 + 1) - 1) ((p0 : Int) + 1 + 2 + 2 * j)) ((P : Int) + 1) .n = Nr 0 (Wq (((2 : Int) ^ (p0 + 1) - 1) * 2 ^ (p0 + 1) * (2 ^ c * 2 ^ c))) (-((1000 : Nat) : Int) - 1) (P + 1) .n := by
    intro P hP
    rw [hX, sqrt_univ (K := 1000) (by dsimp only; omega) hbm.symm (by dsimp only; omega)]
    dsimp only
    rw [hN]
  have hcp := kbt_pos c
  have hNp : 0 < ((2 : Int) ^ (p0 + 1) - 1) * 2 ^ (p0 + 1) * (2 ^ c * 2 ^ c) := Int.mul_pos (Int.mul_pos (by omega) (by omega)) (Int.mul_pos hcp hcp)
  have hSt := wq_st (Int.le_of_lt hNp)
  obtain ⟨r, hr⟩ : ∃ r : Nat, c = r + (p0 + 1) + 2 := ⟨c - (p0 + 1) - 2, by omega⟩
  have hrp := kbt_pos r
  have cmp : ∀ k : Int, 0 ≤ k → (k * k ≤ ((2 : Int) ^ (p0 + 1) - 1) * 2 ^ (p0 + 1) * (4 * 2 ^ (p0 + 1) * (4 * 2 ^ (p0 + 1))) → 2 * (k * 2 ^ r) ≤ Wq (((2 : Int) ^ (p0 + 1) - 1) * 2 ^ (p0 + 1) * (2 ^ c * 2 ^ c))) ∧
      (((2 : Int) ^ (p0 + 1) - 1) * 2 ^ (p0 + 1) * (4 * 2 ^ (p0 + 1) * (4 * 2 ^ (p0 + 1))) < k * k → Wq (((2 : Int) ^ (p0 + 1) - 1) * 2 ^ (p0 + 1) * (2 ^ c * 2 ^ c)) < 2 * (k * 2 ^ r)) ∧
      ((k * k < ((2 : Int) ^ (p0 + 1) - 1) * 2 ^ (p0 + 1) * (4 * 2 ^ (p0 + 1) * (4 * 2 ^ (p0 + 1))) → 2 * (k * 2 ^ r) < Wq (((2 : Int) ^ (p0 + 1) - 1) * 2 ^ (p0 + 1) * (2 ^ c * 2 ^ c)))) := by
    intro k hk
    have h := hSt (k * 2 ^ r) (Int.mul_nonneg hk (Int.le_of_lt hrp))
    have e1 : k * 2 ^ r * (k * 2 ^ r) = k * k * (2 ^ r * 2 ^ r) := by grind
    have e2 : (2 : Int) ^ c = 4 * 2 ^ (p0 + 1) * 2 ^ r := by
      have e4 : (2 : Int) ^ 2 = 4 := by decide
      rw [hr, Int.pow_add, Int.pow_add, e4]; grind
    have e3 : ((2 : Int) ^ (p0 + 1) - 1) * 2 ^ (p0 + 1) * (2 ^ c * 2 ^ c) = ((2 : Int) ^ (p0 + 1) - 1) * 2 ^ (p0 + 1) * (4 * 2 ^ (p0 + 1) * (4 * 2 ^ (p0 + 1))) * (2 ^ r * 2 ^ r) := by rw [e2]; grind
    rw [e1, e3] at h
    rw [e3]
    have hrr := Int.mul_pos hrp hrp
    rw [mpos_le hrr, mpos_le hrr] at h
    omega
  have e22 : (2 : Int) ^ (r + (p0 + 1) + 2) = 4 * 2 ^ (p0 + 1) * 2 ^ r := by
    have e4 : (2 : Int) ^ 2 = 4 := by decide
    rw [Int.pow_add, Int.pow_add, e4]; grind
  have e23 : (2 : Int) ^ (r + 1) = 2 * 2 ^ r := by rw [Int.pow_succ, Int.mul_comm]
  have hlow : 2 ^ (p0 + (c + 1)) ≤ Wq (((2 : Int) ^ (p0 + 1) - 1) * 2 ^ (p0 + 1) * (2 ^ c * 2 ^ c)) := by
    have h := (cmp (2 ^ p0 * (4 * 2 ^ (p0 + 1))) (Int.mul_nonneg (by omega) (by omega))).1 (by
      have e : (2 : Int) ^ p0 * (4 * 2 ^ (p0 + 1)) * (2 ^ p0 * (4 * 2 ^ (p0 + 1))) = 2 ^ p0 * 2 ^ p0 * (4 * 2 ^ (p0 + 1) * (4 * 2 ^ (p0 + 1))) := by grind
      rw [e]
      refine Int.mul_le_mul_of_nonneg_right ?_ (Int.mul_nonneg (by omega) (by omega))
      exact Int.mul_le_mul (by omega) (by omega) (by omega) (by omega))
    have e : (2 : Int) ^ (p0 + (c + 1)) = 2 * (2 ^ p0 * (4 * 2 ^ (p0 + 1)) * 2 ^ r) := by
      rw [show p0 + (c + 1) = p0 + c + 1 by omega, Int.pow_succ, Int.pow_add, hr, e22]; grind
    omega
  have hhigh : Wq (((2 : Int) ^ (p0 + 1) - 1) * 2 ^ (p0 + 1) * (2 ^ c * 2 ^ c)) < 2 ^ (p0 + 1 + (c + 1)) := by
    have h := (cmp (2 ^ (p0 + 1) * (4 * 2 ^ (p0 + 1))) (Int.mul_nonneg (by omega) (by omega))).2.1 (by
      have e : (2 : Int) ^ (p0 + 1) * (4 * 2 ^ (p0 + 1)) * (2 ^ (p0 + 1) * (4 * 2 ^ (p0 + 1))) = 2 ^ (p0 + 1) * 2 ^ (p0 + 1) * (4 * 2 ^ (p0 + 1) * (4 * 2 ^ (p0 + 1))) := by grind
      rw [e]
      refine Int.mul_lt_mul_of_pos_right ?_ (Int.mul_pos (by omega) (by omega))
      exact Int.mul_lt_mul_of_pos_right (by omega) (by omega))
    have e : (2 : Int) ^ (p0 + 1 + (c + 1)) = 2 * (2 ^ (p0 + 1) * (4 * 2 ^ (p0 + 1)) * 2 ^ r) := by
      rw [show p0 + 1 + (c + 1) = p0 + 1 + c + 1 by omega, Int.pow_succ, Int.pow_add, hr, e22]; grind
    omega
  have hce : (-((1000 : Nat) : Int) - 1 + ((c : Int) + 1)) = 1 + j := by omega
  have honce : Nr 0 (Wq (((2 : Int) ^ (p0 + 1) - 1) * 2 ^ (p0 + 1) * (2 ^ c * 2 ^ c))) (-((1000 : Nat) : Int) - 1) (p0 + 1) .n = ⟨0, 2 ^ (p0 + 1) - 1, 1 + j, (p0 : Int) + 1⟩ := by
    rw [nr_big hlow hhigh, hce]
    have hrnd : rndC 0 (Wq (((2 : Int) ^ (p0 + 1) - 1) * 2 ^ (p0 + 1) * (2 ^ c * 2 ^ c))) ((c : Int) + 1) .n = 2 ^ (p0 + 1) - 1 := by
      refine isR_iff.mpr ?_
      have h1 := (cmp ((2 * ((2 : Int) ^ (p0 + 1) - 1) - 1) * (2 * 2 ^ (p0 + 1))) (Int.mul_nonneg (by omega) (by omega))).2.2 (by
        generalize (2 : Int) ^ (p0 + 1) = t at *
        have e : (t - 1) * t * (4 * t * (4 * t)) - (2 * (t - 1) - 1) * (2 * t) * ((2 * (t - 1) - 1) * (2 * t)) = (4 * t * t) * (8 * t - 9) := by grind
        have := Int.mul_pos (show 0 < 4 * t * t from Int.mul_pos (by omega) (by omega)) (show 0 < 8 * t - 9 by omega)
        omega)
      have h2 := (cmp ((2 * ((2 : Int) ^ (p0 + 1) - 1) + 1) * (2 * 2 ^ (p0 + 1))) (Int.mul_nonneg (by omega) (by omega))).2.1 (by
        generalize (2 : Int) ^ (p0 + 1) = t at *
        have e : (2 * (t - 1) + 1) * (2 * t) * ((2 * (t - 1) + 1) * (2 * t)) - (t - 1) * t * (4 * t * (4 * t)) = 4 * t * t := by grind
        have := (show 0 < 4 * t * t from Int.mul_pos (by omega) (by omega))
        omega)
      have f : ∀ a : Int, a * 2 ^ c = 2 * (a * (2 * 2 ^ (p0 + 1)) * 2 ^ r) := fun a => by rw [hr, e22]; grind
      show IsNear _ _ _
      unfold IsNear
      rw [f (2 * ((2 : Int) ^ (p0 + 1) - 1) - 1), f (2 * ((2 : Int) ^ (p0 + 1) - 1) + 1)]
      exact ⟨by omega, by omega, fun h => by omega, fun h => by omega⟩
    rw [hrnd]
    have := stp_odd (s := 0) (c := 2 ^ p0 - 1) (e := 1 + j) (k := 0)
    rw [Int.pow_zero, Int.one_mul, show 2 * (2 ^ p0 - 1) + 1 = (2 : Int) ^ (p0 + 1) - 1 by omega, hbm] at this
    rw [this]
    congr 1
    omega
  have hsp : sqrtC (fmeC ((2 : Int) ^ (p0 + 1) - 1) ((p0 : Int) + 1 + 2 + 2 * j)) ((p0 : Int) + 1) .n = ⟨0, 2 ^ (p0 + 1) - 1, 1 + j, (p0 : Int) + 1⟩ := (univ p0 (by omega)).trans honce
  have hyp : Hyp ((p0 : Int) + 1) (2 * ((p0 : Int) + 1) + 2) .n ((2 : Int) ^ (p0 + 1) - 1) 1 ((p0 : Int) + 1 + 2 + 2 * j) 0 := by
    have := bits_one
    exact ⟨by omega, by omega, by omega, by omega, by omega, by omega, by decide, fun _ => by omega, by omega, by omega, by omega, by omega, by omega⟩
  have hrow := row_sqrt hyp (fun _ => by omega)
  have habs : absC (fmeC ((2 : Int) ^ (p0 + 1) - 1) ((p0 : Int) + 1 + 2 + 2 * j)) = fmeC ((2 : Int) ^ (p0 + 1) - 1) ((p0 : Int) + 1 + 2 + 2 * j) := by
    rw [hX]; unfold absC; rw [if_pos rfl]
  rw [habs] at hrow
  have hff := hrow.ff
  have hfo := hrow.fo
  have hee := hrow.e1
  rw [hsp] at hfo hee
  have hq1 := univ (p0 + (p0 + 2)) (by omega)
  have hq1c : ((p0 + (p0 + 2) : Nat) : Int) + 1 = 2 * ((p0 : Int) + 1) + 1 := by omega
  rw [hq1c] at hq1
  have l1 : p0 + (c + 1) = p0 + (p0 + 2) + (r + 1 + 1) := by omega
  have l2 : p0 + 1 + (c + 1) = p0 + (p0 + 2) + 1 + (r + 1 + 1) := by omega
  have hf1 : Nr 0 (Wq (((2 : Int) ^ (p0 + 1) - 1) * 2 ^ (p0 + 1) * (2 ^ c * 2 ^ c))) (-((1000 : Nat) : Int) - 1) (p0 + (p0 + 2) + 1) .n = ⟨0, 2 ^ (p0 + 2) - 1, j, (p0 : Int) + 2⟩ := by
    rw [nr_big (by rw [← l1]; exact hlow) (by rw [← l2]; exact hhigh)]
    have ht3 : (2 : Int) ^ (p0 + 2) = 2 * 2 ^ (p0 + 1) := by rw [Int.pow_succ 2 (p0 + 1), Int.mul_comm]
    have hrnd : rndC 0 (Wq (((2 : Int) ^ (p0 + 1) - 1) * 2 ^ (p0 + 1) * (2 ^ c * 2 ^ c))) (((r + 1 : Nat) : Int) + 1) .n = 2 ^ (p0 + 1) * (2 * ((2 : Int) ^ (p0 + 1) - 1) + 1) := by
      refine isR_iff.mpr ?_
      have h1 := (cmp (2 * (2 ^ (p0 + 1) * (2 * ((2 : Int) ^ (p0 + 1) - 1) + 1)) - 1) (by
        have := Int.mul_pos (show 0 < (2 : Int) ^ (p0 + 1) by omega) (show 0 < 2 * ((2 : Int) ^ (p0 + 1) - 1) + 1 by omega)
        omega)).1 (by
        generalize (2 : Int) ^ (p0 + 1) = t at *
        have e : (t - 1) * t * (4 * t * (4 * t)) - (2 * (t * (2 * (t - 1) + 1)) - 1) * (2 * (t * (2 * (t - 1) + 1)) - 1) = (4 * t) * (t - 1) - 1 := by grind
        have := Int.mul_pos (show 0 < 4 * t by omega) (show 0 < t - 1 by omega)
        omega)
      have h2 := (cmp (2 * (2 ^ (p0 + 1) * (2 * ((2 : Int) ^ (p0 + 1) - 1) + 1)) + 1) (by
        have := Int.mul_pos (show 0 < (2 : Int) ^ (p0 + 1) by omega) (show 0 < 2 * ((2 : Int) ^ (p0 + 1) - 1) + 1 by omega)
        omega)).2.1 (by
        generalize (2 : Int) ^ (p0 + 1) = t at *
        have e : (2 * (t * (2 * (t - 1) + 1)) + 1) * (2 * (t * (2 * (t - 1) + 1)) + 1) - (t - 1) * t * (4 * t * (4 * t)) = 4 * t * t + 4 * (t * (2 * (t - 1) + 1)) + 1 := by grind
        have := (show 0 < 4 * t * t from Int.mul_pos (by omega) (by omega))
        have := Int.mul_pos (show 0 < t by omega) (show 0 < 2 * (t - 1) + 1 by omega)
        omega)
      have f : ∀ a : Int, a * 2 ^ (r + 1) = 2 * (a * 2 ^ r) := fun a => by rw [e23]; grind
      have hev : (2 ^ (p0 + 1) * (2 * ((2 : Int) ^ (p0 + 1) - 1) + 1)) % 2 = (0 : Int) := by rw [ht2, Int.mul_assoc]; omega
      show IsNear _ _ _
      unfold IsNear
      rw [f, f]
      exact ⟨by omega, by omega, fun h => hev, fun h => hev⟩
    rw [hrnd, stp_odd, show 2 * ((2 : Int) ^ (p0 + 1) - 1) + 1 = 2 ^ (p0 + 2) - 1 by omega, bits_of (W := 2 ^ (p0 + 2) - 1) (b := p0 + 1) (by omega) (by rw [show p0 + 1 + 1 = p0 + 2 by omega]; omega)]
    congr 1
    omega
  refine ⟨by rw [es, emj]; exact fme_wf (by omega) (by omega) (by omega), by rw [es, emj, hX], by rw [es, emj]; exact hsp, by rw [es]; exact hfo, by rw [es, emj, emp]; exact hff.1, by rw [es, emj, emp]; exact hee, ?_, ?_⟩
  all_goals rw [es, emj, emp]
  · rw [hq1]
    exact (form_of (Or.inl rfl) (by rw [← l1]; exact hlow) (by rw [← l2]; exact hhigh) (by omega) (by omega) (by omega) (by omega)).1
  · rw [hq1, hf1]
    dsimp only
    have ht3 : (2 : Int) ^ (p0 + 2) = 2 * 2 ^ (p0 + 1) := by rw [Int.pow_succ 2 (p0 + 1), Int.mul_comm]
    have hb2 := bits_of (W := 2 ^ (p0 + 2) - 1) (b := p0 + 1) (by omega) (by rw [show p0 + 1 + 1 = p0 + 2 by omega]; omega)
    have hfin := nr_big (s := 0) (W := 2 ^ (p0 + 2) - 1) (e := j) (p0 := p0) (h := 0) (way := .n) (by rw [show p0 + (0 + 1) = p0 + 1 by omega]; omega) (by rw [show p0 + 1 + (0 + 1) = p0 + 2 by omega]; omega)
    have hrnd : rndC 0 (2 ^ (p0 + 2) - 1) (((0 : Nat) : Int) + 1) .n = 2 ^ (p0 + 1) := by
      refine isR_iff.mpr ?_
      show IsNear _ _ _
      unfold IsNear
      rw [Int.pow_zero, Int.mul_one, Int.mul_one]
      exact ⟨by omega, by omega, fun _ => by omega, fun _ => by omega⟩
    rw [hrnd, stp_one] at hfin
    unfold Nr at hfin
    rw [hb2] at hfin
    have e9 : ((p0 + 1 : Nat) : Int) + 1 = (p0 : Int) + 2 := by omega
    rw [e9] at hfin
    refine Eq.trans hfin ?_
    congr 1
    omega
end Mine

namespace Mine
open PySem.Challenge (rw_aa5009_01)
local macro_rules | `(tactic| walk_at "truthy int") => `(tactic| (with_reducible (first | refine truthy_ne (by assumption) ?_ | refine truthy_eq (by assumption) ?_ | refine truthy_imp (by assumption) (by assumption) ?_)))
local macro_rules | `(tactic| walk_at "my ifs") => `(tactic| repeat (first | (with_reducible rfl) | (refine Eq.trans ?_ (if_pos (by first | assumption | omega)).symm) | (refine Eq.trans ?_ (if_neg (by first | assumption | omega)).symm)))
local macro_rules | `(tactic| walk_at "binaryOp LShift int int") => `(tactic| ((with_reducible refine r_lshift ?_ ?_); rotate_left; (try dsimp only)))
local macro_rules | `(tactic| walk_at "inplaceOp LShift int int") => `(tactic| ((with_reducible refine r_ilshift ?_ ?_); rotate_left; (try dsimp only)))
local macro_rules | `(tactic| walk_at "binaryOp RShift int int") => `(tactic| ((with_reducible refine r_rshift ?_ ?_); rotate_left; (try dsimp only)))
local macro_rules | `(tactic| walk_at "inplaceOp RShift int int") => `(tactic| ((with_reducible refine r_irshift ?_ ?_); rotate_left; (try dsimp only)))
local macro_rules | `(tactic| walk_at "binaryOp BitAnd int int") => `(tactic| ((with_reducible refine r_and ?_); (try dsimp only)))
local macro_rules | `(tactic| walk_at "binaryOp BitXor int int") => `(tactic| ((with_reducible refine r_xor ?_); (try dsimp only)))
local macro_rules | `(tactic| walk_at "inplaceOp BitXor int int") => `(tactic| ((with_reducible refine r_ixor ?_); (try dsimp only)))
local macro_rules | `(tactic| walk_at "binaryOp Mult int int") => `(tactic| ((with_reducible refine r_mul ?_ ?_); rotate_left; (try dsimp only)))
local macro_rules | `(tactic| walk_at "binaryOp FloorDiv int int") => `(tactic| ((with_reducible refine r_fdiv ?_ ?_); rotate_left; (try dsimp only)))
local macro_rules | `(tactic| walk_at "inplaceOp FloorDiv int int") => `(tactic| ((with_reducible refine r_ifdiv ?_ ?_); rotate_left; (try dsimp only)))
local macro_rules | `(tactic| walk_at "binaryOp Mod int int") => `(tactic| ((with_reducible refine r_mod ?_ ?_); rotate_left; (try dsimp only)))
local macro_rules | `(tactic| walk_at "binaryOp Pow int int") => `(tactic| ((with_reducible refine r_pow ?_ ?_); rotate_left; (try dsimp only)))
local macro_rules | `(tactic| walk_at "call builtin:int.bit_length") => `(tactic| ((with_reducible refine r_bits ?_); (try dsimp only)))
local macro_rules | `(tactic| walk_at "eval Call Name cons nil") => `(tactic| (k_dflt (refine Call_ ?_)))
local macro_rules | `(tactic| walk_at "call ref cons nil") => `(tactic| (k_dflt (refine' trailing_spec ?k1 ?k2 ?k3 ?k4 ?k5 ?k6 ?k7 ?_; (case k1 => k_asm); (case k2 => k_asm); (case k3 => k_asm); (case k4 => k_asm); (case k5 => k_asm); (case k6 => first | exact rfl | assumption); (case k7 => first | omega | ktr_room); (intro t9 h9 tk9 F9 N9; (try dsimp only); (try k_fold)))))
local macro_rules | `(tactic| walk_at "my sub") => `(tactic| (repeat (first | exact sub_refl | refine sub_cons ?_ | refine sub_app ?_)))
local macro_rules | `(tactic| walk_at "my has") => `(tactic| (refine Has.mono (by assumption) ?_; walk_at "my sub"))
local macro_rules | `(tactic| walk_at "my end") => `(tactic| first
  | ((rename RetT _ _ _ _ _ _ _ => hR'); first
      | (refine retNew hR' ?_ (by assumption) (by assumption) (by walk_at "my sub"))
      | (refine retZero hR' ?_ (by assumption) (by assumption) (by walk_at "my sub"))
      | (refine retT hR' ?_ (by assumption) (by assumption) (by walk_at "my has") (by walk_at "my sub")))
  | ((rename RetI _ _ _ _ _ _ _ => hR'); refine retI hR' ?_ (by assumption) (News.sub (by assumption) (by walk_at "my sub")))
  | ((rename RetP _ _ _ _ _ _ _ _ => hR'); refine retP hR' ?_ ?_ (by assumption) (by assumption) (by walk_at "my sub")))
local macro_rules | `(tactic| walk_at "my enter") => `(tactic| k_dflt (refine' code_def ?k1 ?k2 ?k3 ?k4 ?k5 ?kA ?kF ?kK ?k6 ?k7 ?k8 ?k9 ?kB ?_ ?c2 ?c3 ?c4 ?c5; (case kA => exact rfl); (case kF => exact rfl); (case kK => assumption); (case k1 => k_asm); (case k2 => k_asm); (case k3 => k_asm); (case k4 => k_asm); (case k5 => k_asm); (case k6 => k_is); (case k7 => k_is); (case k8 => first | omega | ktr_room); (case k9 => first | exact BindsTo.of_eq rfl | exact binds_K (by k_in) rfl (by k_is) rfl rfl rfl); (case c5 => decide); (case kB => exact locs rfl); (case c2 => exact rfl); (case c3 => exact rfl); (case c4 => exact rfl); k_whole; intro g' L' h' FG' F' N' B' X' T'; (try dsimp only); (try k_lift B'); (try k_fold)))
local macro_rules | `(tactic| walk_at "storeName") => `(tactic| (k_dflt (refine' storeX_L ?F ?N ?_ ?a ?b; (case b => exact kind_dec (by decide +kernel)); (case F => k_asm); (case N => k_asm); (case a => rfl); k_whole; intro h' F' N'; (try k_sweep))))
local macro_rules | `(tactic| walk_at "spliced") => `(tactic| (k_dflt (first | refine spliced_more ?_ | (refine spliced_none ?_; (try dsimp only)))))
local macro_rules | `(tactic| walk_at "exec Assign") => `(tactic| ((with_reducible show wpAny _ _ (exec (Stmt.Assign [Expr.Name _ _] _ _) _) _ _ _); k_dflt (refine wpAny_Assign_Name ?_)))
local macro_rules | `(tactic| walk_at "isTrue") => `(tactic| (k_dflt (refine isTrue_plain ?_)))
local macro_rules | `(tactic| walk_at "eval Name") => `(tactic| (k_dflt (refine' nameX_K ?F ?X ?T ?e ?_ ?a ?b; (case b => exact kind_dec (by decide +kernel)); (case F => k_asm); (case X => k_asm); (case T => k_asm); (case a => rfl); (case e => k_is); k_whole)))
local macro_rules | `(tactic| walk_at "eval Name") => `(tactic| (k_dflt (refine' nameX_L ?F ?v ?_ ?a ?b; (case b => exact kind_dec (by decide +kernel)); (case F => k_asm); (case a => rfl); (case v => rfl); k_whole)))
section
variable {w : World} {dp un : Nat} {gd : Option (List Code)} {cn : Str} {cs : Scope} {a : Addr} {ccd : Value} {cl : List (Str × Addr)} {outer : List Env} {A₀ : Around} {base h₀ : Heap} {L : Addr} {m : Str → Option Value} {news : List (Addr × Obj)} {s : Shared} {Q E : Value → Shared → Prop} {p : Program} {loose : List Str} {mean : ExcName → Option Value} {mg mb : Str → Option Value}
variable (B : Below A₀ base outer h₀) (F : Fr h₀ L s.heap m) (X : (hd.heap_39 w.params).In h₀) (N : News h₀ L s.heap news) (T : Top p loose mean mg mb h₀) (hk : cs.kind = .function)
include B F X N T hk
theorem mpf_pos_n_spec (hd : dp + 4 < recursionLimit) {r : Addr} {x : Mf} {prec : Int} {t2 t3 : Tok} (hx : Has news r x) (hs : Side (Wf x ∧ 1 ≤ prec))
  (hret : RetT h₀ L m news s Q (normC x.s x.m x.e x.b prec .n)) :
  wpAny (model rw_aa5009_01.row.prog w) (ktrTop dp un gd cn cs L a ccd cl outer) (call (.ref 94) [.ref r, .int prec t2, .str (Str.ofString "n") t3]) Q E s := mpf_pos_spec (way := .n) B F X N T hk hd hx hs hret
theorem mpf_sqrt_n_spec (hd : dp + 5 < recursionLimit) {r1 : Addr} {x : Mf} {prec : Int} {t3 t4 : Tok} (hx : Has news r1 x) (hs : Side (Wf x ∧ x.s = 0 ∧ 1 ≤ prec ∧ prec ≤ 1000))
  (hret : RetT h₀ L m news s Q (sqrtC x prec .n)) :
  wpAny (model rw_aa5009_01.row.prog w) (ktrTop dp un gd cn cs L a ccd cl outer) (call (.ref 157) [.ref r1, .int prec t3, .str (Str.ofString "n") t4]) Q E s := mpf_sqrt_spec (way := .n) B F X N T hk hd hx hs hret
end
end Mine

namespace Mine
open PySem.Challenge (rw_aa5009_01)
local macro_rules | `(tactic| walk_at "truthy int") => `(tactic| (with_reducible (first | refine truthy_ne (by assumption) ?_ | refine truthy_eq (by assumption) ?_ | refine truthy_imp (by assumption) (by assumption) ?_)))
local macro_rules | `(tactic| walk_at "my ifs") => `(tactic| repeat (first | (with_reducible rfl) | (refine Eq.trans ?_ (if_pos (by first | assumption | omega)).symm) | (refine Eq.trans ?_ (if_neg (by first | assumption | omega)).symm)))
local macro_rules | `(tactic| walk_at "binaryOp LShift int int") => `(tactic| ((with_reducible refine r_lshift ?_ ?_); rotate_left; (try dsimp only)))
local macro_rules | `(tactic| walk_at "inplaceOp LShift int int") => `(tactic| ((with_reducible refine r_ilshift ?_ ?_); rotate_left; (try dsimp only)))
local macro_rules | `(tactic| walk_at "binaryOp RShift int int") => `(tactic| ((with_reducible refine r_rshift ?_ ?_); rotate_left; (try dsimp only)))
local macro_rules | `(tactic| walk_at "inplaceOp RShift int int") => `(tactic| ((with_reducible refine r_irshift ?_ ?_); rotate_left; (try dsimp only)))
local macro_rules | `(tactic| walk_at "binaryOp BitAnd int int") => `(tactic| ((with_reducible refine r_and ?_); (try dsimp only)))
local macro_rules | `(tactic| walk_at "binaryOp BitXor int int") => `(tactic| ((with_reducible refine r_xor ?_); (try dsimp only)))
local macro_rules | `(tactic| walk_at "inplaceOp BitXor int int") => `(tactic| ((with_reducible refine r_ixor ?_); (try dsimp only)))
local macro_rules | `(tactic| walk_at "binaryOp Mult int int") => `(tactic| ((with_reducible refine r_mul ?_ ?_); rotate_left; (try dsimp only)))
local macro_rules | `(tactic| walk_at "binaryOp FloorDiv int int") => `(tactic| ((with_reducible refine r_fdiv ?_ ?_); rotate_left; (try dsimp only)))
local macro_rules | `(tactic| walk_at "inplaceOp FloorDiv int int") => `(tactic| ((with_reducible refine r_ifdiv ?_ ?_); rotate_left; (try dsimp only)))
local macro_rules | `(tactic| walk_at "binaryOp Mod int int") => `(tactic| ((with_reducible refine r_mod ?_ ?_); rotate_left; (try dsimp only)))
local macro_rules | `(tactic| walk_at "binaryOp Pow int int") => `(tactic| ((with_reducible refine r_pow ?_ ?_); rotate_left; (try dsimp only)))
local macro_rules | `(tactic| walk_at "call builtin:int.bit_length") => `(tactic| ((with_reducible refine r_bits ?_); (try dsimp only)))
local macro_rules | `(tactic| walk_at "eval Call Name cons nil") => `(tactic| (k_dflt (refine Call_ ?_)))
local macro_rules | `(tactic| walk_at "call ref cons nil") => `(tactic| (k_dflt (refine' trailing_spec ?k1 ?k2 ?k3 ?k4 ?k5 ?k6 ?k7 ?_; (case k1 => k_asm); (case k2 => k_asm); (case k3 => k_asm); (case k4 => k_asm); (case k5 => k_asm); (case k6 => first | exact rfl | assumption); (case k7 => first | omega | ktr_room); (intro t9 h9 tk9 F9 N9; (try dsimp only); (try k_fold)))))
local macro_rules | `(tactic| walk_at "my sub") => `(tactic| (repeat (first | exact sub_refl | refine sub_cons ?_ | refine sub_app ?_)))
local macro_rules | `(tactic| walk_at "my has") => `(tactic| (refine Has.mono (by assumption) ?_; walk_at "my sub"))
local macro_rules | `(tactic| walk_at "my end") => `(tactic| first
  | ((rename RetT _ _ _ _ _ _ _ => hR'); first
      | (refine retNew hR' ?_ (by assumption) (by assumption) (by walk_at "my sub"))
      | (refine retZero hR' ?_ (by assumption) (by assumption) (by walk_at "my sub"))
      | (refine retT hR' ?_ (by assumption) (by assumption) (by walk_at "my has") (by walk_at "my sub")))
  | ((rename RetI _ _ _ _ _ _ _ => hR'); refine retI hR' ?_ (by assumption) (News.sub (by assumption) (by walk_at "my sub")))
  | ((rename RetP _ _ _ _ _ _ _ _ => hR'); refine retP hR' ?_ ?_ (by assumption) (by assumption) (by walk_at "my sub")))
local macro_rules | `(tactic| walk_at "my enter") => `(tactic| k_dflt (refine' code_def ?k1 ?k2 ?k3 ?k4 ?k5 ?kA ?kF ?kK ?k6 ?k7 ?k8 ?k9 ?kB ?_ ?c2 ?c3 ?c4 ?c5; (case kA => exact rfl); (case kF => exact rfl); (case kK => assumption); (case k1 => k_asm); (case k2 => k_asm); (case k3 => k_asm); (case k4 => k_asm); (case k5 => k_asm); (case k6 => k_is); (case k7 => k_is); (case k8 => first | omega | ktr_room); (case k9 => first | exact BindsTo.of_eq rfl | exact binds_K (by k_in) rfl (by k_is) rfl rfl rfl); (case c5 => decide); (case kB => exact locs rfl); (case c2 => exact rfl); (case c3 => exact rfl); (case c4 => exact rfl); k_whole; intro g' L' h' FG' F' N' B' X' T'; (try dsimp only); (try k_lift B'); (try k_fold)))
local macro_rules | `(tactic| walk_at "my units") => `(tactic| first | ((try simp only [units_deeper]); (try dsimp only [ktrTop]); omega) | decide | (exact Nat.le_of_ble_eq_true rfl) | ((try simp only [units_deeper, units_caller, cLine]); omega))
local macro_rules | `(tactic| walk_at "my reads") => `(tactic| first
  | (refine' nan_reads ?f ?x; (case f => k_asm); (case x => k_asm); done)
  | (refine' has_reads ?f ?x ?n ?s (Or.inr ⟨rfl, rfl⟩); (case f => k_asm); (case x => k_asm); (case n => k_asm); (case s => exact sub_refl); done)
  | (refine' has_reads ?f ?x ?n ?s ?h; (case h => assumption); (case f => k_asm); (case x => k_asm); (case n => k_asm); (case s => walk_at "my sub"); done)
  | (refine' readsM_of (x := ⟨_, _, _, _⟩) (News.get ?n ?m); (case n => k_asm); (case m => k_mem)))
local macro_rules | `(tactic| walk_at "compareOp Eq ref ref") => `(tactic| (k_dflt (refine' r_eq ?ra ?rb ?ru ?_; (case ra => walk_at "my reads"); (case rb => walk_at "my reads"); (case ru => walk_at "my units")); (try dsimp only)))
local macro_rules | `(tactic| walk_at "compareOp NotEq ref ref") => `(tactic| (k_dflt (refine' r_ne ?ra ?rb ?ru ?_; (case ra => walk_at "my reads"); (case rb => walk_at "my reads"); (case ru => walk_at "my units")); (try dsimp only)))
local macro_rules | `(tactic| walk_at "compareOp Eq ref ref") => `(tactic| (k_dflt (first
  | (refine' r_eq_no ?ra ?rb ?ru ?rn ?_; (case ra => walk_at "my reads"); (case rb => walk_at "my reads"); (case ru => walk_at "my units"); (case rn => assumption))
  | (refine' r_eq_yes ?ra ?rb ?ru ?rn ?rp ?_; (case ra => walk_at "my reads"); (case rb => walk_at "my reads"); (case ru => walk_at "my units"); (case rn => assumption); (case rp => first | exact True.intro | assumption)))))
local macro_rules | `(tactic| walk_at "call ref cons nil") => `(tactic| (k_dflt (refine' law_draw_spec ?k1 ?k2 ?k3 ?k4 ?k5 ?k6 ?k7 ?hl ?hi ?hn ?_ ?_; (case k1 => k_asm); (case k2 => k_asm); (case k3 => k_asm); (case k4 => k_asm); (case k5 => k_asm); (case k6 => first | exact rfl | assumption); (case k7 => first | omega | ktr_room); (case hl => assumption); (case hi => assumption); (case hn => first | assumption | omega); (rotate_left 1; intro v9 a9 b9 t9 h9 tk9 F9 N9; (try dsimp only); (try k_fold)))))
local macro_rules | `(tactic| walk_at "my mem") => `(tactic| (repeat (first | exact List.Mem.head _ | assumption | refine List.Mem.tail _ ?_ | refine List.mem_append_right _ ?_)))
local macro_rules | `(tactic| walk_at "my row") => `(tactic| (refine ⟨_, _, _, _, _, _, _, _, _, _, rfl, by walk_at "my mem", by walk_at "my has", by walk_at "my has", by walk_at "my mem"⟩))
local macro_rules | `(tactic| walk_at "compareOp NotEq ref ref") => `(tactic| (k_dflt (refine' r_ne_no ?ra ?rb ?ru ?re ?_; (case ra => walk_at "my reads"); (case rb => walk_at "my reads"); (case ru => walk_at "my units"); (case re => assumption))))
local macro_rules | `(tactic| walk_at "compareOp Eq str str") => `(tactic| (first | refine eqw false (by decide) ?_ | refine eqw true (by decide) ?_))
local macro_rules | `(tactic| walk_at "subscriptTail Name Constant ref int") => `(tactic| (k_dflt (refine' item_tupleT (News.isTup ?n ?m) ?h1 ?h2 ?hj ?hx ?_ ?hs; (case n => k_asm); (case m => walk_at "my mem"); (case h1 => decide); (case h2 => decide); (case hj => exact rfl); (case hx => exact rfl); (case hs => with_unfolding_all rfl))))
local macro_rules | `(tactic| walk_at "call ref cons nil") => `(tactic| (k_dflt (refine' from_man_exp0_spec ?k1 ?k2 ?k3 ?k4 ?k5 ?k6 ?k7 ?_ ?_; (case k1 => k_asm); (case k2 => k_asm); (case k3 => k_asm); (case k4 => k_asm); (case k5 => k_asm); (case k6 => first | exact rfl | assumption); (case k7 => first | omega | ktr_room); (rotate_left 1; intro r9 tl9 h9 tk9 F9 N9 H9; (try dsimp only); (try k_fold)))))
local macro_rules | `(tactic| walk_at "call ref cons nil") => `(tactic| (k_dflt (refine' mpf_pos_n_spec ?k1 ?k2 ?k3 ?k4 ?k5 ?k6 ?k7 ?h0 ?_ ?_; (case k1 => k_asm); (case k2 => k_asm); (case k3 => k_asm); (case k4 => k_asm); (case k5 => k_asm); (case k6 => first | exact rfl | assumption); (case k7 => first | omega | ktr_room); (case h0 => walk_at "my has"); (rotate_left 1; intro r9 tl9 h9 tk9 F9 N9 H9; (try dsimp only); (try k_fold)))))
local macro_rules | `(tactic| walk_at "call ref cons nil") => `(tactic| (k_dflt (refine' mpf_sqrt_n_spec ?k1 ?k2 ?k3 ?k4 ?k5 ?k6 ?k7 ?h0 ?_ ?_; (case k1 => k_asm); (case k2 => k_asm); (case k3 => k_asm); (case k4 => k_asm); (case k5 => k_asm); (case k6 => first | exact rfl | assumption); (case k7 => first | omega | ktr_room); (case h0 => walk_at "my has"); (rotate_left 1; intro r9 tl9 h9 tk9 F9 N9 H9; (try dsimp only); (try k_fold)))))
local macro_rules | `(tactic| walk_at "call ref cons nil") => `(tactic| (k_dflt (refine' law_form_spec ?k1 ?k2 ?k3 ?k4 ?k5 ?k6 ?k7 ?ku ?h0 ?_ ?_; (case ku => walk_at "my units"); (case k1 => k_asm); (case k2 => k_asm); (case k3 => k_asm); (case k4 => k_asm); (case k5 => k_asm); (case k6 => first | exact rfl | assumption); (case k7 => first | omega | ktr_room); (case h0 => walk_at "my has"); (rotate_left 1; intro h9 tk9 F9 N9; (try dsimp only); (try k_fold)))))
local macro_rules | `(tactic| walk_at "my steps") => `(tactic| (repeat' (first | (k_unfold; (try dsimp only)) | ((fail_if_success (with_reducible show wpAny _ _ (exec (Stmt.While _ _ _ _) _) _ _ _)); (fail_if_success (with_reducible show wpAny _ _ (exec (Stmt.For _ _ _ _ _) _) _ _ _)); first | walk1 | (dsimp only; walk1)))))
local macro_rules | `(tactic| walk_at "WhileStep2 ret") => `(tactic| (dsimp only [WhileStep2]))
local macro_rules | `(tactic| walk_at "TurnPost ret") => `(tactic| (dsimp only [TurnPost]))
local macro_rules | `(tactic| walk_at "my stepsL") => `(tactic| (repeat' (first | (k_unfold; (try dsimp only)) | ((fail_if_success (with_reducible show wpAny _ _ (exec (Stmt.While _ _ _ _) _) _ _ _)); (fail_if_success (with_reducible show wpAny _ _ (exec (Stmt.For _ _ _ _ _) _) _ _ _)); (fail_if_success (with_reducible show wpAny _ _ (exec (Stmt.If _ _ _ _) _) _ _ _)); (fail_if_success (with_reducible show wpAny _ _ (pyIter (Value.ref _)) _ _ _)); first | walk1 | (dsimp only; walk1)))))
local macro_rules | `(tactic| walk_at "storeName") => `(tactic| (k_dflt (refine' storeX_L ?F ?N ?_ ?a ?b; (case b => exact kind_dec (by decide +kernel)); (case F => k_asm); (case N => k_asm); (case a => rfl); k_whole; intro h' F' N'; (try k_sweep))))
local macro_rules | `(tactic| walk_at "spliced") => `(tactic| (k_dflt (first | refine spliced_more ?_ | (refine spliced_none ?_; (try dsimp only)))))
local macro_rules | `(tactic| walk_at "exec Assign") => `(tactic| ((with_reducible show wpAny _ _ (exec (Stmt.Assign [Expr.Name _ _] _ _) _) _ _ _); k_dflt (refine wpAny_Assign_Name ?_)))
local macro_rules | `(tactic| walk_at "isTrue") => `(tactic| (k_dflt (refine isTrue_plain ?_)))
local macro_rules | `(tactic| walk_at "eval Name") => `(tactic| (k_dflt (refine' nameX_K ?F ?X ?T ?e ?_ ?a ?b; (case b => exact kind_dec (by decide +kernel)); (case F => k_asm); (case X => k_asm); (case T => k_asm); (case a => rfl); (case e => k_is); k_whole)))
local macro_rules | `(tactic| walk_at "eval Name") => `(tactic| (k_dflt (refine' nameX_L ?F ?v ?_ ?a ?b; (case b => exact kind_dec (by decide +kernel)); (case F => k_asm); (case a => rfl); (case v => rfl); k_whole)))
/-- the tail's frame -/
def frT (ro rx : Addr) (p j : Int) (tp tj : Tok) (m0 : Str → Option Value) : Str → Option Value := fun y =>
  if y = Str.ofString "once" then some (.ref ro)
  else if y = Str.ofString "x" then some (.ref rx)
  else if y = Str.ofString "j" then some (.int j tj)
  else if y = Str.ofString "p" then some (.int p tp)
  else m0 y
section
variable {w : World} {fa : Addr} {cd : Value} {base h₀ : Heap} {L : Addr} {led : List (Addr × Obj)} {s : Shared} {E : Value → Shared → Prop} {p0 : Program} {loose : List Str} {mean : ExcName → Option Value} {mg mb : Str → Option Value} {l : Addr} {vs : List Value} {ns : List Int} {iv : Int} {ti : Tok} {m1 : Str → Option Value}
variable (B : Below callerA base [] h₀) (X : (hd.heap_39 w.params).In h₀) (N : News h₀ L s.heap led) (T : Top p0 loose mean mg mb h₀)
include B X N T
theorem tailA {m0 : Str → Option Value} (F : Fr h₀ L s.heap m0) (hsc : m0 (Str.ofString "script") = some (.ref l)) (hl : base.IsList l vs.toArray) (hi : IntsAre vs ns) (hlen : ns.length ≤ 63) :
    wpAny (model rw_aa5009_01.row.prog w) (callerA.deeper (envOf (Str.ofString "law") lawScope L fa cd)) (execs ((lawStmts.drop 1).take 4) (envOf (Str.ofString "law") lawScope L fa cd))
      (MidOk fun s' => ∃ (ro rx : Addr) (p j : Int) (tp tj : Tok) (mm : Str → Option Value) (led2 : List (Addr × Obj)) (hh : Heap) (tk : Nat), s' = { s with heap := hh, toks := tk } ∧ 2 ≤ p ∧ p ≤ 18 ∧ -20 ≤ j ∧ j ≤ 20 ∧
        Fr h₀ L hh (frT ro rx p j tp tj mm) ∧ News h₀ L hh led2 ∧ Has led2 rx (fmeC (shl 1 p - 1) (p + 2 + mul 2 j)) ∧ Has led2 ro (sqrtC (fmeC (shl 1 p - 1) (p + 2 + mul 2 j)) p .n)) E s := by
  revert X; k_fill; intro X
  have e0 : m0 = fun y => if y = Str.ofString "script" then some (.ref l) else m0 y := by
    funext y
    by_cases h : y = Str.ofString "script"
    · subst h; rw [if_pos rfl]; exact hsc
    · rw [if_neg h]
  rw [e0] at F
  dsimp only [lawStmts, lawScope, PySem.Challenge.pw_aa5009_01, List.drop, List.take]
  (try k_fold)
  walk_at "my stepsL"
  all_goals first
    | exact Side.mk trivial
    | (have o1 := bits_one
       have o2 := bits_of_lt (a := 2) (k := 3) (by decide)
       first
        | exact Side.mk (by omega)
        | exact Side.mk ⟨by omega, Int.le_trans (bits_of_lt (k := 10) (by omega)) (by decide)⟩
        | exact Side.mk ⟨(tail_good (by omega) (by omega) (by omega) (by omega)).wx, (tail_good (by omega) (by omega) (by omega) (by omega)).sx, by omega, by omega⟩)
    | ((rename Fr _ _ _ _ => F2); (rename News _ _ _ _ => N2)
       exact ⟨rfl, _, _, _, _, _, _, _, _, _, _, rfl, by omega, by omega, by omega, by omega, F2, N2, by walk_at "my has", by assumption⟩)
end
end Mine

namespace Mine
open PySem.Challenge (rw_aa5009_01)
local macro_rules | `(tactic| walk_at "truthy int") => `(tactic| (with_reducible (first | refine truthy_ne (by assumption) ?_ | refine truthy_eq (by assumption) ?_ | refine truthy_imp (by assumption) (by assumption) ?_)))
local macro_rules | `(tactic| walk_at "my ifs") => `(tactic| repeat (first | (with_reducible rfl) | (refine Eq.trans ?_ (if_pos (by first | assumption | omega)).symm) | (refine Eq.trans ?_ (if_neg (by first | assumption | omega)).symm)))
local macro_rules | `(tactic| walk_at "binaryOp LShift int int") => `(tactic| ((with_reducible refine r_lshift ?_ ?_); rotate_left; (try dsimp only)))
local macro_rules | `(tactic| walk_at "inplaceOp LShift int int") => `(tactic| ((with_reducible refine r_ilshift ?_ ?_); rotate_left; (try dsimp only)))
local macro_rules | `(tactic| walk_at "binaryOp RShift int int") => `(tactic| ((with_reducible refine r_rshift ?_ ?_); rotate_left; (try dsimp only)))
local macro_rules | `(tactic| walk_at "inplaceOp RShift int int") => `(tactic| ((with_reducible refine r_irshift ?_ ?_); rotate_left; (try dsimp only)))
local macro_rules | `(tactic| walk_at "binaryOp BitAnd int int") => `(tactic| ((with_reducible refine r_and ?_); (try dsimp only)))
local macro_rules | `(tactic| walk_at "binaryOp BitXor int int") => `(tactic| ((with_reducible refine r_xor ?_); (try dsimp only)))
local macro_rules | `(tactic| walk_at "inplaceOp BitXor int int") => `(tactic| ((with_reducible refine r_ixor ?_); (try dsimp only)))
local macro_rules | `(tactic| walk_at "binaryOp Mult int int") => `(tactic| ((with_reducible refine r_mul ?_ ?_); rotate_left; (try dsimp only)))
local macro_rules | `(tactic| walk_at "binaryOp FloorDiv int int") => `(tactic| ((with_reducible refine r_fdiv ?_ ?_); rotate_left; (try dsimp only)))
local macro_rules | `(tactic| walk_at "inplaceOp FloorDiv int int") => `(tactic| ((with_reducible refine r_ifdiv ?_ ?_); rotate_left; (try dsimp only)))
local macro_rules | `(tactic| walk_at "binaryOp Mod int int") => `(tactic| ((with_reducible refine r_mod ?_ ?_); rotate_left; (try dsimp only)))
local macro_rules | `(tactic| walk_at "binaryOp Pow int int") => `(tactic| ((with_reducible refine r_pow ?_ ?_); rotate_left; (try dsimp only)))
local macro_rules | `(tactic| walk_at "call builtin:int.bit_length") => `(tactic| ((with_reducible refine r_bits ?_); (try dsimp only)))
local macro_rules | `(tactic| walk_at "eval Call Name cons nil") => `(tactic| (k_dflt (refine Call_ ?_)))
local macro_rules | `(tactic| walk_at "call ref cons nil") => `(tactic| (k_dflt (refine' trailing_spec ?k1 ?k2 ?k3 ?k4 ?k5 ?k6 ?k7 ?_; (case k1 => k_asm); (case k2 => k_asm); (case k3 => k_asm); (case k4 => k_asm); (case k5 => k_asm); (case k6 => first | exact rfl | assumption); (case k7 => first | omega | ktr_room); (intro t9 h9 tk9 F9 N9; (try dsimp only); (try k_fold)))))
local macro_rules | `(tactic| walk_at "my sub") => `(tactic| (repeat (first | exact sub_refl | refine sub_cons ?_ | refine sub_app ?_)))
local macro_rules | `(tactic| walk_at "my has") => `(tactic| (refine Has.mono (by assumption) ?_; walk_at "my sub"))
local macro_rules | `(tactic| walk_at "my end") => `(tactic| first
  | ((rename RetT _ _ _ _ _ _ _ => hR'); first
      | (refine retNew hR' ?_ (by assumption) (by assumption) (by walk_at "my sub"))
      | (refine retZero hR' ?_ (by assumption) (by assumption) (by walk_at "my sub"))
      | (refine retT hR' ?_ (by assumption) (by assumption) (by walk_at "my has") (by walk_at "my sub")))
  | ((rename RetI _ _ _ _ _ _ _ => hR'); refine retI hR' ?_ (by assumption) (News.sub (by assumption) (by walk_at "my sub")))
  | ((rename RetP _ _ _ _ _ _ _ _ => hR'); refine retP hR' ?_ ?_ (by assumption) (by assumption) (by walk_at "my sub")))
local macro_rules | `(tactic| walk_at "my enter") => `(tactic| k_dflt (refine' code_def ?k1 ?k2 ?k3 ?k4 ?k5 ?kA ?kF ?kK ?k6 ?k7 ?k8 ?k9 ?kB ?_ ?c2 ?c3 ?c4 ?c5; (case kA => exact rfl); (case kF => exact rfl); (case kK => assumption); (case k1 => k_asm); (case k2 => k_asm); (case k3 => k_asm); (case k4 => k_asm); (case k5 => k_asm); (case k6 => k_is); (case k7 => k_is); (case k8 => first | omega | ktr_room); (case k9 => first | exact BindsTo.of_eq rfl | exact binds_K (by k_in) rfl (by k_is) rfl rfl rfl); (case c5 => decide); (case kB => exact locs rfl); (case c2 => exact rfl); (case c3 => exact rfl); (case c4 => exact rfl); k_whole; intro g' L' h' FG' F' N' B' X' T'; (try dsimp only); (try k_lift B'); (try k_fold)))
local macro_rules | `(tactic| walk_at "my units") => `(tactic| first | ((try simp only [units_deeper]); (try dsimp only [ktrTop]); omega) | decide | (exact Nat.le_of_ble_eq_true rfl) | ((try simp only [units_deeper, units_caller, cLine]); omega))
local macro_rules | `(tactic| walk_at "my reads") => `(tactic| first
  | (refine' nan_reads ?f ?x; (case f => k_asm); (case x => k_asm); done)
  | (refine' has_reads ?f ?x ?n ?s (Or.inr ⟨rfl, rfl⟩); (case f => k_asm); (case x => k_asm); (case n => k_asm); (case s => exact sub_refl); done)
  | (refine' has_reads ?f ?x ?n ?s ?h; (case h => assumption); (case f => k_asm); (case x => k_asm); (case n => k_asm); (case s => walk_at "my sub"); done)
  | (refine' readsM_of (x := ⟨_, _, _, _⟩) (News.get ?n ?m); (case n => k_asm); (case m => k_mem)))
local macro_rules | `(tactic| walk_at "compareOp Eq ref ref") => `(tactic| (k_dflt (refine' r_eq ?ra ?rb ?ru ?_; (case ra => walk_at "my reads"); (case rb => walk_at "my reads"); (case ru => walk_at "my units")); (try dsimp only)))
local macro_rules | `(tactic| walk_at "compareOp NotEq ref ref") => `(tactic| (k_dflt (refine' r_ne ?ra ?rb ?ru ?_; (case ra => walk_at "my reads"); (case rb => walk_at "my reads"); (case ru => walk_at "my units")); (try dsimp only)))
local macro_rules | `(tactic| walk_at "compareOp Eq ref ref") => `(tactic| (k_dflt (first
  | (refine' r_eq_no ?ra ?rb ?ru ?rn ?_; (case ra => walk_at "my reads"); (case rb => walk_at "my reads"); (case ru => walk_at "my units"); (case rn => assumption))
  | (refine' r_eq_yes ?ra ?rb ?ru ?rn ?rp ?_; (case ra => walk_at "my reads"); (case rb => walk_at "my reads"); (case ru => walk_at "my units"); (case rn => assumption); (case rp => first | exact True.intro | assumption)))))
local macro_rules | `(tactic| walk_at "my mem") => `(tactic| (repeat (first | exact List.Mem.head _ | assumption | refine List.Mem.tail _ ?_ | refine List.mem_append_right _ ?_)))
local macro_rules | `(tactic| walk_at "my row") => `(tactic| (refine ⟨_, _, _, _, _, _, _, _, _, _, rfl, by walk_at "my mem", by walk_at "my has", by walk_at "my has", by walk_at "my mem"⟩))
local macro_rules | `(tactic| walk_at "compareOp NotEq ref ref") => `(tactic| (k_dflt (refine' r_ne_no ?ra ?rb ?ru ?re ?_; (case ra => walk_at "my reads"); (case rb => walk_at "my reads"); (case ru => walk_at "my units"); (case re => assumption))))
local macro_rules | `(tactic| walk_at "compareOp Eq str str") => `(tactic| (first | refine eqw false (by decide) ?_ | refine eqw true (by decide) ?_))
local macro_rules | `(tactic| walk_at "subscriptTail Name Constant ref int") => `(tactic| (k_dflt (refine' item_tupleT (News.isTup ?n ?m) ?h1 ?h2 ?hj ?hx ?_ ?hs; (case n => k_asm); (case m => walk_at "my mem"); (case h1 => decide); (case h2 => decide); (case hj => exact rfl); (case hx => exact rfl); (case hs => with_unfolding_all rfl))))
local macro_rules | `(tactic| walk_at "call ref cons nil") => `(tactic| (k_dflt (refine' from_man_exp0_spec ?k1 ?k2 ?k3 ?k4 ?k5 ?k6 ?k7 ?_ ?_; (case k1 => k_asm); (case k2 => k_asm); (case k3 => k_asm); (case k4 => k_asm); (case k5 => k_asm); (case k6 => first | exact rfl | assumption); (case k7 => first | omega | ktr_room); (rotate_left 1; intro r9 tl9 h9 tk9 F9 N9 H9; (try dsimp only); (try k_fold)))))
local macro_rules | `(tactic| walk_at "call ref cons nil") => `(tactic| (k_dflt (refine' mpf_pos_n_spec ?k1 ?k2 ?k3 ?k4 ?k5 ?k6 ?k7 ?h0 ?_ ?_; (case k1 => k_asm); (case k2 => k_asm); (case k3 => k_asm); (case k4 => k_asm); (case k5 => k_asm); (case k6 => first | exact rfl | assumption); (case k7 => first | omega | ktr_room); (case h0 => walk_at "my has"); (rotate_left 1; intro r9 tl9 h9 tk9 F9 N9 H9; (try dsimp only); (try k_fold)))))
local macro_rules | `(tactic| walk_at "call ref cons nil") => `(tactic| (k_dflt (refine' mpf_sqrt_n_spec ?k1 ?k2 ?k3 ?k4 ?k5 ?k6 ?k7 ?h0 ?_ ?_; (case k1 => k_asm); (case k2 => k_asm); (case k3 => k_asm); (case k4 => k_asm); (case k5 => k_asm); (case k6 => first | exact rfl | assumption); (case k7 => first | omega | ktr_room); (case h0 => walk_at "my has"); (rotate_left 1; intro r9 tl9 h9 tk9 F9 N9 H9; (try dsimp only); (try k_fold)))))
local macro_rules | `(tactic| walk_at "call ref cons nil") => `(tactic| (k_dflt (refine' law_form_spec ?k1 ?k2 ?k3 ?k4 ?k5 ?k6 ?k7 ?ku ?h0 ?_ ?_; (case ku => walk_at "my units"); (case k1 => k_asm); (case k2 => k_asm); (case k3 => k_asm); (case k4 => k_asm); (case k5 => k_asm); (case k6 => first | exact rfl | assumption); (case k7 => first | omega | ktr_room); (case h0 => walk_at "my has"); (rotate_left 1; intro h9 tk9 F9 N9; (try dsimp only); (try k_fold)))))
local macro_rules | `(tactic| walk_at "my steps") => `(tactic| (repeat' (first | (k_unfold; (try dsimp only)) | ((fail_if_success (with_reducible show wpAny _ _ (exec (Stmt.While _ _ _ _) _) _ _ _)); (fail_if_success (with_reducible show wpAny _ _ (exec (Stmt.For _ _ _ _ _) _) _ _ _)); first | walk1 | (dsimp only; walk1)))))
local macro_rules | `(tactic| walk_at "WhileStep2 ret") => `(tactic| (dsimp only [WhileStep2]))
local macro_rules | `(tactic| walk_at "TurnPost ret") => `(tactic| (dsimp only [TurnPost]))
local macro_rules | `(tactic| walk_at "my stepsL") => `(tactic| (repeat' (first | (k_unfold; (try dsimp only)) | ((fail_if_success (with_reducible show wpAny _ _ (exec (Stmt.While _ _ _ _) _) _ _ _)); (fail_if_success (with_reducible show wpAny _ _ (exec (Stmt.For _ _ _ _ _) _) _ _ _)); (fail_if_success (with_reducible show wpAny _ _ (exec (Stmt.If _ _ _ _) _) _ _ _)); (fail_if_success (with_reducible show wpAny _ _ (pyIter (Value.ref _)) _ _ _)); first | walk1 | (dsimp only; walk1)))))
local macro_rules | `(tactic| walk_at "storeName") => `(tactic| (k_dflt (refine' storeX_L ?F ?N ?_ ?a ?b; (case b => exact kind_dec (by decide +kernel)); (case F => k_asm); (case N => k_asm); (case a => rfl); k_whole; intro h' F' N'; (try k_sweep))))
local macro_rules | `(tactic| walk_at "spliced") => `(tactic| (k_dflt (first | refine spliced_more ?_ | (refine spliced_none ?_; (try dsimp only)))))
local macro_rules | `(tactic| walk_at "exec Assign") => `(tactic| ((with_reducible show wpAny _ _ (exec (Stmt.Assign [Expr.Name _ _] _ _) _) _ _ _); k_dflt (refine wpAny_Assign_Name ?_)))
local macro_rules | `(tactic| walk_at "isTrue") => `(tactic| (k_dflt (refine isTrue_plain ?_)))
local macro_rules | `(tactic| walk_at "eval Name") => `(tactic| (k_dflt (refine' nameX_K ?F ?X ?T ?e ?_ ?a ?b; (case b => exact kind_dec (by decide +kernel)); (case F => k_asm); (case X => k_asm); (case T => k_asm); (case a => rfl); (case e => k_is); k_whole)))
local macro_rules | `(tactic| walk_at "eval Name") => `(tactic| (k_dflt (refine' nameX_L ?F ?v ?_ ?a ?b; (case b => exact kind_dec (by decide +kernel)); (case F => k_asm); (case a => rfl); (case v => rfl); k_whole)))
section
variable {w : World} {fa : Addr} {cd : Value} {base h₀ : Heap} {L : Addr} {led : List (Addr × Obj)} {s : Shared} {E : Value → Shared → Prop} {p0 : Program} {loose : List Str} {mean : ExcName → Option Value} {mg mb : Str → Option Value} {l : Addr} {vs : List Value} {ns : List Int} {iv : Int} {ti : Tok} {m1 : Str → Option Value}
variable (B : Below callerA base [] h₀) (X : (hd.heap_39 w.params).In h₀) (N : News h₀ L s.heap led) (T : Top p0 loose mean mg mb h₀)
include B X N T
theorem tailB {ro rx : Addr} {p j : Int} {tp tj : Tok} {mm : Str → Option Value} {x o : Mf} (F : Fr h₀ L s.heap (frT ro rx p j tp tj mm)) (hx : Has led rx x) (ho : Has led ro o)
    (hp1 : 2 ≤ p) (hp2 : p ≤ 18) (hj1 : -20 ≤ j) (hj2 : j ≤ 20) (hS : Side (Wf x ∧ x.s = 0 ∧ formOk o p ∧ Wf (sqrtC x (mul 2 p + 2) .n) ∧ Wf (sqrtC x (mul 2 p + 1) .n)))
    (re : o = ⟨0, shl 1 p - 1, 1 + j, p⟩) (re2 : normC (sqrtC x (mul 2 p + 2) .n).s (sqrtC x (mul 2 p + 2) .n).m (sqrtC x (mul 2 p + 2) .n).e (sqrtC x (mul 2 p + 2) .n).b p .n = o)
    (rn : True → Mf.same (normC (sqrtC x (mul 2 p + 1) .n).s (sqrtC x (mul 2 p + 1) .n).m (sqrtC x (mul 2 p + 1) .n).e (sqrtC x (mul 2 p + 1) .n).b p .n) ⟨0, 1, p + 1 + j, 1⟩)
    {Q : Flow → Shared → Prop} (hQ : ∀ h' tk' led' m', Fr h₀ L h' m' → News h₀ L h' led' → Q (.ret (.bool true)) { s with heap := h', toks := tk' }) :
    wpAny (model rw_aa5009_01.row.prog w) (callerA.deeper (envOf (Str.ofString "law") lawScope L fa cd)) (execs ((lawStmts.drop 1).drop 4) (envOf (Str.ofString "law") lawScope L fa cd)) Q E s := by
  revert X; k_fill; intro X
  unfold frT at F
  have o1 := bits_one
  have o2 := bits_of_lt (a := 2) (k := 3) (by decide)
  have o3 := bits_of_lt (a := p) (k := 5) (by omega)
  have o4 := mul_eq 2 p
  dsimp only [lawStmts, lawScope, PySem.Challenge.pw_aa5009_01, List.drop, List.take]
  (try k_fold)
  walk_at "my steps"
  all_goals first
    | exact Side.mk (by omega)
    | exact Side.mk hS.out.2.2.1
    | exact Side.mk ⟨hS.out.1, hS.out.2.1, by omega, by omega⟩
    | exact Side.mk ⟨hS.out.2.2.2.1, by omega⟩
    | exact Side.mk ⟨hS.out.2.2.2.2, by omega⟩
    | ((rename Fr _ _ _ _ => F2); (rename News _ _ _ _ => N2); exact hQ _ _ _ _ F2 N2)
end
end Mine

namespace Mine
open PySem.Challenge (rw_aa5009_01)
theorem execs_cutK {M : Model} {A : Around} {env : Env} {l : List Stmt} {Q : Flow → Shared → Prop} {E : Value → Shared → Prop} {s : Shared} (k n : Nat) (Mid : Shared → Prop)
    (h1 : wpAny M A (execs ((l.drop k).take n) env) (MidOk Mid) E s) (h2 : ∀ s', Mid s' → wpAny M A (execs (l.drop (k + n)) env) Q E s') : wpAny M A (execs (l.drop k) env) Q E s := by
  refine execs_cut n Mid h1 fun s' h => ?_
  have e : (l.drop k).drop n = l.drop (k + n) := by rw [List.drop_drop]
  rw [e]
  exact h2 s' h
theorem has_sub {a b : List (Addr × Obj)} {r : Addr} {x : Mf} (h : Has a r x) (hs : ∀ p ∈ a, p ∈ b) : Has b r x := by
  rcases h with ⟨t1, t2, t3, t4, c, h⟩ | h
  · exact Or.inl ⟨t1, t2, t3, t4, c, hs _ h⟩
  · exact Or.inr h
section
variable {w : World} {fa : Addr} {cd : Value} {base h₀ : Heap} {L : Addr} {led : List (Addr × Obj)} {s : Shared} {E : Value → Shared → Prop} {p0 : Program} {loose : List Str} {mean : ExcName → Option Value} {mg mb : Str → Option Value} {l : Addr} {vs : List Value} {ns : List Int} {iv : Int} {ti : Tok} {m1 : Str → Option Value}
variable (B : Below callerA base [] h₀) (X : (hd.heap_39 w.params).In h₀) (N : News h₀ L s.heap led) (T : Top p0 loose mean mg mb h₀)
include B X N T
theorem turn_ok (hE : PassesOwn (model rw_aa5009_01.row.prog w) (callerA.deeper (envOf (Str.ofString "law") lawScope L fa cd)) (envOf (Str.ofString "law") lawScope L fa cd) E)
    (F : Fr h₀ L s.heap (fun y => if y = Str.ofString "i" then some (.int iv ti) else if y = Str.ofString "script" then some (.ref l) else m1 y))
    (hl : base.IsList l vs.toArray) (hi : IntsAre vs ns) (hlen : ns.length ≤ 63) (hiv : 0 ≤ iv ∧ iv ≤ 22) :
    wpAny (model rw_aa5009_01.row.prog w) (callerA.deeper (envOf (Str.ofString "law") lawScope L fa cd)) (execs turnStmts (envOf (Str.ofString "law") lawScope L fa cd))
      (MidOk fun s' => ∃ (mm : Str → Option Value) (led2 : List (Addr × Obj)) (hh : Heap) (tk : Nat), s' = { s with heap := hh, toks := tk } ∧ Fr h₀ L hh mm ∧ News h₀ L hh led2 ∧ (∀ q ∈ led, q ∈ led2) ∧ mm (Str.ofString "script") = some (.ref l)) E s := by
  refine execs_cut 7 _ (seg1 B X N T F hl hi hlen hiv) ?_
  rintro s1 ⟨p, mo, way, hp1, hp2, hmo1, hmo2, m, n, e, g, ta, hh1, tk1, rfl, F1, N1, hR1⟩
  refine execs_cutK 7 1 _ (if0_ok B X N1 T hp1 hp2 hmo1 hmo2 F1 (Side.mk hR1)) ?_
  rintro s2 ⟨m, n, e, g, ta, hh2, tk2, rfl, F2, N2, hR2⟩
  refine execs_cutK 8 1 _ (if1_ok B X N2 T hp1 hp2 hmo1 hmo2 F2 (Side.mk hR2)) ?_
  rintro s3 ⟨m, n, e, g, ta, hh3, tk3, rfl, F3, N3, hR3⟩
  refine execs_cutK 9 1 _ (if2_ok B X N3 T hp1 hp2 hmo1 hmo2 F3 (Side.mk hR3)) ?_
  rintro s4 ⟨m, n, e, g, ta, hh4, tk4, rfl, F4, N4, hR4⟩
  refine execs_cutK 10 1 _ (if3_ok B X N4 T hp1 hp2 hmo1 hmo2 F4 (Side.mk hR4)) ?_
  rintro s5 ⟨m, n, e, g, ta, hh5, tk5, rfl, F5, N5, hR5⟩
  refine execs_cutK 11 1 _ (if4_ok B X N5 T hp1 hp2 hmo1 hmo2 F5 (Side.mk hR5)) ?_
  rintro s6 ⟨m, n, e, g, ta, hh6, tk6, rfl, F6, N6, hR6⟩
  refine execs_cutK 12 1 _ (if5_ok B X N6 T hp1 hp2 hmo1 hmo2 F6 (Side.mk hR6)) ?_
  rintro s7 ⟨m, n, e, g, ta, hh7, tk7, rfl, F7, N7, hR7⟩
  refine execs_cutK 13 1 _ (if6_ok B X N7 T hp1 hp2 hmo1 hmo2 F7 (Side.mk hR7)) ?_
  rintro s8 ⟨m, n, e, g, ta, hh8, tk8, rfl, F8, N8, hR8⟩
  refine execs_cutK 14 3 _ (seg3 B X N8 T F8 (Side.mk hR8)) ?_
  rintro s9 ⟨rx, ry, tl, ta2, tb, led9, hh9, tk9, rfl, F9, N9, hs9, hx, hy⟩
  refine execs_cutK 17 1 _ (seg3b B X N9 T hp1 hp2 hmo1 hmo2 F9) ?_
  rintro s10 ⟨q1, q2, q3, t1, t2, t3, led10, hh10, tk10, rfl, F10, N10, hs10, q11, q12, q13, q14, q15, q16, hq⟩
  refine execs_cutK 18 1 _ (seg4 B X N10 T F10 (has_sub hx hs10) (has_sub hy hs10) (seg4_side hp1 hp2 hR8 q11 q12 q13 q14 q15 q16)) ?_
  rintro s11 ⟨R, v1, v2, v3, v4, v5, c, led11, hh11, tk11, rfl, F11, N11, hs11, hR, r1, r2, r3, r4, r5⟩
  refine wpAny_mono (seg5 B X N11 T hE F11 (sc := .ref l) (tp := ta.p) (tw := ta.w) ⟨by with_unfolding_all exact rfl, by with_unfolding_all exact rfl, by with_unfolding_all exact rfl⟩ (by omega) (by omega) hR (rows_good hp1 hp2 hR8 q11 q12 q13 q14 q15 q16 hq r1 r2 r3 r4 r5)) (fun f s' h => ?_) fun _ _ h => h
  obtain ⟨rfl, mm, led2, hh, tk, rfl, F12, N12, hs12, hsc⟩ := h
  exact ⟨rfl, mm, led2, hh, tk, rfl, F12, N12, fun q h => hs12 q (hs11 q (hs10 q (hs9 q h))), hsc⟩
theorem tail_ok {m0 : Str → Option Value} (F : Fr h₀ L s.heap m0) (hsc : m0 (Str.ofString "script") = some (.ref l)) (hl : base.IsList l vs.toArray) (hi : IntsAre vs ns) (hlen : ns.length ≤ 63)
    {Q : Flow → Shared → Prop} (hQ : ∀ h' tk' led' mm, Fr h₀ L h' mm → News h₀ L h' led' → Q (.ret (.bool true)) { s with heap := h', toks := tk' }) :
    wpAny (model rw_aa5009_01.row.prog w) (callerA.deeper (envOf (Str.ofString "law") lawScope L fa cd)) (execs (lawStmts.drop 1) (envOf (Str.ofString "law") lawScope L fa cd)) Q E s := by
  refine execs_cut 4 _ (tailA B X N T F hsc hl hi hlen) ?_
  rintro s1 ⟨ro, rx, p, j, tp, tj, mm, led2, hh, tk, rfl, hp1, hp2, hj1, hj2, F1, N1, hx, ho⟩
  have G := tail_good hp1 hp2 hj1 hj2
  refine tailB B X N1 T F1 hx ho hp1 hp2 hj1 hj2 (Side.mk ⟨G.wx, G.sx, by rw [G.once]; exact G.fo, G.w2, G.w1⟩) G.once (by rw [G.once]; exact G.e2) (fun _ => by rw [G.e1]; exact ⟨rfl, rfl, rfl, rfl⟩) ?_
  intro h' tk' led' m' F2 N2
  exact hQ h' tk' led' m' F2 N2
end
end Mine

namespace Mine
open PySem.Challenge (rw_aa5009_01)
local macro_rules | `(tactic| walk_at "truthy int") => `(tactic| (with_reducible (first | refine truthy_ne (by assumption) ?_ | refine truthy_eq (by assumption) ?_ | refine truthy_imp (by assumption) (by assumption) ?_)))
local macro_rules | `(tactic| walk_at "my ifs") => `(tactic| repeat (first | (with_reducible rfl) | (refine Eq.trans ?_ (if_pos (by first | assumption | omega)).symm) | (refine Eq.trans ?_ (if_neg (by first | assumption | omega)).symm)))
local macro_rules | `(tactic| walk_at "binaryOp LShift int int") => `(tactic| ((with_reducible refine r_lshift ?_ ?_); rotate_left; (try dsimp only)))
local macro_rules | `(tactic| walk_at "inplaceOp LShift int int") => `(tactic| ((with_reducible refine r_ilshift ?_ ?_); rotate_left; (try dsimp only)))
local macro_rules | `(tactic| walk_at "binaryOp RShift int int") => `(tactic| ((with_reducible refine r_rshift ?_ ?_); rotate_left; (try dsimp only)))
local macro_rules | `(tactic| walk_at "inplaceOp RShift int int") => `(tactic| ((with_reducible refine r_irshift ?_ ?_); rotate_left; (try dsimp only)))
local macro_rules | `(tactic| walk_at "binaryOp BitAnd int int") => `(tactic| ((with_reducible refine r_and ?_); (try dsimp only)))
local macro_rules | `(tactic| walk_at "binaryOp BitXor int int") => `(tactic| ((with_reducible refine r_xor ?_); (try dsimp only)))
local macro_rules | `(tactic| walk_at "inplaceOp BitXor int int") => `(tactic| ((with_reducible refine r_ixor ?_); (try dsimp only)))
local macro_rules | `(tactic| walk_at "binaryOp Mult int int") => `(tactic| ((with_reducible refine r_mul ?_ ?_); rotate_left; (try dsimp only)))
local macro_rules | `(tactic| walk_at "binaryOp FloorDiv int int") => `(tactic| ((with_reducible refine r_fdiv ?_ ?_); rotate_left; (try dsimp only)))
local macro_rules | `(tactic| walk_at "inplaceOp FloorDiv int int") => `(tactic| ((with_reducible refine r_ifdiv ?_ ?_); rotate_left; (try dsimp only)))
local macro_rules | `(tactic| walk_at "binaryOp Mod int int") => `(tactic| ((with_reducible refine r_mod ?_ ?_); rotate_left; (try dsimp only)))
local macro_rules | `(tactic| walk_at "binaryOp Pow int int") => `(tactic| ((with_reducible refine r_pow ?_ ?_); rotate_left; (try dsimp only)))
local macro_rules | `(tactic| walk_at "call builtin:int.bit_length") => `(tactic| ((with_reducible refine r_bits ?_); (try dsimp only)))
local macro_rules | `(tactic| walk_at "eval Call Name cons nil") => `(tactic| (k_dflt (refine Call_ ?_)))
local macro_rules | `(tactic| walk_at "call ref cons nil") => `(tactic| (k_dflt (refine' trailing_spec ?k1 ?k2 ?k3 ?k4 ?k5 ?k6 ?k7 ?_; (case k1 => k_asm); (case k2 => k_asm); (case k3 => k_asm); (case k4 => k_asm); (case k5 => k_asm); (case k6 => first | exact rfl | assumption); (case k7 => first | omega | ktr_room); (intro t9 h9 tk9 F9 N9; (try dsimp only); (try k_fold)))))
local macro_rules | `(tactic| walk_at "my sub") => `(tactic| (repeat (first | exact sub_refl | refine sub_cons ?_ | refine sub_app ?_)))
local macro_rules | `(tactic| walk_at "my has") => `(tactic| (refine Has.mono (by assumption) ?_; walk_at "my sub"))
local macro_rules | `(tactic| walk_at "my end") => `(tactic| first
  | ((rename RetT _ _ _ _ _ _ _ => hR'); first
      | (refine retNew hR' ?_ (by assumption) (by assumption) (by walk_at "my sub"))
      | (refine retZero hR' ?_ (by assumption) (by assumption) (by walk_at "my sub"))
      | (refine retT hR' ?_ (by assumption) (by assumption) (by walk_at "my has") (by walk_at "my sub")))
  | ((rename RetI _ _ _ _ _ _ _ => hR'); refine retI hR' ?_ (by assumption) (News.sub (by assumption) (by walk_at "my sub")))
  | ((rename RetP _ _ _ _ _ _ _ _ => hR'); refine retP hR' ?_ ?_ (by assumption) (by assumption) (by walk_at "my sub")))
local macro_rules | `(tactic| walk_at "my enter") => `(tactic| k_dflt (refine' code_def ?k1 ?k2 ?k3 ?k4 ?k5 ?kA ?kF ?kK ?k6 ?k7 ?k8 ?k9 ?kB ?_ ?c2 ?c3 ?c4 ?c5; (case kA => exact rfl); (case kF => exact rfl); (case kK => assumption); (case k1 => k_asm); (case k2 => k_asm); (case k3 => k_asm); (case k4 => k_asm); (case k5 => k_asm); (case k6 => k_is); (case k7 => k_is); (case k8 => first | omega | ktr_room); (case k9 => first | exact BindsTo.of_eq rfl | exact binds_K (by k_in) rfl (by k_is) rfl rfl rfl); (case c5 => decide); (case kB => exact locs rfl); (case c2 => exact rfl); (case c3 => exact rfl); (case c4 => exact rfl); k_whole; intro g' L' h' FG' F' N' B' X' T'; (try dsimp only); (try k_lift B'); (try k_fold)))
local macro_rules | `(tactic| walk_at "my units") => `(tactic| first | ((try simp only [units_deeper]); (try dsimp only [ktrTop]); omega) | decide | (exact Nat.le_of_ble_eq_true rfl) | ((try simp only [units_deeper, units_caller, cLine]); omega))
local macro_rules | `(tactic| walk_at "my reads") => `(tactic| first
  | (refine' nan_reads ?f ?x; (case f => k_asm); (case x => k_asm); done)
  | (refine' has_reads ?f ?x ?n ?s (Or.inr ⟨rfl, rfl⟩); (case f => k_asm); (case x => k_asm); (case n => k_asm); (case s => exact sub_refl); done)
  | (refine' has_reads ?f ?x ?n ?s ?h; (case h => assumption); (case f => k_asm); (case x => k_asm); (case n => k_asm); (case s => walk_at "my sub"); done)
  | (refine' readsM_of (x := ⟨_, _, _, _⟩) (News.get ?n ?m); (case n => k_asm); (case m => k_mem)))
local macro_rules | `(tactic| walk_at "compareOp Eq ref ref") => `(tactic| (k_dflt (refine' r_eq ?ra ?rb ?ru ?_; (case ra => walk_at "my reads"); (case rb => walk_at "my reads"); (case ru => walk_at "my units")); (try dsimp only)))
local macro_rules | `(tactic| walk_at "compareOp NotEq ref ref") => `(tactic| (k_dflt (refine' r_ne ?ra ?rb ?ru ?_; (case ra => walk_at "my reads"); (case rb => walk_at "my reads"); (case ru => walk_at "my units")); (try dsimp only)))
local macro_rules | `(tactic| walk_at "compareOp Eq ref ref") => `(tactic| (k_dflt (first
  | (refine' r_eq_no ?ra ?rb ?ru ?rn ?_; (case ra => walk_at "my reads"); (case rb => walk_at "my reads"); (case ru => walk_at "my units"); (case rn => assumption))
  | (refine' r_eq_yes ?ra ?rb ?ru ?rn ?rp ?_; (case ra => walk_at "my reads"); (case rb => walk_at "my reads"); (case ru => walk_at "my units"); (case rn => assumption); (case rp => first | exact True.intro | assumption)))))
local macro_rules | `(tactic| walk_at "my mem") => `(tactic| (repeat (first | exact List.Mem.head _ | assumption | refine List.Mem.tail _ ?_ | refine List.mem_append_right _ ?_)))
local macro_rules | `(tactic| walk_at "my row") => `(tactic| (refine ⟨_, _, _, _, _, _, _, _, _, _, rfl, by walk_at "my mem", by walk_at "my has", by walk_at "my has", by walk_at "my mem"⟩))
local macro_rules | `(tactic| walk_at "my steps") => `(tactic| (repeat' (first | (k_unfold; (try dsimp only)) | ((fail_if_success (with_reducible show wpAny _ _ (exec (Stmt.While _ _ _ _) _) _ _ _)); (fail_if_success (with_reducible show wpAny _ _ (exec (Stmt.For _ _ _ _ _) _) _ _ _)); first | walk1 | (dsimp only; walk1)))))
local macro_rules | `(tactic| walk_at "WhileStep2 ret") => `(tactic| (dsimp only [WhileStep2]))
local macro_rules | `(tactic| walk_at "TurnPost ret") => `(tactic| (dsimp only [TurnPost]))
local macro_rules | `(tactic| walk_at "my stepsL") => `(tactic| (repeat' (first | (k_unfold; (try dsimp only)) | ((fail_if_success (with_reducible show wpAny _ _ (exec (Stmt.While _ _ _ _) _) _ _ _)); (fail_if_success (with_reducible show wpAny _ _ (exec (Stmt.For _ _ _ _ _) _) _ _ _)); (fail_if_success (with_reducible show wpAny _ _ (exec (Stmt.If _ _ _ _) _) _ _ _)); (fail_if_success (with_reducible show wpAny _ _ (pyIter (Value.ref _)) _ _ _)); first | walk1 | (dsimp only; walk1)))))
theorem lawx : PySem.Challenge.rw_aa5009_01.Holds := _root_.hd (by
  k_go0
  (rename Shared => s1); (rename List Int => ns)
  all_goals (try k_fold)
  walk_at "my steps"
  ((rename Fr _ _ _ _ => lF'); (with_unfolding_all refine' For_invVF lF' ?k1 ?k2 ?_; (case k1 => exact rfl); (case k2 => exact rfl)))
  walk_at "my stepsL"
  (rename Fr _ _ _ _ => lF2); (rename News _ _ _ _ => lN2); (rename IsRange _ _ _ _ _ _ _ _ => lR)
  refine iter_rangeJ (x := Str.ofString "i") (n := 3) (JScript _) rfl lR (by decide) (by decide) lF2 lN2 (by with_unfolding_all exact rfl) (fun i ti m1 h1 tk1 own hi hj F1 N1 => ?_) (fun m1 h1 tk1 hj F1 N1 => ?_)
  · rw [script_in hj] at F1
    have hi2 : 0 ≤ (0 : Int) + (i : Int) * 11 ∧ (0 : Int) + (i : Int) * 11 ≤ 22 := by omega
    generalize (0 : Int) + (i : Int) * 11 = iv at F1 hi2
    clear lF2 lN2 lR
    refine wpAny_mono (turn_ok (by assumption) (by assumption) N1 (by assumption) (by passes_own) F1 (by assumption) (by assumption) (by omega) hi2) (fun f s' h => ?_) fun _ _ h => h
    obtain ⟨rfl, mm, led2, hh, tk, rfl, F2, N2, hs2, hsc⟩ := h
    exact ⟨_, _, _, _, rfl, F2, N2, hs2, hsc⟩
  · refine tail_ok (by assumption) (by assumption) N1 (by assumption) F1 hj (by assumption) (by assumption) (by omega) ?_
    intro h' tk' led' mm F2 N2
    (try dsimp only)
    k_steps)
end Mine

theorem PySem.Challenge.cw_aa5009_01_holds : PySem.Challenge.rw_aa5009_01.Holds :=
  Mine.lawx
