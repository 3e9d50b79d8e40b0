import PyProof.Rows.All
import Wide.All
import OpenK.AllK
import Wide.FinOn
import PySem.Challenge.RW_sw0084_01

set_option Elab.async false
set_option maxRecDepth 100000

section
namespace Mine
open PySem PySem.W PyProof.Rows
set_option maxRecDepth 100000 in
set_option maxHeartbeats 8000000 in
open_top swHead for PySem.Challenge.rw_sw0084_01
theorem top_off : True := by
  w_top off
  trivial
end Mine
end

section
open PySem PySem.W PyProof.Rows PySem.Calls PySem.Spec
namespace Mine
def digs (B : Int) : Int → Nat → List Int
  | _, 0 => []
  | x, k + 1 => x % B :: digs B (x / B) k
def put (B : Int) (ns : List Int) (lo : Nat) (x : Int) (k : Nat) : List Int := ns.take lo ++ digs B x k ++ ns.drop (lo + k)
def val (B : Int) : List Int → Int
  | [] => 0
  | d :: r => d + B * val B r
def DigsIn (B : Int) (ds : List Int) : Prop := ∀ d ∈ ds, 0 ≤ d ∧ d < B

theorem digs_len (B : Int) : ∀ (k : Nat) (x : Int), (digs B x k).length = k
  | 0, _ => rfl
  | k + 1, x => by rw [digs, List.length_cons, digs_len B k]
theorem digs_add (B : Int) (hB : 0 < B) (b : Nat) : ∀ (a : Nat) (x : Int), digs B x (a + b) = digs B x a ++ digs B (x / B ^ a) b
  | 0, x => by simp [digs]
  | a + 1, x => by
    rw [show a + 1 + b = (a + b) + 1 by omega, digs, digs, digs_add B hB b a, List.cons_append]
    congr 3
    rw [Int.ediv_ediv_of_nonneg (by omega), Int.pow_succ, Int.mul_comm]
theorem digs_mod (B : Int) (hB : 0 < B) : ∀ (a : Nat) (x : Int), digs B (x % B ^ a) a = digs B x a
  | 0, _ => rfl
  | a + 1, x => by
    have hp : 0 < B ^ a := Int.pow_pos hB
    rw [digs, digs]
    have h1 : x % B ^ (a + 1) % B = x % B := by
      exact Int.emod_emod_of_dvd x ⟨B ^ a, by rw [Int.pow_succ, Int.mul_comm]⟩
    have h2 : x % B ^ (a + 1) / B = (x / B) % B ^ a := by
      have e1 := Int.emod_def x (B ^ (a + 1))
      have e2 := Int.emod_def (x / B) (B ^ a)
      have e3 : x / B / B ^ a = x / B ^ (a + 1) := by
        rw [Int.ediv_ediv_of_nonneg (by omega), Int.pow_succ, Int.mul_comm]
      rw [e3] at e2
      rw [e1, e2]
      have e4 : B ^ (a + 1) * (x / B ^ (a + 1)) = B * (B ^ a * (x / B ^ (a + 1))) := by
        rw [Int.pow_succ, Int.mul_comm (B ^ a) B, Int.mul_assoc]
      rw [e4]
      rw [Int.sub_eq_add_neg, ← Int.mul_neg, Int.add_mul_ediv_left _ _ (by omega), Int.sub_eq_add_neg]
    rw [h1, h2, digs_mod B hB a]
theorem digs_in (B : Int) (hB : 0 < B) : ∀ (k : Nat) (x : Int), DigsIn B (digs B x k)
  | 0, _ => fun _ h => nomatch h
  | k + 1, x => by
    intro d hd
    rw [digs] at hd
    rcases List.mem_cons.mp hd with rfl | hd
    · exact ⟨Int.emod_nonneg _ (by omega), Int.emod_lt_of_pos _ hB⟩
    · exact digs_in B hB k _ d hd
theorem val_digs (B : Int) (hB : 0 < B) : ∀ (k : Nat) (x : Int), val B (digs B x k) = x % B ^ k
  | 0, x => by simp [digs, val, Int.emod_one]
  | k + 1, x => by
    rw [digs, val, val_digs B hB k, Int.emod_def (x / B), Int.ediv_ediv_of_nonneg (by omega), Int.emod_def x B, Int.emod_def x, Int.pow_succ, Int.mul_comm (B ^ k) B, Int.mul_sub]
    rw [Int.mul_assoc]
    omega
theorem val_append (B : Int) : ∀ (a b : List Int), val B (a ++ b) = val B a + B ^ a.length * val B b
  | [], b => by simp [val]
  | d :: r, b => by
    rw [List.cons_append, val, val, val_append B r b, List.length_cons, Int.pow_succ, Int.mul_add, ← Int.mul_assoc, Int.mul_comm B (B ^ r.length), Int.add_assoc]
theorem val_in (B : Int) (hB : 0 < B) : ∀ ds : List Int, DigsIn B ds → 0 ≤ val B ds ∧ val B ds < B ^ ds.length
  | [], _ => by simp [val]
  | d :: r, h => by
    have h1 := h d (.head _)
    have h2 := val_in B hB r fun e he => h e (.tail _ he)
    rw [val, List.length_cons, Int.pow_succ, Int.mul_comm _ B]
    refine ⟨Int.add_nonneg h1.1 (Int.mul_nonneg (by omega) h2.1), ?_⟩
    have h3 : val B r + 1 ≤ B ^ r.length := h2.2
    have h4 := Int.mul_le_mul_of_nonneg_left h3 (show 0 ≤ B by omega)
    rw [Int.mul_add, Int.mul_one] at h4
    omega

theorem put_len {B : Int} {ns : List Int} {lo k : Nat} {x : Int} (h : lo + k ≤ ns.length) : (put B ns lo x k).length = ns.length := by
  unfold put
  rw [List.length_append, List.length_append, List.length_take, List.length_drop, digs_len]
  omega
theorem put_one {B : Int} {ns : List Int} {lo : Nat} {x : Int} (h : lo < ns.length) (h0 : 0 ≤ x) (h1 : x < B) : put B ns lo x 1 = ns.set lo x := by
  unfold put
  rw [digs, digs, Int.emod_eq_of_lt h0 h1, List.set_eq_take_append_cons_drop, if_pos h]
  simp
theorem put_put {B : Int} (hB : 0 < B) {ns : List Int} {lo a b : Nat} {x : Int} (h : lo + a + b ≤ ns.length) :
    put B (put B ns lo (x % B ^ a) a) (lo + a) (x / B ^ a) b = put B ns lo x (a + b) := by
  unfold put
  rw [digs_mod B hB, digs_add B hB]
  have l1 : (ns.take lo ++ digs B x a).length = lo + a := by rw [List.length_append, List.length_take, digs_len]; omega
  rw [List.take_append_of_le_length (by omega), List.take_of_length_le (by omega)]
  rw [show lo + a + b = (ns.take lo ++ digs B x a).length + b by omega, List.drop_length_add_append, List.drop_drop]
  simp only [List.append_assoc]
  rw [Nat.add_assoc]
theorem put_all {B : Int} {ns : List Int} {x : Int} {k : Nat} (h : ns.length = k) : put B ns 0 x k = digs B x k := by
  unfold put
  rw [List.take_zero, List.nil_append, Nat.zero_add, List.drop_of_length_le (by omega), List.append_nil]

theorem xor_low {x : Int} (hx : 0 ≤ x) (k : Nat) : Builtin.bitXor x (x / 2 ^ k * 2 ^ k) = x % 2 ^ k := by
  obtain ⟨n, rfl⟩ := Int.eq_ofNat_of_zero_le hx
  have e1 : ((n : Int) / 2 ^ k * 2 ^ k) = ((n / 2 ^ k * 2 ^ k : Nat) : Int) := by simp
  have e2 : n &&& (n / 2 ^ k * 2 ^ k) = n / 2 ^ k * 2 ^ k := by
    apply Nat.eq_of_testBit_eq
    intro i
    rw [Nat.testBit_and, ← Nat.shiftLeft_eq, ← Nat.shiftRight_eq_div_pow, Nat.testBit_shiftLeft, Nat.testBit_shiftRight]
    by_cases hi : k ≤ i
    · rw [show k + (i - k) = i by omega]; cases n.testBit i <;> simp
    · simp [hi]
  have e3 : Builtin.bitAnd (n : Int) ((n / 2 ^ k * 2 ^ k : Nat) : Int) = ((n &&& (n / 2 ^ k * 2 ^ k) : Nat) : Int) := by
    have q := bitAnd_pp (x := (n : Int)) (y := ((n / 2 ^ k * 2 ^ k : Nat) : Int)) (by omega) (Int.natCast_nonneg _)
    rw [q, Int.toNat_natCast, Int.toNat_natCast]
  rw [e1, bitXor_and, e3, e2]
  have e4 : (n : Int) % 2 ^ k = ((n % 2 ^ k : Nat) : Int) := by simp
  rw [e4]
  have := Nat.div_add_mod n (2 ^ k)
  rw [Nat.mul_comm] at this
  omega
end Mine
end

section
open PySem PySem.W PyProof.Rows PySem.Calls PySem.Spec
set_option maxRecDepth 100000
namespace Mine
abbrev tup2 (a b : Int) (t u : Tok) (c : Nat) : Obj := { cls := .type "tuple", data := .seq #[.int a t, .int b u] c }

/-- one more than the greatest address of a ledger -/
def hi : List (Addr × Obj) → Nat
  | [] => 0
  | p :: r => max (p.1 + 1) (hi r)
theorem allLt_hi (d : Nat) : ∀ l : List (Addr × Obj), AllLt d l = (hi l ≤ d)
  | [] => by simp [AllLt, hi]
  | p :: r => by
    simp only [AllLt, allLt_hi d r, hi, eq_iff_iff]
    have : p.1 + 1 ≤ d ↔ p.1 < d := Nat.succ_le_iff
    omega
theorem ne_of_hi {d : Nat} {l : List (Addr × Obj)} (h : hi l ≤ d) : ∀ p ∈ l, p.1 ≠ d := by
  rw [← allLt_hi] at h
  intro p hp e
  have q := ktn_ltOf h p hp
  rw [e] at q
  exact Nat.lt_irrefl d q
def AllNe (d : Nat) : List (Addr × Obj) → Prop
  | [] => True
  | p :: r => @Ne Nat p.1 d ∧ AllNe d r
theorem AllNe.out {d : Nat} : ∀ {l : List (Addr × Obj)}, AllNe d l → ∀ p ∈ l, p.1 ≠ d
  | [], _, _, hp => nomatch hp
  | _ :: _, h, _, .head _ => h.1
  | _ :: _, h, p, .tail _ hp => AllNe.out h.2 p hp
theorem AllNe.of {d : Nat} : ∀ {l : List (Addr × Obj)}, (∀ p ∈ l, p.1 ≠ d) → AllNe d l
  | [], _ => trivial
  | _ :: _, h => ⟨h _ (.head _), AllNe.of fun p hp => h p (.tail _ hp)⟩
theorem AllNe.of_hi {d : Nat} {l : List (Addr × Obj)} (h : hi l ≤ d) : AllNe d l := .of (ne_of_hi h)
theorem news_lt {h₀ h : Heap} {L : Addr} {l : List (Addr × Obj)} (N : News h₀ L h l) : ∀ p ∈ l, p.1 < h.objs.size := fun p hp => Heap.lt_size (N p hp).1
theorem hi_of {d : Nat} {l : List (Addr × Obj)} (h : ∀ p ∈ l, p.1 < d) : hi l ≤ d := by rw [← allLt_hi]; exact allLt_of h

/-- the state of a code table at P, beside the code that it holds (or, while it is empty, the table once more) -/
def TabSt (P : Addr) (line col : Nat) (qual : Str) (ps : Array Value) (c : Addr) (oc : Obj) : Prop :=
  (ps = #[] ∧ c = P ∧ oc = tabObj #[]) ∨ ∃ vs t, ps = #[rawInt line, rawInt col, .ref c] ∧ oc.data = .fields vs ∧ vs[1]? = some (.str qual t)

theorem noPy {x y : Int} (h : y.natAbs < 2 ^ 200) : Builtin.divisionGoesByPylong x y = false :=
  PyProof.noPylong_of_log2 (by
    rcases Nat.eq_zero_or_pos y.natAbs with h0 | h0
    · rw [h0]; decide
    · exact Nat.lt_of_lt_of_le ((Nat.log2_lt (by omega)).mpr h) (by decide))
end Mine
namespace Mine
section
variable {prog : Program} {w : World} {A : Around} {E : Value → Shared → Prop} {s : Shared} {t u : Tok} {Q : Value → Shared → Prop}
theorem rsh1_r {a : Int} (h : ∀ M : Int, M = a / 2 → Q (.int M s.toks) { s with toks := s.toks + 1 }) : wpAny (model prog w) A (binaryOp .RShift (.int a t) (.int 1 u)) Q E s :=
  rshift_int (by decide) (h _ (Int.fdiv_eq_ediv_of_nonneg _ (by decide)))
theorem rsh_r {x S : Int} (hS : 0 ≤ S) (hx : 0 ≤ x) (h : ∀ U : Int, U = x / 2 ^ S.toNat → 0 ≤ U → U ≤ x → Q (.int U s.toks) { s with toks := s.toks + 1 }) : wpAny (model prog w) A (binaryOp .RShift (.int x t) (.int S u)) Q E s := by
  have hp : (0 : Int) < 2 ^ S.toNat := Int.pow_pos (by decide)
  refine rshift_int hS (h _ (Int.fdiv_eq_ediv_of_nonneg _ (by omega)) ?_ ?_)
  · rw [Int.fdiv_eq_ediv_of_nonneg _ (by omega)]; exact Int.ediv_nonneg hx (by omega)
  · rw [Int.fdiv_eq_ediv_of_nonneg _ (by omega)]; exact Int.ediv_le_self _ hx
theorem mul_r {a b : Int} (ha : 0 ≤ a) (ha2 : a ≤ 1000) (hb : 0 ≤ b) (hb2 : b ≤ 100) (h : ∀ S : Int, S = a * b → 0 ≤ S → S ≤ 100000 → Q (.int S s.toks) { s with toks := s.toks + 1 }) : wpAny (model prog w) A (binaryOp .Mult (.int a t) (.int b u)) Q E s := by
  refine mul_int (h _ rfl (Int.mul_nonneg ha hb) ?_)
  exact Int.le_trans (Int.mul_le_mul_of_nonneg_right ha2 hb) (by omega)
theorem lsh_r {U S : Int} (hS : 0 ≤ S) (hS2 : S ≤ 100000) (hU : Builtin.Int.intBits U ≤ 100000) (h : ∀ V : Int, V = U * 2 ^ S.toNat → Q (.int V s.toks) { s with toks := s.toks + 1 }) : wpAny (model prog w) A (binaryOp .LShift (.int U t) (.int S u)) Q E s :=
  lshift_int hS (by omega) (h _ rfl)
theorem xor_r {x U V S : Int} (hV : V = U * 2 ^ S.toNat) (hU : U = x / 2 ^ S.toNat) (hx : 0 ≤ x) (h : ∀ l : Int, l = x % 2 ^ S.toNat → 0 ≤ l → l ≤ x → Q (.int l s.toks) { s with toks := s.toks + 1 }) : wpAny (model prog w) A (binaryOp .BitXor (.int x t) (.int V u)) Q E s := by
  have hp : (0 : Int) < 2 ^ S.toNat := Int.pow_pos (by decide)
  refine xor_int ?_
  rw [hV, hU, xor_low hx]
  exact h _ rfl (Int.emod_nonneg _ (by omega)) (by rw [Int.emod_def]; have := Int.mul_nonneg (show (0 : Int) ≤ 2 ^ S.toNat by omega) (Int.ediv_nonneg hx (show (0 : Int) ≤ 2 ^ S.toNat by omega)); omega)
end
theorem bits_le {U : Int} {k : Nat} (h0 : 0 ≤ U) (h : U < 2 ^ k) : Builtin.Int.intBits U ≤ k := by
  refine intBits_le_iff.mpr ?_
  have e : ((U.natAbs : Nat) : Int) < ((2 ^ k : Nat) : Int) := by
    rw [Int.natAbs_of_nonneg h0]; simpa using h
  exact Int.ofNat_lt.mp e
def Halt (P : Prop) : Prop := P
theorem halt {P : Prop} (h : Halt P) : P := h
end Mine
end

section
namespace Mine
theorem val_foldr (B : Int) : ∀ ds : List Int, val B ds = ds.foldr (fun d v => d + B * v) 0
  | [] => rfl
  | d :: r => by rw [val, List.foldr_cons, val_foldr B r]
theorem fold_rev (B : Int) (ds : List Int) : ds.reverse.foldl (fun X d => X * B + d) 0 = val B ds := by
  rw [List.foldl_reverse, val_foldr]
  congr 1
  funext d v
  rw [Int.mul_comm, Int.add_comm]
theorem step_div {X d B y r : Int} (hy : 0 < y) (hr : r = X % y) : (X * B + d) / y = (r * B + d) / y + B * (X / y) ∧ (X * B + d) % y = (r * B + d) % y := by
  have e : X * B + d = (r * B + d) + y * (B * (X / y)) := by
    have h1 := Int.emod_add_mul_ediv X y
    rw [← hr] at h1
    have h2 : X * B = (r + y * (X / y)) * B := by rw [h1]
    rw [h2, Int.add_mul, Int.mul_assoc, Int.mul_comm (X / y) B]
    omega
  constructor
  · rw [e, Int.add_mul_ediv_left _ _ (by omega)]
  · rw [e, Int.add_mul_emod_self_left]
theorem step_lt {d B y r : Int} (hB : 0 < B) (hy : 0 < y) (hr0 : 0 ≤ r) (hr : r < y) (hd0 : 0 ≤ d) (hd : d < B) : 0 ≤ (r * B + d) / y ∧ (r * B + d) / y < B := by
  have h0 : 0 ≤ r * B := Int.mul_nonneg hr0 (by omega)
  refine ⟨Int.ediv_nonneg (by omega) (by omega), Int.ediv_lt_of_lt_mul hy ?_⟩
  have h1 : r + 1 ≤ y := hr
  have h2 := Int.mul_le_mul_of_nonneg_right h1 (show 0 ≤ B by omega)
  rw [Int.add_mul, Int.one_mul, Int.mul_comm y B] at h2
  omega
end Mine
namespace Mine
theorem not_div {x y : Int} (hy : 0 < y) : (-x - 1) / y = -(x / y) - 1 ∧ (-x - 1) % y = y - 1 - x % y := by
  refine (Int.ediv_emod_unique hy).mpr ⟨?_, ?_, ?_⟩
  · have := Int.emod_add_mul_ediv x y
    rw [Int.mul_sub, Int.mul_neg, Int.mul_one]
    omega
  · have := Int.emod_lt_of_pos x hy
    omega
  · have := Int.emod_nonneg x (show y ≠ 0 by omega)
    omega
end Mine
end

section
namespace Mine
/-- what stands between two rounds -/
structure RPre (u v m : Int) (k : Nat) (e left : Int) : Prop where
  hD : 2 ^ k * u = e * v + left
  hl : (0 < v ∧ 0 ≤ left ∧ left < v) ∨ (v < 0 ∧ v < left ∧ left ≤ 0)
  hm : (0 < u ∧ 0 < m * v ∧ m * v < u) ∨ (u < 0 ∧ u < m * v ∧ m * v < 0)
def plc (v left : Int) : Int := if (2 * left).natAbs ≥ v.natAbs then 1 else 0
theorem plc_01 (v left : Int) : plc v left = 0 ∨ plc v left = 1 := by unfold plc; split <;> simp

/-- m * left lies between 0 and m * v, and on which side of the half is told by the place -/
theorem RPre.half {u v m e left : Int} {k : Nat} (h : RPre u v m k e left) :
    ((0 < u ∧ 0 ≤ m * left ∧ m * left < m * v) ∨ (u < 0 ∧ m * v < m * left ∧ m * left ≤ 0)) ∧
    (plc v left = 0 → (0 < u ∧ 2 * (m * left) < m * v) ∨ (u < 0 ∧ m * v < 2 * (m * left))) ∧ (plc v left = 1 → (0 < u ∧ m * v ≤ 2 * (m * left)) ∨ (u < 0 ∧ 2 * (m * left) ≤ m * v)) := by
  obtain ⟨_, hl, hm⟩ := h
  have t1 : m * (2 * left) = 2 * (m * left) := by rw [← Int.mul_assoc, Int.mul_comm m 2, Int.mul_assoc]
  rcases hl with ⟨v0, l0, l1⟩ | ⟨v0, l1, l0⟩
  · rcases hm with ⟨u0, p0, p1⟩ | ⟨u0, p1, p0⟩
    · have m0 : 0 < m := by
        rcases Int.lt_or_le 0 m with h | h
        · exact h
        · have := Int.mul_nonneg_of_nonpos_of_nonpos h (show -v ≤ 0 by omega)
          rw [Int.mul_neg] at this
          omega
      have a1 := Int.mul_nonneg (show 0 ≤ m by omega) l0
      have a2 := Int.mul_lt_mul_of_pos_left l1 m0
      refine ⟨.inl ⟨u0, a1, a2⟩, fun hp => .inl ⟨u0, ?_⟩, fun hp => .inl ⟨u0, ?_⟩⟩
      · have : 2 * left < v := by unfold plc at hp; split at hp <;> omega
        have := Int.mul_lt_mul_of_pos_left this m0
        omega
      · have : v ≤ 2 * left := by unfold plc at hp; split at hp <;> omega
        have := Int.mul_le_mul_of_nonneg_left this (show 0 ≤ m by omega)
        omega
    · have m0 : m < 0 := by
        rcases Int.lt_or_le m 0 with h | h
        · exact h
        · have := Int.mul_nonneg h (show 0 ≤ v by omega)
          omega
      have a1 := Int.mul_nonneg (show 0 ≤ -m by omega) l0
      have a2 := Int.mul_lt_mul_of_pos_left l1 (show 0 < -m by omega)
      rw [Int.neg_mul] at a1 a2
      rw [Int.neg_mul] at a2
      refine ⟨.inr ⟨u0, by omega, by omega⟩, fun hp => .inr ⟨u0, ?_⟩, fun hp => .inr ⟨u0, ?_⟩⟩
      · have : 2 * left < v := by unfold plc at hp; split at hp <;> omega
        have := Int.mul_lt_mul_of_pos_left this (show 0 < -m by omega)
        rw [Int.neg_mul, Int.neg_mul] at this
        omega
      · have : v ≤ 2 * left := by unfold plc at hp; split at hp <;> omega
        have := Int.mul_le_mul_of_nonneg_left this (show 0 ≤ -m by omega)
        rw [Int.neg_mul, Int.neg_mul] at this
        omega
  · rcases hm with ⟨u0, p0, p1⟩ | ⟨u0, p1, p0⟩
    · have m0 : m < 0 := by
        rcases Int.lt_or_le m 0 with h | h
        · exact h
        · have := Int.mul_nonneg h (show 0 ≤ -v by omega)
          rw [Int.mul_neg] at this
          omega
      have a1 := Int.mul_nonneg (show 0 ≤ -m by omega) (show 0 ≤ -left by omega)
      have a2 := Int.mul_lt_mul_of_pos_left l1 (show 0 < -m by omega)
      rw [Int.neg_mul_neg] at a1
      rw [Int.neg_mul, Int.neg_mul] at a2
      refine ⟨.inl ⟨u0, by omega, by omega⟩, fun hp => .inl ⟨u0, ?_⟩, fun hp => .inl ⟨u0, ?_⟩⟩
      · have : v < 2 * left := by unfold plc at hp; split at hp <;> omega
        have := Int.mul_lt_mul_of_pos_left this (show 0 < -m by omega)
        rw [Int.neg_mul, Int.neg_mul] at this
        omega
      · have : 2 * left ≤ v := by unfold plc at hp; split at hp <;> omega
        have := Int.mul_le_mul_of_nonneg_left this (show 0 ≤ -m by omega)
        rw [Int.neg_mul, Int.neg_mul] at this
        omega
    · have m0 : 0 < m := by
        rcases Int.lt_or_le 0 m with h | h
        · exact h
        · have := Int.mul_nonneg (show 0 ≤ -m by omega) (show 0 ≤ -v by omega)
          rw [Int.neg_mul_neg] at this
          omega
      have a1 := Int.mul_nonneg (show 0 ≤ m by omega) (show 0 ≤ -left by omega)
      have a2 := Int.mul_lt_mul_of_pos_left l1 m0
      rw [Int.mul_neg] at a1
      refine ⟨.inr ⟨u0, a2, by omega⟩, fun hp => .inr ⟨u0, ?_⟩, fun hp => .inr ⟨u0, ?_⟩⟩
      · have : v < 2 * left := by unfold plc at hp; split at hp <;> omega
        have := Int.mul_lt_mul_of_pos_left this m0
        omega
      · have : 2 * left ≤ v := by unfold plc at hp; split at hp <;> omega
        have := Int.mul_le_mul_of_nonneg_left this (show 0 ≤ m by omega)
        omega

theorem fdm_pos {x y q r : Int} (hy : 0 < y) (e : r + y * q = x) (h0 : 0 ≤ r) (h1 : r < y) : x.fdiv y = q ∧ x.fmod y = r := (Int.fdiv_fmod_unique hy).mpr ⟨e, h0, h1⟩
theorem fdm_neg {x y q r : Int} (hy : y < 0) (e : r + y * q = x) (h0 : r ≤ 0) (h1 : y < r) : x.fdiv y = q ∧ x.fmod y = r := (Int.fdiv_fmod_unique' hy).mpr ⟨e, h1, h0⟩

theorem RPre.up {u v m e left : Int} {k : Nat} (h : RPre u v m k e left) :
    ((u + m * v) * (2 * e + 1)).fdiv (2 * u) = e + 2 ^ k * m ∧ ((u + m * v) * (2 * e + 1)).fmod (2 * u) = u + m * (v - 2 * left) := by
  have hh := h.half.1
  obtain ⟨hD, _, hm⟩ := h
  have e1 : u + m * (v - 2 * left) + 2 * u * (e + 2 ^ k * m) = (u + m * v) * (2 * e + 1) := by
    have q : m * (2 ^ k * u) = m * (e * v + left) := by rw [hD]
    grind
  have e2 : m * (v - 2 * left) = m * v - 2 * (m * left) := by grind
  rcases hm with ⟨u0, p0, p1⟩ | ⟨u0, p1, p0⟩
  · exact fdm_pos (by omega) e1 (by omega) (by omega)
  · exact fdm_neg (by omega) e1 (by omega) (by omega)
theorem RPre.down {u v m e left : Int} {k : Nat} (h : RPre u v m k e left) :
    (u * (2 * (e + 2 ^ k * m) + 1)).fdiv (u + m * v) = 2 * e + plc v left ∧ (u * (2 * (e + 2 ^ k * m) + 1)).fmod (u + m * v) = u * (1 - plc v left) + m * (2 * left - plc v left * v) := by
  obtain ⟨hh, h0, h1⟩ := h.half
  obtain ⟨hD, _, hm⟩ := h
  have q : m * (2 ^ k * u) = m * (e * v + left) := by rw [hD]
  have e1 : u * (1 - plc v left) + m * (2 * left - plc v left * v) + (u + m * v) * (2 * e + plc v left) = u * (2 * (e + 2 ^ k * m) + 1) := by grind
  rcases plc_01 v left with hp | hp
  · rw [hp] at e1 ⊢
    have h0 := h0 hp
    have e2 : u * (1 - 0) + m * (2 * left - 0 * v) = u + 2 * (m * left) := by grind
    rw [e2] at e1 ⊢
    rcases hm with ⟨u0, p0, p1⟩ | ⟨u0, p1, p0⟩
    · exact fdm_pos (by omega) e1 (by omega) (by omega)
    · exact fdm_neg (by omega) e1 (by omega) (by omega)
  · rw [hp] at e1 ⊢
    have h1 := h1 hp
    have e2 : u * (1 - 1) + m * (2 * left - 1 * v) = 2 * (m * left) - m * v := by grind
    rw [e2] at e1 ⊢
    rcases hm with ⟨u0, p0, p1⟩ | ⟨u0, p1, p0⟩
    · exact fdm_pos (by omega) e1 (by omega) (by omega)
    · exact fdm_neg (by omega) e1 (by omega) (by omega)
theorem RPre.next {u v m e left : Int} {k : Nat} (h : RPre u v m k e left) : RPre u v m (k + 1) (2 * e + plc v left) (2 * left - plc v left * v) := by
  obtain ⟨hD, hl, hm⟩ := h
  refine ⟨by rw [Int.pow_succ]; grind, ?_, hm⟩
  unfold plc
  split <;> omega
end Mine
end

section
namespace Mine
theorem mm_ok {uu vv sd sz lo m : Int} (hlo : 0 < lo) (hsz : lo < sz) (hU : uu = sz ∨ uu = -sz) (hV : vv = lo ∨ vv = -lo) (hSd : (0 < uu * vv → sd = 1) ∧ (¬ 0 < uu * vv → sd = -1)) (hm0 : 0 < m) (hm : m * lo < sz) :
    (0 < uu ∧ 0 < (sd * m) * vv ∧ (sd * m) * vv < uu) ∨ (uu < 0 ∧ uu < (sd * m) * vv ∧ (sd * m) * vv < 0) := by
  have h1 := Int.mul_pos (show 0 < sz by omega) hlo
  have h2 := Int.mul_pos hm0 hlo
  rcases hU with rfl | rfl <;> rcases hV with rfl | rfl
  · have e := hSd.1 h1
    subst e
    rw [Int.one_mul]
    exact .inl ⟨by omega, h2, hm⟩
  · have e := hSd.2 (by rw [Int.mul_neg]; omega)
    subst e
    rw [Int.neg_mul, Int.one_mul, Int.neg_mul_neg]
    exact .inl ⟨by omega, h2, hm⟩
  · have e := hSd.2 (by rw [Int.neg_mul]; omega)
    subst e
    rw [Int.neg_mul, Int.one_mul, Int.neg_mul]
    exact .inr ⟨by omega, by omega, by omega⟩
  · have e := hSd.1 (by rw [Int.neg_mul_neg]; exact h1)
    subst e
    rw [Int.one_mul, Int.mul_neg]
    exact .inr ⟨by omega, by omega, by omega⟩
theorem mm_bd {sd m : Int} {c : Prop} (hSd : (c → sd = 1) ∧ (¬ c → sd = -1)) {B : Int} (h0 : 0 < m) (h : m < B) : -B < sd * m ∧ sd * m < B := by
  by_cases hc : c
  · rw [hSd.1 hc]; omega
  · rw [hSd.2 hc]; omega
theorem top_pos {tp lo sz : Int} (hlo : 0 < lo) (hsz : lo < sz) (h : sz - 1 < tp * lo + lo) : 0 < tp := by
  rcases Int.lt_or_le 0 tp with h0 | h0
  · exact h0
  · have := Int.mul_nonneg (show 0 ≤ -tp by omega) (show 0 ≤ lo by omega)
    rw [Int.neg_mul] at this
    omega
theorem m_le {m tp lo sz : Int} (hlo : 0 < lo) (h : m ≤ tp) (ht : tp * lo ≤ sz - 1) : m * lo < sz := by
  have := Int.mul_le_mul_of_nonneg_right h (show 0 ≤ lo by omega)
  omega
theorem top_le {tp lo sz : Int} (hlo : 0 < lo) (h0 : 0 < tp) (ht : tp * lo ≤ sz - 1) : tp < sz := by
  have := Int.mul_le_mul_of_nonneg_left (show 1 ≤ lo by omega) (show 0 ≤ tp by omega)
  omega
theorem pre0 {uu vv mm : Int} (hv : vv ≠ 0) (hm : (0 < uu ∧ 0 < mm * vv ∧ mm * vv < uu) ∨ (uu < 0 ∧ uu < mm * vv ∧ mm * vv < 0)) : RPre uu vv mm 0 (uu.fdiv vv) (uu.fmod vv) := by
  refine ⟨?_, ?_, hm⟩
  · have := Int.fmod_add_mul_fdiv uu vv
    rw [Int.pow_zero, Int.one_mul, Int.mul_comm]
    omega
  · rcases Int.lt_or_lt_of_ne hv with h | h
    · have e : uu.fmod vv = -((-uu).fmod (-vv)) := by rw [Int.neg_fmod_neg, Int.neg_neg]
      have a := Int.fmod_nonneg_of_pos (-uu) (show 0 < -vv by omega)
      have b := Int.fmod_lt_of_pos (-uu) (show 0 < -vv by omega)
      exact .inr ⟨h, by omega, by omega⟩
    · exact .inl ⟨h, Int.fmod_nonneg_of_pos uu h, Int.fmod_lt_of_pos uu h⟩
theorem fdiv_bd {uu vv B : Int} (hv : vv ≠ 0) (h1 : -B < uu) (h2 : uu < B) : -B ≤ uu.fdiv vv ∧ uu.fdiv vv ≤ B := by
  have h := PySem.natAbs_fdiv_le uu vv
  omega
end Mine
end

section
namespace Mine
/-- the state after k rounds: the quotient so far and its rest -/
def est (u v : Int) : Nat → Int × Int
  | 0 => (u.fdiv v, u.fmod v)
  | k + 1 => (2 * (est u v k).1 + plc v (est u v k).2, 2 * (est u v k).2 - plc v (est u v k).2 * v)
def pls (u v : Int) : Nat → List Int
  | 0 => []
  | k + 1 => plc v (est u v k).2 :: pls u v k
theorem est_pre {u v mm : Int} (hv : v ≠ 0) (hm : (0 < u ∧ 0 < mm * v ∧ mm * v < u) ∨ (u < 0 ∧ u < mm * v ∧ mm * v < 0)) : ∀ k, RPre u v mm k (est u v k).1 (est u v k).2
  | 0 => pre0 hv hm
  | k + 1 => (est_pre hv hm k).next
theorem est_bd {u v : Int} (hv : v ≠ 0) (h1 : -(2 ^ 31) < u) (h2 : u < 2 ^ 31) : ∀ k, k ≤ 6 → -(2 ^ (32 + k)) < (est u v k).1 ∧ (est u v k).1 < 2 ^ (32 + k)
  | 0, _ => by
    have := fdiv_bd hv h1 h2
    show -(2 ^ 32) < u.fdiv v ∧ u.fdiv v < 2 ^ 32
    omega
  | k + 1, hk => by
    have ih := est_bd hv h1 h2 k (by omega)
    have hp := plc_01 v (est u v k).2
    have e : (2 : Int) ^ (32 + (k + 1)) = 2 * 2 ^ (32 + k) := by rw [← Nat.add_assoc, Int.pow_succ, Int.mul_comm]
    rw [e]
    have e2 : (est u v (k + 1)).1 = 2 * (est u v k).1 + plc v (est u v k).2 := rfl
    rw [e2]
    have hpos : (0 : Int) < 2 ^ (32 + k) := Int.pow_pos (by decide)
    omega
theorem est_bd40 {u v : Int} (hv : v ≠ 0) (h1 : -(2 ^ 31) < u) (h2 : u < 2 ^ 31) (k : Nat) (hk : k ≤ 6) : -(2 ^ 40) < (est u v k).1 ∧ (est u v k).1 < 2 ^ 40 := by
  have h := est_bd hv h1 h2 k hk
  have e : (2 : Int) ^ (32 + k) ≤ 2 ^ 38 := by
    have := Nat.pow_le_pow_right (show 0 < 2 by decide) (show 32 + k ≤ 38 by omega)
    have q := Int.ofNat_le.mpr this
    simpa using q
  omega
theorem pls_len (u v : Int) : ∀ k, (pls u v k).length = k
  | 0 => rfl
  | k + 1 => by rw [pls, List.length_cons, pls_len]
theorem pls_in (u v : Int) : ∀ k, DigsIn 2 (pls u v k)
  | 0 => fun _ h => nomatch h
  | k + 1 => by
    intro d hd
    rw [pls] at hd
    rcases List.mem_cons.mp hd with rfl | hd
    · have := plc_01 v (est u v k).2
      omega
    · exact pls_in u v k d hd
/-- the places are the binary digits of what stands above the whole part -/
theorem est_val (u v : Int) : ∀ k, (est u v k).1 = 2 ^ k * (est u v 0).1 + val 2 (pls u v k)
  | 0 => by simp [pls, val]
  | k + 1 => by
    have ih := est_val u v k
    show 2 * (est u v k).1 + plc v (est u v k).2 = _
    rw [pls, val, ih, Int.pow_succ]
    grind
end Mine
end

section
open PySem PySem.W PyProof.Rows PySem.Calls PySem.Spec
set_option maxRecDepth 100000
namespace Mine
local macro_rules | `(tactic| k_lt $h:ident) => `(tactic| (replace $h := allLt_of $h; simp only [AllLt, and_true] at $h:ident; (try simp only [allLt_hi] at $h:ident)))
local macro_rules | `(tactic| k_all) => `(tactic| first | assumption | exact ne_of_hi (by (try dsimp only); omega))
local macro_rules | `(tactic| k_mem) => `(tactic| first | assumption | exact List.Mem.head _ | (refine List.mem_cons_of_mem _ ?_; k_mem))
local macro_rules | `(tactic| walk_at "eval Name") => `(tactic| (k_here; k_dflt (refine' nameX_F ?N ?c ?m ?d ?_ ?a ?b; (case a => rfl); (case b => rfl); (case N => k_asm); (case c => rfl); (case m => k_mem); (case d => k_asm); k_whole)))
local macro_rules | `(tactic| walk_at "binaryOp RShift int int") => `(tactic| (with_reducible refine rsh_r (by omega) (by omega) ?_; intro _ _ _ _))
local macro_rules | `(tactic| walk_at "binaryOp RShift int int") => `(tactic| (with_reducible refine rsh1_r ?_; intro _ _))
local macro_rules | `(tactic| walk_at "binaryOp Mult int int") => `(tactic| (with_reducible refine mul_r (by omega) (by omega) (by omega) (by omega) ?_; intro _ _ _ _))
local macro_rules | `(tactic| walk_at "binaryOp LShift int int") => `(tactic| (with_reducible refine lsh_r (by omega) (by omega) (Nat.le_trans (bits_le (k := 100) (by omega) (by omega)) (by omega)) ?_; intro _ _))
local macro_rules | `(tactic| walk_at "binaryOp BitXor int int") => `(tactic| (with_reducible refine xor_r (by assumption) (by assumption) (by omega) ?_; intro _ _ _ _))
local macro_rules | `(tactic| walk_at "callWith ref") => `(tactic| (k_here; k_dflt (refine' callWith_F ?k1 ?_; (case k1 => exact FnAt.of (by k_asm) (by k_mem)); k_whole)))
local macro_rules | `(tactic| walk_at "call ref") => `(tactic| (with_reducible refine halt ?_))
def secondOf : Stmt → Stmt
  | .FunctionDef _ _ (_ :: st :: _) _ _ _ _ _ _ _ => st
  | st => st
def bodyOf : Stmt → List Stmt
  | .FunctionDef _ _ b _ _ _ _ _ _ _ => b
  | _ => []
def parsOf (st : Stmt) : Arguments := match st with
  | .FunctionDef _ a _ _ _ _ _ _ _ _ => a
  | _ => default
def scopeOf (st : Stmt) : Scope := match st with
  | .FunctionDef _ _ _ _ _ _ sc _ _ _ => sc
  | _ => default
def inner1 : Stmt := match PySem.Challenge.pw_sw0084_01.main.body with
  | _ :: _ :: _ :: _ :: st :: _ => secondOf st
  | _ => default
/-- what a call of the inner def of _int2digits does, for spans up to 2 ^ N -/
def I1 (w : World) (p : Program) (loose : List Str) (mean : ExcName → Option Value) (mg mb : Str → Option Value) (f D : Addr) (cap : Nat) (n : Int) (news : List (Addr × Obj)) (N : Nat) : Prop :=
    ∀ (x Lo Hi : Int) (tx tl th : Tok) (vs : List Value) (ns : List Int), IntsAre vs ns → 0 ≤ Lo → Lo < Hi → Hi ≤ ns.length → ns.length ≤ 1000 → Hi - Lo ≤ 2 ^ N → 0 ≤ x → x < (2 ^ n.toNat) ^ (Hi - Lo).toNat → x < 2 ^ 100 →
    ∀ (dp un : Nat) (gd : Option (List Code)) (cn : Str) (cs : Scope) (a : Addr) (ccd : Value) (cl : List (Str × Addr)) (outer : List Env) (A₀ : Around) (base h₀ : Heap) (L : Addr) (m : Str → Option Value) (s : Shared) (Q E : Value → Shared → Prop),
    Below A₀ base outer h₀ → Fr h₀ L s.heap m → (swHead.heap_39 w.params).In h₀ → News h₀ L s.heap ((D, listOf vs.toArray cap) :: news) → Top p loose mean mg mb h₀ → cs.kind = .function →
    dp + N + 1 < recursionLimit → un + 8 * (N + 1) < cLine →
    (∀ vs' h' tk', IntsAre vs' (put (2 ^ n.toNat) ns Lo.toNat x (Hi - Lo).toNat) → Fr h₀ L h' m → News h₀ L h' ((D, listOf vs'.toArray cap) :: news) → Q .none { s with heap := h', toks := tk' }) →
    wpAny (model PySem.Challenge.rw_sw0084_01.row.prog w) (ktrTop dp un gd cn cs L a ccd cl outer) (call (.ref f) [.int x tx, .int Lo tl, .int Hi th]) Q E s
set_option maxHeartbeats 8000000 in
theorem inner1_ok {w : World} {p : Program} {loose : List Str} {mean : ExcName → Option Value} {mg mb : Str → Option Value}
    (f cA cI cN D c : Addr) (qual : Str) (doc pm ctv : Value) (oc oA oI oN : Obj) (vsc : Array Value) (tq : Tok) (n : Int) (tn : Tok) (cap : Nat) (news : List (Addr × Obj))
    (hf : (f, fnMade (Str.ofString "inner") qual (parsOf inner1) (bodyOf inner1) (scopeOf inner1) [(Str.ofString "n", cN), (Str.ofString "inner", cI), (Str.ofString "a_digits", cA)] doc pm c ctv) ∈ news)
    (hc : (c, oc) ∈ news) (hoc : oc.data = .fields vsc) (hq : vsc[1]? = some (.str qual tq))
    (hA : (cA, oA) ∈ news) (hAd : oA.data = .cell (some (.ref D))) (hI : (cI, oI) ∈ news) (hId : oI.data = .cell (some (.ref f))) (hN : (cN, oN) ∈ news) (hNd : oN.data = .cell (some (.int n tn)))
    (hD : ∀ p ∈ news, p.1 ≠ D) (hn : 0 < n) (hn2 : n ≤ 100) :
    ∀ N : Nat, N ≤ 10 → I1 w p loose mean mg mb f D cap n news N := by
  have e1 : bodyOf inner1 = bodyOf inner1 := rfl
  have e2 : parsOf inner1 = parsOf inner1 := rfl
  have e3 : scopeOf inner1 = scopeOf inner1 := rfl
  conv at e1 => rhs; whnf
  conv at e2 => rhs; whnf
  conv at e3 => rhs; whnf
  rw [e1, e2, e3] at hf
  clear e1 e2 e3
  intro N
  induction N using Nat.strongRecOn with
  | ind N ih =>
    intro hN10 x Lo Hi tx tl th vs ns hi hLo hLH hHi hns hsz hx0 hx hx2 dp un gd cn cs a ccd cl outer A₀ base h₀ L m s Q E B F X NN T hk hdp hun hret
    revert X; k_fill; intro X
    refine wpAny_call ?_
    (refine' code_nest ?k1 ?k2 ?k3 ?k4 ?k5 ?kA ?kF ?kK ?k6 ?k7 ?k8 ?k9 ?kB ?_ ?c2 ?c3 ?c4 ?c5; (case kA => exact rfl); (case kF => exact rfl); (case kK => assumption); (case k1 => k_asm); (case k2 => k_asm); (case k3 => k_asm); (case k4 => k_asm); (case k5 => k_asm); (case k6 => exact List.mem_cons_of_mem _ hf); (case k7 => exact codeRec_news (by k_asm) (List.mem_cons_of_mem _ hc) (by assumption) (by assumption)); (case k8 => ktr_room); (case k9 => exact BindsTo.of_eq rfl); (case c5 => decide); (case kB => exact locs rfl); (case c2 => exact rfl); (case c3 => exact rfl); (case c4 => exact rfl); k_whole; intro g' L' h' FG' F' N' B' X' T'; (try dsimp only); (try k_lift B'); (try k_fold))
    k_steps
    · rename_i hH _ _ _ hi' _ _ _ _ _ _
      refine hret _ _ _ ?_ (by assumption) (by assumption)
      rw [show (Hi - Lo).toNat = 1 by omega, put_one (by omega) hx0 (by rw [show (Hi - Lo).toNat = 1 by omega, Int.pow_one] at hx; exact hx)]
      exact hi'
    · rename_i hne M hM _ S hS hS0 _ _ U hU hU0 hUx _ V hV l hl hl0 hlx _ _ _
      unfold Halt
      obtain ⟨N', rfl⟩ : ∃ N', N = N' + 1 := by
        rcases N with _ | N'
        · simp at hsz; omega
        · exact ⟨N', rfl⟩
      have hp : (2 : Int) ^ (N' + 1) = 2 * 2 ^ N' := by rw [Int.pow_succ, Int.mul_comm]
      have hB : (0 : Int) < 2 ^ n.toNat := Int.pow_pos (by decide)
      have hpow : (2 : Int) ^ S.toNat = (2 ^ n.toNat) ^ (M - Lo).toNat := by
        rw [← Int.pow_mul, hS]
        congr 1
        rw [Int.toNat_mul (by omega) (by omega), Nat.mul_comm]
      have hpowS : (0 : Int) < 2 ^ S.toNat := Int.pow_pos (by decide)
      refine ih N' (Nat.lt_succ_self _) (by omega) l Lo M _ _ _ vs ns hi hLo (by omega) (by omega) hns (by omega) hl0 (by rw [hl, hpow]; exact Int.emod_lt_of_pos _ (by omega)) (by omega) _ _ _ _ _ _ _ _ _ _ _ _ _ _ _ _ _ (by k_asm) (by k_asm) (by k_asm) (by k_asm) (by k_asm) rfl (by ktr_room) (by ktr_units) ?_
      intro vs2 h2 tk2 hi2 F2 N2
      dsimp only
      k_steps
      unfold Halt
      have hlen := put_len (B := 2 ^ n.toNat) (ns := ns) (lo := Lo.toNat) (k := (M - Lo).toNat) (x := l) (by omega)
      have hab : (Hi - Lo).toNat = (M - Lo).toNat + (Hi - M).toNat := by omega
      have hUb : U < (2 ^ n.toNat) ^ (Hi - M).toNat := by
        rw [hU, hpow]
        refine Int.ediv_lt_of_lt_mul (Int.pow_pos hB) ?_
        rw [← Int.pow_add, Nat.add_comm, ← hab]
        exact hx
      refine ih N' (Nat.lt_succ_self _) (by omega) U M Hi _ _ _ vs2 _ hi2 (by omega) (by omega) (by omega) (by omega) (by omega) hU0 hUb (by omega) _ _ _ _ _ _ _ _ _ _ _ _ _ _ _ _ _ (by k_asm) (by k_asm) (by k_asm) (by k_asm) (by k_asm) rfl (by ktr_room) (by ktr_units) ?_
      intro vs3 h3 tk3 hi3 F3 N3
      dsimp only
      k_steps
      refine hret _ _ _ ?_ (by assumption) (by assumption)
      have hq := put_put hB (ns := ns) (lo := Lo.toNat) (a := (M - Lo).toNat) (b := (Hi - M).toNat) (x := x) (by omega)
      rw [hab, ← hq, ← hpow, ← hl, ← hU, show Lo.toNat + (M - Lo).toNat = M.toNat by omega]
      exact hi3
end Mine
end

section
open PySem PySem.W PyProof.Rows PySem.Calls PySem.Spec
set_option maxRecDepth 100000
namespace Mine
theorem ints_zero (k : Nat) (t : Tok) : IntsAre (List.replicate k (Value.int 0 t)) (List.replicate k (0 : Int)) := by
  induction k with
  | zero => exact .nil
  | succ k ih => rw [List.replicate_succ, List.replicate_succ]; exact .cons _ _ ih
theorem flat_one {α : Type} (x : α) (k : Nat) : (List.replicate k [x]).flatten = List.replicate k x := by
  induction k with
  | zero => rfl
  | succ k ih => rw [List.replicate_succ, List.flatten_cons, ih, List.replicate_succ]; rfl
theorem zeros_ok {prog : Program} {w : World} {A : Around} {E : Value → Shared → Prop} {s : Shared} {h₀ : Heap} {L l : Addr} {m : Str → Option Value} {news : List (Addr × Obj)} {t u : Tok} {x : Int} {k cap : Nat} {Q : Value → Shared → Prop}
    (F : Fr h₀ L s.heap m) (N : News h₀ L s.heap ((l, listOf #[.int 0 t] cap) :: news)) (hk : x = k) (hb : k ≤ 1000)
    (h : ∀ D h' vs, Fr h₀ L h' m → News h₀ L h' ((D, listOf vs.toArray 0) :: news) → (∀ p ∈ news, p.1 < D) → IntsAre vs (List.replicate k 0) → vs.toArray.size = k → Q (.ref D) { s with heap := h' }) :
    wpAny (model prog w) A (binaryOp .Mult (.ref l) (.int x u)) Q E s := by
  subst hk
  have hl : s.heap.IsList l [Value.int 0 t].toArray := ⟨_, (N _ (.head _)).1, rfl, cap, rfl⟩
  refine KM.mul F (fun p hp => N p (.tail _ hp)) hl (.cons 0 t .nil) (by omega) (by omega) (by simp; omega) ?_
  intro D h' F' N' l1 i1 _ _ _ _ _
  rw [Int.toNat_natCast, flat_one] at N' i1
  rw [flat_one] at i1
  exact h D h' _ F' N' l1 i1 (by rw [List.size_toArray, i1.length, List.length_replicate])
local macro_rules | `(tactic| k_lt $h:ident) => `(tactic| (replace $h := allLt_of $h; simp only [AllLt, and_true] at $h:ident; (try simp only [allLt_hi] at $h:ident)))
local macro_rules | `(tactic| k_all) => `(tactic| first | assumption | exact ne_of_hi (by (try dsimp only); omega) | exact List.forall_mem_nil _ | (refine List.forall_mem_cons.mpr ⟨by k_ne, ?_⟩; k_all))
local macro_rules | `(tactic| walk_at "binaryOp Mult ref int") => `(tactic| (k_here; k_dflt (refine' zeros_ok ?F ?N ?k ?z ?_; (case F => k_asm); (case N => k_asm); (case k => assumption); (case z => omega); k_whole); intro D' h' vs' F' N' l1 i1 hsz; k_lt l1; k_sweep))
local macro_rules | `(tactic| walk_at "call ref") => `(tactic| (with_reducible refine halt ?_))
def qual1 : Str := (Str.ofString "_int2digits" ++ ".<locals>.") ++ Str.ofString "inner"
theorem front {h₀ h : Heap} {L : Addr} {pre post : List (Addr × Obj)} {x : Addr × Obj} (N : News h₀ L h (pre ++ x :: post)) : News h₀ L h (x :: (pre ++ post)) := fun p hp => N p (by
  rcases List.mem_cons.mp hp with rfl | hp
  · exact List.mem_append_right _ (.head _)
  · rcases List.mem_append.mp hp with hp | hp
    · exact List.mem_append_left _ hp
    · exact List.mem_append_right _ (.tail _ hp))
theorem bits_zero : Builtin.Int.intBits 0 = 0 := rfl
theorem bits_pos {x : Int} (h : x ≠ 0) : 0 < Builtin.Int.intBits x := by
  rcases Nat.eq_zero_or_pos (Builtin.Int.intBits x) with h0 | h0
  · have := intBits_le_iff.mp (Nat.le_of_eq h0)
    rw [Nat.pow_zero] at this
    omega
  · exact h0
theorem lt_of_bits {x : Int} {k : Nat} (h0 : 0 ≤ x) (h : Builtin.Int.intBits x ≤ k) : x < 2 ^ k := by
  have h1 := Int.ofNat_lt.mpr (intBits_le_iff.mp h)
  rw [Int.natAbs_of_nonneg h0] at h1
  simpa using h1
theorem cnt_ok {x n : Int} (hx0 : 0 ≤ x) (hx : x < 2 ^ 100) (hn0 : 0 < n) :
    ∃ k : Nat, ((Builtin.Int.intBits x : Int) + n - 1).fdiv n = k ∧ k ≤ 100 ∧ k = ((Builtin.Int.intBits x + n.toNat - 1) / n.toNat) ∧ Builtin.Int.intBits x ≤ n.toNat * k ∧ (x ≠ 0 → 0 < k) ∧ (x = 0 → k = 0) ∧ x < (2 ^ n.toNat) ^ ((k : Int) - 0).toNat := by
  have hb := bits_le hx0 hx
  obtain ⟨n', rfl⟩ := Int.eq_ofNat_of_zero_le (show 0 ≤ n by omega)
  have hle : Builtin.Int.intBits x ≤ n' * ((Builtin.Int.intBits x + n' - 1) / n') := by
    have h1 := Nat.div_add_mod (Builtin.Int.intBits x + n' - 1) n'
    have h2 := Nat.mod_lt (Builtin.Int.intBits x + n' - 1) (show n' > 0 by omega)
    omega
  refine ⟨(Builtin.Int.intBits x + n' - 1) / n', ?_, ?_, rfl, hle, ?_, ?_, ?_⟩
  · rw [Int.fdiv_eq_ediv_of_nonneg _ (by omega), Int.natCast_ediv]
    congr 1
    omega
  · have : (Builtin.Int.intBits x + n' - 1) / n' < 101 := (Nat.div_lt_iff_lt_mul (by omega)).mpr (by omega)
    omega
  · intro h
    have := bits_pos h
    exact Nat.div_pos (by omega) (by omega)
  · rintro rfl
    rw [bits_zero]
    exact Nat.div_eq_of_lt (by omega)
  · rw [Int.sub_zero, Int.toNat_natCast, Int.toNat_natCast, ← Int.pow_mul]
    exact lt_of_bits hx0 hle
local macro_rules | `(tactic| k_mem) => `(tactic| first | assumption | exact List.Mem.head _ | (refine List.mem_cons_of_mem _ ?_; k_mem))
def RetI (x n : Int) (c : Addr) (news : List (Addr × Obj)) (h₀ : Heap) (L : Addr) (m : Str → Option Value) (s : Shared) (Q : Value → Shared → Prop) : Prop :=
  ∀ (k : Nat) (D : Addr) (vs : List Value) (cap : Nat) (ps' : Array Value) (c' : Addr) (oc' : Obj) (h' : Heap) (tk' : Nat), k = ((Builtin.Int.intBits x + n.toNat - 1) / n.toNat) → IntsAre vs (digs (2 ^ n.toNat) x k) →
      Fr h₀ L h' m → News h₀ L h' ((D, listOf vs.toArray cap) :: (30, tabObj ps') :: (c', oc') :: news) → TabSt 30 32 4 qual1 ps' c' oc' → @LT.lt Nat _ 30 D → @Ne Nat c' D → @LE.le Nat _ (hi news) D → (@Eq Nat c' c ∨ @LE.le Nat _ (hi news) c') → Q (.ref D) { s with heap := h', toks := tk' }
theorem retI_new {x n : Int} {c c' D : Addr} {oc' : Obj} {news full : List (Addr × Obj)} {h₀ h' : Heap} {L : Addr} {m : Str → Option Value} {s : Shared} {Q : Value → Shared → Prop} {k cap tk' : Nat} {vs : List Value} {vsc : Array Value} {tq : Tok}
    (hret : RetI x n c news h₀ L m s Q) (hk : k = ((Builtin.Int.intBits x + n.toNat - 1) / n.toNat)) (F : Fr h₀ L h' m) (N : News h₀ L h' full) (h1 : (D, listOf vs.toArray cap) ∈ full) (h2 : (30, tabObj (#[] ++ #[rawInt ((32 : Nat) : Int), rawInt ((4 : Nat) : Int), .ref c'])) ∈ full) (h3 : (c', oc') ∈ full)
    (h4 : ∀ p ∈ news, p ∈ full) (hfd : oc'.data = .fields vsc) (hq : vsc[1]? = some (.str qual1 tq)) (hi0 : IntsAre vs (digs (2 ^ n.toNat) x k)) (l1 : @LT.lt Nat _ 30 D ∧ @Ne Nat c' D ∧ @LE.le Nat _ (hi news) D ∧ @LE.le Nat _ (hi news) c') : Q (.ref D) { s with heap := h', toks := tk' } :=
  hret k D vs cap _ c' oc' h' tk' hk hi0 F (cb_drop N (List.forall_mem_cons.mpr ⟨h1, List.forall_mem_cons.mpr ⟨h2, List.forall_mem_cons.mpr ⟨h3, h4⟩⟩⟩)) (Or.inr ⟨vsc, tq, rfl, hfd, hq⟩) l1.1 l1.2.1 l1.2.2.1 (Or.inr l1.2.2.2)
theorem retI_old {x n : Int} {c D : Addr} {oc : Obj} {news full : List (Addr × Obj)} {h₀ h' : Heap} {L : Addr} {m : Str → Option Value} {s : Shared} {Q : Value → Shared → Prop} {k cap tk' : Nat} {vs : List Value} {vsc : Array Value} {tq : Tok}
    (hret : RetI x n c news h₀ L m s Q) (hk : k = ((Builtin.Int.intBits x + n.toNat - 1) / n.toNat)) (F : Fr h₀ L h' m) (N : News h₀ L h' full) (h1 : (D, listOf vs.toArray cap) ∈ full) (h2 : (30, tabObj #[rawInt ((32 : Nat) : Int), rawInt ((4 : Nat) : Int), .ref c]) ∈ full) (h3 : (c, oc) ∈ full)
    (h4 : ∀ p ∈ news, p ∈ full) (hfd : oc.data = .fields vsc) (hq : vsc[1]? = some (.str qual1 tq)) (hi0 : IntsAre vs (digs (2 ^ n.toNat) x k)) (l1 : @LT.lt Nat _ 30 D ∧ @Ne Nat c D ∧ @LE.le Nat _ (hi news) D) : Q (.ref D) { s with heap := h', toks := tk' } :=
  hret k D vs cap _ c oc h' tk' hk hi0 F (cb_drop N (List.forall_mem_cons.mpr ⟨h1, List.forall_mem_cons.mpr ⟨h2, List.forall_mem_cons.mpr ⟨h3, h4⟩⟩⟩)) (Or.inr ⟨vsc, tq, rfl, hfd, hq⟩) l1.1 l1.2.1 l1.2.2 (Or.inl rfl)
set_option maxHeartbeats 8000000 in
theorem i2d_ok {w : World} {p : Program} {loose : List Str} {mean : ExcName → Option Value} {mg mb : Str → Option Value}
    (x n : Int) (tx tn : Tok) (ps : Array Value) (c : Addr) (oc : Obj) (news : List (Addr × Obj)) (hx0 : 0 ≤ x) (hx : x < 2 ^ 100) (hn0 : 0 < n) (hn : n ≤ 100)
    (hst : TabSt 30 32 4 qual1 ps c oc) (h30 : ∀ p ∈ news, p.1 ≠ 30)
    (dp un : Nat) (gd : Option (List Code)) (cn : Str) (cs : Scope) (a : Addr) (ccd : Value) (cl : List (Str × Addr)) (outer : List Env) (A₀ : Around) (base h₀ : Heap) (L : Addr) (m : Str → Option Value) (s : Shared) (Q E : Value → Shared → Prop)
    (B : Below A₀ base outer h₀) (F : Fr h₀ L s.heap m) (X : (swHead.heap_39 w.params).In h₀) (N : News h₀ L s.heap ((30, tabObj ps) :: (c, oc) :: news)) (T : Top p loose mean mg mb h₀) (hk : cs.kind = .function)
    (C : CodeHd base 34 30)
    (hdp : dp + 20 < recursionLimit) (hun : un + 200 < cLine)
    (hret : RetI x n c news h₀ L m s Q) :
    wpAny (model PySem.Challenge.rw_sw0084_01.row.prog w) (ktrTop dp un gd cn cs L a ccd cl outer) (call (.ref 35) [.int x tx, .int n tn]) Q E s := by
  revert X; k_fill; intro X
  have hb := bits_le hx0 hx
  obtain ⟨k, hk1, hk2, hk3, hk4, hk5, hk6, hk7⟩ := cnt_ok hx0 hx hn0
  rcases hst with ⟨rfl, rfl, rfl⟩ | ⟨vsc, tq, rfl, hocd, hocq⟩
  · replace N : News h₀ L s.heap ((30, tabObj #[]) :: news) := fun p hp => N p (by rcases List.mem_cons.mp hp with rfl | hp; exact .head _; exact .tail _ (.tail _ hp))
    refine wpAny_call ?_
    (refine' code_defC ?k1 ?k2 ?k3 ?k4 ?k5 ?kA ?kF ?kK ?k6 ?k7 ?k8 ?k9 ?kB ?kD ?_ ?c2 ?c3 ?c4; (case kA => exact rfl); (case kF => exact rfl); (case kK => assumption); (case k1 => k_asm); (case k2 => k_asm); (case k3 => k_asm); (case k4 => k_asm); (case k5 => k_asm); (case k6 => k_is); (case k7 => k_is); (case k8 => ktr_room); (case k9 => exact BindsTo.of_eq rfl); (case kB => exact rfl); (case kD => decide +kernel); (case c2 => exact rfl); (case c3 => exact rfl); (case c4 => exact rfl); k_whole; intro g' L' h' tk' cells' FG' F' N' Y' B' X' T' l1; (try k_lt l1); k_cells Y'; (try simp only [List.cons_append, List.nil_append] at N'); (try dsimp only); (try k_lift B'); (try k_fold))
    k_steps
    · rename News _ _ _ _ => NL
      have NF := front (pre := [_, _]) NL
      simp only [List.cons_append, List.nil_append] at NF
      unfold Halt
      have hk0 := hk5 (by assumption)
      refine' inner1_ok _ (L' + 1 + 1) (L' + 1 + 1 + 1) (L' + 1) _ _ _ _ _ _ _ _ _ _ _ _ n tn 0 _ ?hf ?hc ?hoc ?hq ?hA ?hAd ?hI ?hId ?hN ?hNd ?hD hn0 hn 7 (by omega) x 0 k _ _ _ _ (List.replicate k 0) (by assumption) (by omega) (by omega) (by rw [List.length_replicate]; omega) (by rw [List.length_replicate]; omega) (by omega) hx0 ?hxB hx _ _ _ _ _ _ _ _ _ _ _ _ _ _ _ _ _ (by k_asm) (by k_asm) (by k_asm) NF (by k_asm) rfl (by ktr_room) (by ktr_units) ?_
      case hf => with_unfolding_all exact List.Mem.head _
      case hc => k_mem
      case hoc => assumption
      case hq => assumption
      case hA => k_mem
      case hI => k_mem
      case hN => k_mem
      case hAd => with_unfolding_all assumption
      case hId => with_unfolding_all assumption
      case hNd => with_unfolding_all assumption
      case hD => k_all
      case hxB => exact hk7
      all_goals (first | exact default | skip)
      intro vs2 h2 tk2 hi2 F2 N2
      dsimp only
      k_steps
      rename News _ _ _ _ => kN
      exact retI_new hret hk3 (by k_asm) kN (by k_mem) (by k_mem) (by k_mem) (fun p hp => by k_mem) (by assumption) (by assumption) (by rw [← put_all (ns := List.replicate k 0) (List.length_replicate ..)]; exact hi2) (by omega)
    · rename News _ _ _ _ => kN
      rename x = 0 => hx00
      have hk00 := hk6 hx00
      rename IntsAre _ (List.replicate k 0) => hi2
      exact retI_new hret hk3 (by k_asm) kN (by k_mem) (by k_mem) (by k_mem) (fun p hp => by k_mem) (by assumption) (by assumption) (by rw [hk00] at hi2 ⊢; exact hi2) (by omega)
  · refine wpAny_call ?_
    (refine' code_defC ?k1 ?k2 ?k3 ?k4 ?k5 ?kA ?kF ?kK ?k6 ?k7 ?k8 ?k9 ?kB ?kD ?_ ?c2 ?c3 ?c4; (case kA => exact rfl); (case kF => exact rfl); (case kK => assumption); (case k1 => k_asm); (case k2 => k_asm); (case k3 => k_asm); (case k4 => k_asm); (case k5 => k_asm); (case k6 => k_is); (case k7 => k_is); (case k8 => ktr_room); (case k9 => exact BindsTo.of_eq rfl); (case kB => exact rfl); (case kD => decide +kernel); (case c2 => exact rfl); (case c3 => exact rfl); (case c4 => exact rfl); k_whole; intro g' L' h' tk' cells' FG' F' N' Y' B' X' T' l1; (try k_lt l1); k_cells Y'; (try simp only [List.cons_append, List.nil_append] at N'); (try dsimp only); (try k_lift B'); (try k_fold))
    k_steps
    · rename News _ _ _ _ => NL
      have NF := front (pre := [_]) NL
      simp only [List.cons_append, List.nil_append] at NF
      unfold Halt
      have hk0 := hk5 (by assumption)
      refine' inner1_ok _ (L' + 1 + 1) (L' + 1 + 1 + 1) (L' + 1) _ _ _ _ _ _ _ _ _ _ _ _ n tn 0 _ ?hf ?hc ?hoc ?hq ?hA ?hAd ?hI ?hId ?hN ?hNd ?hD hn0 hn 7 (by omega) x 0 k _ _ _ _ (List.replicate k 0) (by assumption) (by omega) (by omega) (by rw [List.length_replicate]; omega) (by rw [List.length_replicate]; omega) (by omega) hx0 ?hxB hx _ _ _ _ _ _ _ _ _ _ _ _ _ _ _ _ _ (by k_asm) (by k_asm) (by k_asm) NF (by k_asm) rfl (by ktr_room) (by ktr_units) ?_
      case hf => with_unfolding_all exact List.Mem.head _
      case hc => k_mem
      case hoc => exact hocd
      case hq => with_unfolding_all exact hocq
      case hA => k_mem
      case hI => k_mem
      case hN => k_mem
      case hAd => with_unfolding_all assumption
      case hId => with_unfolding_all assumption
      case hNd => with_unfolding_all assumption
      case hD => k_all
      case hxB => exact hk7
      all_goals (first | exact default | skip)
      intro vs2 h2 tk2 hi2 F2 N2
      dsimp only
      k_steps
      rename News _ _ _ _ => kN
      exact retI_old hret hk3 (by k_asm) kN (by k_mem) (by k_mem) (by k_mem) (fun p hp => by k_mem) hocd hocq (by rw [← put_all (ns := List.replicate k 0) (List.length_replicate ..)]; exact hi2) (by omega)
    · rename News _ _ _ _ => kN
      rename x = 0 => hx00
      have hk00 := hk6 hx00
      rename IntsAre _ (List.replicate k 0) => hi2
      exact retI_old hret hk3 (by k_asm) kN (by k_mem) (by k_mem) (by k_mem) (fun p hp => by k_mem) hocd hocq (by rw [hk00] at hi2 ⊢; exact hi2) (by omega)
end Mine
end

section
open PySem PySem.W PyProof.Rows PySem.Calls PySem.Spec
set_option maxRecDepth 100000
namespace Mine
theorem seg_one {ns : List Int} {lo : Nat} (h : lo < ns.length) (B : Int) : val B ((ns.drop lo).take 1) = ns.getD lo 0 := by
  rw [List.drop_eq_getElem_cons h, List.take_succ_cons, List.take_zero, val, val, Int.mul_zero, Int.add_zero, List.getD_eq_getElem?_getD, List.getElem?_eq_getElem h]
  rfl
theorem seg_add {ns : List Int} {lo a b : Nat} (h : lo + a + b ≤ ns.length) (B : Int) : val B ((ns.drop (lo + a)).take b) * B ^ a + val B ((ns.drop lo).take a) = val B ((ns.drop lo).take (a + b)) := by
  rw [List.take_add, val_append, List.length_take, List.length_drop, List.drop_drop, Nat.min_eq_left (by omega), Int.mul_comm, Int.add_comm]
theorem seg_in {ns : List Int} {B : Int} (h : DigsIn B ns) (lo k : Nat) : DigsIn B ((ns.drop lo).take k) := fun d hd => h d (List.mem_of_mem_drop (List.mem_of_mem_take hd))
theorem seg_bits {ns : List Int} {n : Int} (hn0 : 0 < n) (hn : n ≤ 100) (h : DigsIn (2 ^ n.toNat) ns) (lo k : Nat) (hk : k ≤ 1000) (hl : lo + k ≤ ns.length) : Builtin.Int.intBits (val (2 ^ n.toNat) ((ns.drop lo).take k)) ≤ 100000 := by
  have h1 := val_in (2 ^ n.toNat) (Int.pow_pos (by decide)) _ (seg_in h lo k)
  rw [List.length_take, List.length_drop, Nat.min_eq_left (by omega), ← Int.pow_mul] at h1
  have h2 := bits_le h1.1 h1.2
  refine Nat.le_trans h2 (Nat.le_trans (Nat.mul_le_mul (show n.toNat ≤ 100 by omega) hk) (by decide))
local macro_rules | `(tactic| k_lt $h:ident) => `(tactic| (replace $h := allLt_of $h; simp only [AllLt, and_true] at $h:ident; (try simp only [allLt_hi] at $h:ident)))
local macro_rules | `(tactic| k_all) => `(tactic| first | assumption | exact ne_of_hi (by (try dsimp only); omega) | exact List.forall_mem_nil _ | (refine List.forall_mem_cons.mpr ⟨by k_ne, ?_⟩; k_all))
local macro_rules | `(tactic| k_mem) => `(tactic| first | assumption | exact List.Mem.head _ | (refine List.mem_cons_of_mem _ ?_; k_mem))
local macro_rules | `(tactic| walk_at "eval Name") => `(tactic| (k_here; k_dflt (refine' nameX_F ?N ?c ?m ?d ?_ ?a ?b; (case a => rfl); (case b => rfl); (case N => k_asm); (case c => rfl); (case m => k_mem); (case d => k_asm); k_whole)))
local macro_rules | `(tactic| walk_at "binaryOp RShift int int") => `(tactic| (with_reducible refine rsh1_r ?_; intro _ _))
local macro_rules | `(tactic| walk_at "binaryOp Mult int int") => `(tactic| (with_reducible refine mul_r (by omega) (by omega) (by omega) (by omega) ?_; intro _ _ _ _))
local macro_rules | `(tactic| walk_at "binaryOp LShift int int") => `(tactic| (with_reducible refine lsh_r (by omega) (by omega) (by assumption) ?_; intro _ _))
local macro_rules | `(tactic| walk_at "callWith ref") => `(tactic| (k_here; k_dflt (refine' callWith_F ?k1 ?_; (case k1 => exact FnAt.of (by k_asm) (by k_mem)); k_whole)))
local macro_rules | `(tactic| walk_at "call ref") => `(tactic| (with_reducible refine halt ?_))
def inner2 : Stmt := match PySem.Challenge.pw_sw0084_01.main.body with
  | _ :: _ :: _ :: _ :: _ :: .FunctionDef _ _ (st :: _) _ _ _ _ _ _ _ :: _ => st
  | _ => default
/-- what a call of the inner def of _digits2int does, for spans up to 2 ^ N -/
def I2 (w : World) (p : Program) (loose : List Str) (mean : ExcName → Option Value) (mg mb : Str → Option Value) (f : Addr) (n : Int) (ns : List Int) (news : List (Addr × Obj)) (N : Nat) : Prop :=
    ∀ (Lo Hi : Int) (tl th : Tok), 0 ≤ Lo → Lo < Hi → Hi ≤ ns.length → Hi - Lo ≤ 2 ^ N →
    ∀ (dp un : Nat) (gd : Option (List Code)) (cn : Str) (cs : Scope) (a : Addr) (ccd : Value) (cl : List (Str × Addr)) (outer : List Env) (A₀ : Around) (base h₀ : Heap) (L : Addr) (m : Str → Option Value) (s : Shared) (Q E : Value → Shared → Prop),
    Below A₀ base outer h₀ → Fr h₀ L s.heap m → (swHead.heap_39 w.params).In h₀ → News h₀ L s.heap news → Top p loose mean mg mb h₀ → cs.kind = .function →
    dp + N + 1 < recursionLimit → un + 8 * (N + 1) < cLine →
    (∀ t h' tk', Fr h₀ L h' m → News h₀ L h' news → Q (.int (val (2 ^ n.toNat) ((ns.drop Lo.toNat).take (Hi - Lo).toNat)) t) { s with heap := h', toks := tk' }) →
    wpAny (model PySem.Challenge.rw_sw0084_01.row.prog w) (ktrTop dp un gd cn cs L a ccd cl outer) (call (.ref f) [.int Lo tl, .int Hi th]) Q E s
set_option maxHeartbeats 8000000 in
theorem inner2_ok {w : World} {p : Program} {loose : List Str} {mean : ExcName → Option Value} {mg mb : Str → Option Value}
    (f cA cI cN D c : Addr) (qual : Str) (doc pm ctv : Value) (oc oA oI oN : Obj) (vsc : Array Value) (tq : Tok) (n : Int) (tn : Tok) (vs : List Value) (ns : List Int) (cap : Nat) (news : List (Addr × Obj))
    (hf : (f, fnMade (Str.ofString "inner") qual (parsOf inner2) (bodyOf inner2) (scopeOf inner2) [(Str.ofString "n", cN), (Str.ofString "inner", cI), (Str.ofString "digits", cA)] doc pm c ctv) ∈ news)
    (hc : (c, oc) ∈ news) (hoc : oc.data = .fields vsc) (hq : vsc[1]? = some (.str qual tq))
    (hA : (cA, oA) ∈ news) (hAd : oA.data = .cell (some (.ref D))) (hI : (cI, oI) ∈ news) (hId : oI.data = .cell (some (.ref f))) (hN : (cN, oN) ∈ news) (hNd : oN.data = .cell (some (.int n tn)))
    (hD : (D, listOf vs.toArray cap) ∈ news) (hi : IntsAre vs ns) (hns : ns.length ≤ 1000) (hds : DigsIn (2 ^ n.toNat) ns) (hn : 0 < n) (hn2 : n ≤ 100) :
    ∀ N : Nat, N ≤ 10 → I2 w p loose mean mg mb f n ns news N := by
  have e1 : bodyOf inner2 = bodyOf inner2 := rfl
  have e2 : parsOf inner2 = parsOf inner2 := rfl
  have e3 : scopeOf inner2 = scopeOf inner2 := rfl
  conv at e1 => rhs; whnf
  conv at e2 => rhs; whnf
  conv at e3 => rhs; whnf
  rw [e1, e2, e3] at hf
  clear e1 e2 e3
  intro N
  induction N using Nat.strongRecOn with
  | ind N ih =>
    intro hN10 Lo Hi tl th hLo hLH hHi hsz dp un gd cn cs a ccd cl outer A₀ base h₀ L m s Q E B F X NN T hk hdp hun hret
    revert X; k_fill; intro X
    refine wpAny_call ?_
    (refine' code_nest ?k1 ?k2 ?k3 ?k4 ?k5 ?kA ?kF ?kK ?k6 ?k7 ?k8 ?k9 ?kB ?_ ?c2 ?c3 ?c4 ?c5; (case kA => exact rfl); (case kF => exact rfl); (case kK => assumption); (case k1 => k_asm); (case k2 => k_asm); (case k3 => k_asm); (case k4 => k_asm); (case k5 => k_asm); (case k6 => exact hf); (case k7 => exact codeRec_news (by k_asm) hc (by assumption) (by assumption)); (case k8 => ktr_room); (case k9 => exact BindsTo.of_eq rfl); (case c5 => decide); (case kB => exact locs rfl); (case c2 => exact rfl); (case c3 => exact rfl); (case c4 => exact rfl); k_whole; intro g' L' h' FG' F' N' B' X' T'; (try dsimp only); (try k_lift B'); (try k_fold))
    k_steps
    · refine cb_retI hret ?_ (by k_asm) (by k_asm)
      rw [show (Hi - Lo).toNat = 1 by omega, seg_one (by omega)]
    · rename (_ : Int) = (Lo + Hi) / 2 => hM
      rename (_ : Int) = _ * n => hS
      rename_i hne M _ S hS0 hS1 _ _ _
      unfold Halt
      obtain ⟨N', rfl⟩ : ∃ N', N = N' + 1 := by
        rcases N with _ | N'
        · simp at hsz; omega
        · exact ⟨N', rfl⟩
      have hp : (2 : Int) ^ (N' + 1) = 2 * 2 ^ N' := by rw [Int.pow_succ, Int.mul_comm]
      have hpow : (2 : Int) ^ S.toNat = (2 ^ n.toNat) ^ (M - Lo).toNat := by
        rw [← Int.pow_mul, hS]
        congr 1
        rw [Int.toNat_mul (by omega) (by omega), Nat.mul_comm]
      refine ih N' (Nat.lt_succ_self _) (by omega) M Hi _ _ (by omega) (by omega) hHi (by omega) _ _ _ _ _ _ _ _ _ _ _ _ _ _ _ _ _ (by k_asm) (by k_asm) (by k_asm) (by k_asm) (by k_asm) rfl (by ktr_room) (by ktr_units) ?_
      intro t2 h2 tk2 F2 N2
      have hbits := seg_bits hn hn2 hds M.toNat (Hi - M).toNat (by omega) (by omega)
      dsimp only
      k_steps
      rename (_ : Int) = _ * 2 ^ S.toNat => hV
      unfold Halt
      refine ih N' (Nat.lt_succ_self _) (by omega) Lo M _ _ (by omega) (by omega) (by omega) (by omega) _ _ _ _ _ _ _ _ _ _ _ _ _ _ _ _ _ (by k_asm) (by k_asm) (by k_asm) (by k_asm) (by k_asm) rfl (by ktr_room) (by ktr_units) ?_
      intro t3 h3 tk3 F3 N3
      dsimp only
      k_steps
      refine cb_retI hret ?_ (by k_asm) (by k_asm)
      rw [hV, hpow, show (Hi - Lo).toNat = (M - Lo).toNat + (Hi - M).toNat by omega, ← seg_add (by omega), show Lo.toNat + (M - Lo).toNat = M.toNat by omega]
end Mine
end

section
open PySem PySem.W PyProof.Rows PySem.Calls PySem.Spec
set_option maxRecDepth 100000
namespace Mine
local macro_rules | `(tactic| k_lt $h:ident) => `(tactic| (replace $h := allLt_of $h; simp only [AllLt, and_true] at $h:ident; (try simp only [allLt_hi] at $h:ident)))
local macro_rules | `(tactic| k_all) => `(tactic| first | assumption | exact ne_of_hi (by (try dsimp only); omega) | exact List.forall_mem_nil _ | (refine List.forall_mem_cons.mpr ⟨by k_ne, ?_⟩; k_all))
local macro_rules | `(tactic| k_mem) => `(tactic| first | assumption | exact List.Mem.head _ | (refine List.mem_cons_of_mem _ ?_; k_mem))
local macro_rules | `(tactic| walk_at "call ref") => `(tactic| (with_reducible refine halt ?_))
def qual2 : Str := (Str.ofString "_digits2int" ++ ".<locals>.") ++ Str.ofString "inner"
def RetD (v : Int) (c : Addr) (news : List (Addr × Obj)) (h₀ : Heap) (L : Addr) (m : Str → Option Value) (s : Shared) (Q : Value → Shared → Prop) : Prop :=
  ∀ (t : Tok) (ps' : Array Value) (c' : Addr) (oc' : Obj) (h' : Heap) (tk' : Nat), 
      Fr h₀ L h' m → News h₀ L h' ((37, tabObj ps') :: (c', oc') :: news) → TabSt 37 47 4 qual2 ps' c' oc' → (@Eq Nat c' c ∨ @LE.le Nat _ (hi news) c') → Q (.int v t) { s with heap := h', toks := tk' }
theorem retD_new {v : Int} {c c' : Addr} {oc' : Obj} {news full : List (Addr × Obj)} {h₀ h' : Heap} {L : Addr} {m : Str → Option Value} {s : Shared} {Q : Value → Shared → Prop} {tk' : Nat} {t : Tok} {vsc : Array Value} {tq : Tok} {v' : Int}
    (hret : RetD v c news h₀ L m s Q) (hv : v' = v) (F : Fr h₀ L h' m) (N : News h₀ L h' full) (h2 : (37, tabObj (#[] ++ #[rawInt ((47 : Nat) : Int), rawInt ((4 : Nat) : Int), .ref c'])) ∈ full) (h3 : (c', oc') ∈ full)
    (h4 : ∀ p ∈ news, p ∈ full) (hfd : oc'.data = .fields vsc) (hq : vsc[1]? = some (.str qual2 tq)) (l1 : @LE.le Nat _ (hi news) c') : Q (.int v' t) { s with heap := h', toks := tk' } := by
  subst hv
  exact hret t _ c' oc' h' tk' F (cb_drop N (List.forall_mem_cons.mpr ⟨h2, List.forall_mem_cons.mpr ⟨h3, h4⟩⟩)) (Or.inr ⟨vsc, tq, rfl, hfd, hq⟩) (Or.inr l1)
theorem retD_old {v : Int} {c : Addr} {oc : Obj} {news full : List (Addr × Obj)} {h₀ h' : Heap} {L : Addr} {m : Str → Option Value} {s : Shared} {Q : Value → Shared → Prop} {tk' : Nat} {t : Tok} {vsc : Array Value} {tq : Tok} {v' : Int}
    (hret : RetD v c news h₀ L m s Q) (hv : v' = v) (F : Fr h₀ L h' m) (N : News h₀ L h' full) (h2 : (37, tabObj #[rawInt ((47 : Nat) : Int), rawInt ((4 : Nat) : Int), .ref c]) ∈ full) (h3 : (c, oc) ∈ full)
    (h4 : ∀ p ∈ news, p ∈ full) (hfd : oc.data = .fields vsc) (hq : vsc[1]? = some (.str qual2 tq)) : Q (.int v' t) { s with heap := h', toks := tk' } := by
  subst hv
  exact hret t _ c oc h' tk' F (cb_drop N (List.forall_mem_cons.mpr ⟨h2, List.forall_mem_cons.mpr ⟨h3, h4⟩⟩)) (Or.inr ⟨vsc, tq, rfl, hfd, hq⟩) (Or.inl rfl)
theorem truthy_made {prog : Program} {w : World} {A : Around} {E : Value → Shared → Prop} {s : Shared} {h₀ : Heap} {L D : Addr} {news : List (Addr × Obj)} {vs : List Value} {cap k : Nat} {Q : Bool → Shared → Prop}
    (N : News h₀ L s.heap news) (hm : (D, listOf vs.toArray cap) ∈ news) (hk : vs.toArray.size = k) (hb : k ≤ 1000) (h1 : k = 0 → Q false { s with toks := s.toks + 1 + 1 }) (h2 : k ≠ 0 → Q true { s with toks := s.toks + 1 + 1 }) : wpAny (model prog w) A (truthy (.ref D)) Q E s := by
  refine wpAny_truthy_list (News.isList N hm) (by omega) ?_
  have e : (!vs.toArray.isEmpty) = !decide (k = 0) := by unfold Array.isEmpty; rw [hk]
  rw [e]
  by_cases h : k = 0
  · rw [decide_eq_true h]; exact h1 h
  · rw [decide_eq_false h]; exact h2 h
local macro_rules | `(tactic| walk_at "truthy ref") => `(tactic| (k_here; k_dflt (refine' truthy_made ?N ?m ?k ?b ?_ ?_; (case N => k_asm); (case m => k_mem); (case k => assumption); (case b => omega)); (all_goals intro _); (all_goals (try dsimp only))))
set_option maxHeartbeats 8000000 in
theorem d2i_ok {w : World} {p : Program} {loose : List Str} {mean : ExcName → Option Value} {mg mb : Str → Option Value}
    (n : Int) (tn : Tok) (D : Addr) (vs : List Value) (ns : List Int) (cap : Nat) (ps : Array Value) (c : Addr) (oc : Obj) (news : List (Addr × Obj)) (hDm : (D, listOf vs.toArray cap) ∈ news) (hi0 : IntsAre vs ns) (hns : ns.length ≤ 1000) (hds : DigsIn (2 ^ n.toNat) ns) (hn0 : 0 < n) (hn : n ≤ 100)
    (hst : TabSt 37 47 4 qual2 ps c oc) (h37 : ∀ p ∈ news, p.1 ≠ 37)
    (dp un : Nat) (gd : Option (List Code)) (cn : Str) (cs : Scope) (a : Addr) (ccd : Value) (cl : List (Str × Addr)) (outer : List Env) (A₀ : Around) (base h₀ : Heap) (L : Addr) (m : Str → Option Value) (s : Shared) (Q E : Value → Shared → Prop)
    (B : Below A₀ base outer h₀) (F : Fr h₀ L s.heap m) (X : (swHead.heap_39 w.params).In h₀) (N : News h₀ L s.heap ((37, tabObj ps) :: (c, oc) :: news)) (T : Top p loose mean mg mb h₀) (hk : cs.kind = .function)
    (C : CodeHd base 41 37)
    (hdp : dp + 20 < recursionLimit) (hun : un + 200 < cLine)
    (hret : RetD (val (2 ^ n.toNat) ns) c news h₀ L m s Q) :
    wpAny (model PySem.Challenge.rw_sw0084_01.row.prog w) (ktrTop dp un gd cn cs L a ccd cl outer) (call (.ref 42) [.ref D, .int n tn]) Q E s := by
  revert X; k_fill; intro X
  have hlen : vs.toArray.size = ns.length := by rw [List.size_toArray, hi0.length]
  rcases hst with ⟨rfl, rfl, rfl⟩ | ⟨vsc, tq, rfl, hocd, hocq⟩
  · replace N : News h₀ L s.heap ((37, tabObj #[]) :: news) := fun p hp => N p (by rcases List.mem_cons.mp hp with rfl | hp; exact .head _; exact .tail _ (.tail _ hp))
    refine wpAny_call ?_
    (refine' code_defC ?k1 ?k2 ?k3 ?k4 ?k5 ?kA ?kF ?kK ?k6 ?k7 ?k8 ?k9 ?kB ?kD ?_ ?c2 ?c3 ?c4; (case kA => exact rfl); (case kF => exact rfl); (case kK => assumption); (case k1 => k_asm); (case k2 => k_asm); (case k3 => k_asm); (case k4 => k_asm); (case k5 => k_asm); (case k6 => k_is); (case k7 => k_is); (case k8 => ktr_room); (case k9 => exact BindsTo.of_eq rfl); (case kB => exact rfl); (case kD => decide +kernel); (case c2 => exact rfl); (case c3 => exact rfl); (case c4 => exact rfl); k_whole; intro g' L' h' tk' cells' FG' F' N' Y' B' X' T' l1; (try k_lt l1); k_cells Y'; (try simp only [List.cons_append, List.nil_append] at N'); (try dsimp only); (try k_lift B'); (try k_fold))
    k_steps
    · rename ns.length = 0 => hn00
      rename News _ _ _ _ => kN
      exact retD_new hret (by rw [List.eq_nil_of_length_eq_zero hn00]; rfl) (by k_asm) kN (by k_mem) (by k_mem) (fun p hp => by k_mem) (by assumption) (by assumption) (by omega)
    · rename ns.length ≠ 0 => hn00
      rename News _ _ _ _ => NL
      unfold Halt
      refine' inner2_ok _ (L' + 1) (L' + 1 + 1 + 1) (L' + 1 + 1) D _ _ _ _ _ _ _ _ _ _ _ n tn vs ns cap _ ?hf ?hc ?hoc ?hq ?hA ?hAd ?hI ?hId ?hN ?hNd ?hD hi0 hns hds hn0 hn 10 (by omega) 0 ns.length _ _ (by omega) (by omega) (by omega) (by omega) _ _ _ _ _ _ _ _ _ _ _ _ _ _ _ _ _ (by k_asm) (by k_asm) (by k_asm) NL (by k_asm) rfl (by ktr_room) (by ktr_units) ?_
      case hf => with_unfolding_all exact List.Mem.head _
      case hc => k_mem
      case hoc => assumption
      case hq => assumption
      case hA => k_mem
      case hI => k_mem
      case hN => k_mem
      case hAd => with_unfolding_all assumption
      case hId => with_unfolding_all assumption
      case hNd => with_unfolding_all assumption
      case hD => k_mem
      all_goals (first | exact default | skip)
      intro t2 h2 tk2 F2 N2
      dsimp only
      k_steps
      rename News _ _ _ _ => kN
      exact retD_new hret (by rw [show ((ns.length : Int) - 0).toNat = ns.length by omega, show (0 : Int).toNat = 0 from rfl, List.drop_zero, List.take_length]) (by k_asm) kN (by k_mem) (by k_mem) (fun p hp => by k_mem) (by assumption) (by assumption) (by omega)
  · refine wpAny_call ?_
    (refine' code_defC ?k1 ?k2 ?k3 ?k4 ?k5 ?kA ?kF ?kK ?k6 ?k7 ?k8 ?k9 ?kB ?kD ?_ ?c2 ?c3 ?c4; (case kA => exact rfl); (case kF => exact rfl); (case kK => assumption); (case k1 => k_asm); (case k2 => k_asm); (case k3 => k_asm); (case k4 => k_asm); (case k5 => k_asm); (case k6 => k_is); (case k7 => k_is); (case k8 => ktr_room); (case k9 => exact BindsTo.of_eq rfl); (case kB => exact rfl); (case kD => decide +kernel); (case c2 => exact rfl); (case c3 => exact rfl); (case c4 => exact rfl); k_whole; intro g' L' h' tk' cells' FG' F' N' Y' B' X' T' l1; (try k_lt l1); k_cells Y'; (try simp only [List.cons_append, List.nil_append] at N'); (try dsimp only); (try k_lift B'); (try k_fold))
    k_steps
    · rename ns.length = 0 => hn00
      rename News _ _ _ _ => kN
      exact retD_old hret (by rw [List.eq_nil_of_length_eq_zero hn00]; rfl) (by k_asm) kN (by k_mem) (by k_mem) (fun p hp => by k_mem) hocd hocq
    · rename ns.length ≠ 0 => hn00
      rename News _ _ _ _ => NL
      unfold Halt
      refine' inner2_ok _ (L' + 1) (L' + 1 + 1 + 1) (L' + 1 + 1) D _ _ _ _ _ _ _ _ _ _ _ n tn vs ns cap _ ?hf ?hc ?hoc ?hq ?hA ?hAd ?hI ?hId ?hN ?hNd ?hD hi0 hns hds hn0 hn 10 (by omega) 0 ns.length _ _ (by omega) (by omega) (by omega) (by omega) _ _ _ _ _ _ _ _ _ _ _ _ _ _ _ _ _ (by k_asm) (by k_asm) (by k_asm) NL (by k_asm) rfl (by ktr_room) (by ktr_units) ?_
      case hf => with_unfolding_all exact List.Mem.head _
      case hc => k_mem
      case hoc => exact hocd
      case hq => with_unfolding_all exact hocq
      case hA => k_mem
      case hI => k_mem
      case hN => k_mem
      case hAd => with_unfolding_all assumption
      case hId => with_unfolding_all assumption
      case hNd => with_unfolding_all assumption
      case hD => k_mem
      all_goals (first | exact default | skip)
      intro t2 h2 tk2 F2 N2
      dsimp only
      k_steps
      rename News _ _ _ _ => kN
      exact retD_old hret (by rw [show ((ns.length : Int) - 0).toNat = ns.length by omega, show (0 : Int).toNat = 0 from rfl, List.drop_zero, List.take_length]) (by k_asm) kN (by k_mem) (by k_mem) (fun p hp => by k_mem) hocd hocq
end Mine
end

section
open PySem PySem.W PyProof.Rows PySem.Calls PySem.Spec
set_option maxRecDepth 100000
namespace Mine
local macro_rules | `(tactic| k_lt $h:ident) => `(tactic| (replace $h := allLt_of $h; simp only [AllLt, and_true] at $h:ident; (try simp only [allLt_hi] at $h:ident)))
theorem divmod_r {prog : Program} {w : World} {A : Around} {E : Value → Shared → Prop} {s : Shared} {h₀ : Heap} {L : Addr} {m : Str → Option Value} {news : List (Addr × Obj)} {x y : Int} {t u : Tok} {Q : Value → Shared → Prop}
    (F : Fr h₀ L s.heap m) (N : News h₀ L s.heap news) (hy : y ≠ 0) (hy2 : y.natAbs < 2 ^ 200)
    (h : ∀ (D : Addr) (t1 t2 : Tok) (c : Nat) (h' : Heap) (tk : Nat), Fr h₀ L h' m → News h₀ L h' ((D, tup2 (x.fdiv y) (x.fmod y) t1 t2 c) :: news) → (∀ p ∈ news, p.1 < D) → Q (.ref D) { s with heap := h', toks := tk }) :
    wpAny (model prog w) A (call (.builtin "divmod") [.int x t, .int y u]) Q E s :=
  divmod_N F N hy (fun h' F' N' => h _ _ _ _ h' _ F' N' (news_lt N)) (Or.inl (noPy hy2))
local macro_rules | `(tactic| walk_at "call builtin:divmod") => `(tactic| ((with_reducible show wpAny _ _ (call (Value.builtin _) [Value.int _ _, Value.int _ _]) _ _ _); refine divmod_r (by assumption) (by assumption) (by omega) (by omega) ?_; intro _ _ _ _ _ _ _ _ _))
set_option maxHeartbeats 8000000 in
theorem div2n1n_ok {w : World} {p : Program} {loose : List Str} {mean : ExcName → Option Value} {mg mb : Str → Option Value}
    (x y n : Int) (tx ty tn : Tok) (news : List (Addr × Obj)) (hy : 0 < y) (hb : (Builtin.Int.intBits x : Int) - n ≤ 4000) (hy2 : y < 2 ^ 200)
    (dp un : Nat) (gd : Option (List Code)) (cn : Str) (cs : Scope) (a : Addr) (ccd : Value) (cl : List (Str × Addr)) (outer : List Env) (A₀ : Around) (base h₀ : Heap) (L : Addr) (m : Str → Option Value) (s : Shared) (Q E : Value → Shared → Prop)
    (B : Below A₀ base outer h₀) (F : Fr h₀ L s.heap m) (X : (swHead.heap_39 w.params).In h₀) (N : News h₀ L s.heap news) (T : Top p loose mean mg mb h₀) (hk : cs.kind = .function)
    (hdp : dp + 1 < recursionLimit) (hun : un + 8 < cLine)
    (hret : ∀ (D : Addr) (t1 t2 : Tok) (c : Nat) (h' : Heap) (tk : Nat), Fr h₀ L h' m → News h₀ L h' ((D, tup2 (x.fdiv y) (x.fmod y) t1 t2 c) :: news) → (∀ p ∈ news, p.1 < D) → Q (.ref D) { s with heap := h', toks := tk }) :
    wpAny (model PySem.Challenge.rw_sw0084_01.row.prog w) (ktrTop dp un gd cn cs L a ccd cl outer) (call (.ref 21) [.int x tx, .int y ty, .int n tn]) Q E s := by
  revert X; k_fill; intro X
  refine wpAny_call ?_
  k_dflt cell_enter
  k_steps
  exact hret _ _ _ _ _ _ (by assumption) (by assumption) (by assumption)
end Mine
end

section
open PySem PySem.W PyProof.Rows PySem.Calls PySem.Spec
set_option maxRecDepth 100000
namespace Mine
local macro_rules | `(tactic| k_lt $h:ident) => `(tactic| (replace $h := allLt_of $h; simp only [AllLt, and_true] at $h:ident; (try simp only [allLt_hi] at $h:ident)))
local macro_rules | `(tactic| k_all) => `(tactic| first | assumption | exact ne_of_hi (by (try dsimp only); omega) | exact List.forall_mem_nil _ | (refine List.forall_mem_cons.mpr ⟨by k_ne, ?_⟩; k_all))
local macro_rules | `(tactic| k_mem) => `(tactic| first | assumption | exact List.Mem.head _ | (refine List.mem_cons_of_mem _ ?_; k_mem))
local macro_rules | `(tactic| walk_at "call ref") => `(tactic| (with_reducible refine halt ?_))
local macro_rules | `(tactic| walk_at "pyIter ref") => `(tactic| (with_reducible refine halt ?_))
local macro_rules | `(tactic| walk_at "UnrEnd") => `(tactic| (with_reducible refine halt ?_))
local macro_rules | `(tactic| walk_at "RevRest") => `(tactic| (with_reducible refine halt ?_))
theorem offI_of {I : Addr} {it : Obj} : ∀ {l : List (Addr × Obj)}, (∀ p ∈ l, p.1 ≠ I) → OffI I it l
  | [], _ => trivial
  | _ :: _, h => ⟨.inl (h _ (.head _)), offI_of fun p hp => h p (.tail _ hp)⟩
section
variable {prog : Program} {w : World} {A : Around} {E : Value → Shared → Prop} {h₀ : Heap} {env : Env} {x : Str} {body : List Stmt} {Q : Flow → Shared → Prop} {s : Shared} {I : Addr} {lp : Addr × Obj}
theorem rev_shape {l : List Value} {news : List (Addr × Obj)} {m₂ m₁ : Str → Option Value} {vA vQ vR : Option Value} (e : ∀ z, z ≠ Str.ofString "a_digit" → z ≠ Str.ofString "q_digit" → z ≠ Str.ofString "r" → m₂ z = m₁ z)
    (eA : m₂ (Str.ofString "a_digit") = vA) (eQ : m₂ (Str.ofString "q_digit") = vQ) (eR : m₂ (Str.ofString "r") = vR)
    (h : RevRest prog w A E h₀ env x body Q s I lp l (fun z => if z = Str.ofString "a_digit" then vA else if z = Str.ofString "q_digit" then vQ else if z = Str.ofString "r" then vR else m₁ z) news) : RevRest prog w A E h₀ env x body Q s I lp l m₂ news := by
  have q : m₂ = fun z => if z = Str.ofString "a_digit" then vA else if z = Str.ofString "q_digit" then vQ else if z = Str.ofString "r" then vR else m₁ z := by
    funext z
    by_cases h1 : z = Str.ofString "a_digit"
    · simp only [h1, if_true]; exact eA
    · by_cases h2 : z = Str.ofString "q_digit"
      · rw [if_neg h1, if_pos h2, h2]; exact eQ
      · by_cases h3 : z = Str.ofString "r"
        · rw [if_neg h1, if_neg h2, if_pos h3, h3]; exact eR
        · rw [if_neg h1, if_neg h2, if_neg h3]; exact e z h1 h2 h3
  rw [q]
  exact h
theorem rev_pack {m₁ : Str → Option Value} {lq : Addr} {tail : List (Addr × Obj)} {l₀ : List Value} {vA₀ vQ₀ : Option Value} {r₀ : Int} {tr₀ : Tok} {cq₀ : Nat}
    (k : ∀ PP : List Value → Option Value → Option Value → Int → Tok → List Value → Nat → Prop, (∀ l vA vQ r tr vq cq, PP l vA vQ r tr vq cq = RevRest prog w A E h₀ env x body Q s I lp l (fun z => if z = Str.ofString "a_digit" then vA else if z = Str.ofString "q_digit" then vQ else if z = Str.ofString "r" then some (.int r tr) else m₁ z) ((lq, listOf vq.toArray cq) :: tail)) → PP l₀ vA₀ vQ₀ r₀ tr₀ [] cq₀) :
    RevRest prog w A E h₀ env x body Q s I lp l₀ (fun z => if z = Str.ofString "a_digit" then vA₀ else if z = Str.ofString "q_digit" then vQ₀ else if z = Str.ofString "r" then some (.int r₀ tr₀) else m₁ z) ((lq, listOf #[] cq₀) :: tail) :=
  k _ fun _ _ _ _ _ _ _ => rfl
end
theorem rev_r {prog : Program} {w : World} {A : Around} {E : Value → Shared → Prop} {s : Shared} {h₀ : Heap} {L D : Addr} {m : Str → Option Value} {rest : List (Addr × Obj)} {vq : List Value} {c : Nat} {Q : Value → Shared → Prop}
    (F : Fr h₀ L s.heap m) (N : News h₀ L s.heap ((D, listOf vq.toArray c) :: rest)) (hz : vq.toArray.size ≤ 1000) (hD : ∀ p ∈ rest, p.1 ≠ D) (h : ∀ h', Fr h₀ L h' m → News h₀ L h' ((D, listOf vq.reverse.toArray c) :: rest) → Q .none { s with heap := h' }) :
    wpAny (model prog w) A (call (.builtin "list.reverse") [.ref D]) Q E s :=
  kl_reverse F N (l := vq.reverse) (by simp) (Upd.head hD) (by rw [sizeLine_eq]; simp at hz ⊢; omega) h
local macro_rules | `(tactic| walk_at "call builtin:list.reverse") => `(tactic| (k_here; (with_reducible show wpAny _ _ (call (Value.builtin _) [Value.ref _]) _ _ _); k_dflt (refine' rev_r ?F ?N ?z ?D ?_; (case F => k_asm); (case N => k_asm); (case z => omega); (case D => k_all)); intro h' F' N'; (try k_sweep)))
local macro_rules | `(tactic| walk_at "binaryOp LShift int int") => `(tactic| (with_reducible refine lsh_r (by omega) (by omega) (Nat.le_trans (bits_le (k := 100) (by omega) (by omega)) (by omega)) ?_; intro _ _))
theorem lt_of_hi {d : Nat} {l : List (Addr × Obj)} (h : hi l ≤ d) : ∀ p ∈ l, p.1 < d := by
  rw [← allLt_hi] at h
  exact ktn_ltOf h
theorem ints_rev {vs : List Value} {ns : List Int} (h : IntsAre vs ns) : IntsAre vs.reverse ns.reverse := by
  induction h with
  | nil => exact .nil
  | cons i t _ ih => rw [List.reverse_cons, List.reverse_cons]; exact IntsAre.append ih (.cons i t .nil)
theorem digsIn_rev {B : Int} {ds : List Int} (h : DigsIn B ds) : DigsIn B ds.reverse := fun d hd => h d (List.mem_reverse.mp hd)
/-- the two code tables with their codes -/
def Tabs (ps1 : Array Value) (c1 : Addr) (oc1 : Obj) (ps2 : Array Value) (c2 : Addr) (oc2 : Obj) : Prop :=
  TabSt 37 47 4 qual2 ps1 c1 oc1 ∧ TabSt 30 32 4 qual1 ps2 c2 oc2 ∧ @Ne Nat c1 30 ∧ @Ne Nat c2 37
abbrev T4 (ps1 : Array Value) (c1 : Addr) (oc1 : Obj) (ps2 : Array Value) (c2 : Addr) (oc2 : Obj) (news : List (Addr × Obj)) : List (Addr × Obj) :=
  (37, tabObj ps1) :: (c1, oc1) :: (30, tabObj ps2) :: (c2, oc2) :: news
def RetT (x y : Int) (c1 c2 : Addr) (news : List (Addr × Obj)) (h₀ : Heap) (L : Addr) (m : Str → Option Value) (s : Shared) (Q : Value → Shared → Prop) : Prop :=
  ∀ (D : Addr) (t1 t2 : Tok) (cap : Nat) (ps1 : Array Value) (c1' : Addr) (oc1 : Obj) (ps2 : Array Value) (c2' : Addr) (oc2 : Obj) (h' : Heap) (tk' : Nat),
      Fr h₀ L h' m → News h₀ L h' ((D, tup2 x y t1 t2 cap) :: T4 ps1 c1' oc1 ps2 c2' oc2 news) → Tabs ps1 c1' oc1 ps2 c2' oc2 →
      (@Eq Nat c1' c1 ∨ @LE.le Nat _ (hi news) c1') → (@Eq Nat c2' c2 ∨ @LE.le Nat _ (hi news) c2') →
      (∀ p ∈ T4 ps1 c1' oc1 ps2 c2' oc2 news, p.1 < D) → Q (.ref D) { s with heap := h', toks := tk' }
theorem retT_fin {x y a b : Int} {c1 c2 c1' c2' D : Addr} {oc1 oc2 : Obj} {ps1 ps2 : Array Value} {news full : List (Addr × Obj)} {h₀ h' : Heap} {L : Addr} {m : Str → Option Value} {s : Shared} {Q : Value → Shared → Prop} {t1 t2 : Tok} {cap tk' : Nat}
    (hret : RetT x y c1 c2 news h₀ L m s Q) (ex : a = x) (ey : b = y) (hst1 : TabSt 37 47 4 qual2 ps1 c1' oc1) (hst2 : TabSt 30 32 4 qual1 ps2 c2' oc2) (F : Fr h₀ L h' m) (N : News h₀ L h' full)
    (hD : (D, tup2 a b t1 t2 cap) ∈ full) (h1 : (37, tabObj ps1) ∈ full) (h2 : (c1', oc1) ∈ full) (h3 : (30, tabObj ps2) ∈ full) (h4 : (c2', oc2) ∈ full) (h5 : ∀ p ∈ news, p ∈ full)
    (n1 : @Ne Nat c1' 30 ∧ @Ne Nat c2' 37) (e1 : @Eq Nat c1' c1 ∨ @LE.le Nat _ (hi news) c1') (e2 : @Eq Nat c2' c2 ∨ @LE.le Nat _ (hi news) c2')
    (hl : @LT.lt Nat _ 37 D ∧ @LT.lt Nat _ c1' D ∧ @LT.lt Nat _ 30 D ∧ @LT.lt Nat _ c2' D ∧ @LE.le Nat _ (hi news) D) : Q (.ref D) { s with heap := h', toks := tk' } := by
  subst ex; subst ey
  exact hret D t1 t2 cap ps1 c1' oc1 ps2 c2' oc2 h' tk' F (cb_drop N (List.forall_mem_cons.mpr ⟨hD, List.forall_mem_cons.mpr ⟨h1, List.forall_mem_cons.mpr ⟨h2, List.forall_mem_cons.mpr ⟨h3, List.forall_mem_cons.mpr ⟨h4, h5⟩⟩⟩⟩⟩)) ⟨hst1, hst2, n1⟩ e1 e2
    (List.forall_mem_cons.mpr ⟨hl.1, List.forall_mem_cons.mpr ⟨hl.2.1, List.forall_mem_cons.mpr ⟨hl.2.2.1, List.forall_mem_cons.mpr ⟨hl.2.2.2.1, lt_of_hi hl.2.2.2.2⟩⟩⟩⟩)
theorem drop_head {h₀ h : Heap} {L : Addr} {x : Addr × Obj} {r : List (Addr × Obj)} (N : News h₀ L h (x :: r)) : News h₀ L h r := fun p hp => N p (.tail _ hp)
theorem vbound {r y d : Int} {k : Nat} (hr0 : 0 ≤ r) (hr : r < y) (hy : y < 2 ^ 100) (hd0 : 0 ≤ d) (hd : d < 2 ^ k) (hk : k ≤ 100) : 0 ≤ r * 2 ^ k + d ∧ r * 2 ^ k + d < 2 ^ 200 := by
  have hp : (0 : Int) < 2 ^ k := Int.pow_pos (by decide)
  have h0 : 0 ≤ r * 2 ^ k := Int.mul_nonneg hr0 (by omega)
  refine ⟨by omega, ?_⟩
  have h1 := Int.mul_le_mul_of_nonneg_right (show r + 1 ≤ 2 ^ 100 by omega) (show (0 : Int) ≤ 2 ^ k by omega)
  have h2 : (2 : Int) ^ 100 * 2 ^ k ≤ 2 ^ 100 * 2 ^ 100 := Int.mul_le_mul_of_nonneg_left (by have := Nat.pow_le_pow_right (show 0 < 2 by decide) hk; have q := Int.ofNat_le.mpr this; simpa using q) (by decide)
  rw [Int.add_mul, Int.one_mul] at h1
  have h3 : (2 : Int) ^ 100 * 2 ^ 100 = 2 ^ 200 := by decide
  omega
set_option maxHeartbeats 8000000 in
theorem dpos_ok {w : World} {p : Program} {loose : List Str} {mean : ExcName → Option Value} {mg mb : Str → Option Value}
    (x y : Int) (tx ty : Tok) (ps1 : Array Value) (c1 : Addr) (oc1 : Obj) (ps2 : Array Value) (c2 : Addr) (oc2 : Obj) (news : List (Addr × Obj)) (hx0 : 0 ≤ x) (hx : x < 2 ^ 100) (hy0 : 0 < y) (hy : y < 2 ^ 100)
    (hst : Tabs ps1 c1 oc1 ps2 c2 oc2) (h37 : ∀ p ∈ news, p.1 ≠ 37) (h30 : ∀ p ∈ news, p.1 ≠ 30)
    (dp un : Nat) (gd : Option (List Code)) (cn : Str) (cs : Scope) (a : Addr) (ccd : Value) (cl : List (Str × Addr)) (outer : List Env) (A₀ : Around) (base h₀ : Heap) (L : Addr) (m : Str → Option Value) (s : Shared) (Q E : Value → Shared → Prop)
    (B : Below A₀ base outer h₀) (F : Fr h₀ L s.heap m) (X : (swHead.heap_39 w.params).In h₀) (N : News h₀ L s.heap (T4 ps1 c1 oc1 ps2 c2 oc2 news)) (T : Top p loose mean mg mb h₀) (hk : cs.kind = .function)
    (C1 : CodeHd base 41 37) (C2 : CodeHd base 34 30)
    (hdp : dp + 30 < recursionLimit) (hun : un + 300 < cLine)
    (hret : RetT (x / y) (x % y) c1 c2 news h₀ L m s Q) :
    wpAny (model PySem.Challenge.rw_sw0084_01.row.prog w) (ktrTop dp un gd cn cs L a ccd cl outer) (call (.ref 49) [.int x tx, .int y ty]) Q E s := by
  revert X; k_fill; intro X
  unfold T4 at N
  refine wpAny_call ?_
  k_dflt cell_enter
  k_steps
  rename News _ _ _ _ => NL
  unfold Halt
  have hnb := bits_le (Int.le_of_lt hy0) hy
  have hnp := bits_pos (show y ≠ 0 by omega)
  obtain ⟨hst1, hst2, hc1, hc2⟩ := hst
  refine i2d_ok x (Builtin.Int.intBits y) _ _ ps2 c2 oc2 ((37, tabObj ps1) :: (c1, oc1) :: news) hx0 hx (by omega) (by omega) hst2 (List.forall_mem_cons.mpr ⟨by k_ne, List.forall_mem_cons.mpr ⟨by k_ne, h30⟩⟩) _ _ _ _ _ _ _ _ _ _ _ _ _ _ _ _ _ (by k_asm) (by k_asm) (by k_asm) (cb_drop NL (List.forall_mem_cons.mpr ⟨by k_mem, List.forall_mem_cons.mpr ⟨by k_mem, List.forall_mem_cons.mpr ⟨by k_mem, List.forall_mem_cons.mpr ⟨by k_mem, fun p hp => by k_mem⟩⟩⟩⟩)) (by k_asm) rfl (by assumption) (by ktr_room) (by ktr_units) ?_
  intro k D vs cap ps2' c2' oc2' h2 tk2 hk hi0 F2 N2 hst2' l1 l2 l3 l4
  simp only [hi] at l3 l4
  dsimp only
  k_steps
  unfold Halt
  rename Fr _ _ _ _ => FL
  rename News _ _ _ _ => NL
  refine iter_revUnr (lo := listOf vs.toArray cap) (vs := vs) (n := cap) rfl FL NL (offI_of (by k_all)) (by k_mem) rfl rfl ?_
  refine rev_shape (fun _ _ _ _ => rfl) rfl rfl rfl ?_
  refine rev_pack (fun PP hPP => ?_)
  have key : ∀ (l : List Value) (dsl : List Int) (X r : Int) (tr : Tok) (vA vQ : Option Value) (vq : List Value) (qs : List Int) (cq : Nat), IntsAre l dsl → DigsIn (2 ^ Builtin.Int.intBits y) dsl → IntsAre vq qs → DigsIn (2 ^ Builtin.Int.intBits y) qs →
      0 ≤ X → r = X % y → val (2 ^ Builtin.Int.intBits y) qs.reverse = X / y → dsl.foldl (fun X d => X * 2 ^ Builtin.Int.intBits y + d) X = x → qs.length + dsl.length ≤ 100 → PP l vA vQ r tr vq cq := by
    intro l
    induction l with
    | nil =>
      intro dsl X r tr vA vQ vq qs cq hl hd hq hqd hX hr hv hf hlen
      cases hl
      rw [hPP]
      clear hPP
      have hvs : vq.toArray.size ≤ 100 := by rw [List.size_toArray, hq.length]; omega
      refine RevRest.zero ?_
      intro h9 tk9 F9 N9
      (try dsimp only)
      k_steps
      unfold Halt
      rename News _ _ _ _ => NL
      have NL1 := front (pre := [_, _, _, _, _]) NL
      simp only [List.cons_append, List.nil_append] at NL1
      have NL2 := front (pre := [_, _, _, _, _]) NL1
      simp only [List.cons_append, List.nil_append] at NL2
      refine d2i_ok (Builtin.Int.intBits y) _ _ vq.reverse qs.reverse cq ps1 c1 oc1 _ (List.Mem.head _) (ints_rev hq) (by rw [List.length_reverse]; omega) (digsIn_rev hqd) (by omega) (by omega) hst1 ?_ _ _ _ _ _ _ _ _ _ _ _ _ _ _ _ _ _ (by k_asm) (by k_asm) (by k_asm) NL2 (by k_asm) rfl (by assumption) (by ktr_room) (by ktr_units) ?_
      · k_all
      intro t3 ps1' c1' oc1' h3 tk3 F3 N3 hst1' l5
      simp only [hi] at l5
      dsimp only
      k_steps
      rename News _ _ _ _ => kN
      rw [List.foldl_nil] at hf
      subst hf
      refine retT_fin hret ?ex ?ey hst1' hst2' (by k_asm) kN (by k_mem) (by k_mem) (by k_mem) (by k_mem) (by k_mem) (fun p hp => by k_mem) (by omega) (by omega) (by omega) (by omega)
      case ex => rw [← hv, Int.toNat_natCast]
      case ey => exact hr
    | cons v l ih =>
      intro dsl X r tr vA vQ vq qs cq hl hd hq hqd hX hr hv hf hlen
      cases hl
      rename_i d td ds hl
      rw [hPP]
      have hvs : vq.toArray.size ≤ 100 := by rw [List.size_toArray, hq.length]; omega
      have hr0 := Int.emod_nonneg X (show y ≠ 0 by omega)
      have hr1 := Int.emod_lt_of_pos X hy0
      refine RevRest.succ ?_
      intro it9 h9 tk9 hit9 F9 N9
      (try dsimp only)
      k_steps
      unfold Halt
      rename (_ : Int) = r * _ => hV
      rename_i V
      have hB : (0 : Int) < 2 ^ Builtin.Int.intBits y := Int.pow_pos (by decide)
      have hd1 := hd d (.head _)
      have hstep := step_lt (d := d) hB hy0 (hr ▸ hr0) (hr ▸ hr1) hd1.1 hd1.2
      refine div2n1n_ok _ y _ _ _ _ _ hy0 ?hbits (by omega) _ _ _ _ _ _ _ _ _ _ _ _ _ _ _ _ _ (by k_asm) (by k_asm) (by k_asm) (by k_asm) (by k_asm) rfl (by ktr_room) (by ktr_units) ?_
      case hbits =>
        have hvb := vbound (k := Builtin.Int.intBits y) (hr ▸ hr0) (hr ▸ hr1) hy hd1.1 hd1.2 hnb
        rw [Int.toNat_natCast] at hV
        rw [← hV] at hvb
        have h1 := bits_le (U := V + d) (k := 200) hvb.1 hvb.2
        omega
      intro D3 t31 t32 cap3 h3 tk3 F3 N3 l5
      k_lt l5
      dsimp only
      k_steps
      unfold Halt
      rename News _ _ _ _ => NL
      refine UnrEnd.intro (by k_asm) (drop_head NL) _ (fun p hp => hp) ?off ⟨?lp, ?rest⟩
      case off => k_all
      case lp => k_mem
      case rest =>
        have hfd : (V + d).fdiv y = (r * 2 ^ Builtin.Int.intBits y + d) / y := by rw [Int.fdiv_eq_ediv_of_nonneg _ (by omega), hV, Int.toNat_natCast]
        have hfm : (V + d).fmod y = (r * 2 ^ Builtin.Int.intBits y + d) % y := by rw [Int.fmod_eq_emod_of_nonneg _ (by omega), hV, Int.toNat_natCast]
        obtain ⟨hs1, hs2⟩ := step_div (d := d) (B := 2 ^ Builtin.Int.intBits y) hy0 hr
        have q := ih ds (X * 2 ^ Builtin.Int.intBits y + d) ((V + d).fmod y) t32 (some (.int d td)) (some (.int ((V + d).fdiv y) t31)) (vq ++ [.int ((V + d).fdiv y) t31]) (qs ++ [(V + d).fdiv y]) (cq + 1) hl (fun e he => hd e (.tail _ he)) (IntsAre.append hq (.cons _ _ .nil))
          (fun e he => by
            rcases List.mem_append.mp he with he | he
            · exact hqd e he
            · rw [List.mem_singleton.mp he, hfd]; exact hstep)
          (by have := Int.mul_nonneg hX (Int.le_of_lt hB); omega) (by rw [hfm, hs2]) (by rw [List.reverse_append, List.reverse_cons, List.reverse_nil, List.nil_append, List.cons_append, List.nil_append, val, hv, hfd, hs1]) hf (by rw [List.length_append, List.length_cons, List.length_nil]; rw [List.length_cons] at hlen; omega)
        rw [hPP] at q
        rw [List.push_toArray]
        refine rev_shape (fun z h1 h2 h3 => ?_) ?_ ?_ ?_ q
        · simp only [if_neg h1, if_neg h2, if_neg h3]
        · with_unfolding_all rfl
        · with_unfolding_all rfl
        · with_unfolding_all rfl
  rw [Int.toNat_natCast] at hi0
  obtain ⟨k', _, hk2', hk3', _, _, _, hk7'⟩ := cnt_ok (n := (Builtin.Int.intBits y : Int)) hx0 hx (by omega)
  obtain rfl : k = k' := by rw [hk, hk3']
  rw [Int.toNat_natCast, Int.sub_zero, Int.toNat_natCast] at hk7'
  have hB : (0 : Int) < 2 ^ Builtin.Int.intBits y := Int.pow_pos (by decide)
  refine key _ _ 0 0 _ _ _ [] [] _ (IntsAre.reverse hi0) (digsIn_rev (digs_in _ hB _ _)) .nil (fun _ h => nomatch h) (by omega) (by simp) (by simp [val]) ?_ (by rw [List.length_reverse, digs_len]; simp; omega)
  rw [fold_rev, val_digs _ hB, Int.emod_eq_of_lt hx0 hk7']
end Mine
end

section
open PySem PySem.W PyProof.Rows PySem.Calls PySem.Spec
set_option maxRecDepth 100000
namespace Mine
local macro_rules | `(tactic| k_lt $h:ident) => `(tactic| (replace $h := allLt_of $h; simp only [AllLt, and_true] at $h:ident; (try simp only [allLt_hi] at $h:ident)))
local macro_rules | `(tactic| k_all) => `(tactic| first | assumption | exact ne_of_hi (by (try dsimp only); omega) | exact List.forall_mem_nil _ | (refine List.forall_mem_cons.mpr ⟨by k_ne, ?_⟩; k_all))
local macro_rules | `(tactic| k_mem) => `(tactic| first | assumption | exact List.Mem.head _ | (refine List.mem_cons_of_mem _ ?_; k_mem))
local macro_rules | `(tactic| walk_at "call ref") => `(tactic| (with_reducible refine halt ?_))
/-- what a call of int_divmod gives back, for all pairs with P -/
def DivOk (w : World) (p : Program) (loose : List Str) (mean : ExcName → Option Value) (mg mb : Str → Option Value) (P : Int → Int → Prop) (room : Nat) : Prop :=
    ∀ (x y : Int) (tx ty : Tok) (ps1 : Array Value) (c1 : Addr) (oc1 : Obj) (ps2 : Array Value) (c2 : Addr) (oc2 : Obj) (news : List (Addr × Obj)), P x y → -(2 ^ 99) < x → x < 2 ^ 99 → -(2 ^ 99) < y → y < 2 ^ 99 →
    Tabs ps1 c1 oc1 ps2 c2 oc2 → (∀ p ∈ news, p.1 ≠ 37) → (∀ p ∈ news, p.1 ≠ 30) →
    ∀ (dp un : Nat) (gd : Option (List Code)) (cn : Str) (cs : Scope) (a : Addr) (ccd : Value) (cl : List (Str × Addr)) (outer : List Env) (A₀ : Around) (base h₀ : Heap) (L : Addr) (m : Str → Option Value) (s : Shared) (Q E : Value → Shared → Prop),
    Below A₀ base outer h₀ → Fr h₀ L s.heap m → (swHead.heap_39 w.params).In h₀ → News h₀ L s.heap (T4 ps1 c1 oc1 ps2 c2 oc2 news) → Top p loose mean mg mb h₀ → cs.kind = .function →
    CodeHd base 41 37 → CodeHd base 34 30 → dp + room < recursionLimit → un + 10 * room < cLine → RetT (x.fdiv y) (x.fmod y) c1 c2 news h₀ L m s Q →
    wpAny (model PySem.Challenge.rw_sw0084_01.row.prog w) (ktrTop dp un gd cn cs L a ccd cl outer) (call (.ref 56) [.int x tx, .int y ty]) Q E s
section
variable {w : World} {p : Program} {loose : List Str} {mean : ExcName → Option Value} {mg mb : Str → Option Value}
set_option maxHeartbeats 8000000 in
theorem div0_ok : DivOk w p loose mean mg mb (fun x y => 0 ≤ x ∧ 0 < y) 40 := by
  intro x y tx ty ps1 c1 oc1 ps2 c2 oc2 news hP hx1 hx2 hy1 hy2 hst h37 h30 dp un gd cn cs a ccd cl outer A₀ base h₀ L m s Q E B F X N T hk C1 C2 hdp hun hret
  revert X; k_fill; intro X
  obtain ⟨hx0, hy0⟩ := hP
  unfold T4 at N
  refine wpAny_call ?_
  k_dflt cell_enter
  k_steps
  all_goals first | (exfalso; omega) | skip
  unfold Halt
  rw [Int.fdiv_eq_ediv_of_nonneg _ (by omega), Int.fmod_eq_emod_of_nonneg _ (by omega)] at hret
  refine dpos_ok x y _ _ ps1 c1 oc1 ps2 c2 oc2 news hx0 (by omega) hy0 (by omega) hst h37 h30 _ _ _ _ _ _ _ _ _ _ _ _ _ _ _ _ _ (by k_asm) (by k_asm) (by k_asm) (by k_asm) (by k_asm) rfl (by assumption) (by assumption) (by ktr_room) (by ktr_units) ?_
  intro D t1 t2 cap ps1' c1' oc1' ps2' c2' oc2' h9 tk9 F9 N9 hT e1 e2 hl
  unfold T4 at N9
  dsimp only
  k_steps
  exact hret D t1 t2 cap ps1' c1' oc1' ps2' c2' oc2' _ _ (by k_asm) (by k_asm) hT e1 e2 hl
set_option maxHeartbeats 8000000 in
theorem div1_ok : DivOk w p loose mean mg mb (fun _ y => 0 < y) 45 := by
  intro x y tx ty ps1 c1 oc1 ps2 c2 oc2 news hP hx1 hx2 hy1 hy2 hst h37 h30 dp un gd cn cs a ccd cl outer A₀ base h₀ L m s Q E B F X N T hk C1 C2 hdp hun hret
  by_cases hx0 : 0 ≤ x
  · exact div0_ok x y tx ty ps1 c1 oc1 ps2 c2 oc2 news ⟨hx0, hP⟩ hx1 hx2 hy1 hy2 hst h37 h30 dp un gd cn cs a ccd cl outer A₀ base h₀ L m s Q E B F X N T hk C1 C2 (by omega) (by omega) hret
  revert X; k_fill; intro X
  unfold T4 at N
  refine wpAny_call ?_
  k_dflt cell_enter
  k_steps
  all_goals first | (exfalso; omega) | skip
  unfold Halt
  have hb1 : 0 ≤ Builtin.bitNot x := by unfold Builtin.bitNot; omega
  have hb2 : Builtin.bitNot x < 2 ^ 99 := by unfold Builtin.bitNot; omega
  refine div0_ok (Builtin.bitNot x) y _ _ ps1 c1 oc1 ps2 c2 oc2 news ⟨hb1, hP⟩ (by omega) hb2 hy1 hy2 hst h37 h30 _ _ _ _ _ _ _ _ _ _ _ _ _ _ _ _ _ (by k_asm) (by k_asm) (by k_asm) (by k_asm) (by k_asm) rfl (by assumption) (by assumption) (by ktr_room) (by ktr_units) ?_
  intro D t1 t2 cap ps1' c1' oc1' ps2' c2' oc2' h9 tk9 F9 N9 hT e1 e2 hl
  unfold T4 at N9 hl
  k_lt hl
  dsimp only
  k_steps
  rename News _ _ _ _ => kN
  obtain ⟨hT1, hT2, hT3, hT4⟩ := hT
  refine retT_fin hret ?ex ?ey hT1 hT2 (by k_asm) kN (by k_mem) (by k_mem) (by k_mem) (by k_mem) (by k_mem) (fun p hp => by k_mem) ⟨hT3, hT4⟩ e1 e2 (by omega)
  case ex =>
    have q := not_div (x := x) hP
    unfold Builtin.bitNot
    rw [Int.fdiv_eq_ediv_of_nonneg _ (by omega), Int.fdiv_eq_ediv_of_nonneg _ (by omega), q.1]
    omega
  case ey =>
    have q := not_div (x := x) hP
    unfold Builtin.bitNot
    rw [Int.fmod_eq_emod_of_nonneg _ (by omega), Int.fmod_eq_emod_of_nonneg _ (by omega), q.2]
    omega
set_option maxHeartbeats 8000000 in
theorem div_ok : DivOk w p loose mean mg mb (fun _ y => y ≠ 0) 50 := by
  intro x y tx ty ps1 c1 oc1 ps2 c2 oc2 news hP hx1 hx2 hy1 hy2 hst h37 h30 dp un gd cn cs a ccd cl outer A₀ base h₀ L m s Q E B F X N T hk C1 C2 hdp hun hret
  by_cases hy0 : 0 < y
  · exact div1_ok x y tx ty ps1 c1 oc1 ps2 c2 oc2 news hy0 hx1 hx2 hy1 hy2 hst h37 h30 dp un gd cn cs a ccd cl outer A₀ base h₀ L m s Q E B F X N T hk C1 C2 (by omega) (by omega) hret
  revert X; k_fill; intro X
  unfold T4 at N
  refine wpAny_call ?_
  k_dflt cell_enter
  k_steps
  all_goals first | (exfalso; omega) | skip
  unfold Halt
  refine div1_ok (-x) (-y) _ _ ps1 c1 oc1 ps2 c2 oc2 news (by omega) (by omega) (by omega) (by omega) (by omega) hst h37 h30 _ _ _ _ _ _ _ _ _ _ _ _ _ _ _ _ _ (by k_asm) (by k_asm) (by k_asm) (by k_asm) (by k_asm) rfl (by assumption) (by assumption) (by ktr_room) (by ktr_units) ?_
  intro D t1 t2 cap ps1' c1' oc1' ps2' c2' oc2' h9 tk9 F9 N9 hT e1 e2 hl
  unfold T4 at N9 hl
  k_lt hl
  dsimp only
  k_steps
  rename News _ _ _ _ => kN
  obtain ⟨hT1, hT2, hT3, hT4⟩ := hT
  refine retT_fin hret ?ex ?ey hT1 hT2 (by k_asm) kN (by k_mem) (by k_mem) (by k_mem) (by k_mem) (by k_mem) (fun p hp => by k_mem) ⟨hT3, hT4⟩ e1 e2 (by omega)
  case ex => exact Int.neg_fdiv_neg x y
  case ey => rw [Int.neg_fmod_neg, Int.neg_neg]
end
end Mine
end

section
open PySem PySem.W PyProof.Rows PySem.Calls PySem.Spec
set_option maxRecDepth 100000
namespace Mine
local macro_rules | `(tactic| k_lt $h:ident) => `(tactic| (replace $h := allLt_of $h; simp only [AllLt, and_true] at $h:ident; (try simp only [allLt_hi] at $h:ident)))
local macro_rules | `(tactic| k_all) => `(tactic| first | assumption | exact ne_of_hi (by (try dsimp only); omega) | exact List.forall_mem_nil _ | (refine List.forall_mem_cons.mpr ⟨by k_ne, ?_⟩; k_all))
local macro_rules | `(tactic| k_mem) => `(tactic| first | assumption | exact List.Mem.head _ | (refine List.mem_cons_of_mem _ ?_; k_mem))
local macro_rules | `(tactic| walk_at "call ref") => `(tactic| (with_reducible refine halt ?_))
local macro_rules | `(tactic| walk_at "compareOp NotEq ref ref") => `(tactic| (with_reducible refine halt ?_))
theorem mul_e {prog : Program} {w : World} {A : Around} {E : Value → Shared → Prop} {s : Shared} {t u : Tok} {Q : Value → Shared → Prop} {a b : Int} (hb : -(2 ^ 64) < b ∧ b < 2 ^ 64) (h : ∀ S : Int, S = a * b → Q (.int S s.toks) { s with toks := s.toks + 1 }) : wpAny (model prog w) A (binaryOp .Mult (.int a t) (.int b u)) Q E s :=
  mul_int (h _ rfl) (IntMulOk.of_right (intBits_le_64 hb.1 hb.2))
theorem ne_tup {prog : Program} {w : World} {A : Around} {E : Value → Shared → Prop} {s : Shared} {h₀ : Heap} {L D1 D2 : Addr} {news : List (Addr × Obj)} {a b a' b' : Int} {t u t' u' : Tok} {c c' : Nat} {Q : Value → Shared → Prop}
    (N : News h₀ L s.heap news) (h1 : (D1, tup2 a b t u c) ∈ news) (h2 : (D2, tup2 a' b' t' u' c') ∈ news) (ea : a = a') (eb : b = b') (hu : A.units + 64 < cLine) (h : Q (.bool false) s) :
    wpAny (model prog w) A (compareOp .NotEq (.ref D1) (.ref D2)) Q E s := by
  subst ea; subst eb
  refine ne_dataH (reads_tuple_at (N.get h1) rfl rfl (.cons (.int _ _) (.cons (.int _ _) .nil))) (reads_tuple_at (N.get h2) rfl rfl (.cons (.int _ _) (.cons (.int _ _) .nil))) rfl rfl hu ?_
  simpa [PyData.eqv, PyData.eqvAll] using h
local macro_rules | `(tactic| walk_at "binaryOp Mult int int") => `(tactic| (with_reducible refine mul_e (by omega) ?_; intro _ _))
theorem mul_bd {a b A B : Int} (ha : -A ≤ a ∧ a ≤ A) (hb : -B ≤ b ∧ b ≤ B) : -(A * B) ≤ a * b ∧ a * b ≤ A * B := by
  have h : (a * b).natAbs ≤ A.natAbs * B.natAbs := by
    rw [Int.natAbs_mul]
    exact Nat.mul_le_mul (by omega) (by omega)
  have e : ((A.natAbs * B.natAbs : Nat) : Int) = A * B := by
    rw [Int.natCast_mul, Int.natAbs_of_nonneg (by omega), Int.natAbs_of_nonneg (by omega)]
  omega
theorem pow_bd {n : Nat} (hn : n ≤ 5) : 0 < (2 : Int) ^ n ∧ (2 : Int) ^ n ≤ 32 := by
  rcases n with _ | _ | _ | _ | _ | _ | n <;> first | omega | decide
def RetL (v e left : Int) (c1 c2 : Addr) (news : List (Addr × Obj)) (h₀ : Heap) (L : Addr) (m : Str → Option Value) (s : Shared) (Q : Value → Shared → Prop) : Prop :=
  ∀ (D : Addr) (t1 t2 t3 : Tok) (cap : Nat) (ps1 : Array Value) (c1' : Addr) (oc1 : Obj) (ps2 : Array Value) (c2' : Addr) (oc2 : Obj) (h' : Heap) (tk' : Nat),
      Fr h₀ L h' m → News h₀ L h' ((D, listOf #[.int (2 * e + plc v left) t1, .int (2 * left - plc v left * v) t2, .int (plc v left) t3] cap) :: T4 ps1 c1' oc1 ps2 c2' oc2 news) → Tabs ps1 c1' oc1 ps2 c2' oc2 →
      (@Eq Nat c1' c1 ∨ @LE.le Nat _ (hi news) c1') → (@Eq Nat c2' c2 ∨ @LE.le Nat _ (hi news) c2') →
      (∀ p ∈ T4 ps1 c1' oc1 ps2 c2' oc2 news, p.1 < D) → Q (.ref D) { s with heap := h', toks := tk' }
theorem retL_fin {v e left x y z : Int} {c1 c2 c1' c2' D : Addr} {oc1 oc2 : Obj} {ps1 ps2 : Array Value} {news full : List (Addr × Obj)} {h₀ h' : Heap} {L : Addr} {m : Str → Option Value} {s : Shared} {Q : Value → Shared → Prop} {t1 t2 t3 : Tok} {cap tk' : Nat}
    (hret : RetL v e left c1 c2 news h₀ L m s Q) (hst1 : TabSt 37 47 4 qual2 ps1 c1' oc1) (hst2 : TabSt 30 32 4 qual1 ps2 c2' oc2) (F : Fr h₀ L h' m) (N : News h₀ L h' full)
    (hD : (D, listOf #[.int x t1, .int y t2, .int z t3] cap) ∈ full) (h1 : (37, tabObj ps1) ∈ full) (h2 : (c1', oc1) ∈ full) (h3 : (30, tabObj ps2) ∈ full) (h4 : (c2', oc2) ∈ full) (h5 : ∀ p ∈ news, p ∈ full)
    (n1 : @Ne Nat c1' 30 ∧ @Ne Nat c2' 37) (e1 : @Eq Nat c1' c1 ∨ @LE.le Nat _ (hi news) c1') (e2 : @Eq Nat c2' c2 ∨ @LE.le Nat _ (hi news) c2')
    (hl : @LT.lt Nat _ 37 D ∧ @LT.lt Nat _ c1' D ∧ @LT.lt Nat _ 30 D ∧ @LT.lt Nat _ c2' D ∧ @LE.le Nat _ (hi news) D) (ex : x = 2 * e + plc v left) (ey : y = 2 * left - plc v left * v) (ez : z = plc v left) : Q (.ref D) { s with heap := h', toks := tk' } := by
  subst ex; subst ey; subst ez
  exact hret D t1 t2 t3 cap ps1 c1' oc1 ps2 c2' oc2 h' tk' F (cb_drop N (List.forall_mem_cons.mpr ⟨hD, List.forall_mem_cons.mpr ⟨h1, List.forall_mem_cons.mpr ⟨h2, List.forall_mem_cons.mpr ⟨h3, List.forall_mem_cons.mpr ⟨h4, h5⟩⟩⟩⟩⟩)) ⟨hst1, hst2, n1⟩ e1 e2
    (List.forall_mem_cons.mpr ⟨hl.1, List.forall_mem_cons.mpr ⟨hl.2.1, List.forall_mem_cons.mpr ⟨hl.2.2.1, List.forall_mem_cons.mpr ⟨hl.2.2.2.1, lt_of_hi hl.2.2.2.2⟩⟩⟩⟩)
set_option maxHeartbeats 8000000 in
theorem round_ok {w : World} {p : Program} {loose : List Str} {mean : ExcName → Option Value} {mg mb : Str → Option Value}
    (u v mm n e left : Int) (tu tv tm tn te tl : Tok) (ps1 : Array Value) (c1 : Addr) (oc1 : Obj) (ps2 : Array Value) (c2 : Addr) (oc2 : Obj) (news : List (Addr × Obj))
    (hu1 : -(2 ^ 31) < u) (hu2 : u < 2 ^ 31) (hv1 : -1000 ≤ v) (hv2 : v ≤ 1000) (hm1 : -(2 ^ 31) < mm) (hm2 : mm < 2 ^ 31) (hn0 : 0 ≤ n) (hn : n ≤ 5) (he1 : -(2 ^ 40) < e) (he2 : e < 2 ^ 40)
    (hR : RPre u v mm n.toNat e left) (hst : Tabs ps1 c1 oc1 ps2 c2 oc2) (h37 : ∀ p ∈ news, p.1 ≠ 37) (h30 : ∀ p ∈ news, p.1 ≠ 30)
    (dp un : Nat) (gd : Option (List Code)) (cn : Str) (cs : Scope) (a : Addr) (ccd : Value) (cl : List (Str × Addr)) (outer : List Env) (A₀ : Around) (base h₀ : Heap) (L : Addr) (m : Str → Option Value) (s : Shared) (Q E : Value → Shared → Prop)
    (B : Below A₀ base outer h₀) (F : Fr h₀ L s.heap m) (X : (swHead.heap_39 w.params).In h₀) (N : News h₀ L s.heap (T4 ps1 c1 oc1 ps2 c2 oc2 news)) (T : Top p loose mean mg mb h₀) (hk : cs.kind = .function)
    (C1 : CodeHd base 41 37) (C2 : CodeHd base 34 30)
    (hdp : dp + 60 < recursionLimit) (hun : un + 600 < cLine) (hret : RetL v e left c1 c2 news h₀ L m s Q) :
    wpAny (model PySem.Challenge.rw_sw0084_01.row.prog w) (ktrTop dp un gd cn cs L a ccd cl outer) (call (.ref 63) [.int u tu, .int v tv, .int mm tm, .int n tn, .int e te, .int left tl]) Q E s := by
  revert X; k_fill; intro X
  unfold T4 at N
  refine wpAny_call ?_
  k_dflt cell_enter
  k_steps
  rename (_ : Int) = mm * v => hS1
  rename (_ : Int) = 2 * e => hS2
  rename (_ : Int) = 2 * u => hS4
  rename (_ : Int) = (_ + _) * (_ + 1) => hS3
  obtain ⟨hup1, hup2⟩ := hR.up
  rw [← hS1, ← hS2, ← hS4, ← hS3] at hup1 hup2
  unfold Halt
  have hm := hR.hm
  rw [← hS1] at hm
  have hbd1 := mul_bd (a := u + mm * v) (b := 2 * e + 1) (A := 2 ^ 33) (B := 2 ^ 42) (by omega) (by omega)
  rw [← hS1, ← hS2, ← hS3] at hbd1
  have hpw := pow_bd (n := n.toNat) (by omega)
  have hbd2 := mul_bd (a := 2 ^ n.toNat) (b := mm) (A := 2 ^ 5) (B := 2 ^ 31) (by omega) (by omega)
  have hbd3 := mul_bd (a := u) (b := 2 * (e + 2 ^ n.toNat * mm) + 1) (A := 2 ^ 31) (B := 2 ^ 43) (by omega) (by omega)
  refine div_ok _ _ _ _ ps1 c1 oc1 ps2 c2 oc2 news (by omega) ?b1 ?b2 (by omega) (by omega) hst h37 h30 _ _ _ _ _ _ _ _ _ _ _ _ _ _ _ _ _ (by k_asm) (by k_asm) (by k_asm) (by k_asm) (by k_asm) rfl (by assumption) (by assumption) (by ktr_room) (by ktr_units) ?_
  case b1 => omega
  case b2 => omega
  rw [hup1, hup2]
  intro D1 t1 t2 cap1 ps1 c1' oc1 ps2 c2' oc2 h9 tk9 F9 N9 hT e1 e2 hl
  unfold T4 at N9 hl
  k_lt hl
  dsimp only
  k_steps
  unfold Halt
  rename News _ _ _ _ => NL
  rename (_ : Int) = 2 ^ n.toNat * mm => hS5
  refine ne_tup NL (by k_mem) (by k_mem) (by rw [hS5]) rfl (by ktr_units) ?_
  dsimp only
  k_steps
  · have hpl : plc v left = 1 := by unfold plc; rw [if_pos (by omega)]
    have hdn := hR.down
    rw [hpl] at hdn
    obtain ⟨hdn1, hdn2⟩ := hdn
    subst_vars
    obtain ⟨hT1, hT2, hT3, hT4⟩ := hT
    unfold Halt
    rename News _ _ _ _ => NL
    have NL2 := drop_head (drop_head NL)
    refine div_ok _ _ _ _ _ c1' _ _ c2' _ news (by omega) (by omega) (by omega) (by omega) (by omega) ⟨hT1, hT2, hT3, hT4⟩ h37 h30 _ _ _ _ _ _ _ _ _ _ _ _ _ _ _ _ _ (by k_asm) (by k_asm) (by k_asm) NL2 (by k_asm) rfl (by assumption) (by assumption) (by ktr_room) (by ktr_units) ?_
    rw [hdn1, hdn2]
    intro D2 t21 t22 cap2 ps12 c12' oc12 ps22 c22' oc22 h92 tk92 F92 N92 hT2' e12 e22 hl2
    unfold T4 at N92 hl2
    k_lt hl2
    dsimp only
    k_steps
    unfold Halt
    rename News _ _ _ _ => NL3
    subst_vars
    refine ne_tup NL3 (by k_mem) (by k_mem) ?_ ?_ (by ktr_units) ?_
    · first | rfl | omega
    · first | rfl | omega
    dsimp only
    k_steps
    rename News _ _ _ _ => kN
    obtain ⟨hU1, hU2, hU3, hU4⟩ := hT2'
    refine retL_fin hret hU1 hU2 (by k_asm) kN (by k_mem) (by k_mem) (by k_mem) (by k_mem) (by k_mem) (fun p hp => by k_mem) ⟨hU3, hU4⟩ (by omega) (by omega) (by omega) ?ex ?ey ?ez
    case ex => (rw [hpl]; omega)
    case ey => (first | (rw [hpl]; done) | (rw [hpl]; omega))
    case ez => rw [hpl]
  · have hpl : plc v left = 0 := by unfold plc; rw [if_neg (by omega)]
    have hdn := hR.down
    rw [hpl] at hdn
    obtain ⟨hdn1, hdn2⟩ := hdn
    subst_vars
    obtain ⟨hT1, hT2, hT3, hT4⟩ := hT
    unfold Halt
    rename News _ _ _ _ => NL
    have NL2 := drop_head (drop_head NL)
    refine div_ok _ _ _ _ _ c1' _ _ c2' _ news (by omega) (by omega) (by omega) (by omega) (by omega) ⟨hT1, hT2, hT3, hT4⟩ h37 h30 _ _ _ _ _ _ _ _ _ _ _ _ _ _ _ _ _ (by k_asm) (by k_asm) (by k_asm) NL2 (by k_asm) rfl (by assumption) (by assumption) (by ktr_room) (by ktr_units) ?_
    rw [hdn1, hdn2]
    intro D2 t21 t22 cap2 ps12 c12' oc12 ps22 c22' oc22 h92 tk92 F92 N92 hT2' e12 e22 hl2
    unfold T4 at N92 hl2
    k_lt hl2
    dsimp only
    k_steps
    unfold Halt
    rename News _ _ _ _ => NL3
    subst_vars
    refine ne_tup NL3 (by k_mem) (by k_mem) ?_ ?_ (by ktr_units) ?_
    · first | rfl | omega
    · first | rfl | omega
    dsimp only
    k_steps
    rename News _ _ _ _ => kN
    obtain ⟨hU1, hU2, hU3, hU4⟩ := hT2'
    refine retL_fin hret hU1 hU2 (by k_asm) kN (by k_mem) (by k_mem) (by k_mem) (by k_mem) (by k_mem) (fun p hp => by k_mem) ⟨hU3, hU4⟩ (by omega) (by omega) (by omega) ?ex ?ey ?ez
    case ex => (rw [hpl]; omega)
    case ey => (first | (rw [hpl]; done) | (rw [hpl]; omega))
    case ez => rw [hpl]
end Mine
end

section
open PySem PySem.W PyProof.Rows PySem.Calls PySem.Spec
namespace Mine
def tops (l : List Int) : List Int := (rangeKs 0 6).foldl (fun r k => if l.getD k.toNat 0 = 1 then r ++ [k + 1] else r) []
def topOf (l : List Int) : Int := (tops l).foldl max 0
def chk (l : List Int) : Bool := decide ((Builtin.Int.intBits (val 2 l) : Int) = topOf l ∧ topOf l ≤ 6 ∧ digs 2 (val 2 l) (topOf l).toNat = l.take (topOf l).toNat ∧ topOf l ∈ [0] ++ tops l ∧ ∀ a ∈ [0] ++ tops l, a ≤ topOf l)
def b2i (b : Bool) : Int := if b then 1 else 0
theorem chk_all : ∀ a b c d e f : Bool, chk [b2i a, b2i b, b2i c, b2i d, b2i e, b2i f] = true := by decide +kernel
theorem b2i_of {d : Int} (h : 0 ≤ d ∧ d < 2) : ∃ b : Bool, d = b2i b := by
  rcases (show d = 0 ∨ d = 1 by omega) with rfl | rfl
  · exact ⟨false, rfl⟩
  · exact ⟨true, rfl⟩
theorem chk_ok {l : List Int} (hl : l.length = 6) (hd : DigsIn 2 l) : chk l = true := by
  match l, hl with
  | [a, b, c, d, e, f], _ =>
    obtain ⟨a', rfl⟩ := b2i_of (hd a (by simp))
    obtain ⟨b', rfl⟩ := b2i_of (hd b (by simp))
    obtain ⟨c', rfl⟩ := b2i_of (hd c (by simp))
    obtain ⟨d', rfl⟩ := b2i_of (hd d (by simp))
    obtain ⟨e', rfl⟩ := b2i_of (hd e (by simp))
    obtain ⟨f', rfl⟩ := b2i_of (hd f (by simp))
    exact chk_all a' b' c' d' e' f'
/-- the highest place that holds a 1, by its number from 1 on: the bits of the places' value, and its digits are the places below -/
theorem high_ok {l : List Int} (hl : l.length = 6) (hd : DigsIn 2 l) {M : Int} (h1 : M ∈ [0] ++ tops l) (h2 : ∀ a ∈ [0] ++ tops l, a ≤ M) :
    0 ≤ M ∧ M ≤ 6 ∧ (Builtin.Int.intBits (val 2 l) : Int) = M ∧ digs 2 (val 2 l) M.toNat = l.take M.toNat := by
  have h := of_decide_eq_true (chk_ok hl hd)
  obtain ⟨e1, e2, e3, e4, e5⟩ := h
  have e : M = topOf l := Int.le_antisymm (e5 M h1) (h2 _ e4)
  subst e
  exact ⟨e5 0 (by simp), e2, e1, e3⟩
theorem place_val {u v : Int} : (est u v 6).1 - 2 ^ Int.toNat 6 * u.fdiv v = val 2 (pls u v 6) := by
  have h := est_val u v 6
  have e : (est u v 0).1 = u.fdiv v := rfl
  rw [e] at h
  rw [h]
  have e6 : (2 : Int) ^ Int.toNat 6 = 2 ^ 6 := rfl
  rw [e6]
  omega
theorem place_bd {u v : Int} : 0 ≤ val 2 (pls u v 6) ∧ val 2 (pls u v 6) < 2 ^ 6 := by
  have h := val_in 2 (by decide) _ (pls_in u v 6)
  rw [pls_len] at h
  exact h
end Mine
end

section
open PySem PySem.W PyProof.Rows PySem.Calls PySem.Spec
set_option maxRecDepth 100000
namespace Mine
theorem shaped_li (ns : List Int) (x : Int) : PySem.SeqAt.shaped (.list [.list (ns.map PyData.int), .int x]) = true := by
  have h1 := W.depthAll_ints ns
  have h2 : PyData.depth (.list [.list (ns.map PyData.int), .int x]) ≤ 64 := by simp only [PyData.depth, PyData.depthAll]; omega
  show (PyData.canLay0 (.list [.list (ns.map PyData.int), .int x]) && decide (PyData.depth (.list [.list (ns.map PyData.int), .int x]) ≤ 64)) = true
  rw [Bool.and_eq_true]
  exact ⟨by simp only [PyData.canLay0, PyData.canLayAll0, W.canLayAll0_ints ns, Bool.and_self], decide_eq_true h2⟩
theorem shaped_til (a b x : Int) (ns : List Int) : PySem.SeqAt.shaped (.list [.tuple [.int a, .int b], .int x, .list (ns.map PyData.int)]) = true := by
  have h1 := W.depthAll_ints ns
  have h2 : PyData.depth (.list [.tuple [.int a, .int b], .int x, .list (ns.map PyData.int)]) ≤ 64 := by simp only [PyData.depth, PyData.depthAll]; omega
  show (PyData.canLay0 (.list [.tuple [.int a, .int b], .int x, .list (ns.map PyData.int)]) && decide (PyData.depth (.list [.tuple [.int a, .int b], .int x, .list (ns.map PyData.int)]) ≤ 64)) = true
  rw [Bool.and_eq_true]
  exact ⟨by simp only [PyData.canLay0, PyData.canLayAll0, W.canLayAll0_ints ns, Bool.and_self], decide_eq_true h2⟩
section
variable {prog : Program} {w : World} {A : Around} {E : Value → Shared → Prop} {s : Shared} {h₀ : Heap} {L : Addr} {news : List (Addr × Obj)} {Q : Value → Shared → Prop}
theorem ne_li {A1 B1 A2 B2 : Addr} {x y : Int} {t u : Tok} {v1 v2 : List Value} {ns ms : List Int} {c1 c2 k1 k2 : Nat} (N : News h₀ L s.heap news)
    (h1 : (A1, listOf #[.ref B1, .int x t] c1) ∈ news) (h2 : (B1, listOf v1.toArray k1) ∈ news) (i1 : IntsAre v1 ns) (h3 : (A2, listOf #[.ref B2, .int y u] c2) ∈ news) (h4 : (B2, listOf v2.toArray k2) ∈ news) (i2 : IntsAre v2 ms)
    (e : ns = ms) (exy : x = y) (hu : A.units + 64 < cLine) (h : Q (.bool false) s) : wpAny (model prog w) A (compareOp .NotEq (.ref A1) (.ref A2)) Q E s := by
  subst e; subst exy
  have r : ∀ {a b : Addr} {t : Tok} {v : List Value} {c k : Nat}, (a, listOf #[.ref b, .int x t] c) ∈ news → (b, listOf v.toArray k) ∈ news → IntsAre v ns → ∃ as, Reads s.heap (.ref a) (.list [.list (ns.map PyData.int), .int x]) as :=
    fun ha hb i => ⟨_, reads_list_at (N.get ha) rfl rfl (.cons (reads_list_at (N.get hb) rfl rfl (IntsAre.reads _ i)) (.cons (.int _ _) .nil))⟩
  obtain ⟨as, ra⟩ := r h1 h2 i1
  obtain ⟨bs, rb⟩ := r h3 h4 i2
  refine ne_dataH ra rb (shaped_li _ _) (shaped_li _ _) hu ?_
  rw [PySem.SeqAt.eqv_refl _ (PySem.SeqAt.canLay_of_shaped (shaped_li _ _))]
  exact h
theorem eq_til {A1 B1 C1 A2 B2 C2 : Addr} {a b x a' b' x' : Int} {t1 t2 t3 t4 t5 t6 : Tok} {o1 o2 : Obj} {n1 n2 : Nat} {v1 v2 : List Value} {ns ms : List Int} {c1 c2 k1 k2 : Nat} (N : News h₀ L s.heap news)
    (h1 : (A1, listOf #[.ref B1, .int x t3, .ref C1] c1) ∈ news) (h2 : (B1, o1) ∈ news) (ho1 : o1.cls = .type "tuple") (hd1 : o1.data = .seq #[.int a t1, .int b t2] n1) (h3 : (C1, listOf v1.toArray k1) ∈ news) (i1 : IntsAre v1 ns)
    (h4 : (A2, listOf #[.ref B2, .int x' t6, .ref C2] c2) ∈ news) (h5 : (B2, o2) ∈ news) (ho2 : o2.cls = .type "tuple") (hd2 : o2.data = .seq #[.int a' t4, .int b' t5] n2) (h6 : (C2, listOf v2.toArray k2) ∈ news) (i2 : IntsAre v2 ms)
    (ea : a = a') (eb : b = b') (ex : x = x') (e : ns = ms) (hu : A.units + 64 < cLine) (h : Q (.bool true) s) : wpAny (model prog w) A (compareOp .Eq (.ref A1) (.ref A2)) Q E s := by
  subst e; subst ex; subst ea; subst eb
  have r : ∀ {a1 b1 c1 : Addr} {t1 t2 t3 : Tok} {o : Obj} {v : List Value} {n c k : Nat}, (a1, listOf #[.ref b1, .int x t3, .ref c1] c) ∈ news → (b1, o) ∈ news → o.cls = .type "tuple" → o.data = .seq #[.int a t1, .int b t2] n → (c1, listOf v.toArray k) ∈ news → IntsAre v ns →
      ∃ as, Reads s.heap (.ref a1) (.list [.tuple [.int a, .int b], .int x, .list (ns.map PyData.int)]) as :=
    fun ha hb hc hd he i => ⟨_, reads_list_at (N.get ha) rfl rfl (.cons (.tuple (N.get hb) hc hd (.cons (.int _ _) (.cons (.int _ _) .nil))) (.cons (.int _ _) (.cons (reads_list_at (N.get he) rfl rfl (IntsAre.reads _ i)) .nil)))⟩
  obtain ⟨as, ra⟩ := r h1 h2 ho1 hd1 h3 i1
  obtain ⟨bs, rb⟩ := r h4 h5 ho2 hd2 h6 i2
  refine eq_dataH ra rb (shaped_til _ _ _ _) (shaped_til _ _ _ _) hu ?_
  rw [PySem.SeqAt.eqv_refl _ (PySem.SeqAt.canLay_of_shaped (shaped_til _ _ _ _))]
  exact h
end
end Mine
end

section
open PySem PySem.W PyProof.Rows PySem.Calls PySem.Spec
set_option maxRecDepth 100000
namespace Mine
local macro_rules | `(tactic| k_lt $h:ident) => `(tactic| (replace $h := allLt_of $h; simp only [AllLt, and_true] at $h:ident))
local macro_rules | `(tactic| k_all) => `(tactic| first | exact List.forall_mem_nil _ | (refine List.forall_mem_cons.mpr ⟨by k_ne, ?_⟩; k_all))
local macro_rules | `(tactic| k_mem) => `(tactic| first | exact List.Mem.head _ | (refine List.mem_cons_of_mem _ ?_; k_mem))
local macro_rules | `(tactic| walk_at "call ref") => `(tactic| (with_reducible refine halt ?_))
local macro_rules | `(tactic| walk_at "callWith ref") => `(tactic| (k_here; k_dflt (refine' callWith_K ?k1 ?k2 ?_; (case k1 => k_asm); (case k2 => k_is); k_whole)))
theorem pick {h₀ h : Heap} {L : Addr} {full : List (Addr × Obj)} (N : News h₀ L h full) (is : List Nat) : News h₀ L h (is.filterMap fun i => full[i]?) := fun p hp => by
  obtain ⟨i, _, hi⟩ := List.mem_filterMap.mp hp
  exact N p (List.mem_of_getElem? hi)
def RetE (e l q : Int) (c1 c2 : Addr) (news : List (Addr × Obj)) (h₀ : Heap) (L : Addr) (m : Str → Option Value) (s : Shared) (Q : Value → Shared → Prop) : Prop :=
  ∀ (D : Addr) (t1 t2 t3 : Tok) (cap : Nat) (ps1 : Array Value) (c1' : Addr) (oc1 : Obj) (ps2 : Array Value) (c2' : Addr) (oc2 : Obj) (h' : Heap) (tk' : Nat),
      Fr h₀ L h' m → News h₀ L h' ((D, listOf #[.int e t1, .int l t2, .int q t3] cap) :: (37, tabObj ps1) :: (c1', oc1) :: (30, tabObj ps2) :: (c2', oc2) :: news) → Tabs ps1 c1' oc1 ps2 c2' oc2 →
      (@Eq Nat c1' c1 ∨ @LE.le Nat _ (hi news) c1') → (@Eq Nat c2' c2 ∨ @LE.le Nat _ (hi news) c2') →
      (∀ p ∈ (37, tabObj ps1) :: (c1', oc1) :: (30, tabObj ps2) :: (c2', oc2) :: news, p.1 < D) → Q (.ref D) { s with heap := h', toks := tk' }
theorem round_est {w : World} {p : Program} {loose : List Str} {mean : ExcName → Option Value} {mg mb : Str → Option Value}
    (u v mm n : Int) (k : Nat) {tu tv tm tn te tl : Tok} {ps1 : Array Value} {c1 : Addr} {oc1 : Obj} {ps2 : Array Value} {c2 : Addr} {oc2 : Obj} {news : List (Addr × Obj)}
    {dp un : Nat} {gd : Option (List Code)} {cn : Str} {cs : Scope} {a : Addr} {ccd : Value} {cl : List (Str × Addr)} {outer : List Env} {A₀ : Around} {base h₀ : Heap} {L : Addr} {m : Str → Option Value} {s : Shared} {Q E : Value → Shared → Prop}
    (hn : n = k) (hk : k ≤ 5) (hv : v ≠ 0) (hm : (0 < u ∧ 0 < mm * v ∧ mm * v < u) ∨ (u < 0 ∧ u < mm * v ∧ mm * v < 0))
    (hu1 : -(2 ^ 31) < u) (hu2 : u < 2 ^ 31) (hv1 : -1000 ≤ v) (hv2 : v ≤ 1000) (hm1 : -(2 ^ 31) < mm) (hm2 : mm < 2 ^ 31)
    (N : News h₀ L s.heap ((37, tabObj ps1) :: (c1, oc1) :: (30, tabObj ps2) :: (c2, oc2) :: news)) (hst : Tabs ps1 c1 oc1 ps2 c2 oc2) (h37 : ∀ p ∈ news, p.1 ≠ 37) (h30 : ∀ p ∈ news, p.1 ≠ 30)
    (B : Below A₀ base outer h₀) (F : Fr h₀ L s.heap m) (X : (swHead.heap_39 w.params).In h₀) (T : Top p loose mean mg mb h₀) (hk' : cs.kind = .function)
    (C1 : CodeHd base 41 37) (C2 : CodeHd base 34 30)
    (hdp : dp + 60 < recursionLimit) (hun : un + 600 < cLine) (hret : RetE (est u v (k + 1)).1 (est u v (k + 1)).2 (plc v (est u v k).2) c1 c2 news h₀ L m s Q) :
    wpAny (model PySem.Challenge.rw_sw0084_01.row.prog w) (ktrTop dp un gd cn cs L a ccd cl outer) (call (.ref 63) [.int u tu, .int v tv, .int mm tm, .int n tn, .int (est u v k).1 te, .int (est u v k).2 tl]) Q E s := by
  subst hn
  have hb := est_bd40 hv hu1 hu2 k (by omega)
  have hp := est_pre hv hm k
  exact round_ok u v mm k _ _ _ _ _ _ _ _ ps1 c1 oc1 ps2 c2 oc2 news hu1 hu2 hv1 hv2 hm1 hm2 (by omega) (by omega) hb.1 hb.2 (by rw [Int.toNat_natCast]; exact hp) hst h37 h30 dp un gd cn cs a ccd cl outer A₀ base h₀ L m s Q E B F X N T hk' C1 C2 hdp hun hret
theorem eq_nil_r {prog : Program} {w : World} {A : Around} {E : Value → Shared → Prop} {s : Shared} {h₀ : Heap} {L D1 D2 : Addr} {news : List (Addr × Obj)} {a b c : Int} {t1 t2 t3 : Tok} {c1 c2 : Nat} {Q : Value → Shared → Prop}
    (N : News h₀ L s.heap news) (h1 : (D1, listOf #[.int a t1, .int b t2, .int c t3] c1) ∈ news) (h2 : (D2, listOf #[] c2) ∈ news) (hu : A.units + 64 < cLine) (h : Q (.bool false) s) :
    wpAny (model prog w) A (compareOp .Eq (.ref D1) (.ref D2)) Q E s := by
  refine eq_dataH (reads_list_at (N.get h1) rfl rfl (.cons (.int _ _) (.cons (.int _ _) (.cons (.int _ _) .nil)))) (reads_list_at (N.get h2) rfl rfl .nil) rfl rfl hu ?_
  simpa [PyData.eqv, PyData.eqvAll] using h
local macro_rules | `(tactic| walk_at "compareOp Eq ref ref") => `(tactic| (k_here; k_dflt (refine eq_nil_r (by k_asm) (by k_mem) (by k_mem) (by ktr_units) ?_)))
local macro_rules | `(tactic| walk_at "assign Tuple") => `(tactic| (k_here; (with_reducible show wpAny _ _ (assign (Expr.Tuple _ _ _) _ (Value.ref _)) _ _ _); k_dflt (refine' unpackN_ ?k1 ?k2 ?k3 ?k4 ?k5 ?k6 ?_; (case k1 => k_asm); (case k2 => k_asm); (case k3 => kun_tup); (case k4 => exact rfl); (case k5 => exact rfl); (case k6 => exact rfl); k_whole); intro h' F' N'; (try k_sweep)))
local macro_rules | `(tactic| walk_at "assign Tuple") => `(tactic| (k_here; (with_reducible show wpAny _ _ (assign (Expr.Tuple _ _ _) _ (Value.ref _)) _ _ _); k_dflt (refine' kun_list ?k1 ?k2 ?k3 ?k4 ?k5 ?k6 ?_; (case k1 => k_asm); (case k2 => k_asm); (case k3 => exact News.isList (by k_asm) (by k_mem)); (case k4 => exact rfl); (case k5 => exact rfl); (case k6 => exact rfl); k_whole); intro h' F' N'; (try k_sweep)))
def lawStmt : Stmt := match PySem.Challenge.pw_sw0084_01.main.body with
  | _ :: _ :: _ :: _ :: _ :: _ :: _ :: _ :: _ :: _ :: st :: _ => st
  | _ => default
def turnBody : List Stmt := match (bodyOf lawStmt).drop 9 with
  | .For _ _ b _ _ :: _ => b
  | _ => []
local macro_rules | `(tactic| walk_at "eval ListComp") => `(tactic| (with_reducible refine halt ?_))
local macro_rules | `(tactic| walk_at "CompSrcT") => `(tactic| (refine halt ?_))
local macro_rules | `(tactic| walk_at "subscriptTail Name Name ref int") => `(tactic| (k_here; k_dflt (refine item_list_intsR (News.isList (by k_asm) (by k_mem)) (show IntsAre _ (pls _ _ _) by assumption) (by omega) (by rw [pls_len]; omega) (by omega) ?_; intro _)))
local macro_rules | `(tactic| walk_at "CompEnd") => `(tactic| (refine halt ?_))
local macro_rules | `(tactic| walk_at "subscriptTail Name Slice ref ref") => `(tactic| (k_here; k_dflt (refine' kmk_slice_ints (vs := _) ?F ?N ?l ?p ?q ?i ?m ?c ?_ ?s ?t ?z; (case F => k_asm); (case N => k_asm); (case l => exact News.isList (by k_asm) (by k_mem)); (case p => exact IsPart.none); (case q => exact IsPart.int _ _); (case i => exact (show IntsAre _ (pls _ _ _) by assumption)); (case m => exact kmk_upto (show IntsAre _ (pls _ _ _) by assumption) (by omega)); (case c => exact rfl); (case s => with_unfolding_all rfl); (case t => kmk_pure); (case z => rw [sizeLine_eq]; omega)); intro D' ws' h' F' N' l1 hI' hC' hL'; (try k_lt l1); (try k_sweep)))
local macro_rules | `(tactic| walk_at "compareOp NotEq ref ref") => `(tactic| (with_reducible refine halt ?_))
abbrev MT (m : Str → Option Value) (uu vv : Int) (ta tl tw : Tok) : Str → Option Value := fun y =>
  if y = Str.ofString "a" then some (.int (est uu vv 6).1 ta) else if y = Str.ofString "left" then some (.int (est uu vv 6).2 tl) else if y = Str.ofString "whole" then some (.int (uu.fdiv vv) tw) else m y
def Off4 (d' d a b c e : Nat) : Prop := d' = d ∨ (a < d' ∧ b < d' ∧ c < d' ∧ e < d')
def TailGo (uu vv : Int) (ta tl tw : Tok) (m : Str → Option Value) (d1 d2 : Addr) (ow : Obj) (P I Dt : Addr) (it8 tupo : Obj) (vp : List Value) (cp : Nat) (h₀ : Heap) (L : Addr) (s : Shared) (Q : Flow → Shared → Prop) : Prop :=
  ∀ (vH : Option Value) (h' : Heap) (tk' : Nat) (q1' : Array Value) (d1' : Addr) (od1' : Obj) (q2' : Array Value) (d2' : Addr) (od2' : Obj),
    Fr h₀ L h' (fun y => if y = Str.ofString "high" then vH else MT m uu vv ta tl tw y) → News h₀ L h' [(P, listOf vp.toArray cp), (I, it8), (Dt, tupo), (37, tabObj q1'), (d1', od1'), (30, tabObj q2'), (d2', od2'), (L + 1, ow)] → Tabs q1' d1' od1' q2' d2' od2' →
    Off4 d1' d1 P I Dt (L + 1) → Off4 d2' d2 P I Dt (L + 1) → Q .next { s with heap := h', toks := tk' }
theorem TailGo.use {uu vv : Int} {ta tl tw : Tok} {m : Str → Option Value} {d1 d2 : Addr} {ow : Obj} {P I Dt : Addr} {it8 tupo : Obj} {vp : List Value} {cp : Nat} {h₀ : Heap} {L : Addr} {s : Shared} {Q : Flow → Shared → Prop}
    {vH : Option Value} {h' : Heap} {tk' : Nat} {q1' : Array Value} {d1' : Addr} {od1' : Obj} {q2' : Array Value} {d2' : Addr} {od2' : Obj} {full : List (Addr × Obj)} (h : TailGo uu vv ta tl tw m d1 d2 ow P I Dt it8 tupo vp cp h₀ L s Q)
    (F : Fr h₀ L h' (fun y => if y = Str.ofString "high" then vH else MT m uu vv ta tl tw y)) (N : News h₀ L h' full) (h1 : TabSt 37 47 4 qual2 q1' d1' od1') (h2 : TabSt 30 32 4 qual1 q2' d2' od2') (h3 : @Ne Nat d1' 30) (h4 : @Ne Nat d2' 37)
    (o1 : Off4 d1' d1 P I Dt (L + 1)) (o2 : Off4 d2' d2 P I Dt (L + 1)) (a1 : (P, listOf vp.toArray cp) ∈ full) (a2 : (I, it8) ∈ full) (a3 : (Dt, tupo) ∈ full) (a4 : (37, tabObj q1') ∈ full) (a5 : (d1', od1') ∈ full) (a6 : (30, tabObj q2') ∈ full) (a7 : (d2', od2') ∈ full) (a8 : (L + 1, ow) ∈ full) :
    Q .next { s with heap := h', toks := tk' } :=
  h vH h' tk' q1' d1' od1' q2' d2' od2' F (fun p hp => N p (by
    simp only [List.mem_cons, List.not_mem_nil, or_false] at hp
    rcases hp with rfl | rfl | rfl | rfl | rfl | rfl | rfl | rfl <;> assumption)) ⟨h1, h2, h3, h4⟩ o1 o2
set_option maxHeartbeats 8000000 in
theorem tail_ok {fa : Addr} {cdv : Value} {w : World} {p : Program} {loose : List Str} {mean : ExcName → Option Value} {mg mb : Str → Option Value}
    (uu vv : Int) (ta tl tw : Tok) (m : Str → Option Value) (q1 : Array Value) (d1 : Addr) (od1 : Obj) (q2 : Array Value) (d2 : Addr) (od2 ow : Obj) (P I Dt : Addr) (it8 tupo : Obj) (vp : List Value) (cp : Nat)
    (hTb : Tabs q1 d1 od1 q2 d2 od2) (how : ow.data = .cell (some (.ref P))) (hvp : IntsAre vp (pls uu vv 6))
    (dp un : Nat) (gd : Option (List Code)) (outer : List Env) (A₀ : Around) (base h₀ : Heap) (L : Addr) (s : Shared) (Q : Flow → Shared → Prop)
    (hL : @LT.lt Nat _ 37 L) (hLP : @LT.lt Nat _ 37 P) (hLI : @LT.lt Nat _ 37 I) (hLD : @LT.lt Nat _ 37 Dt)
    (B : Below A₀ base outer h₀) (F : Fr h₀ L s.heap (MT m uu vv ta tl tw)) (X : (swHead.heap_39 w.params).In h₀)
    (N : News h₀ L s.heap [(P, listOf vp.toArray cp), (I, it8), (Dt, tupo), (37, tabObj q1), (d1, od1), (30, tabObj q2), (d2, od2), (L + 1, ow)]) (T : Top p loose mean mg mb h₀)
    (C1 : CodeHd base 41 37) (C2 : CodeHd base 34 30) (hdp : dp + 90 < recursionLimit) (hun : un + 900 < cLine)
    (hgo : TailGo uu vv ta tl tw m d1 d2 ow P I Dt it8 tupo vp cp h₀ L s Q) :
    wpAny (model PySem.Challenge.rw_sw0084_01.row.prog w) (ktrTop dp un gd (Str.ofString "law") (scopeOf lawStmt) L fa cdv (cellsFrom (L + 1) (scopeOf lawStmt).names []) outer)
      (execs (turnBody.drop 2) (envX (Str.ofString "law") (scopeOf lawStmt) L fa cdv (cellsFrom (L + 1) (scopeOf lawStmt).names []))) Q (fun _ _ => False) s := by
  have e1 : turnBody.drop 2 = turnBody.drop 2 := rfl
  have e3 : scopeOf lawStmt = scopeOf lawStmt := rfl
  conv at e1 => rhs; whnf
  conv at e3 => rhs; whnf
  rw [e1, e3]
  clear e1 e3
  have hlen : vp.toArray.size = 6 := by rw [List.size_toArray, hvp.length, pls_len]
  revert X; k_fill; intro X
  k_steps
  unfold Halt
  refine LCt.ListComp_T (F₀ := by k_asm) (by with_unfolding_all rfl) (by decide) (by rfl) (by decide) (by rfl) ?_
  k_steps
  unfold Halt
  rename IsRange _ _ _ _ _ _ _ _ => hR
  rename Fr _ _ _ _ => FL
  rename News _ _ _ _ => NL
  refine LCt.CompSrcT.range (n := 6) (by rfl) FL NL hR (by decide) (by rfl) (by exact Nat.le_of_ble_eq_true rfl) ?_
  intro g'
  refine kci_range (a := 0) (fun l k => if (pls uu vv 6).getD k.toNat 0 = 1 then l ++ [k+1] else l) (fun k' t' I' oI' C' oC' D' m' ys' l' h' tk' E' hlo' hhi' hI' hC' hx' F' N' off' ne' mk' => ?_) ?_ ?_
  · dsimp only
    clear FL NL hR
    k_steps
    all_goals unfold Halt
    · exact LCg.CompEnd.intro F' N' _ (fun _ h => h) off' trivial (kci_el (by rw [if_pos (by assumption)]) rfl rfl)
    · exact LCg.CompEnd.intro F' N' _ (fun _ h => h) off' trivial (kci_no (by rw [if_neg (by assumption)]) rfl)
  · unfold KPfDone
    intro ys hys hysl D5 h5 tk5 F5 N5 o5
    clear FL NL hR
    simp only [LCg.Off1, and_true] at o5
    replace hys : IntsAre ys (tops (pls uu vv 6)) := hys
    dsimp only at F5 N5 ⊢
    k_steps
    rename Int => M
    rename M ∈ _ => hM1
    rename ∀ a : Int, a ∈ _ → a ≤ M => hM2
    obtain ⟨hM0, hM6, hMb, hMd⟩ := high_ok (pls_len uu vv 6) (pls_in uu vv 6) hM1 hM2
    clear hM1 hM2
    have hX := place_bd (u := uu) (v := vv)
    rename News _ _ _ _ => NL
    have NL2 := pick NL [8, 9, 6, 7, 3, 4, 5, 10]
    simp only [List.filterMap_cons, List.filterMap_nil, List.getElem?_cons_zero, List.getElem?_cons_succ] at NL2
    clear NL
    unfold Halt
    rw [place_val]
    generalize hXe : val 2 (pls uu vv 6) = x at *
    obtain ⟨hst1, hst2, hc1, hc2⟩ := hTb
    refine i2d_ok x 1 _ _ q2 d2 od2 _ hX.1 (by omega) (by omega) (by omega) hst2 (by k_all) _ _ _ _ _ _ _ _ _ _ _ _ _ _ _ _ _ (by k_asm) (by k_asm) (by k_asm) NL2 (by k_asm) rfl (by assumption) (by ktr_room) (by ktr_units) ?_
    clear NL2
    intro k D6 vi cap6 q2' d2' od2' h6 tk6 hk hi6 F6 N6 hst2' l61 l62 l63 l64
    dsimp only
    k_steps
    unfold Halt
    rename Fr _ _ _ _ => FL
    rename News _ _ _ _ => NL
    have hc2' : @Ne Nat d2' 37 := by
      rcases l64 with e | e
      · rw [e]; exact hc2
      · simp only [hi] at e; omega
    have l63' := l63
    rw [← allLt_hi] at l63'
    simp only [AllLt, and_true] at l63'
    have NL2 := pick NL [3, 4, 0, 1, 2, 5, 6, 7, 8]
    simp only [List.filterMap_cons, List.filterMap_nil, List.getElem?_cons_zero, List.getElem?_cons_succ] at NL2
    clear NL
    refine d2i_ok 1 _ P vp (pls uu vv 6) cp q1 d1 od1 _ (by k_mem) hvp (by rw [pls_len]; omega) (pls_in uu vv 6) (by omega) (by omega) hst1 ?_ _ _ _ _ _ _ _ _ _ _ _ _ _ _ _ _ _ (by k_asm) FL (by k_asm) NL2 (by k_asm) rfl (by assumption) (by ktr_room) (by ktr_units) ?_
    · k_all
    rw [show val (2 ^ Int.toNat 1) (pls uu vv 6) = x from hXe]
    clear NL2 FL
    intro t7 q1' d1' od1' h7 tk7 F7 N7 hst1' l71
    dsimp only
    k_steps
    unfold Halt
    have hkM : k = M.toNat := by
      rw [hk]
      simp only [show Int.toNat 1 = 1 from rfl, Nat.div_one, Nat.add_sub_cancel]
      omega
    rename News _ _ _ _ => NL
    refine ne_li NL (by k_mem) (by k_mem) hi6 (by k_mem) (by k_mem) (by assumption) (by rw [hkM]; exact hMd) (by rw [place_val]; exact hXe.symm) (by ktr_units) ?_
    have hd1' : @Ne Nat d1' 30 := by
      rcases l71 with e | e
      · rw [e]; exact hc1
      · simp only [hi] at e; omega
    have ho1 : Off4 d1' d1 P I Dt (L + 1) := by
      rcases l71 with e | e
      · exact Or.inl e
      · simp only [hi] at e; exact Or.inr ⟨by omega, by omega, by omega, by omega⟩
    have ho2 : Off4 d2' d2 P I Dt (L + 1) := by
      rcases l64 with e | e
      · exact Or.inl e
      · simp only [hi] at e; exact Or.inr ⟨by omega, by omega, by omega, by omega⟩
    k_steps
    rename News _ _ _ _ => NE
    exact hgo.use (by k_asm) NE hst1' hst2' hd1' hc2' ho1 ho2 (by k_mem) (by k_mem) (by k_mem) (by k_mem) (by k_mem) (by k_mem) (by k_mem) (by k_mem)
  · intro l k
    dsimp only
    split <;> simp
end Mine
end

section
open PySem PySem.W PyProof.Rows PySem.Calls PySem.Spec
set_option maxRecDepth 100000
namespace Mine
local macro_rules | `(tactic| k_lt $h:ident) => `(tactic| (replace $h := allLt_of $h; simp only [AllLt, and_true] at $h:ident))
local macro_rules | `(tactic| k_all) => `(tactic| first | exact List.forall_mem_nil _ | (refine List.forall_mem_cons.mpr ⟨by k_ne, ?_⟩; k_all))
local macro_rules | `(tactic| k_mem) => `(tactic| first | exact List.Mem.head _ | (refine List.mem_cons_of_mem _ ?_; k_mem))
local macro_rules | `(tactic| walk_at "call ref") => `(tactic| (with_reducible refine halt ?_))
local macro_rules | `(tactic| walk_at "callWith ref") => `(tactic| (k_here; k_dflt (refine' callWith_K ?k1 ?k2 ?_; (case k1 => k_asm); (case k2 => k_is); k_whole)))
local macro_rules | `(tactic| walk_at "compareOp Eq ref ref") => `(tactic| (k_here; k_dflt (refine eq_nil_r (by k_asm) (by k_mem) (by k_mem) (by ktr_units) ?_)))
local macro_rules | `(tactic| walk_at "subscriptTail Name Slice ref ref") => `(tactic| (k_here; k_dflt (refine' kms_slice_lit ?F ?N ?l ?p ?q ?e ?_ ?s ?t ?z; (case F => k_asm); (case N => k_asm); (case l => kmk_list); (case p => kmk_part); (case q => kmk_part); (case e => kl_lit); (case s => with_unfolding_all rfl); (case t => kmk_pure); (case z => kmk_size)); intro D' h' F' N' l1; (try k_lt l1); (try k_sweep)))
local macro_rules | `(tactic| walk_at "assign Tuple") => `(tactic| (k_here; (with_reducible show wpAny _ _ (assign (Expr.Tuple _ _ _) _ (Value.ref _)) _ _ _); k_dflt (refine' unpackN_ ?k1 ?k2 ?k3 ?k4 ?k5 ?k6 ?_; (case k1 => k_asm); (case k2 => k_asm); (case k3 => kun_tup); (case k4 => exact rfl); (case k5 => exact rfl); (case k6 => exact rfl); k_whole); intro h' F' N'; (try k_sweep)))
local macro_rules | `(tactic| walk_at "assign Tuple") => `(tactic| (k_here; (with_reducible show wpAny _ _ (assign (Expr.Tuple _ _ _) _ (Value.ref _)) _ _ _); k_dflt (refine' kun_list ?k1 ?k2 ?k3 ?k4 ?k5 ?k6 ?_; (case k1 => k_asm); (case k2 => k_asm); (case k3 => exact News.isList (by k_asm) (by k_mem)); (case k4 => exact rfl); (case k5 => exact rfl); (case k6 => exact rfl); k_whole); intro h' F' N'; (try k_sweep)))
theorem first_of {h₀ h : Heap} {L i : Addr} {o : Obj} {r : List (Addr × Obj)} (_ : News h₀ L h ((i, o) :: r)) : ∃ j : Addr, j = i := ⟨i, rfl⟩
theorem second_of {h₀ h : Heap} {L i : Addr} {x : Addr × Obj} {o : Obj} {r : List (Addr × Obj)} (_ : News h₀ L h (x :: (i, o) :: r)) : ∃ j : Addr, j = i := ⟨i, rfl⟩
theorem getD2 (a b c : Int) : [a, b, c].getD (Int.toNat 2) 0 = c := rfl
/-- a code's address lies off the five that the turn keeps -/
def Off5 (d a1 a2 a3 a4 : Nat) : Prop := d ≠ a1 ∧ d ≠ a2 ∧ d ≠ a3 ∧ d ≠ a4
theorem off5_of {d d' a1 a2 a3 a4 : Nat} {news : List (Addr × Obj)} (h : Off5 d a1 a2 a3 a4) (e : d' = d ∨ hi news ≤ d') (h1 : a1 < hi news) (h2 : a2 < hi news) (h3 : a3 < hi news) (h4 : a4 < hi news) : Off5 d' a1 a2 a3 a4 := by
  obtain ⟨b1, b2, b3, b4⟩ := h
  refine ⟨?_, ?_, ?_, ?_⟩ <;> omega
structure TF (uu vv sd mv : Int) : Prop where
  hv0 : vv ≠ 0
  hmm : (0 < uu ∧ 0 < (sd * mv) * vv ∧ (sd * mv) * vv < uu) ∨ (uu < 0 ∧ uu < (sd * mv) * vv ∧ (sd * mv) * vv < 0)
  hu1 : -(2 ^ 31) < uu
  hu2 : uu < 2 ^ 31
  hv1 : -1000 ≤ vv
  hv2 : vv ≤ 1000
  hm1 : -(2 ^ 31) < sd * mv
  hm2 : sd * mv < 2 ^ 31
def roundBody : List Stmt := match turnBody.drop 1 with
  | .For _ _ b _ _ :: _ => b
  | _ => []
abbrev MQ (m : Str → Option Value) (uu vv sd mv : Int) (tu tv ts tm : Tok) : Str → Option Value := fun y =>
  if y = Str.ofString "u" then some (.int uu tu) else if y = Str.ofString "v" then some (.int vv tv) else if y = Str.ofString "side" then some (.int sd ts) else if y = Str.ofString "m" then some (.int mv tm) else m y
abbrev MK (vN vA vL vC : Option Value) (R : Str → Option Value) : Str → Option Value := fun y =>
  if y = Str.ofString "n" then vN else if y = Str.ofString "a" then vA else if y = Str.ofString "left" then vL else if y = Str.ofString "came" then vC else R y
theorem fr_mk {h₀ h : Heap} {L : Addr} {vN vA vL vC : Option Value} {R : Str → Option Value} {M : Str → Option Value} (F : Fr h₀ L h M) (hn : M (Str.ofString "n") = vN) (ha : M (Str.ofString "a") = vA) (hl : M (Str.ofString "left") = vL) (hc : M (Str.ofString "came") = vC)
    (e : ∀ z, z ≠ Str.ofString "n" → z ≠ Str.ofString "a" → z ≠ Str.ofString "left" → z ≠ Str.ofString "came" → M z = R z) : Fr h₀ L h (MK vN vA vL vC R) := by
  have q : MK vN vA vL vC R = M := by
    funext z
    unfold MK
    by_cases h1 : z = Str.ofString "n"
    · rw [if_pos h1, h1]; exact hn.symm
    by_cases h2 : z = Str.ofString "a"
    · rw [if_neg h1, if_pos h2, h2]; exact ha.symm
    by_cases h3 : z = Str.ofString "left"
    · rw [if_neg h1, if_neg h2, if_pos h3, h3]; exact hl.symm
    by_cases h4 : z = Str.ofString "came"
    · rw [if_neg h1, if_neg h2, if_neg h3, if_pos h4, h4]; exact hc.symm
    rw [if_neg h1, if_neg h2, if_neg h3, if_neg h4]
    exact (e z h1 h2 h3 h4).symm
  rw [q]; exact F
local macro_rules | `(tactic| walk_at "binaryOp Add ref ref") => `(tactic| (k_here; (with_reducible show wpAny _ _ (binaryOp _ (Value.ref _) (Value.ref _)) _ _ _); k_dflt (refine' kmk_add_ints ?F ?N ?a ?b ?i ?j ?_ ?z; (case F => k_asm); (case N => k_asm); (case a => exact News.isList (by k_asm) (by k_mem)); (case b => exact News.isList (by k_asm) (by k_mem)); (case i => exact .cons _ _ .nil); (case j => exact (show IntsAre _ (pls _ _ _) by assumption)); (case z => rw [sizeLine_eq, pls_len]; simp only [List.length_cons, List.length_nil]; omega)); intro D' ws' h' F' N' l1 hI'; (try k_lt l1); (try k_sweep)))
def StepGo (uu vv sd mv n : Int) (k : Nat) (tn tu tv ts tm : Tok) (m : Str → Option Value) (it : Addr) (oit : Obj) (I Dt : Addr) (it8 tupo : Obj) (h₀ : Heap) (L : Addr) (s : Shared) (Q : Flow → Shared → Prop) : Prop :=
  ∀ (ta tl : Tok) (vC : Option Value) (q1 : Array Value) (d1 : Addr) (od1 : Obj) (q2 : Array Value) (d2 : Addr) (od2 ow : Obj) (P : Addr) (vp : List Value) (cp : Nat) (h' : Heap) (tk' : Nat),
    Fr h₀ L h' (MK (some (.int n tn)) (some (.int (est uu vv (k + 1)).1 ta)) (some (.int (est uu vv (k + 1)).2 tl)) vC (MQ m uu vv sd mv tu tv ts tm)) →
    News h₀ L h' [(it, oit), (P, listOf vp.toArray cp), (I, it8), (Dt, tupo), (37, tabObj q1), (d1, od1), (30, tabObj q2), (d2, od2), (L + 1, ow)] → Tabs q1 d1 od1 q2 d2 od2 → ow.data = .cell (some (.ref P)) → IntsAre vp (pls uu vv (k + 1)) →
    Off5 d1 (L + 1) it I Dt → Off5 d2 (L + 1) it I Dt → (@LT.lt Nat _ it P ∧ @LT.lt Nat _ I P ∧ @LT.lt Nat _ d1 P ∧ @LT.lt Nat _ d2 P) → Q .next { s with heap := h', toks := tk' }
set_option maxHeartbeats 8000000 in
theorem step_ok {fa : Addr} {cdv : Value} {w : World} {p : Program} {loose : List Str} {mean : ExcName → Option Value} {mg mb : Str → Option Value}
    (uu vv sd mv n : Int) (k : Nat) (tn tu tv ts tm ta tl : Tok) (m : Str → Option Value) (vC : Option Value) (q1 : Array Value) (d1 : Addr) (od1 : Obj) (q2 : Array Value) (d2 : Addr) (od2 ow : Obj) (it : Addr) (oit : Obj) (P I Dt : Addr) (it8 tupo : Obj) (vp : List Value) (cp : Nat)
    (hF : TF uu vv sd mv) (hmul : IntMulOk sd mv) (hn : n = k) (hk : k ≤ 5) (hTb : Tabs q1 d1 od1 q2 d2 od2) (how : ow.data = .cell (some (.ref P))) (hvp : IntsAre vp (pls uu vv k))
    (dp un : Nat) (gd : Option (List Code)) (outer : List Env) (A₀ : Around) (base h₀ : Heap) (L : Addr) (s : Shared) (Q : Flow → Shared → Prop)
    (ho1 : Off5 d1 (L + 1) it I Dt) (ho2 : Off5 d2 (L + 1) it I Dt) (hL : @LT.lt Nat _ 37 L) (hLD : @LT.lt Nat _ (L + 1) Dt) (hDI : @LT.lt Nat _ Dt I) (hIi : @LT.lt Nat _ I it) (hIP : @LT.lt Nat _ I P)
    (B : Below A₀ base outer h₀) (F : Fr h₀ L s.heap (MK (some (.int n tn)) (some (.int (est uu vv k).1 ta)) (some (.int (est uu vv k).2 tl)) vC (MQ m uu vv sd mv tu tv ts tm))) (X : (swHead.heap_39 w.params).In h₀)
    (N : News h₀ L s.heap [(it, oit), (P, listOf vp.toArray cp), (I, it8), (Dt, tupo), (37, tabObj q1), (d1, od1), (30, tabObj q2), (d2, od2), (L + 1, ow)]) (T : Top p loose mean mg mb h₀)
    (C1 : CodeHd base 41 37) (C2 : CodeHd base 34 30) (hdp : dp + 90 < recursionLimit) (hun : un + 900 < cLine)
    (hgo : StepGo uu vv sd mv n k tn tu tv ts tm m it oit I Dt it8 tupo h₀ L s Q) :
    wpAny (model PySem.Challenge.rw_sw0084_01.row.prog w) (ktrTop dp un gd (Str.ofString "law") (scopeOf lawStmt) L fa cdv (cellsFrom (L + 1) (scopeOf lawStmt).names []) outer)
      (execs roundBody (envX (Str.ofString "law") (scopeOf lawStmt) L fa cdv (cellsFrom (L + 1) (scopeOf lawStmt).names []))) Q (fun _ _ => False) s := by
  have e1 : roundBody = roundBody := rfl
  have e3 : scopeOf lawStmt = scopeOf lawStmt := rfl
  conv at e1 => rhs; whnf
  conv at e3 => rhs; whnf
  rw [e1, e3]
  clear e1 e3
  have hlen : vp.toArray.size = k := by rw [List.size_toArray, hvp.length, pls_len]
  revert X; k_fill; intro X
  have hx1 := ho1
  have hx2 := ho2
  unfold Off5 at hx1 hx2
  k_steps
  clear hx1 hx2
  unfold Halt
  rename News _ _ _ _ => NL
  have NL2 := pick NL [4, 5, 6, 7, 0, 1, 2, 3, 8]
  simp only [List.filterMap_cons, List.filterMap_nil, List.getElem?_cons_zero, List.getElem?_cons_succ] at NL2
  clear NL
  refine round_est uu vv (sd * mv) n k hn hk hF.hv0 hF.hmm hF.hu1 hF.hu2 hF.hv1 hF.hv2 hF.hm1 hF.hm2 NL2 hTb (by k_all) (by k_all) (by k_asm) (by k_asm) (by k_asm) (by k_asm) rfl (by assumption) (by assumption) (by ktr_room) (by ktr_units) ?_
  clear NL2 hTb
  intro D9 t91 t92 t93 cap9 q1 d1' od1 q2 d2' od2 h9 tk9 F9 N9 hTb e91 e92 hl9
  have ho1 := off5_of ho1 e91 (by simp only [hi]; omega) (by simp only [hi]; omega) (by simp only [hi]; omega) (by simp only [hi]; omega)
  have ho2 := off5_of ho2 e92 (by simp only [hi]; omega) (by simp only [hi]; omega) (by simp only [hi]; omega) (by simp only [hi]; omega)
  clear e91 e92
  have hx1 := ho1
  have hx2 := ho2
  unfold Off5 at hx1 hx2
  k_lt hl9
  dsimp only
  k_steps
  rename News _ _ _ _ => NE
  rename Fr _ _ _ _ => FE
  rename IntsAre _ ([_] ++ _) => hI5
  have NL2 := pick NE [9, 0, 11, 12, 5, 6, 7, 8, 13]
  simp only [List.filterMap_cons, List.filterMap_nil, List.getElem?_cons_zero, List.getElem?_cons_succ] at NL2
  dsimp only
  exact hgo _ _ _ q1 d1' od1 q2 d2' od2 _ _ _ _ _ _ (fr_mk FE rfl rfl rfl rfl (fun z h1 h2 h3 h4 => by simp only [MK, if_neg h1, if_neg h2, if_neg h3, if_neg h4])) NL2 hTb (by assumption) hI5 ho1 ho2 ⟨by omega, by omega, by omega, by omega⟩
end Mine
end

section
open PySem PySem.W PyProof.Rows PySem.Calls PySem.Spec
set_option maxRecDepth 100000
namespace Mine
local macro_rules | `(tactic| k_lt $h:ident) => `(tactic| (replace $h := allLt_of $h; simp only [AllLt, and_true] at $h:ident))
local macro_rules | `(tactic| k_all) => `(tactic| first | exact List.forall_mem_nil _ | (refine List.forall_mem_cons.mpr ⟨by k_ne, ?_⟩; k_all))
local macro_rules | `(tactic| k_mem) => `(tactic| first | exact List.Mem.head _ | (refine List.mem_cons_of_mem _ ?_; k_mem))
local macro_rules | `(tactic| walk_at "call ref") => `(tactic| (with_reducible refine halt ?_))
local macro_rules | `(tactic| walk_at "callWith ref") => `(tactic| (k_here; k_dflt (refine' callWith_K ?k1 ?k2 ?_; (case k1 => k_asm); (case k2 => k_is); k_whole)))
local macro_rules | `(tactic| walk_at "compareOp Eq ref ref") => `(tactic| (k_here; k_dflt (refine eq_nil_r (by k_asm) (by k_mem) (by k_mem) (by ktr_units) ?_)))
local macro_rules | `(tactic| walk_at "subscriptTail Name Slice ref ref") => `(tactic| (k_here; k_dflt (refine' kms_slice_lit ?F ?N ?l ?p ?q ?e ?_ ?s ?t ?z; (case F => k_asm); (case N => k_asm); (case l => kmk_list); (case p => kmk_part); (case q => kmk_part); (case e => kl_lit); (case s => with_unfolding_all rfl); (case t => kmk_pure); (case z => kmk_size)); intro D' h' F' N' l1; (try k_lt l1); (try k_sweep)))
local macro_rules | `(tactic| walk_at "assign Tuple") => `(tactic| (k_here; (with_reducible show wpAny _ _ (assign (Expr.Tuple _ _ _) _ (Value.ref _)) _ _ _); k_dflt (refine' unpackN_ ?k1 ?k2 ?k3 ?k4 ?k5 ?k6 ?_; (case k1 => k_asm); (case k2 => k_asm); (case k3 => kun_tup); (case k4 => exact rfl); (case k5 => exact rfl); (case k6 => exact rfl); k_whole); intro h' F' N'; (try k_sweep)))
local macro_rules | `(tactic| walk_at "assign Tuple") => `(tactic| (k_here; (with_reducible show wpAny _ _ (assign (Expr.Tuple _ _ _) _ (Value.ref _)) _ _ _); k_dflt (refine' kun_list ?k1 ?k2 ?k3 ?k4 ?k5 ?k6 ?_; (case k1 => k_asm); (case k2 => k_asm); (case k3 => exact News.isList (by k_asm) (by k_mem)); (case k4 => exact rfl); (case k5 => exact rfl); (case k6 => exact rfl); k_whole); intro h' F' N'; (try k_sweep)))
local macro_rules | `(tactic| walk_at "execs cons") => `(tactic| ((with_reducible show wpAny _ _ (execs (Stmt.Assign [Expr.Name (Str.ofString "came") _] _ _ :: _) _) _ _ _); with_reducible refine halt ?_))
local macro_rules | `(tactic| walk_at "execs cons") => `(tactic| ((with_reducible show wpAny _ _ (execs (Stmt.Assign [Expr.Name (Str.ofString "high") _] _ _ :: _) _) _ _ _); with_reducible refine halt ?_))
abbrev MM (m2 : Str → Option Value) (uu vv sd mv tp : Int) (tu tv ts tm tw tr tt : Tok) (vM vA vL vN vC vH : Option Value) : Str → Option Value := fun y =>
  if y = Str.ofString "m" then some (.int mv tm) else if y = Str.ofString "m" then vM else if y = Str.ofString "a" then vA else if y = Str.ofString "left" then vL else if y = Str.ofString "n" then vN else if y = Str.ofString "came" then vC else if y = Str.ofString "high" then vH
  else if y = Str.ofString "whole" then some (.int (uu.fdiv vv) tw) else if y = Str.ofString "rest" then some (.int (uu.fmod vv) tr) else if y = Str.ofString "top" then some (.int tp tt) else if y = Str.ofString "side" then some (.int sd ts) else if y = Str.ofString "v" then some (.int vv tv) else if y = Str.ofString "u" then some (.int uu tu) else m2 y
theorem m_shape {m₂ m₁ : Str → Option Value} {vM vA vL vN vC vH : Option Value}
    (e : ∀ z, z ≠ Str.ofString "m" → z ≠ Str.ofString "a" → z ≠ Str.ofString "left" → z ≠ Str.ofString "n" → z ≠ Str.ofString "came" → z ≠ Str.ofString "high" → m₂ z = m₁ z)
    (eM : m₂ (Str.ofString "m") = vM) (eA : m₂ (Str.ofString "a") = vA) (eL : m₂ (Str.ofString "left") = vL) (eN : m₂ (Str.ofString "n") = vN) (eC : m₂ (Str.ofString "came") = vC) (eH : m₂ (Str.ofString "high") = vH) :
    m₂ = fun z => if z = Str.ofString "m" then vM else if z = Str.ofString "a" then vA else if z = Str.ofString "left" then vL else if z = Str.ofString "n" then vN else if z = Str.ofString "came" then vC else if z = Str.ofString "high" then vH else m₁ z := by
  funext z
  by_cases h1 : z = Str.ofString "m"
  · rw [if_pos h1, h1]; exact eM
  by_cases h2 : z = Str.ofString "a"
  · rw [if_neg h1, if_pos h2, h2]; exact eA
  by_cases h3 : z = Str.ofString "left"
  · rw [if_neg h1, if_neg h2, if_pos h3, h3]; exact eL
  by_cases h4 : z = Str.ofString "n"
  · rw [if_neg h1, if_neg h2, if_neg h3, if_pos h4, h4]; exact eN
  by_cases h5 : z = Str.ofString "came"
  · rw [if_neg h1, if_neg h2, if_neg h3, if_neg h4, if_pos h5, h5]; exact eC
  by_cases h6 : z = Str.ofString "high"
  · rw [if_neg h1, if_neg h2, if_neg h3, if_neg h4, if_neg h5, if_pos h6, h6]; exact eH
  rw [if_neg h1, if_neg h2, if_neg h3, if_neg h4, if_neg h5, if_neg h6]
  exact e z h1 h2 h3 h4 h5 h6
theorem mt_eq {M : Str → Option Value} {uu vv : Int} {ta tl tw : Tok} (ha : M (Str.ofString "a") = some (.int (est uu vv 6).1 ta)) (hl : M (Str.ofString "left") = some (.int (est uu vv 6).2 tl)) (hw : M (Str.ofString "whole") = some (.int (uu.fdiv vv) tw)) : MT M uu vv ta tl tw = M := by
  funext z
  unfold MT
  by_cases h1 : z = Str.ofString "a"
  · rw [if_pos h1, h1]; exact ha.symm
  by_cases h2 : z = Str.ofString "left"
  · rw [if_neg h1, if_pos h2, h2]; exact hl.symm
  by_cases h3 : z = Str.ofString "whole"
  · rw [if_neg h1, if_neg h2, if_pos h3, h3]; exact hw.symm
  rw [if_neg h1, if_neg h2, if_neg h3]
theorem fr_mt {h₀ h : Heap} {L : Addr} {M : Str → Option Value} {uu vv : Int} {ta tl tw : Tok} (F : Fr h₀ L h M) (ha : M (Str.ofString "a") = some (.int (est uu vv 6).1 ta)) (hl : M (Str.ofString "left") = some (.int (est uu vv 6).2 tl)) (hw : M (Str.ofString "whole") = some (.int (uu.fdiv vv) tw)) : Fr h₀ L h (MT M uu vv ta tl tw) := by
  rw [mt_eq ha hl hw]; exact F
abbrev M6 (vM vA vL vN vC vH : Option Value) (R : Str → Option Value) : Str → Option Value := fun z => if z = Str.ofString "m" then vM else if z = Str.ofString "a" then vA else if z = Str.ofString "left" then vL else if z = Str.ofString "n" then vN else if z = Str.ofString "came" then vC else if z = Str.ofString "high" then vH else R z
abbrev MR (m2 : Str → Option Value) (uu vv sd tp : Int) (tu tv ts tw tr tt : Tok) : Str → Option Value := fun y =>
  if y = Str.ofString "whole" then some (.int (uu.fdiv vv) tw) else if y = Str.ofString "rest" then some (.int (uu.fmod vv) tr) else if y = Str.ofString "top" then some (.int tp tt) else if y = Str.ofString "side" then some (.int sd ts) else if y = Str.ofString "v" then some (.int vv tv) else if y = Str.ofString "u" then some (.int uu tu) else m2 y
theorem fr_m6 {h₀ h : Heap} {L : Addr} {M R : Str → Option Value} {uu vv : Int} {ta tl tw : Tok} {vH vM vN vC : Option Value} (F : Fr h₀ L h (fun y => if y = Str.ofString "high" then vH else MT M uu vv ta tl tw y)) (ha : M (Str.ofString "a") = some (.int (est uu vv 6).1 ta)) (hl : M (Str.ofString "left") = some (.int (est uu vv 6).2 tl)) (hw : M (Str.ofString "whole") = some (.int (uu.fdiv vv) tw))
    (e : ∀ z, z ≠ Str.ofString "m" → z ≠ Str.ofString "a" → z ≠ Str.ofString "left" → z ≠ Str.ofString "n" → z ≠ Str.ofString "came" → z ≠ Str.ofString "high" → M z = R z) (eM : M (Str.ofString "m") = vM) (eN : M (Str.ofString "n") = vN) (eC : M (Str.ofString "came") = vC) :
    Fr h₀ L h (M6 vM (some (.int (est uu vv 6).1 ta)) (some (.int (est uu vv 6).2 tl)) vN vC vH R) := by
  rw [mt_eq ha hl hw] at F
  have q := m_shape (m₂ := fun y => if y = Str.ofString "high" then vH else M y) (m₁ := R) (vM := vM) (vA := some (.int (est uu vv 6).1 ta)) (vL := some (.int (est uu vv 6).2 tl)) (vN := vN) (vC := vC) (vH := vH)
    (fun z h1 h2 h3 h4 h5 h6 => by rw [if_neg h6]; exact e z h1 h2 h3 h4 h5 h6) (by rw [if_neg (by decide)]; exact eM) (by rw [if_neg (by decide)]; exact ha) (by rw [if_neg (by decide)]; exact hl) (by rw [if_neg (by decide)]; exact eN) (by rw [if_neg (by decide)]; exact eC) (by rw [if_pos rfl])
  rw [q] at F
  exact F
def TurnGo (uu vv sd mv tp : Int) (tu tv ts tm tw tr tt : Tok) (m2 : Str → Option Value) (I Dt : Addr) (it8 tupo : Obj) (h₀ : Heap) (L : Addr) (s : Shared) (Q : Flow → Shared → Prop) : Prop :=
  ∀ (ta tl : Tok) (vN vC vH : Option Value) (q1 : Array Value) (d1 : Addr) (od1 : Obj) (q2 : Array Value) (d2 : Addr) (od2 ow : Obj) (P : Addr) (vp : List Value) (cp : Nat) (h' : Heap) (tk' : Nat),
    Fr h₀ L h' (M6 (some (.int mv tm)) (some (.int (est uu vv 6).1 ta)) (some (.int (est uu vv 6).2 tl)) vN vC vH (MR m2 uu vv sd tp tu tv ts tw tr tt)) →
    News h₀ L h' [(P, listOf vp.toArray cp), (I, it8), (Dt, tupo), (37, tabObj q1), (d1, od1), (30, tabObj q2), (d2, od2), (L + 1, ow)] → Tabs q1 d1 od1 q2 d2 od2 → ow.data = .cell (some (.ref P)) → IntsAre vp (pls uu vv 6) →
    Off5 d1 (L + 1) P I Dt → Off5 d2 (L + 1) P I Dt → @LT.lt Nat _ I P → Q .next { s with heap := h', toks := tk' }
theorem off5_4 {d' d a p i t P : Nat} (h : Off5 d a p i t) (o : Off4 d' d P i t a) (hP : d ≠ P) : Off5 d' a P i t := by
  obtain ⟨h1, h2, h3, h4⟩ := h
  unfold Off5
  rcases o with rfl | ⟨o1, o2, o3, o4⟩
  · exact ⟨h1, hP, h3, h4⟩
  · exact ⟨by omega, by omega, by omega, by omega⟩
theorem mq_eq {M : Str → Option Value} {uu vv sd mv : Int} {tu tv ts tm : Tok} (hu : M (Str.ofString "u") = some (.int uu tu)) (hv : M (Str.ofString "v") = some (.int vv tv)) (hs : M (Str.ofString "side") = some (.int sd ts)) (hm : M (Str.ofString "m") = some (.int mv tm)) : MQ M uu vv sd mv tu tv ts tm = M := by
  funext z
  unfold MQ
  by_cases h1 : z = Str.ofString "u"
  · rw [if_pos h1, h1]; exact hu.symm
  by_cases h2 : z = Str.ofString "v"
  · rw [if_neg h1, if_pos h2, h2]; exact hv.symm
  by_cases h3 : z = Str.ofString "side"
  · rw [if_neg h1, if_neg h2, if_pos h3, h3]; exact hs.symm
  by_cases h4 : z = Str.ofString "m"
  · rw [if_neg h1, if_neg h2, if_neg h3, if_pos h4, h4]; exact hm.symm
  rw [if_neg h1, if_neg h2, if_neg h3, if_neg h4]
set_option maxHeartbeats 8000000 in
theorem turn_ok {fa : Addr} {cdv : Value} {w : World} {p : Program} {loose : List Str} {mean : ExcName → Option Value} {mg mb : Str → Option Value}
    (uu vv sd mv tp : Int) (tu tv ts tm tw tr tt : Tok) (m2 : Str → Option Value) (vM vA vL vN vC vH v0 : Option Value) (q1 : Array Value) (d1 : Addr) (od1 : Obj) (q2 : Array Value) (d2 : Addr) (od2 ow : Obj) (I Dt : Addr) (it8 tupo : Obj)
    (hF : TF uu vv sd mv) (hmul : IntMulOk sd mv) (hTb : Tabs q1 d1 od1 q2 d2 od2) (how : ow.data = .cell v0)
    (dp un : Nat) (gd : Option (List Code)) (outer : List Env) (A₀ : Around) (base h₀ : Heap) (L : Addr) (s : Shared) (Q : Flow → Shared → Prop)
    (hd1 : @Ne Nat d1 (L + 1)) (hd2 : @Ne Nat d2 (L + 1)) (hd3 : @Ne Nat d1 I) (hd4 : @Ne Nat d2 I) (hd5 : @Ne Nat d1 Dt) (hd6 : @Ne Nat d2 Dt) (hL : @LT.lt Nat _ 37 L) (hLD : @LT.lt Nat _ (L + 1) Dt) (hDI : @LT.lt Nat _ Dt I)
    (B : Below A₀ base outer h₀) (F : Fr h₀ L s.heap (MM m2 uu vv sd mv tp tu tv ts tm tw tr tt vM vA vL vN vC vH)) (X : (swHead.heap_39 w.params).In h₀)
    (N : News h₀ L s.heap [(I, it8), (Dt, tupo), (37, tabObj q1), (d1, od1), (30, tabObj q2), (d2, od2), (L + 1, ow)]) (T : Top p loose mean mg mb h₀)
    (C1 : CodeHd base 41 37) (C2 : CodeHd base 34 30) (hdp : dp + 90 < recursionLimit) (hun : un + 900 < cLine)
    (hgo : TurnGo uu vv sd mv tp tu tv ts tm tw tr tt m2 I Dt it8 tupo h₀ L s Q) :
    wpAny (model PySem.Challenge.rw_sw0084_01.row.prog w) (ktrTop dp un gd (Str.ofString "law") (scopeOf lawStmt) L fa cdv (cellsFrom (L + 1) (scopeOf lawStmt).names []) outer)
      (execs turnBody (envX (Str.ofString "law") (scopeOf lawStmt) L fa cdv (cellsFrom (L + 1) (scopeOf lawStmt).names []))) Q (fun _ _ => False) s := by
  have e1 : turnBody = turnBody := rfl
  have e3 : scopeOf lawStmt = scopeOf lawStmt := rfl
  conv at e1 => rhs; whnf
  conv at e3 => rhs; whnf
  rw [e1, e3]
  clear e1 e3
  revert X; k_fill; intro X
  k_steps
  have hQ : MQ (MM m2 uu vv sd mv tp tu tv ts tm tw tr tt vM vA vL vN vC vH) uu vv sd mv tu tv ts tm = MM m2 uu vv sd mv tp tu tv ts tm tw tr tt vM vA vL vN vC vH := mq_eq rfl rfl rfl rfl
  unfold Halt
  rename News _ _ _ _ => NL
  rename Fr _ _ _ _ => FL
  obtain ⟨i6, hi6⟩ := first_of NL
  subst hi6
  have ho1 : Off5 d1 (L + 1) i6 I Dt := ⟨by omega, by omega, by omega, by omega⟩
  have ho2 : Off5 d2 (L + 1) i6 I Dt := ⟨by omega, by omega, by omega, by omega⟩
  have NL2 := pick NL [0, 2, 3, 4, 5, 6, 7, 8, 9]
  simp only [List.filterMap_cons, List.filterMap_nil, List.getElem?_cons_zero, List.getElem?_cons_succ] at NL2
  clear NL
  refine step_ok uu vv sd mv _ 0 _ tu tv ts tm _ _ (MM m2 uu vv sd mv tp tu tv ts tm tw tr tt vM vA vL vN vC vH) _ q1 d1 od1 q2 d2 od2 _ i6 _ _ I Dt it8 tupo [] _ hF hmul (by rfl) (by decide) hTb (by assumption) .nil dp un gd outer A₀ base h₀ L _ _ ho1 ho2 hL hLD hDI (by omega) (by omega) (by k_asm)
    (fr_mk (R := (MQ (MM m2 uu vv sd mv tp tu tv ts tm tw tr tt vM vA vL vN vC vH) uu vv sd mv tu tv ts tm)) FL rfl rfl rfl rfl (fun z h1 h2 h3 h4 => by rw [hQ]; simp only [MM, if_neg h1, if_neg h2, if_neg h3, if_neg h4])) (by k_asm) NL2 (by k_asm) (by assumption) (by assumption) hdp hun ?_
  clear NL2 hTb FL ho1 ho2
  intro t91 t92 vC9 q1 d1 od1 q2 d2 od2 ow9 P9 vp9 cp9 h9 tk9 F9 N9 hTb how9 hvp9 ho1 ho2 hP9
  have hx1 := ho1
  have hx2 := ho2
  unfold Off5 at hx1 hx2
  dsimp only
  k_steps
  refine UnrEnd.intro F9 N9 _ (fun p hp => hp) (by k_all) ?_
  k_steps
  clear hx1 hx2
  unfold Halt
  rename News _ _ _ _ => NL
  rename Fr _ _ _ _ => FL
  refine step_ok uu vv sd mv _ 1 _ tu tv ts tm _ _ (MM m2 uu vv sd mv tp tu tv ts tm tw tr tt vM vA vL vN vC vH) _ q1 d1 od1 q2 d2 od2 _ i6 _ _ I Dt it8 tupo vp9 _ hF hmul (by rfl) (by decide) hTb how9 hvp9 dp un gd outer A₀ base h₀ L _ _ ho1 ho2 hL hLD hDI (by omega) (by omega) (by k_asm)
    (fr_mk (R := (MQ (MM m2 uu vv sd mv tp tu tv ts tm tw tr tt vM vA vL vN vC vH) uu vv sd mv tu tv ts tm)) FL rfl rfl rfl rfl (fun z h1 h2 h3 h4 => by simp only [MK, if_neg h1, if_neg h2, if_neg h3, if_neg h4])) (by k_asm) NL (by k_asm) (by assumption) (by assumption) hdp hun ?_
  clear NL hTb FL ho1 ho2 hvp9 how9
  intro t91 t92 vC9 q1 d1 od1 q2 d2 od2 ow9 P9 vp9 cp9 h9 tk9 F9 N9 hTb how9 hvp9 ho1 ho2 hP9
  have hx1 := ho1
  have hx2 := ho2
  unfold Off5 at hx1 hx2
  dsimp only
  k_steps
  refine UnrEnd.intro F9 N9 _ (fun p hp => hp) (by k_all) ?_
  k_steps
  clear hx1 hx2
  unfold Halt
  rename News _ _ _ _ => NL
  rename Fr _ _ _ _ => FL
  refine step_ok uu vv sd mv _ 2 _ tu tv ts tm _ _ (MM m2 uu vv sd mv tp tu tv ts tm tw tr tt vM vA vL vN vC vH) _ q1 d1 od1 q2 d2 od2 _ i6 _ _ I Dt it8 tupo vp9 _ hF hmul (by rfl) (by decide) hTb how9 hvp9 dp un gd outer A₀ base h₀ L _ _ ho1 ho2 hL hLD hDI (by omega) (by omega) (by k_asm)
    (fr_mk (R := (MQ (MM m2 uu vv sd mv tp tu tv ts tm tw tr tt vM vA vL vN vC vH) uu vv sd mv tu tv ts tm)) FL rfl rfl rfl rfl (fun z h1 h2 h3 h4 => by simp only [MK, if_neg h1, if_neg h2, if_neg h3, if_neg h4])) (by k_asm) NL (by k_asm) (by assumption) (by assumption) hdp hun ?_
  clear NL hTb FL ho1 ho2 hvp9 how9
  intro t91 t92 vC9 q1 d1 od1 q2 d2 od2 ow9 P9 vp9 cp9 h9 tk9 F9 N9 hTb how9 hvp9 ho1 ho2 hP9
  have hx1 := ho1
  have hx2 := ho2
  unfold Off5 at hx1 hx2
  dsimp only
  k_steps
  refine UnrEnd.intro F9 N9 _ (fun p hp => hp) (by k_all) ?_
  k_steps
  clear hx1 hx2
  unfold Halt
  rename News _ _ _ _ => NL
  rename Fr _ _ _ _ => FL
  refine step_ok uu vv sd mv _ 3 _ tu tv ts tm _ _ (MM m2 uu vv sd mv tp tu tv ts tm tw tr tt vM vA vL vN vC vH) _ q1 d1 od1 q2 d2 od2 _ i6 _ _ I Dt it8 tupo vp9 _ hF hmul (by rfl) (by decide) hTb how9 hvp9 dp un gd outer A₀ base h₀ L _ _ ho1 ho2 hL hLD hDI (by omega) (by omega) (by k_asm)
    (fr_mk (R := (MQ (MM m2 uu vv sd mv tp tu tv ts tm tw tr tt vM vA vL vN vC vH) uu vv sd mv tu tv ts tm)) FL rfl rfl rfl rfl (fun z h1 h2 h3 h4 => by simp only [MK, if_neg h1, if_neg h2, if_neg h3, if_neg h4])) (by k_asm) NL (by k_asm) (by assumption) (by assumption) hdp hun ?_
  clear NL hTb FL ho1 ho2 hvp9 how9
  intro t91 t92 vC9 q1 d1 od1 q2 d2 od2 ow9 P9 vp9 cp9 h9 tk9 F9 N9 hTb how9 hvp9 ho1 ho2 hP9
  have hx1 := ho1
  have hx2 := ho2
  unfold Off5 at hx1 hx2
  dsimp only
  k_steps
  refine UnrEnd.intro F9 N9 _ (fun p hp => hp) (by k_all) ?_
  k_steps
  clear hx1 hx2
  unfold Halt
  rename News _ _ _ _ => NL
  rename Fr _ _ _ _ => FL
  refine step_ok uu vv sd mv _ 4 _ tu tv ts tm _ _ (MM m2 uu vv sd mv tp tu tv ts tm tw tr tt vM vA vL vN vC vH) _ q1 d1 od1 q2 d2 od2 _ i6 _ _ I Dt it8 tupo vp9 _ hF hmul (by rfl) (by decide) hTb how9 hvp9 dp un gd outer A₀ base h₀ L _ _ ho1 ho2 hL hLD hDI (by omega) (by omega) (by k_asm)
    (fr_mk (R := (MQ (MM m2 uu vv sd mv tp tu tv ts tm tw tr tt vM vA vL vN vC vH) uu vv sd mv tu tv ts tm)) FL rfl rfl rfl rfl (fun z h1 h2 h3 h4 => by simp only [MK, if_neg h1, if_neg h2, if_neg h3, if_neg h4])) (by k_asm) NL (by k_asm) (by assumption) (by assumption) hdp hun ?_
  clear NL hTb FL ho1 ho2 hvp9 how9
  intro t91 t92 vC9 q1 d1 od1 q2 d2 od2 ow9 P9 vp9 cp9 h9 tk9 F9 N9 hTb how9 hvp9 ho1 ho2 hP9
  have hx1 := ho1
  have hx2 := ho2
  unfold Off5 at hx1 hx2
  dsimp only
  k_steps
  refine UnrEnd.intro F9 N9 _ (fun p hp => hp) (by k_all) ?_
  k_steps
  clear hx1 hx2
  unfold Halt
  rename News _ _ _ _ => NL
  rename Fr _ _ _ _ => FL
  refine step_ok uu vv sd mv _ 5 _ tu tv ts tm _ _ (MM m2 uu vv sd mv tp tu tv ts tm tw tr tt vM vA vL vN vC vH) _ q1 d1 od1 q2 d2 od2 _ i6 _ _ I Dt it8 tupo vp9 _ hF hmul (by rfl) (by decide) hTb how9 hvp9 dp un gd outer A₀ base h₀ L _ _ ho1 ho2 hL hLD hDI (by omega) (by omega) (by k_asm)
    (fr_mk (R := (MQ (MM m2 uu vv sd mv tp tu tv ts tm tw tr tt vM vA vL vN vC vH) uu vv sd mv tu tv ts tm)) FL rfl rfl rfl rfl (fun z h1 h2 h3 h4 => by simp only [MK, if_neg h1, if_neg h2, if_neg h3, if_neg h4])) (by k_asm) NL (by k_asm) (by assumption) (by assumption) hdp hun ?_
  clear NL hTb FL ho1 ho2 hvp9 how9
  intro t91 t92 vC9 q1 d1 od1 q2 d2 od2 ow9 P9 vp9 cp9 h9 tk9 F9 N9 hTb how9 hvp9 ho1 ho2 hP9
  have hx1 := ho1
  have hx2 := ho2
  unfold Off5 at hx1 hx2
  dsimp only
  k_steps
  refine UnrEnd.intro F9 N9 _ (fun p hp => hp) (by k_all) ?_
  k_steps
  clear hx1 hx2
  unfold Halt
  rename News _ _ _ _ => NL
  rename Fr _ _ _ _ => FL
  have NL2 := pick NL [0, 1, 2, 3, 4, 5, 6, 7]
  simp only [List.filterMap_cons, List.filterMap_nil, List.getElem?_cons_zero, List.getElem?_cons_succ] at NL2
  clear NL
  refine tail_ok uu vv _ _ _ _ q1 d1 od1 q2 d2 od2 _ _ I Dt it8 tupo vp9 _ hTb how9 hvp9
    dp un gd outer A₀ base h₀ L _ Q hL (by omega) (by omega) (by omega) (by k_asm) (fr_mt FL rfl rfl rfl) (by k_asm) NL2 (by k_asm) (by assumption) (by assumption) hdp hun ?_
  intro vH' h' tk' q1' d1' od1' q2' d2' od2' F5 N5 Tb5 o15 o25
  dsimp only
  refine hgo _ _ _ _ _ q1' d1' od1' q2' d2' od2' _ _ _ _ h' tk' (fr_m6 F5 rfl rfl rfl ?_ rfl rfl rfl) N5 Tb5 how9 hvp9 (off5_4 ho1 o15 (by omega)) (off5_4 ho2 o25 (by omega)) (by omega)
  intro z h1 h2 h3 h4 h5 h6
  rw [hQ]
  simp only [MK, MM, if_neg h1, if_neg h2, if_neg h3, if_neg h4, if_neg h5, if_neg h6]
end Mine
end

section
namespace Mine
theorem half_div (u v : Int) (k : Nat) : (est u v (k + 1)).1.fdiv 2 = (est u v k).1 ∧ (est u v (k + 1)).1.fmod 2 = plc v (est u v k).2 := by
  have hp := plc_01 v (est u v k).2
  exact fdm_pos (by decide) (by show plc v (est u v k).2 + 2 * (est u v k).1 = 2 * (est u v k).1 + plc v (est u v k).2; omega) (by omega) (by omega)
theorem fin_div {u v mm : Int} (hv : v ≠ 0) (hm : (0 < u ∧ 0 < mm * v ∧ mm * v < u) ∨ (u < 0 ∧ u < mm * v ∧ mm * v < 0)) : (64 * u).fdiv v = (est u v 6).1 ∧ (64 * u).fmod v = (est u v 6).2 := by
  obtain ⟨hD, hl, _⟩ := est_pre hv hm 6
  have e : (est u v 6).2 + v * (est u v 6).1 = 64 * u := by
    rw [Int.mul_comm v, Int.add_comm, ← hD]; rfl
  rcases hl with ⟨v0, l0, l1⟩ | ⟨v0, l1, l0⟩
  · exact fdm_pos v0 e l0 l1
  · exact fdm_neg v0 e l0 l1
end Mine
end

section
open PySem PySem.W PyProof.Rows PySem.Calls PySem.Spec
set_option maxRecDepth 100000
namespace Mine
local macro_rules | `(tactic| k_lt $h:ident) => `(tactic| (replace $h := allLt_of $h; simp only [AllLt, and_true] at $h:ident))
local macro_rules | `(tactic| k_all) => `(tactic| first | exact List.forall_mem_nil _ | (refine List.forall_mem_cons.mpr ⟨by k_ne, ?_⟩; k_all))
local macro_rules | `(tactic| k_mem) => `(tactic| first | exact List.Mem.head _ | (refine List.mem_cons_of_mem _ ?_; k_mem))
local macro_rules | `(tactic| walk_at "call ref") => `(tactic| (with_reducible refine halt ?_))
local macro_rules | `(tactic| walk_at "callWith ref") => `(tactic| (k_here; k_dflt (refine' callWith_K ?k1 ?k2 ?_; (case k1 => k_asm); (case k2 => k_is); k_whole)))
local macro_rules | `(tactic| walk_at "assign Tuple") => `(tactic| (k_here; (with_reducible show wpAny _ _ (assign (Expr.Tuple _ _ _) _ (Value.ref _)) _ _ _); k_dflt (refine' unpackN_ ?k1 ?k2 ?k3 ?k4 ?k5 ?k6 ?_; (case k1 => k_asm); (case k2 => k_asm); (case k3 => kun_tup); (case k4 => exact rfl); (case k5 => exact rfl); (case k6 => exact rfl); k_whole); intro h' F' N'; (try k_sweep)))
local macro_rules | `(tactic| walk_at "assign Tuple") => `(tactic| (k_here; (with_reducible show wpAny _ _ (assign (Expr.Tuple _ _ _) _ (Value.ref _)) _ _ _); k_dflt (refine' kun_list ?k1 ?k2 ?k3 ?k4 ?k5 ?k6 ?_; (case k1 => k_asm); (case k2 => k_asm); (case k3 => exact News.isList (by k_asm) (by k_mem)); (case k4 => exact rfl); (case k5 => exact rfl); (case k6 => exact rfl); k_whole); intro h' F' N'; (try k_sweep)))
local macro_rules | `(tactic| walk_at "compareOp Eq ref ref") => `(tactic| (with_reducible refine halt ?_))
theorem third_of {h₀ h : Heap} {L i : Addr} {x y : Addr × Obj} {o : Obj} {r : List (Addr × Obj)} (_ : News h₀ L h (x :: y :: (i, o) :: r)) : ∃ j : Addr, j = i := ⟨i, rfl⟩
theorem div_est {w : World} {p : Program} {loose : List Str} {mean : ExcName → Option Value} {mg mb : Str → Option Value}
    (u v : Int) (k : Nat) {te t2 : Tok} {ps1 : Array Value} {c1 : Addr} {oc1 : Obj} {ps2 : Array Value} {c2 : Addr} {oc2 : Obj} {news : List (Addr × Obj)}
    {dp un : Nat} {gd : Option (List Code)} {cn : Str} {cs : Scope} {a : Addr} {ccd : Value} {cl : List (Str × Addr)} {outer : List Env} {A₀ : Around} {base h₀ : Heap} {L : Addr} {m : Str → Option Value} {s : Shared} {Q E : Value → Shared → Prop}
    (hk : k ≤ 5) (hv : v ≠ 0) (hu1 : -(2 ^ 31) < u) (hu2 : u < 2 ^ 31)
    (N : News h₀ L s.heap ((37, tabObj ps1) :: (c1, oc1) :: (30, tabObj ps2) :: (c2, oc2) :: news)) (hst : Tabs ps1 c1 oc1 ps2 c2 oc2) (h37 : ∀ p ∈ news, p.1 ≠ 37) (h30 : ∀ p ∈ news, p.1 ≠ 30)
    (B : Below A₀ base outer h₀) (F : Fr h₀ L s.heap m) (X : (swHead.heap_39 w.params).In h₀) (T : Top p loose mean mg mb h₀) (hk' : cs.kind = .function)
    (C1 : CodeHd base 41 37) (C2 : CodeHd base 34 30)
    (hdp : dp + 60 < recursionLimit) (hun : un + 600 < cLine) (hret : RetT (est u v k).1 (plc v (est u v k).2) c1 c2 news h₀ L m s Q) :
    wpAny (model PySem.Challenge.rw_sw0084_01.row.prog w) (ktrTop dp un gd cn cs L a ccd cl outer) (call (.ref 56) [.int (est u v (k + 1)).1 te, .int 2 t2]) Q E s := by
  have hb := est_bd40 hv hu1 hu2 (k + 1) (by omega)
  have hh := half_div u v k
  refine div_ok _ 2 _ _ ps1 c1 oc1 ps2 c2 oc2 news (show (2 : Int) ≠ 0 by decide) (by omega) (by omega) (by omega) (by omega) hst h37 h30 dp un gd cn cs a ccd cl outer A₀ base h₀ L m s Q E B F X N T hk' C1 C2 (by omega) (by omega) ?_
  rw [hh.1, hh.2]
  exact hret
theorem fin_est {w : World} {p : Program} {loose : List Str} {mean : ExcName → Option Value} {mg mb : Str → Option Value}
    (u v mm : Int) {te t2 : Tok} {ps1 : Array Value} {c1 : Addr} {oc1 : Obj} {ps2 : Array Value} {c2 : Addr} {oc2 : Obj} {news : List (Addr × Obj)}
    {dp un : Nat} {gd : Option (List Code)} {cn : Str} {cs : Scope} {a : Addr} {ccd : Value} {cl : List (Str × Addr)} {outer : List Env} {A₀ : Around} {base h₀ : Heap} {L : Addr} {m : Str → Option Value} {s : Shared} {Q E : Value → Shared → Prop}
    (hv : v ≠ 0) (hm : (0 < u ∧ 0 < mm * v ∧ mm * v < u) ∨ (u < 0 ∧ u < mm * v ∧ mm * v < 0)) (hu1 : -(2 ^ 31) < u) (hu2 : u < 2 ^ 31) (hv1 : -1000 ≤ v) (hv2 : v ≤ 1000)
    (N : News h₀ L s.heap ((37, tabObj ps1) :: (c1, oc1) :: (30, tabObj ps2) :: (c2, oc2) :: news)) (hst : Tabs ps1 c1 oc1 ps2 c2 oc2) (h37 : ∀ p ∈ news, p.1 ≠ 37) (h30 : ∀ p ∈ news, p.1 ≠ 30)
    (B : Below A₀ base outer h₀) (F : Fr h₀ L s.heap m) (X : (swHead.heap_39 w.params).In h₀) (T : Top p loose mean mg mb h₀) (hk' : cs.kind = .function)
    (C1 : CodeHd base 41 37) (C2 : CodeHd base 34 30)
    (hdp : dp + 60 < recursionLimit) (hun : un + 600 < cLine) (hret : RetT (est u v 6).1 (est u v 6).2 c1 c2 news h₀ L m s Q) :
    wpAny (model PySem.Challenge.rw_sw0084_01.row.prog w) (ktrTop dp un gd cn cs L a ccd cl outer) (call (.ref 56) [.int (2 ^ Int.toNat 6 * u) te, .int v t2]) Q E s := by
  have hh := fin_div hv hm
  rw [show (2 : Int) ^ Int.toNat 6 * u = 64 * u from rfl]
  refine div_ok _ v _ _ ps1 c1 oc1 ps2 c2 oc2 news hv (by omega) (by omega) (by omega) (by omega) hst h37 h30 dp un gd cn cs a ccd cl outer A₀ base h₀ L m s Q E B F X N T hk' C1 C2 (by omega) (by omega) ?_
  rw [hh.1, hh.2]
  exact hret
abbrev MF (m : Str → Option Value) (uu vv : Int) (ta tl tw tu tv : Tok) : Str → Option Value := fun y =>
  if y = Str.ofString "a" then some (.int (est uu vv 6).1 ta) else if y = Str.ofString "left" then some (.int (est uu vv 6).2 tl) else if y = Str.ofString "whole" then some (.int (uu.fdiv vv) tw) else if y = Str.ofString "u" then some (.int uu tu) else if y = Str.ofString "v" then some (.int vv tv) else m y
def finBody : List Stmt := match (bodyOf lawStmt).drop 11 with
  | .For _ _ b _ _ :: _ => b
  | _ => []
abbrev FK (vN vB vP : Option Value) (R : Str → Option Value) : Str → Option Value := fun y =>
  if y = Str.ofString "n" then vN else if y = Str.ofString "back" then vB else if y = Str.ofString "place" then vP else R y
abbrev FR (m : Str → Option Value) (row : Addr) : Str → Option Value := fun y => if y = Str.ofString "row" then some (.ref row) else m y
theorem fr_fk {h₀ h : Heap} {L : Addr} {vN vB vP : Option Value} {R : Str → Option Value} {M : Str → Option Value} (F : Fr h₀ L h M) (hn : M (Str.ofString "n") = vN) (hb : M (Str.ofString "back") = vB) (hp : M (Str.ofString "place") = vP)
    (e : ∀ z, z ≠ Str.ofString "n" → z ≠ Str.ofString "back" → z ≠ Str.ofString "place" → M z = R z) : Fr h₀ L h (FK vN vB vP R) := by
  have q : FK vN vB vP R = M := by
    funext z
    unfold FK
    by_cases h1 : z = Str.ofString "n"
    · rw [if_pos h1, h1]; exact hn.symm
    by_cases h2 : z = Str.ofString "back"
    · rw [if_neg h1, if_pos h2, h2]; exact hb.symm
    by_cases h3 : z = Str.ofString "place"
    · rw [if_neg h1, if_neg h2, if_pos h3, h3]; exact hp.symm
    rw [if_neg h1, if_neg h2, if_neg h3]
    exact (e z h1 h2 h3).symm
  rw [q]; exact F
def FStepGo (uu vv n : Int) (k : Nat) (tn : Tok) (m : Str → Option Value) (it row P : Addr) (oit oP ow : Obj) (ns : List Int) (h₀ : Heap) (L : Addr) (s : Shared) (Q : Flow → Shared → Prop) : Prop :=
  ∀ (te : Tok) (vP : Option Value) (q1 : Array Value) (d1 : Addr) (od1 : Obj) (q2 : Array Value) (d2 : Addr) (od2 : Obj) (vr : List Value) (cr : Nat) (h' : Heap) (tk' : Nat),
    Fr h₀ L h' (FK (some (.int n tn)) (some (.int (est uu vv k).1 te)) vP (FR m row)) →
    News h₀ L h' [(it, oit), (row, listOf vr.toArray cr), (P, oP), (37, tabObj q1), (d1, od1), (30, tabObj q2), (d2, od2), (L + 1, ow)] → Tabs q1 d1 od1 q2 d2 od2 → IntsAre vr (ns ++ [plc vv (est uu vv k).2]) →
    Off5 d1 it row it row → Off5 d2 it row it row → Q .next { s with heap := h', toks := tk' }
set_option maxHeartbeats 8000000 in
theorem fstep_ok {fa : Addr} {cdv : Value} {w : World} {p : Program} {loose : List Str} {mean : ExcName → Option Value} {mg mb : Str → Option Value}
    (uu vv n : Int) (k : Nat) (tn te : Tok) (m : Str → Option Value) (vP : Option Value) (q1 : Array Value) (d1 : Addr) (od1 : Obj) (q2 : Array Value) (d2 : Addr) (od2 ow : Obj) (it row P : Addr) (oit oP : Obj) (vr : List Value) (ns : List Int) (cr : Nat)
    (hv0 : vv ≠ 0) (hu1 : -(2 ^ 31) < uu) (hu2 : uu < 2 ^ 31) (hk : k ≤ 5) (hTb : Tabs q1 d1 od1 q2 d2 od2) (hvr : IntsAre vr ns) (hns : ns.length ≤ 100)
    (dp un : Nat) (gd : Option (List Code)) (outer : List Env) (A₀ : Around) (base h₀ : Heap) (L : Addr) (s : Shared) (Q : Flow → Shared → Prop)
    (ho1 : Off5 d1 it row it row) (ho2 : Off5 d2 it row it row) (hL : @LT.lt Nat _ 37 L) (hLP : @LT.lt Nat _ 37 P) (hPr : @LT.lt Nat _ P row) (hLr : @LT.lt Nat _ (L + 1) row) (hri : @LT.lt Nat _ row it)
    (B : Below A₀ base outer h₀) (F : Fr h₀ L s.heap (FK (some (.int n tn)) (some (.int (est uu vv (k + 1)).1 te)) vP (FR m row))) (X : (swHead.heap_39 w.params).In h₀)
    (N : News h₀ L s.heap [(it, oit), (row, listOf vr.toArray cr), (P, oP), (37, tabObj q1), (d1, od1), (30, tabObj q2), (d2, od2), (L + 1, ow)]) (T : Top p loose mean mg mb h₀)
    (C1 : CodeHd base 41 37) (C2 : CodeHd base 34 30) (hdp : dp + 90 < recursionLimit) (hun : un + 900 < cLine)
    (hgo : FStepGo uu vv n k tn m it row P oit oP ow ns h₀ L s Q) :
    wpAny (model PySem.Challenge.rw_sw0084_01.row.prog w) (ktrTop dp un gd (Str.ofString "law") (scopeOf lawStmt) L fa cdv (cellsFrom (L + 1) (scopeOf lawStmt).names []) outer)
      (execs finBody (envX (Str.ofString "law") (scopeOf lawStmt) L fa cdv (cellsFrom (L + 1) (scopeOf lawStmt).names []))) Q (fun _ _ => False) s := by
  have e1 : finBody = finBody := rfl
  have e3 : scopeOf lawStmt = scopeOf lawStmt := rfl
  conv at e1 => rhs; whnf
  conv at e3 => rhs; whnf
  rw [e1, e3]
  clear e1 e3
  have hvs : vr.toArray.size ≤ 100 := by rw [List.size_toArray, hvr.length]; exact hns
  revert X; k_fill; intro X
  have hx1 := ho1
  have hx2 := ho2
  unfold Off5 at hx1 hx2
  k_steps
  clear hx1 hx2
  unfold Halt
  rename News _ _ _ _ => NL
  have NL2 := pick NL [3, 4, 5, 6, 0, 1, 2, 7]
  simp only [List.filterMap_cons, List.filterMap_nil, List.getElem?_cons_zero, List.getElem?_cons_succ] at NL2
  clear NL
  refine div_est uu vv k hk hv0 hu1 hu2 NL2 hTb (by k_all) (by k_all) (by k_asm) (by k_asm) (by k_asm) (by k_asm) rfl (by assumption) (by assumption) (by ktr_room) (by ktr_units) ?_
  clear NL2 hTb
  intro D9 t91 t92 cap9 q1 d1' od1 q2 d2' od2 h9 tk9 F9 N9 hTb e91 e92 hl9
  unfold T4 at N9 hl9
  have ho1 := off5_of ho1 e91 (by simp only [hi]; omega) (by simp only [hi]; omega) (by simp only [hi]; omega) (by simp only [hi]; omega)
  have ho2 := off5_of ho2 e92 (by simp only [hi]; omega) (by simp only [hi]; omega) (by simp only [hi]; omega) (by simp only [hi]; omega)
  clear e91 e92
  have hx1 := ho1
  have hx2 := ho2
  unfold Off5 at hx1 hx2
  k_lt hl9
  dsimp only
  k_steps
  clear hx1 hx2
  rename News _ _ _ _ => NE
  rename Fr _ _ _ _ => FE
  simp only [List.push_toArray] at NE
  have NL2 := pick NE [5, 6, 7, 1, 2, 3, 4, 8]
  simp only [List.filterMap_cons, List.filterMap_nil, List.getElem?_cons_zero, List.getElem?_cons_succ] at NL2
  dsimp only
  exact hgo _ _ q1 d1' od1 q2 d2' od2 _ _ _ _ (fr_fk FE rfl rfl rfl (fun z h1 h2 h3 => by simp only [FK, if_neg h1, if_neg h2, if_neg h3])) NL2 hTb (IntsAre.append hvr (.cons _ _ .nil)) ho1 ho2
end Mine
end

section
open PySem PySem.W PyProof.Rows PySem.Calls PySem.Spec
set_option maxRecDepth 100000
namespace Mine
local macro_rules | `(tactic| k_lt $h:ident) => `(tactic| (replace $h := allLt_of $h; simp only [AllLt, and_true] at $h:ident))
local macro_rules | `(tactic| k_all) => `(tactic| first | exact List.forall_mem_nil _ | (refine List.forall_mem_cons.mpr ⟨by k_ne, ?_⟩; k_all))
local macro_rules | `(tactic| k_mem) => `(tactic| first | exact List.Mem.head _ | (refine List.mem_cons_of_mem _ ?_; k_mem))
local macro_rules | `(tactic| walk_at "call ref") => `(tactic| (with_reducible refine halt ?_))
local macro_rules | `(tactic| walk_at "callWith ref") => `(tactic| (k_here; k_dflt (refine' callWith_K ?k1 ?k2 ?_; (case k1 => k_asm); (case k2 => k_is); k_whole)))
local macro_rules | `(tactic| walk_at "assign Tuple") => `(tactic| (k_here; (with_reducible show wpAny _ _ (assign (Expr.Tuple _ _ _) _ (Value.ref _)) _ _ _); k_dflt (refine' unpackN_ ?k1 ?k2 ?k3 ?k4 ?k5 ?k6 ?_; (case k1 => k_asm); (case k2 => k_asm); (case k3 => kun_tup); (case k4 => exact rfl); (case k5 => exact rfl); (case k6 => exact rfl); k_whole); intro h' F' N'; (try k_sweep)))
local macro_rules | `(tactic| walk_at "assign Tuple") => `(tactic| (k_here; (with_reducible show wpAny _ _ (assign (Expr.Tuple _ _ _) _ (Value.ref _)) _ _ _); k_dflt (refine' kun_list ?k1 ?k2 ?k3 ?k4 ?k5 ?k6 ?_; (case k1 => k_asm); (case k2 => k_asm); (case k3 => exact News.isList (by k_asm) (by k_mem)); (case k4 => exact rfl); (case k5 => exact rfl); (case k6 => exact rfl); k_whole); intro h' F' N'; (try k_sweep)))
local macro_rules | `(tactic| walk_at "compareOp Eq ref ref") => `(tactic| (with_reducible refine halt ?_))
local macro_rules | `(tactic| walk_at "execs cons") => `(tactic| ((with_reducible show wpAny _ _ (execs (Stmt.Assign [Expr.Tuple (Expr.Name (Str.ofString "back") _ :: Expr.Name (Str.ofString "place") _ :: _) _ _] _ _ :: _) _) _ _ _); with_reducible refine halt ?_))
set_option maxHeartbeats 8000000 in
theorem fin_ok {fa : Addr} {cdv : Value} {w : World} {p : Program} {loose : List Str} {mean : ExcName → Option Value} {mg mb : Str → Option Value}
    (uu vv mm : Int) (ta tl tw tu tv : Tok) (m : Str → Option Value) (q1 : Array Value) (d1 : Addr) (od1 : Obj) (q2 : Array Value) (d2 : Addr) (od2 ow : Obj) (P : Addr) (vp : List Value) (cp : Nat)
    (hv0 : vv ≠ 0) (hmm : (0 < uu ∧ 0 < mm * vv ∧ mm * vv < uu) ∨ (uu < 0 ∧ uu < mm * vv ∧ mm * vv < 0)) (hu1 : -(2 ^ 31) < uu) (hu2 : uu < 2 ^ 31) (hv1 : -1000 ≤ vv) (hv2 : vv ≤ 1000)
    (hTb : Tabs q1 d1 od1 q2 d2 od2) (how : ow.data = .cell (some (.ref P))) (hvp : IntsAre vp (pls uu vv 6))
    (dp un : Nat) (gd : Option (List Code)) (outer : List Env) (A₀ : Around) (base h₀ : Heap) (L : Addr) (s : Shared) (Q : Flow → Shared → Prop)
    (hL : @LT.lt Nat _ 37 L) (hLP : @LT.lt Nat _ 37 P)
    (B : Below A₀ base outer h₀) (F : Fr h₀ L s.heap (MF m uu vv ta tl tw tu tv)) (X : (swHead.heap_39 w.params).In h₀)
    (N : News h₀ L s.heap [(P, listOf vp.toArray cp), (37, tabObj q1), (d1, od1), (30, tabObj q2), (d2, od2), (L + 1, ow)]) (T : Top p loose mean mg mb h₀)
    (C1 : CodeHd base 41 37) (C2 : CodeHd base 34 30) (hdp : dp + 90 < recursionLimit) (hun : un + 900 < cLine)
    (hret : ∀ (m' : Str → Option Value) (ps1' ps2' : Array Value) (h' : Heap) (tk' : Nat), Fr h₀ L h' m' → News h₀ L h' [(37, tabObj ps1'), (30, tabObj ps2')] → Q (.ret (.bool true)) { s with heap := h', toks := tk' }) :
    wpAny (model PySem.Challenge.rw_sw0084_01.row.prog w) (ktrTop dp un gd (Str.ofString "law") (scopeOf lawStmt) L fa cdv (cellsFrom (L + 1) (scopeOf lawStmt).names []) outer)
      (execs ((bodyOf lawStmt).drop 10) (envX (Str.ofString "law") (scopeOf lawStmt) L fa cdv (cellsFrom (L + 1) (scopeOf lawStmt).names []))) Q (fun _ _ => False) s := by
  have e1 : (bodyOf lawStmt).drop 10 = (bodyOf lawStmt).drop 10 := rfl
  have e3 : scopeOf lawStmt = scopeOf lawStmt := rfl
  conv at e1 => rhs; whnf
  conv at e3 => rhs; whnf
  rw [e1, e3]
  clear e1 e3
  have hlen : vp.toArray.size = 6 := by rw [List.size_toArray, hvp.length, pls_len]
  revert X; k_fill; intro X
  k_steps
  unfold Halt
  rename News _ _ _ _ => NL
  rename Fr _ _ _ _ => FL
  obtain ⟨it6, hi6⟩ := first_of NL
  obtain ⟨row, hrow⟩ := third_of NL
  subst hi6
  subst hrow
  have ho1 : Off5 d1 it6 row it6 row := ⟨by omega, by omega, by omega, by omega⟩
  have ho2 : Off5 d2 it6 row it6 row := ⟨by omega, by omega, by omega, by omega⟩
  have NL2 := pick NL [0, 2, 3, 4, 5, 6, 7, 8]
  simp only [List.filterMap_cons, List.filterMap_nil, List.getElem?_cons_zero, List.getElem?_cons_succ] at NL2
  clear NL
  refine fstep_ok uu vv _ 5 _ _ (MF m uu vv ta tl tw tu tv) _ q1 d1 od1 q2 d2 od2 _ it6 row P _ _ [] [] _ hv0 hu1 hu2 (by decide) hTb .nil (by decide) dp un gd outer A₀ base h₀ L _ _ ho1 ho2 hL hLP (by omega) (by omega) (by omega) (by k_asm)
    (fr_fk (R := (FR (MF m uu vv ta tl tw tu tv) row)) FL rfl rfl rfl (fun z h1 h2 h3 => by simp only [if_neg h1, if_neg h2, if_neg h3])) (by k_asm) NL2 (by k_asm) (by assumption) (by assumption) hdp hun ?_
  clear NL2 hTb FL ho1 ho2
  intro t91 vP9 q1 d1 od1 q2 d2 od2 vr cr h9 tk9 F9 N9 hTb hvr ho1 ho2
  have hx1 := ho1
  have hx2 := ho2
  unfold Off5 at hx1 hx2
  dsimp only
  k_steps
  refine UnrEnd.intro F9 N9 _ (fun p hp => hp) (by k_all) ?_
  k_steps
  clear hx1 hx2
  unfold Halt
  rename News _ _ _ _ => NL
  rename Fr _ _ _ _ => FL
  refine fstep_ok uu vv _ 4 _ _ (MF m uu vv ta tl tw tu tv) _ q1 d1 od1 q2 d2 od2 _ it6 row P _ _ vr _ _ hv0 hu1 hu2 (by decide) hTb hvr (by simp) dp un gd outer A₀ base h₀ L _ _ ho1 ho2 hL hLP (by omega) (by omega) (by omega) (by k_asm)
    (fr_fk (R := (FR (MF m uu vv ta tl tw tu tv) row)) FL rfl rfl rfl (fun z h1 h2 h3 => by simp only [FK, if_neg h1, if_neg h2, if_neg h3])) (by k_asm) NL (by k_asm) (by assumption) (by assumption) hdp hun ?_
  clear NL hTb FL ho1 ho2 hvr
  intro t91 vP9 q1 d1 od1 q2 d2 od2 vr cr h9 tk9 F9 N9 hTb hvr ho1 ho2
  have hx1 := ho1
  have hx2 := ho2
  unfold Off5 at hx1 hx2
  dsimp only
  k_steps
  refine UnrEnd.intro F9 N9 _ (fun p hp => hp) (by k_all) ?_
  k_steps
  clear hx1 hx2
  unfold Halt
  rename News _ _ _ _ => NL
  rename Fr _ _ _ _ => FL
  refine fstep_ok uu vv _ 3 _ _ (MF m uu vv ta tl tw tu tv) _ q1 d1 od1 q2 d2 od2 _ it6 row P _ _ vr _ _ hv0 hu1 hu2 (by decide) hTb hvr (by simp) dp un gd outer A₀ base h₀ L _ _ ho1 ho2 hL hLP (by omega) (by omega) (by omega) (by k_asm)
    (fr_fk (R := (FR (MF m uu vv ta tl tw tu tv) row)) FL rfl rfl rfl (fun z h1 h2 h3 => by simp only [FK, if_neg h1, if_neg h2, if_neg h3])) (by k_asm) NL (by k_asm) (by assumption) (by assumption) hdp hun ?_
  clear NL hTb FL ho1 ho2 hvr
  intro t91 vP9 q1 d1 od1 q2 d2 od2 vr cr h9 tk9 F9 N9 hTb hvr ho1 ho2
  have hx1 := ho1
  have hx2 := ho2
  unfold Off5 at hx1 hx2
  dsimp only
  k_steps
  refine UnrEnd.intro F9 N9 _ (fun p hp => hp) (by k_all) ?_
  k_steps
  clear hx1 hx2
  unfold Halt
  rename News _ _ _ _ => NL
  rename Fr _ _ _ _ => FL
  refine fstep_ok uu vv _ 2 _ _ (MF m uu vv ta tl tw tu tv) _ q1 d1 od1 q2 d2 od2 _ it6 row P _ _ vr _ _ hv0 hu1 hu2 (by decide) hTb hvr (by simp) dp un gd outer A₀ base h₀ L _ _ ho1 ho2 hL hLP (by omega) (by omega) (by omega) (by k_asm)
    (fr_fk (R := (FR (MF m uu vv ta tl tw tu tv) row)) FL rfl rfl rfl (fun z h1 h2 h3 => by simp only [FK, if_neg h1, if_neg h2, if_neg h3])) (by k_asm) NL (by k_asm) (by assumption) (by assumption) hdp hun ?_
  clear NL hTb FL ho1 ho2 hvr
  intro t91 vP9 q1 d1 od1 q2 d2 od2 vr cr h9 tk9 F9 N9 hTb hvr ho1 ho2
  have hx1 := ho1
  have hx2 := ho2
  unfold Off5 at hx1 hx2
  dsimp only
  k_steps
  refine UnrEnd.intro F9 N9 _ (fun p hp => hp) (by k_all) ?_
  k_steps
  clear hx1 hx2
  unfold Halt
  rename News _ _ _ _ => NL
  rename Fr _ _ _ _ => FL
  refine fstep_ok uu vv _ 1 _ _ (MF m uu vv ta tl tw tu tv) _ q1 d1 od1 q2 d2 od2 _ it6 row P _ _ vr _ _ hv0 hu1 hu2 (by decide) hTb hvr (by simp) dp un gd outer A₀ base h₀ L _ _ ho1 ho2 hL hLP (by omega) (by omega) (by omega) (by k_asm)
    (fr_fk (R := (FR (MF m uu vv ta tl tw tu tv) row)) FL rfl rfl rfl (fun z h1 h2 h3 => by simp only [FK, if_neg h1, if_neg h2, if_neg h3])) (by k_asm) NL (by k_asm) (by assumption) (by assumption) hdp hun ?_
  clear NL hTb FL ho1 ho2 hvr
  intro t91 vP9 q1 d1 od1 q2 d2 od2 vr cr h9 tk9 F9 N9 hTb hvr ho1 ho2
  have hx1 := ho1
  have hx2 := ho2
  unfold Off5 at hx1 hx2
  dsimp only
  k_steps
  refine UnrEnd.intro F9 N9 _ (fun p hp => hp) (by k_all) ?_
  k_steps
  clear hx1 hx2
  unfold Halt
  rename News _ _ _ _ => NL
  rename Fr _ _ _ _ => FL
  refine fstep_ok uu vv _ 0 _ _ (MF m uu vv ta tl tw tu tv) _ q1 d1 od1 q2 d2 od2 _ it6 row P _ _ vr _ _ hv0 hu1 hu2 (by decide) hTb hvr (by simp) dp un gd outer A₀ base h₀ L _ _ ho1 ho2 hL hLP (by omega) (by omega) (by omega) (by k_asm)
    (fr_fk (R := (FR (MF m uu vv ta tl tw tu tv) row)) FL rfl rfl rfl (fun z h1 h2 h3 => by simp only [FK, if_neg h1, if_neg h2, if_neg h3])) (by k_asm) NL (by k_asm) (by assumption) (by assumption) hdp hun ?_
  clear NL hTb FL ho1 ho2 hvr
  intro t91 vP9 q1 d1 od1 q2 d2 od2 vr cr h9 tk9 F9 N9 hTb hvr ho1 ho2
  have hx1 := ho1
  have hx2 := ho2
  unfold Off5 at hx1 hx2
  dsimp only
  k_steps
  refine UnrEnd.intro F9 N9 _ (fun p hp => hp) (by k_all) ?_
  k_steps
  clear hx1 hx2
  unfold Halt
  rename News _ _ _ _ => NL
  rename Fr _ _ _ _ => FL
  have NL2 := pick NL [2, 3, 4, 5, 0, 1, 6]
  simp only [List.filterMap_cons, List.filterMap_nil, List.getElem?_cons_zero, List.getElem?_cons_succ] at NL2
  clear NL
  refine fin_est uu vv mm hv0 hmm hu1 hu2 hv1 hv2 NL2 hTb (by k_all) (by k_all) (by k_asm) (by k_asm) (by k_asm) (by k_asm) rfl (by assumption) (by assumption) (by ktr_room) (by ktr_units) ?_
  clear NL2 hTb
  intro D9 t91 t92 cap9 q1 d1' od1 q2 d2' od2 h9 tk9 F9 N9 hTb e91 e92 hl9
  unfold T4 at N9 hl9
  clear ho1 ho2 e91 e92
  k_lt hl9
  dsimp only
  k_steps
  unfold Halt
  rename News _ _ _ _ => NL
  refine eq_til (ns := pls uu vv 6) NL (by k_mem) (by k_mem) (by rfl) (by rfl) (by k_mem) hvr
    (by k_mem) (by k_mem) (by rfl) (by rfl) (by k_mem) hvp (by rfl) (by rfl) (by rfl) rfl (by ktr_units) ?_
  k_steps
  rename News _ _ _ _ => NE
  exact hret _ q1 q2 _ _ (by k_asm) (cb_drop NE (List.forall_mem_cons.mpr ⟨by k_mem, List.forall_mem_cons.mpr ⟨by k_mem, List.forall_mem_nil _⟩⟩))
end Mine
end

section
open PySem PySem.W PyProof.Rows PySem.Calls PySem.Spec
set_option maxRecDepth 100000
namespace Mine
local macro_rules | `(tactic| k_lt $h:ident) => `(tactic| (replace $h := allLt_of $h; simp only [AllLt, and_true] at $h:ident; (try simp only [allLt_hi] at $h:ident)))
local macro_rules | `(tactic| k_all) => `(tactic| first | assumption | exact ne_of_hi (by (try dsimp only); omega) | exact List.forall_mem_nil _ | (refine List.forall_mem_cons.mpr ⟨by k_ne, ?_⟩; k_all))
local macro_rules | `(tactic| k_mem) => `(tactic| first | assumption | exact List.Mem.head _ | (refine List.mem_cons_of_mem _ ?_; k_mem))
local macro_rules | `(tactic| walk_at "call ref") => `(tactic| (with_reducible refine halt ?_))
local macro_rules | `(tactic| walk_at "callWith ref") => `(tactic| (k_here; k_dflt (refine' callWith_K ?k1 ?k2 ?_; (case k1 => k_asm); (case k2 => k_is); k_whole)))
theorem num_ok (x : Int) : 0 ≤ x.fmod (10 ^ Int.toNat 24) ∧ x.fmod (10 ^ Int.toNat 24) < 1000000000000000000000000 := by
  have e : (10 : Int) ^ Int.toNat 24 = 1000000000000000000000000 := by decide
  rw [e, Int.fmod_eq_emod_of_nonneg _ (by decide)]
  exact ⟨Int.emod_nonneg _ (by decide), Int.emod_lt_of_pos _ (by decide)⟩
structure MkTup : Prop where
structure MkIter : Prop where
structure MkIf : Prop where
section
variable {prog : Program} {w : World} {A : Around} {E : Value → Shared → Prop} {s : Shared} {t u : Tok} {Q : Value → Shared → Prop} {a b : Int}
theorem mod_e (hb : 0 < b) (h : ∀ S : Int, S = a % b → 0 ≤ S → S < b → Q (.int S s.toks) { s with toks := s.toks + 1 }) : wpAny (model prog w) A (binaryOp .Mod (.int a t) (.int b u)) Q E s :=
  mod_int' (by omega) (h _ (Int.fmod_eq_emod_of_nonneg _ (by omega)) (by rw [Int.fmod_eq_emod_of_nonneg _ (by omega)]; exact Int.emod_nonneg _ (by omega)) (by rw [Int.fmod_eq_emod_of_nonneg _ (by omega)]; exact Int.emod_lt_of_pos _ hb))
theorem div_e (hb : 0 < b) (hb2 : b < 2 ^ 100) (h : ∀ S : Int, S = a / b → S * b ≤ a → a < S * b + b → Q (.int S s.toks) { s with toks := s.toks + 1 }) : wpAny (model prog w) A (binaryOp .FloorDiv (.int a t) (.int b u)) Q E s :=
  floordiv_int (by omega) (h _ (Int.fdiv_eq_ediv_of_nonneg _ (by omega)) (by rw [Int.fdiv_eq_ediv_of_nonneg _ (by omega)]; exact Int.ediv_mul_le _ (by omega)) (by rw [Int.fdiv_eq_ediv_of_nonneg _ (by omega)]; have := Int.lt_ediv_add_one_mul_self a hb; rw [Int.add_mul, Int.one_mul] at this; exact this)) (Or.inl (noPy (by omega)))
end
theorem pow_e {prog : Program} {w : World} {A : Around} {E : Value → Shared → Prop} {s : Shared} {t u : Tok} {Q : Value → Shared → Prop} {a n : Int} (hn : 0 ≤ n) (hn2 : n ≤ 100) (ha : a.natAbs < 2 ^ 64) (h : ∀ S : Int, S = a ^ n.toNat → Q (.int S s.toks) { s with toks := s.toks + 1 }) : wpAny (model prog w) A (binaryOp .Pow (.int a t) (.int n u)) Q E s :=
  pow_int_small hn (by omega) ha (h _ rfl)
local macro_rules | `(tactic| walk_at "binaryOp Pow int int") => `(tactic| (with_reducible refine pow_e (by omega) (by omega) (by omega) ?_; intro S' hS'; simp only [Int.reduceToNat, Int.reducePow] at hS'; subst hS'))
theorem join_int {M : Model} {A : Around} {E : Value → Shared → Prop} {Q : Value → Shared → Prop} {s : Shared} {tr : Sem Value} (P : Int → Prop)
    (h1 : wpAny M A tr (fun r s' => ∃ u t tk, r = .int u t ∧ s' = { s with toks := tk } ∧ P u) E s) (h2 : ∀ u t tk, P u → Q (.int u t) { s with toks := tk }) : wpAny M A tr Q E s :=
  wpAny_mono h1 (fun r s' hr => by obtain ⟨u, t, tk, rfl, rfl, hp⟩ := hr; exact h2 u t tk hp) fun _ _ h => h
local macro_rules | `(tactic| walk_at "pyIter ref") => `(tactic| ((with_reducible rename MkIter => hMk); with_reducible refine halt ?_))
local macro_rules | `(tactic| walk_at "eval Tuple") => `(tactic| ((with_reducible rename MkTup => hMk); with_reducible refine halt ?_))
local macro_rules | `(tactic| walk_at "eval IfExp") => `(tactic| ((with_reducible rename MkIf => hMk); with_reducible refine halt ?_))
local macro_rules | `(tactic| walk_at "binaryOp Mod int int") => `(tactic| (with_reducible refine mod_e (by omega) ?_; intro _ _ _ _))
local macro_rules | `(tactic| walk_at "binaryOp FloorDiv int int") => `(tactic| (with_reducible refine div_e (by omega) (by omega) ?_; intro _ _ _ _))
section
variable {prog : Program} {w : World} {A : Around} {E : Value → Shared → Prop} {h₀ : Heap} {env : Env} {tg : Expr} {body : List Stmt} {Q : Flow → Shared → Prop} {s : Shared} {ws : List (Addr × String)} {kp : List (Addr × Obj)}
theorem items_shape {l : List Itm} {news : List (Addr × Obj)} {m₂ m₁ : Str → Option Value} {vM vA vL vN vC vH : Option Value}
    (e : ∀ z, z ≠ Str.ofString "m" → z ≠ Str.ofString "a" → z ≠ Str.ofString "left" → z ≠ Str.ofString "n" → z ≠ Str.ofString "came" → z ≠ Str.ofString "high" → m₂ z = m₁ z)
    (eM : m₂ (Str.ofString "m") = vM) (eA : m₂ (Str.ofString "a") = vA) (eL : m₂ (Str.ofString "left") = vL) (eN : m₂ (Str.ofString "n") = vN) (eC : m₂ (Str.ofString "came") = vC) (eH : m₂ (Str.ofString "high") = vH)
    (h : ItemsRest prog w A E h₀ env tg body Q s ws kp l (fun z => if z = Str.ofString "m" then vM else if z = Str.ofString "a" then vA else if z = Str.ofString "left" then vL else if z = Str.ofString "n" then vN else if z = Str.ofString "came" then vC else if z = Str.ofString "high" then vH else m₁ z) news) :
    ItemsRest prog w A E h₀ env tg body Q s ws kp l m₂ news := by
  rw [m_shape e eM eA eL eN eC eH]
  exact h
theorem fr_mf {h₀ h : Heap} {L : Addr} {M : Str → Option Value} {uu vv : Int} {ta tl tw tu tv : Tok} (F : Fr h₀ L h M) (ha : M (Str.ofString "a") = some (.int (est uu vv 6).1 ta)) (hl : M (Str.ofString "left") = some (.int (est uu vv 6).2 tl)) (hw : M (Str.ofString "whole") = some (.int (uu.fdiv vv) tw)) (hu : M (Str.ofString "u") = some (.int uu tu)) (hv : M (Str.ofString "v") = some (.int vv tv)) : Fr h₀ L h (MF M uu vv ta tl tw tu tv) := by
  have e : MF M uu vv ta tl tw tu tv = M := by
    funext z
    unfold MF
    by_cases h1 : z = Str.ofString "a"
    · rw [if_pos h1, h1]; exact ha.symm
    by_cases h2 : z = Str.ofString "left"
    · rw [if_neg h1, if_pos h2, h2]; exact hl.symm
    by_cases h3 : z = Str.ofString "whole"
    · rw [if_neg h1, if_neg h2, if_pos h3, h3]; exact hw.symm
    by_cases h4 : z = Str.ofString "u"
    · rw [if_neg h1, if_neg h2, if_neg h3, if_pos h4, h4]; exact hu.symm
    by_cases h5 : z = Str.ofString "v"
    · rw [if_neg h1, if_neg h2, if_neg h3, if_neg h4, if_pos h5, h5]; exact hv.symm
    rw [if_neg h1, if_neg h2, if_neg h3, if_neg h4, if_neg h5]
  rw [e]; exact F
theorem offw {I : Addr} {it : Obj} : ∀ {l : List (Addr × Obj)}, (∀ p ∈ l, p.1 ≠ I) → OffW [(I, it)] l
  | [], _ => trivial
  | _ :: _, h => ⟨⟨Or.inl (h _ (.head _)), trivial⟩, offw fun p hp => h p (.tail _ hp)⟩
abbrev PPT := List Itm → Option Value → Option Value → Option Value → Option Value → Option Value → Option Value → Array Value → Addr → Obj → Array Value → Addr → Obj → Obj → List (Addr × Obj) → Prop
theorem items_pack {m₁ : Str → Option Value} {tp : Addr × Obj} {Lc : Addr} {l₀ : List Itm} {vM₀ vA₀ vL₀ vN₀ vC₀ vH₀ : Option Value} {ps1₀ : Array Value} {c1₀ : Addr} {oc1₀ : Obj} {ps2₀ : Array Value} {c2₀ : Addr} {oc2₀ ow₀ : Obj}
    (k : ∀ PP : PPT, (∀ l vM vA vL vN vC vH ps1 c1 oc1 ps2 c2 oc2 ow ex, PP l vM vA vL vN vC vH ps1 c1 oc1 ps2 c2 oc2 ow ex = ItemsRest prog w A E h₀ env tg body Q s ws kp l (fun z => if z = Str.ofString "m" then vM else if z = Str.ofString "a" then vA else if z = Str.ofString "left" then vL else if z = Str.ofString "n" then vN else if z = Str.ofString "came" then vC else if z = Str.ofString "high" then vH else m₁ z)
        (tp :: (37, tabObj ps1) :: (c1, oc1) :: (30, tabObj ps2) :: (c2, oc2) :: (Lc, ow) :: ex)) → PP l₀ vM₀ vA₀ vL₀ vN₀ vC₀ vH₀ ps1₀ c1₀ oc1₀ ps2₀ c2₀ oc2₀ ow₀ []) :
    ItemsRest prog w A E h₀ env tg body Q s ws kp l₀ (fun z => if z = Str.ofString "m" then vM₀ else if z = Str.ofString "a" then vA₀ else if z = Str.ofString "left" then vL₀ else if z = Str.ofString "n" then vN₀ else if z = Str.ofString "came" then vC₀ else if z = Str.ofString "high" then vH₀ else m₁ z)
      [tp, (37, tabObj ps1₀), (c1₀, oc1₀), (30, tabObj ps2₀), (c2₀, oc2₀), (Lc, ow₀)] :=
  k _ fun _ _ _ _ _ _ _ _ _ _ _ _ _ _ _ => rfl
end
local macro_rules | `(tactic| walk_at "assign Tuple") => `(tactic| (k_here; (with_reducible show wpAny _ _ (assign (Expr.Tuple _ _ _) _ (Value.ref _)) _ _ _); k_dflt (refine' unpackN_ ?k1 ?k2 ?k3 ?k4 ?k5 ?k6 ?_; (case k1 => k_asm); (case k2 => k_asm); (case k3 => kun_tup); (case k4 => exact rfl); (case k5 => exact rfl); (case k6 => exact rfl); k_whole); intro h' F' N'; (try k_sweep)))
local macro_rules | `(tactic| walk_at "assign Tuple") => `(tactic| (k_here; (with_reducible show wpAny _ _ (assign (Expr.Tuple _ _ _) _ (Value.ref _)) _ _ _); k_dflt (refine' kun_list ?k1 ?k2 ?k3 ?k4 ?k5 ?k6 ?_; (case k1 => k_asm); (case k2 => k_asm); (case k3 => exact News.isList (by k_asm) (by k_mem)); (case k4 => exact rfl); (case k5 => exact rfl); (case k6 => exact rfl); k_whole); intro h' F' N'; (try k_sweep)))
local macro_rules | `(tactic| walk_at "execs cons") => `(tactic| ((with_reducible show wpAny _ _ (execs (Stmt.Assign [Expr.Tuple (Expr.Name (Str.ofString "a") _ :: _) _ _] _ _ :: _) _) _ _ _); with_reducible refine halt ?_))
local macro_rules | `(tactic| walk_at "execs cons") => `(tactic| ((with_reducible show wpAny _ _ (execs (Stmt.Assign [Expr.Tuple (Expr.Name (Str.ofString "back") _ :: _) _ _] _ _ :: _) _) _ _ _); with_reducible refine halt ?_))
set_option maxHeartbeats 8000000 in
theorem law_tail {fa : Addr} {cdv : Value} {w : World} {p : Program} {loose : List Str} {mean : ExcName → Option Value} {mg mb : Str → Option Value}
    (num : Int) (tnum : Tok) (m1 m2 : Str → Option Value) (ps1 : Array Value) (c1 : Addr) (oc1 : Obj) (ps2 : Array Value) (c2 : Addr) (oc2 ow : Obj) (v0 : Option Value)
    (hn0 : 0 ≤ num) (hn1 : num < 1000000000000000000000000) (hst : Tabs ps1 c1 oc1 ps2 c2 oc2) (how : ow.data = .cell v0)
    (dp un : Nat) (gd : Option (List Code)) (outer : List Env) (A₀ : Around) (base h₀ : Heap) (L : Addr) (s : Shared) (Q : Flow → Shared → Prop)
    (B : Below A₀ base outer h₀) (F : Fr h₀ L s.heap (fun y => if y = Str.ofString "one" then m1 y else if y = Str.ofString "number" then some (.int num tnum) else m2 y)) (X : (swHead.heap_39 w.params).In h₀)
    (N : News h₀ L s.heap (T4 ps1 c1 oc1 ps2 c2 oc2 [(L + 1, ow)])) (T : Top p loose mean mg mb h₀) (hc1 : @Ne Nat c1 (L + 1)) (hc2 : @Ne Nat c2 (L + 1)) (hL : @LT.lt Nat _ 37 L)
    (C1 : CodeHd base 41 37) (C2 : CodeHd base 34 30) (hdp : dp + 100 < recursionLimit) (hun : un + 1000 < cLine)
    (hret : ∀ (m' : Str → Option Value) (ps1' ps2' : Array Value) (h' : Heap) (tk' : Nat), Fr h₀ L h' m' → News h₀ L h' [(37, tabObj ps1'), (30, tabObj ps2')] → Q (.ret (.bool true)) { s with heap := h', toks := tk' }) :
    wpAny (model PySem.Challenge.rw_sw0084_01.row.prog w) (ktrTop dp un gd (Str.ofString "law") (scopeOf lawStmt) L fa cdv (cellsFrom (L + 1) (scopeOf lawStmt).names []) outer)
      (execs ((bodyOf lawStmt).drop 2) (envX (Str.ofString "law") (scopeOf lawStmt) L fa cdv (cellsFrom (L + 1) (scopeOf lawStmt).names []))) Q (fun _ _ => False) s := by
  have e1 : (bodyOf lawStmt).drop 2 = (bodyOf lawStmt).drop 2 := rfl
  have e3 : scopeOf lawStmt = scopeOf lawStmt := rfl
  conv at e1 => rhs; whnf
  conv at e3 => rhs; whnf
  rw [e1, e3]
  clear e1 e3
  revert X; k_fill; intro X
  unfold T4 at N
  have hMk1 : MkTup := ⟨⟩
  have hMk2 : MkIter := ⟨⟩
  have hMk3 : MkIf := ⟨⟩
  k_steps
  rename_i S1 hS1 hS1a hS1b _ S2 hS2 hS2a hS2b S3 hS3 hS3a hS3b _ _ _
  unfold Halt
  refine join_int (P := fun z => z = 1 + S1 + 1 + S3 ∨ z = -(1 + S1 + 1 + S3)) ?_ ?_
  · rename MkIf => hMk3
    clear hMk3
    k_steps
    all_goals first | exact Or.inr rfl | exact Or.inl rfl | exact ⟨_, _, _, rfl, rfl, Or.inr rfl⟩ | exact ⟨_, _, _, rfl, rfl, Or.inl rfl⟩
  intro uu tu tku hU
  dsimp only
  k_steps
  unfold Halt
  refine join_int (P := fun z => z = 1 + S1 ∨ z = -(1 + S1)) ?_ ?_
  · rename MkIf => hMk3
    clear hMk3
    k_steps
    all_goals first | exact Or.inr rfl | exact Or.inl rfl | exact ⟨_, _, _, rfl, rfl, Or.inr rfl⟩ | exact ⟨_, _, _, rfl, rfl, Or.inl rfl⟩
  intro vv tv tkv hV
  dsimp only
  k_steps
  unfold Halt
  refine join_int (P := fun z => (0 < uu * vv → z = 1) ∧ (¬ 0 < uu * vv → z = -1)) ?_ ?_
  · rename MkIf => hMk3
    clear hMk3
    k_steps
    all_goals first | omega | (refine ⟨_, _, _, rfl, rfl, ?_⟩; omega)
  intro sd ts tks hSd
  dsimp only
  k_steps
  rename_i tp htp htp1 htp2 _ _ _
  have htp0 := top_pos (tp := tp) (lo := 1 + S1) (sz := 1 + S1 + 1 + S3) (by omega) (by omega) (by omega)
  have htp3 := top_le (tp := tp) (lo := 1 + S1) (sz := 1 + S1 + 1 + S3) (by omega) htp0 (by omega)
  rename MkTup => hMk1
  clear hMk1
  unfold Halt
  k_steps
  rename_i ra hra hra0 hra1 _ _ _ _ _
  rename MkIter => hMk2
  clear hMk2
  unfold Halt
  rename Fr _ _ _ _ => FL
  rename News _ _ _ _ => NL
  have NL1 := front (pre := [_]) NL
  simp only [List.cons_append, List.nil_append] at NL1
  have NL3 := drop_head NL1
  obtain ⟨Dt, hDt⟩ := first_of NL3
  subst hDt
  refine iter_tupTurns (vs := [_, _, _]) (n := 0) rfl FL NL3 (List.Mem.head _) rfl rfl (fun I l5 => ?_)
  k_lt l5
  (try simp only [List.nil_append, List.cons_append, List.map_cons, List.map_nil])
  refine items_shape (fun _ _ _ _ _ _ _ => rfl) rfl rfl rfl rfl rfl rfl ?_
  refine items_pack (fun PP hPP => ?_)
  clear NL NL1 NL3 FL
  have hv0 : vv ≠ 0 := by omega
  have key : ∀ (mv : Int) (tm : Tok) (l : List Itm) (vM vA vL vN vC vH : Option Value) (q1 : Array Value) (d1 : Addr) (od1 : Obj) (q2 : Array Value) (d2 : Addr) (od2 ow : Obj) (ex : List (Addr × Obj)) (v0 : Option Value),
      0 < mv → mv ≤ tp → Tabs q1 d1 od1 q2 d2 od2 → ow.data = .cell v0 → Off5 d1 (L + 1) I I Dt → Off5 d2 (L + 1) I I Dt →
      (∀ (ta tl : Tok) (vN' vC' vH' : Option Value) (q1' : Array Value) (d1' : Addr) (od1' : Obj) (q2' : Array Value) (d2' : Addr) (od2' ow' : Obj) (P : Addr) (vp : List Value) (cp : Nat),
        Tabs q1' d1' od1' q2' d2' od2' → ow'.data = .cell (some (.ref P)) → IntsAre vp (pls uu vv 6) → Off5 d1' (L + 1) P I Dt → Off5 d2' (L + 1) P I Dt → @LT.lt Nat _ I P → 
        PP l (some (.int mv tm)) (some (.int (est uu vv 6).1 ta)) (some (.int (est uu vv 6).2 tl)) vN' vC' vH' q1' d1' od1' q2' d2' od2' ow' [(P, listOf vp.toArray cp)]) →
      PP (.val (.int mv tm) :: l) vM vA vL vN vC vH q1 d1 od1 q2 d2 od2 ow ex := by
    intro mv tm l vM vA vL vN vC vH q1 d1 od1 q2 d2 od2 ow ex v0 hm0 hm1 hTb how ho1 ho2 hgo
    have hmm := mm_ok (m := mv) (sz := 1 + S1 + 1 + S3) (lo := 1 + S1) (by omega) (by omega) hU hV hSd hm0 (m_le (tp := tp) (by omega) hm1 (by omega))
    have hmb := mm_bd (m := mv) (B := 2 ^ 31) hSd hm0 (by omega)
    have hF : TF uu vv sd mv := ⟨hv0, hmm, by omega, by omega, by omega, by omega, hmb.1, hmb.2⟩
    have hmu : IntMulOk sd mv := IntMulOk.of_right (intBits_le_64 (by omega) (by omega))
    clear hmm hmb
    rw [hPP]
    refine ItemsRest.val (fun h8 tk8 F8 => AllObj.cons (fun it8 hit8 => AllObj.nil (fun N8 => ?_)))
    simp only [List.cons_append, List.nil_append] at N8
    replace N8 := cb_drop N8 (news := List.take 7 _) (fun p hp => List.mem_of_mem_take hp)
    simp only [List.take_succ_cons, List.take_zero] at N8
    k_steps
    unfold Halt
    have hx1 := ho1
    have hx2 := ho2
    unfold Off5 at hx1 hx2
    refine turn_ok uu vv sd mv tp tu tv ts tm _ _ _ _ vM vA vL vN vC vH v0 q1 d1 od1 q2 d2 od2 ow I Dt it8 _ hF hmu hTb how dp un gd outer A₀ base h₀ L _ _ hx1.1 hx2.1 hx1.2.1 hx2.2.1 hx1.2.2.2 hx2.2.2.2 hL (by omega) (by omega) (by k_asm) (by k_asm) (by k_asm) (by k_asm) (by k_asm) (by assumption) (by assumption) (by omega) (by omega) ?_
    intro ta tl vN' vC' vH' q1' d1' od1' q2' d2' od2' ow' P vp cp h' tk' F' N' Tb' how' hvp o1 o2 hP
    have hpp := hgo ta tl vN' vC' vH' q1' d1' od1' q2' d2' od2' ow' P vp cp Tb' how' hvp o1 o2 hP
    rw [hPP] at hpp
    unfold Off5 at o1 o2
    exact UnrEndW.intro F' N' _ (by k_subL) (by k_subL) (offw (by k_all)) ⟨by k_subL, hpp⟩
  refine key 1 _ _ _ _ _ _ _ _ ps1 c1 oc1 ps2 c2 oc2 ow [] v0 (by omega) (by omega) hst how ⟨hc1, by omega, by omega, by omega⟩ ⟨hc2, by omega, by omega, by omega⟩ ?_
  intro ta1 tl1 vN1 vC1 vH1 q1 d1 od1 q2 d2 od2 ow1 P1 vp1 cp1 Tb1 how1 hvp1 o11 o12 hP1
  refine key tp _ _ _ _ _ _ _ _ q1 d1 od1 q2 d2 od2 ow1 _ _ (by omega) (by omega) Tb1 how1 ⟨o11.1, o11.2.2.1, o11.2.2.1, o11.2.2.2⟩ ⟨o12.1, o12.2.2.1, o12.2.2.1, o12.2.2.2⟩ ?_
  clear o11 o12 hP1 Tb1 how1 hvp1
  intro ta2 tl2 vN2 vC2 vH2 q1 d1 od1 q2 d2 od2 ow2 P2 vp2 cp2 Tb2 how2 hvp2 o21 o22 hP2
  refine key (1 + ra) _ _ _ _ _ _ _ _ q1 d1 od1 q2 d2 od2 ow2 _ _ (by omega) (by omega) Tb2 how2 ⟨o21.1, o21.2.2.1, o21.2.2.1, o21.2.2.2⟩ ⟨o22.1, o22.2.2.1, o22.2.2.1, o22.2.2.2⟩ ?_
  clear o21 o22 hP2 Tb2 how2 hvp2
  intro ta tl vN vC vH q1 d1 od1 q2 d2 od2 ow3 P vp cp Tb how3 hvp o1 o2 hP
  clear key
  rw [hPP]
  refine ItemsRest.zero (fun h9 tk9 F9 N9 => ?_)
  clear hPP
  k_steps
  unfold Halt
  have N10 := pick N9 [6, 1, 2, 3, 4, 5]
  simp only [List.filterMap_cons, List.filterMap_nil, List.getElem?_cons_zero, List.getElem?_cons_succ] at N10
  have hmm := mm_ok (m := 1) (sz := 1 + S1 + 1 + S3) (lo := 1 + S1) (by omega) (by omega) hU hV hSd (by omega) (m_le (tp := tp) (by omega) (by omega) (by omega))
  exact fin_ok uu vv (sd * 1) ta tl _ _ _ _ q1 d1 od1 q2 d2 od2 ow3 P vp cp hv0 hmm (by omega) (by omega) (by omega) (by omega) Tb how3 hvp dp un gd outer A₀ base h₀ L _ _ hL (by omega) (by k_asm) (fr_mf F9 rfl rfl rfl rfl rfl) (by k_asm) N10 (by k_asm) (by assumption) (by assumption) (by omega) (by omega) hret
end Mine
end

open PySem PySem.W PyProof.Rows PySem.Calls PySem.Spec
set_option maxRecDepth 100000
open Mine
local macro_rules | `(tactic| k_lt $h:ident) => `(tactic| (replace $h := allLt_of $h; simp only [AllLt, and_true] at $h:ident; (try simp only [allLt_hi] at $h:ident)))
local macro_rules | `(tactic| k_all) => `(tactic| first | assumption | exact ne_of_hi (by (try dsimp only); omega) | exact List.forall_mem_nil _ | (refine List.forall_mem_cons.mpr ⟨by k_ne, ?_⟩; k_all))
local macro_rules | `(tactic| k_mem) => `(tactic| first | assumption | exact List.Mem.head _ | (refine List.mem_cons_of_mem _ ?_; k_mem))
local macro_rules | `(tactic| walk_at "call ref") => `(tactic| (with_reducible refine halt ?_))
local macro_rules | `(tactic| walk_at "execs cons") => `(tactic| ((with_reducible show wpAny _ _ (execs (Stmt.Assign [Expr.Name (Str.ofString "low") _] _ _ :: _) _) _ _ _); with_reducible refine halt ?_))
set_option maxRecDepth 100000 in
set_option maxHeartbeats 8000000 in
theorem PySem.Challenge.cw_sw0084_01_holds : PySem.Challenge.rw_sw0084_01.Holds := by
  k_with "pyIter ref" => k_state (fun pre n => 0 ≤ n ∧ n < 1000000000000000000000000) "number"
  k_with "state" => exact num_ok _
  refine Mine.swHead ?_
  k_go0
  (all_goals try k_fold)
  k_steps
  unfold Halt
  rename Fr _ _ _ _ => FL
  rename News _ _ _ _ => NL
  have N2 := pick NL [2, 2, 3, 3, 1]
  simp only [List.filterMap_cons, List.filterMap_nil, List.getElem?_cons_zero, List.getElem?_cons_succ] at N2
  dsimp only [envOfC] at FL N2
  refine wpAny_noRaise ?_
  refine' law_tail ?num ?tnum ?m1 ?m2 #[] 37 (tabObj #[]) #[] 30 (tabObj #[]) ?ow ?v0 ?hn0 ?hn1 ⟨Or.inl ⟨rfl, rfl, rfl⟩, Or.inl ⟨rfl, rfl, rfl⟩, by decide, by decide⟩ ?how _ _ _ _ _ _ _ _ _ _ ?B ?F ?X ?N ?T ?h1 ?h2 ?h3 ?C1 ?C2 ?h4 ?h5 ?_
  case F => exact FL
  case N => exact N2
  case hn0 => assumption
  case hn1 => assumption
  case how => assumption
  case B => assumption
  case X => assumption
  case T => assumption
  case C1 => assumption
  case C2 => assumption
  case h1 => show @Ne Nat _ _; omega
  case h2 => show @Ne Nat _ _; omega
  case h3 => omega
  case h4 => with_unfolding_all decide
  case h5 => with_unfolding_all decide
  intro m' ps1' ps2' h' tk' F' N'
  dsimp only
  k_steps
