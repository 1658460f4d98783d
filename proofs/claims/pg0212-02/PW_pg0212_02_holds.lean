import PyProof.Rows.All
import Wide.All
import OpenK.AllK
import Wide.FinOn
import Lean
import PySem.Challenge.RW_pg0212_02
open PySem PySem.W PyProof.Rows PySem.Calls PySem.Spec
set_option Elab.async false
set_option maxRecDepth 100000
set_option maxHeartbeats 8000000
namespace Mine
theorem A.hd1.view_39 : True := trivial
theorem A.hd1.env_41 : True := trivial
theorem A.hd1.heap_46 : True := trivial
theorem A.hd1.heap_47 : True := trivial
theorem A.hd1.tree_47 : True := trivial
theorem A.hd1.tree_48 : True := trivial
theorem A.hd1.tree_49 : True := trivial
theorem A.hd1.sts_49 : True := trivial
theorem A.hd1.sts_50 : True := trivial
theorem A.hd1.sts_51 : True := trivial
theorem A.hd1.tree_99 : True := trivial
theorem A.hd1.tree_100 : True := trivial
theorem A.hd1.tree_101 : True := trivial
theorem A.hd1.tree_102 : True := trivial
theorem A.hd1.tree_103 : True := trivial
theorem A.hd1.sts_100 : True := trivial
theorem A.hd1.sts_101 : True := trivial
theorem A.hd1.sts_102 : True := trivial
theorem A.hd1.sts_103 : True := trivial
theorem A.hd1.sts_104 : True := trivial
theorem A.hd1.sts_105 : True := trivial
theorem A.hd1.tree_174 : True := trivial
theorem A.hd1.tree_175 : True := trivial
theorem A.hd1.tree_176 : True := trivial
theorem A.hd1.tree_177 : True := trivial
theorem A.hd1.tree_178 : True := trivial
theorem A.hd1.tree_179 : True := trivial
theorem A.hd1.tree_180 : True := trivial
theorem A.hd1.tree_181 : True := trivial
theorem A.hd1.sts_175 : True := trivial
theorem A.hd1.sts_176 : True := trivial
theorem A.hd1.sts_177 : True := trivial
theorem A.hd1.sts_178 : True := trivial
theorem A.hd1.sts_179 : True := trivial
theorem A.hd1.sts_180 : True := trivial
theorem A.hd1.sts_181 : True := trivial
theorem A.hd1.sts_182 : True := trivial
theorem A.hd1.sts_183 : True := trivial
theorem A.hd1.tree_186 : True := trivial
theorem A.hd1.tree_187 : True := trivial
theorem A.hd1.tree_188 : True := trivial
theorem A.hd1.tree_189 : True := trivial
theorem A.hd1.tree_190 : True := trivial
theorem A.hd1.tree_191 : True := trivial
theorem A.hd1.tree_192 : True := trivial
theorem A.hd1.tree_193 : True := trivial
theorem A.hd1.tree_194 : True := trivial
theorem A.hd1.tree_195 : True := trivial
theorem A.hd1.tree_196 : True := trivial
theorem A.hd1.heap_187 : True := trivial
theorem A.hd1.heap_188 : True := trivial
theorem A.hd1.heap_189 : True := trivial
theorem A.hd1.heap_190 : True := trivial
theorem A.hd1.heap_191 : True := trivial
theorem A.hd1.heap_192 : True := trivial
theorem A.hd1.heap_193 : True := trivial
theorem A.hd1.heap_194 : True := trivial
theorem A.hd1.heap_195 : True := trivial
theorem A.hd1.heap_196 : True := trivial
theorem A.hd1.heap_197 : True := trivial
theorem A.hd1.heap_198 : True := trivial
theorem A.tw2764437401098981436 : True := trivial
theorem A.tw15055284916421777340 : True := trivial
theorem A.tw6984528881599332762 : True := trivial
theorem A.tw9773795564067618371 : True := trivial
theorem A.tw1789363001448093860 : True := trivial
theorem A.tw15180140803229669093 : True := trivial
theorem A.tw11721977885259119639 : True := trivial
theorem A.tw18367250860855773582 : True := trivial
theorem A.tw8421888475696982520 : True := trivial
theorem A.tw12889314453714316113 : True := trivial
theorem A.tw10928553033984722968 : True := trivial
theorem A.tw5400728178425949928 : True := trivial
theorem A.tw17180788050702449745 : True := trivial
set_option Elab.async true in
theorem A : True := by
  first
  | (let rec hd1 : True := (have _h : (have _x : PySem.Challenge.rw_pg0212_02.Holds := (by (w_on; o_law; k_head; (case hw => w_witness2); fail)); True) := trivial; trivial)
     fail)
  | trivial
#print axioms A
namespace A
open_top hd1 for PySem.Challenge.rw_pg0212_02
end A
open A
section

theorem and_high (X s : Nat) : X &&& (X / 2 ^ s * 2 ^ s) = X / 2 ^ s * 2 ^ s := by
  apply Nat.eq_of_testBit_eq
  intro i
  rw [Nat.testBit_and]
  have e : X / 2 ^ s * 2 ^ s = (X >>> s) <<< s := by rw [Nat.shiftRight_eq_div_pow, Nat.shiftLeft_eq]
  rw [e, Nat.testBit_shiftLeft, Nat.testBit_shiftRight]
  by_cases h : s ≤ i
  · simp [h]
  · simp [h]
theorem xor_high (X s : Nat) : Builtin.bitXor (X : Int) ((X / 2 ^ s : Nat) * 2 ^ s) = ((X % 2 ^ s : Nat) : Int) := by
  rw [bitXor_and]
  have c : ((X / 2 ^ s : Nat) : Int) * 2 ^ s = ((X / 2 ^ s * 2 ^ s : Nat) : Int) := by simp
  rw [c, bitAnd_pp (by omega) (by omega)]
  simp only [Int.toNat_natCast]
  rw [and_high]
  have := Nat.div_add_mod X (2 ^ s)
  rw [Nat.mul_comm] at this
  omega
theorem fdiv_nat (a b : Nat) : Int.fdiv (a : Int) (b : Int) = ((a / b : Nat) : Int) := by
  cases b with
  | zero => simp
  | succ b => rw [Int.fdiv_eq_ediv_of_nonneg _ (by omega)]; simp
theorem fmod_nat (a b : Nat) : Int.fmod (a : Int) (b : Int) = ((a % b : Nat) : Int) := by
  rw [Int.fmod_eq_emod_of_nonneg _ (by omega)]; simp
theorem fdiv_pow (a s : Nat) : Int.fdiv (a : Int) (2 ^ s) = ((a / 2 ^ s : Nat) : Int) := by
  have := fdiv_nat a (2 ^ s)
  rw [← this]; simp

/-- k places from lo on are set to x's figures to the base b, the lowest first -/
def putD (b : Nat) : Nat → Nat → Nat → List Int → List Int
  | 0, _, _, l => l
  | k + 1, lo, x, l => putD b k (lo + 1) (x / b) (l.set lo ((x % b : Nat) : Int))
theorem putD_length (b : Nat) : ∀ (k lo x : Nat) (l : List Int), (putD b k lo x l).length = l.length
  | 0, _, _, _ => rfl
  | k + 1, lo, x, l => by rw [putD, putD_length b k]; simp
theorem putD_split (b : Nat) : ∀ (j k lo x : Nat) (l : List Int), putD b (j + k) lo x l = putD b k (lo + j) (x / b ^ j) (putD b j lo x l)
  | 0, k, lo, x, l => by simp [putD]
  | j + 1, k, lo, x, l => by
    rw [show j + 1 + k = (j + k) + 1 by omega, putD, putD, putD_split b j k, Nat.div_div_eq_div_mul, Nat.pow_succ, Nat.mul_comm b]
    congr 1
    omega
theorem putD_mod (b : Nat) : ∀ (j lo x : Nat) (l : List Int), putD b j lo (x % b ^ j) l = putD b j lo x l
  | 0, _, _, _ => rfl
  | j + 1, lo, x, l => by
    rw [putD, putD]
    have e1 : x % b ^ (j + 1) % b = x % b := by
      rw [Nat.pow_succ, Nat.mul_comm, Nat.mod_mul_right_mod]
    have e2 : x % b ^ (j + 1) / b = x / b % b ^ j := by
      rw [Nat.pow_succ, Nat.mul_comm, Nat.mod_mul_right_div_self]
    rw [e1, e2, putD_mod b j]
/-- k figures of x to the base b, the lowest first -/
def digs (b : Nat) : Nat → Nat → List Int
  | 0, _ => []
  | k + 1, x => ((x % b : Nat) : Int) :: digs b k (x / b)
theorem digs_length (b : Nat) : ∀ k x, (digs b k x).length = k
  | 0, _ => rfl
  | k + 1, x => by rw [digs, List.length_cons, digs_length b k]
theorem putD_digs (b : Nat) : ∀ (k x : Nat) (pre : List Int), putD b k pre.length x (pre ++ List.replicate k 0) = pre ++ digs b k x
  | 0, _, _ => by simp [putD, digs]
  | k + 1, x, pre => by
    rw [putD, digs, List.replicate_succ]
    have e : (pre ++ (0 :: List.replicate k (0 : Int))).set pre.length ((x % b : Nat) : Int) = (pre ++ [((x % b : Nat) : Int)]) ++ List.replicate k 0 := by simp
    rw [e]
    have := putD_digs b k (x / b) (pre ++ [((x % b : Nat) : Int)])
    rw [List.length_append, List.length_singleton] at this
    rw [this]; simp
/-- the number whose figures to the base b are ds, the lowest first -/
def numD (b : Nat) : List Nat → Nat
  | [] => 0
  | d :: r => d + b * numD b r
theorem numD_append (b : Nat) : ∀ l r : List Nat, numD b (l ++ r) = numD b l + b ^ l.length * numD b r
  | [], r => by simp [numD]
  | d :: l, r => by
    rw [List.cons_append, numD, numD, numD_append b l r, List.length_cons, Nat.pow_succ, Nat.mul_add, ← Nat.mul_assoc, Nat.mul_comm b (b ^ l.length), Nat.add_assoc]
theorem numD_lt (b : Nat) : ∀ l : List Nat, (∀ d ∈ l, d < b) → numD b l < b ^ l.length
  | [], _ => by simp [numD]
  | d :: l, h => by
    have h1 := h d (.head _)
    have h2 := numD_lt b l fun x hx => h x (.tail _ hx)
    rw [numD, List.length_cons, Nat.pow_succ]
    have h3 : b * (numD b l + 1) ≤ b * b ^ l.length := Nat.mul_le_mul_left b h2
    rw [Nat.mul_add, Nat.mul_one] at h3
    rw [Nat.mul_comm (b ^ l.length) b]; omega
/-- the figures from lo on, k of them -/
def part (ds : List Nat) (lo k : Nat) : List Nat := (ds.drop lo).take k
theorem part_split (ds : List Nat) (lo j k : Nat) : part ds lo (j + k) = part ds lo j ++ part ds (lo + j) k := by
  unfold part
  rw [← List.drop_drop, List.take_add]
theorem part_length {ds : List Nat} {lo k : Nat} (h : lo + k ≤ ds.length) : (part ds lo k).length = k := by
  unfold part
  rw [List.length_take, List.length_drop]; omega
theorem part_mem {ds : List Nat} {lo k d : Nat} (h : d ∈ part ds lo k) : d ∈ ds := List.mem_of_mem_drop (List.mem_of_mem_take h)
theorem part_one {ds : List Nat} {lo : Nat} (h : lo < ds.length) : part ds lo 1 = [ds.getD lo 0] := by
  unfold part
  rw [List.drop_eq_getElem_cons h, List.take_succ_cons, List.take_zero]
  simp [List.getD, h]
theorem part_all (ds : List Nat) : part ds 0 ds.length = ds := by simp [part]
/-- what inner of _digits2int gives, the upper half first -/
theorem numD_part {b : Nat} {ds : List Nat} {lo j k : Nat} (h : lo + (j + k) ≤ ds.length) : numD b (part ds lo (j + k)) = numD b (part ds (lo + j) k) * b ^ j + numD b (part ds lo j) := by
  rw [part_split, numD_append, part_length (by omega), Nat.add_comm, Nat.mul_comm]
theorem part_lt {b : Nat} {ds : List Nat} {lo k : Nat} (h : lo + k ≤ ds.length) (hb : ∀ d ∈ ds, d < b) : numD b (part ds lo k) < b ^ k := by
  have := numD_lt b (part ds lo k) fun d hd => hb d (part_mem hd)
  rwa [part_length h] at this
theorem getD_cast (ds : List Nat) (i : Nat) : (ds.map Int.ofNat).getD i 0 = ((ds.getD i 0 : Nat) : Int) := by
  simp only [List.getD_eq_getElem?_getD, List.getElem?_map]
  cases ds[i]? <;> rfl
/-- k figures of x to the base b as plain numbers -/
def digsN (b : Nat) : Nat → Nat → List Nat
  | 0, _ => []
  | k + 1, x => x % b :: digsN b k (x / b)
theorem digs_map (b : Nat) : ∀ k x, digs b k x = (digsN b k x).map Int.ofNat
  | 0, _ => rfl
  | k + 1, x => by rw [digs, digsN, List.map_cons, digs_map b k]; rfl
theorem digsN_length (b : Nat) : ∀ k x, (digsN b k x).length = k
  | 0, _ => rfl
  | k + 1, x => by rw [digsN, List.length_cons, digsN_length b k]
theorem digsN_lt {b : Nat} (hb : 0 < b) : ∀ k x, ∀ d ∈ digsN b k x, d < b
  | 0, _, _, h => nomatch h
  | k + 1, x, d, h => by
    rcases List.mem_cons.mp h with rfl | h
    · exact Nat.mod_lt _ hb
    · exact digsN_lt hb k _ d h
theorem numD_digsN (b : Nat) : ∀ k x, numD b (digsN b k x) = x % b ^ k
  | 0, x => by simp [digsN, numD, Nat.mod_one]
  | k + 1, x => by
    rw [digsN, numD, numD_digsN b k, Nat.pow_succ, Nat.mul_comm (b ^ k) b, Nat.mod_mul]
/-- long division, one figure more -/
theorem longdiv {b B V Q r d : Nat} (hB : 0 < B) (hQ : Q = V / B) (hr : r = V % B) (hd : d < b) : (r * b + d) / B + b * Q = (d + b * V) / B ∧ (r * b + d) % B = (d + b * V) % B ∧ (r * b + d) / B < b := by
  subst hQ hr
  have e : d + b * V = (V % B * b + d) + B * (b * (V / B)) := by
    have h1 : b * V = b * (B * (V / B)) + b * (V % B) := by rw [← Nat.mul_add, Nat.div_add_mod]
    have h2 : B * (b * (V / B)) = b * (B * (V / B)) := Nat.mul_left_comm ..
    have h3 : V % B * b = b * (V % B) := Nat.mul_comm ..
    omega
  refine ⟨?_, ?_, ?_⟩
  · rw [e, Nat.add_mul_div_left _ _ hB]
  · rw [e, Nat.add_mul_mod_self_left]
  · rw [Nat.div_lt_iff_lt_mul hB]
    have h1 : V % B + 1 ≤ B := Nat.mod_lt _ hB
    have h2 : (V % B + 1) * b ≤ B * b := Nat.mul_le_mul_right b h1
    rw [Nat.add_mul, Nat.one_mul] at h2
    rw [Nat.mul_comm b B]; omega
theorem drop_one_more {ds : List Nat} {i : Nat} (h : i < ds.length) : ds.drop (ds.length - (i + 1)) = ds.getD (ds.length - 1 - i) 0 :: ds.drop (ds.length - i) := by
  have e : ds.length - (i + 1) = ds.length - 1 - i := by omega
  rw [e, List.drop_eq_getElem_cons (by omega)]
  have e2 : ds.length - 1 - i + 1 = ds.length - i := by omega
  rw [e2]
  simp [List.getD, show ds.length - 1 - i < ds.length by omega]
theorem bits_pos {B : Nat} (h : 0 < B) : 0 < Builtin.Int.intBits (B : Int) := by
  rcases Nat.eq_zero_or_pos (Builtin.Int.intBits (B : Int)) with e | e
  · have := intBits_le_iff.mp (Nat.le_of_eq e)
    rw [Int.natAbs_natCast, Nat.pow_zero] at this; omega
  · exact e
theorem bits_lt (B : Nat) : B < 2 ^ Builtin.Int.intBits (B : Int) := by
  have := intBits_le_iff.mp (Nat.le_refl (Builtin.Int.intBits (B : Int)))
  rwa [Int.natAbs_natCast] at this
theorem bits_zero : Builtin.Int.intBits ((0 : Nat) : Int) = 0 := rfl
theorem bits_le {A m : Nat} (h : A < 2 ^ m) : Builtin.Int.intBits (A : Int) ≤ m := intBits_le_iff.mpr (by rw [Int.natAbs_natCast]; exact h)
end
section
theorem tail_getD {ds : List Nat} {j : Nat} : (ds.map Int.ofNat).getD j 0 = ((ds.getD j 0 : Nat) : Int) := getD_cast ds j
theorem ints_at {vs : List Value} {ds : List Nat} (h : IntsAre vs (ds.map Int.ofNat)) {i : Nat} (hi : i < ds.length) : ∃ t, vs[i]? = some (.int ((ds.getD i 0 : Nat) : Int) t) := by
  obtain ⟨t, ht⟩ := h.get i ((ds.getD i 0 : Nat) : Int) (by
    rw [List.getElem?_map, List.getElem?_eq_getElem hi]
    simp [List.getD, hi])
  exact ⟨t, ht⟩
theorem fr_int {h₀ h : Heap} {L : Addr} {m : Str → Option Value} {x : Str} {i : Int} (_ : Fr h₀ L h m) (e : ∃ t, m x = some (.int i t)) : ∃ t, m x = some (.int i t) := e
theorem ints_rev : ∀ {vs : List Value} {ds : List Nat}, IntsAre vs (ds.map Int.ofNat) → IntsAre vs.reverse (ds.reverse.map Int.ofNat)
  | [], [], _ => .nil
  | v :: vs, d :: ds, h => by
    rw [List.reverse_cons, List.reverse_cons, List.map_append]
    cases h with
    | cons i t h => exact IntsAre.append (ints_rev h) (.cons _ t .nil)
structure DmSt where
  i : Nat
  r : Nat
  tr : Tok
  oI : Obj
  vq : List Value
  ep : Nat
  qs : List Nat
end
section
theorem rest_ne {rest : List (Addr × Obj)} {B d : Nat} (h : ∀ p ∈ rest, @LT.lt Nat _ p.1 B) (hb : @LE.le Nat _ B d) : ∀ p ∈ rest, p.1 ≠ d := fun p hp => Nat.ne_of_lt (Nat.lt_of_lt_of_le (h p hp) hb)
theorem allLt_to {d : Addr} : ∀ {l : List (Addr × Obj)}, AllLt d l → ∀ p ∈ l, @LT.lt Nat _ p.1 d
  | [], _, _, hp => nomatch hp
  | _ :: _, h, _, hp => by
    rcases List.mem_cons.mp hp with rfl | hp
    · exact h.1
    · exact allLt_to h.2 _ hp
def Halt (P : Prop) : Prop := P
theorem Halt.of {P : Prop} (h : Halt P) : P := h
/-- the def that stands at place j of the body of the top's statement i -/
def nested (p : Program) (i j : Nat) : Option (Str × Arguments × List Stmt × Scope) :=
  match p.main.body[i]? with
  | some (.FunctionDef _ _ b _ _ _ _ _ _ _) => (match b[j]? with
    | some (.FunctionDef n a b' _ _ _ sc _ _ _) => some (n, a, b', sc)
    | _ => none)
  | _ => none
theorem shift_nat {a b : Int} {n j : Nat} (h : a - b = j) : (a - b) * (n : Int) = ((n * j : Nat) : Int) := by
  rw [h, ← Int.natCast_mul, Nat.mul_comm]
section
variable {M : Model} {A : Around} {Q E : Value → Shared → Prop} {s : Shared}
theorem haltC {f : Addr} {as : List Value} (h : Halt (wpAny M A (call (.ref f) as) Q E s)) : wpAny M A (call (.ref f) as) Q E s := h
theorem haltC2 {f : Addr} {a b : Value} (h : Halt (wpAny M A (call (.ref f) [a, b]) Q E s)) : wpAny M A (call (.ref f) [a, b]) Q E s := h
theorem haltC3 {f : Addr} {a b c : Value} (h : Halt (wpAny M A (call (.ref f) [a, b, c]) Q E s)) : wpAny M A (call (.ref f) [a, b, c]) Q E s := h
theorem haltCI {f : Addr} {i : Int} {t : Tok} (h : Halt (wpAny M A (call (.ref f) [.int i t]) Q E s)) : wpAny M A (call (.ref f) [.int i t]) Q E s := h
theorem haltWh {a b c d} {env : Env} {Q : Flow → Shared → Prop} (h : Halt (wpAny M A (exec (Stmt.While a b c d) env) Q E s)) : wpAny M A (exec (Stmt.While a b c d) env) Q E s := h
theorem haltSR {x y} {a b : Addr} (h : Halt (wpAny M A (subscriptTail x y (.ref a) (.ref b)) Q E s)) : wpAny M A (subscriptTail x y (.ref a) (.ref b)) Q E s := h
theorem haltSI {x y} {a : Addr} {i : Int} {t : Tok} (h : Halt (wpAny M A (subscriptTail x y (.ref a) (.int i t)) Q E s)) : wpAny M A (subscriptTail x y (.ref a) (.int i t)) Q E s := h
end
theorem ne_newer {l : List (Addr × Obj)} {P a : Nat} {o : Obj} (h : ∀ p ∈ l, @LT.lt Nat _ p.1 P) (m : (a, o) ∈ l) : P ≠ a := Nat.ne_of_gt (h _ m)
theorem ne_older {l : List (Addr × Obj)} {P a : Nat} {o : Obj} (h : ∀ p ∈ l, @LT.lt Nat _ p.1 P) (m : (a, o) ∈ l) : a ≠ P := Nat.ne_of_lt (h _ m)
theorem len_L {prog : Program} {w : World} {A : Around} {E : Value → Shared → Prop} {s : Shared} {h₀ : Heap} {L D : Addr} {news : List (Addr × Obj)} {vs : List Value} {c : Nat} {Q : Value → Shared → Prop} (N : News h₀ L s.heap news) (hm : (D, W.listOf vs.toArray c) ∈ news) (hf : vs.length < 2 ^ 62)
    (h : Q (.int (vs.length : Nat) (s.toks + 1)) { s with toks := s.toks + 1 + 1 }) : wpAny (model prog w) A (call (.builtin "len") [.ref D]) Q E s := KM.len_K (n := vs.length) N hm (List.size_toArray ..) hf h
theorem haltC1 {M : Model} {A : Around} {Q E : Value → Shared → Prop} {s : Shared} {f b : Addr} (h : Halt (wpAny M A (call (.ref f) [.ref b]) Q E s)) : wpAny M A (call (.ref f) [.ref b]) Q E s := h
end
section
section
variable {prog : Program} {w : World} {A : Around} {R : Result → Shared → Prop} {s : Shared} {env : Env} {h₀ : Heap} {L : Addr}
/-- a for loop over any iterator, by an invariant and a measure: the state c tells the ledger and the names -/
theorem forI {σ : Type} {x : Str} {px : Pos} {it : Value} {body : List Stmt} {m₀ m₁ : Str → Option Value} (Led : σ → List (Addr × Obj)) (ps : σ → List (Str × Value)) (stored : List Str) (P : σ → Prop) (μ : σ → Nat) (c₀ : σ)
    (F : Fr h₀ L s.heap m₁) (N : News h₀ L s.heap (Led c₀)) (hk : ∀ p ∈ ps c₀, m₁ p.1 = some p.2) (hr : ∀ z, (∀ p ∈ ps c₀, z ≠ p.1) → stored.contains z = false → m₁ z = m₀ z) (hp : P c₀)
    (turn : ∀ (c : σ) (u : Str → Option Value) h tk, P c → Fr h₀ L h (kstB (fun z => if stored.contains z then u z else m₀ z) (ps c)) → News h₀ L h (Led c) →
      wpAny (model prog w) A (pyNext it) (fun r s₁ => match r with
        | none => R (.ok .next) s₁
        | some v => wpAny (model prog w) A (storeName env x v) (fun _ s₂ => wpAny (model prog w) A (execs body env) (KswPost h₀ L s Led ps (fun _ => True) stored m₀ P μ (fun f s => R (.ok f) s) c) (fun _ _ => False) s₂) (fun _ _ => False) s₁) (fun _ _ => False) { s with heap := h, toks := tk })
    (ht : ∀ v, letOwnedTupleGo (.Name x px) it v = pure () := by intro _; rfl) :
    codeAny (model prog w) A (.forLoop (.Name x px) it body [] env) R s := by
  have hE : ∀ (e : Value) (s' : Shared), False → notedBy (model prog w) A env (fun e s' => R (.error e) s') e s' := fun _ _ h => h.elim
  refine codeAny_forLoop (fun n s' => ∃ (c : σ) (h : Heap) (tk : Nat) (m : Str → Option Value), s' = { s with heap := h, toks := tk } ∧ Fr h₀ L h m ∧ News h₀ L h (Led c) ∧ μ c = n ∧ (∀ p ∈ ps c, m p.1 = some p.2) ∧ (∀ z, (∀ p ∈ ps c, z ≠ p.1) → stored.contains z = false → m z = m₀ z) ∧ P c)
    ?_ (μ c₀) ⟨c₀, s.heap, s.toks, m₁, rfl, F, N, rfl, hk, hr, hp⟩ ht
  rintro n s' ⟨c, h, tk, m, rfl, F', N', hμ, h1, h2, hp'⟩
  refine wpAny_mono (turn c m h tk hp' (ksw_fr h1 h2 F') N') (fun r s₁ k => ?_) hE
  cases r with
  | none => exact wpAny_execs_nil k
  | some v =>
    refine wpAny_assign_Name (wpAny_mono k (fun _ s₂ k₂ => ?_) hE)
    refine wpAny_mono k₂ (fun f s₃ q => ?_) hE
    cases f with
    | ret v => exact q
    | brk => exact q
    | next =>
      obtain ⟨c', h', tk', m', news', rfl, F', N', hn, _, hk9, hr9, hp9, hm9⟩ := q
      exact ⟨μ c', hμ ▸ hm9, c', h', tk', m', rfl, F', fun p hp => N' p (hn p hp), rfl, hk9, hr9, hp9⟩
    | cont =>
      obtain ⟨c', h', tk', m', news', rfl, F', N', hn, _, hk9, hr9, hp9, hm9⟩ := q
      exact ⟨μ c', hμ ▸ hm9, c', h', tk', m', rfl, F', fun p hp => N' p (hn p hp), rfl, hk9, hr9, hp9⟩
end
end
section
section
variable {prog : Program} {w : World} {A : Around} {E : Value → Shared → Prop} {s : Shared} {h₀ : Heap} {L I l : Addr} {m : Str → Option Value} {news : List (Addr × Obj)} {oI : Obj}
theorem news_extBut {h h' : Heap} {a : Addr} {nx : List (Addr × Obj)} (N : News h₀ L h nx) (hx : Heap.ExtBut a h h') (hne : ∀ p ∈ nx, p.1 ≠ a) : News h₀ L h' nx := fun p hp => ⟨hx _ _ (hne p hp) (N p hp).1, (N p hp).2⟩
theorem fr_extBut {h h' : Heap} {a : Addr} (F : Fr h₀ L h m) (hx : Heap.ExtBut a h h') (hL : L ≠ a) (h0 : h₀.get? a = none) : Fr h₀ L h' m :=
  ⟨F.ns.extBut hx hL, fun b o e => hx b o (fun q => by rw [q, h0] at e; cases e) (F.keep b o e), F.above⟩
theorem rev_item {i : Nat} {vs : List Value} {ep : Nat} {x : Value} {g : Obj → List (Addr × Obj)} {Q : Option Value → Shared → Prop} (F : Fr h₀ L s.heap m) (N : News h₀ L s.heap news) (U : UpdF I oI news g) (hc : oI.cls = .type "list_reverseiterator") (hd : oI.data = .fields #[.ref l, rawInt (i : Int)])
    (hl : (l, W.listOf vs.toArray ep) ∈ news) (hx : vs[i]? = some x)
    (h : ∀ h' o', Fr h₀ L h' m → News h₀ L h' (g o') → o'.cls = .type "list_reverseiterator" → o'.data = .fields #[.ref l, rawInt ((i : Int) - 1)] → Q (some x) { s with heap := h' }) : wpAny (model prog w) A (pyNext (.ref I)) Q E s := by
  obtain ⟨own, rest, rfl, hg, h1, h2⟩ := U.split
  have hm := N (I, oI) (List.mem_append_right _ (.head _))
  refine wpAny_pyNext_rev_item (i := i) ⟨oI, hm.1, hc, hd⟩ (PySem.IsL.isList (n := ep) (N _ hl).1) (by simpa using hx) fun h' hit hs => ?_
  obtain ⟨o', ho', hc', hd'⟩ := hit
  refine h h' o' ⟨F.ns.sameBut hs (Ne.symm hm.2.1), fun b ob e => (hs.2 b (fun q => ?_)).trans (F.keep b ob e), F.above⟩ (hg o' ▸ N.setAt h1 h2 hs ho') hc' hd'
  rw [q, hm.2.2] at e; cases e
theorem rev_end {nx : List (Addr × Obj)} {Q : Option Value → Shared → Prop} (hh : A.handled = none) (F : Fr h₀ L s.heap m) (N : News h₀ L s.heap news) (hm : (I, oI) ∈ news) (hc : oI.cls = .type "list_reverseiterator") (hd : oI.data = .fields #[.ref l, rawInt (-1)])
    (hs : ∀ p ∈ nx, p ∈ news) (hne : ∀ p ∈ nx, p.1 ≠ I)
    (h : ∀ h', Fr h₀ L h' m → News h₀ L h' nx → Q none { s with heap := h' }) : wpAny (model prog w) A (pyNext (.ref I)) Q E s := by
  have h3 := N _ hm
  refine wpAny_pyNext_rev_end (l := l) hh ⟨oI, h3.1, hc, hd⟩ fun h' hx => ?_
  exact h h' (fr_extBut F hx (Ne.symm h3.2.1) h3.2.2) (news_extBut (fun p hp => N p (hs p hp)) hx hne)
end
end
section
theorem slot_fn_setattr : Slot "function" "__setattr__" "object.__setattr__" :=
  Slot.of (owner := "object") (n := "__setattr__") (by rw [typeLookup_type, builtinLookup_eq_fast]; kernel_rfl) (by decide +kernel) (by decide +kernel) (by decide +kernel) (.inl (by decide +kernel)) (by rw [isSubtype_type]; kernel_rfl)
theorem fn_mro : mroOf (.type "function") = pure [.type "function", .type "object"] := by rw [mroOf_type]; kernel_rfl
theorem fn_refuse (self : Value) : PySem.refuseLoop self "__setattr__" [.type "function", .type "object"] = pure () := by kernel_rfl
theorem fn_lookup_read : typeLookup (.type "function") "read" = pure none := by rw [typeLookup_type, builtinLookup_eq_fast]; kernel_rfl
theorem fn_args (a b c : Value) : argsOk "object.__setattr__" ⟨[a, b, c], []⟩ := PySem.F.store_object.args a b c
theorem fn_hasDict : typeHasDict (.type "function") = true := by decide +kernel
theorem fn_dictMade (a d : Addr) : dictMade (.type "function") a d = pure (some d) := by kernel_rfl
section
variable {prog : Program} {w : World} {A : Around} {E : Value → Shared → Prop} {s : Shared} {h₀ : Heap} {L f : Addr} {m : Str → Option Value} {news : List (Addr × Obj)} {of : Obj} {g : Obj → List (Addr × Obj)} {v : Value}
theorem fn_typeOf {h : Heap} {M : Model} (ho : h.get? f = some of) (hc : of.cls = .type "function") : Looks M h (typeOf (.ref f)) (.type "function") := by
  rw [← hc]; exact (Looks.ld ho).andThen .now
theorem fn_setattr {fd : FuncData} {Q : Unit → Shared → Prop} (F : Fr h₀ L s.heap m) (N : News h₀ L s.heap news) (U : UpdF f of news g) (hc : of.cls = .type "function") (hd : of.dict = none) (hdat : of.data = .func fd)
    (h : ∀ d h' tk tn, Fr h₀ L h' m → News h₀ L h' ((d, dictOf [⟨PyData.keyHash w.params "read", .str "read" tn, v⟩] 1) :: g { of with dict := some d }) → (∀ p ∈ news, p.1 < d) → Q () { s with heap := h', toks := tk }) :
    wpAny (model prog w) A (setAttr (.ref f) "read" v) Q E s := by
  obtain ⟨own, rest, rfl, hg, h1, h2⟩ := U.split
  have hm := N (f, of) (List.mem_append_right _ (.head _))
  have hT : (s : Shared).TypeIs (.ref f) "function" := ⟨of, hm.1, hc⟩
  unfold setAttr
  refine wpAny_bind (wpAny_mkText (wpAny_bind (wpAny_callSpecial?_slot (s := { s with toks := s.toks + 1 }) ⟨of, hm.1, hc⟩ slot_fn_setattr (wpAny_call_entry slot_fn_setattr ⟨of, hm.1, hc⟩ PySem.F.store_object.entry ?_ (fn_args _ _ _)))))
  rw [PySem.W.osa_eq, PySem.refuse_eq]
  have T1 : Looks (model prog w) s.heap (typeOf (.ref f)) (.type "function") := fn_typeOf hm.1 hc
  refine wpAny_bind (wpAny_bind (Looks.here (s := { s with toks := s.toks + 1 }) T1 ?_))
  rw [fn_mro]
  refine wpAny_bind (wpAny_pure ?_)
  rw [fn_refuse]
  refine wpAny_pure (wpAny_bind (Looks.here (s := { s with toks := s.toks + 1 }) T1 ?_))
  rw [fn_lookup_read]
  refine wpAny_bind (wpAny_pure ?_)
  refine wpAny_bind (wpAny_pure ?_)
  show wpAny _ _ (do
    let d? ← Builtin.ObjectAttr.ownDictForStores (.ref f)
    match d? with
    | some d => Builtin.ObjectAttr.storeInDict d (.str (PySem.Str.ofString "read") s.toks) (PySem.Str.ofString "read") v
    | none => Builtin.ObjectAttr.noDictFor (.ref f) (.type "function") (PySem.Str.ofString "read") false) _ _ _
  refine wpAny_bind ?_
  show wpAny _ _ (instanceDict f true) _ _ _
  obtain ⟨oc, od, odat, osl⟩ := of
  dsimp only at hc hd hdat
  subst hc hd hdat
  refine wpAny_bind (wpAny_loadPart hm.1 ?_)
  show wpAny _ _ (if (!true || !typeHasDict (.type "function")) = true then pure none else (alloc { cls := .type "dict", data := .dict #[] } >>= fun d => update f (fun o => { o with dict := some d }) >>= fun _ => dictMade (.type "function") f d)) _ _ _
  rw [if_neg (by rw [fn_hasDict]; decide)]
  have hlt : f ≠ s.heap.objs.size := Nat.ne_of_lt (Heap.lt_size hm.1)
  have hf2 : (s.heap.push { cls := .type "dict", data := .dict #[] }).get? f = some ⟨.type "function", none, .func fd, osl⟩ := Heap.get?_push_of_some _ hm.1
  refine wpAny_bind (wpAny_alloc (wpAny_bind (wpAny_update hf2 ?_)))
  rw [fn_dictMade]
  refine wpAny_pure ?_
  show wpAny _ _ (nsSet s.heap.objs.size (PySem.Str.ofString "read") v >>= fun _ => lookBehind s.heap.objs.size (some (.str (PySem.Str.ofString "read") 0)) >>= fun _ => ret .none) _ _ _
  have F2 := F.push { cls := .type "dict", data := .dict #[] }
  have N2 := N.push F { cls := .type "dict", data := .dict #[] }
  obtain ⟨F3, N3⟩ := PySem.W.news_upd (f := fun o => { o with dict := some s.heap.objs.size }) (pre := (s.heap.objs.size, { cls := .type "dict", data := .dict #[] }) :: own) F2 N2
    (fun p hp => by rcases List.mem_cons.mp hp with rfl | hp; exact hlt.symm; exact h1 p hp) h2 rfl rfl
  have D3 := N3 (s.heap.objs.size, { cls := .type "dict", data := .dict #[] }) (by simp)
  obtain ⟨U1, U2⟩ := PySem.W.news_upd (f := Obj.putName (PySem.Str.ofString "read") (PyData.keyHash w.params "read") (.str (PySem.Str.ofString "read") (s.toks + 1)) v) (pre := []) (post := own ++ (f, ⟨.type "function", some s.heap.objs.size, .func fd, osl⟩) :: rest) (o := dictOf [] 0) F3 N3
    (fun _ h => nomatch h) (fun p hp => by
      have := N3 p (List.mem_cons_of_mem _ hp)
      rcases List.mem_append.mp hp with hp | hp
      · exact Nat.ne_of_lt (Heap.lt_size (N p (List.mem_append_left _ hp)).1)
      · rcases List.mem_cons.mp hp with rfl | hp
        · exact hlt
        · exact Nat.ne_of_lt (Heap.lt_size (N p (List.mem_append_right _ (.tail _ hp))).1)) (putName_dict _ _ _ _ _ _) rfl
  have D4 := (U2 _ (List.mem_cons_self ..)).1
  refine wpAny_bind ?_
  unfold nsSet
  refine wpAny_bind (wpAny_bind (wpAny_askSetting (wpAny_pure (wpAny_bind (wpAny_mkText (wpAny_bind (wpAny_loadPart D3.1 ?_)))))))
  dsimp only
  have c : aRefKeyMayBeTheName (PySem.Str.ofString "read") #[] = false := by rw [aRefKeyMayBeTheName_at]; simp
  rw [c]
  refine wpAny_updatePart D3.1 ?_
  refine wpAny_bind (wpAny_lookBehind D4 (pastItsLine_dict (by rw [List.size_toArray, sizeLine_eq]; simp [putL])) ?_)
  refine wpAny_pure ⟨_, rfl, ?_⟩
  exact wpAny_pure (h _ _ _ _ U1 (hg _ ▸ U2) (fun p hp => Heap.lt_size (N p hp).1))
end
end
section
theorem fn_lookup_ga : typeLookup (.type "function") "__getattribute__" = pure (some (.builtin "object.__getattribute__")) := by rw [typeLookup_type, builtinLookup_eq_fast]; kernel_rfl
theorem fn_lookup_gattr : typeLookup (.type "function") "__getattr__" = pure none := by rw [typeLookup_type, builtinLookup_eq_fast]; kernel_rfl
theorem slot_fn_ga : Slot "function" "__getattribute__" "object.__getattribute__" :=
  Slot.of (owner := "object") (n := "__getattribute__") fn_lookup_ga (by decide +kernel) (by decide +kernel) (by decide +kernel) (.inl (by decide +kernel)) (by rw [isSubtype_type]; kernel_rfl)
theorem entry_ga : entryFor table "object.__getattribute__" = some Builtin.«object.__getattribute__» := entryFor_of_tree (by kernel_rfl)
theorem ga_args (a b : Value) : argsOk "object.__getattribute__" ⟨[a, b], []⟩ := by unfold argsOk; kernel_rfl
section
variable {prog : Program} {w : World} {A : Around} {E : Value → Shared → Prop} {s : Shared} {h₀ : Heap} {L f d : Addr} {m : Str → Option Value} {news : List (Addr × Obj)} {of od : Obj} {v : Value} {fd : FuncData} {mm : Str → Option Value}
theorem fn_find {M : Model} {h : Heap} (ho : h.get? f = some of) (hc : of.cls = .type "function") (hd : of.dict = some d) (hdat : of.data = .func fd) (hns : h.Ns d mm) (hv : mm "read" = some v) :
    Looks M h (Builtin.ObjectAttr.find (.ref f) (.type "function") "read") (.value v) := by
  intro A Q E s k q
  unfold Builtin.ObjectAttr.find
  rw [fn_lookup_read]
  refine wpAny_bind (wpAny_pure (wpAny_bind (wpAny_pure (wpAny_bind (wpAny_pure ?_)))))
  obtain ⟨oc, odd, odat, osl⟩ := of
  dsimp only at hc hd hdat
  subst hc hd hdat
  refine wpAny_bind (wpAny_bind (wpAny_bind (wpAny_loadPart (k _ _ ho) ?_)))
  refine wpAny_bind (wpAny_loadPart (k _ _ ho) ?_)
  show wpAny _ _ (pure (some d)) _ _ _
  refine wpAny_pure ?_
  refine wpAny_nsGet (hns.keeps k) ?_
  rw [hv]
  exact wpAny_bind (wpAny_rule (wpAny_pure q))
theorem fn_getattr {expr : Bool} {Q : Value → Shared → Prop} (N : News h₀ L s.heap news) (hm : (f, of) ∈ news) (hc : of.cls = .type "function") (hd : of.dict = some d) (hdat : of.data = .func fd) (hmd : (d, od) ∈ news) (hO : LCg.NsObj od mm) (hv : mm "read" = some v) (hh : handedIn v = true)
    (h : Q v { s with toks := s.toks + 1 }) : wpAny (model prog w) A (getAttr (.ref f) "read" expr) Q E s := by
  have ho := (N _ hm).1
  have hns : s.heap.Ns d mm := hO.ns (N _ hmd).1
  have T1 : Looks (model prog w) s.heap (typeOf (.ref f)) (.type "function") := fn_typeOf ho hc
  unfold getAttr getAttrBy
  refine wpAny_bind (wpAny_mkText (wpAny_holding (wpAny_bind (Looks.here (s := { s with toks := s.toks + 1 }) T1 ?_))))
  rw [fn_lookup_ga]
  refine wpAny_bind (wpAny_pure ?_)
  show wpAny _ _ (getAttrByItsOwn (.ref f) (.str (PySem.Str.ofString "read") s.toks) (.type "function") (.builtin "object.__getattribute__") true expr) _ _ _
  unfold getAttrByItsOwn
  refine wpAny_bind (wpAny_pure ?_)
  refine wpAny_bind (wpAny_attempt (wpAny_holding ?_))
  have e1 : callGetattribute (.ref f) (.str (PySem.Str.ofString "read") s.toks) (.builtin "object.__getattribute__") expr = boundAndCalled (.builtin "object.__getattribute__") (.ref f) (.str (PySem.Str.ofString "read") s.toks) := by
    unfold callGetattribute; cases expr <;> rfl
  rw [e1]
  unfold boundAndCalled
  rw [slot_fn_ga.bind]
  refine wpAny_bind (wpAny_pure ?_)
  refine wpAny_call_entry slot_fn_ga ⟨of, ho, hc⟩ entry_ga ?_ (ga_args _ _)
  show wpAny _ _ (do
    let tp ← typeOf (.ref f)
    match ← Builtin.ObjectAttr.find (.ref f) tp (PySem.Str.ofString "read") with
    | .value v => ret v
    | .bind g a => Builtin.ObjectAttr.bindTo g a (.ref f) tp
    | .missing => _) _ _ _
  refine wpAny_bind (Looks.here (s := { s with toks := s.toks + 1 }) T1 ?_)
  refine wpAny_bind (Looks.here (s := { s with toks := s.toks + 1 }) (fn_find ho hc hd hdat hns hv) ?_)
  refine wpAny_pure ⟨v, rfl, ?_⟩
  show wpAny _ _ (handedOut v) _ _ _
  rw [handedOut_of hh]; exact wpAny_pure h
end
section
variable {prog : Program} {w : World} {A : Around} {E : Value → Shared → Prop} {s : Shared} {h₀ : Heap} {L f d : Addr} {m : Str → Option Value} {news : List (Addr × Obj)} {of od : Obj} {v : Value} {fd : FuncData} {mm : Str → Option Value}
theorem fn_getMethod {pl : Sem Bool} {Q : Value × List Value → Shared → Prop} (N : News h₀ L s.heap news) (hm : (f, of) ∈ news) (hc : of.cls = .type "function") (hd : of.dict = some d) (hdat : of.data = .func fd) (hmd : (d, od) ∈ news) (hO : LCg.NsObj od mm) (hv : mm "read" = some v) (hh : handedIn v = true)
    (h : Q (v, []) { s with toks := s.toks + 1 }) : wpAny (model prog w) A (getMethod (.ref f) "read" pl) Q E s := by
  have ho := (N _ hm).1
  have T1 : Looks (model prog w) s.heap (typeOf (.ref f)) (.type "function") := fn_typeOf ho hc
  unfold getMethod
  refine wpAny_bind ?_
  show wpAny _ _ (typeOf (.ref f) >>= fun t => typeLookup t "__getattribute__") _ _ _
  refine wpAny_bind (T1.here ?_)
  rw [fn_lookup_ga]
  refine wpAny_pure ?_
  show wpAny _ _ (if (Manifest.canonical "object.__getattribute__" != "object.__getattribute__") = true then _ else _) _ _ _
  rw [if_neg (by decide +kernel)]
  refine wpAny_bind ?_
  show wpAny _ _ (typeOf (.ref f) >>= fun t => typeLookup t "__getattr__") _ _ _
  refine wpAny_bind (T1.here ?_)
  rw [fn_lookup_gattr]
  refine wpAny_pure ?_
  refine wpAny_bind ?_
  show wpAny _ _ (typeOf (.ref f) >>= fun t => typeLookup t "read") _ _ _
  refine wpAny_bind (T1.here ?_)
  rw [fn_lookup_read]
  refine wpAny_pure ?_
  exact wpAny_bind (fn_getattr N hm hc hd hdat hmd hO hv hh (wpAny_pure h))
end
theorem nsObj_one (hsh : Int) (tn : Tok) (v : Value) (n : Nat) : LCg.NsObj (dictOf [⟨hsh, .str "read" tn, v⟩] n) (fun x => if x = "read" then some v else none) := by
  refine ⟨_, _, rfl, fun e he => ?_, fun name => ?_⟩
  · simp at he; subst he; exact ⟨_, _, rfl⟩
  · unfold nsFind findBy
    rw [← Array.find?_toList]
    by_cases e : name = "read"
    · subst e; simp [Value.isStr]
    · have : (Value.str "read" tn).isStr name = false := by simp [Value.isStr]; exact fun q => e q.symm
      simp [this, e]
end
section
theorem owner_ci : Manifest.owners.lookup (String.ofList ['r', 'o', 't', 'a', 'r', 'e', 't', 'i', '_', 'e', 'l', 'b', 'a', 'l', 'l', 'a', 'c'].reverse) = some Manifest.sig_callable_iterator := by kernel_rfl
theorem slot_ci_next : Slot "callable_iterator" "__next__" "callable_iterator.__next__" :=
  .of (owner := "callable_iterator") (n := "__next__") (by rw [typeLookup_type, builtinLookup_eq_fast]; kernel_rfl) (by decide +kernel) (by decide +kernel) (by decide +kernel)
    (by first | exact .inl (by decide +kernel) | exact .inr (by decide +kernel)) (by rw [isSubtype_type]; kernel_rfl)
theorem entry_ci_next : entryFor table "callable_iterator.__next__" = some Builtin.«callable_iterator.__next__» := entryFor_of_tree (by kernel_rfl)
theorem args_ci_next (a : Value) : argsOk "callable_iterator.__next__" ⟨[a], []⟩ := by
  unfold argsOk; rw [signature?_of (id := "callable_iterator.__next__") (n := ['_', '_', 't', 'x', 'e', 'n', '_', '_']) (o := ['r', 'o', 't', 'a', 'r', 'e', 't', 'i', '_', 'e', 'l', 'b', 'a', 'l', 'l', 'a', 'c']) (by kernel_rfl) owner_ci]; kernel_rfl
theorem slot_ci_iter : Slot "callable_iterator" "__iter__" "callable_iterator.__iter__" :=
  .of (owner := "callable_iterator") (n := "__iter__") (by rw [typeLookup_type, builtinLookup_eq_fast]; kernel_rfl) (by decide +kernel) (by decide +kernel) (by decide +kernel)
    (by first | exact .inl (by decide +kernel) | exact .inr (by decide +kernel)) (by rw [isSubtype_type]; kernel_rfl)
theorem args_ci_iter (a : Value) : argsOk "callable_iterator.__iter__" ⟨[a], []⟩ := by
  unfold argsOk; rw [signature?_of (id := "callable_iterator.__iter__") (n := ['_', '_', 'r', 'e', 't', 'i', '_', '_']) (o := ['r', 'o', 't', 'a', 'r', 'e', 't', 'i', '_', 'e', 'l', 'b', 'a', 'l', 'l', 'a', 'c']) (by kernel_rfl) owner_ci]; kernel_rfl
theorem entry_ci_iter : entryFor table "callable_iterator.__iter__" = some Builtin.«dict_keyiterator.__iter__» :=
  entryFor_alias (id' := "dict_keyiterator.__iter__") (by kernel_rfl) (by first | rfl | decide +kernel | (unfold String.splitOn; simp +decide [String.splitOnAux])) (by decide +kernel) (by kernel_rfl)
theorem iter2_entry : entryFor table "iter" = some Builtin.«iter» := entryFor_of_fast (by kernel_rfl)
theorem iter2_args (a b : Value) : argsOk "iter" ⟨[a, b], []⟩ := by unfold argsOk; kernel_rfl
theorem method_call_slot : typeLookup (.type "method") "__call__" = pure (some (.builtin "method.__call__")) := by rw [typeLookup_type, builtinLookup_eq_fast]; kernel_rfl
abbrev ciEnded : Obj := { cls := .type "callable_iterator", data := .fields #[.none, .none, .bool true] }
def CallR (Q E : Value → Shared → Prop) : Result → Shared → Prop := fun r s' => match r with | .ok (.ret v) => Q v s' | .ok _ => False | .error e => E e s'
abbrev ciObj (q : Addr) (t : Tok) : Obj := { cls := .type "callable_iterator", data := .fields #[.ref q, .str ("" : Str) t, .bool false] }
theorem wpAny_callBorrowed {M : Model} {A : Around} {E : Value → Shared → Prop} {s : Shared} {f : Value} {pos : List Value} {Q : Value → Shared → Prop}
    (hc : codeAny M A (.call f ⟨pos, []⟩) (fun r s' => match r with | .ok (.ret v) => Q v s' | .ok _ => False | .error e => E e s') s) :
    wpAny M A (callBorrowed f pos) Q E s := fun Γ p hΓ => by
  have h1 := hc _ p rfl (hΓ.enter (.call f ⟨pos, []⟩) none p (by intro x; cases x))
  unfold callBorrowed
  rw [Sem.wp_call]
  refine Eq.mp ?_ h1
  congr 1
  funext r s'
  cases r with
  | error e => rfl
  | ok f => cases f <;> rfl
section
variable {prog : Program} {w : World} {A : Around} {E : Value → Shared → Prop} {s : Shared} {h₀ : Heap} {L it q : Addr} {m : Str → Option Value} {news : List (Addr × Obj)} {t : Tok} {fv self : Value}
theorem ci_iter {Q : Value → Shared → Prop} (hit : s.TypeIs (.ref it) "callable_iterator") (h : Q (.ref it) s) : wpAny (model prog w) A (pyIter (.ref it)) Q E s := by
  refine wpAny_pyIter_slot hit slot_ci_iter (wpAny_call_entry slot_ci_iter hit entry_ci_iter ?_ (args_ci_iter _))
  show wpAny _ _ (ret (.ref it)) _ _ s
  exact wpAny_pure ⟨_, rfl, "callable_iterator", _, hit, slot_ci_next.lookup, h⟩
theorem ci_make {Q : Value → Shared → Prop} (F : Fr h₀ L s.heap m) (N : News h₀ L s.heap news) (hq : (q, methodObj fv self) ∈ news)
    (h : ∀ (I : Addr) h', Fr h₀ L h' m → News h₀ L h' ((I, ciObj q t) :: news) → (∀ p ∈ news, @LT.lt Nat _ p.1 I) → Q (.ref I) { s with heap := h' }) :
    wpAny (model prog w) A (call (.builtin "iter") [.ref q, .str ("" : Str) t]) Q E s := by
  refine call_function_entry (by decide +kernel) (by decide +kernel) iter2_entry (iter2_args _ _) ?_
  unfold Builtin.«iter»
  refine wpAny_bind (m := someArgs "iter" 1 2 _) (wpAny_of_eq (a := [Value.ref q, Value.str ("" : Str) t]) (by first | rfl | kernel_rfl!) ?_)
  show wpAny _ _ (specialOf (.ref q) "__call__" >>= _) _ _ _
  refine wpAny_bind (wpAny_specialOf (T := "method") ⟨_, (N _ hq).1, rfl⟩ method_call_slot ?_)
  show wpAny _ _ (rule "iter.sentinel" >>= _) _ _ _
  refine wpAny_bind (wpAny_rule ?_)
  show wpAny _ _ (newObj (.type "callable_iterator") (.fields #[.ref q, .str ("" : Str) t, .bool false]) >>= ret) _ _ _
  refine wpAny_bind (wpAny_newObj_type ?_ (by size_fits))
  exact wpAny_pure ⟨_, rfl, h _ _ (F.push _) (News.push F N _ rfl) (fun q hq => Heap.lt_size (N q hq).1)⟩
theorem borrows_method {Q : Bool → Shared → Prop} {fa : Addr} {fo : Obj} {fd : FuncData} (hq : s.heap.get? q = some (methodObj (.ref fa) self)) (hf : s.heap.get? fa = some fo) (hd : fo.data = .func fd) (h : Q true s) : wpAny (model prog w) A (borrowsExactly (.ref q)) Q E s := by
  unfold borrowsExactly
  refine wpAny_bind (wpAny_load hq ?_)
  show wpAny _ _ (load fa >>= _) _ _ _
  refine wpAny_bind (wpAny_load hf ?_)
  rw [hd]
  exact wpAny_pure h
theorem ci_next {Q : Option Value → Shared → Prop} {fa : Addr} {fo : Obj} {fd : FuncData} (hh : A.handled = none) (hI : s.heap.get? it = some (ciObj q t)) (hq : s.heap.get? q = some (methodObj (.ref fa) self)) (hf : s.heap.get? fa = some fo) (hd : fo.data = .func fd)
    (h : codeAny (model prog w) A.in1 (.call (.ref fa) ⟨[self], []⟩) (CallR (fun v s' => ∃ c tc, v = .str c tc ∧ s'.heap.get? it = some (ciObj q t) ∧ s'.heap.get? q = some (methodObj (.ref fa) self) ∧ s'.heap.get? fa = some fo ∧ ((c == ("" : Str)) = false → Q (some v) s') ∧ ((c == ("" : Str)) = true → ∀ h', h'.get? it = some ciEnded → Heap.ExtBut it s'.heap h' → Q none { s' with heap := h' })) (fun _ _ => False)) s) :
    wpAny (model prog w) A (pyNext (.ref it)) Q E s := by
  unfold pyNext
  refine wpAny_bind (wpAny_attempt (wpAny_callSpecial?_slot (name := Str.ofString "__next__") ⟨_, hI, rfl⟩ slot_ci_next
    (wpAny_call_entry slot_ci_next ⟨_, hI, rfl⟩ entry_ci_next ?_ (args_ci_next _))))
  unfold Builtin.«callable_iterator.__next__»
  refine wpAny_bind (wpAny_of_eq (a := (Value.ref it, [])) rfl ?_)
  try dsimp only
  refine wpAny_bind (wpAny_field hI rfl (x := .bool false) rfl ?_)
  rw [if_neg (show ¬ ((Value.bool false == Value.bool true) = true) from Bool.false_ne_true)]
  refine wpAny_bind (wpAny_field hI rfl (x := .ref q) rfl ?_)
  refine wpAny_bind (wpAny_attempt ?_)
  unfold callOutOfASlot
  refine wpAny_bind (borrows_method hq hf hd ?_)
  rw [if_pos rfl]
  refine wpAny_callBorrowed (method_call hq (codeAny_mono h ?_))
  intro r s1 h1
  cases r with
  | error e => exact absurd h1 id
  | ok f =>
    cases f with
    | ret v =>
      obtain ⟨c, tc, rfl, i1, i2, i3, hn, he⟩ := h1
      show wpAny _ _ (field (.ref it) 2 >>= _) _ _ _
      refine wpAny_bind (wpAny_field i1 rfl (x := .bool false) rfl ?_)
      rw [if_neg (show ¬ ((Value.bool false == Value.bool true) = true) from Bool.false_ne_true)]
      refine wpAny_bind (wpAny_field i1 rfl (x := .str ("" : Str) t) rfl ?_)
      refine wpAny_bind (wpAny_holding (wpAny_eqBool_str ?_))
      by_cases hc : ("" : Str) = c
      · subst hc
        rw [decide_eq_true rfl]
        rw [if_neg (by decide)]
        refine wpAny_bind (wpAny_rule ?_)
        refine wpAny_bind ?_
        show wpAny _ _ (field (.ref it) 0 >>= _) _ _ _
        refine wpAny_bind (wpAny_field i1 rfl (x := .ref q) rfl ?_)
        refine wpAny_bind ?_
        show wpAny _ _ (borrowsExactly (.ref q) >>= _) _ _ _
        refine wpAny_bind (borrows_method i2 i3 hd ?_)
        rw [if_pos rfl]
        refine wpAny_pure ?_
        refine wpAny_bind (wpAny_setField_rec i1 (by simp) fun h2 g2 b2 => ?_)
        refine wpAny_bind (wpAny_setField_rec g2 (by simp) fun h3 g3 b3 => ?_)
        refine wpAny_setField_rec g3 (by simp) fun h4 g4 b4 => ?_
        first
        | show wpAny _ _ (newExc (.type "StopIteration") [] >>= _) _ _ _
        | (refine wpAny_bind ?_; show wpAny _ _ (newExc (.type "StopIteration") [] >>= _) _ _ _)
        refine wpAny_bind ?_
        simp only [newExc, newTuple]
        refine wpAny_bind (wpAny_newObj_type ?_ (by size_fits))
        refine wpAny_bind (m := firstArgMember _ _) (wpAny_of_eq (a := Value.none) (by first | rfl | (simp only [firstArgMember]; rfl)) ?_)
        refine wpAny_newObj_type ?_ (by size_fits)
        simp only [raiseNew]
        refine wpAny_bind (wpAny_handled ?_)
        first | rw [show A.in1.handled = none from hh] | rw [hh]
        refine wpAny_bind (wpAny_pure (wpAny_throw ?_))
        refine wpAny_bind (wpAny_isInstance (T := "StopIteration") (b := true) ⟨_, Heap.get?_push_size _ rfl, rfl⟩ isSubtype_stop ?_)
        exact wpAny_pure (he (beq_self_eq_true _) _ (Heap.get?_push_of_some _ (Heap.get?_push_of_some _ g4)) ((((b2.extBut.trans b3.extBut).trans b4.extBut).push _).push _))
      · rw [decide_eq_false hc, if_pos (by decide)]
        exact wpAny_pure ⟨_, rfl, wpAny_pure (hn (beq_eq_false_iff_ne.mpr (Ne.symm hc)))⟩
    | _ => exact absurd h1 id
theorem ci_ended {Q : Option Value → Shared → Prop} (hh : A.handled = none) (hI : s.heap.get? it = some ciEnded) (h : ∀ h', h'.get? it = some ciEnded → Heap.ExtBut it s.heap h' → Q none { s with heap := h' }) :
    wpAny (model prog w) A (pyNext (.ref it)) Q E s := by
  unfold pyNext
  refine wpAny_bind (wpAny_attempt (wpAny_callSpecial?_slot (name := Str.ofString "__next__") ⟨_, hI, rfl⟩ slot_ci_next
    (wpAny_call_entry slot_ci_next ⟨_, hI, rfl⟩ entry_ci_next ?_ (args_ci_next _))))
  unfold Builtin.«callable_iterator.__next__»
  refine wpAny_bind (wpAny_of_eq (a := (Value.ref it, [])) rfl ?_)
  try dsimp only
  refine wpAny_bind (wpAny_field hI rfl (x := .bool true) rfl ?_)
  rw [if_pos (show ((Value.bool true == Value.bool true) = true) from rfl)]
  refine wpAny_bind (wpAny_rule ?_)
  first
  | show wpAny _ _ (newExc (.type "StopIteration") [] >>= _) _ _ _
  | (refine wpAny_bind ?_; show wpAny _ _ (newExc (.type "StopIteration") [] >>= _) _ _ _)
  refine wpAny_bind ?_
  simp only [newExc, newTuple]
  refine wpAny_bind (wpAny_newObj_type ?_ (by size_fits))
  refine wpAny_bind (m := firstArgMember _ _) (wpAny_of_eq (a := Value.none) (by first | rfl | (simp only [firstArgMember]; rfl)) ?_)
  refine wpAny_newObj_type ?_ (by size_fits)
  simp only [raiseNew]
  refine wpAny_bind (wpAny_handled ?_)
  first | rw [show A.in1.handled = none from hh] | rw [hh]
  refine wpAny_bind (wpAny_pure (wpAny_throw ?_))
  refine wpAny_bind (wpAny_isInstance (T := "StopIteration") (b := true) ⟨_, Heap.get?_push_size _ rfl, rfl⟩ isSubtype_stop ?_)
  exact wpAny_pure (h _ (Heap.get?_push_of_some _ (Heap.get?_push_of_some _ hI)) (((Heap.ExtBut.refl _ _).push _).push _))
end
end
section
section
variable {prog : Program} {w : World} {A : Around} {E : Value → Shared → Prop} {s : Shared} {h₀ : Heap} {L I D : Addr} {m : Str → Option Value} {news : List (Addr × Obj)} {vs : List Value} {ep : Nat}
def LiAt (o : Obj) (D : Addr) (i : Nat) : Prop := o.cls = .type "list_iterator" ∧ o.data = .fields #[.ref D, rawInt (i : Int)]
theorem li_make {Q : Value → Shared → Prop} (F : Fr h₀ L s.heap m) (N : News h₀ L s.heap news) (hl : (D, W.listOf vs.toArray ep) ∈ news)
    (h : ∀ I o h', Fr h₀ L h' m → News h₀ L h' ((I, o) :: news) → LiAt o D 0 → (∀ p ∈ news, @LT.lt Nat _ p.1 I) → Q (.ref I) { s with heap := h' }) :
    wpAny (model prog w) A (pyIter (.ref D)) Q E s :=
  wpAny_pyIter_list (PySem.IsL.isList (n := ep) (N _ hl).1) (h _ _ _ (F.push _) (News.push F N _ rfl) ⟨rfl, rfl⟩ (fun q hq => Heap.lt_size (N q hq).1))
theorem li_item {o : Obj} {i : Nat} {x : Value} {g : Obj → List (Addr × Obj)} {Q : Option Value → Shared → Prop} (F : Fr h₀ L s.heap m) (N : News h₀ L s.heap news) (U : UpdF I o news g) (ho : LiAt o D i)
    (hl : (D, W.listOf vs.toArray ep) ∈ news) (hx : vs[i]? = some x)
    (h : ∀ h' o', Fr h₀ L h' m → News h₀ L h' (g o') → LiAt o' D (i + 1) → Q (some x) { s with heap := h' }) : wpAny (model prog w) A (pyNext (.ref I)) Q E s := by
  obtain ⟨own, rest, rfl, hg, h1, h2⟩ := U.split
  have hm := N (I, o) (List.mem_append_right _ (.head _))
  refine wpAny_pyNext_list_item (i := i) ⟨o, hm.1, ho.1, ho.2⟩ (PySem.IsL.isList (n := ep) (N _ hl).1) (by simpa using hx) fun h' hit hs => ?_
  obtain ⟨o', ho', hc', hd'⟩ := hit
  refine h h' o' ⟨F.ns.sameBut hs (Ne.symm hm.2.1), fun b ob e => (hs.2 b (fun q => ?_)).trans (F.keep b ob e), F.above⟩ (hg o' ▸ N.setAt h1 h2 hs ho') ⟨hc', hd'⟩
  rw [q, hm.2.2] at e; cases e
theorem li_end {o : Obj} {i : Nat} {nx : List (Addr × Obj)} {Q : Option Value → Shared → Prop} (hh : A.handled = none) (F : Fr h₀ L s.heap m) (N : News h₀ L s.heap news) (hm : (I, o) ∈ news) (ho : LiAt o D i)
    (hl : (D, W.listOf vs.toArray ep) ∈ news) (hx : vs.length ≤ i) (hs : ∀ p ∈ nx, p ∈ news) (hne : ∀ p ∈ nx, p.1 ≠ I)
    (h : ∀ h', Fr h₀ L h' m → News h₀ L h' nx → Q none { s with heap := h' }) : wpAny (model prog w) A (pyNext (.ref I)) Q E s := by
  have h3 := N _ hm
  refine wpAny_pyNext_list_end (l := D) (i := i) (items := vs.toArray) hh ⟨o, h3.1, ho.1, ho.2⟩ (PySem.IsL.isList (n := ep) (N _ hl).1) (by simpa using hx) fun h' hx => ?_
  exact h h' (fr_extBut F hx (Ne.symm h3.2.1) h3.2.2) (news_extBut (fun p hp => N p (hs p hp)) hx hne)
open Builtin Builtin.Str in
theorem gives_find_to (x y : Str) (i : Int) (t u v v2 : Tok) : Gives (Builtin.«str.find» ⟨[.str x t, .str y u, .int i v, .int (x.length : Nat) v2], []⟩) (.int (Txt.find3 x y i)) := by
  have e : fromIndex x.length ((x.length : Nat) : Int) = x.length := by unfold fromIndex; rw [if_neg (by omega)]; omega
  show Gives (match occurrences x y (fromIndex x.length i) (min (fromIndex x.length ((x.length : Nat) : Int)) x.length) 1 with | k :: _ => retInt k | [] => (do rule "str.find.not-found"; retInt (-1))) _
  rw [e, Nat.min_self]
  unfold Txt.find3
  cases occurrences x y (fromIndex x.length i) x.length 1 with
  | nil => exact .rule (.of_eq rfl)
  | cons k _ => exact .of_eq rfl
theorem find4 {x y : Str} {t u v v2 : Tok} {i : Int} {Q : Value → Shared → Prop} (hq : Q (.int (Txt.find3 x y i) s.toks) { s with toks := s.toks + 1 }) : wpAny (model prog w) A (call (.builtin "str.find") [.str x t, .str y u, .int i v, .int (x.length : Nat) v2]) Q E s :=
  call_gives F.slot_str_find (typeIs_str _ _ _) F.entry_str_find (F.args_str_find_4 _ _ _ _) (gives_find_to x y i t u v v2) hq
end
end
section
/-- the scan that _ellipsis_match makes over the parts -/
def emScan (G : Str) : List Str → Int → Bool
  | [], _ => true
  | c :: r, p => if Txt.find3 G c p < 0 then false else emScan G r (Txt.find3 G c p + c.length)
/-- is the first list within the second, with gaps? -/
def subL : List Nat → List Nat → Bool
  | [], _ => true
  | _ :: _, [] => false
  | a :: p, b :: g => if a = b then subL p g else subL (a :: p) g
/-- the number of figures, the highest first -/
def valL (p : List Nat) : Nat := numD 2 p.reverse
def bfs (wb : List Nat) : Nat → List (List Nat) → List Nat → Option (List Nat)
  | 0, _, _ => none
  | _ + 1, [], acc => some acc
  | f + 1, p :: q, acc => if subL p wb then bfs wb f (q ++ [p ++ [0], p ++ [1]]) (acc ++ [valL p]) else bfs wb f q acc
abbrev sg1 (c : Nat) : Str := ⟨#[c]⟩
abbrev sgs (l : List Nat) : List Str := l.map sg1
/-- the text of figures -/
def encL (c0 c1 : Nat) (p : List Nat) : Str := ⟨(p.map fun b => if b = 0 then c0 else c1).toArray⟩
/-- three dots ahead of each sign and behind the last -/
def glueL : List Nat → List Nat
  | [] => [46, 46, 46]
  | d :: r => 46 :: 46 :: 46 :: d :: glueL r
theorem glueL_length : ∀ cs : List Nat, (glueL cs).length = 4 * cs.length + 3
  | [] => rfl
  | d :: r => by rw [glueL, List.length_cons, List.length_cons, List.length_cons, List.length_cons, glueL_length r, List.length_cons]; omega
theorem glueL_at : ∀ (cs : List Nat), (∀ c ∈ cs, c ≠ 46) → ∀ k, ((glueL cs).drop k).take 3 = [46, 46, 46] ↔ (k % 4 = 0 ∧ k ≤ 4 * cs.length)
  | [], _, 0 => by simp [glueL]
  | [], _, 1 => by simp [glueL]
  | [], _, 2 => by simp [glueL]
  | [], _, k + 3 => by
    have e : (glueL []).drop (k + 3) = [] := List.drop_eq_nil_of_le (by rw [glueL_length]; simp)
    rw [e]
    simp
  | d :: r, _, 0 => by simp [glueL]
  | d :: r, h, 1 => by
    have := h d (List.mem_cons_self ..)
    simp [glueL, this]
  | d :: r, h, 2 => by
    have := h d (List.mem_cons_self ..)
    cases r <;> simp [glueL, this]
  | d :: r, h, 3 => by
    have := h d (List.mem_cons_self ..)
    cases r <;> simp [glueL, this]
  | d :: r, h, k + 4 => by
    have e : (glueL (d :: r)).drop (k + 4) = (glueL r).drop k := rfl
    rw [e, glueL_at r (fun c hc => h c (List.mem_cons_of_mem _ hc)) k, List.length_cons]
    omega
theorem glueL_sign : ∀ (cs : List Nat) (j : Nat) (h : j < cs.length), ((glueL cs).drop (4 * j + 3)).take 1 = [cs[j]]
  | d :: r, 0, _ => rfl
  | d :: r, j + 1, h => by
    have e : (glueL (d :: r)).drop (4 * (j + 1) + 3) = (glueL r).drop (4 * j + 3) := rfl
    rw [e, glueL_sign r j (by simpa using h)]
    rfl
section
open Builtin Builtin.Str StrLaws
abbrev dots : Str := PySem.Str.ofString "..."
theorem dots_list : dots.cps.toList = [46, 46, 46] := by decide
theorem dots_length : dots.length = 3 := by decide
theorem length_toList (x : Str) : x.length = x.cps.toList.length := rfl
theorem at_glue {X : Str} {cs : List Nat} (hX : X.cps.toList = glueL cs) (h : ∀ c ∈ cs, c ≠ 46) (k : Nat) : At X dots X.length k ↔ (k % 4 = 0 ∧ k ≤ 4 * cs.length) := by
  unfold At
  rw [subAt_eq, dots_length, length_toList, hX, glueL_length, dots_list, beq_iff_eq, glueL_at cs h]
  omega
theorem sub_nil {X : Str} {a : Nat} : strSub X a a = ("" : Str) := by
  apply Str.ext'
  apply Array.toList_inj.mp
  rw [strSub_toList, Nat.sub_self, List.take_zero]
  rfl
theorem sub_one {X : Str} {cs : List Nat} (hX : X.cps.toList = glueL cs) {j : Nat} (h : j < cs.length) : strSub X (4 * j + 3) (4 * j + 4) = sg1 cs[j] := by
  apply Str.ext'
  apply Array.toList_inj.mp
  rw [strSub_toList, hX, show 4 * j + 4 - (4 * j + 3) = 1 by omega, glueL_sign cs j h]
theorem glue_parts {X : Str} {cs : List Nat} (hX : X.cps.toList = glueL cs) (h : ∀ c ∈ cs, c ≠ 46) : ∀ (d j a f : Nat) (cuts : List Nat), j + d = cs.length → a ≤ 4 * j → (∀ i, a ≤ i → i < 4 * j → ¬ At X dots X.length i) →
    ChainG X dots X.length a cuts f → (∀ k, f ≤ k → ¬ At X dots X.length k) → partsFrom X 3 a cuts = strSub X a (4 * j) :: (sgs (cs.drop j) ++ [("" : Str)]) := by
  intro d
  induction d with
  | zero =>
    intro j a f cuts hj ha hno hch hf
    have hAt : At X dots X.length (4 * j) := (at_glue hX h _).mpr ⟨by omega, by omega⟩
    cases cuts with
    | nil =>
      have e : f = a := hch
      exact absurd hAt (hf _ (by omega))
    | cons c r =>
      obtain ⟨h1, h2, h3, h4⟩ := hch
      have hc := (at_glue hX h c).mp h2
      have ec : c = 4 * j := by
        rcases Nat.lt_trichotomy c (4 * j) with q | q | q
        · exact absurd h2 (hno c h1 q)
        · exact q
        · exact absurd hAt (h3 _ ha q)
      subst ec
      rw [partsFrom]
      cases r with
      | nil =>
        rw [partsFrom, List.drop_eq_nil_of_le (by omega)]
        have e : X.length = 4 * j + 3 := by rw [length_toList, hX, glueL_length]; omega
        rw [e, sub_nil]; rfl
      | cons c' r' =>
        obtain ⟨g1, g2, _, _⟩ := h4
        have hc' := (at_glue hX h c').mp g2
        rw [dots_length] at g1
        omega
  | succ d ih =>
    intro j a f cuts hj ha hno hch hf
    have hAt : At X dots X.length (4 * j) := (at_glue hX h _).mpr ⟨by omega, by omega⟩
    cases cuts with
    | nil =>
      have e : f = a := hch
      exact absurd hAt (hf _ (by omega))
    | cons c r =>
      obtain ⟨h1, h2, h3, h4⟩ := hch
      have ec : c = 4 * j := by
        rcases Nat.lt_trichotomy c (4 * j) with q | q | q
        · exact absurd h2 (hno c h1 q)
        · exact q
        · exact absurd hAt (h3 _ ha q)
      subst ec
      rw [dots_length] at h4
      have hjl : j < cs.length := by omega
      rw [partsFrom, ih (j + 1) (4 * j + 3) f r (by omega) (by omega) (fun i h1 h2 hA => by have := (at_glue hX h i).mp hA; omega) h4 hf]
      rw [show 4 * (j + 1) = 4 * j + 4 by omega, sub_one hX hjl, List.drop_eq_getElem_cons hjl]
      rfl
theorem split_glue {X : Str} {cs : List Nat} (hX : X.cps.toList = glueL cs) (h : ∀ c ∈ cs, c ≠ 46) : Txt.split X dots = ("" : Str) :: (sgs cs ++ [("" : Str)]) := by
  have hl : X.length = 4 * cs.length + 3 := by rw [length_toList, hX, glueL_length]
  obtain ⟨f, hch, hf⟩ := occ_tight X dots (by rw [dots_length]; decide)
  have hp := glue_parts hX h cs.length 0 0 f _ (by omega) (by omega) (fun i _ h2 => by omega) hch hf
  unfold Txt.split
  have k1 : (decide (X.length < dots.length) || decide (Builtin.Str.strKind X < Builtin.Str.strKind dots)) = false := by
    rw [dots_length, hl]
    have e : Builtin.Str.strKind dots = 1 := by decide +kernel
    rw [e]
    have : 1 ≤ Builtin.Str.strKind X := by unfold Builtin.Str.strKind; split <;> (try split) <;> decide
    simp; omega
  rw [k1, if_neg Bool.false_ne_true]
  have k2 : (occurrences X dots 0 X.length (X.length + 1)).isEmpty = false := by
    cases hc : occurrences X dots 0 X.length (X.length + 1) with
    | nil =>
      rw [hc] at hch
      have e : f = 0 := hch
      exact absurd ((at_glue hX h 0).mpr ⟨by decide, by omega⟩) (hf 0 (by omega))
    | cons _ _ => rfl
  rw [k2, if_neg Bool.false_ne_true, partsBetween_eq, dots_length, hp, List.drop_zero, Nat.mul_zero, sub_nil]
theorem has_glue {X : Str} {cs : List Nat} (hX : X.cps.toList = glueL cs) (h : ∀ c ∈ cs, c ≠ 46) : (occurrences X dots 0 X.length 1).isEmpty = false := by
  have := (found_iff X dots).mpr ⟨0, (at_glue hX h 0).mpr ⟨by decide, by omega⟩⟩
  simpa using this
theorem join_dots : ∀ (c : Nat) (cs : List Nat), 46 :: 46 :: 46 :: ((Str.join dots (sgs (c :: cs))).cps.toList ++ [46, 46, 46]) = glueL (c :: cs)
  | c, [] => rfl
  | c, d :: r => by
    have e : Str.join dots (sgs (c :: d :: r)) = sg1 c ++ dots ++ Str.join dots (sgs (d :: r)) := rfl
    rw [e, Str.cps_append, Str.cps_append, Array.toList_append, Array.toList_append, dots_list, glueL, ← join_dots d r]
    rfl
theorem glue_text {cs : List Nat} (h : cs ≠ []) : ((dots ++ Txt.join dots (sgs cs)) ++ dots).cps.toList = glueL cs := by
  cases cs with
  | nil => exact absurd rfl h
  | cons c r =>
    rw [← join_dots c r]
    show (((dots ++ glued dots (sgs (c :: r))) ++ dots).cps).toList = _
    rw [glued_eq_join, Str.cps_append, Str.cps_append, Array.toList_append, Array.toList_append, dots_list]
    rfl
theorem find_nil {G : Str} {p : Nat} (h : p ≤ G.length) : Txt.find3 G ("" : Str) (p : Int) = (p : Int) := by
  have e : fromIndex G.length (p : Int) = p := by unfold fromIndex; rw [if_neg (by omega)]; omega
  have hA : At G ("" : Str) G.length p := by
    refine ⟨h, ?_⟩
    rw [subAt_eq]
    show (((G.cps.toList.drop p).take 0) == []) = true
    rw [List.take_zero]; rfl
  unfold Txt.find3
  rw [e]
  rcases occ_head_from G ("" : Str) p 1 (Nat.le_refl 1) with ⟨_, hn⟩ | ⟨k, r, h0, hlo, hk, hn⟩
  · exact absurd hA (hn p (Nat.le_refl _))
  · rw [h0]
    have : k = p := by
      rcases Nat.lt_trichotomy k p with q | q | q
      · omega
      · exact q
      · exact absurd hA (hn p (Nat.le_refl _) q)
    show ((k : Nat) : Int) = _
    rw [this]
theorem subL_nil (l : List Nat) : subL [] l = true := by cases l <;> rfl
theorem subL_none {c : Nat} {r : List Nat} : ∀ {l : List Nat}, c ∉ l → subL (c :: r) l = false
  | [], _ => rfl
  | b :: l, h => by
    rw [subL, if_neg (fun e => h (by rw [e]; exact List.mem_cons_self ..))]
    exact subL_none fun q => h (List.mem_cons_of_mem _ q)
theorem subL_first {c : Nat} {r post : List Nat} : ∀ {pre : List Nat}, c ∉ pre → subL (c :: r) (pre ++ c :: post) = subL r post
  | [], _ => by rw [List.nil_append, subL, if_pos rfl]
  | b :: pre, h => by
    rw [List.cons_append, subL, if_neg (fun e => h (by rw [e]; exact List.mem_cons_self ..))]
    exact subL_first fun q => h (List.mem_cons_of_mem _ q)
theorem getD_list {G : Str} {v : Nat} (h : v < G.cps.toList.length) : G.cps.getD v 0 = G.cps.toList[v] := by
  have h' : v < G.cps.size := by simpa using h
  simp [Array.getD, h']
theorem emScan_sub (G : Str) : ∀ (cs : List Nat) (p : Nat), p ≤ G.length → emScan G (sgs cs ++ [("" : Str)]) (p : Int) = subL cs (G.cps.toList.drop p)
  | [], p, h => by
    rw [subL_nil]
    show emScan G [("" : Str)] (p : Int) = true
    rw [emScan, find_nil h, if_neg (by omega)]; rfl
  | c :: r, p, h => by
    have e : fromIndex G.length (p : Int) = p := by unfold fromIndex; rw [if_neg (by omega)]; omega
    show emScan G (sg1 c :: (sgs r ++ [("" : Str)])) (p : Int) = _
    rw [emScan]
    rcases find3_spec G c (p : Int) with ⟨h1, h2⟩ | ⟨k, h1, h2, h3, h4, h5⟩
    · rw [h1, if_pos (by decide)]
      rw [e] at h2
      refine (subL_none fun hm => ?_).symm
      obtain ⟨i, hi, hi2⟩ := List.mem_iff_getElem.mp hm
      rw [List.getElem_drop] at hi2
      have hi' : p + i < G.cps.toList.length := by rw [List.length_drop] at hi; omega
      refine h2 (p + i) (by omega) hi' ?_
      rw [getD_list hi', hi2]
    · rw [e] at h2 h5
      rw [h1, if_neg (by omega)]
      have hk' : k < G.cps.toList.length := h3
      have e2 : ((k : Nat) : Int) + ((sg1 c).length : Nat) = ((k + 1 : Nat) : Int) := by
        rw [show (sg1 c).length = 1 from rfl]; omega
      rw [e2, emScan_sub G r (k + 1) (by omega)]
      have hsplit : G.cps.toList.drop p = (G.cps.toList.drop p).take (k - p) ++ c :: G.cps.toList.drop (k + 1) := by
        have h6 := List.take_append_drop (k - p) (G.cps.toList.drop p)
        rw [List.drop_drop, show p + (k - p) = k by omega, List.drop_eq_getElem_cons hk'] at h6
        rw [getD_list hk'] at h4
        rw [h4] at h6
        exact h6.symm
      rw [hsplit]
      refine (subL_first fun hm => ?_).symm
      obtain ⟨i, hi, hi2⟩ := List.mem_iff_getElem.mp hm
      rw [List.length_take, List.length_drop] at hi
      rw [List.getElem_take, List.getElem_drop] at hi2
      have hi' : p + i < G.cps.toList.length := by omega
      refine h5 (p + i) (by omega) (by omega) ?_
      rw [getD_list hi', hi2]
theorem emScan_all (G : Str) (cs : List Nat) : emScan G (("" : Str) :: (sgs cs ++ [("" : Str)])) 0 = subL cs G.cps.toList := by
  have h0 := find_nil (G := G) (p := 0) (Nat.zero_le _)
  rw [emScan, show (0 : Int) = ((0 : Nat) : Int) from rfl, h0, if_neg (by decide)]
  have := emScan_sub G cs 0 (Nat.zero_le _)
  rw [List.drop_zero] at this
  exact this
end
theorem rev_text (x : Str) (u : Tok) : (Txt.sliceBy x none none (-1, u)).cps.toList = x.cps.toList.reverse := by
  rw [step_rev_list]
  apply List.ext_getElem
  · simp [length_toList]
  · intro i h1 h2
    rw [List.getElem_map, List.getElem_range, List.getElem_reverse, getD_list (by rw [List.length_reverse] at h2; have := length_toList x; omega)]
    rfl
theorem find_zero (x y : Str) : Txt.find x y = Txt.find3 x y 0 := by
  have e : fromIndex x.length (0 : Int) = 0 := by unfold fromIndex; rw [if_neg (by omega)]; omega
  unfold Txt.find Txt.find3
  rw [e]
  cases Builtin.Str.occurrences x y 0 x.length 1 <;> rfl
theorem find_pair {c0 c1 b : Nat} (h : c0 ≠ c1) (hb : b < 2) : Txt.find (⟨#[c0, c1]⟩ : Str) (sg1 (if b = 0 then c0 else c1)) = ((b : Nat) : Int) := by
  have e : fromIndex (⟨#[c0, c1]⟩ : Str).length (0 : Int) = 0 := by unfold fromIndex; rw [if_neg (by omega)]; omega
  have hl : (⟨#[c0, c1]⟩ : Str).length = 2 := rfl
  rw [find_zero]
  rcases StrLaws.find3_spec (⟨#[c0, c1]⟩ : Str) (if b = 0 then c0 else c1) 0 with ⟨h1, h2⟩ | ⟨k, h1, h2, h3, h4, h5⟩
  · rw [e, hl] at h2
    have hb' : b = 0 ∨ b = 1 := by omega
    rcases hb' with rfl | rfl
    · exact absurd rfl (h2 0 (by decide) (by decide))
    · exact absurd rfl (h2 1 (by decide) (by decide))
  · rw [h1]
    rw [hl] at h3
    have hb' : b = 0 ∨ b = 1 := by omega
    have hk : k = 0 ∨ k = 1 := by omega
    rcases hb' with rfl | rfl <;> rcases hk with rfl | rfl
    · rfl
    · exact absurd h4.symm h
    · exact absurd h4 h
    · rfl
theorem map_getD (l : List Nat) : (List.range l.length).map (fun i => ((l.getD i 0 : Nat) : Int)) = l.map Int.ofNat := by
  apply List.ext_getElem
  · simp
  · intro i h1 h2
    simp only [List.length_map, List.length_range] at h1
    simp [h1]
theorem enc_snoc (c0 c1 b : Nat) (p : List Nat) : encL c0 c1 p ++ sg1 (if b = 0 then c0 else c1) = encL c0 c1 (p ++ [b]) := by
  apply Str.ext'
  apply Array.toList_inj.mp
  rw [Str.cps_append, Array.toList_append]
  simp [encL, sg1]
theorem enc_at {p : List Nat} {f : Nat → Nat} {i cc : Nat} (h : (p.map f)[i]? = some cc) : cc = f (p.getD i 0) ∧ p.getD i 0 ∈ p := by
  rw [List.getElem?_map] at h
  cases hi : p[i]? with
  | none => rw [hi] at h; cases h
  | some b =>
    rw [hi] at h
    have e : p.getD i 0 = b := by rw [List.getD_eq_getElem?_getD, hi]; rfl
    rw [e]
    exact ⟨(Option.some.inj h).symm, List.mem_of_getElem? hi⟩
theorem subL_length : ∀ {p g : List Nat}, subL p g = true → p.length ≤ g.length
  | [], _, _ => Nat.zero_le _
  | _ :: _, [], h => by cases h
  | a :: p, b :: g, h => by
    rw [subL] at h
    split at h
    · exact Nat.succ_le_succ (subL_length h)
    · exact Nat.le_succ_of_le (subL_length h)
theorem off1_mem {D : Addr} : ∀ {l : List (Addr × Obj)}, LCg.Off1 D l → ∀ p ∈ l, p.1 ≠ D
  | [], _, _, h => nomatch h
  | _ :: _, x, p, h => by
    rcases List.mem_cons.mp h with rfl | h
    · exact x.1
    · exact off1_mem x.2 p h
/-- the figures to the base 2, the highest first -/
def msb (n : Nat) : List Nat := (digsN 2 (Builtin.Int.intBits (n : Int)) n).reverse
/-- a numeral's signs, noise behind each -/
def wordL (c0 c1 : Nat) : List Nat → List (List Nat) → List Nat
  | [], _ => []
  | b :: r, nz => (if b = 0 then c0 else c1) :: (nz.headD [] ++ wordL c0 c1 r nz.tail)
def escL : List Nat → List Nat
  | [] => []
  | c :: r => 92 :: c :: escL r
def oneL (c0 c1 : Nat) (nz : List (List Nat)) (n : Nat) : List Nat := 34 :: (escL (wordL c0 c1 (msb n) nz) ++ [34, 32, 92, c1, 32])
def fileL (c0 c1 : Nat) (nz : List (List Nat)) : List Nat → List Nat
  | [] => []
  | n :: r => oneL c0 c1 nz n ++ fileL c0 c1 nz r
theorem join_empty : ∀ ts : List Str, (Txt.join ("" : Str) ts).cps.toList = (ts.map fun u => u.cps.toList).flatten := by
  have h : ∀ ts : List Str, (Str.join ("" : Str) ts).cps.toList = (ts.map fun u => u.cps.toList).flatten := by
    intro ts
    induction ts with
    | nil => rfl
    | cons x r ih =>
      cases r with
      | nil => simp [Str.join]
      | cons y r =>
        have e : Str.join ("" : Str) (x :: y :: r) = x ++ ("" : Str) ++ Str.join ("" : Str) (y :: r) := rfl
        rw [e, Str.cps_append, Str.cps_append, Array.toList_append, Array.toList_append, ih]
        simp
        rfl
  intro ts
  show (Builtin.Str.glued ("" : Str) ts).cps.toList = _
  rw [StrLaws.glued_eq_join, h]
theorem wordL_flat (c0 c1 : Nat) : ∀ (l : List Nat) (nz : List (List Nat)), wordL c0 c1 l nz = ((List.range l.length).map fun i => (if l.getD i 0 = 0 then c0 else c1) :: nz.getD i []).flatten
  | [], _ => rfl
  | b :: r, nz => by
    rw [wordL, wordL_flat c0 c1 r nz.tail, List.length_cons, List.range_succ_eq_map, List.map_cons, List.flatten_cons, List.map_map]
    cases nz with
    | nil => simp [Function.comp_def]
    | cons z nz => simp [Function.comp_def]
theorem word_text {c0 c1 : Nat} {ds : List Nat} {ns : List Str} {k : Nat} (hk : ds.length = k) :
    (Txt.join ("" : Str) ((List.range k).map fun i => sg1 (if ds.getD (k - 1 - i) 0 = 0 then c0 else c1) ++ ns.getD i ("" : Str))).cps.toList = wordL c0 c1 ds.reverse (ns.map fun u => u.cps.toList) := by
  rw [join_empty, wordL_flat, List.length_reverse, hk, List.map_map]
  congr 1
  apply List.map_congr_left
  intro i hi
  have hi' := List.mem_range.mp hi
  have e1 : ds.reverse.getD i 0 = ds.getD (k - 1 - i) 0 := by
    rw [List.getD_eq_getElem?_getD, List.getD_eq_getElem?_getD, List.getElem?_reverse (by omega), hk]
  have e2 : (ns.map fun u => u.cps.toList).getD i [] = (ns.getD i ("" : Str)).cps.toList := by
    rw [List.getD_eq_getElem?_getD, List.getD_eq_getElem?_getD, List.getElem?_map]
    cases ns[i]? <;> rfl
  rw [e1, e2]
  show ((sg1 _ ++ _ : Str).cps).toList = _
  rw [Str.cps_append, Array.toList_append]
  rfl
theorem wordL_length (c0 c1 : Nat) : ∀ (l : List Nat) (nz : List (List Nat)), (∀ z ∈ nz, z.length ≤ 1) → (wordL c0 c1 l nz).length ≤ 2 * l.length
  | [], _, _ => Nat.zero_le _
  | b :: r, nz, h => by
    have := wordL_length c0 c1 r nz.tail (fun z hz => h z (List.mem_of_mem_tail hz))
    rw [wordL, List.length_cons, List.length_append, List.length_cons]
    cases nz with
    | nil => simp at this ⊢; omega
    | cons z nz =>
      have h1 := h z (List.mem_cons_self ..)
      simp at this ⊢; omega
theorem escL_flat : ∀ l : List Nat, escL l = ((List.range l.length).map fun i => [92, l.getD i 0]).flatten
  | [] => rfl
  | c :: r => by
    rw [escL, escL_flat r, List.length_cons, List.range_succ_eq_map, List.map_cons, List.flatten_cons, List.map_map]
    simp [Function.comp_def]
theorem escL_length : ∀ l : List Nat, (escL l).length = 2 * l.length
  | [] => rfl
  | c :: r => by rw [escL, List.length_cons, List.length_cons, escL_length r, List.length_cons]; omega
theorem esc_text {l : List Nat} : (Txt.join ("" : Str) ((List.range l.length).map fun i => ("\\" : Str) ++ sg1 (l.getD i 0))).cps.toList = escL l := by
  rw [join_empty, escL_flat, List.map_map]
  congr 1
theorem sum_le {B : Nat} : ∀ ts : List Str, (∀ u ∈ ts, u.length ≤ B) → (ts.map (·.length)).sum ≤ B * ts.length
  | [], _ => Nat.zero_le _
  | u :: r, h => by
    have h1 := h u (List.mem_cons_self ..)
    have h2 := sum_le r fun v hv => h v (List.mem_cons_of_mem _ hv)
    rw [List.map_cons, List.sum_cons, List.length_cons, Nat.mul_add, Nat.mul_one]; omega
theorem fileL_snoc (c0 c1 : Nat) (nz : List (List Nat)) (o : Nat) : ∀ l : List Nat, fileL c0 c1 nz (l ++ [o]) = fileL c0 c1 nz l ++ oneL c0 c1 nz o
  | [] => by rw [List.nil_append, fileL, fileL, fileL, List.append_nil, List.nil_append]
  | n :: r => by rw [List.cons_append, fileL, fileL, fileL_snoc c0 c1 nz o r, List.append_assoc]
end
section
section
variable {prog : Program} {w : World} {A : Around} {E : Value → Shared → Prop} {s : Shared} {h₀ : Heap} {L D : Addr} {m : Str → Option Value} {news : List (Addr × Obj)} {vs : List Value} {c : Nat}
theorem strs_at : ∀ {ys : List Value} {ts : List Str}, ys.length = ts.length → (∀ (i : Nat) (y : Value), ys[i]? = some y → ∃ (t : Str) (u : Tok), ts[i]? = some t ∧ y = Value.str t u) → StrsAre ys ts
  | [], [], _, _ => .nil
  | [], _ :: _, h, _ => nomatch h
  | _ :: _, [], h, _ => nomatch h
  | y :: ys, t :: ts, hl, h => by
    obtain ⟨t', u, e1, e2⟩ := h 0 y rfl
    have e3 : t = t' := by simpa using e1
    rw [e2, ← e3]
    exact .cons _ _ (strs_at (by simpa using hl) fun i y' hy => h (i + 1) y' (by simpa using hy))
theorem ls_list {x : Str} {t : Tok} {Q : Value → Shared → Prop} (hh : A.handled = none) (F : Fr h₀ L s.heap m) (N : News h₀ L s.heap news)
    (h : ∀ D ys c h' tk, Fr h₀ L h' m → News h₀ L h' ((D, W.listOf (List.toArray ys) c) :: news) → StrsAre ys (sgs x.cps.toList) → (∀ p ∈ news, @LT.lt Nat _ p.1 D) → Q (.ref D) { s with heap := h', toks := tk }) (hsz : x.length ≤ sizeLine) :
    wpAny (model prog w) A (call (.type "list") [.str x t]) Q E s := by
  refine call_list_str hh x t (hn := hsz) fun h' tk acc' c' hk hS' hacc => ?_
  obtain ⟨oL, _, _, hL, _⟩ := F.ns
  refine h s.heap.objs.size acc'.toList c' h' tk (F.keeps hk) (List.forall_mem_cons.mpr ⟨⟨by rw [Array.toArray_toList]; exact hS', Nat.ne_of_gt (Heap.lt_size hL), ?_⟩, fun p hp => ⟨hk _ _ (N p hp).1, (N p hp).2⟩⟩) (strs_at (by simp [hacc.1, sgs]) fun i y hy => ?_) fun p hp => Heap.lt_size (N p hp).1
  · cases e : h₀.get? s.heap.objs.size with
    | none => rfl
    | some o => exact absurd (Heap.lt_size (F.keep _ _ e)) (Nat.lt_irrefl _)
  · obtain ⟨c, u, hc, rfl⟩ := hacc.2 i y (by simpa using hy)
    exact ⟨_, u, by simp [sgs, hc, sg1], rfl⟩
theorem strsAre_l : ∀ {vs : List Value} {ys : List Str}, StrsAre vs ys → ∃ l : List (Str × Tok), strValues l = vs ∧ l.map (·.1) = ys
  | _, _, .nil => ⟨[], rfl, rfl⟩
  | _, _, .cons y t h => by
    obtain ⟨l, e1, e2⟩ := strsAre_l h
    exact ⟨(y, t) :: l, by rw [← e1]; rfl, by rw [← e2]; rfl⟩
theorem joinOk_of (sep : Str) (ts : List Str) (n : Nat) (h : (ts.map (·.length)).sum + ts.length * sep.length ≤ 100000) : JoinOk sep ts = true := by
  unfold JoinOk
  rw [StrLaws.joinTotal]
  unfold Builtin.Str.tooLong
  rw [PySem.sizeLine_eq]
  simp
  omega
theorem join_S {sep : Str} {t : Tok} {ts : List Str} {Q : Value → Shared → Prop} (N : News h₀ L s.heap news) (hm : (D, W.listOf vs.toArray c) ∈ news) (hs : StrsAre vs ts) (hok : (ts.map (·.length)).sum + ts.length * sep.length ≤ 100000)
    (hq : ∀ t' k, Q (.str (Txt.join sep ts) t') { s with toks := k }) : wpAny (model prog w) A (call (.builtin "str.join") [.str sep t, .ref D]) Q E s := by
  obtain ⟨l, e1, e2⟩ := strsAre_l hs
  refine SC.join (l := l) (texts := ts) ?_ e2 (joinOk_of sep ts 0 hok) hq
  rw [e1]
  exact PySem.IsL.isList (n := c) (N _ hm).1
theorem al_lists {a b : Addr} {ws : List Value} {c1 c2 : Nat} {Q : Value → Shared → Prop} (F : Fr h₀ L s.heap m) (N : News h₀ L s.heap news) (ha : (a, W.listOf vs.toArray c1) ∈ news) (hb : (b, W.listOf ws.toArray c2) ∈ news)
    (h : ∀ D h', Fr h₀ L h' m → News h₀ L h' ((D, W.listOf (List.toArray (vs ++ ws)) 0) :: news) → (∀ p ∈ news, @LT.lt Nat _ p.1 D) → Q (.ref D) { s with heap := h' }) (hz : vs.length + ws.length ≤ sizeLine) :
    wpAny (model prog w) A (binaryOp .Add (.ref a) (.ref b)) Q E s :=
  add_lists F N (News.isList N ha) (News.isList N hb) (fun h' F' N' => h _ h' F' N' fun p hp => Heap.lt_size (N p hp).1) hz
end
end
section
section
open LCg
variable {prog : Program} {w : World} {A : Around} {E : Value → Shared → Prop} {s : Shared} {h₀ : Heap} {L : Addr} {m : Str → Option Value} {env : Env} {elt : Expr} {x : Str} {scope : Scope} {cl : List (Str × Addr)} {S : List (Addr × Obj) → Prop} {P : Nat → Value → Prop} {Fin : List Value → List (Addr × Obj) → Prop} {news : List (Addr × Obj)}
/-- a comprehension whose turns leave the ledger as it was: each item is told by Rel -/
theorem cr_rest {n : Nat} (Rel : Nat → Value → Prop)
    (turn : ∀ i v I oI C oC D m₂ ys h tk (E' : Value → Shared → Prop), i < n → P i v → NsObj oC m₂ → m₂ x = some v → Fr h₀ L h m → News h₀ L h ((I, oI) :: (C, oC) :: (D, lst ys) :: news) → Off3 I C D news → ((@Ne Nat I C) ∧ (@Ne Nat I D) ∧ (@Ne Nat C D)) →
      wpAny (model prog w) A (eval elt (compEnvC scope cl C env)) (CompEnd h₀ L m { s with heap := h, toks := tk } I oI C oC D (lst ys) S (fun y news' => news' = news ∧ Rel i y)) E' { s with heap := h, toks := tk })
    (fin : ∀ ys, ys.length = n → (∀ i, i < n → ∃ y, ys[i]? = some y ∧ Rel i y) → Fin ys news) : CompRest prog w A h₀ L m env elt x scope cl s S P Fin n 0 [] news := by
  have key : ∀ (j i : Nat) (ys : List Value), i + j = n → ys.length = i → (∀ k, k < i → ∃ y, ys[k]? = some y ∧ Rel k y) → CompRest prog w A h₀ L m env elt x scope cl s S P Fin j i ys news := by
    intro j
    induction j with
    | zero =>
      intro i ys hi hl hy
      have e : i = n := hi
      subst e
      exact CompRest.zero (fin ys hl hy)
    | succ j ih =>
      intro i ys hi hl hy
      refine CompRest.succ ?_
      intro v I oI C oC D m₂ h tk E' hv hC hx F N off ne
      refine wpAny_mono (turn i v I oI C oC D m₂ ys h tk E' (by omega) hv hC hx F N off ne) (fun y s₂ hq => ?_) fun _ _ e => e
      obtain ⟨h', tk', nw, e, F', N', off', hS, hn, hr⟩ := hq
      subst hn
      refine ⟨h', tk', nw, e, F', N', off', hS, ?_⟩
      refine ih (i + 1) _ (by omega) (by rw [List.length_append, hl]; rfl) fun k hk => ?_
      by_cases hki : k < i
      · obtain ⟨y', e1, e2⟩ := hy k hki
        exact ⟨y', by rw [List.getElem?_append_left (by omega)]; exact e1, e2⟩
      · have e1 : k = i := by omega
        subst e1
        exact ⟨y, by rw [← hl, List.getElem?_append_right (Nat.le_refl _)]; simp, hr⟩
  exact key n 0 [] (by omega) rfl fun _ h => absurd h (Nat.not_lt_zero _)
theorem strs_of : ∀ {ys : List Value} {n : Nat} {g : Nat → Str}, ys.length = n → (∀ i, i < n → ∃ y, ys[i]? = some y ∧ ∃ t, y = .str (g i) t) → StrsAre ys ((List.range n).map g)
  | [], n, g, hl, _ => by
    have e : n = 0 := hl.symm
    subst e
    exact .nil
  | y :: ys, 0, g, hl, _ => by cases hl
  | y :: ys, n + 1, g, hl, h => by
    obtain ⟨y0, e0, t0, e1⟩ := h 0 (by omega)
    have e2 : y = y0 := by simpa using e0
    rw [List.range_succ_eq_map, List.map_cons, List.map_map, e2, e1]
    refine .cons _ _ (strs_of (g := g ∘ Nat.succ) (by simpa using hl) fun i hi => ?_)
    obtain ⟨y', e3, t3, e4⟩ := h (i + 1) (by omega)
    exact ⟨y', by simpa using e3, t3, e4⟩
theorem ints_of : ∀ {ys : List Value} {n : Nat} {g : Nat → Int}, ys.length = n → (∀ i, i < n → ∃ y, ys[i]? = some y ∧ ∃ t, y = .int (g i) t) → IntsAre ys ((List.range n).map g)
  | [], n, g, hl, _ => by
    have e : n = 0 := hl.symm
    subst e
    exact .nil
  | y :: ys, 0, g, hl, _ => by cases hl
  | y :: ys, n + 1, g, hl, h => by
    obtain ⟨y0, e0, t0, e1⟩ := h 0 (by omega)
    have e2 : y = y0 := by simpa using e0
    rw [List.range_succ_eq_map, List.map_cons, List.map_map, e2, e1]
    refine .cons _ _ (ints_of (g := g ∘ Nat.succ) (by simpa using hl) fun i hi => ?_)
    obtain ⟨y', e3, t3, e4⟩ := h (i + 1) (by omega)
    exact ⟨y', by simpa using e3, t3, e4⟩
/-- the source of a comprehension is a text -/
def SrcS (prog : Program) (w : World) (A : Around) (h₀ : Heap) (L : Addr) (m : Str → Option Value) (env : Env) (elt : Expr) (x : Str) (scope : Scope) (cl : List (Str × Addr)) (Fin : Shared → List Value → List (Addr × Obj) → Prop) (xv : Value) (s₁ : Shared) : Prop :=
  ∃ z t news, xv = .str z t ∧ A.handled = none ∧ Fr h₀ L s₁.heap m ∧ News h₀ L s₁.heap news ∧ z.cps.size ≤ sizeLine ∧
    ∀ g : Heap, CompRest prog w A h₀ L m env elt x scope cl { s₁ with heap := g } (fun _ => True) (SignAt z) (Fin { s₁ with heap := g }) z.cps.size 0 [] news
theorem SrcS.of {Fin : Shared → List Value → List (Addr × Obj) → Prop} {z : Str} {t : Tok} {s₁ : Shared} (hh : A.handled = none) (F : Fr h₀ L s₁.heap m) (N : News h₀ L s₁.heap news) (hsz : z.cps.size ≤ sizeLine)
    (h : ∀ g : Heap, CompRest prog w A h₀ L m env elt x scope cl { s₁ with heap := g } (fun _ => True) (SignAt z) (Fin { s₁ with heap := g }) z.cps.size 0 [] news) : SrcS prog w A h₀ L m env elt x scope cl Fin (.str z t) s₁ := ⟨z, t, news, rfl, hh, F, N, hsz, h⟩
theorem strIt_st {I : Addr} {ty : String} {z : Str} {t : Tok} : ∀ i (h h' : Heap) (o : Obj) (nw : List (Addr × Obj)), h.IsStrIter I ty z t i → h.get? I = some o → h'.get? I = some o → (∀ b o, h₀.get? b = some o → h'.get? b = some o) → News h₀ L h' nw → True → h'.IsStrIter I ty z t i :=
  fun i h h' o nw st e e' _ _ _ => by obtain ⟨o', q, r⟩ := st; rw [e] at q; cases q; exact ⟨o, e', r⟩
theorem wpAny_pyIter_strT {z : Str} {t : Tok} {Q : Value → Shared → Prop}
    (hQ : ∀ ty, (∀ A' : Around, A'.handled = none → Walks prog w A' s.heap.objs.size [s.heap.objs.size] [s.heap.objs.size] z.cps.size (SignAt z) (fun i h => h.IsStrIter s.heap.objs.size ty z t i)) → Q (.ref s.heap.objs.size) { s with heap := s.heap.push { cls := .type ty, data := .fields #[.str z t, .int 0 0] } }) :
    wpAny (model prog w) A (pyIter (.str z t)) Q E s := by
  cases ha : z.cps.all (· < 128)
  · exact wpAny_pyIter_wide ha (hQ _ (fun A' hA => Walks.strWide hA _ z t))
  · exact wpAny_pyIter_ascii ha (hQ _ (fun A' hA => Walks.strAscii hA _ z t))
theorem ListComp_S {iter : Expr} {px : Pos} {pos : Pos} {Q : Value → Shared → Prop} (_ : Fr h₀ L s.heap m)
    (hclos : closureFor scope env = pure cl) (hcell : ∀ y ∈ scope.names, y.2 ≠ .cell) (hkind : scope.kind = .function)
    (hnames : ∀ y ∈ scope.names, y.2 = .local → scope.names.lookup y.1 = some .local) (hx : scope.names.lookup x = some .local)
    (h : wpAny (model prog w) A (eval iter env) (SrcS prog w A h₀ L m env elt x scope cl (fun s₂ => FinE h₀ L m s₂ Q)) E s)
    (hs : ∀ x, foldedSetIterable iter env x = pure x := by intro _; rfl) :
    wpAny (model prog w) A (eval (.ListComp elt [⟨.Name x px, iter, [], 0⟩] scope pos) env) Q E s := by
  rw [eval_ListComp]
  refine wpAny_comprehension_free (use := none) rfl hs hclos hkind hnames (wpAny_mono h (fun xv s₁ h₁ => ?_) fun _ _ e => e)
  obtain ⟨z, t, news, rfl, hh, F, N, hsz, R⟩ := h₁
  refine wpAny_pyIter_strT fun ty W => ?_
  have up : ∀ b o, s₁.heap.get? b = some o → (s₁.heap.push { cls := .type ty, data := .fields #[.str z t, .int 0 0] }).get? b = some o := fun b o e => Heap.get?_push_of_some _ e
  refine block_U (W A hh) hsz (fun i h st => by obtain ⟨o, e, _⟩ := st; exact ⟨o, e⟩) strIt_st hcell hkind hx ⟨_, Heap.get?_push_size _ rfl, rfl, rfl⟩ (fun b hb => ?_)
    (F.keeps up) (N.grown up) (Nat.ne_of_lt F.ns.lt) (next_is_new F) (fun p hp => Nat.ne_of_lt (Heap.lt_size (N p hp).1)) trivial (R _) ?_
  · rw [List.mem_singleton.mp hb]
    show s₁.heap.objs.size < (s₁.heap.push _).objs.size
    rw [Heap.size_push]; exact Nat.lt_succ_self _
  · intro D C h tk m' ys news' F' N' o1 hn hC₀ hD₀ hCL hDL hCD offC fin
    refine ⟨m', hn, fun h'' hs'' => fin D h'' tk (F'.change hs'' hCL hC₀) (fun p hp => ?_) o1⟩
    refine ⟨hs''.extBut _ _ ?_ (N' p hp).1, (N' p hp).2⟩
    rcases List.mem_cons.mp hp with rfl | hp
    · exact Ne.symm hCD
    · exact offC p hp
end
end
section
theorem small_range {b : Int} (h : 0 ≤ b) (h2 : b < 2 ^ 62) : Builtin.Range.small 0 b 1 = true := small_one (by omega) (by omega) (by omega) (by omega)
section
variable {prog : Program} {w : World} {A : Around} {E : Value → Shared → Prop} {s : Shared} {h₀ : Heap} {L I : Addr} {m : Str → Option Value} {news : List (Addr × Obj)}
/-- one item off any walked iterator that stands in the ledger -/
theorem wi_item {n i : Nat} {P : Nat → Value → Prop} {St : Nat → Heap → Prop} {StO : Nat → Obj → Prop} {o : Obj} {g : Obj → List (Addr × Obj)} {Q : Option Value → Shared → Prop}
    (W : Walks prog w A I [I] [I] n P St) (hst : ∀ i h, St i h ↔ ∃ o, h.get? I = some o ∧ StO i o) (F : Fr h₀ L s.heap m) (N : News h₀ L s.heap news) (U : UpdF I o news g) (ho : StO i o) (hi : i < n)
    (h : ∀ v o' h' tk, P i v → StO (i + 1) o' → Fr h₀ L h' m → News h₀ L h' (g o') → Q (some v) { s with heap := h', toks := tk }) : wpAny (model prog w) A (pyNext (.ref I)) Q E s := by
  obtain ⟨own, rest, rfl, hg, h1, h2⟩ := U.split
  have hm := N (I, o) (List.mem_append_right _ (.head _))
  refine W.item i s Q E hi ((hst i _).mpr ⟨o, hm.1, ho⟩) fun v h' tk hp hst' hx => ?_
  obtain ⟨o', e', so'⟩ := (hst _ _).mp hst'
  have hx' : Heap.ExtBut I s.heap h' := fun b ob hb e => hx b ob (fun q => hb (List.mem_singleton.mp q)) e
  refine h v o' h' tk hp so' (fr_extBut F hx' (Ne.symm hm.2.1) hm.2.2) ?_
  rw [hg o']
  intro p hp
  rcases List.mem_append.mp hp with hp | hp
  · have n := N p (List.mem_append_left _ hp)
    exact ⟨hx' _ _ (h1 p hp) n.1, n.2⟩
  · rcases List.mem_cons.mp hp with rfl | hp
    · exact ⟨e', hm.2⟩
    · have n := N p (List.mem_append_right _ (.tail _ hp))
      exact ⟨hx' _ _ (h2 p hp) n.1, n.2⟩
theorem wi_end {n : Nat} {P : Nat → Value → Prop} {St : Nat → Heap → Prop} {StO : Nat → Obj → Prop} {o : Obj} {nx : List (Addr × Obj)} {Q : Option Value → Shared → Prop}
    (W : Walks prog w A I [I] [I] n P St) (hst : ∀ i h, St i h ↔ ∃ o, h.get? I = some o ∧ StO i o) (F : Fr h₀ L s.heap m) (N : News h₀ L s.heap news) (hm : (I, o) ∈ news) (ho : StO n o) (hs : ∀ p ∈ nx, p ∈ news) (hne : ∀ p ∈ nx, p.1 ≠ I)
    (h : ∀ h' tk, Fr h₀ L h' m → News h₀ L h' nx → Q none { s with heap := h', toks := tk }) : wpAny (model prog w) A (pyNext (.ref I)) Q E s := by
  have h3 := N _ hm
  refine W.done s Q E ((hst n _).mpr ⟨o, h3.1, ho⟩) fun h' tk hx => ?_
  have hx' : Heap.ExtBut I s.heap h' := fun b ob hb e => hx b ob (fun q => hb (List.mem_singleton.mp q)) e
  exact h h' tk (fr_extBut F hx' (Ne.symm h3.2.1) h3.2.2) (news_extBut (fun p hp => N p (hs p hp)) hx' hne)
theorem ri_st (a : Int) (n : Nat) : ∀ i h, IsRangeIter h I (a + (i : Nat) * 1) ((n : Int) - (i : Nat)) 1 ↔ ∃ o, h.get? I = some o ∧ o = itR (a + (i : Nat)) ((n : Int) - (i : Nat)) := fun i h => by
  rw [Int.mul_one]
  exact ⟨fun q => ⟨_, q, rfl⟩, fun ⟨o, e, q⟩ => by rw [q] at e; exact e⟩
theorem ri_make {r : Addr} {b : Int} {t u v : Tok} {n : Nat} {Q : Value → Shared → Prop} (F : Fr h₀ L s.heap m) (N : News h₀ L s.heap news) (hr : IsRange s.heap r 0 b 1 t u v) (hb : b = (n : Int)) (hn : n < 2 ^ 60)
    (h : ∀ I h', Fr h₀ L h' m → News h₀ L h' ((I, itR 0 (n : Int)) :: news) → (∀ p ∈ news, @LT.lt Nat _ p.1 I) → Q (.ref I) { s with heap := h' }) :
    wpAny (model prog w) A (pyIter (.ref r)) Q E s := by
  subst hb
  refine wpAny_pyIter_range hr (small_range (by omega) (by omega)) ?_
  have e : Builtin.Range.rangeSize 0 (n : Int) 1 = (n : Int) := by rw [rangeSize_nat]; omega
  rw [e]
  exact h _ _ (F.push _) (News.push F N _ rfl) (fun q hq => Heap.lt_size (N q hq).1)
theorem ri_item {n i : Nat} {g : Obj → List (Addr × Obj)} {Q : Option Value → Shared → Prop} (hh : A.handled = none) (F : Fr h₀ L s.heap m) (N : News h₀ L s.heap news) (U : UpdF I (itR (i : Int) ((n : Int) - (i : Nat))) news g) (hi : i < n)
    (h : ∀ h' tk t, Fr h₀ L h' m → News h₀ L h' (g (itR ((i + 1 : Nat) : Int) ((n : Int) - ((i + 1 : Nat) : Int)))) → Q (some (.int (i : Int) t)) { s with heap := h', toks := tk }) : wpAny (model prog w) A (pyNext (.ref I)) Q E s := by
  refine wi_item (i := i) (StO := fun i o => o = itR (0 + (i : Nat)) ((n : Int) - (i : Nat))) (Walks.range hh I 0 1 n) (ri_st 0 n) F N U (by rw [Int.zero_add]) hi ?_
  rintro v o' h' tk ⟨t, rfl⟩ rfl F' N'
  rw [Int.zero_add] at N'
  rw [Int.zero_add, Int.mul_one]
  exact h h' tk t F' N'
theorem ri_end {n : Nat} {nx : List (Addr × Obj)} {Q : Option Value → Shared → Prop} (hh : A.handled = none) (F : Fr h₀ L s.heap m) (N : News h₀ L s.heap news) (hm : (I, itR (n : Int) ((n : Int) - (n : Nat))) ∈ news) (hs : ∀ p ∈ nx, p ∈ news) (hne : ∀ p ∈ nx, p.1 ≠ I)
    (h : ∀ h' tk, Fr h₀ L h' m → News h₀ L h' nx → Q none { s with heap := h', toks := tk }) : wpAny (model prog w) A (pyNext (.ref I)) Q E s :=
  wi_end (StO := fun i o => o = itR (0 + (i : Nat)) ((n : Int) - (i : Nat))) (Walks.range hh I 0 1 n) (ri_st 0 n) F N hm (by rw [Int.zero_add]) hs hne h
/-- the iterator of a text, at its i-th sign -/
def StAt (o : Obj) (z : Str) (i : Nat) : Prop := ∃ (ty : String) (t : Tok), (∀ (prog : Program) (w : World) (A : Around) (I : Addr), A.handled = none → Walks prog w A I [I] [I] z.cps.size (SignAt z) (fun i h => h.IsStrIter I ty z t i)) ∧ o.cls = .type ty ∧ o.data = .fields #[.str z t, .int (i : Int) 0]
theorem st_make {z : Str} {t : Tok} {Q : Value → Shared → Prop} (F : Fr h₀ L s.heap m) (N : News h₀ L s.heap news)
    (h : ∀ I o h', Fr h₀ L h' m → News h₀ L h' ((I, o) :: news) → StAt o z 0 → (∀ p ∈ news, @LT.lt Nat _ p.1 I) → Q (.ref I) { s with heap := h' }) :
    wpAny (model prog w) A (pyIter (.str z t)) Q E s := by
  cases ha : z.cps.all (· < 128)
  · exact wpAny_pyIter_wide ha (h _ _ _ (F.push _) (News.push F N _ rfl) ⟨_, _, fun prog w A I hA => Walks.strWide hA I z t, rfl, rfl⟩ (fun q hq => Heap.lt_size (N q hq).1))
  · exact wpAny_pyIter_ascii ha (h _ _ _ (F.push _) (News.push F N _ rfl) ⟨_, _, fun prog w A I hA => Walks.strAscii hA I z t, rfl, rfl⟩ (fun q hq => Heap.lt_size (N q hq).1))
theorem st_item {z : Str} {i : Nat} {o : Obj} {g : Obj → List (Addr × Obj)} {Q : Option Value → Shared → Prop} (hh : A.handled = none) (F : Fr h₀ L s.heap m) (N : News h₀ L s.heap news) (U : UpdF I o news g) (ho : StAt o z i) (hi : i < z.cps.size)
    (h : ∀ o' h' tk t, Fr h₀ L h' m → News h₀ L h' (g o') → StAt o' z (i + 1) → Q (some (.str ⟨#[z.cps.getD i 0]⟩ t)) { s with heap := h', toks := tk }) : wpAny (model prog w) A (pyNext (.ref I)) Q E s := by
  obtain ⟨ty, t, W, hc, hd⟩ := ho
  refine wi_item (i := i) (StO := fun i o => o.cls = .type ty ∧ o.data = .fields #[.str z t, .int (i : Int) 0]) (W prog w A I hh) (fun i h => ⟨fun ⟨o, e, q⟩ => ⟨o, e, q⟩, fun ⟨o, e, q⟩ => ⟨o, e, q⟩⟩) F N U ⟨hc, hd⟩ hi ?_
  rintro v o' h' tk ⟨c, u, e, rfl⟩ so F' N'
  have e2 : z.cps.getD i 0 = c := by simp [Array.getD_eq_getD_getElem?, e]
  rw [← e2]
  exact h o' h' tk u F' N' ⟨ty, t, W, so.1, so.2⟩
theorem st_end {z : Str} {i : Nat} {o : Obj} {nx : List (Addr × Obj)} {Q : Option Value → Shared → Prop} (hh : A.handled = none) (F : Fr h₀ L s.heap m) (N : News h₀ L s.heap news) (hm : (I, o) ∈ news) (ho : StAt o z i) (hi : i = z.cps.size) (hs : ∀ p ∈ nx, p ∈ news) (hne : ∀ p ∈ nx, p.1 ≠ I)
    (h : ∀ h' tk, Fr h₀ L h' m → News h₀ L h' nx → Q none { s with heap := h', toks := tk }) : wpAny (model prog w) A (pyNext (.ref I)) Q E s := by
  subst hi
  obtain ⟨ty, t, W, hc, hd⟩ := ho
  exact wi_end (StO := fun i o => o.cls = .type ty ∧ o.data = .fields #[.str z t, .int (i : Int) 0]) (W prog w A I hh) (fun i h => ⟨fun ⟨o, e, q⟩ => ⟨o, e, q⟩, fun ⟨o, e, q⟩ => ⟨o, e, q⟩⟩) F N hm ⟨hc, hd⟩ hs hne h
end
end
section
section
variable {prog : Program} {w : World} {A : Around} {E : Value → Shared → Prop} {s : Shared} {h₀ : Heap} {L I : Addr} {m : Str → Option Value} {news : List (Addr × Obj)}
theorem ra_make {r : Addr} {a b : Int} {t u v : Tok} {n : Nat} {Q : Value → Shared → Prop} (F : Fr h₀ L s.heap m) (N : News h₀ L s.heap news) (hr : IsRange s.heap r a b 1 t u v) (ha : 0 ≤ a) (ha2 : a < 2 ^ 30) (hb : b = a + (n : Int)) (hn : n < 2 ^ 30)
    (h : ∀ I h', Fr h₀ L h' m → News h₀ L h' ((I, itR a (n : Int)) :: news) → (∀ p ∈ news, @LT.lt Nat _ p.1 I) → Q (.ref I) { s with heap := h' }) :
    wpAny (model prog w) A (pyIter (.ref r)) Q E s := by
  subst hb
  refine wpAny_pyIter_range hr (small_one (by omega) (by omega) (by omega) (by omega)) ?_
  have e : Builtin.Range.rangeSize a (a + (n : Int)) 1 = (n : Int) := by rw [rangeSize_nat]; omega
  rw [e]
  exact h _ _ (F.push _) (News.push F N _ rfl) (fun q hq => Heap.lt_size (N q hq).1)
theorem ra_item {n i : Nat} {a : Int} {g : Obj → List (Addr × Obj)} {Q : Option Value → Shared → Prop} (hh : A.handled = none) (F : Fr h₀ L s.heap m) (N : News h₀ L s.heap news) (U : UpdF I (itR (a + (i : Nat)) ((n : Int) - (i : Nat))) news g) (hi : i < n)
    (h : ∀ h' tk t, Fr h₀ L h' m → News h₀ L h' (g (itR (a + ((i + 1 : Nat) : Int)) ((n : Int) - ((i + 1 : Nat) : Int)))) → Q (some (.int (a + (i : Nat)) t)) { s with heap := h', toks := tk }) : wpAny (model prog w) A (pyNext (.ref I)) Q E s := by
  refine wi_item (i := i) (StO := fun i o => o = itR (a + (i : Nat)) ((n : Int) - (i : Nat))) (Walks.range hh I a 1 n) (ri_st a n) F N U rfl hi ?_
  rintro v o' h' tk ⟨t, rfl⟩ rfl F' N'
  rw [Int.mul_one]
  exact h h' tk t F' N'
theorem ra_end {n : Nat} {a : Int} {nx : List (Addr × Obj)} {Q : Option Value → Shared → Prop} (hh : A.handled = none) (F : Fr h₀ L s.heap m) (N : News h₀ L s.heap news) (hm : (I, itR (a + (n : Nat)) ((n : Int) - (n : Nat))) ∈ news) (hs : ∀ p ∈ nx, p ∈ news) (hne : ∀ p ∈ nx, p.1 ≠ I)
    (h : ∀ h' tk, Fr h₀ L h' m → News h₀ L h' nx → Q none { s with heap := h', toks := tk }) : wpAny (model prog w) A (pyNext (.ref I)) Q E s :=
  wi_end (StO := fun i o => o = itR (a + (i : Nat)) ((n : Int) - (i : Nat))) (Walks.range hh I a 1 n) (ri_st a n) F N hm rfl hs hne h
end
end
section
section
open LCg
/-- a comprehension over a list of the ledger whose name is a cell (a comprehension within reads it); rows: what the turns have left -/
def TurnC (prog : Program) (w : World) (A : Around) (h₀ : Heap) (L : Addr) (m : Str → Option Value) (env : Env) (elt : Expr) (x : Str) (scope : Scope) (cl : List (Str × Addr)) (s : Shared) (its : Array Value) (news : List (Addr × Obj)) (Inv : Nat → List Value → List (Addr × Obj) → Prop) : Prop :=
  ∀ i v ys rows I oI C oC D c o h tk (E' : Value → Shared → Prop), i < its.size → its[i]? = some v → o.data = .cell (some v) → Inv i ys rows → Fr h₀ L h m → News h₀ L h ((c, o) :: (I, oI) :: (C, oC) :: (D, lst ys) :: (rows ++ news)) → (∀ p ∈ rows ++ news, @Ne Nat p.1 c ∧ @Ne Nat p.1 I ∧ @Ne Nat p.1 C ∧ @Ne Nat p.1 D) →
    wpAny (model prog w) A (eval elt (compEnvC scope ((x, c) :: cl) C env)) (fun y s₂ => ∃ h' tk' rows', s₂ = { s with heap := h', toks := tk' } ∧ Fr h₀ L h' m ∧ News h₀ L h' ((c, o) :: (I, oI) :: (C, oC) :: (D, lst ys) :: (rows' ++ news)) ∧ (∀ p ∈ rows' ++ news, @Ne Nat p.1 c ∧ @Ne Nat p.1 I ∧ @Ne Nat p.1 C ∧ @Ne Nat p.1 D) ∧ Inv (i + 1) (ys ++ [y]) rows') E' { s with heap := h, toks := tk }
def SrcC (prog : Program) (w : World) (A : Around) (h₀ : Heap) (L : Addr) (m : Str → Option Value) (env : Env) (elt : Expr) (x : Str) (scope : Scope) (cl : List (Str × Addr)) (y : Str) (Q : Flow → Shared → Prop) (xv : Value) (s₁ : Shared) : Prop :=
  ∃ ax its k news Inv, xv = .ref ax ∧ A.handled = none ∧ Fr h₀ L s₁.heap m ∧ News h₀ L s₁.heap news ∧ (ax, ({ cls := .type "list", data := .seq its k } : Obj)) ∈ news ∧ its.size ≤ sizeLine ∧ Inv 0 [] [] ∧ (∀ g, TurnC prog w A h₀ L m env elt x scope cl { s₁ with heap := g } its news Inv) ∧
    (∀ D h tk ys rows, Fr h₀ L h (fun z => if z = y then some (.ref D) else m z) → News h₀ L h ((D, lst ys) :: (rows ++ news)) → (∀ p ∈ rows ++ news, @Ne Nat p.1 D) → Inv its.size ys rows → Q .next { s₁ with heap := h, toks := tk })
variable {prog : Program} {w : World} {A : Around} {E : Value → Shared → Prop} {s : Shared} {h₀ : Heap} {L : Addr} {m : Str → Option Value} {env : Env}
theorem newEnv_cell {M : Model} {scope : Scope} {g : Addr} {cl : List (Str × Addr)} {x : Str} {Q : Env → Shared → Prop}
    (hcf : ∀ n, cellsFrom n scope.names cl = (x, n) :: cl) (hpc : ∀ h, pushCells h scope.names = h.push { cls := .type "cell", data := .cell none })
    (hQ : Q { compEnvC scope ((x, s.heap.objs.size + 1) :: cl) s.heap.objs.size env with scope := scope, globals := g } { s with heap := (s.heap.push { cls := .type "dict", data := .dict #[] }).push { cls := .type "cell", data := .cell none } }) :
    wpAny M A (newFunctionEnv scope g cl [] env.qual none .none (some env)) Q E s := by
  simp only [newFunctionEnv, Option.isSome_some, if_true]
  refine wpAny_bind (wpAny_alloc ?_)
  refine wpAny_bind (wpAny_layCells _ (fun name kind cells => by cases hkc : kind == NameKind.cell <;> simp [hkc]) _ _ _ _ ?_)
  rw [hpc, show ({ s with heap := s.heap.push { cls := .type "dict", data := .dict #[] } } : Shared).heap.objs.size = s.heap.objs.size + 1 from Heap.size_push .., hcf]
  exact wpAny_bind (wpAny_pure (wpAny_pure hQ))
theorem Assign_ListComp_C {elt iter : Expr} {x y : Str} {px py : Pos} {scope : Scope} {cl : List (Str × Addr)} {pos spos : Pos} {Q : Flow → Shared → Prop} (_ : Fr h₀ L s.heap m) (hLe : env.locals = L)
    (hsw : swapsWith (.ListComp elt [⟨.Name x px, iter, [], 0⟩] scope pos) (some (.Name y py)) spos.line env = pure true)
    (hclos : closureFor scope env = pure cl) (hcf : ∀ n, cellsFrom n scope.names cl = (x, n) :: cl) (hpc : ∀ h, pushCells h scope.names = h.push { cls := .type "cell", data := .cell none }) (hkind : scope.kind = .function)
    (hnames : ∀ y ∈ scope.names, y.2 = .local → scope.names.lookup y.1 = some .local) (hx : (compEnvC scope [] 0 env).kindOf x = some .cell)
    (hy : env.kindOf y = some .local) (hp : (env.scope.kind == .class || (env.scope.kind == .module && env.locals != env.globals)) = false)
    (h : wpAny (model prog w) A (eval iter env) (SrcC prog w A h₀ L m env elt x scope cl y Q) E s)
    (hs : ∀ x, foldedSetIterable iter env x = pure x := by intro _; rfl) :
    wpAny (model prog w) A (exec (.Assign [.Name y py] (.ListComp elt [⟨.Name x px, iter, [], 0⟩] scope pos) spos) env) Q E s := by
  subst hLe
  rw [exec_Assign_Name_used _ _ _ _ hsw]
  refine wpAny_bind (wpAny_standAt (wpAny_bind ?_))
  show wpAny _ A (do let _ ← comprehension (.ListComp elt [⟨.Name x px, iter, [], 0⟩] scope pos) scope env _ (newList []) false (eval iter env) (some (assign (.Name y py) env))) _ _ s
  refine wpAny_bind (wpAny_mono (wpAny_comprehension_free (use := some (assign (.Name y py) env)) (Q := fun _ s' => Q .next s') rfl hs hclos hkind hnames
    (wpAny_mono h (fun xv s₁ h₁ => ?_) fun _ _ e => e)) (fun _ s' hq => wpAny_pure (wpAny_pure hq)) fun _ _ e => e)
  obtain ⟨ax, its, kl, news, Inv, rfl, hh, F, N, hm, hsz, hI0, turn, fin⟩ := h₁
  have hl : s₁.heap.IsList ax its := ⟨_, (N _ hm).1, rfl, _, rfl⟩
  have hlt : ax < s₁.heap.objs.size := Heap.lt_size (N _ hm).1
  refine wpAny_pyIter_list hl ?_
  refine wpAny_newObj_type (newEnv_cell hcf hpc ?_)
  dsimp only
  generalize hH1 : s₁.heap.push { cls := .type "list_iterator", data := .fields #[.ref ax, .int 0 0] } = H1
  generalize hH2 : H1.push { cls := .type "list", dict := none, data := .seq ([] : List Value).toArray } = H2
  generalize hH3 : H2.push { cls := .type "dict", data := .dict #[] } = H3
  generalize hH4 : H3.push { cls := .type "cell", data := .cell none } = H4
  have z1 : H1.objs.size = s₁.heap.objs.size + 1 := by rw [← hH1, Heap.size_push]
  have z2 : H2.objs.size = s₁.heap.objs.size + 2 := by rw [← hH2, Heap.size_push, z1]
  have z3 : H3.objs.size = s₁.heap.objs.size + 3 := by rw [← hH3, Heap.size_push, z2]
  have up1 : ∀ b o, s₁.heap.get? b = some o → H1.get? b = some o := fun b o e => hH1 ▸ Heap.get?_push_of_some _ e
  have up2 : ∀ b o, H1.get? b = some o → H2.get? b = some o := fun b o e => hH2 ▸ Heap.get?_push_of_some _ e
  have up3 : ∀ b o, H2.get? b = some o → H3.get? b = some o := fun b o e => hH3 ▸ Heap.get?_push_of_some _ e
  have up4 : ∀ b o, H3.get? b = some o → H4.get? b = some o := fun b o e => hH4 ▸ Heap.get?_push_of_some _ e
  obtain ⟨I, hI⟩ : ∃ I, s₁.heap.objs.size = I := ⟨_, rfl⟩
  have hc3 : H3.objs.size = I + 3 := by rw [z3, hI]
  have hc4 : H2.objs.size + 1 = I + 3 := by rw [z2, hI]
  have hC : H2.objs.size = I + 2 := by rw [z2, hI]
  have hD : H1.objs.size = I + 1 := by rw [z1, hI]
  have eI0 : H1.get? s₁.heap.objs.size = some { cls := .type "list_iterator", data := .fields #[.ref ax, .int 0 0] } := hH1 ▸ Heap.get?_push_size _ rfl
  have eD0 : H2.get? H1.objs.size = some { cls := .type "list", dict := none, data := .seq ([] : List Value).toArray } := hH2 ▸ Heap.get?_push_size _ rfl
  have ec0 : H4.get? H3.objs.size = some { cls := .type "cell", data := .cell none } := hH4 ▸ Heap.get?_push_size _ rfl
  have eC0 : H3.Ns H2.objs.size (fun _ => none) := hH3 ▸ Heap.Ns.new H2 (.type "dict")
  rw [hI] at eI0
  rw [hD] at eD0
  rw [hc3] at ec0
  rw [hC] at eC0
  have eI : H4.IsListIter I ax 0 := ⟨_, up4 _ _ (up3 _ _ (up2 _ _ eI0)), rfl, rfl⟩
  have eD : H4.get? (I + 1) = some (lst []) := up4 _ _ (up3 _ _ eD0)
  have eC : H4.Ns (I + 2) (fun _ => none) := eC0.keeps up4
  have ec : H4.IsCell (I + 3) none := ⟨_, ec0, rfl⟩
  have old : ∀ b o, s₁.heap.get? b = some o → H4.get? b = some o := fun b o e => up4 _ _ (up3 _ _ (up2 _ _ (up1 _ _ e)))
  have F4 : Fr h₀ env.locals H4 m := F.keeps old
  have N4 : News h₀ env.locals H4 news := N.grown old
  have off4 : ∀ p ∈ news, @LT.lt Nat _ p.1 I := fun p hp => hI ▸ Heap.lt_size (N p hp).1
  have hL : @LT.lt Nat _ env.locals I := hI ▸ F.ns.lt
  have fresh₀ : ∀ a, @LE.le Nat _ I a → h₀.get? a = none := fun a ha => by
    cases e : h₀.get? a with
    | none => rfl
    | some o' => exact absurd (hI ▸ Heap.lt_size (F.keep a o' e)) (Nat.not_lt.mpr ha)
  have haI : @LT.lt Nat _ ax I := hI ▸ hlt
  clear up1 up2 up3 up4 old eI0 eD0 eC0 ec0
  rw [hc4, hC, hD, hI]
  have hkc : (compEnvC scope ((x, I + 3) :: cl) (I + 2) env).kindOf x = some .cell := hx
  have lkc : (compEnvC scope ((x, I + 3) :: cl) (I + 2) env).cells.lookup x = some (I + 3) := by show List.lookup x ((x, I + 3) :: cl) = _; rw [List.lookup_cons, beq_self_eq_true]
  have nDI : I ≠ I + 1 := by omega
  have nDC : I + 1 ≠ I + 2 := by omega
  have nDc : I + 1 ≠ I + 3 := by omega
  have nIC : I ≠ I + 2 := by omega
  have nIc : I ≠ I + 3 := by omega
  have nCc : I + 2 ≠ I + 3 := by omega
  have nLI : env.locals ≠ I := Nat.ne_of_lt hL
  have nLD : env.locals ≠ I + 1 := by have h : @LT.lt Nat _ env.locals I := hL; exact Nat.ne_of_lt (Nat.lt_succ_of_lt h)
  have nLC : env.locals ≠ I + 2 := by have h : @LT.lt Nat _ env.locals I := hL; exact Nat.ne_of_lt (Nat.lt_succ_of_lt (Nat.lt_succ_of_lt h))
  have nLc : env.locals ≠ I + 3 := by have h : @LT.lt Nat _ env.locals I := hL; exact Nat.ne_of_lt (Nat.lt_succ_of_lt (Nat.lt_succ_of_lt (Nat.lt_succ_of_lt h)))
  have fI := fresh₀ I (Nat.le_refl _)
  have fD := fresh₀ (I + 1) (Nat.le_add_right ..)
  have fC := fresh₀ (I + 2) (Nat.le_add_right ..)
  have fc := fresh₀ (I + 3) (Nat.le_add_right ..)
  have W := Walks.list (prog := prog) (w := w) (A := A) hh I ax (Nat.ne_of_lt haI) its
  have offn : ∀ p ∈ news, @Ne Nat p.1 (I + 3) ∧ @Ne Nat p.1 I ∧ @Ne Nat p.1 (I + 2) ∧ @Ne Nat p.1 (I + 1) := fun p hp => by
    have h : @LT.lt Nat _ p.1 I := off4 p hp
    exact ⟨by omega, by omega, by omega, by omega⟩
  have loop : ∀ s₃ : Shared, s₃ = { s₁ with heap := H4 } →
      codeAny (model prog w) A (.compLoop (.ListComp elt [⟨.Name x px, iter, [], 0⟩] scope pos) 0 (.ref I) (.ref (I + 1)) (compEnvC scope ((x, I + 3) :: cl) (I + 2) env))
        (compPost (model prog w) A E (some (assign (.Name y py) env)) (fun _ s' => Q .next s') (Value.ref (I + 1)) (I + 2)) s₃ := by
    rintro s₃ rfl
    refine codeAny_compLoop_tests
      (fun k s' => ∃ h' tk i ys rows m' cv, s' = { s₁ with heap := h', toks := tk } ∧ i ≤ its.size ∧ k = its.size + 1 - i ∧ ys.length = i ∧ h'.IsListIter I ax i ∧ Fr h₀ env.locals h' m ∧ h'.Ns (I + 2) m' ∧ h'.IsCell (I + 3) cv ∧ News h₀ env.locals h' ((I + 1, lst ys) :: (rows ++ news)) ∧ (∀ p ∈ rows ++ news, @Ne Nat p.1 (I + 3) ∧ @Ne Nat p.1 I ∧ @Ne Nat p.1 (I + 2) ∧ @Ne Nat p.1 (I + 1)) ∧ Inv i ys rows)
      ?_ (its.size + 1) ⟨H4, s₁.toks, 0, [], [], _, _, rfl, Nat.zero_le _, rfl, rfl, eI, F4, eC, ec, List.forall_mem_cons.mpr ⟨⟨eD, Ne.symm nLD, fD⟩, N4⟩, offn, hI0⟩
    rintro k s' ⟨h', tk, i, ys, rows, m', cv, rfl, hi, rfl, hyl, hst, F', hn', hc', N', off', hInv⟩
    have hml : (ax, ({ cls := .type "list", data := .seq its kl } : Obj)) ∈ ((I + 1, lst ys) :: (rows ++ news)) := .tail _ (List.mem_append_right _ hm)
    by_cases hlt2 : i < its.size
    · refine W.item i _ _ _ hlt2 ⟨hst, ⟨_, (N' _ hml).1, rfl, _, rfl⟩⟩ fun v h₂ tk₂ hPv hst₂ hk₂ => ?_
      have kp : ∀ b o, @Ne Nat b I → h'.get? b = some o → h₂.get? b = some o := fun b o hb => hk₂ b o (fun q => hb (List.mem_singleton.mp q))
      have hc₂ : h₂.IsCell (I + 3) cv := by
        obtain ⟨o, e, d⟩ := hc'
        exact ⟨o, kp _ _ (Ne.symm nIc) e, d⟩
      refine wpAny_assign_Name (wpAny_storeName_cell hkind hkc lkc hc₂ fun h₃ hc₃ hs₃ => ?_)
      refine wpAny_tests_nil ?_
      simp only [if_true]
      have kp3 : ∀ b o, @Ne Nat b I → @Ne Nat b (I + 3) → h'.get? b = some o → h₃.get? b = some o := fun b o hb hb3 e => hs₃.extBut b o hb3 (kp b o hb e)
      obtain ⟨oI, heI, hdI⟩ := hst₂.1
      have heI3 : h₃.get? I = some oI := hs₃.extBut _ _ nIc heI
      have hn₃ : h₃.Ns (I + 2) m' := hn'.at' fun o e => kp3 _ o (Ne.symm nIC) nCc e
      obtain ⟨oC, heC, hoC⟩ := ns_obj hn₃
      obtain ⟨oc, hec, hdc⟩ := hc₃
      have F₃ : Fr h₀ env.locals h₃ m := (fr_but F' hk₂ nLI fI).change hs₃ (Ne.symm nLc) fc
      have N₃ : News h₀ env.locals h₃ ((I + 3, oc) :: (I, oI) :: (I + 2, oC) :: (I + 1, lst ys) :: (rows ++ news)) :=
        List.forall_mem_cons.mpr ⟨⟨hec, Ne.symm nLc, fc⟩, List.forall_mem_cons.mpr ⟨⟨heI3, Ne.symm nLI, fI⟩, List.forall_mem_cons.mpr ⟨⟨heC, Ne.symm nLC, fC⟩, List.forall_mem_cons.mpr ⟨⟨kp3 _ _ (Ne.symm nDI) nDc (N' _ (.head _)).1, (N' _ (.head _)).2⟩, fun p hp => ⟨kp3 _ _ (off' p hp).2.1 (off' p hp).1 (N' p (.tail _ hp)).1, (N' p (.tail _ hp)).2⟩⟩⟩⟩⟩
      refine wpAny_mono (turn _ i v ys rows I oI (I + 2) oC (I + 1) (I + 3) oc h₃ _ _ hlt2 hPv hdc hInv F₃ N₃ off') (fun y s₄ h₄ => ?_) fun _ _ e => e
      obtain ⟨h₄, tk₄, rows₄, rfl, F₄, N₄, off₄, Inv₄⟩ := h₄
      have zc := (N₄ _ (.head _)).1
      have zI := (N₄ _ (.tail _ (.head _))).1
      have zC := (N₄ _ (.tail _ (.tail _ (.head _)))).1
      have zD := (N₄ _ (.tail _ (.tail _ (.tail _ (.head _))))).1
      refine append_at (hsz := by show ys.toArray.size ≤ sizeLine; rw [List.size_toArray, hyl]; exact Nat.le_trans hi hsz) zD fun h₅ hs₅ hD₅ => ?_
      refine ⟨its.size + 1 - (i + 1), by omega, h₅, tk₄, i + 1, ys ++ [y], rows₄, _, _, rfl, hlt2, rfl, by rw [List.length_append, List.length_singleton, hyl], ⟨oI, hs₅.extBut _ _ nDI zI, hdI⟩, F₄.change hs₅ (Ne.symm nLD) fD, (hoC.ns zC).sameBut hs₅ (Ne.symm nDC), ⟨oc, hs₅.extBut _ _ (Ne.symm nDc) zc, hdc⟩, List.forall_mem_cons.mpr ⟨⟨hD₅.trans (congrArg some (lst_snoc ys y)), Ne.symm nLD, fD⟩, fun p hp => ⟨hs₅.extBut _ _ (off₄ p hp).2.2.2 (N₄ p (.tail _ (.tail _ (.tail _ (.tail _ hp))))).1, (N₄ p (.tail _ (.tail _ (.tail _ (.tail _ hp))))).2⟩⟩, off₄, Inv₄⟩
    · obtain rfl : i = its.size := Nat.le_antisymm hi (Nat.not_lt.mp hlt2)
      refine W.done _ _ _ ⟨hst, ⟨_, (N' _ hml).1, rfl, _, rfl⟩⟩ fun h₂ tk₂ hk₂ => ?_
      have kp : ∀ b o, @Ne Nat b I → h'.get? b = some o → h₂.get? b = some o := fun b o hb => hk₂ b o (fun q => hb (List.mem_singleton.mp q))
      have F₂ := fr_but F' hk₂ nLI fI
      have N₂ : News h₀ env.locals h₂ ((I + 1, lst ys) :: (rows ++ news)) := List.forall_mem_cons.mpr ⟨⟨kp _ _ (Ne.symm nDI) (N' _ (.head _)).1, (N' _ (.head _)).2⟩, fun p hp => ⟨kp _ _ (off' p hp).2.1 (N' p (.tail _ hp)).1, (N' p (.tail _ hp)).2⟩⟩
      have n₂ := hn'.at' (h' := h₂) fun o e => kp _ o (Ne.symm nIC) e
      show wpAny _ A (assign (.Name y py) env (.ref (I + 1))) _ _ _
      refine wpAny_assign_Name (wpAny_storeName_local hy F₂.ns (fun h₆ hn₆ hs₆ => ?_) hp)
      have hL₀ : h₀.get? env.locals = none := Heap.get?_none_of_le F₂.above
      have F₆ : Fr h₀ env.locals h₆ (fun z => if z = y then some (.ref (I + 1)) else m z) := ⟨hn₆, fun b o e => hs₆.extBut b o (fun q => by rw [q, hL₀] at e; cases e) (F₂.keep b o e), F₂.above⟩
      have N₆ : News h₀ env.locals h₆ ((I + 1, lst ys) :: (rows ++ news)) := fun p hp => ⟨hs₆.extBut _ _ (N₂ p hp).2.1 (N₂ p hp).1, (N₂ p hp).2⟩
      refine ⟨m', n₂.sameBut hs₆ (Ne.symm nLC), fun h'' hs'' => fin (I + 1) h'' _ ys rows (F₆.change hs'' (Ne.symm nLC) fC) (List.forall_mem_cons.mpr ⟨⟨hs''.extBut _ _ nDC (N₆ _ (.head _)).1, (N₆ _ (.head _)).2⟩, fun p hp => ⟨hs''.extBut _ _ (off' p hp).2.2.1 (N₆ p (.tail _ hp)).1, (N₆ p (.tail _ hp)).2⟩⟩) (fun p hp => (off' p hp).2.2.2) hInv⟩
  exact codeAny_compStart_list (loop _ rfl) (W.self 0 _ _ _ ⟨eI, ⟨_, (N4 _ hm).1, rfl, _, rfl⟩⟩ (loop _ rfl))
end
end
section
theorem runs_toks {M : Model} {Γ : PySem.Ctx} {p : Pos} {t : Sem Fin} {fs : List Frame} {s s' : Shared} {e : End} (h : Runs M Γ p t fs s e s') : s.toks ≤ s'.toks := by
  induction h <;> (try simp only [Shared.setGen] at *) <;> first | exact Nat.le_refl _ | assumption | omega
theorem wakes_toks {M : Model} {Γ : PySem.Ctx} {p : Pos} {g : Nat} {r : Resume} {s s' : Shared} {res : GenResult} (h : Wakes M Γ p g r s res s') : s.toks ≤ s'.toks := by
  unfold Wakes at h
  split at h
  · cases h
  · split at h
    · obtain ⟨e₁, s₁, h1, _, _, rfl⟩ := h
      exact (show (s.setGen g GenState.running).toks ≤ s₁.toks from runs_toks h1)
    · rw [h.2]; exact Nat.le_refl _
    · rw [h.2]; exact Nat.le_refl _
  · obtain ⟨e₁, s₁, h1, _, _, rfl⟩ := h
    exact (show (s.setGen g GenState.running).toks ≤ s₁.toks from runs_toks h1)
  · rw [h.2]; exact Nat.le_refl _
  · rw [h.2]; exact Nat.le_refl _
theorem wp_toks {X : Type} {n : Nat} {post : X → Pos → Shared → Prop} {exc : Value → Pos → Shared → Prop} (model : Model) (ctx : PySem.Ctx) (tree : Sem X) (pos : Pos) (sh : Shared)
    (known : Sem.wp model ctx tree post exc pos sh) (hn : n ≤ sh.toks) :
    Sem.wp model ctx tree (fun x p s => post x p s ∧ n ≤ s.toks) (fun x p s => exc x p s ∧ n ≤ s.toks) pos sh := by
  revert known
  induction tree generalizing pos sh with
  | pure x => exact fun h => ⟨h, hn⟩
  | raise v => exact fun h => ⟨h, hn⟩
  | unsupported | finish | yield | fork | await | register => exact id
  | fresh k ih => exact fun h => ih _ _ _ (Nat.le_succ_of_le hn) h
  | rule _ k ih | «at» _ k ih | alloc _ k ih | loadIfAlive _ k ih | point _ k ih | ask k ih | os _ _ k ih | handled _ k ih | newGen _ k ih | stack k ih | thread k ih => exact fun h => ih _ _ _ hn h
  | load a _ k ih | genState a k ih => exact fun ⟨o, ho, h⟩ => ⟨o, ho, ih _ _ _ hn h⟩
  | update a _ f k ih | choose _ _ k ih => exact fun ⟨ha, h⟩ => ⟨ha, ih _ _ _ hn h⟩
  | call c h g l k ih => exact fun ⟨r, s', hr, h⟩ => ⟨r, s', hr, ih _ _ _ (Nat.le_trans hn (runs_toks hr)) h⟩
  | resume g r l k ih => exact fun ⟨res, s', hw, h⟩ => ⟨res, s', hw, ih _ _ _ (Nat.le_trans hn (wakes_toks hw)) h⟩
/-- what a step gives back has no fewer marks than it began with -/
theorem up_toks {α : Type} {M : Model} {A : Around} {t : Sem α} {Q : α → Shared → Prop} {E : Value → Shared → Prop} {s : Shared}
    (h : wpAny M A t (fun a s' => s.toks ≤ s'.toks → Q a s') (fun e s' => s.toks ≤ s'.toks → E e s') s) : wpAny M A t Q E s := fun Γ p hΓ =>
  Sem.wp_mono M Γ t (fun _ _ _ h => h.1 h.2) (fun _ _ _ h => h.1 h.2) p s (wp_toks M Γ t p s (h Γ p hΓ) (Nat.le_refl _))
end
section
/-- the sign's number for the figure d -/
def cd (d : Nat) : Nat := [97, 34, 32, 10].getD d 0
/-- the letter for the figure d -/
def lt4 (d : Nat) : Str := { cps := #[cd d] }
def ulL : List Nat → List Nat
  | [] => []
  | d :: r => 95 :: cd d :: ulL r
theorem ulL_flat : ∀ l : List Nat, ulL l = ((List.range l.length).map fun i => [95, cd (l.getD i 0)]).flatten
  | [] => rfl
  | c :: r => by
    rw [ulL, ulL_flat r, List.length_cons, List.range_succ_eq_map, List.map_cons, List.flatten_cons, List.map_map]
    simp [Function.comp_def]
theorem ulL_length : ∀ l : List Nat, (ulL l).length = 2 * l.length
  | [] => rfl
  | c :: r => by rw [ulL, List.length_cons, List.length_cons, ulL_length r, List.length_cons]; omega
theorem ul_text {l : List Nat} : (Txt.join ("" : Str) ((List.range l.length).map fun i => ("_" : Str) ++ lt4 (l.getD i 0))).cps.toList = ulL l := by
  rw [join_empty, ulL_flat, List.map_map]
  congr 1
theorem sa_item' {vs : List Value} {ws : List Str} (h : StrsAre vs ws) : ∀ (i : Nat) (c : Str), ws[i]? = some c → ∃ t, vs[i]? = some (.str c t) := by
  induction h with
  | nil => intro i c h; simp at h
  | cons y t _ ih =>
    intro i c h
    cases i with
    | zero => simp at h; exact ⟨t, by simp [h]⟩
    | succ i => simp at h; obtain ⟨t', e⟩ := ih i c h; exact ⟨t', by simpa using e⟩
theorem fits4000' {n : Nat} (h : n ≤ 4000) : n ≤ sizeLine := Nat.le_trans h (by rw [PySem.sizeLine_eq]; decide)
theorem haltF {M : Model} {A : Around} {Q E : Value → Shared → Prop} {s : Shared} {f : Nat} {as : List Value} (_ : (f == 124 || f == 49 || f == 105) = true) (h : Halt (wpAny M A (call (.ref f) as) Q E s)) : wpAny M A (call (.ref f) as) Q E s := h
theorem haltEx {M : Model} {A : Around} {E : Value → Shared → Prop} {s : Shared} {Q : Flow → Shared → Prop} {a b c d e r} {env : Env} (h : Halt (wpAny M A (execs (Stmt.For a b c d e :: r) env) Q E s)) : wpAny M A (execs (Stmt.For a b c d e :: r) env) Q E s := h
theorem lt_text {l : List Nat} : (Txt.join ("" : Str) ((List.range l.length).map fun i => lt4 (l.getD i 0))).cps.toList = l.map cd := by
  rw [join_empty, List.map_map]
  have h : ∀ l : List Nat, ((List.range l.length).map fun i => [cd (l.getD i 0)]).flatten = l.map cd := by
    intro l
    induction l with
    | nil => rfl
    | cons c r ih =>
      rw [List.length_cons, List.range_succ_eq_map, List.map_cons, List.flatten_cons, List.map_map, List.map_cons, ← ih]
      simp [Function.comp_def]
  exact h l
end
section
theorem StrsAre.take' : ∀ {vs : List Value} {ts : List Str} (k : Nat), StrsAre vs ts → StrsAre (vs.take k) (ts.take k)
  | _, _, 0, _ => by rw [List.take_zero, List.take_zero]; exact .nil
  | _, _, _ + 1, .nil => .nil
  | _, _, k + 1, .cons y t h => by rw [List.take_succ_cons, List.take_succ_cons]; exact .cons _ _ (StrsAre.take' k h)
theorem sgs_lt (l : List Nat) : ((List.range l.length).map fun i => lt4 (l.getD i 0)) = sgs (l.map cd) := by
  induction l with
  | nil => rfl
  | cons c r ih =>
    rw [List.length_cons, List.range_succ_eq_map, List.map_cons, List.map_map, List.map_cons]
    show lt4 c :: _ = sg1 (cd c) :: sgs (r.map cd)
    rw [← ih]
    rfl
theorem pick_take (vs : List Value) (k : Nat) (hk : k ≤ vs.length) : slicePick vs.toArray none (some (k : Int)) none = (vs.take k).toArray := by
  rw [kmk_pick_nat (a := 0) (b := k) vs.toArray]
  · simp
  · show sliceBounds none (some (k : Int)) none vs.toArray.size = _
    unfold sliceBounds
    simp
    omega
theorem slice_to {x : Str} {k : Nat} (hk : k ≤ x.length) : (Txt.slice x none (some (k : Int))).cps.toList = x.cps.toList.take k := by
  have h := slice_closes_toL (x := x) (j := (k : Int)) (by omega) (by omega)
  rw [eq_of_beq h]
  simp
theorem haltLn {M : Model} {A : Around} {Q E : Value → Shared → Prop} {s : Shared} {a : Addr} (h : Halt (wpAny M A (call (.builtin "len") [.ref a]) Q E s)) : wpAny M A (call (.builtin "len") [.ref a]) Q E s := h
end
section
example : (hd1.heap_39 = hd1.heap_39) ∧ PySem.Challenge.rw_pg0212_02 = PySem.Challenge.rw_pg0212_02 := by
  w_top off
  k_fill
  exact ⟨rfl, rfl⟩
local macro_rules | `(tactic| omega) => `(tactic| law_purse 20000 => (law_clear; lia))
local macro_rules | `(tactic| k_ne) => `(tactic| first | exact ne_newer (by assumption) (by k_mem) | exact ne_older (by assumption) (by k_mem))
local macro_rules | `(tactic| k_lt $h:ident) => `(tactic| (have $h := allLt_of $h; simp only [AllLt, and_true] at $h:ident))
local macro_rules | `(tactic| k_all) => `(tactic| first | assumption | (refine rest_ne (by assumption) ?_; (try dsimp only); omega))
local macro_rules | `(tactic| k_room) => `(tactic| ktr_room)
local macro_rules | `(tactic| k_enter) => `(tactic| cell_enter)
local macro_rules | `(tactic| size_fits) => `(tactic| first | assumption | (simp only [List.size_toArray, PySem.sizeLine_eq]; omega))
local macro_rules | `(tactic| walk_at "ite") => `(tactic| (k_here; first
  | refine ite_pos (by (try simp only [beq_iff_eq, bne_iff_ne, ne_eq, decide_eq_true_eq]); omega) ?_
  | refine ite_neg (by (try simp only [beq_iff_eq, bne_iff_ne, ne_eq, decide_eq_true_eq]); omega) ?_))
local macro_rules | `(tactic| walk_at "execs cons") => `(tactic| ((with_reducible refine wpAny_execs_cons ?_); (try dsimp only); (try k_fold)))
section
local macro_rules | `(tactic| walk_at "eval Name") => `(tactic| ((with_reducible show wpAny _ _ (eval (Expr.Name (Str.ofString "signs") _) _) _ _ _); k_dflt (refine' nameX_F ?N ?c ?m ?d ?_ ?a ?b; (case a => exact rfl); (case b => exact rfl); (case N => k_asm); (case c => exact rfl); (case m => k_mem); (case d => k_asm); k_whole)))
local macro_rules | `(tactic| walk_at "call builtin:len") => `(tactic| (k_here; (with_reducible show wpAny _ _ (call (Value.builtin "len") [Value.ref _]) _ _ _); k_dflt (refine' KM.len_K (n := List.length _) ?N ?m ?s ?f ?_; (case N => k_asm); (case m => k_mem); (case s => exact List.size_toArray ..); (case f => (simp only [List.length_cons, List.length_nil, List.length_append] at *; omega)); k_whole)))
local macro_rules | `(tactic| walk_at "call builtin:list.pop") => `(tactic| (k_here; (with_reducible show wpAny _ _ (call (Value.builtin _) [Value.ref _, Value.int _ _]) _ _ _); k_dflt (refine' kl_popAt (k := 0) (p := []) ?F ?N ?f ?k ?e ?U ?z ?_; (case F => k_asm); (case N => k_asm); (case U => k_upd); (case f => rfl); (case k => (simp [seqIndex?] <;> omega)); (case e => rfl); (case z => (simp only [PySem.sizeLine_eq, List.length_cons] at *; omega))); intro h' F' N'; (try dsimp only [List.nil_append, List.cons_append] at N')))
theorem read_spec {w : World} {mg mb : Str → Option Value} {p : Program} {loose : List Str} {mean : ExcName → Option Value} {dp un : Nat} {gd : Option (List Code)} {cn : Str} {cs : Scope} {a : Addr} {ccd : Value} {cl : List (Str × Addr)} {outer : List Env} {A₀ : Around} {base h₀ : Heap} {L : Addr} {m : Str → Option Value} {s : Shared} {Q E : Value → Shared → Prop} {x dx pb dS fS r cr cS S : Addr} {oc oS : Obj} {ocv : Array Value} {toc : Tok} {fd : FuncData} {nm qu : Str} {ps : Arguments} {bd : List Stmt} {sc : Scope} {dc pm ct : Value} {ln : Int} {n1 n2 n3 n4 n5 n6 n7 : Tok} {pd vs : List Value} {ep ep2 : Nat} {wsp : Str} {rest : List (Addr × Obj)} {tc : Tok}
  (B : Below A₀ base outer h₀) (F : Fr h₀ L s.heap m) (X : (hd1.heap_39 w.params).In h₀) (N : News h₀ L s.heap ((pb, W.listOf (pd).toArray ep) :: (x, instObj 59 dx) :: (dx, (dictOf [{ hash := PyData.keyHash w.params ("lineno" : Str), key := .str ("lineno" : Str) n1, val := .int ln n5 }, { hash := PyData.keyHash w.params ("instream" : Str), key := .str ("instream" : Str) n2, val := .ref fS }, { hash := PyData.keyHash w.params ("whitespace" : Str), key := .str ("whitespace" : Str) n3, val := .str wsp n6 }, { hash := PyData.keyHash w.params ("pushback" : Str), key := .str ("pushback" : Str) n4, val := .ref pb }] 4)) :: (dS, dictOf [{ hash := PyData.keyHash w.params ("read" : Str), key := .str ("read" : Str) n7, val := .ref r }] 1) :: (fS, ({ cls := .type "function", dict := some dS, data := .func fd } : Obj)) :: (r, fnMade nm qu ps bd sc [(("signs" : Str), cS)] dc pm cr ct) :: (cr, oc) :: (cS, oS) :: (S, W.listOf (vs).toArray ep2) :: rest)) (T : Top p loose mean mg mb h₀) (hk : cs.kind = .function) (hd : dp + 40 < recursionLimit) (hu : un + 320 < cLine)
  (hnd : nested PySem.Challenge.pw_pg0212_02 17 1 = some (nm, ps, bd, sc)) (hoc : oc.data = .fields ocv) (hoc1 : ocv[1]? = some (.str qu toc)) (hoS : oS.data = .cell (some (.ref S)))
  (o1 : @LT.lt Nat _ cS S) (o2 : @LT.lt Nat _ S r ∧ @Ne Nat cr S) (o3 : @LT.lt Nat _ cr r) (o4 : @LT.lt Nat _ r fS) (o5 : @LT.lt Nat _ fS dS) (o6 : @LT.lt Nat _ dS dx) (o7 : @LT.lt Nat _ dx x) (o8 : @LT.lt Nat _ x pb)
  (q1 : ∀ p ∈ rest, p.1 ≠ S) (q2 : ∀ p ∈ rest, p.1 ≠ dx) (q3 : ∀ p ∈ rest, p.1 ≠ pb)
  (hlen : vs.length ≤ 4000)  (ret : ∀ ep' h' tk' tr, Fr h₀ L h' m → News h₀ L h' ((pb, W.listOf (pd).toArray ep) :: (x, instObj 59 dx) :: (dx, (dictOf [{ hash := PyData.keyHash w.params ("lineno" : Str), key := .str ("lineno" : Str) n1, val := .int ln n5 }, { hash := PyData.keyHash w.params ("instream" : Str), key := .str ("instream" : Str) n2, val := .ref fS }, { hash := PyData.keyHash w.params ("whitespace" : Str), key := .str ("whitespace" : Str) n3, val := .str wsp n6 }, { hash := PyData.keyHash w.params ("pushback" : Str), key := .str ("pushback" : Str) n4, val := .ref pb }] 4)) :: (dS, dictOf [{ hash := PyData.keyHash w.params ("read" : Str), key := .str ("read" : Str) n7, val := .ref r }] 1) :: (fS, ({ cls := .type "function", dict := some dS, data := .func fd } : Obj)) :: (r, fnMade nm qu ps bd sc [(("signs" : Str), cS)] dc pm cr ct) :: (cr, oc) :: (cS, oS) :: (S, W.listOf (vs.tail).toArray ep') :: rest) → Q (vs.headD (.str ("" : Str) tr)) { s with heap := h', toks := tk' }) :
  wpAny (model PySem.Challenge.pw_pg0212_02 w) (ktrTop dp un gd cn cs L a ccd cl outer) (call (.ref r) [.int 1 tc]) Q E s := by
  cases hnd
  refine wpAny_call ?_
  k_dflt (refine' code_nest ?k1 ?k2 ?k3 ?k4 ?k5 ?kA ?kF ?kK ?k6 ?k7 ?k8 ?k9 ?kB ?_ ?c2 ?c3 ?c4 ?c5; (case kA => exact rfl); (case kF => exact rfl); (case kK => first | assumption | exact rfl); (case k1 => k_asm); (case k2 => k_asm); (case k3 => k_asm); (case k4 => k_asm); (case k5 => k_asm); (case k6 => k_mem); (case k7 => exact codeRec_news (by k_asm) (by k_mem) (by assumption) (by assumption)); (case k8 => ktr_room); (case k9 => exact BindsTo.of_eq rfl); (case c5 => decide); (case kB => exact locs rfl); (case c2 => exact rfl); (case c3 => exact rfl); (case c4 => exact rfl); k_whole; intro g' L' h' FG' F' N' B' X' T'; (try dsimp only); (try k_lift B'); (try k_fold))
  cases vs
  case nil =>
    k_steps
    exact ret _ _ _ _ (by k_asm) (by k_asm)
  case cons =>
    k_steps
    · exact ret _ _ _ (0 : Nat) (by k_asm) (by k_asm)
    · exact absurd (Int.natCast_pos.mpr (Nat.succ_pos _)) ‹¬ (0:Int) < _›
end
section
local macro_rules | `(tactic| walk_at "zzpad") => `(tactic| skip)
inductive SgA : List Value → List Str → Prop
  | nil : SgA [] []
  | cons {t : Tok} {c : Str} {vs : List Value} {ws : List Str} : SgA vs ws → SgA (.str c t :: vs) (c :: ws)
theorem SgA.length {vs : List Value} {ws : List Str} (h : SgA vs ws) : vs.length = ws.length := by
  induction h with
  | nil => rfl
  | cons _ ih => rw [List.length_cons, List.length_cons, ih]
theorem SgA.head {vs : List Value} {ws : List Str} (h : SgA vs ws) (tr : Tok) : ∃ t, vs.headD (.str ("" : Str) tr) = .str (ws.headD ("" : Str)) t := by
  cases h with
  | nil => exact ⟨tr, rfl⟩
  | cons _ => exact ⟨_, rfl⟩
theorem SgA.tail {vs : List Value} {ws : List Str} (h : SgA vs ws) : SgA vs.tail ws.tail := by
  cases h with
  | nil => exact .nil
  | cons h => exact h
local macro_rules | `(tactic| walk_at "getMethod ref") => `(tactic| (k_here; (with_reducible show wpAny _ _ (getMethod (Value.ref _) (PySem.Str.ofString "read") _) _ _ _); k_dflt (refine' fn_getMethod ?N ?m1 ?r1 ?r2 ?r3 ?m2 ?r4 ?r5 ?r6 ?_; (case N => k_asm); (case m1 => k_mem); (case r1 => rfl); (case r2 => rfl); (case r3 => rfl); (case m2 => k_mem); (case r4 => exact nsObj_one _ _ _ _); (case r5 => rfl); (case r6 => rfl)); (try dsimp only)))
local macro_rules | `(tactic| walk_at "callWith ref") => `(tactic| (k_here; k_dflt (first
  | (refine' callWith_F ?k1 ?_; (case k1 => exact FnAt.of (by k_asm) (by k_mem)); k_whole)
  | (refine' callWith_F0 ?k1 ?_; (case k1 => exact FnAt.of (by k_asm) (by k_mem)); k_whole; try dsimp only [List.nil_append, List.cons_append]))))
local macro_rules | `(tactic| walk_at "call ref") => `(tactic| with_reducible refine haltCI ?_)
theorem rc_code {w : World} {mg mb : Str → Option Value} {p : Program} {loose : List Str} {mean : ExcName → Option Value} {dp un : Nat} {gd : Option (List Code)} {cn : Str} {cs : Scope} {a : Addr} {ccd : Value} {cl : List (Str × Addr)} {outer : List Env} {A₀ : Around} {base h₀ : Heap} {L : Addr} {m : Str → Option Value} {s : Shared} {Q E : Value → Shared → Prop} {x dx pb dS fS r cr cS S : Addr} {oc oS : Obj} {ocv : Array Value} {toc : Tok} {fd : FuncData} {nm qu : Str} {ps : Arguments} {bd : List Stmt} {sc : Scope} {dc pm ct : Value} {ln : Int} {n1 n2 n3 n4 n5 n6 n7 : Tok} {pd vs : List Value} {ep ep2 : Nat} {wsp : Str} {rest : List (Addr × Obj)} {ws : List Str}
  (B : Below A₀ base outer h₀) (F : Fr h₀ L s.heap m) (X : (hd1.heap_39 w.params).In h₀) (N : News h₀ L s.heap ((pb, W.listOf (pd).toArray ep) :: (x, instObj 59 dx) :: (dx, (dictOf [{ hash := PyData.keyHash w.params ("lineno" : Str), key := .str ("lineno" : Str) n1, val := .int ln n5 }, { hash := PyData.keyHash w.params ("instream" : Str), key := .str ("instream" : Str) n2, val := .ref fS }, { hash := PyData.keyHash w.params ("whitespace" : Str), key := .str ("whitespace" : Str) n3, val := .str wsp n6 }, { hash := PyData.keyHash w.params ("pushback" : Str), key := .str ("pushback" : Str) n4, val := .ref pb }] 4)) :: (dS, dictOf [{ hash := PyData.keyHash w.params ("read" : Str), key := .str ("read" : Str) n7, val := .ref r }] 1) :: (fS, ({ cls := .type "function", dict := some dS, data := .func fd } : Obj)) :: (r, fnMade nm qu ps bd sc [(("signs" : Str), cS)] dc pm cr ct) :: (cr, oc) :: (cS, oS) :: (S, W.listOf (vs).toArray ep2) :: rest)) (T : Top p loose mean mg mb h₀) (hk : cs.kind = .function) (hd : dp + 50 < recursionLimit) (hu : un + 360 < cLine)
  (hnd : nested PySem.Challenge.pw_pg0212_02 17 1 = some (nm, ps, bd, sc)) (hoc : oc.data = .fields ocv) (hoc1 : ocv[1]? = some (.str qu toc)) (hoS : oS.data = .cell (some (.ref S)))
  (o1 : @LT.lt Nat _ cS S) (o2 : @LT.lt Nat _ S r ∧ @Ne Nat cr S) (o3 : @LT.lt Nat _ cr r) (o4 : @LT.lt Nat _ r fS) (o5 : @LT.lt Nat _ fS dS) (o6 : @LT.lt Nat _ dS dx) (o7 : @LT.lt Nat _ dx x) (o8 : @LT.lt Nat _ x pb)
  (q1 : ∀ p ∈ rest, p.1 ≠ S) (q2 : ∀ p ∈ rest, p.1 ≠ dx) (q3 : ∀ p ∈ rest, p.1 ≠ pb)
  (hsg : SgA vs ws) (hlen : vs.length ≤ 4000)  (ret : ∀ vs' ln' n5' ep' h' tk' tr, Fr h₀ L h' m → News h₀ L h' ((pb, W.listOf (pd).toArray ep) :: (x, instObj 59 dx) :: (dx, (dictOf [{ hash := PyData.keyHash w.params ("lineno" : Str), key := .str ("lineno" : Str) n1, val := .int ln' n5' }, { hash := PyData.keyHash w.params ("instream" : Str), key := .str ("instream" : Str) n2, val := .ref fS }, { hash := PyData.keyHash w.params ("whitespace" : Str), key := .str ("whitespace" : Str) n3, val := .str wsp n6 }, { hash := PyData.keyHash w.params ("pushback" : Str), key := .str ("pushback" : Str) n4, val := .ref pb }] 4)) :: (dS, dictOf [{ hash := PyData.keyHash w.params ("read" : Str), key := .str ("read" : Str) n7, val := .ref r }] 1) :: (fS, ({ cls := .type "function", dict := some dS, data := .func fd } : Obj)) :: (r, fnMade nm qu ps bd sc [(("signs" : Str), cS)] dc pm cr ct) :: (cr, oc) :: (cS, oS) :: (S, W.listOf (vs').toArray ep') :: rest) → SgA vs' ws.tail → Q (.str (ws.headD ("" : Str)) tr) { s with heap := h', toks := tk' }) :
  codeAny (model PySem.Challenge.pw_pg0212_02 w) (ktrTop dp un gd cn cs L a ccd cl outer) (.call (.ref 42) ⟨[.ref x], []⟩) (CallR Q E) s := by
  k_dflt (first
  | cell_enter
  | (refine' code_def ?k1 ?k2 ?k3 ?k4 ?k5 ?kA ?kF ?kK ?k6 ?k7 ?k8 ?k9 ?kB ?_ ?c2 ?c3 ?c4 ?c5; (case kA => exact rfl); (case kF => exact rfl); (case kK => first | assumption | exact rfl); (case k1 => k_asm); (case k2 => k_asm); (case k3 => k_asm); (case k4 => k_asm); (case k5 => k_asm); (case k6 => k_is); (case k7 => k_is); (case k8 => ktr_room); (case k9 => first | exact BindsTo.of_eq rfl | exact binds_K (by k_in) rfl (by k_is) rfl rfl rfl | fail "k_enter: no rule for these arguments"); (case c5 => decide); (case kB => exact locs rfl); (case c2 => exact rfl); (case c3 => exact rfl); (case c4 => exact rfl); k_whole; intro g' L' h' FG' F' N' B' X' T'; (try dsimp only); (try k_lift B'); (try k_fold))
  | (refine' code_defC ?k1 ?k2 ?k3 ?k4 ?k5 ?kA ?kF ?kK ?k6 ?k7 ?k8 ?k9 ?kB ?kD ?_ ?c2 ?c3 ?c4; (case kA => exact rfl); (case kF => exact rfl); (case kK => first | assumption | exact rfl); (case k1 => k_asm); (case k2 => k_asm); (case k3 => k_asm); (case k4 => k_asm); (case k5 => k_asm); (case k6 => k_is); (case k7 => k_is); (case k8 => ktr_room); (case k9 => first | exact BindsTo.of_eq rfl | exact binds_K (by k_in) rfl (by k_is) rfl rfl rfl | fail "k_enter: no rule for these arguments"); (case kB => exact rfl); (case kD => decide +kernel); (case c2 => exact rfl); (case c3 => exact rfl); (case c4 => exact rfl); k_whole; intro g9 L9 h9 tk9 cells9 FG9 F9 N9 Y9 B9 X9 T9 l9; (try k_lt l9); k_cells Y9; (try simp only [List.cons_append, List.nil_append] at N9); (try dsimp only); (try k_lift B9); (try k_fold)))
  k_steps
  unfold Halt
  refine' read_spec ?B ?F ?X ?N ?T ?hk ?hd ?hu hnd hoc hoc1 hoS o1 o2 o3 o4 o5 o6 o7 o8 q1 q2 q3 ?hl ?ret
  (case B => k_asm)
  (case F => k_asm)
  (case X => k_asm)
  (case N => k_asm)
  (case T => k_asm)
  (case hk => rfl)
  (case hd => simp only [recursionLimit] at *; omega)
  (case hu => simp only [cLine_is] at *; omega)
  (case hl => omega)
  intro ep' h' tk' tr F' N'
  obtain ⟨te, ee⟩ := SgA.head hsg tr
  rw [ee]
  k_steps
  all_goals exact ret _ _ _ _ _ _ _ (by k_asm) (by k_asm) (SgA.tail hsg)
theorem rc_spec {w : World} {mg mb : Str → Option Value} {p : Program} {loose : List Str} {mean : ExcName → Option Value} {dp un : Nat} {gd : Option (List Code)} {cn : Str} {cs : Scope} {a : Addr} {ccd : Value} {cl : List (Str × Addr)} {outer : List Env} {A₀ : Around} {base h₀ : Heap} {L : Addr} {m : Str → Option Value} {s : Shared} {Q E : Value → Shared → Prop} {x dx pb dS fS r cr cS S : Addr} {oc oS : Obj} {ocv : Array Value} {toc : Tok} {fd : FuncData} {nm qu : Str} {ps : Arguments} {bd : List Stmt} {sc : Scope} {dc pm ct : Value} {ln : Int} {n1 n2 n3 n4 n5 n6 n7 : Tok} {pd vs : List Value} {ep ep2 : Nat} {wsp : Str} {rest : List (Addr × Obj)} {ws : List Str}
  (B : Below A₀ base outer h₀) (F : Fr h₀ L s.heap m) (X : (hd1.heap_39 w.params).In h₀) (N : News h₀ L s.heap ((pb, W.listOf (pd).toArray ep) :: (x, instObj 59 dx) :: (dx, (dictOf [{ hash := PyData.keyHash w.params ("lineno" : Str), key := .str ("lineno" : Str) n1, val := .int ln n5 }, { hash := PyData.keyHash w.params ("instream" : Str), key := .str ("instream" : Str) n2, val := .ref fS }, { hash := PyData.keyHash w.params ("whitespace" : Str), key := .str ("whitespace" : Str) n3, val := .str wsp n6 }, { hash := PyData.keyHash w.params ("pushback" : Str), key := .str ("pushback" : Str) n4, val := .ref pb }] 4)) :: (dS, dictOf [{ hash := PyData.keyHash w.params ("read" : Str), key := .str ("read" : Str) n7, val := .ref r }] 1) :: (fS, ({ cls := .type "function", dict := some dS, data := .func fd } : Obj)) :: (r, fnMade nm qu ps bd sc [(("signs" : Str), cS)] dc pm cr ct) :: (cr, oc) :: (cS, oS) :: (S, W.listOf (vs).toArray ep2) :: rest)) (T : Top p loose mean mg mb h₀) (hk : cs.kind = .function) (hd : dp + 50 < recursionLimit) (hu : un + 360 < cLine)
  (hnd : nested PySem.Challenge.pw_pg0212_02 17 1 = some (nm, ps, bd, sc)) (hoc : oc.data = .fields ocv) (hoc1 : ocv[1]? = some (.str qu toc)) (hoS : oS.data = .cell (some (.ref S)))
  (o1 : @LT.lt Nat _ cS S) (o2 : @LT.lt Nat _ S r ∧ @Ne Nat cr S) (o3 : @LT.lt Nat _ cr r) (o4 : @LT.lt Nat _ r fS) (o5 : @LT.lt Nat _ fS dS) (o6 : @LT.lt Nat _ dS dx) (o7 : @LT.lt Nat _ dx x) (o8 : @LT.lt Nat _ x pb)
  (q1 : ∀ p ∈ rest, p.1 ≠ S) (q2 : ∀ p ∈ rest, p.1 ≠ dx) (q3 : ∀ p ∈ rest, p.1 ≠ pb)
  (hsg : SgA vs ws) (hlen : vs.length ≤ 4000)  (ret : ∀ vs' ln' n5' ep' h' tk' tr, Fr h₀ L h' m → News h₀ L h' ((pb, W.listOf (pd).toArray ep) :: (x, instObj 59 dx) :: (dx, (dictOf [{ hash := PyData.keyHash w.params ("lineno" : Str), key := .str ("lineno" : Str) n1, val := .int ln' n5' }, { hash := PyData.keyHash w.params ("instream" : Str), key := .str ("instream" : Str) n2, val := .ref fS }, { hash := PyData.keyHash w.params ("whitespace" : Str), key := .str ("whitespace" : Str) n3, val := .str wsp n6 }, { hash := PyData.keyHash w.params ("pushback" : Str), key := .str ("pushback" : Str) n4, val := .ref pb }] 4)) :: (dS, dictOf [{ hash := PyData.keyHash w.params ("read" : Str), key := .str ("read" : Str) n7, val := .ref r }] 1) :: (fS, ({ cls := .type "function", dict := some dS, data := .func fd } : Obj)) :: (r, fnMade nm qu ps bd sc [(("signs" : Str), cS)] dc pm cr ct) :: (cr, oc) :: (cS, oS) :: (S, W.listOf (vs').toArray ep') :: rest) → SgA vs' ws.tail → Q (.str (ws.headD ("" : Str)) tr) { s with heap := h', toks := tk' }) :
  wpAny (model PySem.Challenge.pw_pg0212_02 w) (ktrTop dp un gd cn cs L a ccd cl outer) (call (.ref 42) [.ref x]) Q E s := by
  refine wpAny_call ?_
  exact rc_code B F X N T hk hd hu hnd hoc hoc1 hoS o1 o2 o3 o4 o5 o6 o7 o8 q1 q2 q3 hsg hlen ret
end
section
def InnerC (w : World) (n k : Nat) : Prop := ∀ {mg mb : Str → Option Value} {p : Program} {loose : List Str} {mean : ExcName → Option Value} {dp un : Nat} {gd : Option (List Code)} {cn : Str} {cs : Scope} {a : Addr} {ccd : Value} {cl : List (Str × Addr)} {outer : List Env} {A₀ : Around} {base h₀ : Heap} {L : Addr} {m : Str → Option Value} {s : Shared} {Q E : Value → Shared → Prop} {x lo hi : Int} {xN lo' : Nat} {tx tl tr tn : Tok} {f c' D cI cA cN : Addr} {oc oI oA oN : Obj} {ocv : Array Value} {toc : Tok} {nm qu : Str} {ps : Arguments} {bd : List Stmt} {sc : Scope} {dc pm ct : Value} {vs : List Value} {items : List Int} {ep : Nat} {rest : List (Addr × Obj)}
  (B : Below A₀ base outer h₀) (F : Fr h₀ L s.heap m) (X : (hd1.heap_39 w.params).In h₀) (N : News h₀ L s.heap ((f, fnMade nm qu ps bd sc [(("n" : Str), cN), (("inner" : Str), cI), (("a_digits" : Str), cA)] dc pm c' ct) :: (c', oc) :: (D, W.listOf (vs).toArray ep) :: (cI, oI) :: (cA, oA) :: (cN, oN) :: rest)) (T : Top p loose mean mg mb h₀) (hk : cs.kind = .function) (hd : dp + k < recursionLimit) (hu : un + 8 * k < cLine)
  (hnd : nested PySem.Challenge.pw_pg0212_02 7 1 = some (nm, ps, bd, sc)) (hoc : oc.data = .fields ocv) (hoc1 : ocv[1]? = some (.str qu toc))
  (hI : oI.data = .cell (some (.ref f))) (hA : oA.data = .cell (some (.ref D))) (hN : oN.data = .cell (some (.int (n : Int) tn))) (hv : IntsAre vs items)
  (ord1 : @Ne Nat f D) (ord2 : @Ne Nat c' D) (ord3 : @Ne Nat cI D) (ord4 : @Ne Nat cA D) (ord5 : @Ne Nat cN D) (ord6 : ∀ p ∈ rest, p.1 ≠ D) (CH : CodeHd base 83 79)
  (hx : x = (xN : Int)) (hX : xN < 2 ^ (n * k)) (hlo : lo = (lo' : Int)) (hhi : hi = lo + k) (hle : hi ≤ items.length) (hlen : items.length ≤ 64)
  (ret : ∀ vs' h' tk', Fr h₀ L h' m → News h₀ L h' ((f, fnMade nm qu ps bd sc [(("n" : Str), cN), (("inner" : Str), cI), (("a_digits" : Str), cA)] dc pm c' ct) :: (c', oc) :: (D, W.listOf (vs').toArray ep) :: (cI, oI) :: (cA, oA) :: (cN, oN) :: rest) → IntsAre vs' (putD (2 ^ n) k lo' xN items) → Q .none { s with heap := h', toks := tk' }),
  wpAny (model PySem.Challenge.pw_pg0212_02 w) (ktrTop dp un gd cn cs L a ccd cl outer) (call (.ref f) [.int x tx, .int lo tl, .int hi tr]) Q E s

theorem ite_false' {b : Bool} {p q : Prop} (h : b = false) (hq : q) : if b = true then p else q := by rw [h]; exact hq
theorem inner_base {w : World} {n : Nat} (hn : 0 < n) : InnerC w n 1 := by
  unfold InnerC
  intros
  rename_i hnd hoc hoc1 hI hA hN hv ord1 ord2 ord3 ord4 ord5 ord6 CH hx hX hlo hhi hle hlen ret
  cases hnd
  refine wpAny_call ?_
  k_dflt (refine' code_nest ?k1 ?k2 ?k3 ?k4 ?k5 ?kA ?kF ?kK ?k6 ?k7 ?k8 ?k9 ?kB ?_ ?c2 ?c3 ?c4 ?c5; (case kA => exact rfl); (case kF => exact rfl); (case kK => first | assumption | exact rfl); (case k1 => k_asm); (case k2 => k_asm); (case k3 => k_asm); (case k4 => k_asm); (case k5 => k_asm); (case k6 => k_mem); (case k7 => exact codeRec_news (by k_asm) (by k_mem) (by assumption) (by assumption)); (case k8 => ktr_room); (case k9 => exact BindsTo.of_eq rfl); (case c5 => decide); (case kB => exact locs rfl); (case c2 => exact rfl); (case c3 => exact rfl); (case c4 => exact rfl); k_whole; intro g' L' h' FG' F' N' B' X' T'; (try dsimp only); (try k_lift B'); (try k_fold))
  k_steps
  refine ret _ _ _ (by k_asm) (by k_asm) ?_
  simp only [putD, Nat.mul_one] at *
  rw [Nat.mod_eq_of_lt hX]
  subst hx hlo
  assumption
theorem inner_use {w : World} {n k j : Nat} (IH : ∀ i, i < k → 1 ≤ i → InnerC w n i) (h1 : j < k) (h2 : 1 ≤ j) : InnerC w n j := IH j h1 h2
local macro_rules | `(tactic| walk_at "call ref") => `(tactic| with_reducible refine haltC3 ?_)
local macro_rules | `(tactic| walk_at "binaryOp LShift int int") => `(tactic| (refine PyProof.Rows.lshift_int (by assumption) (by assumption) ?_))
local macro_rules | `(tactic| walk_at "binaryOp RShift int int") => `(tactic| (refine PyProof.Rows.rshift_int (by first | assumption | decide) ?_))
theorem inner_step {w : World} {n k : Nat} (hn : 0 < n) (hn2 : n ≤ 64) (hk2 : 2 ≤ k) (hk3 : k ≤ 64) (IH : ∀ i, i < k → 1 ≤ i → InnerC w n i) : InnerC w n k := by
  unfold InnerC
  intros
  rename_i x lo hi xN lo' tx tl tr tn f c' D cI cA cN oc oI oA oN ocv toc nm qu ps bd sc dc pm ct vs items ep rest B F X N T hk hd hu hnd hoc hoc1 hI hA hN hv ord1 ord2 ord3 ord4 ord5 ord6 CH hx hX hlo hhi hle hlen ret
  cases hnd
  obtain ⟨j, hj⟩ : ∃ j, j = k / 2 := ⟨_, rfl⟩
  have hmid : (lo + hi).fdiv (2 ^ Int.toNat 1) = ((lo' + j : Nat) : Int) := by
    have e : lo + hi = ((lo' + lo' + k : Nat) : Int) := by omega
    rw [e]; show Int.fdiv _ ((2 : Nat) : Int) = _
    rw [fdiv_nat]; omega
  have hsh : ((lo + hi).fdiv (2 ^ Int.toNat 1) - lo) * (n : Int) = ((n * j : Nat) : Int) := shift_nat (by rw [hmid]; omega)
  have hs0 : 0 ≤ ((lo + hi).fdiv (2 ^ Int.toNat 1) - lo) * (n : Int) := by rw [hsh]; omega
  have hup : x.fdiv (2 ^ (((lo + hi).fdiv (2 ^ Int.toNat 1) - lo) * (n : Int)).toNat) = ((xN / 2 ^ (n * j) : Nat) : Int) := by
    rw [hsh, hx, Int.toNat_natCast, fdiv_pow]
  have hXk : xN / 2 ^ (n * j) < 2 ^ (n * (k - j)) := by
    apply Nat.div_lt_of_lt_mul
    rw [← Nat.pow_add, ← Nat.mul_add, Nat.add_sub_cancel' (by omega)]
    exact hX
  have hnj : n * j ≤ 64 * 64 := Nat.mul_le_mul hn2 (by omega)
  have hbits : (Builtin.Int.intBits (x.fdiv (2 ^ (((lo + hi).fdiv (2 ^ Int.toNat 1) - lo) * (n : Int)).toNat)) : Int) + ((lo + hi).fdiv (2 ^ Int.toNat 1) - lo) * (n : Int) ≤ 2 ^ 27 := by
    rw [hup, hsh]
    have b : Builtin.Int.intBits ((xN / 2 ^ (n * j) : Nat) : Int) ≤ n * (k - j) := intBits_le_iff.mpr (by rw [Int.natAbs_natCast]; exact hXk)
    have : n * (k - j) ≤ 64 * 64 := Nat.mul_le_mul hn2 (by omega)
    omega
  refine wpAny_call ?_
  k_dflt (refine' code_nest ?k1 ?k2 ?k3 ?k4 ?k5 ?kA ?kF ?kK ?k6 ?k7 ?k8 ?k9 ?kB ?_ ?c2 ?c3 ?c4 ?c5; (case kA => exact rfl); (case kF => exact rfl); (case kK => first | assumption | exact rfl); (case k1 => k_asm); (case k2 => k_asm); (case k3 => k_asm); (case k4 => k_asm); (case k5 => k_asm); (case k6 => k_mem); (case k7 => exact codeRec_news (by k_asm) (by k_mem) (by assumption) (by assumption)); (case k8 => ktr_room); (case k9 => exact BindsTo.of_eq rfl); (case c5 => decide); (case kB => exact locs rfl); (case c2 => exact rfl); (case c3 => exact rfl); (case c4 => exact rfl); k_whole; intro g' L' h' FG' F' N' B' X' T'; (try dsimp only); (try k_lift B'); (try k_fold))
  k_steps
  unfold Halt
  have H1 : InnerC w n j := IH j (by omega) (by omega)
  unfold InnerC at H1
  refine' H1 ?B ?F ?X ?N ?T ?hk ?hd ?hu ?hnd ?hoc ?hoc1 ?hI ?hA ?hN ?hv ?o1 ?o2 ?o3 ?o4 ?o5 ?o6 ?CH ?hx ?hX ?hlo ?hhi ?hle ?hlen ?ret
  (case B => k_asm)
  (case F => k_asm)
  (case X => k_asm)
  (case N => k_asm)
  (case T => k_asm)
  (case hk => exact rfl)
  (case hd => (simp only [recursionLimit] at *; omega))
  (case hu => (simp only [cLine_is] at *; omega))
  (case hnd => exact rfl)
  (case hoc => assumption)
  (case hoc1 => assumption)
  (case hI => assumption)
  (case hA => assumption)
  (case hN => assumption)
  (case hv => assumption)
  (case o1 => assumption)
  (case o2 => assumption)
  (case o3 => assumption)
  (case o4 => assumption)
  (case o5 => assumption)
  (case o6 => assumption)
  (case CH => assumption)
  (case hx => (rw [hup, hsh, hx, Int.toNat_natCast]; exact xor_high _ _))
  (case hX => exact Nat.mod_lt _ (Nat.two_pow_pos _))
  (case hlo => exact hlo)
  (case hhi => omega)
  (case hle => omega)
  (case hlen => omega)
  intro vs1 h1 tk1 F1 N1 iv1
  (try dsimp only)
  k_steps
  unfold Halt
  have H2 : InnerC w n (k - j) := IH (k - j) (by omega) (by omega)
  unfold InnerC at H2
  have hlen1 := putD_length (2 ^ n) j lo' (xN % 2 ^ (n * j)) items
  refine' H2 ?B2 ?F2 ?X2 ?N2 ?T2 ?hk2 ?hd2 ?hu2 ?hnd2 ?hoc2 ?hoc12 ?hI2 ?hA2 ?hN2 ?hv2 ?o12 ?o22 ?o32 ?o42 ?o52 ?o62 ?CH2 ?hx2 ?hX2 ?hlo2 ?hhi2 ?hle2 ?hlen2 ?ret2
  (case B2 => k_asm)
  (case F2 => k_asm)
  (case X2 => k_asm)
  (case N2 => k_asm)
  (case T2 => k_asm)
  (case hk2 => exact rfl)
  (case hd2 => (simp only [recursionLimit] at *; omega))
  (case hu2 => (simp only [cLine_is] at *; omega))
  (case hnd2 => exact rfl)
  (case hoc2 => assumption)
  (case hoc12 => assumption)
  (case hI2 => assumption)
  (case hA2 => assumption)
  (case hN2 => assumption)
  (case hv2 => assumption)
  (case o12 => assumption)
  (case o22 => assumption)
  (case o32 => assumption)
  (case o42 => assumption)
  (case o52 => assumption)
  (case o62 => assumption)
  (case CH2 => assumption)
  (case hx2 => exact hup)
  (case hX2 => exact hXk)
  (case hlo2 => exact hmid)
  (case hhi2 => omega)
  (case hle2 => omega)
  (case hlen2 => omega)
  intro vs2 h2 tk2 F2 N2 iv2
  (try dsimp only)
  k_steps
  refine ret _ _ _ (by k_asm) (by k_asm) ?_
  have e := putD_split (2 ^ n) j (k - j) lo' xN items
  rw [show j + (k - j) = k by omega] at e
  rw [e, ← putD_mod (2 ^ n) j lo' xN items, ← Nat.pow_mul]
  exact iv2
theorem inner_all {w : World} {n : Nat} (hn : 0 < n) (hn2 : n ≤ 64) : ∀ k, 1 ≤ k → k ≤ 64 → InnerC w n k := by
  intro k
  induction k using Nat.strongRecOn with
  | ind k ih =>
    intro h1 h2
    by_cases e : k = 1
    · rw [e]; exact inner_base hn
    · exact inner_step hn hn2 (by omega) h2 fun i hi h => ih i hi h (by omega)
end
section
theorem flat_one (a : Int) : ∀ k : Nat, (List.replicate k [a]).flatten = List.replicate k a
  | 0 => rfl
  | k + 1 => by rw [List.replicate_succ, List.flatten_cons, flat_one a k]; rfl
/-- what the table of _int2digits holds: nothing yet, or the code of inner -/
inductive TabI2 : List (Addr × Obj) → Prop
  | nil : TabI2 [(79, tabObj #[])]
  | one {c' : Addr} {oc : Obj} {ocv : Array Value} {t : Tok} (hc : oc.data = .fields ocv) (h1 : ocv[1]? = some (.str (PySem.Str.ofString "_int2digits" ++ ".<locals>." ++ PySem.Str.ofString "inner") t)) : TabI2 [(79, tabObj #[rawInt 79, rawInt 4, .ref c']), (c', oc)]
local macro_rules | `(tactic| walk_at "call ref") => `(tactic| with_reducible refine haltC3 ?_)
theorem i2d_spec {w : World} {mg mb : Str → Option Value} {p : Program} {loose : List Str} {mean : ExcName → Option Value} {dp un : Nat} {gd : Option (List Code)} {cn : Str} {cs : Scope} {a : Addr} {ccd : Value} {cl : List (Str × Addr)} {outer : List Env} {A₀ : Around} {base h₀ : Heap} {L : Addr} {m : Str → Option Value} {s : Shared} {Q E : Value → Shared → Prop} {x n : Int} {xN nN kq : Nat} {tx tn : Tok} {tb rest : List (Addr × Obj)}
  (B : Below A₀ base outer h₀) (F : Fr h₀ L s.heap m) (X : (hd1.heap_39 w.params).In h₀) (N : News h₀ L s.heap (tb ++ rest)) (T : Top p loose mean mg mb h₀) (hk : cs.kind = .function) (hd : dp + 80 < recursionLimit) (hu : un + 700 < cLine)
  (tbs : TabI2 tb) (dj : ∀ p ∈ tb, ∀ q ∈ rest, p.1 ≠ q.1) (C : CodeHd base 83 79) (hx : x = (xN : Int)) (hn : n = (nN : Int)) (hn0 : 0 < nN) (hn1 : nN ≤ 64) (hq : ((Builtin.Int.intBits x : Nat) + n - 1).fdiv n = (kq : Int)) (hkq : kq ≤ 64) (hX : xN < 2 ^ (nN * kq)) (hX0 : xN = 0 → kq = 0)
  (ret : ∀ D vs' tb' h' tk', Fr h₀ L h' m → News h₀ L h' ((D, W.listOf vs'.toArray 0) :: (tb' ++ rest)) → IntsAre vs' (digs (2 ^ nN) kq xN) → TabI2 tb' → (∀ p ∈ tb', ∀ q ∈ rest, p.1 ≠ q.1) → (∀ q ∈ rest, q.1 < D) → (∀ p ∈ tb', p.1 ≠ D) → Q (.ref D) { s with heap := h', toks := tk' }) :
  wpAny (model PySem.Challenge.pw_pg0212_02 w) (ktrTop dp un gd cn cs L a ccd cl outer) (call (.ref 84) [.int x tx, .int n tn]) Q E s := by
  subst hx hn
  cases tbs with
  | nil =>
    simp only [List.cons_append, List.nil_append] at N
    have r37 : ∀ p ∈ rest, p.1 ≠ 79 := fun p hp => (dj _ (.head _) p hp).symm
    refine wpAny_call ?_
    k_dflt (first
  | cell_enter
  | (refine' code_def ?k1 ?k2 ?k3 ?k4 ?k5 ?kA ?kF ?kK ?k6 ?k7 ?k8 ?k9 ?kB ?_ ?c2 ?c3 ?c4 ?c5; (case kA => exact rfl); (case kF => exact rfl); (case kK => first | assumption | exact rfl); (case k1 => k_asm); (case k2 => k_asm); (case k3 => k_asm); (case k4 => k_asm); (case k5 => k_asm); (case k6 => k_is); (case k7 => k_is); (case k8 => ktr_room); (case k9 => first | exact BindsTo.of_eq rfl | exact binds_K (by k_in) rfl (by k_is) rfl rfl rfl | fail "k_enter: no rule for these arguments"); (case c5 => decide); (case kB => exact locs rfl); (case c2 => exact rfl); (case c3 => exact rfl); (case c4 => exact rfl); k_whole; intro g' L' h' FG' F' N' B' X' T'; (try dsimp only); (try k_lift B'); (try k_fold))
  | (refine' code_defC ?k1 ?k2 ?k3 ?k4 ?k5 ?kA ?kF ?kK ?k6 ?k7 ?k8 ?k9 ?kB ?kD ?_ ?c2 ?c3 ?c4; (case kA => exact rfl); (case kF => exact rfl); (case kK => first | assumption | exact rfl); (case k1 => k_asm); (case k2 => k_asm); (case k3 => k_asm); (case k4 => k_asm); (case k5 => k_asm); (case k6 => k_is); (case k7 => k_is); (case k8 => ktr_room); (case k9 => first | exact BindsTo.of_eq rfl | exact binds_K (by k_in) rfl (by k_is) rfl rfl rfl | fail "k_enter: no rule for these arguments"); (case kB => exact rfl); (case kD => decide +kernel); (case c2 => exact rfl); (case c3 => exact rfl); (case c4 => exact rfl); k_whole; intro g9 L9 h9 tk9 cells9 FG9 F9 N9 Y9 B9 X9 T9 l9; (try k_lt l9); k_cells Y9; (try simp only [List.cons_append, List.nil_append] at N9); (try dsimp only); (try k_lift B9); (try k_fold)))
    (rename _ ∧ AllLt _ _ => l9; have hr9 := allLt_to l9.2; have l37 := l9.1)
    k_steps
    · unfold Halt
      have hkq1 : 1 ≤ kq := by
        rcases Nat.eq_zero_or_pos kq with e | e
        · rw [e, Nat.mul_zero] at hX; omega
        · exact e
      have H1 : InnerC w nN kq := inner_all hn0 hn1 kq hkq1 hkq
      unfold InnerC at H1
      refine' H1 (rest := ((79 : Addr), _) :: rest) ?B ?F ?X ?N ?T ?hk ?hd ?hu ?hnd ?hoc ?hoc1 ?hI ?hA ?hN ?hv ?o1 ?o2 ?o3 ?o4 ?o5 ?o6 ?CH ?hx ?hX ?hlo ?hhi ?hle ?hlen ?ret
      (case B => k_asm)
      (case F => k_asm)
      (case X => k_asm)
      (case N => exact cb_drop (by k_asm) (List.forall_mem_cons.mpr ⟨by k_mem, List.forall_mem_cons.mpr ⟨by k_mem, List.forall_mem_cons.mpr ⟨by k_mem, List.forall_mem_cons.mpr ⟨by k_mem, List.forall_mem_cons.mpr ⟨by k_mem, List.forall_mem_cons.mpr ⟨by k_mem, List.forall_mem_cons.mpr ⟨by k_mem, fun p hp => by (repeat (first | exact hp | refine List.Mem.tail _ ?_))⟩⟩⟩⟩⟩⟩⟩))
      (case T => k_asm)
      (case hk => exact rfl)
      (case hd => (simp only [recursionLimit] at *; omega))
      (case hu => (simp only [cLine_is] at *; omega))
      (case hnd => exact rfl)
      (case hoc => assumption)
      (case hoc1 => assumption)
      (case hI => assumption)
      (case hA => assumption)
      (case hN => (rename Obj.data _ = Data.cell (bindC _ _ _ _) => d9; exact d9))
      (case hv => assumption)
      (case o1 => omega)
      (case o2 => omega)
      (case o3 => omega)
      (case o4 => omega)
      (case o5 => omega)
      (case o6 => exact List.forall_mem_cons.mpr ⟨(by refine neN ?_; dsimp only; omega), fun p hp => by have := hr9 p hp; refine neN ?_; omega⟩)
      (case CH => assumption)
      (case hx => rfl)
      (case hX => exact hX)
      (case hlo => rfl)
      (case hhi => omega)
      (case hle => omega)
      (case hlen => omega)
      intro vs1 h1 tk1 F1 N1 iv1
      (try dsimp only)
      k_steps
      refine ret _ _ [((79 : Addr), _), (_, _)] _ _ (by k_asm) (cb_drop (by k_asm) (List.forall_mem_cons.mpr ⟨by k_mem, List.forall_mem_cons.mpr ⟨by k_mem, List.forall_mem_cons.mpr ⟨by k_mem, fun p hp => by (repeat (first | exact hp | refine List.Mem.tail _ ?_))⟩⟩⟩)) ?IV1 (TabI2.one (by assumption) (by assumption)) ?DJ1 (fun p hp => by have := hr9 p hp; show @LT.lt Nat _ _ _; omega) ?NE1
      (case DJ1 => exact List.forall_mem_cons.mpr ⟨fun q hq => (r37 q hq).symm, List.forall_mem_cons.mpr ⟨fun q hq => by have := hr9 q hq; refine neN ?_; dsimp only; omega, fun _ h => nomatch h⟩⟩)
      (case NE1 => exact List.forall_mem_cons.mpr ⟨(by refine neN ?_; dsimp only; omega), List.forall_mem_cons.mpr ⟨(by refine neN ?_; dsimp only; omega), fun _ h => nomatch h⟩⟩)
      rw [hq, Int.toNat_natCast, flat_one] at iv1
      have e := putD_digs (2 ^ nN) kq xN []
      simp only [List.nil_append, List.length_nil] at e
      rw [e] at iv1
      exact iv1
    · have hk0 : kq = 0 := hX0 (by omega)
      subst hk0
      refine ret _ _ [((79 : Addr), _), (_, _)] _ _ (by k_asm) (cb_drop (by k_asm) (List.forall_mem_cons.mpr ⟨by k_mem, List.forall_mem_cons.mpr ⟨by k_mem, List.forall_mem_cons.mpr ⟨by k_mem, fun p hp => by (repeat (first | exact hp | refine List.Mem.tail _ ?_))⟩⟩⟩)) ?IV2 (TabI2.one (by assumption) (by assumption)) ?DJ2 (fun p hp => by have := hr9 p hp; show @LT.lt Nat _ _ _; omega) ?NE2
      (case DJ2 => exact List.forall_mem_cons.mpr ⟨fun q hq => (r37 q hq).symm, List.forall_mem_cons.mpr ⟨fun q hq => by have := hr9 q hq; refine neN ?_; dsimp only; omega, fun _ h => nomatch h⟩⟩)
      (case NE2 => exact List.forall_mem_cons.mpr ⟨(by refine neN ?_; dsimp only; omega), List.forall_mem_cons.mpr ⟨(by refine neN ?_; dsimp only; omega), fun _ h => nomatch h⟩⟩)
      rename IntsAre _ _ => i9
      rw [hq] at i9
      rw [hq]
      exact i9
  | one hc hc1 =>
    simp only [List.cons_append, List.nil_append] at N
    have rc := fun p hp => (dj _ (.tail _ (.head _)) p hp).symm
    have r37 : ∀ p ∈ rest, p.1 ≠ 79 := fun p hp => (dj _ (.head _) p hp).symm
    refine wpAny_call ?_
    k_dflt (first
  | cell_enter
  | (refine' code_def ?k1 ?k2 ?k3 ?k4 ?k5 ?kA ?kF ?kK ?k6 ?k7 ?k8 ?k9 ?kB ?_ ?c2 ?c3 ?c4 ?c5; (case kA => exact rfl); (case kF => exact rfl); (case kK => first | assumption | exact rfl); (case k1 => k_asm); (case k2 => k_asm); (case k3 => k_asm); (case k4 => k_asm); (case k5 => k_asm); (case k6 => k_is); (case k7 => k_is); (case k8 => ktr_room); (case k9 => first | exact BindsTo.of_eq rfl | exact binds_K (by k_in) rfl (by k_is) rfl rfl rfl | fail "k_enter: no rule for these arguments"); (case c5 => decide); (case kB => exact locs rfl); (case c2 => exact rfl); (case c3 => exact rfl); (case c4 => exact rfl); k_whole; intro g' L' h' FG' F' N' B' X' T'; (try dsimp only); (try k_lift B'); (try k_fold))
  | (refine' code_defC ?k1 ?k2 ?k3 ?k4 ?k5 ?kA ?kF ?kK ?k6 ?k7 ?k8 ?k9 ?kB ?kD ?_ ?c2 ?c3 ?c4; (case kA => exact rfl); (case kF => exact rfl); (case kK => first | assumption | exact rfl); (case k1 => k_asm); (case k2 => k_asm); (case k3 => k_asm); (case k4 => k_asm); (case k5 => k_asm); (case k6 => k_is); (case k7 => k_is); (case k8 => ktr_room); (case k9 => first | exact BindsTo.of_eq rfl | exact binds_K (by k_in) rfl (by k_is) rfl rfl rfl | fail "k_enter: no rule for these arguments"); (case kB => exact rfl); (case kD => decide +kernel); (case c2 => exact rfl); (case c3 => exact rfl); (case c4 => exact rfl); k_whole; intro g9 L9 h9 tk9 cells9 FG9 F9 N9 Y9 B9 X9 T9 l9; (try k_lt l9); k_cells Y9; (try simp only [List.cons_append, List.nil_append] at N9); (try dsimp only); (try k_lift B9); (try k_fold)))
    (rename _ ∧ _ ∧ AllLt _ _ => l9; have hr9 := allLt_to l9.2.2; have l37 := l9.1; have lc' := l9.2.1)
    k_steps
    · unfold Halt
      have hkq1 : 1 ≤ kq := by
        rcases Nat.eq_zero_or_pos kq with e | e
        · rw [e, Nat.mul_zero] at hX; omega
        · exact e
      have H1 : InnerC w nN kq := inner_all hn0 hn1 kq hkq1 hkq
      unfold InnerC at H1
      refine' H1 (rest := ((79 : Addr), _) :: rest) ?B9 ?F9 ?X9 ?N9 ?T9 ?hk9 ?hd9 ?hu9 ?hnd9 ?hoc9 ?hoc19 ?hI9 ?hA9 ?hN9 ?hv9 ?o19 ?o29 ?o39 ?o49 ?o59 ?o69 ?CH9 ?hx9 ?hX9 ?hlo9 ?hhi9 ?hle9 ?hlen9 ?ret9
      (case B9 => k_asm)
      (case F9 => k_asm)
      (case X9 => k_asm)
      (case N9 => exact cb_drop (by k_asm) (List.forall_mem_cons.mpr ⟨by k_mem, List.forall_mem_cons.mpr ⟨by k_mem, List.forall_mem_cons.mpr ⟨by k_mem, List.forall_mem_cons.mpr ⟨by k_mem, List.forall_mem_cons.mpr ⟨by k_mem, List.forall_mem_cons.mpr ⟨by k_mem, List.forall_mem_cons.mpr ⟨by k_mem, fun p hp => by (repeat (first | exact hp | refine List.Mem.tail _ ?_))⟩⟩⟩⟩⟩⟩⟩))
      (case T9 => k_asm)
      (case hk9 => exact rfl)
      (case hd9 => (simp only [recursionLimit] at *; omega))
      (case hu9 => (simp only [cLine_is] at *; omega))
      (case hnd9 => exact rfl)
      (case hoc9 => assumption)
      (case hoc19 => assumption)
      (case hI9 => assumption)
      (case hA9 => assumption)
      (case hN9 => (rename Obj.data _ = Data.cell (bindC _ _ _ _) => d9; exact d9))
      (case hv9 => assumption)
      (case o19 => omega)
      (case o29 => omega)
      (case o39 => omega)
      (case o49 => omega)
      (case o59 => omega)
      (case o69 => exact List.forall_mem_cons.mpr ⟨(by refine neN ?_; dsimp only; omega), fun p hp => by have := hr9 p hp; refine neN ?_; omega⟩)
      (case CH9 => assumption)
      (case hx9 => rfl)
      (case hX9 => exact hX)
      (case hlo9 => rfl)
      (case hhi9 => omega)
      (case hle9 => omega)
      (case hlen9 => omega)
      intro vs1 h1 tk1 F1 N1 iv1
      (try dsimp only)
      k_steps
      refine ret _ _ [((79 : Addr), _), (_, _)] _ _ (by k_asm) (cb_drop (by k_asm) (List.forall_mem_cons.mpr ⟨by k_mem, List.forall_mem_cons.mpr ⟨by k_mem, List.forall_mem_cons.mpr ⟨by k_mem, fun p hp => by (repeat (first | exact hp | refine List.Mem.tail _ ?_))⟩⟩⟩)) ?IV19 (TabI2.one hc hc1) ?DJ19 (fun p hp => by have := hr9 p hp; show @LT.lt Nat _ _ _; omega) ?NE19
      (case DJ19 => exact List.forall_mem_cons.mpr ⟨fun q hq => (r37 q hq).symm, List.forall_mem_cons.mpr ⟨fun q hq => (rc q hq).symm, fun _ h => nomatch h⟩⟩)
      (case NE19 => exact List.forall_mem_cons.mpr ⟨(by refine neN ?_; dsimp only; omega), List.forall_mem_cons.mpr ⟨(by refine neN ?_; dsimp only; omega), fun _ h => nomatch h⟩⟩)
      rw [hq, Int.toNat_natCast, flat_one] at iv1
      have e := putD_digs (2 ^ nN) kq xN []
      simp only [List.nil_append, List.length_nil] at e
      rw [e] at iv1
      exact iv1
    · have hk0 : kq = 0 := hX0 (by omega)
      subst hk0
      refine ret _ _ [((79 : Addr), _), (_, _)] _ _ (by k_asm) (cb_drop (by k_asm) (List.forall_mem_cons.mpr ⟨by k_mem, List.forall_mem_cons.mpr ⟨by k_mem, List.forall_mem_cons.mpr ⟨by k_mem, fun p hp => by (repeat (first | exact hp | refine List.Mem.tail _ ?_))⟩⟩⟩)) ?IV29 (TabI2.one hc hc1) ?DJ29 (fun p hp => by have := hr9 p hp; show @LT.lt Nat _ _ _; omega) ?NE29
      (case DJ29 => exact List.forall_mem_cons.mpr ⟨fun q hq => (r37 q hq).symm, List.forall_mem_cons.mpr ⟨fun q hq => (rc q hq).symm, fun _ h => nomatch h⟩⟩)
      (case NE29 => exact List.forall_mem_cons.mpr ⟨(by refine neN ?_; dsimp only; omega), List.forall_mem_cons.mpr ⟨(by refine neN ?_; dsimp only; omega), fun _ h => nomatch h⟩⟩)
      rename IntsAre _ _ => i9
      rw [hq] at i9
      rw [hq]
      exact i9
end
section
def DInnerC (w : World) (n k : Nat) : Prop := ∀ {mg mb : Str → Option Value} {p : Program} {loose : List Str} {mean : ExcName → Option Value} {dp un : Nat} {gd : Option (List Code)} {cn : Str} {cs : Scope} {a : Addr} {ccd : Value} {cl : List (Str × Addr)} {outer : List Env} {A₀ : Around} {base h₀ : Heap} {L : Addr} {m : Str → Option Value} {s : Shared} {Q E : Value → Shared → Prop} {lo hi : Int} {lo' : Nat} {tl tr tn : Tok} {f c' D cI cA cN : Addr} {oc oI oA oN : Obj} {ocv : Array Value} {toc : Tok} {nm qu : Str} {ps : Arguments} {bd : List Stmt} {sc : Scope} {dc pm ct : Value} {vs : List Value} {ds : List Nat} {ep : Nat} {rest : List (Addr × Obj)}
  (B : Below A₀ base outer h₀) (F : Fr h₀ L s.heap m) (X : (hd1.heap_39 w.params).In h₀) (N : News h₀ L s.heap ((f, fnMade nm qu ps bd sc [(("n" : Str), cN), (("inner" : Str), cI), (("digits" : Str), cA)] dc pm c' ct) :: (c', oc) :: (D, W.listOf vs.toArray ep) :: (cI, oI) :: (cA, oA) :: (cN, oN) :: rest)) (T : Top p loose mean mg mb h₀) (hk : cs.kind = .function) (hd : dp + k < recursionLimit) (hu : un + 8 * k < cLine)
  (hnd : nested PySem.Challenge.pw_pg0212_02 8 0 = some (nm, ps, bd, sc)) (hoc : oc.data = .fields ocv) (hoc1 : ocv[1]? = some (.str qu toc))
  (hI : oI.data = .cell (some (.ref f))) (hA : oA.data = .cell (some (.ref D))) (hN : oN.data = .cell (some (.int (n : Int) tn))) (hv : IntsAre vs (ds.map Int.ofNat)) (CH : CodeHd base 90 86)
  (hlo : lo = (lo' : Int)) (hhi : hi = lo + k) (hle : hi ≤ ds.length) (hlen : ds.length ≤ 64) (hb : ∀ d ∈ ds, d < 2 ^ n)
  (ret : ∀ t h' tk', Fr h₀ L h' m → News h₀ L h' ((f, fnMade nm qu ps bd sc [(("n" : Str), cN), (("inner" : Str), cI), (("digits" : Str), cA)] dc pm c' ct) :: (c', oc) :: (D, W.listOf vs.toArray ep) :: (cI, oI) :: (cA, oA) :: (cN, oN) :: rest) → Q (.int (numD (2 ^ n) (part ds lo' k) : Nat) t) { s with heap := h', toks := tk' }),
  wpAny (model PySem.Challenge.pw_pg0212_02 w) (ktrTop dp un gd cn cs L a ccd cl outer) (call (.ref f) [.int lo tl, .int hi tr]) Q E s
theorem retE {Q : Value → Shared → Prop} {x y : Int} {t : Tok} {s : Shared} (e : x = y) (h : Q (.int y t) s) : Q (.int x t) s := by rw [e]; exact h
theorem dinner_base {w : World} {n : Nat} : DInnerC w n 1 := by
  unfold DInnerC
  intros
  rename_i lo hi lo' tl tr tn f c' D cI cA cN oc oI oA oN ocv toc nm qu ps bd sc dc pm ct vs ds ep rest B F X N T hk hd hu hnd hoc hoc1 hI hA hN hv CH hlo hhi hle hlen hb ret
  cases hnd
  have hl2 : (ds.map Int.ofNat).length = ds.length := List.length_map ..
  refine wpAny_call ?_
  k_dflt (refine' code_nest ?k1 ?k2 ?k3 ?k4 ?k5 ?kA ?kF ?kK ?k6 ?k7 ?k8 ?k9 ?kB ?_ ?c2 ?c3 ?c4 ?c5; (case kA => exact rfl); (case kF => exact rfl); (case kK => first | assumption | exact rfl); (case k1 => k_asm); (case k2 => k_asm); (case k3 => k_asm); (case k4 => k_asm); (case k5 => k_asm); (case k6 => k_mem); (case k7 => exact codeRec_news (by k_asm) (by k_mem) (by assumption) (by assumption)); (case k8 => ktr_room); (case k9 => exact BindsTo.of_eq rfl); (case c5 => decide); (case kB => exact locs rfl); (case c2 => exact rfl); (case c3 => exact rfl); (case c4 => exact rfl); k_whole; intro g' L' h' FG' F' N' B' X' T'; (try dsimp only); (try k_lift B'); (try k_fold))
  k_steps
  refine retE ?_ (ret _ _ _ (by k_asm) (by k_asm))
  rw [part_one (by omega)]
  simp only [numD, Nat.mul_zero, Nat.add_zero]
  rw [getD_cast, hlo, Int.toNat_natCast]
local macro_rules | `(tactic| walk_at "call ref") => `(tactic| with_reducible refine haltC2 ?_)
local macro_rules | `(tactic| walk_at "binaryOp LShift int int") => `(tactic| (refine PyProof.Rows.lshift_int (by assumption) (by assumption) ?_))
theorem dinner_step {w : World} {n k : Nat} (hn : 0 < n) (hn2 : n ≤ 64) (hk2 : 2 ≤ k) (hk3 : k ≤ 64) (IH : ∀ i, i < k → 1 ≤ i → DInnerC w n i) : DInnerC w n k := by
  unfold DInnerC
  intros
  rename_i lo hi lo' tl tr tn f c' D cI cA cN oc oI oA oN ocv toc nm qu ps bd sc dc pm ct vs ds ep rest B F X N T hk hd hu hnd hoc hoc1 hI hA hN hv CH hlo hhi hle hlen hb ret
  cases hnd
  obtain ⟨j, hj⟩ : ∃ j, j = k / 2 := ⟨_, rfl⟩
  have hmid : (lo + hi).fdiv (2 ^ Int.toNat 1) = ((lo' + j : Nat) : Int) := by
    have e : lo + hi = ((lo' + lo' + k : Nat) : Int) := by omega
    rw [e]; show Int.fdiv _ ((2 : Nat) : Int) = _
    rw [fdiv_nat]; omega
  have hsh : ((lo + hi).fdiv (2 ^ Int.toNat 1) - lo) * (n : Int) = ((n * j : Nat) : Int) := shift_nat (by rw [hmid]; omega)
  have hs0 : 0 ≤ ((lo + hi).fdiv (2 ^ Int.toNat 1) - lo) * (n : Int) := by rw [hsh]; omega
  have hnj : n * j ≤ 64 * 64 := Nat.mul_le_mul hn2 (by omega)
  have hv1 : numD (2 ^ n) (part ds (lo' + j) (k - j)) < (2 ^ n) ^ (k - j) := part_lt (by omega) hb
  have hbits : (Builtin.Int.intBits ((numD (2 ^ n) (part ds (lo' + j) (k - j)) : Nat) : Int) : Int) + ((lo + hi).fdiv (2 ^ Int.toNat 1) - lo) * (n : Int) ≤ 2 ^ 27 := by
    rw [hsh]
    have b : Builtin.Int.intBits ((numD (2 ^ n) (part ds (lo' + j) (k - j)) : Nat) : Int) ≤ n * (k - j) := intBits_le_iff.mpr (by rw [Int.natAbs_natCast, Nat.pow_mul]; exact hv1)
    have : n * (k - j) ≤ 64 * 64 := Nat.mul_le_mul hn2 (by omega)
    omega
  refine wpAny_call ?_
  k_dflt (refine' code_nest ?k1 ?k2 ?k3 ?k4 ?k5 ?kA ?kF ?kK ?k6 ?k7 ?k8 ?k9 ?kB ?_ ?c2 ?c3 ?c4 ?c5; (case kA => exact rfl); (case kF => exact rfl); (case kK => first | assumption | exact rfl); (case k1 => k_asm); (case k2 => k_asm); (case k3 => k_asm); (case k4 => k_asm); (case k5 => k_asm); (case k6 => k_mem); (case k7 => exact codeRec_news (by k_asm) (by k_mem) (by assumption) (by assumption)); (case k8 => ktr_room); (case k9 => exact BindsTo.of_eq rfl); (case c5 => decide); (case kB => exact locs rfl); (case c2 => exact rfl); (case c3 => exact rfl); (case c4 => exact rfl); k_whole; intro g' L' h' FG' F' N' B' X' T'; (try dsimp only); (try k_lift B'); (try k_fold))
  k_steps
  unfold Halt
  have H1 : DInnerC w n (k - j) := IH (k - j) (by omega) (by omega)
  unfold DInnerC at H1
  refine' H1 ?B ?F ?X ?N ?T ?hk ?hd ?hu ?hnd ?hoc ?hoc1 ?hI ?hA ?hN ?hv ?CH ?hlo ?hhi ?hle ?hlen ?hb ?ret
  (case B => k_asm)
  (case F => k_asm)
  (case X => k_asm)
  (case N => k_asm)
  (case T => k_asm)
  (case hk => exact rfl)
  (case hd => (simp only [recursionLimit] at *; omega))
  (case hu => (simp only [cLine_is] at *; omega))
  (case hnd => exact rfl)
  (case hoc => assumption)
  (case hoc1 => assumption)
  (case hI => assumption)
  (case hA => assumption)
  (case hN => assumption)
  (case hv => assumption)
  (case CH => assumption)
  (case hlo => exact hmid)
  (case hhi => omega)
  (case hle => omega)
  (case hlen => omega)
  (case hb => exact hb)
  intro t1 h1 tk1 F1 N1
  (try dsimp only)
  k_steps
  unfold Halt
  have H2 : DInnerC w n j := IH j (by omega) (by omega)
  unfold DInnerC at H2
  refine' H2 ?B2 ?F2 ?X2 ?N2 ?T2 ?hk2 ?hd2 ?hu2 ?hnd2 ?hoc2 ?hoc12 ?hI2 ?hA2 ?hN2 ?hv2 ?CH2 ?hlo2 ?hhi2 ?hle2 ?hlen2 ?hb2 ?ret2
  (case B2 => k_asm)
  (case F2 => k_asm)
  (case X2 => k_asm)
  (case N2 => k_asm)
  (case T2 => k_asm)
  (case hk2 => exact rfl)
  (case hd2 => (simp only [recursionLimit] at *; omega))
  (case hu2 => (simp only [cLine_is] at *; omega))
  (case hnd2 => exact rfl)
  (case hoc2 => assumption)
  (case hoc12 => assumption)
  (case hI2 => assumption)
  (case hA2 => assumption)
  (case hN2 => assumption)
  (case hv2 => assumption)
  (case CH2 => assumption)
  (case hlo2 => exact hlo)
  (case hhi2 => omega)
  (case hle2 => omega)
  (case hlen2 => omega)
  (case hb2 => exact hb)
  intro t2 h2 tk2 F2 N2
  (try dsimp only)
  k_steps
  refine retE ?_ (ret _ _ _ (by k_asm) (by k_asm))
  rw [hsh, Int.toNat_natCast]
  have e := numD_part (b := 2 ^ n) (ds := ds) (lo := lo') (j := j) (k := k - j) (by omega)
  rw [show j + (k - j) = k by omega] at e
  rw [e, ← Nat.pow_mul]
  simp
theorem dinner_all {w : World} {n : Nat} (hn : 0 < n) (hn2 : n ≤ 64) : ∀ k, 1 ≤ k → k ≤ 64 → DInnerC w n k := by
  intro k
  induction k using Nat.strongRecOn with
  | ind k ih =>
    intro h1 h2
    by_cases e : k = 1
    · rw [e]; exact dinner_base
    · exact dinner_step hn hn2 (by omega) h2 fun i hi h => ih i hi h (by omega)
end
section
/-- what the table of _digits2int holds: nothing yet, or the code of inner -/
inductive TabD2 : List (Addr × Obj) → Prop
  | nil : TabD2 [(86, tabObj #[])]
  | one {c' : Addr} {oc : Obj} {ocv : Array Value} {t : Tok} (hc : oc.data = .fields ocv) (h1 : ocv[1]? = some (.str (PySem.Str.ofString "_digits2int" ++ ".<locals>." ++ PySem.Str.ofString "inner") t)) : TabD2 [(86, tabObj #[rawInt 94, rawInt 4, .ref c']), (c', oc)]
local macro_rules | `(tactic| walk_at "call ref") => `(tactic| with_reducible refine haltC2 ?_)
theorem d2i_spec {w : World} {mg mb : Str → Option Value} {p : Program} {loose : List Str} {mean : ExcName → Option Value} {dp un : Nat} {gd : Option (List Code)} {cn : Str} {cs : Scope} {a : Addr} {ccd : Value} {cl : List (Str × Addr)} {outer : List Env} {A₀ : Around} {base h₀ : Heap} {L : Addr} {m : Str → Option Value} {s : Shared} {Q E : Value → Shared → Prop} {n : Int} {nN : Nat} {tn : Tok} {D : Addr} {vs : List Value} {ds : List Nat} {ep : Nat} {tb rest : List (Addr × Obj)}
  (B : Below A₀ base outer h₀) (F : Fr h₀ L s.heap m) (X : (hd1.heap_39 w.params).In h₀) (N : News h₀ L s.heap (tb ++ (D, W.listOf vs.toArray ep) :: rest)) (T : Top p loose mean mg mb h₀) (hk : cs.kind = .function) (hd : dp + 80 < recursionLimit) (hu : un + 700 < cLine)
  (tbs : TabD2 tb) (dj : ∀ p ∈ tb, ∀ q ∈ (D, W.listOf vs.toArray ep) :: rest, p.1 ≠ q.1) (C : CodeHd base 90 86) (hn : n = (nN : Int)) (hn0 : 0 < nN) (hn1 : nN ≤ 64) (hv : IntsAre vs (ds.map Int.ofNat)) (hlen : ds.length ≤ 64) (hb : ∀ d ∈ ds, d < 2 ^ nN)
  (ret : ∀ t tb' h' tk', Fr h₀ L h' m → News h₀ L h' (tb' ++ (D, W.listOf vs.toArray ep) :: rest) → TabD2 tb' → (∀ p ∈ tb', ∀ q ∈ (D, W.listOf vs.toArray ep) :: rest, p.1 ≠ q.1) → Q (.int (numD (2 ^ nN) ds : Nat) t) { s with heap := h', toks := tk' }) :
  wpAny (model PySem.Challenge.pw_pg0212_02 w) (ktrTop dp un gd cn cs L a ccd cl outer) (call (.ref 91) [.ref D, .int n tn]) Q E s := by
  subst hn
  have hl2 : (ds.map Int.ofNat).length = ds.length := List.length_map ..
  cases tbs with
  | nil =>
    simp only [List.cons_append, List.nil_append] at N
    have rD : ∀ p ∈ (D, W.listOf vs.toArray ep) :: rest, p.1 ≠ 86 := fun p hp => (dj _ (.head _) p hp).symm
    have r44 : ∀ p ∈ rest, p.1 ≠ 86 := fun p hp => rD p (.tail _ hp)
    have d44 : @Ne Nat D 86 := rD _ (.head _)
    refine wpAny_call ?_
    k_dflt (first
  | cell_enter
  | (refine' code_def ?k1 ?k2 ?k3 ?k4 ?k5 ?kA ?kF ?kK ?k6 ?k7 ?k8 ?k9 ?kB ?_ ?c2 ?c3 ?c4 ?c5; (case kA => exact rfl); (case kF => exact rfl); (case kK => first | assumption | exact rfl); (case k1 => k_asm); (case k2 => k_asm); (case k3 => k_asm); (case k4 => k_asm); (case k5 => k_asm); (case k6 => k_is); (case k7 => k_is); (case k8 => ktr_room); (case k9 => first | exact BindsTo.of_eq rfl | exact binds_K (by k_in) rfl (by k_is) rfl rfl rfl | fail "k_enter: no rule for these arguments"); (case c5 => decide); (case kB => exact locs rfl); (case c2 => exact rfl); (case c3 => exact rfl); (case c4 => exact rfl); k_whole; intro g' L' h' FG' F' N' B' X' T'; (try dsimp only); (try k_lift B'); (try k_fold))
  | (refine' code_defC ?k1 ?k2 ?k3 ?k4 ?k5 ?kA ?kF ?kK ?k6 ?k7 ?k8 ?k9 ?kB ?kD ?_ ?c2 ?c3 ?c4; (case kA => exact rfl); (case kF => exact rfl); (case kK => first | assumption | exact rfl); (case k1 => k_asm); (case k2 => k_asm); (case k3 => k_asm); (case k4 => k_asm); (case k5 => k_asm); (case k6 => k_is); (case k7 => k_is); (case k8 => ktr_room); (case k9 => first | exact BindsTo.of_eq rfl | exact binds_K (by k_in) rfl (by k_is) rfl rfl rfl | fail "k_enter: no rule for these arguments"); (case kB => exact rfl); (case kD => decide +kernel); (case c2 => exact rfl); (case c3 => exact rfl); (case c4 => exact rfl); k_whole; intro g9 L9 h9 tk9 cells9 FG9 F9 N9 Y9 B9 X9 T9 l9; (try k_lt l9); k_cells Y9; (try simp only [List.cons_append, List.nil_append] at N9); (try dsimp only); (try k_lift B9); (try k_fold)))
    (rename _ ∧ _ ∧ AllLt _ _ => l9; have hr9 := allLt_to l9.2.2; have l44 := l9.1; have lD := l9.2.1)
    k_steps
    · unfold Halt
      have H1 : DInnerC w nN ds.length := dinner_all hn0 hn1 ds.length (by omega) hlen
      unfold DInnerC at H1
      refine' H1 (rest := ((86 : Addr), _) :: rest) ?B ?F ?X ?N ?T ?hk ?hd ?hu ?hnd ?hoc ?hoc1 ?hI ?hA ?hN ?hv ?CH ?hlo ?hhi ?hle ?hlen ?hb ?ret
      (case B => k_asm)
      (case F => k_asm)
      (case X => k_asm)
      (case N => exact cb_drop (by k_asm) (List.forall_mem_cons.mpr ⟨by k_mem, List.forall_mem_cons.mpr ⟨by k_mem, List.forall_mem_cons.mpr ⟨by k_mem, List.forall_mem_cons.mpr ⟨by k_mem, List.forall_mem_cons.mpr ⟨by k_mem, List.forall_mem_cons.mpr ⟨by k_mem, List.forall_mem_cons.mpr ⟨by k_mem, fun p hp => by (repeat (first | exact hp | refine List.Mem.tail _ ?_))⟩⟩⟩⟩⟩⟩⟩))
      (case T => k_asm)
      (case hk => exact rfl)
      (case hd => (simp only [recursionLimit] at *; omega))
      (case hu => (simp only [cLine_is] at *; omega))
      (case hnd => exact rfl)
      (case hoc => assumption)
      (case hoc1 => assumption)
      (case hI => assumption)
      (case hA => (rename Obj.data _ = Data.cell (bindC _ _ _ (Str.ofString "digits")) => d9; exact d9))
      (case hN => (rename Obj.data _ = Data.cell (bindC _ _ _ (Str.ofString "n")) => d9; exact d9))
      (case hv => assumption)
      (case CH => assumption)
      (case hlo => rfl)
      (case hhi => omega)
      (case hle => omega)
      (case hlen => omega)
      (case hb => exact hb)
      intro t1 h1 tk1 F1 N1
      (try dsimp only)
      k_steps
      refine retE ?E1 (ret _ [((86 : Addr), _), (_, _)] _ _ (by k_asm) (cb_drop (by k_asm) (List.forall_mem_cons.mpr ⟨by k_mem, List.forall_mem_cons.mpr ⟨by k_mem, List.forall_mem_cons.mpr ⟨by k_mem, fun p hp => by (repeat (first | exact hp | refine List.Mem.tail _ ?_))⟩⟩⟩)) (TabD2.one (by assumption) (by assumption)) ?DJa)
      (case DJa => exact List.forall_mem_cons.mpr ⟨fun q hq => (rD q hq).symm, List.forall_mem_cons.mpr ⟨List.forall_mem_cons.mpr ⟨(by refine neN ?_; dsimp only; omega), fun q hq => by have := hr9 q hq; refine neN ?_; dsimp only; omega⟩, fun _ h => nomatch h⟩⟩)
      rw [part_all]
    · refine retE ?E2 (ret _ [((86 : Addr), _), (_, _)] _ _ (by k_asm) (cb_drop (by k_asm) (List.forall_mem_cons.mpr ⟨by k_mem, List.forall_mem_cons.mpr ⟨by k_mem, List.forall_mem_cons.mpr ⟨by k_mem, fun p hp => by (repeat (first | exact hp | refine List.Mem.tail _ ?_))⟩⟩⟩)) (TabD2.one (by assumption) (by assumption)) ?DJb)
      (case DJb => exact List.forall_mem_cons.mpr ⟨fun q hq => (rD q hq).symm, List.forall_mem_cons.mpr ⟨List.forall_mem_cons.mpr ⟨(by refine neN ?_; dsimp only; omega), fun q hq => by have := hr9 q hq; refine neN ?_; dsimp only; omega⟩, fun _ h => nomatch h⟩⟩)
      have e0 : ds = [] := List.length_eq_zero_iff.mp (by omega)
      subst e0; rfl
  | one hc hc1 =>
    simp only [List.cons_append, List.nil_append] at N
    have rD : ∀ p ∈ (D, W.listOf vs.toArray ep) :: rest, p.1 ≠ 86 := fun p hp => (dj _ (.head _) p hp).symm
    have r44 : ∀ p ∈ rest, p.1 ≠ 86 := fun p hp => rD p (.tail _ hp)
    have d44 : @Ne Nat D 86 := rD _ (.head _)
    have rc := fun p hp => (dj _ (.tail _ (.head _)) p hp).symm
    refine wpAny_call ?_
    k_dflt (first
  | cell_enter
  | (refine' code_def ?k1 ?k2 ?k3 ?k4 ?k5 ?kA ?kF ?kK ?k6 ?k7 ?k8 ?k9 ?kB ?_ ?c2 ?c3 ?c4 ?c5; (case kA => exact rfl); (case kF => exact rfl); (case kK => first | assumption | exact rfl); (case k1 => k_asm); (case k2 => k_asm); (case k3 => k_asm); (case k4 => k_asm); (case k5 => k_asm); (case k6 => k_is); (case k7 => k_is); (case k8 => ktr_room); (case k9 => first | exact BindsTo.of_eq rfl | exact binds_K (by k_in) rfl (by k_is) rfl rfl rfl | fail "k_enter: no rule for these arguments"); (case c5 => decide); (case kB => exact locs rfl); (case c2 => exact rfl); (case c3 => exact rfl); (case c4 => exact rfl); k_whole; intro g' L' h' FG' F' N' B' X' T'; (try dsimp only); (try k_lift B'); (try k_fold))
  | (refine' code_defC ?k1 ?k2 ?k3 ?k4 ?k5 ?kA ?kF ?kK ?k6 ?k7 ?k8 ?k9 ?kB ?kD ?_ ?c2 ?c3 ?c4; (case kA => exact rfl); (case kF => exact rfl); (case kK => first | assumption | exact rfl); (case k1 => k_asm); (case k2 => k_asm); (case k3 => k_asm); (case k4 => k_asm); (case k5 => k_asm); (case k6 => k_is); (case k7 => k_is); (case k8 => ktr_room); (case k9 => first | exact BindsTo.of_eq rfl | exact binds_K (by k_in) rfl (by k_is) rfl rfl rfl | fail "k_enter: no rule for these arguments"); (case kB => exact rfl); (case kD => decide +kernel); (case c2 => exact rfl); (case c3 => exact rfl); (case c4 => exact rfl); k_whole; intro g9 L9 h9 tk9 cells9 FG9 F9 N9 Y9 B9 X9 T9 l9; (try k_lt l9); k_cells Y9; (try simp only [List.cons_append, List.nil_append] at N9); (try dsimp only); (try k_lift B9); (try k_fold)))
    (rename _ ∧ _ ∧ _ ∧ AllLt _ _ => l9; have hr9 := allLt_to l9.2.2.2; have l44 := l9.1; have lc' := l9.2.1; have lD := l9.2.2.1)
    k_steps
    · unfold Halt
      have H1 : DInnerC w nN ds.length := dinner_all hn0 hn1 ds.length (by omega) hlen
      unfold DInnerC at H1
      refine' H1 (rest := ((86 : Addr), _) :: rest) ?B9 ?F9 ?X9 ?N9 ?T9 ?hk9 ?hd9 ?hu9 ?hnd9 ?hoc9 ?hoc19 ?hI9 ?hA9 ?hN9 ?hv9 ?CH9 ?hlo9 ?hhi9 ?hle9 ?hlen9 ?hb9 ?ret9
      (case B9 => k_asm)
      (case F9 => k_asm)
      (case X9 => k_asm)
      (case N9 => exact cb_drop (by k_asm) (List.forall_mem_cons.mpr ⟨by k_mem, List.forall_mem_cons.mpr ⟨by k_mem, List.forall_mem_cons.mpr ⟨by k_mem, List.forall_mem_cons.mpr ⟨by k_mem, List.forall_mem_cons.mpr ⟨by k_mem, List.forall_mem_cons.mpr ⟨by k_mem, List.forall_mem_cons.mpr ⟨by k_mem, fun p hp => by (repeat (first | exact hp | refine List.Mem.tail _ ?_))⟩⟩⟩⟩⟩⟩⟩))
      (case T9 => k_asm)
      (case hk9 => exact rfl)
      (case hd9 => (simp only [recursionLimit] at *; omega))
      (case hu9 => (simp only [cLine_is] at *; omega))
      (case hnd9 => exact rfl)
      (case hoc9 => assumption)
      (case hoc19 => assumption)
      (case hI9 => assumption)
      (case hA9 => (rename Obj.data _ = Data.cell (bindC _ _ _ (Str.ofString "digits")) => d9; exact d9))
      (case hN9 => (rename Obj.data _ = Data.cell (bindC _ _ _ (Str.ofString "n")) => d9; exact d9))
      (case hv9 => assumption)
      (case CH9 => assumption)
      (case hlo9 => rfl)
      (case hhi9 => omega)
      (case hle9 => omega)
      (case hlen9 => omega)
      (case hb9 => exact hb)
      intro t1 h1 tk1 F1 N1
      (try dsimp only)
      k_steps
      refine retE ?E19 (ret _ [((86 : Addr), _), (_, _)] _ _ (by k_asm) (cb_drop (by k_asm) (List.forall_mem_cons.mpr ⟨by k_mem, List.forall_mem_cons.mpr ⟨by k_mem, List.forall_mem_cons.mpr ⟨by k_mem, fun p hp => by (repeat (first | exact hp | refine List.Mem.tail _ ?_))⟩⟩⟩)) (TabD2.one hc hc1) ?DJa9)
      (case DJa9 => exact List.forall_mem_cons.mpr ⟨fun q hq => (rD q hq).symm, List.forall_mem_cons.mpr ⟨fun q hq => (rc q hq).symm, fun _ h => nomatch h⟩⟩)
      rw [part_all]
    · refine retE ?E29 (ret _ [((86 : Addr), _), (_, _)] _ _ (by k_asm) (cb_drop (by k_asm) (List.forall_mem_cons.mpr ⟨by k_mem, List.forall_mem_cons.mpr ⟨by k_mem, List.forall_mem_cons.mpr ⟨by k_mem, fun p hp => by (repeat (first | exact hp | refine List.Mem.tail _ ?_))⟩⟩⟩)) (TabD2.one hc hc1) ?DJb9)
      (case DJb9 => exact List.forall_mem_cons.mpr ⟨fun q hq => (rD q hq).symm, List.forall_mem_cons.mpr ⟨fun q hq => (rc q hq).symm, fun _ h => nomatch h⟩⟩)
      have e0 : ds = [] := List.length_eq_zero_iff.mp (by omega)
      subst e0; rfl
end
section
theorem div2_spec {w : World} {mg mb : Str → Option Value} {p : Program} {loose : List Str} {mean : ExcName → Option Value} {dp un : Nat} {gd : Option (List Code)} {cn : Str} {cs : Scope} {a : Addr} {ccd : Value} {cl : List (Str × Addr)} {outer : List Env} {A₀ : Around} {base h₀ : Heap} {L : Addr} {m : Str → Option Value} {s : Shared} {Q E : Value → Shared → Prop} {x y n : Int} {tx ty tn : Tok} {news : List (Addr × Obj)}
  (B : Below A₀ base outer h₀) (F : Fr h₀ L s.heap m) (X : (hd1.heap_39 w.params).In h₀) (N : News h₀ L s.heap news) (T : Top p loose mean mg mb h₀) (hk : cs.kind = .function) (hd : dp + 10 < recursionLimit) (hu : un + 80 < cLine)
  (hy : y ≠ 0) (hp : Builtin.divisionGoesByPylong x y = false) (hb : ((Builtin.Int.intBits x : Nat) : Int) - n ≤ 4000)
  (ret : ∀ D t1 t2 h' tk', Fr h₀ L h' m → News h₀ L h' ((D, { cls := .type "tuple", data := .seq #[.int (x.fdiv y) t1, .int (x.fmod y) t2] }) :: news) → (∀ p ∈ news, @LT.lt Nat _ p.1 D) → Q (.ref D) { s with heap := h', toks := tk' }) :
  wpAny (model PySem.Challenge.pw_pg0212_02 w) (ktrTop dp un gd cn cs L a ccd cl outer) (call (.ref 70) [.int x tx, .int y ty, .int n tn]) Q E s := by
  refine wpAny_call ?_
  k_dflt (first
  | cell_enter
  | (refine' code_def ?k1 ?k2 ?k3 ?k4 ?k5 ?kA ?kF ?kK ?k6 ?k7 ?k8 ?k9 ?kB ?_ ?c2 ?c3 ?c4 ?c5; (case kA => exact rfl); (case kF => exact rfl); (case kK => first | assumption | exact rfl); (case k1 => k_asm); (case k2 => k_asm); (case k3 => k_asm); (case k4 => k_asm); (case k5 => k_asm); (case k6 => k_is); (case k7 => k_is); (case k8 => ktr_room); (case k9 => first | exact BindsTo.of_eq rfl | exact binds_K (by k_in) rfl (by k_is) rfl rfl rfl | fail "k_enter: no rule for these arguments"); (case c5 => decide); (case kB => exact locs rfl); (case c2 => exact rfl); (case c3 => exact rfl); (case c4 => exact rfl); k_whole; intro g' L' h' FG' F' N' B' X' T'; (try dsimp only); (try k_lift B'); (try k_fold))
  | (refine' code_defC ?k1 ?k2 ?k3 ?k4 ?k5 ?kA ?kF ?kK ?k6 ?k7 ?k8 ?k9 ?kB ?kD ?_ ?c2 ?c3 ?c4; (case kA => exact rfl); (case kF => exact rfl); (case kK => first | assumption | exact rfl); (case k1 => k_asm); (case k2 => k_asm); (case k3 => k_asm); (case k4 => k_asm); (case k5 => k_asm); (case k6 => k_is); (case k7 => k_is); (case k8 => ktr_room); (case k9 => first | exact BindsTo.of_eq rfl | exact binds_K (by k_in) rfl (by k_is) rfl rfl rfl | fail "k_enter: no rule for these arguments"); (case kB => exact rfl); (case kD => decide +kernel); (case c2 => exact rfl); (case c3 => exact rfl); (case c4 => exact rfl); k_whole; intro g9 L9 h9 tk9 cells9 FG9 F9 N9 Y9 B9 X9 T9 l9; (try k_lt l9); k_cells Y9; (try simp only [List.cons_append, List.nil_append] at N9); (try dsimp only); (try k_lift B9); (try k_fold)))
  k_steps
  (rename News _ _ _ _ => n9; have lt9 := fun p hp => Heap.lt_size (n9 p hp).1)
  refine divmod_N (by k_asm) (by k_asm) hy (fun h9 F9 N9 => ?_) (Or.inl hp)
  (try dsimp only)
  k_steps
  exact ret _ _ _ _ _ (by k_asm) (by k_asm) lt9
end
section
local macro_rules | `(tactic| walk_at "call builtin:list.reverse") => `(tactic| refine Halt.of ?_)
local macro_rules | `(tactic| walk_at "binaryOp LShift int int") => `(tactic| (refine PyProof.Rows.lshift_int (by assumption) (by assumption) ?_))
local macro_rules | `(tactic| walk_at "call ref") => `(tactic| with_reducible refine haltC ?_)
local macro_rules | `(tactic| walk_at "exec For Name Call cons nil") => `(tactic| refine Halt.of ?_)
theorem dmp_spec {w : World} {mg mb : Str → Option Value} {p : Program} {loose : List Str} {mean : ExcName → Option Value} {dp un : Nat} {gd : Option (List Code)} {cn : Str} {cs : Scope} {a : Addr} {ccd : Value} {cl : List (Str × Addr)} {outer : List Env} {A₀ : Around} {base h₀ : Heap} {L : Addr} {m : Str → Option Value} {s : Shared} {Q E : Value → Shared → Prop} {x y : Int} {A Bn : Nat} {tx ty : Tok} {tb td rest : List (Addr × Obj)}
  (B : Below A₀ base outer h₀) (F : Fr h₀ L s.heap m) (X : (hd1.heap_39 w.params).In h₀) (N : News h₀ L s.heap (tb ++ (td ++ rest))) (T : Top p loose mean mg mb h₀) (hk : cs.kind = .function) (hd : dp + 100 < recursionLimit) (hu : un + 900 < cLine)
  (ti : TabI2 tb) (td2 : TabD2 td) (dj1 : ∀ p ∈ tb, ∀ q ∈ td ++ rest, p.1 ≠ q.1) (dj2 : ∀ p ∈ td, ∀ q ∈ rest, p.1 ≠ q.1) (CI : CodeHd base 83 79) (CD : CodeHd base 90 86) (hx : x = (A : Int)) (hy : y = (Bn : Int)) (hB : 0 < Bn) (hA2 : A < 2 ^ 30) (hB2 : Bn < 2 ^ 30)
  (ret : ∀ D t1 t2 tb' td' h' tk', Fr h₀ L h' m → News h₀ L h' ((D, { cls := .type "tuple", data := .seq #[.int ((A / Bn : Nat) : Int) t1, .int ((A % Bn : Nat) : Int) t2] }) :: (tb' ++ (td' ++ rest))) → TabI2 tb' → TabD2 td' → (∀ p ∈ tb', ∀ q ∈ td' ++ rest, p.1 ≠ q.1) → (∀ p ∈ td', ∀ q ∈ rest, p.1 ≠ q.1) → (∀ p ∈ tb' ++ (td' ++ rest), p.1 ≠ D) → Q (.ref D) { s with heap := h', toks := tk' }) :
  wpAny (model PySem.Challenge.pw_pg0212_02 w) (ktrTop dp un gd cn cs L a ccd cl outer) (call (.ref 98) [.int x tx, .int y ty]) Q E s := by
  subst hx hy
  refine wpAny_call ?_
  k_dflt (first
  | cell_enter
  | (refine' code_def ?k1 ?k2 ?k3 ?k4 ?k5 ?kA ?kF ?kK ?k6 ?k7 ?k8 ?k9 ?kB ?_ ?c2 ?c3 ?c4 ?c5; (case kA => exact rfl); (case kF => exact rfl); (case kK => first | assumption | exact rfl); (case k1 => k_asm); (case k2 => k_asm); (case k3 => k_asm); (case k4 => k_asm); (case k5 => k_asm); (case k6 => k_is); (case k7 => k_is); (case k8 => ktr_room); (case k9 => first | exact BindsTo.of_eq rfl | exact binds_K (by k_in) rfl (by k_is) rfl rfl rfl | fail "k_enter: no rule for these arguments"); (case c5 => decide); (case kB => exact locs rfl); (case c2 => exact rfl); (case c3 => exact rfl); (case c4 => exact rfl); k_whole; intro g' L' h' FG' F' N' B' X' T'; (try dsimp only); (try k_lift B'); (try k_fold))
  | (refine' code_defC ?k1 ?k2 ?k3 ?k4 ?k5 ?kA ?kF ?kK ?k6 ?k7 ?k8 ?k9 ?kB ?kD ?_ ?c2 ?c3 ?c4; (case kA => exact rfl); (case kF => exact rfl); (case kK => first | assumption | exact rfl); (case k1 => k_asm); (case k2 => k_asm); (case k3 => k_asm); (case k4 => k_asm); (case k5 => k_asm); (case k6 => k_is); (case k7 => k_is); (case k8 => ktr_room); (case k9 => first | exact BindsTo.of_eq rfl | exact binds_K (by k_in) rfl (by k_is) rfl rfl rfl | fail "k_enter: no rule for these arguments"); (case kB => exact rfl); (case kD => decide +kernel); (case c2 => exact rfl); (case c3 => exact rfl); (case c4 => exact rfl); k_whole; intro g9 L9 h9 tk9 cells9 FG9 F9 N9 Y9 B9 X9 T9 l9; (try k_lt l9); k_cells Y9; (try simp only [List.cons_append, List.nil_append] at N9); (try dsimp only); (try k_lift B9); (try k_fold)))
  k_steps
  unfold Halt
  have hn0 := bits_pos hB
  have hn1 := bits_le hB2
  have hBn := bits_lt Bn
  generalize Builtin.Int.intBits (Bn : Int) = nN at *
  have hAb : Builtin.Int.intBits (A : Int) ≤ 30 := bits_le hA2
  have hAl : A < 2 ^ Builtin.Int.intBits (A : Int) := bits_lt A
  obtain ⟨kq, hkq⟩ : ∃ kq, kq = (Builtin.Int.intBits (A : Int) + nN - 1) / nN := ⟨_, rfl⟩
  have hq : ((Builtin.Int.intBits (A : Int) : Nat) + (nN : Int) - 1).fdiv (nN : Int) = (kq : Int) := by
    rw [hkq, ← fdiv_nat]; congr 1; omega
  have hmul : Builtin.Int.intBits (A : Int) ≤ nN * kq := by
    rw [hkq]
    have h1 := Nat.div_add_mod (Builtin.Int.intBits (A : Int) + nN - 1) nN
    have h2 := Nat.mod_lt (Builtin.Int.intBits (A : Int) + nN - 1) hn0
    omega
  have hkq1 : kq ≤ 60 := by rw [hkq]; exact Nat.le_trans (Nat.div_le_self _ _) (by omega)
  have hX : A < 2 ^ (nN * kq) := Nat.lt_of_lt_of_le hAl (Nat.pow_le_pow_right (by decide) hmul)
  have hX0 : A = 0 → kq = 0 := by
    intro e; rw [hkq, e, bits_zero]; exact Nat.div_eq_of_lt (by omega)
  refine' i2d_spec (kq := kq) (nN := nN) (xN := A) ?B ?F ?X ?N ?T ?hk ?hd ?hu ti dj1 CI rfl rfl hn0 (by omega) hq (by omega) hX hX0 ?ret
  (case B => k_asm)
  (case F => k_asm)
  (case X => k_asm)
  (case N => k_asm)
  (case T => k_asm)
  (case hk => exact rfl)
  (case hd => (simp only [recursionLimit] at *; omega))
  (case hu => (simp only [cLine_is] at *; omega))
  intro D vs tb1 h1 tk1 F1 N1 iv1 ti1 dj3 lt1 ne1
  (try dsimp only)
  k_steps
  unfold Halt
  refine wpAny_For ?_
  k_steps
  rename_i Q hQ1 _ lQ hq2 I h3 F3 N3 _ l3
  have hlen : vs.length = kq := by rw [iv1.length, digs_length]
  rw [digs_map] at iv1
  obtain ⟨ds, hds⟩ : ∃ ds, ds = digsN (2 ^ nN) kq A := ⟨_, rfl⟩
  rw [← hds] at iv1
  have hdl : ds.length = kq := by rw [hds, digsN_length]
  have hdb : ∀ d ∈ ds, d < 2 ^ nN := hds ▸ digsN_lt (Nat.two_pow_pos _) kq A
  have hV : numD (2 ^ nN) ds = A := by rw [hds, numD_digsN, ← Nat.pow_mul, Nat.mod_eq_of_lt hX]
  obtain ⟨tr0, e0⟩ := fr_int (x := "r") (i := 0) F3 ⟨_, rfl⟩
  refine wpAny_pyIter_revIter (it := I) (l := D) (i := (vs.length : Int) - 1) ⟨_, (N3 _ (by k_mem)).1, rfl, rfl⟩ ?_
  (try dsimp only)
  refine' forI (L := _) (fun c : DmSt => (I, c.oI) :: (Q, W.listOf c.vq.toArray c.ep) :: (D, W.listOf vs.toArray 0) :: (tb1 ++ (td ++ rest))) (fun c => [("r", .int (c.r : Int) c.tr)]) ["a_digit", "q_digit"]
    (fun c => c.i ≤ kq ∧ c.oI.cls = .type "list_reverseiterator" ∧ c.oI.data = .fields #[.ref D, rawInt ((kq : Int) - 1 - c.i)] ∧ IntsAre c.vq (c.qs.map Int.ofNat) ∧ c.r = numD (2 ^ nN) (ds.drop (kq - c.i)) % Bn ∧
      numD (2 ^ nN) c.qs.reverse = numD (2 ^ nN) (ds.drop (kq - c.i)) / Bn ∧ (∀ q ∈ c.qs, q < 2 ^ nN) ∧ c.qs.length = c.i)
    (fun c => kq - c.i) ⟨0, 0, tr0, revObj D ((vs.length : Int) - 1), [], 0, []⟩ ?F9 ?N9 ?hk9 ?hr9 ?hp9 ?turn9
  (case F9 => exact F3)
  (case N9 => exact N3)
  (case hk9 => exact List.forall_mem_cons.mpr ⟨e0, fun _ h => nomatch h⟩)
  (case hr9 => exact fun z _ _ => rfl)
  (case hp9 =>
    refine ⟨Nat.zero_le _, rfl, ?_, .nil, ?_, ?_, (fun _ h => nomatch h), rfl⟩
    · show Data.fields #[Value.ref D, rawInt ((vs.length : Int) - 1)] = _
      rw [hlen]; simp
    · show 0 = numD (2 ^ nN) (ds.drop (kq - 0)) % Bn
      rw [Nat.sub_zero, ← hdl, List.drop_length]; simp [numD]
    · show numD (2 ^ nN) [] = numD (2 ^ nN) (ds.drop (kq - 0)) / Bn
      rw [Nat.sub_zero, ← hdl, List.drop_length]; simp [numD])
  have neQ : ∀ p ∈ tb1 ++ (td ++ rest), p.1 ≠ Q := fun p hp => Nat.ne_of_lt (allLt_to lQ.2 p hp)
  have neI : ∀ p ∈ tb1 ++ (td ++ rest), p.1 ≠ I := fun p hp => Nat.ne_of_lt (allLt_to l3.2.2 p hp)
  have nQD : @Ne Nat D Q := Nat.ne_of_lt lQ.1
  have nQI : @Ne Nat Q I := Nat.ne_of_lt l3.1
  have nDI : @Ne Nat D I := Nat.ne_of_lt l3.2.1
  intro c u h4 tk4 P4 F4 N4
  obtain ⟨hi, hc, hd, hiq, hr, hq9, hqlt, hql⟩ := P4
  by_cases hlast : c.i < kq
  · have e1 : (kq : Int) - 1 - c.i = ((kq - 1 - c.i : Nat) : Int) := by omega
    rw [e1] at hd
    obtain ⟨td9, hx9⟩ := ints_at iv1 (i := kq - 1 - c.i) (by omega)
    refine rev_item (i := kq - 1 - c.i) F4 N4 (by k_updF) hc hd (by k_mem) hx9 (fun h5 o5 F5 N5 hc5 hd5 => ?_)
    (try dsimp only at N5 ⊢)
    have hrB : c.r < Bn := hr ▸ Nat.mod_lt _ hB
    have hs0 : (0 : Int) ≤ (nN : Int) := by omega
    have hvl : c.vq.length = c.i := by rw [hiq.length, List.length_map, hql]
    have hsb : (Builtin.Int.intBits (c.r : Int) : Int) + (nN : Int) ≤ 2 ^ 27 := by
      have := bits_le (Nat.lt_trans hrB hB2)
      omega
    obtain ⟨d, hd0⟩ : ∃ d, d = ds.getD (kq - 1 - c.i) 0 := ⟨_, rfl⟩
    rw [← hd0]
    have hdlt : d < 2 ^ nN := by
      rw [hd0]
      refine hdb _ ?_
      rw [List.getD_eq_getElem?_getD, List.getElem?_eq_getElem (by omega)]
      exact List.getElem_mem _
    have hpow : 2 ^ nN ≤ 2 ^ 30 := Nat.pow_le_pow_right (by decide) hn1
    have hval : (c.r : Int) * 2 ^ ((nN : Int)).toNat + (d : Int) = ((c.r * 2 ^ nN + d : Nat) : Int) := by simp
    have hprod : c.r * 2 ^ nN + d < 2 ^ 61 := by
      have h1 : c.r * 2 ^ nN ≤ 2 ^ 30 * 2 ^ 30 := Nat.mul_le_mul (by omega) hpow
      omega
    have hbit : (Builtin.Int.intBits ((c.r : Int) * 2 ^ ((nN : Int)).toNat + (d : Int)) : Int) - (nN : Int) ≤ 4000 := by
      rw [hval]
      have := bits_le hprod
      omega
    k_steps
    unfold Halt
    refine' div2_spec ?Ba ?Fa ?Xa ?Na ?Ta ?hka ?hda ?hua ?hya ?hpa ?hba ?reta
    (case hya => omega)
    (case hpa => exact PyProof.noPylong_small (by omega))
    (case hba => exact hbit)
    (case Ba => k_asm)
    (case Fa => k_asm)
    (case Xa => k_asm)
    (case Na => k_asm)
    (case Ta => k_asm)
    (case hka => exact rfl)
    (case hda => (simp only [recursionLimit] at *; omega))
    (case hua => (simp only [cLine_is] at *; omega))
    intro T9 t1 t2 h6 tk6 F6 N6 lt6
    k_lt lt6
    (try dsimp only)
    k_steps
    have hdiv : ((c.r : Int) * 2 ^ ((nN : Int)).toNat + (d : Int)).fdiv (Bn : Int) = (((c.r * 2 ^ nN + d) / Bn : Nat) : Int) := by rw [hval, fdiv_nat]
    have hmod : ((c.r : Int) * 2 ^ ((nN : Int)).toNat + (d : Int)).fmod (Bn : Int) = (((c.r * 2 ^ nN + d) % Bn : Nat) : Int) := by rw [hval, fmod_nat]
    obtain ⟨ld1, ld2, ld3⟩ := longdiv (b := 2 ^ nN) (d := d) hB rfl hr hdlt
    have hdrop : ds.drop (kq - (c.i + 1)) = d :: ds.drop (kq - c.i) := by
      have := drop_one_more (ds := ds) (i := c.i) (by omega)
      rw [hdl] at this
      rw [this, hd0]
    refine ksw_end ⟨c.i + 1, (c.r * 2 ^ nN + d) % Bn, t2, o5, (c.vq.toArray.push (.int (((c.r : Int) * 2 ^ ((nN : Int)).toNat + (d : Int)).fdiv (Bn : Int)) t1)).toList, c.ep + 1, c.qs ++ [(c.r * 2 ^ nN + d) / Bn]⟩ (by k_asm) (by k_asm) ?hnb trivial ?hkb ?hrb ?hpb ?hmb
    (case hnb => exact List.forall_mem_cons.mpr ⟨by k_mem, List.forall_mem_cons.mpr ⟨by k_mem, List.forall_mem_cons.mpr ⟨by k_mem, fun p hp => by (repeat (first | exact hp | refine List.Mem.tail _ ?_))⟩⟩⟩)
    (case hkb => exact List.forall_mem_cons.mpr ⟨congrArg (fun z => some (Value.int z t2)) hmod, fun _ h => nomatch h⟩)
    (case hrb => (intro z h2 h3; simp only [List.forall_mem_cons, List.not_mem_nil, false_implies, implies_true, and_true, ne_eq] at h2; simp only [List.contains_cons, List.contains_nil, Bool.or_false, Bool.or_eq_false_iff, beq_eq_false_iff_ne, ne_eq] at h3; simp [kstB, h2, h3]))
    (case hmb => (dsimp only; omega))
    refine ⟨by dsimp only; omega, hc5, ?_, ?_, ?_, ?_, ?_, ?_⟩
    · have e : ((kq - 1 - c.i : Nat) : Int) - 1 = (kq : Int) - 1 - ((c.i + 1 : Nat) : Int) := by omega
      dsimp only; rw [hd5, e]
    · dsimp only
      rw [hdiv, Array.toList_push, List.map_append]
      exact IntsAre.append hiq (.cons _ _ .nil)
    · dsimp only; rw [hdrop, numD, ld2]
    · dsimp only
      rw [hdrop, numD, List.reverse_append, List.reverse_singleton, List.singleton_append, numD, hq9, ld1]
    · dsimp only
      intro q hq
      rcases List.mem_append.mp hq with hq | hq
      · exact hqlt q hq
      · rw [List.mem_singleton.mp hq]; exact ld3
    · dsimp only; rw [List.length_append, List.length_singleton, hql]
  · have hik : c.i = kq := by omega
    rw [hik, show (kq : Int) - 1 - kq = -1 by omega] at hd
    refine rev_end (nx := (Q, W.listOf c.vq.toArray c.ep) :: (D, W.listOf vs.toArray 0) :: (tb1 ++ (td ++ rest))) rfl F4 N4 (by k_mem) hc hd (fun p hp => .tail _ hp) (List.forall_mem_cons.mpr ⟨nQI, List.forall_mem_cons.mpr ⟨nDI, neI⟩⟩) (fun h5 F5 N5 => ?_)
    (try dsimp only)
    have hV0 : numD (2 ^ nN) (ds.drop (kq - c.i)) = A := by rw [hik, Nat.sub_self, List.drop_zero, hV]
    rw [hV0] at hr hq9
    have hvl : c.vq.toArray.toList.length ≤ sizeLine := by
      show c.vq.length ≤ sizeLine
      rw [hiq.length, List.length_map, hql, PySem.sizeLine_eq]; omega
    k_steps
    unfold Halt
    (k_here; k_dflt (refine' kl_reverse ?rvF ?rvN rfl ?rvU ?rvz ?_; (case rvF => k_asm); (case rvN => k_asm); (case rvU => k_upd); (case rvz => first | assumption | (simp only [List.size_toArray, PySem.sizeLine_eq]; omega))); intro h' F' N'; (try k_sweep))
    k_steps
    unfold Halt
    refine' d2i_spec (nN := nN) (ds := c.qs.reverse) (tb := td) (rest := tb1 ++ rest) ?Bb ?Fb ?Xb ?Nb ?Tb ?hkb1 ?hdb ?hub td2 ?djb CD rfl hn0 (by omega) ?hvb ?hlenb ?hbb ?retb
    (case Bb => k_asm)
    (case Fb => k_asm)
    (case Xb => k_asm)
    (case Tb => k_asm)
    (case Nb => exact cb_drop (by k_asm) (fun p hp => by
      rcases List.mem_append.mp hp with hp | hp
      · exact .tail _ (.tail _ (List.mem_append.mpr (.inr (List.mem_append.mpr (.inl hp)))))
      · rcases List.mem_cons.mp hp with rfl | hp
        · exact .head _
        · rcases List.mem_append.mp hp with hp | hp
          · exact .tail _ (.tail _ (List.mem_append.mpr (.inl hp)))
          · exact .tail _ (.tail _ (List.mem_append.mpr (.inr (List.mem_append.mpr (.inr hp)))))))
    (case hkb1 => exact rfl)
    (case hdb => (simp only [recursionLimit] at *; omega))
    (case hub => (simp only [cLine_is] at *; omega))
    (case djb => exact (fun p hp q hq => by
      rcases List.mem_cons.mp hq with rfl | hq
      · exact neQ p (List.mem_append.mpr (.inr (List.mem_append.mpr (.inl hp))))
      · rcases List.mem_append.mp hq with hq | hq
        · exact (dj3 q hq p (List.mem_append.mpr (.inl hp))).symm
        · exact dj2 p hp q hq))
    (case hvb => exact ints_rev hiq)
    (case hlenb => rw [List.length_reverse, hql]; omega)
    (case hbb => exact fun d hd => hqlt d (List.mem_reverse.mp hd))
    intro t9 td3 h6 tk6 F6 N6 td4 dj6
    (try dsimp only)
    rw [hq9]
    rw [hr] at F6
    k_steps
    (rename AllLt _ _ => l8)
    have sub : ∀ p ∈ tb1 ++ (td3 ++ rest), p ∈ td3 ++ (Q, W.listOf c.vq.toArray.toList.reverse.toArray c.ep) :: (tb1 ++ rest) := (fun p hp => by
      rcases List.mem_append.mp hp with hp | hp
      · exact List.mem_append.mpr (.inr (.tail _ (List.mem_append.mpr (.inl hp))))
      · rcases List.mem_append.mp hp with hp | hp
        · exact List.mem_append.mpr (.inl hp)
        · exact List.mem_append.mpr (.inr (.tail _ (List.mem_append.mpr (.inr hp)))))
    refine ret _ _ _ tb1 td3 _ _ (by k_asm) (cb_drop (by k_asm) (List.forall_mem_cons.mpr ⟨.head _, fun p hp => .tail _ (sub p hp)⟩)) ti1 td4 ?djc (fun p hp q hq => dj6 p hp q (.tail _ (List.mem_append.mpr (.inr hq)))) (fun p hp => Nat.ne_of_lt (allLt_to l8 p (sub p hp)))
    exact (fun p hp q hq => by
      rcases List.mem_append.mp hq with hq | hq
      · exact (dj6 q hq p (.tail _ (List.mem_append.mpr (.inl hp)))).symm
      · exact dj3 p hp q (List.mem_append.mpr (.inr hq)))
end
section
local macro_rules | `(tactic| walk_at "call ref") => `(tactic| with_reducible refine haltC ?_)
theorem idm_spec {w : World} {mg mb : Str → Option Value} {p : Program} {loose : List Str} {mean : ExcName → Option Value} {dp un : Nat} {gd : Option (List Code)} {cn : Str} {cs : Scope} {a : Addr} {ccd : Value} {cl : List (Str × Addr)} {outer : List Env} {A₀ : Around} {base h₀ : Heap} {L : Addr} {m : Str → Option Value} {s : Shared} {Q E : Value → Shared → Prop} {x y : Int} {A Bn : Nat} {tx ty : Tok} {tb td rest : List (Addr × Obj)}
  (B : Below A₀ base outer h₀) (F : Fr h₀ L s.heap m) (X : (hd1.heap_39 w.params).In h₀) (N : News h₀ L s.heap (tb ++ (td ++ rest))) (T : Top p loose mean mg mb h₀) (hk : cs.kind = .function) (hd : dp + 110 < recursionLimit) (hu : un + 1000 < cLine)
  (ti : TabI2 tb) (td2 : TabD2 td) (dj1 : ∀ p ∈ tb, ∀ q ∈ td ++ rest, p.1 ≠ q.1) (dj2 : ∀ p ∈ td, ∀ q ∈ rest, p.1 ≠ q.1) (CI : CodeHd base 83 79) (CD : CodeHd base 90 86) (hx : x = (A : Int)) (hy : y = (Bn : Int)) (hB : 0 < Bn) (hA2 : A < 2 ^ 30) (hB2 : Bn < 2 ^ 30)
  (ret : ∀ D t1 t2 tb' td' h' tk', Fr h₀ L h' m → News h₀ L h' ((D, { cls := .type "tuple", data := .seq #[.int ((A / Bn : Nat) : Int) t1, .int ((A % Bn : Nat) : Int) t2] }) :: (tb' ++ (td' ++ rest))) → TabI2 tb' → TabD2 td' → (∀ p ∈ tb', ∀ q ∈ td' ++ rest, p.1 ≠ q.1) → (∀ p ∈ td', ∀ q ∈ rest, p.1 ≠ q.1) → (∀ p ∈ tb' ++ (td' ++ rest), p.1 ≠ D) → Q (.ref D) { s with heap := h', toks := tk' }) :
  wpAny (model PySem.Challenge.pw_pg0212_02 w) (ktrTop dp un gd cn cs L a ccd cl outer) (call (.ref 105) [.int x tx, .int y ty]) Q E s := by
  subst hx hy
  refine wpAny_call ?_
  k_dflt (first
  | cell_enter
  | (refine' code_def ?k1 ?k2 ?k3 ?k4 ?k5 ?kA ?kF ?kK ?k6 ?k7 ?k8 ?k9 ?kB ?_ ?c2 ?c3 ?c4 ?c5; (case kA => exact rfl); (case kF => exact rfl); (case kK => first | assumption | exact rfl); (case k1 => k_asm); (case k2 => k_asm); (case k3 => k_asm); (case k4 => k_asm); (case k5 => k_asm); (case k6 => k_is); (case k7 => k_is); (case k8 => ktr_room); (case k9 => first | exact BindsTo.of_eq rfl | exact binds_K (by k_in) rfl (by k_is) rfl rfl rfl | fail "k_enter: no rule for these arguments"); (case c5 => decide); (case kB => exact locs rfl); (case c2 => exact rfl); (case c3 => exact rfl); (case c4 => exact rfl); k_whole; intro g' L' h' FG' F' N' B' X' T'; (try dsimp only); (try k_lift B'); (try k_fold))
  | (refine' code_defC ?k1 ?k2 ?k3 ?k4 ?k5 ?kA ?kF ?kK ?k6 ?k7 ?k8 ?k9 ?kB ?kD ?_ ?c2 ?c3 ?c4; (case kA => exact rfl); (case kF => exact rfl); (case kK => first | assumption | exact rfl); (case k1 => k_asm); (case k2 => k_asm); (case k3 => k_asm); (case k4 => k_asm); (case k5 => k_asm); (case k6 => k_is); (case k7 => k_is); (case k8 => ktr_room); (case k9 => first | exact BindsTo.of_eq rfl | exact binds_K (by k_in) rfl (by k_is) rfl rfl rfl | fail "k_enter: no rule for these arguments"); (case kB => exact rfl); (case kD => decide +kernel); (case c2 => exact rfl); (case c3 => exact rfl); (case c4 => exact rfl); k_whole; intro g9 L9 h9 tk9 cells9 FG9 F9 N9 Y9 B9 X9 T9 l9; (try k_lt l9); k_cells Y9; (try simp only [List.cons_append, List.nil_append] at N9); (try dsimp only); (try k_lift B9); (try k_fold)))
  k_steps
  unfold Halt
  refine' dmp_spec (A := A) (Bn := Bn) ?B ?F ?X ?N ?T ?hk ?hd ?hu ti td2 dj1 dj2 CI CD rfl rfl hB hA2 hB2 ?ret
  (case B => k_asm)
  (case F => k_asm)
  (case X => k_asm)
  (case N => k_asm)
  (case T => k_asm)
  (case hk => exact rfl)
  (case hd => (simp only [recursionLimit] at *; omega))
  (case hu => (simp only [cLine_is] at *; omega))
  intro D t1 t2 tb1 td1 h1 tk1 F1 N1 ti1 td3 dj3 dj4 ne1
  (try dsimp only)
  k_steps
  exact ret _ _ _ _ _ _ _ (by k_asm) (by k_asm) ti1 td3 dj3 dj4 ne1
end
section
theorem fn_of {K : Frag} {h₀ : Heap} (X : K.In h₀) {f : Addr} {oc : Value} {od : Option Addr} {fd : FuncData} {sl : Array (Option Value)} (h : K.lookup f = some ⟨oc, od, .func fd, sl⟩) : ∃ fo, h₀.get? f = some fo ∧ ∃ fd, fo.data = .func fd := ⟨_, X _ _ h, _, rfl⟩
theorem next_spec {w : World} {mg mb : Str → Option Value} {p : Program} {loose : List Str} {mean : ExcName → Option Value} {dp un : Nat} {gd : Option (List Code)} {cn : Str} {cs : Scope} {a : Addr} {ccd : Value} {cl : List (Str × Addr)} {outer : List Env} {A₀ : Around} {base h₀ : Heap} {L : Addr} {m : Str → Option Value} {s : Shared} {Q : Option Value → Shared → Prop} {E : Value → Shared → Prop} {x dx pb dS fS r cr cS S : Addr} {oc oS : Obj} {ocv : Array Value} {toc : Tok} {fd : FuncData} {nm qu : Str} {ps : Arguments} {bd : List Stmt} {sc : Scope} {dc pm ct : Value} {ln : Int} {n1 n2 n3 n4 n5 n6 n7 : Tok} {pd vs : List Value} {ep ep2 : Nat} {wsp : Str} {rest : List (Addr × Obj)} {I q : Addr} {tq : Tok} {ws : List Str}
  (B : Below A₀ base outer h₀) (F : Fr h₀ L s.heap m) (X : (hd1.heap_39 w.params).In h₀) (N : News h₀ L s.heap ((I, ciObj q tq) :: (q, methodObj (.ref 42) (.ref x)) :: (pb, W.listOf ([]).toArray ep) :: (x, instObj 59 dx) :: (dx, (dictOf [{ hash := PyData.keyHash w.params ("lineno" : Str), key := .str ("lineno" : Str) n1, val := .int ln n5 }, { hash := PyData.keyHash w.params ("instream" : Str), key := .str ("instream" : Str) n2, val := .ref fS }, { hash := PyData.keyHash w.params ("whitespace" : Str), key := .str ("whitespace" : Str) n3, val := .str wsp n6 }, { hash := PyData.keyHash w.params ("pushback" : Str), key := .str ("pushback" : Str) n4, val := .ref pb }] 4)) :: (dS, dictOf [{ hash := PyData.keyHash w.params ("read" : Str), key := .str ("read" : Str) n7, val := .ref r }] 1) :: (fS, ({ cls := .type "function", dict := some dS, data := .func fd } : Obj)) :: (r, fnMade nm qu ps bd sc [(("signs" : Str), cS)] dc pm cr ct) :: (cr, oc) :: (cS, oS) :: (S, W.listOf (vs).toArray ep2) :: rest)) (T : Top p loose mean mg mb h₀) (hk : cs.kind = .function) (hd : dp + 60 < recursionLimit) (hu : un + 440 < cLine)
  (hnd : nested PySem.Challenge.pw_pg0212_02 17 1 = some (nm, ps, bd, sc)) (hoc : oc.data = .fields ocv) (hoc1 : ocv[1]? = some (.str qu toc)) (hoS : oS.data = .cell (some (.ref S)))
  (o1 : @LT.lt Nat _ cS S) (o2 : @LT.lt Nat _ S r ∧ @Ne Nat cr S) (o3 : @LT.lt Nat _ cr r) (o4 : @LT.lt Nat _ r fS) (o5 : @LT.lt Nat _ fS dS) (o6 : @LT.lt Nat _ dS dx) (o7 : @LT.lt Nat _ dx x) (o8 : @LT.lt Nat _ x pb)
  (q1 : ∀ p ∈ rest, p.1 ≠ S) (q2 : ∀ p ∈ rest, p.1 ≠ dx) (q3 : ∀ p ∈ rest, p.1 ≠ pb)
  (o9 : @LT.lt Nat _ pb q) (oA : @LT.lt Nat _ q I) (q4 : ∀ p ∈ rest, p.1 ≠ I)
  (hsg : SgA vs ws) (hlen : vs.length ≤ 4000) (hne : ∀ c ∈ ws, c ≠ ("" : Str))
  (item : ∀ c wr vs' ln' n5' ep' h' tk' tr, ws = c :: wr → Fr h₀ L h' m → News h₀ L h' ((I, ciObj q tq) :: (q, methodObj (.ref 42) (.ref x)) :: (pb, W.listOf ([]).toArray ep) :: (x, instObj 59 dx) :: (dx, (dictOf [{ hash := PyData.keyHash w.params ("lineno" : Str), key := .str ("lineno" : Str) n1, val := .int ln' n5' }, { hash := PyData.keyHash w.params ("instream" : Str), key := .str ("instream" : Str) n2, val := .ref fS }, { hash := PyData.keyHash w.params ("whitespace" : Str), key := .str ("whitespace" : Str) n3, val := .str wsp n6 }, { hash := PyData.keyHash w.params ("pushback" : Str), key := .str ("pushback" : Str) n4, val := .ref pb }] 4)) :: (dS, dictOf [{ hash := PyData.keyHash w.params ("read" : Str), key := .str ("read" : Str) n7, val := .ref r }] 1) :: (fS, ({ cls := .type "function", dict := some dS, data := .func fd } : Obj)) :: (r, fnMade nm qu ps bd sc [(("signs" : Str), cS)] dc pm cr ct) :: (cr, oc) :: (cS, oS) :: (S, W.listOf (vs').toArray ep') :: rest) → SgA vs' wr → Q (some (.str c tr)) { s with heap := h', toks := tk' })
  (done : ∀ vs' ln' n5' ep' h' tk', ws = [] → Fr h₀ L h' m → News h₀ L h' ((I, ciEnded) :: (q, methodObj (.ref 42) (.ref x)) :: (pb, W.listOf ([]).toArray ep) :: (x, instObj 59 dx) :: (dx, (dictOf [{ hash := PyData.keyHash w.params ("lineno" : Str), key := .str ("lineno" : Str) n1, val := .int ln' n5' }, { hash := PyData.keyHash w.params ("instream" : Str), key := .str ("instream" : Str) n2, val := .ref fS }, { hash := PyData.keyHash w.params ("whitespace" : Str), key := .str ("whitespace" : Str) n3, val := .str wsp n6 }, { hash := PyData.keyHash w.params ("pushback" : Str), key := .str ("pushback" : Str) n4, val := .ref pb }] 4)) :: (dS, dictOf [{ hash := PyData.keyHash w.params ("read" : Str), key := .str ("read" : Str) n7, val := .ref r }] 1) :: (fS, ({ cls := .type "function", dict := some dS, data := .func fd } : Obj)) :: (r, fnMade nm qu ps bd sc [(("signs" : Str), cS)] dc pm cr ct) :: (cr, oc) :: (cS, oS) :: (S, W.listOf (vs').toArray ep') :: rest) → SgA vs' [] → Q none { s with heap := h', toks := tk' }) :
  wpAny (model PySem.Challenge.pw_pg0212_02 w) (ktrTop dp un gd cn cs L a ccd cl outer) (pyNext (.ref I)) Q E s := by
  obtain ⟨fo, h84, fd9, e84⟩ := fn_of X (f := 42) (by k_is)
  have hI := (N _ (List.mem_cons_self ..)).1
  have hq := (N _ (List.mem_cons_of_mem _ (List.mem_cons_self ..))).1
  have nI := (N _ (List.mem_cons_self ..)).2
  refine ci_next rfl hI hq (F.keep _ _ h84) e84 ?_
  refine' rc_code (dp := dp) (un := un + 1) (rest := (I, ciObj q tq) :: (q, methodObj (.ref 42) (.ref x)) :: rest) (ws := ws) (pd := []) B F X ?N T hk ?hd ?hu hnd hoc hoc1 hoS o1 o2 o3 o4 o5 o6 o7 o8 ?q1 ?q2 ?q3 hsg hlen ?ret
  case N => exact cb_drop N (List.forall_mem_cons.mpr ⟨by k_mem, List.forall_mem_cons.mpr ⟨by k_mem, List.forall_mem_cons.mpr ⟨by k_mem, List.forall_mem_cons.mpr ⟨by k_mem, List.forall_mem_cons.mpr ⟨by k_mem, List.forall_mem_cons.mpr ⟨by k_mem, List.forall_mem_cons.mpr ⟨by k_mem, List.forall_mem_cons.mpr ⟨by k_mem, List.forall_mem_cons.mpr ⟨by k_mem, List.forall_mem_cons.mpr ⟨by k_mem, List.forall_mem_cons.mpr ⟨by k_mem, fun p hp => by (repeat (first | exact hp | refine List.Mem.tail _ ?_))⟩⟩⟩⟩⟩⟩⟩⟩⟩⟩⟩)
  case hd => omega
  case hu => omega
  case q1 => exact List.forall_mem_cons.mpr ⟨by refine neN ?_; dsimp only; omega, List.forall_mem_cons.mpr ⟨by refine neN ?_; dsimp only; omega, q1⟩⟩
  case q2 => exact List.forall_mem_cons.mpr ⟨by refine neN ?_; dsimp only; omega, List.forall_mem_cons.mpr ⟨by refine neN ?_; dsimp only; omega, q2⟩⟩
  case q3 => exact List.forall_mem_cons.mpr ⟨by refine neN ?_; dsimp only; omega, List.forall_mem_cons.mpr ⟨by refine neN ?_; dsimp only; omega, q3⟩⟩
  intro vs' ln' n5' ep' h' tk' tr F' N' sg'
  refine ⟨_, tr, rfl, (N' (I, ciObj q tq) (by k_mem)).1, (N' (q, methodObj (.ref 42) (.ref x)) (by k_mem)).1, F'.keep _ _ h84, fun hc => ?_, fun hc h2 g2 x2 => ?_⟩
  · cases ws with
    | nil => cases hc
    | cons c wr =>
      exact item c wr _ _ _ _ _ _ _ rfl F' (cb_drop N' (List.forall_mem_cons.mpr ⟨by k_mem, List.forall_mem_cons.mpr ⟨by k_mem, List.forall_mem_cons.mpr ⟨by k_mem, List.forall_mem_cons.mpr ⟨by k_mem, List.forall_mem_cons.mpr ⟨by k_mem, List.forall_mem_cons.mpr ⟨by k_mem, List.forall_mem_cons.mpr ⟨by k_mem, List.forall_mem_cons.mpr ⟨by k_mem, List.forall_mem_cons.mpr ⟨by k_mem, List.forall_mem_cons.mpr ⟨by k_mem, List.forall_mem_cons.mpr ⟨by k_mem, fun p hp => by (repeat (first | exact hp | refine List.Mem.tail _ ?_))⟩⟩⟩⟩⟩⟩⟩⟩⟩⟩⟩)) sg'
  · cases ws with
    | cons c wr => exact absurd (eq_of_beq hc) (hne c (List.mem_cons_self ..))
    | nil =>
      have N2 := cb_drop (news := (q, methodObj (.ref 42) (.ref x)) :: ((pb, W.listOf ([]).toArray ep) :: (x, instObj 59 dx) :: (dx, (dictOf [{ hash := PyData.keyHash w.params ("lineno" : Str), key := .str ("lineno" : Str) n1, val := .int ln' n5' }, { hash := PyData.keyHash w.params ("instream" : Str), key := .str ("instream" : Str) n2, val := .ref fS }, { hash := PyData.keyHash w.params ("whitespace" : Str), key := .str ("whitespace" : Str) n3, val := .str wsp n6 }, { hash := PyData.keyHash w.params ("pushback" : Str), key := .str ("pushback" : Str) n4, val := .ref pb }] 4)) :: (dS, dictOf [{ hash := PyData.keyHash w.params ("read" : Str), key := .str ("read" : Str) n7, val := .ref r }] 1) :: (fS, ({ cls := .type "function", dict := some dS, data := .func fd } : Obj)) :: (r, fnMade nm qu ps bd sc [(("signs" : Str), cS)] dc pm cr ct) :: (cr, oc) :: (cS, oS) :: (S, W.listOf (vs').toArray ep') :: rest)) N' (List.forall_mem_cons.mpr ⟨by k_mem, List.forall_mem_cons.mpr ⟨by k_mem, List.forall_mem_cons.mpr ⟨by k_mem, List.forall_mem_cons.mpr ⟨by k_mem, List.forall_mem_cons.mpr ⟨by k_mem, List.forall_mem_cons.mpr ⟨by k_mem, List.forall_mem_cons.mpr ⟨by k_mem, List.forall_mem_cons.mpr ⟨by k_mem, List.forall_mem_cons.mpr ⟨by k_mem, List.forall_mem_cons.mpr ⟨by k_mem, fun p hp => by (repeat (first | exact hp | refine List.Mem.tail _ ?_))⟩⟩⟩⟩⟩⟩⟩⟩⟩⟩)
      refine done _ _ _ _ _ _ rfl (fr_extBut F' x2 (Ne.symm nI.1) nI.2) (List.forall_mem_cons.mpr ⟨⟨g2, nI⟩, news_extBut N2 x2 ?_⟩) sg'
      exact List.forall_mem_cons.mpr ⟨by refine neN ?_; dsimp only; omega, List.forall_mem_cons.mpr ⟨by refine neN ?_; dsimp only; omega, List.forall_mem_cons.mpr ⟨by refine neN ?_; dsimp only; omega, List.forall_mem_cons.mpr ⟨by refine neN ?_; dsimp only; omega, List.forall_mem_cons.mpr ⟨by refine neN ?_; dsimp only; omega, List.forall_mem_cons.mpr ⟨by refine neN ?_; dsimp only; omega, List.forall_mem_cons.mpr ⟨by refine neN ?_; dsimp only; omega, List.forall_mem_cons.mpr ⟨by refine neN ?_; dsimp only; omega, List.forall_mem_cons.mpr ⟨by refine neN ?_; dsimp only; omega, List.forall_mem_cons.mpr ⟨by refine neN ?_; dsimp only; omega, q4⟩⟩⟩⟩⟩⟩⟩⟩⟩⟩
end
section
local macro_rules | `(tactic| walk_at "call builtin:iter") => `(tactic| (k_here; (with_reducible show wpAny _ _ (call (Value.builtin "iter") [Value.ref _, Value.str _ _]) _ _ _); k_dflt (refine' ci_make ?F ?N ?q ?_; (case F => k_asm); (case N => k_asm); (case q => k_mem)); intro I' h' F' N' l1; (try k_lt l1)))
local macro_rules | `(tactic| walk_at "exec For Name Name cons nil") => `(tactic| refine Halt.of ?_)
local macro_rules | `(tactic| walk_at "call ref") => `(tactic| with_reducible refine haltC ?_)
theorem fits4000 {n : Nat} (h : n ≤ 4000) : n ≤ sizeLine := Nat.le_trans h (by rw [PySem.sizeLine_eq]; decide)
local macro_rules | `(tactic| walk_at "inplaceOp Add str str") => `(tactic| (k_here; (with_reducible show wpAny _ _ (inplaceOp _ (Value.str _ _) (Value.str _ _)) _ _ _); k_dflt (refine' PyProof.Rows.iadd_str ?_ ?z; (case z => exact fits4000 (by assumption))); intro t' tk'))
/-- a sign of the whitespace, as the model asks it -/
def inWs (wsp c : Str) : Bool := !(Builtin.Str.occurrences wsp c 0 wsp.length 1).isEmpty
/-- what is read within quotes: the token and the signs left -/
def gQ : List Str → Str → Str × List Str
  | [], t => (t, [])
  | c :: r, t => if (c == Str.ofString "\"") = true then (t, r) else if (c == Str.ofString "\\") = true then gQ r.tail (t ++ r.headD ("" : Str)) else gQ r (t ++ c)
termination_by l => l.length
decreasing_by
  · simp only [List.length_tail, List.length_cons]; omega
  · simp only [List.length_cons]; omega
theorem gQ_nil (t : Str) : gQ [] t = (t, []) := by rw [gQ]
theorem gQ_cons (c : Str) (r : List Str) (t : Str) : gQ (c :: r) t = if (c == Str.ofString "\"") = true then (t, r) else if (c == Str.ofString "\\") = true then gQ r.tail (t ++ r.headD ("" : Str)) else gQ r (t ++ c) := by rw [gQ]
/-- the rest of a bare word -/
def gW (wsp : Str) : List Str → Str → Str × List Str
  | [], t => (t, [])
  | c :: r, t => if inWs wsp c = true then (t, r) else if (c == Str.ofString "\\") = true then gW wsp r.tail (t ++ r.headD ("" : Str)) else gW wsp r (t ++ c)
termination_by l => l.length
decreasing_by
  · simp only [List.length_tail, List.length_cons]; omega
  · simp only [List.length_cons]; omega
theorem gW_nil (wsp t : Str) : gW wsp [] t = (t, []) := by rw [gW]
theorem gW_cons (wsp c : Str) (r : List Str) (t : Str) : gW wsp (c :: r) t = if inWs wsp c = true then (t, r) else if (c == Str.ofString "\\") = true then gW wsp r.tail (t ++ r.headD ("" : Str)) else gW wsp r (t ++ c) := by rw [gW]
/-- a token -/
def gO (wsp : Str) : List Str → Str → Str × List Str
  | [], t => (t, [])
  | c :: r, t => if inWs wsp c = true then gO wsp r t else if (c == Str.ofString "\"") = true then gQ r t else if (c == Str.ofString "\\") = true then gW wsp r.tail (t ++ r.headD ("" : Str)) else gW wsp r (t ++ c)
theorem inWs_t {wsp c : Str} (h : (Builtin.Str.occurrences wsp c 0 wsp.length 1).isEmpty = false) : inWs wsp c = true := by unfold inWs; rw [h]; rfl
theorem inWs_f {wsp c : Str} (h : (Builtin.Str.occurrences wsp c 0 wsp.length 1).isEmpty = true) : ¬ (inWs wsp c = true) := by unfold inWs; rw [h]; exact Bool.false_ne_true
theorem fr_str {h₀ h : Heap} {L : Addr} {m : Str → Option Value} {x : Str} {i : Str} (_ : Fr h₀ L h m) (e : ∃ t, m x = some (.str i t)) : ∃ t, m x = some (.str i t) := e
structure GtSt where
  live : Bool
  o : Obj
  vs : List Value
  ws : List Str
  ln : Int
  n5 : Tok
  ep : Nat
  tok : Str
  tt : Tok
theorem head_one {ws : List Str} (h : ∀ z ∈ ws, z.length = 1) : (ws.headD ("" : Str)).length ≤ 1 := by
  cases ws with
  | nil => exact Nat.zero_le _
  | cons c r => exact Nat.le_of_eq (h c (List.mem_cons_self ..))
theorem tail_all {P : Str → Prop} {ws : List Str} (h : ∀ z ∈ ws, P z) : ∀ z ∈ ws.tail, P z := fun z hz => h z (List.mem_of_mem_tail hz)
theorem len_head (ws : List Str) (h : ∀ z ∈ ws, z.length = 1) : (ws.headD ("" : Str)).length + ws.tail.length ≤ ws.length := by
  cases ws with
  | nil => exact Nat.le_refl _
  | cons c r => rw [List.headD_cons, List.tail_cons, List.length_cons, h c (List.mem_cons_self ..)]; omega
theorem News.here_ {h₀ h : Heap} {L : Addr} {p : Addr × Obj} {nx : List (Addr × Obj)} (N : News h₀ L h (p :: nx)) : h.get? p.1 = some p.2 ∧ p.1 ≠ L ∧ h₀.get? p.1 = none := N _ (List.mem_cons_self ..)
theorem gt_spec {w : World} {mg mb : Str → Option Value} {p : Program} {loose : List Str} {mean : ExcName → Option Value} {dp un : Nat} {gd : Option (List Code)} {cn : Str} {cs : Scope} {a : Addr} {ccd : Value} {cl : List (Str × Addr)} {outer : List Env} {A₀ : Around} {base h₀ : Heap} {L : Addr} {m : Str → Option Value} {s : Shared} {Q E : Value → Shared → Prop} {x dx pb dS fS r cr cS S : Addr} {oc oS : Obj} {ocv : Array Value} {toc : Tok} {fd : FuncData} {nm qu : Str} {ps : Arguments} {bd : List Stmt} {sc : Scope} {dc pm ct : Value} {ln : Int} {n1 n2 n3 n4 n5 n6 n7 : Tok} {pd vs : List Value} {ep ep2 : Nat} {wsp : Str} {rest : List (Addr × Obj)} {ws : List Str}
  (B : Below A₀ base outer h₀) (F : Fr h₀ L s.heap m) (X : (hd1.heap_39 w.params).In h₀) (N : News h₀ L s.heap ((pb, W.listOf ([]).toArray ep) :: (x, instObj 59 dx) :: (dx, (dictOf [{ hash := PyData.keyHash w.params ("lineno" : Str), key := .str ("lineno" : Str) n1, val := .int ln n5 }, { hash := PyData.keyHash w.params ("instream" : Str), key := .str ("instream" : Str) n2, val := .ref fS }, { hash := PyData.keyHash w.params ("whitespace" : Str), key := .str ("whitespace" : Str) n3, val := .str wsp n6 }, { hash := PyData.keyHash w.params ("pushback" : Str), key := .str ("pushback" : Str) n4, val := .ref pb }] 4)) :: (dS, dictOf [{ hash := PyData.keyHash w.params ("read" : Str), key := .str ("read" : Str) n7, val := .ref r }] 1) :: (fS, ({ cls := .type "function", dict := some dS, data := .func fd } : Obj)) :: (r, fnMade nm qu ps bd sc [(("signs" : Str), cS)] dc pm cr ct) :: (cr, oc) :: (cS, oS) :: (S, W.listOf (vs).toArray ep2) :: rest)) (T : Top p loose mean mg mb h₀) (hk : cs.kind = .function) (hd : dp + 80 < recursionLimit) (hu : un + 700 < cLine)
  (hnd : nested PySem.Challenge.pw_pg0212_02 17 1 = some (nm, ps, bd, sc)) (hoc : oc.data = .fields ocv) (hoc1 : ocv[1]? = some (.str qu toc)) (hoS : oS.data = .cell (some (.ref S)))
  (o1 : @LT.lt Nat _ cS S) (o2 : @LT.lt Nat _ S r ∧ @Ne Nat cr S) (o3 : @LT.lt Nat _ cr r) (o4 : @LT.lt Nat _ r fS) (o5 : @LT.lt Nat _ fS dS) (o6 : @LT.lt Nat _ dS dx) (o7 : @LT.lt Nat _ dx x) (o8 : @LT.lt Nat _ x pb)
  (q1 : ∀ p ∈ rest, p.1 ≠ S) (q2 : ∀ p ∈ rest, p.1 ≠ dx) (q3 : ∀ p ∈ rest, p.1 ≠ pb)
  (hsg : SgA vs ws) (hone : ∀ c ∈ ws, c.length = 1) (hlen : ws.length ≤ 4000) (ret : ∀ vs' ln' n5' ep' h' tk' tr, Fr h₀ L h' m → News h₀ L h' ((pb, W.listOf ([]).toArray ep) :: (x, instObj 59 dx) :: (dx, (dictOf [{ hash := PyData.keyHash w.params ("lineno" : Str), key := .str ("lineno" : Str) n1, val := .int ln' n5' }, { hash := PyData.keyHash w.params ("instream" : Str), key := .str ("instream" : Str) n2, val := .ref fS }, { hash := PyData.keyHash w.params ("whitespace" : Str), key := .str ("whitespace" : Str) n3, val := .str wsp n6 }, { hash := PyData.keyHash w.params ("pushback" : Str), key := .str ("pushback" : Str) n4, val := .ref pb }] 4)) :: (dS, dictOf [{ hash := PyData.keyHash w.params ("read" : Str), key := .str ("read" : Str) n7, val := .ref r }] 1) :: (fS, ({ cls := .type "function", dict := some dS, data := .func fd } : Obj)) :: (r, fnMade nm qu ps bd sc [(("signs" : Str), cS)] dc pm cr ct) :: (cr, oc) :: (cS, oS) :: (S, W.listOf (vs').toArray ep') :: rest) → SgA vs' (gO wsp ws ("" : Str)).2 → Q (.str (gO wsp ws ("" : Str)).1 tr) { s with heap := h', toks := tk' }) :
  wpAny (model PySem.Challenge.pw_pg0212_02 w) (ktrTop dp un gd cn cs L a ccd cl outer) (call (.ref 49) [.ref x]) Q E s := by
  refine wpAny_call ?_
  k_dflt (first
  | cell_enter
  | (refine' code_def ?k1 ?k2 ?k3 ?k4 ?k5 ?kA ?kF ?kK ?k6 ?k7 ?k8 ?k9 ?kB ?_ ?c2 ?c3 ?c4 ?c5; (case kA => exact rfl); (case kF => exact rfl); (case kK => first | assumption | exact rfl); (case k1 => k_asm); (case k2 => k_asm); (case k3 => k_asm); (case k4 => k_asm); (case k5 => k_asm); (case k6 => k_is); (case k7 => k_is); (case k8 => ktr_room); (case k9 => first | exact BindsTo.of_eq rfl | exact binds_K (by k_in) rfl (by k_is) rfl rfl rfl | fail "k_enter: no rule for these arguments"); (case c5 => decide); (case kB => exact locs rfl); (case c2 => exact rfl); (case c3 => exact rfl); (case c4 => exact rfl); k_whole; intro g' L' h' FG' F' N' B' X' T'; (try dsimp only); (try k_lift B'); (try k_fold))
  | (refine' code_defC ?k1 ?k2 ?k3 ?k4 ?k5 ?kA ?kF ?kK ?k6 ?k7 ?k8 ?k9 ?kB ?kD ?_ ?c2 ?c3 ?c4; (case kA => exact rfl); (case kF => exact rfl); (case kK => first | assumption | exact rfl); (case k1 => k_asm); (case k2 => k_asm); (case k3 => k_asm); (case k4 => k_asm); (case k5 => k_asm); (case k6 => k_is); (case k7 => k_is); (case k8 => ktr_room); (case k9 => first | exact BindsTo.of_eq rfl | exact binds_K (by k_in) rfl (by k_is) rfl rfl rfl | fail "k_enter: no rule for these arguments"); (case kB => exact rfl); (case kD => decide +kernel); (case c2 => exact rfl); (case c3 => exact rfl); (case c4 => exact rfl); k_whole; intro g9 L9 h9 tk9 cells9 FG9 F9 N9 Y9 B9 X9 T9 l9; (try k_lt l9); k_cells Y9; (try simp only [List.cons_append, List.nil_append] at N9); (try dsimp only); (try k_lift B9); (try k_fold)))
  k_steps
  unfold Halt
  refine wpAny_For ?_
  k_steps
  rename_i g9 L9 h9 FG B9 X9 T9 h8 q h1 _ lq I h2 _ lI h3 F2 N2
  obtain ⟨tq, N3⟩ : ∃ tq, News _ _ _ ((I, ciObj q tq) :: _) := ⟨_, N2⟩
  clear N2
  refine ci_iter ⟨_, (N3 _ (by k_mem)).1, rfl⟩ ?_
  (try dsimp only)
  have ht0 := fr_str (x := ("token" : Str)) (i := ("" : Str)) F2 ⟨_, rfl⟩
  obtain ⟨tt, htt⟩ := ht0
  refine' forI (L := _) (fun c : GtSt => ((I, c.o) :: (q, methodObj (.ref 42) (.ref x)) :: (pb, W.listOf ([]).toArray ep) :: (x, instObj 59 dx) :: (dx, (dictOf [{ hash := PyData.keyHash w.params ("lineno" : Str), key := .str ("lineno" : Str) n1, val := .int c.ln c.n5 }, { hash := PyData.keyHash w.params ("instream" : Str), key := .str ("instream" : Str) n2, val := .ref fS }, { hash := PyData.keyHash w.params ("whitespace" : Str), key := .str ("whitespace" : Str) n3, val := .str wsp n6 }, { hash := PyData.keyHash w.params ("pushback" : Str), key := .str ("pushback" : Str) n4, val := .ref pb }] 4)) :: (dS, dictOf [{ hash := PyData.keyHash w.params ("read" : Str), key := .str ("read" : Str) n7, val := .ref r }] 1) :: (fS, ({ cls := .type "function", dict := some dS, data := .func fd } : Obj)) :: (r, fnMade nm qu ps bd sc [(("signs" : Str), cS)] dc pm cr ct) :: (cr, oc) :: (cS, oS) :: (S, W.listOf (c.vs).toArray c.ep) :: rest)) (fun c => [("token", .str c.tok c.tt)]) ["ch"]
    (fun c => SgA c.vs c.ws ∧ (∀ z ∈ c.ws, z.length = 1) ∧ c.tok.length + c.ws.length ≤ 4000 ∧ ((c.live = true ∧ c.o = ciObj q tq ∧ gO wsp c.ws c.tok = gO wsp ws ("" : Str)) ∨ (c.live = false ∧ c.o = ciEnded ∧ gO wsp ws ("" : Str) = (c.tok, c.ws))))
    (fun c => if c.live then c.ws.length + 1 else 0) ⟨true, ciObj q tq, vs, ws, ln, n5, ep2, ("" : Str), tt⟩ ?F9 ?N9 ?hk9 ?hr9 ?hp9 ?turn9
  (case F9 => exact F2)
  (case N9 => exact N3)
  (case hk9 => exact List.forall_mem_cons.mpr ⟨htt, fun _ h => nomatch h⟩)
  (case hr9 => exact fun z _ _ => rfl)
  (case hp9 => exact ⟨hsg, hone, by dsimp only; rw [show (("" : Str).length) = 0 from rfl]; omega, .inl ⟨rfl, rfl, rfl⟩⟩)
  intro c u h4 tk4 P4 F4 N4
  obtain ⟨sg4, on4, ln4, li4⟩ := P4
  rcases li4 with ⟨lv, eo, er⟩ | ⟨lv, eo, er⟩
  · rw [eo] at N4
    refine' next_spec (pd := []) (ws := c.ws) ?B ?F ?X ?N ?T ?hk ?hd ?hu hnd hoc hoc1 hoS o1 o2 o3 o4 o5 o6 o7 o8 q1 q2 q3 ?o9 ?oA ?q4 sg4 ?hl ?hne ?item ?done
    (case B => k_asm)
    (case F => k_asm)
    (case X => k_asm)
    (case N => k_asm)
    (case T => k_asm)
    (case hk => rfl)
    (case hd => simp only [recursionLimit] at *; omega)
    (case hu => simp only [cLine_is] at *; omega)
    (case o9 => omega)
    (case oA => omega)
    (case q4 => exact fun p hp => Nat.ne_of_lt (allLt_to lI.2.2.2.2.2.2.2.2.2.2 p hp))
    (case hl => rw [sg4.length]; omega)
    (case hne => intro z hz e; have := on4 z hz; rw [e] at this; cases this)
    case item =>
      intro z wr vs5 ln5 n55 ep5 h5 tk5 tr5 ew F5 N5 sg5
      have on5 : ∀ y ∈ wr, y.length = 1 := fun y hy => on4 y (by rw [ew]; exact List.mem_cons_of_mem _ hy)
      have z1 : z.length = 1 := on4 z (by rw [ew]; exact List.mem_cons_self ..)
      have zl : c.ws.length = wr.length + 1 := by rw [ew, List.length_cons]
      have tz : c.tok.length + z.length ≤ 4000 := by omega
      have hh5 := head_one on5
      have hl5 := len_head wr on5
      have tzh : c.tok.length + (wr.headD ("" : Str)).length ≤ 4000 := by omega
      rw [ew, gO] at er
      k_steps
      · (rename (Builtin.Str.occurrences _ _ _ _ _).isEmpty = _ => a1)
        (rename (_ == Str.ofString "\"") = _ => a2)
        rw [if_neg (inWs_f a1), if_pos a2] at er
        unfold Halt
        refine wpAny_For ?_
        k_steps
        (rename Fr _ _ _ _ => F6)
        (rename News _ _ _ _ => N6)
        refine ci_iter ⟨_, (N6 (I, ciObj q tq) (by k_mem)).1, rfl⟩ ?_
        (try dsimp only)
        obtain ⟨tt6, htt6⟩ := fr_str (x := ("token" : Str)) F6 ⟨_, rfl⟩
        refine' forI (L := _) (fun c : GtSt => ((I, ciObj q tq) :: (q, methodObj (.ref 42) (.ref x)) :: (pb, W.listOf ([]).toArray ep) :: (x, instObj 59 dx) :: (dx, (dictOf [{ hash := PyData.keyHash w.params ("lineno" : Str), key := .str ("lineno" : Str) n1, val := .int c.ln c.n5 }, { hash := PyData.keyHash w.params ("instream" : Str), key := .str ("instream" : Str) n2, val := .ref fS }, { hash := PyData.keyHash w.params ("whitespace" : Str), key := .str ("whitespace" : Str) n3, val := .str wsp n6 }, { hash := PyData.keyHash w.params ("pushback" : Str), key := .str ("pushback" : Str) n4, val := .ref pb }] 4)) :: (dS, dictOf [{ hash := PyData.keyHash w.params ("read" : Str), key := .str ("read" : Str) n7, val := .ref r }] 1) :: (fS, ({ cls := .type "function", dict := some dS, data := .func fd } : Obj)) :: (r, fnMade nm qu ps bd sc [(("signs" : Str), cS)] dc pm cr ct) :: (cr, oc) :: (cS, oS) :: (S, W.listOf (c.vs).toArray c.ep) :: rest)) (fun c => [("token", .str c.tok c.tt)]) ["ch"]
          (fun c => SgA c.vs c.ws ∧ (∀ z ∈ c.ws, z.length = 1) ∧ c.tok.length + c.ws.length ≤ 4000 ∧ gQ c.ws c.tok = gO wsp ws ("" : Str))
          (fun c => c.ws.length) ⟨true, ciObj q tq, vs5, wr, ln5, n55, ep5, c.tok, tt6⟩ ?F9_i1 ?N9_i1 ?hk9_i1 ?hr9_i1 ?hp9_i1 ?turn9_i1
        (case F9_i1 => exact F6)
        (case N9_i1 => exact cb_drop N6 (List.forall_mem_cons.mpr ⟨by k_mem, List.forall_mem_cons.mpr ⟨by k_mem, List.forall_mem_cons.mpr ⟨by k_mem, List.forall_mem_cons.mpr ⟨by k_mem, List.forall_mem_cons.mpr ⟨by k_mem, List.forall_mem_cons.mpr ⟨by k_mem, List.forall_mem_cons.mpr ⟨by k_mem, List.forall_mem_cons.mpr ⟨by k_mem, List.forall_mem_cons.mpr ⟨by k_mem, List.forall_mem_cons.mpr ⟨by k_mem, List.forall_mem_cons.mpr ⟨by k_mem, fun p hp => by (repeat (first | exact hp | refine List.Mem.tail _ ?_))⟩⟩⟩⟩⟩⟩⟩⟩⟩⟩⟩))
        (case hk9_i1 => exact List.forall_mem_cons.mpr ⟨htt6, fun _ h => nomatch h⟩)
        (case hr9_i1 => exact fun z _ _ => rfl)
        (case hp9_i1 => exact ⟨sg5, on5, by dsimp only; omega, er⟩)
        intro d u6 h6 tk6 P6 F7 N7
        obtain ⟨sg6, on6, ln6, er6⟩ := P6
        refine' next_spec (pd := []) (ws := d.ws) ?B_i1 ?F_i1 ?X_i1 ?N_i1 ?T_i1 ?hk_i1 ?hd_i1 ?hu_i1 hnd hoc hoc1 hoS o1 o2 o3 o4 o5 o6 o7 o8 q1 q2 q3 ?o9_i1 ?oA_i1 ?q4_i1 sg6 ?hl_i1 ?hne_i1 ?item_i1 ?done_i1
        (case B_i1 => k_asm)
        (case F_i1 => k_asm)
        (case X_i1 => k_asm)
        (case N_i1 => k_asm)
        (case T_i1 => k_asm)
        (case hk_i1 => rfl)
        (case hd_i1 => simp only [recursionLimit] at *; omega)
        (case hu_i1 => simp only [cLine_is] at *; omega)
        (case o9_i1 => omega)
        (case oA_i1 => omega)
        (case q4_i1 => exact fun p hp => Nat.ne_of_lt (allLt_to lI.2.2.2.2.2.2.2.2.2.2 p hp))
        (case hl_i1 => rw [sg6.length]; omega)
        (case hne_i1 => intro z hz e; have := on6 z hz; rw [e] at this; cases this)
        case item_i1 =>
          intro y yr vs7 ln7 n57 ep7 h7 tk7 tr7 ew7 F8 N8 sg7
          have on7 : ∀ z ∈ yr, z.length = 1 := fun z hz => on6 z (by rw [ew7]; exact List.mem_cons_of_mem _ hz)
          have y1 : y.length = 1 := on6 y (by rw [ew7]; exact List.mem_cons_self ..)
          have yl : d.ws.length = yr.length + 1 := by rw [ew7, List.length_cons]
          have ty : d.tok.length + y.length ≤ 4000 := by omega
          have hh := head_one on7
          have hl7 := len_head yr on7
          have tyh : d.tok.length + (yr.headD ("" : Str)).length ≤ 4000 := by omega
          rw [ew7, gQ_cons] at er6
          k_steps
          · (rename (_ == Str.ofString "\"") = _ => a1)
            rw [if_pos a1] at er6
            rw [← er6] at ret
            exact ret _ _ _ _ _ _ _ (by k_asm) (cb_drop (by k_asm) (List.forall_mem_cons.mpr ⟨by k_mem, List.forall_mem_cons.mpr ⟨by k_mem, List.forall_mem_cons.mpr ⟨by k_mem, List.forall_mem_cons.mpr ⟨by k_mem, List.forall_mem_cons.mpr ⟨by k_mem, List.forall_mem_cons.mpr ⟨by k_mem, List.forall_mem_cons.mpr ⟨by k_mem, List.forall_mem_cons.mpr ⟨by k_mem, List.forall_mem_cons.mpr ⟨by k_mem, fun p hp => by (repeat (first | exact hp | refine List.Mem.tail _ ?_))⟩⟩⟩⟩⟩⟩⟩⟩⟩)) sg7
          · (rename (_ == Str.ofString "\"") = _ => a1)
            (rename (_ == Str.ofString "\\") = _ => a2)
            rw [if_neg (by rw [a1]; exact Bool.false_ne_true), if_pos a2] at er6
            unfold Halt
            (try dsimp only [List.nil_append, List.cons_append])
            refine' rc_spec (rest := (I, ciObj q tq) :: (q, methodObj (.ref 42) (.ref x)) :: rest) (pd := []) ?B_r_i1 ?F_r_i1 ?X_r_i1 ?N_r_i1 ?T_r_i1 ?hk_r_i1 ?hd_r_i1 ?hu_r_i1 hnd hoc hoc1 hoS o1 o2 o3 o4 o5 o6 o7 o8 ?q1_r_i1 ?q2_r_i1 ?q3_r_i1 sg7 ?hl_r_i1 ?ret_r_i1
            (case B_r_i1 => k_asm)
            (case F_r_i1 => k_asm)
            (case X_r_i1 => k_asm)
            (case N_r_i1 => exact cb_drop (by k_asm) (List.forall_mem_cons.mpr ⟨by k_mem, List.forall_mem_cons.mpr ⟨by k_mem, List.forall_mem_cons.mpr ⟨by k_mem, List.forall_mem_cons.mpr ⟨by k_mem, List.forall_mem_cons.mpr ⟨by k_mem, List.forall_mem_cons.mpr ⟨by k_mem, List.forall_mem_cons.mpr ⟨by k_mem, List.forall_mem_cons.mpr ⟨by k_mem, List.forall_mem_cons.mpr ⟨by k_mem, List.forall_mem_cons.mpr ⟨by k_mem, List.forall_mem_cons.mpr ⟨by k_mem, fun p hp => by (repeat (first | exact hp | refine List.Mem.tail _ ?_))⟩⟩⟩⟩⟩⟩⟩⟩⟩⟩⟩))
            (case T_r_i1 => k_asm)
            (case hk_r_i1 => rfl)
            (case hd_r_i1 => simp only [recursionLimit] at *; omega)
            (case hu_r_i1 => simp only [cLine_is] at *; omega)
            (case q1_r_i1 => exact List.forall_mem_cons.mpr ⟨by refine neN ?_; dsimp only; omega, List.forall_mem_cons.mpr ⟨by refine neN ?_; dsimp only; omega, q1⟩⟩)
            (case q2_r_i1 => exact List.forall_mem_cons.mpr ⟨by refine neN ?_; dsimp only; omega, List.forall_mem_cons.mpr ⟨by refine neN ?_; dsimp only; omega, q2⟩⟩)
            (case q3_r_i1 => exact List.forall_mem_cons.mpr ⟨by refine neN ?_; dsimp only; omega, List.forall_mem_cons.mpr ⟨by refine neN ?_; dsimp only; omega, q3⟩⟩)
            (case hl_r_i1 => rw [sg7.length]; omega)
            intro vs8 ln8 n58 ep8 h8 tk8 tr8 F9 N9 sg8
            (try dsimp only)
            k_steps
            (rename Fr _ _ _ _ => Fz9)
            obtain ⟨tz9, htz9⟩ := fr_str (x := ("token" : Str)) (i := (d.tok ++ yr.headD ("" : Str))) Fz9 ⟨_, rfl⟩
            refine ksw_end ⟨true, ciObj q tq, vs8, yr.tail, ln8, n58, ep8, d.tok ++ yr.headD ("" : Str), tz9⟩ (by k_asm) (by k_asm) ?hnb_i1 trivial ?hkb_i1 ?hrb_i1 ?hpb_i1 ?hmb_i1
            (case hnb_i1 => exact List.forall_mem_cons.mpr ⟨by k_mem, List.forall_mem_cons.mpr ⟨by k_mem, List.forall_mem_cons.mpr ⟨by k_mem, List.forall_mem_cons.mpr ⟨by k_mem, List.forall_mem_cons.mpr ⟨by k_mem, List.forall_mem_cons.mpr ⟨by k_mem, List.forall_mem_cons.mpr ⟨by k_mem, List.forall_mem_cons.mpr ⟨by k_mem, List.forall_mem_cons.mpr ⟨by k_mem, List.forall_mem_cons.mpr ⟨by k_mem, List.forall_mem_cons.mpr ⟨by k_mem, fun p hp => by (repeat (first | exact hp | refine List.Mem.tail _ ?_))⟩⟩⟩⟩⟩⟩⟩⟩⟩⟩⟩)
            (case hkb_i1 => exact List.forall_mem_cons.mpr ⟨htz9, fun _ h => nomatch h⟩)
            (case hrb_i1 => (intro z h2 h3; simp only [List.forall_mem_cons, List.not_mem_nil, false_implies, implies_true, and_true, ne_eq] at h2; simp only [List.contains_cons, List.contains_nil, Bool.or_false, Bool.or_eq_false_iff, beq_eq_false_iff_ne, ne_eq] at h3; simp [kstB, h2, h3]))
            (case hmb_i1 => (dsimp only; rw [List.length_tail]; omega))
            exact ⟨sg8, tail_all on7, by dsimp only; rw [Str.length_append]; omega, er6⟩
          · (rename (_ == Str.ofString "\"") = _ => a1)
            (rename (_ == Str.ofString "\\") = _ => a2)
            rw [if_neg (by rw [a1]; exact Bool.false_ne_true), if_neg (by rw [a2]; exact Bool.false_ne_true)] at er6
            (rename Fr _ _ _ _ => Fz9)
            obtain ⟨tz9, htz9⟩ := fr_str (x := ("token" : Str)) (i := (d.tok ++ y)) Fz9 ⟨_, rfl⟩
            refine ksw_end ⟨true, ciObj q tq, vs7, yr, ln7, n57, ep7, d.tok ++ y, tz9⟩ (by k_asm) (by k_asm) ?hnb_y_i1 trivial ?hkb_y_i1 ?hrb_y_i1 ?hpb_y_i1 ?hmb_y_i1
            (case hnb_y_i1 => exact List.forall_mem_cons.mpr ⟨by k_mem, List.forall_mem_cons.mpr ⟨by k_mem, List.forall_mem_cons.mpr ⟨by k_mem, List.forall_mem_cons.mpr ⟨by k_mem, List.forall_mem_cons.mpr ⟨by k_mem, List.forall_mem_cons.mpr ⟨by k_mem, List.forall_mem_cons.mpr ⟨by k_mem, List.forall_mem_cons.mpr ⟨by k_mem, List.forall_mem_cons.mpr ⟨by k_mem, List.forall_mem_cons.mpr ⟨by k_mem, List.forall_mem_cons.mpr ⟨by k_mem, fun p hp => by (repeat (first | exact hp | refine List.Mem.tail _ ?_))⟩⟩⟩⟩⟩⟩⟩⟩⟩⟩⟩)
            (case hkb_y_i1 => exact List.forall_mem_cons.mpr ⟨htz9, fun _ h => nomatch h⟩)
            (case hrb_y_i1 => (intro z h2 h3; simp only [List.forall_mem_cons, List.not_mem_nil, false_implies, implies_true, and_true, ne_eq] at h2; simp only [List.contains_cons, List.contains_nil, Bool.or_false, Bool.or_eq_false_iff, beq_eq_false_iff_ne, ne_eq] at h3; simp [kstB, h2, h3]))
            (case hmb_y_i1 => (dsimp only; omega))
            exact ⟨sg7, on7, by dsimp only; rw [Str.length_append]; omega, er6⟩
        case done_i1 =>
          intro vs7 ln7 n57 ep7 h7 tk7 ew7 F8 N8 sg7
          rw [ew7, gQ_nil] at er6
          k_steps
          refine ksw_end ⟨false, ciEnded, vs7, [], ln7, n57, ep7, d.tok, d.tt⟩ (by k_asm) (by k_asm) ?hnb_z_i1 trivial ?hkb_z_i1 ?hrb_z_i1 ?hpb_z_i1 ?hmb_z_i1
          (case hnb_z_i1 => exact List.forall_mem_cons.mpr ⟨by k_mem, List.forall_mem_cons.mpr ⟨by k_mem, List.forall_mem_cons.mpr ⟨by k_mem, List.forall_mem_cons.mpr ⟨by k_mem, List.forall_mem_cons.mpr ⟨by k_mem, List.forall_mem_cons.mpr ⟨by k_mem, List.forall_mem_cons.mpr ⟨by k_mem, List.forall_mem_cons.mpr ⟨by k_mem, List.forall_mem_cons.mpr ⟨by k_mem, List.forall_mem_cons.mpr ⟨by k_mem, List.forall_mem_cons.mpr ⟨by k_mem, fun p hp => by (repeat (first | exact hp | refine List.Mem.tail _ ?_))⟩⟩⟩⟩⟩⟩⟩⟩⟩⟩⟩)
          (case hkb_z_i1 => exact List.forall_mem_cons.mpr ⟨rfl, fun _ h => nomatch h⟩)
          (case hrb_z_i1 => (intro z h2 h3; simp only [List.forall_mem_cons, List.not_mem_nil, false_implies, implies_true, and_true, ne_eq] at h2; simp only [List.contains_cons, List.contains_nil, Bool.or_false, Bool.or_eq_false_iff, beq_eq_false_iff_ne, ne_eq] at h3; simp [kstB, h2, h3]))
          (case hmb_z_i1 => (dsimp only; rw [lv]; simp))
          exact ⟨sg7, (fun _ h => nomatch h), by dsimp only [List.length_nil]; omega, .inr ⟨rfl, rfl, er6.symm⟩⟩
      · (rename (Builtin.Str.occurrences _ _ _ _ _).isEmpty = _ => a1)
        (rename (_ == Str.ofString "\"") = _ => a2)
        (rename (_ == Str.ofString "\\") = _ => a3)
        rw [if_neg (inWs_f a1), if_neg (by rw [a2]; exact Bool.false_ne_true), if_pos a3] at er
        unfold Halt
        (try dsimp only [List.nil_append, List.cons_append])
        refine' rc_spec (rest := (I, ciObj q tq) :: (q, methodObj (.ref 42) (.ref x)) :: rest) (pd := []) ?B_o ?F_o ?X_o ?N_o ?T_o ?hk_o ?hd_o ?hu_o hnd hoc hoc1 hoS o1 o2 o3 o4 o5 o6 o7 o8 ?q1_o ?q2_o ?q3_o sg5 ?hl_o ?ret_o
        (case B_o => k_asm)
        (case F_o => k_asm)
        (case X_o => k_asm)
        (case N_o => exact cb_drop (by k_asm) (List.forall_mem_cons.mpr ⟨by k_mem, List.forall_mem_cons.mpr ⟨by k_mem, List.forall_mem_cons.mpr ⟨by k_mem, List.forall_mem_cons.mpr ⟨by k_mem, List.forall_mem_cons.mpr ⟨by k_mem, List.forall_mem_cons.mpr ⟨by k_mem, List.forall_mem_cons.mpr ⟨by k_mem, List.forall_mem_cons.mpr ⟨by k_mem, List.forall_mem_cons.mpr ⟨by k_mem, List.forall_mem_cons.mpr ⟨by k_mem, List.forall_mem_cons.mpr ⟨by k_mem, fun p hp => by (repeat (first | exact hp | refine List.Mem.tail _ ?_))⟩⟩⟩⟩⟩⟩⟩⟩⟩⟩⟩))
        (case T_o => k_asm)
        (case hk_o => rfl)
        (case hd_o => simp only [recursionLimit] at *; omega)
        (case hu_o => simp only [cLine_is] at *; omega)
        (case q1_o => exact List.forall_mem_cons.mpr ⟨by refine neN ?_; dsimp only; omega, List.forall_mem_cons.mpr ⟨by refine neN ?_; dsimp only; omega, q1⟩⟩)
        (case q2_o => exact List.forall_mem_cons.mpr ⟨by refine neN ?_; dsimp only; omega, List.forall_mem_cons.mpr ⟨by refine neN ?_; dsimp only; omega, q2⟩⟩)
        (case q3_o => exact List.forall_mem_cons.mpr ⟨by refine neN ?_; dsimp only; omega, List.forall_mem_cons.mpr ⟨by refine neN ?_; dsimp only; omega, q3⟩⟩)
        (case hl_o => rw [sg5.length]; omega)
        intro vsA lnA n5A epA hA tkA trA FA NA sgA
        (try dsimp only)
        k_steps
        unfold Halt
        refine wpAny_For ?_
        k_steps
        (rename Fr _ _ _ _ => F6)
        (rename News _ _ _ _ => N6)
        refine ci_iter ⟨_, (N6 (I, ciObj q tq) (by k_mem)).1, rfl⟩ ?_
        (try dsimp only)
        obtain ⟨tt6, htt6⟩ := fr_str (x := ("token" : Str)) F6 ⟨_, rfl⟩
        refine' forI (L := _) (fun c : GtSt => ((I, ciObj q tq) :: (q, methodObj (.ref 42) (.ref x)) :: (pb, W.listOf ([]).toArray ep) :: (x, instObj 59 dx) :: (dx, (dictOf [{ hash := PyData.keyHash w.params ("lineno" : Str), key := .str ("lineno" : Str) n1, val := .int c.ln c.n5 }, { hash := PyData.keyHash w.params ("instream" : Str), key := .str ("instream" : Str) n2, val := .ref fS }, { hash := PyData.keyHash w.params ("whitespace" : Str), key := .str ("whitespace" : Str) n3, val := .str wsp n6 }, { hash := PyData.keyHash w.params ("pushback" : Str), key := .str ("pushback" : Str) n4, val := .ref pb }] 4)) :: (dS, dictOf [{ hash := PyData.keyHash w.params ("read" : Str), key := .str ("read" : Str) n7, val := .ref r }] 1) :: (fS, ({ cls := .type "function", dict := some dS, data := .func fd } : Obj)) :: (r, fnMade nm qu ps bd sc [(("signs" : Str), cS)] dc pm cr ct) :: (cr, oc) :: (cS, oS) :: (S, W.listOf (c.vs).toArray c.ep) :: rest)) (fun c => [("token", .str c.tok c.tt)]) ["ch"]
          (fun c => SgA c.vs c.ws ∧ (∀ z ∈ c.ws, z.length = 1) ∧ c.tok.length + c.ws.length ≤ 4000 ∧ gW wsp c.ws c.tok = gO wsp ws ("" : Str))
          (fun c => c.ws.length) ⟨true, ciObj q tq, vsA, wr.tail, lnA, n5A, epA, c.tok ++ wr.headD ("" : Str), tt6⟩ ?F9_i2 ?N9_i2 ?hk9_i2 ?hr9_i2 ?hp9_i2 ?turn9_i2
        (case F9_i2 => exact F6)
        (case N9_i2 => exact cb_drop N6 (List.forall_mem_cons.mpr ⟨by k_mem, List.forall_mem_cons.mpr ⟨by k_mem, List.forall_mem_cons.mpr ⟨by k_mem, List.forall_mem_cons.mpr ⟨by k_mem, List.forall_mem_cons.mpr ⟨by k_mem, List.forall_mem_cons.mpr ⟨by k_mem, List.forall_mem_cons.mpr ⟨by k_mem, List.forall_mem_cons.mpr ⟨by k_mem, List.forall_mem_cons.mpr ⟨by k_mem, List.forall_mem_cons.mpr ⟨by k_mem, List.forall_mem_cons.mpr ⟨by k_mem, fun p hp => by (repeat (first | exact hp | refine List.Mem.tail _ ?_))⟩⟩⟩⟩⟩⟩⟩⟩⟩⟩⟩))
        (case hk9_i2 => exact List.forall_mem_cons.mpr ⟨htt6, fun _ h => nomatch h⟩)
        (case hr9_i2 => exact fun z _ _ => rfl)
        (case hp9_i2 => exact ⟨sgA, tail_all on5, by dsimp only; rw [Str.length_append]; omega, er⟩)
        intro d u6 h6 tk6 P6 F7 N7
        obtain ⟨sg6, on6, ln6, er6⟩ := P6
        refine' next_spec (pd := []) (ws := d.ws) ?B_i2 ?F_i2 ?X_i2 ?N_i2 ?T_i2 ?hk_i2 ?hd_i2 ?hu_i2 hnd hoc hoc1 hoS o1 o2 o3 o4 o5 o6 o7 o8 q1 q2 q3 ?o9_i2 ?oA_i2 ?q4_i2 sg6 ?hl_i2 ?hne_i2 ?item_i2 ?done_i2
        (case B_i2 => k_asm)
        (case F_i2 => k_asm)
        (case X_i2 => k_asm)
        (case N_i2 => k_asm)
        (case T_i2 => k_asm)
        (case hk_i2 => rfl)
        (case hd_i2 => simp only [recursionLimit] at *; omega)
        (case hu_i2 => simp only [cLine_is] at *; omega)
        (case o9_i2 => omega)
        (case oA_i2 => omega)
        (case q4_i2 => exact fun p hp => Nat.ne_of_lt (allLt_to lI.2.2.2.2.2.2.2.2.2.2 p hp))
        (case hl_i2 => rw [sg6.length]; omega)
        (case hne_i2 => intro z hz e; have := on6 z hz; rw [e] at this; cases this)
        case item_i2 =>
          intro y yr vs7 ln7 n57 ep7 h7 tk7 tr7 ew7 F8 N8 sg7
          have on7 : ∀ z ∈ yr, z.length = 1 := fun z hz => on6 z (by rw [ew7]; exact List.mem_cons_of_mem _ hz)
          have y1 : y.length = 1 := on6 y (by rw [ew7]; exact List.mem_cons_self ..)
          have yl : d.ws.length = yr.length + 1 := by rw [ew7, List.length_cons]
          have ty : d.tok.length + y.length ≤ 4000 := by omega
          have hh := head_one on7
          have hl7 := len_head yr on7
          have tyh : d.tok.length + (yr.headD ("" : Str)).length ≤ 4000 := by omega
          rw [ew7, gW_cons] at er6
          k_steps
          · (rename (Builtin.Str.occurrences _ _ _ _ _).isEmpty = _ => a1)
            (rename (_ == Str.ofString "\\") = _ => a2)
            rw [if_neg (inWs_f a1), if_pos a2] at er6
            unfold Halt
            (try dsimp only [List.nil_append, List.cons_append])
            refine' rc_spec (rest := (I, ciObj q tq) :: (q, methodObj (.ref 42) (.ref x)) :: rest) (pd := []) ?B_r_i2 ?F_r_i2 ?X_r_i2 ?N_r_i2 ?T_r_i2 ?hk_r_i2 ?hd_r_i2 ?hu_r_i2 hnd hoc hoc1 hoS o1 o2 o3 o4 o5 o6 o7 o8 ?q1_r_i2 ?q2_r_i2 ?q3_r_i2 sg7 ?hl_r_i2 ?ret_r_i2
            (case B_r_i2 => k_asm)
            (case F_r_i2 => k_asm)
            (case X_r_i2 => k_asm)
            (case N_r_i2 => exact cb_drop (by k_asm) (List.forall_mem_cons.mpr ⟨by k_mem, List.forall_mem_cons.mpr ⟨by k_mem, List.forall_mem_cons.mpr ⟨by k_mem, List.forall_mem_cons.mpr ⟨by k_mem, List.forall_mem_cons.mpr ⟨by k_mem, List.forall_mem_cons.mpr ⟨by k_mem, List.forall_mem_cons.mpr ⟨by k_mem, List.forall_mem_cons.mpr ⟨by k_mem, List.forall_mem_cons.mpr ⟨by k_mem, List.forall_mem_cons.mpr ⟨by k_mem, List.forall_mem_cons.mpr ⟨by k_mem, fun p hp => by (repeat (first | exact hp | refine List.Mem.tail _ ?_))⟩⟩⟩⟩⟩⟩⟩⟩⟩⟩⟩))
            (case T_r_i2 => k_asm)
            (case hk_r_i2 => rfl)
            (case hd_r_i2 => simp only [recursionLimit] at *; omega)
            (case hu_r_i2 => simp only [cLine_is] at *; omega)
            (case q1_r_i2 => exact List.forall_mem_cons.mpr ⟨by refine neN ?_; dsimp only; omega, List.forall_mem_cons.mpr ⟨by refine neN ?_; dsimp only; omega, q1⟩⟩)
            (case q2_r_i2 => exact List.forall_mem_cons.mpr ⟨by refine neN ?_; dsimp only; omega, List.forall_mem_cons.mpr ⟨by refine neN ?_; dsimp only; omega, q2⟩⟩)
            (case q3_r_i2 => exact List.forall_mem_cons.mpr ⟨by refine neN ?_; dsimp only; omega, List.forall_mem_cons.mpr ⟨by refine neN ?_; dsimp only; omega, q3⟩⟩)
            (case hl_r_i2 => rw [sg7.length]; omega)
            intro vs8 ln8 n58 ep8 h8 tk8 tr8 F9 N9 sg8
            (try dsimp only)
            k_steps
            (rename Fr _ _ _ _ => Fz9)
            obtain ⟨tz9, htz9⟩ := fr_str (x := ("token" : Str)) (i := (d.tok ++ yr.headD ("" : Str))) Fz9 ⟨_, rfl⟩
            refine ksw_end ⟨true, ciObj q tq, vs8, yr.tail, ln8, n58, ep8, d.tok ++ yr.headD ("" : Str), tz9⟩ (by k_asm) (by k_asm) ?hnb_i2 trivial ?hkb_i2 ?hrb_i2 ?hpb_i2 ?hmb_i2
            (case hnb_i2 => exact List.forall_mem_cons.mpr ⟨by k_mem, List.forall_mem_cons.mpr ⟨by k_mem, List.forall_mem_cons.mpr ⟨by k_mem, List.forall_mem_cons.mpr ⟨by k_mem, List.forall_mem_cons.mpr ⟨by k_mem, List.forall_mem_cons.mpr ⟨by k_mem, List.forall_mem_cons.mpr ⟨by k_mem, List.forall_mem_cons.mpr ⟨by k_mem, List.forall_mem_cons.mpr ⟨by k_mem, List.forall_mem_cons.mpr ⟨by k_mem, List.forall_mem_cons.mpr ⟨by k_mem, fun p hp => by (repeat (first | exact hp | refine List.Mem.tail _ ?_))⟩⟩⟩⟩⟩⟩⟩⟩⟩⟩⟩)
            (case hkb_i2 => exact List.forall_mem_cons.mpr ⟨htz9, fun _ h => nomatch h⟩)
            (case hrb_i2 => (intro z h2 h3; simp only [List.forall_mem_cons, List.not_mem_nil, false_implies, implies_true, and_true, ne_eq] at h2; simp only [List.contains_cons, List.contains_nil, Bool.or_false, Bool.or_eq_false_iff, beq_eq_false_iff_ne, ne_eq] at h3; simp [kstB, h2, h3]))
            (case hmb_i2 => (dsimp only; rw [List.length_tail]; omega))
            exact ⟨sg8, tail_all on7, by dsimp only; rw [Str.length_append]; omega, er6⟩
          · (rename (Builtin.Str.occurrences _ _ _ _ _).isEmpty = _ => a1)
            (rename (_ == Str.ofString "\\") = _ => a2)
            rw [if_neg (inWs_f a1), if_neg (by rw [a2]; exact Bool.false_ne_true)] at er6
            (rename Fr _ _ _ _ => Fz9)
            obtain ⟨tz9, htz9⟩ := fr_str (x := ("token" : Str)) (i := (d.tok ++ y)) Fz9 ⟨_, rfl⟩
            refine ksw_end ⟨true, ciObj q tq, vs7, yr, ln7, n57, ep7, d.tok ++ y, tz9⟩ (by k_asm) (by k_asm) ?hnb_y_i2 trivial ?hkb_y_i2 ?hrb_y_i2 ?hpb_y_i2 ?hmb_y_i2
            (case hnb_y_i2 => exact List.forall_mem_cons.mpr ⟨by k_mem, List.forall_mem_cons.mpr ⟨by k_mem, List.forall_mem_cons.mpr ⟨by k_mem, List.forall_mem_cons.mpr ⟨by k_mem, List.forall_mem_cons.mpr ⟨by k_mem, List.forall_mem_cons.mpr ⟨by k_mem, List.forall_mem_cons.mpr ⟨by k_mem, List.forall_mem_cons.mpr ⟨by k_mem, List.forall_mem_cons.mpr ⟨by k_mem, List.forall_mem_cons.mpr ⟨by k_mem, List.forall_mem_cons.mpr ⟨by k_mem, fun p hp => by (repeat (first | exact hp | refine List.Mem.tail _ ?_))⟩⟩⟩⟩⟩⟩⟩⟩⟩⟩⟩)
            (case hkb_y_i2 => exact List.forall_mem_cons.mpr ⟨htz9, fun _ h => nomatch h⟩)
            (case hrb_y_i2 => (intro z h2 h3; simp only [List.forall_mem_cons, List.not_mem_nil, false_implies, implies_true, and_true, ne_eq] at h2; simp only [List.contains_cons, List.contains_nil, Bool.or_false, Bool.or_eq_false_iff, beq_eq_false_iff_ne, ne_eq] at h3; simp [kstB, h2, h3]))
            (case hmb_y_i2 => (dsimp only; omega))
            exact ⟨sg7, on7, by dsimp only; rw [Str.length_append]; omega, er6⟩
          · (rename (Builtin.Str.occurrences _ _ _ _ _).isEmpty = _ => a1)
            rw [if_pos (inWs_t a1)] at er6
            rw [← er6] at ret
            exact ret _ _ _ _ _ _ _ (by k_asm) (cb_drop (by k_asm) (List.forall_mem_cons.mpr ⟨by k_mem, List.forall_mem_cons.mpr ⟨by k_mem, List.forall_mem_cons.mpr ⟨by k_mem, List.forall_mem_cons.mpr ⟨by k_mem, List.forall_mem_cons.mpr ⟨by k_mem, List.forall_mem_cons.mpr ⟨by k_mem, List.forall_mem_cons.mpr ⟨by k_mem, List.forall_mem_cons.mpr ⟨by k_mem, List.forall_mem_cons.mpr ⟨by k_mem, fun p hp => by (repeat (first | exact hp | refine List.Mem.tail _ ?_))⟩⟩⟩⟩⟩⟩⟩⟩⟩)) sg7
        case done_i2 =>
          intro vs7 ln7 n57 ep7 h7 tk7 ew7 F8 N8 sg7
          rw [ew7, gW_nil] at er6
          k_steps
          refine ksw_end ⟨false, ciEnded, vs7, [], ln7, n57, ep7, d.tok, d.tt⟩ (by k_asm) (by k_asm) ?hnb_z_i2 trivial ?hkb_z_i2 ?hrb_z_i2 ?hpb_z_i2 ?hmb_z_i2
          (case hnb_z_i2 => exact List.forall_mem_cons.mpr ⟨by k_mem, List.forall_mem_cons.mpr ⟨by k_mem, List.forall_mem_cons.mpr ⟨by k_mem, List.forall_mem_cons.mpr ⟨by k_mem, List.forall_mem_cons.mpr ⟨by k_mem, List.forall_mem_cons.mpr ⟨by k_mem, List.forall_mem_cons.mpr ⟨by k_mem, List.forall_mem_cons.mpr ⟨by k_mem, List.forall_mem_cons.mpr ⟨by k_mem, List.forall_mem_cons.mpr ⟨by k_mem, List.forall_mem_cons.mpr ⟨by k_mem, fun p hp => by (repeat (first | exact hp | refine List.Mem.tail _ ?_))⟩⟩⟩⟩⟩⟩⟩⟩⟩⟩⟩)
          (case hkb_z_i2 => exact List.forall_mem_cons.mpr ⟨rfl, fun _ h => nomatch h⟩)
          (case hrb_z_i2 => (intro z h2 h3; simp only [List.forall_mem_cons, List.not_mem_nil, false_implies, implies_true, and_true, ne_eq] at h2; simp only [List.contains_cons, List.contains_nil, Bool.or_false, Bool.or_eq_false_iff, beq_eq_false_iff_ne, ne_eq] at h3; simp [kstB, h2, h3]))
          (case hmb_z_i2 => (dsimp only; rw [lv]; simp))
          exact ⟨sg7, (fun _ h => nomatch h), by dsimp only [List.length_nil]; omega, .inr ⟨rfl, rfl, er6.symm⟩⟩
      · (rename (Builtin.Str.occurrences _ _ _ _ _).isEmpty = _ => a1)
        (rename (_ == Str.ofString "\"") = _ => a2)
        (rename (_ == Str.ofString "\\") = _ => a3)
        rw [if_neg (inWs_f a1), if_neg (by rw [a2]; exact Bool.false_ne_true), if_neg (by rw [a3]; exact Bool.false_ne_true)] at er
        unfold Halt
        refine wpAny_For ?_
        k_steps
        (rename Fr _ _ _ _ => F6)
        (rename News _ _ _ _ => N6)
        refine ci_iter ⟨_, (N6 (I, ciObj q tq) (by k_mem)).1, rfl⟩ ?_
        (try dsimp only)
        obtain ⟨tt6, htt6⟩ := fr_str (x := ("token" : Str)) F6 ⟨_, rfl⟩
        refine' forI (L := _) (fun c : GtSt => ((I, ciObj q tq) :: (q, methodObj (.ref 42) (.ref x)) :: (pb, W.listOf ([]).toArray ep) :: (x, instObj 59 dx) :: (dx, (dictOf [{ hash := PyData.keyHash w.params ("lineno" : Str), key := .str ("lineno" : Str) n1, val := .int c.ln c.n5 }, { hash := PyData.keyHash w.params ("instream" : Str), key := .str ("instream" : Str) n2, val := .ref fS }, { hash := PyData.keyHash w.params ("whitespace" : Str), key := .str ("whitespace" : Str) n3, val := .str wsp n6 }, { hash := PyData.keyHash w.params ("pushback" : Str), key := .str ("pushback" : Str) n4, val := .ref pb }] 4)) :: (dS, dictOf [{ hash := PyData.keyHash w.params ("read" : Str), key := .str ("read" : Str) n7, val := .ref r }] 1) :: (fS, ({ cls := .type "function", dict := some dS, data := .func fd } : Obj)) :: (r, fnMade nm qu ps bd sc [(("signs" : Str), cS)] dc pm cr ct) :: (cr, oc) :: (cS, oS) :: (S, W.listOf (c.vs).toArray c.ep) :: rest)) (fun c => [("token", .str c.tok c.tt)]) ["ch"]
          (fun c => SgA c.vs c.ws ∧ (∀ z ∈ c.ws, z.length = 1) ∧ c.tok.length + c.ws.length ≤ 4000 ∧ gW wsp c.ws c.tok = gO wsp ws ("" : Str))
          (fun c => c.ws.length) ⟨true, ciObj q tq, vs5, wr, ln5, n55, ep5, c.tok ++ z, tt6⟩ ?F9_i3 ?N9_i3 ?hk9_i3 ?hr9_i3 ?hp9_i3 ?turn9_i3
        (case F9_i3 => exact F6)
        (case N9_i3 => exact cb_drop N6 (List.forall_mem_cons.mpr ⟨by k_mem, List.forall_mem_cons.mpr ⟨by k_mem, List.forall_mem_cons.mpr ⟨by k_mem, List.forall_mem_cons.mpr ⟨by k_mem, List.forall_mem_cons.mpr ⟨by k_mem, List.forall_mem_cons.mpr ⟨by k_mem, List.forall_mem_cons.mpr ⟨by k_mem, List.forall_mem_cons.mpr ⟨by k_mem, List.forall_mem_cons.mpr ⟨by k_mem, List.forall_mem_cons.mpr ⟨by k_mem, List.forall_mem_cons.mpr ⟨by k_mem, fun p hp => by (repeat (first | exact hp | refine List.Mem.tail _ ?_))⟩⟩⟩⟩⟩⟩⟩⟩⟩⟩⟩))
        (case hk9_i3 => exact List.forall_mem_cons.mpr ⟨htt6, fun _ h => nomatch h⟩)
        (case hr9_i3 => exact fun z _ _ => rfl)
        (case hp9_i3 => exact ⟨sg5, on5, by dsimp only; rw [Str.length_append]; omega, er⟩)
        intro d u6 h6 tk6 P6 F7 N7
        obtain ⟨sg6, on6, ln6, er6⟩ := P6
        refine' next_spec (pd := []) (ws := d.ws) ?B_i3 ?F_i3 ?X_i3 ?N_i3 ?T_i3 ?hk_i3 ?hd_i3 ?hu_i3 hnd hoc hoc1 hoS o1 o2 o3 o4 o5 o6 o7 o8 q1 q2 q3 ?o9_i3 ?oA_i3 ?q4_i3 sg6 ?hl_i3 ?hne_i3 ?item_i3 ?done_i3
        (case B_i3 => k_asm)
        (case F_i3 => k_asm)
        (case X_i3 => k_asm)
        (case N_i3 => k_asm)
        (case T_i3 => k_asm)
        (case hk_i3 => rfl)
        (case hd_i3 => simp only [recursionLimit] at *; omega)
        (case hu_i3 => simp only [cLine_is] at *; omega)
        (case o9_i3 => omega)
        (case oA_i3 => omega)
        (case q4_i3 => exact fun p hp => Nat.ne_of_lt (allLt_to lI.2.2.2.2.2.2.2.2.2.2 p hp))
        (case hl_i3 => rw [sg6.length]; omega)
        (case hne_i3 => intro z hz e; have := on6 z hz; rw [e] at this; cases this)
        case item_i3 =>
          intro y yr vs7 ln7 n57 ep7 h7 tk7 tr7 ew7 F8 N8 sg7
          have on7 : ∀ z ∈ yr, z.length = 1 := fun z hz => on6 z (by rw [ew7]; exact List.mem_cons_of_mem _ hz)
          have y1 : y.length = 1 := on6 y (by rw [ew7]; exact List.mem_cons_self ..)
          have yl : d.ws.length = yr.length + 1 := by rw [ew7, List.length_cons]
          have ty : d.tok.length + y.length ≤ 4000 := by omega
          have hh := head_one on7
          have hl7 := len_head yr on7
          have tyh : d.tok.length + (yr.headD ("" : Str)).length ≤ 4000 := by omega
          rw [ew7, gW_cons] at er6
          k_steps
          · (rename (Builtin.Str.occurrences _ _ _ _ _).isEmpty = _ => a1)
            (rename (_ == Str.ofString "\\") = _ => a2)
            rw [if_neg (inWs_f a1), if_pos a2] at er6
            unfold Halt
            (try dsimp only [List.nil_append, List.cons_append])
            refine' rc_spec (rest := (I, ciObj q tq) :: (q, methodObj (.ref 42) (.ref x)) :: rest) (pd := []) ?B_r_i3 ?F_r_i3 ?X_r_i3 ?N_r_i3 ?T_r_i3 ?hk_r_i3 ?hd_r_i3 ?hu_r_i3 hnd hoc hoc1 hoS o1 o2 o3 o4 o5 o6 o7 o8 ?q1_r_i3 ?q2_r_i3 ?q3_r_i3 sg7 ?hl_r_i3 ?ret_r_i3
            (case B_r_i3 => k_asm)
            (case F_r_i3 => k_asm)
            (case X_r_i3 => k_asm)
            (case N_r_i3 => exact cb_drop (by k_asm) (List.forall_mem_cons.mpr ⟨by k_mem, List.forall_mem_cons.mpr ⟨by k_mem, List.forall_mem_cons.mpr ⟨by k_mem, List.forall_mem_cons.mpr ⟨by k_mem, List.forall_mem_cons.mpr ⟨by k_mem, List.forall_mem_cons.mpr ⟨by k_mem, List.forall_mem_cons.mpr ⟨by k_mem, List.forall_mem_cons.mpr ⟨by k_mem, List.forall_mem_cons.mpr ⟨by k_mem, List.forall_mem_cons.mpr ⟨by k_mem, List.forall_mem_cons.mpr ⟨by k_mem, fun p hp => by (repeat (first | exact hp | refine List.Mem.tail _ ?_))⟩⟩⟩⟩⟩⟩⟩⟩⟩⟩⟩))
            (case T_r_i3 => k_asm)
            (case hk_r_i3 => rfl)
            (case hd_r_i3 => simp only [recursionLimit] at *; omega)
            (case hu_r_i3 => simp only [cLine_is] at *; omega)
            (case q1_r_i3 => exact List.forall_mem_cons.mpr ⟨by refine neN ?_; dsimp only; omega, List.forall_mem_cons.mpr ⟨by refine neN ?_; dsimp only; omega, q1⟩⟩)
            (case q2_r_i3 => exact List.forall_mem_cons.mpr ⟨by refine neN ?_; dsimp only; omega, List.forall_mem_cons.mpr ⟨by refine neN ?_; dsimp only; omega, q2⟩⟩)
            (case q3_r_i3 => exact List.forall_mem_cons.mpr ⟨by refine neN ?_; dsimp only; omega, List.forall_mem_cons.mpr ⟨by refine neN ?_; dsimp only; omega, q3⟩⟩)
            (case hl_r_i3 => rw [sg7.length]; omega)
            intro vs8 ln8 n58 ep8 h8 tk8 tr8 F9 N9 sg8
            (try dsimp only)
            k_steps
            (rename Fr _ _ _ _ => Fz9)
            obtain ⟨tz9, htz9⟩ := fr_str (x := ("token" : Str)) (i := (d.tok ++ yr.headD ("" : Str))) Fz9 ⟨_, rfl⟩
            refine ksw_end ⟨true, ciObj q tq, vs8, yr.tail, ln8, n58, ep8, d.tok ++ yr.headD ("" : Str), tz9⟩ (by k_asm) (by k_asm) ?hnb_i3 trivial ?hkb_i3 ?hrb_i3 ?hpb_i3 ?hmb_i3
            (case hnb_i3 => exact List.forall_mem_cons.mpr ⟨by k_mem, List.forall_mem_cons.mpr ⟨by k_mem, List.forall_mem_cons.mpr ⟨by k_mem, List.forall_mem_cons.mpr ⟨by k_mem, List.forall_mem_cons.mpr ⟨by k_mem, List.forall_mem_cons.mpr ⟨by k_mem, List.forall_mem_cons.mpr ⟨by k_mem, List.forall_mem_cons.mpr ⟨by k_mem, List.forall_mem_cons.mpr ⟨by k_mem, List.forall_mem_cons.mpr ⟨by k_mem, List.forall_mem_cons.mpr ⟨by k_mem, fun p hp => by (repeat (first | exact hp | refine List.Mem.tail _ ?_))⟩⟩⟩⟩⟩⟩⟩⟩⟩⟩⟩)
            (case hkb_i3 => exact List.forall_mem_cons.mpr ⟨htz9, fun _ h => nomatch h⟩)
            (case hrb_i3 => (intro z h2 h3; simp only [List.forall_mem_cons, List.not_mem_nil, false_implies, implies_true, and_true, ne_eq] at h2; simp only [List.contains_cons, List.contains_nil, Bool.or_false, Bool.or_eq_false_iff, beq_eq_false_iff_ne, ne_eq] at h3; simp [kstB, h2, h3]))
            (case hmb_i3 => (dsimp only; rw [List.length_tail]; omega))
            exact ⟨sg8, tail_all on7, by dsimp only; rw [Str.length_append]; omega, er6⟩
          · (rename (Builtin.Str.occurrences _ _ _ _ _).isEmpty = _ => a1)
            (rename (_ == Str.ofString "\\") = _ => a2)
            rw [if_neg (inWs_f a1), if_neg (by rw [a2]; exact Bool.false_ne_true)] at er6
            (rename Fr _ _ _ _ => Fz9)
            obtain ⟨tz9, htz9⟩ := fr_str (x := ("token" : Str)) (i := (d.tok ++ y)) Fz9 ⟨_, rfl⟩
            refine ksw_end ⟨true, ciObj q tq, vs7, yr, ln7, n57, ep7, d.tok ++ y, tz9⟩ (by k_asm) (by k_asm) ?hnb_y_i3 trivial ?hkb_y_i3 ?hrb_y_i3 ?hpb_y_i3 ?hmb_y_i3
            (case hnb_y_i3 => exact List.forall_mem_cons.mpr ⟨by k_mem, List.forall_mem_cons.mpr ⟨by k_mem, List.forall_mem_cons.mpr ⟨by k_mem, List.forall_mem_cons.mpr ⟨by k_mem, List.forall_mem_cons.mpr ⟨by k_mem, List.forall_mem_cons.mpr ⟨by k_mem, List.forall_mem_cons.mpr ⟨by k_mem, List.forall_mem_cons.mpr ⟨by k_mem, List.forall_mem_cons.mpr ⟨by k_mem, List.forall_mem_cons.mpr ⟨by k_mem, List.forall_mem_cons.mpr ⟨by k_mem, fun p hp => by (repeat (first | exact hp | refine List.Mem.tail _ ?_))⟩⟩⟩⟩⟩⟩⟩⟩⟩⟩⟩)
            (case hkb_y_i3 => exact List.forall_mem_cons.mpr ⟨htz9, fun _ h => nomatch h⟩)
            (case hrb_y_i3 => (intro z h2 h3; simp only [List.forall_mem_cons, List.not_mem_nil, false_implies, implies_true, and_true, ne_eq] at h2; simp only [List.contains_cons, List.contains_nil, Bool.or_false, Bool.or_eq_false_iff, beq_eq_false_iff_ne, ne_eq] at h3; simp [kstB, h2, h3]))
            (case hmb_y_i3 => (dsimp only; omega))
            exact ⟨sg7, on7, by dsimp only; rw [Str.length_append]; omega, er6⟩
          · (rename (Builtin.Str.occurrences _ _ _ _ _).isEmpty = _ => a1)
            rw [if_pos (inWs_t a1)] at er6
            rw [← er6] at ret
            exact ret _ _ _ _ _ _ _ (by k_asm) (cb_drop (by k_asm) (List.forall_mem_cons.mpr ⟨by k_mem, List.forall_mem_cons.mpr ⟨by k_mem, List.forall_mem_cons.mpr ⟨by k_mem, List.forall_mem_cons.mpr ⟨by k_mem, List.forall_mem_cons.mpr ⟨by k_mem, List.forall_mem_cons.mpr ⟨by k_mem, List.forall_mem_cons.mpr ⟨by k_mem, List.forall_mem_cons.mpr ⟨by k_mem, List.forall_mem_cons.mpr ⟨by k_mem, fun p hp => by (repeat (first | exact hp | refine List.Mem.tail _ ?_))⟩⟩⟩⟩⟩⟩⟩⟩⟩)) sg7
        case done_i3 =>
          intro vs7 ln7 n57 ep7 h7 tk7 ew7 F8 N8 sg7
          rw [ew7, gW_nil] at er6
          k_steps
          refine ksw_end ⟨false, ciEnded, vs7, [], ln7, n57, ep7, d.tok, d.tt⟩ (by k_asm) (by k_asm) ?hnb_z_i3 trivial ?hkb_z_i3 ?hrb_z_i3 ?hpb_z_i3 ?hmb_z_i3
          (case hnb_z_i3 => exact List.forall_mem_cons.mpr ⟨by k_mem, List.forall_mem_cons.mpr ⟨by k_mem, List.forall_mem_cons.mpr ⟨by k_mem, List.forall_mem_cons.mpr ⟨by k_mem, List.forall_mem_cons.mpr ⟨by k_mem, List.forall_mem_cons.mpr ⟨by k_mem, List.forall_mem_cons.mpr ⟨by k_mem, List.forall_mem_cons.mpr ⟨by k_mem, List.forall_mem_cons.mpr ⟨by k_mem, List.forall_mem_cons.mpr ⟨by k_mem, List.forall_mem_cons.mpr ⟨by k_mem, fun p hp => by (repeat (first | exact hp | refine List.Mem.tail _ ?_))⟩⟩⟩⟩⟩⟩⟩⟩⟩⟩⟩)
          (case hkb_z_i3 => exact List.forall_mem_cons.mpr ⟨rfl, fun _ h => nomatch h⟩)
          (case hrb_z_i3 => (intro z h2 h3; simp only [List.forall_mem_cons, List.not_mem_nil, false_implies, implies_true, and_true, ne_eq] at h2; simp only [List.contains_cons, List.contains_nil, Bool.or_false, Bool.or_eq_false_iff, beq_eq_false_iff_ne, ne_eq] at h3; simp [kstB, h2, h3]))
          (case hmb_z_i3 => (dsimp only; rw [lv]; simp))
          exact ⟨sg7, (fun _ h => nomatch h), by dsimp only [List.length_nil]; omega, .inr ⟨rfl, rfl, er6.symm⟩⟩
      · (rename (Builtin.Str.occurrences _ _ _ _ _).isEmpty = _ => a1)
        rw [if_pos (inWs_t a1)] at er
        refine ksw_end ⟨true, ciObj q tq, vs5, wr, ln5, n55, ep5, c.tok, c.tt⟩ (by k_asm) (by k_asm) ?hnb trivial ?hkb ?hrb ?hpb ?hmb
        (case hnb => exact List.forall_mem_cons.mpr ⟨by k_mem, List.forall_mem_cons.mpr ⟨by k_mem, List.forall_mem_cons.mpr ⟨by k_mem, List.forall_mem_cons.mpr ⟨by k_mem, List.forall_mem_cons.mpr ⟨by k_mem, List.forall_mem_cons.mpr ⟨by k_mem, List.forall_mem_cons.mpr ⟨by k_mem, List.forall_mem_cons.mpr ⟨by k_mem, List.forall_mem_cons.mpr ⟨by k_mem, List.forall_mem_cons.mpr ⟨by k_mem, List.forall_mem_cons.mpr ⟨by k_mem, fun p hp => by (repeat (first | exact hp | refine List.Mem.tail _ ?_))⟩⟩⟩⟩⟩⟩⟩⟩⟩⟩⟩)
        (case hkb => exact List.forall_mem_cons.mpr ⟨rfl, fun _ h => nomatch h⟩)
        (case hrb => (intro z h2 h3; simp only [List.forall_mem_cons, List.not_mem_nil, false_implies, implies_true, and_true, ne_eq] at h2; simp only [List.contains_cons, List.contains_nil, Bool.or_false, Bool.or_eq_false_iff, beq_eq_false_iff_ne, ne_eq] at h3; simp [kstB, h2, h3]))
        (case hmb => (dsimp only; rw [lv]; simp only [if_true]; omega))
        exact ⟨sg5, on5, by dsimp only; omega, .inl ⟨rfl, rfl, er⟩⟩
    case done =>
      intro vs5 ln5 n55 ep5 h5 tk5 ew F5 N5 sg5
      rw [ew, gO] at er
      rw [← er] at ret
      k_steps
      exact ret _ _ _ _ _ _ _ (by k_asm) (cb_drop (by k_asm) (List.forall_mem_cons.mpr ⟨by k_mem, List.forall_mem_cons.mpr ⟨by k_mem, List.forall_mem_cons.mpr ⟨by k_mem, List.forall_mem_cons.mpr ⟨by k_mem, List.forall_mem_cons.mpr ⟨by k_mem, List.forall_mem_cons.mpr ⟨by k_mem, List.forall_mem_cons.mpr ⟨by k_mem, List.forall_mem_cons.mpr ⟨by k_mem, List.forall_mem_cons.mpr ⟨by k_mem, fun p hp => by (repeat (first | exact hp | refine List.Mem.tail _ ?_))⟩⟩⟩⟩⟩⟩⟩⟩⟩)) sg5
  · rw [eo] at N4
    refine ci_ended rfl (N4 _ (List.mem_cons_self ..)).1 (fun h5 g5 x5 => ?_)
    (try dsimp only at x5 ⊢)
    rw [er] at ret
    have nI := (N4 _ (List.mem_cons_self ..)).2
    have F5 := fr_extBut F4 x5 (Ne.symm nI.1) nI.2
    have N5 := news_extBut (cb_drop (news := ((pb, W.listOf ([]).toArray ep) :: (x, instObj 59 dx) :: (dx, (dictOf [{ hash := PyData.keyHash w.params ("lineno" : Str), key := .str ("lineno" : Str) n1, val := .int c.ln c.n5 }, { hash := PyData.keyHash w.params ("instream" : Str), key := .str ("instream" : Str) n2, val := .ref fS }, { hash := PyData.keyHash w.params ("whitespace" : Str), key := .str ("whitespace" : Str) n3, val := .str wsp n6 }, { hash := PyData.keyHash w.params ("pushback" : Str), key := .str ("pushback" : Str) n4, val := .ref pb }] 4)) :: (dS, dictOf [{ hash := PyData.keyHash w.params ("read" : Str), key := .str ("read" : Str) n7, val := .ref r }] 1) :: (fS, ({ cls := .type "function", dict := some dS, data := .func fd } : Obj)) :: (r, fnMade nm qu ps bd sc [(("signs" : Str), cS)] dc pm cr ct) :: (cr, oc) :: (cS, oS) :: (S, W.listOf (c.vs).toArray c.ep) :: rest)) N4 (List.forall_mem_cons.mpr ⟨by k_mem, List.forall_mem_cons.mpr ⟨by k_mem, List.forall_mem_cons.mpr ⟨by k_mem, List.forall_mem_cons.mpr ⟨by k_mem, List.forall_mem_cons.mpr ⟨by k_mem, List.forall_mem_cons.mpr ⟨by k_mem, List.forall_mem_cons.mpr ⟨by k_mem, List.forall_mem_cons.mpr ⟨by k_mem, List.forall_mem_cons.mpr ⟨by k_mem, fun p hp => by (repeat (first | exact hp | refine List.Mem.tail _ ?_))⟩⟩⟩⟩⟩⟩⟩⟩⟩)) x5 (List.forall_mem_cons.mpr ⟨by refine neN ?_; dsimp only; omega, List.forall_mem_cons.mpr ⟨by refine neN ?_; dsimp only; omega, List.forall_mem_cons.mpr ⟨by refine neN ?_; dsimp only; omega, List.forall_mem_cons.mpr ⟨by refine neN ?_; dsimp only; omega, List.forall_mem_cons.mpr ⟨by refine neN ?_; dsimp only; omega, List.forall_mem_cons.mpr ⟨by refine neN ?_; dsimp only; omega, List.forall_mem_cons.mpr ⟨by refine neN ?_; dsimp only; omega, List.forall_mem_cons.mpr ⟨by refine neN ?_; dsimp only; omega, List.forall_mem_cons.mpr ⟨by refine neN ?_; dsimp only; omega, fun p hp => Nat.ne_of_lt (allLt_to lI.2.2.2.2.2.2.2.2.2.2 p hp)⟩⟩⟩⟩⟩⟩⟩⟩⟩)
    clear F4 N4
    k_steps
    exact ret _ _ _ _ _ _ _ (by k_asm) (by k_asm) sg4
end
section
local macro_rules | `(tactic| walk_at "call builtin:len") => `(tactic| (k_here; k_dflt (refine' len_L ?N ?m ?f ?_; (case N => k_asm); (case m => k_mem); (case f => omega); k_whole)))
local macro_rules | `(tactic| walk_at "call builtin:str.split") => `(tactic| refine Halt.of ?_)
local macro_rules | `(tactic| walk_at "exec For Name Name cons nil") => `(tactic| refine Halt.of ?_)
local macro_rules | `(tactic| walk_at "call builtin:str.find") => `(tactic| refine Halt.of ?_)
local macro_rules | `(tactic| walk_at "subscriptTail") => `(tactic| refine Halt.of ?_)
local macro_rules | `(tactic| walk_at "pyIter ref") => `(tactic| refine Halt.of ?_)
theorem fr_int' {h₀ h : Heap} {L : Addr} {m : Str → Option Value} {x : Str} {i : Int} (_ : Fr h₀ L h m) (e : ∃ t, m x = some (.int i t)) : ∃ t, m x = some (.int i t) := e
structure EmSt where
  i : Nat
  o : Obj
  p : Int
  tp : Tok
theorem sa_item {vs : List Value} {ws : List Str} (h : StrsAre vs ws) : ∀ (i : Nat) (c : Str), ws[i]? = some c → ∃ t, vs[i]? = some (.str c t) := by
  induction h with
  | nil => intro i c h; simp at h
  | cons y t _ ih =>
    intro i c h
    cases i with
    | zero => simp at h; exact ⟨t, by simp [h]⟩
    | succ i => simp at h; obtain ⟨t', e⟩ := ih i c h; exact ⟨t', by simpa using e⟩
theorem sa_length {vs : List Value} {ws : List Str} (h : StrsAre vs ws) : vs.length = ws.length := by
  induction h with
  | nil => rfl
  | cons _ _ _ ih => rw [List.length_cons, List.length_cons, ih]
theorem em_spec {w : World} {mg mb : Str → Option Value} {p : Program} {loose : List Str} {mean : ExcName → Option Value} {dp un : Nat} {gd : Option (List Code)} {cn : Str} {cs : Scope} {a : Addr} {ccd : Value} {cl : List (Str × Addr)} {outer : List Env} {A₀ : Around} {base h₀ : Heap} {L : Addr} {m : Str → Option Value} {s : Shared} {Q E : Value → Shared → Prop} {news : List (Addr × Obj)} {Wn G : Str} {tw tg : Tok} {mid : List Str}
  (B : Below A₀ base outer h₀) (F : Fr h₀ L s.heap m) (X : (hd1.heap_39 w.params).In h₀) (N : News h₀ L s.heap news) (T : Top p loose mean mg mb h₀) (hk : cs.kind = .function) (hd : dp + 60 < recursionLimit) (hu : un + 440 < cLine)
  (hW : Wn.length ≤ 4000) (hin : (Builtin.Str.occurrences Wn ("..." : Str) 0 Wn.length 1).isEmpty = false) (hG : G.length ≤ 4000) (hsp : Txt.split Wn ("..." : Str) = ("" : Str) :: (mid ++ [("" : Str)])) (hm : mid.length ≤ 4000) (hm1 : ∀ c ∈ mid, c.length ≤ 4000)
  (ret : ∀ h' tk', Fr h₀ L h' m → News h₀ L h' news → Q (.bool (emScan G (("" : Str) :: (mid ++ [("" : Str)])) 0)) { s with heap := h', toks := tk' }) :
  wpAny (model PySem.Challenge.pw_pg0212_02 w) (ktrTop dp un gd cn cs L a ccd cl outer) (call (.ref 112) [.str Wn tw, .str G tg]) Q E s := by
  refine wpAny_call ?_
  k_dflt (first
  | cell_enter
  | (refine' code_def ?k1 ?k2 ?k3 ?k4 ?k5 ?kA ?kF ?kK ?k6 ?k7 ?k8 ?k9 ?kB ?_ ?c2 ?c3 ?c4 ?c5; (case kA => exact rfl); (case kF => exact rfl); (case kK => first | assumption | exact rfl); (case k1 => k_asm); (case k2 => k_asm); (case k3 => k_asm); (case k4 => k_asm); (case k5 => k_asm); (case k6 => k_is); (case k7 => k_is); (case k8 => ktr_room); (case k9 => first | exact BindsTo.of_eq rfl | exact binds_K (by k_in) rfl (by k_is) rfl rfl rfl | fail "k_enter: no rule for these arguments"); (case c5 => decide); (case kB => exact locs rfl); (case c2 => exact rfl); (case c3 => exact rfl); (case c4 => exact rfl); k_whole; intro g' L' h' FG' F' N' B' X' T'; (try dsimp only); (try k_lift B'); (try k_fold))
  | (refine' code_defC ?k1 ?k2 ?k3 ?k4 ?k5 ?kA ?kF ?kK ?k6 ?k7 ?k8 ?k9 ?kB ?kD ?_ ?c2 ?c3 ?c4; (case kA => exact rfl); (case kF => exact rfl); (case kK => first | assumption | exact rfl); (case k1 => k_asm); (case k2 => k_asm); (case k3 => k_asm); (case k4 => k_asm); (case k5 => k_asm); (case k6 => k_is); (case k7 => k_is); (case k8 => ktr_room); (case k9 => first | exact BindsTo.of_eq rfl | exact binds_K (by k_in) rfl (by k_is) rfl rfl rfl | fail "k_enter: no rule for these arguments"); (case kB => exact rfl); (case kD => decide +kernel); (case c2 => exact rfl); (case c3 => exact rfl); (case c4 => exact rfl); k_whole; intro g9 L9 h9 tk9 cells9 FG9 F9 N9 Y9 B9 X9 T9 l9; (try k_lt l9); k_cells Y9; (try simp only [List.cons_append, List.nil_append] at N9); (try dsimp only); (try k_lift B9); (try k_fold)))
  k_steps
  unfold Halt
  refine' KSpl.split1 ?F1 ?N1 (by decide) ?_ ?z1
  (case F1 => k_asm)
  (case N1 => k_asm)
  (case z1 => rw [PySem.sizeLine_eq]; omega)
  intro D l h1 k1 e1 a1 F1 N1 l1
  rw [hsp] at e1
  rw [e1] at a1
  obtain ⟨vl, hvl⟩ : ∃ vl, PySem.strValues l = vl := ⟨_, rfl⟩
  rw [hvl] at a1 N1
  have hlen : vl.length = mid.length + 2 := by rw [sa_length a1, List.length_cons, List.length_append]; rfl
  obtain ⟨t0, i0⟩ := sa_item a1 0 ("" : Str) rfl
  obtain ⟨t9, i9⟩ := sa_item a1 (mid.length + 1) ("" : Str) (by simp)
  k_steps
  unfold Halt
  refine' tail_any (News.isList (a := D) (items := vl.toArray) ?N2 ?m2).typeIs slot_list_getitem.lookup (wpAny_getItem_list (News.isList (a := D) (items := vl.toArray) ?N3 ?m3) (by decide) (by decide) (x := .str ("" : Str) t0) ?x3 ?_) (by with_unfolding_all rfl)
  (case N2 => k_asm)
  (case m2 => k_mem)
  (case N3 => k_asm)
  (case m3 => k_mem)
  (case x3 => simpa using i0)
  k_steps
  unfold Halt
  refine' tail_any (News.isList (a := D) (items := vl.toArray) ?N4 ?m4).typeIs slot_list_getitem.lookup (wpAny_getItem_list_neg (News.isList (a := D) (items := vl.toArray) ?N5 ?m5) (by decide) ?b5 (by decide) (x := .str ("" : Str) t9) ?x5 ?_) (by with_unfolding_all rfl)
  (case N4 => k_asm)
  (case m4 => k_mem)
  (case N5 => k_asm)
  (case m5 => k_mem)
  (case b5 => rw [List.size_toArray]; omega)
  (case x5 => rw [List.size_toArray, hlen, show ((-1 : Int) + ((mid.length + 2 : Nat) : Int)).toNat = mid.length + 1 by omega]; simpa using i9)
  k_steps
  unfold Halt
  refine wpAny_For ?_
  k_steps
  unfold Halt
  refine' li_make (D := D) ?F6 ?N6 ?m6 ?_
  (case F6 => k_asm)
  (case N6 => k_asm)
  (case m6 => k_mem)
  intro I o0 h7 F7 N7 lo0 lt7
  have nI : ∀ p ∈ news, p.1 ≠ I := fun p hp => Nat.ne_of_lt (lt7 p (.tail _ (.tail _ hp)))
  k_lt lt7
  (try dsimp only)
  obtain ⟨ts, hts⟩ := fr_int' (x := ("startpos" : Str)) (i := 0) F7 ⟨_, rfl⟩
  obtain ⟨te, hte⟩ := fr_int' (x := ("endpos" : Str)) (i := (G.length : Int)) F7 ⟨_, rfl⟩
  refine' forI (L := _) (fun c : EmSt => (I, c.o) :: (D, W.listOf vl.toArray 0) :: news) (fun c => [("startpos", .int c.p c.tp)]) ["w"]
    (fun c => c.i ≤ mid.length + 2 ∧ LiAt c.o D c.i ∧ 0 ≤ c.p ∧ c.p ≤ 10000000 ∧ emScan G ((("" : Str) :: (mid ++ [("" : Str)])).drop c.i) c.p = emScan G (("" : Str) :: (mid ++ [("" : Str)])) 0)
    (fun c => mid.length + 2 - c.i) ⟨0, o0, 0, ts⟩ ?F9 ?N9 ?hk9 ?hr9 ?hp9 ?turn9
  (case F9 => exact F7)
  (case N9 => exact cb_drop N7 (List.forall_mem_cons.mpr ⟨by k_mem, List.forall_mem_cons.mpr ⟨by k_mem, fun p hp => by (repeat (first | exact hp | refine List.Mem.tail _ ?_))⟩⟩))
  (case hk9 => exact List.forall_mem_cons.mpr ⟨hts, fun _ h => nomatch h⟩)
  (case hr9 => exact fun z _ _ => rfl)
  (case hp9 => exact ⟨Nat.zero_le _, lo0, Int.le_refl 0, (by show (0 : Int) ≤ 10000000; decide), rfl⟩)
  intro c u h4 tk4 P4 F4 N4
  obtain ⟨hi4, lo4, p0, p1, er4⟩ := P4
  by_cases hlast : c.i < mid.length + 2
  · obtain ⟨x, hx⟩ : ∃ x, (("" : Str) :: (mid ++ [("" : Str)]))[c.i]? = some x := by
      rw [List.getElem?_eq_getElem (by simp; omega)]; exact ⟨_, rfl⟩
    obtain ⟨tx, hvx⟩ := sa_item a1 _ _ hx
    have hdrop : (("" : Str) :: (mid ++ [("" : Str)])).drop c.i = x :: (("" : Str) :: (mid ++ [("" : Str)])).drop (c.i + 1) := by
      have hl : c.i < (("" : Str) :: (mid ++ [("" : Str)])).length := by simp; omega
      rw [List.drop_eq_getElem_cons hl]
      rw [List.getElem?_eq_getElem hl] at hx
      rw [Option.some.inj hx]
    have hxl : x.length ≤ 4000 := by
      have := List.mem_of_getElem? hx
      rcases List.mem_cons.mp this with rfl | h
      · exact Nat.zero_le _
      · rcases List.mem_append.mp h with h | h
        · exact hm1 x h
        · rw [List.mem_singleton.mp h]; exact Nat.zero_le _
    rw [hdrop, emScan] at er4
    have hf3 := PyProof.Rows.fact_find3 G x c.p
    refine li_item (D := D) F4 N4 (by k_updF) lo4 (by k_mem) hvx (fun h5 o5 F5 N5 lo5 => ?_)
    (try dsimp only at N5 ⊢)
    k_steps
    unfold Halt
    refine find4 ?_
    (try dsimp only)
    obtain ⟨fv, hfv⟩ : ∃ fv, Txt.find3 G x c.p = fv := ⟨_, rfl⟩
    rw [hfv] at er4 hf3
    rw [hfv]
    k_steps
    · (rename fv < 0 => n9)
      rw [if_pos n9] at er4
      rw [← er4] at ret
      exact ret _ _ (by k_asm) (cb_drop (by k_asm) (fun p hp => .tail _ (.tail _ hp)))
    · (rename ¬ fv < 0 => n9)
      rw [if_neg n9] at er4
      (rename Fr _ _ _ _ => F6)
      obtain ⟨t6, ht6⟩ := fr_int' (x := ("startpos" : Str)) (i := fv + (x.length : Int)) F6 ⟨_, rfl⟩
      refine ksw_end ⟨c.i + 1, o5, fv + x.length, t6⟩ (by k_asm) (by k_asm) ?hnb trivial ?hkb ?hrb ?hpb ?hmb
      (case hnb => exact fun p hp => by (repeat (first | exact hp | refine List.Mem.tail _ ?_)))
      (case hkb => exact List.forall_mem_cons.mpr ⟨ht6, fun _ h => nomatch h⟩)
      (case hrb => (intro z h2 h3; simp only [List.forall_mem_cons, List.not_mem_nil, false_implies, implies_true, and_true, ne_eq] at h2; simp only [List.contains_cons, List.contains_nil, Bool.or_false, Bool.or_eq_false_iff, beq_eq_false_iff_ne, ne_eq] at h3; simp [kstB, h2, h3]))
      (case hmb => (dsimp only; omega))
      exact ⟨by dsimp only; omega, lo5, by dsimp only; omega, by dsimp only; omega, er4⟩
  · refine li_end (D := D) rfl F4 N4 (by k_mem) lo4 (by k_mem) (by omega) (nx := news) (fun p hp => .tail _ (.tail _ hp)) nI (fun h5 F5 N5 => ?_)
    · rw [List.drop_eq_nil_of_le (by simp; omega), emScan] at er4
      rw [← er4] at ret
      (try dsimp only)
      k_steps
      exact ret _ _ (by k_asm) (by k_asm)
end
section
local macro_rules | `(tactic| walk_at "eval ListComp") => `(tactic| refine Halt.of ?_)
local macro_rules | `(tactic| walk_at "CompSrc") => `(tactic| refine Halt.of ?_)
theorem let_spec {w : World} {mg mb : Str → Option Value} {p : Program} {loose : List Str} {mean : ExcName → Option Value} {dp un : Nat} {gd : Option (List Code)} {cn : Str} {cs : Scope} {a : Addr} {ccd : Value} {cl : List (Str × Addr)} {outer : List Env} {A₀ : Around} {base h₀ : Heap} {L : Addr} {m : Str → Option Value} {s : Shared} {Q E : Value → Shared → Prop} {R : Addr} {vs : List Value} {ep : Nat} {ds : List Nat} {news : List (Addr × Obj)}
  (B : Below A₀ base outer h₀) (F : Fr h₀ L s.heap m) (X : (hd1.heap_39 w.params).In h₀) (N : News h₀ L s.heap news) (T : Top p loose mean mg mb h₀) (hk : cs.kind = .function) (hd : dp + 60 < recursionLimit) (hu : un + 500 < cLine)
  (hm : (R, W.listOf vs.toArray ep) ∈ news) (iv : IntsAre vs (ds.map Int.ofNat)) (hdb : ∀ d ∈ ds, d < 4) (hdl : ds.length ≤ 60)
  (ret : ∀ D ws ep' h' tk', Fr h₀ L h' m → News h₀ L h' ((D, W.listOf ws.toArray ep') :: news) → StrsAre ws ((List.range ds.length).map fun i => lt4 (ds.getD i 0)) → (∀ p ∈ news, p.1 ≠ D) → Q (.ref D) { s with heap := h', toks := tk' }) :
  wpAny (model PySem.Challenge.pw_pg0212_02 w) (ktrTop dp un gd cn cs L a ccd cl outer) (call (.ref 124) [.ref R]) Q E s := by
  have hvl : vs.length = ds.length := by rw [iv.length, List.length_map]
  refine wpAny_call ?_
  k_dflt (first
  | cell_enter
  | (refine' code_def ?k1 ?k2 ?k3 ?k4 ?k5 ?kA ?kF ?kK ?k6 ?k7 ?k8 ?k9 ?kB ?_ ?c2 ?c3 ?c4 ?c5; (case kA => exact rfl); (case kF => exact rfl); (case kK => first | assumption | exact rfl); (case k1 => k_asm); (case k2 => k_asm); (case k3 => k_asm); (case k4 => k_asm); (case k5 => k_asm); (case k6 => k_is); (case k7 => k_is); (case k8 => ktr_room); (case k9 => first | exact BindsTo.of_eq rfl | exact binds_K (by k_in) rfl (by k_is) rfl rfl rfl | fail "k_enter: no rule for these arguments"); (case c5 => decide); (case kB => exact locs rfl); (case c2 => exact rfl); (case c3 => exact rfl); (case c4 => exact rfl); k_whole; intro g' L' h' FG' F' N' B' X' T'; (try dsimp only); (try k_lift B'); (try k_fold))
  | (refine' code_defC ?k1 ?k2 ?k3 ?k4 ?k5 ?kA ?kF ?kK ?k6 ?k7 ?k8 ?k9 ?kB ?kD ?_ ?c2 ?c3 ?c4; (case kA => exact rfl); (case kF => exact rfl); (case kK => first | assumption | exact rfl); (case k1 => k_asm); (case k2 => k_asm); (case k3 => k_asm); (case k4 => k_asm); (case k5 => k_asm); (case k6 => k_is); (case k7 => k_is); (case k8 => ktr_room); (case k9 => first | exact BindsTo.of_eq rfl | exact binds_K (by k_in) rfl (by k_is) rfl rfl rfl | fail "k_enter: no rule for these arguments"); (case kB => exact rfl); (case kD => decide +kernel); (case c2 => exact rfl); (case c3 => exact rfl); (case c4 => exact rfl); k_whole; intro g9 L9 h9 tk9 cells9 FG9 F9 N9 Y9 B9 X9 T9 l9; (try k_lt l9); k_cells Y9; (try simp only [List.cons_append, List.nil_append] at N9); (try dsimp only); (try k_lift B9); (try k_fold)))
  k_steps
  unfold Halt
  k_dflt (refine' LCg.ListComp_U ?Fa (by with_unfolding_all rfl) (by decide) (by rfl) (by decide) (by rfl) ?_)
  (case Fa => k_asm)
  k_steps
  unfold Halt
  refine' LCg.CompSrc.ledger (ax := R) (its := vs.toArray) (k := ep) rfl ?Fc ?Nc hm ?zc ?_
  (case Fc => k_asm)
  (case Nc => k_asm)
  (case zc => rw [List.size_toArray, hvl]; exact fits4000' (by omega))
  intro g6
  refine' cr_rest (fun i y => ∃ t, y = Value.str (lt4 (ds.getD i 0)) t) ?turn1 ?fin1
  case turn1 =>
    intro i v I10 oI10 C10 oC10 D10 m10 ys10 h10 tk10 E10 hi10 hP10 hC10 hx10 F10 N10 off10 ne10
    rw [List.size_toArray, hvl] at hi10
    obtain ⟨ti10, hti10⟩ := ints_at iv (i := i) (by omega)
    have hv : v = .int ((ds.getD i 0 : Nat) : Int) ti10 := by
      have hP : vs[i]? = some v := by simpa using hP10
      rw [hti10] at hP; exact (Option.some.inj hP).symm
    subst hv
    have hb2 : ds.getD i 0 < 4 := hdb _ (by rw [List.getD_eq_getElem?_getD, List.getElem?_eq_getElem (by omega)]; exact List.getElem_mem _)
    have hb3 : ds.getD i 0 = 0 ∨ ds.getD i 0 = 1 ∨ ds.getD i 0 = 2 ∨ ds.getD i 0 = 3 := by omega
    rcases hb3 with hb | hb | hb | hb
    · rw [hb, show ((0 : Nat) : Int) = 0 from rfl] at hx10
      k_steps
      refine LCg.CompEnd.intro F10 N10 _ (fun _ h => h) off10 ?_ ?_
      · exact .inr ⟨_, hm, rfl, _, rfl⟩
      · exact ⟨rfl, _, by rw [hb]; rfl⟩
    · rw [hb, show ((1 : Nat) : Int) = 1 from rfl] at hx10
      k_steps
      refine LCg.CompEnd.intro F10 N10 _ (fun _ h => h) off10 ?_ ?_
      · exact .inr ⟨_, hm, rfl, _, rfl⟩
      · exact ⟨rfl, _, by rw [hb]; rfl⟩
    · rw [hb, show ((2 : Nat) : Int) = 2 from rfl] at hx10
      k_steps
      refine LCg.CompEnd.intro F10 N10 _ (fun _ h => h) off10 ?_ ?_
      · exact .inr ⟨_, hm, rfl, _, rfl⟩
      · exact ⟨rfl, _, by rw [hb]; rfl⟩
    · rw [hb, show ((3 : Nat) : Int) = 3 from rfl] at hx10
      k_steps
      refine LCg.CompEnd.intro F10 N10 _ (fun _ h => h) off10 ?_ ?_
      · exact .inr ⟨_, hm, rfl, _, rfl⟩
      · exact ⟨rfl, _, by rw [hb]; rfl⟩
  case fin1 =>
    intro ys11 hl11 hy11 D11 h11 tk11 F11 N11 of11
    rw [List.size_toArray, hvl] at hl11
    k_steps
    (rename Fr h₀ _ _ _ => Fz)
    (rename News h₀ _ _ _ => Nz)
    exact ret D11 ys11 ys11.length h11 tk11 Fz (show News h₀ L h11 _ from Nz) (strs_of (g := fun i => lt4 (ds.getD i 0)) hl11 (fun i hi => hy11 i (by rw [List.size_toArray, hvl]; exact hi))) (fun p hp => off1_mem of11 p hp)
end
section
theorem digsN_zero (b : Nat) : ∀ k, digsN b k 0 = List.replicate k 0
  | 0 => rfl
  | k + 1 => by rw [digsN, Nat.zero_div, digsN_zero b k, Nat.zero_mod]; rfl
theorem digsN_pad {b : Nat} : ∀ (k j x : Nat), x < b ^ k → digsN b k x ++ List.replicate j 0 = digsN b (k + j) x
  | 0, j, x, h => by
    have e : x = 0 := by simpa using h
    rw [e, Nat.zero_add, digsN_zero, digsN_zero]; rfl
  | k + 1, j, x, h => by
    have e : k + 1 + j = (k + j) + 1 := by omega
    rw [e, digsN, digsN, List.cons_append, digsN_pad k j (x / b) (by rw [Nat.pow_succ, Nat.mul_comm] at h; exact Nat.div_lt_of_lt_mul h)]
theorem rep_one (k : Nat) (z : Int) : (List.replicate k [z]).flatten = List.replicate k z := by
  induction k with
  | zero => rfl
  | succ k ih => rw [List.replicate_succ, List.replicate_succ, List.flatten_cons, ih]; rfl
local macro_rules | `(tactic| walk_at "call ref") => `(tactic| with_reducible refine haltC ?_)
local macro_rules | `(tactic| walk_at "call builtin:len") => `(tactic| (k_here; k_dflt (refine' len_L ?N ?m ?f ?_; (case N => k_asm); (case m => k_mem); (case f => omega); k_whole)))
local macro_rules | `(tactic| walk_at "binaryOp Mult ref int") => `(tactic| refine Halt.of ?_)
local macro_rules | `(tactic| walk_at "binaryOp Add ref ref") => `(tactic| refine Halt.of ?_)
theorem dig_spec {w : World} {mg mb : Str → Option Value} {p : Program} {loose : List Str} {mean : ExcName → Option Value} {dp un : Nat} {gd : Option (List Code)} {cn : Str} {cs : Scope} {a : Addr} {ccd : Value} {cl : List (Str × Addr)} {outer : List Env} {A₀ : Around} {base h₀ : Heap} {L : Addr} {m : Str → Option Value} {s : Shared} {Q E : Value → Shared → Prop} {xN sz : Nat} {tx ts : Tok} {tb rest : List (Addr × Obj)}
  (B : Below A₀ base outer h₀) (F : Fr h₀ L s.heap m) (X : (hd1.heap_39 w.params).In h₀) (N : News h₀ L s.heap (tb ++ rest)) (T : Top p loose mean mg mb h₀) (hk : cs.kind = .function) (hd : dp + 100 < recursionLimit) (hu : un + 900 < cLine)
  (tbs : TabI2 tb) (dj : ∀ p ∈ tb, ∀ q ∈ rest, p.1 ≠ q.1) (CI : CodeHd base 83 79) (hsz : sz ≤ 20) (hX : xN < 4 ^ sz)
  (ret : ∀ D vs' tb' h' tk', Fr h₀ L h' m → News h₀ L h' ((D, W.listOf vs'.toArray 0) :: (tb' ++ rest)) → IntsAre vs' ((digsN 4 sz xN).map Int.ofNat) → TabI2 tb' → (∀ p ∈ tb', ∀ q ∈ rest, p.1 ≠ q.1) → (∀ q ∈ tb' ++ rest, @LT.lt Nat _ q.1 D) → Q (.ref D) { s with heap := h', toks := tk' }) :
  wpAny (model PySem.Challenge.pw_pg0212_02 w) (ktrTop dp un gd cn cs L a ccd cl outer) (call (.ref 119) [.int (xN : Int) tx, .int (sz : Int) ts]) Q E s := by
  obtain ⟨kq, hkq⟩ : ∃ kq, kq = (Builtin.Int.intBits (xN : Int) + 2 - 1) / 2 := ⟨_, rfl⟩
  have e4 : (4 : Nat) ^ sz = 2 ^ (2 * sz) := by rw [Nat.pow_mul]
  have hb2 : Builtin.Int.intBits (xN : Int) ≤ 2 * sz := bits_le (e4 ▸ hX)
  have hq : ((Builtin.Int.intBits (xN : Int) : Nat) + (2 : Int) - 1).fdiv (2 : Int) = (kq : Int) := by
    rw [hkq, ← fdiv_nat]; congr 1; omega
  have hks : kq ≤ sz := by omega
  have hXk : xN < 2 ^ (2 * kq) := Nat.lt_of_lt_of_le (bits_lt xN) (Nat.pow_le_pow_right (by decide) (by omega))
  have hX0 : xN = 0 → kq = 0 := by
    intro e; rw [hkq, e, bits_zero]
  refine wpAny_call ?_
  k_dflt (first
  | cell_enter
  | (refine' code_def ?k1 ?k2 ?k3 ?k4 ?k5 ?kA ?kF ?kK ?k6 ?k7 ?k8 ?k9 ?kB ?_ ?c2 ?c3 ?c4 ?c5; (case kA => exact rfl); (case kF => exact rfl); (case kK => first | assumption | exact rfl); (case k1 => k_asm); (case k2 => k_asm); (case k3 => k_asm); (case k4 => k_asm); (case k5 => k_asm); (case k6 => k_is); (case k7 => k_is); (case k8 => ktr_room); (case k9 => first | exact BindsTo.of_eq rfl | exact binds_K (by k_in) rfl (by k_is) rfl rfl rfl | fail "k_enter: no rule for these arguments"); (case c5 => decide); (case kB => exact locs rfl); (case c2 => exact rfl); (case c3 => exact rfl); (case c4 => exact rfl); k_whole; intro g' L' h' FG' F' N' B' X' T'; (try dsimp only); (try k_lift B'); (try k_fold))
  | (refine' code_defC ?k1 ?k2 ?k3 ?k4 ?k5 ?kA ?kF ?kK ?k6 ?k7 ?k8 ?k9 ?kB ?kD ?_ ?c2 ?c3 ?c4; (case kA => exact rfl); (case kF => exact rfl); (case kK => first | assumption | exact rfl); (case k1 => k_asm); (case k2 => k_asm); (case k3 => k_asm); (case k4 => k_asm); (case k5 => k_asm); (case k6 => k_is); (case k7 => k_is); (case k8 => ktr_room); (case k9 => first | exact BindsTo.of_eq rfl | exact binds_K (by k_in) rfl (by k_is) rfl rfl rfl | fail "k_enter: no rule for these arguments"); (case kB => exact rfl); (case kD => decide +kernel); (case c2 => exact rfl); (case c3 => exact rfl); (case c4 => exact rfl); k_whole; intro g9 L9 h9 tk9 cells9 FG9 F9 N9 Y9 B9 X9 T9 l9; (try k_lt l9); k_cells Y9; (try simp only [List.cons_append, List.nil_append] at N9); (try dsimp only); (try k_lift B9); (try k_fold)))
  k_steps
  unfold Halt
  refine' i2d_spec (kq := kq) (nN := 2) (xN := xN) (tb := tb) (rest := rest) ?B ?F ?X ?N ?T ?hk ?hd ?hu tbs dj CI rfl rfl (by decide) (by decide) hq (by omega) hXk hX0 ?ret
  (case B => k_asm)
  (case F => k_asm)
  (case X => k_asm)
  (case N => k_asm)
  (case T => k_asm)
  (case hk => exact rfl)
  (case hd => (simp only [recursionLimit] at *; omega))
  (case hu => (simp only [cLine_is] at *; omega))
  intro D vs tb1 h1 tk1 F1 N1 iv ti1 dj1 lD1 nD1
  (try dsimp only)
  have hvl : vs.length = kq := by rw [iv.length, digs_length]
  k_steps
  unfold Halt
  rw [hvl]
  obtain ⟨j, hj⟩ : ∃ j, sz = kq + j := ⟨sz - kq, by omega⟩
  refine' KM.mul (ns := [0]) ?Fbp ?Nbp ?lbp (.cons _ _ .nil) ?lobp ?hibp ?szbp ?_
  (case Fbp => k_asm)
  (case Nbp => k_asm)
  (case lbp => kmk_list)
  (case lobp => omega)
  (case hibp => omega)
  (case szbp => (rw [List.length_singleton]; omega))
  intro D9 h9 F9 N9 l9 i9 _ _ _ _ _
  have ej : ((sz : Int) - (kq : Int)).toNat = j := by omega
  rw [ej] at i9 N9
  rw [rep_one] at i9
  k_steps
  unfold Halt
  refine' kmk_add_ints (a := D) (b := D9) ?Fcp ?Ncp ?acp ?bcp iv i9 ?_ ?zcp
  (case Fcp => k_asm)
  (case Ncp => k_asm)
  (case acp => exact News.isList (by k_asm) (by k_mem))
  (case bcp => exact News.isList (by k_asm) (by k_mem))
  (case zcp => (simp only [PySem.sizeLine_eq, List.length_map, List.length_replicate, digs_length]; omega))
  intro D8 ws8 h8 F8 N8 l8 i8
  k_steps
  refine' ret D8 _ _ _ _ (by k_asm) (cb_drop (by k_asm) (List.forall_mem_cons.mpr ⟨by k_mem, fun p hp => by (repeat (first | exact hp | refine List.Mem.tail _ ?_))⟩)) ?_ ti1 dj1 (fun p hp => l8 p (by (repeat (first | exact hp | refine List.Mem.tail _ ?_))))
  rw [hj, ← digsN_pad kq j xN (by rw [show (4 : Nat) ^ kq = 2 ^ (2 * kq) from by rw [Nat.pow_mul]]; exact hXk), List.map_append, ← digs_map, List.map_replicate]
  exact i8
end
section
local macro_rules | `(tactic| walk_at "call ref") => `(tactic| with_reducible refine haltC ?_)
theorem idmN_spec {w : World} {mg mb : Str → Option Value} {p : Program} {loose : List Str} {mean : ExcName → Option Value} {dp un : Nat} {gd : Option (List Code)} {cn : Str} {cs : Scope} {a : Addr} {ccd : Value} {cl : List (Str × Addr)} {outer : List Env} {A₀ : Around} {base h₀ : Heap} {L : Addr} {m : Str → Option Value} {s : Shared} {Q E : Value → Shared → Prop} {x y : Int} {A Bn : Nat} {tx ty : Tok} {tb td rest : List (Addr × Obj)}
  (B : Below A₀ base outer h₀) (F : Fr h₀ L s.heap m) (X : (hd1.heap_39 w.params).In h₀) (N : News h₀ L s.heap (tb ++ (td ++ rest))) (T : Top p loose mean mg mb h₀) (hk : cs.kind = .function) (hd : dp + 130 < recursionLimit) (hu : un + 1100 < cLine)
  (ti : TabI2 tb) (td2 : TabD2 td) (dj1 : ∀ p ∈ tb, ∀ q ∈ td ++ rest, p.1 ≠ q.1) (dj2 : ∀ p ∈ td, ∀ q ∈ rest, p.1 ≠ q.1) (CI : CodeHd base 83 79) (CD : CodeHd base 90 86) (hx : x = -((A : Int) + 1)) (hy : y = (Bn : Int)) (hB : 0 < Bn) (hA2 : A < 2 ^ 30) (hB2 : Bn < 2 ^ 30)
  (ret : ∀ D t1 t2 tb' td' h' tk', Fr h₀ L h' m → News h₀ L h' ((D, { cls := .type "tuple", data := .seq #[.int (Builtin.bitNot ((A / Bn : Nat) : Int)) t1, .int ((Bn : Int) + Builtin.bitNot ((A % Bn : Nat) : Int)) t2] }) :: (tb' ++ (td' ++ rest))) → TabI2 tb' → TabD2 td' → (∀ p ∈ tb', ∀ q ∈ td' ++ rest, p.1 ≠ q.1) → (∀ p ∈ td', ∀ q ∈ rest, p.1 ≠ q.1) → (∀ p ∈ tb' ++ (td' ++ rest), p.1 ≠ D) → Q (.ref D) { s with heap := h', toks := tk' }) :
  wpAny (model PySem.Challenge.pw_pg0212_02 w) (ktrTop dp un gd cn cs L a ccd cl outer) (call (.ref 105) [.int x tx, .int y ty]) Q E s := by
  subst hx hy
  refine wpAny_call ?_
  k_dflt (first
  | cell_enter
  | (refine' code_def ?k1 ?k2 ?k3 ?k4 ?k5 ?kA ?kF ?kK ?k6 ?k7 ?k8 ?k9 ?kB ?_ ?c2 ?c3 ?c4 ?c5; (case kA => exact rfl); (case kF => exact rfl); (case kK => first | assumption | exact rfl); (case k1 => k_asm); (case k2 => k_asm); (case k3 => k_asm); (case k4 => k_asm); (case k5 => k_asm); (case k6 => k_is); (case k7 => k_is); (case k8 => ktr_room); (case k9 => first | exact BindsTo.of_eq rfl | exact binds_K (by k_in) rfl (by k_is) rfl rfl rfl | fail "k_enter: no rule for these arguments"); (case c5 => decide); (case kB => exact locs rfl); (case c2 => exact rfl); (case c3 => exact rfl); (case c4 => exact rfl); k_whole; intro g' L' h' FG' F' N' B' X' T'; (try dsimp only); (try k_lift B'); (try k_fold))
  | (refine' code_defC ?k1 ?k2 ?k3 ?k4 ?k5 ?kA ?kF ?kK ?k6 ?k7 ?k8 ?k9 ?kB ?kD ?_ ?c2 ?c3 ?c4; (case kA => exact rfl); (case kF => exact rfl); (case kK => first | assumption | exact rfl); (case k1 => k_asm); (case k2 => k_asm); (case k3 => k_asm); (case k4 => k_asm); (case k5 => k_asm); (case k6 => k_is); (case k7 => k_is); (case k8 => ktr_room); (case k9 => first | exact BindsTo.of_eq rfl | exact binds_K (by k_in) rfl (by k_is) rfl rfl rfl | fail "k_enter: no rule for these arguments"); (case kB => exact rfl); (case kD => decide +kernel); (case c2 => exact rfl); (case c3 => exact rfl); (case c4 => exact rfl); k_whole; intro g9 L9 h9 tk9 cells9 FG9 F9 N9 Y9 B9 X9 T9 l9; (try k_lt l9); k_cells Y9; (try simp only [List.cons_append, List.nil_append] at N9); (try dsimp only); (try k_lift B9); (try k_fold)))
  k_steps
  unfold Halt
  refine' idm_spec (A := A) (Bn := Bn) ?B2 ?F2 ?X2 ?N2 ?T2 ?hk2 ?hd2 ?hu2 ti td2 dj1 dj2 CI CD ?hx2 rfl hB hA2 hB2 ?ret2
  (case B2 => k_asm)
  (case F2 => k_asm)
  (case X2 => k_asm)
  (case N2 => k_asm)
  (case T2 => k_asm)
  (case hk2 => exact rfl)
  (case hd2 => (simp only [recursionLimit] at *; omega))
  (case hu2 => (simp only [cLine_is] at *; omega))
  (case hx2 => (show -(-((A : Int) + 1)) - 1 = A; omega))
  intro D t1 t2 tb1 td1 h1 tk1 F1 N1 ti1 td3 dj3 dj4 ne1
  (try dsimp only)
  k_steps
  (rename (∀ p ∈ ((D, _) :: _ : List (Addr × Obj)), _) => lA)
  exact ret _ _ _ _ _ _ _ (by k_asm) (cb_drop (by k_asm) (List.forall_mem_cons.mpr ⟨by k_mem, fun p hp => .tail _ (.tail _ hp)⟩)) ti1 td3 dj3 dj4 (fun p hp => Nat.ne_of_lt (lA p (.tail _ hp)))
theorem idmZ_spec {w : World} {mg mb : Str → Option Value} {p : Program} {loose : List Str} {mean : ExcName → Option Value} {dp un : Nat} {gd : Option (List Code)} {cn : Str} {cs : Scope} {a : Addr} {ccd : Value} {cl : List (Str × Addr)} {outer : List Env} {A₀ : Around} {base h₀ : Heap} {L : Addr} {m : Str → Option Value} {s : Shared} {Q E : Value → Shared → Prop} {x y : Int} {A Bn : Nat} {tx ty : Tok} {tb td rest : List (Addr × Obj)}
  (B : Below A₀ base outer h₀) (F : Fr h₀ L s.heap m) (X : (hd1.heap_39 w.params).In h₀) (N : News h₀ L s.heap (tb ++ (td ++ rest))) (T : Top p loose mean mg mb h₀) (hk : cs.kind = .function) (hd : dp + 130 < recursionLimit) (hu : un + 1100 < cLine)
  (ti : TabI2 tb) (td2 : TabD2 td) (dj1 : ∀ p ∈ tb, ∀ q ∈ td ++ rest, p.1 ≠ q.1) (dj2 : ∀ p ∈ td, ∀ q ∈ rest, p.1 ≠ q.1) (CI : CodeHd base 83 79) (CD : CodeHd base 90 86) (hx : x.natAbs = A) (hy : y = (Bn : Int)) (hB : 0 < Bn) (hA2 : A < 2 ^ 30) (hB2 : Bn < 2 ^ 30)
  (ret : ∀ D q r t1 t2 tb' td' h' tk', Fr h₀ L h' m → News h₀ L h' ((D, { cls := .type "tuple", data := .seq #[.int q t1, .int r t2] }) :: (tb' ++ (td' ++ rest))) → TabI2 tb' → TabD2 td' → (∀ p ∈ tb', ∀ q ∈ td' ++ rest, p.1 ≠ q.1) → (∀ p ∈ td', ∀ q ∈ rest, p.1 ≠ q.1) → (∀ p ∈ tb' ++ (td' ++ rest), p.1 ≠ D) → r = x.fmod y → Q (.ref D) { s with heap := h', toks := tk' }) :
  wpAny (model PySem.Challenge.pw_pg0212_02 w) (ktrTop dp un gd cn cs L a ccd cl outer) (call (.ref 105) [.int x tx, .int y ty]) Q E s := by
  subst hy
  rcases Int.lt_or_le x 0 with h0 | h0
  · refine' idmN_spec (A := A - 1) (Bn := Bn) B F X N T hk hd hu ti td2 dj1 dj2 CI CD (by omega) rfl hB (by omega) hB2 ?_
    intro D t1 t2 tb1 td1 h1 tk1 F1 N1 ti1 td3 dj3 dj4 ne1
    refine ret _ _ _ _ _ _ _ _ _ F1 N1 ti1 td3 dj3 dj4 ne1 ?_
    have hx' : x = -(((A - 1 : Nat) : Int) + 1) := by omega
    rw [hx', Int.fmod_eq_emod_of_nonneg _ (by omega)]
    have hm := Nat.mod_lt (A - 1) hB
    have hd0 := Nat.div_add_mod (A - 1) Bn
    show (Bn : Int) + (-(((A - 1) % Bn : Nat) : Int) - 1) = _
    symm
    have e : -(((A - 1 : Nat) : Int) + 1) = ((Bn : Int) - 1 - (((A - 1) % Bn : Nat) : Int)) + (Bn : Int) * (-(((A - 1) / Bn : Nat) : Int) - 1) := by
      have h2 : ((A - 1 : Nat) : Int) = (Bn : Int) * (((A - 1) / Bn : Nat) : Int) + (((A - 1) % Bn : Nat) : Int) := by
        rw [← Int.natCast_mul, ← Int.natCast_add, hd0]
      rw [h2, Int.mul_sub, Int.mul_neg, Int.mul_one]
      generalize (Bn : Int) * (((A - 1) / Bn : Nat) : Int) = z
      omega
    rw [e, Int.add_mul_emod_self_left, Int.emod_eq_of_lt (by omega) (by omega)]
    omega
  · refine' idm_spec (A := A) (Bn := Bn) B F X N T hk (by omega) (by omega) ti td2 dj1 dj2 CI CD (by omega) rfl hB hA2 hB2 ?_
    intro D t1 t2 tb1 td1 h1 tk1 F1 N1 ti1 td3 dj3 dj4 ne1
    refine ret _ _ _ _ _ _ _ _ _ F1 N1 ti1 td3 dj3 dj4 ne1 ?_
    have hx' : x = (A : Int) := by omega
    rw [hx', Int.fmod_eq_emod_of_nonneg _ (by omega)]
    rfl
end
section
def OffL (t : List (Addr × Obj)) (l : List Addr) : Prop := ∀ p ∈ t, ∀ a ∈ l, p.1 ≠ a
theorem cs_in {α : Type} {cs a b r : List α} : ∀ p ∈ a ++ (b ++ (cs ++ r)), p ∈ cs ++ (a ++ (b ++ r)) := fun p hp => by
  simp only [List.mem_append] at hp ⊢
  rcases hp with h | h | h | h <;> simp [h]
theorem cs_out {α : Type} {cs a b r : List α} : ∀ p ∈ cs ++ (a ++ (b ++ r)), p ∈ a ++ (b ++ (cs ++ r)) := fun p hp => by
  simp only [List.mem_append] at hp ⊢
  rcases hp with h | h | h | h <;> simp [h]
theorem cs_dj {cs tb td rest : List (Addr × Obj)} (h : ∀ p ∈ tb, ∀ q ∈ td ++ rest, p.1 ≠ q.1) (hn : OffL (tb ++ td) (cs.map (·.1))) : ∀ p ∈ tb, ∀ q ∈ td ++ (cs ++ rest), p.1 ≠ q.1 := fun p hp q hq => by
  rcases List.mem_append.mp hq with hq | hq
  · exact h p hp q (List.mem_append_left _ hq)
  · rcases List.mem_append.mp hq with hq | hq
    · exact hn p (List.mem_append_left _ hp) q.1 (List.mem_map_of_mem hq)
    · exact h p hp q (List.mem_append_right _ hq)
theorem cs_dk {cs tb td rest : List (Addr × Obj)} (h : ∀ p ∈ td, ∀ q ∈ rest, p.1 ≠ q.1) (hn : OffL (tb ++ td) (cs.map (·.1))) : ∀ p ∈ td, ∀ q ∈ cs ++ rest, p.1 ≠ q.1 := fun p hp q hq => by
  rcases List.mem_append.mp hq with hq | hq
  · exact hn p (List.mem_append_right _ hp) q.1 (List.mem_map_of_mem hq)
  · exact h p hp q hq
theorem idmC_spec {w : World} {mg mb : Str → Option Value} {p : Program} {loose : List Str} {mean : ExcName → Option Value} {dp un : Nat} {gd : Option (List Code)} {cn : Str} {cs : Scope} {a : Addr} {ccd : Value} {cl : List (Str × Addr)} {outer : List Env} {A₀ : Around} {base h₀ : Heap} {L : Addr} {m : Str → Option Value} {s : Shared} {Q E : Value → Shared → Prop} {x y : Int} {Bn : Nat} {tx ty : Tok} {tb td rest : List (Addr × Obj)} (cells : List (Addr × Obj))
  (B : Below A₀ base outer h₀) (F : Fr h₀ L s.heap m) (X : (hd1.heap_39 w.params).In h₀) (N : News h₀ L s.heap (cells ++ (tb ++ (td ++ rest)))) (T : Top p loose mean mg mb h₀) (hk : cs.kind = .function) (hd : dp + 130 < recursionLimit) (hu : un + 1100 < cLine)
  (ti : TabI2 tb) (td2 : TabD2 td) (dj1 : ∀ p ∈ tb, ∀ q ∈ td ++ rest, p.1 ≠ q.1) (dj2 : ∀ p ∈ td, ∀ q ∈ rest, p.1 ≠ q.1) (off : OffL (tb ++ td) (cells.map (·.1))) (CI : CodeHd base 83 79) (CD : CodeHd base 90 86) (hx : x.natAbs < 2 ^ 30) (hy : y = (Bn : Int)) (hB : 0 < Bn) (hB2 : Bn < 2 ^ 30)
  (ret : ∀ D q t1 t2 tb' td' h' tk', Fr h₀ L h' m → News h₀ L h' ((D, { cls := .type "tuple", data := .seq #[.int q t1, .int (x.fmod y) t2] }) :: (cells ++ (tb' ++ (td' ++ rest)))) → TabI2 tb' → TabD2 td' → (∀ p ∈ tb', ∀ q ∈ td' ++ rest, p.1 ≠ q.1) → (∀ p ∈ td', ∀ q ∈ rest, p.1 ≠ q.1) → OffL (tb' ++ td') (cells.map (·.1)) → (∀ p ∈ cells ++ (tb' ++ (td' ++ rest)), p.1 ≠ D) → Q (.ref D) { s with heap := h', toks := tk' }) :
  wpAny (model PySem.Challenge.pw_pg0212_02 w) (ktrTop dp un gd cn cs L a ccd cl outer) (call (.ref 105) [.int x tx, .int y ty]) Q E s := by
  refine idmZ_spec (A := x.natAbs) (rest := cells ++ rest) B F X (cb_drop N cs_in) T hk hd hu ti td2 (cs_dj dj1 off) (cs_dk dj2 off) CI CD rfl hy hB hx hB2 ?_
  intro D q r t1 t2 tb' td' h' tk' F' N' ti' td3 dj3 dj4 ne hr
  subst hr
  refine ret D q t1 t2 tb' td' h' tk' F' (cb_drop N' (List.forall_mem_cons.mpr ⟨.head _, fun p hp => .tail _ (cs_out p hp)⟩)) ti' td3 (fun p hp q hq => dj3 p hp q ?_) (fun p hp q hq => dj4 p hp q (List.mem_append_right _ hq)) (fun p hp b hb => ?_) (fun p hp => ne p (cs_out p hp))
  · rcases List.mem_append.mp hq with hq | hq
    · exact List.mem_append_left _ hq
    · exact List.mem_append_right _ (List.mem_append_right _ hq)
  · obtain ⟨y', hy', rfl⟩ := List.mem_map.mp hb
    rcases List.mem_append.mp hp with hp | hp
    · exact dj3 p hp y' (List.mem_append_right _ (List.mem_append_left _ hy'))
    · exact dj4 p hp y' (List.mem_append_left _ hy')
theorem in_l {α : Type} {p : α} {a b c : List α} (h : p ∈ a ++ b) : p ∈ a ++ (b ++ c) := by
  rcases List.mem_append.mp h with h | h
  · exact List.mem_append_left _ h
  · exact List.mem_append_right _ (List.mem_append_left _ h)
theorem in_r {α : Type} {p : α} {a b c : List α} (h : p ∈ c) : p ∈ a ++ (b ++ c) := List.mem_append_right _ (List.mem_append_right _ h)
theorem off_all {tb td rest : List (Addr × Obj)} {l l' : List Addr} {a : Addr} (h : OffL (tb ++ td) l) (hr : OffL rest l') (m : a ∈ l) (m' : a ∈ l') : ∀ p ∈ tb ++ (td ++ rest), p.1 ≠ a := fun p hp => by
  simp only [List.mem_append] at hp
  rcases hp with hp | hp | hp
  · exact h p (List.mem_append_left _ hp) a m
  · exact h p (List.mem_append_right _ hp) a m
  · exact hr p hp a m'
theorem cs_back {cells tb td rest : List (Addr × Obj)} (h : ∀ p ∈ tb, ∀ q ∈ td ++ (cells ++ rest), p.1 ≠ q.1) (h2 : ∀ p ∈ td, ∀ q ∈ cells ++ rest, p.1 ≠ q.1) :
    (∀ p ∈ tb, ∀ q ∈ td ++ rest, p.1 ≠ q.1) ∧ (∀ p ∈ td, ∀ q ∈ rest, p.1 ≠ q.1) ∧ OffL (tb ++ td) (cells.map (·.1)) := by
  refine ⟨fun p hp q hq => h p hp q ?_, fun p hp q hq => h2 p hp q (List.mem_append_right _ hq), fun p hp b hb => ?_⟩
  · rcases List.mem_append.mp hq with hq | hq
    · exact List.mem_append_left _ hq
    · exact List.mem_append_right _ (List.mem_append_right _ hq)
  · obtain ⟨y', hy', rfl⟩ := List.mem_map.mp hb
    rcases List.mem_append.mp hp with hp | hp
    · exact h p hp y' (List.mem_append_right _ (List.mem_append_left _ hy'))
    · exact h2 p hp y' (List.mem_append_left _ hy')
end
section
def movFor (p : Program) : Option (Stmt × Scope) :=
  match (p.main.body[(17 : Nat)]? : Option Stmt) with
  | some (.FunctionDef _ _ b _ _ _ sc _ _ _) => (match (b[(7 : Nat)]? : Option Stmt) with
    | some (.For _ _ kb _ _) => (match (kb[(3 : Nat)]? : Option Stmt) with
      | some st => some (st, sc)
      | none => none)
    | _ => none)
  | _ => none
/-- the figure moved -/
def mv4 (h t d : Nat) : Nat := (d + t + 4 - h) % 4
theorem mv4_fmod {h t d : Nat} (hh : h < 4) : (((d : Nat) : Int) + ((t : Int) - (h : Int))).fmod 4 = ((mv4 h t d : Nat) : Int) := by
  rw [Int.fmod_eq_emod_of_nonneg _ (by omega)]
  unfold mv4
  omega
theorem find_cd {d : Nat} (hd : d < 4) : Txt.find ("a\" \n" : Str) (lt4 d) = (d : Int) := by
  have h : d = 0 ∨ d = 1 ∨ d = 2 ∨ d = 3 := by omega
  rcases h with rfl | rfl | rfl | rfl <;> decide +kernel
structure MiSt where
  o : Obj
  i : Nat
  vm : List Value
  em : Nat
  tb : List (Addr × Obj)
  td : List (Addr × Obj)
local macro_rules | `(tactic| walk_at "call ref") => `(tactic| refine haltF (by decide) ?_)
local macro_rules | `(tactic| walk_at "pyIter str") => `(tactic| refine Halt.of ?_)
local macro_rules | `(tactic| walk_at "call builtin:str.replace") => `(tactic| refine Halt.of ?_)
theorem mvi_spec {w : World} {mg mb : Str → Option Value} {p : Program} {loose : List Str} {mean : ExcName → Option Value} {dp un : Nat} {gd : Option (List Code)} {cn : Str} {cs : Scope} {a : Addr} {ccd : Value} {cl : List (Str × Addr)} {outer : List Env} {A₀ : Around} {base h₀ : Heap} {L : Addr} {m : Str → Option Value} {s : Shared} {Q : Flow → Shared → Prop} {E : Value → Shared → Prop} {st : Stmt} {M : Addr} {vm : List Value} {em : Nat} {acc pre : List Nat} {h t : Nat} {Wd : Str} {tw ts : Tok} {tb td rest : List (Addr × Obj)}
  (B : Below A₀ base outer h₀) (F : Fr h₀ L s.heap m) (X : (hd1.heap_39 w.params).In h₀) (N : News h₀ L s.heap ((M, W.listOf vm.toArray em) :: (tb ++ (td ++ rest)))) (T : Top p loose mean mg mb h₀) (hk : cs.kind = .function) (hd : dp + 160 < recursionLimit) (hu : un + 1300 < cLine)
  (hst : movFor PySem.Challenge.pw_pg0212_02 = some (st, cs))
  (hmM : m ("moved" : Str) = some (.ref M)) (hmS : m ("step" : Str) = some (.int ((t : Int) - (h : Int)) ts)) (hmW : m ("word" : Str) = some (.str Wd tw)) (hx1 : h < 4) (hx2 : t < 4) (hW : Wd.length ≤ 100)
  (ti : TabI2 tb) (td2 : TabD2 td) (dj1 : ∀ p ∈ tb, ∀ q ∈ td ++ rest, p.1 ≠ q.1) (dj2 : ∀ p ∈ td, ∀ q ∈ rest, p.1 ≠ q.1) (off : OffL (tb ++ td) [M]) (offR : OffL rest [M]) (CI : CodeHd base 83 79) (CD : CodeHd base 90 86)
  (htk : 0 < s.toks) (hz : (Txt.replace Wd ("_" : Str) ("" : Str)).cps.toList = pre.map cd) (iv : IntsAre vm (acc.map Int.ofNat)) (hal : acc.length ≤ 100) (hp4 : ∀ d ∈ pre, d < 4) (hpl : pre.length ≤ 100)
  (ret : ∀ vm' em' tb' td' h' tk' (m' : Str → Option Value), Fr h₀ L h' m' → (∀ z, z ≠ ("letter" : Str) → m' z = m z) → News h₀ L h' ((M, W.listOf vm'.toArray em') :: (tb' ++ (td' ++ rest))) → IntsAre vm' ((acc ++ pre.map (mv4 h t)).map Int.ofNat) → TabI2 tb' → TabD2 td' → (∀ p ∈ tb', ∀ q ∈ td' ++ rest, p.1 ≠ q.1) → (∀ p ∈ td', ∀ q ∈ rest, p.1 ≠ q.1) → OffL (tb' ++ td') [M] → Q .next { s with heap := h', toks := tk' }) :
  wpAny (model PySem.Challenge.pw_pg0212_02 w) (ktrTop dp un gd cn cs L a ccd cl outer) (exec st (envX cn cs L a ccd cl)) Q E s := by
  cases hst
  have F0 := ksw_fr (ps := [("moved", .ref M), ("step", .int ((t : Int) - (h : Int)) ts), ("word", .str Wd tw)]) (stored := []) (m₀ := m) (List.forall_mem_cons.mpr ⟨hmM, List.forall_mem_cons.mpr ⟨hmS, List.forall_mem_cons.mpr ⟨hmW, fun _ h => nomatch h⟩⟩⟩) (fun _ _ _ => rfl) F
  clear F
  refine wpAny_For ?_
  k_steps
  unfold Halt
  refine' SC.replaceW ?hu ?hv ?huv (by decide) ?hx ?hz9 ?_
  (case hu => exact Nat.ne_of_gt htk)
  (case hv => omega)
  (case huv => omega)
  (case hx => omega)
  (case hz9 => decide)
  intro t9 k9
  obtain ⟨z, hzz⟩ : ∃ z, Txt.replace Wd ("_" : Str) ("" : Str) = z := ⟨_, rfl⟩
  rw [hzz] at hz
  rw [hzz]
  have hzs : z.cps.size = pre.length := by rw [← Array.length_toList, hz, List.length_map]
  k_steps
  unfold Halt
  refine' st_make ?F6 ?N6 ?_
  (case F6 => k_asm)
  (case N6 => k_asm)
  intro I o0 h7 F7 N7 so0 lt7
  have nIM : @Ne Nat M I := Nat.ne_of_lt (lt7 (M, _) (.head _))
  have offI : OffL (tb ++ td) [I, M] := fun p hp a ha => by
    rcases List.mem_cons.mp ha with rfl | ha
    · exact Nat.ne_of_lt (lt7 p (.tail _ (in_l hp)))
    · exact off p hp a ha
  have rI : ∀ p ∈ rest, p.1 ≠ I := fun p hp => Nat.ne_of_lt (lt7 p (.tail _ (in_r hp)))
  have rM : ∀ p ∈ rest, p.1 ≠ M := fun p hp => offR p hp M (.head _)
  clear lt7
  (try dsimp only)
  refine' forI (L := _) (fun c : MiSt => (I, c.o) :: (M, W.listOf c.vm.toArray c.em) :: (c.tb ++ (c.td ++ rest))) (fun _ => [("moved", .ref M), ("step", .int ((t : Int) - (h : Int)) ts)]) ["letter"]
    (fun c => c.i ≤ pre.length ∧ StAt c.o z c.i ∧ IntsAre c.vm ((acc ++ (pre.take c.i).map (mv4 h t)).map Int.ofNat) ∧ TabI2 c.tb ∧ TabD2 c.td ∧ (∀ p ∈ c.tb, ∀ q ∈ c.td ++ rest, p.1 ≠ q.1) ∧ (∀ p ∈ c.td, ∀ q ∈ rest, p.1 ≠ q.1) ∧ OffL (c.tb ++ c.td) [I, M])
    (fun c => pre.length - c.i) ⟨o0, 0, vm, em, tb, td⟩ ?F9 ?N9 ?hk9 ?hr9 ?hp9 ?turn9
  (case F9 => exact F7)
  (case N9 => exact N7)
  (case hk9 => exact List.forall_mem_cons.mpr ⟨rfl, List.forall_mem_cons.mpr ⟨rfl, fun _ h => nomatch h⟩⟩)
  (case hr9 => exact fun z _ _ => rfl)
  (case hp9 => exact ⟨Nat.zero_le _, so0, by rw [List.take_zero, List.map_nil, List.append_nil]; exact iv, ti, td2, dj1, dj2, offI⟩)
  intro c u h4 tk4 P4 F4 N4
  obtain ⟨hi4, so4, iv4, ti4, td4, dj4, dk4, of4⟩ := P4
  have cI : ∀ p ∈ c.tb ++ (c.td ++ rest), p.1 ≠ I := fun p hp => by
    simp only [List.mem_append] at hp
    rcases hp with hp | hp | hp
    · exact of4 p (List.mem_append_left _ hp) I (.head _)
    · exact of4 p (List.mem_append_right _ hp) I (.head _)
    · exact rI p hp
  have cM : ∀ p ∈ c.tb ++ (c.td ++ rest), p.1 ≠ M := fun p hp => by
    simp only [List.mem_append] at hp
    rcases hp with hp | hp | hp
    · exact of4 p (List.mem_append_left _ hp) M (.tail _ (.head _))
    · exact of4 p (List.mem_append_right _ hp) M (.tail _ (.head _))
    · exact rM p hp
  by_cases hlast : c.i < pre.length
  · obtain ⟨d, hd0⟩ : ∃ d, pre.getD c.i 0 = d := ⟨_, rfl⟩
    have hd1 : d < 4 := by rw [← hd0]; exact hp4 _ (by rw [List.getD_eq_getElem?_getD, List.getElem?_eq_getElem hlast]; exact List.getElem_mem _)
    have hsg : z.cps.getD c.i 0 = cd d := by
      have e : z.cps.getD c.i 0 = z.cps.toList.getD c.i 0 := by simp [Array.getD_eq_getD_getElem?, List.getD_eq_getElem?_getD]
      rw [e, hz, ← hd0, List.getD_eq_getElem?_getD, List.getD_eq_getElem?_getD, List.getElem?_map, List.getElem?_eq_getElem hlast]; rfl
    refine' st_item (i := c.i) rfl F4 N4 ?U5 so4 (by omega) ?_
    (case U5 => k_updF)
    intro o5 h5 tk5 t5 F5 N5 so5
    rw [hsg]
    (try dsimp only at N5 ⊢)
    k_steps
    unfold Halt
    (try rw [show ({ cps := #[cd d] } : Str) = lt4 d from rfl, find_cd hd1])
    refine' idmC_spec (Bn := 4) [(I, o5), (M, W.listOf c.vm.toArray c.em)] ?B8 ?F8 ?X8 ?N8 ?T8 ?hk8 ?hd8 ?hu8 ti4 td4 dj4 dk4 of4 CI CD ?hx8 rfl (by decide) (by decide) ?_
    (case B8 => k_asm)
    (case F8 => k_asm)
    (case X8 => k_asm)
    (case N8 => k_asm)
    (case T8 => k_asm)
    (case hk8 => exact hk)
    (case hd8 => (simp only [recursionLimit] at *; omega))
    (case hu8 => (simp only [cLine_is] at *; omega))
    (case hx8 => omega)
    intro D9 q9 t91 t92 tb9 td9 h9 tk9 F9 N9 ti9 tj9 dj9 dk9 of9 ne9
    rw [mv4_fmod hx1] at N9
    simp only [List.cons_append, List.nil_append] at N9 ne9
    have cM9 : ∀ p ∈ tb9 ++ (td9 ++ rest), p.1 ≠ M := fun p hp => by
      simp only [List.mem_append] at hp
      rcases hp with hp | hp | hp
      · exact of9 p (List.mem_append_left _ hp) M (.tail _ (.head _))
      · exact of9 p (List.mem_append_right _ hp) M (.tail _ (.head _))
      · exact rM p hp
    have nDM : @Ne Nat M D9 := ne9 (M, _) (.tail _ (.head _))
    (try dsimp only)
    k_steps
    (rename Fr _ _ _ _ => F13)
    (rename News _ _ _ _ => N13)
    rw [List.push_toArray] at N13
    refine ksw_end ⟨o5, c.i + 1, c.vm ++ [.int ((mv4 h t d : Nat) : Int) t92], c.em + 1, tb9, td9⟩ (by k_asm) N13 ?hnb trivial ?hkb ?hrb ?hpb ?hmb
    (case hnb => exact fun p hp => .tail _ hp)
    (case hkb => exact List.forall_mem_cons.mpr ⟨rfl, List.forall_mem_cons.mpr ⟨rfl, fun _ h => nomatch h⟩⟩)
    (case hrb => (intro z h2 h3; simp only [List.forall_mem_cons, List.not_mem_nil, false_implies, implies_true, and_true, ne_eq] at h2; simp only [List.contains_cons, List.contains_nil, Bool.or_false, Bool.or_eq_false_iff, beq_eq_false_iff_ne, ne_eq] at h3; simp [kstB, h2, h3]))
    (case hmb => (dsimp only; omega))
    refine ⟨hlast, so5, ?_, ti9, tj9, dj9, dk9, of9⟩
    have e : pre.take (c.i + 1) = pre.take c.i ++ [d] := by
      rw [List.take_succ, List.getElem?_eq_getElem hlast, ← hd0, List.getD_eq_getElem?_getD, List.getElem?_eq_getElem hlast]; rfl
    dsimp only
    rw [e, List.map_append (f := mv4 h t), ← List.append_assoc, List.map_append, List.map_cons, List.map_nil, List.map_cons, List.map_nil]
    exact IntsAre.append iv4 (.cons _ _ .nil)
  · refine' st_end rfl F4 N4 (.head _) so4 (by omega) (nx := (M, W.listOf c.vm.toArray c.em) :: (c.tb ++ (c.td ++ rest))) (fun p hp => .tail _ hp) (List.forall_mem_cons.mpr ⟨nIM, cI⟩) ?_
    intro h5 tk5 F5 N5
    have ei : c.i = pre.length := by omega
    rw [ei, List.take_of_length_le (Nat.le_refl _)] at iv4
    exact ret _ _ _ _ _ _ _ F5 (fun z hz => by
      simp only [kstB]
      by_cases e1 : z = ("moved" : Str)
      · rw [if_pos e1, e1, hmM]
      · by_cases e2 : z = ("step" : Str)
        · rw [if_neg e1, if_pos e2, e2, hmS]
        · have e4 : ¬ ([("letter" : Str)].contains z = true) := by simp [hz]
          by_cases e3 : z = ("word" : Str)
          · rw [if_neg e1, if_neg e2, if_neg e4, if_neg e1, if_neg e2, if_pos e3, e3, hmW]
          · rw [if_neg e1, if_neg e2, if_neg e4, if_neg e1, if_neg e2, if_neg e3]; simp) N5 iv4 ti4 td4 dj4 dk4 (fun p hp a ha => of4 p hp a (.tail _ ha))
end
section
open PyProof.Rows
def tokL (h : Nat) : List Nat → List Nat
  | [] => []
  | d :: r => if d = h then [95] else 95 :: cd d :: tokL h r
def preL (h : Nat) : List Nat → List Nat
  | [] => []
  | d :: r => if d = h then [] else d :: preL h r
def postL (h : Nat) : List Nat → List Nat
  | [] => []
  | d :: r => if d = h then r else postL h r
theorem four {d : Nat} (hd : d < 4) : d = 0 ∨ d = 1 ∨ d = 2 ∨ d = 3 := by omega
theorem inWs_cd {h d : Nat} (hh : h < 4) (hd : d < 4) : inWs (lt4 h) (sg1 (cd d)) = decide (d = h) := by
  rcases four hh with rfl | rfl | rfl | rfl <;> rcases four hd with rfl | rfl | rfl | rfl <;> decide +kernel
theorem inWs_us {h : Nat} (hh : h < 4) : inWs (lt4 h) (sg1 95) = false := by
  rcases four hh with rfl | rfl | rfl | rfl <;> decide +kernel
theorem inWs_no {c : Nat} (hc : c = 95 ∨ ∃ d, d < 4 ∧ c = cd d) : inWs ("" : Str) (sg1 c) = false := by
  rcases hc with rfl | ⟨d, hd, rfl⟩
  · decide +kernel
  · rcases four hd with rfl | rfl | rfl | rfl <;> decide +kernel
theorem bs_cd {d : Nat} (hd : d < 4) : (sg1 (cd d) == Str.ofString "\\") = false := by
  rcases four hd with rfl | rfl | rfl | rfl <;> decide +kernel
theorem bs_us : (sg1 95 == Str.ofString "\\") = false := by decide +kernel
theorem qt_us : (sg1 95 == Str.ofString "\"") = false := by decide +kernel
theorem cps_add (a b : Str) : (a ++ b).cps.toList = a.cps.toList ++ b.cps.toList := by rw [Str.cps_append, Array.toList_append]
theorem gW_ul {h : Nat} (hh : h < 4) : ∀ (r : List Nat), (∀ d ∈ r, d < 4) → ∀ t : Str, (gW (lt4 h) (sgs (ulL r)) t).1.cps.toList = t.cps.toList ++ tokL h r ∧ (gW (lt4 h) (sgs (ulL r)) t).2 = sgs (ulL (postL h r))
  | [], _, t => by
    rw [show sgs (ulL []) = [] from rfl, gW_nil, tokL, postL]
    exact ⟨by simp, rfl⟩
  | d :: r, hr, t => by
    have hd := hr d (.head _)
    rw [show sgs (ulL (d :: r)) = sg1 95 :: sg1 (cd d) :: sgs (ulL r) from rfl, gW_cons, inWs_us hh, if_neg Bool.false_ne_true, bs_us, if_neg Bool.false_ne_true, gW_cons, inWs_cd hh hd, tokL, postL]
    by_cases e : d = h
    · rw [if_pos (decide_eq_true e), if_pos e, if_pos e]
      exact ⟨by rw [cps_add] <;> rfl, rfl⟩
    · rw [if_neg (by simp [e]), bs_cd hd, if_neg Bool.false_ne_true, if_neg e, if_neg e]
      obtain ⟨h1, h2⟩ := gW_ul hh r (fun x hx => hr x (.tail _ hx)) (t ++ sg1 95 ++ sg1 (cd d))
      refine ⟨?_, h2⟩
      rw [h1, cps_add, cps_add, List.append_assoc, List.append_assoc]; rfl
theorem gO_ul {h : Nat} (hh : h < 4) (r : List Nat) (hr : ∀ d ∈ r, d < 4) : (gO (lt4 h) (sgs (ulL r)) ("" : Str)).1.cps.toList = tokL h r ∧ (gO (lt4 h) (sgs (ulL r)) ("" : Str)).2 = sgs (ulL (postL h r)) := by
  cases r with
  | nil => exact ⟨rfl, rfl⟩
  | cons d r =>
    have hd := hr d (.head _)
    have e0 := gW_ul hh (d :: r) hr ("" : Str)
    have e1 : gO (lt4 h) (sgs (ulL (d :: r))) ("" : Str) = gW (lt4 h) (sgs (ulL (d :: r))) ("" : Str) := by
      rw [show sgs (ulL (d :: r)) = sg1 95 :: sg1 (cd d) :: sgs (ulL r) from rfl]
      conv => rhs; rw [gW_cons, inWs_us hh, if_neg Bool.false_ne_true, bs_us, if_neg Bool.false_ne_true]
      rw [gO, inWs_us hh, if_neg Bool.false_ne_true, qt_us, if_neg Bool.false_ne_true, bs_us, if_neg Bool.false_ne_true]
    rw [e1]
    exact ⟨by rw [e0.1] <;> rfl, e0.2⟩
theorem gW_no : ∀ (r : List Nat), (∀ d ∈ r, d < 4) → ∀ t : Str, (gW ("" : Str) (sgs (ulL r)) t).1.cps.toList = t.cps.toList ++ ulL r ∧ (gW ("" : Str) (sgs (ulL r)) t).2 = []
  | [], _, t => by
    rw [show sgs (ulL []) = [] from rfl, gW_nil, ulL]
    exact ⟨by simp, rfl⟩
  | d :: r, hr, t => by
    have hd := hr d (.head _)
    rw [show sgs (ulL (d :: r)) = sg1 95 :: sg1 (cd d) :: sgs (ulL r) from rfl, gW_cons, inWs_no (.inl rfl), if_neg Bool.false_ne_true, bs_us, if_neg Bool.false_ne_true, gW_cons, inWs_no (.inr ⟨d, hd, rfl⟩), if_neg Bool.false_ne_true, bs_cd hd, if_neg Bool.false_ne_true, ulL]
    obtain ⟨h1, h2⟩ := gW_no r (fun x hx => hr x (.tail _ hx)) (t ++ sg1 95 ++ sg1 (cd d))
    refine ⟨?_, h2⟩
    rw [h1, cps_add, cps_add, List.append_assoc, List.append_assoc]; rfl
theorem gO_no (r : List Nat) (hr : ∀ d ∈ r, d < 4) : (gO ("" : Str) (sgs (ulL r)) ("" : Str)).1.cps.toList = ulL r ∧ (gO ("" : Str) (sgs (ulL r)) ("" : Str)).2 = [] := by
  cases r with
  | nil => exact ⟨rfl, rfl⟩
  | cons d r =>
    have e0 := gW_no (d :: r) hr ("" : Str)
    have e1 : gO ("" : Str) (sgs (ulL (d :: r))) ("" : Str) = gW ("" : Str) (sgs (ulL (d :: r))) ("" : Str) := by
      rw [show sgs (ulL (d :: r)) = sg1 95 :: sg1 (cd d) :: sgs (ulL r) from rfl]
      conv => rhs; rw [gW_cons, inWs_no (.inl rfl), if_neg Bool.false_ne_true, bs_us, if_neg Bool.false_ne_true]
      rw [gO, inWs_no (.inl rfl), if_neg Bool.false_ne_true, qt_us, if_neg Bool.false_ne_true, bs_us, if_neg Bool.false_ne_true]
    rw [e1]
    exact ⟨by rw [e0.1] <;> rfl, e0.2⟩
theorem cd_ne {d : Nat} (hd : d < 4) : (cd d != 95) = true := by
  rcases four hd with rfl | rfl | rfl | rfl <;> decide
theorem strike_ul : ∀ r : List Nat, (∀ d ∈ r, d < 4) → (ulL r).filter (· != 95) = r.map cd
  | [], _ => rfl
  | d :: r, hr => by
    rw [ulL, List.filter_cons, List.filter_cons, cd_ne (hr d (.head _)), strike_ul r (fun x hx => hr x (.tail _ hx))]; rfl
theorem strike_tok (h : Nat) : ∀ r : List Nat, (∀ d ∈ r, d < 4) → (tokL h r).filter (· != 95) = (preL h r).map cd
  | [], _ => rfl
  | d :: r, hr => by
    rw [tokL, preL]
    by_cases e : d = h
    · rw [if_pos e, if_pos e]; rfl
    · rw [if_neg e, if_neg e, List.filter_cons, List.filter_cons, cd_ne (hr d (.head _)), strike_tok h r (fun x hx => hr x (.tail _ hx))]; rfl
theorem replace_tok {h : Nat} {r : List Nat} (hr : ∀ d ∈ r, d < 4) {W : Str} (hW : W.cps.toList = tokL h r) : (Txt.replace W ("_" : Str) ("" : Str)).cps.toList = (preL h r).map cd := by
  rw [show ("_" : Str) = ⟨#[95]⟩ by decide, show ("" : Str) = ⟨#[]⟩ from rfl, replace_strikes, hW, strike_tok h r hr]
theorem replace_ul {r : List Nat} (hr : ∀ d ∈ r, d < 4) {W : Str} (hW : W.cps.toList = ulL r) : (Txt.replace W ("_" : Str) ("" : Str)).cps.toList = r.map cd := by
  rw [show ("_" : Str) = ⟨#[95]⟩ by decide, show ("" : Str) = ⟨#[]⟩ from rfl, replace_strikes, hW, strike_ul r hr]
theorem tokL_length (h : Nat) : ∀ r, (tokL h r).length ≤ 2 * r.length
  | [] => Nat.le_refl _
  | d :: r => by
    have := tokL_length h r
    rw [tokL]
    by_cases e : d = h
    · rw [if_pos e, List.length_cons, List.length_cons]; simp; omega
    · rw [if_neg e, List.length_cons, List.length_cons, List.length_cons]; omega
theorem tokL_last {h : Nat} : ∀ r, (∀ d ∈ r, d < 4) → ((tokL h r).getLast? = some 95 ↔ h ∈ r)
  | [], _ => by simp [tokL]
  | d :: r, hr => by
    have ih := tokL_last (h := h) r (fun x hx => hr x (.tail _ hx))
    rw [tokL]
    by_cases e : d = h
    · rw [if_pos e]; simp [e]
    · rw [if_neg e, List.mem_cons]
      have hc := cd_ne (hr d (.head _))
      cases hq : tokL h r with
      | nil =>
        rw [hq] at ih
        have h1 : h ∉ r := fun q => by simpa using ih.mpr q
        simp only [bne_iff_ne, ne_eq] at hc
        simp [hc, h1, Ne.symm e]
      | cons y ys =>
        rw [hq] at ih
        rw [show (95 :: cd d :: y :: ys : List Nat).getLast? = (y :: ys).getLast? by simp [List.getLast?_cons_cons], ih]
        simp [Ne.symm e]
theorem item_lt4 {h : Nat} (hh : h < 4) : Txt.item ("a\" \n" : Str) ((h : Nat) : Int) = lt4 h := by
  rcases four hh with rfl | rfl | rfl | rfl <;> decide +kernel
theorem preL_mem {h d : Nat} : ∀ {r : List Nat}, d ∈ preL h r → d ∈ r
  | [], m => m
  | x :: r, m => by
    rw [preL] at m
    by_cases e : x = h
    · rw [if_pos e] at m; cases m
    · rw [if_neg e] at m
      rcases List.mem_cons.mp m with rfl | m
      · exact .head _
      · exact .tail _ (preL_mem m)
theorem pre_post (h : Nat) : ∀ r : List Nat, (preL h r).length + (if h ∈ r then 1 else 0) + (postL h r).length = r.length
  | [] => rfl
  | x :: r => by
    have ih := pre_post h r
    rw [preL, postL]
    by_cases e : x = h
    · rw [if_pos e, if_pos e, if_pos (by rw [e]; exact .head _), List.length_nil, List.length_cons]; omega
    · rw [if_neg e, if_neg e, List.length_cons, List.length_cons]
      have : (h ∈ x :: r) ↔ (h ∈ r) := by rw [List.mem_cons]; exact ⟨fun q => q.resolve_left (fun z => e z.symm), .inr⟩
      simp only [this]
      omega
theorem postL_mem {h d : Nat} : ∀ {r : List Nat}, d ∈ postL h r → d ∈ r
  | [], m => m
  | x :: r, m => by
    rw [postL] at m
    by_cases e : x = h
    · rw [if_pos e] at m; exact .tail _ m
    · rw [if_neg e] at m; exact .tail _ (postL_mem m)
theorem fr_again {h₀ h h' : Heap} {L : Addr} {m m' : Str → Option Value} {ps : List (Str × Value)} (_ : Fr h₀ L h m) (F' : Fr h₀ L h' m') (hag : ∀ z, z ≠ ("letter" : Str) → m' z = m z) (hps : ∀ p ∈ ps, m p.1 = some p.2 ∧ p.1 ≠ ("letter" : Str)) :
    Fr h₀ L h' (kstB (fun z => if [("letter" : Str)].contains z then m' z else m z) ps) :=
  ksw_fr (fun p hp => by rw [hag _ (hps p hp).2]; exact (hps p hp).1) (fun z _ hz => hag z (fun e => by rw [e] at hz; simp at hz)) F'
end
section
open Builtin Builtin.Str in
theorem idx_last (n : Nat) : strSliceIndices (some (-1)) none 1 n = if n = 0 then [] else [n - 1] := by
  have e : strSliceIndices (some (-1)) none 1 n = sliceRange (max 0 (min ((-1 : Int) + n) n)) n 1 := rfl
  rw [e]
  unfold sliceRange
  cases n with
  | zero => rfl
  | succ k =>
    have e2 : max 0 (min ((-1 : Int) + ((k + 1 : Nat) : Int)) ((k + 1 : Nat) : Int)) = (k : Int) := by omega
    rw [e2, if_pos (by decide), if_pos (by omega), if_neg (by omega)]
    have e3 : ((((k + 1 : Nat) : Int) - (k : Int) + 1 - 1) / 1).toNat = 1 := by omega
    show List.map (fun j : Nat => ((k : Int) + 1 * (j : Int)).toNat) (List.range ((((k + 1 : Nat) : Int) - (k : Int) + 1 - 1) / 1).toNat) = _
    rw [e3, Nat.add_sub_cancel]
    simp
open Builtin Builtin.Str in
theorem slice_last (x : Str) : (Txt.slice x (some (-1)) none).cps.toList = x.cps.toList.getLast?.toList := by
  unfold Txt.slice
  rw [idx_last]
  by_cases h0 : x.length = 0
  · have e : x.cps.toList = [] := List.length_eq_zero_iff.mp (by rw [← length_toList]; exact h0)
    rw [if_pos h0, e]
    split
    · rw [e]; rfl
    · rfl
  · rw [if_neg h0]
    have hl : x.length - 1 < x.cps.toList.length := by rw [← length_toList]; omega
    have e1 : x.cps.toList.getLast? = some x.cps.toList[x.length - 1] := by
      rw [List.getLast?_eq_getElem?, ← length_toList, List.getElem?_eq_getElem hl]
    rw [e1]
    split
    · rename_i h
      have h1 : x.cps.toList.length = 1 := by simp at h; rw [← length_toList]; exact h.symm
      obtain ⟨a, ha⟩ := List.length_eq_one_iff.mp h1
      have h2 : x.length = 1 := by rw [length_toList]; exact h1
      simp [ha, h2]
    · have e2 : x.cps[x.length - 1]? = some x.cps.toList[x.length - 1] := by
        rw [← Array.getElem?_toList, List.getElem?_eq_getElem hl]
      simp [e2]
theorem slice_tok {h : Nat} {r : List Nat} (hr : ∀ d ∈ r, d < 4) {W : Str} (hW : W.cps.toList = tokL h r) : (Txt.slice W (some (-1)) none == ("_" : Str)) = true ↔ h ∈ r := by
  rw [← tokL_last r hr, ← hW, beq_iff_eq]
  have e := slice_last W
  constructor
  · intro q
    rw [q, show (("_" : Str)).cps.toList = [95] by decide] at e
    cases hq : W.cps.toList.getLast? with
    | none => rw [hq] at e; cases e
    | some v => rw [hq] at e; simp at e; rw [← e]
  · intro q
    rw [q] at e
    apply Str.ext'
    apply Array.toList_inj.mp
    rw [e]; decide
end
section
def movRest (p : Program) : Option (List Stmt × Scope) :=
  match (p.main.body[(17 : Nat)]? : Option Stmt) with
  | some (.FunctionDef _ _ (_ :: _ :: _ :: _ :: _ :: _ :: _ :: b) _ _ _ sc _ _ _) => some (b, sc)
  | _ => none
def movL : List Nat → List Nat → List Nat → List Nat → List Nat → List Nat × List Nat × List Nat
  | row, h :: hs, t :: ts, acc, es => if h ∈ row then movL (postL h row) hs ts ((acc ++ (preL h row).map (mv4 h t)) ++ [t]) (es ++ [((acc ++ (preL h row).map (mv4 h t)) ++ [t]).length]) else movL (postL h row) hs ts (acc ++ (preL h row).map (mv4 h t)) es
  | row, _, _, acc, es => (row, acc, es)
structure MoSt where
  i : Nat
  vs : List Value
  ln : Int
  n5 : Tok
  n6 : Tok
  wsp : Str
  ep : Nat
  ep2 : Nat
  vm : List Value
  em : Nat
  ve : List Value
  ee : Nat
  tb : List (Addr × Obj)
  td : List (Addr × Obj)
  row : List Nat
  acc : List Nat
  es : List Nat
local macro_rules | `(tactic| walk_at "call ref") => `(tactic| refine haltF (by decide) ?_)
local macro_rules | `(tactic| walk_at "call builtin:len") => `(tactic| refine Halt.of ?_)
local macro_rules | `(tactic| walk_at "exec For Name Call cons nil") => `(tactic| refine Halt.of ?_)
local macro_rules | `(tactic| walk_at "eval ListComp") => `(tactic| refine Halt.of ?_)
local macro_rules | `(tactic| walk_at "call builtin:str.replace") => `(tactic| refine Halt.of ?_)
local macro_rules | `(tactic| walk_at "binaryOp Add ref ref") => `(tactic| refine Halt.of ?_)
local macro_rules | `(tactic| walk_at "pyIter ref") => `(tactic| refine Halt.of ?_)
local macro_rules | `(tactic| walk_at "subscriptTail Name Slice str ref") => `(tactic| refine Halt.of ?_)
theorem mov_rest {w : World} {mg mb : Str → Option Value} {p : Program} {loose : List Str} {mean : ExcName → Option Value} {dp un : Nat} {gd : Option (List Code)} {cn : Str} {cs : Scope} {a : Addr} {ccd : Value} {cl : List (Str × Addr)} {outer : List Env} {A₀ : Around} {base h₀ : Heap} {L : Addr} {m : Str → Option Value} {s : Shared} {Q : Flow → Shared → Prop} {E : Value → Shared → Prop} {x dx pb dS fS r cr cS S : Addr} {oc oS : Obj} {ocv : Array Value} {toc : Tok} {fd : FuncData} {nm qu : Str} {ps : Arguments} {bd : List Stmt} {sc : Scope} {dc pm ct : Value} {ln : Int} {n1 n2 n3 n4 n5 n6 n7 : Tok} {vs vm ve vh vt : List Value} {ep ep2 em ee eh et : Nat} {wsp : Str} {rest : List (Addr × Obj)} {M E9 H Tt : Addr} {bd9 : List Stmt} {row here there : List Nat} {tb td : List (Addr × Obj)}
  (B : Below A₀ base outer h₀) (F : Fr h₀ L s.heap m) (X : (hd1.heap_39 w.params).In h₀) (N : News h₀ L s.heap ((pb, W.listOf ([]).toArray ep) :: (x, instObj 59 dx) :: (dx, (dictOf [{ hash := PyData.keyHash w.params ("lineno" : Str), key := .str ("lineno" : Str) n1, val := .int ln n5 }, { hash := PyData.keyHash w.params ("instream" : Str), key := .str ("instream" : Str) n2, val := .ref fS }, { hash := PyData.keyHash w.params ("whitespace" : Str), key := .str ("whitespace" : Str) n3, val := .str wsp n6 }, { hash := PyData.keyHash w.params ("pushback" : Str), key := .str ("pushback" : Str) n4, val := .ref pb }] 4)) :: (dS, dictOf [{ hash := PyData.keyHash w.params ("read" : Str), key := .str ("read" : Str) n7, val := .ref r }] 1) :: (fS, ({ cls := .type "function", dict := some dS, data := .func fd } : Obj)) :: (r, fnMade nm qu ps bd sc [(("signs" : Str), cS)] dc pm cr ct) :: (cr, oc) :: (cS, oS) :: (S, W.listOf (vs).toArray ep2) :: (M, W.listOf (vm).toArray em) :: (E9, W.listOf (ve).toArray ee) :: (H, W.listOf vh.toArray eh) :: (Tt, W.listOf vt.toArray et) :: (tb ++ (td ++ rest)))) (T : Top p loose mean mg mb h₀) (hk : cs.kind = .function) (hd : dp + 260 < recursionLimit) (hu : un + 2400 < cLine)
  (hb9 : movRest PySem.Challenge.pw_pg0212_02 = some (bd9, cs))
  (hm1 : m ("lexer" : Str) = some (.ref x)) (hm2 : m ("here" : Str) = some (.ref H)) (hm3 : m ("there" : Str) = some (.ref Tt)) (hm4 : m ("moved" : Str) = some (.ref M)) (hm5 : m ("ends" : Str) = some (.ref E9))
  (hnd : nested PySem.Challenge.pw_pg0212_02 17 1 = some (nm, ps, bd, sc)) (hoc : oc.data = .fields ocv) (hoc1 : ocv[1]? = some (.str qu toc)) (hoS : oS.data = .cell (some (.ref S)))
  (o1 : @LT.lt Nat _ cS S) (o2 : @LT.lt Nat _ S r ∧ @Ne Nat cr S) (o3 : @LT.lt Nat _ cr r) (o4 : @LT.lt Nat _ r fS) (o5 : @LT.lt Nat _ fS dS) (o6 : @LT.lt Nat _ dS dx) (o7 : @LT.lt Nat _ dx x) (o8 : @LT.lt Nat _ x pb)
  (o9 : @LT.lt Nat _ pb M) (o10 : @LT.lt Nat _ M E9)
  (qR : OffL rest [pb, dx, S, M, E9]) (qH : ∀ a ∈ [pb, dx, S, M, E9], H ≠ a) (qT : ∀ a ∈ [pb, dx, S, M, E9], Tt ≠ a)
  (iH : IntsAre vh (here.map Int.ofNat)) (iT : IntsAre vt (there.map Int.ofNat)) (h4 : ∀ d ∈ here, d < 4) (t4 : ∀ d ∈ there, d < 4) (hl : here.length = there.length) (hl2 : here.length ≤ 10) (r4 : ∀ d ∈ row, d < 4) (rl : row.length ≤ 10)
  (iM : vm = []) (iE : ve = []) (hsg : SgA vs (sgs (ulL row)))
  (ti : TabI2 tb) (td2 : TabD2 td) (dj1 : ∀ p ∈ tb, ∀ q ∈ td ++ rest, p.1 ≠ q.1) (dj2 : ∀ p ∈ td, ∀ q ∈ rest, p.1 ≠ q.1) (offT : OffL (tb ++ td) [pb, x, dx, dS, fS, r, cr, cS, S, M, E9, H, Tt]) (CI : CodeHd base 83 79) (CD : CodeHd base 90 86)
  (ret : ∀ (D M2 : Addr) (vm2 : List Value) (em2 : Nat) (ve2 : List Value) (ee2 : Nat) (tb' td' : List (Addr × Obj)) (h' : Heap) (tk' : Nat) (m' : Str → Option Value), Fr h₀ L h' m' → News h₀ L h' ((D, { cls := .type "tuple", data := .seq #[.ref M2, .ref E9] }) :: (M2, W.listOf vm2.toArray em2) :: (E9, W.listOf ve2.toArray ee2) :: (tb' ++ (td' ++ rest))) → IntsAre vm2 (((movL row here there [] []).2.1 ++ (movL row here there [] []).1).map Int.ofNat) → IntsAre ve2 ((movL row here there [] []).2.2.map Int.ofNat) → TabI2 tb' → TabD2 td' → (∀ p ∈ tb', ∀ q ∈ td' ++ rest, p.1 ≠ q.1) → (∀ p ∈ td', ∀ q ∈ rest, p.1 ≠ q.1) → OffL (tb' ++ td') [D, M2, E9] → OffL rest [D, M2, E9] → Q (.ret (.ref D)) { s with heap := h', toks := tk' }) :
  wpAny (model PySem.Challenge.pw_pg0212_02 w) (ktrTop dp un gd cn cs L a ccd cl outer) (execs bd9 (envX cn cs L a ccd cl)) Q E s := by
  cases hb9
  subst iM iE
  have hvh : vh.length = here.length := by rw [iH.length, List.length_map]
  have F0 := ksw_fr (ps := [("lexer", .ref x), ("here", .ref H), ("there", .ref Tt), ("moved", .ref M), ("ends", .ref E9)]) (stored := []) (m₀ := m) (List.forall_mem_cons.mpr ⟨hm1, List.forall_mem_cons.mpr ⟨hm2, List.forall_mem_cons.mpr ⟨hm3, List.forall_mem_cons.mpr ⟨hm4, List.forall_mem_cons.mpr ⟨hm5, fun _ h => nomatch h⟩⟩⟩⟩⟩) (fun _ _ _ => rfl) F
  clear F
  k_steps
  unfold Halt
  refine wpAny_For ?_
  k_steps
  unfold Halt
  refine' len_L (D := H) (vs := vh) ?Nl0 ?ml0 ?fl0 ?_
  (case Nl0 => k_asm)
  (case ml0 => k_mem)
  (case fl0 => omega)
  k_steps
  unfold Halt
  refine' ri_make (n := vh.length) ?Fr1 ?Nr1 ?hr1 rfl ?hn1 ?_
  (case Fr1 => k_asm)
  (case Nr1 => k_asm)
  (case hr1 => assumption)
  (case hn1 => omega)
  intro I h7 F7 N7 lt7
  have offI : OffL (tb ++ td) (I :: [pb, x, dx, dS, fS, r, cr, cS, S, M, E9, H, Tt]) := fun p hp a ha => by
    rcases List.mem_cons.mp ha with rfl | ha
    · exact Nat.ne_of_lt (lt7 p (by (repeat (first | exact in_l hp | refine List.Mem.tail _ ?_))))
    · exact offT p hp a ha
  have rI : ∀ p ∈ rest, p.1 ≠ I := fun p hp => Nat.ne_of_lt (lt7 p (by (repeat (first | exact in_r hp | refine List.Mem.tail _ ?_))))
  have lI : @LT.lt Nat _ E9 I := lt7 (E9, _) (by k_mem)
  have lH : @LT.lt Nat _ H I := lt7 (H, _) (by k_mem)
  have lT : @LT.lt Nat _ Tt I := lt7 (Tt, _) (by k_mem)
  clear lt7
  have nHdx : @Ne Nat H dx := qH dx (by repeat (first | exact .head _ | refine .tail _ ?_))
  have nTdx : @Ne Nat Tt dx := qT dx (by repeat (first | exact .head _ | refine .tail _ ?_))
  have nHS : @Ne Nat H S := qH S (by repeat (first | exact .head _ | refine .tail _ ?_))
  have nTS : @Ne Nat Tt S := qT S (by repeat (first | exact .head _ | refine .tail _ ?_))
  have nHpb : @Ne Nat H pb := qH pb (by repeat (first | exact .head _ | refine .tail _ ?_))
  have nTpb : @Ne Nat Tt pb := qT pb (by repeat (first | exact .head _ | refine .tail _ ?_))
  have nHM : @Ne Nat H M := qH M (by repeat (first | exact .head _ | refine .tail _ ?_))
  have nTM : @Ne Nat Tt M := qT M (by repeat (first | exact .head _ | refine .tail _ ?_))
  have nHE9 : @Ne Nat H E9 := qH E9 (by repeat (first | exact .head _ | refine .tail _ ?_))
  have nTE9 : @Ne Nat Tt E9 := qT E9 (by repeat (first | exact .head _ | refine .tail _ ?_))
  (try dsimp only)
  refine' forI (L := _) (fun c : MoSt => ((I, itR (c.i : Int) ((vh.length : Int) - (c.i : Nat))) :: (pb, W.listOf ([]).toArray c.ep) :: (x, instObj 59 dx) :: (dx, (dictOf [{ hash := PyData.keyHash w.params ("lineno" : Str), key := .str ("lineno" : Str) n1, val := .int c.ln c.n5 }, { hash := PyData.keyHash w.params ("instream" : Str), key := .str ("instream" : Str) n2, val := .ref fS }, { hash := PyData.keyHash w.params ("whitespace" : Str), key := .str ("whitespace" : Str) n3, val := .str c.wsp c.n6 }, { hash := PyData.keyHash w.params ("pushback" : Str), key := .str ("pushback" : Str) n4, val := .ref pb }] 4)) :: (dS, dictOf [{ hash := PyData.keyHash w.params ("read" : Str), key := .str ("read" : Str) n7, val := .ref r }] 1) :: (fS, ({ cls := .type "function", dict := some dS, data := .func fd } : Obj)) :: (r, fnMade nm qu ps bd sc [(("signs" : Str), cS)] dc pm cr ct) :: (cr, oc) :: (cS, oS) :: (S, W.listOf (c.vs).toArray c.ep2) :: (M, W.listOf (c.vm).toArray c.em) :: (E9, W.listOf (c.ve).toArray c.ee) :: (H, W.listOf vh.toArray eh) :: (Tt, W.listOf vt.toArray et) :: (c.tb ++ (c.td ++ rest)))) (fun _ => [("lexer", .ref x), ("here", .ref H), ("there", .ref Tt), ("moved", .ref M), ("ends", .ref E9)]) ["k", "word", "step", "letter"]
    (fun c => c.i ≤ here.length ∧ SgA c.vs (sgs (ulL c.row)) ∧ IntsAre c.vm (c.acc.map Int.ofNat) ∧ IntsAre c.ve (c.es.map Int.ofNat) ∧ TabI2 c.tb ∧ TabD2 c.td ∧ (∀ p ∈ c.tb, ∀ q ∈ c.td ++ rest, p.1 ≠ q.1) ∧ (∀ p ∈ c.td, ∀ q ∈ rest, p.1 ≠ q.1) ∧ OffL (c.tb ++ c.td) (I :: [pb, x, dx, dS, fS, r, cr, cS, S, M, E9, H, Tt]) ∧ movL c.row (here.drop c.i) (there.drop c.i) c.acc c.es = movL row here there [] [] ∧ (∀ d ∈ c.row, d < 4) ∧ c.acc.length + c.row.length = row.length ∧ c.es.length ≤ c.i)
    (fun c => here.length - c.i) ⟨0, vs, ln, n5, n6, wsp, ep, ep2, [], em, [], ee, tb, td, row, [], []⟩ ?F9 ?N9 ?hk9 ?hr9 ?hp9 ?turn9
  (case F9 => exact F7)
  (case N9 => exact (by rw [show ((vh.length : Int) - ((0 : Nat) : Int)) = (vh.length : Int) by omega]; exact N7))
  (case hk9 => exact List.forall_mem_cons.mpr ⟨rfl, List.forall_mem_cons.mpr ⟨rfl, List.forall_mem_cons.mpr ⟨rfl, List.forall_mem_cons.mpr ⟨rfl, List.forall_mem_cons.mpr ⟨rfl, fun _ h => nomatch h⟩⟩⟩⟩⟩)
  (case hr9 => exact fun z _ _ => rfl)
  (case hp9 => exact ⟨Nat.zero_le _, hsg, .nil, .nil, ti, td2, dj1, dj2, offI, rfl, r4, Nat.zero_add _, Nat.le_refl _⟩)
  intro c u h4' tk4 P4 F4 N4
  obtain ⟨hi4, sg4, iv4, ie4, ti4, td4, dj4, dk4, of4, er4, cr4, cl4, el4⟩ := P4
  have zI : ∀ p ∈ c.tb ++ (c.td ++ rest), p.1 ≠ I := off_all of4 (l' := [I]) (fun p hp a ha => by rw [List.mem_singleton.mp ha]; exact rI p hp) (by repeat (first | exact .head _ | refine .tail _ ?_)) (.head _)
  have zdx : ∀ p ∈ c.tb ++ (c.td ++ rest), p.1 ≠ dx := off_all of4 qR (by repeat (first | exact .head _ | refine .tail _ ?_)) (by repeat (first | exact .head _ | refine .tail _ ?_))
  have zS : ∀ p ∈ c.tb ++ (c.td ++ rest), p.1 ≠ S := off_all of4 qR (by repeat (first | exact .head _ | refine .tail _ ?_)) (by repeat (first | exact .head _ | refine .tail _ ?_))
  have zpb : ∀ p ∈ c.tb ++ (c.td ++ rest), p.1 ≠ pb := off_all of4 qR (by repeat (first | exact .head _ | refine .tail _ ?_)) (by repeat (first | exact .head _ | refine .tail _ ?_))
  have zM : ∀ p ∈ c.tb ++ (c.td ++ rest), p.1 ≠ M := off_all of4 qR (by repeat (first | exact .head _ | refine .tail _ ?_)) (by repeat (first | exact .head _ | refine .tail _ ?_))
  have zE9 : ∀ p ∈ c.tb ++ (c.td ++ rest), p.1 ≠ E9 := off_all of4 qR (by repeat (first | exact .head _ | refine .tail _ ?_)) (by repeat (first | exact .head _ | refine .tail _ ?_))
  by_cases hlast : c.i < here.length
  · obtain ⟨hv, hhv⟩ : ∃ hv, here.getD c.i 0 = hv := ⟨_, rfl⟩
    obtain ⟨tv, htv⟩ : ∃ tv, there.getD c.i 0 = tv := ⟨_, rfl⟩
    obtain ⟨th0, hth0⟩ := ints_at iH (i := c.i) hlast
    obtain ⟨tt0, htt0⟩ := ints_at iT (i := c.i) (by omega)
    rw [hhv] at hth0
    rw [htv] at htt0
    have hv4 : hv < 4 := by rw [← hhv]; exact h4 _ (by rw [List.getD_eq_getElem?_getD, List.getElem?_eq_getElem hlast]; exact List.getElem_mem _)
    have tv4 : tv < 4 := by rw [← htv]; exact t4 _ (by rw [List.getD_eq_getElem?_getD, List.getElem?_eq_getElem (by omega)]; exact List.getElem_mem _)
    have hdr : here.drop c.i = hv :: here.drop (c.i + 1) := by rw [List.drop_eq_getElem_cons hlast, ← hhv, List.getD_eq_getElem?_getD, List.getElem?_eq_getElem hlast]; rfl
    have tdr : there.drop c.i = tv :: there.drop (c.i + 1) := by rw [List.drop_eq_getElem_cons (by omega), ← htv, List.getD_eq_getElem?_getD, List.getElem?_eq_getElem (by omega)]; rfl
    rw [hdr, tdr, movL] at er4
    refine' ri_item (n := vh.length) (i := c.i) rfl F4 N4 ?U5 (by omega) ?_
    (case U5 => k_updF)
    intro h5 tk5 t5 F5 N5
    (try dsimp only at N5 ⊢)
    have e1 : (List.map Int.ofNat here).getD ((c.i : Int)).toNat 0 = (hv : Int) := by rw [Int.toNat_natCast, getD_cast, hhv]
    have e2 : (List.map Int.ofNat there).getD ((c.i : Int)).toNat 0 = (tv : Int) := by rw [Int.toNat_natCast, getD_cast, htv]
    have hv4' : (hv : Int) < 4 := by omega
    k_steps
    unfold Halt
    (rename News _ _ _ _ => N6)
    rw [e1, item_lt4 hv4] at N6
    have hgo := gO_ul hv4 c.row cr4
    obtain ⟨Wd, hWd⟩ : ∃ Wd, (gO (lt4 hv) (sgs (ulL c.row)) ("" : Str)).1 = Wd := ⟨_, rfl⟩
    rw [hWd] at hgo
    refine up_toks ?_
    refine' gt_spec (pd := []) (wsp := lt4 hv) (ws := sgs (ulL c.row)) (rest := (M, W.listOf c.vm.toArray c.em) :: (E9, W.listOf c.ve.toArray c.ee) :: (H, W.listOf vh.toArray eh) :: (Tt, W.listOf vt.toArray et) :: (I, itR ((c.i + 1 : Nat) : Int) ((vh.length : Int) - ((c.i + 1 : Nat) : Int))) :: (c.tb ++ (c.td ++ rest))) ?Bg ?Fg ?Xg ?Ng ?Tg hk ?hdg ?hug hnd hoc hoc1 hoS o1 o2 o3 o4 o5 o6 o7 o8 ?q1g ?q2g ?q3g sg4 ?oneg ?leng ?_
    (case Bg => k_asm)
    (case Fg => k_asm)
    (case Xg => k_asm)
    (case Ng => exact cb_drop N6 (List.forall_mem_cons.mpr ⟨by k_mem, (List.forall_mem_cons.mpr ⟨by k_mem, (List.forall_mem_cons.mpr ⟨by k_mem, (List.forall_mem_cons.mpr ⟨by k_mem, (List.forall_mem_cons.mpr ⟨by k_mem, (List.forall_mem_cons.mpr ⟨by k_mem, (List.forall_mem_cons.mpr ⟨by k_mem, (List.forall_mem_cons.mpr ⟨by k_mem, (List.forall_mem_cons.mpr ⟨by k_mem, (List.forall_mem_cons.mpr ⟨by k_mem, (List.forall_mem_cons.mpr ⟨by k_mem, (List.forall_mem_cons.mpr ⟨by k_mem, (List.forall_mem_cons.mpr ⟨by k_mem, (List.forall_mem_cons.mpr ⟨by k_mem, fun p hp => by (repeat (first | exact hp | refine List.Mem.tail _ ?_))⟩)⟩)⟩)⟩)⟩)⟩)⟩)⟩)⟩)⟩)⟩)⟩)⟩)⟩))
    (case Tg => k_asm)
    (case hdg => (simp only [recursionLimit] at *; omega))
    (case hug => (simp only [cLine_is] at *; omega))
    (case q1g => exact (List.forall_mem_cons.mpr ⟨by refine neN ?_; dsimp only; omega, (List.forall_mem_cons.mpr ⟨by refine neN ?_; dsimp only; omega, (List.forall_mem_cons.mpr ⟨by refine neN ?_; dsimp only; omega, (List.forall_mem_cons.mpr ⟨by refine neN ?_; dsimp only; omega, (List.forall_mem_cons.mpr ⟨by refine neN ?_; dsimp only; omega, zS⟩)⟩)⟩)⟩)⟩))
    (case q2g => exact (List.forall_mem_cons.mpr ⟨by refine neN ?_; dsimp only; omega, (List.forall_mem_cons.mpr ⟨by refine neN ?_; dsimp only; omega, (List.forall_mem_cons.mpr ⟨by refine neN ?_; dsimp only; omega, (List.forall_mem_cons.mpr ⟨by refine neN ?_; dsimp only; omega, (List.forall_mem_cons.mpr ⟨by refine neN ?_; dsimp only; omega, zdx⟩)⟩)⟩)⟩)⟩))
    (case q3g => exact (List.forall_mem_cons.mpr ⟨by refine neN ?_; dsimp only; omega, (List.forall_mem_cons.mpr ⟨by refine neN ?_; dsimp only; omega, (List.forall_mem_cons.mpr ⟨by refine neN ?_; dsimp only; omega, (List.forall_mem_cons.mpr ⟨by refine neN ?_; dsimp only; omega, (List.forall_mem_cons.mpr ⟨by refine neN ?_; dsimp only; omega, zpb⟩)⟩)⟩)⟩)⟩))
    (case oneg => exact fun z hz => by obtain ⟨c, _, rfl⟩ := List.mem_map.mp hz; rfl)
    (case leng => (rw [sgs, List.length_map, ulL_length]; omega))
    intro vs8 ln8 n58 ep8 h8 tk8 tr8 F8 N8 sg8 htk8
    rw [hgo.2] at sg8
    rw [hWd]
    obtain ⟨n69, hn69⟩ : ∃ n69, News _ _ _ ((pb, W.listOf ([]).toArray c.ep) :: (x, instObj 59 dx) :: (dx, (dictOf [{ hash := PyData.keyHash w.params ("lineno" : Str), key := .str ("lineno" : Str) n1, val := .int ln8 n58 }, { hash := PyData.keyHash w.params ("instream" : Str), key := .str ("instream" : Str) n2, val := .ref fS }, { hash := PyData.keyHash w.params ("whitespace" : Str), key := .str ("whitespace" : Str) n3, val := .str (lt4 hv) n69 }, { hash := PyData.keyHash w.params ("pushback" : Str), key := .str ("pushback" : Str) n4, val := .ref pb }] 4)) :: _) := ⟨_, N8⟩
    clear N8
    have N9 := cb_drop (news := ((I, itR ((c.i + 1 : Nat) : Int) ((vh.length : Int) - ((c.i + 1 : Nat) : Int))) :: (pb, W.listOf ([]).toArray c.ep) :: (x, instObj 59 dx) :: (dx, (dictOf [{ hash := PyData.keyHash w.params ("lineno" : Str), key := .str ("lineno" : Str) n1, val := .int ln8 n58 }, { hash := PyData.keyHash w.params ("instream" : Str), key := .str ("instream" : Str) n2, val := .ref fS }, { hash := PyData.keyHash w.params ("whitespace" : Str), key := .str ("whitespace" : Str) n3, val := .str (lt4 hv) n69 }, { hash := PyData.keyHash w.params ("pushback" : Str), key := .str ("pushback" : Str) n4, val := .ref pb }] 4)) :: (dS, dictOf [{ hash := PyData.keyHash w.params ("read" : Str), key := .str ("read" : Str) n7, val := .ref r }] 1) :: (fS, ({ cls := .type "function", dict := some dS, data := .func fd } : Obj)) :: (r, fnMade nm qu ps bd sc [(("signs" : Str), cS)] dc pm cr ct) :: (cr, oc) :: (cS, oS) :: (S, W.listOf (vs8).toArray ep8) :: (M, W.listOf (c.vm).toArray c.em) :: (E9, W.listOf (c.ve).toArray c.ee) :: (H, W.listOf vh.toArray eh) :: (Tt, W.listOf vt.toArray et) :: (c.tb ++ (c.td ++ rest)))) hn69 (List.forall_mem_cons.mpr ⟨by k_mem, (List.forall_mem_cons.mpr ⟨by k_mem, (List.forall_mem_cons.mpr ⟨by k_mem, (List.forall_mem_cons.mpr ⟨by k_mem, (List.forall_mem_cons.mpr ⟨by k_mem, (List.forall_mem_cons.mpr ⟨by k_mem, (List.forall_mem_cons.mpr ⟨by k_mem, (List.forall_mem_cons.mpr ⟨by k_mem, (List.forall_mem_cons.mpr ⟨by k_mem, (List.forall_mem_cons.mpr ⟨by k_mem, (List.forall_mem_cons.mpr ⟨by k_mem, (List.forall_mem_cons.mpr ⟨by k_mem, (List.forall_mem_cons.mpr ⟨by k_mem, (List.forall_mem_cons.mpr ⟨by k_mem, fun p hp => by (repeat (first | exact hp | refine List.Mem.tail _ ?_))⟩)⟩)⟩)⟩)⟩)⟩)⟩)⟩)⟩)⟩)⟩)⟩)⟩)⟩)
    clear hn69
    (try dsimp only)
    k_steps
    unfold Halt
    (rename Fr _ _ _ _ => F10)
    (rename News _ _ _ _ => N10)
    rw [e1, e2] at F10
    refine' mvi_spec (M := M) (vm := c.vm) (em := c.em) (acc := c.acc) (pre := preL hv c.row) (h := hv) (t := tv) (Wd := Wd) (tb := c.tb) (td := c.td) (rest := (I, itR ((c.i + 1 : Nat) : Int) ((vh.length : Int) - ((c.i + 1 : Nat) : Int))) :: (pb, W.listOf ([]).toArray c.ep) :: (x, instObj 59 dx) :: (dx, (dictOf [{ hash := PyData.keyHash w.params ("lineno" : Str), key := .str ("lineno" : Str) n1, val := .int ln8 n58 }, { hash := PyData.keyHash w.params ("instream" : Str), key := .str ("instream" : Str) n2, val := .ref fS }, { hash := PyData.keyHash w.params ("whitespace" : Str), key := .str ("whitespace" : Str) n3, val := .str (lt4 hv) n69 }, { hash := PyData.keyHash w.params ("pushback" : Str), key := .str ("pushback" : Str) n4, val := .ref pb }] 4)) :: (dS, dictOf [{ hash := PyData.keyHash w.params ("read" : Str), key := .str ("read" : Str) n7, val := .ref r }] 1) :: (fS, ({ cls := .type "function", dict := some dS, data := .func fd } : Obj)) :: (r, fnMade nm qu ps bd sc [(("signs" : Str), cS)] dc pm cr ct) :: (cr, oc) :: (cS, oS) :: (S, W.listOf (vs8).toArray ep8) :: (E9, W.listOf c.ve.toArray c.ee) :: (H, W.listOf vh.toArray eh) :: (Tt, W.listOf vt.toArray et) :: rest) ?Bi F10 ?Xi ?Ni ?Ti hk ?hdi ?hui rfl rfl rfl rfl hv4 tv4 ?hWi ti4 td4 ?dji ?dki ?offi ?offRi CI CD ?htki (replace_tok cr4 hgo.1) iv4 ?hali (fun d hd => cr4 d (preL_mem hd)) ?hpli ?_
    (case Bi => k_asm)
    (case Xi => k_asm)
    (case Ni => exact cb_drop N10 (List.forall_mem_cons.mpr ⟨by k_mem, List.forall_mem_append.mpr ⟨fun p hp => by (repeat (first | exact List.mem_append_left _ hp | refine List.Mem.tail _ ?_)), List.forall_mem_append.mpr ⟨fun p hp => by (repeat (first | exact List.mem_append_right _ (List.mem_append_left _ hp) | refine List.Mem.tail _ ?_)), (List.forall_mem_cons.mpr ⟨by k_mem, (List.forall_mem_cons.mpr ⟨by k_mem, (List.forall_mem_cons.mpr ⟨by k_mem, (List.forall_mem_cons.mpr ⟨by k_mem, (List.forall_mem_cons.mpr ⟨by k_mem, (List.forall_mem_cons.mpr ⟨by k_mem, (List.forall_mem_cons.mpr ⟨by k_mem, (List.forall_mem_cons.mpr ⟨by k_mem, (List.forall_mem_cons.mpr ⟨by k_mem, (List.forall_mem_cons.mpr ⟨by k_mem, (List.forall_mem_cons.mpr ⟨by k_mem, (List.forall_mem_cons.mpr ⟨by k_mem, (List.forall_mem_cons.mpr ⟨by k_mem, fun p hp => by (repeat (first | exact in_r hp | refine List.Mem.tail _ ?_))⟩)⟩)⟩)⟩)⟩)⟩)⟩)⟩)⟩)⟩)⟩)⟩)⟩)⟩⟩⟩))
    (case Ti => k_asm)
    (case hdi => (simp only [recursionLimit] at *; omega))
    (case hui => (simp only [cLine_is] at *; omega))
    (case hWi => (rw [length_toList, hgo.1]; have := tokL_length hv c.row; omega))
    (case dji => exact cs_dj (cs := [(I, itR ((c.i + 1 : Nat) : Int) ((vh.length : Int) - ((c.i + 1 : Nat) : Int))), (pb, W.listOf ([]).toArray c.ep), (x, instObj 59 dx), (dx, (dictOf [{ hash := PyData.keyHash w.params ("lineno" : Str), key := .str ("lineno" : Str) n1, val := .int ln8 n58 }, { hash := PyData.keyHash w.params ("instream" : Str), key := .str ("instream" : Str) n2, val := .ref fS }, { hash := PyData.keyHash w.params ("whitespace" : Str), key := .str ("whitespace" : Str) n3, val := .str (lt4 hv) n69 }, { hash := PyData.keyHash w.params ("pushback" : Str), key := .str ("pushback" : Str) n4, val := .ref pb }] 4)), (dS, dictOf [{ hash := PyData.keyHash w.params ("read" : Str), key := .str ("read" : Str) n7, val := .ref r }] 1), (fS, ({ cls := .type "function", dict := some dS, data := .func fd } : Obj)), (r, fnMade nm qu ps bd sc [(("signs" : Str), cS)] dc pm cr ct), (cr, oc), (cS, oS), (S, W.listOf (vs8).toArray ep8), (E9, W.listOf c.ve.toArray c.ee), (H, W.listOf vh.toArray eh), (Tt, W.listOf vt.toArray et)]) dj4 (fun p hp => (List.forall_mem_cons.mpr ⟨of4 p hp _ (by repeat (first | exact .head _ | refine .tail _ ?_)), (List.forall_mem_cons.mpr ⟨of4 p hp _ (by repeat (first | exact .head _ | refine .tail _ ?_)), (List.forall_mem_cons.mpr ⟨of4 p hp _ (by repeat (first | exact .head _ | refine .tail _ ?_)), (List.forall_mem_cons.mpr ⟨of4 p hp _ (by repeat (first | exact .head _ | refine .tail _ ?_)), (List.forall_mem_cons.mpr ⟨of4 p hp _ (by repeat (first | exact .head _ | refine .tail _ ?_)), (List.forall_mem_cons.mpr ⟨of4 p hp _ (by repeat (first | exact .head _ | refine .tail _ ?_)), (List.forall_mem_cons.mpr ⟨of4 p hp _ (by repeat (first | exact .head _ | refine .tail _ ?_)), (List.forall_mem_cons.mpr ⟨of4 p hp _ (by repeat (first | exact .head _ | refine .tail _ ?_)), (List.forall_mem_cons.mpr ⟨of4 p hp _ (by repeat (first | exact .head _ | refine .tail _ ?_)), (List.forall_mem_cons.mpr ⟨of4 p hp _ (by repeat (first | exact .head _ | refine .tail _ ?_)), (List.forall_mem_cons.mpr ⟨of4 p hp _ (by repeat (first | exact .head _ | refine .tail _ ?_)), (List.forall_mem_cons.mpr ⟨of4 p hp _ (by repeat (first | exact .head _ | refine .tail _ ?_)), (List.forall_mem_cons.mpr ⟨of4 p hp _ (by repeat (first | exact .head _ | refine .tail _ ?_)), fun _ h => nomatch h⟩)⟩)⟩)⟩)⟩)⟩)⟩)⟩)⟩)⟩)⟩)⟩)⟩)))
    (case dki => exact cs_dk (cs := [(I, itR ((c.i + 1 : Nat) : Int) ((vh.length : Int) - ((c.i + 1 : Nat) : Int))), (pb, W.listOf ([]).toArray c.ep), (x, instObj 59 dx), (dx, (dictOf [{ hash := PyData.keyHash w.params ("lineno" : Str), key := .str ("lineno" : Str) n1, val := .int ln8 n58 }, { hash := PyData.keyHash w.params ("instream" : Str), key := .str ("instream" : Str) n2, val := .ref fS }, { hash := PyData.keyHash w.params ("whitespace" : Str), key := .str ("whitespace" : Str) n3, val := .str (lt4 hv) n69 }, { hash := PyData.keyHash w.params ("pushback" : Str), key := .str ("pushback" : Str) n4, val := .ref pb }] 4)), (dS, dictOf [{ hash := PyData.keyHash w.params ("read" : Str), key := .str ("read" : Str) n7, val := .ref r }] 1), (fS, ({ cls := .type "function", dict := some dS, data := .func fd } : Obj)), (r, fnMade nm qu ps bd sc [(("signs" : Str), cS)] dc pm cr ct), (cr, oc), (cS, oS), (S, W.listOf (vs8).toArray ep8), (E9, W.listOf c.ve.toArray c.ee), (H, W.listOf vh.toArray eh), (Tt, W.listOf vt.toArray et)]) (tb := c.tb) dk4 (fun p hp => (List.forall_mem_cons.mpr ⟨of4 p hp _ (by repeat (first | exact .head _ | refine .tail _ ?_)), (List.forall_mem_cons.mpr ⟨of4 p hp _ (by repeat (first | exact .head _ | refine .tail _ ?_)), (List.forall_mem_cons.mpr ⟨of4 p hp _ (by repeat (first | exact .head _ | refine .tail _ ?_)), (List.forall_mem_cons.mpr ⟨of4 p hp _ (by repeat (first | exact .head _ | refine .tail _ ?_)), (List.forall_mem_cons.mpr ⟨of4 p hp _ (by repeat (first | exact .head _ | refine .tail _ ?_)), (List.forall_mem_cons.mpr ⟨of4 p hp _ (by repeat (first | exact .head _ | refine .tail _ ?_)), (List.forall_mem_cons.mpr ⟨of4 p hp _ (by repeat (first | exact .head _ | refine .tail _ ?_)), (List.forall_mem_cons.mpr ⟨of4 p hp _ (by repeat (first | exact .head _ | refine .tail _ ?_)), (List.forall_mem_cons.mpr ⟨of4 p hp _ (by repeat (first | exact .head _ | refine .tail _ ?_)), (List.forall_mem_cons.mpr ⟨of4 p hp _ (by repeat (first | exact .head _ | refine .tail _ ?_)), (List.forall_mem_cons.mpr ⟨of4 p hp _ (by repeat (first | exact .head _ | refine .tail _ ?_)), (List.forall_mem_cons.mpr ⟨of4 p hp _ (by repeat (first | exact .head _ | refine .tail _ ?_)), (List.forall_mem_cons.mpr ⟨of4 p hp _ (by repeat (first | exact .head _ | refine .tail _ ?_)), fun _ h => nomatch h⟩)⟩)⟩)⟩)⟩)⟩)⟩)⟩)⟩)⟩)⟩)⟩)⟩)))
    (case offi => exact fun p hp a ha => by rw [List.mem_singleton.mp ha]; exact of4 p hp M (by repeat (first | exact .head _ | refine .tail _ ?_)))
    (case offRi => exact (List.forall_mem_cons.mpr ⟨fun a ha => by rw [List.mem_singleton.mp ha]; refine neN ?_; dsimp only; omega, (List.forall_mem_cons.mpr ⟨fun a ha => by rw [List.mem_singleton.mp ha]; refine neN ?_; dsimp only; omega, (List.forall_mem_cons.mpr ⟨fun a ha => by rw [List.mem_singleton.mp ha]; refine neN ?_; dsimp only; omega, (List.forall_mem_cons.mpr ⟨fun a ha => by rw [List.mem_singleton.mp ha]; refine neN ?_; dsimp only; omega, (List.forall_mem_cons.mpr ⟨fun a ha => by rw [List.mem_singleton.mp ha]; refine neN ?_; dsimp only; omega, (List.forall_mem_cons.mpr ⟨fun a ha => by rw [List.mem_singleton.mp ha]; refine neN ?_; dsimp only; omega, (List.forall_mem_cons.mpr ⟨fun a ha => by rw [List.mem_singleton.mp ha]; refine neN ?_; dsimp only; omega, (List.forall_mem_cons.mpr ⟨fun a ha => by rw [List.mem_singleton.mp ha]; refine neN ?_; dsimp only; omega, (List.forall_mem_cons.mpr ⟨fun a ha => by rw [List.mem_singleton.mp ha]; refine neN ?_; dsimp only; omega, (List.forall_mem_cons.mpr ⟨fun a ha => by rw [List.mem_singleton.mp ha]; refine neN ?_; dsimp only; omega, (List.forall_mem_cons.mpr ⟨fun a ha => by rw [List.mem_singleton.mp ha]; refine neN ?_; dsimp only; omega, (List.forall_mem_cons.mpr ⟨fun a ha => by rw [List.mem_singleton.mp ha]; refine neN ?_; dsimp only; omega, (List.forall_mem_cons.mpr ⟨fun a ha => by rw [List.mem_singleton.mp ha]; refine neN ?_; dsimp only; omega, fun p hp a ha => by rw [List.mem_singleton.mp ha]; exact qR p hp M (by repeat (first | exact .head _ | refine .tail _ ?_))⟩)⟩)⟩)⟩)⟩)⟩)⟩)⟩)⟩)⟩)⟩)⟩)⟩))
    (case htki => (dsimp only; omega))
    (case hali => omega)
    (case hpli => (have := pre_post hv c.row; omega))
    intro vm9 em9 tb9 td9 h9 tk9 m9 F11 hm9 N11 iv9 ti9 td10 dj9 dk9 of9
    have hvm9 : vm9.length = c.acc.length + (preL hv c.row).length := by rw [iv9.length, List.length_map, List.length_append, List.length_map]
    have hpp := pre_post hv c.row
    have hve : c.ve.length = c.es.length := by rw [ie4.length, List.length_map]
    have hvm8 : vm9.length ≤ 100 := by omega
    have hWl : Wd.length ≤ 100 := by rw [length_toList, hgo.1]; have := tokL_length hv c.row; omega
    have F12 := fr_again (ps := [("lexer", .ref x), ("here", .ref H), ("there", .ref Tt), ("moved", .ref M), ("ends", .ref E9), ("word", .str Wd tr8), ("k", .int (c.i : Int) t5)]) F10 F11 hm9 (List.forall_mem_cons.mpr ⟨⟨rfl, by (dsimp only; decide)⟩, (List.forall_mem_cons.mpr ⟨⟨rfl, by (dsimp only; decide)⟩, (List.forall_mem_cons.mpr ⟨⟨rfl, by (dsimp only; decide)⟩, (List.forall_mem_cons.mpr ⟨⟨rfl, by (dsimp only; decide)⟩, (List.forall_mem_cons.mpr ⟨⟨rfl, by (dsimp only; decide)⟩, (List.forall_mem_cons.mpr ⟨⟨rfl, by (dsimp only; decide)⟩, (List.forall_mem_cons.mpr ⟨⟨rfl, by (dsimp only; decide)⟩, fun _ h => nomatch h⟩)⟩)⟩)⟩)⟩)⟩)⟩)
    clear F10 F11 hm9
    obtain ⟨dj12, dk12, ofc⟩ := cs_back (cells := [(I, itR ((c.i + 1 : Nat) : Int) ((vh.length : Int) - ((c.i + 1 : Nat) : Int))), (pb, W.listOf ([]).toArray c.ep), (x, instObj 59 dx), (dx, (dictOf [{ hash := PyData.keyHash w.params ("lineno" : Str), key := .str ("lineno" : Str) n1, val := .int ln8 n58 }, { hash := PyData.keyHash w.params ("instream" : Str), key := .str ("instream" : Str) n2, val := .ref fS }, { hash := PyData.keyHash w.params ("whitespace" : Str), key := .str ("whitespace" : Str) n3, val := .str (lt4 hv) n69 }, { hash := PyData.keyHash w.params ("pushback" : Str), key := .str ("pushback" : Str) n4, val := .ref pb }] 4)), (dS, dictOf [{ hash := PyData.keyHash w.params ("read" : Str), key := .str ("read" : Str) n7, val := .ref r }] 1), (fS, ({ cls := .type "function", dict := some dS, data := .func fd } : Obj)), (r, fnMade nm qu ps bd sc [(("signs" : Str), cS)] dc pm cr ct), (cr, oc), (cS, oS), (S, W.listOf (vs8).toArray ep8), (E9, W.listOf c.ve.toArray c.ee), (H, W.listOf vh.toArray eh), (Tt, W.listOf vt.toArray et)]) dj9 dk9
    have of12 : OffL (tb9 ++ td9) (I :: [pb, x, dx, dS, fS, r, cr, cS, S, M, E9, H, Tt]) := fun p hp => (List.forall_mem_cons.mpr ⟨ofc p hp _ (by repeat (first | exact .head _ | refine .tail _ ?_)), (List.forall_mem_cons.mpr ⟨ofc p hp _ (by repeat (first | exact .head _ | refine .tail _ ?_)), (List.forall_mem_cons.mpr ⟨ofc p hp _ (by repeat (first | exact .head _ | refine .tail _ ?_)), (List.forall_mem_cons.mpr ⟨ofc p hp _ (by repeat (first | exact .head _ | refine .tail _ ?_)), (List.forall_mem_cons.mpr ⟨ofc p hp _ (by repeat (first | exact .head _ | refine .tail _ ?_)), (List.forall_mem_cons.mpr ⟨ofc p hp _ (by repeat (first | exact .head _ | refine .tail _ ?_)), (List.forall_mem_cons.mpr ⟨ofc p hp _ (by repeat (first | exact .head _ | refine .tail _ ?_)), (List.forall_mem_cons.mpr ⟨ofc p hp _ (by repeat (first | exact .head _ | refine .tail _ ?_)), (List.forall_mem_cons.mpr ⟨ofc p hp _ (by repeat (first | exact .head _ | refine .tail _ ?_)), (List.forall_mem_cons.mpr ⟨ofc p hp _ (by repeat (first | exact .head _ | refine .tail _ ?_)), (List.forall_mem_cons.mpr ⟨of9 p hp M (.head _), (List.forall_mem_cons.mpr ⟨ofc p hp _ (by repeat (first | exact .head _ | refine .tail _ ?_)), (List.forall_mem_cons.mpr ⟨ofc p hp _ (by repeat (first | exact .head _ | refine .tail _ ?_)), (List.forall_mem_cons.mpr ⟨ofc p hp _ (by repeat (first | exact .head _ | refine .tail _ ?_)), fun _ h => nomatch h⟩)⟩)⟩)⟩)⟩)⟩)⟩)⟩)⟩)⟩)⟩)⟩)⟩)⟩)
    clear ofc dj9 dk9
    have N12 := cb_drop (news := (M, W.listOf vm9.toArray em9) :: ([(I, itR ((c.i + 1 : Nat) : Int) ((vh.length : Int) - ((c.i + 1 : Nat) : Int))), (pb, W.listOf ([]).toArray c.ep), (x, instObj 59 dx), (dx, (dictOf [{ hash := PyData.keyHash w.params ("lineno" : Str), key := .str ("lineno" : Str) n1, val := .int ln8 n58 }, { hash := PyData.keyHash w.params ("instream" : Str), key := .str ("instream" : Str) n2, val := .ref fS }, { hash := PyData.keyHash w.params ("whitespace" : Str), key := .str ("whitespace" : Str) n3, val := .str (lt4 hv) n69 }, { hash := PyData.keyHash w.params ("pushback" : Str), key := .str ("pushback" : Str) n4, val := .ref pb }] 4)), (dS, dictOf [{ hash := PyData.keyHash w.params ("read" : Str), key := .str ("read" : Str) n7, val := .ref r }] 1), (fS, ({ cls := .type "function", dict := some dS, data := .func fd } : Obj)), (r, fnMade nm qu ps bd sc [(("signs" : Str), cS)] dc pm cr ct), (cr, oc), (cS, oS), (S, W.listOf (vs8).toArray ep8), (E9, W.listOf c.ve.toArray c.ee), (H, W.listOf vh.toArray eh), (Tt, W.listOf vt.toArray et)] ++ (tb9 ++ (td9 ++ rest)))) N11 (List.forall_mem_cons.mpr ⟨.head _, fun p hp => .tail _ (cs_out p hp)⟩)
    simp only [List.cons_append, List.nil_append] at N12
    have N13 := cb_drop (news := ((I, itR ((c.i + 1 : Nat) : Int) ((vh.length : Int) - ((c.i + 1 : Nat) : Int))) :: (pb, W.listOf ([]).toArray c.ep) :: (x, instObj 59 dx) :: (dx, (dictOf [{ hash := PyData.keyHash w.params ("lineno" : Str), key := .str ("lineno" : Str) n1, val := .int ln8 n58 }, { hash := PyData.keyHash w.params ("instream" : Str), key := .str ("instream" : Str) n2, val := .ref fS }, { hash := PyData.keyHash w.params ("whitespace" : Str), key := .str ("whitespace" : Str) n3, val := .str (lt4 hv) n69 }, { hash := PyData.keyHash w.params ("pushback" : Str), key := .str ("pushback" : Str) n4, val := .ref pb }] 4)) :: (dS, dictOf [{ hash := PyData.keyHash w.params ("read" : Str), key := .str ("read" : Str) n7, val := .ref r }] 1) :: (fS, ({ cls := .type "function", dict := some dS, data := .func fd } : Obj)) :: (r, fnMade nm qu ps bd sc [(("signs" : Str), cS)] dc pm cr ct) :: (cr, oc) :: (cS, oS) :: (S, W.listOf (vs8).toArray ep8) :: (M, W.listOf (vm9).toArray em9) :: (E9, W.listOf (c.ve).toArray c.ee) :: (H, W.listOf vh.toArray eh) :: (Tt, W.listOf vt.toArray et) :: (tb9 ++ (td9 ++ rest)))) N12 (List.forall_mem_cons.mpr ⟨by k_mem, (List.forall_mem_cons.mpr ⟨by k_mem, (List.forall_mem_cons.mpr ⟨by k_mem, (List.forall_mem_cons.mpr ⟨by k_mem, (List.forall_mem_cons.mpr ⟨by k_mem, (List.forall_mem_cons.mpr ⟨by k_mem, (List.forall_mem_cons.mpr ⟨by k_mem, (List.forall_mem_cons.mpr ⟨by k_mem, (List.forall_mem_cons.mpr ⟨by k_mem, (List.forall_mem_cons.mpr ⟨by k_mem, (List.forall_mem_cons.mpr ⟨by k_mem, (List.forall_mem_cons.mpr ⟨by k_mem, (List.forall_mem_cons.mpr ⟨by k_mem, (List.forall_mem_cons.mpr ⟨by k_mem, fun p hp => by (repeat (first | exact hp | refine List.Mem.tail _ ?_))⟩)⟩)⟩)⟩)⟩)⟩)⟩)⟩)⟩)⟩)⟩)⟩)⟩)⟩)
    clear N11 N12
    have y_I : ∀ p ∈ tb9 ++ (td9 ++ rest), p.1 ≠ I := off_all of12 (l' := [I]) (fun p hp a ha => by rw [List.mem_singleton.mp ha]; exact rI p hp) (by repeat (first | exact .head _ | refine .tail _ ?_)) (.head _)
    have y_M : ∀ p ∈ tb9 ++ (td9 ++ rest), p.1 ≠ M := off_all of12 qR (by repeat (first | exact .head _ | refine .tail _ ?_)) (by repeat (first | exact .head _ | refine .tail _ ?_))
    have y_E : ∀ p ∈ tb9 ++ (td9 ++ rest), p.1 ≠ E9 := off_all of12 qR (by repeat (first | exact .head _ | refine .tail _ ?_)) (by repeat (first | exact .head _ | refine .tail _ ?_))
    (try dsimp only)
    k_steps
    unfold Halt
    (rename Fr _ _ _ _ => F14)
    (rename News _ _ _ _ => N14)
    refine' PyProof.Rows.slice_strN_sn (hsz := ?hszs) (s := ⟨_, _, _, _, _⟩) F14 N14 ?_
    (case hszs => (rw [PySem.sizeLine_eq]; omega))
    intro h15 t15 k15 F15 N15
    (try dsimp only)
    k_steps
    · (rename (Txt.slice Wd (some (-1)) none == _) = true => c9)
      have hin : hv ∈ c.row := (slice_tok cr4 hgo.1).mp c9
      unfold Halt
      rw [if_pos hin] at hpp er4
      (rename News _ _ _ _ => N16)
      rw [List.push_toArray, e2] at N16
      refine' len_L (D := M) (vs := vm9 ++ [.int (tv : Int) _]) ?Nl1 ?ml1 ?fl1 ?_
      (case Nl1 => exact N16)
      (case ml1 => k_mem)
      (case fl1 => (rw [List.length_append, List.length_singleton]; omega))
      k_steps
      (rename Fr _ _ _ _ => F17)
      (rename News _ _ _ _ => N17)
      rw [List.push_toArray] at N17
      obtain ⟨ta, tz, N18⟩ : ∃ ta tz, News _ _ _ ((I, itR ((c.i + 1 : Nat) : Int) ((vh.length : Int) - ((c.i + 1 : Nat) : Int))) :: (pb, W.listOf ([]).toArray c.ep) :: (x, instObj 59 dx) :: (dx, (dictOf [{ hash := PyData.keyHash w.params ("lineno" : Str), key := .str ("lineno" : Str) n1, val := .int ln8 n58 }, { hash := PyData.keyHash w.params ("instream" : Str), key := .str ("instream" : Str) n2, val := .ref fS }, { hash := PyData.keyHash w.params ("whitespace" : Str), key := .str ("whitespace" : Str) n3, val := .str (lt4 hv) n69 }, { hash := PyData.keyHash w.params ("pushback" : Str), key := .str ("pushback" : Str) n4, val := .ref pb }] 4)) :: (dS, dictOf [{ hash := PyData.keyHash w.params ("read" : Str), key := .str ("read" : Str) n7, val := .ref r }] 1) :: (fS, ({ cls := .type "function", dict := some dS, data := .func fd } : Obj)) :: (r, fnMade nm qu ps bd sc [(("signs" : Str), cS)] dc pm cr ct) :: (cr, oc) :: (cS, oS) :: (S, W.listOf (vs8).toArray ep8) :: (M, W.listOf (vm9 ++ [Value.int (tv : Int) ta]).toArray (em9 + 1)) :: (E9, W.listOf (c.ve ++ [Value.int (((vm9 ++ [Value.int (tv : Int) ta]).length : Nat) : Int) tz]).toArray (c.ee + 1)) :: (H, W.listOf vh.toArray eh) :: (Tt, W.listOf vt.toArray et) :: (tb9 ++ (td9 ++ rest))) := ⟨_, _, N17⟩
      refine ksw_end ⟨c.i + 1, vs8, ln8, n58, n69, lt4 hv, c.ep, ep8, vm9 ++ [Value.int (tv : Int) ta], em9 + 1, c.ve ++ [Value.int (((vm9 ++ [Value.int (tv : Int) ta]).length : Nat) : Int) tz], c.ee + 1, tb9, td9, postL hv c.row, (c.acc ++ (preL hv c.row).map (mv4 hv tv)) ++ [tv], c.es ++ [((c.acc ++ (preL hv c.row).map (mv4 hv tv)) ++ [tv]).length]⟩ (by k_asm) N18 ?hnb trivial ?hkb ?hrb ?hpb ?hmb
      (case hnb => exact fun p hp => hp)
      (case hkb => exact (List.forall_mem_cons.mpr ⟨rfl, (List.forall_mem_cons.mpr ⟨rfl, (List.forall_mem_cons.mpr ⟨rfl, (List.forall_mem_cons.mpr ⟨rfl, (List.forall_mem_cons.mpr ⟨rfl, fun _ h => nomatch h⟩)⟩)⟩)⟩)⟩))
      (case hrb => (intro z h2 h3; simp only [List.forall_mem_cons, List.not_mem_nil, false_implies, implies_true, and_true, ne_eq] at h2; simp only [List.contains_cons, List.contains_nil, Bool.or_false, Bool.or_eq_false_iff, beq_eq_false_iff_ne, ne_eq] at h3; simp [kstB, h2, h3]))
      (case hmb => (dsimp only; omega))
      refine ⟨by dsimp only; omega, sg8, ?iv9a, ?ie9a, ti9, td10, dj12, dk12, of12, er4, fun d hd => cr4 d (postL_mem hd), ?cl9a, ?el9a⟩
      · dsimp only
        rw [List.map_append]
        exact IntsAre.append iv9 (.cons _ _ .nil)
      · dsimp only
        rw [List.map_append, List.length_append, List.length_singleton, hvm9]
        rw [List.length_append (as := c.acc ++ _), List.length_append, List.length_map, List.length_singleton]
        exact IntsAre.append ie4 (.cons _ _ .nil)
      · dsimp only
        rw [List.length_append, List.length_append, List.length_map, List.length_singleton]; omega
      · dsimp only
        rw [List.length_append, List.length_singleton]; omega
    · (rename (Txt.slice Wd (some (-1)) none == _) = false => c9)
      have hin : ¬ hv ∈ c.row := fun q => by have := (slice_tok cr4 hgo.1).mpr q; rw [c9] at this; cases this
      rw [if_neg hin] at hpp er4
      (rename Fr _ _ _ _ => F17)
      (rename News _ _ _ _ => N17)
      refine ksw_end ⟨c.i + 1, vs8, ln8, n58, n69, lt4 hv, c.ep, ep8, vm9, em9, c.ve, c.ee, tb9, td9, postL hv c.row, c.acc ++ (preL hv c.row).map (mv4 hv tv), c.es⟩ (by k_asm) N17 ?hnc trivial ?hkc ?hrc ?hpc ?hmc
      (case hnc => exact fun p hp => hp)
      (case hkc => exact (List.forall_mem_cons.mpr ⟨rfl, (List.forall_mem_cons.mpr ⟨rfl, (List.forall_mem_cons.mpr ⟨rfl, (List.forall_mem_cons.mpr ⟨rfl, (List.forall_mem_cons.mpr ⟨rfl, fun _ h => nomatch h⟩)⟩)⟩)⟩)⟩))
      (case hrc => (intro z h2 h3; simp only [List.forall_mem_cons, List.not_mem_nil, false_implies, implies_true, and_true, ne_eq] at h2; simp only [List.contains_cons, List.contains_nil, Bool.or_false, Bool.or_eq_false_iff, beq_eq_false_iff_ne, ne_eq] at h3; simp [kstB, h2, h3]))
      (case hmc => (dsimp only; omega))
      refine ⟨by dsimp only; omega, sg8, iv9, ie4, ti9, td10, dj12, dk12, of12, er4, fun d hd => cr4 d (postL_mem hd), ?cl9b, ?el9b⟩
      · dsimp only
        rw [List.length_append, List.length_map]; omega
      · dsimp only; omega
  · refine' ri_end (n := vh.length) rfl F4 N4 ?me9 (nx := ((pb, W.listOf ([]).toArray c.ep) :: (x, instObj 59 dx) :: (dx, (dictOf [{ hash := PyData.keyHash w.params ("lineno" : Str), key := .str ("lineno" : Str) n1, val := .int c.ln c.n5 }, { hash := PyData.keyHash w.params ("instream" : Str), key := .str ("instream" : Str) n2, val := .ref fS }, { hash := PyData.keyHash w.params ("whitespace" : Str), key := .str ("whitespace" : Str) n3, val := .str c.wsp c.n6 }, { hash := PyData.keyHash w.params ("pushback" : Str), key := .str ("pushback" : Str) n4, val := .ref pb }] 4)) :: (dS, dictOf [{ hash := PyData.keyHash w.params ("read" : Str), key := .str ("read" : Str) n7, val := .ref r }] 1) :: (fS, ({ cls := .type "function", dict := some dS, data := .func fd } : Obj)) :: (r, fnMade nm qu ps bd sc [(("signs" : Str), cS)] dc pm cr ct) :: (cr, oc) :: (cS, oS) :: (S, W.listOf (c.vs).toArray c.ep2) :: (M, W.listOf (c.vm).toArray c.em) :: (E9, W.listOf (c.ve).toArray c.ee) :: (H, W.listOf vh.toArray eh) :: (Tt, W.listOf vt.toArray et) :: (c.tb ++ (c.td ++ rest)))) (fun p hp => .tail _ hp) ?ne9 ?_
    (case me9 => (rw [show c.i = vh.length by omega]; exact .head _))
    (case ne9 => exact (List.forall_mem_cons.mpr ⟨by refine neN ?_; dsimp only; omega, (List.forall_mem_cons.mpr ⟨by refine neN ?_; dsimp only; omega, (List.forall_mem_cons.mpr ⟨by refine neN ?_; dsimp only; omega, (List.forall_mem_cons.mpr ⟨by refine neN ?_; dsimp only; omega, (List.forall_mem_cons.mpr ⟨by refine neN ?_; dsimp only; omega, (List.forall_mem_cons.mpr ⟨by refine neN ?_; dsimp only; omega, (List.forall_mem_cons.mpr ⟨by refine neN ?_; dsimp only; omega, (List.forall_mem_cons.mpr ⟨by refine neN ?_; dsimp only; omega, (List.forall_mem_cons.mpr ⟨by refine neN ?_; dsimp only; omega, (List.forall_mem_cons.mpr ⟨by refine neN ?_; dsimp only; omega, (List.forall_mem_cons.mpr ⟨by refine neN ?_; dsimp only; omega, (List.forall_mem_cons.mpr ⟨by refine neN ?_; dsimp only; omega, (List.forall_mem_cons.mpr ⟨by refine neN ?_; dsimp only; omega, zI⟩)⟩)⟩)⟩)⟩)⟩)⟩)⟩)⟩)⟩)⟩)⟩)⟩))
    intro h20 tk20 F20 N20
    have ei : c.i = here.length := by omega
    rw [ei, List.drop_of_length_le (Nat.le_refl _), movL] at er4
    (try dsimp only)
    k_steps
    unfold Halt
    (rename News _ _ _ _ => N21)
    have hgn := gO_no c.row cr4
    obtain ⟨Wd, hWd⟩ : ∃ Wd, (gO ("" : Str) (sgs (ulL c.row)) ("" : Str)).1 = Wd := ⟨_, rfl⟩
    rw [hWd] at hgn
    refine up_toks ?_
    refine' gt_spec (pd := []) (wsp := ("" : Str)) (ws := sgs (ulL c.row)) (rest := (M, W.listOf c.vm.toArray c.em) :: (E9, W.listOf c.ve.toArray c.ee) :: (H, W.listOf vh.toArray eh) :: (Tt, W.listOf vt.toArray et) :: (c.tb ++ (c.td ++ rest))) ?Bh ?Fh ?Xh ?Nh ?Th hk ?hdh ?huh hnd hoc hoc1 hoS o1 o2 o3 o4 o5 o6 o7 o8 ?q1h ?q2h ?q3h sg4 ?oneh ?lenh ?_
    (case Bh => k_asm)
    (case Fh => k_asm)
    (case Xh => k_asm)
    (case Nh => exact cb_drop N21 (List.forall_mem_cons.mpr ⟨by k_mem, (List.forall_mem_cons.mpr ⟨by k_mem, (List.forall_mem_cons.mpr ⟨by k_mem, (List.forall_mem_cons.mpr ⟨by k_mem, (List.forall_mem_cons.mpr ⟨by k_mem, (List.forall_mem_cons.mpr ⟨by k_mem, (List.forall_mem_cons.mpr ⟨by k_mem, (List.forall_mem_cons.mpr ⟨by k_mem, (List.forall_mem_cons.mpr ⟨by k_mem, (List.forall_mem_cons.mpr ⟨by k_mem, (List.forall_mem_cons.mpr ⟨by k_mem, (List.forall_mem_cons.mpr ⟨by k_mem, (List.forall_mem_cons.mpr ⟨by k_mem, fun p hp => by (repeat (first | exact hp | refine List.Mem.tail _ ?_))⟩)⟩)⟩)⟩)⟩)⟩)⟩)⟩)⟩)⟩)⟩)⟩)⟩))
    (case Th => k_asm)
    (case hdh => (simp only [recursionLimit] at *; omega))
    (case huh => (simp only [cLine_is] at *; omega))
    (case q1h => exact (List.forall_mem_cons.mpr ⟨by refine neN ?_; dsimp only; omega, (List.forall_mem_cons.mpr ⟨by refine neN ?_; dsimp only; omega, (List.forall_mem_cons.mpr ⟨by refine neN ?_; dsimp only; omega, (List.forall_mem_cons.mpr ⟨by refine neN ?_; dsimp only; omega, zS⟩)⟩)⟩)⟩))
    (case q2h => exact (List.forall_mem_cons.mpr ⟨by refine neN ?_; dsimp only; omega, (List.forall_mem_cons.mpr ⟨by refine neN ?_; dsimp only; omega, (List.forall_mem_cons.mpr ⟨by refine neN ?_; dsimp only; omega, (List.forall_mem_cons.mpr ⟨by refine neN ?_; dsimp only; omega, zdx⟩)⟩)⟩)⟩))
    (case q3h => exact (List.forall_mem_cons.mpr ⟨by refine neN ?_; dsimp only; omega, (List.forall_mem_cons.mpr ⟨by refine neN ?_; dsimp only; omega, (List.forall_mem_cons.mpr ⟨by refine neN ?_; dsimp only; omega, (List.forall_mem_cons.mpr ⟨by refine neN ?_; dsimp only; omega, zpb⟩)⟩)⟩)⟩))
    (case oneh => exact fun z hz => by obtain ⟨c, _, rfl⟩ := List.mem_map.mp hz; rfl)
    (case lenh => (rw [sgs, List.length_map, ulL_length]; omega))
    intro vs8 ln8 n58 ep8 h8 tk8 tr8 F8 N8 sg8 htk8
    rw [hWd]
    have N9 := cb_drop (news := (M, W.listOf c.vm.toArray c.em) :: (E9, W.listOf c.ve.toArray c.ee) :: (c.tb ++ (c.td ++ rest))) N8 (List.forall_mem_cons.mpr ⟨by k_mem, (List.forall_mem_cons.mpr ⟨by k_mem, fun p hp => by (repeat (first | exact hp | refine List.Mem.tail _ ?_))⟩)⟩)
    clear N8 N21
    have htk9 : 0 < tk8 := Nat.lt_of_lt_of_le (Nat.succ_pos _) htk8
    have hWl : Wd.length ≤ 100 := by rw [length_toList, hgn.1, ulL_length]; omega
    have hvm : c.vm.length = c.acc.length := by rw [iv4.length, List.length_map]
    (try dsimp only)
    k_steps
    unfold Halt
    k_dflt (refine' ListComp_S ?Fq (by with_unfolding_all rfl) (by decide) (by rfl) (by decide) (by rfl) ?_)
    (case Fq => k_asm)
    k_steps
    unfold Halt
    refine' SC.replaceW ?hu9 ?hv9 ?huv9 (by decide) ?hx9 ?hzz9 ?_
    (case hu9 => exact Nat.succ_ne_zero _)
    (case hv9 => exact Nat.succ_ne_zero _)
    (case huv9 => exact Nat.ne_of_lt (Nat.lt_succ_self _))
    (case hx9 => omega)
    (case hzz9 => decide)
    intro t9 k9
    obtain ⟨z, hzz⟩ : ∃ z, Txt.replace Wd ("_" : Str) ("" : Str) = z := ⟨_, rfl⟩
    have hz := replace_ul cr4 hgn.1
    rw [hzz] at hz
    rw [hzz]
    have hzs : z.cps.size = c.row.length := by rw [← Array.length_toList, hz, List.length_map]
    k_steps
    refine' SrcS.of rfl ?Fr9 ?Nr9 ?zr9 ?_
    (case Fr9 => k_asm)
    (case Nr9 => k_asm)
    (case zr9 => (rw [hzs, PySem.sizeLine_eq]; omega))
    intro g15
    refine' cr_rest (fun i y => ∃ t, y = Value.int ((c.row.getD i 0 : Nat) : Int) t) ?turn3 ?fin3
    case turn3 =>
      intro i v I10 oI10 C10 oC10 D10 m10 ys10 h10 tk10 E10 hi10 hP10 hC10 hx10 F10 N10 off10 ne10
      obtain ⟨cc, uu, hcc, rfl⟩ := hP10
      rw [hzs] at hi10
      have hd1 : c.row.getD i 0 < 4 := cr4 _ (by rw [List.getD_eq_getElem?_getD, List.getElem?_eq_getElem hi10]; exact List.getElem_mem _)
      have hcc' : cc = cd (c.row.getD i 0) := by
        have e : z.cps.toList[i]? = some cc := by rw [Array.getElem?_toList, hcc]
        rw [hz, List.getElem?_map, List.getElem?_eq_getElem hi10] at e
        rw [List.getD_eq_getElem?_getD, List.getElem?_eq_getElem hi10]
        exact (Option.some.inj e).symm
      subst hcc'
      k_steps
      refine LCg.CompEnd.intro (by k_asm) (by k_asm) _ (fun _ h => h) off10 trivial ?_
      exact ⟨rfl, _, by rw [show ({ cps := #[cd (c.row.getD i 0)] } : Str) = lt4 (c.row.getD i 0) from rfl, find_cd hd1]⟩
    case fin3 =>
      intro ys15 hl15 hy15 D15 h15 tk15 F15 N15 of15
      have i15 := ints_of (g := fun i => ((c.row.getD i 0 : Nat) : Int)) hl15 hy15
      rw [hzs, map_getD] at i15
      k_steps
      unfold Halt
      refine' kmk_add_ints (a := M) (b := D15) ?Fcp ?Ncp ?acp ?bcp iv4 i15 ?_ ?zcp
      (case Fcp => k_asm)
      (case Ncp => k_asm)
      (case acp => exact News.isList (by k_asm) (by k_mem))
      (case bcp => exact News.isList (by k_asm) (by k_mem))
      (case zcp => (simp only [PySem.sizeLine_eq, List.length_map]; omega))
      intro D8 ws8 h8' F8' N8' l8 i8
      k_steps
      (rename Fr _ _ _ _ => F22)
      (rename News _ _ _ _ => N22)
      (rename (∀ p ∈ ((D8, _) :: _ : List (Addr × Obj)), _) => lD)
      rw [← er4] at ret
      refine' ret _ D8 ws8 0 c.ve c.ee c.tb c.td _ _ _ F22 (cb_drop N22 (List.forall_mem_cons.mpr ⟨by k_mem, (List.forall_mem_cons.mpr ⟨by k_mem, (List.forall_mem_cons.mpr ⟨by k_mem, fun p hp => by (repeat (first | exact hp | refine List.Mem.tail _ ?_))⟩)⟩)⟩)) ?rr1 ie4 ti4 td4 dj4 dk4 ?rr2 ?rr3
      · dsimp only
        rw [List.map_append]; exact i8
      · intro p hp
        exact List.forall_mem_cons.mpr ⟨Nat.ne_of_lt (lD p (by (repeat (first | exact in_l hp | refine List.Mem.tail _ ?_)))), List.forall_mem_cons.mpr ⟨Nat.ne_of_lt (l8 p (by (repeat (first | exact in_l hp | refine List.Mem.tail _ ?_)))), List.forall_mem_cons.mpr ⟨of4 p hp _ (by repeat (first | exact .head _ | refine .tail _ ?_)), fun _ h => nomatch h⟩⟩⟩
      · intro p hp
        exact List.forall_mem_cons.mpr ⟨Nat.ne_of_lt (lD p (by (repeat (first | exact in_r hp | refine List.Mem.tail _ ?_)))), List.forall_mem_cons.mpr ⟨Nat.ne_of_lt (l8 p (by (repeat (first | exact in_r hp | refine List.Mem.tail _ ?_)))), List.forall_mem_cons.mpr ⟨qR p hp _ (by repeat (first | exact .head _ | refine .tail _ ?_)), fun _ h => nomatch h⟩⟩⟩
end
section
local macro_rules | `(tactic| walk_at "setAttr ref") => `(tactic| (k_here; k_dflt (refine' fn_setattr ?F ?N ?U ?r1 ?r2 ?r3 ?_; (case F => k_asm); (case N => k_asm); (case U => k_updF); (case r1 => rfl); (case r2 => rfl); (case r3 => rfl)); intro d' h' tk' tn' F' N' l1; (try dsimp only at N'); (try k_lt l1)))
local macro_rules | `(tactic| walk_at "call ref") => `(tactic| refine haltF (by decide) ?_)
local macro_rules | `(tactic| walk_at "eval ListComp") => `(tactic| refine Halt.of ?_)
local macro_rules | `(tactic| walk_at "CompSrc") => `(tactic| refine Halt.of ?_)
local macro_rules | `(tactic| walk_at "call builtin:str.join") => `(tactic| refine Halt.of ?_)
local macro_rules | `(tactic| walk_at "call type:list") => `(tactic| refine Halt.of ?_)
local macro_rules | `(tactic| walk_at "execs cons") => `(tactic| with_reducible refine haltEx ?_)
theorem mov_in {x : Addr × Obj} {q : Addr × Obj} {a b c : List (Addr × Obj)} (h : x ∈ c) : x ∈ q :: (a ++ (b ++ c)) := .tail _ (List.mem_append.mpr (.inr (List.mem_append.mpr (.inr h))))
theorem sgA_of {vs : List Value} {ws : List Str} (h : StrsAre vs ws) : SgA vs ws := by
  induction h with
  | nil => exact .nil
  | cons y t _ ih => exact .cons ih
inductive TabM : List (Addr × Obj) → Prop
  | nil : TabM [(126, tabObj #[])]
  | two {c1 c2 : Addr} {o1 o2 : Obj} {v1 v2 : Array Value} {t1 t2 : Tok} (h1 : o1.data = .fields v1) (g1 : v1[1]? = some (.str (PySem.Str.ofString "_law_moved" ++ ".<locals>." ++ PySem.Str.ofString "read") t1)) (h2 : o2.data = .fields v2) (g2 : v2[1]? = some (.str (PySem.Str.ofString "_law_moved" ++ ".<locals>." ++ PySem.Str.ofString "<lambda>") t2)) :
      TabM [(126, tabObj #[rawInt 162, rawInt 4, .ref c1, rawInt 164, rawInt 13, .ref c2]), (c1, o1), (c2, o2)]
theorem mov_nil {w : World} {mg mb : Str → Option Value} {p : Program} {loose : List Str} {mean : ExcName → Option Value} {dp un : Nat} {gd : Option (List Code)} {cn : Str} {cs : Scope} {a : Addr} {ccd : Value} {cl : List (Str × Addr)} {outer : List Env} {A₀ : Around} {base h₀ : Heap} {L : Addr} {m : Str → Option Value} {s : Shared} {Q E : Value → Shared → Prop} {R H TT : Addr} {vr vh vt : List Value} {er eh et : Nat} {row here there : List Nat} {tb td rest : List (Addr × Obj)}
  (B : Below A₀ base outer h₀) (F : Fr h₀ L s.heap m) (X : (hd1.heap_39 w.params).In h₀) (N : News h₀ L s.heap ((126, tabObj #[]) :: (tb ++ (td ++ rest)))) (T : Top p loose mean mg mb h₀) (hk : cs.kind = .function) (hd : dp + 300 < recursionLimit) (hu : un + 3000 < cLine)
  (CM : CodeHd base 128 126) (dj0 : ∀ p ∈ tb ++ (td ++ rest), p.1 ≠ 126) (CI : CodeHd base 83 79) (CD : CodeHd base 90 86)
  (hmR : (R, W.listOf vr.toArray er) ∈ rest) (hmH : (H, W.listOf vh.toArray eh) ∈ rest) (hmT : (TT, W.listOf vt.toArray et) ∈ rest) (iR : IntsAre vr (row.map Int.ofNat)) (hR : ∀ d ∈ row, d < 4) (lR : row.length ≤ 10)
  (iH : IntsAre vh (here.map Int.ofNat)) (iT : IntsAre vt (there.map Int.ofNat)) (h4 : ∀ d ∈ here, d < 4) (t4 : ∀ d ∈ there, d < 4) (hl : here.length = there.length) (hl2 : here.length ≤ 10)
  (ti : TabI2 tb) (td2 : TabD2 td) (dj1 : ∀ p ∈ tb, ∀ q ∈ td ++ rest, p.1 ≠ q.1) (dj2 : ∀ p ∈ td, ∀ q ∈ rest, p.1 ≠ q.1)
  (ret : ∀ (D M2 E2 : Addr) (vm2 : List Value) (em2 : Nat) (ve2 : List Value) (ee2 : Nat) (tm' tb' td' : List (Addr × Obj)) (h' : Heap) (tk' : Nat), Fr h₀ L h' m → News h₀ L h' ((D, { cls := .type "tuple", data := .seq #[.ref M2, .ref E2] }) :: (M2, W.listOf vm2.toArray em2) :: (E2, W.listOf ve2.toArray ee2) :: (tb' ++ (td' ++ (tm' ++ rest)))) → IntsAre vm2 (((movL row here there [] []).2.1 ++ (movL row here there [] []).1).map Int.ofNat) → IntsAre ve2 ((movL row here there [] []).2.2.map Int.ofNat) → TabM tm' → TabI2 tb' → TabD2 td' → (∀ p ∈ tb', ∀ q ∈ td' ++ (tm' ++ rest), p.1 ≠ q.1) → (∀ p ∈ td', ∀ q ∈ tm' ++ rest, p.1 ≠ q.1) → OffL (tb' ++ td') [D, M2, E2] → OffL (tm' ++ rest) [D, M2, E2] → Q (.ref D) { s with heap := h', toks := tk' }) :
  wpAny (model PySem.Challenge.pw_pg0212_02 w) (ktrTop dp un gd cn cs L a ccd cl outer) (call (.ref 129) [.ref R, .ref H, .ref TT]) Q E s := by
  refine wpAny_call ?_
  k_dflt (first
  | cell_enter
  | (refine' code_def ?k1 ?k2 ?k3 ?k4 ?k5 ?kA ?kF ?kK ?k6 ?k7 ?k8 ?k9 ?kB ?_ ?c2 ?c3 ?c4 ?c5; (case kA => exact rfl); (case kF => exact rfl); (case kK => first | assumption | exact rfl); (case k1 => k_asm); (case k2 => k_asm); (case k3 => k_asm); (case k4 => k_asm); (case k5 => k_asm); (case k6 => k_is); (case k7 => k_is); (case k8 => ktr_room); (case k9 => first | exact BindsTo.of_eq rfl | exact binds_K (by k_in) rfl (by k_is) rfl rfl rfl | fail "k_enter: no rule for these arguments"); (case c5 => decide); (case kB => exact locs rfl); (case c2 => exact rfl); (case c3 => exact rfl); (case c4 => exact rfl); k_whole; intro g' L' h' FG' F' N' B' X' T'; (try dsimp only); (try k_lift B'); (try k_fold))
  | (refine' code_defC ?k1 ?k2 ?k3 ?k4 ?k5 ?kA ?kF ?kK ?k6 ?k7 ?k8 ?k9 ?kB ?kD ?_ ?c2 ?c3 ?c4; (case kA => exact rfl); (case kF => exact rfl); (case kK => first | assumption | exact rfl); (case k1 => k_asm); (case k2 => k_asm); (case k3 => k_asm); (case k4 => k_asm); (case k5 => k_asm); (case k6 => k_is); (case k7 => k_is); (case k8 => ktr_room); (case k9 => first | exact BindsTo.of_eq rfl | exact binds_K (by k_in) rfl (by k_is) rfl rfl rfl | fail "k_enter: no rule for these arguments"); (case kB => exact rfl); (case kD => decide +kernel); (case c2 => exact rfl); (case c3 => exact rfl); (case c4 => exact rfl); k_whole; intro g9 L9 h9 tk9 cells9 FG9 F9 N9 Y9 B9 X9 T9 l9; (try k_lt l9); k_cells Y9; (try simp only [List.cons_append, List.nil_append] at N9); (try dsimp only); (try k_lift B9); (try k_fold)))
  (rename Obj.data _ = Data.cell _ => d9)
  (rename Obj => o9)
  have hs9 : o9.data = .cell none := d9
  clear d9
  have hr9 := allLt_to l9.2
  have l127 : @LT.lt Nat _ 126 L9 := l9.1
  k_steps
  unfold Halt
  k_dflt (refine' LCg.ListComp_U ?Fa (by with_unfolding_all rfl) (by decide) (by rfl) (by decide) (by rfl) ?_)
  (case Fa => k_asm)
  k_steps
  unfold Halt
  refine' let_spec (R := R) (vs := vr) (ep := er) (ds := row) ?B1 ?F1 ?X1 ?N1 ?T1 ?hk1 ?hd1 ?hu1 ?hm1 iR hR (by omega) ?ret1
  (case B1 => k_asm)
  (case F1 => k_asm)
  (case X1 => k_asm)
  (case N1 => k_asm)
  (case T1 => k_asm)
  (case hk1 => exact rfl)
  (case hd1 => (simp only [recursionLimit] at *; omega))
  (case hu1 => (simp only [cLine_is] at *; omega))
  (case hm1 => exact .tail _ (mov_in hmR))
  intro D2 ws ep2 h2 tk2 F2 N2 sw nD2
  have hwl : ws.length = row.length := by rw [StrsAre.length sw, List.length_map, List.length_range]
  (try dsimp only)
  k_steps
  unfold Halt
  refine' LCg.CompSrc.ledger (ax := D2) (its := ws.toArray) (k := ep2) rfl ?Fc ?Nc (.head _) ?zc ?_
  (case Fc => k_asm)
  (case Nc => k_asm)
  (case zc => rw [List.size_toArray, hwl]; exact fits4000' (by omega))
  intro g6
  refine' cr_rest (fun i y => ∃ t, y = Value.str (("_" : Str) ++ lt4 (row.getD i 0)) t) ?turn1 ?fin1
  case turn1 =>
    intro i v I10 oI10 C10 oC10 D10 m10 ys10 h10 tk10 E10 hi10 hP10 hC10 hx10 F10 N10 off10 ne10
    rw [List.size_toArray, hwl] at hi10
    obtain ⟨ti10, hti10⟩ := sa_item' sw i (lt4 (row.getD i 0)) (by rw [List.getElem?_map, List.getElem?_range (by omega)]; rfl)
    have hv : v = .str (lt4 (row.getD i 0)) ti10 := by
      have hP : ws[i]? = some v := by simpa using hP10
      rw [hti10] at hP; exact (Option.some.inj hP).symm
    subst hv
    have hl1 : (lt4 (row.getD i 0)).length = 1 := rfl
    k_steps
    refine LCg.CompEnd.intro (by k_asm) (by k_asm) _ (fun _ h => h) off10 ?_ ?_
    · exact .inr ⟨_, .head _, rfl, _, rfl⟩
    · exact ⟨rfl, _, rfl⟩
  case fin1 =>
    intro ys11 hl11 hy11 D11 h11 tk11 F11 N11 of11
    have i11 := strs_of (g := fun i => ("_" : Str) ++ lt4 (row.getD i 0)) hl11 hy11
    rw [List.size_toArray, hwl] at i11
    k_steps
    unfold Halt
    have hsum : (((List.range row.length).map fun i => ("_" : Str) ++ lt4 (row.getD i 0)).map (·.length)).sum + ((List.range row.length).map fun i => ("_" : Str) ++ lt4 (row.getD i 0)).length * ("" : Str).length ≤ 100000 := by
      have h1 := sum_le (B := 2) ((List.range row.length).map fun i => ("_" : Str) ++ lt4 (row.getD i 0)) (fun u hu => by
        obtain ⟨i, _, rfl⟩ := List.mem_map.mp hu
        exact Nat.le_refl 2)
      rw [List.length_map, List.length_range] at h1
      rw [List.length_map, List.length_range, show ("" : Str).length = 0 from rfl]; omega
    refine' join_S (D := D11) (vs := ys11) ?Nf ?mf i11 hsum ?_
    (case Nf => k_asm)
    (case mf => k_mem)
    intro t14 k14
    obtain ⟨Wd, hWd⟩ : ∃ Wd, Txt.join ("" : Str) ((List.range row.length).map fun i => ("_" : Str) ++ lt4 (row.getD i 0)) = Wd := ⟨_, rfl⟩
    rw [hWd]
    have hWl : Wd.cps.toList = ulL row := by rw [← hWd, ul_text]
    have hWn : Wd.length ≤ 20 := by rw [length_toList, hWl, ulL_length]; omega
    k_steps
    unfold Halt
    refine' ls_list rfl ?Fg ?Ng ?_ (fits4000' (by omega))
    (case Fg => k_asm)
    (case Ng => k_asm)
    intro S vs17 ep17 h17 tk17 F17 N17 st17 l17
    rw [hWl] at st17
    have lS9 := l17 (L9 + 1, o9) (by k_mem)
    have lSr : ∀ p ∈ tb ++ (td ++ rest), @LT.lt Nat _ p.1 S := fun p hp => l17 p (.tail _ (.tail _ (.tail _ (.tail _ hp))))
    clear l17
    have N18 := cb_drop (news := (S, W.listOf vs17.toArray ep17) :: (L9 + 1, o9) :: (126, tabObj #[]) :: (tb ++ (td ++ rest))) N17 (List.forall_mem_cons.mpr ⟨.head _, fun p hp => .tail _ (.tail _ (.tail _ hp))⟩)
    clear N17
    k_steps
    unfold Halt
    (rename Fr g9 _ _ _ => F30)
    (rename News g9 _ _ _ => N30)
    rename_i o9b dS9 _ _ f1 c1 oc1 v1 t1 _ _ _ _ d11 d21 a13 b12 e2 _ _ _ f2 c2 oc2 v2 t2 _ _ _ d12 d22 a11 b10 e1 _ _ _ aS _ _ _ a9 b8 _ _ x9 dx9 _ a7 b6 e0 _ _ _ _ _ _ _ _ _ _ _ _ _ _ _ _ _ _ _ pb9 _ a5 b4 _ _ _ _ _ _ _ _ M9 _ a3 b2 _ E9 _ a1 b0 _
    have lH : @LT.lt Nat _ H L9 := hr9 (H, _) (in_r hmH)
    have lT : @LT.lt Nat _ TT L9 := hr9 (TT, _) (in_r hmT)
    have g0 : @LT.lt Nat _ L9 S := by omega
    have g1 : @LT.lt Nat _ S c1 := by omega
    have g2 : @LT.lt Nat _ f1 c2 := by omega
    have g3 : @LT.lt Nat _ f2 aS := by omega
    have g4 : @LT.lt Nat _ aS dx9 := by omega
    have g5 : @LT.lt Nat _ x9 pb9 := by omega
    have g6 : @LT.lt Nat _ pb9 M9 := by omega
    have g7 : @LT.lt Nat _ M9 E9 := by omega
    clear a13 b12 a11 b10 a9 b8 a7 b6 a5 b4 a3 b2 a1 b0
    refine' mov_rest (pb := pb9) (x := x9) (dx := dx9) (dS := aS) (fS := f2) (r := f1) (cr := c1) (cS := L9 + 1) (S := S) (M := M9) (E9 := E9) (H := H) (Tt := TT) (vm := []) (ve := []) (row := row) (here := here) (there := there) (tb := tb) (td := td) (rest := (126, tabObj _) :: (c1, oc1) :: (c2, oc2) :: rest) ?B30 F30 ?X30 ?N30 ?T30 rfl ?hd30 ?hu30 rfl rfl rfl rfl rfl rfl rfl d11 d21 dS9 lS9 ⟨Nat.lt_trans g1 e2, Nat.ne_of_gt g1⟩ e2 (by omega) g3 g4 e0 g5 g6 g7 ?qR30 ?qH30 ?qT30 iH iT h4 t4 hl hl2 hR lR rfl rfl (sgA_of st17) ti td2 ?dj30 ?dk30 ?of30 CI CD ?_
    (case B30 => k_asm)
    (case X30 => k_asm)
    (case T30 => k_asm)
    (case hd30 => (simp only [recursionLimit] at *; omega))
    (case hu30 => (simp only [cLine_is] at *; omega))
    (case N30 => exact cb_drop N30 (List.forall_mem_cons.mpr ⟨by k_mem, (List.forall_mem_cons.mpr ⟨by k_mem, (List.forall_mem_cons.mpr ⟨by k_mem, (List.forall_mem_cons.mpr ⟨by k_mem, (List.forall_mem_cons.mpr ⟨by k_mem, (List.forall_mem_cons.mpr ⟨by k_mem, (List.forall_mem_cons.mpr ⟨by k_mem, (List.forall_mem_cons.mpr ⟨by k_mem, (List.forall_mem_cons.mpr ⟨by k_mem, (List.forall_mem_cons.mpr ⟨by k_mem, (List.forall_mem_cons.mpr ⟨by k_mem, (List.forall_mem_cons.mpr ⟨by (repeat (first | exact in_r hmH | refine List.Mem.tail _ ?_)), (List.forall_mem_cons.mpr ⟨by (repeat (first | exact in_r hmT | refine List.Mem.tail _ ?_)), List.forall_mem_append.mpr ⟨fun p hp => by (repeat (first | exact List.mem_append_left _ hp | refine List.Mem.tail _ ?_)), List.forall_mem_append.mpr ⟨fun p hp => by (repeat (first | exact List.mem_append_right _ (List.mem_append_left _ hp) | refine List.Mem.tail _ ?_)), (List.forall_mem_cons.mpr ⟨by k_mem, (List.forall_mem_cons.mpr ⟨by k_mem, (List.forall_mem_cons.mpr ⟨by k_mem, fun p hp => by (repeat (first | exact in_r hp | refine List.Mem.tail _ ?_))⟩)⟩)⟩)⟩⟩⟩)⟩)⟩)⟩)⟩)⟩)⟩)⟩)⟩)⟩)⟩)⟩)⟩))
    (case qR30 => exact (List.forall_mem_cons.mpr ⟨List.forall_mem_cons.mpr ⟨by refine neN ?_; dsimp only; omega, List.forall_mem_cons.mpr ⟨by refine neN ?_; dsimp only; omega, List.forall_mem_cons.mpr ⟨by refine neN ?_; dsimp only; omega, List.forall_mem_cons.mpr ⟨by refine neN ?_; dsimp only; omega, List.forall_mem_cons.mpr ⟨by refine neN ?_; dsimp only; omega, fun _ h => nomatch h⟩⟩⟩⟩⟩, (List.forall_mem_cons.mpr ⟨List.forall_mem_cons.mpr ⟨by refine neN ?_; dsimp only; omega, List.forall_mem_cons.mpr ⟨by refine neN ?_; dsimp only; omega, List.forall_mem_cons.mpr ⟨by refine neN ?_; dsimp only; omega, List.forall_mem_cons.mpr ⟨by refine neN ?_; dsimp only; omega, List.forall_mem_cons.mpr ⟨by refine neN ?_; dsimp only; omega, fun _ h => nomatch h⟩⟩⟩⟩⟩, (List.forall_mem_cons.mpr ⟨List.forall_mem_cons.mpr ⟨by refine neN ?_; dsimp only; omega, List.forall_mem_cons.mpr ⟨by refine neN ?_; dsimp only; omega, List.forall_mem_cons.mpr ⟨by refine neN ?_; dsimp only; omega, List.forall_mem_cons.mpr ⟨by refine neN ?_; dsimp only; omega, List.forall_mem_cons.mpr ⟨by refine neN ?_; dsimp only; omega, fun _ h => nomatch h⟩⟩⟩⟩⟩, fun p hp => by have := hr9 p (in_r hp); exact (List.forall_mem_cons.mpr ⟨by refine neN ?_; omega, (List.forall_mem_cons.mpr ⟨by refine neN ?_; omega, (List.forall_mem_cons.mpr ⟨by refine neN ?_; omega, (List.forall_mem_cons.mpr ⟨by refine neN ?_; omega, (List.forall_mem_cons.mpr ⟨by refine neN ?_; omega, fun _ h => nomatch h⟩)⟩)⟩)⟩)⟩)⟩)⟩)⟩))
    (case qH30 => exact (List.forall_mem_cons.mpr ⟨by refine neN ?_; omega, (List.forall_mem_cons.mpr ⟨by refine neN ?_; omega, (List.forall_mem_cons.mpr ⟨by refine neN ?_; omega, (List.forall_mem_cons.mpr ⟨by refine neN ?_; omega, (List.forall_mem_cons.mpr ⟨by refine neN ?_; omega, fun _ h => nomatch h⟩)⟩)⟩)⟩)⟩))
    (case qT30 => exact (List.forall_mem_cons.mpr ⟨by refine neN ?_; omega, (List.forall_mem_cons.mpr ⟨by refine neN ?_; omega, (List.forall_mem_cons.mpr ⟨by refine neN ?_; omega, (List.forall_mem_cons.mpr ⟨by refine neN ?_; omega, (List.forall_mem_cons.mpr ⟨by refine neN ?_; omega, fun _ h => nomatch h⟩)⟩)⟩)⟩)⟩))
    case dj30 =>
      intro p hp
      have := hr9 p (List.mem_append_left _ hp)
      exact List.forall_mem_append.mpr ⟨fun q hq => dj1 p hp q (List.mem_append_left _ hq), List.forall_mem_cons.mpr ⟨dj0 p (List.mem_append_left _ hp), List.forall_mem_cons.mpr ⟨by refine neN ?_; dsimp only; omega, List.forall_mem_cons.mpr ⟨by refine neN ?_; dsimp only; omega, fun q hq => dj1 p hp q (List.mem_append_right _ hq)⟩⟩⟩⟩
    case dk30 =>
      intro p hp
      have := hr9 p (List.mem_append_right _ (List.mem_append_left _ hp))
      exact List.forall_mem_cons.mpr ⟨dj0 p (List.mem_append_right _ (List.mem_append_left _ hp)), List.forall_mem_cons.mpr ⟨by refine neN ?_; dsimp only; omega, List.forall_mem_cons.mpr ⟨by refine neN ?_; dsimp only; omega, fun q hq => dj2 p hp q hq⟩⟩⟩
    case of30 =>
      intro p hp
      have := hr9 p (in_l hp)
      have n1 : p.1 ≠ H := by
        rcases List.mem_append.mp hp with hp | hp
        · exact dj1 p hp (H, _) (List.mem_append_right _ hmH)
        · exact dj2 p hp (H, _) hmH
      have n2 : p.1 ≠ TT := by
        rcases List.mem_append.mp hp with hp | hp
        · exact dj1 p hp (TT, _) (List.mem_append_right _ hmT)
        · exact dj2 p hp (TT, _) hmT
      exact (List.forall_mem_cons.mpr ⟨by refine neN ?_; omega, (List.forall_mem_cons.mpr ⟨by refine neN ?_; omega, (List.forall_mem_cons.mpr ⟨by refine neN ?_; omega, (List.forall_mem_cons.mpr ⟨by refine neN ?_; omega, (List.forall_mem_cons.mpr ⟨by refine neN ?_; omega, (List.forall_mem_cons.mpr ⟨by refine neN ?_; omega, (List.forall_mem_cons.mpr ⟨by refine neN ?_; omega, (List.forall_mem_cons.mpr ⟨by refine neN ?_; omega, (List.forall_mem_cons.mpr ⟨by refine neN ?_; omega, (List.forall_mem_cons.mpr ⟨by refine neN ?_; omega, (List.forall_mem_cons.mpr ⟨by refine neN ?_; omega, (List.forall_mem_cons.mpr ⟨n1, (List.forall_mem_cons.mpr ⟨n2, fun _ h => nomatch h⟩)⟩)⟩)⟩)⟩)⟩)⟩)⟩)⟩)⟩)⟩)⟩)⟩)
    intro D M2 vm2 em2 ve2 ee2 tb' td' h' tk' m' F' N' iv' ie' ti' td3 dj' dk' of' ofr'
    k_steps
    (rename Fr h₀ _ _ _ => F40)
    (rename News h₀ _ _ _ => N40)
    exact ret D M2 E9 vm2 em2 ve2 ee2 [(126, tabObj #[rawInt 162, rawInt 4, .ref c1, rawInt 164, rawInt 13, .ref c2]), (c1, oc1), (c2, oc2)] tb' td' h' tk' F40 N40 iv' ie' (.two d11 d21 d12 d22) ti' td3 dj' dk' of' ofr'
end
section
local macro_rules | `(tactic| walk_at "zzpad") => `(tactic| skip)
local macro_rules | `(tactic| walk_at "setAttr ref") => `(tactic| (k_here; k_dflt (refine' fn_setattr ?F ?N ?U ?r1 ?r2 ?r3 ?_; (case F => k_asm); (case N => k_asm); (case U => k_updF); (case r1 => rfl); (case r2 => rfl); (case r3 => rfl)); intro d' h' tk' tn' F' N' l1; (try dsimp only at N'); (try k_lt l1)))
local macro_rules | `(tactic| walk_at "call ref") => `(tactic| refine haltF (by decide) ?_)
local macro_rules | `(tactic| walk_at "eval ListComp") => `(tactic| refine Halt.of ?_)
local macro_rules | `(tactic| walk_at "CompSrc") => `(tactic| refine Halt.of ?_)
local macro_rules | `(tactic| walk_at "call builtin:str.join") => `(tactic| refine Halt.of ?_)
local macro_rules | `(tactic| walk_at "call type:list") => `(tactic| refine Halt.of ?_)
local macro_rules | `(tactic| walk_at "execs cons") => `(tactic| with_reducible refine haltEx ?_)
theorem mov_two {w : World} {mg mb : Str → Option Value} {p : Program} {loose : List Str} {mean : ExcName → Option Value} {dp un : Nat} {gd : Option (List Code)} {cn : Str} {cs : Scope} {a : Addr} {ccd : Value} {cl : List (Str × Addr)} {outer : List Env} {A₀ : Around} {base h₀ : Heap} {L : Addr} {m : Str → Option Value} {s : Shared} {Q E : Value → Shared → Prop} {R H TT : Addr} {vr vh vt : List Value} {er eh et : Nat} {row here there : List Nat} {tb td rest : List (Addr × Obj)} {c1 c2 : Addr} {oc1 oc2 : Obj} {v1 v2 : Array Value} {t1 t2 : Tok}
  (B : Below A₀ base outer h₀) (F : Fr h₀ L s.heap m) (X : (hd1.heap_39 w.params).In h₀) (N : News h₀ L s.heap ((126, tabObj #[rawInt 162, rawInt 4, .ref c1, rawInt 164, rawInt 13, .ref c2]) :: (c1, oc1) :: (c2, oc2) :: (tb ++ (td ++ rest)))) (T : Top p loose mean mg mb h₀) (hk : cs.kind = .function) (hd : dp + 300 < recursionLimit) (hu : un + 3000 < cLine)
  (CM : CodeHd base 128 126) (dj0 : OffL (tb ++ td) [126, c1, c2]) (d11 : oc1.data = .fields v1) (d21 : v1[1]? = some (.str (PySem.Str.ofString "_law_moved" ++ ".<locals>." ++ PySem.Str.ofString "read") t1)) (d12 : oc2.data = .fields v2) (d22 : v2[1]? = some (.str (PySem.Str.ofString "_law_moved" ++ ".<locals>." ++ PySem.Str.ofString "<lambda>") t2)) (CI : CodeHd base 83 79) (CD : CodeHd base 90 86)
  (hmR : (R, W.listOf vr.toArray er) ∈ rest) (hmH : (H, W.listOf vh.toArray eh) ∈ rest) (hmT : (TT, W.listOf vt.toArray et) ∈ rest) (iR : IntsAre vr (row.map Int.ofNat)) (hR : ∀ d ∈ row, d < 4) (lR : row.length ≤ 10)
  (iH : IntsAre vh (here.map Int.ofNat)) (iT : IntsAre vt (there.map Int.ofNat)) (h4 : ∀ d ∈ here, d < 4) (t4 : ∀ d ∈ there, d < 4) (hl : here.length = there.length) (hl2 : here.length ≤ 10)
  (ti : TabI2 tb) (td2 : TabD2 td) (dj1 : ∀ p ∈ tb, ∀ q ∈ td ++ rest, p.1 ≠ q.1) (dj2 : ∀ p ∈ td, ∀ q ∈ rest, p.1 ≠ q.1)
  (ret : ∀ (D M2 E2 : Addr) (vm2 : List Value) (em2 : Nat) (ve2 : List Value) (ee2 : Nat) (tm' tb' td' : List (Addr × Obj)) (h' : Heap) (tk' : Nat), Fr h₀ L h' m → News h₀ L h' ((D, { cls := .type "tuple", data := .seq #[.ref M2, .ref E2] }) :: (M2, W.listOf vm2.toArray em2) :: (E2, W.listOf ve2.toArray ee2) :: (tb' ++ (td' ++ (tm' ++ rest)))) → IntsAre vm2 (((movL row here there [] []).2.1 ++ (movL row here there [] []).1).map Int.ofNat) → IntsAre ve2 ((movL row here there [] []).2.2.map Int.ofNat) → TabM tm' → TabI2 tb' → TabD2 td' → (∀ p ∈ tb', ∀ q ∈ td' ++ (tm' ++ rest), p.1 ≠ q.1) → (∀ p ∈ td', ∀ q ∈ tm' ++ rest, p.1 ≠ q.1) → OffL (tb' ++ td') [D, M2, E2] → OffL (tm' ++ rest) [D, M2, E2] → Q (.ref D) { s with heap := h', toks := tk' }) :
  wpAny (model PySem.Challenge.pw_pg0212_02 w) (ktrTop dp un gd cn cs L a ccd cl outer) (call (.ref 129) [.ref R, .ref H, .ref TT]) Q E s := by
  refine wpAny_call ?_
  k_dflt (first
  | cell_enter
  | (refine' code_def ?k1 ?k2 ?k3 ?k4 ?k5 ?kA ?kF ?kK ?k6 ?k7 ?k8 ?k9 ?kB ?_ ?c2 ?c3 ?c4 ?c5; (case kA => exact rfl); (case kF => exact rfl); (case kK => first | assumption | exact rfl); (case k1 => k_asm); (case k2 => k_asm); (case k3 => k_asm); (case k4 => k_asm); (case k5 => k_asm); (case k6 => k_is); (case k7 => k_is); (case k8 => ktr_room); (case k9 => first | exact BindsTo.of_eq rfl | exact binds_K (by k_in) rfl (by k_is) rfl rfl rfl | fail "k_enter: no rule for these arguments"); (case c5 => decide); (case kB => exact locs rfl); (case c2 => exact rfl); (case c3 => exact rfl); (case c4 => exact rfl); k_whole; intro g' L' h' FG' F' N' B' X' T'; (try dsimp only); (try k_lift B'); (try k_fold))
  | (refine' code_defC ?k1 ?k2 ?k3 ?k4 ?k5 ?kA ?kF ?kK ?k6 ?k7 ?k8 ?k9 ?kB ?kD ?_ ?c2 ?c3 ?c4; (case kA => exact rfl); (case kF => exact rfl); (case kK => first | assumption | exact rfl); (case k1 => k_asm); (case k2 => k_asm); (case k3 => k_asm); (case k4 => k_asm); (case k5 => k_asm); (case k6 => k_is); (case k7 => k_is); (case k8 => ktr_room); (case k9 => first | exact BindsTo.of_eq rfl | exact binds_K (by k_in) rfl (by k_is) rfl rfl rfl | fail "k_enter: no rule for these arguments"); (case kB => exact rfl); (case kD => decide +kernel); (case c2 => exact rfl); (case c3 => exact rfl); (case c4 => exact rfl); k_whole; intro g9 L9 h9 tk9 cells9 FG9 F9 N9 Y9 B9 X9 T9 l9; (try k_lt l9); k_cells Y9; (try simp only [List.cons_append, List.nil_append] at N9); (try dsimp only); (try k_lift B9); (try k_fold)))
  (rename Obj.data _ = Data.cell _ => d9)
  (rename Obj => o9)
  have hs9 : o9.data = .cell none := d9
  clear d9
  have hr9 := allLt_to l9.2.2.2
  have lc1 : @LT.lt Nat _ c1 L9 := l9.2.1
  have lc2 : @LT.lt Nat _ c2 L9 := l9.2.2.1
  have l127 : @LT.lt Nat _ 126 L9 := l9.1
  k_steps
  unfold Halt
  k_dflt (refine' LCg.ListComp_U ?Fa (by with_unfolding_all rfl) (by decide) (by rfl) (by decide) (by rfl) ?_)
  (case Fa => k_asm)
  k_steps
  unfold Halt
  refine' let_spec (R := R) (vs := vr) (ep := er) (ds := row) ?B1 ?F1 ?X1 ?N1 ?T1 ?hk1 ?hd1 ?hu1 ?hm1 iR hR (by omega) ?ret1
  (case B1 => k_asm)
  (case F1 => k_asm)
  (case X1 => k_asm)
  (case N1 => k_asm)
  (case T1 => k_asm)
  (case hk1 => exact rfl)
  (case hd1 => (simp only [recursionLimit] at *; omega))
  (case hu1 => (simp only [cLine_is] at *; omega))
  (case hm1 => exact .tail _ (.tail _ (.tail _ (mov_in hmR))))
  intro D2 ws ep2 h2 tk2 F2 N2 sw nD2
  have hwl : ws.length = row.length := by rw [StrsAre.length sw, List.length_map, List.length_range]
  (try dsimp only)
  k_steps
  unfold Halt
  refine' LCg.CompSrc.ledger (ax := D2) (its := ws.toArray) (k := ep2) rfl ?Fc ?Nc (.head _) ?zc ?_
  (case Fc => k_asm)
  (case Nc => k_asm)
  (case zc => rw [List.size_toArray, hwl]; exact fits4000' (by omega))
  intro g6
  refine' cr_rest (fun i y => ∃ t, y = Value.str (("_" : Str) ++ lt4 (row.getD i 0)) t) ?turn1 ?fin1
  case turn1 =>
    intro i v I10 oI10 C10 oC10 D10 m10 ys10 h10 tk10 E10 hi10 hP10 hC10 hx10 F10 N10 off10 ne10
    rw [List.size_toArray, hwl] at hi10
    obtain ⟨ti10, hti10⟩ := sa_item' sw i (lt4 (row.getD i 0)) (by rw [List.getElem?_map, List.getElem?_range (by omega)]; rfl)
    have hv : v = .str (lt4 (row.getD i 0)) ti10 := by
      have hP : ws[i]? = some v := by simpa using hP10
      rw [hti10] at hP; exact (Option.some.inj hP).symm
    subst hv
    have hl1 : (lt4 (row.getD i 0)).length = 1 := rfl
    k_steps
    refine LCg.CompEnd.intro (by k_asm) (by k_asm) _ (fun _ h => h) off10 ?_ ?_
    · exact .inr ⟨_, .head _, rfl, _, rfl⟩
    · exact ⟨rfl, _, rfl⟩
  case fin1 =>
    intro ys11 hl11 hy11 D11 h11 tk11 F11 N11 of11
    have i11 := strs_of (g := fun i => ("_" : Str) ++ lt4 (row.getD i 0)) hl11 hy11
    rw [List.size_toArray, hwl] at i11
    k_steps
    unfold Halt
    have hsum : (((List.range row.length).map fun i => ("_" : Str) ++ lt4 (row.getD i 0)).map (·.length)).sum + ((List.range row.length).map fun i => ("_" : Str) ++ lt4 (row.getD i 0)).length * ("" : Str).length ≤ 100000 := by
      have h1 := sum_le (B := 2) ((List.range row.length).map fun i => ("_" : Str) ++ lt4 (row.getD i 0)) (fun u hu => by
        obtain ⟨i, _, rfl⟩ := List.mem_map.mp hu
        exact Nat.le_refl 2)
      rw [List.length_map, List.length_range] at h1
      rw [List.length_map, List.length_range, show ("" : Str).length = 0 from rfl]; omega
    refine' join_S (D := D11) (vs := ys11) ?Nf ?mf i11 hsum ?_
    (case Nf => k_asm)
    (case mf => k_mem)
    intro t14 k14
    obtain ⟨Wd, hWd⟩ : ∃ Wd, Txt.join ("" : Str) ((List.range row.length).map fun i => ("_" : Str) ++ lt4 (row.getD i 0)) = Wd := ⟨_, rfl⟩
    rw [hWd]
    have hWl : Wd.cps.toList = ulL row := by rw [← hWd, ul_text]
    have hWn : Wd.length ≤ 20 := by rw [length_toList, hWl, ulL_length]; omega
    k_steps
    unfold Halt
    refine' ls_list rfl ?Fg ?Ng ?_ (fits4000' (by omega))
    (case Fg => k_asm)
    (case Ng => k_asm)
    intro S vs17 ep17 h17 tk17 F17 N17 st17 l17
    rw [hWl] at st17
    have lS9 := l17 (L9 + 1, o9) (by k_mem)
    have lSr : ∀ p ∈ tb ++ (td ++ rest), @LT.lt Nat _ p.1 S := fun p hp => l17 p (.tail _ (.tail _ (.tail _ (.tail _ (.tail _ (.tail _ hp))))))
    clear l17
    have N18 := cb_drop (news := (S, W.listOf vs17.toArray ep17) :: (L9 + 1, o9) :: (126, tabObj #[rawInt 162, rawInt 4, .ref c1, rawInt 164, rawInt 13, .ref c2]) :: (c1, oc1) :: (c2, oc2) :: (tb ++ (td ++ rest))) N17 (List.forall_mem_cons.mpr ⟨.head _, fun p hp => .tail _ (.tail _ (.tail _ hp))⟩)
    clear N17
    k_steps
    unfold Halt
    (rename Fr g9 _ _ _ => F30)
    (rename News g9 _ _ _ => N30)
    rename_i o9b dS9 _ _ f1 _ _ _ _ a13 b12 _ _ _ f2 _ _ _ a11 b10 _ _ _ aS _ _ _ a9 b8 _ _ x9 dx9 _ a7 b6 e0 _ _ _ _ _ _ _ _ _ _ _ _ _ _ _ _ _ _ _ pb9 _ a5 b4 _ _ _ _ _ _ _ _ M9 _ a3 b2 _ E9 _ a1 b0 _
    have lH : @LT.lt Nat _ H L9 := hr9 (H, _) (in_r hmH)
    have lT : @LT.lt Nat _ TT L9 := hr9 (TT, _) (in_r hmT)
    have g0 : @LT.lt Nat _ L9 S := by omega
    have g1 : @LT.lt Nat _ S f1 := by omega
    have g1b : @Ne Nat c1 S := by refine neN ?_; omega
    have e2 : @LT.lt Nat _ c1 f1 := by omega
    have g2 : @LT.lt Nat _ f1 f2 := by omega
    have g3 : @LT.lt Nat _ f2 aS := by omega
    have g4 : @LT.lt Nat _ aS dx9 := by omega
    have g5 : @LT.lt Nat _ x9 pb9 := by omega
    have g6 : @LT.lt Nat _ pb9 M9 := by omega
    have g7 : @LT.lt Nat _ M9 E9 := by omega
    clear a13 b12 a11 b10 a9 b8 a7 b6 a5 b4 a3 b2 a1 b0
    refine' mov_rest (pb := pb9) (x := x9) (dx := dx9) (dS := aS) (fS := f2) (r := f1) (cr := c1) (cS := L9 + 1) (S := S) (M := M9) (E9 := E9) (H := H) (Tt := TT) (vm := []) (ve := []) (row := row) (here := here) (there := there) (tb := tb) (td := td) (rest := (126, tabObj _) :: (c1, oc1) :: (c2, oc2) :: rest) ?B30 F30 ?X30 ?N30 ?T30 rfl ?hd30 ?hu30 rfl rfl rfl rfl rfl rfl rfl d11 d21 dS9 lS9 ⟨g1, g1b⟩ e2 g2 g3 g4 e0 g5 g6 g7 ?qR30 ?qH30 ?qT30 iH iT h4 t4 hl hl2 hR lR rfl rfl (sgA_of st17) ti td2 ?dj30 ?dk30 ?of30 CI CD ?_
    (case B30 => k_asm)
    (case X30 => k_asm)
    (case T30 => k_asm)
    (case hd30 => (simp only [recursionLimit] at *; omega))
    (case hu30 => (simp only [cLine_is] at *; omega))
    (case N30 => exact cb_drop N30 (List.forall_mem_cons.mpr ⟨by k_mem, (List.forall_mem_cons.mpr ⟨by k_mem, (List.forall_mem_cons.mpr ⟨by k_mem, (List.forall_mem_cons.mpr ⟨by k_mem, (List.forall_mem_cons.mpr ⟨by k_mem, (List.forall_mem_cons.mpr ⟨by k_mem, (List.forall_mem_cons.mpr ⟨by k_mem, (List.forall_mem_cons.mpr ⟨by k_mem, (List.forall_mem_cons.mpr ⟨by k_mem, (List.forall_mem_cons.mpr ⟨by k_mem, (List.forall_mem_cons.mpr ⟨by k_mem, (List.forall_mem_cons.mpr ⟨by (repeat (first | exact in_r hmH | refine List.Mem.tail _ ?_)), (List.forall_mem_cons.mpr ⟨by (repeat (first | exact in_r hmT | refine List.Mem.tail _ ?_)), List.forall_mem_append.mpr ⟨fun p hp => by (repeat (first | exact List.mem_append_left _ hp | refine List.Mem.tail _ ?_)), List.forall_mem_append.mpr ⟨fun p hp => by (repeat (first | exact List.mem_append_right _ (List.mem_append_left _ hp) | refine List.Mem.tail _ ?_)), (List.forall_mem_cons.mpr ⟨by k_mem, (List.forall_mem_cons.mpr ⟨by k_mem, (List.forall_mem_cons.mpr ⟨by k_mem, fun p hp => by (repeat (first | exact in_r hp | refine List.Mem.tail _ ?_))⟩)⟩)⟩)⟩⟩⟩)⟩)⟩)⟩)⟩)⟩)⟩)⟩)⟩)⟩)⟩)⟩)⟩))
    (case qR30 => exact (List.forall_mem_cons.mpr ⟨List.forall_mem_cons.mpr ⟨by refine neN ?_; dsimp only; omega, List.forall_mem_cons.mpr ⟨by refine neN ?_; dsimp only; omega, List.forall_mem_cons.mpr ⟨by refine neN ?_; dsimp only; omega, List.forall_mem_cons.mpr ⟨by refine neN ?_; dsimp only; omega, List.forall_mem_cons.mpr ⟨by refine neN ?_; dsimp only; omega, fun _ h => nomatch h⟩⟩⟩⟩⟩, (List.forall_mem_cons.mpr ⟨List.forall_mem_cons.mpr ⟨by refine neN ?_; dsimp only; omega, List.forall_mem_cons.mpr ⟨by refine neN ?_; dsimp only; omega, List.forall_mem_cons.mpr ⟨by refine neN ?_; dsimp only; omega, List.forall_mem_cons.mpr ⟨by refine neN ?_; dsimp only; omega, List.forall_mem_cons.mpr ⟨by refine neN ?_; dsimp only; omega, fun _ h => nomatch h⟩⟩⟩⟩⟩, (List.forall_mem_cons.mpr ⟨List.forall_mem_cons.mpr ⟨by refine neN ?_; dsimp only; omega, List.forall_mem_cons.mpr ⟨by refine neN ?_; dsimp only; omega, List.forall_mem_cons.mpr ⟨by refine neN ?_; dsimp only; omega, List.forall_mem_cons.mpr ⟨by refine neN ?_; dsimp only; omega, List.forall_mem_cons.mpr ⟨by refine neN ?_; dsimp only; omega, fun _ h => nomatch h⟩⟩⟩⟩⟩, fun p hp => by have := hr9 p (in_r hp); exact (List.forall_mem_cons.mpr ⟨by refine neN ?_; omega, (List.forall_mem_cons.mpr ⟨by refine neN ?_; omega, (List.forall_mem_cons.mpr ⟨by refine neN ?_; omega, (List.forall_mem_cons.mpr ⟨by refine neN ?_; omega, (List.forall_mem_cons.mpr ⟨by refine neN ?_; omega, fun _ h => nomatch h⟩)⟩)⟩)⟩)⟩)⟩)⟩)⟩))
    (case qH30 => exact (List.forall_mem_cons.mpr ⟨by refine neN ?_; omega, (List.forall_mem_cons.mpr ⟨by refine neN ?_; omega, (List.forall_mem_cons.mpr ⟨by refine neN ?_; omega, (List.forall_mem_cons.mpr ⟨by refine neN ?_; omega, (List.forall_mem_cons.mpr ⟨by refine neN ?_; omega, fun _ h => nomatch h⟩)⟩)⟩)⟩)⟩))
    (case qT30 => exact (List.forall_mem_cons.mpr ⟨by refine neN ?_; omega, (List.forall_mem_cons.mpr ⟨by refine neN ?_; omega, (List.forall_mem_cons.mpr ⟨by refine neN ?_; omega, (List.forall_mem_cons.mpr ⟨by refine neN ?_; omega, (List.forall_mem_cons.mpr ⟨by refine neN ?_; omega, fun _ h => nomatch h⟩)⟩)⟩)⟩)⟩))
    case dj30 =>
      intro p hp
      have := hr9 p (List.mem_append_left _ hp)
      exact List.forall_mem_append.mpr ⟨fun q hq => dj1 p hp q (List.mem_append_left _ hq), List.forall_mem_cons.mpr ⟨dj0 p (List.mem_append_left _ hp) 126 (.head _), List.forall_mem_cons.mpr ⟨dj0 p (List.mem_append_left _ hp) c1 (.tail _ (.head _)), List.forall_mem_cons.mpr ⟨dj0 p (List.mem_append_left _ hp) c2 (.tail _ (.tail _ (.head _))), fun q hq => dj1 p hp q (List.mem_append_right _ hq)⟩⟩⟩⟩
    case dk30 =>
      intro p hp
      have := hr9 p (List.mem_append_right _ (List.mem_append_left _ hp))
      exact List.forall_mem_cons.mpr ⟨dj0 p (List.mem_append_right _ hp) 126 (.head _), List.forall_mem_cons.mpr ⟨dj0 p (List.mem_append_right _ hp) c1 (.tail _ (.head _)), List.forall_mem_cons.mpr ⟨dj0 p (List.mem_append_right _ hp) c2 (.tail _ (.tail _ (.head _))), fun q hq => dj2 p hp q hq⟩⟩⟩
    case of30 =>
      intro p hp
      have := hr9 p (in_l hp)
      have n1 : p.1 ≠ H := by
        rcases List.mem_append.mp hp with hp | hp
        · exact dj1 p hp (H, _) (List.mem_append_right _ hmH)
        · exact dj2 p hp (H, _) hmH
      have n2 : p.1 ≠ TT := by
        rcases List.mem_append.mp hp with hp | hp
        · exact dj1 p hp (TT, _) (List.mem_append_right _ hmT)
        · exact dj2 p hp (TT, _) hmT
      exact (List.forall_mem_cons.mpr ⟨by refine neN ?_; omega, (List.forall_mem_cons.mpr ⟨by refine neN ?_; omega, (List.forall_mem_cons.mpr ⟨by refine neN ?_; omega, (List.forall_mem_cons.mpr ⟨by refine neN ?_; omega, (List.forall_mem_cons.mpr ⟨by refine neN ?_; omega, (List.forall_mem_cons.mpr ⟨by refine neN ?_; omega, (List.forall_mem_cons.mpr ⟨dj0 p hp c1 (.tail _ (.head _)), (List.forall_mem_cons.mpr ⟨by refine neN ?_; omega, (List.forall_mem_cons.mpr ⟨by refine neN ?_; omega, (List.forall_mem_cons.mpr ⟨by refine neN ?_; omega, (List.forall_mem_cons.mpr ⟨by refine neN ?_; omega, (List.forall_mem_cons.mpr ⟨n1, (List.forall_mem_cons.mpr ⟨n2, fun _ h => nomatch h⟩)⟩)⟩)⟩)⟩)⟩)⟩)⟩)⟩)⟩)⟩)⟩)⟩)
    intro D M2 vm2 em2 ve2 ee2 tb' td' h' tk' m' F' N' iv' ie' ti' td3 dj' dk' of' ofr'
    k_steps
    (rename Fr h₀ _ _ _ => F40)
    (rename News h₀ _ _ _ => N40)
    exact ret D M2 E9 vm2 em2 ve2 ee2 [(126, tabObj #[rawInt 162, rawInt 4, .ref c1, rawInt 164, rawInt 13, .ref c2]), (c1, oc1), (c2, oc2)] tb' td' h' tk' F40 N40 iv' ie' (.two d11 d21 d12 d22) ti' td3 dj' dk' of' ofr'
end
section
theorem mov_spec {w : World} {mg mb : Str → Option Value} {p : Program} {loose : List Str} {mean : ExcName → Option Value} {dp un : Nat} {gd : Option (List Code)} {cn : Str} {cs : Scope} {a : Addr} {ccd : Value} {cl : List (Str × Addr)} {outer : List Env} {A₀ : Around} {base h₀ : Heap} {L : Addr} {m : Str → Option Value} {s : Shared} {Q E : Value → Shared → Prop} {R H TT : Addr} {vr vh vt : List Value} {er eh et : Nat} {row here there : List Nat} {tb td tm rest : List (Addr × Obj)}
  (B : Below A₀ base outer h₀) (F : Fr h₀ L s.heap m) (X : (hd1.heap_39 w.params).In h₀) (N : News h₀ L s.heap (tb ++ (td ++ (tm ++ rest)))) (T : Top p loose mean mg mb h₀) (hk : cs.kind = .function) (hd : dp + 300 < recursionLimit) (hu : un + 3000 < cLine)
  (CM : CodeHd base 128 126) (tms : TabM tm) (dj0 : ∀ q ∈ rest, q.1 ≠ 126) (CI : CodeHd base 83 79) (CD : CodeHd base 90 86)
  (hmR : (R, W.listOf vr.toArray er) ∈ rest) (hmH : (H, W.listOf vh.toArray eh) ∈ rest) (hmT : (TT, W.listOf vt.toArray et) ∈ rest) (iR : IntsAre vr (row.map Int.ofNat)) (hR : ∀ d ∈ row, d < 4) (lR : row.length ≤ 10)
  (iH : IntsAre vh (here.map Int.ofNat)) (iT : IntsAre vt (there.map Int.ofNat)) (h4 : ∀ d ∈ here, d < 4) (t4 : ∀ d ∈ there, d < 4) (hl : here.length = there.length) (hl2 : here.length ≤ 10)
  (ti : TabI2 tb) (td2 : TabD2 td) (dj1 : ∀ p ∈ tb, ∀ q ∈ td ++ (tm ++ rest), p.1 ≠ q.1) (dj2 : ∀ p ∈ td, ∀ q ∈ tm ++ rest, p.1 ≠ q.1)
  (ret : ∀ (D M2 E2 : Addr) (vm2 : List Value) (em2 : Nat) (ve2 : List Value) (ee2 : Nat) (tm' tb' td' : List (Addr × Obj)) (h' : Heap) (tk' : Nat), Fr h₀ L h' m → News h₀ L h' ((D, { cls := .type "tuple", data := .seq #[.ref M2, .ref E2] }) :: (M2, W.listOf vm2.toArray em2) :: (E2, W.listOf ve2.toArray ee2) :: (tb' ++ (td' ++ (tm' ++ rest)))) → IntsAre vm2 (((movL row here there [] []).2.1 ++ (movL row here there [] []).1).map Int.ofNat) → IntsAre ve2 ((movL row here there [] []).2.2.map Int.ofNat) → TabM tm' → TabI2 tb' → TabD2 td' → (∀ p ∈ tb', ∀ q ∈ td' ++ (tm' ++ rest), p.1 ≠ q.1) → (∀ p ∈ td', ∀ q ∈ tm' ++ rest, p.1 ≠ q.1) → OffL (tb' ++ td') [D, M2, E2] → OffL (tm' ++ rest) [D, M2, E2] → Q (.ref D) { s with heap := h', toks := tk' }) :
  wpAny (model PySem.Challenge.pw_pg0212_02 w) (ktrTop dp un gd cn cs L a ccd cl outer) (call (.ref 129) [.ref R, .ref H, .ref TT]) Q E s := by
  cases tms with
  | nil =>
    refine mov_nil (row := row) (here := here) (there := there) (tb := tb) (td := td) (rest := rest) B F X (cb_drop N (List.forall_mem_cons.mpr ⟨in_r (.head _), List.forall_mem_append.mpr ⟨fun p hp => List.mem_append_left _ hp, List.forall_mem_append.mpr ⟨fun p hp => List.mem_append_right _ (List.mem_append_left _ hp), fun p hp => in_r (.tail _ hp)⟩⟩⟩)) T hk hd hu CM ?_ CI CD hmR hmH hmT iR hR lR iH iT h4 t4 hl hl2 ti td2 (fun p hp q hq => dj1 p hp q ?_) (fun p hp q hq => dj2 p hp q (.tail _ hq)) ret
    · refine List.forall_mem_append.mpr ⟨fun p hp => dj1 p hp (126, tabObj #[]) (List.mem_append_right _ (.head _)), List.forall_mem_append.mpr ⟨fun p hp => dj2 p hp (126, tabObj #[]) (.head _), dj0⟩⟩
    · rcases List.mem_append.mp hq with hq | hq
      · exact List.mem_append_left _ hq
      · exact List.mem_append_right _ (.tail _ hq)
  | two h1 g1 h2 g2 =>
    rename_i c1 c2 o1 o2 v1 v2 t1 t2
    refine mov_two (row := row) (here := here) (there := there) (tb := tb) (td := td) (rest := rest) B F X (cb_drop N (List.forall_mem_cons.mpr ⟨in_r (.head _), List.forall_mem_cons.mpr ⟨in_r (.tail _ (.head _)), List.forall_mem_cons.mpr ⟨in_r (.tail _ (.tail _ (.head _))), List.forall_mem_append.mpr ⟨fun p hp => List.mem_append_left _ hp, List.forall_mem_append.mpr ⟨fun p hp => List.mem_append_right _ (List.mem_append_left _ hp), fun p hp => in_r (.tail _ (.tail _ (.tail _ hp)))⟩⟩⟩⟩⟩)) T hk hd hu CM ?_ h1 g1 h2 g2 CI CD hmR hmH hmT iR hR lR iH iT h4 t4 hl hl2 ti td2 (fun p hp q hq => dj1 p hp q ?_) (fun p hp q hq => dj2 p hp q (.tail _ (.tail _ (.tail _ hq)))) ret
    · intro p hp
      rcases List.mem_append.mp hp with hp | hp
      · exact List.forall_mem_cons.mpr ⟨dj1 p hp (126, _) (List.mem_append_right _ (.head _)), List.forall_mem_cons.mpr ⟨dj1 p hp (c1, o1) (List.mem_append_right _ (.tail _ (.head _))), List.forall_mem_cons.mpr ⟨dj1 p hp (c2, o2) (List.mem_append_right _ (.tail _ (.tail _ (.head _)))), fun _ h => nomatch h⟩⟩⟩
      · exact List.forall_mem_cons.mpr ⟨dj2 p hp (126, _) (.head _), List.forall_mem_cons.mpr ⟨dj2 p hp (c1, o1) (.tail _ (.head _)), List.forall_mem_cons.mpr ⟨dj2 p hp (c2, o2) (.tail _ (.tail _ (.head _))), fun _ h => nomatch h⟩⟩⟩
    · rcases List.mem_append.mp hq with hq | hq
      · exact List.mem_append_left _ hq
      · exact List.mem_append_right _ (.tail _ (.tail _ (.tail _ hq)))
end
section
def wkL : List Nat → List Nat → List Nat → Nat → List Nat × List Nat
  | [], _, _, _ => ([], [])
  | d :: r, h :: hs, t :: ts, n => if d = h then (mv4 h t d :: (wkL r hs ts (n + 1)).1, (n + 1) :: (wkL r hs ts (n + 1)).2) else (mv4 h t d :: (wkL r (h :: hs) (t :: ts) (n + 1)).1, (wkL r (h :: hs) (t :: ts) (n + 1)).2)
  | d :: r, _, _, n => (d :: (wkL r [] [] (n + 1)).1, (wkL r [] [] (n + 1)).2)
theorem wkN {d : Nat} {r ts : List Nat} {n : Nat} : wkL (d :: r) [] ts n = (d :: (wkL r [] [] (n + 1)).1, (wkL r [] [] (n + 1)).2) := by
  cases ts <;> rfl
theorem wkN' {r ts : List Nat} {n : Nat} : wkL r [] ts n = wkL r [] [] n := by
  cases r with
  | nil => cases ts <;> rfl
  | cons d r => rw [wkN, wkN]
theorem digsN_at {b : Nat} : ∀ (k x i : Nat), i < k → (digsN b k x).getD i 0 = x / b ^ i % b
  | 0, _, _, h => absurd h (Nat.not_lt_zero _)
  | k + 1, x, 0, _ => by rw [digsN, Nat.pow_zero, Nat.div_one]; rfl
  | k + 1, x, i + 1, h => by
    have ih := digsN_at (b := b) k (x / b) i (Nat.lt_of_succ_lt_succ h)
    rw [digsN, List.getD_cons_succ, ih, Nat.div_div_eq_div_mul, Nat.pow_succ, Nat.mul_comm]
theorem pow4 {prog : Program} {w : World} {A : Around} {Q : Value → Shared → Prop} {E : Value → Shared → Prop} {s : Shared} {i pw : Nat} {t u : Tok} (hp : 4 ^ i = pw) (hi : i ≤ 20) (h : Q (.int (pw : Int) s.toks) { s with toks := s.toks + 1 }) : wpAny (model prog w) A (binaryOp .Pow (.int 4 t) (.int (i : Int) u)) Q E s := by
  refine PyProof.Rows.pow_int_small (by omega) (by omega) (by decide) ?_
  rw [Int.toNat_natCast, show (4 : Int) ^ i = ((4 ^ i : Nat) : Int) by simp, hp]
  exact h
structure WaSt where
  i : Nat
  wv : Nat
  tw : Tok
  ve : List Value
  ee : Nat
  es : List Nat
local macro_rules | `(tactic| walk_at "call builtin:len") => `(tactic| refine Halt.of ?_)
local macro_rules | `(tactic| walk_at "exec For Name Call cons nil") => `(tactic| refine Halt.of ?_)
local macro_rules | `(tactic| walk_at "binaryOp Pow int int") => `(tactic| refine pow4 (by assumption) (by assumption) ?_)
local macro_rules | `(tactic| walk_at "pyIter ref") => `(tactic| refine Halt.of ?_)
theorem wal_spec {w : World} {mg mb : Str → Option Value} {p : Program} {loose : List Str} {mean : ExcName → Option Value} {dp un : Nat} {gd : Option (List Code)} {cn : Str} {cs : Scope} {a : Addr} {ccd : Value} {cl : List (Str × Addr)} {outer : List Env} {A₀ : Around} {base h₀ : Heap} {L : Addr} {m : Str → Option Value} {s : Shared} {Q E : Value → Shared → Prop} {H TT : Addr} {vh vt : List Value} {eh et : Nat} {xN sz : Nat} {tx tz : Tok} {row here there : List Nat} {news : List (Addr × Obj)}
  (B : Below A₀ base outer h₀) (F : Fr h₀ L s.heap m) (X : (hd1.heap_39 w.params).In h₀) (N : News h₀ L s.heap news) (T : Top p loose mean mg mb h₀) (hk : cs.kind = .function) (hd : dp + 80 < recursionLimit) (hu : un + 700 < cLine)
  (hmH : (H, W.listOf vh.toArray eh) ∈ news) (hmT : (TT, W.listOf vt.toArray et) ∈ news)
  (iH : IntsAre vh (here.map Int.ofNat)) (iT : IntsAre vt (there.map Int.ofNat)) (h4 : ∀ d ∈ here, d < 4) (t4 : ∀ d ∈ there, d < 4) (hl : here.length = there.length) (hl2 : here.length ≤ 10) (hsz : sz ≤ 10) (hx : xN < 4 ^ sz) (hrow : row = digsN 4 sz xN)
  (ret : ∀ (D E9 : Addr) (ve : List Value) (ee : Nat) (t1 : Tok) (h' : Heap) (tk' : Nat), Fr h₀ L h' m → News h₀ L h' ((D, { cls := .type "tuple", data := .seq #[.int ((numD 4 (wkL row here there 0).1 : Nat) : Int) t1, .ref E9] }) :: (E9, W.listOf ve.toArray ee) :: news) → IntsAre ve ((wkL row here there 0).2.map Int.ofNat) → (∀ p ∈ news, p.1 ≠ D) → (∀ p ∈ news, p.1 ≠ E9) → Q (.ref D) { s with heap := h', toks := tk' }) :
  wpAny (model PySem.Challenge.pw_pg0212_02 w) (ktrTop dp un gd cn cs L a ccd cl outer) (call (.ref 136) [.int (xN : Int) tx, .int (sz : Int) tz, .ref H, .ref TT]) Q E s := by
  have hvh : vh.length = here.length := by rw [iH.length, List.length_map]
  refine wpAny_call ?_
  k_dflt (first
  | cell_enter
  | (refine' code_def ?k1 ?k2 ?k3 ?k4 ?k5 ?kA ?kF ?kK ?k6 ?k7 ?k8 ?k9 ?kB ?_ ?c2 ?c3 ?c4 ?c5; (case kA => exact rfl); (case kF => exact rfl); (case kK => first | assumption | exact rfl); (case k1 => k_asm); (case k2 => k_asm); (case k3 => k_asm); (case k4 => k_asm); (case k5 => k_asm); (case k6 => k_is); (case k7 => k_is); (case k8 => ktr_room); (case k9 => first | exact BindsTo.of_eq rfl | exact binds_K (by k_in) rfl (by k_is) rfl rfl rfl | fail "k_enter: no rule for these arguments"); (case c5 => decide); (case kB => exact locs rfl); (case c2 => exact rfl); (case c3 => exact rfl); (case c4 => exact rfl); k_whole; intro g' L' h' FG' F' N' B' X' T'; (try dsimp only); (try k_lift B'); (try k_fold))
  | (refine' code_defC ?k1 ?k2 ?k3 ?k4 ?k5 ?kA ?kF ?kK ?k6 ?k7 ?k8 ?k9 ?kB ?kD ?_ ?c2 ?c3 ?c4; (case kA => exact rfl); (case kF => exact rfl); (case kK => first | assumption | exact rfl); (case k1 => k_asm); (case k2 => k_asm); (case k3 => k_asm); (case k4 => k_asm); (case k5 => k_asm); (case k6 => k_is); (case k7 => k_is); (case k8 => ktr_room); (case k9 => first | exact BindsTo.of_eq rfl | exact binds_K (by k_in) rfl (by k_is) rfl rfl rfl | fail "k_enter: no rule for these arguments"); (case kB => exact rfl); (case kD => decide +kernel); (case c2 => exact rfl); (case c3 => exact rfl); (case c4 => exact rfl); k_whole; intro g9 L9 h9 tk9 cells9 FG9 F9 N9 Y9 B9 X9 T9 l9; (try k_lt l9); k_cells Y9; (try simp only [List.cons_append, List.nil_append] at N9); (try dsimp only); (try k_lift B9); (try k_fold)))
  k_steps
  unfold Halt
  refine wpAny_For ?_
  k_steps
  unfold Halt
  refine' ri_make (n := sz) ?Fr1 ?Nr1 ?hr1 rfl ?hn1 ?_
  (case Fr1 => k_asm)
  (case Nr1 => k_asm)
  (case hr1 => assumption)
  (case hn1 => omega)
  intro I h7 F7 N7 lt7
  rename_i E9 _ lE _ _ _ _ _ _ _ _ _ _ _ _
  have nE : ∀ p ∈ news, p.1 ≠ E9 := fun p hp => Nat.ne_of_lt (lE p hp)
  have nI : ∀ p ∈ news, p.1 ≠ I := fun p hp => Nat.ne_of_lt (lt7 p (.tail _ hp))
  have lEI : @LT.lt Nat _ E9 I := lt7 (E9, _) (.head _)
  clear lE lt7
  (try dsimp only)
  obtain ⟨tw0, htw0⟩ := fr_int' (x := ("worth" : Str)) (i := ((0 : Nat) : Int)) F7 ⟨_, rfl⟩
  refine' forI (L := _) (fun c : WaSt => (I, itR (c.i : Int) ((sz : Int) - (c.i : Nat))) :: (E9, W.listOf c.ve.toArray c.ee) :: (H, W.listOf vh.toArray eh) :: (TT, W.listOf vt.toArray et) :: news) (fun c => [("worth", .int (c.wv : Int) c.tw), ("ends", .ref E9), ("number", .int (xN : Int) tx), ("here", .ref H), ("there", .ref TT)]) ["place", "figure", "k"]
    (fun c => c.i ≤ sz ∧ IntsAre c.ve (c.es.map Int.ofNat) ∧ c.es.length ≤ here.length ∧ c.wv < 4 ^ c.i ∧ c.wv + 4 ^ c.i * numD 4 (wkL (row.drop c.i) (here.drop c.es.length) (there.drop c.es.length) c.i).1 = numD 4 (wkL row here there 0).1 ∧ c.es ++ (wkL (row.drop c.i) (here.drop c.es.length) (there.drop c.es.length) c.i).2 = (wkL row here there 0).2)
    (fun c => sz - c.i) ⟨0, 0, tw0, [], 0, []⟩ ?F9 ?N9 ?hk9 ?hr9 ?hp9 ?turn9
  (case F9 => exact F7)
  (case N9 => exact (by rw [show ((sz : Int) - ((0 : Nat) : Int)) = (sz : Int) by omega]; exact cb_drop N7 (List.forall_mem_cons.mpr ⟨.head _, List.forall_mem_cons.mpr ⟨.tail _ (.head _), List.forall_mem_cons.mpr ⟨.tail _ (.tail _ hmH), List.forall_mem_cons.mpr ⟨.tail _ (.tail _ hmT), fun p hp => .tail _ (.tail _ hp)⟩⟩⟩⟩)))
  (case hk9 => exact List.forall_mem_cons.mpr ⟨htw0, List.forall_mem_cons.mpr ⟨rfl, List.forall_mem_cons.mpr ⟨rfl, List.forall_mem_cons.mpr ⟨rfl, List.forall_mem_cons.mpr ⟨rfl, fun _ h => nomatch h⟩⟩⟩⟩⟩)
  (case hr9 => exact fun z _ _ => rfl)
  (case hp9 => exact ⟨Nat.zero_le _, .nil, Nat.zero_le _, (by show 0 < 4 ^ 0; decide), by (dsimp only; rw [Nat.pow_zero, Nat.one_mul, Nat.zero_add]; rfl), rfl⟩)
  intro c u h4' tk4 P4 F4 N4
  obtain ⟨hi4, ie4, kl4, wv4, er4, es4⟩ := P4
  have hve : c.ve.length = c.es.length := by rw [ie4.length, List.length_map]
  have nHE : @Ne Nat H E9 := nE (H, _) hmH
  have nTE : @Ne Nat TT E9 := nE (TT, _) hmT
  have nHI : @Ne Nat H I := nI (H, _) hmH
  have nTI : @Ne Nat TT I := nI (TT, _) hmT
  by_cases hlast : c.i < sz
  · refine' ri_item (n := sz) (i := c.i) rfl F4 N4 ?U5 (by omega) ?_
    (case U5 => k_updF)
    intro h5 tk5 t5 F5 N5
    (try dsimp only at N5 ⊢)
    have hp9 : (4 : Nat) ^ c.i ≤ 4 ^ 10 := Nat.pow_le_pow_right (by decide) (by omega)
    have hp0 : 0 < (4 : Nat) ^ c.i := Nat.pow_pos (by decide)
    have hi20 : c.i ≤ 20 := by omega
    obtain ⟨pw, hpw⟩ : ∃ pw, 4 ^ c.i = pw := ⟨_, rfl⟩
    rw [hpw] at hp9 hp0 er4 wv4
    have hp99 : pw ≤ 1048576 := hp9
    clear hp9
    k_steps
    unfold Halt
    obtain ⟨d, hd0⟩ : ∃ d, row.getD c.i 0 = d := ⟨_, rfl⟩
    have hrl : row.length = sz := by rw [hrow, digsN_length]
    have hd4 : d < 4 := by rw [← hd0, hrow, digsN_at _ _ _ hlast]; exact Nat.mod_lt _ (by decide)
    have hfig : ((xN : Int).fdiv (pw : Int)).fmod 4 = (d : Int) := by
      rw [← hd0, hrow, digsN_at _ _ _ hlast, hpw, fdiv_nat, show (4 : Int) = ((4 : Nat) : Int) from rfl, fmod_nat]
    have hdr : row.drop c.i = d :: row.drop (c.i + 1) := by rw [List.drop_eq_getElem_cons (by omega), ← hd0, List.getD_eq_getElem?_getD, List.getElem?_eq_getElem (by omega)]; rfl
    rw [hdr] at er4 es4
    (rename Fr _ _ _ _ => F10)
    rw [hfig] at F10
    refine' len_L (D := E9) (vs := c.ve) ?Nl0 ?ml0 ?fl0 ?_
    (case Nl0 => k_asm)
    (case ml0 => k_mem)
    (case fl0 => omega)
    k_steps
    unfold Halt
    refine' len_L (D := H) (vs := vh) ?Nl1 ?ml1 ?fl1 ?_
    (case Nl1 => k_asm)
    (case ml1 => k_mem)
    (case fl1 => omega)
    k_steps
    · (rename (c.ve.length : Int) = (vh.length : Int) => q9)
      have ek : c.es.length = here.length := by omega
      have hdt : there.drop here.length = [] := List.drop_of_length_le (by omega)
      (rename Fr _ _ _ _ => F17)
      (rename News _ _ _ _ => N17)
      obtain ⟨tw1, htw1⟩ := fr_int' (x := ("worth" : Str)) (i := ((c.wv + d * pw : Nat) : Int)) F17 ⟨_, rfl⟩
      refine ksw_end ⟨c.i + 1, c.wv + d * pw, tw1, c.ve, c.ee, c.es⟩ (by k_asm) N17 ?hna trivial ?hka ?hra ?hpa ?hma
      (case hna => exact fun p hp => hp)
      (case hka => exact List.forall_mem_cons.mpr ⟨htw1, List.forall_mem_cons.mpr ⟨rfl, List.forall_mem_cons.mpr ⟨rfl, List.forall_mem_cons.mpr ⟨rfl, List.forall_mem_cons.mpr ⟨rfl, fun _ h => nomatch h⟩⟩⟩⟩⟩)
      (case hra => (intro z h2 h3; simp only [List.forall_mem_cons, List.not_mem_nil, false_implies, implies_true, and_true, ne_eq] at h2; simp only [List.contains_cons, List.contains_nil, Bool.or_false, Bool.or_eq_false_iff, beq_eq_false_iff_ne, ne_eq] at h3; simp [kstB, h2, h3]))
      (case hma => (dsimp only; omega))
      rw [ek, List.drop_of_length_le (Nat.le_refl _), hdt] at er4 es4
      rw [wkN] at er4 es4
      refine ⟨hlast, ie4, kl4, ?_, ?_, ?_⟩
      · dsimp only
        rw [Nat.pow_succ, hpw]
        have : d * pw ≤ 3 * pw := Nat.mul_le_mul_right _ (by omega)
        omega
      · dsimp only
        rw [ek, List.drop_of_length_le (Nat.le_refl _), hdt, Nat.pow_succ, hpw, ← er4]
        dsimp only
        rw [numD, Nat.mul_add, Nat.mul_comm pw d, Nat.mul_assoc]; omega
      · dsimp only
        rw [ek, List.drop_of_length_le (Nat.le_refl _), hdt]
        exact es4
    · (rename (c.ve.length : Int) ≠ (vh.length : Int) => q9)
      (rename (d : Int) = _ => q7)
      have ek : c.es.length < here.length := by omega
      have ek2 : c.es.length < there.length := by omega
      have ek3 : c.ve.length < here.length := by omega
      have ek4 : c.ve.length < there.length := by omega
      obtain ⟨hv, hhv⟩ : ∃ hv, here.getD c.es.length 0 = hv := ⟨_, rfl⟩
      obtain ⟨tv, htv⟩ : ∃ tv, there.getD c.es.length 0 = tv := ⟨_, rfl⟩
      have hv4 : hv < 4 := by rw [← hhv]; exact h4 _ (by rw [List.getD_eq_getElem?_getD, List.getElem?_eq_getElem ek]; exact List.getElem_mem _)
      have tv4 : tv < 4 := by rw [← htv]; exact t4 _ (by rw [List.getD_eq_getElem?_getD, List.getElem?_eq_getElem ek2]; exact List.getElem_mem _)
      have hdh : here.drop c.es.length = hv :: here.drop (c.es.length + 1) := by rw [List.drop_eq_getElem_cons ek, ← hhv, List.getD_eq_getElem?_getD, List.getElem?_eq_getElem ek]; rfl
      have hdt : there.drop c.es.length = tv :: there.drop (c.es.length + 1) := by rw [List.drop_eq_getElem_cons ek2, ← htv, List.getD_eq_getElem?_getD, List.getElem?_eq_getElem ek2]; rfl
      have e1 : (List.map Int.ofNat here).getD ((c.ve.length : Int)).toNat 0 = (hv : Int) := by rw [Int.toNat_natCast, hve, getD_cast, hhv]
      have e2 : (List.map Int.ofNat there).getD ((c.ve.length : Int)).toNat 0 = (tv : Int) := by rw [Int.toNat_natCast, hve, getD_cast, htv]
      have e3 : ((d : Int) + (tv : Int) - (hv : Int)).fmod 4 = ((mv4 hv tv d : Nat) : Int) := by rw [← mv4_fmod hv4]; congr 1; omega
      rw [hdh, hdt, wkL] at er4 es4
      have hmv : mv4 hv tv d ≤ 3 := Nat.le_of_lt_succ (Nat.mod_lt _ (by decide))
      (rename Fr _ _ _ _ => F17)
      (rename News _ _ _ _ => N17)
      rw [e1, e2, e3] at F17
      have q8 : d = hv := by rw [e1] at q7; omega
      rw [if_pos q8] at er4 es4
      rw [List.push_toArray] at N17
      obtain ⟨tz9, N18⟩ : ∃ tz9, News _ _ _ ((I, itR ((c.i + 1 : Nat) : Int) ((sz : Int) - ((c.i + 1 : Nat) : Int))) :: (E9, W.listOf (c.ve ++ [Value.int ((c.i + 1 : Nat) : Int) tz9]).toArray (c.ee + 1)) :: (H, W.listOf vh.toArray eh) :: (TT, W.listOf vt.toArray et) :: news) := ⟨_, N17⟩
      obtain ⟨tw1, htw1⟩ := fr_int' (x := ("worth" : Str)) (i := ((c.wv + mv4 hv tv d * pw : Nat) : Int)) F17 ⟨_, rfl⟩
      refine ksw_end ⟨c.i + 1, c.wv + mv4 hv tv d * pw, tw1, c.ve ++ [Value.int ((c.i + 1 : Nat) : Int) tz9], c.ee + 1, c.es ++ [c.i + 1]⟩ (by k_asm) N18 ?hnc trivial ?hkc ?hrc ?hpc ?hmc
      (case hnc => exact fun p hp => hp)
      (case hkc => exact List.forall_mem_cons.mpr ⟨htw1, List.forall_mem_cons.mpr ⟨rfl, List.forall_mem_cons.mpr ⟨rfl, List.forall_mem_cons.mpr ⟨rfl, List.forall_mem_cons.mpr ⟨rfl, fun _ h => nomatch h⟩⟩⟩⟩⟩)
      (case hrc => (intro z h2 h3; simp only [List.forall_mem_cons, List.not_mem_nil, false_implies, implies_true, and_true, ne_eq] at h2; simp only [List.contains_cons, List.contains_nil, Bool.or_false, Bool.or_eq_false_iff, beq_eq_false_iff_ne, ne_eq] at h3; simp [kstB, h2, h3]))
      (case hmc => (dsimp only; omega))
      refine ⟨hlast, by (dsimp only; rw [List.map_append]; exact IntsAre.append ie4 (.cons _ _ .nil)), by (dsimp only; rw [List.length_append, List.length_singleton]; omega), ?_, ?_, ?_⟩
      · dsimp only
        rw [Nat.pow_succ, hpw]
        have : mv4 hv tv d * pw ≤ 3 * pw := Nat.mul_le_mul_right _ hmv
        omega
      · dsimp only
        rw [List.length_append, List.length_singleton, Nat.pow_succ, hpw, ← er4]
        dsimp only
        rw [numD, Nat.mul_add, Nat.mul_comm pw (mv4 hv tv d), Nat.mul_assoc]; omega
      · dsimp only
        rw [List.length_append, List.length_singleton, List.append_assoc, ← es4]; rfl
    · (rename (c.ve.length : Int) ≠ (vh.length : Int) => q9)
      (rename (d : Int) ≠ _ => q7)
      have ek : c.es.length < here.length := by omega
      have ek2 : c.es.length < there.length := by omega
      have ek3 : c.ve.length < here.length := by omega
      have ek4 : c.ve.length < there.length := by omega
      obtain ⟨hv, hhv⟩ : ∃ hv, here.getD c.es.length 0 = hv := ⟨_, rfl⟩
      obtain ⟨tv, htv⟩ : ∃ tv, there.getD c.es.length 0 = tv := ⟨_, rfl⟩
      have hv4 : hv < 4 := by rw [← hhv]; exact h4 _ (by rw [List.getD_eq_getElem?_getD, List.getElem?_eq_getElem ek]; exact List.getElem_mem _)
      have tv4 : tv < 4 := by rw [← htv]; exact t4 _ (by rw [List.getD_eq_getElem?_getD, List.getElem?_eq_getElem ek2]; exact List.getElem_mem _)
      have hdh : here.drop c.es.length = hv :: here.drop (c.es.length + 1) := by rw [List.drop_eq_getElem_cons ek, ← hhv, List.getD_eq_getElem?_getD, List.getElem?_eq_getElem ek]; rfl
      have hdt : there.drop c.es.length = tv :: there.drop (c.es.length + 1) := by rw [List.drop_eq_getElem_cons ek2, ← htv, List.getD_eq_getElem?_getD, List.getElem?_eq_getElem ek2]; rfl
      have e1 : (List.map Int.ofNat here).getD ((c.ve.length : Int)).toNat 0 = (hv : Int) := by rw [Int.toNat_natCast, hve, getD_cast, hhv]
      have e2 : (List.map Int.ofNat there).getD ((c.ve.length : Int)).toNat 0 = (tv : Int) := by rw [Int.toNat_natCast, hve, getD_cast, htv]
      have e3 : ((d : Int) + (tv : Int) - (hv : Int)).fmod 4 = ((mv4 hv tv d : Nat) : Int) := by rw [← mv4_fmod hv4]; congr 1; omega
      rw [hdh, hdt, wkL] at er4 es4
      have hmv : mv4 hv tv d ≤ 3 := Nat.le_of_lt_succ (Nat.mod_lt _ (by decide))
      (rename Fr _ _ _ _ => F17)
      (rename News _ _ _ _ => N17)
      rw [e1, e2, e3] at F17
      have q8 : ¬ d = hv := fun e => q7 (by rw [e1, e])
      rw [if_neg q8] at er4 es4
      obtain ⟨tw1, htw1⟩ := fr_int' (x := ("worth" : Str)) (i := ((c.wv + mv4 hv tv d * pw : Nat) : Int)) F17 ⟨_, rfl⟩
      refine ksw_end ⟨c.i + 1, c.wv + mv4 hv tv d * pw, tw1, c.ve, c.ee, c.es⟩ (by k_asm) N17 ?hnb trivial ?hkb ?hrb ?hpb ?hmb
      (case hnb => exact fun p hp => hp)
      (case hkb => exact List.forall_mem_cons.mpr ⟨htw1, List.forall_mem_cons.mpr ⟨rfl, List.forall_mem_cons.mpr ⟨rfl, List.forall_mem_cons.mpr ⟨rfl, List.forall_mem_cons.mpr ⟨rfl, fun _ h => nomatch h⟩⟩⟩⟩⟩)
      (case hrb => (intro z h2 h3; simp only [List.forall_mem_cons, List.not_mem_nil, false_implies, implies_true, and_true, ne_eq] at h2; simp only [List.contains_cons, List.contains_nil, Bool.or_false, Bool.or_eq_false_iff, beq_eq_false_iff_ne, ne_eq] at h3; simp [kstB, h2, h3]))
      (case hmb => (dsimp only; omega))
      refine ⟨hlast, ie4, kl4, ?_, ?_, ?_⟩
      · dsimp only
        rw [Nat.pow_succ, hpw]
        have : mv4 hv tv d * pw ≤ 3 * pw := Nat.mul_le_mul_right _ hmv
        omega
      · dsimp only
        rw [hdh, hdt, Nat.pow_succ, hpw, ← er4]
        dsimp only
        rw [numD, Nat.mul_add, Nat.mul_comm pw (mv4 hv tv d), Nat.mul_assoc]; omega
      · dsimp only
        rw [hdh, hdt, ← es4]
  · refine' ri_end (n := sz) rfl F4 N4 ?me9 (nx := (E9, W.listOf c.ve.toArray c.ee) :: news) ?sb9 ?ne9 ?_
    (case me9 => (rw [show c.i = sz by omega]; exact .head _))
    (case sb9 => exact List.forall_mem_cons.mpr ⟨.tail _ (.head _), fun p hp => .tail _ (.tail _ (.tail _ (.tail _ hp)))⟩)
    (case ne9 => exact List.forall_mem_cons.mpr ⟨Nat.ne_of_lt lEI, nI⟩)
    intro h20 tk20 F20 N20
    have hrl : row.length = sz := by rw [hrow, digsN_length]
    have ei : c.i = row.length := by omega
    rw [ei, List.drop_of_length_le (Nat.le_refl _)] at er4 es4
    have w0 : ∀ (a b : List Nat) (n : Nat), wkL [] a b n = ([], []) := fun a b n => by cases a <;> cases b <;> rfl
    rw [w0] at er4 es4
    have er5 : c.wv = numD 4 (wkL row here there 0).1 := by rw [← er4]; rfl
    have es5 : c.es = (wkL row here there 0).2 := by rw [← es4, List.append_nil]
    (try dsimp only)
    k_steps
    (rename Fr h₀ _ _ _ => F40)
    (rename News h₀ _ _ _ => N40)
    (rename (∀ p ∈ ((E9, _) :: _ : List (Addr × Obj)), _) => lD)
    rw [← er5, ← es5] at ret
    exact ret _ E9 c.ve c.ee _ _ _ F40 N40 ie4 (fun p hp => Nat.ne_of_lt (lD p (.tail _ hp))) nE
end
section
theorem wkL_nil (a b : List Nat) (n : Nat) : wkL [] a b n = ([], []) := by cases a <;> cases b <;> rfl
theorem wkL_none : ∀ (r : List Nat) (n : Nat), wkL r [] [] n = (r, [])
  | [], _ => rfl
  | d :: r, n => by rw [wkN, wkL_none r (n + 1)]
theorem mv4_self {h t : Nat} (ht : t < 4) : mv4 h t h = t := by unfold mv4; omega
/-- one turn of the loop over the words, against the walk over the figures -/
theorem wk_turn {h t : Nat} (ht : t < 4) (hs ts : List Nat) : ∀ (r : List Nat) (n : Nat),
    wkL r (h :: hs) (t :: ts) n = if h ∈ r then
      ((preL h r).map (mv4 h t) ++ t :: (wkL (postL h r) hs ts (n + (preL h r).length + 1)).1, (n + (preL h r).length + 1) :: (wkL (postL h r) hs ts (n + (preL h r).length + 1)).2)
      else ((preL h r).map (mv4 h t), [])
  | [], n => by rw [wkL_nil]; rfl
  | d :: r, n => by
    rw [wkL, preL, postL]
    by_cases e : d = h
    · rw [if_pos e, if_pos e, if_pos e, if_pos (by rw [e]; exact .head _), e, mv4_self ht]; rfl
    · have ih := wk_turn (h := h) ht hs ts r (n + 1)
      have hm : (h ∈ d :: r) ↔ (h ∈ r) := by rw [List.mem_cons]; exact ⟨fun q => q.resolve_left (fun z => e z.symm), .inr⟩
      rw [if_neg e, if_neg e, if_neg e, ih]
      by_cases hin : h ∈ r
      · rw [if_pos hin, if_pos (hm.mpr hin), List.length_cons, show n + 1 + (preL h r).length + 1 = n + ((preL h r).length + 1) + 1 by omega]; rfl
      · rw [if_neg hin, if_neg (fun q => hin (hm.mp q))]; rfl
theorem post_none {h : Nat} : ∀ {r : List Nat}, h ∉ r → postL h r = []
  | [], _ => rfl
  | d :: r, hn => by
    rw [postL, if_neg (fun e => hn (by rw [e]; exact .head _))]
    exact post_none (fun q => hn (.tail _ q))
theorem movL_nil : ∀ (hs ts acc es : List Nat), movL [] hs ts acc es = ([], acc, es)
  | [], _, _, _ => by unfold movL; rfl
  | h :: hs, [], _, _ => by unfold movL; rfl
  | h :: hs, t :: ts, acc, es => by
    rw [movL, if_neg (fun q => nomatch q)]
    show movL [] hs ts (acc ++ []) es = _
    rw [List.append_nil, movL_nil hs ts]
/-- the loop over the words makes what the walk over the figures tells -/
theorem mov_walk : ∀ (hs ts r acc es : List Nat), (∀ t ∈ ts, t < 4) → hs.length = ts.length →
    (movL r hs ts acc es).2.1 ++ (movL r hs ts acc es).1 = acc ++ (wkL r hs ts acc.length).1 ∧ (movL r hs ts acc es).2.2 = es ++ (wkL r hs ts acc.length).2
  | [], ts, r, acc, es, _, hl => by
    have e : ts = [] := List.length_eq_zero_iff.mp hl.symm
    subst e
    rw [wkL_none]
    exact ⟨by unfold movL; rfl, by unfold movL; simp⟩
  | h :: hs, [], _, _, _, _, hl => by cases hl
  | h :: hs, t :: ts, r, acc, es, h4, hl => by
    have ht := h4 t (.head _)
    rw [movL, wk_turn ht]
    by_cases hin : h ∈ r
    · rw [if_pos hin, if_pos hin]
      obtain ⟨h1, h2⟩ := mov_walk hs ts (postL h r) ((acc ++ (preL h r).map (mv4 h t)) ++ [t]) (es ++ [((acc ++ (preL h r).map (mv4 h t)) ++ [t]).length]) (fun x hx => h4 x (.tail _ hx)) (by simpa using hl)
      have el : ((acc ++ (preL h r).map (mv4 h t)) ++ [t]).length = acc.length + (preL h r).length + 1 := by rw [List.length_append, List.length_append, List.length_map, List.length_singleton]
      rw [h1, h2, el]
      exact ⟨by simp, by simp⟩
    · rw [if_neg hin, if_neg hin, post_none hin, movL_nil]
      exact ⟨by simp, by simp⟩
theorem mv4_lt (h t d : Nat) : mv4 h t d < 4 := Nat.mod_lt _ (by decide)
theorem wkL_lt : ∀ (r hs ts : List Nat) (n : Nat), (∀ d ∈ r, d < 4) → ∀ d ∈ (wkL r hs ts n).1, d < 4
  | [], hs, ts, n, _, d, hd => by rw [wkL_nil] at hd; cases hd
  | x :: r, h :: hs, t :: ts, n, hr, d, hd => by
    rw [wkL] at hd
    have hr' : ∀ d ∈ r, d < 4 := fun y hy => hr y (.tail _ hy)
    by_cases e : x = h
    · rw [if_pos e] at hd
      rcases List.mem_cons.mp hd with rfl | hd
      · exact mv4_lt _ _ _
      · exact wkL_lt r hs ts (n + 1) hr' d hd
    · rw [if_neg e] at hd
      rcases List.mem_cons.mp hd with rfl | hd
      · exact mv4_lt _ _ _
      · exact wkL_lt r (h :: hs) (t :: ts) (n + 1) hr' d hd
  | x :: r, [], ts, n, hr, d, hd => by rw [wkN', wkL_none] at hd; exact hr d hd
  | x :: r, h :: hs, [], n, hr, d, hd => by
    unfold wkL at hd
    rw [wkL_none] at hd
    exact hr d hd
theorem wkL_length : ∀ (r hs ts : List Nat) (n : Nat), (wkL r hs ts n).1.length = r.length
  | [], hs, ts, n => by rw [wkL_nil]
  | x :: r, h :: hs, t :: ts, n => by
    rw [wkL]
    by_cases e : x = h
    · rw [if_pos e, List.length_cons, List.length_cons, wkL_length r hs ts]
    · rw [if_neg e, List.length_cons, List.length_cons, wkL_length r (h :: hs) (t :: ts)]
  | x :: r, [], ts, n => by rw [wkN', wkL_none]
  | x :: r, h :: hs, [], n => by unfold wkL; rw [wkL_none]
theorem mv4_back {h t d : Nat} (hh : h < 4) (ht : t < 4) (hd : d < 4) : mv4 t h (mv4 h t d) = d := by unfold mv4; omega
theorem mv4_hit {h t d : Nat} (hh : h < 4) (ht : t < 4) (hd : d < 4) : mv4 h t d = t ↔ d = h := by unfold mv4; omega
/-- there and back -/
theorem wk_back : ∀ (r hs ts : List Nat) (n : Nat), (∀ d ∈ r, d < 4) → (∀ d ∈ hs, d < 4) → (∀ d ∈ ts, d < 4) → hs.length = ts.length → wkL (wkL r hs ts n).1 ts hs n = (r, (wkL r hs ts n).2)
  | [], hs, ts, n, _, _, _, _ => by rw [wkL_nil, wkL_nil]
  | x :: r, [], ts, n, _, _, _, hl => by
    have e : ts = [] := List.length_eq_zero_iff.mp hl.symm
    subst e
    rw [wkL_none, wkL_none]
  | x :: r, h :: hs, [], n, _, _, _, hl => by cases hl
  | x :: r, h :: hs, t :: ts, n, hr, hh, ht, hl => by
    have hx := hr x (.head _)
    have h1 := hh h (.head _)
    have t1 := ht t (.head _)
    have hr' : ∀ d ∈ r, d < 4 := fun y hy => hr y (.tail _ hy)
    rw [wkL]
    by_cases e : x = h
    · rw [if_pos e]
      dsimp only
      rw [wkL, if_pos ((mv4_hit h1 t1 hx).mpr e), mv4_back h1 t1 hx, wk_back r hs ts (n + 1) hr' (fun y hy => hh y (.tail _ hy)) (fun y hy => ht y (.tail _ hy)) (by simpa using hl)]
    · rw [if_neg e]
      dsimp only
      rw [wkL, if_neg (fun q => e ((mv4_hit h1 t1 hx).mp q)), mv4_back h1 t1 hx, wk_back r (h :: hs) (t :: ts) (n + 1) hr' hh ht hl]
/-- the first figures sought lie within the first front figures just if the front is no shorter than the place of the last -/
theorem wk_late : ∀ (r hs ts : List Nat) (n k f : Nat), hs.length = ts.length → k < hs.length → f ≤ r.length →
    subL (hs.take (k + 1)) (r.take f) = decide (((wkL r hs ts n).2.getD k (n + r.length + 1)) ≤ n + f)
  | [], hs, ts, n, k, f, hl, hk, hf => by
    rw [wkL_nil]
    have e : f = 0 := by simpa using hf
    subst e
    cases hs with
    | nil => cases hk
    | cons h hs => simp [subL]
  | x :: r, [], ts, n, k, f, hl, hk, hf => by cases hk
  | x :: r, h :: hs, [], n, k, f, hl, hk, hf => by cases hl
  | x :: r, h :: hs, t :: ts, n, k, f, hl, hk, hf => by
    rw [wkL]
    cases f with
    | zero =>
      have e2 : ∀ l : List Nat, (∀ y ∈ l, n < y) → ¬ (l.getD k (n + (x :: r).length + 1) ≤ n + 0) := by
        intro l hy
        rw [List.getD_eq_getElem?_getD]
        cases hq : l[k]? with
        | none => simp; omega
        | some v => simp; exact hy v (List.mem_of_getElem? hq)
      have mono : ∀ (r hs ts : List Nat) (n : Nat), ∀ y ∈ (wkL r hs ts n).2, n < y := by
        intro r
        induction r with
        | nil => intro hs ts n y hy; rw [wkL_nil] at hy; cases hy
        | cons d r ih =>
          intro hs ts n y hy
          cases hs with
          | nil => rw [wkN', wkL_none] at hy; cases hy
          | cons h hs =>
            cases ts with
            | nil => unfold wkL at hy; rw [wkL_none] at hy; cases hy
            | cons t ts =>
              rw [wkL] at hy
              by_cases e : d = h
              · rw [if_pos e] at hy
                rcases List.mem_cons.mp hy with rfl | hy
                · omega
                · have := ih hs ts (n + 1) y hy; omega
              · rw [if_neg e] at hy
                have := ih (h :: hs) (t :: ts) (n + 1) y hy; omega
      have m1 := mono (x :: r) (h :: hs) (t :: ts) n
      rw [wkL] at m1
      rw [decide_eq_false (e2 _ m1)]
      rfl
    | succ f =>
      have hf' : f ≤ r.length := by simpa using hf
      rw [List.take_succ_cons, List.take_succ_cons, subL]
      have hl' : hs.length = ts.length := by simpa using hl
      by_cases e : x = h
      · rw [if_pos e, if_pos e.symm]
        dsimp only
        cases k with
        | zero => rw [List.take_zero, subL_nil]; simp
        | succ k =>
          rw [wk_late r hs ts (n + 1) k f hl' (by simpa using hk) hf', List.getD_cons_succ, List.length_cons]
          congr 2
          · congr 1; omega
          · omega
      · rw [if_neg e, if_neg (fun q => e q.symm)]
        dsimp only
        have ih := wk_late r (h :: hs) (t :: ts) (n + 1) k f hl hk hf'
        rw [List.take_succ_cons] at ih
        rw [ih, List.length_cons]
        congr 2
        · congr 1; omega
        · omega
end
section
inductive RowsAre : List Value → List (Addr × Obj) → List (List Bool) → Prop
  | nil : RowsAre [] [] []
  | snoc {vs : List Value} {ls : List (Addr × Obj)} {bs : List (List Bool)} {D : Addr} {us : List Value} {e : Nat} {b : List Bool} (h : RowsAre vs ls bs) (hu : us = b.map Value.bool) : RowsAre (vs ++ [.ref D]) ((D, W.listOf us.toArray e) :: ls) (bs ++ [b])
theorem RowsAre.len {vs : List Value} {ls : List (Addr × Obj)} {bs : List (List Bool)} (h : RowsAre vs ls bs) : vs.length = bs.length := by
  induction h with
  | nil => rfl
  | snoc _ _ ih => rw [List.length_append, List.length_append, ih]; rfl
theorem RowsAre.len2 {vs : List Value} {ls : List (Addr × Obj)} {bs : List (List Bool)} (h : RowsAre vs ls bs) : ls.length = bs.length := by
  induction h with
  | nil => rfl
  | snoc _ _ ih => rw [List.length_append, ← ih, List.length_cons]; rfl
theorem bools_of {n : Nat} {f : Nat → Bool} : ∀ {ys : List Value} (_ : ys.length = n) (_ : ∀ (i : Nat), i < n → ∃ y, ys[i]? = some y ∧ y = Value.bool (f i)), ys = ((List.range n).map f).map Value.bool := by
  intro ys hl hy
  refine List.ext_getElem (by rw [List.length_map, List.length_map, List.length_range, hl]) ?_
  intro i h1 h2
  obtain ⟨y, he, hv⟩ := hy i (by omega)
  rw [List.getElem?_eq_getElem h1] at he
  rw [Option.some.inj he, hv, List.getElem_map, List.getElem_map, List.getElem_range]
structure JuSt where
  i : Nat
  vt : List Value
  et : Nat
  rows : List (Addr × Obj)
  bs : List (List Bool)
  ow : Obj
theorem haltJ {M : Model} {A : Around} {Q E : Value → Shared → Prop} {s : Shared} {f : Nat} {as : List Value} (_ : (f == 124 || f == 112) = true) (h : Halt (wpAny M A (call (.ref f) as) Q E s)) : wpAny M A (call (.ref f) as) Q E s := h
local macro_rules | `(tactic| walk_at "call ref") => `(tactic| refine haltJ (by decide) ?_)
local macro_rules | `(tactic| walk_at "call builtin:len") => `(tactic| with_reducible refine haltLn ?_)
local macro_rules | `(tactic| walk_at "call builtin:str.join") => `(tactic| refine Halt.of ?_)
local macro_rules | `(tactic| walk_at "exec For Name Call cons nil") => `(tactic| refine Halt.of ?_)
local macro_rules | `(tactic| walk_at "CompSrc") => `(tactic| refine Halt.of ?_)
local macro_rules | `(tactic| walk_at "pyIter ref") => `(tactic| refine Halt.of ?_)
local macro_rules | `(tactic| walk_at "eval ListComp") => `(tactic| refine Halt.of ?_)
local macro_rules | `(tactic| walk_at "subscriptTail Name Slice ref ref") => `(tactic| refine Halt.of ?_)
theorem jud_spec {w : World} {mg mb : Str → Option Value} {p : Program} {loose : List Str} {mean : ExcName → Option Value} {dp un : Nat} {gd : Option (List Code)} {cn : Str} {cs : Scope} {a : Addr} {ccd : Value} {cl : List (Str × Addr)} {outer : List Env} {A₀ : Around} {base h₀ : Heap} {L : Addr} {m : Str → Option Value} {s : Shared} {Q E : Value → Shared → Prop} {R K9 : Addr} {vr vk : List Value} {er eK : Nat} {row hs : List Nat} {news : List (Addr × Obj)}
  (B : Below A₀ base outer h₀) (F : Fr h₀ L s.heap m) (X : (hd1.heap_39 w.params).In h₀) (N : News h₀ L s.heap news) (T : Top p loose mean mg mb h₀) (hk : cs.kind = .function) (hd : dp + 150 < recursionLimit) (hu : un + 1200 < cLine)
  (hmR : (R, W.listOf vr.toArray er) ∈ news) (hmK : (K9, W.listOf vk.toArray eK) ∈ news) (iR : IntsAre vr (row.map Int.ofNat)) (iK : IntsAre vk (hs.map Int.ofNat)) (r4 : ∀ d ∈ row, d < 4) (k4 : ∀ d ∈ hs, d < 4) (rl : row.length ≤ 10) (kl : hs.length ≤ 10)
  (ret : ∀ (Tb : Addr) (vt : List Value) (et : Nat) (rows : List (Addr × Obj)) (bs : List (List Bool)) (h' : Heap) (tk' : Nat), Fr h₀ L h' m → News h₀ L h' ((Tb, W.listOf vt.toArray et) :: (rows ++ news)) → RowsAre vt rows bs → bs = ((List.range hs.length).map fun k => (List.range (row.length + 1)).map fun f => subL ((hs.take (k + 1)).map cd) ((row.take f).map cd)) → Q (.ref Tb) { s with heap := h', toks := tk' }) :
  wpAny (model PySem.Challenge.pw_pg0212_02 w) (ktrTop dp un gd cn cs L a ccd cl outer) (call (.ref 141) [.ref R, .ref K9]) Q E s := by
  refine wpAny_call ?_
  k_dflt (first
  | cell_enter
  | (refine' code_def ?k1 ?k2 ?k3 ?k4 ?k5 ?kA ?kF ?kK ?k6 ?k7 ?k8 ?k9 ?kB ?_ ?c2 ?c3 ?c4 ?c5; (case kA => exact rfl); (case kF => exact rfl); (case kK => first | assumption | exact rfl); (case k1 => k_asm); (case k2 => k_asm); (case k3 => k_asm); (case k4 => k_asm); (case k5 => k_asm); (case k6 => k_is); (case k7 => k_is); (case k8 => ktr_room); (case k9 => first | exact BindsTo.of_eq rfl | exact binds_K (by k_in) rfl (by k_is) rfl rfl rfl | fail "k_enter: no rule for these arguments"); (case c5 => decide); (case kB => exact locs rfl); (case c2 => exact rfl); (case c3 => exact rfl); (case c4 => exact rfl); k_whole; intro g' L' h' FG' F' N' B' X' T'; (try dsimp only); (try k_lift B'); (try k_fold))
  | (refine' code_defC ?k1 ?k2 ?k3 ?k4 ?k5 ?kA ?kF ?kK ?k6 ?k7 ?k8 ?k9 ?kB ?kD ?_ ?c2 ?c3 ?c4; (case kA => exact rfl); (case kF => exact rfl); (case kK => first | assumption | exact rfl); (case k1 => k_asm); (case k2 => k_asm); (case k3 => k_asm); (case k4 => k_asm); (case k5 => k_asm); (case k6 => k_is); (case k7 => k_is); (case k8 => ktr_room); (case k9 => first | exact BindsTo.of_eq rfl | exact binds_K (by k_in) rfl (by k_is) rfl rfl rfl | fail "k_enter: no rule for these arguments"); (case kB => exact rfl); (case kD => decide +kernel); (case c2 => exact rfl); (case c3 => exact rfl); (case c4 => exact rfl); k_whole; intro g9 L9 h9 tk9 cells9 FG9 F9 N9 Y9 B9 X9 T9 l9; (try k_lt l9); k_cells Y9; (try simp only [List.cons_append, List.nil_append] at N9); (try dsimp only); (try k_lift B9); (try k_fold)))
  rename_i ow9 ot9 dw9 dt9
  have hw9 : ow9.data = .cell none := dw9
  have ht9 : ot9.data = .cell none := dt9
  clear dw9 dt9
  have hr9 : ∀ p ∈ news, @LT.lt Nat _ p.1 L9 := l9
  k_steps
  unfold Halt
  refine' let_spec (R := R) (vs := vr) (ep := er) (ds := row) ?B1 ?F1 ?X1 ?N1 ?T1 ?hk1 ?hd1 ?hu1 ?hm1 iR r4 (by omega) ?_
  (case B1 => k_asm)
  (case F1 => k_asm)
  (case X1 => k_asm)
  (case N1 => k_asm)
  (case T1 => k_asm)
  (case hk1 => exact rfl)
  (case hd1 => (simp only [recursionLimit] at *; omega))
  (case hu1 => (simp only [cLine_is] at *; omega))
  (case hm1 => exact .tail _ (.tail _ hmR))
  intro D2 ws ep2 h2 tk2 F2 N2 sw nD2
  have n21 : @Ne Nat (L9 + 1) D2 := nD2 (L9 + 1, ot9) (by k_mem)
  have n22 : @Ne Nat (L9 + 1 + 1) D2 := nD2 (L9 + 1 + 1, ow9) (by k_mem)
  have n23 : ∀ p ∈ news, p.1 ≠ D2 := fun p hp => nD2 p (.tail _ (.tail _ hp))
  clear nD2
  have hwl : ws.length = row.length := by rw [StrsAre.length sw, List.length_map, List.length_range]
  (try dsimp only)
  k_steps
  unfold Halt
  have hsum : (((List.range row.length).map fun i => lt4 (row.getD i 0)).map (·.length)).sum + ((List.range row.length).map fun i => lt4 (row.getD i 0)).length * ("" : Str).length ≤ 100000 := by
    have h1 := sum_le (B := 1) ((List.range row.length).map fun i => lt4 (row.getD i 0)) (fun u hu => by
      obtain ⟨i, _, rfl⟩ := List.mem_map.mp hu
      exact Nat.le_refl 1)
    rw [List.length_map, List.length_range] at h1
    rw [List.length_map, List.length_range, show ("" : Str).length = 0 from rfl]; omega
  refine' join_S (D := D2) (vs := ws) ?Nf ?mf sw hsum ?_
  (case Nf => k_asm)
  (case mf => k_mem)
  intro t14 k14
  obtain ⟨Wd, hWd⟩ : ∃ Wd, Txt.join ("" : Str) ((List.range row.length).map fun i => lt4 (row.getD i 0)) = Wd := ⟨_, rfl⟩
  rw [hWd]
  have hWl : Wd.cps.toList = row.map cd := by rw [← hWd, lt_text]
  have hWn : Wd.length = row.length := by rw [length_toList, hWl, List.length_map]
  k_steps
  unfold Halt
  refine' let_spec (R := K9) (vs := vk) (ep := eK) (ds := hs) ?B2 ?F2 ?X2 ?N2 ?T2 ?hk2 ?hd2 ?hu2 ?hm2 iK k4 (by omega) ?_
  (case B2 => k_asm)
  (case F2 => k_asm)
  (case X2 => k_asm)
  (case N2 => k_asm)
  (case T2 => k_asm)
  (case hk2 => exact rfl)
  (case hd2 => (simp only [recursionLimit] at *; omega))
  (case hu2 => (simp only [cLine_is] at *; omega))
  (case hm2 => exact .tail _ (.tail _ (.tail _ hmK)))
  intro D3 wk ep3 h3 tk3 F3 N3 sk nD3
  have n31 : @Ne Nat (L9 + 1) D3 := nD3 (L9 + 1, _) (by k_mem)
  have n32 : @Ne Nat (L9 + 1 + 1) D3 := nD3 (L9 + 1 + 1, _) (by k_mem)
  have n33 : ∀ p ∈ news, p.1 ≠ D3 := fun p hp => nD3 p (.tail _ (.tail _ (.tail _ hp)))
  clear nD3
  have hkl : wk.length = hs.length := by rw [StrsAre.length sk, List.length_map, List.length_range]
  (try dsimp only)
  k_steps
  unfold Halt
  refine wpAny_For ?_
  k_steps
  unfold Halt
  refine' len_L (D := D3) (vs := wk) ?Nl0 ?ml0 ?fl0 ?_
  (case Nl0 => k_asm)
  (case ml0 => k_mem)
  (case fl0 => omega)
  k_steps
  unfold Halt
  rename_i otx dtx _ _ _ _ _ Tb _ aT lT _ _ _ _ _ _ _ _ _ _ _ _
  refine' ra_make (a := 1) (n := wk.length) ?Fr1 ?Nr1 ?hr1 (by decide) (by decide) ?hb1 ?hn1 ?_
  (case Fr1 => k_asm)
  (case Nr1 => k_asm)
  (case hr1 => assumption)
  (case hb1 => omega)
  (case hn1 => omega)
  intro I h7 F7 N7 lt7
  have nTb : ∀ p ∈ news, p.1 ≠ Tb := fun p hp => Nat.ne_of_lt (aT p (.tail _ (.tail _ (.tail _ (.tail _ hp)))))
  have nI : ∀ p ∈ news, p.1 ≠ I := fun p hp => Nat.ne_of_lt (lt7 p (.tail _ (.tail _ (.tail _ (.tail _ (.tail _ hp))))))
  have lTI : @LT.lt Nat _ Tb I := lt7 (Tb, _) (.head _)
  clear aT lt7
  (try dsimp only)
  refine' forI (L := _) (fun c : JuSt => (I, itR (1 + (c.i : Nat)) ((wk.length : Int) - (c.i : Nat))) :: (Tb, W.listOf c.vt.toArray c.et) :: (D3, W.listOf wk.toArray ep3) :: (L9 + 1 + 1, c.ow) :: (L9 + 1, otx) :: (c.rows ++ news)) (fun _ => [("letters", .ref D3), ("table", .ref Tb)]) ["k"]
    (fun c => c.i ≤ hs.length ∧ RowsAre c.vt c.rows c.bs ∧ (∃ v, c.ow.data = .cell v) ∧ (∀ p ∈ c.rows, p.1 ≠ I ∧ p.1 ≠ Tb ∧ p.1 ≠ L9 + 1 + 1 ∧ p.1 ≠ L9 + 1) ∧ c.bs = (List.range c.i).map fun k => (List.range (row.length + 1)).map fun f => subL ((hs.take (k + 1)).map cd) ((row.take f).map cd))
    (fun c => hs.length - c.i) ⟨0, [], 0, [], [], ow9⟩ ?F9 ?N9 ?hk9 ?hr9 ?hp9 ?turn9
  (case F9 => exact F7)
  (case N9 => exact (by rw [show ((wk.length : Int) - ((0 : Nat) : Int)) = (wk.length : Int) by omega]; exact cb_drop N7 (List.forall_mem_cons.mpr ⟨.head _, List.forall_mem_cons.mpr ⟨by k_mem, List.forall_mem_cons.mpr ⟨by k_mem, List.forall_mem_cons.mpr ⟨by k_mem, List.forall_mem_cons.mpr ⟨by k_mem, fun p hp => by (repeat (first | exact hp | refine List.Mem.tail _ ?_))⟩⟩⟩⟩⟩)))
  (case hk9 => exact List.forall_mem_cons.mpr ⟨rfl, List.forall_mem_cons.mpr ⟨rfl, fun _ h => nomatch h⟩⟩)
  (case hr9 => exact fun z _ _ => rfl)
  (case hp9 => exact ⟨Nat.zero_le _, .nil, ⟨_, hw9⟩, (fun p (hp : p ∈ ([] : List (Addr × Obj))) => nomatch hp), rfl⟩)
  intro c u h4' tk4 P4 F4 N4
  obtain ⟨hi4, ra4, ⟨cv4, ow4⟩, rn4, bs4⟩ := P4
  have cI : ∀ p ∈ c.rows ++ news, p.1 ≠ I := List.forall_mem_append.mpr ⟨fun p hp => (rn4 p hp).1, nI⟩
  have cT : ∀ p ∈ c.rows ++ news, p.1 ≠ Tb := List.forall_mem_append.mpr ⟨fun p hp => (rn4 p hp).2.1, nTb⟩
  have cW : ∀ p ∈ c.rows ++ news, p.1 ≠ L9 + 1 + 1 := List.forall_mem_append.mpr ⟨fun p hp => (rn4 p hp).2.2.1, fun p hp => by have := hr9 p hp; refine neN ?_; omega⟩
  by_cases hlast : c.i < hs.length
  · refine' ra_item (n := wk.length) (i := c.i) (a := 1) rfl F4 N4 ?U5 (by omega) ?_
    (case U5 => k_updF)
    intro h5 tk5 t5 F5 N5
    (try dsimp only at N5 ⊢)
    k_steps
    unfold Halt
    (rename Fr _ _ _ _ => F6)
    (rename News _ _ _ _ => N6)
    refine' kmk_slice (l := D3) (its := wk.toArray) (lo := none) (hi := some (1 + (c.i : Int))) F6 N6 ?ls5 ?pl5 ?pu5 ?_ ?hs5 ?ht5 ?hz5
    case ls5 => exact News.isList N6 (by k_mem)
    case pl5 => kmk_part
    case pu5 => kmk_part
    case hs5 => with_unfolding_all rfl
    case ht5 => intro _; rfl
    case hz5 => (rw [List.size_toArray, PySem.sizeLine_eq]; omega)
    intro D5 h6 F8 N8 l6
    rw [show (1 + (c.i : Int)) = ((c.i + 1 : Nat) : Int) by omega, pick_take wk (c.i + 1) (by omega)] at N8
    have sk5 := StrsAre.take' (c.i + 1) sk
    rw [sgs_lt] at sk5
    obtain ⟨cl, hcl⟩ : ∃ cl, (hs.take (c.i + 1)).map cd = cl := ⟨_, rfl⟩
    have hcll : cl.length = c.i + 1 := by rw [← hcl, List.length_map, List.length_take]; omega
    have hclne : cl ≠ [] := fun e => by rw [e] at hcll; cases hcll
    have hno : ∀ x ∈ cl, x ≠ 46 := by
      rw [← hcl]; intro x hx
      obtain ⟨d, hd, rfl⟩ := List.mem_map.mp hx
      have := k4 d (List.mem_of_mem_take hd)
      rcases four this with rfl | rfl | rfl | rfl <;> decide
    have esg : (sgs (hs.map cd)).take (c.i + 1) = sgs cl := by rw [← hcl, sgs, sgs, List.map_take, List.map_take]
    rw [esg] at sk5
    have hsum5 : ((sgs cl).map (·.length)).sum + (sgs cl).length * ("..." : Str).length ≤ 100000 := by
      have h1 := sum_le (B := 1) (sgs cl) (fun u hu => by
        obtain ⟨x, _, rfl⟩ := List.mem_map.mp hu
        exact Nat.le_refl 1)
      have h2 : (sgs cl).length = cl.length := List.length_map ..
      rw [h2] at h1 ⊢
      rw [show ("..." : Str).length = 3 by decide]; omega
    (try dsimp only)
    k_steps
    unfold Halt
    refine' join_S (D := D5) (vs := wk.take (c.i + 1)) ?Nj5 ?mj5 sk5 hsum5 ?_
    (case Nj5 => k_asm)
    (case mj5 => k_mem)
    intro t6 k6
    obtain ⟨J, hJ⟩ : ∃ J, Txt.join dots (sgs cl) = J := ⟨_, rfl⟩
    have hX : ((dots ++ J) ++ dots).cps.toList = glueL cl := by rw [← hJ]; exact glue_text hclne
    have hXl : ((dots ++ J) ++ dots).length = 4 * cl.length + 3 := by rw [length_toList, hX, glueL_length]
    have hA2 : (dots ++ J).length + dots.length ≤ 16777216 := by rw [← Str.length_append, hXl]; omega
    have hA1 : dots.length + J.length ≤ 16777216 := by rw [← Str.length_append]; omega
    have hA3 : (dots ++ J).length ≤ 16777216 := by omega
    have hA4 : ((dots ++ J) ++ dots).length ≤ 16777216 := by omega
    rw [show Txt.join (Str.ofString "...") (sgs cl) = J from hJ]
    k_steps
    unfold Halt
    k_dflt (refine' LCg.ListComp_U ?Fd (by with_unfolding_all rfl) (by decide) (by rfl) (by decide) (by rfl) ?_)
    (case Fd => k_asm)
    k_steps
    unfold Halt
    refine' LCg.CompSrc.range (n := row.length + 1) rfl ?Fe ?Ne ?re ?sme ?rse ?sze ?_
    (case Fe => k_asm)
    (case Ne => k_asm)
    (case re => assumption)
    (case sme => exact small_range (by omega) (by omega))
    (case rse => rw [rangeSize_nat]; omega)
    (case sze => exact fits4000' (by omega))
    intro g13
    refine' cr_rest (fun f y => y = Value.bool (subL cl ((row.take f).map cd))) ?turn2 ?fin2
    case turn2 =>
      intro i v I10 oI10 C10 oC10 D10 m10 ys10 h10 tk10 E10 hi10 hP10 hC10 hx10 F10 N10 off10 ne10
      obtain ⟨tk0, rfl⟩ := hP10
      k_steps
      unfold Halt
      have hGl : (Txt.slice Wd none (some ((0 : Int) + (i : Int)))).cps.toList = (row.take i).map cd := by
        rw [Int.zero_add, slice_to (by omega), hWl, List.map_take]
      refine' em_spec (Wn := (dots ++ J) ++ dots) (G := Txt.slice Wd none (some ((0 : Int) + (i : Int)))) (mid := sgs cl) ?Be ?Fe2 ?Xe ?Ne2 ?Te ?hke ?hde ?hue ?hWe ?hie ?hGe ?hse ?hme ?hm1e ?rete
      (case Be => k_asm)
      (case Fe2 => k_asm)
      (case Xe => k_asm)
      (case Ne2 => k_asm)
      (case Te => k_asm)
      (case hke => exact rfl)
      (case hde => (simp only [recursionLimit] at *; omega))
      (case hue => (simp only [cLine_is] at *; omega))
      (case hWe => omega)
      (case hie => exact has_glue hX hno)
      (case hGe => (rw [length_toList, hGl, List.length_map, List.length_take]; omega))
      (case hse => exact split_glue hX hno)
      (case hme => (show (sgs cl).length ≤ 4000; rw [sgs, List.length_map]; omega))
      (case hm1e => (intro x hx; obtain ⟨z, _, rfl⟩ := List.mem_map.mp hx; exact Nat.le_of_ble_eq_true rfl))
      intro h9 tk9 F9 N9
      (try dsimp only)
      refine LCg.CompEnd.intro (by k_asm) (by k_asm) _ (fun _ h => h) off10 trivial ?_
      exact ⟨rfl, by rw [emScan_all, hGl]⟩
    case fin2 =>
      intro ys13 hl13 hy13 D13 h13 tk13 F13 N13 of13
      rename_i ow6 _ _ dw6 _ _ _ _ _ _ _ _ _
      have d13 : ∀ p ∈ c.rows ++ news, p.1 ≠ D13 := fun p hp => off1_mem of13 p (by repeat (first | exact hp | refine List.Mem.tail _ ?_))
      have n13T : @Ne Nat D13 Tb := (off1_mem of13 (Tb, _) (by k_mem)).symm
      have n13I : @Ne Nat D13 I := (off1_mem of13 (I, _) (by k_mem)).symm
      have n13W : @Ne Nat D13 (L9 + 1 + 1) := (off1_mem of13 (L9 + 1 + 1, _) (by k_mem)).symm
      have n13X : @Ne Nat D13 (L9 + 1) := (off1_mem of13 (L9 + 1, _) (by k_mem)).symm
      have n13D : @Ne Nat D13 D3 := (off1_mem of13 (D3, _) (by k_mem)).symm
      have vtl : c.vt.length = c.i := by rw [RowsAre.len ra4, bs4, List.length_map, List.length_range]
      have vsz : c.vt.toArray.size ≤ 10 := by rw [List.size_toArray]; omega
      have N14 := cb_drop N13 (List.forall_mem_cons.mpr ⟨.head _, List.forall_mem_cons.mpr ⟨.tail _ (.tail _ (.head _)), List.forall_mem_cons.mpr ⟨.tail _ (.tail _ (.tail _ (.head _))), fun p hp => .tail _ (.tail _ (.tail _ (.tail _ hp)))⟩⟩⟩)
      clear N13
      have hyb : ys13 = ((List.range (row.length + 1)).map fun f => subL ((hs.take (c.i + 1)).map cd) ((row.take f).map cd)).map Value.bool := bools_of hl13 (fun i h => by rw [hcl]; exact hy13 i h)
      have rsn := RowsAre.snoc (D := D13) (us := ys13) (e := ys13.length) (b := (List.range (row.length + 1)).map fun f => subL ((hs.take (c.i + 1)).map cd) ((row.take f).map cd)) ra4 hyb
      k_steps
      (rename Fr _ _ _ _ => F15)
      (rename News _ _ _ _ => N15)
      rw [List.push_toArray, show LCg.lst ys13 = W.listOf ys13.toArray ys13.length from rfl] at N15
      refine ksw_end ⟨c.i + 1, c.vt ++ [.ref D13], c.et + 1, (D13, W.listOf ys13.toArray ys13.length) :: c.rows, c.bs ++ [(List.range (row.length + 1)).map fun f => subL ((hs.take (c.i + 1)).map cd) ((row.take f).map cd)], ow6⟩ (by k_asm) N15 ?hna trivial ?hka ?hra ?hpa ?hma
      (case hna => exact List.forall_mem_cons.mpr ⟨.tail _ (.head _), List.forall_mem_cons.mpr ⟨.tail _ (.tail _ (.head _)), List.forall_mem_cons.mpr ⟨.tail _ (.tail _ (.tail _ (.head _))), List.forall_mem_cons.mpr ⟨.tail _ (.tail _ (.tail _ (.tail _ (.head _)))), List.forall_mem_cons.mpr ⟨.tail _ (.tail _ (.tail _ (.tail _ (.tail _ (.head _))))), List.forall_mem_cons.mpr ⟨.head _, fun p hp => .tail _ (.tail _ (.tail _ (.tail _ (.tail _ (.tail _ hp)))))⟩⟩⟩⟩⟩⟩)
      (case hka => exact List.forall_mem_cons.mpr ⟨rfl, List.forall_mem_cons.mpr ⟨rfl, fun _ h => nomatch h⟩⟩)
      (case hra => (intro z h2 h3; simp only [List.forall_mem_cons, List.not_mem_nil, false_implies, implies_true, and_true, ne_eq] at h2; simp only [List.contains_cons, List.contains_nil, Bool.or_false, Bool.or_eq_false_iff, beq_eq_false_iff_ne, ne_eq] at h3; simp [kstB, h2, h3]))
      (case hma => (dsimp only; omega))
      exact ⟨hlast, rsn, ⟨_, dw6⟩, List.forall_mem_cons.mpr ⟨⟨n13I, n13T, n13W, n13X⟩, rn4⟩, by dsimp only; rw [bs4, show List.range (c.i + 1) = List.range c.i ++ [c.i] from List.range_succ, List.map_append]; rfl⟩
  · refine' ra_end (n := wk.length) (a := 1) rfl F4 N4 ?me9 (nx := (Tb, W.listOf c.vt.toArray c.et) :: (c.rows ++ news)) ?sb9 ?ne9 ?_
    (case me9 => (rw [show c.i = wk.length by omega]; exact .head _))
    (case sb9 => exact List.forall_mem_cons.mpr ⟨.tail _ (.head _), fun p hp => .tail _ (.tail _ (.tail _ (.tail _ (.tail _ hp))))⟩)
    (case ne9 => exact List.forall_mem_cons.mpr ⟨Nat.ne_of_lt lTI, cI⟩)
    intro h20 tk20 F20 N20
    have ei : c.i = hs.length := by omega
    rw [ei] at bs4
    (try dsimp only)
    k_steps
    (rename Fr h₀ _ _ _ => F40)
    (rename News h₀ _ _ _ => N40)
    exact ret Tb c.vt c.et c.rows c.bs _ _ F40 N40 ra4 bs4
end
section
def boolD (b : List Bool) : PyData := .list (b.map PyData.bool)
def tabD (bs : List (List Bool)) : PyData := .list (bs.map boolD)
theorem readsAll_app {h : Heap} : ∀ {vs ws : List Value} {ds es : List PyData} {as bs : List Addr}, ReadsAll h vs ds as → ReadsAll h ws es bs → ReadsAll h (vs ++ ws) (ds ++ es) (as ++ bs)
  | _, _, _, _, _, _, .nil, r => r
  | _, _, _, _, _, _, .cons x t, r => by
    simp only [List.cons_append, List.append_assoc]
    exact .cons x (readsAll_app t r)
theorem bools_reads (h : Heap) : ∀ b : List Bool, ReadsAll h (b.map Value.bool) (b.map PyData.bool) []
  | [] => .nil
  | x :: r => .cons (as := []) (.bool x) (bools_reads h r)
theorem rows_reads {h : Heap} {vs : List Value} {rows : List (Addr × Obj)} {bs : List (List Bool)} (r : RowsAre vs rows bs) : (∀ p ∈ rows, h.get? p.1 = some p.2) → ∃ as, ReadsAll h vs (bs.map boolD) as := by
  induction r with
  | nil => exact fun _ => ⟨_, .nil⟩
  | @snoc vs ls bs D us e b r hu ih =>
    intro hp
    obtain ⟨as, ra⟩ := ih (fun p q => hp p (.tail _ q))
    rw [List.map_append]
    have r1 : ReadsAll h us (b.map PyData.bool) [] := by rw [hu]; exact bools_reads h b
    exact ⟨_, readsAll_app ra (.cons (.list (hp _ (.head _)) rfl rfl r1) .nil)⟩
theorem rows_read {h₀ h : Heap} {L T : Addr} {vs : List Value} {e : Nat} {news rows : List (Addr × Obj)} {bs : List (List Bool)} (N : News h₀ L h news) (hm : (T, W.listOf vs.toArray e) ∈ news) (hs : ∀ p ∈ rows, p ∈ news) (r : RowsAre vs rows bs) : ∃ as, Reads h (.ref T) (tabD bs) as := by
  obtain ⟨as, ra⟩ := rows_reads r (fun p q => (N _ (hs p q)).1)
  exact ⟨_, .list (N _ hm).1 rfl rfl ra⟩
theorem boolD_lay : ∀ b : List Bool, PyData.canLayAll0 (b.map PyData.bool) = true
  | [] => rfl
  | _ :: r => by simp [PyData.canLayAll0, PyData.canLay0, boolD_lay r]
theorem boolD_dep : ∀ b : List Bool, PyData.depthAll (b.map PyData.bool) = 0
  | [] => rfl
  | _ :: r => by simp [PyData.depthAll, PyData.depth, boolD_dep r]
theorem tabD_lay : ∀ bs : List (List Bool), PyData.canLayAll0 (bs.map boolD) = true
  | [] => rfl
  | b :: r => by simp [PyData.canLayAll0, PyData.canLay0, boolD, boolD_lay b]; exact tabD_lay r
theorem tabD_dep : ∀ bs : List (List Bool), PyData.depthAll (bs.map boolD) ≤ 1
  | [] => Nat.zero_le _
  | b :: r => by
    have h := tabD_dep r
    have h2 : PyData.depth (boolD b) ≤ 1 := by rw [boolD, PyData.depth, boolD_dep]; omega
    rw [List.map_cons, PyData.depthAll]; omega
theorem tabD_shaped (bs : List (List Bool)) : PySem.SeqAt.shaped (tabD bs) = true := by
  have h := tabD_dep bs
  have h1 : PyData.canLay0 (tabD bs) = true := by rw [tabD, PyData.canLay0]; exact tabD_lay bs
  have h2 : PyData.depth (tabD bs) ≤ 64 := by rw [tabD, PyData.depth]; omega
  rw [PySem.SeqAt.shaped, h1, Bool.true_and]; exact decide_eq_true h2
theorem tabD_refl (bs : List (List Bool)) : PyData.eqv (tabD bs) (tabD bs) = true := PySem.SeqAt.eqv_refl _ (by rw [tabD, PyData.canLay0]; exact tabD_lay bs)
theorem eq_tabs {prog : Program} {w : World} {A : Around} {E : Value → Shared → Prop} {s : Shared} {h₀ : Heap} {L T U : Addr} {vs us : List Value} {e f : Nat} {news rows rows' : List (Addr × Obj)} {bs : List (List Bool)} {Q : Value → Shared → Prop} (N : News h₀ L s.heap news) (hm : (T, W.listOf vs.toArray e) ∈ news) (hs : ∀ p ∈ rows, p ∈ news) (r : RowsAre vs rows bs)
    (hm2 : (U, W.listOf us.toArray f) ∈ news) (hs2 : ∀ p ∈ rows', p ∈ news) (r2 : RowsAre us rows' bs) (hu : A.units + 64 < cLine) (h : Q (.bool true) s) : wpAny (model prog w) A (compareOp .Eq (.ref T) (.ref U)) Q E s := by
  obtain ⟨as, ra⟩ := rows_read N hm hs r
  obtain ⟨as2, ra2⟩ := rows_read N hm2 hs2 r2
  exact eq_dataH ra ra2 (tabD_shaped _) (tabD_shaped _) hu (by rw [tabD_refl]; exact h)
end
section
def lawEnd (p : Program) : Option (List Stmt × Scope) :=
  match (p.main.body[(20 : Nat)]? : Option Stmt) with
  | some (.FunctionDef _ _ (_ :: _ :: _ :: _ :: _ :: _ :: _ :: _ :: _ :: _ :: _ :: _ :: b) _ _ _ sc _ _ _) => some (b, sc)
  | _ => none
def lateL (es : List Nat) (mn sz : Nat) : List Nat := es ++ List.replicate (mn - es.length) (sz + 1)
def dueL (late : List Nat) (sz : Nat) : List (List Bool) := late.map fun p => (List.range (sz + 1)).map fun f => decide (p ≤ f)
theorem haltK {M : Model} {A : Around} {Q E : Value → Shared → Prop} {s : Shared} {f : Nat} {as : List Value} (_ : (f == 129 || f == 91 || f == 136 || f == 119 || f == 141) = true) (h : Halt (wpAny M A (call (.ref f) as) Q E s)) : wpAny M A (call (.ref f) as) Q E s := h
theorem due_take {l : List Nat} {sz i : Nat} (hi : i < l.length) : (dueL l sz).take (i + 1) = (dueL l sz).take i ++ [(List.range (sz + 1)).map fun f => decide (l.getD i 0 ≤ f)] := by
  have h2 : i < (dueL l sz).length := by rw [dueL, List.length_map]; exact hi
  rw [List.take_succ_eq_append_getElem h2]
  congr 1
  simp only [dueL, List.getElem_map, List.getD_eq_getElem?_getD, List.getElem?_eq_getElem hi, Option.getD_some]
theorem due_all {l : List Nat} {sz : Nat} : (dueL l sz).take l.length = dueL l sz := by
  rw [List.take_of_length_le]; rw [dueL, List.length_map]; exact Nat.le_refl _
local macro_rules | `(tactic| walk_at "call ref") => `(tactic| refine haltK (by decide) ?_)
local macro_rules | `(tactic| walk_at "call builtin:len") => `(tactic| (k_here; k_dflt (refine' len_L ?N ?m ?f ?_; (case N => k_asm); (case m => k_mem); (case f => omega); k_whole)))
local macro_rules | `(tactic| walk_at "eval ListComp") => `(tactic| refine Halt.of ?_)
local macro_rules | `(tactic| walk_at "CompSrc") => `(tactic| refine Halt.of ?_)
local macro_rules | `(tactic| walk_at "exec Assign cons ListComp") => `(tactic| refine Halt.of ?_)
local macro_rules | `(tactic| walk_at "SrcC") => `(tactic| refine Halt.of ?_)
local macro_rules | `(tactic| walk_at "binaryOp Mult ref int") => `(tactic| refine Halt.of ?_)
local macro_rules | `(tactic| walk_at "binaryOp Add ref ref") => `(tactic| refine Halt.of ?_)
local macro_rules | `(tactic| walk_at "compareOp Eq ref ref") => `(tactic| refine Halt.of ?_)
set_option maxHeartbeats 4000000 in
theorem law_end {w : World} {mg mb : Str → Option Value} {p : Program} {loose : List Str} {mean : ExcName → Option Value} {dp un : Nat} {gd : Option (List Code)} {cn : Str} {cs : Scope} {a : Addr} {ccd : Value} {cl : List (Str × Addr)} {outer : List Env} {A₀ : Around} {base h₀ : Heap} {L : Addr} {m : Str → Option Value} {s : Shared} {Q : Flow → Shared → Prop} {E : Value → Shared → Prop} {R H TT TW E9 cS : Addr} {vr vh vt vw ve : List Value} {er eh et ew ee : Nat} {oz : Obj} {sz mn : Nat} {tz tm : Tok} {row here there twin es : List Nat} {p1 p2 p3 : Array Value} {bd9 : List Stmt}
  (B : Below A₀ base outer h₀) (F : Fr h₀ L s.heap m) (X : (hd1.heap_39 w.params).In h₀) (N : News h₀ L s.heap ((cS, oz) :: (E9, W.listOf ve.toArray ee) :: (R, W.listOf vr.toArray er) :: (TW, W.listOf vw.toArray ew) :: (H, W.listOf vh.toArray eh) :: (TT, W.listOf vt.toArray et) :: (126, tabObj p1) :: (86, tabObj p2) :: (79, tabObj p3) :: [])) (T : Top p loose mean mg mb h₀) (hk : cs.kind = .function) (hd : dp + 260 < recursionLimit) (hu : un + 2400 < cLine)
  (hb9 : lawEnd PySem.Challenge.pw_pg0212_02 = some (bd9, cs)) (hcl : cl = [(("size" : Str), cS)]) (hoz : oz.data = .cell (some (.int (sz : Int) tz)))
  (hm1 : m ("many" : Str) = some (.int (mn : Int) tm)) (hm2 : m ("here" : Str) = some (.ref H)) (hm3 : m ("there" : Str) = some (.ref TT)) (hm4 : m ("row" : Str) = some (.ref R)) (hm5 : m ("ends" : Str) = some (.ref E9)) (hm6 : m ("twin" : Str) = some (.ref TW))
  (iR : IntsAre vr (row.map Int.ofNat)) (iW : IntsAre vw (twin.map Int.ofNat)) (iH : IntsAre vh (here.map Int.ofNat)) (iT : IntsAre vt (there.map Int.ofNat)) (iE : IntsAre ve (es.map Int.ofNat))
  (r4 : ∀ d ∈ row, d < 4) (w4 : ∀ d ∈ twin, d < 4) (h4 : ∀ d ∈ here, d < 4) (t4 : ∀ d ∈ there, d < 4) (lr : row.length = sz) (lw : twin.length = sz) (lh : here.length = mn) (lt : there.length = mn) (le : es.length ≤ mn) (hsz : sz ≤ 8) (hmn : mn ≤ 4)
  (jd1 : ((List.range here.length).map fun k => (List.range (row.length + 1)).map fun f => subL ((here.take (k + 1)).map cd) ((row.take f).map cd)) = dueL (lateL es mn sz) sz)
  (jd2 : ((List.range there.length).map fun k => (List.range (twin.length + 1)).map fun f => subL ((there.take (k + 1)).map cd) ((twin.take f).map cd)) = dueL (lateL es mn sz) sz)
  (ret : ∀ (h' : Heap) (tk' : Nat) (m' : Str → Option Value), Fr h₀ L h' m' → News h₀ L h' ((cS, oz) :: (E9, W.listOf ve.toArray ee) :: (R, W.listOf vr.toArray er) :: (TW, W.listOf vw.toArray ew) :: (H, W.listOf vh.toArray eh) :: (TT, W.listOf vt.toArray et) :: (126, tabObj p1) :: (86, tabObj p2) :: (79, tabObj p3) :: []) → Q (.ret (.bool true)) { s with heap := h', toks := tk' }) :
  wpAny (model PySem.Challenge.pw_pg0212_02 w) (ktrTop dp un gd cn cs L a ccd cl outer) (execs bd9 (envX cn cs L a ccd cl)) Q E s := by
  cases hb9
  subst hcl
  have hve : ve.length = es.length := by rw [iE.length, List.length_map]
  have F0 := ksw_fr (ps := [("many", .int (mn : Int) tm), ("here", .ref H), ("there", .ref TT), ("row", .ref R), ("ends", .ref E9), ("twin", .ref TW)]) (stored := []) (m₀ := m) (List.forall_mem_cons.mpr ⟨hm1, List.forall_mem_cons.mpr ⟨hm2, List.forall_mem_cons.mpr ⟨hm3, List.forall_mem_cons.mpr ⟨hm4, List.forall_mem_cons.mpr ⟨hm5, List.forall_mem_cons.mpr ⟨hm6, fun _ h => nomatch h⟩⟩⟩⟩⟩⟩) (fun _ _ _ => rfl) F
  clear F
  k_steps
  unfold Halt
  rw [hve]
  refine' KM.mul (ns := [(sz : Int) + 1]) ?Fbp ?Nbp ?lbp (.cons _ _ .nil) ?lobp ?hibp ?szbp ?_
  (case Fbp => k_asm)
  (case Nbp => k_asm)
  (case lbp => kmk_list)
  (case lobp => omega)
  (case hibp => omega)
  (case szbp => (rw [List.length_singleton]; omega))
  intro D9 h9 F9 N9 l9 i9 _ _ _ _ _
  rw [show ((mn : Int) - (es.length : Int)).toNat = mn - es.length by omega] at i9 N9
  rw [rep_one] at i9
  k_steps
  unfold Halt
  refine' kmk_add_ints (a := E9) (b := D9) ?Fcp ?Ncp ?acp ?bcp iE i9 ?_ ?zcp
  (case Fcp => k_asm)
  (case Ncp => k_asm)
  (case acp => exact News.isList (by k_asm) (by k_mem))
  (case bcp => exact News.isList (by k_asm) (by k_mem))
  (case zcp => (simp only [PySem.sizeLine_eq, List.length_map, List.length_replicate]; omega))
  intro D8 ws8 h8 F8 N8 l8 i8
  have i8' : IntsAre ws8 ((lateL es mn sz).map Int.ofNat) := by
    rw [lateL, List.map_append, List.map_replicate]; exact i8
  have h8l : ws8.length = mn := by rw [i8'.length, List.length_map, lateL, List.length_append, List.length_replicate]; omega
  have n8 : ∀ p ∈ ((cS, oz) :: (E9, W.listOf ve.toArray ee) :: (R, W.listOf vr.toArray er) :: (TW, W.listOf vw.toArray ew) :: (H, W.listOf vh.toArray eh) :: (TT, W.listOf vt.toArray et) :: (126, tabObj p1) :: (86, tabObj p2) :: (79, tabObj p3) :: [] : List (Addr × Obj)), @Ne Nat p.1 D8 := fun p hp => Nat.ne_of_lt (l8 p (by (repeat (first | exact hp | refine List.Mem.tail _ ?_))))
  clear i8 i9 l8 l9
  have N7 := cb_drop (news := (D8, W.listOf ws8.toArray 0) :: (cS, oz) :: (E9, W.listOf ve.toArray ee) :: (R, W.listOf vr.toArray er) :: (TW, W.listOf vw.toArray ew) :: (H, W.listOf vh.toArray eh) :: (TT, W.listOf vt.toArray et) :: (126, tabObj p1) :: (86, tabObj p2) :: (79, tabObj p3) :: []) N8 (List.forall_mem_cons.mpr ⟨.head _, fun p hp => by (repeat (first | exact hp | refine List.Mem.tail _ ?_))⟩)
  clear N8 N9
  k_steps
  unfold Halt
  k_dflt (refine Assign_ListComp_C (by k_asm) (by rfl) (by with_unfolding_all rfl) (by with_unfolding_all rfl) (fun _ => rfl) (fun _ => rfl) (by rfl) (by decide) (by rfl) (by rfl) (by rfl) ?_)
  k_steps
  unfold Halt
  obtain ⟨lt9, hlt9⟩ : ∃ lt9, lateL es mn sz = lt9 := ⟨_, rfl⟩
  rw [hlt9] at i8'
  have ltl : lt9.length = mn := by rw [← h8l, i8'.length, List.length_map]
  refine' ⟨D8, ws8.toArray, 0, (D8, W.listOf ws8.toArray 0) :: (cS, oz) :: (E9, W.listOf ve.toArray ee) :: (R, W.listOf vr.toArray er) :: (TW, W.listOf vw.toArray ew) :: (H, W.listOf vh.toArray eh) :: (TT, W.listOf vt.toArray et) :: (126, tabObj p1) :: (86, tabObj p2) :: (79, tabObj p3) :: [], fun i ys rows => RowsAre ys rows ((dueL lt9 sz).take i), rfl, rfl, ?Fs, ?Ns, .head _, ?zs, .nil, ?turn, ?fin⟩
  (case Fs => k_asm)
  (case Ns => k_asm)
  (case zs => (rw [List.size_toArray, h8l]; exact fits4000' (by omega)))
  case turn =>
    intro g i v ys rows I10 oI10 C10 oC10 D10 c10 o10 h10 tk10 E10 hi10 hP10 ho10 ra10 F10 N10 of10
    rw [List.size_toArray, h8l] at hi10
    obtain ⟨ti10, hti10⟩ := ints_at i8' (i := i) (by omega)
    have hv : v = .int ((lt9.getD i 0 : Nat) : Int) ti10 := by
      have hP : ws8[i]? = some v := by simpa using hP10
      rw [hti10] at hP; exact (Option.some.inj hP).symm
    subst hv
    (try dsimp only)
    have N10c := cb_drop (news := (cS, oz) :: (c10, o10) :: (I10, oI10) :: (C10, oC10) :: (D10, LCg.lst ys) :: (rows ++ (D8, W.listOf ws8.toArray 0) :: (cS, oz) :: (E9, W.listOf ve.toArray ee) :: (R, W.listOf vr.toArray er) :: (TW, W.listOf vw.toArray ew) :: (H, W.listOf vh.toArray eh) :: (TT, W.listOf vt.toArray et) :: (126, tabObj p1) :: (86, tabObj p2) :: (79, tabObj p3) :: [])) N10 (List.forall_mem_cons.mpr ⟨.tail _ (.tail _ (.tail _ (.tail _ (List.mem_append_right _ (.tail _ (.head _)))))), fun p hp => hp⟩)
    clear N10
    k_steps
    unfold Halt
    k_dflt (refine' LCg.ListComp_U ?Fd (by with_unfolding_all rfl) (by decide) (by rfl) (by decide) (by rfl) ?_)
    (case Fd => k_asm)
    k_steps
    unfold Halt
    refine' LCg.CompSrc.range (n := sz + 1) rfl ?Fe ?Ne ?re ?sme ?rse ?sze ?_
    (case Fe => k_asm)
    (case Ne => k_asm)
    (case re => assumption)
    (case sme => exact small_range (by omega) (by omega))
    (case rse => rw [rangeSize_nat]; omega)
    (case sze => exact fits4000' (by omega))
    intro g13
    refine' cr_rest (fun f y => y = Value.bool (decide (lt9.getD i 0 ≤ f))) ?turn2 ?fin2
    case turn2 =>
      intro j v I11 oI11 C11 oC11 D11 m11 ys11 h11 tk11 E11 hj11 hP11 hC11 hx11 F11 N11 off11 ne11
      obtain ⟨tk0, rfl⟩ := hP11
      k_steps
      refine LCg.CompEnd.intro (by k_asm) (by k_asm) _ (fun _ h => h) off11 trivial ?_
      exact ⟨rfl, congrArg Value.bool (decide_eq_decide.mpr (by omega))⟩
    case fin2 =>
      intro ys13 hl13 hy13 D13 h13 tk13 F13 N13 of13
      have n1 : @Ne Nat D13 c10 := (off1_mem of13 (c10, o10) (.tail _ (.head _))).symm
      have n2 : @Ne Nat D13 I10 := (off1_mem of13 (I10, oI10) (.tail _ (.tail _ (.head _)))).symm
      have n3 : @Ne Nat D13 C10 := (off1_mem of13 (C10, oC10) (.tail _ (.tail _ (.tail _ (.head _))))).symm
      have n4 : @Ne Nat D13 D10 := (off1_mem of13 (D10, LCg.lst ys) (.tail _ (.tail _ (.tail _ (.tail _ (.head _)))))).symm
      refine ⟨h13, tk13, (D13, W.listOf ys13.toArray ys13.length) :: rows, rfl, F13, cb_drop N13 (List.forall_mem_cons.mpr ⟨.tail _ (.tail _ (.head _)), List.forall_mem_cons.mpr ⟨.tail _ (.tail _ (.tail _ (.head _))), List.forall_mem_cons.mpr ⟨.tail _ (.tail _ (.tail _ (.tail _ (.head _)))), List.forall_mem_cons.mpr ⟨.tail _ (.tail _ (.tail _ (.tail _ (.tail _ (.head _))))), List.forall_mem_cons.mpr ⟨.head _, fun p hp => .tail _ (.tail _ (.tail _ (.tail _ (.tail _ (.tail _ hp)))))⟩⟩⟩⟩⟩), List.forall_mem_cons.mpr ⟨⟨n1, n2, n3, n4⟩, of10⟩, ?_⟩
      rw [due_take (by omega)]
      exact RowsAre.snoc ra10 (bools_of hl13 hy13)
  case fin =>
    intro D h tk ys rows F40 N40 of40 ra40
    (try dsimp only)
    rw [List.size_toArray, h8l, ← ltl, due_all] at ra40
    have N41 := cb_drop (news := (D, W.listOf ys.toArray ys.length) :: (cS, oz) :: (E9, W.listOf ve.toArray ee) :: (R, W.listOf vr.toArray er) :: (TW, W.listOf vw.toArray ew) :: (H, W.listOf vh.toArray eh) :: (TT, W.listOf vt.toArray et) :: (126, tabObj p1) :: (86, tabObj p2) :: (79, tabObj p3) :: rows) N40 (List.forall_mem_cons.mpr ⟨.head _, List.forall_mem_cons.mpr ⟨(by repeat (first | exact .head _ | refine .tail _ ?_ | refine List.mem_append_right _ ?_)), List.forall_mem_cons.mpr ⟨(by repeat (first | exact .head _ | refine .tail _ ?_ | refine List.mem_append_right _ ?_)), List.forall_mem_cons.mpr ⟨(by repeat (first | exact .head _ | refine .tail _ ?_ | refine List.mem_append_right _ ?_)), List.forall_mem_cons.mpr ⟨(by repeat (first | exact .head _ | refine .tail _ ?_ | refine List.mem_append_right _ ?_)), List.forall_mem_cons.mpr ⟨(by repeat (first | exact .head _ | refine .tail _ ?_ | refine List.mem_append_right _ ?_)), List.forall_mem_cons.mpr ⟨(by repeat (first | exact .head _ | refine .tail _ ?_ | refine List.mem_append_right _ ?_)), List.forall_mem_cons.mpr ⟨(by repeat (first | exact .head _ | refine .tail _ ?_ | refine List.mem_append_right _ ?_)), List.forall_mem_cons.mpr ⟨(by repeat (first | exact .head _ | refine .tail _ ?_ | refine List.mem_append_right _ ?_)), List.forall_mem_cons.mpr ⟨(by repeat (first | exact .head _ | refine .tail _ ?_ | refine List.mem_append_right _ ?_)), fun p hp => .tail _ (List.mem_append_left _ hp)⟩⟩⟩⟩⟩⟩⟩⟩⟩⟩)
    clear N40
    k_steps
    unfold Halt
    refine' jud_spec (R := R) (K9 := H) (vr := vr) (vk := vh) (er := er) (eK := eh) (row := row) (hs := here) ?B1 ?F1 ?X1 ?N1 ?T1 ?hk1 ?hd1 ?hu1 ?hm1 ?hn1 iR iH r4 h4 (by omega) (by omega) ?_
    (case B1 => k_asm)
    (case F1 => k_asm)
    (case X1 => k_asm)
    (case N1 => k_asm)
    (case T1 => k_asm)
    (case hk1 => exact rfl)
    (case hd1 => (simp only [recursionLimit] at *; omega))
    (case hu1 => (simp only [cLine_is] at *; omega))
    (case hm1 => k_mem)
    (case hn1 => k_mem)
    intro Tb1 vt1 et1 rj1 bs1 h1 tk1 F1 N1 ra1 eb1
    rw [jd1, hlt9] at eb1
    subst eb1
    (try dsimp only)
    have N1c := cb_drop (news := (Tb1, W.listOf vt1.toArray et1) :: (D, W.listOf ys.toArray ys.length) :: (cS, oz) :: (E9, W.listOf ve.toArray ee) :: (R, W.listOf vr.toArray er) :: (TW, W.listOf vw.toArray ew) :: (H, W.listOf vh.toArray eh) :: (TT, W.listOf vt.toArray et) :: (126, tabObj p1) :: (86, tabObj p2) :: (79, tabObj p3) :: (rj1 ++ rows)) N1 (List.forall_mem_cons.mpr ⟨.head _, List.forall_mem_cons.mpr ⟨.tail _ (List.mem_append_right _ (.head _)), List.forall_mem_cons.mpr ⟨(by repeat (first | exact .head _ | refine .tail _ ?_ | refine List.mem_append_right _ ?_)), List.forall_mem_cons.mpr ⟨(by repeat (first | exact .head _ | refine .tail _ ?_ | refine List.mem_append_right _ ?_)), List.forall_mem_cons.mpr ⟨(by repeat (first | exact .head _ | refine .tail _ ?_ | refine List.mem_append_right _ ?_)), List.forall_mem_cons.mpr ⟨(by repeat (first | exact .head _ | refine .tail _ ?_ | refine List.mem_append_right _ ?_)), List.forall_mem_cons.mpr ⟨(by repeat (first | exact .head _ | refine .tail _ ?_ | refine List.mem_append_right _ ?_)), List.forall_mem_cons.mpr ⟨(by repeat (first | exact .head _ | refine .tail _ ?_ | refine List.mem_append_right _ ?_)), List.forall_mem_cons.mpr ⟨(by repeat (first | exact .head _ | refine .tail _ ?_ | refine List.mem_append_right _ ?_)), List.forall_mem_cons.mpr ⟨(by repeat (first | exact .head _ | refine .tail _ ?_ | refine List.mem_append_right _ ?_)), List.forall_mem_cons.mpr ⟨(by repeat (first | exact .head _ | refine .tail _ ?_ | refine List.mem_append_right _ ?_)), List.forall_mem_append.mpr ⟨fun p hp => .tail _ (List.mem_append_left _ hp), fun p hp => .tail _ (List.mem_append_right _ (by repeat (first | exact hp | refine List.Mem.tail _ ?_)))⟩⟩⟩⟩⟩⟩⟩⟩⟩⟩⟩⟩)
    clear N1
    k_steps
    unfold Halt
    (rename News _ _ _ _ => N2)
    refine' eq_tabs (T := Tb1) (U := D) (vs := vt1) (us := ys) (e := et1) (f := ys.length) (rows := rj1) (rows' := rows) N2 ?mT1 ?sT1 ra1 ?mU1 ?sU1 ra40 ?hU1 ?_
    (case mT1 => k_mem)
    (case mU1 => k_mem)
    (case sT1 => exact fun p hp => by (repeat (first | exact List.mem_append_left _ hp | refine List.Mem.tail _ ?_)))
    (case sU1 => exact fun p hp => by (repeat (first | exact List.mem_append_right _ hp | refine List.Mem.tail _ ?_)))
    (case hU1 => (show un + 64 < cLine; simp only [cLine_is] at *; omega))
    k_steps
    unfold Halt
    (rename News _ _ _ _ => N3)
    have N3c := cb_drop (news := (D, W.listOf ys.toArray ys.length) :: (cS, oz) :: (E9, W.listOf ve.toArray ee) :: (R, W.listOf vr.toArray er) :: (TW, W.listOf vw.toArray ew) :: (H, W.listOf vh.toArray eh) :: (TT, W.listOf vt.toArray et) :: (126, tabObj p1) :: (86, tabObj p2) :: (79, tabObj p3) :: rows) N3 (List.forall_mem_cons.mpr ⟨.tail _ (.head _), List.forall_mem_cons.mpr ⟨(by repeat (first | exact .head _ | refine .tail _ ?_ | refine List.mem_append_right _ ?_)), List.forall_mem_cons.mpr ⟨(by repeat (first | exact .head _ | refine .tail _ ?_ | refine List.mem_append_right _ ?_)), List.forall_mem_cons.mpr ⟨(by repeat (first | exact .head _ | refine .tail _ ?_ | refine List.mem_append_right _ ?_)), List.forall_mem_cons.mpr ⟨(by repeat (first | exact .head _ | refine .tail _ ?_ | refine List.mem_append_right _ ?_)), List.forall_mem_cons.mpr ⟨(by repeat (first | exact .head _ | refine .tail _ ?_ | refine List.mem_append_right _ ?_)), List.forall_mem_cons.mpr ⟨(by repeat (first | exact .head _ | refine .tail _ ?_ | refine List.mem_append_right _ ?_)), List.forall_mem_cons.mpr ⟨(by repeat (first | exact .head _ | refine .tail _ ?_ | refine List.mem_append_right _ ?_)), List.forall_mem_cons.mpr ⟨(by repeat (first | exact .head _ | refine .tail _ ?_ | refine List.mem_append_right _ ?_)), List.forall_mem_cons.mpr ⟨(by repeat (first | exact .head _ | refine .tail _ ?_ | refine List.mem_append_right _ ?_)), fun p hp => (by repeat (first | exact List.mem_append_right _ hp | refine List.Mem.tail _ ?_))⟩⟩⟩⟩⟩⟩⟩⟩⟩⟩)
    clear N3
    refine' jud_spec (R := TW) (K9 := TT) (vr := vw) (vk := vt) (er := ew) (eK := et) (row := twin) (hs := there) ?B2 ?F2 ?X2 ?N2 ?T2 ?hk2 ?hd2 ?hu2 ?hm2 ?hn2 iW iT w4 t4 (by omega) (by omega) ?_
    (case B2 => k_asm)
    (case F2 => k_asm)
    (case X2 => k_asm)
    (case N2 => k_asm)
    (case T2 => k_asm)
    (case hk2 => exact rfl)
    (case hd2 => (simp only [recursionLimit] at *; omega))
    (case hu2 => (simp only [cLine_is] at *; omega))
    (case hm2 => k_mem)
    (case hn2 => k_mem)
    intro Tb2 vt2 et2 rj2 bs2 h2 tk2 F2 N2 ra2 eb2
    rw [jd2, hlt9] at eb2
    subst eb2
    (try dsimp only)
    have N2c := cb_drop (news := (Tb2, W.listOf vt2.toArray et2) :: (D, W.listOf ys.toArray ys.length) :: (cS, oz) :: (E9, W.listOf ve.toArray ee) :: (R, W.listOf vr.toArray er) :: (TW, W.listOf vw.toArray ew) :: (H, W.listOf vh.toArray eh) :: (TT, W.listOf vt.toArray et) :: (126, tabObj p1) :: (86, tabObj p2) :: (79, tabObj p3) :: (rj2 ++ rows)) N2 (List.forall_mem_cons.mpr ⟨.head _, List.forall_mem_cons.mpr ⟨.tail _ (List.mem_append_right _ (.head _)), List.forall_mem_cons.mpr ⟨(by repeat (first | exact .head _ | refine .tail _ ?_ | refine List.mem_append_right _ ?_)), List.forall_mem_cons.mpr ⟨(by repeat (first | exact .head _ | refine .tail _ ?_ | refine List.mem_append_right _ ?_)), List.forall_mem_cons.mpr ⟨(by repeat (first | exact .head _ | refine .tail _ ?_ | refine List.mem_append_right _ ?_)), List.forall_mem_cons.mpr ⟨(by repeat (first | exact .head _ | refine .tail _ ?_ | refine List.mem_append_right _ ?_)), List.forall_mem_cons.mpr ⟨(by repeat (first | exact .head _ | refine .tail _ ?_ | refine List.mem_append_right _ ?_)), List.forall_mem_cons.mpr ⟨(by repeat (first | exact .head _ | refine .tail _ ?_ | refine List.mem_append_right _ ?_)), List.forall_mem_cons.mpr ⟨(by repeat (first | exact .head _ | refine .tail _ ?_ | refine List.mem_append_right _ ?_)), List.forall_mem_cons.mpr ⟨(by repeat (first | exact .head _ | refine .tail _ ?_ | refine List.mem_append_right _ ?_)), List.forall_mem_cons.mpr ⟨(by repeat (first | exact .head _ | refine .tail _ ?_ | refine List.mem_append_right _ ?_)), List.forall_mem_append.mpr ⟨fun p hp => .tail _ (List.mem_append_left _ hp), fun p hp => .tail _ (List.mem_append_right _ (by repeat (first | exact hp | refine List.Mem.tail _ ?_)))⟩⟩⟩⟩⟩⟩⟩⟩⟩⟩⟩⟩)
    clear N2
    k_steps
    unfold Halt
    (rename News _ _ _ _ => N4)
    refine' eq_tabs (T := Tb2) (U := D) (vs := vt2) (us := ys) (e := et2) (f := ys.length) (rows := rj2) (rows' := rows) N4 ?mT2 ?sT2 ra2 ?mU2 ?sU2 ra40 ?hU2 ?_
    (case mT2 => k_mem)
    (case mU2 => k_mem)
    (case sT2 => exact fun p hp => by (repeat (first | exact List.mem_append_left _ hp | refine List.Mem.tail _ ?_)))
    (case sU2 => exact fun p hp => by (repeat (first | exact List.mem_append_right _ hp | refine List.Mem.tail _ ?_)))
    (case hU2 => (show un + 64 < cLine; simp only [cLine_is] at *; omega))
    k_steps
    (rename Fr _ _ _ _ => F50)
    (rename News _ _ _ _ => N50)
    exact ret _ _ _ F50 (cb_drop N50 (List.forall_mem_cons.mpr ⟨(by repeat (first | exact .head _ | refine .tail _ ?_ | refine List.mem_append_right _ ?_)), List.forall_mem_cons.mpr ⟨(by repeat (first | exact .head _ | refine .tail _ ?_ | refine List.mem_append_right _ ?_)), List.forall_mem_cons.mpr ⟨(by repeat (first | exact .head _ | refine .tail _ ?_ | refine List.mem_append_right _ ?_)), List.forall_mem_cons.mpr ⟨(by repeat (first | exact .head _ | refine .tail _ ?_ | refine List.mem_append_right _ ?_)), List.forall_mem_cons.mpr ⟨(by repeat (first | exact .head _ | refine .tail _ ?_ | refine List.mem_append_right _ ?_)), List.forall_mem_cons.mpr ⟨(by repeat (first | exact .head _ | refine .tail _ ?_ | refine List.mem_append_right _ ?_)), List.forall_mem_cons.mpr ⟨(by repeat (first | exact .head _ | refine .tail _ ?_ | refine List.mem_append_right _ ?_)), List.forall_mem_cons.mpr ⟨(by repeat (first | exact .head _ | refine .tail _ ?_ | refine List.mem_append_right _ ?_)), List.forall_mem_cons.mpr ⟨(by repeat (first | exact .head _ | refine .tail _ ?_ | refine List.mem_append_right _ ?_)), fun _ h => nomatch h⟩⟩⟩⟩⟩⟩⟩⟩⟩))
end
section
theorem digsN_numD {b : Nat} (hb : 0 < b) : ∀ l : List Nat, (∀ d ∈ l, d < b) → digsN b l.length (numD b l) = l
  | [], _ => rfl
  | d :: l, h => by
    have h1 := h d (.head _)
    rw [List.length_cons, digsN, numD, Nat.add_mul_mod_self_left, Nat.mod_eq_of_lt h1, Nat.add_mul_div_left _ _ hb, Nat.div_eq_of_lt h1, Nat.zero_add, digsN_numD hb l fun x hx => h x (.tail _ hx)]
theorem wkL_es : ∀ (r hs ts : List Nat) (n : Nat), (wkL r hs ts n).2.length ≤ hs.length
  | [], hs, ts, n => by rw [wkL_nil]; exact Nat.zero_le _
  | d :: r, [], ts, n => by rw [wkN', wkL_none]; exact Nat.le_refl _
  | d :: r, h :: hs, [], n => by unfold wkL; rw [wkL_none]; exact Nat.zero_le _
  | d :: r, h :: hs, t :: ts, n => by
    rw [wkL]
    split
    · rw [List.length_cons, List.length_cons]; exact Nat.succ_le_succ (wkL_es r hs ts (n + 1))
    · exact wkL_es r (h :: hs) (t :: ts) (n + 1)
theorem cd_inj {a b : Nat} (ha : a < 4) (hb : b < 4) (h : cd a = cd b) : a = b := by
  have k : ∀ a < 4, ∀ b < 4, cd a = cd b → a = b := by decide
  exact k a ha b hb h
theorem subL_cd : ∀ (p g : List Nat), (∀ d ∈ p, d < 4) → (∀ d ∈ g, d < 4) → subL (p.map cd) (g.map cd) = subL p g
  | [], g, _, _ => by rw [List.map_nil, subL_nil, subL_nil]
  | a :: p, [], _, _ => rfl
  | a :: p, b :: g, hp, hg => by
    have h1 := subL_cd p g (fun d hd => hp d (.tail _ hd)) (fun d hd => hg d (.tail _ hd))
    have h2 := subL_cd (a :: p) g hp (fun d hd => hg d (.tail _ hd))
    rw [List.map_cons] at h2
    rw [List.map_cons, List.map_cons, subL, subL]
    by_cases e : a = b
    · rw [if_pos e, if_pos (congrArg cd e), h1]
    · rw [if_neg e, if_neg (fun q => e (cd_inj (hp a (.head _)) (hg b (.head _)) q)), h2]
theorem late_at {es : List Nat} {mn sz k : Nat} (hk : k < mn) (he : es.length ≤ mn) : (lateL es mn sz).getD k 0 = es.getD k (sz + 1) := by
  rw [lateL, List.getD_eq_getElem?_getD, List.getD_eq_getElem?_getD]
  by_cases h : k < es.length
  · rw [List.getElem?_append_left h, List.getElem?_eq_getElem h]; rfl
  · rw [List.getElem?_append_right (by omega), List.getElem?_replicate, if_pos (by omega), List.getElem?_eq_none (by omega)]; rfl
theorem due_law {row hs ts : List Nat} {mn sz : Nat} (r4 : ∀ d ∈ row, d < 4) (h4 : ∀ d ∈ hs, d < 4) (lr : row.length = sz) (lh : hs.length = mn) (hl : hs.length = ts.length) :
    ((List.range hs.length).map fun k => (List.range (row.length + 1)).map fun f => subL ((hs.take (k + 1)).map cd) ((row.take f).map cd)) = dueL (lateL (wkL row hs ts 0).2 mn sz) sz := by
  have he : (wkL row hs ts 0).2.length ≤ mn := lh ▸ wkL_es row hs ts 0
  have hll : (lateL (wkL row hs ts 0).2 mn sz).length = mn := by rw [lateL, List.length_append, List.length_replicate]; omega
  refine List.ext_getElem (by rw [List.length_map, List.length_range, dueL, List.length_map, hll, lh]) ?_
  intro k h1 h2
  rw [List.length_map, List.length_range] at h1
  simp only [dueL, List.getElem_map, List.getElem_range, lr]
  refine List.map_congr_left fun f hf => ?_
  have hf' : f < sz + 1 := List.mem_range.mp hf
  rw [subL_cd _ _ (fun d hd => h4 d (List.mem_of_mem_take hd)) (fun d hd => r4 d (List.mem_of_mem_take hd)), wk_late row hs ts 0 k f hl h1 (by omega)]
  have hk : k < mn := lh ▸ h1
  have e := late_at (es := (wkL row hs ts 0).2) (sz := sz) hk he
  rw [List.getD_eq_getElem?_getD, List.getElem?_eq_getElem (by rw [hll]; exact hk), Option.getD_some] at e
  rw [e, Nat.zero_add, Nat.zero_add, lr]
theorem ne_pair {prog : Program} {w : World} {A : Around} {E : Value → Shared → Prop} {s : Shared} {h₀ : Heap} {L D1 D2 E1 E2 : Addr} {news : List (Addr × Obj)} {Q : Value → Shared → Prop} {n : Int} {t1 t2 : Tok} {v1 v2 : List Value} {e1 e2 k1 k2 : Nat} {ns : List Int} (N : News h₀ L s.heap news)
    (m1 : (D1, ({ cls := .type "tuple", data := .seq #[.int n t1, .ref E1] k1 } : Obj)) ∈ news) (m2 : (E1, W.listOf v1.toArray e1) ∈ news) (m3 : (D2, ({ cls := .type "tuple", data := .seq #[.int n t2, .ref E2] k2 } : Obj)) ∈ news) (m4 : (E2, W.listOf v2.toArray e2) ∈ news) (i1 : IntsAre v1 ns) (i2 : IntsAre v2 ns) (hu : A.units + 64 < cLine) (h : Q (.bool false) s) :
    wpAny (model prog w) A (compareOp .NotEq (.ref D1) (.ref D2)) Q E s := by
  have r1 := reads_newData (News.isList N m2) (ke_carried i1)
  have r2 := reads_newData (News.isList N m4) (ke_carried i2)
  have p1 : Reads s.heap (.ref D1) (.tuple [.int n, .list (ns.map PyData.int)]) [E1] := .tuple (N _ m1).1 rfl rfl (.cons (as := []) (.int n t1) (.cons r1 .nil))
  have p2 : Reads s.heap (.ref D2) (.tuple [.int n, .list (ns.map PyData.int)]) [E2] := .tuple (N _ m3).1 rfl rfl (.cons (as := []) (.int n t2) (.cons r2 .nil))
  have hl : PyData.canLay0 (.tuple [.int n, .list (ns.map PyData.int)]) = true := by simp [PyData.canLay0, PyData.canLayAll0, ke_canLayAll0]
  have hs : PySem.SeqAt.shaped (.tuple [.int n, .list (ns.map PyData.int)]) = true := by
    simp [SeqAt.shaped, hl, PyData.depth, PyData.depthAll, ke_depthAll]
  exact ne_dataH p1 p2 hs hs hu (by rw [PySem.SeqAt.eqv_refl _ hl]; exact h)
end
section
def lawMid (p : Program) : Option (List Stmt × Scope) :=
  match (p.main.body[(20 : Nat)]? : Option Stmt) with
  | some (.FunctionDef _ _ (_ :: _ :: _ :: _ :: _ :: _ :: _ :: _ :: _ :: b) _ _ _ sc _ _ _) => some (b, sc)
  | _ => none
theorem haltE3 {M : Model} {A : Around} {E : Value → Shared → Prop} {s : Shared} {Q : Flow → Shared → Prop} {a b c x1 x2} {env : Env} (h : Halt (wpAny M A (execs (Stmt.Assign a b c :: x1 :: x2 :: []) env) Q E s)) : wpAny M A (execs (Stmt.Assign a b c :: x1 :: x2 :: []) env) Q E s := h
theorem haltE6 {M : Model} {A : Around} {E : Value → Shared → Prop} {s : Shared} {Q : Flow → Shared → Prop} {a b c x1 x2 x3 x4 x5} {env : Env} (h : Halt (wpAny M A (execs (Stmt.Assign a b c :: x1 :: x2 :: x3 :: x4 :: x5 :: []) env) Q E s)) : wpAny M A (execs (Stmt.Assign a b c :: x1 :: x2 :: x3 :: x4 :: x5 :: []) env) Q E s := h
theorem haltE9 {M : Model} {A : Around} {E : Value → Shared → Prop} {s : Shared} {Q : Flow → Shared → Prop} {a b c x1 x2 x3 x4 x5 x6 x7 x8} {env : Env} (h : Halt (wpAny M A (execs (Stmt.Assign a b c :: x1 :: x2 :: x3 :: x4 :: x5 :: x6 :: x7 :: x8 :: []) env) Q E s)) : wpAny M A (execs (Stmt.Assign a b c :: x1 :: x2 :: x3 :: x4 :: x5 :: x6 :: x7 :: x8 :: []) env) Q E s := h
theorem tabM_mem {tm : List (Addr × Obj)} (h : TabM tm) : ∃ ps, (126, tabObj ps) ∈ tm := by
  cases h
  · exact ⟨_, .head _⟩
  · exact ⟨_, .head _⟩
theorem tabD_mem {td : List (Addr × Obj)} (h : TabD2 td) : ∃ ps, (86, tabObj ps) ∈ td := by
  cases h
  · exact ⟨_, .head _⟩
  · exact ⟨_, .head _⟩
theorem tabI_mem {tb : List (Addr × Obj)} (h : TabI2 tb) : ∃ ps, (79, tabObj ps) ∈ tb := by
  cases h
  · exact ⟨_, .head _⟩
  · exact ⟨_, .head _⟩
theorem app4 {a b c d : List (Addr × Obj)} {x : Addr × Obj} : ∀ p ∈ a ++ (b ++ (c ++ (x :: d))), p ∈ x :: (a ++ (b ++ (c ++ d))) :=
  List.forall_mem_append.mpr ⟨fun p hp => .tail _ (List.mem_append_left _ hp), List.forall_mem_append.mpr ⟨fun p hp => .tail _ (List.mem_append_right _ (List.mem_append_left _ hp)), List.forall_mem_append.mpr ⟨fun p hp => .tail _ (List.mem_append_right _ (List.mem_append_right _ (List.mem_append_left _ hp))), List.forall_mem_cons.mpr ⟨.head _, fun p hp => .tail _ (List.mem_append_right _ (List.mem_append_right _ (List.mem_append_right _ hp)))⟩⟩⟩⟩
local macro_rules | `(tactic| walk_at "call ref") => `(tactic| refine haltK (by decide) ?_)
local macro_rules | `(tactic| walk_at "call builtin:len") => `(tactic| (k_here; k_dflt (refine' len_L ?N ?m ?f ?_; (case N => k_asm); (case m => k_mem); (case f => omega); k_whole)))
local macro_rules | `(tactic| walk_at "compareOp NotEq ref ref") => `(tactic| refine Halt.of ?_)
local macro_rules | `(tactic| walk_at "execs cons") => `(tactic| with_reducible refine haltE3 ?_)
set_option maxHeartbeats 4000000 in
theorem law_mid {w : World} {mg mb : Str → Option Value} {p : Program} {loose : List Str} {mean : ExcName → Option Value} {dp un : Nat} {gd : Option (List Code)} {cn : Str} {cs : Scope} {a : Addr} {ccd : Value} {cl : List (Str × Addr)} {outer : List Env} {A₀ : Around} {base h₀ : Heap} {L : Addr} {m : Str → Option Value} {s : Shared} {Q : Flow → Shared → Prop} {E : Value → Shared → Prop}{R H TT E9 cS : Addr} {vr vh vt ve : List Value} {er eh et ee : Nat} {oz : Obj} {sz mn nN : Nat} {tz tm8 tn to : Tok} {row here there wl es : List Nat} {bd9 : List Stmt} {tb td tm9 : List (Addr × Obj)}
  (B : Below A₀ base outer h₀) (F : Fr h₀ L s.heap m) (X : (hd1.heap_39 w.params).In h₀) (N : News h₀ L s.heap (tb ++ (td ++ (tm9 ++ ((E9, W.listOf ve.toArray ee) :: (R, W.listOf vr.toArray er) :: (H, W.listOf vh.toArray eh) :: (TT, W.listOf vt.toArray et) :: (cS, oz) :: []))))) (T : Top p loose mean mg mb h₀) (hk : cs.kind = .function) (hd : dp + 400 < recursionLimit) (hu : un + 3600 < cLine)
  (hb9 : lawMid PySem.Challenge.pw_pg0212_02 = some (bd9, cs)) (hcl : cl = [(("size" : Str), cS)]) (hoz : oz.data = .cell (some (.int (sz : Int) tz)))
  (hm1 : m ("many" : Str) = some (.int (mn : Int) tm8)) (hm2 : m ("here" : Str) = some (.ref H)) (hm3 : m ("there" : Str) = some (.ref TT)) (hm4 : m ("row" : Str) = some (.ref R)) (hm5 : m ("ends" : Str) = some (.ref E9)) (hm6 : m ("other" : Str) = some (.int ((numD 4 wl : Nat) : Int) to)) (hm7 : m ("number" : Str) = some (.int (nN : Int) tn))
  (iR : IntsAre vr (row.map Int.ofNat)) (iH : IntsAre vh (here.map Int.ofNat)) (iT : IntsAre vt (there.map Int.ofNat))
  (r4 : ∀ d ∈ row, d < 4) (h4 : ∀ d ∈ here, d < 4) (t4 : ∀ d ∈ there, d < 4) (lr : row.length = sz) (lh : here.length = mn) (lt : there.length = mn) (hsz : sz ≤ 8) (hmn : mn ≤ 4) (hrow : row = digsN 4 sz nN) (hnN : nN < 4 ^ sz)
  (ti : TabI2 tb) (td2 : TabD2 td) (tms : TabM tm9) (CM : CodeHd base 128 126) (CI : CodeHd base 83 79) (CD : CodeHd base 90 86)
  (hwl : wl = (wkL row here there 0).1) (hes : es = (wkL row here there 0).2) (iE : IntsAre ve (es.map Int.ofNat))
  (dj0 : ∀ q ∈ ((E9, W.listOf ve.toArray ee) :: (R, W.listOf vr.toArray er) :: (H, W.listOf vh.toArray eh) :: (TT, W.listOf vt.toArray et) :: (cS, oz) :: [] : List (Addr × Obj)), q.1 ≠ 126) (dj1 : ∀ p ∈ tb, ∀ q ∈ td ++ (tm9 ++ ((E9, W.listOf ve.toArray ee) :: (R, W.listOf vr.toArray er) :: (H, W.listOf vh.toArray eh) :: (TT, W.listOf vt.toArray et) :: (cS, oz) :: [])), p.1 ≠ q.1) (dj2 : ∀ p ∈ td, ∀ q ∈ tm9 ++ ((E9, W.listOf ve.toArray ee) :: (R, W.listOf vr.toArray er) :: (H, W.listOf vh.toArray eh) :: (TT, W.listOf vt.toArray et) :: (cS, oz) :: []), p.1 ≠ q.1)
  (ret : ∀ (p1 p2 p3 : Array Value) (h' : Heap) (tk' : Nat) (m' : Str → Option Value), Fr h₀ L h' m' → News h₀ L h' ((cS, oz) :: (126, tabObj p1) :: (86, tabObj p2) :: (79, tabObj p3) :: []) → Q (.ret (.bool true)) { s with heap := h', toks := tk' }) :
  wpAny (model PySem.Challenge.pw_pg0212_02 w) (ktrTop dp un gd cn cs L a ccd cl outer) (execs bd9 (envX cn cs L a ccd cl)) Q E s := by
  cases hb9
  subst hcl
  have lwl : wl.length = sz := by rw [hwl, wkL_length, lr]
  have w4 : ∀ d ∈ wl, d < 4 := by rw [hwl]; exact wkL_lt row here there 0 r4
  have hwlt : numD 4 wl < 4 ^ sz := lwl ▸ numD_lt 4 wl w4
  have hbk : wkL wl there here 0 = (row, es) := by rw [hwl, hes]; exact wk_back row here there 0 r4 h4 t4 (by omega)
  have hdw : digsN 4 sz (numD 4 wl) = wl := lwl ▸ digsN_numD (by decide) wl w4
  have hnum : numD (2 ^ 2) row = nN := by rw [hrow]; exact (numD_digsN 4 sz nN).trans (Nat.mod_eq_of_lt hnN)
  have les : es.length ≤ mn := by rw [hes, ← lh]; exact wkL_es row here there 0
  have jd1 := due_law (row := row) (hs := here) (ts := there) (mn := mn) (sz := sz) r4 h4 lr lh (by omega)
  have jd2 := due_law (row := wl) (hs := there) (ts := here) (mn := mn) (sz := sz) w4 t4 lwl lt (by omega)
  rw [← hes] at jd1
  rw [hbk] at jd2
  have F0 := ksw_fr (ps := [("many", .int (mn : Int) tm8), ("here", .ref H), ("there", .ref TT), ("row", .ref R), ("ends", .ref E9), ("other", .int ((numD 4 wl : Nat) : Int) to), ("number", .int (nN : Int) tn)]) (stored := []) (m₀ := m) (List.forall_mem_cons.mpr ⟨hm1, List.forall_mem_cons.mpr ⟨hm2, List.forall_mem_cons.mpr ⟨hm3, List.forall_mem_cons.mpr ⟨hm4, List.forall_mem_cons.mpr ⟨hm5, List.forall_mem_cons.mpr ⟨hm6, List.forall_mem_cons.mpr ⟨hm7, fun _ h => nomatch h⟩⟩⟩⟩⟩⟩⟩) (fun _ _ _ => rfl) F
  clear F
  have N0 := cb_drop (news := (cS, oz) :: (tb ++ (td ++ (tm9 ++ ((E9, W.listOf ve.toArray ee) :: (R, W.listOf vr.toArray er) :: (H, W.listOf vh.toArray eh) :: (TT, W.listOf vt.toArray et) :: (cS, oz) :: []))))) N (List.forall_mem_cons.mpr ⟨List.mem_append_right _ (List.mem_append_right _ (List.mem_append_right _ (by repeat (first | exact .head _ | refine .tail _ ?_)))), fun p hp => hp⟩)
  clear N
  k_steps
  unfold Halt
  (rename News _ _ _ _ => Na)
  have N1 := cb_drop (news := tb ++ (td ++ (tm9 ++ ((E9, W.listOf ve.toArray ee) :: (R, W.listOf vr.toArray er) :: (H, W.listOf vh.toArray eh) :: (TT, W.listOf vt.toArray et) :: (cS, oz) :: [])))) Na (fun p hp => by (repeat (first | exact hp | refine List.Mem.tail _ ?_)))
  clear Na
  refine' dig_spec (xN := numD 4 wl) (sz := sz) (tb := tb) (rest := td ++ (tm9 ++ ((E9, W.listOf ve.toArray ee) :: (R, W.listOf vr.toArray er) :: (H, W.listOf vh.toArray eh) :: (TT, W.listOf vt.toArray et) :: (cS, oz) :: []))) ?B1 ?F1 ?X1 ?N1 ?T1 ?hk1 ?hd1 ?hu1 ti dj1 CI (by omega) hwlt ?_
  (case B1 => k_asm)
  (case F1 => k_asm)
  (case X1 => k_asm)
  (case N1 => k_asm)
  (case T1 => k_asm)
  (case hk1 => exact rfl)
  (case hd1 => (simp only [recursionLimit] at *; omega))
  (case hu1 => (simp only [cLine_is] at *; omega))
  intro TW vw tb3 h3 tk3 F3 N3 iW ti3 dj3 off3
  rw [hdw] at iW
  (try dsimp only)
  k_steps
  unfold Halt
  (rename News _ _ _ _ => Nb)
  have hTW : ∀ q ∈ tb3 ++ (td ++ (tm9 ++ ((E9, W.listOf ve.toArray ee) :: (R, W.listOf vr.toArray er) :: (H, W.listOf vh.toArray eh) :: (TT, W.listOf vt.toArray et) :: (cS, oz) :: []))), @LT.lt Nat _ q.1 TW := off3
  clear off3
  obtain ⟨pm0, hpm0⟩ := tabM_mem tms
  have nTW : @Ne Nat TW 126 := Nat.ne_of_gt (hTW (126, _) (List.mem_append_right _ (List.mem_append_right _ (List.mem_append_left _ hpm0))))
  have N4 := cb_drop (news := tb3 ++ (td ++ (tm9 ++ ((TW, W.listOf vw.toArray 0) :: (E9, W.listOf ve.toArray ee) :: (R, W.listOf vr.toArray er) :: (H, W.listOf vh.toArray eh) :: (TT, W.listOf vt.toArray et) :: (cS, oz) :: [])))) Nb app4
  clear Nb
  refine' mov_spec (row := wl) (here := there) (there := here) (tb := tb3) (td := td) (tm := tm9) (rest := (TW, W.listOf vw.toArray 0) :: (E9, W.listOf ve.toArray ee) :: (R, W.listOf vr.toArray er) :: (H, W.listOf vh.toArray eh) :: (TT, W.listOf vt.toArray et) :: (cS, oz) :: []) ?B2 ?F2 ?X2 ?N2 ?T2 ?hk2 ?hd2 ?hu2 CM tms ?c02 CI CD (.head _) (.tail _ (by repeat (first | exact .head _ | refine .tail _ ?_))) (.tail _ (by repeat (first | exact .head _ | refine .tail _ ?_))) iW w4 (by omega) iT iH t4 h4 (by omega) (by omega) ti3 td2 ?c12 ?c22 ?_
  (case B2 => k_asm)
  (case F2 => k_asm)
  (case X2 => k_asm)
  (case N2 => k_asm)
  (case T2 => k_asm)
  (case hk2 => exact rfl)
  (case hd2 => (simp only [recursionLimit] at *; omega))
  (case hu2 => (simp only [cLine_is] at *; omega))
  (case c02 => exact List.forall_mem_cons.mpr ⟨nTW, dj0⟩)
  (case c12 => exact fun p hp => List.forall_mem_append.mpr ⟨fun q hq => dj3 p hp q (List.mem_append_left _ hq), List.forall_mem_append.mpr ⟨fun q hq => dj3 p hp q (List.mem_append_right _ (List.mem_append_left _ hq)), List.forall_mem_cons.mpr ⟨Nat.ne_of_lt (hTW p (List.mem_append_left _ hp)), fun q hq => dj3 p hp q (List.mem_append_right _ (List.mem_append_right _ hq))⟩⟩⟩)
  (case c22 => exact fun p hp => List.forall_mem_append.mpr ⟨fun q hq => dj2 p hp q (List.mem_append_left _ hq), List.forall_mem_cons.mpr ⟨Nat.ne_of_lt (hTW p (List.mem_append_right _ (List.mem_append_left _ hp))), fun q hq => dj2 p hp q (List.mem_append_right _ hq)⟩⟩)
  intro D3 M3 E3 vm em ve3 ee3 tm' tb' td' h4' tk4 F4 N5 iM iE3 tms' ti' td3 dj1' dj2' of1 of2
  have mw := mov_walk there here wl [] [] h4 (by omega)
  rw [mw.1, List.nil_append, List.length_nil, hbk] at iM
  rw [mw.2, List.nil_append, List.length_nil, hbk] at iE3
  clear mw
  dsimp only at iM iE3
  have hvm : vm.length = sz := by rw [iM.length, List.length_map, lr]
  have N6 := cb_drop (news := (D3, ({ cls := .type "tuple", data := .seq #[.ref M3, .ref E3] } : Obj)) :: (M3, W.listOf vm.toArray em) :: (E3, W.listOf ve3.toArray ee3) :: (cS, oz) :: (tb' ++ (td' ++ (tm' ++ ((TW, W.listOf vw.toArray 0) :: (E9, W.listOf ve.toArray ee) :: (R, W.listOf vr.toArray er) :: (H, W.listOf vh.toArray eh) :: (TT, W.listOf vt.toArray et) :: (cS, oz) :: []))))) N5 (List.forall_mem_cons.mpr ⟨.head _, List.forall_mem_cons.mpr ⟨.tail _ (.head _), List.forall_mem_cons.mpr ⟨.tail _ (.tail _ (.head _)), List.forall_mem_cons.mpr ⟨.tail _ (.tail _ (.tail _ (List.mem_append_right _ (List.mem_append_right _ (List.mem_append_right _ (.tail _ (by repeat (first | exact .head _ | refine .tail _ ?_)))))))), fun p hp => .tail _ (.tail _ (.tail _ hp))⟩⟩⟩⟩)
  clear N5
  (try dsimp only)
  k_steps
  unfold Halt
  (rename News _ _ _ _ => Nc)
  have mcS : (cS, oz) ∈ tm' ++ ((TW, W.listOf vw.toArray 0) :: (E9, W.listOf ve.toArray ee) :: (R, W.listOf vr.toArray er) :: (H, W.listOf vh.toArray eh) :: (TT, W.listOf vt.toArray et) :: (cS, oz) :: []) := List.mem_append_right _ (.tail _ (by repeat (first | exact .head _ | refine .tail _ ?_)))
  have N7 := cb_drop (news := td' ++ (M3, W.listOf vm.toArray em) :: (E3, W.listOf ve3.toArray ee3) :: (cS, oz) :: (tb' ++ (tm' ++ ((TW, W.listOf vw.toArray 0) :: (E9, W.listOf ve.toArray ee) :: (R, W.listOf vr.toArray er) :: (H, W.listOf vh.toArray eh) :: (TT, W.listOf vt.toArray et) :: (cS, oz) :: [])))) Nc (List.forall_mem_append.mpr ⟨fun p hp => (by repeat (first | exact List.mem_append_right _ (List.mem_append_left _ hp) | refine List.Mem.tail _ ?_)), List.forall_mem_cons.mpr ⟨(by repeat (first | exact .head _ | refine .tail _ ?_)), List.forall_mem_cons.mpr ⟨(by repeat (first | exact .head _ | refine .tail _ ?_)), List.forall_mem_cons.mpr ⟨(by repeat (first | exact .head _ | refine .tail _ ?_)), List.forall_mem_append.mpr ⟨fun p hp => (by repeat (first | exact List.mem_append_left _ hp | refine List.Mem.tail _ ?_)), fun p hp => (by repeat (first | exact List.mem_append_right _ (List.mem_append_right _ hp) | refine List.Mem.tail _ ?_))⟩⟩⟩⟩⟩)
  clear Nc
  refine' d2i_spec (nN := 2) (D := M3) (vs := vm) (ds := row) (ep := em) (tb := td') (rest := (E3, W.listOf ve3.toArray ee3) :: (cS, oz) :: (tb' ++ (tm' ++ ((TW, W.listOf vw.toArray 0) :: (E9, W.listOf ve.toArray ee) :: (R, W.listOf vr.toArray er) :: (H, W.listOf vh.toArray eh) :: (TT, W.listOf vt.toArray et) :: (cS, oz) :: [])))) ?B3 ?F3 ?X3 ?N3 ?T3 ?hk3 ?hd3 ?hu3 td3 ?c33 CD rfl (by decide) (by decide) iM (by omega) r4 ?_
  (case B3 => k_asm)
  (case F3 => k_asm)
  (case X3 => k_asm)
  (case N3 => k_asm)
  (case T3 => k_asm)
  (case hk3 => exact rfl)
  (case hd3 => (simp only [recursionLimit] at *; omega))
  (case hu3 => (simp only [cLine_is] at *; omega))
  (case c33 => exact fun p hp => List.forall_mem_cons.mpr ⟨of1 p (List.mem_append_right _ hp) M3 (.tail _ (.head _)), List.forall_mem_cons.mpr ⟨of1 p (List.mem_append_right _ hp) E3 (.tail _ (.tail _ (.head _))), List.forall_mem_cons.mpr ⟨dj2' p hp _ mcS, List.forall_mem_append.mpr ⟨fun q hq => (dj1' q hq p (List.mem_append_left _ hp)).symm, fun q hq => dj2' p hp q hq⟩⟩⟩⟩)
  intro t5 td5 h5 tk5 F5 N8 tds5 _
  rw [hnum]
  obtain ⟨q1, hq1⟩ := tabM_mem tms'
  obtain ⟨q2, hq2⟩ := tabD_mem tds5
  obtain ⟨q3, hq3⟩ := tabI_mem ti'
  have N9 := cb_drop (news := (cS, oz) :: (E9, W.listOf ve.toArray ee) :: (R, W.listOf vr.toArray er) :: (TW, W.listOf vw.toArray 0) :: (H, W.listOf vh.toArray eh) :: (TT, W.listOf vt.toArray et) :: (126, tabObj q1) :: (86, tabObj q2) :: (79, tabObj q3) :: (E3, W.listOf ve3.toArray ee3) :: []) N8 (by
    have k1 : ∀ p ∈ (E3, W.listOf ve3.toArray ee3) :: (cS, oz) :: (tb' ++ (tm' ++ ((TW, W.listOf vw.toArray 0) :: (E9, W.listOf ve.toArray ee) :: (R, W.listOf vr.toArray er) :: (H, W.listOf vh.toArray eh) :: (TT, W.listOf vt.toArray et) :: (cS, oz) :: []))), p ∈ td5 ++ (M3, W.listOf vm.toArray em) :: (E3, W.listOf ve3.toArray ee3) :: (cS, oz) :: (tb' ++ (tm' ++ ((TW, W.listOf vw.toArray 0) :: (E9, W.listOf ve.toArray ee) :: (R, W.listOf vr.toArray er) :: (H, W.listOf vh.toArray eh) :: (TT, W.listOf vt.toArray et) :: (cS, oz) :: []))) := fun p hp => List.mem_append_right _ (.tail _ hp)
    have k2 : ∀ p ∈ (TW, W.listOf vw.toArray 0) :: (E9, W.listOf ve.toArray ee) :: (R, W.listOf vr.toArray er) :: (H, W.listOf vh.toArray eh) :: (TT, W.listOf vt.toArray et) :: (cS, oz) :: [], p ∈ td5 ++ (M3, W.listOf vm.toArray em) :: (E3, W.listOf ve3.toArray ee3) :: (cS, oz) :: (tb' ++ (tm' ++ ((TW, W.listOf vw.toArray 0) :: (E9, W.listOf ve.toArray ee) :: (R, W.listOf vr.toArray er) :: (H, W.listOf vh.toArray eh) :: (TT, W.listOf vt.toArray et) :: (cS, oz) :: []))) := fun p hp => k1 p (.tail _ (.tail _ (List.mem_append_right _ (List.mem_append_right _ hp))))
    exact List.forall_mem_cons.mpr ⟨k1 _ (.tail _ (.head _)), List.forall_mem_cons.mpr ⟨k2 _ (by repeat (first | exact .head _ | refine .tail _ ?_)), List.forall_mem_cons.mpr ⟨k2 _ (by repeat (first | exact .head _ | refine .tail _ ?_)), List.forall_mem_cons.mpr ⟨k2 _ (by repeat (first | exact .head _ | refine .tail _ ?_)), List.forall_mem_cons.mpr ⟨k2 _ (by repeat (first | exact .head _ | refine .tail _ ?_)), List.forall_mem_cons.mpr ⟨k2 _ (by repeat (first | exact .head _ | refine .tail _ ?_)), List.forall_mem_cons.mpr ⟨k1 _ (.tail _ (.tail _ (List.mem_append_right _ (List.mem_append_left _ hq1)))), List.forall_mem_cons.mpr ⟨List.mem_append_left _ hq2, List.forall_mem_cons.mpr ⟨k1 _ (.tail _ (.tail _ (List.mem_append_left _ hq3))), List.forall_mem_cons.mpr ⟨k1 _ (.head _), fun _ h => nomatch h⟩⟩⟩⟩⟩⟩⟩⟩⟩⟩)
  clear N8
  (try dsimp only)
  k_steps
  unfold Halt
  (rename News _ _ _ _ => Nd)
  refine' ke_ne_ints (a := E3) (b := E9) (xs := ve3) (ys := ve) ?ha7 ?hb7 iE3 iE ?hu7 ?_
  (case ha7 => exact News.isList Nd (by k_mem))
  (case hb7 => exact News.isList Nd (by k_mem))
  (case hu7 => (show un + 64 < cLine; simp only [cLine_is] at *; omega))
  rw [decide_eq_true rfl, Bool.not_true]
  k_steps
  unfold Halt
  (rename News _ _ _ _ => Ne)
  (rename Fr _ _ _ _ => Fe)
  refine' law_end (sz := sz) (mn := mn) (cS := cS) (oz := oz) (E9 := E9) (R := R) (TW := TW) (H := H) (TT := TT) (p1 := q1) (p2 := q2) (p3 := q3) (row := row) (here := here) (there := there) (twin := wl) (es := es) ?B9 Fe ?X9 ?N9 ?T9 ?hk9 ?hd9 ?hu9 rfl rfl hoz rfl rfl rfl rfl rfl rfl iR iW iH iT iE r4 w4 h4 t4 lr lwl lh lt les hsz hmn jd1 jd2 ?_
  (case B9 => k_asm)
  (case X9 => k_asm)
  (case N9 => exact cb_drop Ne (List.forall_mem_cons.mpr ⟨by k_mem, List.forall_mem_cons.mpr ⟨by k_mem, List.forall_mem_cons.mpr ⟨by k_mem, List.forall_mem_cons.mpr ⟨by k_mem, List.forall_mem_cons.mpr ⟨by k_mem, List.forall_mem_cons.mpr ⟨by k_mem, List.forall_mem_cons.mpr ⟨by k_mem, List.forall_mem_cons.mpr ⟨by k_mem, List.forall_mem_cons.mpr ⟨by k_mem, fun _ h => nomatch h⟩⟩⟩⟩⟩⟩⟩⟩⟩))
  (case T9 => k_asm)
  (case hk9 => exact rfl)
  (case hd9 => (simp only [recursionLimit] at *; omega))
  (case hu9 => (simp only [cLine_is] at *; omega))
  intro h9 tk9 m9 F9 N9
  exact ret q1 q2 q3 h9 tk9 m9 F9 (cb_drop N9 (List.forall_mem_cons.mpr ⟨.head _, List.forall_mem_cons.mpr ⟨(by repeat (first | exact .head _ | refine .tail _ ?_)), List.forall_mem_cons.mpr ⟨(by repeat (first | exact .head _ | refine .tail _ ?_)), List.forall_mem_cons.mpr ⟨(by repeat (first | exact .head _ | refine .tail _ ?_)), fun _ h => nomatch h⟩⟩⟩⟩))
end
section
local macro_rules | `(tactic| walk_at "zzpad") => `(tactic| skip)
def lawFst (p : Program) : Option (List Stmt × Scope) :=
  match (p.main.body[(20 : Nat)]? : Option Stmt) with
  | some (.FunctionDef _ _ (_ :: _ :: _ :: _ :: _ :: _ :: b) _ _ _ sc _ _ _) => some (b, sc)
  | _ => none
local macro_rules | `(tactic| walk_at "call ref") => `(tactic| refine haltK (by decide) ?_)
local macro_rules | `(tactic| walk_at "call builtin:len") => `(tactic| (k_here; k_dflt (refine' len_L ?N ?m ?f ?_; (case N => k_asm); (case m => k_mem); (case f => omega); k_whole)))
local macro_rules | `(tactic| walk_at "compareOp NotEq ref ref") => `(tactic| refine Halt.of ?_)
local macro_rules | `(tactic| walk_at "execs cons") => `(tactic| with_reducible refine haltE6 ?_)
set_option maxHeartbeats 4000000 in
theorem law_first {w : World} {mg mb : Str → Option Value} {p : Program} {loose : List Str} {mean : ExcName → Option Value} {dp un : Nat} {gd : Option (List Code)} {cn : Str} {cs : Scope} {a : Addr} {ccd : Value} {cl : List (Str × Addr)} {outer : List Env} {A₀ : Around} {base h₀ : Heap} {L : Addr} {m : Str → Option Value} {s : Shared} {Q : Flow → Shared → Prop} {E : Value → Shared → Prop}{R H TT cS : Addr} {vr vh vt : List Value} {er eh et : Nat} {oz : Obj} {sz mn nN : Nat} {tz tm8 tn : Tok} {row here there : List Nat} {bd9 : List Stmt} {tb td tm9 : List (Addr × Obj)}
  (B : Below A₀ base outer h₀) (F : Fr h₀ L s.heap m) (X : (hd1.heap_39 w.params).In h₀) (N : News h₀ L s.heap (tb ++ (td ++ (tm9 ++ ((R, W.listOf vr.toArray er) :: (H, W.listOf vh.toArray eh) :: (TT, W.listOf vt.toArray et) :: (cS, oz) :: []))))) (T : Top p loose mean mg mb h₀) (hk : cs.kind = .function) (hd : dp + 420 < recursionLimit) (hu : un + 4000 < cLine)
  (hb9 : lawFst PySem.Challenge.pw_pg0212_02 = some (bd9, cs)) (hcl : cl = [(("size" : Str), cS)]) (hoz : oz.data = .cell (some (.int (sz : Int) tz)))
  (hm1 : m ("many" : Str) = some (.int (mn : Int) tm8)) (hm2 : m ("here" : Str) = some (.ref H)) (hm3 : m ("there" : Str) = some (.ref TT)) (hm4 : m ("row" : Str) = some (.ref R)) (hm7 : m ("number" : Str) = some (.int (nN : Int) tn))
  (iR : IntsAre vr (row.map Int.ofNat)) (iH : IntsAre vh (here.map Int.ofNat)) (iT : IntsAre vt (there.map Int.ofNat))
  (r4 : ∀ d ∈ row, d < 4) (h4 : ∀ d ∈ here, d < 4) (t4 : ∀ d ∈ there, d < 4) (lr : row.length = sz) (lh : here.length = mn) (lt : there.length = mn) (hsz : sz ≤ 8) (hmn : mn ≤ 4) (hrow : row = digsN 4 sz nN) (hnN : nN < 4 ^ sz)
  (ti : TabI2 tb) (td2 : TabD2 td) (tms : TabM tm9) (CM : CodeHd base 128 126) (CI : CodeHd base 83 79) (CD : CodeHd base 90 86)
  (dj0 : ∀ q ∈ ((R, W.listOf vr.toArray er) :: (H, W.listOf vh.toArray eh) :: (TT, W.listOf vt.toArray et) :: (cS, oz) :: [] : List (Addr × Obj)), q.1 ≠ 126) (dj1 : ∀ p ∈ tb, ∀ q ∈ td ++ (tm9 ++ ((R, W.listOf vr.toArray er) :: (H, W.listOf vh.toArray eh) :: (TT, W.listOf vt.toArray et) :: (cS, oz) :: [])), p.1 ≠ q.1) (dj2 : ∀ p ∈ td, ∀ q ∈ tm9 ++ ((R, W.listOf vr.toArray er) :: (H, W.listOf vh.toArray eh) :: (TT, W.listOf vt.toArray et) :: (cS, oz) :: []), p.1 ≠ q.1)
  (ret : ∀ (p1 p2 p3 : Array Value) (h' : Heap) (tk' : Nat) (m' : Str → Option Value), Fr h₀ L h' m' → News h₀ L h' ((cS, oz) :: (126, tabObj p1) :: (86, tabObj p2) :: (79, tabObj p3) :: []) → Q (.ret (.bool true)) { s with heap := h', toks := tk' }) :
  wpAny (model PySem.Challenge.pw_pg0212_02 w) (ktrTop dp un gd cn cs L a ccd cl outer) (execs bd9 (envX cn cs L a ccd cl)) Q E s := by
  cases hb9
  subst hcl
  obtain ⟨wl, hwl⟩ : ∃ wl, wl = (wkL row here there 0).1 := ⟨_, rfl⟩
  obtain ⟨es, hes⟩ : ∃ es, es = (wkL row here there 0).2 := ⟨_, rfl⟩
  have lwl : wl.length = sz := by rw [hwl, wkL_length, lr]
  have w4 : ∀ d ∈ wl, d < 4 := by rw [hwl]; exact wkL_lt row here there 0 r4
  have F0 := ksw_fr (ps := [("many", .int (mn : Int) tm8), ("here", .ref H), ("there", .ref TT), ("row", .ref R), ("number", .int (nN : Int) tn)]) (stored := []) (m₀ := m) (List.forall_mem_cons.mpr ⟨hm1, List.forall_mem_cons.mpr ⟨hm2, List.forall_mem_cons.mpr ⟨hm3, List.forall_mem_cons.mpr ⟨hm4, List.forall_mem_cons.mpr ⟨hm7, fun _ h => nomatch h⟩⟩⟩⟩⟩) (fun _ _ _ => rfl) F
  clear F
  k_steps
  unfold Halt
  (rename News _ _ _ _ => Na)
  refine' mov_spec (row := row) (here := here) (there := there) (tb := tb) (td := td) (tm := tm9) (rest := (R, W.listOf vr.toArray er) :: (H, W.listOf vh.toArray eh) :: (TT, W.listOf vt.toArray et) :: (cS, oz) :: []) ?B1 ?F1 ?X1 Na ?T1 ?hk1 ?hd1 ?hu1 CM tms dj0 CI CD (.head _) (by repeat (first | exact .head _ | refine .tail _ ?_)) (by repeat (first | exact .head _ | refine .tail _ ?_)) iR r4 (by omega) iH iT h4 t4 (by omega) (by omega) ti td2 dj1 dj2 ?_
  (case B1 => k_asm)
  (case F1 => k_asm)
  (case X1 => k_asm)
  (case T1 => k_asm)
  (case hk1 => exact rfl)
  (case hd1 => (simp only [recursionLimit] at *; omega))
  (case hu1 => (simp only [cLine_is] at *; omega))
  intro D2 M2 E2 vm em ve2 ee2 tm' tb' td' h4' tk4 F4 N5 iM iE2 tms' ti' td3 dj1' dj2' of1 of2
  have mw := mov_walk here there row [] [] t4 (by omega)
  rw [mw.1, List.nil_append, List.length_nil, ← hwl] at iM
  rw [mw.2, List.nil_append, List.length_nil, ← hes] at iE2
  clear mw
  have hvm : vm.length = sz := by rw [iM.length, List.length_map, lwl]
  (try dsimp only)
  k_steps
  unfold Halt
  (rename News _ _ _ _ => Nc)
  have mcS : (cS, oz) ∈ tm' ++ ((R, W.listOf vr.toArray er) :: (H, W.listOf vh.toArray eh) :: (TT, W.listOf vt.toArray et) :: (cS, oz) :: []) := List.mem_append_right _ (.tail _ (by repeat (first | exact .head _ | refine .tail _ ?_)))
  have N7 := cb_drop (news := td' ++ (M2, W.listOf vm.toArray em) :: (E2, W.listOf ve2.toArray ee2) :: (cS, oz) :: (tb' ++ (tm' ++ ((R, W.listOf vr.toArray er) :: (H, W.listOf vh.toArray eh) :: (TT, W.listOf vt.toArray et) :: (cS, oz) :: [])))) Nc (List.forall_mem_append.mpr ⟨fun p hp => (by repeat (first | exact List.mem_append_right _ (List.mem_append_left _ hp) | refine List.Mem.tail _ ?_)), List.forall_mem_cons.mpr ⟨(by repeat (first | exact .head _ | refine .tail _ ?_)), List.forall_mem_cons.mpr ⟨(by repeat (first | exact .head _ | refine .tail _ ?_)), List.forall_mem_cons.mpr ⟨(by repeat (first | exact List.mem_append_right _ (List.mem_append_right _ mcS) | refine List.Mem.tail _ ?_)), List.forall_mem_append.mpr ⟨fun p hp => (by repeat (first | exact List.mem_append_left _ hp | refine List.Mem.tail _ ?_)), fun p hp => (by repeat (first | exact List.mem_append_right _ (List.mem_append_right _ hp) | refine List.Mem.tail _ ?_))⟩⟩⟩⟩⟩)
  clear Nc
  refine' d2i_spec (nN := 2) (D := M2) (vs := vm) (ds := wl) (ep := em) (tb := td') (rest := (E2, W.listOf ve2.toArray ee2) :: (cS, oz) :: (tb' ++ (tm' ++ ((R, W.listOf vr.toArray er) :: (H, W.listOf vh.toArray eh) :: (TT, W.listOf vt.toArray et) :: (cS, oz) :: [])))) ?B3 ?F3 ?X3 N7 ?T3 ?hk3 ?hd3 ?hu3 td3 ?c33 CD rfl (by decide) (by decide) iM (by omega) w4 ?_
  (case B3 => k_asm)
  (case F3 => k_asm)
  (case X3 => k_asm)
  (case T3 => k_asm)
  (case hk3 => exact rfl)
  (case hd3 => (simp only [recursionLimit] at *; omega))
  (case hu3 => (simp only [cLine_is] at *; omega))
  (case c33 => exact fun p hp => List.forall_mem_cons.mpr ⟨of1 p (List.mem_append_right _ hp) M2 (.tail _ (.head _)), List.forall_mem_cons.mpr ⟨of1 p (List.mem_append_right _ hp) E2 (.tail _ (.tail _ (.head _))), List.forall_mem_cons.mpr ⟨dj2' p hp _ mcS, List.forall_mem_append.mpr ⟨fun q hq => (dj1' q hq p (List.mem_append_left _ hp)).symm, fun q hq => dj2' p hp q hq⟩⟩⟩⟩)
  intro t5 td5 h5 tk5 F5 N8 tds5 dj5
  rw [show numD (2 ^ 2) wl = numD 4 wl from rfl]
  have kk : ∀ p ∈ tm' ++ ((R, W.listOf vr.toArray er) :: (H, W.listOf vh.toArray eh) :: (TT, W.listOf vt.toArray et) :: (cS, oz) :: []), p ∈ td5 ++ (M2, W.listOf vm.toArray em) :: (E2, W.listOf ve2.toArray ee2) :: (cS, oz) :: (tb' ++ (tm' ++ ((R, W.listOf vr.toArray er) :: (H, W.listOf vh.toArray eh) :: (TT, W.listOf vt.toArray et) :: (cS, oz) :: []))) := fun p hp => List.mem_append_right _ (.tail _ (.tail _ (.tail _ (List.mem_append_right _ hp))))
  have N9 := cb_drop (news := (M2, W.listOf vm.toArray em) :: (E2, W.listOf ve2.toArray ee2) :: (cS, oz) :: (H, W.listOf vh.toArray eh) :: (TT, W.listOf vt.toArray et) :: (tb' ++ (td5 ++ (tm' ++ ((E2, W.listOf ve2.toArray ee2) :: (R, W.listOf vr.toArray er) :: (H, W.listOf vh.toArray eh) :: (TT, W.listOf vt.toArray et) :: (cS, oz) :: []))))) N8 (List.forall_mem_cons.mpr ⟨List.mem_append_right _ (.head _), List.forall_mem_cons.mpr ⟨List.mem_append_right _ (.tail _ (.head _)), List.forall_mem_cons.mpr ⟨List.mem_append_right _ (.tail _ (.tail _ (.head _))), List.forall_mem_cons.mpr ⟨kk _ (List.mem_append_right _ (by repeat (first | exact .head _ | refine .tail _ ?_))), List.forall_mem_cons.mpr ⟨kk _ (List.mem_append_right _ (by repeat (first | exact .head _ | refine .tail _ ?_))), List.forall_mem_append.mpr ⟨fun p hp => List.mem_append_right _ (.tail _ (.tail _ (.tail _ (List.mem_append_left _ hp)))), List.forall_mem_append.mpr ⟨fun p hp => List.mem_append_left _ hp, List.forall_mem_append.mpr ⟨fun p hp => kk p (List.mem_append_left _ hp), List.forall_mem_cons.mpr ⟨List.mem_append_right _ (.tail _ (.head _)), fun p hp => kk p (List.mem_append_right _ hp)⟩⟩⟩⟩⟩⟩⟩⟩⟩)
  clear N8
  (try dsimp only)
  k_steps
  unfold Halt
  (rename News _ _ _ _ => Nd)
  refine' wal_spec (H := H) (TT := TT) (xN := nN) (sz := sz) (row := row) (here := here) (there := there) ?B4 ?F4 ?X4 Nd ?T4 ?hk4 ?hd4 ?hu4 ?mh4 ?mt4 iH iT h4 t4 (by omega) (by omega) (by omega) hnN hrow ?_
  (case B4 => k_asm)
  (case F4 => k_asm)
  (case X4 => k_asm)
  (case T4 => k_asm)
  (case hk4 => exact rfl)
  (case hd4 => (simp only [recursionLimit] at *; omega))
  (case hu4 => (simp only [cLine_is] at *; omega))
  (case mh4 => k_mem)
  (case mt4 => k_mem)
  intro D9 E9 ve9 ee9 t9 h9 tk9 F9 N10 iE9 _ _
  rw [← hwl] at N10
  rw [← hes] at iE9
  (try dsimp only)
  k_steps
  unfold Halt
  (rename News _ _ _ _ => Ne)
  refine' ne_pair (D2 := D9) (E1 := E2) (E2 := E9) (v1 := ve2) (v2 := ve9) Ne ?p1 ?p2 ?p3 ?p4 iE2 iE9 ?hu5 ?_
  (case p1 => exact .tail _ (.tail _ (.head _)))
  (case p2 => k_mem)
  (case p3 => exact .head _)
  (case p4 => k_mem)
  (case hu5 => (show un + 64 < cLine; simp only [cLine_is] at *; omega))
  k_steps
  unfold Halt
  (rename News _ _ _ _ => Nf)
  (rename Fr _ _ _ _ => Ff)
  obtain ⟨q1, hq1⟩ := tabM_mem tms'
  have N11 := cb_drop (news := tb' ++ (td5 ++ (tm' ++ ((E2, W.listOf ve2.toArray ee2) :: (R, W.listOf vr.toArray er) :: (H, W.listOf vh.toArray eh) :: (TT, W.listOf vt.toArray et) :: (cS, oz) :: [])))) Nf (fun p hp => by repeat (first | exact hp | refine List.Mem.tail _ ?_))
  clear Nf
  refine' law_mid (sz := sz) (mn := mn) (nN := nN) (cS := cS) (oz := oz) (E9 := E2) (R := R) (H := H) (TT := TT) (row := row) (here := here) (there := there) (wl := wl) (es := es) (tb := tb') (td := td5) (tm9 := tm') ?B9 Ff ?X9 N11 ?T9 ?hk9 ?hd9 ?hu9 rfl rfl hoz rfl rfl rfl rfl rfl rfl rfl iR iH iT r4 h4 t4 lr lh lt hsz hmn hrow hnN ti' tds5 tms' CM CI CD hwl hes iE2 ?d0 ?d1 ?d2 ?_
  (case B9 => k_asm)
  (case X9 => k_asm)
  (case T9 => k_asm)
  (case hk9 => exact rfl)
  (case hd9 => (simp only [recursionLimit] at *; omega))
  (case hu9 => (simp only [cLine_is] at *; omega))
  (case d0 => exact List.forall_mem_cons.mpr ⟨(of2 _ (List.mem_append_left _ hq1) E2 (.tail _ (.tail _ (.head _)))).symm, dj0⟩)
  (case d1 => exact fun p hp => List.forall_mem_append.mpr ⟨fun q hq => (dj5 q hq p (.tail _ (.tail _ (.tail _ (List.mem_append_left _ hp))))).symm, List.forall_mem_append.mpr ⟨fun q hq => dj1' p hp q (List.mem_append_right _ (List.mem_append_left _ hq)), List.forall_mem_cons.mpr ⟨of1 p (List.mem_append_left _ hp) E2 (.tail _ (.tail _ (.head _))), fun q hq => dj1' p hp q (List.mem_append_right _ (List.mem_append_right _ hq))⟩⟩⟩)
  (case d2 => exact fun p hp => List.forall_mem_append.mpr ⟨fun q hq => dj5 p hp q (.tail _ (.tail _ (.tail _ (List.mem_append_right _ (List.mem_append_left _ hq))))), List.forall_mem_cons.mpr ⟨dj5 p hp _ (.tail _ (.head _)), fun q hq => dj5 p hp q (.tail _ (.tail _ (.tail _ (List.mem_append_right _ (List.mem_append_right _ hq)))))⟩⟩)
  intro p1 p2 p3 h20 tk20 m20 F20 N20
  exact ret p1 p2 p3 h20 tk20 m20 F20 N20
end
section
theorem pick_ints {vs : List Value} {ns : List Int} {lo hi st : Option Int} (iv : IntsAre vs ns) : AllInts (slicePick vs.toArray lo hi st) := by
  have h := iv.allInts
  intro v hv
  unfold slicePick at hv
  rw [List.mem_toArray, List.mem_filterMap] at hv
  obtain ⟨i, _, hi⟩ := hv
  exact h v (Array.mem_of_getElem? hi)
theorem sum_pick {prog : Program} {w : World} {A : Around} {E : Value → Shared → Prop} {s : Shared} {h₀ : Heap} {L l : Addr} {m : Str → Option Value} {news : List (Addr × Obj)} {vs : List Value} {ns : List Int} {lo hi st : Option Int} {k : Nat} {Q : Value → Shared → Prop} (hh : A.handled = none) (F : Fr h₀ L s.heap m) (N : News h₀ L s.heap news) (hm : (l, ({ cls := .type "list", data := .seq (slicePick vs.toArray lo hi st) k } : Obj)) ∈ news) (iv : IntsAre vs ns)
    (h : ∀ (S : Int) h' tk t', Fr h₀ L h' m → News h₀ L h' news → Q (.int S t') { s with heap := h', toks := tk }) :
    wpAny (model prog w) A (call (.builtin "sum") [.ref l]) Q E s :=
  sumK (vs := (slicePick vs.toArray lo hi st).toList) hh F N (by rw [Array.toArray_toList]; exact News.isList N hm) (intsAre_of (pick_ints iv)) (fun h' tk t' F' N' => h _ h' tk t' F' N')
theorem size_fact (n : Nat) : ∃ sz : Nat, 4 + ((n : Nat) : Int).fmod 5 = (sz : Int) ∧ 4 ≤ sz ∧ sz ≤ 8 := by
  refine ⟨4 + n % 5, ?_, by omega, by omega⟩
  rw [Int.fmod_eq_emod_of_nonneg _ (by decide)]; omega
theorem many_fact (x : Int) : ∃ k : Nat, 1 + (x + 1).fmod 4 = (k : Int) ∧ 1 ≤ k ∧ k ≤ 4 := by
  refine ⟨1 + ((x + 1) % 4).toNat, ?_, by omega, ?_⟩
  · rw [Int.fmod_eq_emod_of_nonneg _ (by decide)]; omega
  · omega
theorem mod_fact (x : Int) (k : Nat) : ∃ n : Nat, x.fmod (((4 ^ k : Nat) : Nat) : Int) = (n : Int) ∧ n < 4 ^ k := by
  have h : 0 < (4 : Nat) ^ k := Nat.pow_pos (by decide)
  refine ⟨(x % ((4 ^ k : Nat) : Int)).toNat, ?_, ?_⟩
  · rw [Int.fmod_eq_emod_of_nonneg _ (by omega)]
    have := Int.emod_nonneg x (b := ((4 ^ k : Nat) : Int)) (by omega)
    omega
  · have h1 := Int.emod_lt_of_pos x (b := ((4 ^ k : Nat) : Int)) (by omega)
    have := Int.emod_nonneg x (b := ((4 ^ k : Nat) : Int)) (by omega)
    omega
theorem prog_two : PySem.Challenge.rw_pg0212_02.row.prog = PySem.Challenge.pw_pg0212_02 := rfl
local macro_rules | `(tactic| walk_at "call ref") => `(tactic| refine Halt.of ?_)
local macro_rules | `(tactic| walk_at "binaryOp Pow int int") => `(tactic| refine Halt.of ?_)
local macro_rules | `(tactic| walk_at "execs cons") => `(tactic| with_reducible refine haltE9 ?_)
local macro_rules | `(tactic| walk_at "call builtin:len") => `(tactic| (k_here; k_dflt (refine' len_L ?N ?m ?f ?_; (case N => k_asm); (case m => k_mem); (case f => omega); k_whole)))
set_option maxHeartbeats 4000000 in
theorem law_two : PySem.Challenge.rw_pg0212_02.Holds := hd1 (by
  k_go0
  (all_goals try k_fold)
  k_steps
  (rename IntsAre _ _ => hI)
  (rename List Int => scr)
  (rename Obj.data _ = Data.cell _ => dz)
  (rename Fr _ _ _ _ => Fz)
  (rename News _ _ _ _ => Nz)
  obtain ⟨sz, hsz, sz4, sz8⟩ := size_fact scr.length
  obtain ⟨mn, hmn, mn1, mn4⟩ := many_fact scr.sum
  rw [hsz] at dz
  simp only [hmn] at Fz
  refine' sum_pick (k := 0) rfl ?F1 ?N1 ?m1 hI ?_
  (case F1 => k_asm)
  (case N1 => k_asm)
  (case m1 => k_mem)
  intro S1 h1 tk1 t1 F1 N1
  k_steps
  unfold Halt
  obtain ⟨pw, hpw⟩ : ∃ pw, (4 : Nat) ^ sz = pw := ⟨_, rfl⟩
  have hp0 : 0 < pw := hpw ▸ Nat.pow_pos (by decide)
  have hp1 : pw ≤ 4 ^ 8 := hpw ▸ Nat.pow_le_pow_right (by decide) sz8
  refine pow4 hpw (by omega) ?_
  k_steps
  (rename Fr _ _ _ _ => Fy)
  (rename News _ _ _ _ => Ny)
  obtain ⟨nN, hnN, hnl⟩ := mod_fact (S1 + 114) sz
  rw [hpw] at hnN hnl
  simp only [hnN] at Fy
  refine' sum_pick (k := 0) rfl ?F2 ?N2 ?m2 hI ?_
  (case F2 => k_asm)
  (case N2 => k_asm)
  (case m2 => k_mem)
  intro S2 h2 tk2 t2 F2 N2
  k_steps
  unfold Halt
  obtain ⟨pm, hpm⟩ : ∃ pm, (4 : Nat) ^ mn = pm := ⟨_, rfl⟩
  have hm0 : 0 < pm := hpm ▸ Nat.pow_pos (by decide)
  have hm1 : pm ≤ 4 ^ 4 := hpm ▸ Nat.pow_le_pow_right (by decide) mn4
  refine pow4 hpm (by omega) ?_
  k_steps
  unfold Halt
  obtain ⟨hN, hhN, hhl⟩ := mod_fact (S2 + 6) mn
  rw [hpm] at hhN hhl
  rw [hhN, prog_two]
  (rename Shared => s1)
  (rename Obj => oz)
  (rename 126 < s1.heap.objs.size ∧ _ => l0)
  (rename CodeHd _ 128 126 => CM)
  (rename CodeHd _ 83 79 => CI)
  (rename CodeHd _ 90 86 => CD)
  (rename News _ _ _ _ => Nx)
  have N3 := cb_drop (news := (79, tabObj #[]) :: (s1.heap.objs.size + 1, oz) :: (126, tabObj #[]) :: (86, tabObj #[]) :: []) Nx (List.forall_mem_cons.mpr ⟨by k_mem, List.forall_mem_cons.mpr ⟨by k_mem, List.forall_mem_cons.mpr ⟨by k_mem, List.forall_mem_cons.mpr ⟨by k_mem, fun _ h => nomatch h⟩⟩⟩⟩)
  clear Nx
  refine' dig_spec (xN := hN) (sz := mn) (tb := [(79, tabObj #[])]) (rest := (s1.heap.objs.size + 1, oz) :: (126, tabObj #[]) :: (86, tabObj #[]) :: []) ?B1 ?F1 ?X1 ?N1 ?T1 ?hk1 ?hd1 ?hu1 .nil ?dj1 CI (by omega) (hpm ▸ hhl) ?_
  (case B1 => k_asm)
  (case F1 => k_asm)
  (case X1 => k_asm)
  (case N1 => k_asm)
  (case T1 => k_asm)
  (case hk1 => exact rfl)
  (case hd1 => decide +kernel)
  (case hu1 => decide +kernel)
  (case dj1 => (intro p hp; rw [List.mem_singleton.mp hp]; exact List.forall_mem_cons.mpr ⟨by refine neN ?_; dsimp only at *; omega, List.forall_mem_cons.mpr ⟨by decide, List.forall_mem_cons.mpr ⟨by decide, fun _ h => nomatch h⟩⟩⟩))
  intro H vh tb3 h3 tk3 F3 N4 iH ti3 dj3 off3
  k_steps
  refine' sum_pick (k := 0) rfl ?F5 ?N5 ?m5 hI ?_
  (case F5 => k_asm)
  (case N5 => k_asm)
  (case m5 => exact .head _)
  intro S3 h5 tk5 t5 F5 N5
  k_steps
  unfold Halt
  refine pow4 hpm (by omega) ?_
  k_steps
  unfold Halt
  obtain ⟨tN, htN, htl⟩ := mod_fact (S3 + 9) mn
  rw [hpm] at htN htl
  rw [htN]
  (rename News _ _ _ _ => Nw)
  have N6 := cb_drop (news := tb3 ++ (H, W.listOf vh.toArray 0) :: (s1.heap.objs.size + 1, oz) :: (126, tabObj #[]) :: (86, tabObj #[]) :: []) Nw (List.forall_mem_append.mpr ⟨fun p hp => (by repeat (first | exact List.mem_append.mpr (.inl hp) | refine List.Mem.tail _ ?_)), List.forall_mem_cons.mpr ⟨by (repeat (first | exact .head _ | refine List.Mem.tail _ ?_)), fun p hp => (by repeat (first | exact List.mem_append.mpr (.inr hp) | refine List.Mem.tail _ ?_))⟩⟩)
  clear Nw
  have o3H : ∀ p ∈ tb3, p.1 ≠ H := fun p hp => Nat.ne_of_lt (off3 p (List.mem_append.mpr (.inl hp)))
  refine' dig_spec (xN := tN) (sz := mn) (tb := tb3) (rest := (H, W.listOf vh.toArray 0) :: (s1.heap.objs.size + 1, oz) :: (126, tabObj #[]) :: (86, tabObj #[]) :: []) ?B2 ?F2 ?X2 ?N2 ?T2 ?hk2 ?hd2 ?hu2 ti3 ?dj2 CI (by omega) (hpm ▸ htl) ?_
  (case B2 => k_asm)
  (case F2 => k_asm)
  (case X2 => k_asm)
  (case N2 => k_asm)
  (case T2 => k_asm)
  (case hk2 => exact rfl)
  (case hd2 => decide +kernel)
  (case hu2 => decide +kernel)
  (case dj2 => exact fun p hp => List.forall_mem_cons.mpr ⟨o3H p hp, dj3 p hp⟩)
  intro TT vt tb6 h6 tk6 F6 N7 iT ti6 dj6 off6
  have N7c := cb_drop (news := (TT, W.listOf vt.toArray 0) :: (s1.heap.objs.size + 1, oz) :: (tb6 ++ (H, W.listOf vh.toArray 0) :: (s1.heap.objs.size + 1, oz) :: (126, tabObj #[]) :: (86, tabObj #[]) :: [])) N7 (List.forall_mem_cons.mpr ⟨.head _, List.forall_mem_cons.mpr ⟨.tail _ (List.mem_append.mpr (.inr (.tail _ (.head _)))), fun p hp => .tail _ hp⟩⟩)
  clear N7
  k_steps
  unfold Halt
  (rename News _ _ _ _ => Nw)
  have N8 := cb_drop (news := tb6 ++ (TT, W.listOf vt.toArray 0) :: (H, W.listOf vh.toArray 0) :: (s1.heap.objs.size + 1, oz) :: (126, tabObj #[]) :: (86, tabObj #[]) :: []) Nw (List.forall_mem_append.mpr ⟨fun p hp => (by repeat (first | exact List.mem_append.mpr (.inl hp) | refine List.Mem.tail _ ?_)), List.forall_mem_cons.mpr ⟨by (repeat (first | exact .head _ | refine List.Mem.tail _ ?_)), fun p hp => (by repeat (first | exact List.mem_append.mpr (.inr hp) | refine List.Mem.tail _ ?_))⟩⟩)
  clear Nw
  have o6T : ∀ p ∈ tb6, p.1 ≠ TT := fun p hp => Nat.ne_of_lt (off6 p (List.mem_append.mpr (.inl hp)))
  refine' dig_spec (xN := nN) (sz := sz) (tb := tb6) (rest := (TT, W.listOf vt.toArray 0) :: (H, W.listOf vh.toArray 0) :: (s1.heap.objs.size + 1, oz) :: (126, tabObj #[]) :: (86, tabObj #[]) :: []) ?B3 ?F3 ?X3 ?N3 ?T3 ?hk3 ?hd3 ?hu3 ti6 ?dj3 CI (by omega) (hpw ▸ hnl) ?_
  (case B3 => k_asm)
  (case F3 => k_asm)
  (case X3 => k_asm)
  (case N3 => k_asm)
  (case T3 => k_asm)
  (case hk3 => exact rfl)
  (case hd3 => decide +kernel)
  (case hu3 => decide +kernel)
  (case dj3 => exact fun p hp => List.forall_mem_cons.mpr ⟨o6T p hp, dj6 p hp⟩)
  intro R vr tb8 h8 tk8 F8 N9 iR ti8 dj8 off8
  k_steps
  unfold Halt
  (rename News _ _ _ _ => Nx)
  (rename Fr _ _ _ _ => Fx)
  have b3 := off3
  have a1 : @LT.lt Nat _ 126 H := off3 (126, tabObj #[]) (List.mem_append_right _ (.tail _ (.head _)))
  have a2 : @LT.lt Nat _ 86 H := off3 (86, tabObj #[]) (List.mem_append_right _ (.tail _ (.tail _ (.head _))))
  have a3 : @LT.lt Nat _ 126 TT := off6 (126, tabObj #[]) (List.mem_append_right _ (.tail _ (.tail _ (.head _))))
  have a4 : @LT.lt Nat _ 86 TT := off6 (86, tabObj #[]) (List.mem_append_right _ (.tail _ (.tail _ (.tail _ (.head _)))))
  have a5 : @LT.lt Nat _ 126 R := off8 (126, tabObj #[]) (List.mem_append_right _ (.tail _ (.tail _ (.tail _ (.head _)))))
  have a6 : @LT.lt Nat _ 86 R := off8 (86, tabObj #[]) (List.mem_append_right _ (.tail _ (.tail _ (.tail _ (.tail _ (.head _))))))
  have a7 : @LT.lt Nat _ 126 (s1.heap.objs.size + 1) := Nat.lt_succ_of_lt l0.1
  have a8 : @LT.lt Nat _ 86 (s1.heap.objs.size + 1) := Nat.lt_succ_of_lt l0.2.2
  have N11 := cb_drop (news := tb8 ++ ((86, tabObj #[]) :: (126, tabObj #[]) :: (R, W.listOf vr.toArray 0) :: (H, W.listOf vh.toArray 0) :: (TT, W.listOf vt.toArray 0) :: (s1.heap.objs.size + 1, oz) :: [])) Nx (List.forall_mem_append.mpr ⟨fun p hp => .tail _ (List.mem_append_left _ hp), List.forall_mem_cons.mpr ⟨.tail _ (List.mem_append_right _ (by repeat (first | exact .head _ | refine .tail _ ?_))), List.forall_mem_cons.mpr ⟨.tail _ (List.mem_append_right _ (by repeat (first | exact .head _ | refine .tail _ ?_))), List.forall_mem_cons.mpr ⟨.head _, List.forall_mem_cons.mpr ⟨.tail _ (List.mem_append_right _ (by repeat (first | exact .head _ | refine .tail _ ?_))), List.forall_mem_cons.mpr ⟨.tail _ (List.mem_append_right _ (by repeat (first | exact .head _ | refine .tail _ ?_))), List.forall_mem_cons.mpr ⟨.tail _ (List.mem_append_right _ (by repeat (first | exact .head _ | refine .tail _ ?_))), fun _ h => nomatch h⟩⟩⟩⟩⟩⟩⟩)
  clear Nx
  refine' law_first (sz := sz) (mn := mn) (nN := nN) (cS := s1.heap.objs.size + 1) (oz := oz) (R := R) (H := H) (TT := TT) (row := digsN 4 sz nN) (here := digsN 4 mn hN) (there := digsN 4 mn tN) (tb := tb8) (td := [(86, tabObj #[])]) (tm9 := [(126, tabObj #[])]) ?B9 Fx ?X9 N11 ?T9 ?hk9 ?hd9 ?hu9 rfl rfl dz rfl rfl rfl rfl rfl iR iH iT (digsN_lt (by decide) _ _) (digsN_lt (by decide) _ _) (digsN_lt (by decide) _ _) (digsN_length 4 _ _) (digsN_length 4 _ _) (digsN_length 4 _ _) sz8 mn4 rfl (hpw ▸ hnl) ti8 .nil .nil CM CI CD ?d0 ?d1 ?d2 ?_
  (case B9 => k_asm)
  (case X9 => k_asm)
  (case T9 => k_asm)
  (case hk9 => exact rfl)
  (case hd9 => decide +kernel)
  (case hu9 => decide +kernel)
  (case d0 => exact List.forall_mem_cons.mpr ⟨Nat.ne_of_gt a5, List.forall_mem_cons.mpr ⟨Nat.ne_of_gt a1, List.forall_mem_cons.mpr ⟨Nat.ne_of_gt a3, List.forall_mem_cons.mpr ⟨Nat.ne_of_gt a7, fun _ h => nomatch h⟩⟩⟩⟩)
  (case d1 => exact fun p hp => List.forall_mem_cons.mpr ⟨dj8 p hp (86, tabObj #[]) (by repeat (first | exact .head _ | refine .tail _ ?_)), List.forall_mem_cons.mpr ⟨dj8 p hp (126, tabObj #[]) (by repeat (first | exact .head _ | refine .tail _ ?_)), List.forall_mem_cons.mpr ⟨Nat.ne_of_lt (off8 p (List.mem_append_left _ hp)), List.forall_mem_cons.mpr ⟨dj8 p hp (H, W.listOf vh.toArray 0) (by repeat (first | exact .head _ | refine .tail _ ?_)), List.forall_mem_cons.mpr ⟨dj8 p hp (TT, W.listOf vt.toArray 0) (by repeat (first | exact .head _ | refine .tail _ ?_)), List.forall_mem_cons.mpr ⟨dj8 p hp (s1.heap.objs.size + 1, oz) (by repeat (first | exact .head _ | refine .tail _ ?_)), fun _ h => nomatch h⟩⟩⟩⟩⟩⟩)
  (case d2 => exact List.forall_mem_cons.mpr ⟨List.forall_mem_cons.mpr ⟨by decide, List.forall_mem_cons.mpr ⟨Nat.ne_of_lt a6, List.forall_mem_cons.mpr ⟨Nat.ne_of_lt a2, List.forall_mem_cons.mpr ⟨Nat.ne_of_lt a4, List.forall_mem_cons.mpr ⟨Nat.ne_of_lt a8, fun _ h => nomatch h⟩⟩⟩⟩⟩, fun _ h => nomatch h⟩)
  intro p1 p2 p3 h20 tk20 m20 F20 N20
  k_steps)
end
end
end Mine
set_option maxHeartbeats 4000000 in
theorem PySem.Challenge.cw_pg0212_02_holds : PySem.Challenge.rw_pg0212_02.Holds := by
  exact Mine.law_two
