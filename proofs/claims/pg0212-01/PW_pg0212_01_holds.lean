import PyProof.Rows.All
import Wide.All
import OpenK.AllK
import Wide.FinOn
import Lean
import PySem.Challenge.RW_pg0212_01
open PySem PySem.W PyProof.Rows PySem.Calls PySem.Spec
set_option Elab.async false
set_option maxRecDepth 100000
set_option maxHeartbeats 8000000
namespace Mine
theorem A.hd1.view_39 : True := trivial
theorem A.hd1.env_41 : True := trivial
theorem A.hd1.heap_46 : True := trivial
theorem A.hd1.heap_47 : True := trivial
theorem A.hd1.tree_47 : True := trivial
theorem A.hd1.tree_48 : True := trivial
theorem A.hd1.tree_49 : True := trivial
theorem A.hd1.sts_49 : True := trivial
theorem A.hd1.sts_50 : True := trivial
theorem A.hd1.sts_51 : True := trivial
theorem A.hd1.tree_99 : True := trivial
theorem A.hd1.tree_100 : True := trivial
theorem A.hd1.tree_101 : True := trivial
theorem A.hd1.tree_102 : True := trivial
theorem A.hd1.tree_103 : True := trivial
theorem A.hd1.sts_100 : True := trivial
theorem A.hd1.sts_101 : True := trivial
theorem A.hd1.sts_102 : True := trivial
theorem A.hd1.sts_103 : True := trivial
theorem A.hd1.sts_104 : True := trivial
theorem A.hd1.sts_105 : True := trivial
theorem A.hd1.tree_155 : True := trivial
theorem A.hd1.tree_156 : True := trivial
theorem A.hd1.tree_157 : True := trivial
theorem A.hd1.tree_158 : True := trivial
theorem A.hd1.tree_159 : True := trivial
theorem A.hd1.tree_160 : True := trivial
theorem A.hd1.tree_161 : True := trivial
theorem A.hd1.tree_162 : True := trivial
theorem A.hd1.sts_156 : True := trivial
theorem A.hd1.sts_157 : True := trivial
theorem A.hd1.sts_158 : True := trivial
theorem A.hd1.sts_159 : True := trivial
theorem A.hd1.sts_160 : True := trivial
theorem A.hd1.sts_161 : True := trivial
theorem A.hd1.sts_162 : True := trivial
theorem A.hd1.sts_163 : True := trivial
theorem A.hd1.sts_164 : True := trivial
theorem A.hd1.tree_193 : True := trivial
theorem A.hd1.tree_194 : True := trivial
theorem A.hd1.tree_195 : True := trivial
theorem A.hd1.tree_196 : True := trivial
theorem A.hd1.tree_197 : True := trivial
theorem A.hd1.tree_198 : True := trivial
theorem A.hd1.tree_199 : True := trivial
theorem A.hd1.tree_200 : True := trivial
theorem A.hd1.tree_201 : True := trivial
theorem A.hd1.tree_202 : True := trivial
theorem A.hd1.tree_203 : True := trivial
theorem A.hd1.heap_194 : True := trivial
theorem A.hd1.heap_195 : True := trivial
theorem A.hd1.heap_196 : True := trivial
theorem A.hd1.heap_197 : True := trivial
theorem A.hd1.heap_198 : True := trivial
theorem A.hd1.heap_199 : True := trivial
theorem A.hd1.heap_200 : True := trivial
theorem A.hd1.heap_201 : True := trivial
theorem A.hd1.heap_202 : True := trivial
theorem A.hd1.heap_203 : True := trivial
theorem A.hd1.heap_204 : True := trivial
theorem A.hd1.heap_205 : True := trivial
theorem A.tw16818430413160441281 : True := trivial
theorem A.tw15055284916421777340 : True := trivial
theorem A.tw12991122611151718130 : True := trivial
theorem A.tw6984528881599332762 : True := trivial
theorem A.tw15180140803229669093 : True := trivial
theorem A.tw18367250860855773582 : True := trivial
theorem A.tw4271383393882690963 : True := trivial
theorem A.tw17651575794709782297 : True := trivial
theorem A.tw11721977885259119639 : True := trivial
theorem A.tw8421888475696982520 : True := trivial
theorem A.tw18274738809987502111 : True := trivial
theorem A.tw9773795564067618371 : True := trivial
theorem A.tw1789363001448093860 : True := trivial
set_option Elab.async true in
theorem A : True := by
  first
  | (let rec hd1 : True := (have _h : (have _x : PySem.Challenge.rw_pg0212_01.Holds := (by (w_on; o_law; k_head; (case hw => w_witness2); fail)); True) := trivial; trivial)
     fail)
  | trivial
#print axioms A
namespace A
open_top hd1 for PySem.Challenge.rw_pg0212_01
end A
open A
section

theorem and_high (X s : Nat) : X &&& (X / 2 ^ s * 2 ^ s) = X / 2 ^ s * 2 ^ s := by
  apply Nat.eq_of_testBit_eq
  intro i
  rw [Nat.testBit_and]
  have e : X / 2 ^ s * 2 ^ s = (X >>> s) <<< s := by rw [Nat.shiftRight_eq_div_pow, Nat.shiftLeft_eq]
  rw [e, Nat.testBit_shiftLeft, Nat.testBit_shiftRight]
  by_cases h : s ≤ i
  · simp [h]
  · simp [h]
theorem xor_high (X s : Nat) : Builtin.bitXor (X : Int) ((X / 2 ^ s : Nat) * 2 ^ s) = ((X % 2 ^ s : Nat) : Int) := by
  rw [bitXor_and]
  have c : ((X / 2 ^ s : Nat) : Int) * 2 ^ s = ((X / 2 ^ s * 2 ^ s : Nat) : Int) := by simp
  rw [c, bitAnd_pp (by omega) (by omega)]
  simp only [Int.toNat_natCast]
  rw [and_high]
  have := Nat.div_add_mod X (2 ^ s)
  rw [Nat.mul_comm] at this
  omega
theorem fdiv_nat (a b : Nat) : Int.fdiv (a : Int) (b : Int) = ((a / b : Nat) : Int) := by
  cases b with
  | zero => simp
  | succ b => rw [Int.fdiv_eq_ediv_of_nonneg _ (by omega)]; simp
theorem fmod_nat (a b : Nat) : Int.fmod (a : Int) (b : Int) = ((a % b : Nat) : Int) := by
  rw [Int.fmod_eq_emod_of_nonneg _ (by omega)]; simp
theorem fdiv_pow (a s : Nat) : Int.fdiv (a : Int) (2 ^ s) = ((a / 2 ^ s : Nat) : Int) := by
  have := fdiv_nat a (2 ^ s)
  rw [← this]; simp

/-- k places from lo on are set to x's figures to the base b, the lowest first -/
def putD (b : Nat) : Nat → Nat → Nat → List Int → List Int
  | 0, _, _, l => l
  | k + 1, lo, x, l => putD b k (lo + 1) (x / b) (l.set lo ((x % b : Nat) : Int))
theorem putD_length (b : Nat) : ∀ (k lo x : Nat) (l : List Int), (putD b k lo x l).length = l.length
  | 0, _, _, _ => rfl
  | k + 1, lo, x, l => by rw [putD, putD_length b k]; simp
theorem putD_split (b : Nat) : ∀ (j k lo x : Nat) (l : List Int), putD b (j + k) lo x l = putD b k (lo + j) (x / b ^ j) (putD b j lo x l)
  | 0, k, lo, x, l => by simp [putD]
  | j + 1, k, lo, x, l => by
    rw [show j + 1 + k = (j + k) + 1 by omega, putD, putD, putD_split b j k, Nat.div_div_eq_div_mul, Nat.pow_succ, Nat.mul_comm b]
    congr 1
    omega
theorem putD_mod (b : Nat) : ∀ (j lo x : Nat) (l : List Int), putD b j lo (x % b ^ j) l = putD b j lo x l
  | 0, _, _, _ => rfl
  | j + 1, lo, x, l => by
    rw [putD, putD]
    have e1 : x % b ^ (j + 1) % b = x % b := by
      rw [Nat.pow_succ, Nat.mul_comm, Nat.mod_mul_right_mod]
    have e2 : x % b ^ (j + 1) / b = x / b % b ^ j := by
      rw [Nat.pow_succ, Nat.mul_comm, Nat.mod_mul_right_div_self]
    rw [e1, e2, putD_mod b j]
/-- k figures of x to the base b, the lowest first -/
def digs (b : Nat) : Nat → Nat → List Int
  | 0, _ => []
  | k + 1, x => ((x % b : Nat) : Int) :: digs b k (x / b)
theorem digs_length (b : Nat) : ∀ k x, (digs b k x).length = k
  | 0, _ => rfl
  | k + 1, x => by rw [digs, List.length_cons, digs_length b k]
theorem putD_digs (b : Nat) : ∀ (k x : Nat) (pre : List Int), putD b k pre.length x (pre ++ List.replicate k 0) = pre ++ digs b k x
  | 0, _, _ => by simp [putD, digs]
  | k + 1, x, pre => by
    rw [putD, digs, List.replicate_succ]
    have e : (pre ++ (0 :: List.replicate k (0 : Int))).set pre.length ((x % b : Nat) : Int) = (pre ++ [((x % b : Nat) : Int)]) ++ List.replicate k 0 := by simp
    rw [e]
    have := putD_digs b k (x / b) (pre ++ [((x % b : Nat) : Int)])
    rw [List.length_append, List.length_singleton] at this
    rw [this]; simp
/-- the number whose figures to the base b are ds, the lowest first -/
def numD (b : Nat) : List Nat → Nat
  | [] => 0
  | d :: r => d + b * numD b r
theorem numD_append (b : Nat) : ∀ l r : List Nat, numD b (l ++ r) = numD b l + b ^ l.length * numD b r
  | [], r => by simp [numD]
  | d :: l, r => by
    rw [List.cons_append, numD, numD, numD_append b l r, List.length_cons, Nat.pow_succ, Nat.mul_add, ← Nat.mul_assoc, Nat.mul_comm b (b ^ l.length), Nat.add_assoc]
theorem numD_lt (b : Nat) : ∀ l : List Nat, (∀ d ∈ l, d < b) → numD b l < b ^ l.length
  | [], _ => by simp [numD]
  | d :: l, h => by
    have h1 := h d (.head _)
    have h2 := numD_lt b l fun x hx => h x (.tail _ hx)
    rw [numD, List.length_cons, Nat.pow_succ]
    have h3 : b * (numD b l + 1) ≤ b * b ^ l.length := Nat.mul_le_mul_left b h2
    rw [Nat.mul_add, Nat.mul_one] at h3
    rw [Nat.mul_comm (b ^ l.length) b]; omega
/-- the figures from lo on, k of them -/
def part (ds : List Nat) (lo k : Nat) : List Nat := (ds.drop lo).take k
theorem part_split (ds : List Nat) (lo j k : Nat) : part ds lo (j + k) = part ds lo j ++ part ds (lo + j) k := by
  unfold part
  rw [← List.drop_drop, List.take_add]
theorem part_length {ds : List Nat} {lo k : Nat} (h : lo + k ≤ ds.length) : (part ds lo k).length = k := by
  unfold part
  rw [List.length_take, List.length_drop]; omega
theorem part_mem {ds : List Nat} {lo k d : Nat} (h : d ∈ part ds lo k) : d ∈ ds := List.mem_of_mem_drop (List.mem_of_mem_take h)
theorem part_one {ds : List Nat} {lo : Nat} (h : lo < ds.length) : part ds lo 1 = [ds.getD lo 0] := by
  unfold part
  rw [List.drop_eq_getElem_cons h, List.take_succ_cons, List.take_zero]
  simp [List.getD, h]
theorem part_all (ds : List Nat) : part ds 0 ds.length = ds := by simp [part]
/-- what inner of _digits2int gives, the upper half first -/
theorem numD_part {b : Nat} {ds : List Nat} {lo j k : Nat} (h : lo + (j + k) ≤ ds.length) : numD b (part ds lo (j + k)) = numD b (part ds (lo + j) k) * b ^ j + numD b (part ds lo j) := by
  rw [part_split, numD_append, part_length (by omega), Nat.add_comm, Nat.mul_comm]
theorem part_lt {b : Nat} {ds : List Nat} {lo k : Nat} (h : lo + k ≤ ds.length) (hb : ∀ d ∈ ds, d < b) : numD b (part ds lo k) < b ^ k := by
  have := numD_lt b (part ds lo k) fun d hd => hb d (part_mem hd)
  rwa [part_length h] at this
theorem getD_cast (ds : List Nat) (i : Nat) : (ds.map Int.ofNat).getD i 0 = ((ds.getD i 0 : Nat) : Int) := by
  simp only [List.getD_eq_getElem?_getD, List.getElem?_map]
  cases ds[i]? <;> rfl
/-- k figures of x to the base b as plain numbers -/
def digsN (b : Nat) : Nat → Nat → List Nat
  | 0, _ => []
  | k + 1, x => x % b :: digsN b k (x / b)
theorem digs_map (b : Nat) : ∀ k x, digs b k x = (digsN b k x).map Int.ofNat
  | 0, _ => rfl
  | k + 1, x => by rw [digs, digsN, List.map_cons, digs_map b k]; rfl
theorem digsN_length (b : Nat) : ∀ k x, (digsN b k x).length = k
  | 0, _ => rfl
  | k + 1, x => by rw [digsN, List.length_cons, digsN_length b k]
theorem digsN_lt {b : Nat} (hb : 0 < b) : ∀ k x, ∀ d ∈ digsN b k x, d < b
  | 0, _, _, h => nomatch h
  | k + 1, x, d, h => by
    rcases List.mem_cons.mp h with rfl | h
    · exact Nat.mod_lt _ hb
    · exact digsN_lt hb k _ d h
theorem numD_digsN (b : Nat) : ∀ k x, numD b (digsN b k x) = x % b ^ k
  | 0, x => by simp [digsN, numD, Nat.mod_one]
  | k + 1, x => by
    rw [digsN, numD, numD_digsN b k, Nat.pow_succ, Nat.mul_comm (b ^ k) b, Nat.mod_mul]
/-- long division, one figure more -/
theorem longdiv {b B V Q r d : Nat} (hB : 0 < B) (hQ : Q = V / B) (hr : r = V % B) (hd : d < b) : (r * b + d) / B + b * Q = (d + b * V) / B ∧ (r * b + d) % B = (d + b * V) % B ∧ (r * b + d) / B < b := by
  subst hQ hr
  have e : d + b * V = (V % B * b + d) + B * (b * (V / B)) := by
    have h1 : b * V = b * (B * (V / B)) + b * (V % B) := by rw [← Nat.mul_add, Nat.div_add_mod]
    have h2 : B * (b * (V / B)) = b * (B * (V / B)) := Nat.mul_left_comm ..
    have h3 : V % B * b = b * (V % B) := Nat.mul_comm ..
    omega
  refine ⟨?_, ?_, ?_⟩
  · rw [e, Nat.add_mul_div_left _ _ hB]
  · rw [e, Nat.add_mul_mod_self_left]
  · rw [Nat.div_lt_iff_lt_mul hB]
    have h1 : V % B + 1 ≤ B := Nat.mod_lt _ hB
    have h2 : (V % B + 1) * b ≤ B * b := Nat.mul_le_mul_right b h1
    rw [Nat.add_mul, Nat.one_mul] at h2
    rw [Nat.mul_comm b B]; omega
theorem drop_one_more {ds : List Nat} {i : Nat} (h : i < ds.length) : ds.drop (ds.length - (i + 1)) = ds.getD (ds.length - 1 - i) 0 :: ds.drop (ds.length - i) := by
  have e : ds.length - (i + 1) = ds.length - 1 - i := by omega
  rw [e, List.drop_eq_getElem_cons (by omega)]
  have e2 : ds.length - 1 - i + 1 = ds.length - i := by omega
  rw [e2]
  simp [List.getD, show ds.length - 1 - i < ds.length by omega]
theorem bits_pos {B : Nat} (h : 0 < B) : 0 < Builtin.Int.intBits (B : Int) := by
  rcases Nat.eq_zero_or_pos (Builtin.Int.intBits (B : Int)) with e | e
  · have := intBits_le_iff.mp (Nat.le_of_eq e)
    rw [Int.natAbs_natCast, Nat.pow_zero] at this; omega
  · exact e
theorem bits_lt (B : Nat) : B < 2 ^ Builtin.Int.intBits (B : Int) := by
  have := intBits_le_iff.mp (Nat.le_refl (Builtin.Int.intBits (B : Int)))
  rwa [Int.natAbs_natCast] at this
theorem bits_zero : Builtin.Int.intBits ((0 : Nat) : Int) = 0 := rfl
theorem bits_le {A m : Nat} (h : A < 2 ^ m) : Builtin.Int.intBits (A : Int) ≤ m := intBits_le_iff.mpr (by rw [Int.natAbs_natCast]; exact h)
end
section
theorem tail_getD {ds : List Nat} {j : Nat} : (ds.map Int.ofNat).getD j 0 = ((ds.getD j 0 : Nat) : Int) := getD_cast ds j
theorem ints_at {vs : List Value} {ds : List Nat} (h : IntsAre vs (ds.map Int.ofNat)) {i : Nat} (hi : i < ds.length) : ∃ t, vs[i]? = some (.int ((ds.getD i 0 : Nat) : Int) t) := by
  obtain ⟨t, ht⟩ := h.get i ((ds.getD i 0 : Nat) : Int) (by
    rw [List.getElem?_map, List.getElem?_eq_getElem hi]
    simp [List.getD, hi])
  exact ⟨t, ht⟩
theorem fr_int {h₀ h : Heap} {L : Addr} {m : Str → Option Value} {x : Str} {i : Int} (_ : Fr h₀ L h m) (e : ∃ t, m x = some (.int i t)) : ∃ t, m x = some (.int i t) := e
theorem ints_rev : ∀ {vs : List Value} {ds : List Nat}, IntsAre vs (ds.map Int.ofNat) → IntsAre vs.reverse (ds.reverse.map Int.ofNat)
  | [], [], _ => .nil
  | v :: vs, d :: ds, h => by
    rw [List.reverse_cons, List.reverse_cons, List.map_append]
    cases h with
    | cons i t h => exact IntsAre.append (ints_rev h) (.cons _ t .nil)
structure DmSt where
  i : Nat
  r : Nat
  tr : Tok
  oI : Obj
  vq : List Value
  ep : Nat
  qs : List Nat
end
section
theorem rest_ne {rest : List (Addr × Obj)} {B d : Nat} (h : ∀ p ∈ rest, @LT.lt Nat _ p.1 B) (hb : @LE.le Nat _ B d) : ∀ p ∈ rest, p.1 ≠ d := fun p hp => Nat.ne_of_lt (Nat.lt_of_lt_of_le (h p hp) hb)
theorem allLt_to {d : Addr} : ∀ {l : List (Addr × Obj)}, AllLt d l → ∀ p ∈ l, @LT.lt Nat _ p.1 d
  | [], _, _, hp => nomatch hp
  | _ :: _, h, _, hp => by
    rcases List.mem_cons.mp hp with rfl | hp
    · exact h.1
    · exact allLt_to h.2 _ hp
def Halt (P : Prop) : Prop := P
theorem Halt.of {P : Prop} (h : Halt P) : P := h
/-- the def that stands at place j of the body of the top's statement i -/
def nested (p : Program) (i j : Nat) : Option (Str × Arguments × List Stmt × Scope) :=
  match p.main.body[i]? with
  | some (.FunctionDef _ _ b _ _ _ _ _ _ _) => (match b[j]? with
    | some (.FunctionDef n a b' _ _ _ sc _ _ _) => some (n, a, b', sc)
    | _ => none)
  | _ => none
theorem shift_nat {a b : Int} {n j : Nat} (h : a - b = j) : (a - b) * (n : Int) = ((n * j : Nat) : Int) := by
  rw [h, ← Int.natCast_mul, Nat.mul_comm]
section
variable {M : Model} {A : Around} {Q E : Value → Shared → Prop} {s : Shared}
theorem haltC {f : Addr} {as : List Value} (h : Halt (wpAny M A (call (.ref f) as) Q E s)) : wpAny M A (call (.ref f) as) Q E s := h
theorem haltC2 {f : Addr} {a b : Value} (h : Halt (wpAny M A (call (.ref f) [a, b]) Q E s)) : wpAny M A (call (.ref f) [a, b]) Q E s := h
theorem haltC3 {f : Addr} {a b c : Value} (h : Halt (wpAny M A (call (.ref f) [a, b, c]) Q E s)) : wpAny M A (call (.ref f) [a, b, c]) Q E s := h
theorem haltCI {f : Addr} {i : Int} {t : Tok} (h : Halt (wpAny M A (call (.ref f) [.int i t]) Q E s)) : wpAny M A (call (.ref f) [.int i t]) Q E s := h
theorem haltWh {a b c d} {env : Env} {Q : Flow → Shared → Prop} (h : Halt (wpAny M A (exec (Stmt.While a b c d) env) Q E s)) : wpAny M A (exec (Stmt.While a b c d) env) Q E s := h
theorem haltSR {x y} {a b : Addr} (h : Halt (wpAny M A (subscriptTail x y (.ref a) (.ref b)) Q E s)) : wpAny M A (subscriptTail x y (.ref a) (.ref b)) Q E s := h
theorem haltSI {x y} {a : Addr} {i : Int} {t : Tok} (h : Halt (wpAny M A (subscriptTail x y (.ref a) (.int i t)) Q E s)) : wpAny M A (subscriptTail x y (.ref a) (.int i t)) Q E s := h
end
theorem ne_newer {l : List (Addr × Obj)} {P a : Nat} {o : Obj} (h : ∀ p ∈ l, @LT.lt Nat _ p.1 P) (m : (a, o) ∈ l) : P ≠ a := Nat.ne_of_gt (h _ m)
theorem ne_older {l : List (Addr × Obj)} {P a : Nat} {o : Obj} (h : ∀ p ∈ l, @LT.lt Nat _ p.1 P) (m : (a, o) ∈ l) : a ≠ P := Nat.ne_of_lt (h _ m)
theorem len_L {prog : Program} {w : World} {A : Around} {E : Value → Shared → Prop} {s : Shared} {h₀ : Heap} {L D : Addr} {news : List (Addr × Obj)} {vs : List Value} {c : Nat} {Q : Value → Shared → Prop} (N : News h₀ L s.heap news) (hm : (D, W.listOf vs.toArray c) ∈ news) (hf : vs.length < 2 ^ 62)
    (h : Q (.int (vs.length : Nat) (s.toks + 1)) { s with toks := s.toks + 1 + 1 }) : wpAny (model prog w) A (call (.builtin "len") [.ref D]) Q E s := KM.len_K (n := vs.length) N hm (List.size_toArray ..) hf h
end
section
section
variable {prog : Program} {w : World} {A : Around} {R : Result → Shared → Prop} {s : Shared} {env : Env} {h₀ : Heap} {L : Addr}
/-- a for loop over any iterator, by an invariant and a measure: the state c tells the ledger and the names -/
theorem forI {σ : Type} {x : Str} {px : Pos} {it : Value} {body : List Stmt} {m₀ m₁ : Str → Option Value} (Led : σ → List (Addr × Obj)) (ps : σ → List (Str × Value)) (stored : List Str) (P : σ → Prop) (μ : σ → Nat) (c₀ : σ)
    (F : Fr h₀ L s.heap m₁) (N : News h₀ L s.heap (Led c₀)) (hk : ∀ p ∈ ps c₀, m₁ p.1 = some p.2) (hr : ∀ z, (∀ p ∈ ps c₀, z ≠ p.1) → stored.contains z = false → m₁ z = m₀ z) (hp : P c₀)
    (turn : ∀ (c : σ) (u : Str → Option Value) h tk, P c → Fr h₀ L h (kstB (fun z => if stored.contains z then u z else m₀ z) (ps c)) → News h₀ L h (Led c) →
      wpAny (model prog w) A (pyNext it) (fun r s₁ => match r with
        | none => R (.ok .next) s₁
        | some v => wpAny (model prog w) A (storeName env x v) (fun _ s₂ => wpAny (model prog w) A (execs body env) (KswPost h₀ L s Led ps (fun _ => True) stored m₀ P μ (fun f s => R (.ok f) s) c) (fun _ _ => False) s₂) (fun _ _ => False) s₁) (fun _ _ => False) { s with heap := h, toks := tk })
    (ht : ∀ v, letOwnedTupleGo (.Name x px) it v = pure () := by intro _; rfl) :
    codeAny (model prog w) A (.forLoop (.Name x px) it body [] env) R s := by
  have hE : ∀ (e : Value) (s' : Shared), False → notedBy (model prog w) A env (fun e s' => R (.error e) s') e s' := fun _ _ h => h.elim
  refine codeAny_forLoop (fun n s' => ∃ (c : σ) (h : Heap) (tk : Nat) (m : Str → Option Value), s' = { s with heap := h, toks := tk } ∧ Fr h₀ L h m ∧ News h₀ L h (Led c) ∧ μ c = n ∧ (∀ p ∈ ps c, m p.1 = some p.2) ∧ (∀ z, (∀ p ∈ ps c, z ≠ p.1) → stored.contains z = false → m z = m₀ z) ∧ P c)
    ?_ (μ c₀) ⟨c₀, s.heap, s.toks, m₁, rfl, F, N, rfl, hk, hr, hp⟩ ht
  rintro n s' ⟨c, h, tk, m, rfl, F', N', hμ, h1, h2, hp'⟩
  refine wpAny_mono (turn c m h tk hp' (ksw_fr h1 h2 F') N') (fun r s₁ k => ?_) hE
  cases r with
  | none => exact wpAny_execs_nil k
  | some v =>
    refine wpAny_assign_Name (wpAny_mono k (fun _ s₂ k₂ => ?_) hE)
    refine wpAny_mono k₂ (fun f s₃ q => ?_) hE
    cases f with
    | ret v => exact q
    | brk => exact q
    | next =>
      obtain ⟨c', h', tk', m', news', rfl, F', N', hn, _, hk9, hr9, hp9, hm9⟩ := q
      exact ⟨μ c', hμ ▸ hm9, c', h', tk', m', rfl, F', fun p hp => N' p (hn p hp), rfl, hk9, hr9, hp9⟩
    | cont =>
      obtain ⟨c', h', tk', m', news', rfl, F', N', hn, _, hk9, hr9, hp9, hm9⟩ := q
      exact ⟨μ c', hμ ▸ hm9, c', h', tk', m', rfl, F', fun p hp => N' p (hn p hp), rfl, hk9, hr9, hp9⟩
end
end
section
section
variable {prog : Program} {w : World} {A : Around} {E : Value → Shared → Prop} {s : Shared} {h₀ : Heap} {L I l : Addr} {m : Str → Option Value} {news : List (Addr × Obj)} {oI : Obj}
theorem news_extBut {h h' : Heap} {a : Addr} {nx : List (Addr × Obj)} (N : News h₀ L h nx) (hx : Heap.ExtBut a h h') (hne : ∀ p ∈ nx, p.1 ≠ a) : News h₀ L h' nx := fun p hp => ⟨hx _ _ (hne p hp) (N p hp).1, (N p hp).2⟩
theorem fr_extBut {h h' : Heap} {a : Addr} (F : Fr h₀ L h m) (hx : Heap.ExtBut a h h') (hL : L ≠ a) (h0 : h₀.get? a = none) : Fr h₀ L h' m :=
  ⟨F.ns.extBut hx hL, fun b o e => hx b o (fun q => by rw [q, h0] at e; cases e) (F.keep b o e), F.above⟩
theorem rev_item {i : Nat} {vs : List Value} {ep : Nat} {x : Value} {g : Obj → List (Addr × Obj)} {Q : Option Value → Shared → Prop} (F : Fr h₀ L s.heap m) (N : News h₀ L s.heap news) (U : UpdF I oI news g) (hc : oI.cls = .type "list_reverseiterator") (hd : oI.data = .fields #[.ref l, rawInt (i : Int)])
    (hl : (l, W.listOf vs.toArray ep) ∈ news) (hx : vs[i]? = some x)
    (h : ∀ h' o', Fr h₀ L h' m → News h₀ L h' (g o') → o'.cls = .type "list_reverseiterator" → o'.data = .fields #[.ref l, rawInt ((i : Int) - 1)] → Q (some x) { s with heap := h' }) : wpAny (model prog w) A (pyNext (.ref I)) Q E s := by
  obtain ⟨own, rest, rfl, hg, h1, h2⟩ := U.split
  have hm := N (I, oI) (List.mem_append_right _ (.head _))
  refine wpAny_pyNext_rev_item (i := i) ⟨oI, hm.1, hc, hd⟩ (PySem.IsL.isList (n := ep) (N _ hl).1) (by simpa using hx) fun h' hit hs => ?_
  obtain ⟨o', ho', hc', hd'⟩ := hit
  refine h h' o' ⟨F.ns.sameBut hs (Ne.symm hm.2.1), fun b ob e => (hs.2 b (fun q => ?_)).trans (F.keep b ob e), F.above⟩ (hg o' ▸ N.setAt h1 h2 hs ho') hc' hd'
  rw [q, hm.2.2] at e; cases e
theorem rev_end {nx : List (Addr × Obj)} {Q : Option Value → Shared → Prop} (hh : A.handled = none) (F : Fr h₀ L s.heap m) (N : News h₀ L s.heap news) (hm : (I, oI) ∈ news) (hc : oI.cls = .type "list_reverseiterator") (hd : oI.data = .fields #[.ref l, rawInt (-1)])
    (hs : ∀ p ∈ nx, p ∈ news) (hne : ∀ p ∈ nx, p.1 ≠ I)
    (h : ∀ h', Fr h₀ L h' m → News h₀ L h' nx → Q none { s with heap := h' }) : wpAny (model prog w) A (pyNext (.ref I)) Q E s := by
  have h3 := N _ hm
  refine wpAny_pyNext_rev_end (l := l) hh ⟨oI, h3.1, hc, hd⟩ fun h' hx => ?_
  exact h h' (fr_extBut F hx (Ne.symm h3.2.1) h3.2.2) (news_extBut (fun p hp => N p (hs p hp)) hx hne)
end
end
section
theorem slot_fn_setattr : Slot "function" "__setattr__" "object.__setattr__" :=
  Slot.of (owner := "object") (n := "__setattr__") (by rw [typeLookup_type, builtinLookup_eq_fast]; kernel_rfl) (by decide +kernel) (by decide +kernel) (by decide +kernel) (.inl (by decide +kernel)) (by rw [isSubtype_type]; kernel_rfl)
theorem fn_mro : mroOf (.type "function") = pure [.type "function", .type "object"] := by rw [mroOf_type]; kernel_rfl
theorem fn_refuse (self : Value) : PySem.refuseLoop self "__setattr__" [.type "function", .type "object"] = pure () := by kernel_rfl
theorem fn_lookup_read : typeLookup (.type "function") "read" = pure none := by rw [typeLookup_type, builtinLookup_eq_fast]; kernel_rfl
theorem fn_args (a b c : Value) : argsOk "object.__setattr__" ⟨[a, b, c], []⟩ := PySem.F.store_object.args a b c
theorem fn_hasDict : typeHasDict (.type "function") = true := by decide +kernel
theorem fn_dictMade (a d : Addr) : dictMade (.type "function") a d = pure (some d) := by kernel_rfl
section
variable {prog : Program} {w : World} {A : Around} {E : Value → Shared → Prop} {s : Shared} {h₀ : Heap} {L f : Addr} {m : Str → Option Value} {news : List (Addr × Obj)} {of : Obj} {g : Obj → List (Addr × Obj)} {v : Value}
theorem fn_typeOf {h : Heap} {M : Model} (ho : h.get? f = some of) (hc : of.cls = .type "function") : Looks M h (typeOf (.ref f)) (.type "function") := by
  rw [← hc]; exact (Looks.ld ho).andThen .now
theorem fn_setattr {fd : FuncData} {Q : Unit → Shared → Prop} (F : Fr h₀ L s.heap m) (N : News h₀ L s.heap news) (U : UpdF f of news g) (hc : of.cls = .type "function") (hd : of.dict = none) (hdat : of.data = .func fd)
    (h : ∀ d h' tk tn, Fr h₀ L h' m → News h₀ L h' ((d, dictOf [⟨PyData.keyHash w.params "read", .str "read" tn, v⟩] 1) :: g { of with dict := some d }) → (∀ p ∈ news, p.1 < d) → Q () { s with heap := h', toks := tk }) :
    wpAny (model prog w) A (setAttr (.ref f) "read" v) Q E s := by
  obtain ⟨own, rest, rfl, hg, h1, h2⟩ := U.split
  have hm := N (f, of) (List.mem_append_right _ (.head _))
  have hT : (s : Shared).TypeIs (.ref f) "function" := ⟨of, hm.1, hc⟩
  unfold setAttr
  refine wpAny_bind (wpAny_mkText (wpAny_bind (wpAny_callSpecial?_slot (s := { s with toks := s.toks + 1 }) ⟨of, hm.1, hc⟩ slot_fn_setattr (wpAny_call_entry slot_fn_setattr ⟨of, hm.1, hc⟩ PySem.F.store_object.entry ?_ (fn_args _ _ _)))))
  rw [PySem.W.osa_eq, PySem.refuse_eq]
  have T1 : Looks (model prog w) s.heap (typeOf (.ref f)) (.type "function") := fn_typeOf hm.1 hc
  refine wpAny_bind (wpAny_bind (Looks.here (s := { s with toks := s.toks + 1 }) T1 ?_))
  rw [fn_mro]
  refine wpAny_bind (wpAny_pure ?_)
  rw [fn_refuse]
  refine wpAny_pure (wpAny_bind (Looks.here (s := { s with toks := s.toks + 1 }) T1 ?_))
  rw [fn_lookup_read]
  refine wpAny_bind (wpAny_pure ?_)
  refine wpAny_bind (wpAny_pure ?_)
  show wpAny _ _ (do
    let d? ← Builtin.ObjectAttr.ownDictForStores (.ref f)
    match d? with
    | some d => Builtin.ObjectAttr.storeInDict d (.str (PySem.Str.ofString "read") s.toks) (PySem.Str.ofString "read") v
    | none => Builtin.ObjectAttr.noDictFor (.ref f) (.type "function") (PySem.Str.ofString "read") false) _ _ _
  refine wpAny_bind ?_
  show wpAny _ _ (instanceDict f true) _ _ _
  obtain ⟨oc, od, odat, osl⟩ := of
  dsimp only at hc hd hdat
  subst hc hd hdat
  refine wpAny_bind (wpAny_loadPart hm.1 ?_)
  show wpAny _ _ (if (!true || !typeHasDict (.type "function")) = true then pure none else (alloc { cls := .type "dict", data := .dict #[] } >>= fun d => update f (fun o => { o with dict := some d }) >>= fun _ => dictMade (.type "function") f d)) _ _ _
  rw [if_neg (by rw [fn_hasDict]; decide)]
  have hlt : f ≠ s.heap.objs.size := Nat.ne_of_lt (Heap.lt_size hm.1)
  have hf2 : (s.heap.push { cls := .type "dict", data := .dict #[] }).get? f = some ⟨.type "function", none, .func fd, osl⟩ := Heap.get?_push_of_some _ hm.1
  refine wpAny_bind (wpAny_alloc (wpAny_bind (wpAny_update hf2 ?_)))
  rw [fn_dictMade]
  refine wpAny_pure ?_
  show wpAny _ _ (nsSet s.heap.objs.size (PySem.Str.ofString "read") v >>= fun _ => lookBehind s.heap.objs.size (some (.str (PySem.Str.ofString "read") 0)) >>= fun _ => ret .none) _ _ _
  have F2 := F.push { cls := .type "dict", data := .dict #[] }
  have N2 := N.push F { cls := .type "dict", data := .dict #[] }
  obtain ⟨F3, N3⟩ := PySem.W.news_upd (f := fun o => { o with dict := some s.heap.objs.size }) (pre := (s.heap.objs.size, { cls := .type "dict", data := .dict #[] }) :: own) F2 N2
    (fun p hp => by rcases List.mem_cons.mp hp with rfl | hp; exact hlt.symm; exact h1 p hp) h2 rfl rfl
  have D3 := N3 (s.heap.objs.size, { cls := .type "dict", data := .dict #[] }) (by simp)
  obtain ⟨U1, U2⟩ := PySem.W.news_upd (f := Obj.putName (PySem.Str.ofString "read") (PyData.keyHash w.params "read") (.str (PySem.Str.ofString "read") (s.toks + 1)) v) (pre := []) (post := own ++ (f, ⟨.type "function", some s.heap.objs.size, .func fd, osl⟩) :: rest) (o := dictOf [] 0) F3 N3
    (fun _ h => nomatch h) (fun p hp => by
      have := N3 p (List.mem_cons_of_mem _ hp)
      rcases List.mem_append.mp hp with hp | hp
      · exact Nat.ne_of_lt (Heap.lt_size (N p (List.mem_append_left _ hp)).1)
      · rcases List.mem_cons.mp hp with rfl | hp
        · exact hlt
        · exact Nat.ne_of_lt (Heap.lt_size (N p (List.mem_append_right _ (.tail _ hp))).1)) (putName_dict _ _ _ _ _ _) rfl
  have D4 := (U2 _ (List.mem_cons_self ..)).1
  refine wpAny_bind ?_
  unfold nsSet
  refine wpAny_bind (wpAny_bind (wpAny_askSetting (wpAny_pure (wpAny_bind (wpAny_mkText (wpAny_bind (wpAny_loadPart D3.1 ?_)))))))
  dsimp only
  have c : aRefKeyMayBeTheName (PySem.Str.ofString "read") #[] = false := by rw [aRefKeyMayBeTheName_at]; simp
  rw [c]
  refine wpAny_updatePart D3.1 ?_
  refine wpAny_bind (wpAny_lookBehind D4 (pastItsLine_dict (by rw [List.size_toArray, sizeLine_eq]; simp [putL])) ?_)
  refine wpAny_pure ⟨_, rfl, ?_⟩
  exact wpAny_pure (h _ _ _ _ U1 (hg _ ▸ U2) (fun p hp => Heap.lt_size (N p hp).1))
end
end
section
theorem fn_lookup_ga : typeLookup (.type "function") "__getattribute__" = pure (some (.builtin "object.__getattribute__")) := by rw [typeLookup_type, builtinLookup_eq_fast]; kernel_rfl
theorem fn_lookup_gattr : typeLookup (.type "function") "__getattr__" = pure none := by rw [typeLookup_type, builtinLookup_eq_fast]; kernel_rfl
theorem slot_fn_ga : Slot "function" "__getattribute__" "object.__getattribute__" :=
  Slot.of (owner := "object") (n := "__getattribute__") fn_lookup_ga (by decide +kernel) (by decide +kernel) (by decide +kernel) (.inl (by decide +kernel)) (by rw [isSubtype_type]; kernel_rfl)
theorem entry_ga : entryFor table "object.__getattribute__" = some Builtin.«object.__getattribute__» := entryFor_of_tree (by kernel_rfl)
theorem ga_args (a b : Value) : argsOk "object.__getattribute__" ⟨[a, b], []⟩ := by unfold argsOk; kernel_rfl
section
variable {prog : Program} {w : World} {A : Around} {E : Value → Shared → Prop} {s : Shared} {h₀ : Heap} {L f d : Addr} {m : Str → Option Value} {news : List (Addr × Obj)} {of od : Obj} {v : Value} {fd : FuncData} {mm : Str → Option Value}
theorem fn_find {M : Model} {h : Heap} (ho : h.get? f = some of) (hc : of.cls = .type "function") (hd : of.dict = some d) (hdat : of.data = .func fd) (hns : h.Ns d mm) (hv : mm "read" = some v) :
    Looks M h (Builtin.ObjectAttr.find (.ref f) (.type "function") "read") (.value v) := by
  intro A Q E s k q
  unfold Builtin.ObjectAttr.find
  rw [fn_lookup_read]
  refine wpAny_bind (wpAny_pure (wpAny_bind (wpAny_pure (wpAny_bind (wpAny_pure ?_)))))
  obtain ⟨oc, odd, odat, osl⟩ := of
  dsimp only at hc hd hdat
  subst hc hd hdat
  refine wpAny_bind (wpAny_bind (wpAny_bind (wpAny_loadPart (k _ _ ho) ?_)))
  refine wpAny_bind (wpAny_loadPart (k _ _ ho) ?_)
  show wpAny _ _ (pure (some d)) _ _ _
  refine wpAny_pure ?_
  refine wpAny_nsGet (hns.keeps k) ?_
  rw [hv]
  exact wpAny_bind (wpAny_rule (wpAny_pure q))
theorem fn_getattr {expr : Bool} {Q : Value → Shared → Prop} (N : News h₀ L s.heap news) (hm : (f, of) ∈ news) (hc : of.cls = .type "function") (hd : of.dict = some d) (hdat : of.data = .func fd) (hmd : (d, od) ∈ news) (hO : LCg.NsObj od mm) (hv : mm "read" = some v) (hh : handedIn v = true)
    (h : Q v { s with toks := s.toks + 1 }) : wpAny (model prog w) A (getAttr (.ref f) "read" expr) Q E s := by
  have ho := (N _ hm).1
  have hns : s.heap.Ns d mm := hO.ns (N _ hmd).1
  have T1 : Looks (model prog w) s.heap (typeOf (.ref f)) (.type "function") := fn_typeOf ho hc
  unfold getAttr getAttrBy
  refine wpAny_bind (wpAny_mkText (wpAny_holding (wpAny_bind (Looks.here (s := { s with toks := s.toks + 1 }) T1 ?_))))
  rw [fn_lookup_ga]
  refine wpAny_bind (wpAny_pure ?_)
  show wpAny _ _ (getAttrByItsOwn (.ref f) (.str (PySem.Str.ofString "read") s.toks) (.type "function") (.builtin "object.__getattribute__") true expr) _ _ _
  unfold getAttrByItsOwn
  refine wpAny_bind (wpAny_pure ?_)
  refine wpAny_bind (wpAny_attempt (wpAny_holding ?_))
  have e1 : callGetattribute (.ref f) (.str (PySem.Str.ofString "read") s.toks) (.builtin "object.__getattribute__") expr = boundAndCalled (.builtin "object.__getattribute__") (.ref f) (.str (PySem.Str.ofString "read") s.toks) := by
    unfold callGetattribute; cases expr <;> rfl
  rw [e1]
  unfold boundAndCalled
  rw [slot_fn_ga.bind]
  refine wpAny_bind (wpAny_pure ?_)
  refine wpAny_call_entry slot_fn_ga ⟨of, ho, hc⟩ entry_ga ?_ (ga_args _ _)
  show wpAny _ _ (do
    let tp ← typeOf (.ref f)
    match ← Builtin.ObjectAttr.find (.ref f) tp (PySem.Str.ofString "read") with
    | .value v => ret v
    | .bind g a => Builtin.ObjectAttr.bindTo g a (.ref f) tp
    | .missing => _) _ _ _
  refine wpAny_bind (Looks.here (s := { s with toks := s.toks + 1 }) T1 ?_)
  refine wpAny_bind (Looks.here (s := { s with toks := s.toks + 1 }) (fn_find ho hc hd hdat hns hv) ?_)
  refine wpAny_pure ⟨v, rfl, ?_⟩
  show wpAny _ _ (handedOut v) _ _ _
  rw [handedOut_of hh]; exact wpAny_pure h
end
section
variable {prog : Program} {w : World} {A : Around} {E : Value → Shared → Prop} {s : Shared} {h₀ : Heap} {L f d : Addr} {m : Str → Option Value} {news : List (Addr × Obj)} {of od : Obj} {v : Value} {fd : FuncData} {mm : Str → Option Value}
theorem fn_getMethod {pl : Sem Bool} {Q : Value × List Value → Shared → Prop} (N : News h₀ L s.heap news) (hm : (f, of) ∈ news) (hc : of.cls = .type "function") (hd : of.dict = some d) (hdat : of.data = .func fd) (hmd : (d, od) ∈ news) (hO : LCg.NsObj od mm) (hv : mm "read" = some v) (hh : handedIn v = true)
    (h : Q (v, []) { s with toks := s.toks + 1 }) : wpAny (model prog w) A (getMethod (.ref f) "read" pl) Q E s := by
  have ho := (N _ hm).1
  have T1 : Looks (model prog w) s.heap (typeOf (.ref f)) (.type "function") := fn_typeOf ho hc
  unfold getMethod
  refine wpAny_bind ?_
  show wpAny _ _ (typeOf (.ref f) >>= fun t => typeLookup t "__getattribute__") _ _ _
  refine wpAny_bind (T1.here ?_)
  rw [fn_lookup_ga]
  refine wpAny_pure ?_
  show wpAny _ _ (if (Manifest.canonical "object.__getattribute__" != "object.__getattribute__") = true then _ else _) _ _ _
  rw [if_neg (by decide +kernel)]
  refine wpAny_bind ?_
  show wpAny _ _ (typeOf (.ref f) >>= fun t => typeLookup t "__getattr__") _ _ _
  refine wpAny_bind (T1.here ?_)
  rw [fn_lookup_gattr]
  refine wpAny_pure ?_
  refine wpAny_bind ?_
  show wpAny _ _ (typeOf (.ref f) >>= fun t => typeLookup t "read") _ _ _
  refine wpAny_bind (T1.here ?_)
  rw [fn_lookup_read]
  refine wpAny_pure ?_
  exact wpAny_bind (fn_getattr N hm hc hd hdat hmd hO hv hh (wpAny_pure h))
end
theorem nsObj_one (hsh : Int) (tn : Tok) (v : Value) (n : Nat) : LCg.NsObj (dictOf [⟨hsh, .str "read" tn, v⟩] n) (fun x => if x = "read" then some v else none) := by
  refine ⟨_, _, rfl, fun e he => ?_, fun name => ?_⟩
  · simp at he; subst he; exact ⟨_, _, rfl⟩
  · unfold nsFind findBy
    rw [← Array.find?_toList]
    by_cases e : name = "read"
    · subst e; simp [Value.isStr]
    · have : (Value.str "read" tn).isStr name = false := by simp [Value.isStr]; exact fun q => e q.symm
      simp [this, e]
end
section
theorem owner_ci : Manifest.owners.lookup (String.ofList ['r', 'o', 't', 'a', 'r', 'e', 't', 'i', '_', 'e', 'l', 'b', 'a', 'l', 'l', 'a', 'c'].reverse) = some Manifest.sig_callable_iterator := by kernel_rfl
theorem slot_ci_next : Slot "callable_iterator" "__next__" "callable_iterator.__next__" :=
  .of (owner := "callable_iterator") (n := "__next__") (by rw [typeLookup_type, builtinLookup_eq_fast]; kernel_rfl) (by decide +kernel) (by decide +kernel) (by decide +kernel)
    (by first | exact .inl (by decide +kernel) | exact .inr (by decide +kernel)) (by rw [isSubtype_type]; kernel_rfl)
theorem entry_ci_next : entryFor table "callable_iterator.__next__" = some Builtin.«callable_iterator.__next__» := entryFor_of_tree (by kernel_rfl)
theorem args_ci_next (a : Value) : argsOk "callable_iterator.__next__" ⟨[a], []⟩ := by
  unfold argsOk; rw [signature?_of (id := "callable_iterator.__next__") (n := ['_', '_', 't', 'x', 'e', 'n', '_', '_']) (o := ['r', 'o', 't', 'a', 'r', 'e', 't', 'i', '_', 'e', 'l', 'b', 'a', 'l', 'l', 'a', 'c']) (by kernel_rfl) owner_ci]; kernel_rfl
theorem slot_ci_iter : Slot "callable_iterator" "__iter__" "callable_iterator.__iter__" :=
  .of (owner := "callable_iterator") (n := "__iter__") (by rw [typeLookup_type, builtinLookup_eq_fast]; kernel_rfl) (by decide +kernel) (by decide +kernel) (by decide +kernel)
    (by first | exact .inl (by decide +kernel) | exact .inr (by decide +kernel)) (by rw [isSubtype_type]; kernel_rfl)
theorem args_ci_iter (a : Value) : argsOk "callable_iterator.__iter__" ⟨[a], []⟩ := by
  unfold argsOk; rw [signature?_of (id := "callable_iterator.__iter__") (n := ['_', '_', 'r', 'e', 't', 'i', '_', '_']) (o := ['r', 'o', 't', 'a', 'r', 'e', 't', 'i', '_', 'e', 'l', 'b', 'a', 'l', 'l', 'a', 'c']) (by kernel_rfl) owner_ci]; kernel_rfl
theorem entry_ci_iter : entryFor table "callable_iterator.__iter__" = some Builtin.«dict_keyiterator.__iter__» :=
  entryFor_alias (id' := "dict_keyiterator.__iter__") (by kernel_rfl) (by first | rfl | decide +kernel | (unfold String.splitOn; simp +decide [String.splitOnAux])) (by decide +kernel) (by kernel_rfl)
theorem iter2_entry : entryFor table "iter" = some Builtin.«iter» := entryFor_of_fast (by kernel_rfl)
theorem iter2_args (a b : Value) : argsOk "iter" ⟨[a, b], []⟩ := by unfold argsOk; kernel_rfl
theorem method_call_slot : typeLookup (.type "method") "__call__" = pure (some (.builtin "method.__call__")) := by rw [typeLookup_type, builtinLookup_eq_fast]; kernel_rfl
abbrev ciEnded : Obj := { cls := .type "callable_iterator", data := .fields #[.none, .none, .bool true] }
def CallR (Q E : Value → Shared → Prop) : Result → Shared → Prop := fun r s' => match r with | .ok (.ret v) => Q v s' | .ok _ => False | .error e => E e s'
abbrev ciObj (q : Addr) (t : Tok) : Obj := { cls := .type "callable_iterator", data := .fields #[.ref q, .str ("" : Str) t, .bool false] }
theorem wpAny_callBorrowed {M : Model} {A : Around} {E : Value → Shared → Prop} {s : Shared} {f : Value} {pos : List Value} {Q : Value → Shared → Prop}
    (hc : codeAny M A (.call f ⟨pos, []⟩) (fun r s' => match r with | .ok (.ret v) => Q v s' | .ok _ => False | .error e => E e s') s) :
    wpAny M A (callBorrowed f pos) Q E s := fun Γ p hΓ => by
  have h1 := hc _ p rfl (hΓ.enter (.call f ⟨pos, []⟩) none p (by intro x; cases x))
  unfold callBorrowed
  rw [Sem.wp_call]
  refine Eq.mp ?_ h1
  congr 1
  funext r s'
  cases r with
  | error e => rfl
  | ok f => cases f <;> rfl
section
variable {prog : Program} {w : World} {A : Around} {E : Value → Shared → Prop} {s : Shared} {h₀ : Heap} {L it q : Addr} {m : Str → Option Value} {news : List (Addr × Obj)} {t : Tok} {fv self : Value}
theorem ci_iter {Q : Value → Shared → Prop} (hit : s.TypeIs (.ref it) "callable_iterator") (h : Q (.ref it) s) : wpAny (model prog w) A (pyIter (.ref it)) Q E s := by
  refine wpAny_pyIter_slot hit slot_ci_iter (wpAny_call_entry slot_ci_iter hit entry_ci_iter ?_ (args_ci_iter _))
  show wpAny _ _ (ret (.ref it)) _ _ s
  exact wpAny_pure ⟨_, rfl, "callable_iterator", _, hit, slot_ci_next.lookup, h⟩
theorem ci_make {Q : Value → Shared → Prop} (F : Fr h₀ L s.heap m) (N : News h₀ L s.heap news) (hq : (q, methodObj fv self) ∈ news)
    (h : ∀ (I : Addr) h', Fr h₀ L h' m → News h₀ L h' ((I, ciObj q t) :: news) → (∀ p ∈ news, @LT.lt Nat _ p.1 I) → Q (.ref I) { s with heap := h' }) :
    wpAny (model prog w) A (call (.builtin "iter") [.ref q, .str ("" : Str) t]) Q E s := by
  refine call_function_entry (by decide +kernel) (by decide +kernel) iter2_entry (iter2_args _ _) ?_
  unfold Builtin.«iter»
  refine wpAny_bind (m := someArgs "iter" 1 2 _) (wpAny_of_eq (a := [Value.ref q, Value.str ("" : Str) t]) (by first | rfl | kernel_rfl!) ?_)
  show wpAny _ _ (specialOf (.ref q) "__call__" >>= _) _ _ _
  refine wpAny_bind (wpAny_specialOf (T := "method") ⟨_, (N _ hq).1, rfl⟩ method_call_slot ?_)
  show wpAny _ _ (rule "iter.sentinel" >>= _) _ _ _
  refine wpAny_bind (wpAny_rule ?_)
  show wpAny _ _ (newObj (.type "callable_iterator") (.fields #[.ref q, .str ("" : Str) t, .bool false]) >>= ret) _ _ _
  refine wpAny_bind (wpAny_newObj_type ?_ (by size_fits))
  exact wpAny_pure ⟨_, rfl, h _ _ (F.push _) (News.push F N _ rfl) (fun q hq => Heap.lt_size (N q hq).1)⟩
theorem borrows_method {Q : Bool → Shared → Prop} {fa : Addr} {fo : Obj} {fd : FuncData} (hq : s.heap.get? q = some (methodObj (.ref fa) self)) (hf : s.heap.get? fa = some fo) (hd : fo.data = .func fd) (h : Q true s) : wpAny (model prog w) A (borrowsExactly (.ref q)) Q E s := by
  unfold borrowsExactly
  refine wpAny_bind (wpAny_load hq ?_)
  show wpAny _ _ (load fa >>= _) _ _ _
  refine wpAny_bind (wpAny_load hf ?_)
  rw [hd]
  exact wpAny_pure h
theorem ci_next {Q : Option Value → Shared → Prop} {fa : Addr} {fo : Obj} {fd : FuncData} (hh : A.handled = none) (hI : s.heap.get? it = some (ciObj q t)) (hq : s.heap.get? q = some (methodObj (.ref fa) self)) (hf : s.heap.get? fa = some fo) (hd : fo.data = .func fd)
    (h : codeAny (model prog w) A.in1 (.call (.ref fa) ⟨[self], []⟩) (CallR (fun v s' => ∃ c tc, v = .str c tc ∧ s'.heap.get? it = some (ciObj q t) ∧ s'.heap.get? q = some (methodObj (.ref fa) self) ∧ s'.heap.get? fa = some fo ∧ ((c == ("" : Str)) = false → Q (some v) s') ∧ ((c == ("" : Str)) = true → ∀ h', h'.get? it = some ciEnded → Heap.ExtBut it s'.heap h' → Q none { s' with heap := h' })) (fun _ _ => False)) s) :
    wpAny (model prog w) A (pyNext (.ref it)) Q E s := by
  unfold pyNext
  refine wpAny_bind (wpAny_attempt (wpAny_callSpecial?_slot (name := Str.ofString "__next__") ⟨_, hI, rfl⟩ slot_ci_next
    (wpAny_call_entry slot_ci_next ⟨_, hI, rfl⟩ entry_ci_next ?_ (args_ci_next _))))
  unfold Builtin.«callable_iterator.__next__»
  refine wpAny_bind (wpAny_of_eq (a := (Value.ref it, [])) rfl ?_)
  try dsimp only
  refine wpAny_bind (wpAny_field hI rfl (x := .bool false) rfl ?_)
  rw [if_neg (show ¬ ((Value.bool false == Value.bool true) = true) from Bool.false_ne_true)]
  refine wpAny_bind (wpAny_field hI rfl (x := .ref q) rfl ?_)
  refine wpAny_bind (wpAny_attempt ?_)
  unfold callOutOfASlot
  refine wpAny_bind (borrows_method hq hf hd ?_)
  rw [if_pos rfl]
  refine wpAny_callBorrowed (method_call hq (codeAny_mono h ?_))
  intro r s1 h1
  cases r with
  | error e => exact absurd h1 id
  | ok f =>
    cases f with
    | ret v =>
      obtain ⟨c, tc, rfl, i1, i2, i3, hn, he⟩ := h1
      show wpAny _ _ (field (.ref it) 2 >>= _) _ _ _
      refine wpAny_bind (wpAny_field i1 rfl (x := .bool false) rfl ?_)
      rw [if_neg (show ¬ ((Value.bool false == Value.bool true) = true) from Bool.false_ne_true)]
      refine wpAny_bind (wpAny_field i1 rfl (x := .str ("" : Str) t) rfl ?_)
      refine wpAny_bind (wpAny_holding (wpAny_eqBool_str ?_))
      by_cases hc : ("" : Str) = c
      · subst hc
        rw [decide_eq_true rfl]
        rw [if_neg (by decide)]
        refine wpAny_bind (wpAny_rule ?_)
        refine wpAny_bind ?_
        show wpAny _ _ (field (.ref it) 0 >>= _) _ _ _
        refine wpAny_bind (wpAny_field i1 rfl (x := .ref q) rfl ?_)
        refine wpAny_bind ?_
        show wpAny _ _ (borrowsExactly (.ref q) >>= _) _ _ _
        refine wpAny_bind (borrows_method i2 i3 hd ?_)
        rw [if_pos rfl]
        refine wpAny_pure ?_
        refine wpAny_bind (wpAny_setField_rec i1 (by simp) fun h2 g2 b2 => ?_)
        refine wpAny_bind (wpAny_setField_rec g2 (by simp) fun h3 g3 b3 => ?_)
        refine wpAny_setField_rec g3 (by simp) fun h4 g4 b4 => ?_
        first
        | show wpAny _ _ (newExc (.type "StopIteration") [] >>= _) _ _ _
        | (refine wpAny_bind ?_; show wpAny _ _ (newExc (.type "StopIteration") [] >>= _) _ _ _)
        refine wpAny_bind ?_
        simp only [newExc, newTuple]
        refine wpAny_bind (wpAny_newObj_type ?_ (by size_fits))
        refine wpAny_bind (m := firstArgMember _ _) (wpAny_of_eq (a := Value.none) (by first | rfl | (simp only [firstArgMember]; rfl)) ?_)
        refine wpAny_newObj_type ?_ (by size_fits)
        simp only [raiseNew]
        refine wpAny_bind (wpAny_handled ?_)
        first | rw [show A.in1.handled = none from hh] | rw [hh]
        refine wpAny_bind (wpAny_pure (wpAny_throw ?_))
        refine wpAny_bind (wpAny_isInstance (T := "StopIteration") (b := true) ⟨_, Heap.get?_push_size _ rfl, rfl⟩ isSubtype_stop ?_)
        exact wpAny_pure (he (beq_self_eq_true _) _ (Heap.get?_push_of_some _ (Heap.get?_push_of_some _ g4)) ((((b2.extBut.trans b3.extBut).trans b4.extBut).push _).push _))
      · rw [decide_eq_false hc, if_pos (by decide)]
        exact wpAny_pure ⟨_, rfl, wpAny_pure (hn (beq_eq_false_iff_ne.mpr (Ne.symm hc)))⟩
    | _ => exact absurd h1 id
theorem ci_ended {Q : Option Value → Shared → Prop} (hh : A.handled = none) (hI : s.heap.get? it = some ciEnded) (h : ∀ h', h'.get? it = some ciEnded → Heap.ExtBut it s.heap h' → Q none { s with heap := h' }) :
    wpAny (model prog w) A (pyNext (.ref it)) Q E s := by
  unfold pyNext
  refine wpAny_bind (wpAny_attempt (wpAny_callSpecial?_slot (name := Str.ofString "__next__") ⟨_, hI, rfl⟩ slot_ci_next
    (wpAny_call_entry slot_ci_next ⟨_, hI, rfl⟩ entry_ci_next ?_ (args_ci_next _))))
  unfold Builtin.«callable_iterator.__next__»
  refine wpAny_bind (wpAny_of_eq (a := (Value.ref it, [])) rfl ?_)
  try dsimp only
  refine wpAny_bind (wpAny_field hI rfl (x := .bool true) rfl ?_)
  rw [if_pos (show ((Value.bool true == Value.bool true) = true) from rfl)]
  refine wpAny_bind (wpAny_rule ?_)
  first
  | show wpAny _ _ (newExc (.type "StopIteration") [] >>= _) _ _ _
  | (refine wpAny_bind ?_; show wpAny _ _ (newExc (.type "StopIteration") [] >>= _) _ _ _)
  refine wpAny_bind ?_
  simp only [newExc, newTuple]
  refine wpAny_bind (wpAny_newObj_type ?_ (by size_fits))
  refine wpAny_bind (m := firstArgMember _ _) (wpAny_of_eq (a := Value.none) (by first | rfl | (simp only [firstArgMember]; rfl)) ?_)
  refine wpAny_newObj_type ?_ (by size_fits)
  simp only [raiseNew]
  refine wpAny_bind (wpAny_handled ?_)
  first | rw [show A.in1.handled = none from hh] | rw [hh]
  refine wpAny_bind (wpAny_pure (wpAny_throw ?_))
  refine wpAny_bind (wpAny_isInstance (T := "StopIteration") (b := true) ⟨_, Heap.get?_push_size _ rfl, rfl⟩ isSubtype_stop ?_)
  exact wpAny_pure (h _ (Heap.get?_push_of_some _ (Heap.get?_push_of_some _ hI)) (((Heap.ExtBut.refl _ _).push _).push _))
end
end
section
section
variable {prog : Program} {w : World} {A : Around} {E : Value → Shared → Prop} {s : Shared} {h₀ : Heap} {L I D : Addr} {m : Str → Option Value} {news : List (Addr × Obj)} {vs : List Value} {ep : Nat}
def LiAt (o : Obj) (D : Addr) (i : Nat) : Prop := o.cls = .type "list_iterator" ∧ o.data = .fields #[.ref D, rawInt (i : Int)]
theorem li_make {Q : Value → Shared → Prop} (F : Fr h₀ L s.heap m) (N : News h₀ L s.heap news) (hl : (D, W.listOf vs.toArray ep) ∈ news)
    (h : ∀ I o h', Fr h₀ L h' m → News h₀ L h' ((I, o) :: news) → LiAt o D 0 → (∀ p ∈ news, @LT.lt Nat _ p.1 I) → Q (.ref I) { s with heap := h' }) :
    wpAny (model prog w) A (pyIter (.ref D)) Q E s :=
  wpAny_pyIter_list (PySem.IsL.isList (n := ep) (N _ hl).1) (h _ _ _ (F.push _) (News.push F N _ rfl) ⟨rfl, rfl⟩ (fun q hq => Heap.lt_size (N q hq).1))
theorem li_item {o : Obj} {i : Nat} {x : Value} {g : Obj → List (Addr × Obj)} {Q : Option Value → Shared → Prop} (F : Fr h₀ L s.heap m) (N : News h₀ L s.heap news) (U : UpdF I o news g) (ho : LiAt o D i)
    (hl : (D, W.listOf vs.toArray ep) ∈ news) (hx : vs[i]? = some x)
    (h : ∀ h' o', Fr h₀ L h' m → News h₀ L h' (g o') → LiAt o' D (i + 1) → Q (some x) { s with heap := h' }) : wpAny (model prog w) A (pyNext (.ref I)) Q E s := by
  obtain ⟨own, rest, rfl, hg, h1, h2⟩ := U.split
  have hm := N (I, o) (List.mem_append_right _ (.head _))
  refine wpAny_pyNext_list_item (i := i) ⟨o, hm.1, ho.1, ho.2⟩ (PySem.IsL.isList (n := ep) (N _ hl).1) (by simpa using hx) fun h' hit hs => ?_
  obtain ⟨o', ho', hc', hd'⟩ := hit
  refine h h' o' ⟨F.ns.sameBut hs (Ne.symm hm.2.1), fun b ob e => (hs.2 b (fun q => ?_)).trans (F.keep b ob e), F.above⟩ (hg o' ▸ N.setAt h1 h2 hs ho') ⟨hc', hd'⟩
  rw [q, hm.2.2] at e; cases e
theorem li_end {o : Obj} {i : Nat} {nx : List (Addr × Obj)} {Q : Option Value → Shared → Prop} (hh : A.handled = none) (F : Fr h₀ L s.heap m) (N : News h₀ L s.heap news) (hm : (I, o) ∈ news) (ho : LiAt o D i)
    (hl : (D, W.listOf vs.toArray ep) ∈ news) (hx : vs.length ≤ i) (hs : ∀ p ∈ nx, p ∈ news) (hne : ∀ p ∈ nx, p.1 ≠ I)
    (h : ∀ h', Fr h₀ L h' m → News h₀ L h' nx → Q none { s with heap := h' }) : wpAny (model prog w) A (pyNext (.ref I)) Q E s := by
  have h3 := N _ hm
  refine wpAny_pyNext_list_end (l := D) (i := i) (items := vs.toArray) hh ⟨o, h3.1, ho.1, ho.2⟩ (PySem.IsL.isList (n := ep) (N _ hl).1) (by simpa using hx) fun h' hx => ?_
  exact h h' (fr_extBut F hx (Ne.symm h3.2.1) h3.2.2) (news_extBut (fun p hp => N p (hs p hp)) hx hne)
open Builtin Builtin.Str in
theorem gives_find_to (x y : Str) (i : Int) (t u v v2 : Tok) : Gives (Builtin.«str.find» ⟨[.str x t, .str y u, .int i v, .int (x.length : Nat) v2], []⟩) (.int (Txt.find3 x y i)) := by
  have e : fromIndex x.length ((x.length : Nat) : Int) = x.length := by unfold fromIndex; rw [if_neg (by omega)]; omega
  show Gives (match occurrences x y (fromIndex x.length i) (min (fromIndex x.length ((x.length : Nat) : Int)) x.length) 1 with | k :: _ => retInt k | [] => (do rule "str.find.not-found"; retInt (-1))) _
  rw [e, Nat.min_self]
  unfold Txt.find3
  cases occurrences x y (fromIndex x.length i) x.length 1 with
  | nil => exact .rule (.of_eq rfl)
  | cons k _ => exact .of_eq rfl
theorem find4 {x y : Str} {t u v v2 : Tok} {i : Int} {Q : Value → Shared → Prop} (hq : Q (.int (Txt.find3 x y i) s.toks) { s with toks := s.toks + 1 }) : wpAny (model prog w) A (call (.builtin "str.find") [.str x t, .str y u, .int i v, .int (x.length : Nat) v2]) Q E s :=
  call_gives F.slot_str_find (typeIs_str _ _ _) F.entry_str_find (F.args_str_find_4 _ _ _ _) (gives_find_to x y i t u v v2) hq
end
end
section
/-- the scan that _ellipsis_match makes over the parts -/
def emScan (G : Str) : List Str → Int → Bool
  | [], _ => true
  | c :: r, p => if Txt.find3 G c p < 0 then false else emScan G r (Txt.find3 G c p + c.length)
/-- is the first list within the second, with gaps? -/
def subL : List Nat → List Nat → Bool
  | [], _ => true
  | _ :: _, [] => false
  | a :: p, b :: g => if a = b then subL p g else subL (a :: p) g
/-- the number of figures, the highest first -/
def valL (p : List Nat) : Nat := numD 2 p.reverse
def bfs (wb : List Nat) : Nat → List (List Nat) → List Nat → Option (List Nat)
  | 0, _, _ => none
  | _ + 1, [], acc => some acc
  | f + 1, p :: q, acc => if subL p wb then bfs wb f (q ++ [p ++ [0], p ++ [1]]) (acc ++ [valL p]) else bfs wb f q acc
abbrev sg1 (c : Nat) : Str := ⟨#[c]⟩
abbrev sgs (l : List Nat) : List Str := l.map sg1
/-- the text of figures -/
def encL (c0 c1 : Nat) (p : List Nat) : Str := ⟨(p.map fun b => if b = 0 then c0 else c1).toArray⟩
/-- three dots ahead of each sign and behind the last -/
def glueL : List Nat → List Nat
  | [] => [46, 46, 46]
  | d :: r => 46 :: 46 :: 46 :: d :: glueL r
theorem glueL_length : ∀ cs : List Nat, (glueL cs).length = 4 * cs.length + 3
  | [] => rfl
  | d :: r => by rw [glueL, List.length_cons, List.length_cons, List.length_cons, List.length_cons, glueL_length r, List.length_cons]; omega
theorem glueL_at : ∀ (cs : List Nat), (∀ c ∈ cs, c ≠ 46) → ∀ k, ((glueL cs).drop k).take 3 = [46, 46, 46] ↔ (k % 4 = 0 ∧ k ≤ 4 * cs.length)
  | [], _, 0 => by simp [glueL]
  | [], _, 1 => by simp [glueL]
  | [], _, 2 => by simp [glueL]
  | [], _, k + 3 => by
    have e : (glueL []).drop (k + 3) = [] := List.drop_eq_nil_of_le (by rw [glueL_length]; simp)
    rw [e]
    simp
  | d :: r, _, 0 => by simp [glueL]
  | d :: r, h, 1 => by
    have := h d (List.mem_cons_self ..)
    simp [glueL, this]
  | d :: r, h, 2 => by
    have := h d (List.mem_cons_self ..)
    cases r <;> simp [glueL, this]
  | d :: r, h, 3 => by
    have := h d (List.mem_cons_self ..)
    cases r <;> simp [glueL, this]
  | d :: r, h, k + 4 => by
    have e : (glueL (d :: r)).drop (k + 4) = (glueL r).drop k := rfl
    rw [e, glueL_at r (fun c hc => h c (List.mem_cons_of_mem _ hc)) k, List.length_cons]
    omega
theorem glueL_sign : ∀ (cs : List Nat) (j : Nat) (h : j < cs.length), ((glueL cs).drop (4 * j + 3)).take 1 = [cs[j]]
  | d :: r, 0, _ => rfl
  | d :: r, j + 1, h => by
    have e : (glueL (d :: r)).drop (4 * (j + 1) + 3) = (glueL r).drop (4 * j + 3) := rfl
    rw [e, glueL_sign r j (by simpa using h)]
    rfl
section
open Builtin Builtin.Str StrLaws
abbrev dots : Str := PySem.Str.ofString "..."
theorem dots_list : dots.cps.toList = [46, 46, 46] := by decide
theorem dots_length : dots.length = 3 := by decide
theorem length_toList (x : Str) : x.length = x.cps.toList.length := rfl
theorem at_glue {X : Str} {cs : List Nat} (hX : X.cps.toList = glueL cs) (h : ∀ c ∈ cs, c ≠ 46) (k : Nat) : At X dots X.length k ↔ (k % 4 = 0 ∧ k ≤ 4 * cs.length) := by
  unfold At
  rw [subAt_eq, dots_length, length_toList, hX, glueL_length, dots_list, beq_iff_eq, glueL_at cs h]
  omega
theorem sub_nil {X : Str} {a : Nat} : strSub X a a = ("" : Str) := by
  apply Str.ext'
  apply Array.toList_inj.mp
  rw [strSub_toList, Nat.sub_self, List.take_zero]
  rfl
theorem sub_one {X : Str} {cs : List Nat} (hX : X.cps.toList = glueL cs) {j : Nat} (h : j < cs.length) : strSub X (4 * j + 3) (4 * j + 4) = sg1 cs[j] := by
  apply Str.ext'
  apply Array.toList_inj.mp
  rw [strSub_toList, hX, show 4 * j + 4 - (4 * j + 3) = 1 by omega, glueL_sign cs j h]
theorem glue_parts {X : Str} {cs : List Nat} (hX : X.cps.toList = glueL cs) (h : ∀ c ∈ cs, c ≠ 46) : ∀ (d j a f : Nat) (cuts : List Nat), j + d = cs.length → a ≤ 4 * j → (∀ i, a ≤ i → i < 4 * j → ¬ At X dots X.length i) →
    ChainG X dots X.length a cuts f → (∀ k, f ≤ k → ¬ At X dots X.length k) → partsFrom X 3 a cuts = strSub X a (4 * j) :: (sgs (cs.drop j) ++ [("" : Str)]) := by
  intro d
  induction d with
  | zero =>
    intro j a f cuts hj ha hno hch hf
    have hAt : At X dots X.length (4 * j) := (at_glue hX h _).mpr ⟨by omega, by omega⟩
    cases cuts with
    | nil =>
      have e : f = a := hch
      exact absurd hAt (hf _ (by omega))
    | cons c r =>
      obtain ⟨h1, h2, h3, h4⟩ := hch
      have hc := (at_glue hX h c).mp h2
      have ec : c = 4 * j := by
        rcases Nat.lt_trichotomy c (4 * j) with q | q | q
        · exact absurd h2 (hno c h1 q)
        · exact q
        · exact absurd hAt (h3 _ ha q)
      subst ec
      rw [partsFrom]
      cases r with
      | nil =>
        rw [partsFrom, List.drop_eq_nil_of_le (by omega)]
        have e : X.length = 4 * j + 3 := by rw [length_toList, hX, glueL_length]; omega
        rw [e, sub_nil]; rfl
      | cons c' r' =>
        obtain ⟨g1, g2, _, _⟩ := h4
        have hc' := (at_glue hX h c').mp g2
        rw [dots_length] at g1
        omega
  | succ d ih =>
    intro j a f cuts hj ha hno hch hf
    have hAt : At X dots X.length (4 * j) := (at_glue hX h _).mpr ⟨by omega, by omega⟩
    cases cuts with
    | nil =>
      have e : f = a := hch
      exact absurd hAt (hf _ (by omega))
    | cons c r =>
      obtain ⟨h1, h2, h3, h4⟩ := hch
      have ec : c = 4 * j := by
        rcases Nat.lt_trichotomy c (4 * j) with q | q | q
        · exact absurd h2 (hno c h1 q)
        · exact q
        · exact absurd hAt (h3 _ ha q)
      subst ec
      rw [dots_length] at h4
      have hjl : j < cs.length := by omega
      rw [partsFrom, ih (j + 1) (4 * j + 3) f r (by omega) (by omega) (fun i h1 h2 hA => by have := (at_glue hX h i).mp hA; omega) h4 hf]
      rw [show 4 * (j + 1) = 4 * j + 4 by omega, sub_one hX hjl, List.drop_eq_getElem_cons hjl]
      rfl
theorem split_glue {X : Str} {cs : List Nat} (hX : X.cps.toList = glueL cs) (h : ∀ c ∈ cs, c ≠ 46) : Txt.split X dots = ("" : Str) :: (sgs cs ++ [("" : Str)]) := by
  have hl : X.length = 4 * cs.length + 3 := by rw [length_toList, hX, glueL_length]
  obtain ⟨f, hch, hf⟩ := occ_tight X dots (by rw [dots_length]; decide)
  have hp := glue_parts hX h cs.length 0 0 f _ (by omega) (by omega) (fun i _ h2 => by omega) hch hf
  unfold Txt.split
  have k1 : (decide (X.length < dots.length) || decide (Builtin.Str.strKind X < Builtin.Str.strKind dots)) = false := by
    rw [dots_length, hl]
    have e : Builtin.Str.strKind dots = 1 := by decide +kernel
    rw [e]
    have : 1 ≤ Builtin.Str.strKind X := by unfold Builtin.Str.strKind; split <;> (try split) <;> decide
    simp; omega
  rw [k1, if_neg Bool.false_ne_true]
  have k2 : (occurrences X dots 0 X.length (X.length + 1)).isEmpty = false := by
    cases hc : occurrences X dots 0 X.length (X.length + 1) with
    | nil =>
      rw [hc] at hch
      have e : f = 0 := hch
      exact absurd ((at_glue hX h 0).mpr ⟨by decide, by omega⟩) (hf 0 (by omega))
    | cons _ _ => rfl
  rw [k2, if_neg Bool.false_ne_true, partsBetween_eq, dots_length, hp, List.drop_zero, Nat.mul_zero, sub_nil]
theorem has_glue {X : Str} {cs : List Nat} (hX : X.cps.toList = glueL cs) (h : ∀ c ∈ cs, c ≠ 46) : (occurrences X dots 0 X.length 1).isEmpty = false := by
  have := (found_iff X dots).mpr ⟨0, (at_glue hX h 0).mpr ⟨by decide, by omega⟩⟩
  simpa using this
theorem join_dots : ∀ (c : Nat) (cs : List Nat), 46 :: 46 :: 46 :: ((Str.join dots (sgs (c :: cs))).cps.toList ++ [46, 46, 46]) = glueL (c :: cs)
  | c, [] => rfl
  | c, d :: r => by
    have e : Str.join dots (sgs (c :: d :: r)) = sg1 c ++ dots ++ Str.join dots (sgs (d :: r)) := rfl
    rw [e, Str.cps_append, Str.cps_append, Array.toList_append, Array.toList_append, dots_list, glueL, ← join_dots d r]
    rfl
theorem glue_text {cs : List Nat} (h : cs ≠ []) : ((dots ++ Txt.join dots (sgs cs)) ++ dots).cps.toList = glueL cs := by
  cases cs with
  | nil => exact absurd rfl h
  | cons c r =>
    rw [← join_dots c r]
    show (((dots ++ glued dots (sgs (c :: r))) ++ dots).cps).toList = _
    rw [glued_eq_join, Str.cps_append, Str.cps_append, Array.toList_append, Array.toList_append, dots_list]
    rfl
theorem find_nil {G : Str} {p : Nat} (h : p ≤ G.length) : Txt.find3 G ("" : Str) (p : Int) = (p : Int) := by
  have e : fromIndex G.length (p : Int) = p := by unfold fromIndex; rw [if_neg (by omega)]; omega
  have hA : At G ("" : Str) G.length p := by
    refine ⟨h, ?_⟩
    rw [subAt_eq]
    show (((G.cps.toList.drop p).take 0) == []) = true
    rw [List.take_zero]; rfl
  unfold Txt.find3
  rw [e]
  rcases occ_head_from G ("" : Str) p 1 (Nat.le_refl 1) with ⟨_, hn⟩ | ⟨k, r, h0, hlo, hk, hn⟩
  · exact absurd hA (hn p (Nat.le_refl _))
  · rw [h0]
    have : k = p := by
      rcases Nat.lt_trichotomy k p with q | q | q
      · omega
      · exact q
      · exact absurd hA (hn p (Nat.le_refl _) q)
    show ((k : Nat) : Int) = _
    rw [this]
theorem subL_nil (l : List Nat) : subL [] l = true := by cases l <;> rfl
theorem subL_none {c : Nat} {r : List Nat} : ∀ {l : List Nat}, c ∉ l → subL (c :: r) l = false
  | [], _ => rfl
  | b :: l, h => by
    rw [subL, if_neg (fun e => h (by rw [e]; exact List.mem_cons_self ..))]
    exact subL_none fun q => h (List.mem_cons_of_mem _ q)
theorem subL_first {c : Nat} {r post : List Nat} : ∀ {pre : List Nat}, c ∉ pre → subL (c :: r) (pre ++ c :: post) = subL r post
  | [], _ => by rw [List.nil_append, subL, if_pos rfl]
  | b :: pre, h => by
    rw [List.cons_append, subL, if_neg (fun e => h (by rw [e]; exact List.mem_cons_self ..))]
    exact subL_first fun q => h (List.mem_cons_of_mem _ q)
theorem getD_list {G : Str} {v : Nat} (h : v < G.cps.toList.length) : G.cps.getD v 0 = G.cps.toList[v] := by
  have h' : v < G.cps.size := by simpa using h
  simp [Array.getD, h']
theorem emScan_sub (G : Str) : ∀ (cs : List Nat) (p : Nat), p ≤ G.length → emScan G (sgs cs ++ [("" : Str)]) (p : Int) = subL cs (G.cps.toList.drop p)
  | [], p, h => by
    rw [subL_nil]
    show emScan G [("" : Str)] (p : Int) = true
    rw [emScan, find_nil h, if_neg (by omega)]; rfl
  | c :: r, p, h => by
    have e : fromIndex G.length (p : Int) = p := by unfold fromIndex; rw [if_neg (by omega)]; omega
    show emScan G (sg1 c :: (sgs r ++ [("" : Str)])) (p : Int) = _
    rw [emScan]
    rcases find3_spec G c (p : Int) with ⟨h1, h2⟩ | ⟨k, h1, h2, h3, h4, h5⟩
    · rw [h1, if_pos (by decide)]
      rw [e] at h2
      refine (subL_none fun hm => ?_).symm
      obtain ⟨i, hi, hi2⟩ := List.mem_iff_getElem.mp hm
      rw [List.getElem_drop] at hi2
      have hi' : p + i < G.cps.toList.length := by rw [List.length_drop] at hi; omega
      refine h2 (p + i) (by omega) hi' ?_
      rw [getD_list hi', hi2]
    · rw [e] at h2 h5
      rw [h1, if_neg (by omega)]
      have hk' : k < G.cps.toList.length := h3
      have e2 : ((k : Nat) : Int) + ((sg1 c).length : Nat) = ((k + 1 : Nat) : Int) := by
        rw [show (sg1 c).length = 1 from rfl]; omega
      rw [e2, emScan_sub G r (k + 1) (by omega)]
      have hsplit : G.cps.toList.drop p = (G.cps.toList.drop p).take (k - p) ++ c :: G.cps.toList.drop (k + 1) := by
        have h6 := List.take_append_drop (k - p) (G.cps.toList.drop p)
        rw [List.drop_drop, show p + (k - p) = k by omega, List.drop_eq_getElem_cons hk'] at h6
        rw [getD_list hk'] at h4
        rw [h4] at h6
        exact h6.symm
      rw [hsplit]
      refine (subL_first fun hm => ?_).symm
      obtain ⟨i, hi, hi2⟩ := List.mem_iff_getElem.mp hm
      rw [List.length_take, List.length_drop] at hi
      rw [List.getElem_take, List.getElem_drop] at hi2
      have hi' : p + i < G.cps.toList.length := by omega
      refine h5 (p + i) (by omega) (by omega) ?_
      rw [getD_list hi', hi2]
theorem emScan_all (G : Str) (cs : List Nat) : emScan G (("" : Str) :: (sgs cs ++ [("" : Str)])) 0 = subL cs G.cps.toList := by
  have h0 := find_nil (G := G) (p := 0) (Nat.zero_le _)
  rw [emScan, show (0 : Int) = ((0 : Nat) : Int) from rfl, h0, if_neg (by decide)]
  have := emScan_sub G cs 0 (Nat.zero_le _)
  rw [List.drop_zero] at this
  exact this
end
theorem rev_text (x : Str) (u : Tok) : (Txt.sliceBy x none none (-1, u)).cps.toList = x.cps.toList.reverse := by
  rw [step_rev_list]
  apply List.ext_getElem
  · simp [length_toList]
  · intro i h1 h2
    rw [List.getElem_map, List.getElem_range, List.getElem_reverse, getD_list (by rw [List.length_reverse] at h2; have := length_toList x; omega)]
    rfl
theorem find_zero (x y : Str) : Txt.find x y = Txt.find3 x y 0 := by
  have e : fromIndex x.length (0 : Int) = 0 := by unfold fromIndex; rw [if_neg (by omega)]; omega
  unfold Txt.find Txt.find3
  rw [e]
  cases Builtin.Str.occurrences x y 0 x.length 1 <;> rfl
theorem find_pair {c0 c1 b : Nat} (h : c0 ≠ c1) (hb : b < 2) : Txt.find (⟨#[c0, c1]⟩ : Str) (sg1 (if b = 0 then c0 else c1)) = ((b : Nat) : Int) := by
  have e : fromIndex (⟨#[c0, c1]⟩ : Str).length (0 : Int) = 0 := by unfold fromIndex; rw [if_neg (by omega)]; omega
  have hl : (⟨#[c0, c1]⟩ : Str).length = 2 := rfl
  rw [find_zero]
  rcases StrLaws.find3_spec (⟨#[c0, c1]⟩ : Str) (if b = 0 then c0 else c1) 0 with ⟨h1, h2⟩ | ⟨k, h1, h2, h3, h4, h5⟩
  · rw [e, hl] at h2
    have hb' : b = 0 ∨ b = 1 := by omega
    rcases hb' with rfl | rfl
    · exact absurd rfl (h2 0 (by decide) (by decide))
    · exact absurd rfl (h2 1 (by decide) (by decide))
  · rw [h1]
    rw [hl] at h3
    have hb' : b = 0 ∨ b = 1 := by omega
    have hk : k = 0 ∨ k = 1 := by omega
    rcases hb' with rfl | rfl <;> rcases hk with rfl | rfl
    · rfl
    · exact absurd h4.symm h
    · exact absurd h4 h
    · rfl
theorem map_getD (l : List Nat) : (List.range l.length).map (fun i => ((l.getD i 0 : Nat) : Int)) = l.map Int.ofNat := by
  apply List.ext_getElem
  · simp
  · intro i h1 h2
    simp only [List.length_map, List.length_range] at h1
    simp [h1]
theorem enc_snoc (c0 c1 b : Nat) (p : List Nat) : encL c0 c1 p ++ sg1 (if b = 0 then c0 else c1) = encL c0 c1 (p ++ [b]) := by
  apply Str.ext'
  apply Array.toList_inj.mp
  rw [Str.cps_append, Array.toList_append]
  simp [encL, sg1]
theorem enc_at {p : List Nat} {f : Nat → Nat} {i cc : Nat} (h : (p.map f)[i]? = some cc) : cc = f (p.getD i 0) ∧ p.getD i 0 ∈ p := by
  rw [List.getElem?_map] at h
  cases hi : p[i]? with
  | none => rw [hi] at h; cases h
  | some b =>
    rw [hi] at h
    have e : p.getD i 0 = b := by rw [List.getD_eq_getElem?_getD, hi]; rfl
    rw [e]
    exact ⟨(Option.some.inj h).symm, List.mem_of_getElem? hi⟩
theorem subL_length : ∀ {p g : List Nat}, subL p g = true → p.length ≤ g.length
  | [], _, _ => Nat.zero_le _
  | _ :: _, [], h => by cases h
  | a :: p, b :: g, h => by
    rw [subL] at h
    split at h
    · exact Nat.succ_le_succ (subL_length h)
    · exact Nat.le_succ_of_le (subL_length h)
theorem off1_mem {D : Addr} : ∀ {l : List (Addr × Obj)}, LCg.Off1 D l → ∀ p ∈ l, p.1 ≠ D
  | [], _, _, h => nomatch h
  | _ :: _, x, p, h => by
    rcases List.mem_cons.mp h with rfl | h
    · exact x.1
    · exact off1_mem x.2 p h
/-- the figures to the base 2, the highest first -/
def msb (n : Nat) : List Nat := (digsN 2 (Builtin.Int.intBits (n : Int)) n).reverse
/-- a numeral's signs, noise behind each -/
def wordL (c0 c1 : Nat) : List Nat → List (List Nat) → List Nat
  | [], _ => []
  | b :: r, nz => (if b = 0 then c0 else c1) :: (nz.headD [] ++ wordL c0 c1 r nz.tail)
def escL : List Nat → List Nat
  | [] => []
  | c :: r => 92 :: c :: escL r
def oneL (c0 c1 : Nat) (nz : List (List Nat)) (n : Nat) : List Nat := 34 :: (escL (wordL c0 c1 (msb n) nz) ++ [34, 32, 92, c1, 32])
def fileL (c0 c1 : Nat) (nz : List (List Nat)) : List Nat → List Nat
  | [] => []
  | n :: r => oneL c0 c1 nz n ++ fileL c0 c1 nz r
theorem join_empty : ∀ ts : List Str, (Txt.join ("" : Str) ts).cps.toList = (ts.map fun u => u.cps.toList).flatten := by
  have h : ∀ ts : List Str, (Str.join ("" : Str) ts).cps.toList = (ts.map fun u => u.cps.toList).flatten := by
    intro ts
    induction ts with
    | nil => rfl
    | cons x r ih =>
      cases r with
      | nil => simp [Str.join]
      | cons y r =>
        have e : Str.join ("" : Str) (x :: y :: r) = x ++ ("" : Str) ++ Str.join ("" : Str) (y :: r) := rfl
        rw [e, Str.cps_append, Str.cps_append, Array.toList_append, Array.toList_append, ih]
        simp
        rfl
  intro ts
  show (Builtin.Str.glued ("" : Str) ts).cps.toList = _
  rw [StrLaws.glued_eq_join, h]
theorem wordL_flat (c0 c1 : Nat) : ∀ (l : List Nat) (nz : List (List Nat)), wordL c0 c1 l nz = ((List.range l.length).map fun i => (if l.getD i 0 = 0 then c0 else c1) :: nz.getD i []).flatten
  | [], _ => rfl
  | b :: r, nz => by
    rw [wordL, wordL_flat c0 c1 r nz.tail, List.length_cons, List.range_succ_eq_map, List.map_cons, List.flatten_cons, List.map_map]
    cases nz with
    | nil => simp [Function.comp_def]
    | cons z nz => simp [Function.comp_def]
theorem word_text {c0 c1 : Nat} {ds : List Nat} {ns : List Str} {k : Nat} (hk : ds.length = k) :
    (Txt.join ("" : Str) ((List.range k).map fun i => sg1 (if ds.getD (k - 1 - i) 0 = 0 then c0 else c1) ++ ns.getD i ("" : Str))).cps.toList = wordL c0 c1 ds.reverse (ns.map fun u => u.cps.toList) := by
  rw [join_empty, wordL_flat, List.length_reverse, hk, List.map_map]
  congr 1
  apply List.map_congr_left
  intro i hi
  have hi' := List.mem_range.mp hi
  have e1 : ds.reverse.getD i 0 = ds.getD (k - 1 - i) 0 := by
    rw [List.getD_eq_getElem?_getD, List.getD_eq_getElem?_getD, List.getElem?_reverse (by omega), hk]
  have e2 : (ns.map fun u => u.cps.toList).getD i [] = (ns.getD i ("" : Str)).cps.toList := by
    rw [List.getD_eq_getElem?_getD, List.getD_eq_getElem?_getD, List.getElem?_map]
    cases ns[i]? <;> rfl
  rw [e1, e2]
  show ((sg1 _ ++ _ : Str).cps).toList = _
  rw [Str.cps_append, Array.toList_append]
  rfl
theorem wordL_length (c0 c1 : Nat) : ∀ (l : List Nat) (nz : List (List Nat)), (∀ z ∈ nz, z.length ≤ 1) → (wordL c0 c1 l nz).length ≤ 2 * l.length
  | [], _, _ => Nat.zero_le _
  | b :: r, nz, h => by
    have := wordL_length c0 c1 r nz.tail (fun z hz => h z (List.mem_of_mem_tail hz))
    rw [wordL, List.length_cons, List.length_append, List.length_cons]
    cases nz with
    | nil => simp at this ⊢; omega
    | cons z nz =>
      have h1 := h z (List.mem_cons_self ..)
      simp at this ⊢; omega
theorem escL_flat : ∀ l : List Nat, escL l = ((List.range l.length).map fun i => [92, l.getD i 0]).flatten
  | [] => rfl
  | c :: r => by
    rw [escL, escL_flat r, List.length_cons, List.range_succ_eq_map, List.map_cons, List.flatten_cons, List.map_map]
    simp [Function.comp_def]
theorem escL_length : ∀ l : List Nat, (escL l).length = 2 * l.length
  | [] => rfl
  | c :: r => by rw [escL, List.length_cons, List.length_cons, escL_length r, List.length_cons]; omega
theorem esc_text {l : List Nat} : (Txt.join ("" : Str) ((List.range l.length).map fun i => ("\\" : Str) ++ sg1 (l.getD i 0))).cps.toList = escL l := by
  rw [join_empty, escL_flat, List.map_map]
  congr 1
theorem sum_le {B : Nat} : ∀ ts : List Str, (∀ u ∈ ts, u.length ≤ B) → (ts.map (·.length)).sum ≤ B * ts.length
  | [], _ => Nat.zero_le _
  | u :: r, h => by
    have h1 := h u (List.mem_cons_self ..)
    have h2 := sum_le r fun v hv => h v (List.mem_cons_of_mem _ hv)
    rw [List.map_cons, List.sum_cons, List.length_cons, Nat.mul_add, Nat.mul_one]; omega
theorem fileL_snoc (c0 c1 : Nat) (nz : List (List Nat)) (o : Nat) : ∀ l : List Nat, fileL c0 c1 nz (l ++ [o]) = fileL c0 c1 nz l ++ oneL c0 c1 nz o
  | [] => by rw [List.nil_append, fileL, fileL, fileL, List.append_nil, List.nil_append]
  | n :: r => by rw [List.cons_append, fileL, fileL, fileL_snoc c0 c1 nz o r, List.append_assoc]
end
section
section
variable {prog : Program} {w : World} {A : Around} {E : Value → Shared → Prop} {s : Shared} {h₀ : Heap} {L D : Addr} {m : Str → Option Value} {news : List (Addr × Obj)} {vs : List Value} {c : Nat}
theorem strs_at : ∀ {ys : List Value} {ts : List Str}, ys.length = ts.length → (∀ (i : Nat) (y : Value), ys[i]? = some y → ∃ (t : Str) (u : Tok), ts[i]? = some t ∧ y = Value.str t u) → StrsAre ys ts
  | [], [], _, _ => .nil
  | [], _ :: _, h, _ => nomatch h
  | _ :: _, [], h, _ => nomatch h
  | y :: ys, t :: ts, hl, h => by
    obtain ⟨t', u, e1, e2⟩ := h 0 y rfl
    have e3 : t = t' := by simpa using e1
    rw [e2, ← e3]
    exact .cons _ _ (strs_at (by simpa using hl) fun i y' hy => h (i + 1) y' (by simpa using hy))
theorem ls_list {x : Str} {t : Tok} {Q : Value → Shared → Prop} (hh : A.handled = none) (F : Fr h₀ L s.heap m) (N : News h₀ L s.heap news)
    (h : ∀ D ys c h' tk, Fr h₀ L h' m → News h₀ L h' ((D, W.listOf (List.toArray ys) c) :: news) → StrsAre ys (sgs x.cps.toList) → (∀ p ∈ news, @LT.lt Nat _ p.1 D) → Q (.ref D) { s with heap := h', toks := tk }) (hsz : x.length ≤ sizeLine) :
    wpAny (model prog w) A (call (.type "list") [.str x t]) Q E s := by
  refine call_list_str hh x t (hn := hsz) fun h' tk acc' c' hk hS' hacc => ?_
  obtain ⟨oL, _, _, hL, _⟩ := F.ns
  refine h s.heap.objs.size acc'.toList c' h' tk (F.keeps hk) (List.forall_mem_cons.mpr ⟨⟨by rw [Array.toArray_toList]; exact hS', Nat.ne_of_gt (Heap.lt_size hL), ?_⟩, fun p hp => ⟨hk _ _ (N p hp).1, (N p hp).2⟩⟩) (strs_at (by simp [hacc.1, sgs]) fun i y hy => ?_) fun p hp => Heap.lt_size (N p hp).1
  · cases e : h₀.get? s.heap.objs.size with
    | none => rfl
    | some o => exact absurd (Heap.lt_size (F.keep _ _ e)) (Nat.lt_irrefl _)
  · obtain ⟨c, u, hc, rfl⟩ := hacc.2 i y (by simpa using hy)
    exact ⟨_, u, by simp [sgs, hc, sg1], rfl⟩
theorem strsAre_l : ∀ {vs : List Value} {ys : List Str}, StrsAre vs ys → ∃ l : List (Str × Tok), strValues l = vs ∧ l.map (·.1) = ys
  | _, _, .nil => ⟨[], rfl, rfl⟩
  | _, _, .cons y t h => by
    obtain ⟨l, e1, e2⟩ := strsAre_l h
    exact ⟨(y, t) :: l, by rw [← e1]; rfl, by rw [← e2]; rfl⟩
theorem joinOk_of (sep : Str) (ts : List Str) (n : Nat) (h : (ts.map (·.length)).sum + ts.length * sep.length ≤ 100000) : JoinOk sep ts = true := by
  unfold JoinOk
  rw [StrLaws.joinTotal]
  unfold Builtin.Str.tooLong
  rw [PySem.sizeLine_eq]
  simp
  omega
theorem join_S {sep : Str} {t : Tok} {ts : List Str} {Q : Value → Shared → Prop} (N : News h₀ L s.heap news) (hm : (D, W.listOf vs.toArray c) ∈ news) (hs : StrsAre vs ts) (hok : (ts.map (·.length)).sum + ts.length * sep.length ≤ 100000)
    (hq : ∀ t' k, Q (.str (Txt.join sep ts) t') { s with toks := k }) : wpAny (model prog w) A (call (.builtin "str.join") [.str sep t, .ref D]) Q E s := by
  obtain ⟨l, e1, e2⟩ := strsAre_l hs
  refine SC.join (l := l) (texts := ts) ?_ e2 (joinOk_of sep ts 0 hok) hq
  rw [e1]
  exact PySem.IsL.isList (n := c) (N _ hm).1
theorem al_lists {a b : Addr} {ws : List Value} {c1 c2 : Nat} {Q : Value → Shared → Prop} (F : Fr h₀ L s.heap m) (N : News h₀ L s.heap news) (ha : (a, W.listOf vs.toArray c1) ∈ news) (hb : (b, W.listOf ws.toArray c2) ∈ news)
    (h : ∀ D h', Fr h₀ L h' m → News h₀ L h' ((D, W.listOf (List.toArray (vs ++ ws)) 0) :: news) → (∀ p ∈ news, @LT.lt Nat _ p.1 D) → Q (.ref D) { s with heap := h' }) (hz : vs.length + ws.length ≤ sizeLine) :
    wpAny (model prog w) A (binaryOp .Add (.ref a) (.ref b)) Q E s :=
  add_lists F N (News.isList N ha) (News.isList N hb) (fun h' F' N' => h _ h' F' N' fun p hp => Heap.lt_size (N p hp).1) hz
end
end
section
section
open LCg
variable {prog : Program} {w : World} {A : Around} {E : Value → Shared → Prop} {s : Shared} {h₀ : Heap} {L : Addr} {m : Str → Option Value} {env : Env} {elt : Expr} {x : Str} {scope : Scope} {cl : List (Str × Addr)} {S : List (Addr × Obj) → Prop} {P : Nat → Value → Prop} {Fin : List Value → List (Addr × Obj) → Prop} {news : List (Addr × Obj)}
/-- a comprehension whose turns leave the ledger as it was: each item is told by Rel -/
theorem cr_rest {n : Nat} (Rel : Nat → Value → Prop)
    (turn : ∀ i v I oI C oC D m₂ ys h tk (E' : Value → Shared → Prop), i < n → P i v → NsObj oC m₂ → m₂ x = some v → Fr h₀ L h m → News h₀ L h ((I, oI) :: (C, oC) :: (D, lst ys) :: news) → Off3 I C D news → ((@Ne Nat I C) ∧ (@Ne Nat I D) ∧ (@Ne Nat C D)) →
      wpAny (model prog w) A (eval elt (compEnvC scope cl C env)) (CompEnd h₀ L m { s with heap := h, toks := tk } I oI C oC D (lst ys) S (fun y news' => news' = news ∧ Rel i y)) E' { s with heap := h, toks := tk })
    (fin : ∀ ys, ys.length = n → (∀ i, i < n → ∃ y, ys[i]? = some y ∧ Rel i y) → Fin ys news) : CompRest prog w A h₀ L m env elt x scope cl s S P Fin n 0 [] news := by
  have key : ∀ (j i : Nat) (ys : List Value), i + j = n → ys.length = i → (∀ k, k < i → ∃ y, ys[k]? = some y ∧ Rel k y) → CompRest prog w A h₀ L m env elt x scope cl s S P Fin j i ys news := by
    intro j
    induction j with
    | zero =>
      intro i ys hi hl hy
      have e : i = n := hi
      subst e
      exact CompRest.zero (fin ys hl hy)
    | succ j ih =>
      intro i ys hi hl hy
      refine CompRest.succ ?_
      intro v I oI C oC D m₂ h tk E' hv hC hx F N off ne
      refine wpAny_mono (turn i v I oI C oC D m₂ ys h tk E' (by omega) hv hC hx F N off ne) (fun y s₂ hq => ?_) fun _ _ e => e
      obtain ⟨h', tk', nw, e, F', N', off', hS, hn, hr⟩ := hq
      subst hn
      refine ⟨h', tk', nw, e, F', N', off', hS, ?_⟩
      refine ih (i + 1) _ (by omega) (by rw [List.length_append, hl]; rfl) fun k hk => ?_
      by_cases hki : k < i
      · obtain ⟨y', e1, e2⟩ := hy k hki
        exact ⟨y', by rw [List.getElem?_append_left (by omega)]; exact e1, e2⟩
      · have e1 : k = i := by omega
        subst e1
        exact ⟨y, by rw [← hl, List.getElem?_append_right (Nat.le_refl _)]; simp, hr⟩
  exact key n 0 [] (by omega) rfl fun _ h => absurd h (Nat.not_lt_zero _)
theorem strs_of : ∀ {ys : List Value} {n : Nat} {g : Nat → Str}, ys.length = n → (∀ i, i < n → ∃ y, ys[i]? = some y ∧ ∃ t, y = .str (g i) t) → StrsAre ys ((List.range n).map g)
  | [], n, g, hl, _ => by
    have e : n = 0 := hl.symm
    subst e
    exact .nil
  | y :: ys, 0, g, hl, _ => by cases hl
  | y :: ys, n + 1, g, hl, h => by
    obtain ⟨y0, e0, t0, e1⟩ := h 0 (by omega)
    have e2 : y = y0 := by simpa using e0
    rw [List.range_succ_eq_map, List.map_cons, List.map_map, e2, e1]
    refine .cons _ _ (strs_of (g := g ∘ Nat.succ) (by simpa using hl) fun i hi => ?_)
    obtain ⟨y', e3, t3, e4⟩ := h (i + 1) (by omega)
    exact ⟨y', by simpa using e3, t3, e4⟩
theorem ints_of : ∀ {ys : List Value} {n : Nat} {g : Nat → Int}, ys.length = n → (∀ i, i < n → ∃ y, ys[i]? = some y ∧ ∃ t, y = .int (g i) t) → IntsAre ys ((List.range n).map g)
  | [], n, g, hl, _ => by
    have e : n = 0 := hl.symm
    subst e
    exact .nil
  | y :: ys, 0, g, hl, _ => by cases hl
  | y :: ys, n + 1, g, hl, h => by
    obtain ⟨y0, e0, t0, e1⟩ := h 0 (by omega)
    have e2 : y = y0 := by simpa using e0
    rw [List.range_succ_eq_map, List.map_cons, List.map_map, e2, e1]
    refine .cons _ _ (ints_of (g := g ∘ Nat.succ) (by simpa using hl) fun i hi => ?_)
    obtain ⟨y', e3, t3, e4⟩ := h (i + 1) (by omega)
    exact ⟨y', by simpa using e3, t3, e4⟩
/-- the source of a comprehension is a text -/
def SrcS (prog : Program) (w : World) (A : Around) (h₀ : Heap) (L : Addr) (m : Str → Option Value) (env : Env) (elt : Expr) (x : Str) (scope : Scope) (cl : List (Str × Addr)) (Fin : Shared → List Value → List (Addr × Obj) → Prop) (xv : Value) (s₁ : Shared) : Prop :=
  ∃ z t news, xv = .str z t ∧ A.handled = none ∧ Fr h₀ L s₁.heap m ∧ News h₀ L s₁.heap news ∧ z.cps.size ≤ sizeLine ∧
    ∀ g : Heap, CompRest prog w A h₀ L m env elt x scope cl { s₁ with heap := g } (fun _ => True) (SignAt z) (Fin { s₁ with heap := g }) z.cps.size 0 [] news
theorem SrcS.of {Fin : Shared → List Value → List (Addr × Obj) → Prop} {z : Str} {t : Tok} {s₁ : Shared} (hh : A.handled = none) (F : Fr h₀ L s₁.heap m) (N : News h₀ L s₁.heap news) (hsz : z.cps.size ≤ sizeLine)
    (h : ∀ g : Heap, CompRest prog w A h₀ L m env elt x scope cl { s₁ with heap := g } (fun _ => True) (SignAt z) (Fin { s₁ with heap := g }) z.cps.size 0 [] news) : SrcS prog w A h₀ L m env elt x scope cl Fin (.str z t) s₁ := ⟨z, t, news, rfl, hh, F, N, hsz, h⟩
theorem strIt_st {I : Addr} {ty : String} {z : Str} {t : Tok} : ∀ i (h h' : Heap) (o : Obj) (nw : List (Addr × Obj)), h.IsStrIter I ty z t i → h.get? I = some o → h'.get? I = some o → (∀ b o, h₀.get? b = some o → h'.get? b = some o) → News h₀ L h' nw → True → h'.IsStrIter I ty z t i :=
  fun i h h' o nw st e e' _ _ _ => by obtain ⟨o', q, r⟩ := st; rw [e] at q; cases q; exact ⟨o, e', r⟩
theorem wpAny_pyIter_strT {z : Str} {t : Tok} {Q : Value → Shared → Prop}
    (hQ : ∀ ty, (∀ A' : Around, A'.handled = none → Walks prog w A' s.heap.objs.size [s.heap.objs.size] [s.heap.objs.size] z.cps.size (SignAt z) (fun i h => h.IsStrIter s.heap.objs.size ty z t i)) → Q (.ref s.heap.objs.size) { s with heap := s.heap.push { cls := .type ty, data := .fields #[.str z t, .int 0 0] } }) :
    wpAny (model prog w) A (pyIter (.str z t)) Q E s := by
  cases ha : z.cps.all (· < 128)
  · exact wpAny_pyIter_wide ha (hQ _ (fun A' hA => Walks.strWide hA _ z t))
  · exact wpAny_pyIter_ascii ha (hQ _ (fun A' hA => Walks.strAscii hA _ z t))
theorem ListComp_S {iter : Expr} {px : Pos} {pos : Pos} {Q : Value → Shared → Prop} (_ : Fr h₀ L s.heap m)
    (hclos : closureFor scope env = pure cl) (hcell : ∀ y ∈ scope.names, y.2 ≠ .cell) (hkind : scope.kind = .function)
    (hnames : ∀ y ∈ scope.names, y.2 = .local → scope.names.lookup y.1 = some .local) (hx : scope.names.lookup x = some .local)
    (h : wpAny (model prog w) A (eval iter env) (SrcS prog w A h₀ L m env elt x scope cl (fun s₂ => FinE h₀ L m s₂ Q)) E s)
    (hs : ∀ x, foldedSetIterable iter env x = pure x := by intro _; rfl) :
    wpAny (model prog w) A (eval (.ListComp elt [⟨.Name x px, iter, [], 0⟩] scope pos) env) Q E s := by
  rw [eval_ListComp]
  refine wpAny_comprehension_free (use := none) rfl hs hclos hkind hnames (wpAny_mono h (fun xv s₁ h₁ => ?_) fun _ _ e => e)
  obtain ⟨z, t, news, rfl, hh, F, N, hsz, R⟩ := h₁
  refine wpAny_pyIter_strT fun ty W => ?_
  have up : ∀ b o, s₁.heap.get? b = some o → (s₁.heap.push { cls := .type ty, data := .fields #[.str z t, .int 0 0] }).get? b = some o := fun b o e => Heap.get?_push_of_some _ e
  refine block_U (W A hh) hsz (fun i h st => by obtain ⟨o, e, _⟩ := st; exact ⟨o, e⟩) strIt_st hcell hkind hx ⟨_, Heap.get?_push_size _ rfl, rfl, rfl⟩ (fun b hb => ?_)
    (F.keeps up) (N.grown up) (Nat.ne_of_lt F.ns.lt) (next_is_new F) (fun p hp => Nat.ne_of_lt (Heap.lt_size (N p hp).1)) trivial (R _) ?_
  · rw [List.mem_singleton.mp hb]
    show s₁.heap.objs.size < (s₁.heap.push _).objs.size
    rw [Heap.size_push]; exact Nat.lt_succ_self _
  · intro D C h tk m' ys news' F' N' o1 hn hC₀ hD₀ hCL hDL hCD offC fin
    refine ⟨m', hn, fun h'' hs'' => fin D h'' tk (F'.change hs'' hCL hC₀) (fun p hp => ?_) o1⟩
    refine ⟨hs''.extBut _ _ ?_ (N' p hp).1, (N' p hp).2⟩
    rcases List.mem_cons.mp hp with rfl | hp
    · exact Ne.symm hCD
    · exact offC p hp
end
end
section
example : (hd1.heap_39 = hd1.heap_39) ∧ PySem.Challenge.rw_pg0212_01 = PySem.Challenge.rw_pg0212_01 := by
  w_top off
  k_fill
  exact ⟨rfl, rfl⟩
local macro_rules | `(tactic| omega) => `(tactic| law_purse 20000 => (law_clear; lia))
local macro_rules | `(tactic| k_ne) => `(tactic| first | exact ne_newer (by assumption) (by k_mem) | exact ne_older (by assumption) (by k_mem))
local macro_rules | `(tactic| k_lt $h:ident) => `(tactic| (have $h := allLt_of $h; simp only [AllLt, and_true] at $h:ident))
local macro_rules | `(tactic| k_all) => `(tactic| first | assumption | (refine rest_ne (by assumption) ?_; (try dsimp only); omega))
local macro_rules | `(tactic| k_room) => `(tactic| ktr_room)
local macro_rules | `(tactic| k_enter) => `(tactic| cell_enter)
local macro_rules | `(tactic| size_fits) => `(tactic| first | assumption | (simp only [List.size_toArray, PySem.sizeLine_eq]; omega))
local macro_rules | `(tactic| walk_at "ite") => `(tactic| (k_here; first
  | refine ite_pos (by (try simp only [beq_iff_eq, bne_iff_ne, ne_eq, decide_eq_true_eq]); omega) ?_
  | refine ite_neg (by (try simp only [beq_iff_eq, bne_iff_ne, ne_eq, decide_eq_true_eq]); omega) ?_))
local macro_rules | `(tactic| walk_at "execs cons") => `(tactic| ((with_reducible refine wpAny_execs_cons ?_); (try dsimp only); (try k_fold)))
section
local macro_rules | `(tactic| walk_at "eval Name") => `(tactic| ((with_reducible show wpAny _ _ (eval (Expr.Name (Str.ofString "signs") _) _) _ _ _); k_dflt (refine' nameX_F ?N ?c ?m ?d ?_ ?a ?b; (case a => exact rfl); (case b => exact rfl); (case N => k_asm); (case c => exact rfl); (case m => k_mem); (case d => k_asm); k_whole)))
local macro_rules | `(tactic| walk_at "call builtin:len") => `(tactic| (k_here; (with_reducible show wpAny _ _ (call (Value.builtin "len") [Value.ref _]) _ _ _); k_dflt (refine' KM.len_K (n := List.length _) ?N ?m ?s ?f ?_; (case N => k_asm); (case m => k_mem); (case s => exact List.size_toArray ..); (case f => (simp only [List.length_cons, List.length_nil, List.length_append] at *; omega)); k_whole)))
local macro_rules | `(tactic| walk_at "call builtin:list.pop") => `(tactic| (k_here; (with_reducible show wpAny _ _ (call (Value.builtin _) [Value.ref _, Value.int _ _]) _ _ _); k_dflt (refine' kl_popAt (k := 0) (p := []) ?F ?N ?f ?k ?e ?U ?z ?_; (case F => k_asm); (case N => k_asm); (case U => k_upd); (case f => rfl); (case k => (simp [seqIndex?] <;> omega)); (case e => rfl); (case z => (simp only [PySem.sizeLine_eq, List.length_cons] at *; omega))); intro h' F' N'; (try dsimp only [List.nil_append, List.cons_append] at N')))
theorem read_spec {w : World} {mg mb : Str → Option Value} {p : Program} {loose : List Str} {mean : ExcName → Option Value} {dp un : Nat} {gd : Option (List Code)} {cn : Str} {cs : Scope} {a : Addr} {ccd : Value} {cl : List (Str × Addr)} {outer : List Env} {A₀ : Around} {base h₀ : Heap} {L : Addr} {m : Str → Option Value} {s : Shared} {Q E : Value → Shared → Prop} {x dx pb dS fS r cr cS S : Addr} {oc oS : Obj} {ocv : Array Value} {toc : Tok} {fd : FuncData} {nm qu : Str} {ps : Arguments} {bd : List Stmt} {sc : Scope} {dc pm ct : Value} {ln : Int} {n1 n2 n3 n4 n5 n6 n7 : Tok} {pd vs : List Value} {ep ep2 : Nat} {wsp : Str} {rest : List (Addr × Obj)} {tc : Tok}
  (B : Below A₀ base outer h₀) (F : Fr h₀ L s.heap m) (X : (hd1.heap_39 w.params).In h₀) (N : News h₀ L s.heap ((pb, W.listOf (pd).toArray ep) :: (x, instObj 101 dx) :: (dx, (dictOf [{ hash := PyData.keyHash w.params ("lineno" : Str), key := .str ("lineno" : Str) n1, val := .int ln n5 }, { hash := PyData.keyHash w.params ("instream" : Str), key := .str ("instream" : Str) n2, val := .ref fS }, { hash := PyData.keyHash w.params ("whitespace" : Str), key := .str ("whitespace" : Str) n3, val := .str wsp n6 }, { hash := PyData.keyHash w.params ("pushback" : Str), key := .str ("pushback" : Str) n4, val := .ref pb }] 4)) :: (dS, dictOf [{ hash := PyData.keyHash w.params ("read" : Str), key := .str ("read" : Str) n7, val := .ref r }] 1) :: (fS, ({ cls := .type "function", dict := some dS, data := .func fd } : Obj)) :: (r, fnMade nm qu ps bd sc [(("signs" : Str), cS)] dc pm cr ct) :: (cr, oc) :: (cS, oS) :: (S, W.listOf (vs).toArray ep2) :: rest)) (T : Top p loose mean mg mb h₀) (hk : cs.kind = .function) (hd : dp + 40 < recursionLimit) (hu : un + 320 < cLine)
  (hnd : nested PySem.Challenge.pw_pg0212_01 16 0 = some (nm, ps, bd, sc)) (hoc : oc.data = .fields ocv) (hoc1 : ocv[1]? = some (.str qu toc)) (hoS : oS.data = .cell (some (.ref S)))
  (o1 : @LT.lt Nat _ S cS) (o2 : @LT.lt Nat _ cS cr) (o3 : @LT.lt Nat _ cr r) (o4 : @LT.lt Nat _ r fS) (o5 : @LT.lt Nat _ fS dS) (o6 : @LT.lt Nat _ dS dx) (o7 : @LT.lt Nat _ dx x) (o8 : @LT.lt Nat _ x pb)
  (q1 : ∀ p ∈ rest, p.1 ≠ S) (q2 : ∀ p ∈ rest, p.1 ≠ dx) (q3 : ∀ p ∈ rest, p.1 ≠ pb)
  (hlen : vs.length ≤ 4000)  (ret : ∀ ep' h' tk' tr, Fr h₀ L h' m → News h₀ L h' ((pb, W.listOf (pd).toArray ep) :: (x, instObj 101 dx) :: (dx, (dictOf [{ hash := PyData.keyHash w.params ("lineno" : Str), key := .str ("lineno" : Str) n1, val := .int ln n5 }, { hash := PyData.keyHash w.params ("instream" : Str), key := .str ("instream" : Str) n2, val := .ref fS }, { hash := PyData.keyHash w.params ("whitespace" : Str), key := .str ("whitespace" : Str) n3, val := .str wsp n6 }, { hash := PyData.keyHash w.params ("pushback" : Str), key := .str ("pushback" : Str) n4, val := .ref pb }] 4)) :: (dS, dictOf [{ hash := PyData.keyHash w.params ("read" : Str), key := .str ("read" : Str) n7, val := .ref r }] 1) :: (fS, ({ cls := .type "function", dict := some dS, data := .func fd } : Obj)) :: (r, fnMade nm qu ps bd sc [(("signs" : Str), cS)] dc pm cr ct) :: (cr, oc) :: (cS, oS) :: (S, W.listOf (vs.tail).toArray ep') :: rest) → Q (vs.headD (.str ("" : Str) tr)) { s with heap := h', toks := tk' }) :
  wpAny (model PySem.Challenge.pw_pg0212_01 w) (ktrTop dp un gd cn cs L a ccd cl outer) (call (.ref r) [.int 1 tc]) Q E s := by
  cases hnd
  refine wpAny_call ?_
  k_dflt (refine' code_nest ?k1 ?k2 ?k3 ?k4 ?k5 ?kA ?kF ?kK ?k6 ?k7 ?k8 ?k9 ?kB ?_ ?c2 ?c3 ?c4 ?c5; (case kA => exact rfl); (case kF => exact rfl); (case kK => first | assumption | exact rfl); (case k1 => k_asm); (case k2 => k_asm); (case k3 => k_asm); (case k4 => k_asm); (case k5 => k_asm); (case k6 => k_mem); (case k7 => exact codeRec_news (by k_asm) (by k_mem) (by assumption) (by assumption)); (case k8 => ktr_room); (case k9 => exact BindsTo.of_eq rfl); (case c5 => decide); (case kB => exact locs rfl); (case c2 => exact rfl); (case c3 => exact rfl); (case c4 => exact rfl); k_whole; intro g' L' h' FG' F' N' B' X' T'; (try dsimp only); (try k_lift B'); (try k_fold))
  cases vs
  case nil =>
    k_steps
    exact ret _ _ _ _ (by k_asm) (by k_asm)
  case cons =>
    k_steps
    · exact ret _ _ _ (0 : Nat) (by k_asm) (by k_asm)
    · exact absurd (Int.natCast_pos.mpr (Nat.succ_pos _)) ‹¬ (0:Int) < _›
end
section
local macro_rules | `(tactic| walk_at "zzpad") => `(tactic| skip)
inductive SgA : List Value → List Str → Prop
  | nil : SgA [] []
  | cons {t : Tok} {c : Str} {vs : List Value} {ws : List Str} : SgA vs ws → SgA (.str c t :: vs) (c :: ws)
theorem SgA.length {vs : List Value} {ws : List Str} (h : SgA vs ws) : vs.length = ws.length := by
  induction h with
  | nil => rfl
  | cons _ ih => rw [List.length_cons, List.length_cons, ih]
theorem SgA.head {vs : List Value} {ws : List Str} (h : SgA vs ws) (tr : Tok) : ∃ t, vs.headD (.str ("" : Str) tr) = .str (ws.headD ("" : Str)) t := by
  cases h with
  | nil => exact ⟨tr, rfl⟩
  | cons _ => exact ⟨_, rfl⟩
theorem SgA.tail {vs : List Value} {ws : List Str} (h : SgA vs ws) : SgA vs.tail ws.tail := by
  cases h with
  | nil => exact .nil
  | cons h => exact h
local macro_rules | `(tactic| walk_at "getMethod ref") => `(tactic| (k_here; (with_reducible show wpAny _ _ (getMethod (Value.ref _) (PySem.Str.ofString "read") _) _ _ _); k_dflt (refine' fn_getMethod ?N ?m1 ?r1 ?r2 ?r3 ?m2 ?r4 ?r5 ?r6 ?_; (case N => k_asm); (case m1 => k_mem); (case r1 => rfl); (case r2 => rfl); (case r3 => rfl); (case m2 => k_mem); (case r4 => exact nsObj_one _ _ _ _); (case r5 => rfl); (case r6 => rfl)); (try dsimp only)))
local macro_rules | `(tactic| walk_at "callWith ref") => `(tactic| (k_here; k_dflt (first
  | (refine' callWith_F ?k1 ?_; (case k1 => exact FnAt.of (by k_asm) (by k_mem)); k_whole)
  | (refine' callWith_F0 ?k1 ?_; (case k1 => exact FnAt.of (by k_asm) (by k_mem)); k_whole; try dsimp only [List.nil_append, List.cons_append]))))
local macro_rules | `(tactic| walk_at "call ref") => `(tactic| with_reducible refine haltCI ?_)
theorem rc_code {w : World} {mg mb : Str → Option Value} {p : Program} {loose : List Str} {mean : ExcName → Option Value} {dp un : Nat} {gd : Option (List Code)} {cn : Str} {cs : Scope} {a : Addr} {ccd : Value} {cl : List (Str × Addr)} {outer : List Env} {A₀ : Around} {base h₀ : Heap} {L : Addr} {m : Str → Option Value} {s : Shared} {Q E : Value → Shared → Prop} {x dx pb dS fS r cr cS S : Addr} {oc oS : Obj} {ocv : Array Value} {toc : Tok} {fd : FuncData} {nm qu : Str} {ps : Arguments} {bd : List Stmt} {sc : Scope} {dc pm ct : Value} {ln : Int} {n1 n2 n3 n4 n5 n6 n7 : Tok} {pd vs : List Value} {ep ep2 : Nat} {wsp : Str} {rest : List (Addr × Obj)} {ws : List Str}
  (B : Below A₀ base outer h₀) (F : Fr h₀ L s.heap m) (X : (hd1.heap_39 w.params).In h₀) (N : News h₀ L s.heap ((pb, W.listOf (pd).toArray ep) :: (x, instObj 101 dx) :: (dx, (dictOf [{ hash := PyData.keyHash w.params ("lineno" : Str), key := .str ("lineno" : Str) n1, val := .int ln n5 }, { hash := PyData.keyHash w.params ("instream" : Str), key := .str ("instream" : Str) n2, val := .ref fS }, { hash := PyData.keyHash w.params ("whitespace" : Str), key := .str ("whitespace" : Str) n3, val := .str wsp n6 }, { hash := PyData.keyHash w.params ("pushback" : Str), key := .str ("pushback" : Str) n4, val := .ref pb }] 4)) :: (dS, dictOf [{ hash := PyData.keyHash w.params ("read" : Str), key := .str ("read" : Str) n7, val := .ref r }] 1) :: (fS, ({ cls := .type "function", dict := some dS, data := .func fd } : Obj)) :: (r, fnMade nm qu ps bd sc [(("signs" : Str), cS)] dc pm cr ct) :: (cr, oc) :: (cS, oS) :: (S, W.listOf (vs).toArray ep2) :: rest)) (T : Top p loose mean mg mb h₀) (hk : cs.kind = .function) (hd : dp + 50 < recursionLimit) (hu : un + 360 < cLine)
  (hnd : nested PySem.Challenge.pw_pg0212_01 16 0 = some (nm, ps, bd, sc)) (hoc : oc.data = .fields ocv) (hoc1 : ocv[1]? = some (.str qu toc)) (hoS : oS.data = .cell (some (.ref S)))
  (o1 : @LT.lt Nat _ S cS) (o2 : @LT.lt Nat _ cS cr) (o3 : @LT.lt Nat _ cr r) (o4 : @LT.lt Nat _ r fS) (o5 : @LT.lt Nat _ fS dS) (o6 : @LT.lt Nat _ dS dx) (o7 : @LT.lt Nat _ dx x) (o8 : @LT.lt Nat _ x pb)
  (q1 : ∀ p ∈ rest, p.1 ≠ S) (q2 : ∀ p ∈ rest, p.1 ≠ dx) (q3 : ∀ p ∈ rest, p.1 ≠ pb)
  (hsg : SgA vs ws) (hlen : vs.length ≤ 4000)  (ret : ∀ vs' ln' n5' ep' h' tk' tr, Fr h₀ L h' m → News h₀ L h' ((pb, W.listOf (pd).toArray ep) :: (x, instObj 101 dx) :: (dx, (dictOf [{ hash := PyData.keyHash w.params ("lineno" : Str), key := .str ("lineno" : Str) n1, val := .int ln' n5' }, { hash := PyData.keyHash w.params ("instream" : Str), key := .str ("instream" : Str) n2, val := .ref fS }, { hash := PyData.keyHash w.params ("whitespace" : Str), key := .str ("whitespace" : Str) n3, val := .str wsp n6 }, { hash := PyData.keyHash w.params ("pushback" : Str), key := .str ("pushback" : Str) n4, val := .ref pb }] 4)) :: (dS, dictOf [{ hash := PyData.keyHash w.params ("read" : Str), key := .str ("read" : Str) n7, val := .ref r }] 1) :: (fS, ({ cls := .type "function", dict := some dS, data := .func fd } : Obj)) :: (r, fnMade nm qu ps bd sc [(("signs" : Str), cS)] dc pm cr ct) :: (cr, oc) :: (cS, oS) :: (S, W.listOf (vs').toArray ep') :: rest) → SgA vs' ws.tail → Q (.str (ws.headD ("" : Str)) tr) { s with heap := h', toks := tk' }) :
  codeAny (model PySem.Challenge.pw_pg0212_01 w) (ktrTop dp un gd cn cs L a ccd cl outer) (.call (.ref 84) ⟨[.ref x], []⟩) (CallR Q E) s := by
  k_dflt (first
  | cell_enter
  | (refine' code_def ?k1 ?k2 ?k3 ?k4 ?k5 ?kA ?kF ?kK ?k6 ?k7 ?k8 ?k9 ?kB ?_ ?c2 ?c3 ?c4 ?c5; (case kA => exact rfl); (case kF => exact rfl); (case kK => first | assumption | exact rfl); (case k1 => k_asm); (case k2 => k_asm); (case k3 => k_asm); (case k4 => k_asm); (case k5 => k_asm); (case k6 => k_is); (case k7 => k_is); (case k8 => ktr_room); (case k9 => first | exact BindsTo.of_eq rfl | exact binds_K (by k_in) rfl (by k_is) rfl rfl rfl | fail "k_enter: no rule for these arguments"); (case c5 => decide); (case kB => exact locs rfl); (case c2 => exact rfl); (case c3 => exact rfl); (case c4 => exact rfl); k_whole; intro g' L' h' FG' F' N' B' X' T'; (try dsimp only); (try k_lift B'); (try k_fold))
  | (refine' code_defC ?k1 ?k2 ?k3 ?k4 ?k5 ?kA ?kF ?kK ?k6 ?k7 ?k8 ?k9 ?kB ?kD ?_ ?c2 ?c3 ?c4; (case kA => exact rfl); (case kF => exact rfl); (case kK => first | assumption | exact rfl); (case k1 => k_asm); (case k2 => k_asm); (case k3 => k_asm); (case k4 => k_asm); (case k5 => k_asm); (case k6 => k_is); (case k7 => k_is); (case k8 => ktr_room); (case k9 => first | exact BindsTo.of_eq rfl | exact binds_K (by k_in) rfl (by k_is) rfl rfl rfl | fail "k_enter: no rule for these arguments"); (case kB => exact rfl); (case kD => decide +kernel); (case c2 => exact rfl); (case c3 => exact rfl); (case c4 => exact rfl); k_whole; intro g9 L9 h9 tk9 cells9 FG9 F9 N9 Y9 B9 X9 T9 l9; (try k_lt l9); k_cells Y9; (try simp only [List.cons_append, List.nil_append] at N9); (try dsimp only); (try k_lift B9); (try k_fold)))
  k_steps
  unfold Halt
  refine' read_spec ?B ?F ?X ?N ?T ?hk ?hd ?hu hnd hoc hoc1 hoS o1 o2 o3 o4 o5 o6 o7 o8 q1 q2 q3 ?hl ?ret
  (case B => k_asm)
  (case F => k_asm)
  (case X => k_asm)
  (case N => k_asm)
  (case T => k_asm)
  (case hk => rfl)
  (case hd => simp only [recursionLimit] at *; omega)
  (case hu => simp only [cLine_is] at *; omega)
  (case hl => omega)
  intro ep' h' tk' tr F' N'
  obtain ⟨te, ee⟩ := SgA.head hsg tr
  rw [ee]
  k_steps
  all_goals exact ret _ _ _ _ _ _ _ (by k_asm) (by k_asm) (SgA.tail hsg)
theorem rc_spec {w : World} {mg mb : Str → Option Value} {p : Program} {loose : List Str} {mean : ExcName → Option Value} {dp un : Nat} {gd : Option (List Code)} {cn : Str} {cs : Scope} {a : Addr} {ccd : Value} {cl : List (Str × Addr)} {outer : List Env} {A₀ : Around} {base h₀ : Heap} {L : Addr} {m : Str → Option Value} {s : Shared} {Q E : Value → Shared → Prop} {x dx pb dS fS r cr cS S : Addr} {oc oS : Obj} {ocv : Array Value} {toc : Tok} {fd : FuncData} {nm qu : Str} {ps : Arguments} {bd : List Stmt} {sc : Scope} {dc pm ct : Value} {ln : Int} {n1 n2 n3 n4 n5 n6 n7 : Tok} {pd vs : List Value} {ep ep2 : Nat} {wsp : Str} {rest : List (Addr × Obj)} {ws : List Str}
  (B : Below A₀ base outer h₀) (F : Fr h₀ L s.heap m) (X : (hd1.heap_39 w.params).In h₀) (N : News h₀ L s.heap ((pb, W.listOf (pd).toArray ep) :: (x, instObj 101 dx) :: (dx, (dictOf [{ hash := PyData.keyHash w.params ("lineno" : Str), key := .str ("lineno" : Str) n1, val := .int ln n5 }, { hash := PyData.keyHash w.params ("instream" : Str), key := .str ("instream" : Str) n2, val := .ref fS }, { hash := PyData.keyHash w.params ("whitespace" : Str), key := .str ("whitespace" : Str) n3, val := .str wsp n6 }, { hash := PyData.keyHash w.params ("pushback" : Str), key := .str ("pushback" : Str) n4, val := .ref pb }] 4)) :: (dS, dictOf [{ hash := PyData.keyHash w.params ("read" : Str), key := .str ("read" : Str) n7, val := .ref r }] 1) :: (fS, ({ cls := .type "function", dict := some dS, data := .func fd } : Obj)) :: (r, fnMade nm qu ps bd sc [(("signs" : Str), cS)] dc pm cr ct) :: (cr, oc) :: (cS, oS) :: (S, W.listOf (vs).toArray ep2) :: rest)) (T : Top p loose mean mg mb h₀) (hk : cs.kind = .function) (hd : dp + 50 < recursionLimit) (hu : un + 360 < cLine)
  (hnd : nested PySem.Challenge.pw_pg0212_01 16 0 = some (nm, ps, bd, sc)) (hoc : oc.data = .fields ocv) (hoc1 : ocv[1]? = some (.str qu toc)) (hoS : oS.data = .cell (some (.ref S)))
  (o1 : @LT.lt Nat _ S cS) (o2 : @LT.lt Nat _ cS cr) (o3 : @LT.lt Nat _ cr r) (o4 : @LT.lt Nat _ r fS) (o5 : @LT.lt Nat _ fS dS) (o6 : @LT.lt Nat _ dS dx) (o7 : @LT.lt Nat _ dx x) (o8 : @LT.lt Nat _ x pb)
  (q1 : ∀ p ∈ rest, p.1 ≠ S) (q2 : ∀ p ∈ rest, p.1 ≠ dx) (q3 : ∀ p ∈ rest, p.1 ≠ pb)
  (hsg : SgA vs ws) (hlen : vs.length ≤ 4000)  (ret : ∀ vs' ln' n5' ep' h' tk' tr, Fr h₀ L h' m → News h₀ L h' ((pb, W.listOf (pd).toArray ep) :: (x, instObj 101 dx) :: (dx, (dictOf [{ hash := PyData.keyHash w.params ("lineno" : Str), key := .str ("lineno" : Str) n1, val := .int ln' n5' }, { hash := PyData.keyHash w.params ("instream" : Str), key := .str ("instream" : Str) n2, val := .ref fS }, { hash := PyData.keyHash w.params ("whitespace" : Str), key := .str ("whitespace" : Str) n3, val := .str wsp n6 }, { hash := PyData.keyHash w.params ("pushback" : Str), key := .str ("pushback" : Str) n4, val := .ref pb }] 4)) :: (dS, dictOf [{ hash := PyData.keyHash w.params ("read" : Str), key := .str ("read" : Str) n7, val := .ref r }] 1) :: (fS, ({ cls := .type "function", dict := some dS, data := .func fd } : Obj)) :: (r, fnMade nm qu ps bd sc [(("signs" : Str), cS)] dc pm cr ct) :: (cr, oc) :: (cS, oS) :: (S, W.listOf (vs').toArray ep') :: rest) → SgA vs' ws.tail → Q (.str (ws.headD ("" : Str)) tr) { s with heap := h', toks := tk' }) :
  wpAny (model PySem.Challenge.pw_pg0212_01 w) (ktrTop dp un gd cn cs L a ccd cl outer) (call (.ref 84) [.ref x]) Q E s := by
  refine wpAny_call ?_
  exact rc_code B F X N T hk hd hu hnd hoc hoc1 hoS o1 o2 o3 o4 o5 o6 o7 o8 q1 q2 q3 hsg hlen ret
end
section
def InnerC (w : World) (n k : Nat) : Prop := ∀ {mg mb : Str → Option Value} {p : Program} {loose : List Str} {mean : ExcName → Option Value} {dp un : Nat} {gd : Option (List Code)} {cn : Str} {cs : Scope} {a : Addr} {ccd : Value} {cl : List (Str × Addr)} {outer : List Env} {A₀ : Around} {base h₀ : Heap} {L : Addr} {m : Str → Option Value} {s : Shared} {Q E : Value → Shared → Prop} {x lo hi : Int} {xN lo' : Nat} {tx tl tr tn : Tok} {f c' D cI cA cN : Addr} {oc oI oA oN : Obj} {ocv : Array Value} {toc : Tok} {nm qu : Str} {ps : Arguments} {bd : List Stmt} {sc : Scope} {dc pm ct : Value} {vs : List Value} {items : List Int} {ep : Nat} {rest : List (Addr × Obj)}
  (B : Below A₀ base outer h₀) (F : Fr h₀ L s.heap m) (X : (hd1.heap_39 w.params).In h₀) (N : News h₀ L s.heap ((f, fnMade nm qu ps bd sc [(("n" : Str), cN), (("inner" : Str), cI), (("a_digits" : Str), cA)] dc pm c' ct) :: (c', oc) :: (D, W.listOf (vs).toArray ep) :: (cI, oI) :: (cA, oA) :: (cN, oN) :: rest)) (T : Top p loose mean mg mb h₀) (hk : cs.kind = .function) (hd : dp + k < recursionLimit) (hu : un + 8 * k < cLine)
  (hnd : nested PySem.Challenge.pw_pg0212_01 7 1 = some (nm, ps, bd, sc)) (hoc : oc.data = .fields ocv) (hoc1 : ocv[1]? = some (.str qu toc))
  (hI : oI.data = .cell (some (.ref f))) (hA : oA.data = .cell (some (.ref D))) (hN : oN.data = .cell (some (.int (n : Int) tn))) (hv : IntsAre vs items)
  (ord1 : @Ne Nat f D) (ord2 : @Ne Nat c' D) (ord3 : @Ne Nat cI D) (ord4 : @Ne Nat cA D) (ord5 : @Ne Nat cN D) (ord6 : ∀ p ∈ rest, p.1 ≠ D) (CH : CodeHd base 41 37)
  (hx : x = (xN : Int)) (hX : xN < 2 ^ (n * k)) (hlo : lo = (lo' : Int)) (hhi : hi = lo + k) (hle : hi ≤ items.length) (hlen : items.length ≤ 64)
  (ret : ∀ vs' h' tk', Fr h₀ L h' m → News h₀ L h' ((f, fnMade nm qu ps bd sc [(("n" : Str), cN), (("inner" : Str), cI), (("a_digits" : Str), cA)] dc pm c' ct) :: (c', oc) :: (D, W.listOf (vs').toArray ep) :: (cI, oI) :: (cA, oA) :: (cN, oN) :: rest) → IntsAre vs' (putD (2 ^ n) k lo' xN items) → Q .none { s with heap := h', toks := tk' }),
  wpAny (model PySem.Challenge.pw_pg0212_01 w) (ktrTop dp un gd cn cs L a ccd cl outer) (call (.ref f) [.int x tx, .int lo tl, .int hi tr]) Q E s

theorem ite_false' {b : Bool} {p q : Prop} (h : b = false) (hq : q) : if b = true then p else q := by rw [h]; exact hq
theorem inner_base {w : World} {n : Nat} (hn : 0 < n) : InnerC w n 1 := by
  unfold InnerC
  intros
  rename_i hnd hoc hoc1 hI hA hN hv ord1 ord2 ord3 ord4 ord5 ord6 CH hx hX hlo hhi hle hlen ret
  cases hnd
  refine wpAny_call ?_
  k_dflt (refine' code_nest ?k1 ?k2 ?k3 ?k4 ?k5 ?kA ?kF ?kK ?k6 ?k7 ?k8 ?k9 ?kB ?_ ?c2 ?c3 ?c4 ?c5; (case kA => exact rfl); (case kF => exact rfl); (case kK => first | assumption | exact rfl); (case k1 => k_asm); (case k2 => k_asm); (case k3 => k_asm); (case k4 => k_asm); (case k5 => k_asm); (case k6 => k_mem); (case k7 => exact codeRec_news (by k_asm) (by k_mem) (by assumption) (by assumption)); (case k8 => ktr_room); (case k9 => exact BindsTo.of_eq rfl); (case c5 => decide); (case kB => exact locs rfl); (case c2 => exact rfl); (case c3 => exact rfl); (case c4 => exact rfl); k_whole; intro g' L' h' FG' F' N' B' X' T'; (try dsimp only); (try k_lift B'); (try k_fold))
  k_steps
  refine ret _ _ _ (by k_asm) (by k_asm) ?_
  simp only [putD, Nat.mul_one] at *
  rw [Nat.mod_eq_of_lt hX]
  subst hx hlo
  assumption
theorem inner_use {w : World} {n k j : Nat} (IH : ∀ i, i < k → 1 ≤ i → InnerC w n i) (h1 : j < k) (h2 : 1 ≤ j) : InnerC w n j := IH j h1 h2
local macro_rules | `(tactic| walk_at "call ref") => `(tactic| with_reducible refine haltC3 ?_)
local macro_rules | `(tactic| walk_at "binaryOp LShift int int") => `(tactic| (refine PyProof.Rows.lshift_int (by assumption) (by assumption) ?_))
local macro_rules | `(tactic| walk_at "binaryOp RShift int int") => `(tactic| (refine PyProof.Rows.rshift_int (by first | assumption | decide) ?_))
theorem inner_step {w : World} {n k : Nat} (hn : 0 < n) (hn2 : n ≤ 64) (hk2 : 2 ≤ k) (hk3 : k ≤ 64) (IH : ∀ i, i < k → 1 ≤ i → InnerC w n i) : InnerC w n k := by
  unfold InnerC
  intros
  rename_i x lo hi xN lo' tx tl tr tn f c' D cI cA cN oc oI oA oN ocv toc nm qu ps bd sc dc pm ct vs items ep rest B F X N T hk hd hu hnd hoc hoc1 hI hA hN hv ord1 ord2 ord3 ord4 ord5 ord6 CH hx hX hlo hhi hle hlen ret
  cases hnd
  obtain ⟨j, hj⟩ : ∃ j, j = k / 2 := ⟨_, rfl⟩
  have hmid : (lo + hi).fdiv (2 ^ Int.toNat 1) = ((lo' + j : Nat) : Int) := by
    have e : lo + hi = ((lo' + lo' + k : Nat) : Int) := by omega
    rw [e]; show Int.fdiv _ ((2 : Nat) : Int) = _
    rw [fdiv_nat]; omega
  have hsh : ((lo + hi).fdiv (2 ^ Int.toNat 1) - lo) * (n : Int) = ((n * j : Nat) : Int) := shift_nat (by rw [hmid]; omega)
  have hs0 : 0 ≤ ((lo + hi).fdiv (2 ^ Int.toNat 1) - lo) * (n : Int) := by rw [hsh]; omega
  have hup : x.fdiv (2 ^ (((lo + hi).fdiv (2 ^ Int.toNat 1) - lo) * (n : Int)).toNat) = ((xN / 2 ^ (n * j) : Nat) : Int) := by
    rw [hsh, hx, Int.toNat_natCast, fdiv_pow]
  have hXk : xN / 2 ^ (n * j) < 2 ^ (n * (k - j)) := by
    apply Nat.div_lt_of_lt_mul
    rw [← Nat.pow_add, ← Nat.mul_add, Nat.add_sub_cancel' (by omega)]
    exact hX
  have hnj : n * j ≤ 64 * 64 := Nat.mul_le_mul hn2 (by omega)
  have hbits : (Builtin.Int.intBits (x.fdiv (2 ^ (((lo + hi).fdiv (2 ^ Int.toNat 1) - lo) * (n : Int)).toNat)) : Int) + ((lo + hi).fdiv (2 ^ Int.toNat 1) - lo) * (n : Int) ≤ 2 ^ 27 := by
    rw [hup, hsh]
    have b : Builtin.Int.intBits ((xN / 2 ^ (n * j) : Nat) : Int) ≤ n * (k - j) := intBits_le_iff.mpr (by rw [Int.natAbs_natCast]; exact hXk)
    have : n * (k - j) ≤ 64 * 64 := Nat.mul_le_mul hn2 (by omega)
    omega
  refine wpAny_call ?_
  k_dflt (refine' code_nest ?k1 ?k2 ?k3 ?k4 ?k5 ?kA ?kF ?kK ?k6 ?k7 ?k8 ?k9 ?kB ?_ ?c2 ?c3 ?c4 ?c5; (case kA => exact rfl); (case kF => exact rfl); (case kK => first | assumption | exact rfl); (case k1 => k_asm); (case k2 => k_asm); (case k3 => k_asm); (case k4 => k_asm); (case k5 => k_asm); (case k6 => k_mem); (case k7 => exact codeRec_news (by k_asm) (by k_mem) (by assumption) (by assumption)); (case k8 => ktr_room); (case k9 => exact BindsTo.of_eq rfl); (case c5 => decide); (case kB => exact locs rfl); (case c2 => exact rfl); (case c3 => exact rfl); (case c4 => exact rfl); k_whole; intro g' L' h' FG' F' N' B' X' T'; (try dsimp only); (try k_lift B'); (try k_fold))
  k_steps
  unfold Halt
  have H1 : InnerC w n j := IH j (by omega) (by omega)
  unfold InnerC at H1
  refine' H1 ?B ?F ?X ?N ?T ?hk ?hd ?hu ?hnd ?hoc ?hoc1 ?hI ?hA ?hN ?hv ?o1 ?o2 ?o3 ?o4 ?o5 ?o6 ?CH ?hx ?hX ?hlo ?hhi ?hle ?hlen ?ret
  (case B => k_asm)
  (case F => k_asm)
  (case X => k_asm)
  (case N => k_asm)
  (case T => k_asm)
  (case hk => exact rfl)
  (case hd => (simp only [recursionLimit] at *; omega))
  (case hu => (simp only [cLine_is] at *; omega))
  (case hnd => exact rfl)
  (case hoc => assumption)
  (case hoc1 => assumption)
  (case hI => assumption)
  (case hA => assumption)
  (case hN => assumption)
  (case hv => assumption)
  (case o1 => assumption)
  (case o2 => assumption)
  (case o3 => assumption)
  (case o4 => assumption)
  (case o5 => assumption)
  (case o6 => assumption)
  (case CH => assumption)
  (case hx => (rw [hup, hsh, hx, Int.toNat_natCast]; exact xor_high _ _))
  (case hX => exact Nat.mod_lt _ (Nat.two_pow_pos _))
  (case hlo => exact hlo)
  (case hhi => omega)
  (case hle => omega)
  (case hlen => omega)
  intro vs1 h1 tk1 F1 N1 iv1
  (try dsimp only)
  k_steps
  unfold Halt
  have H2 : InnerC w n (k - j) := IH (k - j) (by omega) (by omega)
  unfold InnerC at H2
  have hlen1 := putD_length (2 ^ n) j lo' (xN % 2 ^ (n * j)) items
  refine' H2 ?B2 ?F2 ?X2 ?N2 ?T2 ?hk2 ?hd2 ?hu2 ?hnd2 ?hoc2 ?hoc12 ?hI2 ?hA2 ?hN2 ?hv2 ?o12 ?o22 ?o32 ?o42 ?o52 ?o62 ?CH2 ?hx2 ?hX2 ?hlo2 ?hhi2 ?hle2 ?hlen2 ?ret2
  (case B2 => k_asm)
  (case F2 => k_asm)
  (case X2 => k_asm)
  (case N2 => k_asm)
  (case T2 => k_asm)
  (case hk2 => exact rfl)
  (case hd2 => (simp only [recursionLimit] at *; omega))
  (case hu2 => (simp only [cLine_is] at *; omega))
  (case hnd2 => exact rfl)
  (case hoc2 => assumption)
  (case hoc12 => assumption)
  (case hI2 => assumption)
  (case hA2 => assumption)
  (case hN2 => assumption)
  (case hv2 => assumption)
  (case o12 => assumption)
  (case o22 => assumption)
  (case o32 => assumption)
  (case o42 => assumption)
  (case o52 => assumption)
  (case o62 => assumption)
  (case CH2 => assumption)
  (case hx2 => exact hup)
  (case hX2 => exact hXk)
  (case hlo2 => exact hmid)
  (case hhi2 => omega)
  (case hle2 => omega)
  (case hlen2 => omega)
  intro vs2 h2 tk2 F2 N2 iv2
  (try dsimp only)
  k_steps
  refine ret _ _ _ (by k_asm) (by k_asm) ?_
  have e := putD_split (2 ^ n) j (k - j) lo' xN items
  rw [show j + (k - j) = k by omega] at e
  rw [e, ← putD_mod (2 ^ n) j lo' xN items, ← Nat.pow_mul]
  exact iv2
theorem inner_all {w : World} {n : Nat} (hn : 0 < n) (hn2 : n ≤ 64) : ∀ k, 1 ≤ k → k ≤ 64 → InnerC w n k := by
  intro k
  induction k using Nat.strongRecOn with
  | ind k ih =>
    intro h1 h2
    by_cases e : k = 1
    · rw [e]; exact inner_base hn
    · exact inner_step hn hn2 (by omega) h2 fun i hi h => ih i hi h (by omega)
end
section
theorem flat_one (a : Int) : ∀ k : Nat, (List.replicate k [a]).flatten = List.replicate k a
  | 0 => rfl
  | k + 1 => by rw [List.replicate_succ, List.flatten_cons, flat_one a k]; rfl
/-- what the table of _int2digits holds: nothing yet, or the code of inner -/
inductive TabI2 : List (Addr × Obj) → Prop
  | nil : TabI2 [(37, tabObj #[])]
  | one {c' : Addr} {oc : Obj} {ocv : Array Value} {t : Tok} (hc : oc.data = .fields ocv) (h1 : ocv[1]? = some (.str (PySem.Str.ofString "_int2digits" ++ ".<locals>." ++ PySem.Str.ofString "inner") t)) : TabI2 [(37, tabObj #[rawInt 62, rawInt 4, .ref c']), (c', oc)]
local macro_rules | `(tactic| walk_at "call ref") => `(tactic| with_reducible refine haltC3 ?_)
theorem i2d_spec {w : World} {mg mb : Str → Option Value} {p : Program} {loose : List Str} {mean : ExcName → Option Value} {dp un : Nat} {gd : Option (List Code)} {cn : Str} {cs : Scope} {a : Addr} {ccd : Value} {cl : List (Str × Addr)} {outer : List Env} {A₀ : Around} {base h₀ : Heap} {L : Addr} {m : Str → Option Value} {s : Shared} {Q E : Value → Shared → Prop} {x n : Int} {xN nN kq : Nat} {tx tn : Tok} {tb rest : List (Addr × Obj)}
  (B : Below A₀ base outer h₀) (F : Fr h₀ L s.heap m) (X : (hd1.heap_39 w.params).In h₀) (N : News h₀ L s.heap (tb ++ rest)) (T : Top p loose mean mg mb h₀) (hk : cs.kind = .function) (hd : dp + 80 < recursionLimit) (hu : un + 700 < cLine)
  (tbs : TabI2 tb) (dj : ∀ p ∈ tb, ∀ q ∈ rest, p.1 ≠ q.1) (C : CodeHd base 41 37) (hx : x = (xN : Int)) (hn : n = (nN : Int)) (hn0 : 0 < nN) (hn1 : nN ≤ 64) (hq : ((Builtin.Int.intBits x : Nat) + n - 1).fdiv n = (kq : Int)) (hkq : kq ≤ 64) (hX : xN < 2 ^ (nN * kq)) (hX0 : xN = 0 → kq = 0)
  (ret : ∀ D vs' tb' h' tk', Fr h₀ L h' m → News h₀ L h' ((D, W.listOf vs'.toArray 0) :: (tb' ++ rest)) → IntsAre vs' (digs (2 ^ nN) kq xN) → TabI2 tb' → (∀ p ∈ tb', ∀ q ∈ rest, p.1 ≠ q.1) → (∀ q ∈ rest, q.1 < D) → (∀ p ∈ tb', p.1 ≠ D) → Q (.ref D) { s with heap := h', toks := tk' }) :
  wpAny (model PySem.Challenge.pw_pg0212_01 w) (ktrTop dp un gd cn cs L a ccd cl outer) (call (.ref 42) [.int x tx, .int n tn]) Q E s := by
  subst hx hn
  cases tbs with
  | nil =>
    simp only [List.cons_append, List.nil_append] at N
    have r37 : ∀ p ∈ rest, p.1 ≠ 37 := fun p hp => (dj _ (.head _) p hp).symm
    refine wpAny_call ?_
    k_dflt (first
  | cell_enter
  | (refine' code_def ?k1 ?k2 ?k3 ?k4 ?k5 ?kA ?kF ?kK ?k6 ?k7 ?k8 ?k9 ?kB ?_ ?c2 ?c3 ?c4 ?c5; (case kA => exact rfl); (case kF => exact rfl); (case kK => first | assumption | exact rfl); (case k1 => k_asm); (case k2 => k_asm); (case k3 => k_asm); (case k4 => k_asm); (case k5 => k_asm); (case k6 => k_is); (case k7 => k_is); (case k8 => ktr_room); (case k9 => first | exact BindsTo.of_eq rfl | exact binds_K (by k_in) rfl (by k_is) rfl rfl rfl | fail "k_enter: no rule for these arguments"); (case c5 => decide); (case kB => exact locs rfl); (case c2 => exact rfl); (case c3 => exact rfl); (case c4 => exact rfl); k_whole; intro g' L' h' FG' F' N' B' X' T'; (try dsimp only); (try k_lift B'); (try k_fold))
  | (refine' code_defC ?k1 ?k2 ?k3 ?k4 ?k5 ?kA ?kF ?kK ?k6 ?k7 ?k8 ?k9 ?kB ?kD ?_ ?c2 ?c3 ?c4; (case kA => exact rfl); (case kF => exact rfl); (case kK => first | assumption | exact rfl); (case k1 => k_asm); (case k2 => k_asm); (case k3 => k_asm); (case k4 => k_asm); (case k5 => k_asm); (case k6 => k_is); (case k7 => k_is); (case k8 => ktr_room); (case k9 => first | exact BindsTo.of_eq rfl | exact binds_K (by k_in) rfl (by k_is) rfl rfl rfl | fail "k_enter: no rule for these arguments"); (case kB => exact rfl); (case kD => decide +kernel); (case c2 => exact rfl); (case c3 => exact rfl); (case c4 => exact rfl); k_whole; intro g9 L9 h9 tk9 cells9 FG9 F9 N9 Y9 B9 X9 T9 l9; (try k_lt l9); k_cells Y9; (try simp only [List.cons_append, List.nil_append] at N9); (try dsimp only); (try k_lift B9); (try k_fold)))
    (rename _ ∧ AllLt _ _ => l9; have hr9 := allLt_to l9.2; have l37 := l9.1)
    k_steps
    · unfold Halt
      have hkq1 : 1 ≤ kq := by
        rcases Nat.eq_zero_or_pos kq with e | e
        · rw [e, Nat.mul_zero] at hX; omega
        · exact e
      have H1 : InnerC w nN kq := inner_all hn0 hn1 kq hkq1 hkq
      unfold InnerC at H1
      refine' H1 (rest := ((37 : Addr), _) :: rest) ?B ?F ?X ?N ?T ?hk ?hd ?hu ?hnd ?hoc ?hoc1 ?hI ?hA ?hN ?hv ?o1 ?o2 ?o3 ?o4 ?o5 ?o6 ?CH ?hx ?hX ?hlo ?hhi ?hle ?hlen ?ret
      (case B => k_asm)
      (case F => k_asm)
      (case X => k_asm)
      (case N => exact cb_drop (by k_asm) (List.forall_mem_cons.mpr ⟨by k_mem, List.forall_mem_cons.mpr ⟨by k_mem, List.forall_mem_cons.mpr ⟨by k_mem, List.forall_mem_cons.mpr ⟨by k_mem, List.forall_mem_cons.mpr ⟨by k_mem, List.forall_mem_cons.mpr ⟨by k_mem, List.forall_mem_cons.mpr ⟨by k_mem, fun p hp => by (repeat (first | exact hp | refine List.Mem.tail _ ?_))⟩⟩⟩⟩⟩⟩⟩))
      (case T => k_asm)
      (case hk => exact rfl)
      (case hd => (simp only [recursionLimit] at *; omega))
      (case hu => (simp only [cLine_is] at *; omega))
      (case hnd => exact rfl)
      (case hoc => assumption)
      (case hoc1 => assumption)
      (case hI => assumption)
      (case hA => assumption)
      (case hN => (rename Obj.data _ = Data.cell (bindC _ _ _ _) => d9; exact d9))
      (case hv => assumption)
      (case o1 => omega)
      (case o2 => omega)
      (case o3 => omega)
      (case o4 => omega)
      (case o5 => omega)
      (case o6 => exact List.forall_mem_cons.mpr ⟨(by refine neN ?_; dsimp only; omega), fun p hp => by have := hr9 p hp; refine neN ?_; omega⟩)
      (case CH => assumption)
      (case hx => rfl)
      (case hX => exact hX)
      (case hlo => rfl)
      (case hhi => omega)
      (case hle => omega)
      (case hlen => omega)
      intro vs1 h1 tk1 F1 N1 iv1
      (try dsimp only)
      k_steps
      refine ret _ _ [((37 : Addr), _), (_, _)] _ _ (by k_asm) (cb_drop (by k_asm) (List.forall_mem_cons.mpr ⟨by k_mem, List.forall_mem_cons.mpr ⟨by k_mem, List.forall_mem_cons.mpr ⟨by k_mem, fun p hp => by (repeat (first | exact hp | refine List.Mem.tail _ ?_))⟩⟩⟩)) ?IV1 (TabI2.one (by assumption) (by assumption)) ?DJ1 (fun p hp => by have := hr9 p hp; show @LT.lt Nat _ _ _; omega) ?NE1
      (case DJ1 => exact List.forall_mem_cons.mpr ⟨fun q hq => (r37 q hq).symm, List.forall_mem_cons.mpr ⟨fun q hq => by have := hr9 q hq; refine neN ?_; dsimp only; omega, fun _ h => nomatch h⟩⟩)
      (case NE1 => exact List.forall_mem_cons.mpr ⟨(by refine neN ?_; dsimp only; omega), List.forall_mem_cons.mpr ⟨(by refine neN ?_; dsimp only; omega), fun _ h => nomatch h⟩⟩)
      rw [hq, Int.toNat_natCast, flat_one] at iv1
      have e := putD_digs (2 ^ nN) kq xN []
      simp only [List.nil_append, List.length_nil] at e
      rw [e] at iv1
      exact iv1
    · have hk0 : kq = 0 := hX0 (by omega)
      subst hk0
      refine ret _ _ [((37 : Addr), _), (_, _)] _ _ (by k_asm) (cb_drop (by k_asm) (List.forall_mem_cons.mpr ⟨by k_mem, List.forall_mem_cons.mpr ⟨by k_mem, List.forall_mem_cons.mpr ⟨by k_mem, fun p hp => by (repeat (first | exact hp | refine List.Mem.tail _ ?_))⟩⟩⟩)) ?IV2 (TabI2.one (by assumption) (by assumption)) ?DJ2 (fun p hp => by have := hr9 p hp; show @LT.lt Nat _ _ _; omega) ?NE2
      (case DJ2 => exact List.forall_mem_cons.mpr ⟨fun q hq => (r37 q hq).symm, List.forall_mem_cons.mpr ⟨fun q hq => by have := hr9 q hq; refine neN ?_; dsimp only; omega, fun _ h => nomatch h⟩⟩)
      (case NE2 => exact List.forall_mem_cons.mpr ⟨(by refine neN ?_; dsimp only; omega), List.forall_mem_cons.mpr ⟨(by refine neN ?_; dsimp only; omega), fun _ h => nomatch h⟩⟩)
      rename IntsAre _ _ => i9
      rw [hq] at i9
      rw [hq]
      exact i9
  | one hc hc1 =>
    simp only [List.cons_append, List.nil_append] at N
    have rc := fun p hp => (dj _ (.tail _ (.head _)) p hp).symm
    have r37 : ∀ p ∈ rest, p.1 ≠ 37 := fun p hp => (dj _ (.head _) p hp).symm
    refine wpAny_call ?_
    k_dflt (first
  | cell_enter
  | (refine' code_def ?k1 ?k2 ?k3 ?k4 ?k5 ?kA ?kF ?kK ?k6 ?k7 ?k8 ?k9 ?kB ?_ ?c2 ?c3 ?c4 ?c5; (case kA => exact rfl); (case kF => exact rfl); (case kK => first | assumption | exact rfl); (case k1 => k_asm); (case k2 => k_asm); (case k3 => k_asm); (case k4 => k_asm); (case k5 => k_asm); (case k6 => k_is); (case k7 => k_is); (case k8 => ktr_room); (case k9 => first | exact BindsTo.of_eq rfl | exact binds_K (by k_in) rfl (by k_is) rfl rfl rfl | fail "k_enter: no rule for these arguments"); (case c5 => decide); (case kB => exact locs rfl); (case c2 => exact rfl); (case c3 => exact rfl); (case c4 => exact rfl); k_whole; intro g' L' h' FG' F' N' B' X' T'; (try dsimp only); (try k_lift B'); (try k_fold))
  | (refine' code_defC ?k1 ?k2 ?k3 ?k4 ?k5 ?kA ?kF ?kK ?k6 ?k7 ?k8 ?k9 ?kB ?kD ?_ ?c2 ?c3 ?c4; (case kA => exact rfl); (case kF => exact rfl); (case kK => first | assumption | exact rfl); (case k1 => k_asm); (case k2 => k_asm); (case k3 => k_asm); (case k4 => k_asm); (case k5 => k_asm); (case k6 => k_is); (case k7 => k_is); (case k8 => ktr_room); (case k9 => first | exact BindsTo.of_eq rfl | exact binds_K (by k_in) rfl (by k_is) rfl rfl rfl | fail "k_enter: no rule for these arguments"); (case kB => exact rfl); (case kD => decide +kernel); (case c2 => exact rfl); (case c3 => exact rfl); (case c4 => exact rfl); k_whole; intro g9 L9 h9 tk9 cells9 FG9 F9 N9 Y9 B9 X9 T9 l9; (try k_lt l9); k_cells Y9; (try simp only [List.cons_append, List.nil_append] at N9); (try dsimp only); (try k_lift B9); (try k_fold)))
    (rename _ ∧ _ ∧ AllLt _ _ => l9; have hr9 := allLt_to l9.2.2; have l37 := l9.1; have lc' := l9.2.1)
    k_steps
    · unfold Halt
      have hkq1 : 1 ≤ kq := by
        rcases Nat.eq_zero_or_pos kq with e | e
        · rw [e, Nat.mul_zero] at hX; omega
        · exact e
      have H1 : InnerC w nN kq := inner_all hn0 hn1 kq hkq1 hkq
      unfold InnerC at H1
      refine' H1 (rest := ((37 : Addr), _) :: rest) ?B9 ?F9 ?X9 ?N9 ?T9 ?hk9 ?hd9 ?hu9 ?hnd9 ?hoc9 ?hoc19 ?hI9 ?hA9 ?hN9 ?hv9 ?o19 ?o29 ?o39 ?o49 ?o59 ?o69 ?CH9 ?hx9 ?hX9 ?hlo9 ?hhi9 ?hle9 ?hlen9 ?ret9
      (case B9 => k_asm)
      (case F9 => k_asm)
      (case X9 => k_asm)
      (case N9 => exact cb_drop (by k_asm) (List.forall_mem_cons.mpr ⟨by k_mem, List.forall_mem_cons.mpr ⟨by k_mem, List.forall_mem_cons.mpr ⟨by k_mem, List.forall_mem_cons.mpr ⟨by k_mem, List.forall_mem_cons.mpr ⟨by k_mem, List.forall_mem_cons.mpr ⟨by k_mem, List.forall_mem_cons.mpr ⟨by k_mem, fun p hp => by (repeat (first | exact hp | refine List.Mem.tail _ ?_))⟩⟩⟩⟩⟩⟩⟩))
      (case T9 => k_asm)
      (case hk9 => exact rfl)
      (case hd9 => (simp only [recursionLimit] at *; omega))
      (case hu9 => (simp only [cLine_is] at *; omega))
      (case hnd9 => exact rfl)
      (case hoc9 => assumption)
      (case hoc19 => assumption)
      (case hI9 => assumption)
      (case hA9 => assumption)
      (case hN9 => (rename Obj.data _ = Data.cell (bindC _ _ _ _) => d9; exact d9))
      (case hv9 => assumption)
      (case o19 => omega)
      (case o29 => omega)
      (case o39 => omega)
      (case o49 => omega)
      (case o59 => omega)
      (case o69 => exact List.forall_mem_cons.mpr ⟨(by refine neN ?_; dsimp only; omega), fun p hp => by have := hr9 p hp; refine neN ?_; omega⟩)
      (case CH9 => assumption)
      (case hx9 => rfl)
      (case hX9 => exact hX)
      (case hlo9 => rfl)
      (case hhi9 => omega)
      (case hle9 => omega)
      (case hlen9 => omega)
      intro vs1 h1 tk1 F1 N1 iv1
      (try dsimp only)
      k_steps
      refine ret _ _ [((37 : Addr), _), (_, _)] _ _ (by k_asm) (cb_drop (by k_asm) (List.forall_mem_cons.mpr ⟨by k_mem, List.forall_mem_cons.mpr ⟨by k_mem, List.forall_mem_cons.mpr ⟨by k_mem, fun p hp => by (repeat (first | exact hp | refine List.Mem.tail _ ?_))⟩⟩⟩)) ?IV19 (TabI2.one hc hc1) ?DJ19 (fun p hp => by have := hr9 p hp; show @LT.lt Nat _ _ _; omega) ?NE19
      (case DJ19 => exact List.forall_mem_cons.mpr ⟨fun q hq => (r37 q hq).symm, List.forall_mem_cons.mpr ⟨fun q hq => (rc q hq).symm, fun _ h => nomatch h⟩⟩)
      (case NE19 => exact List.forall_mem_cons.mpr ⟨(by refine neN ?_; dsimp only; omega), List.forall_mem_cons.mpr ⟨(by refine neN ?_; dsimp only; omega), fun _ h => nomatch h⟩⟩)
      rw [hq, Int.toNat_natCast, flat_one] at iv1
      have e := putD_digs (2 ^ nN) kq xN []
      simp only [List.nil_append, List.length_nil] at e
      rw [e] at iv1
      exact iv1
    · have hk0 : kq = 0 := hX0 (by omega)
      subst hk0
      refine ret _ _ [((37 : Addr), _), (_, _)] _ _ (by k_asm) (cb_drop (by k_asm) (List.forall_mem_cons.mpr ⟨by k_mem, List.forall_mem_cons.mpr ⟨by k_mem, List.forall_mem_cons.mpr ⟨by k_mem, fun p hp => by (repeat (first | exact hp | refine List.Mem.tail _ ?_))⟩⟩⟩)) ?IV29 (TabI2.one hc hc1) ?DJ29 (fun p hp => by have := hr9 p hp; show @LT.lt Nat _ _ _; omega) ?NE29
      (case DJ29 => exact List.forall_mem_cons.mpr ⟨fun q hq => (r37 q hq).symm, List.forall_mem_cons.mpr ⟨fun q hq => (rc q hq).symm, fun _ h => nomatch h⟩⟩)
      (case NE29 => exact List.forall_mem_cons.mpr ⟨(by refine neN ?_; dsimp only; omega), List.forall_mem_cons.mpr ⟨(by refine neN ?_; dsimp only; omega), fun _ h => nomatch h⟩⟩)
      rename IntsAre _ _ => i9
      rw [hq] at i9
      rw [hq]
      exact i9
end
section
def DInnerC (w : World) (n k : Nat) : Prop := ∀ {mg mb : Str → Option Value} {p : Program} {loose : List Str} {mean : ExcName → Option Value} {dp un : Nat} {gd : Option (List Code)} {cn : Str} {cs : Scope} {a : Addr} {ccd : Value} {cl : List (Str × Addr)} {outer : List Env} {A₀ : Around} {base h₀ : Heap} {L : Addr} {m : Str → Option Value} {s : Shared} {Q E : Value → Shared → Prop} {lo hi : Int} {lo' : Nat} {tl tr tn : Tok} {f c' D cI cA cN : Addr} {oc oI oA oN : Obj} {ocv : Array Value} {toc : Tok} {nm qu : Str} {ps : Arguments} {bd : List Stmt} {sc : Scope} {dc pm ct : Value} {vs : List Value} {ds : List Nat} {ep : Nat} {rest : List (Addr × Obj)}
  (B : Below A₀ base outer h₀) (F : Fr h₀ L s.heap m) (X : (hd1.heap_39 w.params).In h₀) (N : News h₀ L s.heap ((f, fnMade nm qu ps bd sc [(("n" : Str), cN), (("inner" : Str), cI), (("digits" : Str), cA)] dc pm c' ct) :: (c', oc) :: (D, W.listOf vs.toArray ep) :: (cI, oI) :: (cA, oA) :: (cN, oN) :: rest)) (T : Top p loose mean mg mb h₀) (hk : cs.kind = .function) (hd : dp + k < recursionLimit) (hu : un + 8 * k < cLine)
  (hnd : nested PySem.Challenge.pw_pg0212_01 8 0 = some (nm, ps, bd, sc)) (hoc : oc.data = .fields ocv) (hoc1 : ocv[1]? = some (.str qu toc))
  (hI : oI.data = .cell (some (.ref f))) (hA : oA.data = .cell (some (.ref D))) (hN : oN.data = .cell (some (.int (n : Int) tn))) (hv : IntsAre vs (ds.map Int.ofNat)) (CH : CodeHd base 48 44)
  (hlo : lo = (lo' : Int)) (hhi : hi = lo + k) (hle : hi ≤ ds.length) (hlen : ds.length ≤ 64) (hb : ∀ d ∈ ds, d < 2 ^ n)
  (ret : ∀ t h' tk', Fr h₀ L h' m → News h₀ L h' ((f, fnMade nm qu ps bd sc [(("n" : Str), cN), (("inner" : Str), cI), (("digits" : Str), cA)] dc pm c' ct) :: (c', oc) :: (D, W.listOf vs.toArray ep) :: (cI, oI) :: (cA, oA) :: (cN, oN) :: rest) → Q (.int (numD (2 ^ n) (part ds lo' k) : Nat) t) { s with heap := h', toks := tk' }),
  wpAny (model PySem.Challenge.pw_pg0212_01 w) (ktrTop dp un gd cn cs L a ccd cl outer) (call (.ref f) [.int lo tl, .int hi tr]) Q E s
theorem retE {Q : Value → Shared → Prop} {x y : Int} {t : Tok} {s : Shared} (e : x = y) (h : Q (.int y t) s) : Q (.int x t) s := by rw [e]; exact h
theorem dinner_base {w : World} {n : Nat} : DInnerC w n 1 := by
  unfold DInnerC
  intros
  rename_i lo hi lo' tl tr tn f c' D cI cA cN oc oI oA oN ocv toc nm qu ps bd sc dc pm ct vs ds ep rest B F X N T hk hd hu hnd hoc hoc1 hI hA hN hv CH hlo hhi hle hlen hb ret
  cases hnd
  have hl2 : (ds.map Int.ofNat).length = ds.length := List.length_map ..
  refine wpAny_call ?_
  k_dflt (refine' code_nest ?k1 ?k2 ?k3 ?k4 ?k5 ?kA ?kF ?kK ?k6 ?k7 ?k8 ?k9 ?kB ?_ ?c2 ?c3 ?c4 ?c5; (case kA => exact rfl); (case kF => exact rfl); (case kK => first | assumption | exact rfl); (case k1 => k_asm); (case k2 => k_asm); (case k3 => k_asm); (case k4 => k_asm); (case k5 => k_asm); (case k6 => k_mem); (case k7 => exact codeRec_news (by k_asm) (by k_mem) (by assumption) (by assumption)); (case k8 => ktr_room); (case k9 => exact BindsTo.of_eq rfl); (case c5 => decide); (case kB => exact locs rfl); (case c2 => exact rfl); (case c3 => exact rfl); (case c4 => exact rfl); k_whole; intro g' L' h' FG' F' N' B' X' T'; (try dsimp only); (try k_lift B'); (try k_fold))
  k_steps
  refine retE ?_ (ret _ _ _ (by k_asm) (by k_asm))
  rw [part_one (by omega)]
  simp only [numD, Nat.mul_zero, Nat.add_zero]
  rw [getD_cast, hlo, Int.toNat_natCast]
local macro_rules | `(tactic| walk_at "call ref") => `(tactic| with_reducible refine haltC2 ?_)
local macro_rules | `(tactic| walk_at "binaryOp LShift int int") => `(tactic| (refine PyProof.Rows.lshift_int (by assumption) (by assumption) ?_))
theorem dinner_step {w : World} {n k : Nat} (hn : 0 < n) (hn2 : n ≤ 64) (hk2 : 2 ≤ k) (hk3 : k ≤ 64) (IH : ∀ i, i < k → 1 ≤ i → DInnerC w n i) : DInnerC w n k := by
  unfold DInnerC
  intros
  rename_i lo hi lo' tl tr tn f c' D cI cA cN oc oI oA oN ocv toc nm qu ps bd sc dc pm ct vs ds ep rest B F X N T hk hd hu hnd hoc hoc1 hI hA hN hv CH hlo hhi hle hlen hb ret
  cases hnd
  obtain ⟨j, hj⟩ : ∃ j, j = k / 2 := ⟨_, rfl⟩
  have hmid : (lo + hi).fdiv (2 ^ Int.toNat 1) = ((lo' + j : Nat) : Int) := by
    have e : lo + hi = ((lo' + lo' + k : Nat) : Int) := by omega
    rw [e]; show Int.fdiv _ ((2 : Nat) : Int) = _
    rw [fdiv_nat]; omega
  have hsh : ((lo + hi).fdiv (2 ^ Int.toNat 1) - lo) * (n : Int) = ((n * j : Nat) : Int) := shift_nat (by rw [hmid]; omega)
  have hs0 : 0 ≤ ((lo + hi).fdiv (2 ^ Int.toNat 1) - lo) * (n : Int) := by rw [hsh]; omega
  have hnj : n * j ≤ 64 * 64 := Nat.mul_le_mul hn2 (by omega)
  have hv1 : numD (2 ^ n) (part ds (lo' + j) (k - j)) < (2 ^ n) ^ (k - j) := part_lt (by omega) hb
  have hbits : (Builtin.Int.intBits ((numD (2 ^ n) (part ds (lo' + j) (k - j)) : Nat) : Int) : Int) + ((lo + hi).fdiv (2 ^ Int.toNat 1) - lo) * (n : Int) ≤ 2 ^ 27 := by
    rw [hsh]
    have b : Builtin.Int.intBits ((numD (2 ^ n) (part ds (lo' + j) (k - j)) : Nat) : Int) ≤ n * (k - j) := intBits_le_iff.mpr (by rw [Int.natAbs_natCast, Nat.pow_mul]; exact hv1)
    have : n * (k - j) ≤ 64 * 64 := Nat.mul_le_mul hn2 (by omega)
    omega
  refine wpAny_call ?_
  k_dflt (refine' code_nest ?k1 ?k2 ?k3 ?k4 ?k5 ?kA ?kF ?kK ?k6 ?k7 ?k8 ?k9 ?kB ?_ ?c2 ?c3 ?c4 ?c5; (case kA => exact rfl); (case kF => exact rfl); (case kK => first | assumption | exact rfl); (case k1 => k_asm); (case k2 => k_asm); (case k3 => k_asm); (case k4 => k_asm); (case k5 => k_asm); (case k6 => k_mem); (case k7 => exact codeRec_news (by k_asm) (by k_mem) (by assumption) (by assumption)); (case k8 => ktr_room); (case k9 => exact BindsTo.of_eq rfl); (case c5 => decide); (case kB => exact locs rfl); (case c2 => exact rfl); (case c3 => exact rfl); (case c4 => exact rfl); k_whole; intro g' L' h' FG' F' N' B' X' T'; (try dsimp only); (try k_lift B'); (try k_fold))
  k_steps
  unfold Halt
  have H1 : DInnerC w n (k - j) := IH (k - j) (by omega) (by omega)
  unfold DInnerC at H1
  refine' H1 ?B ?F ?X ?N ?T ?hk ?hd ?hu ?hnd ?hoc ?hoc1 ?hI ?hA ?hN ?hv ?CH ?hlo ?hhi ?hle ?hlen ?hb ?ret
  (case B => k_asm)
  (case F => k_asm)
  (case X => k_asm)
  (case N => k_asm)
  (case T => k_asm)
  (case hk => exact rfl)
  (case hd => (simp only [recursionLimit] at *; omega))
  (case hu => (simp only [cLine_is] at *; omega))
  (case hnd => exact rfl)
  (case hoc => assumption)
  (case hoc1 => assumption)
  (case hI => assumption)
  (case hA => assumption)
  (case hN => assumption)
  (case hv => assumption)
  (case CH => assumption)
  (case hlo => exact hmid)
  (case hhi => omega)
  (case hle => omega)
  (case hlen => omega)
  (case hb => exact hb)
  intro t1 h1 tk1 F1 N1
  (try dsimp only)
  k_steps
  unfold Halt
  have H2 : DInnerC w n j := IH j (by omega) (by omega)
  unfold DInnerC at H2
  refine' H2 ?B2 ?F2 ?X2 ?N2 ?T2 ?hk2 ?hd2 ?hu2 ?hnd2 ?hoc2 ?hoc12 ?hI2 ?hA2 ?hN2 ?hv2 ?CH2 ?hlo2 ?hhi2 ?hle2 ?hlen2 ?hb2 ?ret2
  (case B2 => k_asm)
  (case F2 => k_asm)
  (case X2 => k_asm)
  (case N2 => k_asm)
  (case T2 => k_asm)
  (case hk2 => exact rfl)
  (case hd2 => (simp only [recursionLimit] at *; omega))
  (case hu2 => (simp only [cLine_is] at *; omega))
  (case hnd2 => exact rfl)
  (case hoc2 => assumption)
  (case hoc12 => assumption)
  (case hI2 => assumption)
  (case hA2 => assumption)
  (case hN2 => assumption)
  (case hv2 => assumption)
  (case CH2 => assumption)
  (case hlo2 => exact hlo)
  (case hhi2 => omega)
  (case hle2 => omega)
  (case hlen2 => omega)
  (case hb2 => exact hb)
  intro t2 h2 tk2 F2 N2
  (try dsimp only)
  k_steps
  refine retE ?_ (ret _ _ _ (by k_asm) (by k_asm))
  rw [hsh, Int.toNat_natCast]
  have e := numD_part (b := 2 ^ n) (ds := ds) (lo := lo') (j := j) (k := k - j) (by omega)
  rw [show j + (k - j) = k by omega] at e
  rw [e, ← Nat.pow_mul]
  simp
theorem dinner_all {w : World} {n : Nat} (hn : 0 < n) (hn2 : n ≤ 64) : ∀ k, 1 ≤ k → k ≤ 64 → DInnerC w n k := by
  intro k
  induction k using Nat.strongRecOn with
  | ind k ih =>
    intro h1 h2
    by_cases e : k = 1
    · rw [e]; exact dinner_base
    · exact dinner_step hn hn2 (by omega) h2 fun i hi h => ih i hi h (by omega)
end
section
/-- what the table of _digits2int holds: nothing yet, or the code of inner -/
inductive TabD2 : List (Addr × Obj) → Prop
  | nil : TabD2 [(44, tabObj #[])]
  | one {c' : Addr} {oc : Obj} {ocv : Array Value} {t : Tok} (hc : oc.data = .fields ocv) (h1 : ocv[1]? = some (.str (PySem.Str.ofString "_digits2int" ++ ".<locals>." ++ PySem.Str.ofString "inner") t)) : TabD2 [(44, tabObj #[rawInt 77, rawInt 4, .ref c']), (c', oc)]
local macro_rules | `(tactic| walk_at "call ref") => `(tactic| with_reducible refine haltC2 ?_)
theorem d2i_spec {w : World} {mg mb : Str → Option Value} {p : Program} {loose : List Str} {mean : ExcName → Option Value} {dp un : Nat} {gd : Option (List Code)} {cn : Str} {cs : Scope} {a : Addr} {ccd : Value} {cl : List (Str × Addr)} {outer : List Env} {A₀ : Around} {base h₀ : Heap} {L : Addr} {m : Str → Option Value} {s : Shared} {Q E : Value → Shared → Prop} {n : Int} {nN : Nat} {tn : Tok} {D : Addr} {vs : List Value} {ds : List Nat} {ep : Nat} {tb rest : List (Addr × Obj)}
  (B : Below A₀ base outer h₀) (F : Fr h₀ L s.heap m) (X : (hd1.heap_39 w.params).In h₀) (N : News h₀ L s.heap (tb ++ (D, W.listOf vs.toArray ep) :: rest)) (T : Top p loose mean mg mb h₀) (hk : cs.kind = .function) (hd : dp + 80 < recursionLimit) (hu : un + 700 < cLine)
  (tbs : TabD2 tb) (dj : ∀ p ∈ tb, ∀ q ∈ (D, W.listOf vs.toArray ep) :: rest, p.1 ≠ q.1) (C : CodeHd base 48 44) (hn : n = (nN : Int)) (hn0 : 0 < nN) (hn1 : nN ≤ 64) (hv : IntsAre vs (ds.map Int.ofNat)) (hlen : ds.length ≤ 64) (hb : ∀ d ∈ ds, d < 2 ^ nN)
  (ret : ∀ t tb' h' tk', Fr h₀ L h' m → News h₀ L h' (tb' ++ (D, W.listOf vs.toArray ep) :: rest) → TabD2 tb' → (∀ p ∈ tb', ∀ q ∈ (D, W.listOf vs.toArray ep) :: rest, p.1 ≠ q.1) → Q (.int (numD (2 ^ nN) ds : Nat) t) { s with heap := h', toks := tk' }) :
  wpAny (model PySem.Challenge.pw_pg0212_01 w) (ktrTop dp un gd cn cs L a ccd cl outer) (call (.ref 49) [.ref D, .int n tn]) Q E s := by
  subst hn
  have hl2 : (ds.map Int.ofNat).length = ds.length := List.length_map ..
  cases tbs with
  | nil =>
    simp only [List.cons_append, List.nil_append] at N
    have rD : ∀ p ∈ (D, W.listOf vs.toArray ep) :: rest, p.1 ≠ 44 := fun p hp => (dj _ (.head _) p hp).symm
    have r44 : ∀ p ∈ rest, p.1 ≠ 44 := fun p hp => rD p (.tail _ hp)
    have d44 : @Ne Nat D 44 := rD _ (.head _)
    refine wpAny_call ?_
    k_dflt (first
  | cell_enter
  | (refine' code_def ?k1 ?k2 ?k3 ?k4 ?k5 ?kA ?kF ?kK ?k6 ?k7 ?k8 ?k9 ?kB ?_ ?c2 ?c3 ?c4 ?c5; (case kA => exact rfl); (case kF => exact rfl); (case kK => first | assumption | exact rfl); (case k1 => k_asm); (case k2 => k_asm); (case k3 => k_asm); (case k4 => k_asm); (case k5 => k_asm); (case k6 => k_is); (case k7 => k_is); (case k8 => ktr_room); (case k9 => first | exact BindsTo.of_eq rfl | exact binds_K (by k_in) rfl (by k_is) rfl rfl rfl | fail "k_enter: no rule for these arguments"); (case c5 => decide); (case kB => exact locs rfl); (case c2 => exact rfl); (case c3 => exact rfl); (case c4 => exact rfl); k_whole; intro g' L' h' FG' F' N' B' X' T'; (try dsimp only); (try k_lift B'); (try k_fold))
  | (refine' code_defC ?k1 ?k2 ?k3 ?k4 ?k5 ?kA ?kF ?kK ?k6 ?k7 ?k8 ?k9 ?kB ?kD ?_ ?c2 ?c3 ?c4; (case kA => exact rfl); (case kF => exact rfl); (case kK => first | assumption | exact rfl); (case k1 => k_asm); (case k2 => k_asm); (case k3 => k_asm); (case k4 => k_asm); (case k5 => k_asm); (case k6 => k_is); (case k7 => k_is); (case k8 => ktr_room); (case k9 => first | exact BindsTo.of_eq rfl | exact binds_K (by k_in) rfl (by k_is) rfl rfl rfl | fail "k_enter: no rule for these arguments"); (case kB => exact rfl); (case kD => decide +kernel); (case c2 => exact rfl); (case c3 => exact rfl); (case c4 => exact rfl); k_whole; intro g9 L9 h9 tk9 cells9 FG9 F9 N9 Y9 B9 X9 T9 l9; (try k_lt l9); k_cells Y9; (try simp only [List.cons_append, List.nil_append] at N9); (try dsimp only); (try k_lift B9); (try k_fold)))
    (rename _ ∧ _ ∧ AllLt _ _ => l9; have hr9 := allLt_to l9.2.2; have l44 := l9.1; have lD := l9.2.1)
    k_steps
    · unfold Halt
      have H1 : DInnerC w nN ds.length := dinner_all hn0 hn1 ds.length (by omega) hlen
      unfold DInnerC at H1
      refine' H1 (rest := ((44 : Addr), _) :: rest) ?B ?F ?X ?N ?T ?hk ?hd ?hu ?hnd ?hoc ?hoc1 ?hI ?hA ?hN ?hv ?CH ?hlo ?hhi ?hle ?hlen ?hb ?ret
      (case B => k_asm)
      (case F => k_asm)
      (case X => k_asm)
      (case N => exact cb_drop (by k_asm) (List.forall_mem_cons.mpr ⟨by k_mem, List.forall_mem_cons.mpr ⟨by k_mem, List.forall_mem_cons.mpr ⟨by k_mem, List.forall_mem_cons.mpr ⟨by k_mem, List.forall_mem_cons.mpr ⟨by k_mem, List.forall_mem_cons.mpr ⟨by k_mem, List.forall_mem_cons.mpr ⟨by k_mem, fun p hp => by (repeat (first | exact hp | refine List.Mem.tail _ ?_))⟩⟩⟩⟩⟩⟩⟩))
      (case T => k_asm)
      (case hk => exact rfl)
      (case hd => (simp only [recursionLimit] at *; omega))
      (case hu => (simp only [cLine_is] at *; omega))
      (case hnd => exact rfl)
      (case hoc => assumption)
      (case hoc1 => assumption)
      (case hI => assumption)
      (case hA => (rename Obj.data _ = Data.cell (bindC _ _ _ (Str.ofString "digits")) => d9; exact d9))
      (case hN => (rename Obj.data _ = Data.cell (bindC _ _ _ (Str.ofString "n")) => d9; exact d9))
      (case hv => assumption)
      (case CH => assumption)
      (case hlo => rfl)
      (case hhi => omega)
      (case hle => omega)
      (case hlen => omega)
      (case hb => exact hb)
      intro t1 h1 tk1 F1 N1
      (try dsimp only)
      k_steps
      refine retE ?E1 (ret _ [((44 : Addr), _), (_, _)] _ _ (by k_asm) (cb_drop (by k_asm) (List.forall_mem_cons.mpr ⟨by k_mem, List.forall_mem_cons.mpr ⟨by k_mem, List.forall_mem_cons.mpr ⟨by k_mem, fun p hp => by (repeat (first | exact hp | refine List.Mem.tail _ ?_))⟩⟩⟩)) (TabD2.one (by assumption) (by assumption)) ?DJa)
      (case DJa => exact List.forall_mem_cons.mpr ⟨fun q hq => (rD q hq).symm, List.forall_mem_cons.mpr ⟨List.forall_mem_cons.mpr ⟨(by refine neN ?_; dsimp only; omega), fun q hq => by have := hr9 q hq; refine neN ?_; dsimp only; omega⟩, fun _ h => nomatch h⟩⟩)
      rw [part_all]
    · refine retE ?E2 (ret _ [((44 : Addr), _), (_, _)] _ _ (by k_asm) (cb_drop (by k_asm) (List.forall_mem_cons.mpr ⟨by k_mem, List.forall_mem_cons.mpr ⟨by k_mem, List.forall_mem_cons.mpr ⟨by k_mem, fun p hp => by (repeat (first | exact hp | refine List.Mem.tail _ ?_))⟩⟩⟩)) (TabD2.one (by assumption) (by assumption)) ?DJb)
      (case DJb => exact List.forall_mem_cons.mpr ⟨fun q hq => (rD q hq).symm, List.forall_mem_cons.mpr ⟨List.forall_mem_cons.mpr ⟨(by refine neN ?_; dsimp only; omega), fun q hq => by have := hr9 q hq; refine neN ?_; dsimp only; omega⟩, fun _ h => nomatch h⟩⟩)
      have e0 : ds = [] := List.length_eq_zero_iff.mp (by omega)
      subst e0; rfl
  | one hc hc1 =>
    simp only [List.cons_append, List.nil_append] at N
    have rD : ∀ p ∈ (D, W.listOf vs.toArray ep) :: rest, p.1 ≠ 44 := fun p hp => (dj _ (.head _) p hp).symm
    have r44 : ∀ p ∈ rest, p.1 ≠ 44 := fun p hp => rD p (.tail _ hp)
    have d44 : @Ne Nat D 44 := rD _ (.head _)
    have rc := fun p hp => (dj _ (.tail _ (.head _)) p hp).symm
    refine wpAny_call ?_
    k_dflt (first
  | cell_enter
  | (refine' code_def ?k1 ?k2 ?k3 ?k4 ?k5 ?kA ?kF ?kK ?k6 ?k7 ?k8 ?k9 ?kB ?_ ?c2 ?c3 ?c4 ?c5; (case kA => exact rfl); (case kF => exact rfl); (case kK => first | assumption | exact rfl); (case k1 => k_asm); (case k2 => k_asm); (case k3 => k_asm); (case k4 => k_asm); (case k5 => k_asm); (case k6 => k_is); (case k7 => k_is); (case k8 => ktr_room); (case k9 => first | exact BindsTo.of_eq rfl | exact binds_K (by k_in) rfl (by k_is) rfl rfl rfl | fail "k_enter: no rule for these arguments"); (case c5 => decide); (case kB => exact locs rfl); (case c2 => exact rfl); (case c3 => exact rfl); (case c4 => exact rfl); k_whole; intro g' L' h' FG' F' N' B' X' T'; (try dsimp only); (try k_lift B'); (try k_fold))
  | (refine' code_defC ?k1 ?k2 ?k3 ?k4 ?k5 ?kA ?kF ?kK ?k6 ?k7 ?k8 ?k9 ?kB ?kD ?_ ?c2 ?c3 ?c4; (case kA => exact rfl); (case kF => exact rfl); (case kK => first | assumption | exact rfl); (case k1 => k_asm); (case k2 => k_asm); (case k3 => k_asm); (case k4 => k_asm); (case k5 => k_asm); (case k6 => k_is); (case k7 => k_is); (case k8 => ktr_room); (case k9 => first | exact BindsTo.of_eq rfl | exact binds_K (by k_in) rfl (by k_is) rfl rfl rfl | fail "k_enter: no rule for these arguments"); (case kB => exact rfl); (case kD => decide +kernel); (case c2 => exact rfl); (case c3 => exact rfl); (case c4 => exact rfl); k_whole; intro g9 L9 h9 tk9 cells9 FG9 F9 N9 Y9 B9 X9 T9 l9; (try k_lt l9); k_cells Y9; (try simp only [List.cons_append, List.nil_append] at N9); (try dsimp only); (try k_lift B9); (try k_fold)))
    (rename _ ∧ _ ∧ _ ∧ AllLt _ _ => l9; have hr9 := allLt_to l9.2.2.2; have l44 := l9.1; have lc' := l9.2.1; have lD := l9.2.2.1)
    k_steps
    · unfold Halt
      have H1 : DInnerC w nN ds.length := dinner_all hn0 hn1 ds.length (by omega) hlen
      unfold DInnerC at H1
      refine' H1 (rest := ((44 : Addr), _) :: rest) ?B9 ?F9 ?X9 ?N9 ?T9 ?hk9 ?hd9 ?hu9 ?hnd9 ?hoc9 ?hoc19 ?hI9 ?hA9 ?hN9 ?hv9 ?CH9 ?hlo9 ?hhi9 ?hle9 ?hlen9 ?hb9 ?ret9
      (case B9 => k_asm)
      (case F9 => k_asm)
      (case X9 => k_asm)
      (case N9 => exact cb_drop (by k_asm) (List.forall_mem_cons.mpr ⟨by k_mem, List.forall_mem_cons.mpr ⟨by k_mem, List.forall_mem_cons.mpr ⟨by k_mem, List.forall_mem_cons.mpr ⟨by k_mem, List.forall_mem_cons.mpr ⟨by k_mem, List.forall_mem_cons.mpr ⟨by k_mem, List.forall_mem_cons.mpr ⟨by k_mem, fun p hp => by (repeat (first | exact hp | refine List.Mem.tail _ ?_))⟩⟩⟩⟩⟩⟩⟩))
      (case T9 => k_asm)
      (case hk9 => exact rfl)
      (case hd9 => (simp only [recursionLimit] at *; omega))
      (case hu9 => (simp only [cLine_is] at *; omega))
      (case hnd9 => exact rfl)
      (case hoc9 => assumption)
      (case hoc19 => assumption)
      (case hI9 => assumption)
      (case hA9 => (rename Obj.data _ = Data.cell (bindC _ _ _ (Str.ofString "digits")) => d9; exact d9))
      (case hN9 => (rename Obj.data _ = Data.cell (bindC _ _ _ (Str.ofString "n")) => d9; exact d9))
      (case hv9 => assumption)
      (case CH9 => assumption)
      (case hlo9 => rfl)
      (case hhi9 => omega)
      (case hle9 => omega)
      (case hlen9 => omega)
      (case hb9 => exact hb)
      intro t1 h1 tk1 F1 N1
      (try dsimp only)
      k_steps
      refine retE ?E19 (ret _ [((44 : Addr), _), (_, _)] _ _ (by k_asm) (cb_drop (by k_asm) (List.forall_mem_cons.mpr ⟨by k_mem, List.forall_mem_cons.mpr ⟨by k_mem, List.forall_mem_cons.mpr ⟨by k_mem, fun p hp => by (repeat (first | exact hp | refine List.Mem.tail _ ?_))⟩⟩⟩)) (TabD2.one hc hc1) ?DJa9)
      (case DJa9 => exact List.forall_mem_cons.mpr ⟨fun q hq => (rD q hq).symm, List.forall_mem_cons.mpr ⟨fun q hq => (rc q hq).symm, fun _ h => nomatch h⟩⟩)
      rw [part_all]
    · refine retE ?E29 (ret _ [((44 : Addr), _), (_, _)] _ _ (by k_asm) (cb_drop (by k_asm) (List.forall_mem_cons.mpr ⟨by k_mem, List.forall_mem_cons.mpr ⟨by k_mem, List.forall_mem_cons.mpr ⟨by k_mem, fun p hp => by (repeat (first | exact hp | refine List.Mem.tail _ ?_))⟩⟩⟩)) (TabD2.one hc hc1) ?DJb9)
      (case DJb9 => exact List.forall_mem_cons.mpr ⟨fun q hq => (rD q hq).symm, List.forall_mem_cons.mpr ⟨fun q hq => (rc q hq).symm, fun _ h => nomatch h⟩⟩)
      have e0 : ds = [] := List.length_eq_zero_iff.mp (by omega)
      subst e0; rfl
end
section
theorem div2_spec {w : World} {mg mb : Str → Option Value} {p : Program} {loose : List Str} {mean : ExcName → Option Value} {dp un : Nat} {gd : Option (List Code)} {cn : Str} {cs : Scope} {a : Addr} {ccd : Value} {cl : List (Str × Addr)} {outer : List Env} {A₀ : Around} {base h₀ : Heap} {L : Addr} {m : Str → Option Value} {s : Shared} {Q E : Value → Shared → Prop} {x y n : Int} {tx ty tn : Tok} {news : List (Addr × Obj)}
  (B : Below A₀ base outer h₀) (F : Fr h₀ L s.heap m) (X : (hd1.heap_39 w.params).In h₀) (N : News h₀ L s.heap news) (T : Top p loose mean mg mb h₀) (hk : cs.kind = .function) (hd : dp + 10 < recursionLimit) (hu : un + 80 < cLine)
  (hy : y ≠ 0) (hp : Builtin.divisionGoesByPylong x y = false) (hb : ((Builtin.Int.intBits x : Nat) : Int) - n ≤ 4000)
  (ret : ∀ D t1 t2 h' tk', Fr h₀ L h' m → News h₀ L h' ((D, { cls := .type "tuple", data := .seq #[.int (x.fdiv y) t1, .int (x.fmod y) t2] }) :: news) → (∀ p ∈ news, @LT.lt Nat _ p.1 D) → Q (.ref D) { s with heap := h', toks := tk' }) :
  wpAny (model PySem.Challenge.pw_pg0212_01 w) (ktrTop dp un gd cn cs L a ccd cl outer) (call (.ref 28) [.int x tx, .int y ty, .int n tn]) Q E s := by
  refine wpAny_call ?_
  k_dflt (first
  | cell_enter
  | (refine' code_def ?k1 ?k2 ?k3 ?k4 ?k5 ?kA ?kF ?kK ?k6 ?k7 ?k8 ?k9 ?kB ?_ ?c2 ?c3 ?c4 ?c5; (case kA => exact rfl); (case kF => exact rfl); (case kK => first | assumption | exact rfl); (case k1 => k_asm); (case k2 => k_asm); (case k3 => k_asm); (case k4 => k_asm); (case k5 => k_asm); (case k6 => k_is); (case k7 => k_is); (case k8 => ktr_room); (case k9 => first | exact BindsTo.of_eq rfl | exact binds_K (by k_in) rfl (by k_is) rfl rfl rfl | fail "k_enter: no rule for these arguments"); (case c5 => decide); (case kB => exact locs rfl); (case c2 => exact rfl); (case c3 => exact rfl); (case c4 => exact rfl); k_whole; intro g' L' h' FG' F' N' B' X' T'; (try dsimp only); (try k_lift B'); (try k_fold))
  | (refine' code_defC ?k1 ?k2 ?k3 ?k4 ?k5 ?kA ?kF ?kK ?k6 ?k7 ?k8 ?k9 ?kB ?kD ?_ ?c2 ?c3 ?c4; (case kA => exact rfl); (case kF => exact rfl); (case kK => first | assumption | exact rfl); (case k1 => k_asm); (case k2 => k_asm); (case k3 => k_asm); (case k4 => k_asm); (case k5 => k_asm); (case k6 => k_is); (case k7 => k_is); (case k8 => ktr_room); (case k9 => first | exact BindsTo.of_eq rfl | exact binds_K (by k_in) rfl (by k_is) rfl rfl rfl | fail "k_enter: no rule for these arguments"); (case kB => exact rfl); (case kD => decide +kernel); (case c2 => exact rfl); (case c3 => exact rfl); (case c4 => exact rfl); k_whole; intro g9 L9 h9 tk9 cells9 FG9 F9 N9 Y9 B9 X9 T9 l9; (try k_lt l9); k_cells Y9; (try simp only [List.cons_append, List.nil_append] at N9); (try dsimp only); (try k_lift B9); (try k_fold)))
  k_steps
  (rename News _ _ _ _ => n9; have lt9 := fun p hp => Heap.lt_size (n9 p hp).1)
  refine divmod_N (by k_asm) (by k_asm) hy (fun h9 F9 N9 => ?_) (Or.inl hp)
  (try dsimp only)
  k_steps
  exact ret _ _ _ _ _ (by k_asm) (by k_asm) lt9
end
section
local macro_rules | `(tactic| walk_at "call builtin:list.reverse") => `(tactic| refine Halt.of ?_)
local macro_rules | `(tactic| walk_at "binaryOp LShift int int") => `(tactic| (refine PyProof.Rows.lshift_int (by assumption) (by assumption) ?_))
local macro_rules | `(tactic| walk_at "call ref") => `(tactic| with_reducible refine haltC ?_)
local macro_rules | `(tactic| walk_at "exec For Name Call cons nil") => `(tactic| refine Halt.of ?_)
theorem dmp_spec {w : World} {mg mb : Str → Option Value} {p : Program} {loose : List Str} {mean : ExcName → Option Value} {dp un : Nat} {gd : Option (List Code)} {cn : Str} {cs : Scope} {a : Addr} {ccd : Value} {cl : List (Str × Addr)} {outer : List Env} {A₀ : Around} {base h₀ : Heap} {L : Addr} {m : Str → Option Value} {s : Shared} {Q E : Value → Shared → Prop} {x y : Int} {A Bn : Nat} {tx ty : Tok} {tb td rest : List (Addr × Obj)}
  (B : Below A₀ base outer h₀) (F : Fr h₀ L s.heap m) (X : (hd1.heap_39 w.params).In h₀) (N : News h₀ L s.heap (tb ++ (td ++ rest))) (T : Top p loose mean mg mb h₀) (hk : cs.kind = .function) (hd : dp + 100 < recursionLimit) (hu : un + 900 < cLine)
  (ti : TabI2 tb) (td2 : TabD2 td) (dj1 : ∀ p ∈ tb, ∀ q ∈ td ++ rest, p.1 ≠ q.1) (dj2 : ∀ p ∈ td, ∀ q ∈ rest, p.1 ≠ q.1) (CI : CodeHd base 41 37) (CD : CodeHd base 48 44) (hx : x = (A : Int)) (hy : y = (Bn : Int)) (hB : 0 < Bn) (hA2 : A < 2 ^ 30) (hB2 : Bn < 2 ^ 30)
  (ret : ∀ D t1 t2 tb' td' h' tk', Fr h₀ L h' m → News h₀ L h' ((D, { cls := .type "tuple", data := .seq #[.int ((A / Bn : Nat) : Int) t1, .int ((A % Bn : Nat) : Int) t2] }) :: (tb' ++ (td' ++ rest))) → TabI2 tb' → TabD2 td' → (∀ p ∈ tb', ∀ q ∈ td' ++ rest, p.1 ≠ q.1) → (∀ p ∈ td', ∀ q ∈ rest, p.1 ≠ q.1) → (∀ p ∈ tb' ++ (td' ++ rest), p.1 ≠ D) → Q (.ref D) { s with heap := h', toks := tk' }) :
  wpAny (model PySem.Challenge.pw_pg0212_01 w) (ktrTop dp un gd cn cs L a ccd cl outer) (call (.ref 56) [.int x tx, .int y ty]) Q E s := by
  subst hx hy
  refine wpAny_call ?_
  k_dflt (first
  | cell_enter
  | (refine' code_def ?k1 ?k2 ?k3 ?k4 ?k5 ?kA ?kF ?kK ?k6 ?k7 ?k8 ?k9 ?kB ?_ ?c2 ?c3 ?c4 ?c5; (case kA => exact rfl); (case kF => exact rfl); (case kK => first | assumption | exact rfl); (case k1 => k_asm); (case k2 => k_asm); (case k3 => k_asm); (case k4 => k_asm); (case k5 => k_asm); (case k6 => k_is); (case k7 => k_is); (case k8 => ktr_room); (case k9 => first | exact BindsTo.of_eq rfl | exact binds_K (by k_in) rfl (by k_is) rfl rfl rfl | fail "k_enter: no rule for these arguments"); (case c5 => decide); (case kB => exact locs rfl); (case c2 => exact rfl); (case c3 => exact rfl); (case c4 => exact rfl); k_whole; intro g' L' h' FG' F' N' B' X' T'; (try dsimp only); (try k_lift B'); (try k_fold))
  | (refine' code_defC ?k1 ?k2 ?k3 ?k4 ?k5 ?kA ?kF ?kK ?k6 ?k7 ?k8 ?k9 ?kB ?kD ?_ ?c2 ?c3 ?c4; (case kA => exact rfl); (case kF => exact rfl); (case kK => first | assumption | exact rfl); (case k1 => k_asm); (case k2 => k_asm); (case k3 => k_asm); (case k4 => k_asm); (case k5 => k_asm); (case k6 => k_is); (case k7 => k_is); (case k8 => ktr_room); (case k9 => first | exact BindsTo.of_eq rfl | exact binds_K (by k_in) rfl (by k_is) rfl rfl rfl | fail "k_enter: no rule for these arguments"); (case kB => exact rfl); (case kD => decide +kernel); (case c2 => exact rfl); (case c3 => exact rfl); (case c4 => exact rfl); k_whole; intro g9 L9 h9 tk9 cells9 FG9 F9 N9 Y9 B9 X9 T9 l9; (try k_lt l9); k_cells Y9; (try simp only [List.cons_append, List.nil_append] at N9); (try dsimp only); (try k_lift B9); (try k_fold)))
  k_steps
  unfold Halt
  have hn0 := bits_pos hB
  have hn1 := bits_le hB2
  have hBn := bits_lt Bn
  generalize Builtin.Int.intBits (Bn : Int) = nN at *
  have hAb : Builtin.Int.intBits (A : Int) ≤ 30 := bits_le hA2
  have hAl : A < 2 ^ Builtin.Int.intBits (A : Int) := bits_lt A
  obtain ⟨kq, hkq⟩ : ∃ kq, kq = (Builtin.Int.intBits (A : Int) + nN - 1) / nN := ⟨_, rfl⟩
  have hq : ((Builtin.Int.intBits (A : Int) : Nat) + (nN : Int) - 1).fdiv (nN : Int) = (kq : Int) := by
    rw [hkq, ← fdiv_nat]; congr 1; omega
  have hmul : Builtin.Int.intBits (A : Int) ≤ nN * kq := by
    rw [hkq]
    have h1 := Nat.div_add_mod (Builtin.Int.intBits (A : Int) + nN - 1) nN
    have h2 := Nat.mod_lt (Builtin.Int.intBits (A : Int) + nN - 1) hn0
    omega
  have hkq1 : kq ≤ 60 := by rw [hkq]; exact Nat.le_trans (Nat.div_le_self _ _) (by omega)
  have hX : A < 2 ^ (nN * kq) := Nat.lt_of_lt_of_le hAl (Nat.pow_le_pow_right (by decide) hmul)
  have hX0 : A = 0 → kq = 0 := by
    intro e; rw [hkq, e, bits_zero]; exact Nat.div_eq_of_lt (by omega)
  refine' i2d_spec (kq := kq) (nN := nN) (xN := A) ?B ?F ?X ?N ?T ?hk ?hd ?hu ti dj1 CI rfl rfl hn0 (by omega) hq (by omega) hX hX0 ?ret
  (case B => k_asm)
  (case F => k_asm)
  (case X => k_asm)
  (case N => k_asm)
  (case T => k_asm)
  (case hk => exact rfl)
  (case hd => (simp only [recursionLimit] at *; omega))
  (case hu => (simp only [cLine_is] at *; omega))
  intro D vs tb1 h1 tk1 F1 N1 iv1 ti1 dj3 lt1 ne1
  (try dsimp only)
  k_steps
  unfold Halt
  refine wpAny_For ?_
  k_steps
  rename_i Q hQ1 _ lQ hq2 I h3 F3 N3 _ l3
  have hlen : vs.length = kq := by rw [iv1.length, digs_length]
  rw [digs_map] at iv1
  obtain ⟨ds, hds⟩ : ∃ ds, ds = digsN (2 ^ nN) kq A := ⟨_, rfl⟩
  rw [← hds] at iv1
  have hdl : ds.length = kq := by rw [hds, digsN_length]
  have hdb : ∀ d ∈ ds, d < 2 ^ nN := hds ▸ digsN_lt (Nat.two_pow_pos _) kq A
  have hV : numD (2 ^ nN) ds = A := by rw [hds, numD_digsN, ← Nat.pow_mul, Nat.mod_eq_of_lt hX]
  obtain ⟨tr0, e0⟩ := fr_int (x := "r") (i := 0) F3 ⟨_, rfl⟩
  refine wpAny_pyIter_revIter (it := I) (l := D) (i := (vs.length : Int) - 1) ⟨_, (N3 _ (by k_mem)).1, rfl, rfl⟩ ?_
  (try dsimp only)
  refine' forI (L := _) (fun c : DmSt => (I, c.oI) :: (Q, W.listOf c.vq.toArray c.ep) :: (D, W.listOf vs.toArray 0) :: (tb1 ++ (td ++ rest))) (fun c => [("r", .int (c.r : Int) c.tr)]) ["a_digit", "q_digit"]
    (fun c => c.i ≤ kq ∧ c.oI.cls = .type "list_reverseiterator" ∧ c.oI.data = .fields #[.ref D, rawInt ((kq : Int) - 1 - c.i)] ∧ IntsAre c.vq (c.qs.map Int.ofNat) ∧ c.r = numD (2 ^ nN) (ds.drop (kq - c.i)) % Bn ∧
      numD (2 ^ nN) c.qs.reverse = numD (2 ^ nN) (ds.drop (kq - c.i)) / Bn ∧ (∀ q ∈ c.qs, q < 2 ^ nN) ∧ c.qs.length = c.i)
    (fun c => kq - c.i) ⟨0, 0, tr0, revObj D ((vs.length : Int) - 1), [], 0, []⟩ ?F9 ?N9 ?hk9 ?hr9 ?hp9 ?turn9
  (case F9 => exact F3)
  (case N9 => exact N3)
  (case hk9 => exact List.forall_mem_cons.mpr ⟨e0, fun _ h => nomatch h⟩)
  (case hr9 => exact fun z _ _ => rfl)
  (case hp9 =>
    refine ⟨Nat.zero_le _, rfl, ?_, .nil, ?_, ?_, (fun _ h => nomatch h), rfl⟩
    · show Data.fields #[Value.ref D, rawInt ((vs.length : Int) - 1)] = _
      rw [hlen]; simp
    · show 0 = numD (2 ^ nN) (ds.drop (kq - 0)) % Bn
      rw [Nat.sub_zero, ← hdl, List.drop_length]; simp [numD]
    · show numD (2 ^ nN) [] = numD (2 ^ nN) (ds.drop (kq - 0)) / Bn
      rw [Nat.sub_zero, ← hdl, List.drop_length]; simp [numD])
  have neQ : ∀ p ∈ tb1 ++ (td ++ rest), p.1 ≠ Q := fun p hp => Nat.ne_of_lt (allLt_to lQ.2 p hp)
  have neI : ∀ p ∈ tb1 ++ (td ++ rest), p.1 ≠ I := fun p hp => Nat.ne_of_lt (allLt_to l3.2.2 p hp)
  have nQD : @Ne Nat D Q := Nat.ne_of_lt lQ.1
  have nQI : @Ne Nat Q I := Nat.ne_of_lt l3.1
  have nDI : @Ne Nat D I := Nat.ne_of_lt l3.2.1
  intro c u h4 tk4 P4 F4 N4
  obtain ⟨hi, hc, hd, hiq, hr, hq9, hqlt, hql⟩ := P4
  by_cases hlast : c.i < kq
  · have e1 : (kq : Int) - 1 - c.i = ((kq - 1 - c.i : Nat) : Int) := by omega
    rw [e1] at hd
    obtain ⟨td9, hx9⟩ := ints_at iv1 (i := kq - 1 - c.i) (by omega)
    refine rev_item (i := kq - 1 - c.i) F4 N4 (by k_updF) hc hd (by k_mem) hx9 (fun h5 o5 F5 N5 hc5 hd5 => ?_)
    (try dsimp only at N5 ⊢)
    have hrB : c.r < Bn := hr ▸ Nat.mod_lt _ hB
    have hs0 : (0 : Int) ≤ (nN : Int) := by omega
    have hvl : c.vq.length = c.i := by rw [hiq.length, List.length_map, hql]
    have hsb : (Builtin.Int.intBits (c.r : Int) : Int) + (nN : Int) ≤ 2 ^ 27 := by
      have := bits_le (Nat.lt_trans hrB hB2)
      omega
    obtain ⟨d, hd0⟩ : ∃ d, d = ds.getD (kq - 1 - c.i) 0 := ⟨_, rfl⟩
    rw [← hd0]
    have hdlt : d < 2 ^ nN := by
      rw [hd0]
      refine hdb _ ?_
      rw [List.getD_eq_getElem?_getD, List.getElem?_eq_getElem (by omega)]
      exact List.getElem_mem _
    have hpow : 2 ^ nN ≤ 2 ^ 30 := Nat.pow_le_pow_right (by decide) hn1
    have hval : (c.r : Int) * 2 ^ ((nN : Int)).toNat + (d : Int) = ((c.r * 2 ^ nN + d : Nat) : Int) := by simp
    have hprod : c.r * 2 ^ nN + d < 2 ^ 61 := by
      have h1 : c.r * 2 ^ nN ≤ 2 ^ 30 * 2 ^ 30 := Nat.mul_le_mul (by omega) hpow
      omega
    have hbit : (Builtin.Int.intBits ((c.r : Int) * 2 ^ ((nN : Int)).toNat + (d : Int)) : Int) - (nN : Int) ≤ 4000 := by
      rw [hval]
      have := bits_le hprod
      omega
    k_steps
    unfold Halt
    refine' div2_spec ?Ba ?Fa ?Xa ?Na ?Ta ?hka ?hda ?hua ?hya ?hpa ?hba ?reta
    (case hya => omega)
    (case hpa => exact PyProof.noPylong_small (by omega))
    (case hba => exact hbit)
    (case Ba => k_asm)
    (case Fa => k_asm)
    (case Xa => k_asm)
    (case Na => k_asm)
    (case Ta => k_asm)
    (case hka => exact rfl)
    (case hda => (simp only [recursionLimit] at *; omega))
    (case hua => (simp only [cLine_is] at *; omega))
    intro T9 t1 t2 h6 tk6 F6 N6 lt6
    k_lt lt6
    (try dsimp only)
    k_steps
    have hdiv : ((c.r : Int) * 2 ^ ((nN : Int)).toNat + (d : Int)).fdiv (Bn : Int) = (((c.r * 2 ^ nN + d) / Bn : Nat) : Int) := by rw [hval, fdiv_nat]
    have hmod : ((c.r : Int) * 2 ^ ((nN : Int)).toNat + (d : Int)).fmod (Bn : Int) = (((c.r * 2 ^ nN + d) % Bn : Nat) : Int) := by rw [hval, fmod_nat]
    obtain ⟨ld1, ld2, ld3⟩ := longdiv (b := 2 ^ nN) (d := d) hB rfl hr hdlt
    have hdrop : ds.drop (kq - (c.i + 1)) = d :: ds.drop (kq - c.i) := by
      have := drop_one_more (ds := ds) (i := c.i) (by omega)
      rw [hdl] at this
      rw [this, hd0]
    refine ksw_end ⟨c.i + 1, (c.r * 2 ^ nN + d) % Bn, t2, o5, (c.vq.toArray.push (.int (((c.r : Int) * 2 ^ ((nN : Int)).toNat + (d : Int)).fdiv (Bn : Int)) t1)).toList, c.ep + 1, c.qs ++ [(c.r * 2 ^ nN + d) / Bn]⟩ (by k_asm) (by k_asm) ?hnb trivial ?hkb ?hrb ?hpb ?hmb
    (case hnb => exact List.forall_mem_cons.mpr ⟨by k_mem, List.forall_mem_cons.mpr ⟨by k_mem, List.forall_mem_cons.mpr ⟨by k_mem, fun p hp => by (repeat (first | exact hp | refine List.Mem.tail _ ?_))⟩⟩⟩)
    (case hkb => exact List.forall_mem_cons.mpr ⟨congrArg (fun z => some (Value.int z t2)) hmod, fun _ h => nomatch h⟩)
    (case hrb => (intro z h2 h3; simp only [List.forall_mem_cons, List.not_mem_nil, false_implies, implies_true, and_true, ne_eq] at h2; simp only [List.contains_cons, List.contains_nil, Bool.or_false, Bool.or_eq_false_iff, beq_eq_false_iff_ne, ne_eq] at h3; simp [kstB, h2, h3]))
    (case hmb => (dsimp only; omega))
    refine ⟨by dsimp only; omega, hc5, ?_, ?_, ?_, ?_, ?_, ?_⟩
    · have e : ((kq - 1 - c.i : Nat) : Int) - 1 = (kq : Int) - 1 - ((c.i + 1 : Nat) : Int) := by omega
      dsimp only; rw [hd5, e]
    · dsimp only
      rw [hdiv, Array.toList_push, List.map_append]
      exact IntsAre.append hiq (.cons _ _ .nil)
    · dsimp only; rw [hdrop, numD, ld2]
    · dsimp only
      rw [hdrop, numD, List.reverse_append, List.reverse_singleton, List.singleton_append, numD, hq9, ld1]
    · dsimp only
      intro q hq
      rcases List.mem_append.mp hq with hq | hq
      · exact hqlt q hq
      · rw [List.mem_singleton.mp hq]; exact ld3
    · dsimp only; rw [List.length_append, List.length_singleton, hql]
  · have hik : c.i = kq := by omega
    rw [hik, show (kq : Int) - 1 - kq = -1 by omega] at hd
    refine rev_end (nx := (Q, W.listOf c.vq.toArray c.ep) :: (D, W.listOf vs.toArray 0) :: (tb1 ++ (td ++ rest))) rfl F4 N4 (by k_mem) hc hd (fun p hp => .tail _ hp) (List.forall_mem_cons.mpr ⟨nQI, List.forall_mem_cons.mpr ⟨nDI, neI⟩⟩) (fun h5 F5 N5 => ?_)
    (try dsimp only)
    have hV0 : numD (2 ^ nN) (ds.drop (kq - c.i)) = A := by rw [hik, Nat.sub_self, List.drop_zero, hV]
    rw [hV0] at hr hq9
    have hvl : c.vq.toArray.toList.length ≤ sizeLine := by
      show c.vq.length ≤ sizeLine
      rw [hiq.length, List.length_map, hql, PySem.sizeLine_eq]; omega
    k_steps
    unfold Halt
    (k_here; k_dflt (refine' kl_reverse ?rvF ?rvN rfl ?rvU ?rvz ?_; (case rvF => k_asm); (case rvN => k_asm); (case rvU => k_upd); (case rvz => first | assumption | (simp only [List.size_toArray, PySem.sizeLine_eq]; omega))); intro h' F' N'; (try k_sweep))
    k_steps
    unfold Halt
    refine' d2i_spec (nN := nN) (ds := c.qs.reverse) (tb := td) (rest := tb1 ++ rest) ?Bb ?Fb ?Xb ?Nb ?Tb ?hkb1 ?hdb ?hub td2 ?djb CD rfl hn0 (by omega) ?hvb ?hlenb ?hbb ?retb
    (case Bb => k_asm)
    (case Fb => k_asm)
    (case Xb => k_asm)
    (case Tb => k_asm)
    (case Nb => exact cb_drop (by k_asm) (fun p hp => by
      rcases List.mem_append.mp hp with hp | hp
      · exact .tail _ (.tail _ (List.mem_append.mpr (.inr (List.mem_append.mpr (.inl hp)))))
      · rcases List.mem_cons.mp hp with rfl | hp
        · exact .head _
        · rcases List.mem_append.mp hp with hp | hp
          · exact .tail _ (.tail _ (List.mem_append.mpr (.inl hp)))
          · exact .tail _ (.tail _ (List.mem_append.mpr (.inr (List.mem_append.mpr (.inr hp)))))))
    (case hkb1 => exact rfl)
    (case hdb => (simp only [recursionLimit] at *; omega))
    (case hub => (simp only [cLine_is] at *; omega))
    (case djb => exact (fun p hp q hq => by
      rcases List.mem_cons.mp hq with rfl | hq
      · exact neQ p (List.mem_append.mpr (.inr (List.mem_append.mpr (.inl hp))))
      · rcases List.mem_append.mp hq with hq | hq
        · exact (dj3 q hq p (List.mem_append.mpr (.inl hp))).symm
        · exact dj2 p hp q hq))
    (case hvb => exact ints_rev hiq)
    (case hlenb => rw [List.length_reverse, hql]; omega)
    (case hbb => exact fun d hd => hqlt d (List.mem_reverse.mp hd))
    intro t9 td3 h6 tk6 F6 N6 td4 dj6
    (try dsimp only)
    rw [hq9]
    rw [hr] at F6
    k_steps
    (rename AllLt _ _ => l8)
    have sub : ∀ p ∈ tb1 ++ (td3 ++ rest), p ∈ td3 ++ (Q, W.listOf c.vq.toArray.toList.reverse.toArray c.ep) :: (tb1 ++ rest) := (fun p hp => by
      rcases List.mem_append.mp hp with hp | hp
      · exact List.mem_append.mpr (.inr (.tail _ (List.mem_append.mpr (.inl hp))))
      · rcases List.mem_append.mp hp with hp | hp
        · exact List.mem_append.mpr (.inl hp)
        · exact List.mem_append.mpr (.inr (.tail _ (List.mem_append.mpr (.inr hp)))))
    refine ret _ _ _ tb1 td3 _ _ (by k_asm) (cb_drop (by k_asm) (List.forall_mem_cons.mpr ⟨.head _, fun p hp => .tail _ (sub p hp)⟩)) ti1 td4 ?djc (fun p hp q hq => dj6 p hp q (.tail _ (List.mem_append.mpr (.inr hq)))) (fun p hp => Nat.ne_of_lt (allLt_to l8 p (sub p hp)))
    exact (fun p hp q hq => by
      rcases List.mem_append.mp hq with hq | hq
      · exact (dj6 q hq p (.tail _ (List.mem_append.mpr (.inl hp)))).symm
      · exact dj3 p hp q (List.mem_append.mpr (.inr hq)))
end
section
local macro_rules | `(tactic| walk_at "call ref") => `(tactic| with_reducible refine haltC ?_)
theorem idm_spec {w : World} {mg mb : Str → Option Value} {p : Program} {loose : List Str} {mean : ExcName → Option Value} {dp un : Nat} {gd : Option (List Code)} {cn : Str} {cs : Scope} {a : Addr} {ccd : Value} {cl : List (Str × Addr)} {outer : List Env} {A₀ : Around} {base h₀ : Heap} {L : Addr} {m : Str → Option Value} {s : Shared} {Q E : Value → Shared → Prop} {x y : Int} {A Bn : Nat} {tx ty : Tok} {tb td rest : List (Addr × Obj)}
  (B : Below A₀ base outer h₀) (F : Fr h₀ L s.heap m) (X : (hd1.heap_39 w.params).In h₀) (N : News h₀ L s.heap (tb ++ (td ++ rest))) (T : Top p loose mean mg mb h₀) (hk : cs.kind = .function) (hd : dp + 110 < recursionLimit) (hu : un + 1000 < cLine)
  (ti : TabI2 tb) (td2 : TabD2 td) (dj1 : ∀ p ∈ tb, ∀ q ∈ td ++ rest, p.1 ≠ q.1) (dj2 : ∀ p ∈ td, ∀ q ∈ rest, p.1 ≠ q.1) (CI : CodeHd base 41 37) (CD : CodeHd base 48 44) (hx : x = (A : Int)) (hy : y = (Bn : Int)) (hB : 0 < Bn) (hA2 : A < 2 ^ 30) (hB2 : Bn < 2 ^ 30)
  (ret : ∀ D t1 t2 tb' td' h' tk', Fr h₀ L h' m → News h₀ L h' ((D, { cls := .type "tuple", data := .seq #[.int ((A / Bn : Nat) : Int) t1, .int ((A % Bn : Nat) : Int) t2] }) :: (tb' ++ (td' ++ rest))) → TabI2 tb' → TabD2 td' → (∀ p ∈ tb', ∀ q ∈ td' ++ rest, p.1 ≠ q.1) → (∀ p ∈ td', ∀ q ∈ rest, p.1 ≠ q.1) → (∀ p ∈ tb' ++ (td' ++ rest), p.1 ≠ D) → Q (.ref D) { s with heap := h', toks := tk' }) :
  wpAny (model PySem.Challenge.pw_pg0212_01 w) (ktrTop dp un gd cn cs L a ccd cl outer) (call (.ref 63) [.int x tx, .int y ty]) Q E s := by
  subst hx hy
  refine wpAny_call ?_
  k_dflt (first
  | cell_enter
  | (refine' code_def ?k1 ?k2 ?k3 ?k4 ?k5 ?kA ?kF ?kK ?k6 ?k7 ?k8 ?k9 ?kB ?_ ?c2 ?c3 ?c4 ?c5; (case kA => exact rfl); (case kF => exact rfl); (case kK => first | assumption | exact rfl); (case k1 => k_asm); (case k2 => k_asm); (case k3 => k_asm); (case k4 => k_asm); (case k5 => k_asm); (case k6 => k_is); (case k7 => k_is); (case k8 => ktr_room); (case k9 => first | exact BindsTo.of_eq rfl | exact binds_K (by k_in) rfl (by k_is) rfl rfl rfl | fail "k_enter: no rule for these arguments"); (case c5 => decide); (case kB => exact locs rfl); (case c2 => exact rfl); (case c3 => exact rfl); (case c4 => exact rfl); k_whole; intro g' L' h' FG' F' N' B' X' T'; (try dsimp only); (try k_lift B'); (try k_fold))
  | (refine' code_defC ?k1 ?k2 ?k3 ?k4 ?k5 ?kA ?kF ?kK ?k6 ?k7 ?k8 ?k9 ?kB ?kD ?_ ?c2 ?c3 ?c4; (case kA => exact rfl); (case kF => exact rfl); (case kK => first | assumption | exact rfl); (case k1 => k_asm); (case k2 => k_asm); (case k3 => k_asm); (case k4 => k_asm); (case k5 => k_asm); (case k6 => k_is); (case k7 => k_is); (case k8 => ktr_room); (case k9 => first | exact BindsTo.of_eq rfl | exact binds_K (by k_in) rfl (by k_is) rfl rfl rfl | fail "k_enter: no rule for these arguments"); (case kB => exact rfl); (case kD => decide +kernel); (case c2 => exact rfl); (case c3 => exact rfl); (case c4 => exact rfl); k_whole; intro g9 L9 h9 tk9 cells9 FG9 F9 N9 Y9 B9 X9 T9 l9; (try k_lt l9); k_cells Y9; (try simp only [List.cons_append, List.nil_append] at N9); (try dsimp only); (try k_lift B9); (try k_fold)))
  k_steps
  unfold Halt
  refine' dmp_spec (A := A) (Bn := Bn) ?B ?F ?X ?N ?T ?hk ?hd ?hu ti td2 dj1 dj2 CI CD rfl rfl hB hA2 hB2 ?ret
  (case B => k_asm)
  (case F => k_asm)
  (case X => k_asm)
  (case N => k_asm)
  (case T => k_asm)
  (case hk => exact rfl)
  (case hd => (simp only [recursionLimit] at *; omega))
  (case hu => (simp only [cLine_is] at *; omega))
  intro D t1 t2 tb1 td1 h1 tk1 F1 N1 ti1 td3 dj3 dj4 ne1
  (try dsimp only)
  k_steps
  exact ret _ _ _ _ _ _ _ (by k_asm) (by k_asm) ti1 td3 dj3 dj4 ne1
end
section
local macro_rules | `(tactic| walk_at "zzpad") => `(tactic| skip)
local macro_rules | `(tactic| walk_at "setAttr ref") => `(tactic| (k_here; k_dflt (refine' fn_setattr ?F ?N ?U ?r1 ?r2 ?r3 ?_; (case F => k_asm); (case N => k_asm); (case U => k_updF); (case r1 => rfl); (case r2 => rfl); (case r3 => rfl)); intro d' h' tk' tn' F' N' l1; (try dsimp only at N'); (try k_lt l1)))
theorem reader_spec {w : World} {mg mb : Str → Option Value} {p : Program} {loose : List Str} {mean : ExcName → Option Value} {dp un : Nat} {gd : Option (List Code)} {cn : Str} {cs : Scope} {a : Addr} {ccd : Value} {cl : List (Str × Addr)} {outer : List Env} {A₀ : Around} {base h₀ : Heap} {L : Addr} {m : Str → Option Value} {s : Shared} {Q E : Value → Shared → Prop} {S : Addr} {vs : List Value} {ep2 : Nat} {rest : List (Addr × Obj)}
  (B : Below A₀ base outer h₀) (F : Fr h₀ L s.heap m) (X : (hd1.heap_39 w.params).In h₀) (N : News h₀ L s.heap ((119, tabObj #[]) :: (S, W.listOf vs.toArray ep2) :: rest)) (T : Top p loose mean mg mb h₀) (hk : cs.kind = .function) (hd : dp + 110 < recursionLimit) (hu : un + 1000 < cLine)
  (CR : CodeHd base 123 119) (dj : ∀ p ∈ rest, p.1 ≠ 119) (dS : @Ne Nat S 119)
  (ret : ∀ x dx pb dS fS r cr cS oc oS ocv toc fd nm qu ps bd sc dc pm ct n1 n2 n3 n4 n5 n6 n7 pt h' tk', Fr h₀ L h' m → News h₀ L h' ((pb, W.listOf ([]).toArray 0) :: (x, instObj 101 dx) :: (dx, (dictOf [{ hash := PyData.keyHash w.params ("lineno" : Str), key := .str ("lineno" : Str) n1, val := .int 1 n5 }, { hash := PyData.keyHash w.params ("instream" : Str), key := .str ("instream" : Str) n2, val := .ref fS }, { hash := PyData.keyHash w.params ("whitespace" : Str), key := .str ("whitespace" : Str) n3, val := .str ("\n\t\x0d " : Str) n6 }, { hash := PyData.keyHash w.params ("pushback" : Str), key := .str ("pushback" : Str) n4, val := .ref pb }] 4)) :: (dS, dictOf [{ hash := PyData.keyHash w.params ("read" : Str), key := .str ("read" : Str) n7, val := .ref r }] 1) :: (fS, ({ cls := .type "function", dict := some dS, data := .func fd } : Obj)) :: (r, fnMade nm qu ps bd sc [(("signs" : Str), cS)] dc pm cr ct) :: (cr, oc) :: (cS, oS) :: (S, W.listOf (vs).toArray ep2) :: (119, tabObj pt) :: rest) →
    nested PySem.Challenge.pw_pg0212_01 16 0 = some (nm, ps, bd, sc) → oc.data = .fields ocv → ocv[1]? = some (.str qu toc) → oS.data = .cell (some (.ref S)) →
    @LT.lt Nat _ S cS → @LT.lt Nat _ cS cr → @LT.lt Nat _ cr r → @LT.lt Nat _ r fS → @LT.lt Nat _ fS dS → @LT.lt Nat _ dS dx → @LT.lt Nat _ dx x → @LT.lt Nat _ x pb → (∀ p ∈ rest, @LT.lt Nat _ p.1 cS) → Q (.ref x) { s with heap := h', toks := tk' }) :
  wpAny (model PySem.Challenge.pw_pg0212_01 w) (ktrTop dp un gd cn cs L a ccd cl outer) (call (.ref 124) [.ref S]) Q E s := by
  refine wpAny_call ?_
  k_dflt (first
  | cell_enter
  | (refine' code_def ?k1 ?k2 ?k3 ?k4 ?k5 ?kA ?kF ?kK ?k6 ?k7 ?k8 ?k9 ?kB ?_ ?c2 ?c3 ?c4 ?c5; (case kA => exact rfl); (case kF => exact rfl); (case kK => first | assumption | exact rfl); (case k1 => k_asm); (case k2 => k_asm); (case k3 => k_asm); (case k4 => k_asm); (case k5 => k_asm); (case k6 => k_is); (case k7 => k_is); (case k8 => ktr_room); (case k9 => first | exact BindsTo.of_eq rfl | exact binds_K (by k_in) rfl (by k_is) rfl rfl rfl | fail "k_enter: no rule for these arguments"); (case c5 => decide); (case kB => exact locs rfl); (case c2 => exact rfl); (case c3 => exact rfl); (case c4 => exact rfl); k_whole; intro g' L' h' FG' F' N' B' X' T'; (try dsimp only); (try k_lift B'); (try k_fold))
  | (refine' code_defC ?k1 ?k2 ?k3 ?k4 ?k5 ?kA ?kF ?kK ?k6 ?k7 ?k8 ?k9 ?kB ?kD ?_ ?c2 ?c3 ?c4; (case kA => exact rfl); (case kF => exact rfl); (case kK => first | assumption | exact rfl); (case k1 => k_asm); (case k2 => k_asm); (case k3 => k_asm); (case k4 => k_asm); (case k5 => k_asm); (case k6 => k_is); (case k7 => k_is); (case k8 => ktr_room); (case k9 => first | exact BindsTo.of_eq rfl | exact binds_K (by k_in) rfl (by k_is) rfl rfl rfl | fail "k_enter: no rule for these arguments"); (case kB => exact rfl); (case kD => decide +kernel); (case c2 => exact rfl); (case c3 => exact rfl); (case c4 => exact rfl); k_whole; intro g9 L9 h9 tk9 cells9 FG9 F9 N9 Y9 B9 X9 T9 l9; (try k_lt l9); k_cells Y9; (try simp only [List.cons_append, List.nil_append] at N9); (try dsimp only); (try k_lift B9); (try k_fold)))
  (rename _ ∧ _ ∧ AllLt _ _ => l9; have hr9 := allLt_to l9.2.2; have l119 := l9.1; have lS := l9.2.1)
  k_steps
  rename_i F9 N9 tk9 kF9
  refine' ret _ _ _ _ _ _ _ _ _ _ _ _ _ _ _ _ _ _ _ _ _ _ _ _ _ _ _ _ _ _ _ (by k_asm) (cb_drop (by k_asm) (List.forall_mem_cons.mpr ⟨by k_mem, List.forall_mem_cons.mpr ⟨by k_mem, List.forall_mem_cons.mpr ⟨by k_mem, List.forall_mem_cons.mpr ⟨by k_mem, List.forall_mem_cons.mpr ⟨by k_mem, List.forall_mem_cons.mpr ⟨by k_mem, List.forall_mem_cons.mpr ⟨by k_mem, List.forall_mem_cons.mpr ⟨by k_mem, List.forall_mem_cons.mpr ⟨by k_mem, List.forall_mem_cons.mpr ⟨by k_mem, fun p hp => by (repeat (first | exact hp | refine List.Mem.tail _ ?_))⟩⟩⟩⟩⟩⟩⟩⟩⟩⟩)) ?p1 ?p2 ?p3 ?p4 ?p5 ?p6 ?p7 ?p8 ?p9 ?pa ?pb ?pc ?pd
  case p1 => exact rfl
  case p2 => assumption
  case p3 => assumption
  case p4 => assumption
  case p5 => omega
  case p6 => omega
  case p7 => omega
  case p8 => omega
  case p9 => omega
  case pa => omega
  case pb => omega
  case pc => omega
  case pd => exact fun p hp => Nat.lt_succ_of_lt (hr9 p hp)
end
section
theorem push_spec {w : World} {mg mb : Str → Option Value} {p : Program} {loose : List Str} {mean : ExcName → Option Value} {dp un : Nat} {gd : Option (List Code)} {cn : Str} {cs : Scope} {a : Addr} {ccd : Value} {cl : List (Str × Addr)} {outer : List Env} {A₀ : Around} {base h₀ : Heap} {L : Addr} {m : Str → Option Value} {s : Shared} {Q E : Value → Shared → Prop} {x dx pb dS fS r cr cS S : Addr} {oc oS : Obj} {ocv : Array Value} {toc : Tok} {fd : FuncData} {nm qu : Str} {ps : Arguments} {bd : List Stmt} {sc : Scope} {dc pm ct : Value} {ln : Int} {n1 n2 n3 n4 n5 n6 n7 : Tok} {pd vs : List Value} {ep ep2 : Nat} {wsp : Str} {rest : List (Addr × Obj)} {tv : Tok} {u : Str}
  (B : Below A₀ base outer h₀) (F : Fr h₀ L s.heap m) (X : (hd1.heap_39 w.params).In h₀) (N : News h₀ L s.heap ((pb, W.listOf (pd).toArray ep) :: (x, instObj 101 dx) :: (dx, (dictOf [{ hash := PyData.keyHash w.params ("lineno" : Str), key := .str ("lineno" : Str) n1, val := .int ln n5 }, { hash := PyData.keyHash w.params ("instream" : Str), key := .str ("instream" : Str) n2, val := .ref fS }, { hash := PyData.keyHash w.params ("whitespace" : Str), key := .str ("whitespace" : Str) n3, val := .str wsp n6 }, { hash := PyData.keyHash w.params ("pushback" : Str), key := .str ("pushback" : Str) n4, val := .ref pb }] 4)) :: (dS, dictOf [{ hash := PyData.keyHash w.params ("read" : Str), key := .str ("read" : Str) n7, val := .ref r }] 1) :: (fS, ({ cls := .type "function", dict := some dS, data := .func fd } : Obj)) :: (r, fnMade nm qu ps bd sc [(("signs" : Str), cS)] dc pm cr ct) :: (cr, oc) :: (cS, oS) :: (S, W.listOf (vs).toArray ep2) :: rest)) (T : Top p loose mean mg mb h₀) (hk : cs.kind = .function) (hd : dp + 50 < recursionLimit) (hu : un + 360 < cLine)
  (hnd : nested PySem.Challenge.pw_pg0212_01 16 0 = some (nm, ps, bd, sc)) (hoc : oc.data = .fields ocv) (hoc1 : ocv[1]? = some (.str qu toc)) (hoS : oS.data = .cell (some (.ref S)))
  (o1 : @LT.lt Nat _ S cS) (o2 : @LT.lt Nat _ cS cr) (o3 : @LT.lt Nat _ cr r) (o4 : @LT.lt Nat _ r fS) (o5 : @LT.lt Nat _ fS dS) (o6 : @LT.lt Nat _ dS dx) (o7 : @LT.lt Nat _ dx x) (o8 : @LT.lt Nat _ x pb)
  (q1 : ∀ p ∈ rest, p.1 ≠ S) (q2 : ∀ p ∈ rest, p.1 ≠ dx) (q3 : ∀ p ∈ rest, p.1 ≠ pb)
  (hlen : pd.length ≤ 4000)  (ret : ∀ ep' h' tk', Fr h₀ L h' m → News h₀ L h' ((pb, W.listOf (pd ++ [Value.str u tv]).toArray ep') :: (x, instObj 101 dx) :: (dx, (dictOf [{ hash := PyData.keyHash w.params ("lineno" : Str), key := .str ("lineno" : Str) n1, val := .int ln n5 }, { hash := PyData.keyHash w.params ("instream" : Str), key := .str ("instream" : Str) n2, val := .ref fS }, { hash := PyData.keyHash w.params ("whitespace" : Str), key := .str ("whitespace" : Str) n3, val := .str wsp n6 }, { hash := PyData.keyHash w.params ("pushback" : Str), key := .str ("pushback" : Str) n4, val := .ref pb }] 4)) :: (dS, dictOf [{ hash := PyData.keyHash w.params ("read" : Str), key := .str ("read" : Str) n7, val := .ref r }] 1) :: (fS, ({ cls := .type "function", dict := some dS, data := .func fd } : Obj)) :: (r, fnMade nm qu ps bd sc [(("signs" : Str), cS)] dc pm cr ct) :: (cr, oc) :: (cS, oS) :: (S, W.listOf (vs).toArray ep2) :: rest) → Q .none { s with heap := h', toks := tk' }) :
  wpAny (model PySem.Challenge.pw_pg0212_01 w) (ktrTop dp un gd cn cs L a ccd cl outer) (call (.ref 98) [.ref x, .str u tv]) Q E s := by
  refine wpAny_call ?_
  k_dflt (first
  | cell_enter
  | (refine' code_def ?k1 ?k2 ?k3 ?k4 ?k5 ?kA ?kF ?kK ?k6 ?k7 ?k8 ?k9 ?kB ?_ ?c2 ?c3 ?c4 ?c5; (case kA => exact rfl); (case kF => exact rfl); (case kK => first | assumption | exact rfl); (case k1 => k_asm); (case k2 => k_asm); (case k3 => k_asm); (case k4 => k_asm); (case k5 => k_asm); (case k6 => k_is); (case k7 => k_is); (case k8 => ktr_room); (case k9 => first | exact BindsTo.of_eq rfl | exact binds_K (by k_in) rfl (by k_is) rfl rfl rfl | fail "k_enter: no rule for these arguments"); (case c5 => decide); (case kB => exact locs rfl); (case c2 => exact rfl); (case c3 => exact rfl); (case c4 => exact rfl); k_whole; intro g' L' h' FG' F' N' B' X' T'; (try dsimp only); (try k_lift B'); (try k_fold))
  | (refine' code_defC ?k1 ?k2 ?k3 ?k4 ?k5 ?kA ?kF ?kK ?k6 ?k7 ?k8 ?k9 ?kB ?kD ?_ ?c2 ?c3 ?c4; (case kA => exact rfl); (case kF => exact rfl); (case kK => first | assumption | exact rfl); (case k1 => k_asm); (case k2 => k_asm); (case k3 => k_asm); (case k4 => k_asm); (case k5 => k_asm); (case k6 => k_is); (case k7 => k_is); (case k8 => ktr_room); (case k9 => first | exact BindsTo.of_eq rfl | exact binds_K (by k_in) rfl (by k_is) rfl rfl rfl | fail "k_enter: no rule for these arguments"); (case kB => exact rfl); (case kD => decide +kernel); (case c2 => exact rfl); (case c3 => exact rfl); (case c4 => exact rfl); k_whole; intro g9 L9 h9 tk9 cells9 FG9 F9 N9 Y9 B9 X9 T9 l9; (try k_lt l9); k_cells Y9; (try simp only [List.cons_append, List.nil_append] at N9); (try dsimp only); (try k_lift B9); (try k_fold)))
  k_steps
  exact ret _ _ _ (by k_asm) (by rw [← List.push_toArray]; k_asm)
end
section
local macro_rules | `(tactic| walk_at "call builtin:list.pop") => `(tactic| (k_here; (with_reducible show wpAny _ _ (call (Value.builtin _) [Value.ref _, Value.int _ _]) _ _ _); k_dflt (refine' kl_popAt (k := 0) (p := []) ?F ?N ?f ?k ?e ?U ?z ?_; (case F => k_asm); (case N => k_asm); (case U => k_upd); (case f => rfl); (case k => (simp [seqIndex?] <;> omega)); (case e => rfl); (case z => (simp only [PySem.sizeLine_eq, List.length_cons] at *; omega))); intro h' F' N'; (try dsimp only [List.nil_append, List.cons_append] at N')))
theorem gtp_spec {w : World} {mg mb : Str → Option Value} {p : Program} {loose : List Str} {mean : ExcName → Option Value} {dp un : Nat} {gd : Option (List Code)} {cn : Str} {cs : Scope} {a : Addr} {ccd : Value} {cl : List (Str × Addr)} {outer : List Env} {A₀ : Around} {base h₀ : Heap} {L : Addr} {m : Str → Option Value} {s : Shared} {Q E : Value → Shared → Prop} {x dx pb dS fS r cr cS S : Addr} {oc oS : Obj} {ocv : Array Value} {toc : Tok} {fd : FuncData} {nm qu : Str} {ps : Arguments} {bd : List Stmt} {sc : Scope} {dc pm ct : Value} {ln : Int} {n1 n2 n3 n4 n5 n6 n7 : Tok} {pd vs : List Value} {ep ep2 : Nat} {wsp : Str} {rest : List (Addr × Obj)} {v0 : Value}
  (B : Below A₀ base outer h₀) (F : Fr h₀ L s.heap m) (X : (hd1.heap_39 w.params).In h₀) (N : News h₀ L s.heap ((pb, W.listOf (v0 :: pd).toArray ep) :: (x, instObj 101 dx) :: (dx, (dictOf [{ hash := PyData.keyHash w.params ("lineno" : Str), key := .str ("lineno" : Str) n1, val := .int ln n5 }, { hash := PyData.keyHash w.params ("instream" : Str), key := .str ("instream" : Str) n2, val := .ref fS }, { hash := PyData.keyHash w.params ("whitespace" : Str), key := .str ("whitespace" : Str) n3, val := .str wsp n6 }, { hash := PyData.keyHash w.params ("pushback" : Str), key := .str ("pushback" : Str) n4, val := .ref pb }] 4)) :: (dS, dictOf [{ hash := PyData.keyHash w.params ("read" : Str), key := .str ("read" : Str) n7, val := .ref r }] 1) :: (fS, ({ cls := .type "function", dict := some dS, data := .func fd } : Obj)) :: (r, fnMade nm qu ps bd sc [(("signs" : Str), cS)] dc pm cr ct) :: (cr, oc) :: (cS, oS) :: (S, W.listOf (vs).toArray ep2) :: rest)) (T : Top p loose mean mg mb h₀) (hk : cs.kind = .function) (hd : dp + 70 < recursionLimit) (hu : un + 560 < cLine)
  (hnd : nested PySem.Challenge.pw_pg0212_01 16 0 = some (nm, ps, bd, sc)) (hoc : oc.data = .fields ocv) (hoc1 : ocv[1]? = some (.str qu toc)) (hoS : oS.data = .cell (some (.ref S)))
  (o1 : @LT.lt Nat _ S cS) (o2 : @LT.lt Nat _ cS cr) (o3 : @LT.lt Nat _ cr r) (o4 : @LT.lt Nat _ r fS) (o5 : @LT.lt Nat _ fS dS) (o6 : @LT.lt Nat _ dS dx) (o7 : @LT.lt Nat _ dx x) (o8 : @LT.lt Nat _ x pb)
  (q1 : ∀ p ∈ rest, p.1 ≠ S) (q2 : ∀ p ∈ rest, p.1 ≠ dx) (q3 : ∀ p ∈ rest, p.1 ≠ pb)
  (hlen : pd.length ≤ 4000)  (ret : ∀ ep' h' tk', Fr h₀ L h' m → News h₀ L h' ((pb, W.listOf (pd).toArray ep') :: (x, instObj 101 dx) :: (dx, (dictOf [{ hash := PyData.keyHash w.params ("lineno" : Str), key := .str ("lineno" : Str) n1, val := .int ln n5 }, { hash := PyData.keyHash w.params ("instream" : Str), key := .str ("instream" : Str) n2, val := .ref fS }, { hash := PyData.keyHash w.params ("whitespace" : Str), key := .str ("whitespace" : Str) n3, val := .str wsp n6 }, { hash := PyData.keyHash w.params ("pushback" : Str), key := .str ("pushback" : Str) n4, val := .ref pb }] 4)) :: (dS, dictOf [{ hash := PyData.keyHash w.params ("read" : Str), key := .str ("read" : Str) n7, val := .ref r }] 1) :: (fS, ({ cls := .type "function", dict := some dS, data := .func fd } : Obj)) :: (r, fnMade nm qu ps bd sc [(("signs" : Str), cS)] dc pm cr ct) :: (cr, oc) :: (cS, oS) :: (S, W.listOf (vs).toArray ep2) :: rest) → Q v0 { s with heap := h', toks := tk' }) :
  wpAny (model PySem.Challenge.pw_pg0212_01 w) (ktrTop dp un gd cn cs L a ccd cl outer) (call (.ref 91) [.ref x]) Q E s := by
  refine wpAny_call ?_
  k_dflt (first
  | cell_enter
  | (refine' code_def ?k1 ?k2 ?k3 ?k4 ?k5 ?kA ?kF ?kK ?k6 ?k7 ?k8 ?k9 ?kB ?_ ?c2 ?c3 ?c4 ?c5; (case kA => exact rfl); (case kF => exact rfl); (case kK => first | assumption | exact rfl); (case k1 => k_asm); (case k2 => k_asm); (case k3 => k_asm); (case k4 => k_asm); (case k5 => k_asm); (case k6 => k_is); (case k7 => k_is); (case k8 => ktr_room); (case k9 => first | exact BindsTo.of_eq rfl | exact binds_K (by k_in) rfl (by k_is) rfl rfl rfl | fail "k_enter: no rule for these arguments"); (case c5 => decide); (case kB => exact locs rfl); (case c2 => exact rfl); (case c3 => exact rfl); (case c4 => exact rfl); k_whole; intro g' L' h' FG' F' N' B' X' T'; (try dsimp only); (try k_lift B'); (try k_fold))
  | (refine' code_defC ?k1 ?k2 ?k3 ?k4 ?k5 ?kA ?kF ?kK ?k6 ?k7 ?k8 ?k9 ?kB ?kD ?_ ?c2 ?c3 ?c4; (case kA => exact rfl); (case kF => exact rfl); (case kK => first | assumption | exact rfl); (case k1 => k_asm); (case k2 => k_asm); (case k3 => k_asm); (case k4 => k_asm); (case k5 => k_asm); (case k6 => k_is); (case k7 => k_is); (case k8 => ktr_room); (case k9 => first | exact BindsTo.of_eq rfl | exact binds_K (by k_in) rfl (by k_is) rfl rfl rfl | fail "k_enter: no rule for these arguments"); (case kB => exact rfl); (case kD => decide +kernel); (case c2 => exact rfl); (case c3 => exact rfl); (case c4 => exact rfl); k_whole; intro g9 L9 h9 tk9 cells9 FG9 F9 N9 Y9 B9 X9 T9 l9; (try k_lt l9); k_cells Y9; (try simp only [List.cons_append, List.nil_append] at N9); (try dsimp only); (try k_lift B9); (try k_fold)))
  k_steps
  exact ret _ _ _ (by k_asm) (by k_asm)
end
section
theorem fn_of {K : Frag} {h₀ : Heap} (X : K.In h₀) {f : Addr} {oc : Value} {od : Option Addr} {fd : FuncData} {sl : Array (Option Value)} (h : K.lookup f = some ⟨oc, od, .func fd, sl⟩) : ∃ fo, h₀.get? f = some fo ∧ ∃ fd, fo.data = .func fd := ⟨_, X _ _ h, _, rfl⟩
theorem next_spec {w : World} {mg mb : Str → Option Value} {p : Program} {loose : List Str} {mean : ExcName → Option Value} {dp un : Nat} {gd : Option (List Code)} {cn : Str} {cs : Scope} {a : Addr} {ccd : Value} {cl : List (Str × Addr)} {outer : List Env} {A₀ : Around} {base h₀ : Heap} {L : Addr} {m : Str → Option Value} {s : Shared} {Q : Option Value → Shared → Prop} {E : Value → Shared → Prop} {x dx pb dS fS r cr cS S : Addr} {oc oS : Obj} {ocv : Array Value} {toc : Tok} {fd : FuncData} {nm qu : Str} {ps : Arguments} {bd : List Stmt} {sc : Scope} {dc pm ct : Value} {ln : Int} {n1 n2 n3 n4 n5 n6 n7 : Tok} {pd vs : List Value} {ep ep2 : Nat} {wsp : Str} {rest : List (Addr × Obj)} {I q : Addr} {tq : Tok} {ws : List Str}
  (B : Below A₀ base outer h₀) (F : Fr h₀ L s.heap m) (X : (hd1.heap_39 w.params).In h₀) (N : News h₀ L s.heap ((I, ciObj q tq) :: (q, methodObj (.ref 84) (.ref x)) :: (pb, W.listOf ([]).toArray ep) :: (x, instObj 101 dx) :: (dx, (dictOf [{ hash := PyData.keyHash w.params ("lineno" : Str), key := .str ("lineno" : Str) n1, val := .int ln n5 }, { hash := PyData.keyHash w.params ("instream" : Str), key := .str ("instream" : Str) n2, val := .ref fS }, { hash := PyData.keyHash w.params ("whitespace" : Str), key := .str ("whitespace" : Str) n3, val := .str wsp n6 }, { hash := PyData.keyHash w.params ("pushback" : Str), key := .str ("pushback" : Str) n4, val := .ref pb }] 4)) :: (dS, dictOf [{ hash := PyData.keyHash w.params ("read" : Str), key := .str ("read" : Str) n7, val := .ref r }] 1) :: (fS, ({ cls := .type "function", dict := some dS, data := .func fd } : Obj)) :: (r, fnMade nm qu ps bd sc [(("signs" : Str), cS)] dc pm cr ct) :: (cr, oc) :: (cS, oS) :: (S, W.listOf (vs).toArray ep2) :: rest)) (T : Top p loose mean mg mb h₀) (hk : cs.kind = .function) (hd : dp + 60 < recursionLimit) (hu : un + 440 < cLine)
  (hnd : nested PySem.Challenge.pw_pg0212_01 16 0 = some (nm, ps, bd, sc)) (hoc : oc.data = .fields ocv) (hoc1 : ocv[1]? = some (.str qu toc)) (hoS : oS.data = .cell (some (.ref S)))
  (o1 : @LT.lt Nat _ S cS) (o2 : @LT.lt Nat _ cS cr) (o3 : @LT.lt Nat _ cr r) (o4 : @LT.lt Nat _ r fS) (o5 : @LT.lt Nat _ fS dS) (o6 : @LT.lt Nat _ dS dx) (o7 : @LT.lt Nat _ dx x) (o8 : @LT.lt Nat _ x pb)
  (q1 : ∀ p ∈ rest, p.1 ≠ S) (q2 : ∀ p ∈ rest, p.1 ≠ dx) (q3 : ∀ p ∈ rest, p.1 ≠ pb)
  (o9 : @LT.lt Nat _ pb q) (oA : @LT.lt Nat _ q I) (q4 : ∀ p ∈ rest, p.1 ≠ I)
  (hsg : SgA vs ws) (hlen : vs.length ≤ 4000) (hne : ∀ c ∈ ws, c ≠ ("" : Str))
  (item : ∀ c wr vs' ln' n5' ep' h' tk' tr, ws = c :: wr → Fr h₀ L h' m → News h₀ L h' ((I, ciObj q tq) :: (q, methodObj (.ref 84) (.ref x)) :: (pb, W.listOf ([]).toArray ep) :: (x, instObj 101 dx) :: (dx, (dictOf [{ hash := PyData.keyHash w.params ("lineno" : Str), key := .str ("lineno" : Str) n1, val := .int ln' n5' }, { hash := PyData.keyHash w.params ("instream" : Str), key := .str ("instream" : Str) n2, val := .ref fS }, { hash := PyData.keyHash w.params ("whitespace" : Str), key := .str ("whitespace" : Str) n3, val := .str wsp n6 }, { hash := PyData.keyHash w.params ("pushback" : Str), key := .str ("pushback" : Str) n4, val := .ref pb }] 4)) :: (dS, dictOf [{ hash := PyData.keyHash w.params ("read" : Str), key := .str ("read" : Str) n7, val := .ref r }] 1) :: (fS, ({ cls := .type "function", dict := some dS, data := .func fd } : Obj)) :: (r, fnMade nm qu ps bd sc [(("signs" : Str), cS)] dc pm cr ct) :: (cr, oc) :: (cS, oS) :: (S, W.listOf (vs').toArray ep') :: rest) → SgA vs' wr → Q (some (.str c tr)) { s with heap := h', toks := tk' })
  (done : ∀ vs' ln' n5' ep' h' tk', ws = [] → Fr h₀ L h' m → News h₀ L h' ((I, ciEnded) :: (q, methodObj (.ref 84) (.ref x)) :: (pb, W.listOf ([]).toArray ep) :: (x, instObj 101 dx) :: (dx, (dictOf [{ hash := PyData.keyHash w.params ("lineno" : Str), key := .str ("lineno" : Str) n1, val := .int ln' n5' }, { hash := PyData.keyHash w.params ("instream" : Str), key := .str ("instream" : Str) n2, val := .ref fS }, { hash := PyData.keyHash w.params ("whitespace" : Str), key := .str ("whitespace" : Str) n3, val := .str wsp n6 }, { hash := PyData.keyHash w.params ("pushback" : Str), key := .str ("pushback" : Str) n4, val := .ref pb }] 4)) :: (dS, dictOf [{ hash := PyData.keyHash w.params ("read" : Str), key := .str ("read" : Str) n7, val := .ref r }] 1) :: (fS, ({ cls := .type "function", dict := some dS, data := .func fd } : Obj)) :: (r, fnMade nm qu ps bd sc [(("signs" : Str), cS)] dc pm cr ct) :: (cr, oc) :: (cS, oS) :: (S, W.listOf (vs').toArray ep') :: rest) → SgA vs' [] → Q none { s with heap := h', toks := tk' }) :
  wpAny (model PySem.Challenge.pw_pg0212_01 w) (ktrTop dp un gd cn cs L a ccd cl outer) (pyNext (.ref I)) Q E s := by
  obtain ⟨fo, h84, fd9, e84⟩ := fn_of X (f := 84) (by k_is)
  have hI := (N _ (List.mem_cons_self ..)).1
  have hq := (N _ (List.mem_cons_of_mem _ (List.mem_cons_self ..))).1
  have nI := (N _ (List.mem_cons_self ..)).2
  refine ci_next rfl hI hq (F.keep _ _ h84) e84 ?_
  refine' rc_code (dp := dp) (un := un + 1) (rest := (I, ciObj q tq) :: (q, methodObj (.ref 84) (.ref x)) :: rest) (ws := ws) (pd := []) B F X ?N T hk ?hd ?hu hnd hoc hoc1 hoS o1 o2 o3 o4 o5 o6 o7 o8 ?q1 ?q2 ?q3 hsg hlen ?ret
  case N => exact cb_drop N (List.forall_mem_cons.mpr ⟨by k_mem, List.forall_mem_cons.mpr ⟨by k_mem, List.forall_mem_cons.mpr ⟨by k_mem, List.forall_mem_cons.mpr ⟨by k_mem, List.forall_mem_cons.mpr ⟨by k_mem, List.forall_mem_cons.mpr ⟨by k_mem, List.forall_mem_cons.mpr ⟨by k_mem, List.forall_mem_cons.mpr ⟨by k_mem, List.forall_mem_cons.mpr ⟨by k_mem, List.forall_mem_cons.mpr ⟨by k_mem, List.forall_mem_cons.mpr ⟨by k_mem, fun p hp => by (repeat (first | exact hp | refine List.Mem.tail _ ?_))⟩⟩⟩⟩⟩⟩⟩⟩⟩⟩⟩)
  case hd => omega
  case hu => omega
  case q1 => exact List.forall_mem_cons.mpr ⟨by refine neN ?_; dsimp only; omega, List.forall_mem_cons.mpr ⟨by refine neN ?_; dsimp only; omega, q1⟩⟩
  case q2 => exact List.forall_mem_cons.mpr ⟨by refine neN ?_; dsimp only; omega, List.forall_mem_cons.mpr ⟨by refine neN ?_; dsimp only; omega, q2⟩⟩
  case q3 => exact List.forall_mem_cons.mpr ⟨by refine neN ?_; dsimp only; omega, List.forall_mem_cons.mpr ⟨by refine neN ?_; dsimp only; omega, q3⟩⟩
  intro vs' ln' n5' ep' h' tk' tr F' N' sg'
  refine ⟨_, tr, rfl, (N' (I, ciObj q tq) (by k_mem)).1, (N' (q, methodObj (.ref 84) (.ref x)) (by k_mem)).1, F'.keep _ _ h84, fun hc => ?_, fun hc h2 g2 x2 => ?_⟩
  · cases ws with
    | nil => cases hc
    | cons c wr =>
      exact item c wr _ _ _ _ _ _ _ rfl F' (cb_drop N' (List.forall_mem_cons.mpr ⟨by k_mem, List.forall_mem_cons.mpr ⟨by k_mem, List.forall_mem_cons.mpr ⟨by k_mem, List.forall_mem_cons.mpr ⟨by k_mem, List.forall_mem_cons.mpr ⟨by k_mem, List.forall_mem_cons.mpr ⟨by k_mem, List.forall_mem_cons.mpr ⟨by k_mem, List.forall_mem_cons.mpr ⟨by k_mem, List.forall_mem_cons.mpr ⟨by k_mem, List.forall_mem_cons.mpr ⟨by k_mem, List.forall_mem_cons.mpr ⟨by k_mem, fun p hp => by (repeat (first | exact hp | refine List.Mem.tail _ ?_))⟩⟩⟩⟩⟩⟩⟩⟩⟩⟩⟩)) sg'
  · cases ws with
    | cons c wr => exact absurd (eq_of_beq hc) (hne c (List.mem_cons_self ..))
    | nil =>
      have N2 := cb_drop (news := (q, methodObj (.ref 84) (.ref x)) :: ((pb, W.listOf ([]).toArray ep) :: (x, instObj 101 dx) :: (dx, (dictOf [{ hash := PyData.keyHash w.params ("lineno" : Str), key := .str ("lineno" : Str) n1, val := .int ln' n5' }, { hash := PyData.keyHash w.params ("instream" : Str), key := .str ("instream" : Str) n2, val := .ref fS }, { hash := PyData.keyHash w.params ("whitespace" : Str), key := .str ("whitespace" : Str) n3, val := .str wsp n6 }, { hash := PyData.keyHash w.params ("pushback" : Str), key := .str ("pushback" : Str) n4, val := .ref pb }] 4)) :: (dS, dictOf [{ hash := PyData.keyHash w.params ("read" : Str), key := .str ("read" : Str) n7, val := .ref r }] 1) :: (fS, ({ cls := .type "function", dict := some dS, data := .func fd } : Obj)) :: (r, fnMade nm qu ps bd sc [(("signs" : Str), cS)] dc pm cr ct) :: (cr, oc) :: (cS, oS) :: (S, W.listOf (vs').toArray ep') :: rest)) N' (List.forall_mem_cons.mpr ⟨by k_mem, List.forall_mem_cons.mpr ⟨by k_mem, List.forall_mem_cons.mpr ⟨by k_mem, List.forall_mem_cons.mpr ⟨by k_mem, List.forall_mem_cons.mpr ⟨by k_mem, List.forall_mem_cons.mpr ⟨by k_mem, List.forall_mem_cons.mpr ⟨by k_mem, List.forall_mem_cons.mpr ⟨by k_mem, List.forall_mem_cons.mpr ⟨by k_mem, List.forall_mem_cons.mpr ⟨by k_mem, fun p hp => by (repeat (first | exact hp | refine List.Mem.tail _ ?_))⟩⟩⟩⟩⟩⟩⟩⟩⟩⟩)
      refine done _ _ _ _ _ _ rfl (fr_extBut F' x2 (Ne.symm nI.1) nI.2) (List.forall_mem_cons.mpr ⟨⟨g2, nI⟩, news_extBut N2 x2 ?_⟩) sg'
      exact List.forall_mem_cons.mpr ⟨by refine neN ?_; dsimp only; omega, List.forall_mem_cons.mpr ⟨by refine neN ?_; dsimp only; omega, List.forall_mem_cons.mpr ⟨by refine neN ?_; dsimp only; omega, List.forall_mem_cons.mpr ⟨by refine neN ?_; dsimp only; omega, List.forall_mem_cons.mpr ⟨by refine neN ?_; dsimp only; omega, List.forall_mem_cons.mpr ⟨by refine neN ?_; dsimp only; omega, List.forall_mem_cons.mpr ⟨by refine neN ?_; dsimp only; omega, List.forall_mem_cons.mpr ⟨by refine neN ?_; dsimp only; omega, List.forall_mem_cons.mpr ⟨by refine neN ?_; dsimp only; omega, List.forall_mem_cons.mpr ⟨by refine neN ?_; dsimp only; omega, q4⟩⟩⟩⟩⟩⟩⟩⟩⟩⟩
end
section
local macro_rules | `(tactic| walk_at "call builtin:iter") => `(tactic| (k_here; (with_reducible show wpAny _ _ (call (Value.builtin "iter") [Value.ref _, Value.str _ _]) _ _ _); k_dflt (refine' ci_make ?F ?N ?q ?_; (case F => k_asm); (case N => k_asm); (case q => k_mem)); intro I' h' F' N' l1; (try k_lt l1)))
local macro_rules | `(tactic| walk_at "exec For Name Name cons nil") => `(tactic| refine Halt.of ?_)
local macro_rules | `(tactic| walk_at "call ref") => `(tactic| with_reducible refine haltC ?_)
theorem fits4000 {n : Nat} (h : n ≤ 4000) : n ≤ sizeLine := Nat.le_trans h (by rw [PySem.sizeLine_eq]; decide)
local macro_rules | `(tactic| walk_at "inplaceOp Add str str") => `(tactic| (k_here; (with_reducible show wpAny _ _ (inplaceOp _ (Value.str _ _) (Value.str _ _)) _ _ _); k_dflt (refine' PyProof.Rows.iadd_str ?_ ?z; (case z => exact fits4000 (by assumption))); intro t' tk'))
/-- a sign of the whitespace, as the model asks it -/
def inWs (wsp c : Str) : Bool := !(Builtin.Str.occurrences wsp c 0 wsp.length 1).isEmpty
/-- what is read within quotes: the token and the signs left -/
def gQ : List Str → Str → Str × List Str
  | [], t => (t, [])
  | c :: r, t => if (c == Str.ofString "\"") = true then (t, r) else if (c == Str.ofString "\\") = true then gQ r.tail (t ++ r.headD ("" : Str)) else gQ r (t ++ c)
termination_by l => l.length
decreasing_by
  · simp only [List.length_tail, List.length_cons]; omega
  · simp only [List.length_cons]; omega
theorem gQ_nil (t : Str) : gQ [] t = (t, []) := by rw [gQ]
theorem gQ_cons (c : Str) (r : List Str) (t : Str) : gQ (c :: r) t = if (c == Str.ofString "\"") = true then (t, r) else if (c == Str.ofString "\\") = true then gQ r.tail (t ++ r.headD ("" : Str)) else gQ r (t ++ c) := by rw [gQ]
/-- the rest of a bare word -/
def gW (wsp : Str) : List Str → Str → Str × List Str
  | [], t => (t, [])
  | c :: r, t => if inWs wsp c = true then (t, r) else if (c == Str.ofString "\\") = true then gW wsp r.tail (t ++ r.headD ("" : Str)) else gW wsp r (t ++ c)
termination_by l => l.length
decreasing_by
  · simp only [List.length_tail, List.length_cons]; omega
  · simp only [List.length_cons]; omega
theorem gW_nil (wsp t : Str) : gW wsp [] t = (t, []) := by rw [gW]
theorem gW_cons (wsp c : Str) (r : List Str) (t : Str) : gW wsp (c :: r) t = if inWs wsp c = true then (t, r) else if (c == Str.ofString "\\") = true then gW wsp r.tail (t ++ r.headD ("" : Str)) else gW wsp r (t ++ c) := by rw [gW]
/-- a token -/
def gO (wsp : Str) : List Str → Str → Str × List Str
  | [], t => (t, [])
  | c :: r, t => if inWs wsp c = true then gO wsp r t else if (c == Str.ofString "\"") = true then gQ r t else if (c == Str.ofString "\\") = true then gW wsp r.tail (t ++ r.headD ("" : Str)) else gW wsp r (t ++ c)
theorem inWs_t {wsp c : Str} (h : (Builtin.Str.occurrences wsp c 0 wsp.length 1).isEmpty = false) : inWs wsp c = true := by unfold inWs; rw [h]; rfl
theorem inWs_f {wsp c : Str} (h : (Builtin.Str.occurrences wsp c 0 wsp.length 1).isEmpty = true) : ¬ (inWs wsp c = true) := by unfold inWs; rw [h]; exact Bool.false_ne_true
theorem fr_str {h₀ h : Heap} {L : Addr} {m : Str → Option Value} {x : Str} {i : Str} (_ : Fr h₀ L h m) (e : ∃ t, m x = some (.str i t)) : ∃ t, m x = some (.str i t) := e
structure GtSt where
  live : Bool
  o : Obj
  vs : List Value
  ws : List Str
  ln : Int
  n5 : Tok
  ep : Nat
  tok : Str
  tt : Tok
theorem head_one {ws : List Str} (h : ∀ z ∈ ws, z.length = 1) : (ws.headD ("" : Str)).length ≤ 1 := by
  cases ws with
  | nil => exact Nat.zero_le _
  | cons c r => exact Nat.le_of_eq (h c (List.mem_cons_self ..))
theorem tail_all {P : Str → Prop} {ws : List Str} (h : ∀ z ∈ ws, P z) : ∀ z ∈ ws.tail, P z := fun z hz => h z (List.mem_of_mem_tail hz)
theorem len_head (ws : List Str) (h : ∀ z ∈ ws, z.length = 1) : (ws.headD ("" : Str)).length + ws.tail.length ≤ ws.length := by
  cases ws with
  | nil => exact Nat.le_refl _
  | cons c r => rw [List.headD_cons, List.tail_cons, List.length_cons, h c (List.mem_cons_self ..)]; omega
theorem News.here_ {h₀ h : Heap} {L : Addr} {p : Addr × Obj} {nx : List (Addr × Obj)} (N : News h₀ L h (p :: nx)) : h.get? p.1 = some p.2 ∧ p.1 ≠ L ∧ h₀.get? p.1 = none := N _ (List.mem_cons_self ..)
theorem gt_spec {w : World} {mg mb : Str → Option Value} {p : Program} {loose : List Str} {mean : ExcName → Option Value} {dp un : Nat} {gd : Option (List Code)} {cn : Str} {cs : Scope} {a : Addr} {ccd : Value} {cl : List (Str × Addr)} {outer : List Env} {A₀ : Around} {base h₀ : Heap} {L : Addr} {m : Str → Option Value} {s : Shared} {Q E : Value → Shared → Prop} {x dx pb dS fS r cr cS S : Addr} {oc oS : Obj} {ocv : Array Value} {toc : Tok} {fd : FuncData} {nm qu : Str} {ps : Arguments} {bd : List Stmt} {sc : Scope} {dc pm ct : Value} {ln : Int} {n1 n2 n3 n4 n5 n6 n7 : Tok} {pd vs : List Value} {ep ep2 : Nat} {wsp : Str} {rest : List (Addr × Obj)} {ws : List Str}
  (B : Below A₀ base outer h₀) (F : Fr h₀ L s.heap m) (X : (hd1.heap_39 w.params).In h₀) (N : News h₀ L s.heap ((pb, W.listOf ([]).toArray ep) :: (x, instObj 101 dx) :: (dx, (dictOf [{ hash := PyData.keyHash w.params ("lineno" : Str), key := .str ("lineno" : Str) n1, val := .int ln n5 }, { hash := PyData.keyHash w.params ("instream" : Str), key := .str ("instream" : Str) n2, val := .ref fS }, { hash := PyData.keyHash w.params ("whitespace" : Str), key := .str ("whitespace" : Str) n3, val := .str wsp n6 }, { hash := PyData.keyHash w.params ("pushback" : Str), key := .str ("pushback" : Str) n4, val := .ref pb }] 4)) :: (dS, dictOf [{ hash := PyData.keyHash w.params ("read" : Str), key := .str ("read" : Str) n7, val := .ref r }] 1) :: (fS, ({ cls := .type "function", dict := some dS, data := .func fd } : Obj)) :: (r, fnMade nm qu ps bd sc [(("signs" : Str), cS)] dc pm cr ct) :: (cr, oc) :: (cS, oS) :: (S, W.listOf (vs).toArray ep2) :: rest)) (T : Top p loose mean mg mb h₀) (hk : cs.kind = .function) (hd : dp + 80 < recursionLimit) (hu : un + 700 < cLine)
  (hnd : nested PySem.Challenge.pw_pg0212_01 16 0 = some (nm, ps, bd, sc)) (hoc : oc.data = .fields ocv) (hoc1 : ocv[1]? = some (.str qu toc)) (hoS : oS.data = .cell (some (.ref S)))
  (o1 : @LT.lt Nat _ S cS) (o2 : @LT.lt Nat _ cS cr) (o3 : @LT.lt Nat _ cr r) (o4 : @LT.lt Nat _ r fS) (o5 : @LT.lt Nat _ fS dS) (o6 : @LT.lt Nat _ dS dx) (o7 : @LT.lt Nat _ dx x) (o8 : @LT.lt Nat _ x pb)
  (q1 : ∀ p ∈ rest, p.1 ≠ S) (q2 : ∀ p ∈ rest, p.1 ≠ dx) (q3 : ∀ p ∈ rest, p.1 ≠ pb)
  (hsg : SgA vs ws) (hone : ∀ c ∈ ws, c.length = 1) (hlen : ws.length ≤ 4000) (ret : ∀ vs' ln' n5' ep' h' tk' tr, Fr h₀ L h' m → News h₀ L h' ((pb, W.listOf ([]).toArray ep) :: (x, instObj 101 dx) :: (dx, (dictOf [{ hash := PyData.keyHash w.params ("lineno" : Str), key := .str ("lineno" : Str) n1, val := .int ln' n5' }, { hash := PyData.keyHash w.params ("instream" : Str), key := .str ("instream" : Str) n2, val := .ref fS }, { hash := PyData.keyHash w.params ("whitespace" : Str), key := .str ("whitespace" : Str) n3, val := .str wsp n6 }, { hash := PyData.keyHash w.params ("pushback" : Str), key := .str ("pushback" : Str) n4, val := .ref pb }] 4)) :: (dS, dictOf [{ hash := PyData.keyHash w.params ("read" : Str), key := .str ("read" : Str) n7, val := .ref r }] 1) :: (fS, ({ cls := .type "function", dict := some dS, data := .func fd } : Obj)) :: (r, fnMade nm qu ps bd sc [(("signs" : Str), cS)] dc pm cr ct) :: (cr, oc) :: (cS, oS) :: (S, W.listOf (vs').toArray ep') :: rest) → SgA vs' (gO wsp ws ("" : Str)).2 → Q (.str (gO wsp ws ("" : Str)).1 tr) { s with heap := h', toks := tk' }) :
  wpAny (model PySem.Challenge.pw_pg0212_01 w) (ktrTop dp un gd cn cs L a ccd cl outer) (call (.ref 91) [.ref x]) Q E s := by
  refine wpAny_call ?_
  k_dflt (first
  | cell_enter
  | (refine' code_def ?k1 ?k2 ?k3 ?k4 ?k5 ?kA ?kF ?kK ?k6 ?k7 ?k8 ?k9 ?kB ?_ ?c2 ?c3 ?c4 ?c5; (case kA => exact rfl); (case kF => exact rfl); (case kK => first | assumption | exact rfl); (case k1 => k_asm); (case k2 => k_asm); (case k3 => k_asm); (case k4 => k_asm); (case k5 => k_asm); (case k6 => k_is); (case k7 => k_is); (case k8 => ktr_room); (case k9 => first | exact BindsTo.of_eq rfl | exact binds_K (by k_in) rfl (by k_is) rfl rfl rfl | fail "k_enter: no rule for these arguments"); (case c5 => decide); (case kB => exact locs rfl); (case c2 => exact rfl); (case c3 => exact rfl); (case c4 => exact rfl); k_whole; intro g' L' h' FG' F' N' B' X' T'; (try dsimp only); (try k_lift B'); (try k_fold))
  | (refine' code_defC ?k1 ?k2 ?k3 ?k4 ?k5 ?kA ?kF ?kK ?k6 ?k7 ?k8 ?k9 ?kB ?kD ?_ ?c2 ?c3 ?c4; (case kA => exact rfl); (case kF => exact rfl); (case kK => first | assumption | exact rfl); (case k1 => k_asm); (case k2 => k_asm); (case k3 => k_asm); (case k4 => k_asm); (case k5 => k_asm); (case k6 => k_is); (case k7 => k_is); (case k8 => ktr_room); (case k9 => first | exact BindsTo.of_eq rfl | exact binds_K (by k_in) rfl (by k_is) rfl rfl rfl | fail "k_enter: no rule for these arguments"); (case kB => exact rfl); (case kD => decide +kernel); (case c2 => exact rfl); (case c3 => exact rfl); (case c4 => exact rfl); k_whole; intro g9 L9 h9 tk9 cells9 FG9 F9 N9 Y9 B9 X9 T9 l9; (try k_lt l9); k_cells Y9; (try simp only [List.cons_append, List.nil_append] at N9); (try dsimp only); (try k_lift B9); (try k_fold)))
  k_steps
  unfold Halt
  refine wpAny_For ?_
  k_steps
  rename_i g9 L9 h9 FG B9 X9 T9 h8 q h1 _ lq I h2 _ lI h3 F2 N2
  obtain ⟨tq, N3⟩ : ∃ tq, News _ _ _ ((I, ciObj q tq) :: _) := ⟨_, N2⟩
  clear N2
  refine ci_iter ⟨_, (N3 _ (by k_mem)).1, rfl⟩ ?_
  (try dsimp only)
  have ht0 := fr_str (x := ("token" : Str)) (i := ("" : Str)) F2 ⟨_, rfl⟩
  obtain ⟨tt, htt⟩ := ht0
  refine' forI (L := _) (fun c : GtSt => ((I, c.o) :: (q, methodObj (.ref 84) (.ref x)) :: (pb, W.listOf ([]).toArray ep) :: (x, instObj 101 dx) :: (dx, (dictOf [{ hash := PyData.keyHash w.params ("lineno" : Str), key := .str ("lineno" : Str) n1, val := .int c.ln c.n5 }, { hash := PyData.keyHash w.params ("instream" : Str), key := .str ("instream" : Str) n2, val := .ref fS }, { hash := PyData.keyHash w.params ("whitespace" : Str), key := .str ("whitespace" : Str) n3, val := .str wsp n6 }, { hash := PyData.keyHash w.params ("pushback" : Str), key := .str ("pushback" : Str) n4, val := .ref pb }] 4)) :: (dS, dictOf [{ hash := PyData.keyHash w.params ("read" : Str), key := .str ("read" : Str) n7, val := .ref r }] 1) :: (fS, ({ cls := .type "function", dict := some dS, data := .func fd } : Obj)) :: (r, fnMade nm qu ps bd sc [(("signs" : Str), cS)] dc pm cr ct) :: (cr, oc) :: (cS, oS) :: (S, W.listOf (c.vs).toArray c.ep) :: rest)) (fun c => [("token", .str c.tok c.tt)]) ["ch"]
    (fun c => SgA c.vs c.ws ∧ (∀ z ∈ c.ws, z.length = 1) ∧ c.tok.length + c.ws.length ≤ 4000 ∧ ((c.live = true ∧ c.o = ciObj q tq ∧ gO wsp c.ws c.tok = gO wsp ws ("" : Str)) ∨ (c.live = false ∧ c.o = ciEnded ∧ gO wsp ws ("" : Str) = (c.tok, c.ws))))
    (fun c => if c.live then c.ws.length + 1 else 0) ⟨true, ciObj q tq, vs, ws, ln, n5, ep2, ("" : Str), tt⟩ ?F9 ?N9 ?hk9 ?hr9 ?hp9 ?turn9
  (case F9 => exact F2)
  (case N9 => exact N3)
  (case hk9 => exact List.forall_mem_cons.mpr ⟨htt, fun _ h => nomatch h⟩)
  (case hr9 => exact fun z _ _ => rfl)
  (case hp9 => exact ⟨hsg, hone, by dsimp only; rw [show (("" : Str).length) = 0 from rfl]; omega, .inl ⟨rfl, rfl, rfl⟩⟩)
  intro c u h4 tk4 P4 F4 N4
  obtain ⟨sg4, on4, ln4, li4⟩ := P4
  rcases li4 with ⟨lv, eo, er⟩ | ⟨lv, eo, er⟩
  · rw [eo] at N4
    refine' next_spec (pd := []) (ws := c.ws) ?B ?F ?X ?N ?T ?hk ?hd ?hu hnd hoc hoc1 hoS o1 o2 o3 o4 o5 o6 o7 o8 q1 q2 q3 ?o9 ?oA ?q4 sg4 ?hl ?hne ?item ?done
    (case B => k_asm)
    (case F => k_asm)
    (case X => k_asm)
    (case N => k_asm)
    (case T => k_asm)
    (case hk => rfl)
    (case hd => simp only [recursionLimit] at *; omega)
    (case hu => simp only [cLine_is] at *; omega)
    (case o9 => omega)
    (case oA => omega)
    (case q4 => exact fun p hp => Nat.ne_of_lt (allLt_to lI.2.2.2.2.2.2.2.2.2.2 p hp))
    (case hl => rw [sg4.length]; omega)
    (case hne => intro z hz e; have := on4 z hz; rw [e] at this; cases this)
    case item =>
      intro z wr vs5 ln5 n55 ep5 h5 tk5 tr5 ew F5 N5 sg5
      have on5 : ∀ y ∈ wr, y.length = 1 := fun y hy => on4 y (by rw [ew]; exact List.mem_cons_of_mem _ hy)
      have z1 : z.length = 1 := on4 z (by rw [ew]; exact List.mem_cons_self ..)
      have zl : c.ws.length = wr.length + 1 := by rw [ew, List.length_cons]
      have tz : c.tok.length + z.length ≤ 4000 := by omega
      have hh5 := head_one on5
      have hl5 := len_head wr on5
      have tzh : c.tok.length + (wr.headD ("" : Str)).length ≤ 4000 := by omega
      rw [ew, gO] at er
      k_steps
      · (rename (Builtin.Str.occurrences _ _ _ _ _).isEmpty = _ => a1)
        (rename (_ == Str.ofString "\"") = _ => a2)
        rw [if_neg (inWs_f a1), if_pos a2] at er
        unfold Halt
        refine wpAny_For ?_
        k_steps
        (rename Fr _ _ _ _ => F6)
        (rename News _ _ _ _ => N6)
        refine ci_iter ⟨_, (N6 (I, ciObj q tq) (by k_mem)).1, rfl⟩ ?_
        (try dsimp only)
        obtain ⟨tt6, htt6⟩ := fr_str (x := ("token" : Str)) F6 ⟨_, rfl⟩
        refine' forI (L := _) (fun c : GtSt => ((I, ciObj q tq) :: (q, methodObj (.ref 84) (.ref x)) :: (pb, W.listOf ([]).toArray ep) :: (x, instObj 101 dx) :: (dx, (dictOf [{ hash := PyData.keyHash w.params ("lineno" : Str), key := .str ("lineno" : Str) n1, val := .int c.ln c.n5 }, { hash := PyData.keyHash w.params ("instream" : Str), key := .str ("instream" : Str) n2, val := .ref fS }, { hash := PyData.keyHash w.params ("whitespace" : Str), key := .str ("whitespace" : Str) n3, val := .str wsp n6 }, { hash := PyData.keyHash w.params ("pushback" : Str), key := .str ("pushback" : Str) n4, val := .ref pb }] 4)) :: (dS, dictOf [{ hash := PyData.keyHash w.params ("read" : Str), key := .str ("read" : Str) n7, val := .ref r }] 1) :: (fS, ({ cls := .type "function", dict := some dS, data := .func fd } : Obj)) :: (r, fnMade nm qu ps bd sc [(("signs" : Str), cS)] dc pm cr ct) :: (cr, oc) :: (cS, oS) :: (S, W.listOf (c.vs).toArray c.ep) :: rest)) (fun c => [("token", .str c.tok c.tt)]) ["ch"]
          (fun c => SgA c.vs c.ws ∧ (∀ z ∈ c.ws, z.length = 1) ∧ c.tok.length + c.ws.length ≤ 4000 ∧ gQ c.ws c.tok = gO wsp ws ("" : Str))
          (fun c => c.ws.length) ⟨true, ciObj q tq, vs5, wr, ln5, n55, ep5, c.tok, tt6⟩ ?F9_i1 ?N9_i1 ?hk9_i1 ?hr9_i1 ?hp9_i1 ?turn9_i1
        (case F9_i1 => exact F6)
        (case N9_i1 => exact cb_drop N6 (List.forall_mem_cons.mpr ⟨by k_mem, List.forall_mem_cons.mpr ⟨by k_mem, List.forall_mem_cons.mpr ⟨by k_mem, List.forall_mem_cons.mpr ⟨by k_mem, List.forall_mem_cons.mpr ⟨by k_mem, List.forall_mem_cons.mpr ⟨by k_mem, List.forall_mem_cons.mpr ⟨by k_mem, List.forall_mem_cons.mpr ⟨by k_mem, List.forall_mem_cons.mpr ⟨by k_mem, List.forall_mem_cons.mpr ⟨by k_mem, List.forall_mem_cons.mpr ⟨by k_mem, fun p hp => by (repeat (first | exact hp | refine List.Mem.tail _ ?_))⟩⟩⟩⟩⟩⟩⟩⟩⟩⟩⟩))
        (case hk9_i1 => exact List.forall_mem_cons.mpr ⟨htt6, fun _ h => nomatch h⟩)
        (case hr9_i1 => exact fun z _ _ => rfl)
        (case hp9_i1 => exact ⟨sg5, on5, by dsimp only; omega, er⟩)
        intro d u6 h6 tk6 P6 F7 N7
        obtain ⟨sg6, on6, ln6, er6⟩ := P6
        refine' next_spec (pd := []) (ws := d.ws) ?B_i1 ?F_i1 ?X_i1 ?N_i1 ?T_i1 ?hk_i1 ?hd_i1 ?hu_i1 hnd hoc hoc1 hoS o1 o2 o3 o4 o5 o6 o7 o8 q1 q2 q3 ?o9_i1 ?oA_i1 ?q4_i1 sg6 ?hl_i1 ?hne_i1 ?item_i1 ?done_i1
        (case B_i1 => k_asm)
        (case F_i1 => k_asm)
        (case X_i1 => k_asm)
        (case N_i1 => k_asm)
        (case T_i1 => k_asm)
        (case hk_i1 => rfl)
        (case hd_i1 => simp only [recursionLimit] at *; omega)
        (case hu_i1 => simp only [cLine_is] at *; omega)
        (case o9_i1 => omega)
        (case oA_i1 => omega)
        (case q4_i1 => exact fun p hp => Nat.ne_of_lt (allLt_to lI.2.2.2.2.2.2.2.2.2.2 p hp))
        (case hl_i1 => rw [sg6.length]; omega)
        (case hne_i1 => intro z hz e; have := on6 z hz; rw [e] at this; cases this)
        case item_i1 =>
          intro y yr vs7 ln7 n57 ep7 h7 tk7 tr7 ew7 F8 N8 sg7
          have on7 : ∀ z ∈ yr, z.length = 1 := fun z hz => on6 z (by rw [ew7]; exact List.mem_cons_of_mem _ hz)
          have y1 : y.length = 1 := on6 y (by rw [ew7]; exact List.mem_cons_self ..)
          have yl : d.ws.length = yr.length + 1 := by rw [ew7, List.length_cons]
          have ty : d.tok.length + y.length ≤ 4000 := by omega
          have hh := head_one on7
          have hl7 := len_head yr on7
          have tyh : d.tok.length + (yr.headD ("" : Str)).length ≤ 4000 := by omega
          rw [ew7, gQ_cons] at er6
          k_steps
          · (rename (_ == Str.ofString "\"") = _ => a1)
            rw [if_pos a1] at er6
            rw [← er6] at ret
            exact ret _ _ _ _ _ _ _ (by k_asm) (cb_drop (by k_asm) (List.forall_mem_cons.mpr ⟨by k_mem, List.forall_mem_cons.mpr ⟨by k_mem, List.forall_mem_cons.mpr ⟨by k_mem, List.forall_mem_cons.mpr ⟨by k_mem, List.forall_mem_cons.mpr ⟨by k_mem, List.forall_mem_cons.mpr ⟨by k_mem, List.forall_mem_cons.mpr ⟨by k_mem, List.forall_mem_cons.mpr ⟨by k_mem, List.forall_mem_cons.mpr ⟨by k_mem, fun p hp => by (repeat (first | exact hp | refine List.Mem.tail _ ?_))⟩⟩⟩⟩⟩⟩⟩⟩⟩)) sg7
          · (rename (_ == Str.ofString "\"") = _ => a1)
            (rename (_ == Str.ofString "\\") = _ => a2)
            rw [if_neg (by rw [a1]; exact Bool.false_ne_true), if_pos a2] at er6
            unfold Halt
            (try dsimp only [List.nil_append, List.cons_append])
            refine' rc_spec (rest := (I, ciObj q tq) :: (q, methodObj (.ref 84) (.ref x)) :: rest) (pd := []) ?B_r_i1 ?F_r_i1 ?X_r_i1 ?N_r_i1 ?T_r_i1 ?hk_r_i1 ?hd_r_i1 ?hu_r_i1 hnd hoc hoc1 hoS o1 o2 o3 o4 o5 o6 o7 o8 ?q1_r_i1 ?q2_r_i1 ?q3_r_i1 sg7 ?hl_r_i1 ?ret_r_i1
            (case B_r_i1 => k_asm)
            (case F_r_i1 => k_asm)
            (case X_r_i1 => k_asm)
            (case N_r_i1 => exact cb_drop (by k_asm) (List.forall_mem_cons.mpr ⟨by k_mem, List.forall_mem_cons.mpr ⟨by k_mem, List.forall_mem_cons.mpr ⟨by k_mem, List.forall_mem_cons.mpr ⟨by k_mem, List.forall_mem_cons.mpr ⟨by k_mem, List.forall_mem_cons.mpr ⟨by k_mem, List.forall_mem_cons.mpr ⟨by k_mem, List.forall_mem_cons.mpr ⟨by k_mem, List.forall_mem_cons.mpr ⟨by k_mem, List.forall_mem_cons.mpr ⟨by k_mem, List.forall_mem_cons.mpr ⟨by k_mem, fun p hp => by (repeat (first | exact hp | refine List.Mem.tail _ ?_))⟩⟩⟩⟩⟩⟩⟩⟩⟩⟩⟩))
            (case T_r_i1 => k_asm)
            (case hk_r_i1 => rfl)
            (case hd_r_i1 => simp only [recursionLimit] at *; omega)
            (case hu_r_i1 => simp only [cLine_is] at *; omega)
            (case q1_r_i1 => exact List.forall_mem_cons.mpr ⟨by refine neN ?_; dsimp only; omega, List.forall_mem_cons.mpr ⟨by refine neN ?_; dsimp only; omega, q1⟩⟩)
            (case q2_r_i1 => exact List.forall_mem_cons.mpr ⟨by refine neN ?_; dsimp only; omega, List.forall_mem_cons.mpr ⟨by refine neN ?_; dsimp only; omega, q2⟩⟩)
            (case q3_r_i1 => exact List.forall_mem_cons.mpr ⟨by refine neN ?_; dsimp only; omega, List.forall_mem_cons.mpr ⟨by refine neN ?_; dsimp only; omega, q3⟩⟩)
            (case hl_r_i1 => rw [sg7.length]; omega)
            intro vs8 ln8 n58 ep8 h8 tk8 tr8 F9 N9 sg8
            (try dsimp only)
            k_steps
            (rename Fr _ _ _ _ => Fz9)
            obtain ⟨tz9, htz9⟩ := fr_str (x := ("token" : Str)) (i := (d.tok ++ yr.headD ("" : Str))) Fz9 ⟨_, rfl⟩
            refine ksw_end ⟨true, ciObj q tq, vs8, yr.tail, ln8, n58, ep8, d.tok ++ yr.headD ("" : Str), tz9⟩ (by k_asm) (by k_asm) ?hnb_i1 trivial ?hkb_i1 ?hrb_i1 ?hpb_i1 ?hmb_i1
            (case hnb_i1 => exact List.forall_mem_cons.mpr ⟨by k_mem, List.forall_mem_cons.mpr ⟨by k_mem, List.forall_mem_cons.mpr ⟨by k_mem, List.forall_mem_cons.mpr ⟨by k_mem, List.forall_mem_cons.mpr ⟨by k_mem, List.forall_mem_cons.mpr ⟨by k_mem, List.forall_mem_cons.mpr ⟨by k_mem, List.forall_mem_cons.mpr ⟨by k_mem, List.forall_mem_cons.mpr ⟨by k_mem, List.forall_mem_cons.mpr ⟨by k_mem, List.forall_mem_cons.mpr ⟨by k_mem, fun p hp => by (repeat (first | exact hp | refine List.Mem.tail _ ?_))⟩⟩⟩⟩⟩⟩⟩⟩⟩⟩⟩)
            (case hkb_i1 => exact List.forall_mem_cons.mpr ⟨htz9, fun _ h => nomatch h⟩)
            (case hrb_i1 => (intro z h2 h3; simp only [List.forall_mem_cons, List.not_mem_nil, false_implies, implies_true, and_true, ne_eq] at h2; simp only [List.contains_cons, List.contains_nil, Bool.or_false, Bool.or_eq_false_iff, beq_eq_false_iff_ne, ne_eq] at h3; simp [kstB, h2, h3]))
            (case hmb_i1 => (dsimp only; rw [List.length_tail]; omega))
            exact ⟨sg8, tail_all on7, by dsimp only; rw [Str.length_append]; omega, er6⟩
          · (rename (_ == Str.ofString "\"") = _ => a1)
            (rename (_ == Str.ofString "\\") = _ => a2)
            rw [if_neg (by rw [a1]; exact Bool.false_ne_true), if_neg (by rw [a2]; exact Bool.false_ne_true)] at er6
            (rename Fr _ _ _ _ => Fz9)
            obtain ⟨tz9, htz9⟩ := fr_str (x := ("token" : Str)) (i := (d.tok ++ y)) Fz9 ⟨_, rfl⟩
            refine ksw_end ⟨true, ciObj q tq, vs7, yr, ln7, n57, ep7, d.tok ++ y, tz9⟩ (by k_asm) (by k_asm) ?hnb_y_i1 trivial ?hkb_y_i1 ?hrb_y_i1 ?hpb_y_i1 ?hmb_y_i1
            (case hnb_y_i1 => exact List.forall_mem_cons.mpr ⟨by k_mem, List.forall_mem_cons.mpr ⟨by k_mem, List.forall_mem_cons.mpr ⟨by k_mem, List.forall_mem_cons.mpr ⟨by k_mem, List.forall_mem_cons.mpr ⟨by k_mem, List.forall_mem_cons.mpr ⟨by k_mem, List.forall_mem_cons.mpr ⟨by k_mem, List.forall_mem_cons.mpr ⟨by k_mem, List.forall_mem_cons.mpr ⟨by k_mem, List.forall_mem_cons.mpr ⟨by k_mem, List.forall_mem_cons.mpr ⟨by k_mem, fun p hp => by (repeat (first | exact hp | refine List.Mem.tail _ ?_))⟩⟩⟩⟩⟩⟩⟩⟩⟩⟩⟩)
            (case hkb_y_i1 => exact List.forall_mem_cons.mpr ⟨htz9, fun _ h => nomatch h⟩)
            (case hrb_y_i1 => (intro z h2 h3; simp only [List.forall_mem_cons, List.not_mem_nil, false_implies, implies_true, and_true, ne_eq] at h2; simp only [List.contains_cons, List.contains_nil, Bool.or_false, Bool.or_eq_false_iff, beq_eq_false_iff_ne, ne_eq] at h3; simp [kstB, h2, h3]))
            (case hmb_y_i1 => (dsimp only; omega))
            exact ⟨sg7, on7, by dsimp only; rw [Str.length_append]; omega, er6⟩
        case done_i1 =>
          intro vs7 ln7 n57 ep7 h7 tk7 ew7 F8 N8 sg7
          rw [ew7, gQ_nil] at er6
          k_steps
          refine ksw_end ⟨false, ciEnded, vs7, [], ln7, n57, ep7, d.tok, d.tt⟩ (by k_asm) (by k_asm) ?hnb_z_i1 trivial ?hkb_z_i1 ?hrb_z_i1 ?hpb_z_i1 ?hmb_z_i1
          (case hnb_z_i1 => exact List.forall_mem_cons.mpr ⟨by k_mem, List.forall_mem_cons.mpr ⟨by k_mem, List.forall_mem_cons.mpr ⟨by k_mem, List.forall_mem_cons.mpr ⟨by k_mem, List.forall_mem_cons.mpr ⟨by k_mem, List.forall_mem_cons.mpr ⟨by k_mem, List.forall_mem_cons.mpr ⟨by k_mem, List.forall_mem_cons.mpr ⟨by k_mem, List.forall_mem_cons.mpr ⟨by k_mem, List.forall_mem_cons.mpr ⟨by k_mem, List.forall_mem_cons.mpr ⟨by k_mem, fun p hp => by (repeat (first | exact hp | refine List.Mem.tail _ ?_))⟩⟩⟩⟩⟩⟩⟩⟩⟩⟩⟩)
          (case hkb_z_i1 => exact List.forall_mem_cons.mpr ⟨rfl, fun _ h => nomatch h⟩)
          (case hrb_z_i1 => (intro z h2 h3; simp only [List.forall_mem_cons, List.not_mem_nil, false_implies, implies_true, and_true, ne_eq] at h2; simp only [List.contains_cons, List.contains_nil, Bool.or_false, Bool.or_eq_false_iff, beq_eq_false_iff_ne, ne_eq] at h3; simp [kstB, h2, h3]))
          (case hmb_z_i1 => (dsimp only; rw [lv]; simp))
          exact ⟨sg7, (fun _ h => nomatch h), by dsimp only [List.length_nil]; omega, .inr ⟨rfl, rfl, er6.symm⟩⟩
      · (rename (Builtin.Str.occurrences _ _ _ _ _).isEmpty = _ => a1)
        (rename (_ == Str.ofString "\"") = _ => a2)
        (rename (_ == Str.ofString "\\") = _ => a3)
        rw [if_neg (inWs_f a1), if_neg (by rw [a2]; exact Bool.false_ne_true), if_pos a3] at er
        unfold Halt
        (try dsimp only [List.nil_append, List.cons_append])
        refine' rc_spec (rest := (I, ciObj q tq) :: (q, methodObj (.ref 84) (.ref x)) :: rest) (pd := []) ?B_o ?F_o ?X_o ?N_o ?T_o ?hk_o ?hd_o ?hu_o hnd hoc hoc1 hoS o1 o2 o3 o4 o5 o6 o7 o8 ?q1_o ?q2_o ?q3_o sg5 ?hl_o ?ret_o
        (case B_o => k_asm)
        (case F_o => k_asm)
        (case X_o => k_asm)
        (case N_o => exact cb_drop (by k_asm) (List.forall_mem_cons.mpr ⟨by k_mem, List.forall_mem_cons.mpr ⟨by k_mem, List.forall_mem_cons.mpr ⟨by k_mem, List.forall_mem_cons.mpr ⟨by k_mem, List.forall_mem_cons.mpr ⟨by k_mem, List.forall_mem_cons.mpr ⟨by k_mem, List.forall_mem_cons.mpr ⟨by k_mem, List.forall_mem_cons.mpr ⟨by k_mem, List.forall_mem_cons.mpr ⟨by k_mem, List.forall_mem_cons.mpr ⟨by k_mem, List.forall_mem_cons.mpr ⟨by k_mem, fun p hp => by (repeat (first | exact hp | refine List.Mem.tail _ ?_))⟩⟩⟩⟩⟩⟩⟩⟩⟩⟩⟩))
        (case T_o => k_asm)
        (case hk_o => rfl)
        (case hd_o => simp only [recursionLimit] at *; omega)
        (case hu_o => simp only [cLine_is] at *; omega)
        (case q1_o => exact List.forall_mem_cons.mpr ⟨by refine neN ?_; dsimp only; omega, List.forall_mem_cons.mpr ⟨by refine neN ?_; dsimp only; omega, q1⟩⟩)
        (case q2_o => exact List.forall_mem_cons.mpr ⟨by refine neN ?_; dsimp only; omega, List.forall_mem_cons.mpr ⟨by refine neN ?_; dsimp only; omega, q2⟩⟩)
        (case q3_o => exact List.forall_mem_cons.mpr ⟨by refine neN ?_; dsimp only; omega, List.forall_mem_cons.mpr ⟨by refine neN ?_; dsimp only; omega, q3⟩⟩)
        (case hl_o => rw [sg5.length]; omega)
        intro vsA lnA n5A epA hA tkA trA FA NA sgA
        (try dsimp only)
        k_steps
        unfold Halt
        refine wpAny_For ?_
        k_steps
        (rename Fr _ _ _ _ => F6)
        (rename News _ _ _ _ => N6)
        refine ci_iter ⟨_, (N6 (I, ciObj q tq) (by k_mem)).1, rfl⟩ ?_
        (try dsimp only)
        obtain ⟨tt6, htt6⟩ := fr_str (x := ("token" : Str)) F6 ⟨_, rfl⟩
        refine' forI (L := _) (fun c : GtSt => ((I, ciObj q tq) :: (q, methodObj (.ref 84) (.ref x)) :: (pb, W.listOf ([]).toArray ep) :: (x, instObj 101 dx) :: (dx, (dictOf [{ hash := PyData.keyHash w.params ("lineno" : Str), key := .str ("lineno" : Str) n1, val := .int c.ln c.n5 }, { hash := PyData.keyHash w.params ("instream" : Str), key := .str ("instream" : Str) n2, val := .ref fS }, { hash := PyData.keyHash w.params ("whitespace" : Str), key := .str ("whitespace" : Str) n3, val := .str wsp n6 }, { hash := PyData.keyHash w.params ("pushback" : Str), key := .str ("pushback" : Str) n4, val := .ref pb }] 4)) :: (dS, dictOf [{ hash := PyData.keyHash w.params ("read" : Str), key := .str ("read" : Str) n7, val := .ref r }] 1) :: (fS, ({ cls := .type "function", dict := some dS, data := .func fd } : Obj)) :: (r, fnMade nm qu ps bd sc [(("signs" : Str), cS)] dc pm cr ct) :: (cr, oc) :: (cS, oS) :: (S, W.listOf (c.vs).toArray c.ep) :: rest)) (fun c => [("token", .str c.tok c.tt)]) ["ch"]
          (fun c => SgA c.vs c.ws ∧ (∀ z ∈ c.ws, z.length = 1) ∧ c.tok.length + c.ws.length ≤ 4000 ∧ gW wsp c.ws c.tok = gO wsp ws ("" : Str))
          (fun c => c.ws.length) ⟨true, ciObj q tq, vsA, wr.tail, lnA, n5A, epA, c.tok ++ wr.headD ("" : Str), tt6⟩ ?F9_i2 ?N9_i2 ?hk9_i2 ?hr9_i2 ?hp9_i2 ?turn9_i2
        (case F9_i2 => exact F6)
        (case N9_i2 => exact cb_drop N6 (List.forall_mem_cons.mpr ⟨by k_mem, List.forall_mem_cons.mpr ⟨by k_mem, List.forall_mem_cons.mpr ⟨by k_mem, List.forall_mem_cons.mpr ⟨by k_mem, List.forall_mem_cons.mpr ⟨by k_mem, List.forall_mem_cons.mpr ⟨by k_mem, List.forall_mem_cons.mpr ⟨by k_mem, List.forall_mem_cons.mpr ⟨by k_mem, List.forall_mem_cons.mpr ⟨by k_mem, List.forall_mem_cons.mpr ⟨by k_mem, List.forall_mem_cons.mpr ⟨by k_mem, fun p hp => by (repeat (first | exact hp | refine List.Mem.tail _ ?_))⟩⟩⟩⟩⟩⟩⟩⟩⟩⟩⟩))
        (case hk9_i2 => exact List.forall_mem_cons.mpr ⟨htt6, fun _ h => nomatch h⟩)
        (case hr9_i2 => exact fun z _ _ => rfl)
        (case hp9_i2 => exact ⟨sgA, tail_all on5, by dsimp only; rw [Str.length_append]; omega, er⟩)
        intro d u6 h6 tk6 P6 F7 N7
        obtain ⟨sg6, on6, ln6, er6⟩ := P6
        refine' next_spec (pd := []) (ws := d.ws) ?B_i2 ?F_i2 ?X_i2 ?N_i2 ?T_i2 ?hk_i2 ?hd_i2 ?hu_i2 hnd hoc hoc1 hoS o1 o2 o3 o4 o5 o6 o7 o8 q1 q2 q3 ?o9_i2 ?oA_i2 ?q4_i2 sg6 ?hl_i2 ?hne_i2 ?item_i2 ?done_i2
        (case B_i2 => k_asm)
        (case F_i2 => k_asm)
        (case X_i2 => k_asm)
        (case N_i2 => k_asm)
        (case T_i2 => k_asm)
        (case hk_i2 => rfl)
        (case hd_i2 => simp only [recursionLimit] at *; omega)
        (case hu_i2 => simp only [cLine_is] at *; omega)
        (case o9_i2 => omega)
        (case oA_i2 => omega)
        (case q4_i2 => exact fun p hp => Nat.ne_of_lt (allLt_to lI.2.2.2.2.2.2.2.2.2.2 p hp))
        (case hl_i2 => rw [sg6.length]; omega)
        (case hne_i2 => intro z hz e; have := on6 z hz; rw [e] at this; cases this)
        case item_i2 =>
          intro y yr vs7 ln7 n57 ep7 h7 tk7 tr7 ew7 F8 N8 sg7
          have on7 : ∀ z ∈ yr, z.length = 1 := fun z hz => on6 z (by rw [ew7]; exact List.mem_cons_of_mem _ hz)
          have y1 : y.length = 1 := on6 y (by rw [ew7]; exact List.mem_cons_self ..)
          have yl : d.ws.length = yr.length + 1 := by rw [ew7, List.length_cons]
          have ty : d.tok.length + y.length ≤ 4000 := by omega
          have hh := head_one on7
          have hl7 := len_head yr on7
          have tyh : d.tok.length + (yr.headD ("" : Str)).length ≤ 4000 := by omega
          rw [ew7, gW_cons] at er6
          k_steps
          · (rename (Builtin.Str.occurrences _ _ _ _ _).isEmpty = _ => a1)
            (rename (_ == Str.ofString "\\") = _ => a2)
            rw [if_neg (inWs_f a1), if_pos a2] at er6
            unfold Halt
            (try dsimp only [List.nil_append, List.cons_append])
            refine' rc_spec (rest := (I, ciObj q tq) :: (q, methodObj (.ref 84) (.ref x)) :: rest) (pd := []) ?B_r_i2 ?F_r_i2 ?X_r_i2 ?N_r_i2 ?T_r_i2 ?hk_r_i2 ?hd_r_i2 ?hu_r_i2 hnd hoc hoc1 hoS o1 o2 o3 o4 o5 o6 o7 o8 ?q1_r_i2 ?q2_r_i2 ?q3_r_i2 sg7 ?hl_r_i2 ?ret_r_i2
            (case B_r_i2 => k_asm)
            (case F_r_i2 => k_asm)
            (case X_r_i2 => k_asm)
            (case N_r_i2 => exact cb_drop (by k_asm) (List.forall_mem_cons.mpr ⟨by k_mem, List.forall_mem_cons.mpr ⟨by k_mem, List.forall_mem_cons.mpr ⟨by k_mem, List.forall_mem_cons.mpr ⟨by k_mem, List.forall_mem_cons.mpr ⟨by k_mem, List.forall_mem_cons.mpr ⟨by k_mem, List.forall_mem_cons.mpr ⟨by k_mem, List.forall_mem_cons.mpr ⟨by k_mem, List.forall_mem_cons.mpr ⟨by k_mem, List.forall_mem_cons.mpr ⟨by k_mem, List.forall_mem_cons.mpr ⟨by k_mem, fun p hp => by (repeat (first | exact hp | refine List.Mem.tail _ ?_))⟩⟩⟩⟩⟩⟩⟩⟩⟩⟩⟩))
            (case T_r_i2 => k_asm)
            (case hk_r_i2 => rfl)
            (case hd_r_i2 => simp only [recursionLimit] at *; omega)
            (case hu_r_i2 => simp only [cLine_is] at *; omega)
            (case q1_r_i2 => exact List.forall_mem_cons.mpr ⟨by refine neN ?_; dsimp only; omega, List.forall_mem_cons.mpr ⟨by refine neN ?_; dsimp only; omega, q1⟩⟩)
            (case q2_r_i2 => exact List.forall_mem_cons.mpr ⟨by refine neN ?_; dsimp only; omega, List.forall_mem_cons.mpr ⟨by refine neN ?_; dsimp only; omega, q2⟩⟩)
            (case q3_r_i2 => exact List.forall_mem_cons.mpr ⟨by refine neN ?_; dsimp only; omega, List.forall_mem_cons.mpr ⟨by refine neN ?_; dsimp only; omega, q3⟩⟩)
            (case hl_r_i2 => rw [sg7.length]; omega)
            intro vs8 ln8 n58 ep8 h8 tk8 tr8 F9 N9 sg8
            (try dsimp only)
            k_steps
            (rename Fr _ _ _ _ => Fz9)
            obtain ⟨tz9, htz9⟩ := fr_str (x := ("token" : Str)) (i := (d.tok ++ yr.headD ("" : Str))) Fz9 ⟨_, rfl⟩
            refine ksw_end ⟨true, ciObj q tq, vs8, yr.tail, ln8, n58, ep8, d.tok ++ yr.headD ("" : Str), tz9⟩ (by k_asm) (by k_asm) ?hnb_i2 trivial ?hkb_i2 ?hrb_i2 ?hpb_i2 ?hmb_i2
            (case hnb_i2 => exact List.forall_mem_cons.mpr ⟨by k_mem, List.forall_mem_cons.mpr ⟨by k_mem, List.forall_mem_cons.mpr ⟨by k_mem, List.forall_mem_cons.mpr ⟨by k_mem, List.forall_mem_cons.mpr ⟨by k_mem, List.forall_mem_cons.mpr ⟨by k_mem, List.forall_mem_cons.mpr ⟨by k_mem, List.forall_mem_cons.mpr ⟨by k_mem, List.forall_mem_cons.mpr ⟨by k_mem, List.forall_mem_cons.mpr ⟨by k_mem, List.forall_mem_cons.mpr ⟨by k_mem, fun p hp => by (repeat (first | exact hp | refine List.Mem.tail _ ?_))⟩⟩⟩⟩⟩⟩⟩⟩⟩⟩⟩)
            (case hkb_i2 => exact List.forall_mem_cons.mpr ⟨htz9, fun _ h => nomatch h⟩)
            (case hrb_i2 => (intro z h2 h3; simp only [List.forall_mem_cons, List.not_mem_nil, false_implies, implies_true, and_true, ne_eq] at h2; simp only [List.contains_cons, List.contains_nil, Bool.or_false, Bool.or_eq_false_iff, beq_eq_false_iff_ne, ne_eq] at h3; simp [kstB, h2, h3]))
            (case hmb_i2 => (dsimp only; rw [List.length_tail]; omega))
            exact ⟨sg8, tail_all on7, by dsimp only; rw [Str.length_append]; omega, er6⟩
          · (rename (Builtin.Str.occurrences _ _ _ _ _).isEmpty = _ => a1)
            (rename (_ == Str.ofString "\\") = _ => a2)
            rw [if_neg (inWs_f a1), if_neg (by rw [a2]; exact Bool.false_ne_true)] at er6
            (rename Fr _ _ _ _ => Fz9)
            obtain ⟨tz9, htz9⟩ := fr_str (x := ("token" : Str)) (i := (d.tok ++ y)) Fz9 ⟨_, rfl⟩
            refine ksw_end ⟨true, ciObj q tq, vs7, yr, ln7, n57, ep7, d.tok ++ y, tz9⟩ (by k_asm) (by k_asm) ?hnb_y_i2 trivial ?hkb_y_i2 ?hrb_y_i2 ?hpb_y_i2 ?hmb_y_i2
            (case hnb_y_i2 => exact List.forall_mem_cons.mpr ⟨by k_mem, List.forall_mem_cons.mpr ⟨by k_mem, List.forall_mem_cons.mpr ⟨by k_mem, List.forall_mem_cons.mpr ⟨by k_mem, List.forall_mem_cons.mpr ⟨by k_mem, List.forall_mem_cons.mpr ⟨by k_mem, List.forall_mem_cons.mpr ⟨by k_mem, List.forall_mem_cons.mpr ⟨by k_mem, List.forall_mem_cons.mpr ⟨by k_mem, List.forall_mem_cons.mpr ⟨by k_mem, List.forall_mem_cons.mpr ⟨by k_mem, fun p hp => by (repeat (first | exact hp | refine List.Mem.tail _ ?_))⟩⟩⟩⟩⟩⟩⟩⟩⟩⟩⟩)
            (case hkb_y_i2 => exact List.forall_mem_cons.mpr ⟨htz9, fun _ h => nomatch h⟩)
            (case hrb_y_i2 => (intro z h2 h3; simp only [List.forall_mem_cons, List.not_mem_nil, false_implies, implies_true, and_true, ne_eq] at h2; simp only [List.contains_cons, List.contains_nil, Bool.or_false, Bool.or_eq_false_iff, beq_eq_false_iff_ne, ne_eq] at h3; simp [kstB, h2, h3]))
            (case hmb_y_i2 => (dsimp only; omega))
            exact ⟨sg7, on7, by dsimp only; rw [Str.length_append]; omega, er6⟩
          · (rename (Builtin.Str.occurrences _ _ _ _ _).isEmpty = _ => a1)
            rw [if_pos (inWs_t a1)] at er6
            rw [← er6] at ret
            exact ret _ _ _ _ _ _ _ (by k_asm) (cb_drop (by k_asm) (List.forall_mem_cons.mpr ⟨by k_mem, List.forall_mem_cons.mpr ⟨by k_mem, List.forall_mem_cons.mpr ⟨by k_mem, List.forall_mem_cons.mpr ⟨by k_mem, List.forall_mem_cons.mpr ⟨by k_mem, List.forall_mem_cons.mpr ⟨by k_mem, List.forall_mem_cons.mpr ⟨by k_mem, List.forall_mem_cons.mpr ⟨by k_mem, List.forall_mem_cons.mpr ⟨by k_mem, fun p hp => by (repeat (first | exact hp | refine List.Mem.tail _ ?_))⟩⟩⟩⟩⟩⟩⟩⟩⟩)) sg7
        case done_i2 =>
          intro vs7 ln7 n57 ep7 h7 tk7 ew7 F8 N8 sg7
          rw [ew7, gW_nil] at er6
          k_steps
          refine ksw_end ⟨false, ciEnded, vs7, [], ln7, n57, ep7, d.tok, d.tt⟩ (by k_asm) (by k_asm) ?hnb_z_i2 trivial ?hkb_z_i2 ?hrb_z_i2 ?hpb_z_i2 ?hmb_z_i2
          (case hnb_z_i2 => exact List.forall_mem_cons.mpr ⟨by k_mem, List.forall_mem_cons.mpr ⟨by k_mem, List.forall_mem_cons.mpr ⟨by k_mem, List.forall_mem_cons.mpr ⟨by k_mem, List.forall_mem_cons.mpr ⟨by k_mem, List.forall_mem_cons.mpr ⟨by k_mem, List.forall_mem_cons.mpr ⟨by k_mem, List.forall_mem_cons.mpr ⟨by k_mem, List.forall_mem_cons.mpr ⟨by k_mem, List.forall_mem_cons.mpr ⟨by k_mem, List.forall_mem_cons.mpr ⟨by k_mem, fun p hp => by (repeat (first | exact hp | refine List.Mem.tail _ ?_))⟩⟩⟩⟩⟩⟩⟩⟩⟩⟩⟩)
          (case hkb_z_i2 => exact List.forall_mem_cons.mpr ⟨rfl, fun _ h => nomatch h⟩)
          (case hrb_z_i2 => (intro z h2 h3; simp only [List.forall_mem_cons, List.not_mem_nil, false_implies, implies_true, and_true, ne_eq] at h2; simp only [List.contains_cons, List.contains_nil, Bool.or_false, Bool.or_eq_false_iff, beq_eq_false_iff_ne, ne_eq] at h3; simp [kstB, h2, h3]))
          (case hmb_z_i2 => (dsimp only; rw [lv]; simp))
          exact ⟨sg7, (fun _ h => nomatch h), by dsimp only [List.length_nil]; omega, .inr ⟨rfl, rfl, er6.symm⟩⟩
      · (rename (Builtin.Str.occurrences _ _ _ _ _).isEmpty = _ => a1)
        (rename (_ == Str.ofString "\"") = _ => a2)
        (rename (_ == Str.ofString "\\") = _ => a3)
        rw [if_neg (inWs_f a1), if_neg (by rw [a2]; exact Bool.false_ne_true), if_neg (by rw [a3]; exact Bool.false_ne_true)] at er
        unfold Halt
        refine wpAny_For ?_
        k_steps
        (rename Fr _ _ _ _ => F6)
        (rename News _ _ _ _ => N6)
        refine ci_iter ⟨_, (N6 (I, ciObj q tq) (by k_mem)).1, rfl⟩ ?_
        (try dsimp only)
        obtain ⟨tt6, htt6⟩ := fr_str (x := ("token" : Str)) F6 ⟨_, rfl⟩
        refine' forI (L := _) (fun c : GtSt => ((I, ciObj q tq) :: (q, methodObj (.ref 84) (.ref x)) :: (pb, W.listOf ([]).toArray ep) :: (x, instObj 101 dx) :: (dx, (dictOf [{ hash := PyData.keyHash w.params ("lineno" : Str), key := .str ("lineno" : Str) n1, val := .int c.ln c.n5 }, { hash := PyData.keyHash w.params ("instream" : Str), key := .str ("instream" : Str) n2, val := .ref fS }, { hash := PyData.keyHash w.params ("whitespace" : Str), key := .str ("whitespace" : Str) n3, val := .str wsp n6 }, { hash := PyData.keyHash w.params ("pushback" : Str), key := .str ("pushback" : Str) n4, val := .ref pb }] 4)) :: (dS, dictOf [{ hash := PyData.keyHash w.params ("read" : Str), key := .str ("read" : Str) n7, val := .ref r }] 1) :: (fS, ({ cls := .type "function", dict := some dS, data := .func fd } : Obj)) :: (r, fnMade nm qu ps bd sc [(("signs" : Str), cS)] dc pm cr ct) :: (cr, oc) :: (cS, oS) :: (S, W.listOf (c.vs).toArray c.ep) :: rest)) (fun c => [("token", .str c.tok c.tt)]) ["ch"]
          (fun c => SgA c.vs c.ws ∧ (∀ z ∈ c.ws, z.length = 1) ∧ c.tok.length + c.ws.length ≤ 4000 ∧ gW wsp c.ws c.tok = gO wsp ws ("" : Str))
          (fun c => c.ws.length) ⟨true, ciObj q tq, vs5, wr, ln5, n55, ep5, c.tok ++ z, tt6⟩ ?F9_i3 ?N9_i3 ?hk9_i3 ?hr9_i3 ?hp9_i3 ?turn9_i3
        (case F9_i3 => exact F6)
        (case N9_i3 => exact cb_drop N6 (List.forall_mem_cons.mpr ⟨by k_mem, List.forall_mem_cons.mpr ⟨by k_mem, List.forall_mem_cons.mpr ⟨by k_mem, List.forall_mem_cons.mpr ⟨by k_mem, List.forall_mem_cons.mpr ⟨by k_mem, List.forall_mem_cons.mpr ⟨by k_mem, List.forall_mem_cons.mpr ⟨by k_mem, List.forall_mem_cons.mpr ⟨by k_mem, List.forall_mem_cons.mpr ⟨by k_mem, List.forall_mem_cons.mpr ⟨by k_mem, List.forall_mem_cons.mpr ⟨by k_mem, fun p hp => by (repeat (first | exact hp | refine List.Mem.tail _ ?_))⟩⟩⟩⟩⟩⟩⟩⟩⟩⟩⟩))
        (case hk9_i3 => exact List.forall_mem_cons.mpr ⟨htt6, fun _ h => nomatch h⟩)
        (case hr9_i3 => exact fun z _ _ => rfl)
        (case hp9_i3 => exact ⟨sg5, on5, by dsimp only; rw [Str.length_append]; omega, er⟩)
        intro d u6 h6 tk6 P6 F7 N7
        obtain ⟨sg6, on6, ln6, er6⟩ := P6
        refine' next_spec (pd := []) (ws := d.ws) ?B_i3 ?F_i3 ?X_i3 ?N_i3 ?T_i3 ?hk_i3 ?hd_i3 ?hu_i3 hnd hoc hoc1 hoS o1 o2 o3 o4 o5 o6 o7 o8 q1 q2 q3 ?o9_i3 ?oA_i3 ?q4_i3 sg6 ?hl_i3 ?hne_i3 ?item_i3 ?done_i3
        (case B_i3 => k_asm)
        (case F_i3 => k_asm)
        (case X_i3 => k_asm)
        (case N_i3 => k_asm)
        (case T_i3 => k_asm)
        (case hk_i3 => rfl)
        (case hd_i3 => simp only [recursionLimit] at *; omega)
        (case hu_i3 => simp only [cLine_is] at *; omega)
        (case o9_i3 => omega)
        (case oA_i3 => omega)
        (case q4_i3 => exact fun p hp => Nat.ne_of_lt (allLt_to lI.2.2.2.2.2.2.2.2.2.2 p hp))
        (case hl_i3 => rw [sg6.length]; omega)
        (case hne_i3 => intro z hz e; have := on6 z hz; rw [e] at this; cases this)
        case item_i3 =>
          intro y yr vs7 ln7 n57 ep7 h7 tk7 tr7 ew7 F8 N8 sg7
          have on7 : ∀ z ∈ yr, z.length = 1 := fun z hz => on6 z (by rw [ew7]; exact List.mem_cons_of_mem _ hz)
          have y1 : y.length = 1 := on6 y (by rw [ew7]; exact List.mem_cons_self ..)
          have yl : d.ws.length = yr.length + 1 := by rw [ew7, List.length_cons]
          have ty : d.tok.length + y.length ≤ 4000 := by omega
          have hh := head_one on7
          have hl7 := len_head yr on7
          have tyh : d.tok.length + (yr.headD ("" : Str)).length ≤ 4000 := by omega
          rw [ew7, gW_cons] at er6
          k_steps
          · (rename (Builtin.Str.occurrences _ _ _ _ _).isEmpty = _ => a1)
            (rename (_ == Str.ofString "\\") = _ => a2)
            rw [if_neg (inWs_f a1), if_pos a2] at er6
            unfold Halt
            (try dsimp only [List.nil_append, List.cons_append])
            refine' rc_spec (rest := (I, ciObj q tq) :: (q, methodObj (.ref 84) (.ref x)) :: rest) (pd := []) ?B_r_i3 ?F_r_i3 ?X_r_i3 ?N_r_i3 ?T_r_i3 ?hk_r_i3 ?hd_r_i3 ?hu_r_i3 hnd hoc hoc1 hoS o1 o2 o3 o4 o5 o6 o7 o8 ?q1_r_i3 ?q2_r_i3 ?q3_r_i3 sg7 ?hl_r_i3 ?ret_r_i3
            (case B_r_i3 => k_asm)
            (case F_r_i3 => k_asm)
            (case X_r_i3 => k_asm)
            (case N_r_i3 => exact cb_drop (by k_asm) (List.forall_mem_cons.mpr ⟨by k_mem, List.forall_mem_cons.mpr ⟨by k_mem, List.forall_mem_cons.mpr ⟨by k_mem, List.forall_mem_cons.mpr ⟨by k_mem, List.forall_mem_cons.mpr ⟨by k_mem, List.forall_mem_cons.mpr ⟨by k_mem, List.forall_mem_cons.mpr ⟨by k_mem, List.forall_mem_cons.mpr ⟨by k_mem, List.forall_mem_cons.mpr ⟨by k_mem, List.forall_mem_cons.mpr ⟨by k_mem, List.forall_mem_cons.mpr ⟨by k_mem, fun p hp => by (repeat (first | exact hp | refine List.Mem.tail _ ?_))⟩⟩⟩⟩⟩⟩⟩⟩⟩⟩⟩))
            (case T_r_i3 => k_asm)
            (case hk_r_i3 => rfl)
            (case hd_r_i3 => simp only [recursionLimit] at *; omega)
            (case hu_r_i3 => simp only [cLine_is] at *; omega)
            (case q1_r_i3 => exact List.forall_mem_cons.mpr ⟨by refine neN ?_; dsimp only; omega, List.forall_mem_cons.mpr ⟨by refine neN ?_; dsimp only; omega, q1⟩⟩)
            (case q2_r_i3 => exact List.forall_mem_cons.mpr ⟨by refine neN ?_; dsimp only; omega, List.forall_mem_cons.mpr ⟨by refine neN ?_; dsimp only; omega, q2⟩⟩)
            (case q3_r_i3 => exact List.forall_mem_cons.mpr ⟨by refine neN ?_; dsimp only; omega, List.forall_mem_cons.mpr ⟨by refine neN ?_; dsimp only; omega, q3⟩⟩)
            (case hl_r_i3 => rw [sg7.length]; omega)
            intro vs8 ln8 n58 ep8 h8 tk8 tr8 F9 N9 sg8
            (try dsimp only)
            k_steps
            (rename Fr _ _ _ _ => Fz9)
            obtain ⟨tz9, htz9⟩ := fr_str (x := ("token" : Str)) (i := (d.tok ++ yr.headD ("" : Str))) Fz9 ⟨_, rfl⟩
            refine ksw_end ⟨true, ciObj q tq, vs8, yr.tail, ln8, n58, ep8, d.tok ++ yr.headD ("" : Str), tz9⟩ (by k_asm) (by k_asm) ?hnb_i3 trivial ?hkb_i3 ?hrb_i3 ?hpb_i3 ?hmb_i3
            (case hnb_i3 => exact List.forall_mem_cons.mpr ⟨by k_mem, List.forall_mem_cons.mpr ⟨by k_mem, List.forall_mem_cons.mpr ⟨by k_mem, List.forall_mem_cons.mpr ⟨by k_mem, List.forall_mem_cons.mpr ⟨by k_mem, List.forall_mem_cons.mpr ⟨by k_mem, List.forall_mem_cons.mpr ⟨by k_mem, List.forall_mem_cons.mpr ⟨by k_mem, List.forall_mem_cons.mpr ⟨by k_mem, List.forall_mem_cons.mpr ⟨by k_mem, List.forall_mem_cons.mpr ⟨by k_mem, fun p hp => by (repeat (first | exact hp | refine List.Mem.tail _ ?_))⟩⟩⟩⟩⟩⟩⟩⟩⟩⟩⟩)
            (case hkb_i3 => exact List.forall_mem_cons.mpr ⟨htz9, fun _ h => nomatch h⟩)
            (case hrb_i3 => (intro z h2 h3; simp only [List.forall_mem_cons, List.not_mem_nil, false_implies, implies_true, and_true, ne_eq] at h2; simp only [List.contains_cons, List.contains_nil, Bool.or_false, Bool.or_eq_false_iff, beq_eq_false_iff_ne, ne_eq] at h3; simp [kstB, h2, h3]))
            (case hmb_i3 => (dsimp only; rw [List.length_tail]; omega))
            exact ⟨sg8, tail_all on7, by dsimp only; rw [Str.length_append]; omega, er6⟩
          · (rename (Builtin.Str.occurrences _ _ _ _ _).isEmpty = _ => a1)
            (rename (_ == Str.ofString "\\") = _ => a2)
            rw [if_neg (inWs_f a1), if_neg (by rw [a2]; exact Bool.false_ne_true)] at er6
            (rename Fr _ _ _ _ => Fz9)
            obtain ⟨tz9, htz9⟩ := fr_str (x := ("token" : Str)) (i := (d.tok ++ y)) Fz9 ⟨_, rfl⟩
            refine ksw_end ⟨true, ciObj q tq, vs7, yr, ln7, n57, ep7, d.tok ++ y, tz9⟩ (by k_asm) (by k_asm) ?hnb_y_i3 trivial ?hkb_y_i3 ?hrb_y_i3 ?hpb_y_i3 ?hmb_y_i3
            (case hnb_y_i3 => exact List.forall_mem_cons.mpr ⟨by k_mem, List.forall_mem_cons.mpr ⟨by k_mem, List.forall_mem_cons.mpr ⟨by k_mem, List.forall_mem_cons.mpr ⟨by k_mem, List.forall_mem_cons.mpr ⟨by k_mem, List.forall_mem_cons.mpr ⟨by k_mem, List.forall_mem_cons.mpr ⟨by k_mem, List.forall_mem_cons.mpr ⟨by k_mem, List.forall_mem_cons.mpr ⟨by k_mem, List.forall_mem_cons.mpr ⟨by k_mem, List.forall_mem_cons.mpr ⟨by k_mem, fun p hp => by (repeat (first | exact hp | refine List.Mem.tail _ ?_))⟩⟩⟩⟩⟩⟩⟩⟩⟩⟩⟩)
            (case hkb_y_i3 => exact List.forall_mem_cons.mpr ⟨htz9, fun _ h => nomatch h⟩)
            (case hrb_y_i3 => (intro z h2 h3; simp only [List.forall_mem_cons, List.not_mem_nil, false_implies, implies_true, and_true, ne_eq] at h2; simp only [List.contains_cons, List.contains_nil, Bool.or_false, Bool.or_eq_false_iff, beq_eq_false_iff_ne, ne_eq] at h3; simp [kstB, h2, h3]))
            (case hmb_y_i3 => (dsimp only; omega))
            exact ⟨sg7, on7, by dsimp only; rw [Str.length_append]; omega, er6⟩
          · (rename (Builtin.Str.occurrences _ _ _ _ _).isEmpty = _ => a1)
            rw [if_pos (inWs_t a1)] at er6
            rw [← er6] at ret
            exact ret _ _ _ _ _ _ _ (by k_asm) (cb_drop (by k_asm) (List.forall_mem_cons.mpr ⟨by k_mem, List.forall_mem_cons.mpr ⟨by k_mem, List.forall_mem_cons.mpr ⟨by k_mem, List.forall_mem_cons.mpr ⟨by k_mem, List.forall_mem_cons.mpr ⟨by k_mem, List.forall_mem_cons.mpr ⟨by k_mem, List.forall_mem_cons.mpr ⟨by k_mem, List.forall_mem_cons.mpr ⟨by k_mem, List.forall_mem_cons.mpr ⟨by k_mem, fun p hp => by (repeat (first | exact hp | refine List.Mem.tail _ ?_))⟩⟩⟩⟩⟩⟩⟩⟩⟩)) sg7
        case done_i3 =>
          intro vs7 ln7 n57 ep7 h7 tk7 ew7 F8 N8 sg7
          rw [ew7, gW_nil] at er6
          k_steps
          refine ksw_end ⟨false, ciEnded, vs7, [], ln7, n57, ep7, d.tok, d.tt⟩ (by k_asm) (by k_asm) ?hnb_z_i3 trivial ?hkb_z_i3 ?hrb_z_i3 ?hpb_z_i3 ?hmb_z_i3
          (case hnb_z_i3 => exact List.forall_mem_cons.mpr ⟨by k_mem, List.forall_mem_cons.mpr ⟨by k_mem, List.forall_mem_cons.mpr ⟨by k_mem, List.forall_mem_cons.mpr ⟨by k_mem, List.forall_mem_cons.mpr ⟨by k_mem, List.forall_mem_cons.mpr ⟨by k_mem, List.forall_mem_cons.mpr ⟨by k_mem, List.forall_mem_cons.mpr ⟨by k_mem, List.forall_mem_cons.mpr ⟨by k_mem, List.forall_mem_cons.mpr ⟨by k_mem, List.forall_mem_cons.mpr ⟨by k_mem, fun p hp => by (repeat (first | exact hp | refine List.Mem.tail _ ?_))⟩⟩⟩⟩⟩⟩⟩⟩⟩⟩⟩)
          (case hkb_z_i3 => exact List.forall_mem_cons.mpr ⟨rfl, fun _ h => nomatch h⟩)
          (case hrb_z_i3 => (intro z h2 h3; simp only [List.forall_mem_cons, List.not_mem_nil, false_implies, implies_true, and_true, ne_eq] at h2; simp only [List.contains_cons, List.contains_nil, Bool.or_false, Bool.or_eq_false_iff, beq_eq_false_iff_ne, ne_eq] at h3; simp [kstB, h2, h3]))
          (case hmb_z_i3 => (dsimp only; rw [lv]; simp))
          exact ⟨sg7, (fun _ h => nomatch h), by dsimp only [List.length_nil]; omega, .inr ⟨rfl, rfl, er6.symm⟩⟩
      · (rename (Builtin.Str.occurrences _ _ _ _ _).isEmpty = _ => a1)
        rw [if_pos (inWs_t a1)] at er
        refine ksw_end ⟨true, ciObj q tq, vs5, wr, ln5, n55, ep5, c.tok, c.tt⟩ (by k_asm) (by k_asm) ?hnb trivial ?hkb ?hrb ?hpb ?hmb
        (case hnb => exact List.forall_mem_cons.mpr ⟨by k_mem, List.forall_mem_cons.mpr ⟨by k_mem, List.forall_mem_cons.mpr ⟨by k_mem, List.forall_mem_cons.mpr ⟨by k_mem, List.forall_mem_cons.mpr ⟨by k_mem, List.forall_mem_cons.mpr ⟨by k_mem, List.forall_mem_cons.mpr ⟨by k_mem, List.forall_mem_cons.mpr ⟨by k_mem, List.forall_mem_cons.mpr ⟨by k_mem, List.forall_mem_cons.mpr ⟨by k_mem, List.forall_mem_cons.mpr ⟨by k_mem, fun p hp => by (repeat (first | exact hp | refine List.Mem.tail _ ?_))⟩⟩⟩⟩⟩⟩⟩⟩⟩⟩⟩)
        (case hkb => exact List.forall_mem_cons.mpr ⟨rfl, fun _ h => nomatch h⟩)
        (case hrb => (intro z h2 h3; simp only [List.forall_mem_cons, List.not_mem_nil, false_implies, implies_true, and_true, ne_eq] at h2; simp only [List.contains_cons, List.contains_nil, Bool.or_false, Bool.or_eq_false_iff, beq_eq_false_iff_ne, ne_eq] at h3; simp [kstB, h2, h3]))
        (case hmb => (dsimp only; rw [lv]; simp only [if_true]; omega))
        exact ⟨sg5, on5, by dsimp only; omega, .inl ⟨rfl, rfl, er⟩⟩
    case done =>
      intro vs5 ln5 n55 ep5 h5 tk5 ew F5 N5 sg5
      rw [ew, gO] at er
      rw [← er] at ret
      k_steps
      exact ret _ _ _ _ _ _ _ (by k_asm) (cb_drop (by k_asm) (List.forall_mem_cons.mpr ⟨by k_mem, List.forall_mem_cons.mpr ⟨by k_mem, List.forall_mem_cons.mpr ⟨by k_mem, List.forall_mem_cons.mpr ⟨by k_mem, List.forall_mem_cons.mpr ⟨by k_mem, List.forall_mem_cons.mpr ⟨by k_mem, List.forall_mem_cons.mpr ⟨by k_mem, List.forall_mem_cons.mpr ⟨by k_mem, List.forall_mem_cons.mpr ⟨by k_mem, fun p hp => by (repeat (first | exact hp | refine List.Mem.tail _ ?_))⟩⟩⟩⟩⟩⟩⟩⟩⟩)) sg5
  · rw [eo] at N4
    refine ci_ended rfl (N4 _ (List.mem_cons_self ..)).1 (fun h5 g5 x5 => ?_)
    (try dsimp only at x5 ⊢)
    rw [er] at ret
    have nI := (N4 _ (List.mem_cons_self ..)).2
    have F5 := fr_extBut F4 x5 (Ne.symm nI.1) nI.2
    have N5 := news_extBut (cb_drop (news := ((pb, W.listOf ([]).toArray ep) :: (x, instObj 101 dx) :: (dx, (dictOf [{ hash := PyData.keyHash w.params ("lineno" : Str), key := .str ("lineno" : Str) n1, val := .int c.ln c.n5 }, { hash := PyData.keyHash w.params ("instream" : Str), key := .str ("instream" : Str) n2, val := .ref fS }, { hash := PyData.keyHash w.params ("whitespace" : Str), key := .str ("whitespace" : Str) n3, val := .str wsp n6 }, { hash := PyData.keyHash w.params ("pushback" : Str), key := .str ("pushback" : Str) n4, val := .ref pb }] 4)) :: (dS, dictOf [{ hash := PyData.keyHash w.params ("read" : Str), key := .str ("read" : Str) n7, val := .ref r }] 1) :: (fS, ({ cls := .type "function", dict := some dS, data := .func fd } : Obj)) :: (r, fnMade nm qu ps bd sc [(("signs" : Str), cS)] dc pm cr ct) :: (cr, oc) :: (cS, oS) :: (S, W.listOf (c.vs).toArray c.ep) :: rest)) N4 (List.forall_mem_cons.mpr ⟨by k_mem, List.forall_mem_cons.mpr ⟨by k_mem, List.forall_mem_cons.mpr ⟨by k_mem, List.forall_mem_cons.mpr ⟨by k_mem, List.forall_mem_cons.mpr ⟨by k_mem, List.forall_mem_cons.mpr ⟨by k_mem, List.forall_mem_cons.mpr ⟨by k_mem, List.forall_mem_cons.mpr ⟨by k_mem, List.forall_mem_cons.mpr ⟨by k_mem, fun p hp => by (repeat (first | exact hp | refine List.Mem.tail _ ?_))⟩⟩⟩⟩⟩⟩⟩⟩⟩)) x5 (List.forall_mem_cons.mpr ⟨by refine neN ?_; dsimp only; omega, List.forall_mem_cons.mpr ⟨by refine neN ?_; dsimp only; omega, List.forall_mem_cons.mpr ⟨by refine neN ?_; dsimp only; omega, List.forall_mem_cons.mpr ⟨by refine neN ?_; dsimp only; omega, List.forall_mem_cons.mpr ⟨by refine neN ?_; dsimp only; omega, List.forall_mem_cons.mpr ⟨by refine neN ?_; dsimp only; omega, List.forall_mem_cons.mpr ⟨by refine neN ?_; dsimp only; omega, List.forall_mem_cons.mpr ⟨by refine neN ?_; dsimp only; omega, List.forall_mem_cons.mpr ⟨by refine neN ?_; dsimp only; omega, fun p hp => Nat.ne_of_lt (allLt_to lI.2.2.2.2.2.2.2.2.2.2 p hp)⟩⟩⟩⟩⟩⟩⟩⟩⟩)
    clear F4 N4
    k_steps
    exact ret _ _ _ _ _ _ _ (by k_asm) (by k_asm) sg4
end
section
local macro_rules | `(tactic| walk_at "call builtin:len") => `(tactic| (k_here; k_dflt (refine' len_L ?N ?m ?f ?_; (case N => k_asm); (case m => k_mem); (case f => omega); k_whole)))
local macro_rules | `(tactic| walk_at "call builtin:str.split") => `(tactic| refine Halt.of ?_)
local macro_rules | `(tactic| walk_at "exec For Name Name cons nil") => `(tactic| refine Halt.of ?_)
local macro_rules | `(tactic| walk_at "call builtin:str.find") => `(tactic| refine Halt.of ?_)
local macro_rules | `(tactic| walk_at "subscriptTail") => `(tactic| refine Halt.of ?_)
local macro_rules | `(tactic| walk_at "pyIter ref") => `(tactic| refine Halt.of ?_)
theorem fr_int' {h₀ h : Heap} {L : Addr} {m : Str → Option Value} {x : Str} {i : Int} (_ : Fr h₀ L h m) (e : ∃ t, m x = some (.int i t)) : ∃ t, m x = some (.int i t) := e
structure EmSt where
  i : Nat
  o : Obj
  p : Int
  tp : Tok
theorem sa_item {vs : List Value} {ws : List Str} (h : StrsAre vs ws) : ∀ (i : Nat) (c : Str), ws[i]? = some c → ∃ t, vs[i]? = some (.str c t) := by
  induction h with
  | nil => intro i c h; simp at h
  | cons y t _ ih =>
    intro i c h
    cases i with
    | zero => simp at h; exact ⟨t, by simp [h]⟩
    | succ i => simp at h; obtain ⟨t', e⟩ := ih i c h; exact ⟨t', by simpa using e⟩
theorem sa_length {vs : List Value} {ws : List Str} (h : StrsAre vs ws) : vs.length = ws.length := by
  induction h with
  | nil => rfl
  | cons _ _ _ ih => rw [List.length_cons, List.length_cons, ih]
theorem em_spec {w : World} {mg mb : Str → Option Value} {p : Program} {loose : List Str} {mean : ExcName → Option Value} {dp un : Nat} {gd : Option (List Code)} {cn : Str} {cs : Scope} {a : Addr} {ccd : Value} {cl : List (Str × Addr)} {outer : List Env} {A₀ : Around} {base h₀ : Heap} {L : Addr} {m : Str → Option Value} {s : Shared} {Q E : Value → Shared → Prop} {news : List (Addr × Obj)} {Wn G : Str} {tw tg : Tok} {mid : List Str}
  (B : Below A₀ base outer h₀) (F : Fr h₀ L s.heap m) (X : (hd1.heap_39 w.params).In h₀) (N : News h₀ L s.heap news) (T : Top p loose mean mg mb h₀) (hk : cs.kind = .function) (hd : dp + 60 < recursionLimit) (hu : un + 440 < cLine)
  (hW : Wn.length ≤ 4000) (hin : (Builtin.Str.occurrences Wn ("..." : Str) 0 Wn.length 1).isEmpty = false) (hG : G.length ≤ 4000) (hsp : Txt.split Wn ("..." : Str) = ("" : Str) :: (mid ++ [("" : Str)])) (hm : mid.length ≤ 4000) (hm1 : ∀ c ∈ mid, c.length ≤ 4000)
  (ret : ∀ h' tk', Fr h₀ L h' m → News h₀ L h' news → Q (.bool (emScan G (("" : Str) :: (mid ++ [("" : Str)])) 0)) { s with heap := h', toks := tk' }) :
  wpAny (model PySem.Challenge.pw_pg0212_01 w) (ktrTop dp un gd cn cs L a ccd cl outer) (call (.ref 21) [.str Wn tw, .str G tg]) Q E s := by
  refine wpAny_call ?_
  k_dflt (first
  | cell_enter
  | (refine' code_def ?k1 ?k2 ?k3 ?k4 ?k5 ?kA ?kF ?kK ?k6 ?k7 ?k8 ?k9 ?kB ?_ ?c2 ?c3 ?c4 ?c5; (case kA => exact rfl); (case kF => exact rfl); (case kK => first | assumption | exact rfl); (case k1 => k_asm); (case k2 => k_asm); (case k3 => k_asm); (case k4 => k_asm); (case k5 => k_asm); (case k6 => k_is); (case k7 => k_is); (case k8 => ktr_room); (case k9 => first | exact BindsTo.of_eq rfl | exact binds_K (by k_in) rfl (by k_is) rfl rfl rfl | fail "k_enter: no rule for these arguments"); (case c5 => decide); (case kB => exact locs rfl); (case c2 => exact rfl); (case c3 => exact rfl); (case c4 => exact rfl); k_whole; intro g' L' h' FG' F' N' B' X' T'; (try dsimp only); (try k_lift B'); (try k_fold))
  | (refine' code_defC ?k1 ?k2 ?k3 ?k4 ?k5 ?kA ?kF ?kK ?k6 ?k7 ?k8 ?k9 ?kB ?kD ?_ ?c2 ?c3 ?c4; (case kA => exact rfl); (case kF => exact rfl); (case kK => first | assumption | exact rfl); (case k1 => k_asm); (case k2 => k_asm); (case k3 => k_asm); (case k4 => k_asm); (case k5 => k_asm); (case k6 => k_is); (case k7 => k_is); (case k8 => ktr_room); (case k9 => first | exact BindsTo.of_eq rfl | exact binds_K (by k_in) rfl (by k_is) rfl rfl rfl | fail "k_enter: no rule for these arguments"); (case kB => exact rfl); (case kD => decide +kernel); (case c2 => exact rfl); (case c3 => exact rfl); (case c4 => exact rfl); k_whole; intro g9 L9 h9 tk9 cells9 FG9 F9 N9 Y9 B9 X9 T9 l9; (try k_lt l9); k_cells Y9; (try simp only [List.cons_append, List.nil_append] at N9); (try dsimp only); (try k_lift B9); (try k_fold)))
  k_steps
  unfold Halt
  refine' KSpl.split1 ?F1 ?N1 (by decide) ?_ ?z1
  (case F1 => k_asm)
  (case N1 => k_asm)
  (case z1 => rw [PySem.sizeLine_eq]; omega)
  intro D l h1 k1 e1 a1 F1 N1 l1
  rw [hsp] at e1
  rw [e1] at a1
  obtain ⟨vl, hvl⟩ : ∃ vl, PySem.strValues l = vl := ⟨_, rfl⟩
  rw [hvl] at a1 N1
  have hlen : vl.length = mid.length + 2 := by rw [sa_length a1, List.length_cons, List.length_append]; rfl
  obtain ⟨t0, i0⟩ := sa_item a1 0 ("" : Str) rfl
  obtain ⟨t9, i9⟩ := sa_item a1 (mid.length + 1) ("" : Str) (by simp)
  k_steps
  unfold Halt
  refine' tail_any (News.isList (a := D) (items := vl.toArray) ?N2 ?m2).typeIs slot_list_getitem.lookup (wpAny_getItem_list (News.isList (a := D) (items := vl.toArray) ?N3 ?m3) (by decide) (by decide) (x := .str ("" : Str) t0) ?x3 ?_) (by with_unfolding_all rfl)
  (case N2 => k_asm)
  (case m2 => k_mem)
  (case N3 => k_asm)
  (case m3 => k_mem)
  (case x3 => simpa using i0)
  k_steps
  unfold Halt
  refine' tail_any (News.isList (a := D) (items := vl.toArray) ?N4 ?m4).typeIs slot_list_getitem.lookup (wpAny_getItem_list_neg (News.isList (a := D) (items := vl.toArray) ?N5 ?m5) (by decide) ?b5 (by decide) (x := .str ("" : Str) t9) ?x5 ?_) (by with_unfolding_all rfl)
  (case N4 => k_asm)
  (case m4 => k_mem)
  (case N5 => k_asm)
  (case m5 => k_mem)
  (case b5 => rw [List.size_toArray]; omega)
  (case x5 => rw [List.size_toArray, hlen, show ((-1 : Int) + ((mid.length + 2 : Nat) : Int)).toNat = mid.length + 1 by omega]; simpa using i9)
  k_steps
  unfold Halt
  refine wpAny_For ?_
  k_steps
  unfold Halt
  refine' li_make (D := D) ?F6 ?N6 ?m6 ?_
  (case F6 => k_asm)
  (case N6 => k_asm)
  (case m6 => k_mem)
  intro I o0 h7 F7 N7 lo0 lt7
  have nI : ∀ p ∈ news, p.1 ≠ I := fun p hp => Nat.ne_of_lt (lt7 p (.tail _ (.tail _ hp)))
  k_lt lt7
  (try dsimp only)
  obtain ⟨ts, hts⟩ := fr_int' (x := ("startpos" : Str)) (i := 0) F7 ⟨_, rfl⟩
  obtain ⟨te, hte⟩ := fr_int' (x := ("endpos" : Str)) (i := (G.length : Int)) F7 ⟨_, rfl⟩
  refine' forI (L := _) (fun c : EmSt => (I, c.o) :: (D, W.listOf vl.toArray 0) :: news) (fun c => [("startpos", .int c.p c.tp)]) ["w"]
    (fun c => c.i ≤ mid.length + 2 ∧ LiAt c.o D c.i ∧ 0 ≤ c.p ∧ c.p ≤ 10000000 ∧ emScan G ((("" : Str) :: (mid ++ [("" : Str)])).drop c.i) c.p = emScan G (("" : Str) :: (mid ++ [("" : Str)])) 0)
    (fun c => mid.length + 2 - c.i) ⟨0, o0, 0, ts⟩ ?F9 ?N9 ?hk9 ?hr9 ?hp9 ?turn9
  (case F9 => exact F7)
  (case N9 => exact cb_drop N7 (List.forall_mem_cons.mpr ⟨by k_mem, List.forall_mem_cons.mpr ⟨by k_mem, fun p hp => by (repeat (first | exact hp | refine List.Mem.tail _ ?_))⟩⟩))
  (case hk9 => exact List.forall_mem_cons.mpr ⟨hts, fun _ h => nomatch h⟩)
  (case hr9 => exact fun z _ _ => rfl)
  (case hp9 => exact ⟨Nat.zero_le _, lo0, Int.le_refl 0, (by show (0 : Int) ≤ 10000000; decide), rfl⟩)
  intro c u h4 tk4 P4 F4 N4
  obtain ⟨hi4, lo4, p0, p1, er4⟩ := P4
  by_cases hlast : c.i < mid.length + 2
  · obtain ⟨x, hx⟩ : ∃ x, (("" : Str) :: (mid ++ [("" : Str)]))[c.i]? = some x := by
      rw [List.getElem?_eq_getElem (by simp; omega)]; exact ⟨_, rfl⟩
    obtain ⟨tx, hvx⟩ := sa_item a1 _ _ hx
    have hdrop : (("" : Str) :: (mid ++ [("" : Str)])).drop c.i = x :: (("" : Str) :: (mid ++ [("" : Str)])).drop (c.i + 1) := by
      have hl : c.i < (("" : Str) :: (mid ++ [("" : Str)])).length := by simp; omega
      rw [List.drop_eq_getElem_cons hl]
      rw [List.getElem?_eq_getElem hl] at hx
      rw [Option.some.inj hx]
    have hxl : x.length ≤ 4000 := by
      have := List.mem_of_getElem? hx
      rcases List.mem_cons.mp this with rfl | h
      · exact Nat.zero_le _
      · rcases List.mem_append.mp h with h | h
        · exact hm1 x h
        · rw [List.mem_singleton.mp h]; exact Nat.zero_le _
    rw [hdrop, emScan] at er4
    have hf3 := PyProof.Rows.fact_find3 G x c.p
    refine li_item (D := D) F4 N4 (by k_updF) lo4 (by k_mem) hvx (fun h5 o5 F5 N5 lo5 => ?_)
    (try dsimp only at N5 ⊢)
    k_steps
    unfold Halt
    refine find4 ?_
    (try dsimp only)
    obtain ⟨fv, hfv⟩ : ∃ fv, Txt.find3 G x c.p = fv := ⟨_, rfl⟩
    rw [hfv] at er4 hf3
    rw [hfv]
    k_steps
    · (rename fv < 0 => n9)
      rw [if_pos n9] at er4
      rw [← er4] at ret
      exact ret _ _ (by k_asm) (cb_drop (by k_asm) (fun p hp => .tail _ (.tail _ hp)))
    · (rename ¬ fv < 0 => n9)
      rw [if_neg n9] at er4
      (rename Fr _ _ _ _ => F6)
      obtain ⟨t6, ht6⟩ := fr_int' (x := ("startpos" : Str)) (i := fv + (x.length : Int)) F6 ⟨_, rfl⟩
      refine ksw_end ⟨c.i + 1, o5, fv + x.length, t6⟩ (by k_asm) (by k_asm) ?hnb trivial ?hkb ?hrb ?hpb ?hmb
      (case hnb => exact fun p hp => by (repeat (first | exact hp | refine List.Mem.tail _ ?_)))
      (case hkb => exact List.forall_mem_cons.mpr ⟨ht6, fun _ h => nomatch h⟩)
      (case hrb => (intro z h2 h3; simp only [List.forall_mem_cons, List.not_mem_nil, false_implies, implies_true, and_true, ne_eq] at h2; simp only [List.contains_cons, List.contains_nil, Bool.or_false, Bool.or_eq_false_iff, beq_eq_false_iff_ne, ne_eq] at h3; simp [kstB, h2, h3]))
      (case hmb => (dsimp only; omega))
      exact ⟨by dsimp only; omega, lo5, by dsimp only; omega, by dsimp only; omega, er4⟩
  · refine li_end (D := D) rfl F4 N4 (by k_mem) lo4 (by k_mem) (by omega) (nx := news) (fun p hp => .tail _ (.tail _ hp)) nI (fun h5 F5 N5 => ?_)
    · rw [List.drop_eq_nil_of_le (by simp; omega), emScan] at er4
      rw [← er4] at ret
      (try dsimp only)
      k_steps
      exact ret _ _ (by k_asm) (by k_asm)
end
section
local macro_rules | `(tactic| walk_at "binaryOp Add ref ref") => `(tactic| refine Halt.of ?_)
local macro_rules | `(tactic| walk_at "binaryOp Mult ref int") => `(tactic| refine Halt.of ?_)
local macro_rules | `(tactic| walk_at "call ref") => `(tactic| with_reducible refine haltC ?_)
local macro_rules | `(tactic| walk_at "exec") => `(tactic| with_reducible refine haltWh ?_)
theorem mid_out {α : Type} {x : α} {a b r : List α} : ∀ p ∈ x :: (a ++ (b ++ r)), p ∈ a ++ (b ++ (x :: r)) := fun p hp => by
  simp only [List.mem_append, List.mem_cons] at hp ⊢
  rcases hp with h | h | h | h <;> simp [h]
theorem mid_in {α : Type} {x : α} {a b r : List α} : ∀ p ∈ a ++ (b ++ (x :: r)), p ∈ x :: (a ++ (b ++ r)) := fun p hp => by
  simp only [List.mem_append, List.mem_cons] at hp ⊢
  rcases hp with h | h | h | h <;> simp [h]
theorem dj_in {tb td rest : List (Addr × Obj)} {y : Addr × Obj} (h : ∀ p ∈ tb, ∀ q ∈ td ++ rest, p.1 ≠ q.1) (hn : ∀ p ∈ tb ++ (td ++ rest), p.1 ≠ y.1) : ∀ p ∈ tb, ∀ q ∈ td ++ (y :: rest), p.1 ≠ q.1 := fun p hp q hq => by
  rcases List.mem_append.mp hq with hq | hq
  · exact h p hp q (List.mem_append.mpr (.inl hq))
  · rcases List.mem_cons.mp hq with rfl | hq
    · exact hn p (List.mem_append.mpr (.inl hp))
    · exact h p hp q (List.mem_append.mpr (.inr hq))
theorem dk_in {tb td rest : List (Addr × Obj)} {y : Addr × Obj} (h : ∀ p ∈ td, ∀ q ∈ rest, p.1 ≠ q.1) (hn : ∀ p ∈ tb ++ (td ++ rest), p.1 ≠ y.1) : ∀ p ∈ td, ∀ q ∈ (y :: rest), p.1 ≠ q.1 := fun p hp q hq => by
  rcases List.mem_cons.mp hq with rfl | hq
  · exact hn p (List.mem_append.mpr (.inr (List.mem_append.mpr (.inl hp))))
  · exact h p hp q hq
def toldN : Nat → Nat → Nat → Option (List Nat)
  | 0, _, _ => none
  | f + 1, o, e => if o + e = 0 then some [] else if e < o then (toldN f (o % (e + 1)) e).map (List.replicate (o / (e + 1)) 1 ++ ·) else if o = 0 then none else (toldN f o (e % o)).map (List.replicate (e / o) 0 ++ ·)
structure ToSt where
  I : Addr
  vs : List Value
  ep : Nat
  o : Nat
  e : Nat
  to : Tok
  te : Tok
  acc : List Nat
  tb : List (Addr × Obj)
  td : List (Addr × Obj)
  f : Nat
  r : List Nat
theorem rep_one (k : Nat) (z : Int) : (List.replicate k [z]).flatten = List.replicate k z := by
  induction k with
  | zero => rfl
  | succ k ih => rw [List.replicate_succ, List.replicate_succ, List.flatten_cons, ih]; rfl
theorem told_spec {w : World} {mg mb : Str → Option Value} {p : Program} {loose : List Str} {mean : ExcName → Option Value} {dp un : Nat} {gd : Option (List Code)} {cn : Str} {cs : Scope} {a : Addr} {ccd : Value} {cl : List (Str × Addr)} {outer : List Env} {A₀ : Around} {base h₀ : Heap} {L : Addr} {m : Str → Option Value} {s : Shared} {Q E : Value → Shared → Prop} {oN eN : Nat} {tx ty : Tok} {tb td rest : List (Addr × Obj)} {f : Nat} {r : List Nat}
  (B : Below A₀ base outer h₀) (F : Fr h₀ L s.heap m) (X : (hd1.heap_39 w.params).In h₀) (N : News h₀ L s.heap (tb ++ (td ++ rest))) (T : Top p loose mean mg mb h₀) (hk : cs.kind = .function) (hd : dp + 150 < recursionLimit) (hu : un + 1300 < cLine)
  (ti : TabI2 tb) (td2 : TabD2 td) (dj1 : ∀ p ∈ tb, ∀ q ∈ td ++ rest, p.1 ≠ q.1) (dj2 : ∀ p ∈ td, ∀ q ∈ rest, p.1 ≠ q.1) (CI : CodeHd base 41 37) (CD : CodeHd base 48 44) (ho : oN ≤ 1000) (he : eN ≤ 1000) (hr : toldN f oN eN = some r) (hl : r.length ≤ 1000)
  (ret : ∀ I vs ep tb' td' h' tk', Fr h₀ L h' m → News h₀ L h' ((I, W.listOf vs.toArray ep) :: (tb' ++ (td' ++ rest))) → IntsAre vs (r.map Int.ofNat) → TabI2 tb' → TabD2 td' → (∀ p ∈ tb', ∀ q ∈ td' ++ rest, p.1 ≠ q.1) → (∀ p ∈ td', ∀ q ∈ rest, p.1 ≠ q.1) → (∀ p ∈ tb' ++ (td' ++ rest), p.1 ≠ I) → Q (.ref I) { s with heap := h', toks := tk' }) :
  wpAny (model PySem.Challenge.pw_pg0212_01 w) (ktrTop dp un gd cn cs L a ccd cl outer) (call (.ref 148) [.int (oN : Int) tx, .int (eN : Int) ty]) Q E s := by
  refine wpAny_call ?_
  k_dflt (first
  | cell_enter
  | (refine' code_def ?k1 ?k2 ?k3 ?k4 ?k5 ?kA ?kF ?kK ?k6 ?k7 ?k8 ?k9 ?kB ?_ ?c2 ?c3 ?c4 ?c5; (case kA => exact rfl); (case kF => exact rfl); (case kK => first | assumption | exact rfl); (case k1 => k_asm); (case k2 => k_asm); (case k3 => k_asm); (case k4 => k_asm); (case k5 => k_asm); (case k6 => k_is); (case k7 => k_is); (case k8 => ktr_room); (case k9 => first | exact BindsTo.of_eq rfl | exact binds_K (by k_in) rfl (by k_is) rfl rfl rfl | fail "k_enter: no rule for these arguments"); (case c5 => decide); (case kB => exact locs rfl); (case c2 => exact rfl); (case c3 => exact rfl); (case c4 => exact rfl); k_whole; intro g' L' h' FG' F' N' B' X' T'; (try dsimp only); (try k_lift B'); (try k_fold))
  | (refine' code_defC ?k1 ?k2 ?k3 ?k4 ?k5 ?kA ?kF ?kK ?k6 ?k7 ?k8 ?k9 ?kB ?kD ?_ ?c2 ?c3 ?c4; (case kA => exact rfl); (case kF => exact rfl); (case kK => first | assumption | exact rfl); (case k1 => k_asm); (case k2 => k_asm); (case k3 => k_asm); (case k4 => k_asm); (case k5 => k_asm); (case k6 => k_is); (case k7 => k_is); (case k8 => ktr_room); (case k9 => first | exact BindsTo.of_eq rfl | exact binds_K (by k_in) rfl (by k_is) rfl rfl rfl | fail "k_enter: no rule for these arguments"); (case kB => exact rfl); (case kD => decide +kernel); (case c2 => exact rfl); (case c3 => exact rfl); (case c4 => exact rfl); k_whole; intro g9 L9 h9 tk9 cells9 FG9 F9 N9 Y9 B9 X9 T9 l9; (try k_lt l9); k_cells Y9; (try simp only [List.cons_append, List.nil_append] at N9); (try dsimp only); (try k_lift B9); (try k_fold)))
  k_steps
  unfold Halt
  (rename ∀ p ∈ tb ++ (td ++ rest), _ => lI)
  (rename Fr _ _ _ _ => F2)
  (rename News _ _ _ _ => N2)
  refine' ksw_while (fun c : ToSt => (c.I, W.listOf c.vs.toArray c.ep) :: (c.tb ++ (c.td ++ rest))) (fun c => [("odd", .int (c.o : Int) c.to), ("even", .int (c.e : Int) c.te), ("bits", .ref c.I)]) (fun _ => True) ["run"]
    (fun c => IntsAre c.vs (c.acc.map Int.ofNat) ∧ TabI2 c.tb ∧ TabD2 c.td ∧ (∀ p ∈ c.tb, ∀ q ∈ c.td ++ rest, p.1 ≠ q.1) ∧ (∀ p ∈ c.td, ∀ q ∈ rest, p.1 ≠ q.1) ∧ (∀ p ∈ c.tb ++ (c.td ++ rest), p.1 ≠ c.I) ∧ toldN c.f c.o c.e = some c.r ∧ c.acc ++ c.r = r ∧ c.o ≤ 1000 ∧ c.e ≤ 1000)
    (fun c => c.f) ⟨_, [], 0, oN, eN, tx, ty, [], tb, td, f, r⟩ ?F ?N trivial ?hk ?hp ?turn
  (case F => exact F2)
  (case N => exact N2)
  (case hk => exact List.forall_mem_cons.mpr ⟨rfl, List.forall_mem_cons.mpr ⟨rfl, List.forall_mem_cons.mpr ⟨rfl, fun _ h => nomatch h⟩⟩⟩)
  (case hp => exact ⟨.nil, ti, td2, dj1, dj2, fun p hp => Nat.ne_of_lt (lI p hp), hr, rfl, ho, he⟩)
  case turn =>
    intro c u h4 tk4 _ P4 F4 N4
    obtain ⟨iv4, ti4, td4, dj4, dk4, ne4, er4, ac4, bo4, be4⟩ := P4
    have hcf : c.f = c.f - 1 + 1 := by
      cases hcf0 : c.f with
      | zero => rw [hcf0, toldN] at er4; cases er4
      | succ n => rfl
    rw [hcf, toldN] at er4
    have hq1 : c.o / (c.e + 1) ≤ 1000 := Nat.le_trans (Nat.div_le_self _ _) bo4
    have hq2 : c.e / c.o ≤ 1000 := Nat.le_trans (Nat.div_le_self _ _) be4
    have hr1 : c.o % (c.e + 1) ≤ 1000 := Nat.le_trans (Nat.mod_le _ _) bo4
    have hr2 : c.e % c.o ≤ 1000 := Nat.le_trans (Nat.mod_le _ _) be4
    have hac : c.acc.length + c.r.length ≤ 1000 := by rw [← List.length_append, ac4]; exact hl
    k_steps
    · rw [if_neg (by omega), if_pos (by omega)] at er4
      obtain ⟨qn, hqn⟩ : ∃ qn, c.o / (c.e + 1) = qn := ⟨_, rfl⟩
      obtain ⟨rn, hrn⟩ : ∃ rn, c.o % (c.e + 1) = rn := ⟨_, rfl⟩
      rw [hqn] at er4 hq1
      rw [hrn] at er4 hr1
      obtain ⟨r9, e9, f9⟩ := Option.map_eq_some_iff.mp er4
      unfold Halt
      refine' idm_spec (A := c.o) (Bn := c.e + 1) (tb := c.tb) (td := c.td) (rest := (c.I, W.listOf c.vs.toArray c.ep) :: rest) ?Bap ?Fap ?Xap ?Nap ?Tap ?hkap ?hdap ?huap ti4 td4 ?djap ?djbp CI CD rfl (by omega) ?hpap ?hsap ?htap ?retap
      (case Bap => k_asm)
      (case Fap => k_asm)
      (case Xap => k_asm)
      (case Nap => exact cb_drop (by k_asm) mid_in)
      (case Tap => k_asm)
      (case hkap => exact rfl)
      (case hdap => (simp only [recursionLimit] at *; omega))
      (case huap => (simp only [cLine_is] at *; omega))
      (case djap => exact dj_in dj4 ne4)
      (case djbp => exact dk_in dk4 ne4)
      (case hpap => omega)
      (case hsap => omega)
      (case htap => omega)
      intro T9 t1 t2 tb5 td5 h5 tk5 F5 N5 ti5 tj5 dj5 dk5 ne5
      rw [hqn, hrn] at N5
      have N6 := cb_drop (news := (T9, _) :: (c.I, W.listOf c.vs.toArray c.ep) :: (tb5 ++ (td5 ++ rest))) N5 (List.forall_mem_cons.mpr ⟨.head _, fun p hp => .tail _ (mid_out p hp)⟩)
      clear N5
      (try dsimp only)
      k_steps
      unfold Halt
      refine' KM.mul (ns := [1]) ?Fbp ?Nbp ?lbp (.cons _ _ .nil) ?lobp ?hibp ?szbp ?_
      (case Fbp => k_asm)
      (case Nbp => k_asm)
      (case lbp => kmk_list)
      (case lobp => omega)
      (case hibp => omega)
      (case szbp => (rw [List.length_singleton, Int.toNat_natCast]; omega))
      intro D9 h9 F9 N9 l9 i9 _ _ _ _ _
      rw [rep_one, Int.toNat_natCast] at i9
      k_steps
      unfold Halt
      refine' kmk_add_ints (a := c.I) (b := D9) ?Fcp ?Ncp ?acp ?bcp iv4 i9 ?_ ?zcp
      (case Fcp => k_asm)
      (case Ncp => k_asm)
      (case acp => exact News.isList (by k_asm) (by k_mem))
      (case bcp => exact News.isList (by k_asm) (by k_mem))
      (case zcp => (simp only [PySem.sizeLine_eq, List.length_map, List.length_replicate]; omega))
      intro D8 ws8 h8 F8 N8 l8 i8
      have neD : ∀ p ∈ tb5 ++ (td5 ++ rest), p.1 ≠ D8 := fun p hp => Nat.ne_of_lt (l8 p (by repeat (first | exact hp | refine List.Mem.tail _ ?_)))
      clear l8
      k_steps
      (rename Fr _ _ _ _ => F7)
      obtain ⟨to7, hto7⟩ := fr_int (x := ("odd" : Str)) (i := ((rn : Nat) : Int)) F7 ⟨_, rfl⟩
      obtain ⟨te7, hte7⟩ := fr_int (x := ("even" : Str)) (i := ((c.e : Nat) : Int)) F7 ⟨_, rfl⟩
      refine ksw_end ⟨D8, ws8, 0, rn, c.e, to7, te7, c.acc ++ List.replicate qn 1, tb5, td5, c.f - 1, r9⟩ (by k_asm) (by k_asm) ?hnbp trivial ?hkbp ?hrbp ?hpbp ?hmbp
      (case hnbp => exact List.forall_mem_cons.mpr ⟨by k_mem, fun p hp => by (repeat (first | exact hp | refine List.Mem.tail _ ?_))⟩)
      (case hkbp => exact List.forall_mem_cons.mpr ⟨hto7, List.forall_mem_cons.mpr ⟨hte7, List.forall_mem_cons.mpr ⟨rfl, fun _ h => nomatch h⟩⟩⟩)
      (case hrbp => (intro z h2 h3; simp only [List.forall_mem_cons, List.not_mem_nil, false_implies, implies_true, and_true, ne_eq] at h2; simp only [List.contains_cons, List.contains_nil, Bool.or_false, Bool.or_eq_false_iff, beq_eq_false_iff_ne, ne_eq] at h3; simp [kstB, h2, h3]))
      (case hmbp => (dsimp only; omega))
      refine ⟨?_, ti5, tj5, fun p hp q hq => dj5 p hp q (List.mem_append.mpr ((List.mem_append.mp hq).imp id (.tail _))), fun p hp q hq => dk5 p hp q (.tail _ hq), neD, e9, ?_, ?_, ?_⟩
      · dsimp only
        rw [List.map_append, List.map_replicate]
        exact i8
      · dsimp only
        rw [List.append_assoc, f9]; exact ac4
      · dsimp only; omega
      · dsimp only; omega
    · rw [if_neg (by omega), if_neg (by omega)] at er4
      have o0 : c.o ≠ 0 := fun h0 => by rw [if_pos h0] at er4; cases er4
      rw [if_neg o0] at er4
      obtain ⟨qn, hqn⟩ : ∃ qn, c.e / c.o = qn := ⟨_, rfl⟩
      obtain ⟨rn, hrn⟩ : ∃ rn, c.e % c.o = rn := ⟨_, rfl⟩
      rw [hqn] at er4 hq2
      rw [hrn] at er4 hr2
      obtain ⟨r9, e9, f9⟩ := Option.map_eq_some_iff.mp er4
      unfold Halt
      refine' idm_spec (A := c.e) (Bn := c.o) (tb := c.tb) (td := c.td) (rest := (c.I, W.listOf c.vs.toArray c.ep) :: rest) ?Bam ?Fam ?Xam ?Nam ?Tam ?hkam ?hdam ?huam ti4 td4 ?djam ?djbm CI CD rfl rfl ?hpam ?hsam ?htam ?retam
      (case Bam => k_asm)
      (case Fam => k_asm)
      (case Xam => k_asm)
      (case Nam => exact cb_drop (by k_asm) mid_in)
      (case Tam => k_asm)
      (case hkam => exact rfl)
      (case hdam => (simp only [recursionLimit] at *; omega))
      (case huam => (simp only [cLine_is] at *; omega))
      (case djam => exact dj_in dj4 ne4)
      (case djbm => exact dk_in dk4 ne4)
      (case hpam => omega)
      (case hsam => omega)
      (case htam => omega)
      intro T9 t1 t2 tb5 td5 h5 tk5 F5 N5 ti5 tj5 dj5 dk5 ne5
      rw [hqn, hrn] at N5
      have N6 := cb_drop (news := (T9, _) :: (c.I, W.listOf c.vs.toArray c.ep) :: (tb5 ++ (td5 ++ rest))) N5 (List.forall_mem_cons.mpr ⟨.head _, fun p hp => .tail _ (mid_out p hp)⟩)
      clear N5
      (try dsimp only)
      k_steps
      unfold Halt
      refine' KM.mul (ns := [0]) ?Fbm ?Nbm ?lbm (.cons _ _ .nil) ?lobm ?hibm ?szbm ?_
      (case Fbm => k_asm)
      (case Nbm => k_asm)
      (case lbm => kmk_list)
      (case lobm => omega)
      (case hibm => omega)
      (case szbm => (rw [List.length_singleton, Int.toNat_natCast]; omega))
      intro D9 h9 F9 N9 l9 i9 _ _ _ _ _
      rw [rep_one, Int.toNat_natCast] at i9
      k_steps
      unfold Halt
      refine' kmk_add_ints (a := c.I) (b := D9) ?Fcm ?Ncm ?acm ?bcm iv4 i9 ?_ ?zcm
      (case Fcm => k_asm)
      (case Ncm => k_asm)
      (case acm => exact News.isList (by k_asm) (by k_mem))
      (case bcm => exact News.isList (by k_asm) (by k_mem))
      (case zcm => (simp only [PySem.sizeLine_eq, List.length_map, List.length_replicate]; omega))
      intro D8 ws8 h8 F8 N8 l8 i8
      have neD : ∀ p ∈ tb5 ++ (td5 ++ rest), p.1 ≠ D8 := fun p hp => Nat.ne_of_lt (l8 p (by repeat (first | exact hp | refine List.Mem.tail _ ?_)))
      clear l8
      k_steps
      (rename Fr _ _ _ _ => F7)
      obtain ⟨to7, hto7⟩ := fr_int (x := ("odd" : Str)) (i := ((c.o : Nat) : Int)) F7 ⟨_, rfl⟩
      obtain ⟨te7, hte7⟩ := fr_int (x := ("even" : Str)) (i := ((rn : Nat) : Int)) F7 ⟨_, rfl⟩
      refine ksw_end ⟨D8, ws8, 0, c.o, rn, to7, te7, c.acc ++ List.replicate qn 0, tb5, td5, c.f - 1, r9⟩ (by k_asm) (by k_asm) ?hnbm trivial ?hkbm ?hrbm ?hpbm ?hmbm
      (case hnbm => exact List.forall_mem_cons.mpr ⟨by k_mem, fun p hp => by (repeat (first | exact hp | refine List.Mem.tail _ ?_))⟩)
      (case hkbm => exact List.forall_mem_cons.mpr ⟨hto7, List.forall_mem_cons.mpr ⟨hte7, List.forall_mem_cons.mpr ⟨rfl, fun _ h => nomatch h⟩⟩⟩)
      (case hrbm => (intro z h2 h3; simp only [List.forall_mem_cons, List.not_mem_nil, false_implies, implies_true, and_true, ne_eq] at h2; simp only [List.contains_cons, List.contains_nil, Bool.or_false, Bool.or_eq_false_iff, beq_eq_false_iff_ne, ne_eq] at h3; simp [kstB, h2, h3]))
      (case hmbm => (dsimp only; omega))
      refine ⟨?_, ti5, tj5, fun p hp q hq => dj5 p hp q (List.mem_append.mpr ((List.mem_append.mp hq).imp id (.tail _))), fun p hp q hq => dk5 p hp q (.tail _ hq), neD, e9, ?_, ?_, ?_⟩
      · dsimp only
        rw [List.map_append, List.map_replicate]
        exact i8
      · dsimp only
        rw [List.append_assoc, f9]; exact ac4
      · dsimp only; omega
      · dsimp only; omega
    · have o0 : c.o + c.e = 0 := by omega
      rw [if_pos o0] at er4
      have h0 := Option.some.inj er4
      rw [← h0, List.append_nil] at ac4
      rw [ac4] at iv4
      exact ret _ _ _ _ _ _ _ (by k_asm) (by k_asm) iv4 ti4 td4 dj4 dk4 ne4
end
section
/-- the next token, out of those that wait or read -/
theorem tk_spec {w : World} {mg mb : Str → Option Value} {p : Program} {loose : List Str} {mean : ExcName → Option Value} {dp un : Nat} {gd : Option (List Code)} {cn : Str} {cs : Scope} {a : Addr} {ccd : Value} {cl : List (Str × Addr)} {outer : List Env} {A₀ : Around} {base h₀ : Heap} {L : Addr} {m : Str → Option Value} {s : Shared} {Q E : Value → Shared → Prop} {x dx pb dS fS r cr cS S : Addr} {oc oS : Obj} {ocv : Array Value} {toc : Tok} {fd : FuncData} {nm qu : Str} {ps : Arguments} {bd : List Stmt} {sc : Scope} {dc pm ct : Value} {ln : Int} {n1 n2 n3 n4 n5 n6 n7 : Tok} {pd vs : List Value} {ep ep2 : Nat} {wsp : Str} {rest : List (Addr × Obj)} {ws ws2 : List Str} {pw : Str} {qt : List Str}
  (B : Below A₀ base outer h₀) (F : Fr h₀ L s.heap m) (X : (hd1.heap_39 w.params).In h₀) (N : News h₀ L s.heap ((pb, W.listOf (pd).toArray ep) :: (x, instObj 101 dx) :: (dx, (dictOf [{ hash := PyData.keyHash w.params ("lineno" : Str), key := .str ("lineno" : Str) n1, val := .int ln n5 }, { hash := PyData.keyHash w.params ("instream" : Str), key := .str ("instream" : Str) n2, val := .ref fS }, { hash := PyData.keyHash w.params ("whitespace" : Str), key := .str ("whitespace" : Str) n3, val := .str wsp n6 }, { hash := PyData.keyHash w.params ("pushback" : Str), key := .str ("pushback" : Str) n4, val := .ref pb }] 4)) :: (dS, dictOf [{ hash := PyData.keyHash w.params ("read" : Str), key := .str ("read" : Str) n7, val := .ref r }] 1) :: (fS, ({ cls := .type "function", dict := some dS, data := .func fd } : Obj)) :: (r, fnMade nm qu ps bd sc [(("signs" : Str), cS)] dc pm cr ct) :: (cr, oc) :: (cS, oS) :: (S, W.listOf (vs).toArray ep2) :: rest)) (T : Top p loose mean mg mb h₀) (hk : cs.kind = .function) (hd : dp + 100 < recursionLimit) (hu : un + 800 < cLine)
  (hnd : nested PySem.Challenge.pw_pg0212_01 16 0 = some (nm, ps, bd, sc)) (hoc : oc.data = .fields ocv) (hoc1 : ocv[1]? = some (.str qu toc)) (hoS : oS.data = .cell (some (.ref S)))
  (o1 : @LT.lt Nat _ S cS) (o2 : @LT.lt Nat _ cS cr) (o3 : @LT.lt Nat _ cr r) (o4 : @LT.lt Nat _ r fS) (o5 : @LT.lt Nat _ fS dS) (o6 : @LT.lt Nat _ dS dx) (o7 : @LT.lt Nat _ dx x) (o8 : @LT.lt Nat _ x pb)
  (q1 : ∀ p ∈ rest, p.1 ≠ S) (q2 : ∀ p ∈ rest, p.1 ≠ dx) (q3 : ∀ p ∈ rest, p.1 ≠ pb)
  (hsg : SgA vs ws) (hone : ∀ c ∈ ws, c.length = 1) (hlen : ws.length ≤ 4000)
  (H : (∃ t pd0, pd = .str pw t :: pd0 ∧ StrsAre pd0 qt ∧ ws2 = ws ∧ qt.length ≤ 4000) ∨ (pd = [] ∧ qt = [] ∧ gO wsp ws ("" : Str) = (pw, ws2)))
  (ret : ∀ pd' vs' ln' n5' ep' ep2' h' tk' tr, Fr h₀ L h' m → News h₀ L h' ((pb, W.listOf (pd').toArray ep') :: (x, instObj 101 dx) :: (dx, (dictOf [{ hash := PyData.keyHash w.params ("lineno" : Str), key := .str ("lineno" : Str) n1, val := .int ln' n5' }, { hash := PyData.keyHash w.params ("instream" : Str), key := .str ("instream" : Str) n2, val := .ref fS }, { hash := PyData.keyHash w.params ("whitespace" : Str), key := .str ("whitespace" : Str) n3, val := .str wsp n6 }, { hash := PyData.keyHash w.params ("pushback" : Str), key := .str ("pushback" : Str) n4, val := .ref pb }] 4)) :: (dS, dictOf [{ hash := PyData.keyHash w.params ("read" : Str), key := .str ("read" : Str) n7, val := .ref r }] 1) :: (fS, ({ cls := .type "function", dict := some dS, data := .func fd } : Obj)) :: (r, fnMade nm qu ps bd sc [(("signs" : Str), cS)] dc pm cr ct) :: (cr, oc) :: (cS, oS) :: (S, W.listOf (vs').toArray ep2') :: rest) → StrsAre pd' qt → SgA vs' ws2 → Q (.str pw tr) { s with heap := h', toks := tk' }) :
  wpAny (model PySem.Challenge.pw_pg0212_01 w) (ktrTop dp un gd cn cs L a ccd cl outer) (call (.ref 91) [.ref x]) Q E s := by
  rcases H with ⟨t, pd0, e1, e2, e3, e4⟩ | ⟨e1, e2, e3⟩
  · subst e1 e3
    have e5 := sa_length e2
    exact gtp_spec B F X N T hk (by omega) (by omega) hnd hoc hoc1 hoS o1 o2 o3 o4 o5 o6 o7 o8 q1 q2 q3 (by omega) (fun ep' h' tk' F' N' => ret _ _ _ _ _ _ _ _ _ F' N' e2 hsg)
  · subst e1 e2
    rw [show pw = (gO wsp ws ("" : Str)).1 by rw [e3], show ws2 = (gO wsp ws ("" : Str)).2 by rw [e3]] at ret
    exact gt_spec (pd := []) B F X N T hk (by omega) (by omega) hnd hoc hoc1 hoS o1 o2 o3 o4 o5 o6 o7 o8 q1 q2 q3 hsg hone hlen (fun vs' ln' n5' ep' h' tk' tr F' N' sg' => ret _ _ _ _ _ _ _ _ _ F' N' .nil sg')
local macro_rules | `(tactic| walk_at "eval ListComp") => `(tactic| refine Halt.of ?_)
local macro_rules | `(tactic| walk_at "call type:list") => `(tactic| refine Halt.of ?_)
local macro_rules | `(tactic| walk_at "call builtin:str.join") => `(tactic| refine Halt.of ?_)
local macro_rules | `(tactic| walk_at "binaryOp Add str str") => `(tactic| (k_here; (with_reducible show wpAny _ _ (binaryOp _ (Value.str _ _) (Value.str _ _)) _ _ _); k_dflt (refine' PyProof.Rows.add_str ?_ ?z; (case z => exact fits4000 (by assumption))); intro t' tk'))
local macro_rules | `(tactic| walk_at "exec While Compare cons nil") => `(tactic| refine Halt.of ?_)
theorem sgs_sum : ∀ l : List Nat, ((sgs l).map (·.length)).sum = l.length
  | [] => rfl
  | c :: r => by
    have := sgs_sum r
    simp only [List.map_cons, List.sum_cons, List.length_cons] at this ⊢
    rw [this, show (sg1 c).length = 1 from rfl]; omega
theorem qin {td rest : List (Addr × Obj)} {y : Addr × Obj} {a : Addr} (h : ∀ p ∈ td, p.1 ≠ a) (hy : y.1 ≠ a) (hr : ∀ p ∈ rest, p.1 ≠ a) : ∀ p ∈ td ++ (y :: rest), p.1 ≠ a := fun p hp => by
  rcases List.mem_append.mp hp with hp | hp
  · exact h p hp
  · rcases List.mem_cons.mp hp with rfl | hp
    · exact hy
    · exact hr p hp
structure FoSt where
  I : Addr
  fl : List Value
  fe : Nat
  pd : List Value
  q : List (List Nat)
  vs : List Value
  ws : List Str
  ln : Int
  n5 : Tok
  ep : Nat
  ep2 : Nat
  acc : List Nat
  td : List (Addr × Obj)
  f : Nat
  wt : Tok
local macro_rules | `(tactic| walk_at "call ref") => `(tactic| with_reducible refine haltC ?_)
local macro_rules | `(tactic| walk_at "exec") => `(tactic| with_reducible refine haltWh ?_)
set_option maxHeartbeats 3000000 in
theorem found_spec {w : World} {mg mb : Str → Option Value} {p : Program} {loose : List Str} {mean : ExcName → Option Value} {dp un : Nat} {gd : Option (List Code)} {cn : Str} {cs : Scope} {a : Addr} {ccd : Value} {cl : List (Str × Addr)} {outer : List Env} {A₀ : Around} {base h₀ : Heap} {L : Addr} {m : Str → Option Value} {s : Shared} {Q E : Value → Shared → Prop} {x dx pb dS fS r cr cS S : Addr} {oc oS : Obj} {ocv : Array Value} {toc : Tok} {fd : FuncData} {nm qu : Str} {ps : Arguments} {bd : List Stmt} {sc : Scope} {dc pm ct : Value} {ln : Int} {n1 n2 n3 n4 n5 n6 n7 : Tok} {pd vs : List Value} {ep ep2 : Nat} {wsp : Str} {td rest : List (Addr × Obj)} {pr : Str} {tp : Tok} {ws ws1 ws2 : List Str} {word : Str} {c0 c1 : Nat} {wb rr : List Nat} {f0 : Nat}
  (B : Below A₀ base outer h₀) (F : Fr h₀ L s.heap m) (X : (hd1.heap_39 w.params).In h₀) (N : News h₀ L s.heap ((pb, W.listOf ([]).toArray ep) :: (x, instObj 101 dx) :: (dx, (dictOf [{ hash := PyData.keyHash w.params ("lineno" : Str), key := .str ("lineno" : Str) n1, val := .int ln n5 }, { hash := PyData.keyHash w.params ("instream" : Str), key := .str ("instream" : Str) n2, val := .ref fS }, { hash := PyData.keyHash w.params ("whitespace" : Str), key := .str ("whitespace" : Str) n3, val := .str wsp n6 }, { hash := PyData.keyHash w.params ("pushback" : Str), key := .str ("pushback" : Str) n4, val := .ref pb }] 4)) :: (dS, dictOf [{ hash := PyData.keyHash w.params ("read" : Str), key := .str ("read" : Str) n7, val := .ref r }] 1) :: (fS, ({ cls := .type "function", dict := some dS, data := .func fd } : Obj)) :: (r, fnMade nm qu ps bd sc [(("signs" : Str), cS)] dc pm cr ct) :: (cr, oc) :: (cS, oS) :: (S, W.listOf (vs).toArray ep2) :: (td ++ rest))) (T : Top p loose mean mg mb h₀) (hk : cs.kind = .function) (hd : dp + 200 < recursionLimit) (hu : un + 1500 < cLine)
  (hnd : nested PySem.Challenge.pw_pg0212_01 16 0 = some (nm, ps, bd, sc)) (hoc : oc.data = .fields ocv) (hoc1 : ocv[1]? = some (.str qu toc)) (hoS : oS.data = .cell (some (.ref S)))
  (o1 : @LT.lt Nat _ S cS) (o2 : @LT.lt Nat _ cS cr) (o3 : @LT.lt Nat _ cr r) (o4 : @LT.lt Nat _ r fS) (o5 : @LT.lt Nat _ fS dS) (o6 : @LT.lt Nat _ dS dx) (o7 : @LT.lt Nat _ dx x) (o8 : @LT.lt Nat _ x pb)
  (q1 : ∀ p ∈ td ++ rest, p.1 ≠ S) (q2 : ∀ p ∈ td ++ rest, p.1 ≠ dx) (q3 : ∀ p ∈ td ++ rest, p.1 ≠ pb)
  (hsg : SgA vs ws) (hone : ∀ c ∈ ws, c.length = 1) (hlen : ws.length ≤ 4000) (hw1 : gO wsp ws ("" : Str) = (word, ws1)) (hw2 : gO wsp ws1 ("" : Str) = (encL c0 c1 [1], ws2)) (hone1 : ∀ c ∈ ws1, c.length = 1) (hlen1 : ws1.length ≤ 4000) (hone2 : ∀ c ∈ ws2, c.length = 1) (hlen2 : ws2.length ≤ 4000)
  (hpr : pr = ⟨#[c0, c1]⟩) (hd0 : c0 ≠ 46) (hd1' : c1 ≠ 46) (hc : c0 ≠ c1) (hwl : word.length ≤ 4000) (hwb : wb.length ≤ 60) (td2 : TabD2 td) (dj : ∀ p ∈ td, ∀ q ∈ rest, p.1 ≠ q.1) (djl : ∀ p ∈ td, ∀ a' ∈ [pb, x, dx, dS, fS, r, cr, cS, S], p.1 ≠ a') (CD : CodeHd base 48 44)
  (hem : ∀ p : List Nat, (∀ b ∈ p, b < 2) → p ≠ [] → emScan word (("" : Str) :: (((encL c0 c1 p).cps.toList.map fun c => (⟨#[c]⟩ : Str)) ++ [("" : Str)])) 0 = subL p wb)
  (hb : bfs wb f0 [[1]] [] = some rr) (hf0 : f0 ≤ 500)
  (ret : ∀ I fl fe vs' ln' n5' ep' ep2' td' h' tk', Fr h₀ L h' m → News h₀ L h' ((I, W.listOf fl.toArray fe) :: ((pb, W.listOf ([]).toArray ep') :: (x, instObj 101 dx) :: (dx, (dictOf [{ hash := PyData.keyHash w.params ("lineno" : Str), key := .str ("lineno" : Str) n1, val := .int ln' n5' }, { hash := PyData.keyHash w.params ("instream" : Str), key := .str ("instream" : Str) n2, val := .ref fS }, { hash := PyData.keyHash w.params ("whitespace" : Str), key := .str ("whitespace" : Str) n3, val := .str wsp n6 }, { hash := PyData.keyHash w.params ("pushback" : Str), key := .str ("pushback" : Str) n4, val := .ref pb }] 4)) :: (dS, dictOf [{ hash := PyData.keyHash w.params ("read" : Str), key := .str ("read" : Str) n7, val := .ref r }] 1) :: (fS, ({ cls := .type "function", dict := some dS, data := .func fd } : Obj)) :: (r, fnMade nm qu ps bd sc [(("signs" : Str), cS)] dc pm cr ct) :: (cr, oc) :: (cS, oS) :: (S, W.listOf (vs').toArray ep2') :: (td' ++ rest))) → IntsAre fl (rr.map Int.ofNat) → SgA vs' ws2 → TabD2 td' → (∀ p ∈ td', ∀ q ∈ rest, p.1 ≠ q.1) → (∀ p ∈ td', ∀ a' ∈ [pb, x, dx, dS, fS, r, cr, cS, S], p.1 ≠ a') → (∀ p ∈ td' ++ rest, p.1 ≠ I) → Q (.ref I) { s with heap := h', toks := tk' }) :
  wpAny (model PySem.Challenge.pw_pg0212_01 w) (ktrTop dp un gd cn cs L a ccd cl outer) (call (.ref 129) [.ref x, .str pr tp]) Q E s := by
  subst hpr
  refine wpAny_call ?_
  k_dflt (first
  | cell_enter
  | (refine' code_def ?k1 ?k2 ?k3 ?k4 ?k5 ?kA ?kF ?kK ?k6 ?k7 ?k8 ?k9 ?kB ?_ ?c2 ?c3 ?c4 ?c5; (case kA => exact rfl); (case kF => exact rfl); (case kK => first | assumption | exact rfl); (case k1 => k_asm); (case k2 => k_asm); (case k3 => k_asm); (case k4 => k_asm); (case k5 => k_asm); (case k6 => k_is); (case k7 => k_is); (case k8 => ktr_room); (case k9 => first | exact BindsTo.of_eq rfl | exact binds_K (by k_in) rfl (by k_is) rfl rfl rfl | fail "k_enter: no rule for these arguments"); (case c5 => decide); (case kB => exact locs rfl); (case c2 => exact rfl); (case c3 => exact rfl); (case c4 => exact rfl); k_whole; intro g' L' h' FG' F' N' B' X' T'; (try dsimp only); (try k_lift B'); (try k_fold))
  | (refine' code_defC ?k1 ?k2 ?k3 ?k4 ?k5 ?kA ?kF ?kK ?k6 ?k7 ?k8 ?k9 ?kB ?kD ?_ ?c2 ?c3 ?c4; (case kA => exact rfl); (case kF => exact rfl); (case kK => first | assumption | exact rfl); (case k1 => k_asm); (case k2 => k_asm); (case k3 => k_asm); (case k4 => k_asm); (case k5 => k_asm); (case k6 => k_is); (case k7 => k_is); (case k8 => ktr_room); (case k9 => first | exact BindsTo.of_eq rfl | exact binds_K (by k_in) rfl (by k_is) rfl rfl rfl | fail "k_enter: no rule for these arguments"); (case kB => exact rfl); (case kD => decide +kernel); (case c2 => exact rfl); (case c3 => exact rfl); (case c4 => exact rfl); k_whole; intro g9 L9 h9 tk9 cells9 FG9 F9 N9 Y9 B9 X9 T9 l9; (try k_lt l9); k_cells Y9; (try simp only [List.cons_append, List.nil_append] at N9); (try dsimp only); (try k_lift B9); (try k_fold)))
  k_steps
  unfold Halt
  (try dsimp only [List.nil_append, List.append_nil])
  rename_i oc9 dc9
  have hcell : oc9.data = .cell (some (.str ⟨#[c0, c1]⟩ tp)) := dc9
  clear dc9
  have q1r : ∀ p ∈ rest, p.1 ≠ S := fun p hp => q1 p (List.mem_append.mpr (.inr hp))
  have q2r : ∀ p ∈ rest, p.1 ≠ dx := fun p hp => q2 p (List.mem_append.mpr (.inr hp))
  have q3r : ∀ p ∈ rest, p.1 ≠ pb := fun p hp => q3 p (List.mem_append.mpr (.inr hp))
  have tlt : ∀ p ∈ td, @LT.lt Nat _ p.1 L9 := fun p hp => allLt_to l9.2.2.2.2.2.2.2.2.2 p (List.mem_append.mpr (.inl hp))
  have rlt : ∀ p ∈ rest, @LT.lt Nat _ p.1 L9 := fun p hp => allLt_to l9.2.2.2.2.2.2.2.2.2 p (List.mem_append.mpr (.inr hp))
  have Q1 : ∀ p ∈ (L9 + 1, oc9) :: (td ++ rest), p.1 ≠ S := List.forall_mem_cons.mpr ⟨by refine neN ?_; dsimp only; omega, q1⟩
  have Q2 : ∀ p ∈ (L9 + 1, oc9) :: (td ++ rest), p.1 ≠ dx := List.forall_mem_cons.mpr ⟨by refine neN ?_; dsimp only; omega, q2⟩
  have Q3 : ∀ p ∈ (L9 + 1, oc9) :: (td ++ rest), p.1 ≠ pb := List.forall_mem_cons.mpr ⟨by refine neN ?_; dsimp only; omega, q3⟩
  refine' tk_spec (pd := []) (ws := ws) (pw := word) (ws2 := ws1) (qt := []) (rest := (L9 + 1, oc9) :: (td ++ rest)) ?Ba ?Fa ?Xa ?Na ?Ta ?hka ?hda ?hua hnd hoc hoc1 hoS o1 o2 o3 o4 o5 o6 o7 o8 Q1 Q2 Q3 hsg hone hlen (.inr ⟨rfl, rfl, hw1⟩) ?reta
  (case Ba => k_asm)
  (case Fa => k_asm)
  (case Xa => k_asm)
  (case Na => exact cb_drop N9 (List.forall_mem_cons.mpr ⟨by k_mem, List.forall_mem_cons.mpr ⟨by k_mem, List.forall_mem_cons.mpr ⟨by k_mem, List.forall_mem_cons.mpr ⟨by k_mem, List.forall_mem_cons.mpr ⟨by k_mem, List.forall_mem_cons.mpr ⟨by k_mem, List.forall_mem_cons.mpr ⟨by k_mem, List.forall_mem_cons.mpr ⟨by k_mem, List.forall_mem_cons.mpr ⟨by k_mem, List.forall_mem_cons.mpr ⟨by k_mem, fun p hp => by (repeat (first | exact hp | refine List.Mem.tail _ ?_))⟩⟩⟩⟩⟩⟩⟩⟩⟩⟩))
  (case Ta => k_asm)
  (case hka => exact rfl)
  (case hda => (simp only [recursionLimit] at *; omega))
  (case hua => (simp only [cLine_is] at *; omega))
  intro pd1 vs1 ln1 n51 ep1 ep21 h1 tk1 tr1 F1 N1 sp1 sg1
  cases sp1
  k_steps
  unfold Halt
  (rename Fr _ _ _ _ => F2)
  (rename News _ _ _ _ => N2)
  (rename @LT.lt Nat _ pb _ ∧ _ => l2)
  obtain ⟨wt, hwt⟩ := fr_int (x := ("waiting" : Str)) (i := ((1 : Nat) : Int)) F2 ⟨_, rfl⟩
  have nA : ∀ z ∈ (@List.nil Nat), z < 2 := fun _ h => nomatch h
  refine' ksw_while (fun c : FoSt => ((c.I, W.listOf c.fl.toArray c.fe) :: (pb, W.listOf (c.pd).toArray c.ep) :: (x, instObj 101 dx) :: (dx, (dictOf [{ hash := PyData.keyHash w.params ("lineno" : Str), key := .str ("lineno" : Str) n1, val := .int c.ln c.n5 }, { hash := PyData.keyHash w.params ("instream" : Str), key := .str ("instream" : Str) n2, val := .ref fS }, { hash := PyData.keyHash w.params ("whitespace" : Str), key := .str ("whitespace" : Str) n3, val := .str wsp n6 }, { hash := PyData.keyHash w.params ("pushback" : Str), key := .str ("pushback" : Str) n4, val := .ref pb }] 4)) :: (dS, dictOf [{ hash := PyData.keyHash w.params ("read" : Str), key := .str ("read" : Str) n7, val := .ref r }] 1) :: (fS, ({ cls := .type "function", dict := some dS, data := .func fd } : Obj)) :: (r, fnMade nm qu ps bd sc [(("signs" : Str), cS)] dc pm cr ct) :: (cr, oc) :: (cS, oS) :: (S, W.listOf (c.vs).toArray c.ep2) :: (L9 + 1, oc9) :: (c.td ++ rest))) (fun c => [("waiting", .int (c.q.length : Int) c.wt), ("found", .ref c.I)]) (fun _ => True) ["part"]
    (fun c => IntsAre c.fl (c.acc.map Int.ofNat) ∧ SgA c.vs c.ws ∧ ((StrsAre c.pd (c.q.map (encL c0 c1)) ∧ c.ws = ws2) ∨ (c.pd = [] ∧ c.q = [[1]] ∧ c.ws = ws1)) ∧ TabD2 c.td ∧ (∀ p ∈ c.td, ∀ q ∈ rest, p.1 ≠ q.1) ∧ @LT.lt Nat _ (L9 + 1) c.I ∧ @LT.lt Nat _ pb c.I ∧ (∀ p ∈ rest, p.1 ≠ c.I) ∧
      bfs wb c.f c.q c.acc = some rr ∧ c.q.length + c.f ≤ f0 + 1 ∧ (∀ p ∈ c.q, p.length + c.f ≤ f0 + 1 ∧ p ≠ [] ∧ ∀ b ∈ p, b < 2) ∧ c.acc.length + c.f ≤ f0 ∧ (∀ p ∈ c.td, ∀ a' ∈ [c.I, L9 + 1, pb, x, dx, dS, fS, r, cr, cS, S], p.1 ≠ a'))
    (fun c => c.f) ⟨_, [], 0, [], [[1]], vs1, ws1, ln1, n51, ep1, ep21, [], td, f0, wt⟩ ?F ?N trivial ?hk ?hp ?turn
  (case F => exact F2)
  (case N => exact N2)
  (case hk => exact List.forall_mem_cons.mpr ⟨hwt, List.forall_mem_cons.mpr ⟨rfl, fun _ h => nomatch h⟩⟩)
  (case hp => exact ⟨.nil, sg1, .inr ⟨rfl, rfl, rfl⟩, td2, dj, l2.2.2.2.2.2.2.2.2.2.1, l2.1, fun p hp => Nat.ne_of_lt (allLt_to l2.2.2.2.2.2.2.2.2.2.2 p (List.mem_append.mpr (.inr hp))), hb, Nat.le_of_eq (Nat.add_comm 1 f0), (fun p hp => by
    rw [List.mem_singleton.mp hp]
    exact ⟨Nat.le_of_eq (Nat.add_comm 1 f0), List.cons_ne_nil _ _, fun b hb => by rw [List.mem_singleton.mp hb]; decide⟩), Nat.le_of_eq (Nat.zero_add f0), fun p hp => List.forall_mem_cons.mpr ⟨Nat.ne_of_lt (allLt_to l2.2.2.2.2.2.2.2.2.2.2 p (List.mem_append.mpr (.inl hp))), List.forall_mem_cons.mpr ⟨Nat.ne_of_lt (Nat.lt_succ_of_lt (tlt p hp)), djl p hp⟩⟩⟩)
  case turn =>
    intro c u h4 tk4 _ P4 F4 N4
    obtain ⟨iv4, sg4, qq4, td4, dj4, lI4, lp4, ne4, er4, bq4, bp4, ba4, tx4⟩ := P4
    have hcf : c.f = c.f - 1 + 1 := by
      cases hcf0 : c.f with
      | zero => rw [hcf0, bfs] at er4; cases er4
      | succ n => rfl
    rw [hcf] at er4
    have Q1c : ∀ p ∈ (L9 + 1, oc9) :: (c.td ++ rest), p.1 ≠ S := List.forall_mem_cons.mpr ⟨by refine neN ?_; dsimp only; omega, List.forall_mem_append.mpr ⟨fun p hp => tx4 p hp S (by repeat (first | exact .head _ | refine .tail _ ?_)), q1r⟩⟩
    have Q2c : ∀ p ∈ (L9 + 1, oc9) :: (c.td ++ rest), p.1 ≠ dx := List.forall_mem_cons.mpr ⟨by refine neN ?_; dsimp only; omega, List.forall_mem_append.mpr ⟨fun p hp => tx4 p hp dx (by repeat (first | exact .head _ | refine .tail _ ?_)), q2r⟩⟩
    have Q3c : ∀ p ∈ (L9 + 1, oc9) :: (c.td ++ rest), p.1 ≠ pb := List.forall_mem_cons.mpr ⟨by refine neN ?_; dsimp only; omega, List.forall_mem_append.mpr ⟨fun p hp => tx4 p hp pb (by repeat (first | exact .head _ | refine .tail _ ?_)), q3r⟩⟩
    k_steps
    · unfold Halt
      (try dsimp only [List.nil_append, List.append_nil])
      obtain ⟨p5, qt, hq5⟩ : ∃ p5 qt, c.q = p5 :: qt := by
        cases hq0 : c.q with
        | nil => rename_i hpos; rw [hq0] at hpos; exact absurd hpos (by decide)
        | cons p5 qt => exact ⟨p5, qt, rfl⟩
      have hql : c.q.length = qt.length + 1 := by rw [hq5, List.length_cons]
      have H5 : (∃ t pd0, c.pd = .str (encL c0 c1 p5) t :: pd0 ∧ StrsAre pd0 (qt.map (encL c0 c1)) ∧ ws2 = c.ws ∧ (qt.map (encL c0 c1)).length ≤ 4000) ∨ (c.pd = [] ∧ qt.map (encL c0 c1) = [] ∧ gO wsp c.ws ("" : Str) = (encL c0 c1 p5, ws2)) := by
        rcases qq4 with ⟨e1, e2⟩ | ⟨e1, e2, e3⟩
        · rw [hq5, List.map_cons] at e1
          cases hpd : c.pd with
          | nil => rw [hpd] at e1; cases e1
          | cons v0 pd0 =>
            rw [hpd] at e1
            cases e1 with
            | cons y t e1 => exact .inl ⟨t, pd0, rfl, e1, e2.symm, by rw [List.length_map]; omega⟩
        · rw [hq5] at e2
          injection e2 with e2 e4
          exact .inr ⟨e1, by rw [e4]; rfl, by rw [e3, hw2, e2]⟩
      have on4 : ∀ c' ∈ c.ws, c'.length = 1 := by
        rcases qq4 with ⟨_, e2⟩ | ⟨_, _, e3⟩
        · rw [e2]; exact hone2
        · rw [e3]; exact hone1
      have ln4 : c.ws.length ≤ 4000 := by
        rcases qq4 with ⟨_, e2⟩ | ⟨_, _, e3⟩
        · rw [e2]; exact hlen2
        · rw [e3]; exact hlen1
      rw [hq5, bfs] at er4
      obtain ⟨hp5l, hp5n, hp5b⟩ := bp4 p5 (by rw [hq5]; exact List.mem_cons_self ..)
      refine' tk_spec (pd := c.pd) (ws := c.ws) (pw := encL c0 c1 p5) (ws2 := ws2) (qt := qt.map (encL c0 c1)) (rest := (c.I, W.listOf c.fl.toArray c.fe) :: (L9 + 1, oc9) :: (c.td ++ rest)) ?Bb ?Fb ?Xb ?Nb ?Tb ?hkb ?hdb ?hub hnd hoc hoc1 hoS o1 o2 o3 o4 o5 o6 o7 o8 ?Q1b ?Q2b ?Q3b sg4 on4 ln4 H5 ?retb
      (case Bb => k_asm)
      (case Fb => k_asm)
      (case Xb => k_asm)
      (case Nb => exact cb_drop (by k_asm) (List.forall_mem_cons.mpr ⟨by k_mem, List.forall_mem_cons.mpr ⟨by k_mem, List.forall_mem_cons.mpr ⟨by k_mem, List.forall_mem_cons.mpr ⟨by k_mem, List.forall_mem_cons.mpr ⟨by k_mem, List.forall_mem_cons.mpr ⟨by k_mem, List.forall_mem_cons.mpr ⟨by k_mem, List.forall_mem_cons.mpr ⟨by k_mem, List.forall_mem_cons.mpr ⟨by k_mem, List.forall_mem_cons.mpr ⟨by k_mem, List.forall_mem_cons.mpr ⟨by k_mem, fun p hp => by (repeat (first | exact hp | refine List.Mem.tail _ ?_))⟩⟩⟩⟩⟩⟩⟩⟩⟩⟩⟩))
      (case Tb => k_asm)
      (case hkb => exact rfl)
      (case hdb => (simp only [recursionLimit] at *; omega))
      (case hub => (simp only [cLine_is] at *; omega))
      (case Q1b => exact List.forall_mem_cons.mpr ⟨by refine neN ?_; dsimp only; omega, Q1c⟩)
      (case Q2b => exact List.forall_mem_cons.mpr ⟨by refine neN ?_; dsimp only; omega, Q2c⟩)
      (case Q3b => exact List.forall_mem_cons.mpr ⟨by refine neN ?_; dsimp only; omega, Q3c⟩)
      intro pd6 vs6 ln6 n56 ep6 ep26 h6 tk6 tr6 F6 N6 sp6 sg6
      have hel : (encL c0 c1 p5).length = p5.length := by rw [length_toList]; simp [encL]
      have hec : (encL c0 c1 p5).cps.toList = p5.map fun b => if b = 0 then c0 else c1 := by simp [encL]
      have hsl : ((sgs (encL c0 c1 p5).cps.toList).map (·.length)).sum + (sgs (encL c0 c1 p5).cps.toList).length * dots.length ≤ 100000 := by
        rw [sgs_sum, List.length_map, dots_length, ← length_toList, hel]; omega
      k_steps
      unfold Halt
      refine' ls_list rfl ?Fc ?Nc ?_ (fits4000 (by omega))
      (case Fc => k_asm)
      (case Nc => k_asm)
      intro D7 ys7 e7 h7 tk7 F7 N7 st7 l7
      have lD7 := l7 (pb, W.listOf pd6.toArray ep6) (.head _)
      k_steps
      unfold Halt
      refine' join_S (D := D7) (vs := ys7) ?Nd ?md st7 hsl ?_
      (case Nd => k_asm)
      (case md => k_mem)
      intro t8 k8
      obtain ⟨J, hJ⟩ : ∃ J, Txt.join dots (sgs (encL c0 c1 p5).cps.toList) = J := ⟨_, rfl⟩
      have hX : ((dots ++ J) ++ dots).cps.toList = glueL (encL c0 c1 p5).cps.toList := by rw [← hJ]; exact glue_text (by rw [hec]; simpa using hp5n)
      have hXl : ((dots ++ J) ++ dots).length = 4 * p5.length + 3 := by rw [length_toList, hX, glueL_length, hec, List.length_map]
      have hA2 : (dots ++ J).length + dots.length ≤ 4000 := by rw [← Str.length_append, hXl]; omega
      have hA1 : dots.length + J.length ≤ 4000 := by rw [← Str.length_append]; omega
      rw [show Txt.join (Str.ofString "...") (sgs (encL c0 c1 p5).cps.toList) = J from hJ]
      k_steps
      unfold Halt
      have hno : ∀ c' ∈ (encL c0 c1 p5).cps.toList, c' ≠ 46 := by
        rw [hec]; intro c' hc'
        obtain ⟨b, _, rfl⟩ := List.mem_map.mp hc'
        split
        · exact hd0
        · exact hd1'
      refine' em_spec (mid := sgs (encL c0 c1 p5).cps.toList) ?Be ?Fe ?Xe ?Ne ?Te ?hke ?hde ?hue ?hWe ?hie hwl ?hse ?hme ?hm1e ?rete
      (case Be => k_asm)
      (case Fe => k_asm)
      (case Xe => k_asm)
      (case Ne => k_asm)
      (case Te => k_asm)
      (case hke => exact rfl)
      (case hde => (simp only [recursionLimit] at *; omega))
      (case hue => (simp only [cLine_is] at *; omega))
      (case hWe => show ((dots ++ J) ++ dots).length ≤ 4000; omega)
      (case hie => exact has_glue hX hno)
      (case hse => exact split_glue hX hno)
      (case hme => rw [List.length_map, ← length_toList, hel]; omega)
      (case hm1e => intro c' hc'; obtain ⟨z, _, rfl⟩ := List.mem_map.mp hc'; exact Nat.le_of_ble_eq_true rfl)
      intro h9 tk9 F9 N9
      rw [show emScan word (("" : Str) :: (sgs (encL c0 c1 p5).cps.toList ++ [("" : Str)])) 0 = subL p5 wb from hem p5 hp5b hp5n]
      (try dsimp only)
      k_steps
      · unfold Halt
        (rename subL p5 wb = true => hs9)
        k_dflt (refine' ListComp_S ?Ff (by with_unfolding_all rfl) (by decide) (by rfl) (by decide) (by rfl) ?_)
        (case Ff => k_asm)
        k_steps
        have hrl : ∀ u, (Txt.sliceBy (encL c0 c1 p5) none none (-1, u)).cps.toList = p5.reverse.map fun b => if b = 0 then c0 else c1 := fun u => by rw [rev_text, hec, List.map_reverse]
        have hrs : ∀ u, (Txt.sliceBy (encL c0 c1 p5) none none (-1, u)).cps.size = p5.reverse.length := fun u => by rw [← Array.length_toList, hrl, List.length_map]
        refine' SrcS.of rfl ?Fg ?Ng ?zg ?_
        (case Fg => k_asm)
        (case Ng => k_asm)
        (case zg => rw [hrs, List.length_reverse]; exact fits4000 (by omega))
        intro g10
        refine' cr_rest (fun i y => ∃ t, y = Value.int ((p5.reverse.getD i 0 : Nat) : Int) t) ?turnh ?finh
        case turnh =>
          intro i v I10 oI10 C10 oC10 D10 m10 ys10 h10 tk10 E10 hi10 hP10 hC10 hx10 F10 N10 off10 ne10
          obtain ⟨cc, uu, hcc, rfl⟩ := hP10
          k_steps
          rw [← Array.getElem?_toList, hrl] at hcc
          obtain ⟨hc1, hc2⟩ := enc_at (f := fun b => if b = 0 then c0 else c1) hcc
          have hb2 : p5.reverse.getD i 0 < 2 := hp5b _ (List.mem_reverse.mp hc2)
          have hfp := find_pair hc hb2
          rw [← hc1] at hfp
          exact LCg.CompEnd.intro F10 N10 _ (fun _ h => h) off10 trivial ⟨rfl, _, congrArg (fun z => Value.int z _) hfp⟩
        case finh =>
          intro ys11 hl11 hy11 D11 h11 tk11 F11 N11 of11
          have i11 := ints_of (g := fun i => ((p5.reverse.getD i 0 : Nat) : Int)) hl11 hy11
          rw [hrs, map_getD] at i11
          have hp7 := subL_length hs9
          k_steps
          unfold Halt
          refine' d2i_spec (nN := 1) (ds := p5.reverse) (tb := c.td) (D := D11) (vs := ys11) (ep := ys11.length) (rest := ((c.I, W.listOf c.fl.toArray c.fe) :: (pb, W.listOf (pd6).toArray ep6) :: (x, instObj 101 dx) :: (dx, (dictOf [{ hash := PyData.keyHash w.params ("lineno" : Str), key := .str ("lineno" : Str) n1, val := .int ln6 n56 }, { hash := PyData.keyHash w.params ("instream" : Str), key := .str ("instream" : Str) n2, val := .ref fS }, { hash := PyData.keyHash w.params ("whitespace" : Str), key := .str ("whitespace" : Str) n3, val := .str wsp n6 }, { hash := PyData.keyHash w.params ("pushback" : Str), key := .str ("pushback" : Str) n4, val := .ref pb }] 4)) :: (dS, dictOf [{ hash := PyData.keyHash w.params ("read" : Str), key := .str ("read" : Str) n7, val := .ref r }] 1) :: (fS, ({ cls := .type "function", dict := some dS, data := .func fd } : Obj)) :: (r, fnMade nm qu ps bd sc [(("signs" : Str), cS)] dc pm cr ct) :: (cr, oc) :: (cS, oS) :: (S, W.listOf (vs6).toArray ep26) :: (L9 + 1, oc9) :: rest)) ?Bj ?Fj ?Xj ?Nj ?Tj ?hkj ?hdj ?huj td4 ?djj CD rfl (by decide) (by decide) i11 ?hlj ?hbj ?retj
          (case Bj => k_asm)
          (case Fj => k_asm)
          (case Xj => k_asm)
          (case Nj => exact cb_drop N11 (List.forall_mem_append.mpr ⟨fun p hp => by (repeat (first | exact List.mem_append.mpr (.inl hp) | refine List.Mem.tail _ ?_)), List.forall_mem_cons.mpr ⟨by k_mem, List.forall_mem_cons.mpr ⟨by k_mem, List.forall_mem_cons.mpr ⟨by k_mem, List.forall_mem_cons.mpr ⟨by k_mem, List.forall_mem_cons.mpr ⟨by k_mem, List.forall_mem_cons.mpr ⟨by k_mem, List.forall_mem_cons.mpr ⟨by k_mem, List.forall_mem_cons.mpr ⟨by k_mem, List.forall_mem_cons.mpr ⟨by k_mem, List.forall_mem_cons.mpr ⟨by k_mem, List.forall_mem_cons.mpr ⟨by k_mem, List.forall_mem_cons.mpr ⟨by k_mem, fun p hp => by (repeat (first | exact List.mem_append.mpr (.inr hp) | refine List.Mem.tail _ ?_))⟩⟩⟩⟩⟩⟩⟩⟩⟩⟩⟩⟩⟩))
          (case Tj => k_asm)
          (case hkj => exact rfl)
          (case hdj => (simp only [recursionLimit] at *; omega))
          (case huj => (simp only [cLine_is] at *; omega))
          (case djj => exact fun p hp => List.forall_mem_cons.mpr ⟨off1_mem of11 p (by (repeat (first | exact List.mem_append.mpr (.inl hp) | refine List.Mem.tail _ ?_))), List.forall_mem_cons.mpr ⟨tx4 p hp _ (by repeat (first | exact .head _ | refine .tail _ ?_)), List.forall_mem_cons.mpr ⟨tx4 p hp _ (by repeat (first | exact .head _ | refine .tail _ ?_)), List.forall_mem_cons.mpr ⟨tx4 p hp _ (by repeat (first | exact .head _ | refine .tail _ ?_)), List.forall_mem_cons.mpr ⟨tx4 p hp _ (by repeat (first | exact .head _ | refine .tail _ ?_)), List.forall_mem_cons.mpr ⟨tx4 p hp _ (by repeat (first | exact .head _ | refine .tail _ ?_)), List.forall_mem_cons.mpr ⟨tx4 p hp _ (by repeat (first | exact .head _ | refine .tail _ ?_)), List.forall_mem_cons.mpr ⟨tx4 p hp _ (by repeat (first | exact .head _ | refine .tail _ ?_)), List.forall_mem_cons.mpr ⟨tx4 p hp _ (by repeat (first | exact .head _ | refine .tail _ ?_)), List.forall_mem_cons.mpr ⟨tx4 p hp _ (by repeat (first | exact .head _ | refine .tail _ ?_)), List.forall_mem_cons.mpr ⟨tx4 p hp _ (by repeat (first | exact .head _ | refine .tail _ ?_)), List.forall_mem_cons.mpr ⟨tx4 p hp _ (by repeat (first | exact .head _ | refine .tail _ ?_)), fun q hq => dj4 p hp q hq⟩⟩⟩⟩⟩⟩⟩⟩⟩⟩⟩⟩)
          (case hlj => rw [List.length_reverse]; omega)
          (case hbj => exact fun d hd => hp5b d (List.mem_reverse.mp hd))
          intro t12 td12 h12 tk12 F12 N12 tj12 dj12
          (try dsimp only)
          have hN13 := cb_drop (news := ((c.I, W.listOf c.fl.toArray c.fe) :: (pb, W.listOf (pd6).toArray ep6) :: (x, instObj 101 dx) :: (dx, (dictOf [{ hash := PyData.keyHash w.params ("lineno" : Str), key := .str ("lineno" : Str) n1, val := .int ln6 n56 }, { hash := PyData.keyHash w.params ("instream" : Str), key := .str ("instream" : Str) n2, val := .ref fS }, { hash := PyData.keyHash w.params ("whitespace" : Str), key := .str ("whitespace" : Str) n3, val := .str wsp n6 }, { hash := PyData.keyHash w.params ("pushback" : Str), key := .str ("pushback" : Str) n4, val := .ref pb }] 4)) :: (dS, dictOf [{ hash := PyData.keyHash w.params ("read" : Str), key := .str ("read" : Str) n7, val := .ref r }] 1) :: (fS, ({ cls := .type "function", dict := some dS, data := .func fd } : Obj)) :: (r, fnMade nm qu ps bd sc [(("signs" : Str), cS)] dc pm cr ct) :: (cr, oc) :: (cS, oS) :: (S, W.listOf (vs6).toArray ep26) :: (L9 + 1, oc9) :: (td12 ++ rest))) N12 (List.forall_mem_cons.mpr ⟨List.mem_append.mpr (.inr (by k_mem)), List.forall_mem_cons.mpr ⟨List.mem_append.mpr (.inr (by k_mem)), List.forall_mem_cons.mpr ⟨List.mem_append.mpr (.inr (by k_mem)), List.forall_mem_cons.mpr ⟨List.mem_append.mpr (.inr (by k_mem)), List.forall_mem_cons.mpr ⟨List.mem_append.mpr (.inr (by k_mem)), List.forall_mem_cons.mpr ⟨List.mem_append.mpr (.inr (by k_mem)), List.forall_mem_cons.mpr ⟨List.mem_append.mpr (.inr (by k_mem)), List.forall_mem_cons.mpr ⟨List.mem_append.mpr (.inr (by k_mem)), List.forall_mem_cons.mpr ⟨List.mem_append.mpr (.inr (by k_mem)), List.forall_mem_cons.mpr ⟨List.mem_append.mpr (.inr (by k_mem)), List.forall_mem_cons.mpr ⟨List.mem_append.mpr (.inr (by k_mem)), List.forall_mem_append.mpr ⟨fun p hp => List.mem_append.mpr (.inl hp), fun p hp => List.mem_append.mpr (.inr (by (repeat (first | exact hp | refine List.Mem.tail _ ?_))))⟩⟩⟩⟩⟩⟩⟩⟩⟩⟩⟩⟩)
          clear N12
          have neI12 : ∀ p ∈ td12 ++ rest, p.1 ≠ c.I := List.forall_mem_append.mpr ⟨fun p hp => dj12 p hp (c.I, W.listOf c.fl.toArray c.fe) (by k_mem), ne4⟩
          have hfl : c.fl.length ≤ 500 := by rw [iv4.length, List.length_map]; omega
          have hs0 : encL c0 c1 p5 ++ Txt.item (⟨#[c0, c1]⟩ : Str) 0 = encL c0 c1 (p5 ++ [0]) := enc_snoc c0 c1 0 p5
          have hs1 : encL c0 c1 p5 ++ Txt.item (⟨#[c0, c1]⟩ : Str) 1 = encL c0 c1 (p5 ++ [1]) := enc_snoc c0 c1 1 p5
          have hp6 : pd6.length ≤ 600 := by rw [sa_length sp6, List.length_map]; omega
          have tx12 : ∀ p ∈ td12, ∀ a' ∈ [c.I, L9 + 1, pb, x, dx, dS, fS, r, cr, cS, S], p.1 ≠ a' := fun p hp => List.forall_mem_cons.mpr ⟨dj12 p hp (c.I, _) (.tail _ (.head _)), List.forall_mem_cons.mpr ⟨dj12 p hp (L9 + 1, _) (.tail _ (.tail _ (.tail _ (.tail _ (.tail _ (.tail _ (.tail _ (.tail _ (.tail _ (.tail _ (.tail _ (.head _)))))))))))), List.forall_mem_cons.mpr ⟨dj12 p hp (pb, _) (.tail _ (.tail _ (.head _))), List.forall_mem_cons.mpr ⟨dj12 p hp (x, _) (.tail _ (.tail _ (.tail _ (.head _)))), List.forall_mem_cons.mpr ⟨dj12 p hp (dx, _) (.tail _ (.tail _ (.tail _ (.tail _ (.head _))))), List.forall_mem_cons.mpr ⟨dj12 p hp (dS, _) (.tail _ (.tail _ (.tail _ (.tail _ (.tail _ (.head _)))))), List.forall_mem_cons.mpr ⟨dj12 p hp (fS, _) (.tail _ (.tail _ (.tail _ (.tail _ (.tail _ (.tail _ (.head _))))))), List.forall_mem_cons.mpr ⟨dj12 p hp (r, _) (.tail _ (.tail _ (.tail _ (.tail _ (.tail _ (.tail _ (.tail _ (.head _)))))))), List.forall_mem_cons.mpr ⟨dj12 p hp (cr, _) (.tail _ (.tail _ (.tail _ (.tail _ (.tail _ (.tail _ (.tail _ (.tail _ (.head _))))))))), List.forall_mem_cons.mpr ⟨dj12 p hp (cS, _) (.tail _ (.tail _ (.tail _ (.tail _ (.tail _ (.tail _ (.tail _ (.tail _ (.tail _ (.head _)))))))))), List.forall_mem_cons.mpr ⟨dj12 p hp (S, _) (.tail _ (.tail _ (.tail _ (.tail _ (.tail _ (.tail _ (.tail _ (.tail _ (.tail _ (.tail _ (.head _))))))))))), fun _ h => nomatch h⟩⟩⟩⟩⟩⟩⟩⟩⟩⟩⟩
          have dr12 : ∀ p ∈ td12, ∀ q ∈ rest, p.1 ≠ q.1 := fun p hp q hq => dj12 p hp q (by (repeat (first | exact hq | refine List.Mem.tail _ ?_)))
          k_steps
          (rename News _ _ _ _ => N13)
          rw [List.push_toArray] at N13
          obtain ⟨oI13, hoI⟩ : ∃ o, W.listOf (c.fl ++ [Value.int ((numD (2 ^ 1) p5.reverse : Nat) : Int) t12]).toArray (c.fe + 1) = o := ⟨_, rfl⟩
          rw [hoI] at N13
          have Q1d : ∀ p ∈ (c.I, oI13) :: (L9 + 1, oc9) :: (td12 ++ rest), p.1 ≠ S := List.forall_mem_cons.mpr ⟨by refine neN ?_; dsimp only; omega, List.forall_mem_cons.mpr ⟨by refine neN ?_; dsimp only; omega, List.forall_mem_append.mpr ⟨fun p hp => tx12 p hp S (by repeat (first | exact .head _ | refine .tail _ ?_)), q1r⟩⟩⟩
          have Q2d : ∀ p ∈ (c.I, oI13) :: (L9 + 1, oc9) :: (td12 ++ rest), p.1 ≠ dx := List.forall_mem_cons.mpr ⟨by refine neN ?_; dsimp only; omega, List.forall_mem_cons.mpr ⟨by refine neN ?_; dsimp only; omega, List.forall_mem_append.mpr ⟨fun p hp => tx12 p hp dx (by repeat (first | exact .head _ | refine .tail _ ?_)), q2r⟩⟩⟩
          have Q3d : ∀ p ∈ (c.I, oI13) :: (L9 + 1, oc9) :: (td12 ++ rest), p.1 ≠ pb := List.forall_mem_cons.mpr ⟨by refine neN ?_; dsimp only; omega, List.forall_mem_cons.mpr ⟨by refine neN ?_; dsimp only; omega, List.forall_mem_append.mpr ⟨fun p hp => tx12 p hp pb (by repeat (first | exact .head _ | refine .tail _ ?_)), q3r⟩⟩⟩
          unfold Halt
          rw [hs0]
          refine' push_spec (pd := pd6) (u := encL c0 c1 (p5 ++ [0])) (rest := (c.I, oI13) :: (L9 + 1, oc9) :: (td12 ++ rest)) ?Bk ?Fk ?Xk ?Nk ?Tk ?hkk ?hdk ?huk hnd hoc hoc1 hoS o1 o2 o3 o4 o5 o6 o7 o8 Q1d Q2d Q3d ?hlk ?retk
          (case Bk => k_asm)
          (case Fk => k_asm)
          (case Xk => k_asm)
          (case Nk => exact cb_drop (by k_asm) (List.forall_mem_cons.mpr ⟨by k_mem, List.forall_mem_cons.mpr ⟨by k_mem, List.forall_mem_cons.mpr ⟨by k_mem, List.forall_mem_cons.mpr ⟨by k_mem, List.forall_mem_cons.mpr ⟨by k_mem, List.forall_mem_cons.mpr ⟨by k_mem, List.forall_mem_cons.mpr ⟨by k_mem, List.forall_mem_cons.mpr ⟨by k_mem, List.forall_mem_cons.mpr ⟨by k_mem, List.forall_mem_cons.mpr ⟨by k_mem, List.forall_mem_cons.mpr ⟨by k_mem, fun p hp => by (repeat (first | exact hp | refine List.Mem.tail _ ?_))⟩⟩⟩⟩⟩⟩⟩⟩⟩⟩⟩))
          (case Tk => k_asm)
          (case hkk => exact rfl)
          (case hdk => (simp only [recursionLimit] at *; omega))
          (case huk => (simp only [cLine_is] at *; omega))
          (case hlk => (try rw [List.length_append, List.length_singleton]); omega)
          intro ep14 h14 tk14 F14 N14
          (try dsimp only)
          k_steps
          unfold Halt
          rw [hs1]
          refine' push_spec (pd := pd6 ++ [Value.str (encL c0 c1 (p5 ++ [0])) _]) (u := encL c0 c1 (p5 ++ [1])) (rest := (c.I, oI13) :: (L9 + 1, oc9) :: (td12 ++ rest)) ?Bl ?Fl ?Xl ?Nl ?Tl ?hkl ?hdl ?hul hnd hoc hoc1 hoS o1 o2 o3 o4 o5 o6 o7 o8 Q1d Q2d Q3d ?hll ?retl
          (case Bl => k_asm)
          (case Fl => k_asm)
          (case Xl => k_asm)
          (case Nl => exact cb_drop (by k_asm) (List.forall_mem_cons.mpr ⟨by k_mem, List.forall_mem_cons.mpr ⟨by k_mem, List.forall_mem_cons.mpr ⟨by k_mem, List.forall_mem_cons.mpr ⟨by k_mem, List.forall_mem_cons.mpr ⟨by k_mem, List.forall_mem_cons.mpr ⟨by k_mem, List.forall_mem_cons.mpr ⟨by k_mem, List.forall_mem_cons.mpr ⟨by k_mem, List.forall_mem_cons.mpr ⟨by k_mem, List.forall_mem_cons.mpr ⟨by k_mem, List.forall_mem_cons.mpr ⟨by k_mem, fun p hp => by (repeat (first | exact hp | refine List.Mem.tail _ ?_))⟩⟩⟩⟩⟩⟩⟩⟩⟩⟩⟩))
          (case Tl => k_asm)
          (case hkl => exact rfl)
          (case hdl => (simp only [recursionLimit] at *; omega))
          (case hul => (simp only [cLine_is] at *; omega))
          (case hll => (try rw [List.length_append, List.length_singleton]); omega)
          intro ep15 h15 tk15 F15 N15
          (try dsimp only)
          k_steps
          (rename Fr _ _ _ _ => F16)
          (rename News _ _ _ _ => N16)
          rw [hs9, if_pos rfl] at er4
          have hwq : (c.q.length : Int) - 1 + 2 = (((qt ++ [p5 ++ [0], p5 ++ [1]]).length : Nat) : Int) := by
            rw [List.length_append, List.length_cons, List.length_singleton]; omega
          rw [hwq] at F16
          obtain ⟨wt9, hwt9⟩ := fr_int (x := ("waiting" : Str)) (i := (((qt ++ [p5 ++ [0], p5 ++ [1]]).length : Nat) : Int)) F16 ⟨_, rfl⟩
          have hp5i : ∀ b, b < 2 → ∀ b' ∈ p5 ++ [b], b' < 2 := fun b hb b' hb' => by
            rcases List.mem_append.mp hb' with h | h
            · exact hp5b b' h
            · rw [List.mem_singleton.mp h]; exact hb
          rw [← hoI] at N16
          obtain ⟨pd9, N17, sp9⟩ : ∃ pd9, News _ _ _ ((pb, W.listOf (List.toArray pd9) ep15) :: _) ∧ StrsAre pd9 ((qt ++ [p5 ++ [0], p5 ++ [1]]).map (encL c0 c1)) := ⟨_, N16, by
            rw [show qt ++ [p5 ++ [0], p5 ++ [1]] = (qt ++ [p5 ++ [0]]) ++ [p5 ++ [1]] by simp, List.map_append, List.map_append]
            exact kct_snoc (kct_snoc sp6)⟩
          clear N16
          refine ksw_end ⟨c.I, c.fl ++ [Value.int ((numD (2 ^ 1) p5.reverse : Nat) : Int) t12], c.fe + 1, pd9, qt ++ [p5 ++ [0], p5 ++ [1]], vs6, ws2, ln6, n56, ep15, ep26, c.acc ++ [valL p5], td12, c.f - 1, wt9⟩ F16 N17 ?hnbp trivial ?hkbp ?hrbp ?hpbp ?hmbp
          (case hnbp => exact List.forall_mem_cons.mpr ⟨by k_mem, List.forall_mem_cons.mpr ⟨by k_mem, List.forall_mem_cons.mpr ⟨by k_mem, List.forall_mem_cons.mpr ⟨by k_mem, List.forall_mem_cons.mpr ⟨by k_mem, List.forall_mem_cons.mpr ⟨by k_mem, List.forall_mem_cons.mpr ⟨by k_mem, List.forall_mem_cons.mpr ⟨by k_mem, List.forall_mem_cons.mpr ⟨by k_mem, List.forall_mem_cons.mpr ⟨by k_mem, List.forall_mem_cons.mpr ⟨by k_mem, fun p hp => by (repeat (first | exact hp | refine List.Mem.tail _ ?_))⟩⟩⟩⟩⟩⟩⟩⟩⟩⟩⟩)
          (case hkbp => exact List.forall_mem_cons.mpr ⟨hwt9, List.forall_mem_cons.mpr ⟨rfl, fun _ h => nomatch h⟩⟩)
          (case hrbp => (intro z h2 h3; simp only [List.forall_mem_cons, List.not_mem_nil, false_implies, implies_true, and_true, ne_eq] at h2; simp only [List.contains_cons, List.contains_nil, Bool.or_false, Bool.or_eq_false_iff, beq_eq_false_iff_ne, ne_eq] at h3; simp [kstB, h2, h3]))
          (case hmbp => (dsimp only; omega))
          refine ⟨?_, sg6, .inl ⟨sp9, rfl⟩, tj12, dr12, lI4, lp4, ne4, er4, ?_, ?_, ?_, tx12⟩
          · dsimp only
            rw [List.map_append]
            exact IntsAre.append iv4 (.cons _ _ .nil)
          · dsimp only; rw [List.length_append, List.length_cons, List.length_singleton]; omega
          · intro p hp
            dsimp only
            rcases List.mem_append.mp hp with h | h
            · obtain ⟨z1, z2⟩ := bp4 p (by rw [hq5]; exact List.mem_cons_of_mem _ h)
              exact ⟨by omega, z2⟩
            · rcases List.mem_cons.mp h with rfl | h
              · exact ⟨by rw [List.length_append, List.length_singleton]; omega, by simp, hp5i 0 (by decide)⟩
              · rw [List.mem_singleton.mp h]
                exact ⟨by rw [List.length_append, List.length_singleton]; omega, by simp, hp5i 1 (by decide)⟩
          · dsimp only; rw [List.length_append, List.length_singleton]; omega
      · (rename subL p5 wb = false => hs9)
        rw [hs9, if_neg Bool.false_ne_true] at er4
        (rename Fr _ _ _ _ => F10)
        have hwq : (c.q.length : Int) - 1 = ((qt.length : Nat) : Int) := by omega
        rw [hwq] at F10
        obtain ⟨wt9, hwt9⟩ := fr_int (x := ("waiting" : Str)) (i := ((qt.length : Nat) : Int)) F10 ⟨_, rfl⟩
        refine ksw_end ⟨c.I, c.fl, c.fe, pd6, qt, vs6, ws2, ln6, n56, ep6, ep26, c.acc, c.td, c.f - 1, wt9⟩ F10 (by k_asm) ?hnbm trivial ?hkbm ?hrbm ?hpbm ?hmbm
        (case hnbm => exact List.forall_mem_cons.mpr ⟨by k_mem, List.forall_mem_cons.mpr ⟨by k_mem, List.forall_mem_cons.mpr ⟨by k_mem, List.forall_mem_cons.mpr ⟨by k_mem, List.forall_mem_cons.mpr ⟨by k_mem, List.forall_mem_cons.mpr ⟨by k_mem, List.forall_mem_cons.mpr ⟨by k_mem, List.forall_mem_cons.mpr ⟨by k_mem, List.forall_mem_cons.mpr ⟨by k_mem, List.forall_mem_cons.mpr ⟨by k_mem, List.forall_mem_cons.mpr ⟨by k_mem, fun p hp => by (repeat (first | exact hp | refine List.Mem.tail _ ?_))⟩⟩⟩⟩⟩⟩⟩⟩⟩⟩⟩)
        (case hkbm => exact List.forall_mem_cons.mpr ⟨hwt9, List.forall_mem_cons.mpr ⟨rfl, fun _ h => nomatch h⟩⟩)
        (case hrbm => (intro z h2 h3; simp only [List.forall_mem_cons, List.not_mem_nil, false_implies, implies_true, and_true, ne_eq] at h2; simp only [List.contains_cons, List.contains_nil, Bool.or_false, Bool.or_eq_false_iff, beq_eq_false_iff_ne, ne_eq] at h3; simp [kstB, h2, h3]))
        (case hmbm => (dsimp only; omega))
        exact ⟨iv4, sg6, .inl ⟨sp6, rfl⟩, td4, dj4, lI4, lp4, ne4, er4, by dsimp only; omega, fun p hp => by have := bp4 p (by rw [hq5]; exact List.mem_cons_of_mem _ hp); exact ⟨by have h1 := this.1; dsimp only; omega, this.2⟩, by dsimp only; omega, tx4⟩
    · (rename ¬ (0 : Int) < _ => hpos)
      have hq0 : c.q = [] := by
        cases hq0 : c.q with
        | nil => rfl
        | cons p5 qt => rw [hq0] at hpos; exact absurd (Int.natCast_pos.mpr (Nat.succ_pos _)) hpos
      rw [hq0, bfs] at er4
      have h0 := Option.some.inj er4
      rw [h0] at iv4
      rcases qq4 with ⟨e1, e2⟩ | ⟨_, e2, _⟩
      · rw [hq0, List.map_nil] at e1
        have hpd : c.pd = [] := by
          cases hpd0 : c.pd with
          | nil => rfl
          | cons v0 pd0 => rw [hpd0] at e1; cases e1
        rw [e2] at sg4
        (rename Fr h₀ _ _ _ => kF)
        (rename News h₀ _ _ _ => kN)
        rw [hpd] at kN
        exact ret _ _ _ _ _ _ _ _ _ _ _ kF (cb_drop kN (List.forall_mem_cons.mpr ⟨by k_mem, List.forall_mem_cons.mpr ⟨by k_mem, List.forall_mem_cons.mpr ⟨by k_mem, List.forall_mem_cons.mpr ⟨by k_mem, List.forall_mem_cons.mpr ⟨by k_mem, List.forall_mem_cons.mpr ⟨by k_mem, List.forall_mem_cons.mpr ⟨by k_mem, List.forall_mem_cons.mpr ⟨by k_mem, List.forall_mem_cons.mpr ⟨by k_mem, List.forall_mem_cons.mpr ⟨by k_mem, fun p hp => by (repeat (first | exact hp | refine List.Mem.tail _ ?_))⟩⟩⟩⟩⟩⟩⟩⟩⟩⟩)) iv4 sg4 td4 dj4 (fun p hp a' ha => tx4 p hp a' (.tail _ (.tail _ ha))) (List.forall_mem_append.mpr ⟨fun p hp => tx4 p hp c.I (.head _), ne4⟩)
      · rw [hq0] at e2; cases e2
end
section
local macro_rules | `(tactic| walk_at "call builtin:len") => `(tactic| (k_here; k_dflt (refine' len_L ?N ?m ?f ?_; (case N => k_asm); (case m => k_mem); (case f => omega); k_whole)))
local macro_rules | `(tactic| walk_at "call ref") => `(tactic| with_reducible refine haltC ?_)
local macro_rules | `(tactic| walk_at "exec For Name List cons nil") => `(tactic| refine Halt.of ?_)
local macro_rules | `(tactic| walk_at "pyIter ref") => `(tactic| refine Halt.of ?_)
local macro_rules | `(tactic| walk_at "eval ListComp") => `(tactic| refine Halt.of ?_)
local macro_rules | `(tactic| walk_at "exec Assign cons ListComp") => `(tactic| refine Halt.of ?_)
local macro_rules | `(tactic| walk_at "CompSrc") => `(tactic| refine Halt.of ?_)
local macro_rules | `(tactic| walk_at "binaryOp Add str str") => `(tactic| (k_here; (with_reducible show wpAny _ _ (binaryOp _ (Value.str _ _) (Value.str _ _)) _ _ _); k_dflt (refine' PyProof.Rows.add_str ?_ ?z; (case z => exact fits4000' (by (simp only [Str.length_append] at *; omega)))); intro t' tk'))
local macro_rules | `(tactic| walk_at "subscriptTail") => `(tactic| refine Halt.of ?_)
local macro_rules | `(tactic| walk_at "call builtin:str.join") => `(tactic| refine Halt.of ?_)
theorem sa_item' {vs : List Value} {ws : List Str} (h : StrsAre vs ws) : ∀ (i : Nat) (c : Str), ws[i]? = some c → ∃ t, vs[i]? = some (.str c t) := by
  induction h with
  | nil => intro i c h; simp at h
  | cons y t _ ih =>
    intro i c h
    cases i with
    | zero => simp at h; exact ⟨t, by simp [h]⟩
    | succ i => simp at h; obtain ⟨t', e⟩ := ih i c h; exact ⟨t', by simpa using e⟩
theorem small_range {b : Int} (h : 0 ≤ b) (h2 : b < 2 ^ 62) : Builtin.Range.small 0 b 1 = true := small_one (by omega) (by omega) (by omega) (by omega)
theorem fits4000' {n : Nat} (h : n ≤ 4000) : n ≤ sizeLine := Nat.le_trans h (by rw [PySem.sizeLine_eq]; decide)
theorem fr_str2 {h₀ h : Heap} {L : Addr} {m : Str → Option Value} {x : Str} {i : Str} (_ : Fr h₀ L h m) (e : ∃ t, m x = some (.str i t)) : ∃ t, m x = some (.str i t) := e
structure FiSt where
  i : Nat
  o : Obj
  ow : Obj
  text : Str
  tt : Tok
  tb : List (Addr × Obj)
theorem file_spec {w : World} {mg mb : Str → Option Value} {p : Program} {loose : List Str} {mean : ExcName → Option Value} {dp un : Nat} {gd : Option (List Code)} {cn : Str} {cs : Scope} {a : Addr} {ccd : Value} {cl : List (Str × Addr)} {outer : List Env} {A₀ : Around} {base h₀ : Heap} {L : Addr} {m : Str → Option Value} {s : Shared} {Q E : Value → Shared → Prop} {tb rest : List (Addr × Obj)} {nN : Nat} {tx tp : Tok} {K : Addr} {vs : List Value} {ep : Nat} {ns : List Str} {c0 c1 : Nat}
  (B : Below A₀ base outer h₀) (F : Fr h₀ L s.heap m) (X : (hd1.heap_39 w.params).In h₀) (N : News h₀ L s.heap (tb ++ ((K, W.listOf vs.toArray ep) :: rest))) (T : Top p loose mean mg mb h₀) (hk : cs.kind = .function) (hd : dp + 200 < recursionLimit) (hu : un + 1500 < cLine)
  (hs : StrsAre vs ns) (hn : 7 ≤ ns.length) (hn1 : ∀ u ∈ ns, u.length ≤ 1) (hc : c0 ≠ c1) (hN : nN ≤ 100) (ti : TabI2 tb) (CI : CodeHd base 41 37) (dj : ∀ p ∈ tb, ∀ q ∈ (K, W.listOf vs.toArray ep) :: rest, p.1 ≠ q.1)
  (ret : ∀ T t tb' h' tk', Fr h₀ L h' m → News h₀ L h' ((K, W.listOf vs.toArray ep) :: (tb' ++ rest)) → T.cps.toList = fileL c0 c1 (ns.map fun u => u.cps.toList) [nN, nN + 1] → T.length ≤ 200 → TabI2 tb' → (∀ p ∈ tb', ∀ q ∈ rest, p.1 ≠ q.1) → (∀ p ∈ tb', p.1 ≠ K) → Q (.str T t) { s with heap := h', toks := tk' }) :
  wpAny (model PySem.Challenge.pw_pg0212_01 w) (ktrTop dp un gd cn cs L a ccd cl outer) (call (.ref 117) [.int (nN : Int) tx, .str ⟨#[c0, c1]⟩ tp, .ref K]) Q E s := by
  refine wpAny_call ?_
  k_dflt (first
  | cell_enter
  | (refine' code_def ?k1 ?k2 ?k3 ?k4 ?k5 ?kA ?kF ?kK ?k6 ?k7 ?k8 ?k9 ?kB ?_ ?c2 ?c3 ?c4 ?c5; (case kA => exact rfl); (case kF => exact rfl); (case kK => first | assumption | exact rfl); (case k1 => k_asm); (case k2 => k_asm); (case k3 => k_asm); (case k4 => k_asm); (case k5 => k_asm); (case k6 => k_is); (case k7 => k_is); (case k8 => ktr_room); (case k9 => first | exact BindsTo.of_eq rfl | exact binds_K (by k_in) rfl (by k_is) rfl rfl rfl | fail "k_enter: no rule for these arguments"); (case c5 => decide); (case kB => exact locs rfl); (case c2 => exact rfl); (case c3 => exact rfl); (case c4 => exact rfl); k_whole; intro g' L' h' FG' F' N' B' X' T'; (try dsimp only); (try k_lift B'); (try k_fold))
  | (refine' code_defC ?k1 ?k2 ?k3 ?k4 ?k5 ?kA ?kF ?kK ?k6 ?k7 ?k8 ?k9 ?kB ?kD ?_ ?c2 ?c3 ?c4; (case kA => exact rfl); (case kF => exact rfl); (case kK => first | assumption | exact rfl); (case k1 => k_asm); (case k2 => k_asm); (case k3 => k_asm); (case k4 => k_asm); (case k5 => k_asm); (case k6 => k_is); (case k7 => k_is); (case k8 => ktr_room); (case k9 => first | exact BindsTo.of_eq rfl | exact binds_K (by k_in) rfl (by k_is) rfl rfl rfl | fail "k_enter: no rule for these arguments"); (case kB => exact rfl); (case kD => decide +kernel); (case c2 => exact rfl); (case c3 => exact rfl); (case c4 => exact rfl); k_whole; intro g9 L9 h9 tk9 cells9 FG9 F9 N9 Y9 B9 X9 T9 l9; (try k_lt l9); k_cells Y9; (try simp only [List.cons_append, List.nil_append] at N9); (try dsimp only); (try k_lift B9); (try k_fold)))
  k_steps
  unfold Halt
  refine wpAny_For ?_
  k_steps
  unfold Halt
  rename_i ow9 on9 op9 dw9 dn9 dp9 _ _ h8 l8 h7 F7 N7 _ l7
  have hcn : on9.data = .cell (some (.ref K)) := dn9
  have hcp : op9.data = .cell (some (.str ⟨#[c0, c1]⟩ tp)) := dp9
  have hcw : ∃ v, ow9.data = .cell v := ⟨_, dw9⟩
  clear dn9 dp9 dw9
  have N8 := cb_drop (news := (l8, W.listOf (List.toArray [Value.int (nN : Int) tx, Value.int ((nN : Int) + 1) _]) 0) :: (L9 + 1 + 1 + 1, ow9) :: (L9 + 1 + 1, on9) :: (L9 + 1, op9) :: (K, W.listOf vs.toArray ep) :: (tb ++ rest)) N7 (List.forall_mem_cons.mpr ⟨by k_mem, List.forall_mem_cons.mpr ⟨by k_mem, List.forall_mem_cons.mpr ⟨by k_mem, List.forall_mem_cons.mpr ⟨by k_mem, List.forall_mem_cons.mpr ⟨.tail _ (.tail _ (.tail _ (.tail _ (List.mem_append.mpr (.inr (.head _)))))), List.forall_mem_append.mpr ⟨fun p hp => .tail _ (.tail _ (.tail _ (.tail _ (List.mem_append.mpr (.inl hp))))), fun p hp => .tail _ (.tail _ (.tail _ (.tail _ (List.mem_append.mpr (.inr (.tail _ hp))))))⟩⟩⟩⟩⟩⟩)
  clear N7
  have tlt : ∀ p ∈ tb, @LT.lt Nat _ p.1 L9 := fun p hp => l9 p (List.mem_append.mpr (.inl hp))
  have rlt : ∀ p ∈ rest, @LT.lt Nat _ p.1 L9 := fun p hp => l9 p (List.mem_append.mpr (.inr (.tail _ hp)))
  have klt : @LT.lt Nat _ K L9 := l9 (K, W.listOf vs.toArray ep) (List.mem_append.mpr (.inr (.head _)))
  have Llt : @LT.lt Nat _ (L9 + 1 + 1 + 1) l8 := l7.1
  obtain ⟨t1', N9⟩ : ∃ t1', News g9 L9 h7 ((l8, W.listOf (List.toArray [Value.int (nN : Int) tx, Value.int ((nN : Int) + 1) t1']) 0) :: _) := ⟨_, N8⟩
  clear N8
  refine' li_make (D := l8) F7 N9 (.head _) ?_
  intro I o0 h6 F6 N6 lo6 l6
  have lI : @LT.lt Nat _ l8 I := l6 (l8, _) (.head _)
  clear l6
  obtain ⟨tt0, htt0⟩ := fr_str2 (x := ("text" : Str)) (i := ("" : Str)) F6 ⟨_, rfl⟩
  (try dsimp only)
  refine' forI (L := _) (fun c : FiSt => (I, c.o) :: (l8, W.listOf (List.toArray [Value.int (nN : Int) tx, Value.int ((nN : Int) + 1) t1']) 0) :: (L9 + 1 + 1 + 1, c.ow) :: (L9 + 1 + 1, on9) :: (L9 + 1, op9) :: (K, W.listOf vs.toArray ep) :: (c.tb ++ rest)) (fun c => [("text", .str c.text c.tt)]) ["other"]
    (fun c => c.i ≤ 2 ∧ LiAt c.o l8 c.i ∧ c.text.cps.toList = fileL c0 c1 (ns.map fun u => u.cps.toList) ([nN, nN + 1].take c.i) ∧ c.text.length ≤ 100 * c.i ∧ TabI2 c.tb ∧ (∀ p ∈ c.tb, ∀ q ∈ rest, p.1 ≠ q.1) ∧ (∀ p ∈ c.tb, ∀ a' ∈ [I, l8, L9 + 1 + 1 + 1, L9 + 1 + 1, L9 + 1, K], p.1 ≠ a') ∧ (∃ v, c.ow.data = .cell v))
    (fun c => 2 - c.i) ⟨0, o0, ow9, ("" : Str), tt0, tb⟩ ?F9 ?N9 ?hk9 ?hr9 ?hp9 ?turn9
  (case F9 => exact F6)
  (case N9 => exact N6)
  (case hk9 => exact List.forall_mem_cons.mpr ⟨htt0, fun _ h => nomatch h⟩)
  (case hr9 => exact fun z _ _ => rfl)
  (case hp9 => exact ⟨Nat.zero_le _, lo6, rfl, Nat.le_refl _, ti, fun p hp q hq => dj p hp q (.tail _ hq), (fun p hp => by
    have h1 := tlt p hp
    exact List.forall_mem_cons.mpr ⟨by refine neN ?_; omega, List.forall_mem_cons.mpr ⟨by refine neN ?_; omega, List.forall_mem_cons.mpr ⟨by refine neN ?_; omega, List.forall_mem_cons.mpr ⟨by refine neN ?_; omega, List.forall_mem_cons.mpr ⟨by refine neN ?_; omega, List.forall_mem_cons.mpr ⟨dj p hp (K, W.listOf vs.toArray ep) (.head _), fun _ h => nomatch h⟩⟩⟩⟩⟩⟩), hcw⟩)
  intro c u h4 tk4 P4 F4 N4
  obtain ⟨hi4, lo4, tx4, tl4, ti4, dj4, dl4, ow4⟩ := P4
  by_cases hlast : c.i < 2
  · obtain ⟨to4, ho4⟩ : ∃ t, [Value.int (nN : Int) tx, Value.int ((nN : Int) + 1) t1'][c.i]? = some (.int ((nN + c.i : Nat) : Int) t) := by
      have : c.i = 0 ∨ c.i = 1 := by omega
      rcases this with e | e <;> rw [e]
      · exact ⟨_, rfl⟩
      · exact ⟨_, by rw [Int.natCast_add]; rfl⟩
    have neI : ∀ p ∈ c.tb ++ rest, p.1 ≠ I := List.forall_mem_append.mpr ⟨fun p hp => dl4 p hp I (by repeat (first | exact .head _ | refine .tail _ ?_)), fun p hp => by have := rlt p hp; refine neN ?_; omega⟩
    refine li_item (D := l8) F4 N4 (by k_updF) lo4 (by k_mem) ho4 (fun h5 o5 F5 N5 lo5 => ?_)
    (try dsimp only at N5 ⊢)
    obtain ⟨kq, hkq⟩ : ∃ kq, Builtin.Int.intBits ((nN + c.i : Nat) : Int) = kq := ⟨_, rfl⟩
    have hkq1 : kq ≤ 7 := by rw [← hkq]; exact bits_le (by omega)
    have hX : nN + c.i < 2 ^ (1 * kq) := by rw [Nat.one_mul, ← hkq]; exact bits_lt _
    have hX0 : nN + c.i = 0 → kq = 0 := fun e => by rw [← hkq, e]; rfl
    k_steps
    unfold Halt
    k_dflt (refine wpAny_Assign_Name ?_ (by with_unfolding_all rfl))
    k_steps
    unfold Halt
    k_dflt (refine' LCg.ListComp_U ?Fa (by with_unfolding_all rfl) (by decide) (by rfl) (by decide) (by rfl) ?_)
    (case Fa => k_asm)
    k_steps
    unfold Halt
    (try dsimp only [List.nil_append, List.append_nil, List.cons_append])
    refine' i2d_spec (kq := kq) (nN := 1) (xN := nN + c.i) (tb := c.tb) (rest := (I, o5) :: (l8, W.listOf (List.toArray [Value.int (nN : Int) tx, Value.int ((nN : Int) + 1) t1']) 0) :: (L9 + 1 + 1 + 1, c.ow) :: (L9 + 1 + 1, on9) :: (L9 + 1, op9) :: (K, W.listOf vs.toArray ep) :: rest) ?Bb ?Fb ?Xb ?Nb ?Tb ?hkb ?hdb ?hub ti4 ?djb CI rfl rfl (by decide) (by decide) ?hqb (by omega) hX hX0 ?retb
    (case Bb => k_asm)
    (case Fb => k_asm)
    (case Xb => k_asm)
    (case Nb => exact cb_drop (by k_asm) (List.forall_mem_append.mpr ⟨fun p hp => by (repeat (first | exact List.mem_append.mpr (.inl hp) | refine List.Mem.tail _ ?_)), List.forall_mem_cons.mpr ⟨by k_mem, List.forall_mem_cons.mpr ⟨by k_mem, List.forall_mem_cons.mpr ⟨by k_mem, List.forall_mem_cons.mpr ⟨by k_mem, List.forall_mem_cons.mpr ⟨by k_mem, List.forall_mem_cons.mpr ⟨by k_mem, fun p hp => by (repeat (first | exact List.mem_append.mpr (.inr hp) | refine List.Mem.tail _ ?_))⟩⟩⟩⟩⟩⟩⟩))
    (case Tb => k_asm)
    (case hkb => exact rfl)
    (case hdb => (simp only [recursionLimit] at *; omega))
    (case hub => (simp only [cLine_is] at *; omega))
    (case djb => exact fun p hp => List.forall_mem_cons.mpr ⟨dl4 p hp _ (by repeat (first | exact .head _ | refine .tail _ ?_)), List.forall_mem_cons.mpr ⟨dl4 p hp _ (by repeat (first | exact .head _ | refine .tail _ ?_)), List.forall_mem_cons.mpr ⟨dl4 p hp _ (by repeat (first | exact .head _ | refine .tail _ ?_)), List.forall_mem_cons.mpr ⟨dl4 p hp _ (by repeat (first | exact .head _ | refine .tail _ ?_)), List.forall_mem_cons.mpr ⟨dl4 p hp _ (by repeat (first | exact .head _ | refine .tail _ ?_)), List.forall_mem_cons.mpr ⟨dl4 p hp _ (by repeat (first | exact .head _ | refine .tail _ ?_)), dj4 p hp⟩⟩⟩⟩⟩⟩)
    (case hqb => rw [hkq, Int.fdiv_one]; omega)
    intro D5 vs5 tb5 h7' tk7' F8 N8 iv5 ti5 dj5 lD5 nD5
    have N9 := cb_drop (news := (D5, W.listOf vs5.toArray 0) :: (I, o5) :: (l8, W.listOf (List.toArray [Value.int (nN : Int) tx, Value.int ((nN : Int) + 1) t1']) 0) :: (L9 + 1 + 1 + 1, c.ow) :: (L9 + 1 + 1, on9) :: (L9 + 1, op9) :: (K, W.listOf vs.toArray ep) :: (tb5 ++ rest)) N8 (List.forall_mem_cons.mpr ⟨.head _, List.forall_mem_cons.mpr ⟨.tail _ (List.mem_append.mpr (.inr (by k_mem))), List.forall_mem_cons.mpr ⟨.tail _ (List.mem_append.mpr (.inr (by k_mem))), List.forall_mem_cons.mpr ⟨.tail _ (List.mem_append.mpr (.inr (by k_mem))), List.forall_mem_cons.mpr ⟨.tail _ (List.mem_append.mpr (.inr (by k_mem))), List.forall_mem_cons.mpr ⟨.tail _ (List.mem_append.mpr (.inr (by k_mem))), List.forall_mem_cons.mpr ⟨.tail _ (List.mem_append.mpr (.inr (by k_mem))), List.forall_mem_append.mpr ⟨fun p hp => .tail _ (List.mem_append.mpr (.inl hp)), fun p hp => .tail _ (List.mem_append.mpr (.inr (by (repeat (first | exact hp | refine List.Mem.tail _ ?_)))))⟩⟩⟩⟩⟩⟩⟩⟩)
    clear N8
    have dl5 : ∀ p ∈ tb5, ∀ a' ∈ [I, l8, L9 + 1 + 1 + 1, L9 + 1 + 1, L9 + 1, K], p.1 ≠ a' := fun p hp => List.forall_mem_cons.mpr ⟨dj5 p hp (I, _) (.head _), List.forall_mem_cons.mpr ⟨dj5 p hp (l8, _) (.tail _ (.head _)), List.forall_mem_cons.mpr ⟨dj5 p hp (L9 + 1 + 1 + 1, _) (.tail _ (.tail _ (.head _))), List.forall_mem_cons.mpr ⟨dj5 p hp (L9 + 1 + 1, _) (.tail _ (.tail _ (.tail _ (.head _)))), List.forall_mem_cons.mpr ⟨dj5 p hp (L9 + 1, _) (.tail _ (.tail _ (.tail _ (.tail _ (.head _))))), List.forall_mem_cons.mpr ⟨dj5 p hp (K, _) (.tail _ (.tail _ (.tail _ (.tail _ (.tail _ (.head _)))))), fun _ h => nomatch h⟩⟩⟩⟩⟩⟩
    have dr5 : ∀ p ∈ tb5, ∀ q ∈ rest, p.1 ≠ q.1 := fun p hp q hq => dj5 p hp q (by (repeat (first | exact hq | refine List.Mem.tail _ ?_)))
    have lD5w : @LT.lt Nat _ (L9 + 1 + 1 + 1) D5 := lD5 (L9 + 1 + 1 + 1, c.ow) (.tail _ (.tail _ (.head _)))
    have lD5I : @LT.lt Nat _ I D5 := lD5 (I, o5) (.head _)
    have rD5 : ∀ q ∈ rest, @LT.lt Nat _ q.1 D5 := fun q hq => lD5 q (by (repeat (first | exact hq | refine List.Mem.tail _ ?_)))
    clear lD5 dj5
    obtain ⟨ds, hds⟩ : ∃ ds, digsN 2 kq (nN + c.i) = ds := ⟨_, rfl⟩
    have hdl : ds.length = kq := by rw [← hds, digsN_length]
    have hdb : ∀ d ∈ ds, d < 2 := hds ▸ digsN_lt (by decide) kq _
    rw [show (2 : Nat) ^ 1 = 2 from rfl, digs_map, hds] at iv5
    have hvl : vs5.length = kq := by rw [iv5.length, List.length_map, hdl]
    refine' LCg.CompSrc.ledger (ax := D5) (its := vs5.toArray) (k := 0) rfl ?Fc ?Nc (.head _) ?zc ?_
    (case Fc => k_asm)
    (case Nc => exact N9)
    (case zc => rw [List.size_toArray, hvl]; exact fits4000' (by omega))
    intro g6
    refine' cr_rest (fun i y => ∃ t, y = Value.str (sg1 (if ds.getD i 0 = 0 then c0 else c1)) t) ?turn1 ?fin1
    case turn1 =>
      intro i v I10 oI10 C10 oC10 D10 m10 ys10 h10 tk10 E10 hi10 hP10 hC10 hx10 F10 N10 off10 ne10
      rw [List.size_toArray, hvl] at hi10
      obtain ⟨ti10, hti10⟩ := ints_at iv5 (i := i) (by omega)
      have hv : v = .int ((ds.getD i 0 : Nat) : Int) ti10 := by
        have hP : vs5[i]? = some v := by simpa using hP10
        rw [hti10] at hP; exact (Option.some.inj hP).symm
      subst hv
      have hb2 : ds.getD i 0 < 2 := hdb _ (by rw [List.getD_eq_getElem?_getD, List.getElem?_eq_getElem (by omega)]; exact List.getElem_mem _)
      have hb3 : ds.getD i 0 = 0 ∨ ds.getD i 0 = 1 := by omega
      rcases hb3 with hb | hb
      · rw [hb, show ((0 : Nat) : Int) = 0 from rfl] at hx10
        k_steps
        · (rename _ ∨ _ => hor9)
          exact absurd hor9 (by rw [show (⟨#[c0, c1]⟩ : Str).length = 2 from rfl]; decide)
        · refine LCg.CompEnd.intro F10 N10 _ (fun _ h => h) off10 ?_ ?_
          · exact .inr ⟨_, .head _, rfl, _, rfl⟩
          · exact ⟨rfl, _, by rw [hb]; rfl⟩
      · rw [hb, show ((1 : Nat) : Int) = 1 from rfl] at hx10
        k_steps
        · (rename _ ∨ _ => hor9)
          exact absurd hor9 (by rw [show (⟨#[c0, c1]⟩ : Str).length = 2 from rfl]; decide)
        · refine LCg.CompEnd.intro F10 N10 _ (fun _ h => h) off10 ?_ ?_
          · exact .inr ⟨_, .head _, rfl, _, rfl⟩
          · exact ⟨rfl, _, by rw [hb]; rfl⟩
    case fin1 =>
      intro ys11 hl11 hy11 D11 h11 tk11 F11 N11 of11
      have i11 := strs_of (g := fun i => sg1 (if ds.getD i 0 = 0 then c0 else c1)) hl11 hy11
      rw [List.size_toArray, hvl] at i11
      have hy11l : ys11.length = kq := by rw [hl11, List.size_toArray, hvl]
      have n11 : @Ne Nat D11 (L9 + 1 + 1 + 1) := (off1_mem of11 (L9 + 1 + 1 + 1, c.ow) (by k_mem)).symm
      have neW5 : ∀ p ∈ tb5 ++ rest, p.1 ≠ L9 + 1 + 1 + 1 := List.forall_mem_append.mpr ⟨fun p hp => dl5 p hp _ (by repeat (first | exact .head _ | refine .tail _ ?_)), fun p hp => by have := rlt p hp; refine neN ?_; omega⟩
      obtain ⟨v0, hw0⟩ := ow4
      k_steps
      (rename News _ _ _ _ => N12)
      (rename Obj.data _ = Data.cell (some (Value.ref D11)) => hw12)
      rename_i h12 ow12 F12
      unfold Halt
      k_dflt (refine' LCg.ListComp_U ?Fd (by with_unfolding_all rfl) (by decide) (by rfl) (by decide) (by rfl) ?_)
      (case Fd => k_asm)
      k_steps
      unfold Halt
      have hns : ∀ i, i < kq → ∃ t, vs[i]? = some (.str (ns.getD i ("" : Str)) t) := fun i hi => sa_item' hs i _ (by rw [List.getD_eq_getElem?_getD, List.getElem?_eq_getElem (by omega)]; rfl)
      have hws : ∀ i, i < kq → ∃ t, ys11[kq - 1 - i]? = some (.str (sg1 (if ds.getD (kq - 1 - i) 0 = 0 then c0 else c1)) t) := fun i hi => sa_item' i11 _ _ (by rw [List.getElem?_map, List.getElem?_range (by omega)]; rfl)
      refine' LCg.CompSrc.range (n := kq) rfl ?Fe ?Ne ?re ?sme ?rse ?sze ?_
      (case Fe => k_asm)
      (case Ne => k_asm)
      (case re => assumption)
      (case sme => exact small_range (by omega) (by omega))
      (case rse => rw [rangeSize_nat]; omega)
      (case sze => exact fits4000' (by omega))
      intro g13
      refine' cr_rest (fun i y => ∃ t, y = Value.str (sg1 (if ds.getD (kq - 1 - i) 0 = 0 then c0 else c1) ++ ns.getD i ("" : Str)) t) ?turn2 ?fin2
      case turn2 =>
        intro i v I10 oI10 C10 oC10 D10 m10 ys10 h10 tk10 E10 hi10 hP10 hC10 hx10 F10 N10 off10 ne10
        obtain ⟨tk0, rfl⟩ := hP10
        obtain ⟨tw0, hw0⟩ := hws i hi10
        obtain ⟨tn0, hn0⟩ := hns i hi10
        k_steps
        unfold Halt
        refine' tail_any (News.isList (a := D11) (items := ys11.toArray) ?N2 ?m2).typeIs slot_list_getitem.lookup (wpAny_getItem_list_neg (News.isList (a := D11) (items := ys11.toArray) ?N3 ?m3) ?a3 ?b3 ?c3 (x := .str (sg1 (if ds.getD (kq - 1 - i) 0 = 0 then c0 else c1)) tw0) ?x3 ?_) (by with_unfolding_all rfl)
        (case N2 => k_asm)
        (case m2 => k_mem)
        (case N3 => k_asm)
        (case m3 => k_mem)
        (case a3 => omega)
        (case b3 => rw [List.size_toArray]; omega)
        (case c3 => omega)
        (case x3 => rw [List.size_toArray, show ((-1 : Int) - (0 + (i : Int)) + (ys11.length : Int)).toNat = kq - 1 - i by omega]; simpa using hw0)
        k_steps
        unfold Halt
        refine' tail_any (News.isList (a := K) (items := vs.toArray) ?N4 ?m4).typeIs slot_list_getitem.lookup (wpAny_getItem_list (News.isList (a := K) (items := vs.toArray) ?N5 ?m5) ?a5 ?b5 (x := .str (ns.getD i ("" : Str)) tn0) ?x5 ?_) (by with_unfolding_all rfl)
        (case N4 => k_asm)
        (case m4 => k_mem)
        (case N5 => k_asm)
        (case m5 => k_mem)
        (case a5 => omega)
        (case b5 => omega)
        (case x5 => rw [show ((0 : Int) + (i : Int)).toNat = i by omega]; simpa using hn0)
        have hsz : (sg1 (if ds.getD (kq - 1 - i) 0 = 0 then c0 else c1)).length = 1 := rfl
        have hnz : (ns.getD i ("" : Str)).length ≤ 1 := hn1 _ (by rw [List.getD_eq_getElem?_getD, List.getElem?_eq_getElem (by omega)]; exact List.getElem_mem _)
        k_steps
        refine LCg.CompEnd.intro (by k_asm) (by k_asm) _ (fun _ h => h) off10 trivial ?_
        exact ⟨rfl, _, rfl⟩
      case fin2 =>
        intro ys13 hl13 hy13 D13 h13 tk13 F13 N13 of13
        have i13 := strs_of (g := fun i => sg1 (if ds.getD (kq - 1 - i) 0 = 0 then c0 else c1) ++ ns.getD i ("" : Str)) hl13 hy13
        have hsum : (((List.range kq).map fun i => sg1 (if ds.getD (kq - 1 - i) 0 = 0 then c0 else c1) ++ ns.getD i ("" : Str)).map (·.length)).sum + ((List.range kq).map fun i => sg1 (if ds.getD (kq - 1 - i) 0 = 0 then c0 else c1) ++ ns.getD i ("" : Str)).length * ("" : Str).length ≤ 100000 := by
          have h1 := sum_le (B := 2) ((List.range kq).map fun i => sg1 (if ds.getD (kq - 1 - i) 0 = 0 then c0 else c1) ++ ns.getD i ("" : Str)) (fun u hu => by
            obtain ⟨i, hi, rfl⟩ := List.mem_map.mp hu
            have hi' := List.mem_range.mp hi
            have hnz : (ns.getD i ("" : Str)).length ≤ 1 := hn1 _ (by rw [List.getD_eq_getElem?_getD, List.getElem?_eq_getElem (by omega)]; exact List.getElem_mem _)
            show (sg1 _ ++ _ : Str).length ≤ 2
            rw [Str.length_append, show ∀ z, (sg1 z).length = 1 from fun _ => rfl]; omega)
          rw [List.length_map, List.length_range] at h1 ⊢
          rw [show ("" : Str).length = 0 from rfl]; omega
        have n13 : @Ne Nat D13 (L9 + 1 + 1 + 1) := (off1_mem of13 (L9 + 1 + 1 + 1, ow12) (by k_mem)).symm
        k_steps
        unfold Halt
        refine' join_S (D := D13) (vs := ys13) ?Nf ?mf i13 hsum ?_
        (case Nf => k_asm)
        (case mf => k_mem)
        intro t14 k14
        obtain ⟨Wd, hWd⟩ : ∃ Wd, Txt.join ("" : Str) ((List.range kq).map fun i => sg1 (if ds.getD (kq - 1 - i) 0 = 0 then c0 else c1) ++ ns.getD i ("" : Str)) = Wd := ⟨_, rfl⟩
        rw [hWd]
        have hWl : Wd.cps.toList = wordL c0 c1 (msb (nN + c.i)) (ns.map fun u => u.cps.toList) := by rw [← hWd, word_text hdl, msb, hkq, hds]
        have hWn : Wd.length ≤ 20 := by
          rw [length_toList, hWl]
          have h2 := wordL_length c0 c1 (msb (nN + c.i)) (ns.map fun u => u.cps.toList) (fun z hz => by obtain ⟨u, hu, rfl⟩ := List.mem_map.mp hz; exact hn1 u hu)
          rw [msb, List.length_reverse, digsN_length, hkq] at h2
          rw [msb, hkq]; omega
        have lq1 : (PySem.Str.ofString "\"").length = 1 := rfl
        have lq2 : (PySem.Str.ofString "\\").length = 1 := rfl
        have lq3 : (PySem.Str.ofString "\" \\").length = 3 := rfl
        have lq4 : (PySem.Str.ofString " ").length = 1 := rfl
        have lq5 : (Txt.item (⟨#[c0, c1]⟩ : Str) 1).length = 1 := rfl
        have lct : c.text.length ≤ 200 := by omega
        k_steps
        (rename Obj.data _ = Data.cell (some (Value.str Wd t14)) => hw14)
        (rename Fr _ _ _ _ => F14)
        (rename News _ _ _ _ => N14)
        rename_i h14 ow14 t14b k14b a14b
        unfold Halt
        k_dflt (refine' ListComp_S ?Fg (by with_unfolding_all rfl) (by decide) (by rfl) (by decide) (by rfl) ?_)
        (case Fg => k_asm)
        k_steps
        have hWs : Wd.cps.size = Wd.cps.toList.length := by simp
        refine' SrcS.of rfl ?Fh ?Nh ?zh ?_
        (case Fh => k_asm)
        (case Nh => k_asm)
        (case zh => exact fits4000' (Nat.le_trans hWn (by decide)))
        intro g15
        refine' cr_rest (fun i y => ∃ t, y = Value.str (("\\" : Str) ++ sg1 (Wd.cps.toList.getD i 0)) t) ?turn3 ?fin3
        case turn3 =>
          intro i v I10 oI10 C10 oC10 D10 m10 ys10 h10 tk10 E10 hi10 hP10 hC10 hx10 F10 N10 off10 ne10
          obtain ⟨cc, uu, hcc, rfl⟩ := hP10
          have hcc' : Wd.cps.toList.getD i 0 = cc := by
            rw [List.getD_eq_getElem?_getD, Array.getElem?_toList, hcc]; rfl
          have lcc : (⟨#[cc]⟩ : Str).length = 1 := rfl
          k_steps
          refine LCg.CompEnd.intro (by k_asm) (by k_asm) _ (fun _ h => h) off10 trivial ?_
          exact ⟨rfl, _, by rw [hcc']⟩
        case fin3 =>
          intro ys15 hl15 hy15 D15 h15 tk15 F15 N15 of15
          have i15 := strs_of (g := fun i => ("\\" : Str) ++ sg1 (Wd.cps.toList.getD i 0)) hl15 hy15
          rw [hWs] at i15
          have hsum3 : (((List.range Wd.cps.toList.length).map fun i => ("\\" : Str) ++ sg1 (Wd.cps.toList.getD i 0)).map (·.length)).sum + ((List.range Wd.cps.toList.length).map fun i => ("\\" : Str) ++ sg1 (Wd.cps.toList.getD i 0)).length * ("" : Str).length ≤ 100000 := by
            have h1 := sum_le (B := 2) ((List.range Wd.cps.toList.length).map fun i => ("\\" : Str) ++ sg1 (Wd.cps.toList.getD i 0)) (fun u hu => by
              obtain ⟨i, hi, rfl⟩ := List.mem_map.mp hu
              exact Nat.le_refl 2)
            rw [List.length_map, List.length_range, ← length_toList] at h1 ⊢
            rw [show ("" : Str).length = 0 from rfl]; omega
          k_steps
          unfold Halt
          refine' join_S (D := D15) (vs := ys15) ?Ni ?mi i15 hsum3 ?_
          (case Ni => k_asm)
          (case mi => k_mem)
          intro t16 k16
          obtain ⟨Jd, hJd⟩ : ∃ Jd, Txt.join ("" : Str) ((List.range Wd.cps.toList.length).map fun i => ("\\" : Str) ++ sg1 (Wd.cps.toList.getD i 0)) = Jd := ⟨_, rfl⟩
          rw [hJd]
          have hJl : Jd.cps.toList = escL Wd.cps.toList := by rw [← hJd, esc_text]
          have hJn : Jd.length ≤ 40 := by rw [length_toList, hJl, escL_length, ← length_toList]; omega
          k_steps
          (rename Fr _ _ _ _ => F17)
          (rename News _ _ _ _ => N17)
          obtain ⟨T17, hT17⟩ : ∃ T, c.text ++ PySem.Str.ofString "\"" ++ Jd ++ PySem.Str.ofString "\" \\" ++ Txt.item (⟨#[c0, c1]⟩ : Str) 1 ++ PySem.Str.ofString " " = T := ⟨_, rfl⟩
          rw [hT17] at F17
          have hTl : T17.cps.toList = fileL c0 c1 (ns.map fun u => u.cps.toList) ([nN, nN + 1].take (c.i + 1)) := by
            have htake : [nN, nN + 1].take (c.i + 1) = [nN, nN + 1].take c.i ++ [nN + c.i] := by
              have : c.i = 0 ∨ c.i = 1 := by omega
              rcases this with e | e <;> rw [e] <;> rfl
            rw [htake, fileL_snoc, ← tx4, oneL, ← hWl, ← hJl, ← hT17]
            simp only [Str.cps_append, Array.toList_append, List.append_assoc]
            rfl
          have hTn : T17.length ≤ 100 * (c.i + 1) := by
            rw [← hT17]; simp only [Str.length_append]; omega
          obtain ⟨t17, ht17⟩ := fr_str2 (x := ("text" : Str)) (i := T17) F17 ⟨_, rfl⟩
          refine ksw_end ⟨c.i + 1, o5, ow14, T17, t17, tb5⟩ F17 N17 ?hnb9 trivial ?hkb9 ?hrb9 ?hpb9 ?hmb9
          (case hnb9 => exact List.forall_mem_cons.mpr ⟨by k_mem, List.forall_mem_cons.mpr ⟨by k_mem, List.forall_mem_cons.mpr ⟨by k_mem, List.forall_mem_cons.mpr ⟨by k_mem, List.forall_mem_cons.mpr ⟨by k_mem, List.forall_mem_cons.mpr ⟨by k_mem, fun p hp => by (repeat (first | exact hp | refine List.Mem.tail _ ?_))⟩⟩⟩⟩⟩⟩)
          (case hkb9 => exact List.forall_mem_cons.mpr ⟨ht17, fun _ h => nomatch h⟩)
          (case hrb9 => (intro z h2 h3; simp only [List.forall_mem_cons, List.not_mem_nil, false_implies, implies_true, and_true, ne_eq] at h2; simp only [List.contains_cons, List.contains_nil, Bool.or_false, Bool.or_eq_false_iff, beq_eq_false_iff_ne, ne_eq] at h3; simp [kstB, h2, h3]))
          (case hmb9 => (dsimp only; omega))
          exact ⟨by dsimp only; omega, lo5, hTl, hTn, ti5, dr5, dl5, _, hw14⟩
  · have hi2 : c.i = 2 := by omega
    rw [hi2] at tx4
    refine li_end (D := l8) rfl F4 N4 (by k_mem) lo4 (by k_mem) (by show 2 ≤ c.i; omega) (nx := (K, W.listOf vs.toArray ep) :: (c.tb ++ rest)) (fun p hp => by (repeat (first | exact hp | refine List.Mem.tail _ ?_))) (List.forall_mem_cons.mpr ⟨by refine neN ?_; omega, List.forall_mem_append.mpr ⟨fun p hp => dl4 p hp I (by repeat (first | exact .head _ | refine .tail _ ?_)), fun p hp => by have := rlt p hp; refine neN ?_; omega⟩⟩) (fun h5 F5 N5 => ?_)
    (try dsimp only)
    k_steps
    exact ret _ _ _ _ _ (by k_asm) (by k_asm) tx4 (by omega) ti4 dj4 (fun p hp => dl4 p hp K (by repeat (first | exact .head _ | refine .tail _ ?_)))
end
section
local macro_rules | `(tactic| walk_at "binaryOp Add ref ref") => `(tactic| refine Halt.of ?_)
local macro_rules | `(tactic| walk_at "exec") => `(tactic| with_reducible refine haltWh ?_)
def bitsOf : Nat → List Nat
  | 0 => []
  | n + 1 => (n + 1) % 2 :: bitsOf ((n + 1) / 2)
decreasing_by omega
theorem bits_spec {w : World} {mg mb : Str → Option Value} {p : Program} {loose : List Str} {mean : ExcName → Option Value} {dp un : Nat} {gd : Option (List Code)} {cn : Str} {cs : Scope} {a : Addr} {ccd : Value} {cl : List (Str × Addr)} {outer : List Env} {A₀ : Around} {base h₀ : Heap} {L : Addr} {m : Str → Option Value} {s : Shared} {Q E : Value → Shared → Prop} {rest : List (Addr × Obj)} {nN : Nat} {tx : Tok}
  (B : Below A₀ base outer h₀) (F : Fr h₀ L s.heap m) (X : (hd1.heap_39 w.params).In h₀) (N : News h₀ L s.heap rest) (T : Top p loose mean mg mb h₀) (hk : cs.kind = .function) (hd : dp + 40 < recursionLimit) (hu : un + 320 < cLine)
  (hn : nN ≤ 64) (ret : ∀ I vs ep h' tk', Fr h₀ L h' m → News h₀ L h' ((I, W.listOf (vs).toArray ep) :: rest) → IntsAre vs ((bitsOf nN).map Int.ofNat) → (∀ p ∈ rest, @LT.lt Nat _ p.1 I) → Q (.ref I) { s with heap := h', toks := tk' }) :
  wpAny (model PySem.Challenge.pw_pg0212_01 w) (ktrTop dp un gd cn cs L a ccd cl outer) (call (.ref 136) [.int (nN : Int) tx]) Q E s := by
  refine wpAny_call ?_
  k_dflt (first
  | cell_enter
  | (refine' code_def ?k1 ?k2 ?k3 ?k4 ?k5 ?kA ?kF ?kK ?k6 ?k7 ?k8 ?k9 ?kB ?_ ?c2 ?c3 ?c4 ?c5; (case kA => exact rfl); (case kF => exact rfl); (case kK => first | assumption | exact rfl); (case k1 => k_asm); (case k2 => k_asm); (case k3 => k_asm); (case k4 => k_asm); (case k5 => k_asm); (case k6 => k_is); (case k7 => k_is); (case k8 => ktr_room); (case k9 => first | exact BindsTo.of_eq rfl | exact binds_K (by k_in) rfl (by k_is) rfl rfl rfl | fail "k_enter: no rule for these arguments"); (case c5 => decide); (case kB => exact locs rfl); (case c2 => exact rfl); (case c3 => exact rfl); (case c4 => exact rfl); k_whole; intro g' L' h' FG' F' N' B' X' T'; (try dsimp only); (try k_lift B'); (try k_fold))
  | (refine' code_defC ?k1 ?k2 ?k3 ?k4 ?k5 ?kA ?kF ?kK ?k6 ?k7 ?k8 ?k9 ?kB ?kD ?_ ?c2 ?c3 ?c4; (case kA => exact rfl); (case kF => exact rfl); (case kK => first | assumption | exact rfl); (case k1 => k_asm); (case k2 => k_asm); (case k3 => k_asm); (case k4 => k_asm); (case k5 => k_asm); (case k6 => k_is); (case k7 => k_is); (case k8 => ktr_room); (case k9 => first | exact BindsTo.of_eq rfl | exact binds_K (by k_in) rfl (by k_is) rfl rfl rfl | fail "k_enter: no rule for these arguments"); (case kB => exact rfl); (case kD => decide +kernel); (case c2 => exact rfl); (case c3 => exact rfl); (case c4 => exact rfl); k_whole; intro g9 L9 h9 tk9 cells9 FG9 F9 N9 Y9 B9 X9 T9 l9; (try k_lt l9); k_cells Y9; (try simp only [List.cons_append, List.nil_append] at N9); (try dsimp only); (try k_lift B9); (try k_fold)))
  k_steps
  unfold Halt
  rename_i F9 N9 tk9
  refine' ksw_while (σ := Addr × List Value × Nat × Nat × Tok × List Nat) (fun c => (c.1, W.listOf c.2.1.toArray c.2.2.1) :: rest) (fun c => [(("number" : Str), .int (c.2.2.2.1 : Int) c.2.2.2.2.1), (("bits" : Str), .ref c.1)]) (fun _ => True) [] (fun c => IntsAre c.2.1 (c.2.2.2.2.2.map Int.ofNat) ∧ c.2.2.2.2.2 ++ bitsOf c.2.2.2.1 = bitsOf nN ∧ c.2.2.2.2.2.length + c.2.2.2.1 ≤ nN ∧ ∀ p ∈ rest, @LT.lt Nat _ p.1 c.1) (fun c => c.2.2.2.1) (_, [], 0, nN, tx, []) ?F ?N trivial ?hk ?hp ?turn
  case F => k_asm
  case N => k_asm
  case hk => (intro p hp; simp only [List.mem_cons, List.not_mem_nil, or_false] at hp; rcases hp with rfl | rfl <;> rfl)
  case hp => exact ⟨.nil, rfl, Nat.le_of_eq (Nat.zero_add _), by assumption⟩
  case turn =>
    rintro ⟨I, vs, ep, n, tn, acc⟩ u h tk _ ⟨hi, hb, hn9, hr9⟩ F8 N8
    dsimp only at *
    k_steps
    · unfold Halt
      refine' kmk_add_ints ?F7 ?N7 ?a7 ?b7 hi (.cons _ _ .nil) ?_ ?z7
      (case F7 => k_asm)
      (case N7 => k_asm)
      (case a7 => kmk_list)
      (case b7 => kmk_list)
      (case z7 => (simp only [PySem.sizeLine_eq, List.length_map, List.length_cons, List.length_nil]; omega))
      intro D ws h7 F7 N7 l7 i7
      k_lt l7
      k_steps
      have hD : ∀ p ∈ rest, @LT.lt Nat _ p.1 D := fun p hp => Nat.lt_trans (hr9 p hp) (by omega)
      have hne : n = n - 1 + 1 := by omega
      (rename Fr _ _ _ _ => F5)
      have e2 : (n : Int).fdiv 2 = ((n / 2 : Nat) : Int) := fdiv_nat n 2
      have e3 : (n : Int).fmod 2 = ((n % 2 : Nat) : Int) := fmod_nat n 2
      rw [e2] at F5
      rw [e3] at i7
      obtain ⟨t9, ht9⟩ := fr_int (x := ("number" : Str)) (i := ((n / 2 : Nat) : Int)) F5 ⟨_, rfl⟩
      refine' ksw_end (D, ws, 0, n / 2, t9, acc ++ [n % 2]) (by k_asm) (by k_asm) ?hn trivial ?hk ?hr ?hp ?hm
      case hn => exact List.forall_mem_cons.mpr ⟨by k_mem, fun p hp => by (repeat (first | exact hp | refine List.Mem.tail _ ?_))⟩
      case hk => exact List.forall_mem_cons.mpr ⟨ht9, List.forall_mem_cons.mpr ⟨rfl, fun _ h => nomatch h⟩⟩
      case hr => (intro z h2 h3; simp only [List.forall_mem_cons, List.not_mem_nil, false_implies, implies_true, and_true, ne_eq] at h2; simp [kstB, h2])
      case hp =>
        refine ⟨?_, ?_, ?_, hD⟩
        · dsimp only; rw [List.map_append]; exact i7
        · dsimp only; rw [← hb, List.append_assoc]; congr 1; rw [hne, bitsOf]; rfl
        · dsimp only; rw [List.length_append, List.length_singleton]; omega
      case hm => (dsimp only; omega)
    · have hz : n = 0 := by omega
      subst hz
      rw [bitsOf, List.append_nil] at hb
      rw [hb] at hi
      exact ret _ _ _ _ _ (by k_asm) (by k_asm) hi hr9
end
section
def NoiseOk (pr u : Str) : Prop := u = ("" : Str) ∨ ∃ c : Nat, u = ({ cps := #[c] } : Str) ∧ c < 1114112 ∧ (Builtin.Str.occurrences pr ({ cps := #[c] } : Str) 0 pr.length 1).isEmpty = true
theorem noise_spec {w : World} {mg mb : Str → Option Value} {p : Program} {loose : List Str} {mean : ExcName → Option Value} {dp un : Nat} {gd : Option (List Code)} {cn : Str} {cs : Scope} {a : Addr} {ccd : Value} {cl : List (Str × Addr)} {outer : List Env} {A₀ : Around} {base h₀ : Heap} {L : Addr} {m : Str → Option Value} {s : Shared} {Q E : Value → Shared → Prop} {news : List (Addr × Obj)} {x : Int} {pr : Str} {tx tp : Tok}
  (B : Below A₀ base outer h₀) (F : Fr h₀ L s.heap m) (X : (hd1.heap_39 w.params).In h₀) (N : News h₀ L s.heap news) (T : Top p loose mean mg mb h₀) (hk : cs.kind = .function) (hd : dp + 40 < recursionLimit) (hu : un + 320 < cLine)
  (ret : ∀ u h' tk' tu, Fr h₀ L h' m → News h₀ L h' news → NoiseOk pr u → Q (.str u tu) { s with heap := h', toks := tk' }) :
  wpAny (model PySem.Challenge.pw_pg0212_01 w) (ktrTop dp un gd cn cs L a ccd cl outer) (call (.ref 112) [.int x tx, .str pr tp]) Q E s := by
  have hx0 : 0 ≤ x.fmod 1112064 := Int.fmod_nonneg_of_pos _ (by decide)
  have hx1 : x.fmod 1112064 < 1112064 := Int.fmod_lt_of_pos _ (by decide)
  refine wpAny_call ?_
  k_dflt (first
  | cell_enter
  | (refine' code_def ?k1 ?k2 ?k3 ?k4 ?k5 ?kA ?kF ?kK ?k6 ?k7 ?k8 ?k9 ?kB ?_ ?c2 ?c3 ?c4 ?c5; (case kA => exact rfl); (case kF => exact rfl); (case kK => first | assumption | exact rfl); (case k1 => k_asm); (case k2 => k_asm); (case k3 => k_asm); (case k4 => k_asm); (case k5 => k_asm); (case k6 => k_is); (case k7 => k_is); (case k8 => ktr_room); (case k9 => first | exact BindsTo.of_eq rfl | exact binds_K (by k_in) rfl (by k_is) rfl rfl rfl | fail "k_enter: no rule for these arguments"); (case c5 => decide); (case kB => exact locs rfl); (case c2 => exact rfl); (case c3 => exact rfl); (case c4 => exact rfl); k_whole; intro g' L' h' FG' F' N' B' X' T'; (try dsimp only); (try k_lift B'); (try k_fold))
  | (refine' code_defC ?k1 ?k2 ?k3 ?k4 ?k5 ?kA ?kF ?kK ?k6 ?k7 ?k8 ?k9 ?kB ?kD ?_ ?c2 ?c3 ?c4; (case kA => exact rfl); (case kF => exact rfl); (case kK => first | assumption | exact rfl); (case k1 => k_asm); (case k2 => k_asm); (case k3 => k_asm); (case k4 => k_asm); (case k5 => k_asm); (case k6 => k_is); (case k7 => k_is); (case k8 => ktr_room); (case k9 => first | exact BindsTo.of_eq rfl | exact binds_K (by k_in) rfl (by k_is) rfl rfl rfl | fail "k_enter: no rule for these arguments"); (case kB => exact rfl); (case kD => decide +kernel); (case c2 => exact rfl); (case c3 => exact rfl); (case c4 => exact rfl); k_whole; intro g9 L9 h9 tk9 cells9 FG9 F9 N9 Y9 B9 X9 T9 l9; (try k_lt l9); k_cells Y9; (try simp only [List.cons_append, List.nil_append] at N9); (try dsimp only); (try k_lift B9); (try k_fold)))
  k_steps
  · exact ret _ _ _ _ (by k_asm) (by k_asm) (.inr ⟨_, rfl, by omega, by assumption⟩)
  · exact ret _ _ _ _ (by k_asm) (by k_asm) (.inl rfl)
  · exact ret _ _ _ _ (by k_asm) (by k_asm) (.inr ⟨_, rfl, by omega, by assumption⟩)
  · exact ret _ _ _ _ (by k_asm) (by k_asm) (.inl rfl)
end
section
def bitsF : Nat → Nat → List Nat
  | 0, _ => []
  | f + 1, n => if n = 0 then [] else n % 2 :: bitsF f (n / 2)
def insS (x : Nat) : List Nat → List Nat
  | [] => [x]
  | y :: l => if x < y then x :: y :: l else if x = y then y :: l else y :: insS x l
/-- the distinct numbers, rising -/
def sd (l : List Nat) : List Nat := l.foldr insS []
def stepS (ws : List Nat) (b : Nat) : List Nat := sd (ws ++ ws.map fun o => 2 * o + b)
def withinS (bs : List Nat) : List Nat := bs.foldl stepS [0]
def cntOdd (l : List Nat) : Nat := (l.filter fun o => o % 2 == 1).length
/-- what comes down for a number -/
def resL (n : Nat) : List Nat := (withinS (bitsF 7 n).reverse).drop 1
def okN (n : Nat) : Bool := bfs (bitsF 7 n).reverse 200 [[1]] [] == some (resL n) && toldN 300 (cntOdd (resL n)) ((resL n).length - cntOdd (resL n)) == some (bitsF 7 n) && Nat.blt (withinS (bitsF 7 n).reverse).length 60 && digsN 2 (Builtin.Int.intBits ((n : Nat) : Int)) n == bitsF 7 n
theorem okN_all : ∀ n, n < 65 → okN n = true := by decide +kernel
theorem next_all : ∀ n, n < 64 → 0 < n → cntOdd (resL (n + 1)) = (resL n).length - cntOdd (resL n) + 1 := by decide +kernel
theorem bitsOf_F : ∀ (f n : Nat), n < 2 ^ f → bitsOf n = bitsF f n
  | 0, n, h => by
    have e : n = 0 := by simpa using h
    rw [e, bitsOf, bitsF]
  | f + 1, 0, _ => by rw [bitsOf, bitsF, if_pos rfl]
  | f + 1, n + 1, h => by
    rw [bitsOf, bitsF, if_neg (by omega), bitsOf_F f ((n + 1) / 2) (by rw [Nat.pow_succ] at h; omega)]
theorem fact_bfs {n : Nat} (h : n < 65) : bfs (msb n) 200 [[1]] [] = some (resL n) := by
  have := okN_all n h
  unfold okN at this
  simp only [Bool.and_eq_true, beq_iff_eq] at this
  rw [msb, this.2]; exact this.1.1.1
theorem fact_told {n : Nat} (h : n < 65) : toldN 300 (cntOdd (resL n)) ((resL n).length - cntOdd (resL n)) = some (bitsOf n) := by
  have := okN_all n h
  unfold okN at this
  simp only [Bool.and_eq_true, beq_iff_eq] at this
  rw [bitsOf_F 7 n (by omega)]; exact this.1.1.2
theorem fact_len {n : Nat} (h : n < 65) : (withinS (bitsF 7 n).reverse).length < 60 := by
  have := okN_all n h
  unfold okN at this
  simp only [Bool.and_eq_true, beq_iff_eq] at this
  exact Nat.blt_eq.mp this.1.2
theorem bitsF_length : ∀ f n, (bitsF f n).length ≤ f
  | 0, _ => Nat.le_refl _
  | f + 1, n => by
    rw [bitsF]
    split
    · exact Nat.zero_le _
    · exact Nat.succ_le_succ (bitsF_length f _)
theorem cntOdd_le (l : List Nat) : cntOdd l ≤ l.length := List.length_filter_le ..
theorem msb_F {n : Nat} (h : n < 65) : msb n = (bitsF 7 n).reverse := by
  have := okN_all n h
  unfold okN at this
  simp only [Bool.and_eq_true, beq_iff_eq] at this
  rw [msb, this.2]
theorem msb_length {n : Nat} (h : n < 65) : (msb n).length ≤ 7 := by rw [msb_F h, List.length_reverse]; exact bitsF_length 7 n
theorem bitsF_lt : ∀ f n, ∀ b ∈ bitsF f n, b < 2
  | 0, _, _, h => nomatch h
  | f + 1, n, b, h => by
    rw [bitsF] at h
    split at h
    · cases h
    · rcases List.mem_cons.mp h with rfl | h
      · omega
      · exact bitsF_lt f _ b h
theorem msb_lt {n : Nat} (h : n < 65) : ∀ b ∈ msb n, b < 2 := by
  rw [msb_F h]
  exact fun b hb => bitsF_lt 7 n b (List.mem_reverse.mp hb)
theorem subL_skip {c : Nat} {r : List Nat} : ∀ {z : List Nat} (g : List Nat), (∀ x ∈ z, x ≠ c) → subL (c :: r) (z ++ g) = subL (c :: r) g
  | [], _, _ => rfl
  | x :: z, g, h => by
    rw [List.cons_append, subL, if_neg (fun e => h x (List.mem_cons_self ..) e.symm)]
    exact subL_skip g fun y hy => h y (List.mem_cons_of_mem _ hy)
theorem subL_word {c0 c1 : Nat} (hc : c0 ≠ c1) : ∀ (l p : List Nat) (nz : List (List Nat)), (∀ b ∈ l, b < 2) → (∀ b ∈ p, b < 2) → (∀ z ∈ nz, ∀ x ∈ z, x ≠ c0 ∧ x ≠ c1) → subL (p.map fun b => if b = 0 then c0 else c1) (wordL c0 c1 l nz) = subL p l
  | _, [], _, _, _, _ => by rw [List.map_nil, subL_nil, subL_nil]
  | [], _ :: _, _, _, _, _ => rfl
  | b :: l, a :: p, nz, hl, hp, hz => by
    have hb := hl b (List.mem_cons_self ..)
    have ha := hp a (List.mem_cons_self ..)
    have hl' : ∀ b ∈ l, b < 2 := fun x hx => hl x (List.mem_cons_of_mem _ hx)
    have hp' : ∀ b ∈ p, b < 2 := fun x hx => hp x (List.mem_cons_of_mem _ hx)
    have hz' : ∀ z ∈ nz.tail, ∀ x ∈ z, x ≠ c0 ∧ x ≠ c1 := fun z h => hz z (List.mem_of_mem_tail h)
    have hh : ∀ x ∈ nz.headD [], x ≠ c0 ∧ x ≠ c1 := by
      cases nz with
      | nil => intro x hx; cases hx
      | cons z nz => exact hz z (List.mem_cons_self ..)
    have key : ∀ q : List Nat, (∀ b ∈ q, b < 2) → subL (q.map fun b => if b = 0 then c0 else c1) (nz.headD [] ++ wordL c0 c1 l nz.tail) = subL q l := by
      intro q hq
      rw [← subL_word hc l q nz.tail hl' hq hz']
      cases q with
      | nil => rw [List.map_nil, subL_nil, subL_nil]
      | cons a q =>
        rw [List.map_cons]
        refine subL_skip _ fun x hx => ?_
        have := hh x hx
        split
        · exact this.1
        · exact this.2
    rw [List.map_cons, wordL, subL, subL]
    have e : ((if a = 0 then c0 else c1) = (if b = 0 then c0 else c1)) ↔ a = b := by
      constructor
      · intro h
        by_cases h1 : a = 0 <;> by_cases h2 : b = 0
        · omega
        · rw [if_pos h1, if_neg h2] at h; exact absurd h hc
        · rw [if_neg h1, if_pos h2] at h; exact absurd h.symm hc
        · omega
      · intro h; rw [h]
    by_cases hab : a = b
    · rw [if_pos (e.mpr hab), if_pos hab]
      exact key p hp'
    · rw [if_neg (fun h => hab (e.mp h)), if_neg hab]
      have := key (a :: p) hp
      rw [List.map_cons] at this
      exact this
abbrev wsp0 : Str := PySem.Str.ofString "\n\t\x0d "
theorem ws_quote : ¬ (inWs wsp0 (sg1 34) = true) := by decide +kernel
theorem ws_back : ¬ (inWs wsp0 (sg1 92) = true) := by decide +kernel
theorem ws_blank : inWs wsp0 (sg1 32) = true := by decide +kernel
theorem q_quote : (sg1 34 == PySem.Str.ofString "\"") = true := by decide +kernel
theorem q_back : ¬ ((sg1 92 == PySem.Str.ofString "\"") = true) := by decide +kernel
theorem b_back : (sg1 92 == PySem.Str.ofString "\\") = true := by decide +kernel
theorem gQ_esc (R : List Nat) : ∀ (W : List Nat) (t : Str), gQ (sgs (escL W ++ 34 :: R)) t = (t ++ ⟨W.toArray⟩, sgs R)
  | [], t => by
    show gQ (sg1 34 :: sgs R) t = _
    rw [gQ_cons, if_pos q_quote]
    rw [show t ++ (⟨([] : List Nat).toArray⟩ : Str) = t from Str.append_empty t]
  | c :: W, t => by
    show gQ (sg1 92 :: sg1 c :: sgs (escL W ++ 34 :: R)) t = _
    rw [gQ_cons, if_neg q_back, if_pos b_back, List.tail_cons, List.headD_cons, gQ_esc R W]
    congr 1
    rw [Str.append_assoc]
    congr 1
    apply Str.ext'
    apply Array.toList_inj.mp
    rw [Str.cps_append, Array.toList_append]
    rfl
theorem gO_word (c1 : Nat) (W R : List Nat) : gO wsp0 (sgs (34 :: (escL W ++ 34 :: R))) ("" : Str) = (⟨W.toArray⟩, sgs R) := by
  show gO wsp0 (sg1 34 :: sgs (escL W ++ 34 :: R)) ("" : Str) = _
  rw [gO, if_neg ws_quote, if_pos q_quote, gQ_esc]
  rw [show ("" : Str) ++ (⟨W.toArray⟩ : Str) = ⟨W.toArray⟩ from Str.empty_append _]
theorem gO_one (c1 : Nat) (R : List Nat) : gO wsp0 (sgs (32 :: 92 :: c1 :: 32 :: R)) ("" : Str) = (sg1 c1, sgs R) := by
  show gO wsp0 (sg1 32 :: sg1 92 :: sg1 c1 :: sg1 32 :: sgs R) ("" : Str) = _
  rw [gO, if_pos ws_blank, gO, if_neg ws_back, if_neg q_back, if_pos b_back, List.tail_cons, List.headD_cons, gW_cons, if_pos ws_blank]
  rw [show ("" : Str) ++ sg1 c1 = sg1 c1 from Str.empty_append _]
theorem oneL_app (c0 c1 : Nat) (nz : List (List Nat)) (n : Nat) (R : List Nat) : oneL c0 c1 nz n ++ R = 34 :: (escL (wordL c0 c1 (msb n) nz) ++ 34 :: (32 :: 92 :: c1 :: 32 :: R)) := by
  rw [oneL]; simp
abbrev menu : Str := PySem.Str.ofString "ab\" \\\n#"
def mc (i : Nat) : Nat := [97, 98, 34, 32, 92, 10, 35].getD i 0
theorem pair_all : ∀ d, d < 42 → (Txt.item menu (((d : Nat) : Int).fmod 7) ++ Txt.item menu ((((d : Nat) : Int) + 1 + ((d : Nat) : Int).fdiv 7).fmod 7)).cps = #[mc (d % 7), mc ((d + 1 + d / 7) % 7)] ∧ mc (d % 7) ≠ mc ((d + 1 + d / 7) % 7) ∧ mc (d % 7) ≠ 46 ∧ mc ((d + 1 + d / 7) % 7) ≠ 46 := by decide +kernel
theorem pair_fact (T : Int) : ∃ c0 c1 : Nat, Txt.item menu (((T.fdiv 63).fmod 42).fmod 7) ++ Txt.item menu (((T.fdiv 63).fmod 42 + 1 + ((T.fdiv 63).fmod 42).fdiv 7).fmod 7) = (⟨#[c0, c1]⟩ : Str) ∧ c0 ≠ c1 ∧ c0 ≠ 46 ∧ c1 ≠ 46 := by
  have h0 : 0 ≤ (T.fdiv 63).fmod 42 := Int.fmod_nonneg_of_pos _ (by decide)
  have h1 : (T.fdiv 63).fmod 42 < 42 := Int.fmod_lt_of_pos _ (by decide)
  obtain ⟨d, hd⟩ := Int.eq_ofNat_of_zero_le h0
  rw [hd] at h1 ⊢
  obtain ⟨a1, a2, a3, a4⟩ := pair_all d (by omega)
  exact ⟨_, _, Str.ext' a1, a2, a3, a4⟩
theorem num_fact (T : Int) : ∃ n : Nat, (1 : Int) + (T + 9).fmod 63 = ((n : Nat) : Int) ∧ 1 ≤ n ∧ n ≤ 63 := by
  have h0 : 0 ≤ (T + 9).fmod 63 := Int.fmod_nonneg_of_pos _ (by decide)
  have h1 : (T + 9).fmod 63 < 63 := Int.fmod_lt_of_pos _ (by decide)
  obtain ⟨d, hd⟩ := Int.eq_ofNat_of_zero_le h0
  exact ⟨d + 1, by omega, by omega, by omega⟩
theorem strs_ex {P : Str → Prop} : ∀ {ys : List Value} {n : Nat}, ys.length = n → (∀ i, i < n → ∃ y, ys[i]? = some y ∧ ∃ u t, y = Value.str u t ∧ P u) → ∃ ns, StrsAre ys ns ∧ ns.length = n ∧ ∀ u ∈ ns, P u
  | [], n, hl, _ => ⟨[], .nil, hl, fun _ h => nomatch h⟩
  | y :: ys, 0, hl, _ => by cases hl
  | y :: ys, n + 1, hl, h => by
    obtain ⟨y0, e0, u, t0, e1, hp⟩ := h 0 (by omega)
    have e2 : y = y0 := by simpa using e0
    obtain ⟨ns, h1, h2, h3⟩ := strs_ex (P := P) (ys := ys) (n := n) (by simpa using hl) fun i hi => by
      obtain ⟨y', e3, r⟩ := h (i + 1) (by omega)
      exact ⟨y', by simpa using e3, r⟩
    refine ⟨u :: ns, by rw [e2, e1]; exact .cons u t0 h1, by rw [List.length_cons, h2], fun v hv => ?_⟩
    rcases List.mem_cons.mp hv with rfl | hv
    · exact hp
    · exact h3 v hv
theorem strs_app : ∀ {vs ws : List Value} {a b : List Str}, StrsAre vs a → StrsAre ws b → StrsAre (vs ++ ws) (a ++ b)
  | _, _, _, _, .nil, h => h
  | _, _, _, _, .cons y t r, h => .cons y t (strs_app r h)
theorem noise_ok {c0 c1 : Nat} {u : Str} (h : NoiseOk (⟨#[c0, c1]⟩ : Str) u) : ∀ x ∈ u.cps.toList, x ≠ c0 ∧ x ≠ c1 := by
  rcases h with rfl | ⟨c, rfl, _, h⟩
  · intro x hx; cases hx
  · intro x hx
    have hx' : x = c := by simpa using hx
    subst hx'
    have h2 := StrLaws.found_one (⟨#[c0, c1]⟩ : Str) x
    rw [h] at h2
    have h3 : x ∉ (⟨#[c0, c1]⟩ : Str).cps.toList := by simpa using h2.symm
    simp at h3
    exact h3
def oddG (l : List Int) (k : Int) : List Int := if k.fmod 2 = 1 then l ++ [k] else l
theorem oddG_len : ∀ (l : List Nat) (acc : List Int), (((l.map Int.ofNat).foldl oddG acc)).length = acc.length + cntOdd l
  | [], acc => rfl
  | n :: r, acc => by
    rw [List.map_cons, List.foldl_cons, oddG_len r]
    have e : (Int.ofNat n).fmod 2 = ((n % 2 : Nat) : Int) := fmod_nat n 2
    unfold oddG cntOdd
    rw [List.filter_cons]
    by_cases h : n % 2 = 1
    · rw [if_pos (by rw [e, h]; rfl), if_pos (by simp [h]), List.length_append]; simp only [List.length_cons, List.length_nil]; omega
    · rw [if_neg (by rw [e]; omega), if_neg (by simp [h])]
end
section
/-! the table of a set, by the hashes alone -/
def layK (t : SetTable) (ks : Array Int) (h : Int) : Array Int × SetTable × Bool :=
  match t.freeSlot h with
  | some (slot, wasDummy) => (SetTable.insertAt ks (t.put slot).2 h, (t.put slot).1.orStandIn (SetTable.insertAt ks (t.put slot).2 h).size, wasDummy)
  | none => (ks.push h, t.standIn (ks.size + 1), false)
def relayK (t : SetTable) (ks : Array Int) (wanted : Nat) : Array Int × SetTable :=
  match t.relaid ks wanted with
  | some (t', order) => if coversAll order ks.size && t'.fits (order.filterMap (ks[·]?)).size then (order.filterMap (ks[·]?), t') else (ks, t.standIn ks.size)
  | none => (ks, t.standIn ks.size)
def addK (st : Array Int × SetTable) (h : Int) : Array Int × SetTable :=
  if st.1.toList.contains h then st
  else if !(layK st.2 st.1 h).2.2 && (layK st.2 st.1 h).2.1.tooFull then relayK (layK st.2 st.1 h).2.1 (layK st.2 st.1 h).1 (SetTable.grown (layK st.2 st.1 h).1.size)
  else ((layK st.2 st.1 h).1, (layK st.2 st.1 h).2.1)
def setK (b : Bool) (ns : List Int) : Array Int × SetTable := ns.foldl addK (#[], .fresh 0 0 b)
def placeOk (p : Array Nat) : Bool := (List.range (p.size + 1)).all fun i => SetTable.below p (if i = 0 then 0 else p.getD (i - 1) 0 + 1) == i
/-- what set() is asked for -/
def asked (n : Nat) : List Int := ((withinS (bitsF 7 (n / 2)).reverse) ++ (withinS (bitsF 7 (n / 2)).reverse).map fun o => 2 * o + n % 2).map Int.ofNat
def setGood (b : Bool) (n : Nat) : Bool := (setK b (asked n)).2.plain && ((setK b (asked n)).2.led == b) && placeOk (setK b (asked n)).2.place
theorem setGood_all : ∀ n, n < 65 → setGood true n = true := by decide +kernel
end
section
def keysOf (es : Array (Int × Value)) : Array Int := es.map (·.1)
theorem keysOf_size (es : Array (Int × Value)) : (keysOf es).size = es.size := Array.size_map ..
theorem keysOf_insertAt (es : Array (Int × Value)) (p : Nat) (h : Int) (x : Value) : keysOf (SetTable.insertAt es p (h, x)) = SetTable.insertAt (keysOf es) p h := by
  apply Array.toList_inj.mp
  rw [keysOf, Array.toList_map, SetTable.toList_insertAt, SetTable.toList_insertAt, keysOf, Array.toList_map]
  simp [List.map_take, List.map_drop]
theorem layNew_keys (t : SetTable) (es : Array (Int × Value)) (h : Int) (x : Value) :
    keysOf (layNew t es h x).1 = (layK t (keysOf es) h).1 ∧ (layNew t es h x).2.1 = (layK t (keysOf es) h).2.1 ∧ (layNew t es h x).2.2.1 = (layK t (keysOf es) h).2.2 := by
  unfold layNew layK
  generalize t.freeSlot h = r
  cases r with
  | none =>
    dsimp only
    refine ⟨?_, ?_, rfl⟩
    · simp [keysOf]
    · rw [keysOf_size]
  | some q =>
    obtain ⟨slot, wd⟩ := q
    dsimp only
    refine ⟨keysOf_insertAt .., ?_, rfl⟩
    rw [← keysOf_insertAt es _ h x, keysOf_size]
theorem filterMap_keys (order : Array Nat) (es : Array (Int × Value)) : keysOf (order.filterMap (es[·]?)) = order.filterMap ((keysOf es)[·]?) := by
  apply Array.toList_inj.mp
  rw [keysOf, Array.toList_map, Array.toList_filterMap, Array.toList_filterMap, List.map_filterMap]
  congr 1
  funext i
  simp [keysOf]
theorem relayAll_keys (t : SetTable) (es : Array (Int × Value)) (wn : Nat) :
    keysOf (relayAll t es wn).1 = (relayK t (keysOf es) wn).1 ∧ (relayAll t es wn).2.1 = (relayK t (keysOf es) wn).2 := by
  unfold relayAll relayK
  rw [show es.map (·.1) = keysOf es from rfl]
  generalize t.relaid (keysOf es) wn = r
  cases r with
  | none => dsimp only; rw [keysOf_size]; exact ⟨rfl, rfl⟩
  | some q =>
    obtain ⟨t', order⟩ := q
    dsimp only
    rw [← filterMap_keys, keysOf_size, keysOf_size]
    split
    · exact ⟨rfl, rfl⟩
    · exact ⟨rfl, rfl⟩
def lowInt (e : Int × Value) : Prop := ∃ (k : Nat) (t : Tok), k < 1000000 ∧ e = ((k : Int), Value.int (k : Int) t)
theorem hash_low {k : Nat} (h : k < 1000000) : hashInt (k : Int) = k := by
  have e : rawHash (k : Int) = k := by
    have hm : (((k : Int).natAbs : Int) % ((2 ^ 61 - 1 : Nat) : Int)) = k := by rw [Int.natAbs_natCast]; omega
    unfold rawHash
    dsimp only
    rw [hm, if_neg (show ¬ ((k : Int) < 0) by omega), if_neg (show ¬ (((k : Int) == -1) = true) from fun hh => by have := beq_iff_eq.mp hh; omega)]
  unfold hashInt
  rw [e, if_neg (show ¬ (((k : Int) == -1) = true) from fun hh => by have := beq_iff_eq.mp hh; omega)]
theorem elems_low {prog : Program} {w : World} {l : List (Int × Value)} (h : ∀ e ∈ l, lowInt e) : ElemsOf (intKind prog w) l := by
  intro e he
  obtain ⟨k, t, hk, rfl⟩ := h e he
  exact ⟨⟨k, intKind_is .., (hash_low hk).symm⟩, rfl⟩
theorem find_low {prog : Program} {w : World} {k : Nat} : ∀ {l : List (Int × Value)}, (∀ e ∈ l, lowInt e) → (l.findIdx? (fun e => (intKind prog w).is (k : Int) e.2)).isSome = (l.map (·.1)).contains (k : Int)
  | [], _ => rfl
  | e :: l, h => by
    obtain ⟨k', t, hk, rfl⟩ := h e (List.mem_cons_self ..)
    have ih := find_low (k := k) (prog := prog) (w := w) (fun e he => h e (List.mem_cons_of_mem _ he))
    rw [List.findIdx?_cons, List.map_cons, List.contains_cons, ← ih]
    have e1 : (intKind prog w).is (k : Int) (Value.int (k' : Int) t) = ((k' : Int) == (k : Int)) := rfl
    dsimp only
    rw [e1]
    by_cases hq : (k' : Int) = k
    · rw [hq]; simp
    · rw [beq_eq_false_iff_ne.mpr hq, beq_eq_false_iff_ne.mpr (Ne.symm hq)]
      simp
end
section
/-! what a set holds, and the order of a walk -/
theorem go_perm {α : Type} (next : Nat → Nat) : ∀ (f k : Nat) (left : List α) (out : Array α), left.length ≤ f → (pickOrder.go next f k left out).toList.Perm (out.toList ++ left)
  | 0, k, left, out, h => by
    have e : left = [] := List.length_eq_zero_iff.mp (Nat.le_zero.mp h)
    subst e; rw [List.append_nil]; exact List.Perm.refl _
  | f + 1, k, left, out, h => by
    unfold pickOrder.go
    by_cases hz : left.length = 0
    · have e : left = [] := List.length_eq_zero_iff.mp hz
      subst e; simp
    · have hi : next k % left.length < left.length := Nat.mod_lt _ (by omega)
      rw [List.getElem?_eq_getElem hi]
      dsimp only
      refine (go_perm next f (k + 1) _ _ (by rw [List.length_eraseIdx, if_pos hi]; omega)).trans ?_
      rw [Array.toList_push, List.append_assoc]
      refine List.Perm.append_left _ ?_
      rw [List.singleton_append]
      rw [List.eraseIdx_eq_take_drop_succ]
      refine (List.perm_middle.symm).trans ?_
      rw [← List.drop_eq_getElem_cons hi, List.take_append_drop]
theorem pick_perm {α : Type} (next : Nat → Nat) (xs : Array α) : (pickOrder next xs).toList.Perm xs.toList := by
  have := go_perm next xs.size 0 xs.toList #[] (by rw [Array.length_toList]; exact Nat.le_refl _)
  simpa [pickOrder] using this
def dressed (ks : Array Int) : Array (Int × Value) := ks.map fun k => (k, Value.none)
theorem dressed_keys (ks : Array Int) : keysOf (dressed ks) = ks := by
  apply Array.toList_inj.mp
  rw [keysOf, dressed, Array.toList_map, Array.toList_map, List.map_map]
  exact List.map_id' _
theorem keysOf_perm {es es' : Array (Int × Value)} (h : es.toList.Perm es'.toList) : (keysOf es).toList.Perm (keysOf es').toList := by
  rw [keysOf, keysOf, Array.toList_map, Array.toList_map]; exact h.map _
theorem layK_perm (t : SetTable) (ks : Array Int) (h : Int) : (layK t ks h).1.toList.Perm (ks.toList ++ [h]) := by
  have hk := layNew_keys t (dressed ks) h .none
  have hp := keysOf_perm (layNew_perm t (dressed ks) h .none)
  rw [hk.1, dressed_keys] at hp
  refine hp.trans ?_
  rw [keysOf, Array.toList_map, Array.toList_push, List.map_append, ← Array.toList_map]
  rw [show (dressed ks).map (·.1) = ks from dressed_keys ks]
  exact List.Perm.refl _
theorem relayK_perm (t : SetTable) (ks : Array Int) (wn : Nat) : (relayK t ks wn).1.toList.Perm ks.toList := by
  have hk := relayAll_keys t (dressed ks) wn
  have hp := keysOf_perm (relayAll_perm t (dressed ks) wn)
  rw [hk.1, dressed_keys] at hp
  exact hp
theorem addK_perm (ks : Array Int) (t : SetTable) (h : Int) : (addK (ks, t) h).1.toList.Perm (if ks.toList.contains h then ks.toList else ks.toList ++ [h]) := by
  unfold addK
  dsimp only
  split
  · exact List.Perm.refl _
  · split
    · exact (relayK_perm ..).trans (layK_perm ..)
    · exact layK_perm ..
theorem setK_from (ns : List Int) : ∀ (ks : Array Int) (t : SetTable), ks.toList.Nodup →
    (ns.foldl addK (ks, t)).1.toList.Nodup ∧ ∀ k, k ∈ (ns.foldl addK (ks, t)).1.toList ↔ k ∈ ks.toList ∨ k ∈ ns := by
  induction ns with
  | nil => intro ks t h; exact ⟨h, fun k => by simp⟩
  | cons n ns ih =>
    intro ks t h
    rw [List.foldl_cons]
    have hp := addK_perm ks t n
    generalize addK (ks, t) n = st at hp ⊢
    obtain ⟨ks', t'⟩ := st
    dsimp only at hp
    have hm : ∀ k, k ∈ ks'.toList ↔ k ∈ ks.toList ∨ k = n := by
      intro k
      rw [hp.mem_iff]
      by_cases hc : ks.toList.contains n = true
      · rw [if_pos hc]
        have hn : n ∈ ks.toList := List.contains_iff_mem.mp hc
        exact ⟨.inl, fun x => x.elim id fun e => by rw [e]; exact hn⟩
      · rw [if_neg hc, List.mem_append, List.mem_singleton]
    have hd : ks'.toList.Nodup := by
      rw [hp.nodup_iff]
      by_cases hc : ks.toList.contains n = true
      · rw [if_pos hc]; exact h
      · rw [if_neg hc, List.nodup_append]
        refine ⟨h, by simp, fun a ha b hb e => ?_⟩
        rw [List.mem_singleton] at hb
        exact hc (List.contains_iff_mem.mpr (by rw [← hb, ← e]; exact ha))
    refine ⟨(ih ks' t' hd).1, fun k => ?_⟩
    rw [(ih ks' t' hd).2 k, hm k, List.mem_cons, or_assoc]
theorem setK_nodup (b : Bool) (ns : List Int) : (setK b ns).1.toList.Nodup := (setK_from ns #[] _ (by simp)).1
theorem setK_mem (b : Bool) (ns : List Int) (k : Int) : k ∈ (setK b ns).1.toList ↔ k ∈ ns := by
  have := (setK_from ns #[] (.fresh 0 0 b) (by simp)).2 k
  simpa [setK] using this
theorem strict_of {l : List Int} (h : l.Pairwise (· ≤ ·)) (hd : l.Nodup) : l.Pairwise (· < ·) := by
  have := h.and hd
  exact this.imp fun {a b} x => by have h1 := x.1; have h2 := x.2; omega
theorem strict_ext : ∀ {l m : List Int}, l.Pairwise (· < ·) → m.Pairwise (· < ·) → (∀ k, k ∈ l ↔ k ∈ m) → l = m
  | [], [], _, _, _ => rfl
  | [], b :: m, _, _, h => absurd ((h b).mpr (List.mem_cons_self ..)) (by simp)
  | a :: l, [], _, _, h => absurd ((h a).mp (List.mem_cons_self ..)) (by simp)
  | a :: l, b :: m, hl, hm, h => by
    rw [List.pairwise_cons] at hl hm
    have e : a = b := by
      rcases List.mem_cons.mp ((h a).mp (List.mem_cons_self ..)) with e | e
      · exact e
      · rcases List.mem_cons.mp ((h b).mpr (List.mem_cons_self ..)) with e' | e'
        · exact e'.symm
        · have h1 := hm.1 a e; have h2 := hl.1 b e'; omega
    subst e
    refine congrArg (a :: ·) (strict_ext hl.2 hm.2 fun k => ?_)
    refine ⟨fun hk => ?_, fun hk => ?_⟩
    · rcases List.mem_cons.mp ((h k).mp (List.mem_cons_of_mem _ hk)) with e | e
      · exact absurd (hl.1 k hk) (by omega)
      · exact e
    · rcases List.mem_cons.mp ((h k).mpr (List.mem_cons_of_mem _ hk)) with e | e
      · exact absurd (hm.1 k hk) (by omega)
      · exact e
theorem insS_mem (a : Nat) : ∀ (l : List Nat) (k : Nat), k ∈ insS a l ↔ k = a ∨ k ∈ l := by
  intro l
  induction l with
  | nil => intro k; simp [insS]
  | cons b l ih =>
    intro k
    unfold insS
    split
    · simp
    · split
      · rename_i h; subst h; simp
      · rw [List.mem_cons, ih k, List.mem_cons]
        constructor
        · rintro (h | h | h)
          · exact .inr (.inl h)
          · exact .inl h
          · exact .inr (.inr h)
        · rintro (h | h | h)
          · exact .inr (.inl h)
          · exact .inl h
          · exact .inr (.inr h)
theorem insS_strict (a : Nat) : ∀ (l : List Nat), l.Pairwise (· < ·) → (insS a l).Pairwise (· < ·) := by
  intro l
  induction l with
  | nil => intro _; simp [insS]
  | cons b l ih =>
    intro h
    have h' := List.pairwise_cons.mp h
    unfold insS
    split
    · rename_i hab
      refine List.pairwise_cons.mpr ⟨fun k hk => ?_, h⟩
      rcases List.mem_cons.mp hk with rfl | hk
      · exact hab
      · exact Nat.lt_trans hab (h'.1 k hk)
    · split
      · exact h
      · refine List.pairwise_cons.mpr ⟨fun k hk => ?_, ih h'.2⟩
        rcases (insS_mem a l k).mp hk with rfl | hk
        · omega
        · exact h'.1 k hk
theorem sd_mem (l : List Nat) (k : Nat) : k ∈ sd l ↔ k ∈ l := by
  induction l with
  | nil => exact Iff.rfl
  | cons a l ih =>
    show k ∈ insS a (sd l) ↔ _
    rw [insS_mem, ih, List.mem_cons]
theorem sd_strict (l : List Nat) : (sd l).Pairwise (· < ·) := by
  induction l with
  | nil => exact List.Pairwise.nil
  | cons a l ih => exact insS_strict a _ ih
/-- what sorted(set(ns)) is -/
theorem sorted_is {ns : List Nat} {b : Bool} {ns' : List Int} (hp : ns'.Perm (setK b (ns.map Int.ofNat)).1.toList) (hw : ns'.Pairwise (· ≤ ·)) : ns' = (sd ns).map Int.ofNat := by
  refine strict_ext (strict_of hw (hp.nodup_iff.mpr (setK_nodup ..))) ?_ fun k => ?_
  · rw [List.pairwise_map]
    exact (sd_strict ns).imp fun {a b} h => Int.ofNat_lt.mpr h
  · rw [hp.mem_iff, setK_mem, List.mem_map, List.mem_map]
    exact ⟨fun ⟨a, ha, e⟩ => ⟨a, (sd_mem ns a).mpr ha, e⟩, fun ⟨a, ha, e⟩ => ⟨a, (sd_mem ns a).mp ha, e⟩⟩
end
section
theorem storeSet_at {prog : Program} {w : World} {A : Around} {E : Value → Shared → Prop} {s : Shared} {a : Addr} {o : Obj} {es : Array (Int × Value)} {ep : Nat} {t : SetTable} {es' : Array (Int × Value)} {t' : SetTable} {Q : Unit → Shared → Prop}
    (ho : s.heap.get? a = some o) (hd : o.data = .set es ep t) (hz : es'.size < scanBound)
    (h : ∀ h', Heap.SameBut a s.heap h' → h'.get? a = some { o with data := .set es' (ep + 1) t' } → Q () { s with heap := h' }) :
    wpAny (model prog w) A (storeSet a es' t') Q E s := by
  refine wpAny_storeSet_of ho hd (h _ (Heap.SameBut.update s.heap a _) ?_) (fits_of_scanBound hz)
  have := Heap.get?_update_self (Obj.putSet es' t') ho (by rw [putSet_of es' t' hd]; rfl)
  rw [putSet_of es' t' hd] at this
  exact this
theorem add_exact {prog : Program} {w : World} {A : Around} {E : Value → Shared → Prop} {s : Shared} {a : Addr} {o : Obj} {es : Array (Int × Value)} {ep : Nat} {t : SetTable} {k : Nat} {tx : Tok} {Q : Bool → Shared → Prop}
    (hk : k < 1000000) (ho : s.heap.get? a = some o) (hd : o.data = .set es ep t) (hf : t.fits es.size = true) (hl : ∀ e ∈ es.toList, lowInt e) (hb : es.size + 1 < scanBound)
    (h : ∀ b h' es' ep', Heap.SameBut a s.heap h' → h'.get? a = some { o with data := .set es' ep' (addK (keysOf es, t) (k : Int)).2 } → keysOf es' = (addK (keysOf es, t) (k : Int)).1 → (addK (keysOf es, t) (k : Int)).2.fits es'.size = true → (∀ e ∈ es'.toList, lowInt e) → es'.size ≤ es.size + 1 → Q b { s with heap := h' }) :
    wpAny (model prog w) A (setAddHashed a (.int (k : Int) tx) (hashInt (k : Int))) Q E s := by
  have hel : ElemsOf (intKind prog w) es.toList := elems_low hl
  have hkey : (intKind prog w).is (k : Int) (.int (k : Int) tx) = true := intKind_is ..
  unfold setAddHashed setAddHashedIn
  refine wpAny_holding (wpAny_bind (wpAny_setState_of ho hd hf ?_))
  dsimp only
  rw [byScan_of rfl (by omega) hel]
  simp only [↓reduceIte]
  unfold setAddByScan
  refine wpAny_bind ?_
  refine wpAny_bind (wpAny_rule ?_)
  refine wpAny_bind (wpAny_setScan_of (knd := intKind prog w) hkey ho hd hf hel ?_)
  have hfind := find_low (prog := prog) (w := w) (k := k) hl
  have hcont : (keysOf es).toList.contains (k : Int) = (es.toList.map (·.1)).contains (k : Int) := by rw [keysOf, Array.toList_map]
  cases hr : List.findIdx? (fun e => (intKind prog w).is (k : Int) e.2) es.toList with
  | some j =>
    rw [hr] at hfind
    have hadd : addK (keysOf es, t) (k : Int) = (keysOf es, t) := by
      unfold addK; rw [if_pos (by dsimp only; rw [hcont, ← hfind]; rfl)]
    rw [hadd] at h
    dsimp only
    refine wpAny_pure (wpAny_pure ?_)
    have e : s = { s with heap := s.heap } := by cases s; rfl
    rw [e]
    refine h _ s.heap es ep (Heap.SameBut.refl a s.heap) ?_ rfl hf hl (by omega)
    rw [ho]; obtain ⟨c, d, dt, sl⟩ := o; simp at hd; subst hd; rfl
  | none =>
    rw [hr] at hfind
    dsimp only
    have hgw : ∀ (b : Bool) {s₁ : Shared} {Q' : Unit → Shared → Prop}, Q' () s₁ → wpAny (model prog w) A (match b with | true => rule "set.scan.the-table-gave-way" | false => pure ()) Q' E s₁ :=
      fun b s₁ Q' hq => by cases b <;> first | exact wpAny_pure hq | exact wpAny_rule hq
    have hh : hashInt (k : Int) = k := hash_low hk
    rw [hh]
    have hperm := layNew_perm t es (k : Int) (.int (k : Int) tx)
    have hfits := layNew_fits t es (k : Int) (.int (k : Int) tx)
    have hkeys := layNew_keys t es (k : Int) (.int (k : Int) tx)
    have hadd : addK (keysOf es, t) (k : Int) = if (!(layK t (keysOf es) k).2.2 && (layK t (keysOf es) k).2.1.tooFull) = true then relayK (layK t (keysOf es) k).2.1 (layK t (keysOf es) k).1 (SetTable.grown (layK t (keysOf es) k).1.size) else ((layK t (keysOf es) k).1, (layK t (keysOf es) k).2.1) := by
      unfold addK; rw [if_neg (by dsimp only; rw [hcont, ← hfind]; simp)]
    rw [← hkeys.1, ← hkeys.2.1, ← hkeys.2.2, keysOf_size] at hadd
    generalize hL : layNew t es (k : Int) (.int (k : Int) tx) = L at hperm hfits hadd ⊢
    obtain ⟨es1, t1, wasDummy, gave⟩ := L
    dsimp only at hperm hfits hadd ⊢
    rw [Array.toList_push] at hperm
    have hl1 : ∀ e ∈ es1.toList, lowInt e := by
      intro e he
      rcases List.mem_append.mp (hperm.mem_iff.mp he) with he | he
      · exact hl e he
      · rw [List.mem_singleton] at he; subst he; exact ⟨k, tx, hk, rfl⟩
    have hsz1 : es1.size = es.size + 1 := by rw [← Array.length_toList, hperm.length_eq, List.length_append, Array.length_toList]; rfl
    refine wpAny_bind (hgw _ ?_)
    have fin : ∀ {s₁ : Shared}, s₁ = s → wpAny (model prog w) A (do
        storeSet a es1 t1
        if (!wasDummy && t1.tooFull) = true then do
            (match (relayAll t1 es1 (SetTable.grown es1.size)).2.2 with | true => rule "set.scan.the-table-gave-way" | false => pure ())
            storeSet a (relayAll t1 es1 (SetTable.grown es1.size)).1 (relayAll t1 es1 (SetTable.grown es1.size)).2.1
            pure (some true)
          else pure (some true)) (fun r s' => wpAny (model prog w) A (match r with | some added => pure added | none => setAddHashedIn a (.int (k : Int) tx) (k : Int) 99999) Q E s') E s₁ := by
      rintro s₁ rfl
      refine wpAny_bind (storeSet_at ho hd (by omega) fun h1 sb1 ho1 => ?_)
      split
      · rename_i hc
        rw [if_pos hc] at hadd
        have hrk := relayAll_keys t1 es1 (SetTable.grown es1.size)
        have hp := relayAll_perm t1 es1 (SetTable.grown es1.size)
        have hfr := relayAll_fits t1 es1 (SetTable.grown es1.size)
        refine wpAny_bind (hgw _ ?_)
        have hsz2 : (relayAll t1 es1 (SetTable.grown es1.size)).1.size = es1.size := by rw [← Array.length_toList, hp.length_eq, Array.length_toList]
        refine wpAny_bind (storeSet_at (s := { s₁ with heap := h1 }) ho1 rfl (by omega) fun h2 sb2 ho2 => ?_)
        refine wpAny_pure (wpAny_pure ?_)
        refine h _ h2 (relayAll t1 es1 (SetTable.grown es1.size)).1 (ep + 1 + 1) (sb1.trans sb2) ?_ ?_ ?_ (fun e he => hl1 e (hp.mem_iff.mp he)) (by omega)
        · rw [hadd, ← hrk.2]; exact ho2
        · rw [hadd, ← hrk.1]
        · rw [hadd, ← hrk.2]; exact hfr
      · rename_i hc
        rw [if_neg hc] at hadd
        refine wpAny_pure (wpAny_pure ?_)
        refine h _ h1 es1 (ep + 1) sb1 ?_ ?_ ?_ hl1 (by omega)
        · rw [hadd]; exact ho1
        · rw [hadd]
        · rw [hadd]; exact hfits
    split
    · refine wpAny_bind ?_
      rw [hashByValue_scannable 8 (x := .int (k : Int) tx) rfl]
      refine wpAny_pure ?_
      exact fin rfl
    · refine wpAny_bind (wpAny_pure ?_)
      simp only [↓reduceIte]
      exact fin rfl
end
section
/-- the set's object holds what adding `ns` one after the other gives -/
def SetHas (h : Heap) (S : Addr) (b : Bool) (ns : List Int) : Prop :=
  ∃ es ep, h.get? S = some { cls := .type "set", dict := none, data := .set es ep (setK b ns).2, slots := #[] } ∧ keysOf es = (setK b ns).1 ∧ (setK b ns).2.fits es.size = true ∧ (∀ e ∈ es.toList, lowInt e) ∧ es.size ≤ ns.length
theorem SetHas.at' {h h' : Heap} {S : Addr} {b : Bool} {ns : List Int} (x : SetHas h S b ns) (e : ∀ o, h.get? S = some o → h'.get? S = some o) : SetHas h' S b ns := by
  obtain ⟨es, ep, ho, r⟩ := x
  exact ⟨es, ep, e _ ho, r⟩
theorem setK_snoc (b : Bool) (ns : List Int) (k : Int) : setK b (ns ++ [k]) = addK (setK b ns) k := by
  unfold setK; rw [List.foldl_append]; rfl
theorem take_snoc (val : Nat → Int) (i : Nat) : (List.range (i + 1)).map val = (List.range i).map val ++ [val i] := by
  rw [List.range_succ, List.map_append]; rfl
section
variable {prog : Program} {w : World} {A : Around} {R : Result → Shared → Prop} {I : Addr} {fp wr : List Addr} {G : Array GenState → Array GenState → Prop} {n : Nat} {P : Nat → Value → Prop} {St : Nat → Shared → Prop}
theorem set_update_loopE (W : WalksS prog w A.in1 I fp wr G n P St) (S : Addr) (hSf : S ∉ fp) (b : Bool)
    (val : Nat → Nat) (hval : ∀ i v, P i v → val i < 1000000 ∧ ∃ t, v = .int ((val i : Nat) : Int) t) (hb : n + 1 < scanBound) :
    ∀ (k i : Nat) (s : Shared), n - i = k → i ≤ n → St i s →
      SetHas s.heap S b ((List.range i).map fun j => (val j : Int)) →
      (∀ s', Moved (S :: wr) G s s' → SetHas s'.heap S b ((List.range n).map fun j => (val j : Int)) → R (.ok (.ret .none)) s') →
      codeAny (model prog w) A (.builtin "set.update.loop" ⟨[.ref S, .ref I], []⟩) R s := by
  have hSw : S ∉ wr := fun h => hSf (W.sub _ h)
  have hsub : ∀ b ∈ wr, b ∈ S :: wr := fun b hb => List.mem_cons_of_mem _ hb
  intro k
  induction k with
  | zero =>
    intro i s hk hi hst hS hR
    have hin : i = n := by omega
    subst hin
    refine codeAny_builtin PyProof.Rows.F.entry_set_update_loop ?_
    rw [Around.under_plainId PyProof.Rows.F.plain_set_update_loop _]
    show wpAny _ A.in1 (pyNext (.ref I) >>= _) _ _ s
    refine wpAny_bind (W.done s _ _ hst fun s' hm => ?_)
    show wpAny _ A.in1 (ret Value.none) _ _ s'
    exact wpAny_pure (hR s' (hm.mono hsub) (hS.at' fun o e => hm.heap S _ hSw e))
  | succ k ih =>
    intro i s hk hi hst hS hR
    have hlt : i < n := by omega
    refine codeAny_builtin PyProof.Rows.F.entry_set_update_loop ?_
    rw [Around.under_plainId PyProof.Rows.F.plain_set_update_loop _]
    show wpAny _ A.in1 (pyNext (.ref I) >>= _) _ _ s
    refine wpAny_bind (W.item i s _ _ hlt hst fun v s' hP hst' hm => ?_)
    obtain ⟨hlow, t, rfl⟩ := hval i v hP
    obtain ⟨es, ep, ho, hke, hfi, hlo, hle⟩ := hS.at' (fun o e => hm.heap S _ hSw e)
    rw [List.length_map, List.length_range] at hle
    show wpAny _ A.in1 (holding [Value.int (val i : Int) t] (setAdd S (.int (val i : Int) t)) >>= _) _ _ s'
    refine wpAny_bind (wpAny_holding ?_)
    unfold setAdd
    refine wpAny_holding ?_
    refine wpAny_bind ((intKind prog w).pyHash (k := (val i : Int)) (intKind_is _ _ _ _) ?_)
    refine add_exact (s := { s' with toks := s'.toks + 1 }) hlow ho rfl hfi hlo (by omega) fun bb h' es' ep' hsb ho' hk' hf' hl' hs' => ?_
    have hSi : SetHas h' S b ((List.range (i + 1)).map fun j => (val j : Int)) := by
      refine ⟨es', ep', ?_, ?_, ?_, hl', ?_⟩
      · rw [take_snoc, setK_snoc]; rw [hke] at ho'; exact ho'
      · rw [take_snoc, setK_snoc, hk', hke]
      · rw [take_snoc, setK_snoc]; rw [hke] at hf'; exact hf'
      · rw [List.length_map, List.length_range]; omega
    refine wpAny_pure ⟨plainId_quiet PyProof.Rows.F.plain_set_update_loop _, ih (i + 1) _ (by omega) hlt (W.frame _ s' _ _ hst' (Nat.le_succ _) fun b hb o e => ?_) hSi fun s'' hm'' hS'' => ?_⟩
    · rw [hsb.2 b (fun h : b = S => hSf (by rw [← h]; exact hb))]; exact e
    · refine hR s'' (Moved.trans W.gtrans ((hm.mono hsub).then_heap (Nat.le_succ _) fun b o hb e => ?_) hm'') hS''
      rw [hsb.2 b (fun h : b = S => hb (by rw [h]; exact List.mem_cons_self))]; exact e
end
end
section
abbrev ledOf (w : World) : Bool := !w.params.followText "set-order"
section
variable {prog : Program} {w : World} {A : Around} {E : Value → Shared → Prop} {s : Shared}
abbrev setObj0 (w : World) : Obj := { cls := .type "set", dict := none, data := .set #[] 0 (.fresh 0 0 (ledOf w)) }
theorem code_set_newE (a : Value) {Q₁ : Value → Shared → Prop}
    (h : Q₁ (.ref s.heap.objs.size) { s with heap := s.heap.push (setObj0 w) }) :
    codeAny (model prog w) A (.call (.builtin "set.__new__") ⟨[.type "set", a], []⟩) (wants Q₁ E) s := by
  refine codeAny_of_tree ?_
  show wpAny _ A.in1 (do checkBuiltinCall "set.__new__" ⟨[.type "set", a], []⟩; again (.builtin "set.__new__" ⟨[.type "set", a], []⟩)) _ _ s
  refine wpAny_bind (wpAny_of_eq (PySem.F.newCall_set_1 a) (wpAny_pure ⟨plainId_quiet PySem.F.plain_set_new _, codeAny_builtin PySem.F.entry_set_new ?_⟩))
  rw [Around.under_plainId PySem.F.plain_set_new _]
  unfold Builtin.«set.__new__» Builtin.Frozenset.newClass
  have hsub := sub_set_self
  obtain ⟨hp, g, d, tk, os⟩ := s
  dsimp only
  wp_walk
  refine wpAny_askSetting (wpAny_pure ?_)
  dsimp only
  simp only [newObj]
  refine wpAny_bind (wpAny_alloc (wpAny_pure ?_))
  exact wpAny_pure h
end
theorem nats_at : ∀ {vs : List Value} {ns : List Nat}, PyProof.Rows.IntsAre vs (ns.map Int.ofNat) → ∀ (i : Nat) (v : Value), vs[i]? = some v → ∃ t, v = .int ((ns.getD i 0 : Nat) : Int) t
  | vs, [], h, i, v, e => by
    have h0 : vs = [] := by have := PyProof.Rows.IntsAre.length h; simpa using this
    subst h0; simp at e
  | vs, n :: ns, h, i, v, e => by
    rw [List.map_cons] at h
    cases h with
    | cons _ t hr =>
      cases i with
      | zero => simp at e; exact ⟨t, by rw [← e]; rfl⟩
      | succ i =>
        simp only [List.getElem?_cons_succ] at e
        obtain ⟨t', e'⟩ := nats_at hr i v e
        exact ⟨t', by rw [e']; rfl⟩
theorem range_getD (ns : List Nat) : (List.range ns.length).map (fun j => ((ns.getD j 0 : Nat) : Int)) = ns.map Int.ofNat := by
  apply List.ext_getElem
  · simp
  · intro i h1 h2
    simp at h1
    simp [h1]
section
variable {prog : Program} {w : World} {A : Around} {E : Value → Shared → Prop} {s : Shared}
set_option maxHeartbeats 3200000 in
theorem call_set_exact {l : Addr} {items : Array Value} {ns : List Nat} {Q : Value → Shared → Prop}
    (hh : A.handled = none) (hl : s.heap.IsList l items) (hi : PyProof.Rows.IntsAre items.toList (ns.map Int.ofNat)) (hlow : ∀ n ∈ ns, n < 1000000) (hb : items.size + 1 < scanBound)
    (h : ∀ (h' : Heap) (tk : Nat), SetHas h' s.heap.objs.size (ledOf w) (ns.map Int.ofNat) →
      (∀ b o, b < s.heap.objs.size → s.heap.get? b = some o → h'.get? b = some o) → Q (.ref s.heap.objs.size) { s with heap := h', toks := tk }) :
    wpAny (model prog w) A (call (.type "set") [.ref l]) Q E s := by
  obtain ⟨c, tl, hmro⟩ := PySem.F.called_set.mro
  have hmade := PySem.F.called_set.made
  have hsub := PySem.F.called_set.sub
  have hlen : items.size = ns.length := by have := PyProof.Rows.IntsAre.length hi; simpa using this
  refine wpAny_call (codeAny_of_tree ?_)
  show wpAny _ _ (callAny (.type "set") _) _ _ _
  refine wpAny_pure ⟨Code.quiet_builtin _ (by decide +kernel), codeAny_builtin PySem.F.entry_type_call ?_⟩
  rw [Around.under_plain (weight_type_call_type "set" [.ref l] []) rfl]
  have h1 := PySem.F.called_set.notType
  have h2 := PySem.F.called_set.canCreate
  have hct := PySem.F.typeCall_set_1 (.ref l)
  repeat (any_goals (first | assumption | wp_step))
  refine codeAny_mono (code_set_newE (.ref l) (E := E) (Q₁ := fun obj s₁ => obj = .ref s.heap.objs.size ∧ s₁ = { s with heap := s.heap.push (setObj0 w) }) ⟨rfl, rfl⟩) fun r s₁ hr => ?_
  cases r with
  | error e => exact hr
  | ok fl =>
    cases fl with
    | ret obj =>
      obtain ⟨rfl, rfl⟩ := hr
      have hS : (s.heap.push (setObj0 w)).get? s.heap.objs.size = some (setObj0 w) := Heap.get?_push_size _ rfl
      have hT : Shared.TypeIs { s with heap := s.heap.push (setObj0 w) } (.ref s.heap.objs.size) "set" := ⟨_, hS, rfl⟩
      have hli := PySem.F.called_set.init.lookup
      have hbi := PySem.F.called_set.init.bind (.ref s.heap.objs.size)
      repeat (any_goals (first | assumption | wp_step))
      refine codeAny_mono (codeAny_call_builtin (R := wants (fun r s₂ => r = .none ∧ ∃ h' tk, s₂ = { s with heap := h', toks := tk } ∧
          SetHas h' s.heap.objs.size (ledOf w) (ns.map Int.ofNat) ∧
          (∀ b o, b < s.heap.objs.size → s.heap.get? b = some o → h'.get? b = some o)) E) PySem.F.called_set.init.plain PySem.F.entry_set_init (PySem.check_set_init_1 hT ?_)) fun r₂ s₂ hr₂ => ?_
      · obtain ⟨ol, hol, hcl, nl, hdl⟩ := hl
        obtain ⟨ocls, odict, odata, oslots⟩ := ol
        simp only at hcl hdl
        subst hcl; subst hdl
        have hol' : (s.heap.push (setObj0 w)).get? l = some { cls := .type "list", dict := odict, data := .seq items nl, slots := oslots } := Heap.get?_push_of_some _ hol
        have hsls := PySem.F.sub_list_set
        have hslf := PySem.F.sub_list_frozenset
        have hne : (Value.type "list" == Value.type "dict") = false := by decide
        have hl1 : (s.heap.push (setObj0 w)).IsList l items := ⟨_, hol', rfl, nl, rfl⟩
        unfold Builtin.«set.__init__» noKeywords Builtin.Frozenset.updateFrom
        generalize hPI : pyIter = PI
        wp_walk
        subst hPI
        refine wpAny_pyIter_list hl1 ?_
        refine wpAny_bind (wpAny_runValue ?_)
        have hlS : l < s.heap.objs.size := Heap.lt_size hol
        have hh3 : A.in1.in1.in1.handled = none := by simp [hh]
        have hneI : l ≠ (s.heap.push (setObj0 w)).objs.size := by
          rw [Heap.size_push]; exact Nat.ne_of_lt (Nat.lt_succ_of_lt hlS)
        have hSf : s.heap.objs.size ∉ [(s.heap.push (setObj0 w)).objs.size, l] := by
          rw [Heap.size_push]; simp only [List.mem_cons, List.mem_singleton, List.not_mem_nil, or_false, not_or]
          exact ⟨Nat.ne_of_lt (Nat.lt_succ_self _), Nat.ne_of_gt hlS⟩
        have hval : ∀ (i : Nat) (v : Value), items[i]? = some v → (fun i => ns.getD i 0) i < 1000000 ∧ ∃ t, v = .int (((fun i => ns.getD i 0) i : Nat) : Int) t := fun i v hv => by
          refine ⟨?_, nats_at hi i v (by rw [Array.getElem?_toList]; exact hv)⟩
          have hil : i < ns.length := by rw [← hlen]; exact (Array.getElem?_eq_some_iff.mp hv).1
          have : ns.getD i 0 = ns[i] := by simp [hil]
          show ns.getD i 0 < 1000000
          rw [this]; exact hlow _ (List.getElem_mem hil)
        refine set_update_loopE ((Walks.list hh3 _ l hneI items).toS) s.heap.objs.size
          hSf (ledOf w) (fun i => ns.getD i 0) hval hb (items.size - 0) 0 _ (by omega) (Nat.zero_le _)
          ⟨⟨_, Heap.get?_push_size _ rfl, rfl, rfl⟩, (hl1.push _)⟩ ?hS0 ?hR
        case hS0 =>
          have hget : ((s.heap.push (setObj0 w)).push { cls := .type "list_iterator", data := .fields #[.ref l, .int 0 0] }).get? s.heap.objs.size
              = some (setObj0 w) := Heap.get?_push_of_some _ hS
          exact ⟨#[], 0, hget, by simp [keysOf, setK], rfl, fun e he => absurd he (by simp), Nat.le_refl _⟩
        case hR =>
          intro s' hm hS'
          rw [hlen, range_getD] at hS'
          obtain ⟨h', g', d', tk', os'⟩ := s'
          have eg : g' = s.gens := hm.gens
          have ed : d' = s.drawn := hm.drawn
          have eo : os' = s.os := hm.os
          subst eg; subst ed; subst eo
          show wpAny _ _ _ _ _ _
          refine wpAny_pure ?_
          show wpAny _ _ (ret Value.none) _ _ _
          refine wpAny_pure ⟨rfl, h', tk', rfl, hS', fun b o hb e => ?_⟩
          have hb1 : b ≠ s.heap.objs.size := Nat.ne_of_lt hb
          have hb2 : b ≠ (s.heap.push (setObj0 w)).objs.size := by
            rw [Heap.size_push]; exact Nat.ne_of_lt (Nat.lt_succ_of_lt hb)
          exact hm.heap b o (by simp only [List.mem_cons, List.mem_singleton, List.not_mem_nil, or_false, not_or]; exact ⟨hb1, hb2⟩) (Heap.get?_push_of_some _ (Heap.get?_push_of_some _ e))
      · cases r₂ with
        | error e => exact hr₂
        | ok fl₂ =>
          cases fl₂ with
          | ret r =>
            obtain ⟨rfl, h', tk, rfl, hS', hk'⟩ := hr₂
            repeat (any_goals (first | assumption | wp_step))
            exact h _ _ hS' hk'
          | _ => exact hr₂.elim
    | _ => exact hr.elim
theorem newSet_E {h₀ : Heap} {L : Addr} {m : Str → Option Value} {news : List (Addr × Obj)} {l : Addr} {items : Array Value} {ns : List Nat} {Q : Value → Shared → Prop} (F : Fr h₀ L s.heap m) (N : News h₀ L s.heap news)
    (hh : A.handled = none) (hl : s.heap.IsList l items) (hi : PyProof.Rows.IntsAre items.toList (ns.map Int.ofNat)) (hlow : ∀ n ∈ ns, n < 1000000) (hb : ns.length + 1 < scanBound)
    (h : ∀ h' (tk : Nat) es ep, Fr h₀ L h' m → News h₀ L h' ((s.heap.objs.size, { cls := .type "set", dict := none, data := .set es ep (setK (ledOf w) (ns.map Int.ofNat)).2, slots := #[] }) :: news) →
      keysOf es = (setK (ledOf w) (ns.map Int.ofNat)).1 → (setK (ledOf w) (ns.map Int.ofNat)).2.fits es.size = true → (∀ e ∈ es.toList, lowInt e) → es.size ≤ ns.length →
      Q (.ref s.heap.objs.size) { s with heap := h', toks := tk }) :
    wpAny (model prog w) A (call (.type "set") [.ref l]) Q E s := by
  have hlen : items.size = ns.length := by have := PyProof.Rows.IntsAre.length hi; simpa using this
  refine call_set_exact (items := items) (ns := ns) hh hl hi hlow (by rw [hlen]; exact hb) fun h' tk hS hk => ?_
  obtain ⟨es, ep, ho, hke, hfi, hlo, hle⟩ := hS
  rw [List.length_map] at hle
  obtain ⟨oL, _, _, hL, _⟩ := F.ns
  have hLlt : L < s.heap.objs.size := Heap.lt_size hL
  refine h h' tk es ep ⟨F.ns.at' fun o' e => hk L o' hLlt e, fun b o' e => hk b o' (Heap.lt_size (F.keep b o' e)) (F.keep b o' e), F.above⟩ (fun p hp => ?_) hke hfi hlo hle
  rcases List.mem_cons.mp hp with rfl | hp
  · refine ⟨ho, Nat.ne_of_gt hLlt, ?_⟩
    cases hq : h₀.get? s.heap.objs.size with
    | none => rfl
    | some o' => exact absurd (Heap.lt_size (F.keep _ _ hq)) (Nat.lt_irrefl _)
  · exact ⟨hk _ _ (Heap.lt_size (N p hp).1) (N p hp).1, (N p hp).2.1, (N p hp).2.2⟩
end
end
section
/-! the walk over a set -/
theorem slot_setiter_next : Slot "set_iterator" "__next__" "set_iterator.__next__" :=
  .of (owner := "set_iterator") (n := "__next__") (by rw [typeLookup_type, builtinLookup_eq_fast]; kernel_rfl) (by decide +kernel) (by decide +kernel) (by decide +kernel)
    (by first | exact .inl (by decide +kernel) | exact .inr (by decide +kernel)) (by rw [isSubtype_type]; kernel_rfl)
theorem slot_setiter_iter : Slot "set_iterator" "__iter__" "set_iterator.__iter__" :=
  .of (owner := "set_iterator") (n := "__iter__") (by rw [typeLookup_type, builtinLookup_eq_fast]; kernel_rfl) (by decide +kernel) (by decide +kernel) (by decide +kernel)
    (by first | exact .inl (by decide +kernel) | exact .inr (by decide +kernel)) (by rw [isSubtype_type]; kernel_rfl)
theorem entry_setiter_next : entryFor table "set_iterator.__next__" = some Builtin.«set_iterator.__next__» := entryFor_of_fast (by kernel_rfl)
theorem entry_setiter_iter : entryFor table "set_iterator.__iter__" = some Builtin.«dict_keyiterator.__iter__» :=
  entryFor_alias (id' := "dict_keyiterator.__iter__") (by kernel_rfl) rfl (by decide +kernel) (by kernel_rfl)
theorem entry_setiter : entryFor table "set.__iter__" = some Builtin.«frozenset.__iter__» :=
  entryFor_alias (id' := "frozenset.__iter__") (by kernel_rfl) rfl (by decide +kernel) (by kernel_rfl)
theorem args_setiter_next (a : Value) : argsOk "set_iterator.__next__" ⟨[a], []⟩ := by unfold argsOk; kernel_rfl
theorem args_setiter_iter (a : Value) : argsOk "set_iterator.__iter__" ⟨[a], []⟩ := by unfold argsOk; kernel_rfl
def walked (w : World) (S : Addr) (es : Array (Int × Value)) (ep : Nat) : Array (Int × Value) := if w.params.followText "set-order" then pickOrder (w.params.setOrder S ep) es else es
def slotAt (w : World) (t : SetTable) (i : Nat) : Nat := if w.params.followText "set-order" then 0 else if i = 0 then 0 else t.place.getD (i - 1) 0 + 1
def walkGood (w : World) (t : SetTable) : Prop := w.params.followText "set-order" = true ∨ w.params.followText "set-order" = false ∧ t.led = true ∧ t.plain = true ∧ placeOk t.place = true
theorem walked_perm (w : World) (S : Addr) (es : Array (Int × Value)) (ep : Nat) : (walked w S es ep).toList.Perm es.toList := by
  unfold walked
  split
  · exact pick_perm ..
  · exact List.Perm.refl _
theorem walked_size (w : World) (S : Addr) (es : Array (Int × Value)) (ep : Nat) : (walked w S es ep).size = es.size := by
  rw [← Array.length_toList, (walked_perm w S es ep).length_eq, Array.length_toList]
theorem placeOk_at {p : Array Nat} (h : placeOk p = true) {i : Nat} (hi : i ≤ p.size) : SetTable.below p (if i = 0 then 0 else p.getD (i - 1) 0 + 1) = i := by
  unfold placeOk at h
  rw [List.all_eq_true] at h
  exact beq_iff_eq.mp (h i (List.mem_range.mpr (by omega)))
theorem fits_size {t : SetTable} {n : Nat} (h : t.fits n = true) : t.place.size = n := by
  unfold SetTable.fits at h; simp only [Bool.and_eq_true, beq_iff_eq] at h; exact h.1
section
variable {prog : Program} {w : World} {A : Around} {E : Value → Shared → Prop} {s : Shared} {S : Addr} {o : Obj} {es : Array (Int × Value)} {ep : Nat} {t : SetTable}
theorem setsByText_at {Q : Bool → Shared → Prop} (h : Q (w.params.followText "set-order") s) : wpAny (model prog w) A setsByText Q E s := by
  unfold setsByText; exact wpAny_bind (wpAny_askSetting (wpAny_pure h))
theorem setWalk_text {Q : Array (Int × Value) → Shared → Prop} (ho : s.heap.get? S = some o) (hd : o.data = .set es ep t) (hf : t.fits es.size = true) (ht : w.params.followText "set-order" = true)
    (h : Q (walked w S es ep) s) : wpAny (model prog w) A (setWalk S) Q E s := by
  unfold setWalk
  refine wpAny_bind (wpAny_setState_of ho hd hf ?_)
  dsimp only
  refine wpAny_bind (setsByText_at ?_)
  rw [ht, if_pos rfl]
  refine wpAny_bind (wpAny_askSetting ?_)
  unfold walked at h
  rw [if_pos ht] at h
  exact wpAny_pure h
theorem setDrawn_at {Q : Bool → Shared → Prop} (ho : s.heap.get? S = some o) (hd : o.data = .set es ep t) (hf : t.fits es.size = true) (hg : walkGood w t)
    (h : Q false s) : wpAny (model prog w) A (setDrawn S) Q E s := by
  unfold setDrawn
  refine wpAny_bind (wpAny_setState_of ho hd hf ?_)
  dsimp only
  refine wpAny_bind (setsByText_at ?_)
  rcases hg with ht | ⟨ht, _, hp, _⟩
  · rw [ht]; exact wpAny_pure h
  · rw [ht]
    refine wpAny_pure ?_
    show Q (!t.plain && decide (es.size > 1)) s
    rw [hp]; exact h
theorem setNext_at {i : Nat} {Q : Option (Value × Nat) → Shared → Prop} (ho : s.heap.get? S = some o) (hd : o.data = .set es ep t) (hf : t.fits es.size = true) (hg : walkGood w t) (hi : i ≤ es.size)
    (h : Q ((walked w S es ep)[i]?.map fun e => (e.2, slotAt w t (i + 1))) s) : wpAny (model prog w) A (setNext S (slotAt w t i) i ep) Q E s := by
  unfold setNext
  refine wpAny_bind (wpAny_setState_of ho hd hf ?_)
  dsimp only
  refine wpAny_bind (setsByText_at ?_)
  rcases hg with ht | ⟨ht, hl, hp, hk⟩
  · rw [ht, if_pos rfl, if_neg (by simp)]
    refine wpAny_bind (setWalk_text ho hd hf ht (wpAny_pure ?_))
    unfold slotAt at h ⊢
    rw [if_pos ht] at h ⊢
    exact h
  · rw [ht, if_neg (by simp)]
    have hdr : ∀ {α : Type} (a b : Sem α) (R : α → Shared → Prop), wpAny (model prog w) A b R E s → wpAny (model prog w) A (if (!t.plain && decide (es.size > 1)) = true then a else b) R E s := by
      intro α a b R hb; rw [hp, if_neg (by simp)]; exact hb
    refine hdr _ _ _ ?_
    have hml : ∀ {α : Type} (b : Sem α) (R : α → Shared → Prop), wpAny (model prog w) A b R E s → wpAny (model prog w) A ((if (!t.led && !es.isEmpty) = true then unsupported "set:maker-not-led" else pure ()) >>= fun _ : Unit => b) R E s := by
      intro α b R hb; rw [hl, if_neg (by simp)]; exact wpAny_bind (wpAny_pure hb)
    refine hml _ _ ?_
    have hb := placeOk_at hk (i := i) (by rw [fits_size hf]; exact hi)
    have hs : slotAt w t i = (if i = 0 then 0 else t.place.getD (i - 1) 0 + 1) := by unfold slotAt; rw [if_neg (by rw [ht]; simp)]
    have hs1 : slotAt w t (i + 1) = t.place.getD i 0 + 1 := by unfold slotAt; rw [if_neg (by rw [ht]; simp), if_neg (by omega)]; rfl
    have hw : walked w S es ep = es := by unfold walked; rw [if_neg (by rw [ht]; simp)]
    rw [hs1, hw] at h
    rw [hs, hb]
    refine wpAny_pure ?_
    by_cases hlt : i < es.size
    · have hlp : i < t.place.size := by rw [fits_size hf]; exact hlt
      rw [Array.getElem?_eq_getElem hlt] at h ⊢
      rw [Array.getElem?_eq_getElem hlp]
      rw [show t.place.getD i 0 = t.place[i] by simp [Array.getD, hlp]] at h
      exact h
    · rw [Array.getElem?_eq_none (by omega)] at h ⊢
      exact h
end
end
section
abbrev setItObj (w : World) (t : SetTable) (S : Addr) (n ep i : Nat) : Obj :=
  { cls := .type "set_iterator", dict := none, data := .fields #[.int (slotAt w t i : Int) 0, .int (i : Int) 0, .ref S, .int (n : Int) 0, .int (ep : Int) 0], slots := #[] }
abbrev setOb (es : Array (Int × Value)) (ep : Nat) (t : SetTable) : Obj := { cls := .type "set", dict := none, data := .set es ep t, slots := #[] }
section
variable {prog : Program} {w : World} {A : Around} {E : Value → Shared → Prop} {s : Shared} {I S : Addr} {es : Array (Int × Value)} {ep : Nat} {t : SetTable}
theorem setIt_next {i : Nat} {Q : Option Value → Shared → Prop} (hit : s.heap.get? I = some (setItObj w t S es.size ep i)) (ho : s.heap.get? S = some (setOb es ep t)) (hf : t.fits es.size = true) (hg : walkGood w t)
    (e : Int × Value) (he : (walked w S es ep)[i]? = some e)
    (h : ∀ h', h'.get? I = some (setItObj w t S es.size ep (i + 1)) → Heap.SameBut I s.heap h' → Q (some e.2) { s with heap := h' }) :
    wpAny (model prog w) A (pyNext (.ref I)) Q E s := by
  have hT : s.TypeIs (.ref I) "set_iterator" := ⟨_, hit, rfl⟩
  have hi : i < es.size := by rw [← walked_size w S es ep]; exact (Array.getElem?_eq_some_iff.mp he).1
  unfold pyNext
  refine wpAny_bind (wpAny_attempt (wpAny_callSpecial?_slot (name := Str.ofString "__next__") hT slot_setiter_next
    (wpAny_call_entry slot_setiter_next hT entry_setiter_next ?_ (args_setiter_next _))))
  unfold Builtin.«set_iterator.__next__» slotArgs
  refine wpAny_bind (wpAny_bind (wpAny_pure (wpAny_bind (wpAny_pure (wpAny_pure ?_)))))
  refine wpAny_bind (wpAny_fieldsOf hit rfl ?_)
  show wpAny _ _ (setEntries S >>= _) _ _ s
  refine wpAny_bind (wpAny_setEntries_of ho rfl hf ?_)
  rw [if_neg (by simp)]
  show wpAny _ _ (setNext S (slotAt w t i : Int).toNat (i : Int).toNat (ep : Int).toNat >>= _) _ _ s
  rw [Int.toNat_natCast, Int.toNat_natCast, Int.toNat_natCast]
  refine wpAny_bind (setNext_at ho rfl hf hg (Nat.le_of_lt hi) ?_)
  rw [he]
  show wpAny _ _ (setField (.ref I) 0 (rawInt (slotAt w t (i + 1) : Int)) >>= _) _ _ s
  refine wpAny_bind (wpAny_setField_rec hit (by show (0 : Nat) < 5; omega) fun h1 ho1 sb1 => ?_)
  show wpAny _ _ (setField (.ref I) 1 (rawInt ((i : Int) + 1)) >>= _) _ _ _
  refine wpAny_bind (wpAny_setField_rec (s := { s with heap := h1 }) ho1 (by show (1 : Nat) < 5; omega) fun h2 ho2 sb2 => ?_)
  exact wpAny_pure ⟨e.2, rfl, wpAny_pure (h h2 ho2 (sb1.trans sb2))⟩
theorem setIt_end {Q : Option Value → Shared → Prop} (hh : A.handled = none) (hit : s.heap.get? I = some (setItObj w t S es.size ep es.size)) (ho : s.heap.get? S = some (setOb es ep t)) (hf : t.fits es.size = true) (hg : walkGood w t)
    (h : ∀ h', Heap.ExtBut I s.heap h' → Q none { s with heap := h' }) :
    wpAny (model prog w) A (pyNext (.ref I)) Q E s := by
  have hT : s.TypeIs (.ref I) "set_iterator" := ⟨_, hit, rfl⟩
  unfold pyNext
  refine wpAny_bind (wpAny_attempt (wpAny_callSpecial?_slot (name := Str.ofString "__next__") hT slot_setiter_next
    (wpAny_call_entry slot_setiter_next hT entry_setiter_next ?_ (args_setiter_next _))))
  unfold Builtin.«set_iterator.__next__» slotArgs
  refine wpAny_bind (wpAny_bind (wpAny_pure (wpAny_bind (wpAny_pure (wpAny_pure ?_)))))
  refine wpAny_bind (wpAny_fieldsOf hit rfl ?_)
  show wpAny _ _ (setEntries S >>= _) _ _ s
  refine wpAny_bind (wpAny_setEntries_of ho rfl hf ?_)
  rw [if_neg (by simp)]
  show wpAny _ _ (setNext S (slotAt w t es.size : Int).toNat (es.size : Int).toNat (ep : Int).toNat >>= _) _ _ s
  rw [Int.toNat_natCast, Int.toNat_natCast, Int.toNat_natCast]
  refine wpAny_bind (setNext_at ho rfl hf hg (Nat.le_refl _) ?_)
  rw [Array.getElem?_eq_none (by rw [walked_size]; exact Nat.le_refl _)]
  show wpAny _ _ (setField (.ref I) 2 .none >>= _) _ _ s
  refine wpAny_bind (wpAny_setField_rec hit (by show (2 : Nat) < 5; omega) fun h1 ho1 sb1 => ?_)
  show wpAny _ _ (newExc (.type "StopIteration") [] >>= _) _ _ _
  refine wpAny_bind ?_
  simp only [newExc, newTuple]
  refine wpAny_bind (wpAny_newObj_type ?_ (by size_fits))
  refine wpAny_bind (m := firstArgMember _ _) (wpAny_of_eq (a := Value.none) (by first | rfl | (simp only [firstArgMember]; rfl)) ?_)
  refine wpAny_newObj_type ?_ (by size_fits)
  simp only [raiseNew]
  refine wpAny_bind (wpAny_handled ?_)
  rw [show A.in1.handled = none from hh]
  refine wpAny_bind (wpAny_pure (wpAny_throw ?_))
  refine wpAny_bind (wpAny_isInstance (T := "StopIteration") (b := true) ⟨_, Heap.get?_push_size _ rfl, rfl⟩ isSubtype_stop ?_)
  exact wpAny_pure (h _ ((sb1.extBut.push _).push _))
theorem setIt_self {i : Nat} {Q : Value → Shared → Prop} (hit : s.heap.get? I = some (setItObj w t S es.size ep i)) (h : Q (.ref I) s) : wpAny (model prog w) A (pyIter (.ref I)) Q E s := by
  have hT : s.TypeIs (.ref I) "set_iterator" := ⟨_, hit, rfl⟩
  refine wpAny_pyIter_slot hT slot_setiter_iter (wpAny_call_entry slot_setiter_iter hT entry_setiter_iter ?_ (args_setiter_iter _))
  show wpAny _ _ (ret (.ref I)) _ _ s
  exact wpAny_pure ⟨_, rfl, "set_iterator", _, hT, slot_setiter_next.lookup, h⟩
theorem setIt_new {Q : Value → Shared → Prop} (ho : s.heap.get? S = some (setOb es ep t)) (hf : t.fits es.size = true) (hg : walkGood w t)
    (h : Q (.ref s.heap.objs.size) { s with heap := s.heap.push (setItObj w t S es.size ep 0) }) : wpAny (model prog w) A (pyIter (.ref S)) Q E s := by
  have hT : s.TypeIs (.ref S) "set" := ⟨_, ho, rfl⟩
  refine wpAny_pyIter_slot hT PySem.F.slot_set_iter (wpAny_call_entry PySem.F.slot_set_iter hT entry_setiter ?_ (PySem.F.args_set_iter_1 _))
  unfold Builtin.«frozenset.__iter__» Builtin.Frozenset.slot0 slotArgs
  refine wpAny_bind (wpAny_bind (wpAny_bind (wpAny_pure (wpAny_bind (wpAny_pure (wpAny_pure ?_))))))
  refine wpAny_pure ?_
  unfold Builtin.Frozenset.sizeOf
  refine wpAny_bind (wpAny_bind (wpAny_setEntries_of ho rfl hf (wpAny_pure ?_)))
  refine wpAny_bind (m := setDrawn S) (setDrawn_at ho rfl hf hg ?_)
  rw [if_neg (by simp)]
  refine wpAny_bind (wpAny_pure ?_)
  dsimp only
  unfold setEpoch
  refine wpAny_bind (wpAny_bind (wpAny_setState_of ho rfl hf (wpAny_pure ?_)))
  have hs0 : slotAt w t 0 = 0 := by unfold slotAt; split <;> rfl
  refine wpAny_bind (wpAny_newObj_type (wpAny_pure ⟨_, rfl, "set_iterator", _, ⟨_, Heap.get?_push_size _ rfl, rfl⟩, slot_setiter_next.lookup, ?_⟩))
  unfold setItObj at h
  rw [hs0] at h
  exact h
theorem Walks.setIt (hh : A.handled = none) (hne : S ≠ I) (hf : t.fits es.size = true) (hg : walkGood w t) :
    Walks prog w A I [I, S] [I] es.size (fun i v => ∃ e, (walked w S es ep)[i]? = some e ∧ v = e.2) (fun i h => h.get? I = some (setItObj w t S es.size ep i) ∧ h.get? S = some (setOb es ep t)) where
  sub := fun b hb => by simp at hb; simp [hb]
  frame := fun _ _ _ st hk => ⟨hk I (by simp) _ st.1, hk S (by simp) _ st.2⟩
  item := fun i s Q E hi st hQ => by
    have hlt : i < (walked w S es ep).size := by rw [walked_size]; exact hi
    refine setIt_next st.1 st.2 hf hg _ (Array.getElem?_eq_getElem hlt) fun h' hit' hs' => ?_
    exact hQ _ h' s.toks ⟨_, Array.getElem?_eq_getElem hlt, rfl⟩ ⟨hit', hs'.extBut S _ hne st.2⟩ fun b o hb e => hs'.extBut b o (fun h => hb (by simp [h])) e
  done := fun s Q E st hQ => setIt_end hh st.1 st.2 hf hg fun h' he' => hQ h' s.toks fun b o hb e => he' b o (fun h => hb (by simp [h])) e
  self := fun _ _ _ _ st hQ => setIt_self st.1 hQ
end
end
section
/-! a set collected and sorted -/
theorem vals_low : ∀ {l : List (Int × Value)}, (∀ e ∈ l, lowInt e) → PyProof.Rows.IntsAre (l.map (·.2)) (l.map (·.1))
  | [], _ => .nil
  | e :: l, h => by
    obtain ⟨k, t, _, rfl⟩ := h e (List.mem_cons_self ..)
    exact .cons _ t (vals_low fun e he => h e (List.mem_cons_of_mem _ he))
section
variable {prog : Program} {w : World} {A : Around} {E : Value → Shared → Prop} {s : Shared} {S : Addr} {es : Array (Int × Value)} {ep : Nat} {t : SetTable}
theorem collect_set {Q : List Value → Shared → Prop} (hh : A.handled = none) (ho : s.heap.get? S = some (setOb es ep t)) (hf : t.fits es.size = true) (hg : walkGood w t) (hn : es.size ≤ sizeLine)
    (h : ∀ (h' : Heap) (tk : Nat), (∀ b o, s.heap.get? b = some o → h'.get? b = some o) → s.heap.objs.size < h'.objs.size → Q ((walked w S es ep).toList.map (·.2)) { s with heap := h', toks := tk }) :
    wpAny (model prog w) A (collect (.ref S)) Q E s := by
  unfold collect
  refine wpAny_bind (wpAny_runValue (codeAny_builtin PySem.F.entry_proto_collect ?_))
  rw [Around.under_plainId PySem.F.plain_proto_collect _]
  show wpAny _ A.in1 (newList [] >>= fun l => again (.builtin "list.__iadd__" ⟨[l, .ref S], []⟩)) _ _ s
  refine wpAny_bind (wpAny_newObj_type ?_)
  refine wpAny_pure ⟨plainId_quiet PySem.F.plain_list_iadd _, codeAny_builtin PySem.F.entry_list_iadd ?_⟩
  rw [Around.under_plainId PySem.F.plain_list_iadd _]
  show wpAny _ A.in1 (Builtin.List.listExtendWith (.ref s.heap.objs.size) (.ref S) (.ref s.heap.objs.size)) _ _ _
  unfold Builtin.List.listExtendWith
  have hSlt : S < s.heap.objs.size := Heap.lt_size ho
  have hDS : s.heap.objs.size ≠ S := Nat.ne_of_gt hSlt
  generalize hH : s.heap.push { cls := .type "list", data := .seq ([] : List Value).toArray } = H
  have hHs : H.objs.size = s.heap.objs.size + 1 := by rw [← hH, Heap.size_push]
  have hD : H.get? s.heap.objs.size = some { cls := .type "list", dict := none, data := .seq #[] 0, slots := #[] } := hH ▸ Heap.get?_push_size _ rfl
  have hup : ∀ b o, s.heap.get? b = some o → H.get? b = some o := fun b o e => hH ▸ Heap.get?_push_of_some _ e
  have ho1 : H.get? S = some (setOb es ep t) := hup _ _ ho
  have hT : Shared.TypeIs { s with heap := H } (.ref S) "set" := ⟨_, ho1, rfl⟩
  refine wpAny_bind (wpAny_typeOf hT ?_)
  have h1 : Builtin.List.listSameRef (.ref s.heap.objs.size) (.ref S) = false := by simp [Builtin.List.listSameRef, hDS]
  have h2 : (Value.type "set" == Value.type "list") = false := by decide
  have h3 : (Value.type "set" == Value.type "tuple") = false := by decide
  simp only [h1, h2, h3, Bool.or_false, Bool.false_eq_true, if_false]
  refine wpAny_bind (setIt_new (s := { s with heap := H }) ho1 hf hg ?_)
  generalize hI : H.push (setItObj w t S es.size ep 0) = J
  have hJ : J.get? H.objs.size = some (setItObj w t S es.size ep 0) := hI ▸ Heap.get?_push_size _ rfl
  have hup2 : ∀ b o, H.get? b = some o → J.get? b = some o := fun b o e => hI ▸ Heap.get?_push_of_some _ e
  have hT2 : Shared.TypeIs { s with heap := J } (.ref S) "set" := ⟨_, hup2 _ _ ho1, rfl⟩
  refine wpAny_bind (wpAny_holding ?_)
  unfold Builtin.List.listLengthHint
  refine wpAny_bind (wpAny_specialOf (s := { s with heap := J }) hT2 PySem.F.slot_set_len.lookup ?_)
  wp_delta
  refine wpAny_bind (wpAny_isInstance (T := "set") (v := .ref S) (b := true) hT2 (by rw [isSubtype_type]; kernel_rfl) ?_)
  show wpAny _ A.in1 (typeOf (Value.ref S) >>= _) _ _ _
  refine wpAny_bind (wpAny_typeOf hT2 ?_)
  refine wpAny_pure ?_
  rw [if_pos (by decide +kernel)]
  refine wpAny_bind (wpAny_rule ?_)
  have hS₁ := hup2 _ _ hD
  refine wpAny_bind ?_
  show wpAny _ A.in1 (updateSeq s.heap.objs.size (·.push .none) >>= fun _ => updateSeq s.heap.objs.size (·.pop)) _ _ _
  refine wpAny_bind (wpAny_updateSeq hS₁ rfl ?_)
  have hS₂ := Heap.get?_update_self (Obj.mapSeq (·.push Value.none)) hS₁ rfl
  refine wpAny_updateSeq hS₂ rfl ?_
  have hS₃ := Heap.get?_update_self (Obj.mapSeq (·.pop)) hS₂ rfl
  have oth : ∀ b o, b ≠ s.heap.objs.size → J.get? b = some o →
      ((J.update s.heap.objs.size (Obj.mapSeq (·.push Value.none))).update s.heap.objs.size (Obj.mapSeq (·.pop))).get? b = some o :=
    fun b o hb e => (Heap.get?_update_other _ _ (Ne.symm hb)).trans ((Heap.get?_update_other _ _ (Ne.symm hb)).trans e)
  have hSI : S ≠ H.objs.size := by rw [hHs]; exact Nat.ne_of_lt (Nat.lt_succ_of_lt hSlt)
  have hDf : s.heap.objs.size ∉ [H.objs.size, S] := by
    rw [hHs]; simp only [List.mem_cons, List.mem_singleton, List.not_mem_nil, or_false, not_or]
    exact ⟨Nat.ne_of_lt (Nat.lt_succ_self _), hDS⟩
  have hDI : H.objs.size ≠ s.heap.objs.size := by rw [hHs]; exact Nat.ne_of_gt (Nat.lt_succ_self _)
  refine wpAny_pure ⟨plainId_quiet PySem.F.plain_extend_loop _, codeAny_extend_loopS (Walks.setIt (A := A.in1) (by simp [hh]) hSI hf hg).toS hn _ hDf _ es.size 0 _ _ _ rfl (Nat.zero_le _)
    ⟨oth _ _ hDI hJ, oth _ _ (Ne.symm hDS) (hup2 _ _ ho1)⟩ hS₃ (ItemsOf.nil _) fun s' acc' c' hm hS' hacc => ?_⟩
  show wpAny _ A (load s.heap.objs.size >>= _) _ _ s'
  refine wpAny_bind (wpAny_load hS' ?_)
  have hl : acc'.toList = (walked w S es ep).toList.map (·.2) := by
    have hsz := walked_size w S es ep
    apply List.ext_getElem
    · rw [Array.length_toList, List.length_map, Array.length_toList, hacc.1, hsz]
    · intro i h1 h2
      have hi : i < acc'.size := by rw [← Array.length_toList]; exact h1
      obtain ⟨e, he, ee⟩ := hacc.2 i acc'[i] (Array.getElem?_eq_getElem hi)
      obtain ⟨hw, he⟩ := Array.getElem?_eq_some_iff.mp he
      rw [Array.getElem_toList, ee, List.getElem_map, Array.getElem_toList, he]
  obtain ⟨h', g', d', tk', os'⟩ := s'
  have eg : g' = s.gens := hm.gens
  have ed : d' = s.drawn := hm.drawn
  have eo : os' = s.os := hm.os
  subst eg; subst ed; subst eo
  dsimp only
  rw [hl]
  refine wpAny_pure (h h' tk' (fun b o e => ?_) (Heap.lt_size hS'))
  have hlt := Heap.lt_size e
  refine hm.heap b o ?_ (oth b o (Nat.ne_of_lt hlt) (hup2 _ _ (hup _ _ e)))
  rw [hHs]; simp only [List.mem_cons, List.mem_singleton, List.not_mem_nil, or_false, not_or]
  exact ⟨Nat.ne_of_lt hlt, Nat.ne_of_lt (Nat.lt_succ_of_lt hlt)⟩
theorem sorted_set {Q : Value → Shared → Prop} (hh : A.handled = none) (ho : s.heap.get? S = some (setOb es ep t)) (hf : t.fits es.size = true) (hg : walkGood w t) (hl : ∀ e ∈ es.toList, lowInt e) (h64 : es.size < 64)
    (h : ∀ (h' : Heap) (tk : Nat) (a : Addr) (out : Array Value) (c : Nat) (ns' : List Int), (∀ b o, s.heap.get? b = some o → h'.get? b = some o) → s.heap.objs.size < a → h'.get? a = some (seqObj "list" out c) →
      PyProof.Rows.IntsAre out.toList ns' → ns'.Perm (keysOf es).toList → ns'.Pairwise (· ≤ ·) → Q (.ref a) { s with heap := h', toks := tk }) :
    wpAny (model prog w) A (call (.builtin "sorted") [.ref S]) Q E s := by
  refine Calls.call_function_entry kind_sorted plain_sorted entry_sorted (args_sorted1 _) ?_
  unfold Builtin.«sorted»
  refine wpAny_bind (m := checkCount "sorted" 1 1 _) (wpAny_pure ?_)
  refine wpAny_bind (collect_set (by simp [hh]) ho hf hg (by unfold sizeLine; omega) fun h1 tk1 k1 z1 => ?_)
  have hlw : ∀ e ∈ (walked w S es ep).toList, lowInt e := fun e he => hl e ((walked_perm w S es ep).mem_iff.mp he)
  have hI := vals_low hlw
  have hkp : ((walked w S es ep).toList.map (·.1)).Perm (keysOf es).toList := by
    rw [keysOf, Array.toList_map]; exact (walked_perm w S es ep).map _
  have hlen : ((walked w S es ep).toList.map (·.2)).length < 64 := by rw [List.length_map, Array.length_toList, walked_size]; exact h64
  generalize (walked w S es ep).toList.map (·.2) = vs at hI hlen ⊢
  refine wpAny_bind (wpAny_newList ?_)
  have hoL : (h1.push (seqObj "list" vs.toArray 0)).get? h1.objs.size = some (seqObj "list" vs.toArray 0) := Heap.get?_push_size _ rfl
  refine wpAny_bind (wpAny_holding (wpAny_call_entry slot_list_sort ⟨_, hoL, rfl⟩ entry_list_sort (list_sort_tree hoL hI hlen fun out ns' a1 a2 a3 => ⟨_, rfl, ?_⟩) (args_list_sort _)))
  generalize hH2 : h1.push (seqObj "list" vs.toArray 0) = h2 at hoL ⊢
  have hs2 : h2.objs.size = h1.objs.size + 1 := by rw [← hH2, size_push']
  have hup : ∀ b o, s.heap.get? b = some o → h2.get? b = some o := fun b o e => hH2 ▸ Heap.get?_push_of_some _ (k1 b o e)
  have hend : ∃ c, (sortedHeap h2 h1.objs.size vs out).get? h1.objs.size = some (seqObj "list" out c) := by
    unfold sortedHeap
    have e1 := get?_update_seq hoL (fun _ => (#[] : Array Value))
    have hne1 : h1.objs.size ≠ (h2.update h1.objs.size (Obj.mapSeq fun _ => #[])).objs.size := by rw [Heap.size_update, hs2]; exact Nat.ne_of_lt (Nat.lt_succ_self _)
    have e2 := (Heap.get?_push_ne (h2.update h1.objs.size (Obj.mapSeq fun _ => #[])) _ (seqObj "tuple" vs.toArray 0) hne1).trans e1
    have hne2 : h1.objs.size ≠ ((h2.update h1.objs.size (Obj.mapSeq fun _ => #[])).push (seqObj "tuple" vs.toArray 0)).objs.size := by rw [size_push', Heap.size_update, hs2]; exact Nat.ne_of_lt (Nat.lt_succ_of_lt (Nat.lt_succ_self _))
    have e3 := (Heap.get?_push_ne ((h2.update h1.objs.size (Obj.mapSeq fun _ => #[])).push (seqObj "tuple" vs.toArray 0)) _ (seqObj "list" #[] 0) hne2).trans e2
    exact ⟨_, get?_update_seq e3 (fun _ => out)⟩
  obtain ⟨c, hend⟩ := hend
  refine wpAny_pure ⟨_, rfl, h _ tk1 h1.objs.size out c ns' (fun b o e => ?_) z1 hend a1 (a2.trans hkp) a3⟩
  have hb : h1.objs.size ≠ b := Nat.ne_of_gt (Nat.lt_trans (Heap.lt_size e) z1)
  unfold sortedHeap
  exact (Heap.get?_update_other _ _ hb).trans (Heap.get?_push_of_some _ (Heap.get?_push_of_some _ ((Heap.get?_update_other _ _ hb).trans (hup b o e))))
end
end
section
/-! what one turn of _law_within asks of a set -/
def preOf (n i : Nat) : Nat := n / 2 ^ ((bitsF 7 n).length - (i + 1))
def preGood (n i : Nat) : Bool := decide (preOf n i < 65) && (((bitsF 7 n).reverse.take i) == (bitsF 7 (preOf n i / 2)).reverse) && ((bitsF 7 n).reverse.getD i 0 == preOf n i % 2) && (((bitsF 7 n).reverse.take (i + 1)) == (bitsF 7 (preOf n i)).reverse)
theorem pre_all : ∀ n, n < 65 → ∀ i, i < (bitsF 7 n).length → preGood n i = true := by decide +kernel
def askedN (ws : List Nat) (b : Nat) : List Nat := ws ++ ws.map fun o => 2 * o + b
theorem low_all : ∀ n, n < 65 → (askedN (withinS (bitsF 7 (n / 2)).reverse) (n % 2)).all (fun x => Nat.blt x 1000000) = true := by decide +kernel
theorem withinS_snoc (l : List Nat) (b : Nat) : withinS (l ++ [b]) = sd (askedN (withinS l) b) := by
  unfold withinS; rw [List.foldl_append]; rfl
theorem setK_perm (b : Bool) (ns : List Nat) : (setK b (ns.map Int.ofNat)).1.toList.Perm ((sd ns).map Int.ofNat) := by
  have hs : ((sd ns).map Int.ofNat).Pairwise (· < ·) := by
    rw [List.pairwise_map]
    exact (sd_strict ns).imp fun {a b} h => Int.ofNat_lt.mpr h
  refine (List.perm_ext_iff_of_nodup (setK_nodup ..) (hs.imp fun {a b} h => by omega)).mpr fun k => ?_
  rw [setK_mem, List.mem_map, List.mem_map]
  exact ⟨fun ⟨a, ha, e⟩ => ⟨a, (sd_mem ns a).mpr ha, e⟩, fun ⟨a, ha, e⟩ => ⟨a, (sd_mem ns a).mp ha, e⟩⟩
structure StepFact (w : World) (ns rs : List Nat) : Prop where
  low : ∀ n ∈ ns, n < 1000000
  len : ns.length + 1 < scanBound
  good : walkGood w (setK (ledOf w) (ns.map Int.ofNat)).2
  few : ∀ es : Array (Int × Value), keysOf es = (setK (ledOf w) (ns.map Int.ofNat)).1 → es.size < 64
  gives : sd ns = rs
theorem step_fact {n i : Nat} (w : World) (hn : n < 65) (hi : i < (bitsF 7 n).reverse.length) :
    StepFact w (askedN (withinS ((bitsF 7 n).reverse.take i)) ((bitsF 7 n).reverse.getD i 0)) (withinS ((bitsF 7 n).reverse.take (i + 1))) ∧ (withinS ((bitsF 7 n).reverse.take i)).length < 60 := by
  rw [List.length_reverse] at hi
  have hp := pre_all n hn i hi
  unfold preGood at hp
  simp only [Bool.and_eq_true, beq_iff_eq, decide_eq_true_eq] at hp
  obtain ⟨⟨⟨hm, h1⟩, h2⟩, h3⟩ := hp
  generalize preOf n i = m at hm h1 h2 h3
  have hml : m / 2 < 65 := by omega
  have hlen : (withinS (bitsF 7 (m / 2)).reverse).length < 60 := fact_len hml
  have hlen2 : (withinS (bitsF 7 m).reverse).length < 60 := fact_len hm
  have hsn : withinS ((bitsF 7 n).reverse.take (i + 1)) = sd (askedN (withinS ((bitsF 7 n).reverse.take i)) ((bitsF 7 n).reverse.getD i 0)) := by
    have hi' : i < (bitsF 7 n).reverse.length := by rw [List.length_reverse]; exact hi
    rw [← withinS_snoc, List.take_succ_eq_append_getElem hi']
    rw [List.getD_eq_getElem?_getD, List.getElem?_eq_getElem hi']
    rfl
  refine ⟨⟨?_, ?_, ?_, ?_, hsn.symm⟩, by rw [h1]; exact hlen⟩
  · rw [h1, h2]
    have := low_all m hm
    rw [List.all_eq_true] at this
    exact fun x hx => Nat.blt_eq.mp (this x hx)
  · rw [h1, askedN, List.length_append, List.length_map]; unfold scanBound; omega
  · rw [h1, h2]
    unfold walkGood
    cases ht : w.params.followText "set-order" with
    | true => exact .inl rfl
    | false =>
      refine .inr ⟨rfl, ?_⟩
      have hl : ledOf w = true := by unfold ledOf; rw [ht]; rfl
      rw [hl]
      have := setGood_all m hm
      unfold setGood at this
      simp only [Bool.and_eq_true, beq_iff_eq] at this
      exact ⟨this.1.2, this.1.1, this.2⟩
  · intro es he
    have hz : es.size = (setK (ledOf w) ((askedN (withinS ((bitsF 7 n).reverse.take i)) ((bitsF 7 n).reverse.getD i 0)).map Int.ofNat)).1.toList.length := by
      rw [← he, Array.length_toList, keysOf_size]
    rw [hz, (setK_perm _ _).length_eq, List.length_map, ← hsn, h3]
    omega
section
variable {prog : Program} {w : World} {A : Around} {E : Value → Shared → Prop} {s : Shared} {h₀ : Heap} {L : Addr} {m : Str → Option Value} {news : List (Addr × Obj)}
/-- sorted(set) on the ledger -/
theorem sortedSet_N {S : Addr} {es : Array (Int × Value)} {ep : Nat} {t : SetTable} {ns rs : List Nat} {Q : Value → Shared → Prop} (F : Fr h₀ L s.heap m) (N : News h₀ L s.heap news) (hS : (S, setOb es ep t) ∈ news) (hh : A.handled = none)
    (sf : StepFact w ns rs) (ht : t = (setK (ledOf w) (ns.map Int.ofNat)).2) (hk : keysOf es = (setK (ledOf w) (ns.map Int.ofNat)).1) (hf : t.fits es.size = true) (hl : ∀ e ∈ es.toList, lowInt e)
    (h : ∀ h' (tk : Nat) (a : Addr) (vs : List Value) (c : Nat), Fr h₀ L h' m → News h₀ L h' ((a, W.listOf vs.toArray c) :: news) → (∀ p ∈ news, @LT.lt Nat _ p.1 a) → IntsAre vs (rs.map Int.ofNat) → Q (.ref a) { s with heap := h', toks := tk }) :
    wpAny (model prog w) A (call (.builtin "sorted") [.ref S]) Q E s := by
  subst ht
  refine sorted_set hh (N _ hS).1 hf sf.good hl (sf.few es hk) fun h' tk a out c ns' keep hlt ho hi hp hw => ?_
  rw [hk] at hp
  have e := sorted_is hp hw
  rw [sf.gives] at e
  rw [e] at hi
  obtain ⟨oL, _, _, hL, _⟩ := F.ns
  have hLlt : L < s.heap.objs.size := Heap.lt_size hL
  refine h h' tk a out.toList c (F.keeps keep) (fun p hp => ?_) (fun p hp => Nat.lt_trans (Heap.lt_size (N p hp).1) hlt) hi
  rcases List.mem_cons.mp hp with rfl | hp
  · refine ⟨by rw [ho], Nat.ne_of_gt (Nat.lt_trans hLlt hlt), ?_⟩
    cases hq : h₀.get? a with
    | none => rfl
    | some o' => exact absurd (Heap.lt_size (F.keep _ _ hq)) (Nat.not_lt.mpr (Nat.le_of_lt hlt))
  · exact ⟨keep _ _ (N p hp).1, (N p hp).2⟩
end
end
section
local macro_rules | `(tactic| walk_at "call ref") => `(tactic| with_reducible refine haltC ?_)
local macro_rules | `(tactic| walk_at "exec For") => `(tactic| refine Halt.of ?_)
local macro_rules | `(tactic| walk_at "pyIter ref") => `(tactic| refine Halt.of ?_)
local macro_rules | `(tactic| walk_at "eval ListComp") => `(tactic| refine Halt.of ?_)
local macro_rules | `(tactic| walk_at "CompSrc") => `(tactic| refine Halt.of ?_)
local macro_rules | `(tactic| walk_at "subscriptTail") => `(tactic| with_reducible refine haltSR ?_)
local macro_rules | `(tactic| walk_at "subscriptTail Name Slice ref ref") => `(tactic| refine Halt.of ?_)
local macro_rules | `(tactic| walk_at "binaryOp Add ref ref") => `(tactic| refine Halt.of ?_)
local macro_rules | `(tactic| walk_at "call type:set") => `(tactic| refine Halt.of ?_)
local macro_rules | `(tactic| walk_at "call builtin:sorted") => `(tactic| refine Halt.of ?_)
structure WiSt where
  i : Nat
  o : Obj
  W : Addr
  vs : List Value
  ep : Nat
  ow : Obj
theorem nw {a b : Addr} (h : @Ne Nat a b) : a ≠ b := h
section
variable {prog : Program} {w : World} {A : Around} {E : Value → Shared → Prop} {s : Shared} {h₀ : Heap} {L : Addr} {m : Str → Option Value} {news : List (Addr × Obj)}
theorem slice_list3T {value slice : Expr} {l : Addr} {items : Array Value} {vl vu vk : Value} {lo hi st : Option Int} {ops : List Value} {Q : Value → Shared → Prop}
    (F : Fr h₀ L s.heap m) (N : News h₀ L s.heap news) (hl : s.heap.IsList l items) (pl : IsPart vl lo) (pu : IsPart vu hi) (pk : IsPart vk st) (h0 : st ≠ some 0)
    (h : ∀ D h', Fr h₀ L h' m → News h₀ L h' ((D, W.listOf (slicePick items lo hi st) 0) :: news) → (∀ p ∈ news, @LT.lt Nat _ p.1 D) → Q (.ref D) { s with heap := h' })
    (hs : subscripted slice false (.ref l) (.ref s.heap.objs.size) = operate ops (getItem (.ref l) (.ref s.heap.objs.size)))
    (hsz : items.size ≤ sizeLine) :
    wpAny (model prog w) A (subscriptTail value slice (.ref l) (.ref s.heap.objs.size)) Q E { s with heap := s.heap.push { cls := .type "slice", data := .fields #[vl, vu, vk] } } := by
  generalize hH : s.heap.push { cls := .type "slice", data := .fields #[vl, vu, vk] } = H
  have up : ∀ b o, s.heap.get? b = some o → H.get? b = some o := fun b o e => hH ▸ Heap.get?_push_of_some _ e
  have hl' : H.IsList l items := by obtain ⟨o, ho, r⟩ := hl; exact ⟨o, up _ _ ho, r⟩
  have hT : Shared.TypeIs { s with heap := H } (.ref l) "list" := Heap.IsList.typeIs (s := { s with heap := H }) hl'
  have hgi : wpAny (model prog w) A (getItem (.ref l) (.ref s.heap.objs.size)) Q E { s with heap := H } := by
    subst hH
    refine wpAny_getItem_list_slice hl' (Heap.IsSliceOf.new ..) pl pu pk h0 ?_ hsz
    refine h _ _ ((F.push _).push _) (News.push (F.push _) (N.grown fun _ _ e => Heap.get?_push_of_some _ e) _) fun p hp => ?_
    rw [Heap.size_push]
    exact Nat.lt_succ_of_lt (Heap.lt_size (N p hp).1)
  unfold subscriptTail
  refine wpAny_bind ?_
  rw [getitemInPython_of_ne hT.not_modules]
  refine wpAny_bind (wpAny_specialOf hT list_getitem_lookup ?_)
  have fin : wpAny (model prog w) A (subscripted slice false (.ref l) (.ref s.heap.objs.size)) (fun r s₃ => wpAny (model prog w) A (letTemporaryGo value (.ref l) r >>= fun _ => pure r) Q E s₃) E { s with heap := H } := by
    rw [hs]
    exact wpAny_operating (wpAny_mono hgi (fun r s₃ h₃ => wpAny_bind (wpAny_letTemporaryGo (wpAny_pure h₃))) fun _ _ x => x)
  first
    | exact wpAny_pure (wpAny_bind fin)
    | exact wpAny_bind (wpAny_pure (wpAny_bind fin))
    | exact wpAny_bind fin
end
theorem rev_all : ∀ n, n < 65 → pickNums ((bitsF 7 n).map Int.ofNat) none none (some (-1)) = ((bitsF 7 n).reverse).map Int.ofNat := by decide +kernel
theorem bitsOf_7 {n : Nat} (h : n < 65) : bitsOf n = bitsF 7 n := bitsOf_F 7 n (by omega)
theorem bitsOf_length_le {n : Nat} (h : n < 65) : (bitsOf n).length ≤ 7 := by rw [bitsOf_7 h]; exact bitsF_length 7 n
theorem rev_at {n : Nat} {vs : List Value} (h : n < 65) (hi : IntsAre vs ((bitsOf n).map Int.ofNat)) : IntsAre (slicePick vs.toArray none none (some (-1))).toList ((bitsF 7 n).reverse.map Int.ofNat) := by
  rw [bitsOf_7 h] at hi
  rw [← rev_all n h]
  exact hi.pick none none (some (-1))
theorem within_spec {w : World} {mg mb : Str → Option Value} {p : Program} {loose : List Str} {mean : ExcName → Option Value} {dp un : Nat} {gd : Option (List Code)} {cn : Str} {cs : Scope} {a : Addr} {ccd : Value} {cl : List (Str × Addr)} {outer : List Env} {A₀ : Around} {base h₀ : Heap} {L : Addr} {m : Str → Option Value} {s : Shared} {Q E : Value → Shared → Prop} {rest : List (Addr × Obj)} {nN : Nat} {tx : Tok}
  (B : Below A₀ base outer h₀) (F : Fr h₀ L s.heap m) (X : (hd1.heap_39 w.params).In h₀) (N : News h₀ L s.heap rest) (T : Top p loose mean mg mb h₀) (hk : cs.kind = .function) (hd : dp + 100 < recursionLimit) (hu : un + 900 < cLine)
  (hn : nN < 65) (ret : ∀ I vs ep h' tk', Fr h₀ L h' m → News h₀ L h' ((I, W.listOf (vs).toArray ep) :: rest) → IntsAre vs ((resL nN).map Int.ofNat) → (∀ p ∈ rest, @LT.lt Nat _ p.1 I) → Q (.ref I) { s with heap := h', toks := tk' }) :
  wpAny (model PySem.Challenge.pw_pg0212_01 w) (ktrTop dp un gd cn cs L a ccd cl outer) (call (.ref 141) [.int (nN : Int) tx]) Q E s := by
  refine wpAny_call ?_
  k_dflt (first
  | cell_enter
  | (refine' code_def ?k1 ?k2 ?k3 ?k4 ?k5 ?kA ?kF ?kK ?k6 ?k7 ?k8 ?k9 ?kB ?_ ?c2 ?c3 ?c4 ?c5; (case kA => exact rfl); (case kF => exact rfl); (case kK => first | assumption | exact rfl); (case k1 => k_asm); (case k2 => k_asm); (case k3 => k_asm); (case k4 => k_asm); (case k5 => k_asm); (case k6 => k_is); (case k7 => k_is); (case k8 => ktr_room); (case k9 => first | exact BindsTo.of_eq rfl | exact binds_K (by k_in) rfl (by k_is) rfl rfl rfl | fail "k_enter: no rule for these arguments"); (case c5 => decide); (case kB => exact locs rfl); (case c2 => exact rfl); (case c3 => exact rfl); (case c4 => exact rfl); k_whole; intro g' L' h' FG' F' N' B' X' T'; (try dsimp only); (try k_lift B'); (try k_fold))
  | (refine' code_defC ?k1 ?k2 ?k3 ?k4 ?k5 ?kA ?kF ?kK ?k6 ?k7 ?k8 ?k9 ?kB ?kD ?_ ?c2 ?c3 ?c4; (case kA => exact rfl); (case kF => exact rfl); (case kK => first | assumption | exact rfl); (case k1 => k_asm); (case k2 => k_asm); (case k3 => k_asm); (case k4 => k_asm); (case k5 => k_asm); (case k6 => k_is); (case k7 => k_is); (case k8 => ktr_room); (case k9 => first | exact BindsTo.of_eq rfl | exact binds_K (by k_in) rfl (by k_is) rfl rfl rfl | fail "k_enter: no rule for these arguments"); (case kB => exact rfl); (case kD => decide +kernel); (case c2 => exact rfl); (case c3 => exact rfl); (case c4 => exact rfl); k_whole; intro g9 L9 h9 tk9 cells9 FG9 F9 N9 Y9 B9 X9 T9 l9; (try k_lt l9); k_cells Y9; (try simp only [List.cons_append, List.nil_append] at N9); (try dsimp only); (try k_lift B9); (try k_fold)))
  k_steps
  unfold Halt
  refine wpAny_For ?_
  k_steps
  unfold Halt
  rename_i o9 d9 _ _ l8 h8 _ l7 h7 F7 N7
  obtain ⟨t0, N6⟩ : ∃ t0, News g9 L9 h7 ((l8, W.listOf (List.toArray [Value.int 0 t0]) 0) :: (L9 + 1, o9) :: rest) := ⟨_, N7⟩
  clear N7
  refine' bits_spec (nN := nN) (rest := (l8, W.listOf (List.toArray [Value.int 0 t0]) 0) :: (L9 + 1, o9) :: rest) ?Bb ?Fb ?Xb ?Nb ?Tb ?hkb ?hdb ?hub (by omega) ?retb
  (case Bb => k_asm)
  (case Fb => k_asm)
  (case Xb => k_asm)
  (case Nb => k_asm)
  (case Tb => k_asm)
  (case hkb => exact rfl)
  (case hdb => (simp only [recursionLimit] at *; omega))
  (case hub => (simp only [cLine_is] at *; omega))
  intro I5 vs5 ep5 h5 tk5 F5 N5 iv5 lt5
  k_steps
  unfold Halt
  refine' slice_list3T (l := I5) (items := vs5.toArray) (lo := none) (hi := none) (st := some (-1)) F5 N5 ?lst5 ?pl5 ?pu5 ?pk5 (by decide) ?_ ?hs5 ?hz5
  case lst5 => exact PySem.IsL.isList (n := ep5) (N5 _ (.head _)).1
  case pl5 => kmk_part
  case pu5 => kmk_part
  case pk5 => kmk_part
  case hs5 => with_unfolding_all rfl
  case hz5 => (rw [List.size_toArray, iv5.length, List.length_map]; exact Nat.le_trans (bitsOf_length_le hn) (by rw [PySem.sizeLine_eq]; decide))
  intro D6 h6 F6 N6 l6
  have iv6 := rev_at hn iv5
  rw [show slicePick vs5.toArray none none (some (-1)) = (slicePick vs5.toArray none none (some (-1))).toList.toArray from (Array.toArray_toList ..).symm] at N6
  generalize (slicePick vs5.toArray none none (some (-1))).toList = vr6 at N6 iv6
  k_steps
  unfold Halt
  have hcw : ∃ v, o9.data = .cell v := ⟨_, d9⟩
  clear d9
  have rlt : ∀ p ∈ rest, @LT.lt Nat _ p.1 L9 := l9
  have l8L : @LT.lt Nat _ (L9 + 1) l8 := l7.1
  have l8I : @LT.lt Nat _ l8 I5 := lt5 (l8, _) (.head _)
  have lID : @LT.lt Nat _ I5 D6 := l6 (I5, _) (.head _)
  have N7 := cb_drop (news := (D6, W.listOf vr6.toArray 0) :: (l8, W.listOf (List.toArray [Value.int 0 t0]) 0) :: (L9 + 1, o9) :: rest) N6 (List.forall_mem_cons.mpr ⟨.head _, fun p hp => .tail _ (.tail _ hp)⟩)
  clear N6 lt5 l6 l7
  refine' li_make (D := D6) F6 N7 (.head _) ?_
  intro I o0 h7' F7' N7' lo7 l7
  have lI : @LT.lt Nat _ D6 I := l7 (D6, _) (.head _)
  clear l7
  (try dsimp only)
  have iv0 : IntsAre [Value.int 0 t0] ((withinS ((bitsF 7 nN).reverse.take 0)).map Int.ofNat) := .cons 0 t0 .nil
  obtain ⟨ls, hls⟩ : ∃ ls, (bitsF 7 nN).reverse = ls := ⟨_, rfl⟩
  have hsf := fun (i : Nat) (hi : i < (bitsF 7 nN).reverse.length) => step_fact w hn hi
  have hlen7 : ls.length ≤ 7 := by rw [← hls, List.length_reverse]; exact bitsF_length 7 nN
  have hres : resL nN = (withinS ls).drop 1 := by rw [← hls]; rfl
  rw [hls] at iv6 iv0 hsf
  have hvr : vr6.length = ls.length := by rw [iv6.length, List.length_map]
  refine' forI (L := _) (fun c : WiSt => (I, c.o) :: (D6, W.listOf vr6.toArray 0) :: (c.W, W.listOf c.vs.toArray c.ep) :: (L9 + 1, c.ow) :: rest) (fun c => [("within", .ref c.W)]) []
    (fun c => c.i ≤ ls.length ∧ LiAt c.o D6 c.i ∧ IntsAre c.vs ((withinS (ls.take c.i)).map Int.ofNat) ∧ (@LT.lt Nat _ (L9 + 1) c.W) ∧ (@Ne Nat c.W I) ∧ (@Ne Nat c.W D6) ∧ (∃ v, c.ow.data = .cell v))
    (fun c => ls.length - c.i) ⟨0, o0, l8, [Value.int 0 t0], 0, o9⟩ ?F9 ?N9 ?hk9 ?hr9 ?hp9 ?turn9
  (case F9 => exact F7')
  (case N9 => exact N7')
  (case hk9 => exact List.forall_mem_cons.mpr ⟨rfl, fun _ h => nomatch h⟩)
  (case hr9 => exact fun z _ _ => rfl)
  (case hp9 => exact ⟨Nat.zero_le _, lo7, iv0, l8L, Nat.ne_of_lt (Nat.lt_trans l8I (Nat.lt_trans lID lI)), Nat.ne_of_lt (Nat.lt_trans l8I lID), hcw⟩)
  intro c u h4 tk4 P4 F4 N4
  obtain ⟨hi4, lo4, iv4, lW4, nI4, nD4, ow4⟩ := P4
  by_cases hlast : c.i < ls.length
  · obtain ⟨sf4, hs60⟩ := hsf c.i hlast
    obtain ⟨to4, ho4⟩ : ∃ t, vr6[c.i]? = some (.int ((ls.getD c.i 0 : Nat) : Int) t) := by
      obtain ⟨t, e⟩ := iv6.get c.i ((ls.getD c.i 0 : Nat) : Int) (by rw [List.getElem?_map, List.getElem?_eq_getElem hlast, List.getD_eq_getElem?_getD, List.getElem?_eq_getElem hlast]; rfl)
      exact ⟨t, e⟩
    have neI : ∀ p ∈ rest, p.1 ≠ I := fun p hp => by have := rlt p hp; refine nw (Nat.ne_of_lt ?_); omega
    have neI2 : c.W ≠ I := nI4
    have neI3 : D6 ≠ I := nw (Nat.ne_of_lt lI)
    have neI4 : L9 + 1 ≠ I := nw (Nat.ne_of_lt (by omega))
    refine li_item (D := D6) F4 N4 (by k_updF) lo4 (by k_mem) ho4 (fun h5 o5 F5 N5 lo5 => ?_)
    (try dsimp only at N5 ⊢)
    clear hsf neI neI2 neI3 neI4
    obtain ⟨v4, hv4⟩ := ow4
    have neC : ∀ p ∈ rest, p.1 ≠ L9 + 1 := fun p hp => by have := rlt p hp; refine nw (Nat.ne_of_lt ?_); omega
    have neC2 : c.W ≠ L9 + 1 := nw (Nat.ne_of_gt lW4)
    have neC3 : D6 ≠ L9 + 1 := nw (Nat.ne_of_gt (by omega))
    have neC4 : I ≠ L9 + 1 := nw (Nat.ne_of_gt (by omega))
    generalize hws : withinS (ls.take c.i) = ws at sf4 iv4 hs60
    generalize hrs : withinS (ls.take (c.i + 1)) = rs at sf4
    generalize hbb : ls.getD c.i 0 = bb at sf4 ho4 ⊢
    k_steps
    unfold Halt
    rename Obj => oC4
    have hwl : c.vs.length = ws.length := by rw [iv4.length, List.length_map]
    k_dflt (refine' LCg.ListComp_U ?Fa (by with_unfolding_all rfl) (by decide) (by rfl) (by decide) (by rfl) ?_)
    (case Fa => k_asm)
    k_steps
    unfold Halt
    (try dsimp only [List.nil_append, List.append_nil, List.cons_append])
    refine' LCg.CompSrc.ledger (ax := c.W) (its := c.vs.toArray) (k := c.ep) rfl ?Fc ?Nc ?mc ?zc ?_
    (case Fc => k_asm)
    (case Nc => k_asm)
    (case mc => k_mem)
    (case zc => rw [List.size_toArray, hwl]; exact Nat.le_trans (Nat.le_of_lt hs60) (by rw [PySem.sizeLine_eq]; decide))
    intro g6
    refine' cr_rest (fun i y => ∃ t, y = Value.int ((2 * ws.getD i 0 + bb : Nat) : Int) t) ?turn1 ?fin1
    case turn1 =>
      intro i v I10 oI10 C10 oC10 D10 m10 ys10 h10 tk10 E10 hi10 hP10 hC10 hx10 F10 N10 off10 ne10
      rw [List.size_toArray, hwl] at hi10
      obtain ⟨ti10, hti10⟩ := iv4.get i ((ws.getD i 0 : Nat) : Int) (by rw [List.getElem?_map, List.getElem?_eq_getElem hi10, List.getD_eq_getElem?_getD, List.getElem?_eq_getElem hi10]; rfl)
      have hv : v = .int ((ws.getD i 0 : Nat) : Int) ti10 := by
        have hP : c.vs[i]? = some v := by simpa using hP10
        rw [hti10] at hP; exact (Option.some.inj hP).symm
      subst hv
      generalize ws.getD i 0 = x10 at hx10 ⊢
      k_steps
      refine LCg.CompEnd.intro F10 N10 _ (fun _ h => h) off10 ?_ ?_
      · exact .inr ⟨_, .tail _ (.tail _ (.head _)), rfl, _, rfl⟩
      · exact ⟨rfl, _, by rw [Int.natCast_add, Int.natCast_mul]; rfl⟩
    case fin1 =>
      intro ys11 hl11 hy11 D11 h11 tk11 F11 N11 of11
      have i11 := ints_of (g := fun i => ((2 * ws.getD i 0 + bb : Nat) : Int)) hl11 hy11
      rw [List.size_toArray, hwl] at i11
      have e11 : (List.range ws.length).map (fun i => ((2 * ws.getD i 0 + bb : Nat) : Int)) = (ws.map fun o => 2 * o + bb).map Int.ofNat := by
        apply List.ext_getElem
        · simp
        · intro i h1 h2
          simp at h1
          simp [h1]
      rw [e11] at i11
      clear e11
      k_steps
      unfold Halt
      refine' kmk_add_ints ?Fp ?Np ?ap ?bp iv4 i11 ?_ ?zp
      (case Fp => k_asm)
      (case Np => k_asm)
      (case ap => kmk_list)
      (case bp => kmk_list)
      (case zp => (simp only [PySem.sizeLine_eq, List.length_map]; omega))
      intro D12 vs12 h12 F12 N12 l12 i12
      k_lt l12
      rw [← List.map_append] at i12
      k_steps
      unfold Halt
      refine' newSet_E (l := D12) (items := vs12.toArray) (ns := askedN ws bb) ?Fs ?Ns rfl ?ls i12 sf4.low sf4.len ?_
      (case Fs => k_asm)
      (case Ns => k_asm)
      (case ls => kmk_list)
      intro h13 tk13 es13 ep13 F13 N13 hk13 hf13 hl13 hs13
      k_steps
      unfold Halt
      refine' sortedSet_N F13 N13 (.head _) rfl sf4 rfl hk13 hf13 hl13 ?_
      intro h14 tk14 a14 vs14 c14 F14 N14 l14 i14
      have q1 : @LT.lt Nat _ I a14 := l14 (I, o5) (by k_mem)
      have q2 : @LT.lt Nat _ D6 a14 := by omega
      have q3 : @LT.lt Nat _ (L9 + 1) a14 := by omega
      clear l14 l12
      k_steps
      refine' ksw_end (⟨c.i + 1, o5, a14, vs14, c14, oC4⟩ : WiSt) (by k_asm) (by k_asm) ?hn trivial ?hk ?hr ?hp ?hm
      case hn => exact List.forall_mem_cons.mpr ⟨by k_mem, List.forall_mem_cons.mpr ⟨by k_mem, List.forall_mem_cons.mpr ⟨by k_mem, List.forall_mem_cons.mpr ⟨by k_mem, fun p hp => by (repeat (first | exact hp | refine List.Mem.tail _ ?_))⟩⟩⟩⟩
      case hk => exact List.forall_mem_cons.mpr ⟨rfl, fun _ h => nomatch h⟩
      case hr => (intro z h2 h3; simp only [List.forall_mem_cons, List.not_mem_nil, false_implies, implies_true, and_true, ne_eq] at h2; simp [kstB, h2])
      case hp => exact ⟨hlast, lo5, hrs ▸ i14, q3, Nat.ne_of_gt q1, Nat.ne_of_gt q2, _, by assumption⟩
      case hm => (dsimp only; omega)
  · have hend : c.i = ls.length := Nat.le_antisymm hi4 (Nat.not_lt.mp hlast)
    rw [hend, List.take_length] at iv4
    have neI : ∀ p ∈ rest, p.1 ≠ I := fun p hp => by have := rlt p hp; refine nw (Nat.ne_of_lt ?_); omega
    refine li_end (D := D6) rfl F4 N4 (by k_mem) lo4 (by k_mem) (by rw [hvr]; exact Nat.not_lt.mp hlast) (nx := (c.W, W.listOf c.vs.toArray c.ep) :: (L9 + 1, c.ow) :: rest) (fun p hp => .tail _ (.tail _ hp)) (List.forall_mem_cons.mpr ⟨nI4, List.forall_mem_cons.mpr ⟨nw (Nat.ne_of_lt (by omega)), neI⟩⟩) (fun h5 F5 N5 => ?_)
    (try dsimp only)
    obtain ⟨wl, hwl⟩ : ∃ wl, withinS ls = wl := ⟨_, rfl⟩
    have hle : wl.length ≤ sizeLine := by
      have h60 := fact_len hn
      rw [hls, hwl] at h60
      exact Nat.le_trans (Nat.le_of_lt h60) (by rw [PySem.sizeLine_eq]; decide)
    rw [hwl] at iv4 hres
    k_steps
    unfold Halt
    refine' slice_list3T (l := c.W) (items := c.vs.toArray) (lo := some 1) (hi := none) (st := none) F5 N5 ?lst6 ?pl6 ?pu6 ?pk6 (by decide) ?_ ?hs6 ?hz6
    case lst6 => exact PySem.IsL.isList (n := c.ep) (N5 _ (.head _)).1
    case pl6 => kmk_part
    case pu6 => kmk_part
    case pk6 => kmk_part
    case hs6 => with_unfolding_all rfl
    case hz6 => (rw [List.size_toArray, iv4.length, List.length_map]; exact hle)
    intro D16 h16 F16 N16 l16
    have iv16 := kmk_from iv4 (x := 1) (by decide)
    rw [show slicePick c.vs.toArray (some 1) none none = (slicePick c.vs.toArray (some 1) none none).toList.toArray from (Array.toArray_toList ..).symm] at N16
    generalize (slicePick c.vs.toArray (some 1) none none).toList = vs16 at N16 iv16
    have e16 : ((wl.map Int.ofNat).drop (1 : Int).toNat) = (resL nN).map Int.ofNat := by rw [hres, List.map_drop]; rfl
    rw [e16] at iv16
    have q16 : ∀ p ∈ rest, @LT.lt Nat _ p.1 D16 := fun p hp => l16 p (.tail _ (.tail _ hp))
    clear l16 e16
    k_steps
    refine ret _ vs16 0 _ _ (by k_asm) ?_ iv16 q16
    exact cb_drop (by k_asm) (List.forall_mem_cons.mpr ⟨.head _, fun p hp => .tail _ (.tail _ (.tail _ hp))⟩)
end
section
local macro_rules | `(tactic| walk_at "call builtin:len") => `(tactic| (k_here; k_dflt (refine' len_L ?N ?m ?f ?_; (case N => k_asm); (case m => k_mem); (case f => omega); k_whole)))
local macro_rules | `(tactic| walk_at "compareOp NotEq ref ref") => `(tactic| refine Halt.of ?_)
local macro_rules | `(tactic| walk_at "call builtin:list.append") => `(tactic| refine Halt.of ?_)
local macro_rules | `(tactic| walk_at "subscriptTail") => `(tactic| with_reducible refine haltSI ?_)
local macro_rules | `(tactic| walk_at "CompSrcT") => `(tactic| refine Halt.of ?_)
local macro_rules | `(tactic| walk_at "eval ListComp") => `(tactic| ((with_reducible show wpAny _ _ (eval (Expr.ListComp (Expr.Name (Str.ofString "other") _) _ _ _) _) _ _ _); refine Halt.of ?_))
local macro_rules | `(tactic| walk_at "call ref") => `(tactic| with_reducible refine haltC ?_)
local macro_rules | `(tactic| walk_at "CompSrc") => `(tactic| refine Halt.of ?_)
local macro_rules | `(tactic| walk_at "exec For Name List cons nil") => `(tactic| refine Halt.of ?_)
local macro_rules | `(tactic| walk_at "pyIter ref") => `(tactic| refine Halt.of ?_)
local macro_rules | `(tactic| walk_at "call type:list") => `(tactic| refine Halt.of ?_)
local macro_rules | `(tactic| walk_at "binaryOp Add ref ref") => `(tactic| refine Halt.of ?_)
theorem prog_one : PySem.Challenge.rw_pg0212_01.row.prog = PySem.Challenge.pw_pg0212_01 := rfl
theorem sgA_of {vs : List Value} {ws : List Str} (h : StrsAre vs ws) : SgA vs ws := by
  induction h with
  | nil => exact .nil
  | cons y t _ ih => exact .cons ih
theorem sgs_one (l : List Nat) : ∀ c ∈ sgs l, c.length = 1 := fun c hc => by
  obtain ⟨z, _, rfl⟩ := List.mem_map.mp hc
  rfl
abbrev pairO (a b : Nat) (t u : Tok) : Obj := { cls := .type "tuple", data := .seq #[.int ((a : Nat) : Int) t, .int ((b : Nat) : Int) u] }
/-- the refs of counts, the tuples that they are, the numbers -/
inductive CtA : List Value → List (Addr × Obj) → List (Nat × Nat) → Prop
  | nil : CtA [] [] []
  | snoc {vs : List Value} {tu : List (Addr × Obj)} {cs : List (Nat × Nat)} {D : Addr} {a b : Nat} {t u : Tok} : CtA vs tu cs → CtA (vs ++ [.ref D]) ((D, pairO a b t u) :: tu) (cs ++ [(a, b)])
theorem CtA.length {vs : List Value} {tu : List (Addr × Obj)} {cs : List (Nat × Nat)} (h : CtA vs tu cs) : vs.length = cs.length := by
  induction h with
  | nil => rfl
  | snoc _ ih => rw [List.length_append, List.length_append, ih]; rfl
theorem ctA_nil {vs : List Value} {tu : List (Addr × Obj)} (h : CtA vs tu []) : vs = [] ∧ tu = [] := by
  generalize hl : ([] : List (Nat × Nat)) = l at h
  cases h with
  | nil => exact ⟨rfl, rfl⟩
  | snoc h => exact absurd hl (by simp)
theorem tabD_mem {td : List (Addr × Obj)} (h : TabD2 td) : ∃ ps, (44, tabObj ps) ∈ td := by
  cases h
  · exact ⟨_, .head _⟩
  · exact ⟨_, .head _⟩
theorem tabI_mem {tb : List (Addr × Obj)} (h : TabI2 tb) : ∃ ps, (37, tabObj ps) ∈ tb := by
  cases h
  · exact ⟨_, .head _⟩
  · exact ⟨_, .head _⟩
theorem ctA_two {vs : List Value} {tu : List (Addr × Obj)} {x y : Nat × Nat} (h : CtA vs tu [x, y]) : ∃ D0 D1 t0 u0 t1 u1, vs = [.ref D0, .ref D1] ∧ tu = [(D1, pairO y.1 y.2 t1 u1), (D0, pairO x.1 x.2 t0 u0)] := by
  generalize hl : [x, y] = l at h
  cases h with
  | nil => cases hl
  | snoc h =>
    rename_i cs D a b t u
    have e : cs = [x] ∧ (a, b) = y := by
      match cs, hl with
      | [], hl => cases hl
      | [z], hl => injection hl with h1 h2; injection h2 with h2 _; exact ⟨by rw [h1], h2.symm⟩
      | _ :: _ :: [], hl => cases hl
      | _ :: _ :: _ :: _, hl => cases hl
    obtain ⟨e1, e2⟩ := e
    subst e1 e2
    generalize hl2 : [x] = l2 at h
    cases h with
    | nil => cases hl2
    | snoc h =>
      rename_i cs2 D2 a2 b2 t2 u2
      have e : cs2 = [] ∧ (a2, b2) = x := by
        match cs2, hl2 with
        | [], hl2 => injection hl2 with h1 _; exact ⟨rfl, h1.symm⟩
        | _ :: [], hl2 => cases hl2
        | _ :: _ :: _, hl2 => cases hl2
      obtain ⟨e1, e2⟩ := e
      subst e1 e2
      obtain ⟨e3, e4⟩ := ctA_nil h
      subst e3 e4
      exact ⟨D2, D, t2, u2, t, u, rfl, rfl⟩
structure LaSt where
  i : Nat
  o : Obj
  cts : List Value
  ce : Nat
  vs : List Value
  ln : Int
  n5 : Tok
  ep : Nat
  ep2 : Nat
  tb : List (Addr × Obj)
  td : List (Addr × Obj)
  tu : List (Addr × Obj)
def cntOf (n : Nat) : Nat × Nat := (cntOdd (resL n), (resL n).length - cntOdd (resL n))
set_option maxHeartbeats 4000000 in
theorem law_one : PySem.Challenge.rw_pg0212_01.Holds := hd1 (by
  k_go0
  (all_goals try k_fold)
  k_steps
  (rename World => wd)
  (rename List Int => scr)
  (rename Obj.data _ = Data.cell (some (Value.str _ _)) => hp7)
  (rename IntsAre _ (List.take 7 _) => hI7)
  (rename News _ _ _ _ => N7)
  (rename Fr _ _ _ _ => F7)
  (rename CodeHd _ 48 44 => CD)
  (rename CodeHd _ 123 119 => CR)
  (rename CodeHd _ 41 37 => CI)
  rename_i h6 o6 D7 vs7 h7 _ hC7 hL7 l7
  (rename Shared => s1)
  obtain ⟨nN, hnum, hn1, hn63⟩ := num_fact scr.sum
  obtain ⟨c0, c1, hpe, hc01, h460, h461⟩ := pair_fact scr.sum
  rw [hpe] at hp7
  have h7l : vs7.length ≤ 7 := by rw [hI7.length, hC7]; omega
  unfold Halt
  rw [prog_one]
  refine' LCg.CompSrc.ledger (ax := D7) (its := vs7.toArray) (k := 0) rfl ?Fa ?Na ?ma ?za ?_
  (case Fa => k_asm)
  (case Na => k_asm)
  (case ma => k_mem)
  (case za => rw [List.size_toArray]; exact fits4000' (by omega))
  intro g8
  refine' cr_rest (fun i y => ∃ u t, y = Value.str u t ∧ NoiseOk (⟨#[c0, c1]⟩ : Str) u) ?turna ?fina
  case turna =>
    intro i v I10 oI10 C10 oC10 D10 m10 ys10 h10 tk10 E10 hi10 hP10 hC10 hx10 F10 N10 off10 ne10
    obtain ⟨k10, t10, hv10, hk10⟩ := IntsAre.at hI7 i v (by simpa using hP10)
    subst hv10
    k_steps
    unfold Halt
    refine' noise_spec ?Bb ?Fb ?Xb ?Nb ?Tb ?hkb ?hdb ?hub ?retb
    (case Bb => k_asm)
    (case Fb => k_asm)
    (case Xb => k_asm)
    (case Nb => k_asm)
    (case Tb => k_asm)
    (case hkb => exact rfl)
    (case hdb => decide +kernel)
    (case hub => decide +kernel)
    intro u11 h11 tk11 t11 F11 N11 no11
    refine LCg.CompEnd.intro F11 N11 _ (fun _ h => h) off10 ?_ ?_
    · exact .inr ⟨_, by k_mem, rfl, _, rfl⟩
    · exact ⟨rfl, _, _, rfl, no11⟩
  case fina =>
    intro ys11 hl11 hy11 D11 h11 tk11 F11 N11 of11
    obtain ⟨ns11, sa11, sl11, sp11⟩ := strs_ex hl11 hy11
    k_steps
    unfold Halt
    (rename News _ _ _ _ => N12)
    (rename Fr _ _ _ _ => F12)
    obtain ⟨t7, N13⟩ : ∃ t7, News _ _ _ ((_, W.listOf (List.toArray [Value.str ("" : Str) t7, Value.str ("" : Str) t7, Value.str ("" : Str) t7, Value.str ("" : Str) t7, Value.str ("" : Str) t7, Value.str ("" : Str) t7, Value.str ("" : Str) t7]) 0) :: _) := ⟨_, N12⟩
    clear N12
    refine' al_lists F12 N13 (vs := ys11) (ws := [Value.str ("" : Str) t7, Value.str ("" : Str) t7, Value.str ("" : Str) t7, Value.str ("" : Str) t7, Value.str ("" : Str) t7, Value.str ("" : Str) t7, Value.str ("" : Str) t7]) (c1 := ys11.length) (c2 := 0) ?la ?lb ?_ ?lz
    (case la => k_mem)
    (case lb => k_mem)
    (case lz => exact fits4000' (by rw [hl11, List.size_toArray]; show vs7.length + 7 ≤ 4000; omega))
    intro K h14 F14 N14 l14
    have sa14 := strs_app sa11 (StrsAre.cons ("" : Str) t7 (StrsAre.cons ("" : Str) t7 (StrsAre.cons ("" : Str) t7 (StrsAre.cons ("" : Str) t7 (StrsAre.cons ("" : Str) t7 (StrsAre.cons ("" : Str) t7 (StrsAre.cons ("" : Str) t7 StrsAre.nil)))))))
    obtain ⟨ns, hns⟩ : ∃ ns, ns11 ++ [("" : Str), ("" : Str), ("" : Str), ("" : Str), ("" : Str), ("" : Str), ("" : Str)] = ns := ⟨_, rfl⟩
    obtain ⟨nv, hnv⟩ : ∃ nv, ys11 ++ [Value.str ("" : Str) t7, Value.str ("" : Str) t7, Value.str ("" : Str) t7, Value.str ("" : Str) t7, Value.str ("" : Str) t7, Value.str ("" : Str) t7, Value.str ("" : Str) t7] = nv := ⟨_, rfl⟩
    rw [hns, hnv] at sa14
    rw [hnv] at N14
    have hns7 : 7 ≤ ns.length := by rw [← hns, List.length_append]; show 7 ≤ ns11.length + 7; omega
    have hnok : ∀ u ∈ ns, NoiseOk (⟨#[c0, c1]⟩ : Str) u := by
      rw [← hns]; intro u hu
      rcases List.mem_append.mp hu with h | h
      · exact sp11 u h
      · left
        simp only [List.mem_cons, List.not_mem_nil, or_false] at h
        rcases h with h | h | h | h | h | h | h <;> exact h
    have hns1 : ∀ u ∈ ns, u.length ≤ 1 := fun u hu => by
      rcases hnok u hu with h | ⟨c, h, _⟩
      · rw [h]; exact Nat.zero_le _
      · rw [h]; exact Nat.le_refl 1
    have lKc := l14 (s1.heap.objs.size + 1, o6) (by k_mem)
    (rename 44 < s1.heap.objs.size ∧ _ => l0)
    have N15 := cb_drop (news := (37, tabObj #[]) :: (K, W.listOf nv.toArray 0) :: (44, tabObj #[]) :: (119, tabObj #[]) :: (s1.heap.objs.size + 1, o6) :: []) N14 (List.forall_mem_cons.mpr ⟨by k_mem, List.forall_mem_cons.mpr ⟨by k_mem, List.forall_mem_cons.mpr ⟨by k_mem, List.forall_mem_cons.mpr ⟨by k_mem, List.forall_mem_cons.mpr ⟨by k_mem, fun _ h => nomatch h⟩⟩⟩⟩⟩)
    clear N13 N14 l14
    k_steps
    unfold Halt
    rw [hnum]
    refine' file_spec (tb := [(37, tabObj #[])]) (vs := nv) (ep := 0) (rest := (44, tabObj #[]) :: (119, tabObj #[]) :: (s1.heap.objs.size + 1, o6) :: []) ?Bf ?Ff ?Xf ?Nf ?Tf ?hkf ?hdf ?huf sa14 hns7 hns1 hc01 (by omega) .nil CI ?djf ?retf
    (case Bf => k_asm)
    (case Ff => k_asm)
    (case Xf => k_asm)
    (case Nf => k_asm)
    (case Tf => k_asm)
    (case hkf => exact rfl)
    (case hdf => decide +kernel)
    (case huf => decide +kernel)
    case djf =>
      intro p hp
      rw [List.mem_singleton.mp hp]
      exact List.forall_mem_cons.mpr ⟨by refine neN ?_; dsimp only at *; omega, List.forall_mem_cons.mpr ⟨by decide, List.forall_mem_cons.mpr ⟨by decide, List.forall_mem_cons.mpr ⟨by refine neN ?_; dsimp only at *; omega, fun _ h => nomatch h⟩⟩⟩⟩
    intro T t16 tb16 h16 tk16 F16 N16 hT hTl ti16 dj16 dk16
    k_steps
    unfold Halt
    refine' ls_list rfl ?Fg ?Ng ?_ (fits4000' (by omega))
    (case Fg => k_asm)
    (case Ng => k_asm)
    intro S vs17 ep17 h17 tk17 F17 N17 st17 l17
    have lSK := l17 (K, W.listOf nv.toArray 0) (by k_mem)
    have lSt : ∀ p ∈ tb16, @LT.lt Nat _ p.1 S := fun p hp => l17 p (.tail _ (List.mem_append.mpr (.inl hp)))
    clear l17
    have N18 := cb_drop (news := (119, tabObj #[]) :: (S, W.listOf vs17.toArray ep17) :: (44, tabObj #[]) :: (s1.heap.objs.size + 1, o6) :: tb16) N17 (List.forall_mem_cons.mpr ⟨.tail _ (.tail _ (List.mem_append.mpr (.inr (by k_mem)))), List.forall_mem_cons.mpr ⟨by k_mem, List.forall_mem_cons.mpr ⟨.tail _ (.tail _ (List.mem_append.mpr (.inr (by k_mem)))), List.forall_mem_cons.mpr ⟨.tail _ (.tail _ (List.mem_append.mpr (.inr (by k_mem)))), fun p hp => .tail _ (.tail _ (List.mem_append.mpr (.inl hp)))⟩⟩⟩⟩)
    clear N17
    k_steps
    unfold Halt
    refine' reader_spec (S := S) (vs := vs17) (ep2 := ep17) (rest := (44, tabObj #[]) :: (s1.heap.objs.size + 1, o6) :: tb16) ?Bg ?Fg ?Xg ?Ng ?Tg ?hkg ?hdg ?hug CR ?djg ?dsg ?retg
    (case Bg => k_asm)
    (case Fg => k_asm)
    (case Xg => k_asm)
    (case Ng => k_asm)
    (case Tg => k_asm)
    (case hkg => exact rfl)
    (case hdg => decide +kernel)
    (case hug => decide +kernel)
    case djg => exact List.forall_mem_cons.mpr ⟨by decide, List.forall_mem_cons.mpr ⟨by refine neN ?_; dsimp only at *; omega, fun p hp => dj16 p hp (119, tabObj #[]) (by k_mem)⟩⟩
    case dsg => (dsimp only at *; omega)
    intro x dx pb dS fS r cr cS oc oS ocv toc fd nm qu ps bd sc dc pm ct n1 n2 n3 n4 n5 n6 n7 pt h19 tk19 F19 N19 hnd hoc hoc1 hoS o1 o2 o3 o4 o5x o6' o7 o8 l19
    have lc19 := l19 (s1.heap.objs.size + 1, o6) (by k_mem)
    have lt19 : ∀ p ∈ tb16, @LT.lt Nat _ p.1 cS := fun p hp => l19 p (.tail _ (.tail _ hp))
    have d44 : ∀ p ∈ tb16, p.1 ≠ 44 := fun p hp => dj16 p hp (44, tabObj #[]) (by k_mem)
    have l44 := l19 (44, tabObj #[]) (by k_mem)
    have dcl : ∀ p ∈ tb16, p.1 ≠ s1.heap.objs.size + 1 := fun p hp => dj16 p hp (s1.heap.objs.size + 1, o6) (by k_mem)
    clear l19
    k_steps
    (rename News _ _ _ _ => N20)
    (rename Fr _ _ _ _ => F20)
    rename_i h20 tk20 CT h20' _ l20 h20''
    obtain ⟨nz, hnz⟩ : ∃ nz, (ns.map fun u => u.cps.toList) = nz := ⟨_, rfl⟩
    rw [hnz] at hT
    have hnz1 : ∀ z ∈ nz, z.length ≤ 1 := by
      rw [← hnz]; intro z hz; obtain ⟨u, hu, rfl⟩ := List.mem_map.mp hz; exact hns1 u hu
    have hnzc : ∀ z ∈ nz, ∀ x ∈ z, x ≠ c0 ∧ x ≠ c1 := by
      rw [← hnz]; intro z hz; obtain ⟨u, hu, rfl⟩ := List.mem_map.mp hz; exact noise_ok (hnok u hu)
    rw [hT] at st17
    have sg17 := sgA_of st17
    have hTl' : (fileL c0 c1 nz [nN, nN + 1]).length ≤ 200 := by rw [← hT, ← length_toList]; exact hTl
    unfold Halt
    refine wpAny_For ?_
    k_steps
    unfold Halt
    (rename News _ _ _ _ => N21)
    (rename Fr _ _ _ _ => F21)
    rename_i l8 h21 _ l21
    rw [hnum] at N21
    obtain ⟨tn8, tn9, N22⟩ : ∃ a b, News _ _ _ ((l8, W.listOf (List.toArray [Value.int (nN : Int) a, Value.int ((nN : Int) + 1) b]) 0) :: _) := ⟨_, _, N21⟩
    clear N21
    have l8CT : @LT.lt Nat _ CT l8 := l21.1
    have pbCT : @LT.lt Nat _ pb CT := l20.1
    refine' li_make (D := l8) F21 N22 (.head _) ?_
    intro I o0 h23 F23 N23 lo23 l23
    have lI : @LT.lt Nat _ l8 I := l23 (l8, _) (.head _)
    clear l23 N22
    (try dsimp only)
    have hAll : ∀ a' ∈ [pb, x, dx, dS, fS, r, cr, cS, S, 119, s1.heap.objs.size + 1, CT, l8, I], a' = 119 ∨ a' = s1.heap.objs.size + 1 ∨ @LE.le Nat _ S a' := List.forall_mem_cons.mpr ⟨.inr (.inr (by omega)), List.forall_mem_cons.mpr ⟨.inr (.inr (by omega)), List.forall_mem_cons.mpr ⟨.inr (.inr (by omega)), List.forall_mem_cons.mpr ⟨.inr (.inr (by omega)), List.forall_mem_cons.mpr ⟨.inr (.inr (by omega)), List.forall_mem_cons.mpr ⟨.inr (.inr (by omega)), List.forall_mem_cons.mpr ⟨.inr (.inr (by omega)), List.forall_mem_cons.mpr ⟨.inr (.inr (by omega)), List.forall_mem_cons.mpr ⟨.inr (.inr (by omega)), List.forall_mem_cons.mpr ⟨.inl rfl, List.forall_mem_cons.mpr ⟨.inr (.inl rfl), List.forall_mem_cons.mpr ⟨.inr (.inr (by omega)), List.forall_mem_cons.mpr ⟨.inr (.inr (by omega)), List.forall_mem_cons.mpr ⟨.inr (.inr (by omega)), fun _ h => nomatch h⟩⟩⟩⟩⟩⟩⟩⟩⟩⟩⟩⟩⟩⟩
    refine' forI (L := _) (fun c : LaSt => ((I, c.o) :: (l8, W.listOf (List.toArray [Value.int (nN : Int) tn8, Value.int ((nN : Int) + 1) tn9]) 0) :: (CT, W.listOf c.cts.toArray c.ce) :: (pb, W.listOf ([]).toArray c.ep) :: (x, instObj 101 dx) :: (dx, (dictOf [{ hash := PyData.keyHash wd.params ("lineno" : Str), key := .str ("lineno" : Str) n1, val := .int c.ln c.n5 }, { hash := PyData.keyHash wd.params ("instream" : Str), key := .str ("instream" : Str) n2, val := .ref fS }, { hash := PyData.keyHash wd.params ("whitespace" : Str), key := .str ("whitespace" : Str) n3, val := .str (PySem.Str.ofString "\n\t\x0d ") n6 }, { hash := PyData.keyHash wd.params ("pushback" : Str), key := .str ("pushback" : Str) n4, val := .ref pb }] 4)) :: (dS, dictOf [{ hash := PyData.keyHash wd.params ("read" : Str), key := .str ("read" : Str) n7, val := .ref r }] 1) :: (fS, ({ cls := .type "function", dict := some dS, data := .func fd } : Obj)) :: (r, fnMade nm qu ps bd sc [(("signs" : Str), cS)] dc pm cr ct) :: (cr, oc) :: (cS, oS) :: (S, W.listOf (c.vs).toArray c.ep2) :: (119, tabObj pt) :: (s1.heap.objs.size + 1, o6) :: (c.td ++ (c.tb ++ c.tu)))) (fun c => []) ["place", "found", "odd"]
      (fun c => c.i ≤ 2 ∧ LiAt c.o l8 c.i ∧ SgA c.vs (sgs (fileL c0 c1 nz ([nN, nN + 1].drop c.i))) ∧ TabI2 c.tb ∧ TabD2 c.td ∧ (∀ p ∈ c.tb, ∀ a' ∈ [pb, x, dx, dS, fS, r, cr, cS, S, 119, s1.heap.objs.size + 1, CT, l8, I], p.1 ≠ a') ∧ (∀ p ∈ c.td, ∀ a' ∈ [pb, x, dx, dS, fS, r, cr, cS, S, 119, s1.heap.objs.size + 1, CT, l8, I], p.1 ≠ a') ∧ (∀ p ∈ c.tu, ∀ a' ∈ [pb, x, dx, dS, fS, r, cr, cS, S, 119, s1.heap.objs.size + 1, CT, l8, I], p.1 ≠ a') ∧ (∀ p ∈ c.tb, ∀ q ∈ c.td ++ c.tu, p.1 ≠ q.1) ∧ (∀ p ∈ c.td, ∀ q ∈ c.tu, p.1 ≠ q.1) ∧ CtA c.cts c.tu (([nN, nN + 1].take c.i).map cntOf))
      (fun c => 2 - c.i) ⟨0, o0, [], 0, vs17, 1, n5, 0, ep17, tb16, [(44, tabObj #[])], []⟩ ?F9 ?N9 ?hk9 ?hr9 ?hp9 ?turn9
    (case F9 => exact F23)
    (case N9 => exact cb_drop N23 (List.forall_mem_cons.mpr ⟨by k_mem, List.forall_mem_cons.mpr ⟨by k_mem, List.forall_mem_cons.mpr ⟨by k_mem, List.forall_mem_cons.mpr ⟨by k_mem, List.forall_mem_cons.mpr ⟨by k_mem, List.forall_mem_cons.mpr ⟨by k_mem, List.forall_mem_cons.mpr ⟨by k_mem, List.forall_mem_cons.mpr ⟨by k_mem, List.forall_mem_cons.mpr ⟨by k_mem, List.forall_mem_cons.mpr ⟨by k_mem, List.forall_mem_cons.mpr ⟨by k_mem, List.forall_mem_cons.mpr ⟨by k_mem, List.forall_mem_cons.mpr ⟨by k_mem, List.forall_mem_cons.mpr ⟨by k_mem, List.forall_mem_cons.mpr ⟨by k_mem, fun p hp => by (repeat (first | exact hp | (rw [List.append_nil] at hp) | refine List.Mem.tail _ ?_))⟩⟩⟩⟩⟩⟩⟩⟩⟩⟩⟩⟩⟩⟩⟩))
    (case hk9 => exact fun _ h => nomatch h)
    (case hr9 => exact fun z _ _ => rfl)
    case hp9 =>
      refine ⟨Nat.zero_le _, lo23, sg17, ti16, .nil, ?_, ?_, (fun _ h => nomatch h), ?_, (fun _ _ _ h => nomatch h), .nil⟩
      · intro p hp a' ha
        have h1 := lSt p hp
        rcases hAll a' ha with h | h | h
        · rw [h]; exact dj16 p hp (119, tabObj #[]) (by k_mem)
        · rw [h]; exact dcl p hp
        · refine neN ?_; omega
      · intro p hp a' ha
        rw [List.mem_singleton.mp hp]
        rcases hAll a' ha with h | h | h
        · rw [h]; decide
        · rw [h]; refine neN ?_; dsimp only at *; omega
        · refine neN ?_; dsimp only at *; omega
      · intro p hp q hq
        have hq' : q = (44, tabObj #[]) := by simpa using hq
        rw [hq']
        exact d44 p hp
    intro c u h4 tk4 P4 F4 N4
    obtain ⟨hi4, lo4, sg4, ti4, td4, atb, atd, atu, dtb, dtd, ct4⟩ := P4
    by_cases hlast : c.i < 2
    · obtain ⟨to4, ho4⟩ : ∃ t, [Value.int (nN : Int) tn8, Value.int ((nN : Int) + 1) tn9][c.i]? = some (.int ((nN + c.i : Nat) : Int) t) := by
        have : c.i = 0 ∨ c.i = 1 := by omega
        rcases this with e | e <;> rw [e]
        · exact ⟨_, rfl⟩
        · exact ⟨_, by rw [Int.natCast_add]; rfl⟩
      have hn65 : nN + c.i < 65 := by omega
      have hdrop : [nN, nN + 1].drop c.i = (nN + c.i) :: [nN, nN + 1].drop (c.i + 1) := by
        have : c.i = 0 ∨ c.i = 1 := by omega
        rcases this with e | e <;> rw [e] <;> rfl
      have htake : [nN, nN + 1].take (c.i + 1) = [nN, nN + 1].take c.i ++ [nN + c.i] := by
        have : c.i = 0 ∨ c.i = 1 := by omega
        rcases this with e | e <;> rw [e] <;> rfl
      have hRl : (fileL c0 c1 nz ([nN, nN + 1].drop c.i)).length ≤ 200 := by
        have : c.i = 0 ∨ c.i = 1 := by omega
        rcases this with e | e <;> rw [e]
        · exact hTl'
        · have h2 : fileL c0 c1 nz [nN, nN + 1] = oneL c0 c1 nz nN ++ fileL c0 c1 nz [nN + 1] := rfl
          rw [h2, List.length_append] at hTl'
          show (fileL c0 c1 nz [nN + 1]).length ≤ 200
          omega
      obtain ⟨RS, hRS⟩ : ∃ RS, fileL c0 c1 nz ([nN, nN + 1].drop (c.i + 1)) = RS := ⟨_, rfl⟩
      have hfile : fileL c0 c1 nz ([nN, nN + 1].drop c.i) = 34 :: (escL (wordL c0 c1 (msb (nN + c.i)) nz) ++ 34 :: (32 :: 92 :: c1 :: 32 :: RS)) := by
        rw [hdrop, fileL, hRS, oneL_app]
      have hRl2 : RS.length + 4 ≤ 200 := by
        rw [hfile, List.length_cons, List.length_append, List.length_cons, List.length_cons, List.length_cons, List.length_cons, List.length_cons] at hRl
        omega
      have neIall : ∀ p ∈ c.td ++ (c.tb ++ c.tu), p.1 ≠ I := List.forall_mem_append.mpr ⟨fun p hp => atd p hp I (by repeat (first | exact .head _ | refine .tail _ ?_)), List.forall_mem_append.mpr ⟨fun p hp => atb p hp I (by repeat (first | exact .head _ | refine .tail _ ?_)), fun p hp => atu p hp I (by repeat (first | exact .head _ | refine .tail _ ?_))⟩⟩
      have lI119 : @LT.lt Nat _ 119 I := by dsimp only at *; omega
      have lIc : @LT.lt Nat _ (s1.heap.objs.size + 1) I := by dsimp only at *; omega
      refine li_item (D := l8) F4 N4 (by k_updF) lo4 (by k_mem) ho4 (fun h5 o5 F5 N5 lo5 => ?_)
      (try dsimp only at N5 ⊢)
      k_steps
      (rename News _ _ _ _ => N5y)
      unfold Halt
      refine' found_spec (pd := []) (wsp := PySem.Str.ofString "\n\t\x0d ") (td := c.td) (rest := (I, o5) :: (l8, W.listOf (List.toArray [Value.int (nN : Int) tn8, Value.int ((nN : Int) + 1) tn9]) 0) :: (CT, W.listOf c.cts.toArray c.ce) :: (119, tabObj pt) :: (s1.heap.objs.size + 1, o6) :: (c.tb ++ c.tu)) (c0 := c0) (c1 := c1) (wb := msb (nN + c.i)) (rr := resL (nN + c.i)) (f0 := 200) (ws := sgs (fileL c0 c1 nz ([nN, nN + 1].drop c.i))) (ws1 := sgs (32 :: 92 :: c1 :: 32 :: RS)) (ws2 := sgs RS) (word := ⟨(wordL c0 c1 (msb (nN + c.i)) nz).toArray⟩) ?Bh ?Fh ?Xh ?Nh ?Th ?hkh ?hdh ?huh hnd hoc hoc1 hoS o1 o2 o3 o4 o5x o6' o7 o8 ?q1h ?q2h ?q3h sg4 (sgs_one _) ?l0h ?w1h ?w2h (sgs_one _) ?l1h (sgs_one _) ?l2h rfl h460 h461 hc01 ?wlh ?wbh td4 ?djh ?djlh CD ?emh ?bh (by decide) ?reth
      (case Bh => k_asm)
      (case Fh => k_asm)
      (case Xh => k_asm)
      (case Nh => exact cb_drop N5y (List.forall_mem_cons.mpr ⟨.tail _ (.tail _ (.tail _ (.head _))), List.forall_mem_cons.mpr ⟨.tail _ (.tail _ (.tail _ (.tail _ (.head _)))), List.forall_mem_cons.mpr ⟨.tail _ (.tail _ (.tail _ (.tail _ (.tail _ (.head _))))), List.forall_mem_cons.mpr ⟨.tail _ (.tail _ (.tail _ (.tail _ (.tail _ (.tail _ (.head _)))))), List.forall_mem_cons.mpr ⟨.tail _ (.tail _ (.tail _ (.tail _ (.tail _ (.tail _ (.tail _ (.head _))))))), List.forall_mem_cons.mpr ⟨.tail _ (.tail _ (.tail _ (.tail _ (.tail _ (.tail _ (.tail _ (.tail _ (.head _)))))))), List.forall_mem_cons.mpr ⟨.tail _ (.tail _ (.tail _ (.tail _ (.tail _ (.tail _ (.tail _ (.tail _ (.tail _ (.head _))))))))), List.forall_mem_cons.mpr ⟨.tail _ (.tail _ (.tail _ (.tail _ (.tail _ (.tail _ (.tail _ (.tail _ (.tail _ (.tail _ (.head _)))))))))), List.forall_mem_cons.mpr ⟨.tail _ (.tail _ (.tail _ (.tail _ (.tail _ (.tail _ (.tail _ (.tail _ (.tail _ (.tail _ (.tail _ (.head _))))))))))), List.forall_mem_append.mpr ⟨fun p hp => .tail _ (.tail _ (.tail _ (.tail _ (.tail _ (.tail _ (.tail _ (.tail _ (.tail _ (.tail _ (.tail _ (.tail _ (.tail _ (.tail _ (List.mem_append.mpr (.inl hp))))))))))))))), List.forall_mem_cons.mpr ⟨.head _, List.forall_mem_cons.mpr ⟨.tail _ (.head _), List.forall_mem_cons.mpr ⟨.tail _ (.tail _ (.head _)), List.forall_mem_cons.mpr ⟨.tail _ (.tail _ (.tail _ (.tail _ (.tail _ (.tail _ (.tail _ (.tail _ (.tail _ (.tail _ (.tail _ (.tail _ (.head _)))))))))))), List.forall_mem_cons.mpr ⟨.tail _ (.tail _ (.tail _ (.tail _ (.tail _ (.tail _ (.tail _ (.tail _ (.tail _ (.tail _ (.tail _ (.tail _ (.tail _ (.head _))))))))))))), fun p hp => .tail _ (.tail _ (.tail _ (.tail _ (.tail _ (.tail _ (.tail _ (.tail _ (.tail _ (.tail _ (.tail _ (.tail _ (.tail _ (.tail _ (List.mem_append.mpr (.inr hp)))))))))))))))⟩⟩⟩⟩⟩⟩⟩⟩⟩⟩⟩⟩⟩⟩⟩))
      (case Th => k_asm)
      (case hkh => exact rfl)
      (case hdh => decide +kernel)
      (case huh => decide +kernel)
      case q1h => exact List.forall_mem_append.mpr ⟨fun p hp => atd p hp S (by repeat (first | exact .head _ | refine .tail _ ?_)), List.forall_mem_cons.mpr ⟨by refine neN ?_; (try dsimp only at *); omega, List.forall_mem_cons.mpr ⟨by refine neN ?_; (try dsimp only at *); omega, List.forall_mem_cons.mpr ⟨by refine neN ?_; (try dsimp only at *); omega, List.forall_mem_cons.mpr ⟨by refine neN ?_; (try dsimp only at *); omega, List.forall_mem_cons.mpr ⟨by refine neN ?_; (try dsimp only at *); omega, List.forall_mem_append.mpr ⟨fun p hp => atb p hp S (by repeat (first | exact .head _ | refine .tail _ ?_)), fun p hp => atu p hp S (by repeat (first | exact .head _ | refine .tail _ ?_))⟩⟩⟩⟩⟩⟩⟩
      case q2h => exact List.forall_mem_append.mpr ⟨fun p hp => atd p hp dx (by repeat (first | exact .head _ | refine .tail _ ?_)), List.forall_mem_cons.mpr ⟨by refine neN ?_; (try dsimp only at *); omega, List.forall_mem_cons.mpr ⟨by refine neN ?_; (try dsimp only at *); omega, List.forall_mem_cons.mpr ⟨by refine neN ?_; (try dsimp only at *); omega, List.forall_mem_cons.mpr ⟨by refine neN ?_; (try dsimp only at *); omega, List.forall_mem_cons.mpr ⟨by refine neN ?_; (try dsimp only at *); omega, List.forall_mem_append.mpr ⟨fun p hp => atb p hp dx (by repeat (first | exact .head _ | refine .tail _ ?_)), fun p hp => atu p hp dx (by repeat (first | exact .head _ | refine .tail _ ?_))⟩⟩⟩⟩⟩⟩⟩
      case q3h => exact List.forall_mem_append.mpr ⟨fun p hp => atd p hp pb (by repeat (first | exact .head _ | refine .tail _ ?_)), List.forall_mem_cons.mpr ⟨by refine neN ?_; (try dsimp only at *); omega, List.forall_mem_cons.mpr ⟨by refine neN ?_; (try dsimp only at *); omega, List.forall_mem_cons.mpr ⟨by refine neN ?_; (try dsimp only at *); omega, List.forall_mem_cons.mpr ⟨by refine neN ?_; (try dsimp only at *); omega, List.forall_mem_cons.mpr ⟨by refine neN ?_; (try dsimp only at *); omega, List.forall_mem_append.mpr ⟨fun p hp => atb p hp pb (by repeat (first | exact .head _ | refine .tail _ ?_)), fun p hp => atu p hp pb (by repeat (first | exact .head _ | refine .tail _ ?_))⟩⟩⟩⟩⟩⟩⟩
      case l0h => rw [List.length_map]; omega
      case w1h => rw [hfile]; exact gO_word c1 _ _
      case w2h => exact gO_one c1 RS
      case l1h => rw [List.length_map, List.length_cons, List.length_cons, List.length_cons, List.length_cons]; omega
      case l2h => rw [List.length_map]; omega
      case wlh => exact Nat.le_trans (wordL_length c0 c1 (msb (nN + c.i)) nz hnz1) (by have := msb_length hn65; omega)
      case wbh => exact Nat.le_trans (msb_length hn65) (by decide)
      case djh => exact fun p hp => List.forall_mem_cons.mpr ⟨atd p hp I (by repeat (first | exact .head _ | refine .tail _ ?_)), List.forall_mem_cons.mpr ⟨atd p hp l8 (by repeat (first | exact .head _ | refine .tail _ ?_)), List.forall_mem_cons.mpr ⟨atd p hp CT (by repeat (first | exact .head _ | refine .tail _ ?_)), List.forall_mem_cons.mpr ⟨atd p hp 119 (by repeat (first | exact .head _ | refine .tail _ ?_)), List.forall_mem_cons.mpr ⟨atd p hp (s1.heap.objs.size + 1) (by repeat (first | exact .head _ | refine .tail _ ?_)), List.forall_mem_append.mpr ⟨fun q hq => (dtb q hq p (List.mem_append.mpr (.inl hp))).symm, fun q hq => dtd p hp q hq⟩⟩⟩⟩⟩⟩
      case djlh => exact fun p hp => List.forall_mem_cons.mpr ⟨atd p hp pb (by repeat (first | exact .head _ | refine .tail _ ?_)), List.forall_mem_cons.mpr ⟨atd p hp x (by repeat (first | exact .head _ | refine .tail _ ?_)), List.forall_mem_cons.mpr ⟨atd p hp dx (by repeat (first | exact .head _ | refine .tail _ ?_)), List.forall_mem_cons.mpr ⟨atd p hp dS (by repeat (first | exact .head _ | refine .tail _ ?_)), List.forall_mem_cons.mpr ⟨atd p hp fS (by repeat (first | exact .head _ | refine .tail _ ?_)), List.forall_mem_cons.mpr ⟨atd p hp r (by repeat (first | exact .head _ | refine .tail _ ?_)), List.forall_mem_cons.mpr ⟨atd p hp cr (by repeat (first | exact .head _ | refine .tail _ ?_)), List.forall_mem_cons.mpr ⟨atd p hp cS (by repeat (first | exact .head _ | refine .tail _ ?_)), List.forall_mem_cons.mpr ⟨atd p hp S (by repeat (first | exact .head _ | refine .tail _ ?_)), fun _ h => nomatch h⟩⟩⟩⟩⟩⟩⟩⟩⟩
      case emh =>
        intro p hp hne
        have e := emScan_all (⟨(wordL c0 c1 (msb (nN + c.i)) nz).toArray⟩ : Str) (encL c0 c1 p).cps.toList
        refine e.trans ?_
        rw [show (encL c0 c1 p).cps.toList = p.map (fun b => if b = 0 then c0 else c1) by simp [encL]]
        exact subL_word hc01 _ p nz (msb_lt hn65) hp hnzc
      case bh => exact fact_bfs hn65
      intro I2 fl fe vs6 ln6 n56 ep6 ep26 td6 h6x tk6 F6 N6 if6 sg6 td6k dj6 djl6 nI2
      have hrl : (resL (nN + c.i)).length ≤ 60 := by
        have := fact_len hn65
        unfold resL
        rw [List.length_drop]; omega
      have N6' := cb_drop (news := ((I2, W.listOf fl.toArray fe) :: (I, o5) :: (l8, W.listOf (List.toArray [Value.int (nN : Int) tn8, Value.int ((nN : Int) + 1) tn9]) 0) :: (CT, W.listOf c.cts.toArray c.ce) :: (pb, W.listOf ([]).toArray ep6) :: (x, instObj 101 dx) :: (dx, (dictOf [{ hash := PyData.keyHash wd.params ("lineno" : Str), key := .str ("lineno" : Str) n1, val := .int ln6 n56 }, { hash := PyData.keyHash wd.params ("instream" : Str), key := .str ("instream" : Str) n2, val := .ref fS }, { hash := PyData.keyHash wd.params ("whitespace" : Str), key := .str ("whitespace" : Str) n3, val := .str (PySem.Str.ofString "\n\t\x0d ") n6 }, { hash := PyData.keyHash wd.params ("pushback" : Str), key := .str ("pushback" : Str) n4, val := .ref pb }] 4)) :: (dS, dictOf [{ hash := PyData.keyHash wd.params ("read" : Str), key := .str ("read" : Str) n7, val := .ref r }] 1) :: (fS, ({ cls := .type "function", dict := some dS, data := .func fd } : Obj)) :: (r, fnMade nm qu ps bd sc [(("signs" : Str), cS)] dc pm cr ct) :: (cr, oc) :: (cS, oS) :: (S, W.listOf (vs6).toArray ep26) :: (119, tabObj pt) :: (s1.heap.objs.size + 1, o6) :: (td6 ++ (c.tb ++ c.tu)))) N6 (List.forall_mem_cons.mpr ⟨.head _, List.forall_mem_cons.mpr ⟨.tail _ (.tail _ (.tail _ (.tail _ (.tail _ (.tail _ (.tail _ (.tail _ (.tail _ (.tail _ (List.mem_append.mpr (.inr (.head _)))))))))))), List.forall_mem_cons.mpr ⟨.tail _ (.tail _ (.tail _ (.tail _ (.tail _ (.tail _ (.tail _ (.tail _ (.tail _ (.tail _ (List.mem_append.mpr (.inr (.tail _ (.head _))))))))))))), List.forall_mem_cons.mpr ⟨.tail _ (.tail _ (.tail _ (.tail _ (.tail _ (.tail _ (.tail _ (.tail _ (.tail _ (.tail _ (List.mem_append.mpr (.inr (.tail _ (.tail _ (.head _)))))))))))))), List.forall_mem_cons.mpr ⟨.tail _ (.head _), List.forall_mem_cons.mpr ⟨.tail _ (.tail _ (.head _)), List.forall_mem_cons.mpr ⟨.tail _ (.tail _ (.tail _ (.head _))), List.forall_mem_cons.mpr ⟨.tail _ (.tail _ (.tail _ (.tail _ (.head _)))), List.forall_mem_cons.mpr ⟨.tail _ (.tail _ (.tail _ (.tail _ (.tail _ (.head _))))), List.forall_mem_cons.mpr ⟨.tail _ (.tail _ (.tail _ (.tail _ (.tail _ (.tail _ (.head _)))))), List.forall_mem_cons.mpr ⟨.tail _ (.tail _ (.tail _ (.tail _ (.tail _ (.tail _ (.tail _ (.head _))))))), List.forall_mem_cons.mpr ⟨.tail _ (.tail _ (.tail _ (.tail _ (.tail _ (.tail _ (.tail _ (.tail _ (.head _)))))))), List.forall_mem_cons.mpr ⟨.tail _ (.tail _ (.tail _ (.tail _ (.tail _ (.tail _ (.tail _ (.tail _ (.tail _ (.head _))))))))), List.forall_mem_cons.mpr ⟨.tail _ (.tail _ (.tail _ (.tail _ (.tail _ (.tail _ (.tail _ (.tail _ (.tail _ (.tail _ (List.mem_append.mpr (.inr (.tail _ (.tail _ (.tail _ (.head _))))))))))))))), List.forall_mem_cons.mpr ⟨.tail _ (.tail _ (.tail _ (.tail _ (.tail _ (.tail _ (.tail _ (.tail _ (.tail _ (.tail _ (List.mem_append.mpr (.inr (.tail _ (.tail _ (.tail _ (.tail _ (.head _)))))))))))))))), List.forall_mem_append.mpr ⟨fun p hp => .tail _ (.tail _ (.tail _ (.tail _ (.tail _ (.tail _ (.tail _ (.tail _ (.tail _ (.tail _ (List.mem_append.mpr (.inl hp))))))))))), fun p hp => .tail _ (.tail _ (.tail _ (.tail _ (.tail _ (.tail _ (.tail _ (.tail _ (.tail _ (.tail _ (List.mem_append.mpr (.inr (.tail _ (.tail _ (.tail _ (.tail _ (.tail _ (hp)))))))))))))))))⟩⟩⟩⟩⟩⟩⟩⟩⟩⟩⟩⟩⟩⟩⟩⟩)
      clear N6
      have atd6 : ∀ p ∈ td6, ∀ a' ∈ [pb, x, dx, dS, fS, r, cr, cS, S, 119, s1.heap.objs.size + 1, CT, l8, I], p.1 ≠ a' := fun p hp => List.forall_mem_cons.mpr ⟨djl6 p hp pb (by repeat (first | exact .head _ | refine .tail _ ?_)), List.forall_mem_cons.mpr ⟨djl6 p hp x (by repeat (first | exact .head _ | refine .tail _ ?_)), List.forall_mem_cons.mpr ⟨djl6 p hp dx (by repeat (first | exact .head _ | refine .tail _ ?_)), List.forall_mem_cons.mpr ⟨djl6 p hp dS (by repeat (first | exact .head _ | refine .tail _ ?_)), List.forall_mem_cons.mpr ⟨djl6 p hp fS (by repeat (first | exact .head _ | refine .tail _ ?_)), List.forall_mem_cons.mpr ⟨djl6 p hp r (by repeat (first | exact .head _ | refine .tail _ ?_)), List.forall_mem_cons.mpr ⟨djl6 p hp cr (by repeat (first | exact .head _ | refine .tail _ ?_)), List.forall_mem_cons.mpr ⟨djl6 p hp cS (by repeat (first | exact .head _ | refine .tail _ ?_)), List.forall_mem_cons.mpr ⟨djl6 p hp S (by repeat (first | exact .head _ | refine .tail _ ?_)), List.forall_mem_cons.mpr ⟨dj6 p hp (119, _) (.tail _ (.tail _ (.tail _ (.head _)))), List.forall_mem_cons.mpr ⟨dj6 p hp (s1.heap.objs.size + 1, _) (.tail _ (.tail _ (.tail _ (.tail _ (.head _))))), List.forall_mem_cons.mpr ⟨dj6 p hp (CT, _) (.tail _ (.tail _ (.head _))), List.forall_mem_cons.mpr ⟨dj6 p hp (l8, _) (.tail _ (.head _)), List.forall_mem_cons.mpr ⟨dj6 p hp (I, o5) (.head _), fun _ h => nomatch h⟩⟩⟩⟩⟩⟩⟩⟩⟩⟩⟩⟩⟩⟩
      have dtb6 : ∀ p ∈ td6, ∀ q ∈ c.tb ++ c.tu, p.1 ≠ q.1 := fun p hp q hq => dj6 p hp q (.tail _ (.tail _ (.tail _ (.tail _ (.tail _ (hq))))))
      k_steps
      unfold Halt
      (rename Fr _ _ _ _ => F7y)
      (rename News _ _ _ _ => N7y)
      refine' within_spec (nN := nN + c.i) ?Bi ?Fi ?Xi ?Ni ?Ti ?hki ?hdi ?hui hn65 ?reti
      (case Bi => k_asm)
      (case Fi => k_asm)
      (case Xi => k_asm)
      (case Ni => exact N7y)
      (case Ti => k_asm)
      (case hki => exact rfl)
      (case hdi => decide +kernel)
      (case hui => decide +kernel)
      intro I3 vs3 ep3 h3 tk3 F3 N3 iv3 l3
      have l3r := l3
      clear l3
      k_steps
      unfold Halt
      refine' ne_intsK ?l1i if6 ?l2i iv3 ?u1i ?_
      (case l1i => exact News.isList N3 (.tail _ (.head _)))
      (case l2i => exact News.isList N3 (.head _))
      (case u1i => show 4 + 3 + 64 < cLine; decide +kernel)
      rw [decide_eq_true (Eq.refl _), Bool.not_true]
      k_steps
      unfold Halt
      k_dflt (refine' LCt.ListComp_T ?Fj (by with_unfolding_all rfl) (by decide) (by rfl) (by decide) (by rfl) ?_)
      (case Fj => k_asm)
      k_steps
      unfold Halt
      refine' LCt.CompSrcT.ledger (ax := I2) (its := fl.toArray) (k := fe) rfl F3 N3 (.tail _ (.head _)) ?zj ?_
      (case zj => rw [List.size_toArray, if6.length, List.length_map]; exact fits4000' (by omega))
      intro g9
      refine' kci_list oddG if6 ?turnj ?finj ?hgj
      case turnj =>
        intro k10 t10 I10 oI10 C10 oC10 D10 m10 ys10 l10 h10 tk10 E10 hk10 hy10 hC10 hx10 F10 N10 off10 ne10 _
        k_steps
        · refine LCg.CompEnd.intro F10 N10 _ (fun _ h => h) off10 ?_ ?_
          · exact .inr ⟨_, .tail _ (.head _), rfl, _, rfl⟩
          · exact ⟨rfl, _, _, rfl, by unfold oddG; rw [if_pos (by assumption)]⟩
        · refine LCg.CompEnd.intro F10 N10 _ (fun _ h => h) off10 ?_ ?_
          · exact .inr ⟨_, .tail _ (.head _), rfl, _, rfl⟩
          · exact ⟨rfl, by unfold oddG; rw [if_neg (by assumption)]⟩
      case hgj =>
        intro l k
        unfold oddG
        split
        · rw [List.length_append, List.length_singleton]; omega
        · omega
      case finj =>
        unfold KPfDone
        intro ys11 iy11 yl11 D11 h11 tk11 F11 N11 of11
        have hod : ys11.length = cntOdd (resL (nN + c.i)) := by
          rw [iy11.length, oddG_len]; exact Nat.zero_add _
        have hco := cntOdd_le (resL (nN + c.i))
        have hfl : fl.length = (resL (nN + c.i)).length := by rw [if6.length, List.length_map]
        (try clear l3r)
        k_steps
        unfold Halt
        (rename Fr _ _ _ _ => F12)
        (rename News _ _ _ _ => N12)
        have hev : (fl.length : Int) - (ys11.length : Int) = (((resL (nN + c.i)).length - cntOdd (resL (nN + c.i)) : Nat) : Int) := by rw [hod, hfl]; omega
        rw [hev, hod]
        have hb7 : (bitsOf (nN + c.i)).length ≤ 7 := by rw [bitsOf_F 7 _ (by omega)]; exact bitsF_length 7 _
        refine' told_spec (tb := c.tb) (td := td6) (f := 300) (r := bitsOf (nN + c.i)) (rest := ((I2, W.listOf fl.toArray fe) :: (I, o5) :: (l8, W.listOf (List.toArray [Value.int (nN : Int) tn8, Value.int ((nN : Int) + 1) tn9]) 0) :: (CT, W.listOf c.cts.toArray c.ce) :: (pb, W.listOf ([]).toArray ep6) :: (x, instObj 101 dx) :: (dx, (dictOf [{ hash := PyData.keyHash wd.params ("lineno" : Str), key := .str ("lineno" : Str) n1, val := .int ln6 n56 }, { hash := PyData.keyHash wd.params ("instream" : Str), key := .str ("instream" : Str) n2, val := .ref fS }, { hash := PyData.keyHash wd.params ("whitespace" : Str), key := .str ("whitespace" : Str) n3, val := .str (PySem.Str.ofString "\n\t\x0d ") n6 }, { hash := PyData.keyHash wd.params ("pushback" : Str), key := .str ("pushback" : Str) n4, val := .ref pb }] 4)) :: (dS, dictOf [{ hash := PyData.keyHash wd.params ("read" : Str), key := .str ("read" : Str) n7, val := .ref r }] 1) :: (fS, ({ cls := .type "function", dict := some dS, data := .func fd } : Obj)) :: (r, fnMade nm qu ps bd sc [(("signs" : Str), cS)] dc pm cr ct) :: (cr, oc) :: (cS, oS) :: (S, W.listOf (vs6).toArray ep26) :: (119, tabObj pt) :: (s1.heap.objs.size + 1, o6) :: c.tu)) ?Bk ?Fk ?Xk ?Nk ?Tk ?hkk ?hdk ?huk ti4 td6k ?djk ?dkk CI CD (by omega) (by omega) (fact_told hn65) (by omega) ?retk
        (case Bk => k_asm)
        (case Fk => k_asm)
        (case Xk => k_asm)
        (case Nk => exact cb_drop N12 (List.forall_mem_append.mpr ⟨fun p hp => .tail _ (.tail _ (.tail _ (.tail _ (.tail _ (.tail _ (.tail _ (.tail _ (.tail _ (.tail _ (.tail _ (.tail _ (.tail _ (.tail _ (.tail _ (.tail _ (.tail _ (List.mem_append.mpr (.inr (List.mem_append.mpr (.inl hp)))))))))))))))))))), List.forall_mem_append.mpr ⟨fun p hp => .tail _ (.tail _ (.tail _ (.tail _ (.tail _ (.tail _ (.tail _ (.tail _ (.tail _ (.tail _ (.tail _ (.tail _ (.tail _ (.tail _ (.tail _ (.tail _ (.tail _ (List.mem_append.mpr (.inl hp)))))))))))))))))), List.forall_mem_cons.mpr ⟨.tail _ (.tail _ (.head _)), List.forall_mem_cons.mpr ⟨.tail _ (.tail _ (.tail _ (.head _))), List.forall_mem_cons.mpr ⟨.tail _ (.tail _ (.tail _ (.tail _ (.head _)))), List.forall_mem_cons.mpr ⟨.tail _ (.tail _ (.tail _ (.tail _ (.tail _ (.head _))))), List.forall_mem_cons.mpr ⟨.tail _ (.tail _ (.tail _ (.tail _ (.tail _ (.tail _ (.head _)))))), List.forall_mem_cons.mpr ⟨.tail _ (.tail _ (.tail _ (.tail _ (.tail _ (.tail _ (.tail _ (.head _))))))), List.forall_mem_cons.mpr ⟨.tail _ (.tail _ (.tail _ (.tail _ (.tail _ (.tail _ (.tail _ (.tail _ (.head _)))))))), List.forall_mem_cons.mpr ⟨.tail _ (.tail _ (.tail _ (.tail _ (.tail _ (.tail _ (.tail _ (.tail _ (.tail _ (.head _))))))))), List.forall_mem_cons.mpr ⟨.tail _ (.tail _ (.tail _ (.tail _ (.tail _ (.tail _ (.tail _ (.tail _ (.tail _ (.tail _ (.head _)))))))))), List.forall_mem_cons.mpr ⟨.tail _ (.tail _ (.tail _ (.tail _ (.tail _ (.tail _ (.tail _ (.tail _ (.tail _ (.tail _ (.tail _ (.head _))))))))))), List.forall_mem_cons.mpr ⟨.tail _ (.tail _ (.tail _ (.tail _ (.tail _ (.tail _ (.tail _ (.tail _ (.tail _ (.tail _ (.tail _ (.tail _ (.head _)))))))))))), List.forall_mem_cons.mpr ⟨.tail _ (.tail _ (.tail _ (.tail _ (.tail _ (.tail _ (.tail _ (.tail _ (.tail _ (.tail _ (.tail _ (.tail _ (.tail _ (.head _))))))))))))), List.forall_mem_cons.mpr ⟨.tail _ (.tail _ (.tail _ (.tail _ (.tail _ (.tail _ (.tail _ (.tail _ (.tail _ (.tail _ (.tail _ (.tail _ (.tail _ (.tail _ (.head _)))))))))))))), List.forall_mem_cons.mpr ⟨.tail _ (.tail _ (.tail _ (.tail _ (.tail _ (.tail _ (.tail _ (.tail _ (.tail _ (.tail _ (.tail _ (.tail _ (.tail _ (.tail _ (.tail _ (.head _))))))))))))))), List.forall_mem_cons.mpr ⟨.tail _ (.tail _ (.tail _ (.tail _ (.tail _ (.tail _ (.tail _ (.tail _ (.tail _ (.tail _ (.tail _ (.tail _ (.tail _ (.tail _ (.tail _ (.tail _ (.head _)))))))))))))))), fun p hp => .tail _ (.tail _ (.tail _ (.tail _ (.tail _ (.tail _ (.tail _ (.tail _ (.tail _ (.tail _ (.tail _ (.tail _ (.tail _ (.tail _ (.tail _ (.tail _ (.tail _ (List.mem_append.mpr (.inr (List.mem_append.mpr (.inr hp))))))))))))))))))))⟩⟩⟩⟩⟩⟩⟩⟩⟩⟩⟩⟩⟩⟩⟩⟩⟩))
        (case Tk => k_asm)
        (case hkk => exact rfl)
        (case hdk => decide +kernel)
        (case huk => decide +kernel)
        case djk => exact fun p hp => List.forall_mem_append.mpr ⟨fun q hq => (dtb6 q hq p (List.mem_append.mpr (.inl hp))).symm, List.forall_mem_cons.mpr ⟨nI2 p (List.mem_append.mpr (.inr (.tail _ (.tail _ (.tail _ (.tail _ (.tail _ (List.mem_append.mpr (.inl hp))))))))), List.forall_mem_cons.mpr ⟨atb p hp I (by repeat (first | exact .head _ | refine .tail _ ?_)), List.forall_mem_cons.mpr ⟨atb p hp l8 (by repeat (first | exact .head _ | refine .tail _ ?_)), List.forall_mem_cons.mpr ⟨atb p hp CT (by repeat (first | exact .head _ | refine .tail _ ?_)), List.forall_mem_cons.mpr ⟨atb p hp pb (by repeat (first | exact .head _ | refine .tail _ ?_)), List.forall_mem_cons.mpr ⟨atb p hp x (by repeat (first | exact .head _ | refine .tail _ ?_)), List.forall_mem_cons.mpr ⟨atb p hp dx (by repeat (first | exact .head _ | refine .tail _ ?_)), List.forall_mem_cons.mpr ⟨atb p hp dS (by repeat (first | exact .head _ | refine .tail _ ?_)), List.forall_mem_cons.mpr ⟨atb p hp fS (by repeat (first | exact .head _ | refine .tail _ ?_)), List.forall_mem_cons.mpr ⟨atb p hp r (by repeat (first | exact .head _ | refine .tail _ ?_)), List.forall_mem_cons.mpr ⟨atb p hp cr (by repeat (first | exact .head _ | refine .tail _ ?_)), List.forall_mem_cons.mpr ⟨atb p hp cS (by repeat (first | exact .head _ | refine .tail _ ?_)), List.forall_mem_cons.mpr ⟨atb p hp S (by repeat (first | exact .head _ | refine .tail _ ?_)), List.forall_mem_cons.mpr ⟨atb p hp 119 (by repeat (first | exact .head _ | refine .tail _ ?_)), List.forall_mem_cons.mpr ⟨atb p hp (s1.heap.objs.size + 1) (by repeat (first | exact .head _ | refine .tail _ ?_)), fun q hq => dtb p hp q (List.mem_append.mpr (.inr hq))⟩⟩⟩⟩⟩⟩⟩⟩⟩⟩⟩⟩⟩⟩⟩⟩
        case dkk => exact fun p hp => List.forall_mem_cons.mpr ⟨nI2 p (List.mem_append.mpr (.inl hp)), List.forall_mem_cons.mpr ⟨atd6 p hp I (by repeat (first | exact .head _ | refine .tail _ ?_)), List.forall_mem_cons.mpr ⟨atd6 p hp l8 (by repeat (first | exact .head _ | refine .tail _ ?_)), List.forall_mem_cons.mpr ⟨atd6 p hp CT (by repeat (first | exact .head _ | refine .tail _ ?_)), List.forall_mem_cons.mpr ⟨atd6 p hp pb (by repeat (first | exact .head _ | refine .tail _ ?_)), List.forall_mem_cons.mpr ⟨atd6 p hp x (by repeat (first | exact .head _ | refine .tail _ ?_)), List.forall_mem_cons.mpr ⟨atd6 p hp dx (by repeat (first | exact .head _ | refine .tail _ ?_)), List.forall_mem_cons.mpr ⟨atd6 p hp dS (by repeat (first | exact .head _ | refine .tail _ ?_)), List.forall_mem_cons.mpr ⟨atd6 p hp fS (by repeat (first | exact .head _ | refine .tail _ ?_)), List.forall_mem_cons.mpr ⟨atd6 p hp r (by repeat (first | exact .head _ | refine .tail _ ?_)), List.forall_mem_cons.mpr ⟨atd6 p hp cr (by repeat (first | exact .head _ | refine .tail _ ?_)), List.forall_mem_cons.mpr ⟨atd6 p hp cS (by repeat (first | exact .head _ | refine .tail _ ?_)), List.forall_mem_cons.mpr ⟨atd6 p hp S (by repeat (first | exact .head _ | refine .tail _ ?_)), List.forall_mem_cons.mpr ⟨atd6 p hp 119 (by repeat (first | exact .head _ | refine .tail _ ?_)), List.forall_mem_cons.mpr ⟨atd6 p hp (s1.heap.objs.size + 1) (by repeat (first | exact .head _ | refine .tail _ ?_)), fun q hq => dtb6 p hp q (List.mem_append.mpr (.inr hq))⟩⟩⟩⟩⟩⟩⟩⟩⟩⟩⟩⟩⟩⟩⟩
        intro I5 vs5 ep5 tb7 td7 h13 tk13 F13 N13 iv13 ti7 td7k dj7 dk7 ne7
        have N14 := cb_drop (news := ((I5, W.listOf vs5.toArray ep5) :: (I2, W.listOf fl.toArray fe) :: (I, o5) :: (l8, W.listOf (List.toArray [Value.int (nN : Int) tn8, Value.int ((nN : Int) + 1) tn9]) 0) :: (CT, W.listOf c.cts.toArray c.ce) :: (pb, W.listOf ([]).toArray ep6) :: (x, instObj 101 dx) :: (dx, (dictOf [{ hash := PyData.keyHash wd.params ("lineno" : Str), key := .str ("lineno" : Str) n1, val := .int ln6 n56 }, { hash := PyData.keyHash wd.params ("instream" : Str), key := .str ("instream" : Str) n2, val := .ref fS }, { hash := PyData.keyHash wd.params ("whitespace" : Str), key := .str ("whitespace" : Str) n3, val := .str (PySem.Str.ofString "\n\t\x0d ") n6 }, { hash := PyData.keyHash wd.params ("pushback" : Str), key := .str ("pushback" : Str) n4, val := .ref pb }] 4)) :: (dS, dictOf [{ hash := PyData.keyHash wd.params ("read" : Str), key := .str ("read" : Str) n7, val := .ref r }] 1) :: (fS, ({ cls := .type "function", dict := some dS, data := .func fd } : Obj)) :: (r, fnMade nm qu ps bd sc [(("signs" : Str), cS)] dc pm cr ct) :: (cr, oc) :: (cS, oS) :: (S, W.listOf (vs6).toArray ep26) :: (119, tabObj pt) :: (s1.heap.objs.size + 1, o6) :: (td7 ++ (tb7 ++ c.tu)))) N13 (List.forall_mem_cons.mpr ⟨.head _, List.forall_mem_cons.mpr ⟨.tail _ (List.mem_append.mpr (.inr (List.mem_append.mpr (.inr (.head _))))), List.forall_mem_cons.mpr ⟨.tail _ (List.mem_append.mpr (.inr (List.mem_append.mpr (.inr (.tail _ (.head _)))))), List.forall_mem_cons.mpr ⟨.tail _ (List.mem_append.mpr (.inr (List.mem_append.mpr (.inr (.tail _ (.tail _ (.head _))))))), List.forall_mem_cons.mpr ⟨.tail _ (List.mem_append.mpr (.inr (List.mem_append.mpr (.inr (.tail _ (.tail _ (.tail _ (.head _)))))))), List.forall_mem_cons.mpr ⟨.tail _ (List.mem_append.mpr (.inr (List.mem_append.mpr (.inr (.tail _ (.tail _ (.tail _ (.tail _ (.head _))))))))), List.forall_mem_cons.mpr ⟨.tail _ (List.mem_append.mpr (.inr (List.mem_append.mpr (.inr (.tail _ (.tail _ (.tail _ (.tail _ (.tail _ (.head _)))))))))), List.forall_mem_cons.mpr ⟨.tail _ (List.mem_append.mpr (.inr (List.mem_append.mpr (.inr (.tail _ (.tail _ (.tail _ (.tail _ (.tail _ (.tail _ (.head _))))))))))), List.forall_mem_cons.mpr ⟨.tail _ (List.mem_append.mpr (.inr (List.mem_append.mpr (.inr (.tail _ (.tail _ (.tail _ (.tail _ (.tail _ (.tail _ (.tail _ (.head _)))))))))))), List.forall_mem_cons.mpr ⟨.tail _ (List.mem_append.mpr (.inr (List.mem_append.mpr (.inr (.tail _ (.tail _ (.tail _ (.tail _ (.tail _ (.tail _ (.tail _ (.tail _ (.head _))))))))))))), List.forall_mem_cons.mpr ⟨.tail _ (List.mem_append.mpr (.inr (List.mem_append.mpr (.inr (.tail _ (.tail _ (.tail _ (.tail _ (.tail _ (.tail _ (.tail _ (.tail _ (.tail _ (.head _)))))))))))))), List.forall_mem_cons.mpr ⟨.tail _ (List.mem_append.mpr (.inr (List.mem_append.mpr (.inr (.tail _ (.tail _ (.tail _ (.tail _ (.tail _ (.tail _ (.tail _ (.tail _ (.tail _ (.tail _ (.head _))))))))))))))), List.forall_mem_cons.mpr ⟨.tail _ (List.mem_append.mpr (.inr (List.mem_append.mpr (.inr (.tail _ (.tail _ (.tail _ (.tail _ (.tail _ (.tail _ (.tail _ (.tail _ (.tail _ (.tail _ (.tail _ (.head _)))))))))))))))), List.forall_mem_cons.mpr ⟨.tail _ (List.mem_append.mpr (.inr (List.mem_append.mpr (.inr (.tail _ (.tail _ (.tail _ (.tail _ (.tail _ (.tail _ (.tail _ (.tail _ (.tail _ (.tail _ (.tail _ (.tail _ (.head _))))))))))))))))), List.forall_mem_cons.mpr ⟨.tail _ (List.mem_append.mpr (.inr (List.mem_append.mpr (.inr (.tail _ (.tail _ (.tail _ (.tail _ (.tail _ (.tail _ (.tail _ (.tail _ (.tail _ (.tail _ (.tail _ (.tail _ (.tail _ (.head _)))))))))))))))))), List.forall_mem_cons.mpr ⟨.tail _ (List.mem_append.mpr (.inr (List.mem_append.mpr (.inr (.tail _ (.tail _ (.tail _ (.tail _ (.tail _ (.tail _ (.tail _ (.tail _ (.tail _ (.tail _ (.tail _ (.tail _ (.tail _ (.tail _ (.head _))))))))))))))))))), List.forall_mem_append.mpr ⟨fun p hp => .tail _ (List.mem_append.mpr (.inr (List.mem_append.mpr (.inl hp)))), List.forall_mem_append.mpr ⟨fun p hp => .tail _ (List.mem_append.mpr (.inl hp)), fun p hp => .tail _ (List.mem_append.mpr (.inr (List.mem_append.mpr (.inr (.tail _ (.tail _ (.tail _ (.tail _ (.tail _ (.tail _ (.tail _ (.tail _ (.tail _ (.tail _ (.tail _ (.tail _ (.tail _ (.tail _ (.tail _ (hp))))))))))))))))))))⟩⟩⟩⟩⟩⟩⟩⟩⟩⟩⟩⟩⟩⟩⟩⟩⟩⟩)
        clear N13
        have atb7 : ∀ p ∈ tb7, ∀ a' ∈ [pb, x, dx, dS, fS, r, cr, cS, S, 119, s1.heap.objs.size + 1, CT, l8, I], p.1 ≠ a' := fun p hp => List.forall_mem_cons.mpr ⟨dj7 p hp (pb, _) (List.mem_append.mpr (.inr (.tail _ (.tail _ (.tail _ (.tail _ (.head _))))))), List.forall_mem_cons.mpr ⟨dj7 p hp (x, _) (List.mem_append.mpr (.inr (.tail _ (.tail _ (.tail _ (.tail _ (.tail _ (.head _)))))))), List.forall_mem_cons.mpr ⟨dj7 p hp (dx, _) (List.mem_append.mpr (.inr (.tail _ (.tail _ (.tail _ (.tail _ (.tail _ (.tail _ (.head _))))))))), List.forall_mem_cons.mpr ⟨dj7 p hp (dS, _) (List.mem_append.mpr (.inr (.tail _ (.tail _ (.tail _ (.tail _ (.tail _ (.tail _ (.tail _ (.head _)))))))))), List.forall_mem_cons.mpr ⟨dj7 p hp (fS, _) (List.mem_append.mpr (.inr (.tail _ (.tail _ (.tail _ (.tail _ (.tail _ (.tail _ (.tail _ (.tail _ (.head _))))))))))), List.forall_mem_cons.mpr ⟨dj7 p hp (r, _) (List.mem_append.mpr (.inr (.tail _ (.tail _ (.tail _ (.tail _ (.tail _ (.tail _ (.tail _ (.tail _ (.tail _ (.head _)))))))))))), List.forall_mem_cons.mpr ⟨dj7 p hp (cr, _) (List.mem_append.mpr (.inr (.tail _ (.tail _ (.tail _ (.tail _ (.tail _ (.tail _ (.tail _ (.tail _ (.tail _ (.tail _ (.head _))))))))))))), List.forall_mem_cons.mpr ⟨dj7 p hp (cS, _) (List.mem_append.mpr (.inr (.tail _ (.tail _ (.tail _ (.tail _ (.tail _ (.tail _ (.tail _ (.tail _ (.tail _ (.tail _ (.tail _ (.head _)))))))))))))), List.forall_mem_cons.mpr ⟨dj7 p hp (S, _) (List.mem_append.mpr (.inr (.tail _ (.tail _ (.tail _ (.tail _ (.tail _ (.tail _ (.tail _ (.tail _ (.tail _ (.tail _ (.tail _ (.tail _ (.head _))))))))))))))), List.forall_mem_cons.mpr ⟨dj7 p hp (119, _) (List.mem_append.mpr (.inr (.tail _ (.tail _ (.tail _ (.tail _ (.tail _ (.tail _ (.tail _ (.tail _ (.tail _ (.tail _ (.tail _ (.tail _ (.tail _ (.head _)))))))))))))))), List.forall_mem_cons.mpr ⟨dj7 p hp (s1.heap.objs.size + 1, _) (List.mem_append.mpr (.inr (.tail _ (.tail _ (.tail _ (.tail _ (.tail _ (.tail _ (.tail _ (.tail _ (.tail _ (.tail _ (.tail _ (.tail _ (.tail _ (.tail _ (.head _))))))))))))))))), List.forall_mem_cons.mpr ⟨dj7 p hp (CT, _) (List.mem_append.mpr (.inr (.tail _ (.tail _ (.tail _ (.head _)))))), List.forall_mem_cons.mpr ⟨dj7 p hp (l8, _) (List.mem_append.mpr (.inr (.tail _ (.tail _ (.head _))))), List.forall_mem_cons.mpr ⟨dj7 p hp (I, _) (List.mem_append.mpr (.inr (.tail _ (.head _)))), fun _ h => nomatch h⟩⟩⟩⟩⟩⟩⟩⟩⟩⟩⟩⟩⟩⟩
        have atd7 : ∀ p ∈ td7, ∀ a' ∈ [pb, x, dx, dS, fS, r, cr, cS, S, 119, s1.heap.objs.size + 1, CT, l8, I], p.1 ≠ a' := fun p hp => List.forall_mem_cons.mpr ⟨dk7 p hp (pb, _) (.tail _ (.tail _ (.tail _ (.tail _ (.head _))))), List.forall_mem_cons.mpr ⟨dk7 p hp (x, _) (.tail _ (.tail _ (.tail _ (.tail _ (.tail _ (.head _)))))), List.forall_mem_cons.mpr ⟨dk7 p hp (dx, _) (.tail _ (.tail _ (.tail _ (.tail _ (.tail _ (.tail _ (.head _))))))), List.forall_mem_cons.mpr ⟨dk7 p hp (dS, _) (.tail _ (.tail _ (.tail _ (.tail _ (.tail _ (.tail _ (.tail _ (.head _)))))))), List.forall_mem_cons.mpr ⟨dk7 p hp (fS, _) (.tail _ (.tail _ (.tail _ (.tail _ (.tail _ (.tail _ (.tail _ (.tail _ (.head _))))))))), List.forall_mem_cons.mpr ⟨dk7 p hp (r, _) (.tail _ (.tail _ (.tail _ (.tail _ (.tail _ (.tail _ (.tail _ (.tail _ (.tail _ (.head _)))))))))), List.forall_mem_cons.mpr ⟨dk7 p hp (cr, _) (.tail _ (.tail _ (.tail _ (.tail _ (.tail _ (.tail _ (.tail _ (.tail _ (.tail _ (.tail _ (.head _))))))))))), List.forall_mem_cons.mpr ⟨dk7 p hp (cS, _) (.tail _ (.tail _ (.tail _ (.tail _ (.tail _ (.tail _ (.tail _ (.tail _ (.tail _ (.tail _ (.tail _ (.head _)))))))))))), List.forall_mem_cons.mpr ⟨dk7 p hp (S, _) (.tail _ (.tail _ (.tail _ (.tail _ (.tail _ (.tail _ (.tail _ (.tail _ (.tail _ (.tail _ (.tail _ (.tail _ (.head _))))))))))))), List.forall_mem_cons.mpr ⟨dk7 p hp (119, _) (.tail _ (.tail _ (.tail _ (.tail _ (.tail _ (.tail _ (.tail _ (.tail _ (.tail _ (.tail _ (.tail _ (.tail _ (.tail _ (.head _)))))))))))))), List.forall_mem_cons.mpr ⟨dk7 p hp (s1.heap.objs.size + 1, _) (.tail _ (.tail _ (.tail _ (.tail _ (.tail _ (.tail _ (.tail _ (.tail _ (.tail _ (.tail _ (.tail _ (.tail _ (.tail _ (.tail _ (.head _))))))))))))))), List.forall_mem_cons.mpr ⟨dk7 p hp (CT, _) (.tail _ (.tail _ (.tail _ (.head _)))), List.forall_mem_cons.mpr ⟨dk7 p hp (l8, _) (.tail _ (.tail _ (.head _))), List.forall_mem_cons.mpr ⟨dk7 p hp (I, _) (.tail _ (.head _)), fun _ h => nomatch h⟩⟩⟩⟩⟩⟩⟩⟩⟩⟩⟩⟩⟩⟩
        have dtb7 : ∀ p ∈ tb7, ∀ q ∈ td7 ++ c.tu, p.1 ≠ q.1 := fun p hp => List.forall_mem_append.mpr ⟨fun q hq => dj7 p hp q (List.mem_append.mpr (.inl hq)), fun q hq => dj7 p hp q (List.mem_append.mpr (.inr (.tail _ (.tail _ (.tail _ (.tail _ (.tail _ (.tail _ (.tail _ (.tail _ (.tail _ (.tail _ (.tail _ (.tail _ (.tail _ (.tail _ (.tail _ (hq))))))))))))))))))⟩
        have dtd7 : ∀ p ∈ td7, ∀ q ∈ c.tu, p.1 ≠ q.1 := fun p hp q hq => dk7 p hp q (.tail _ (.tail _ (.tail _ (.tail _ (.tail _ (.tail _ (.tail _ (.tail _ (.tail _ (.tail _ (.tail _ (.tail _ (.tail _ (.tail _ (.tail _ (hq))))))))))))))))
        k_steps
        unfold Halt
        (rename Fr _ _ _ _ => F15)
        refine' bits_spec (nN := nN + c.i) ?Bl ?Fl ?Xl ?Nl ?Tl ?hkl ?hdl ?hul (by omega) ?retl
        (case Bl => k_asm)
        (case Fl => k_asm)
        (case Xl => k_asm)
        (case Nl => exact N14)
        (case Tl => k_asm)
        (case hkl => exact rfl)
        (case hdl => decide +kernel)
        (case hul => decide +kernel)
        intro I6 vs6b ep6b h14b tk14b F16 N16 iv16 l16
        k_steps
        unfold Halt
        refine' ne_intsK ?l1m iv13 ?l2m iv16 ?u1m ?_
        (case l1m => exact News.isList N16 (.tail _ (.head _)))
        (case l2m => exact News.isList N16 (.head _))
        (case u1m => show 4 + 3 + 64 < cLine; decide +kernel)
        rw [decide_eq_true (Eq.refl _), Bool.not_true]
        have neC7 : ∀ p ∈ td7 ++ (tb7 ++ c.tu), p.1 ≠ CT := List.forall_mem_append.mpr ⟨fun p hp => atd7 p hp CT (by repeat (first | exact .head _ | refine .tail _ ?_)), List.forall_mem_append.mpr ⟨fun p hp => atb7 p hp CT (by repeat (first | exact .head _ | refine .tail _ ?_)), fun p hp => atu p hp CT (by repeat (first | exact .head _ | refine .tail _ ?_))⟩⟩
        have N17 := cb_drop (news := ((I2, W.listOf fl.toArray fe) :: (I, o5) :: (l8, W.listOf (List.toArray [Value.int (nN : Int) tn8, Value.int ((nN : Int) + 1) tn9]) 0) :: (CT, W.listOf c.cts.toArray c.ce) :: (pb, W.listOf ([]).toArray ep6) :: (x, instObj 101 dx) :: (dx, (dictOf [{ hash := PyData.keyHash wd.params ("lineno" : Str), key := .str ("lineno" : Str) n1, val := .int ln6 n56 }, { hash := PyData.keyHash wd.params ("instream" : Str), key := .str ("instream" : Str) n2, val := .ref fS }, { hash := PyData.keyHash wd.params ("whitespace" : Str), key := .str ("whitespace" : Str) n3, val := .str (PySem.Str.ofString "\n\t\x0d ") n6 }, { hash := PyData.keyHash wd.params ("pushback" : Str), key := .str ("pushback" : Str) n4, val := .ref pb }] 4)) :: (dS, dictOf [{ hash := PyData.keyHash wd.params ("read" : Str), key := .str ("read" : Str) n7, val := .ref r }] 1) :: (fS, ({ cls := .type "function", dict := some dS, data := .func fd } : Obj)) :: (r, fnMade nm qu ps bd sc [(("signs" : Str), cS)] dc pm cr ct) :: (cr, oc) :: (cS, oS) :: (S, W.listOf (vs6).toArray ep26) :: (119, tabObj pt) :: (s1.heap.objs.size + 1, o6) :: (td7 ++ (tb7 ++ c.tu)))) N16 (List.forall_mem_cons.mpr ⟨.tail _ (.tail _ (.head _)), List.forall_mem_cons.mpr ⟨.tail _ (.tail _ (.tail _ (.head _))), List.forall_mem_cons.mpr ⟨.tail _ (.tail _ (.tail _ (.tail _ (.head _)))), List.forall_mem_cons.mpr ⟨.tail _ (.tail _ (.tail _ (.tail _ (.tail _ (.head _))))), List.forall_mem_cons.mpr ⟨.tail _ (.tail _ (.tail _ (.tail _ (.tail _ (.tail _ (.head _)))))), List.forall_mem_cons.mpr ⟨.tail _ (.tail _ (.tail _ (.tail _ (.tail _ (.tail _ (.tail _ (.head _))))))), List.forall_mem_cons.mpr ⟨.tail _ (.tail _ (.tail _ (.tail _ (.tail _ (.tail _ (.tail _ (.tail _ (.head _)))))))), List.forall_mem_cons.mpr ⟨.tail _ (.tail _ (.tail _ (.tail _ (.tail _ (.tail _ (.tail _ (.tail _ (.tail _ (.head _))))))))), List.forall_mem_cons.mpr ⟨.tail _ (.tail _ (.tail _ (.tail _ (.tail _ (.tail _ (.tail _ (.tail _ (.tail _ (.tail _ (.head _)))))))))), List.forall_mem_cons.mpr ⟨.tail _ (.tail _ (.tail _ (.tail _ (.tail _ (.tail _ (.tail _ (.tail _ (.tail _ (.tail _ (.tail _ (.head _))))))))))), List.forall_mem_cons.mpr ⟨.tail _ (.tail _ (.tail _ (.tail _ (.tail _ (.tail _ (.tail _ (.tail _ (.tail _ (.tail _ (.tail _ (.tail _ (.head _)))))))))))), List.forall_mem_cons.mpr ⟨.tail _ (.tail _ (.tail _ (.tail _ (.tail _ (.tail _ (.tail _ (.tail _ (.tail _ (.tail _ (.tail _ (.tail _ (.tail _ (.head _))))))))))))), List.forall_mem_cons.mpr ⟨.tail _ (.tail _ (.tail _ (.tail _ (.tail _ (.tail _ (.tail _ (.tail _ (.tail _ (.tail _ (.tail _ (.tail _ (.tail _ (.tail _ (.head _)))))))))))))), List.forall_mem_cons.mpr ⟨.tail _ (.tail _ (.tail _ (.tail _ (.tail _ (.tail _ (.tail _ (.tail _ (.tail _ (.tail _ (.tail _ (.tail _ (.tail _ (.tail _ (.tail _ (.head _))))))))))))))), List.forall_mem_cons.mpr ⟨.tail _ (.tail _ (.tail _ (.tail _ (.tail _ (.tail _ (.tail _ (.tail _ (.tail _ (.tail _ (.tail _ (.tail _ (.tail _ (.tail _ (.tail _ (.tail _ (.head _)))))))))))))))), fun p hp => .tail _ (.tail _ (.tail _ (.tail _ (.tail _ (.tail _ (.tail _ (.tail _ (.tail _ (.tail _ (.tail _ (.tail _ (.tail _ (.tail _ (.tail _ (.tail _ (.tail _ (hp)))))))))))))))))⟩⟩⟩⟩⟩⟩⟩⟩⟩⟩⟩⟩⟩⟩⟩)
        clear N16 l16
        k_steps
        (rename Fr _ _ _ _ => F18)
        (rename News _ _ _ _ => N18)
        rename_i Dt h18 _ l18
        unfold Halt
        rw [hev, hod] at N18
        obtain ⟨ta9, tb9, N19⟩ : ∃ a b, News _ _ _ ((Dt, pairO (cntOdd (resL (nN + c.i))) ((resL (nN + c.i)).length - cntOdd (resL (nN + c.i))) a b) :: _) := ⟨_, _, N18⟩
        clear N18
        have N20 := cb_drop (news := ((CT, W.listOf c.cts.toArray c.ce) :: (Dt, pairO (cntOdd (resL (nN + c.i))) ((resL (nN + c.i)).length - cntOdd (resL (nN + c.i))) ta9 tb9) :: (I, o5) :: (l8, W.listOf (List.toArray [Value.int (nN : Int) tn8, Value.int ((nN : Int) + 1) tn9]) 0) :: (pb, W.listOf ([]).toArray ep6) :: (x, instObj 101 dx) :: (dx, (dictOf [{ hash := PyData.keyHash wd.params ("lineno" : Str), key := .str ("lineno" : Str) n1, val := .int ln6 n56 }, { hash := PyData.keyHash wd.params ("instream" : Str), key := .str ("instream" : Str) n2, val := .ref fS }, { hash := PyData.keyHash wd.params ("whitespace" : Str), key := .str ("whitespace" : Str) n3, val := .str (PySem.Str.ofString "\n\t\x0d ") n6 }, { hash := PyData.keyHash wd.params ("pushback" : Str), key := .str ("pushback" : Str) n4, val := .ref pb }] 4)) :: (dS, dictOf [{ hash := PyData.keyHash wd.params ("read" : Str), key := .str ("read" : Str) n7, val := .ref r }] 1) :: (fS, ({ cls := .type "function", dict := some dS, data := .func fd } : Obj)) :: (r, fnMade nm qu ps bd sc [(("signs" : Str), cS)] dc pm cr ct) :: (cr, oc) :: (cS, oS) :: (S, W.listOf (vs6).toArray ep26) :: (119, tabObj pt) :: (s1.heap.objs.size + 1, o6) :: (td7 ++ (tb7 ++ c.tu)))) N19 (List.forall_mem_cons.mpr ⟨.tail _ (.tail _ (.tail _ (.tail _ (.head _)))), List.forall_mem_cons.mpr ⟨.head _, List.forall_mem_cons.mpr ⟨.tail _ (.tail _ (.head _)), List.forall_mem_cons.mpr ⟨.tail _ (.tail _ (.tail _ (.head _))), List.forall_mem_cons.mpr ⟨.tail _ (.tail _ (.tail _ (.tail _ (.tail _ (.head _))))), List.forall_mem_cons.mpr ⟨.tail _ (.tail _ (.tail _ (.tail _ (.tail _ (.tail _ (.head _)))))), List.forall_mem_cons.mpr ⟨.tail _ (.tail _ (.tail _ (.tail _ (.tail _ (.tail _ (.tail _ (.head _))))))), List.forall_mem_cons.mpr ⟨.tail _ (.tail _ (.tail _ (.tail _ (.tail _ (.tail _ (.tail _ (.tail _ (.head _)))))))), List.forall_mem_cons.mpr ⟨.tail _ (.tail _ (.tail _ (.tail _ (.tail _ (.tail _ (.tail _ (.tail _ (.tail _ (.head _))))))))), List.forall_mem_cons.mpr ⟨.tail _ (.tail _ (.tail _ (.tail _ (.tail _ (.tail _ (.tail _ (.tail _ (.tail _ (.tail _ (.head _)))))))))), List.forall_mem_cons.mpr ⟨.tail _ (.tail _ (.tail _ (.tail _ (.tail _ (.tail _ (.tail _ (.tail _ (.tail _ (.tail _ (.tail _ (.head _))))))))))), List.forall_mem_cons.mpr ⟨.tail _ (.tail _ (.tail _ (.tail _ (.tail _ (.tail _ (.tail _ (.tail _ (.tail _ (.tail _ (.tail _ (.tail _ (.head _)))))))))))), List.forall_mem_cons.mpr ⟨.tail _ (.tail _ (.tail _ (.tail _ (.tail _ (.tail _ (.tail _ (.tail _ (.tail _ (.tail _ (.tail _ (.tail _ (.tail _ (.head _))))))))))))), List.forall_mem_cons.mpr ⟨.tail _ (.tail _ (.tail _ (.tail _ (.tail _ (.tail _ (.tail _ (.tail _ (.tail _ (.tail _ (.tail _ (.tail _ (.tail _ (.tail _ (.head _)))))))))))))), List.forall_mem_cons.mpr ⟨.tail _ (.tail _ (.tail _ (.tail _ (.tail _ (.tail _ (.tail _ (.tail _ (.tail _ (.tail _ (.tail _ (.tail _ (.tail _ (.tail _ (.tail _ (.head _))))))))))))))), fun p hp => .tail _ (.tail _ (.tail _ (.tail _ (.tail _ (.tail _ (.tail _ (.tail _ (.tail _ (.tail _ (.tail _ (.tail _ (.tail _ (.tail _ (.tail _ (.tail _ (hp))))))))))))))))⟩⟩⟩⟩⟩⟩⟩⟩⟩⟩⟩⟩⟩⟩⟩)
        clear N19
        (try dsimp only at l18)
        have lCD : @LT.lt Nat _ CT Dt := l18.2.2.2.1
        have lC119 : @LT.lt Nat _ 119 CT := by dsimp only at *; omega
        have lCc : @LT.lt Nat _ (s1.heap.objs.size + 1) CT := by dsimp only at *; omega
        have hctl : c.cts.length ≤ 2 := by rw [ct4.length, List.length_map, List.length_take]; show min c.i 2 ≤ 2; omega
        refine' append_K F18 N20 ?un ?_ ?zn
        (case un => k_upd)
        (case zn => rw [List.size_toArray]; exact fits4000' (by omega))
        intro h21y F22 N22y
        rw [List.push_toArray] at N22y
        k_steps
        have lall : ∀ p ∈ td7 ++ (tb7 ++ c.tu), @LT.lt Nat _ p.1 Dt := allLt_to l18.2.2.2.2.2.2.2.2.2.2.2.2.2.2.2
        refine ksw_end ⟨c.i + 1, o5, c.cts ++ [Value.ref Dt], c.ce + 1, vs6, ln6, n56, ep6, ep26, tb7, td7, (Dt, pairO (cntOdd (resL (nN + c.i))) ((resL (nN + c.i)).length - cntOdd (resL (nN + c.i))) ta9 tb9) :: c.tu⟩ (by k_asm) (by k_asm) ?hnbn trivial ?hkbn ?hrbn ?hpbn ?hmbn
        (case hnbn => exact List.forall_mem_cons.mpr ⟨.tail _ (.tail _ (.head _)), List.forall_mem_cons.mpr ⟨.tail _ (.tail _ (.tail _ (.head _))), List.forall_mem_cons.mpr ⟨.head _, List.forall_mem_cons.mpr ⟨.tail _ (.tail _ (.tail _ (.tail _ (.head _)))), List.forall_mem_cons.mpr ⟨.tail _ (.tail _ (.tail _ (.tail _ (.tail _ (.head _))))), List.forall_mem_cons.mpr ⟨.tail _ (.tail _ (.tail _ (.tail _ (.tail _ (.tail _ (.head _)))))), List.forall_mem_cons.mpr ⟨.tail _ (.tail _ (.tail _ (.tail _ (.tail _ (.tail _ (.tail _ (.head _))))))), List.forall_mem_cons.mpr ⟨.tail _ (.tail _ (.tail _ (.tail _ (.tail _ (.tail _ (.tail _ (.tail _ (.head _)))))))), List.forall_mem_cons.mpr ⟨.tail _ (.tail _ (.tail _ (.tail _ (.tail _ (.tail _ (.tail _ (.tail _ (.tail _ (.head _))))))))), List.forall_mem_cons.mpr ⟨.tail _ (.tail _ (.tail _ (.tail _ (.tail _ (.tail _ (.tail _ (.tail _ (.tail _ (.tail _ (.head _)))))))))), List.forall_mem_cons.mpr ⟨.tail _ (.tail _ (.tail _ (.tail _ (.tail _ (.tail _ (.tail _ (.tail _ (.tail _ (.tail _ (.tail _ (.head _))))))))))), List.forall_mem_cons.mpr ⟨.tail _ (.tail _ (.tail _ (.tail _ (.tail _ (.tail _ (.tail _ (.tail _ (.tail _ (.tail _ (.tail _ (.tail _ (.head _)))))))))))), List.forall_mem_cons.mpr ⟨.tail _ (.tail _ (.tail _ (.tail _ (.tail _ (.tail _ (.tail _ (.tail _ (.tail _ (.tail _ (.tail _ (.tail _ (.tail _ (.head _))))))))))))), List.forall_mem_cons.mpr ⟨.tail _ (.tail _ (.tail _ (.tail _ (.tail _ (.tail _ (.tail _ (.tail _ (.tail _ (.tail _ (.tail _ (.tail _ (.tail _ (.tail _ (.head _)))))))))))))), List.forall_mem_append.mpr ⟨fun p hp => .tail _ (.tail _ (.tail _ (.tail _ (.tail _ (.tail _ (.tail _ (.tail _ (.tail _ (.tail _ (.tail _ (.tail _ (.tail _ (.tail _ (.tail _ (List.mem_append.mpr (.inl hp)))))))))))))))), List.forall_mem_append.mpr ⟨fun p hp => .tail _ (.tail _ (.tail _ (.tail _ (.tail _ (.tail _ (.tail _ (.tail _ (.tail _ (.tail _ (.tail _ (.tail _ (.tail _ (.tail _ (.tail _ (List.mem_append.mpr (.inr (List.mem_append.mpr (.inl hp)))))))))))))))))), List.forall_mem_cons.mpr ⟨.tail _ (.head _), fun p hp => .tail _ (.tail _ (.tail _ (.tail _ (.tail _ (.tail _ (.tail _ (.tail _ (.tail _ (.tail _ (.tail _ (.tail _ (.tail _ (.tail _ (.tail _ (List.mem_append.mpr (.inr (List.mem_append.mpr (.inr hp))))))))))))))))))⟩⟩⟩⟩⟩⟩⟩⟩⟩⟩⟩⟩⟩⟩⟩⟩⟩)
        (case hkbn => exact fun _ h => nomatch h)
        (case hrbn => (intro z h2 h3; simp only [List.contains_cons, List.contains_nil, Bool.or_false, Bool.or_eq_false_iff, beq_eq_false_iff_ne, ne_eq] at h3; simp [kstB, h3]))
        (case hmbn => (dsimp only; omega))
        refine ⟨by dsimp only; omega, lo5, by dsimp only; rw [hRS]; exact sg6, ti7, td7k, atb7, atd7, ?_, ?_, ?_, ?_⟩
        · exact List.forall_mem_cons.mpr ⟨List.forall_mem_cons.mpr ⟨by refine neN ?_; (try dsimp only); omega, List.forall_mem_cons.mpr ⟨by refine neN ?_; (try dsimp only); omega, List.forall_mem_cons.mpr ⟨by refine neN ?_; (try dsimp only); omega, List.forall_mem_cons.mpr ⟨by refine neN ?_; (try dsimp only); omega, List.forall_mem_cons.mpr ⟨by refine neN ?_; (try dsimp only); omega, List.forall_mem_cons.mpr ⟨by refine neN ?_; (try dsimp only); omega, List.forall_mem_cons.mpr ⟨by refine neN ?_; (try dsimp only); omega, List.forall_mem_cons.mpr ⟨by refine neN ?_; (try dsimp only); omega, List.forall_mem_cons.mpr ⟨by refine neN ?_; (try dsimp only); omega, List.forall_mem_cons.mpr ⟨by refine neN ?_; (try dsimp only); omega, List.forall_mem_cons.mpr ⟨by refine neN ?_; (try dsimp only); omega, List.forall_mem_cons.mpr ⟨by refine neN ?_; (try dsimp only); omega, List.forall_mem_cons.mpr ⟨by refine neN ?_; (try dsimp only); omega, List.forall_mem_cons.mpr ⟨by refine neN ?_; (try dsimp only); omega, fun _ h => nomatch h⟩⟩⟩⟩⟩⟩⟩⟩⟩⟩⟩⟩⟩⟩, atu⟩
        · exact fun p hp => List.forall_mem_append.mpr ⟨fun q hq => dtb7 p hp q (List.mem_append.mpr (.inl hq)), List.forall_mem_cons.mpr ⟨Nat.ne_of_lt (lall p (List.mem_append.mpr (.inr (List.mem_append.mpr (.inl hp))))), fun q hq => dtb7 p hp q (List.mem_append.mpr (.inr hq))⟩⟩
        · exact fun p hp => List.forall_mem_cons.mpr ⟨Nat.ne_of_lt (lall p (List.mem_append.mpr (.inl hp))), fun q hq => dtd7 p hp q hq⟩
        · dsimp only
          rw [htake, List.map_append]
          exact ct4.snoc
    · have hi2 : c.i = 2 := by omega
      rw [hi2] at ct4 sg4
      obtain ⟨xx, hxx⟩ : ∃ xx, cntOf nN = xx := ⟨_, rfl⟩
      obtain ⟨yy, hyy⟩ : ∃ yy, cntOf (nN + 1) = yy := ⟨_, rfl⟩
      have ct5 : CtA c.cts c.tu [xx, yy] := by rw [← hxx, ← hyy]; exact ct4
      clear ct4
      have hcmp : ((yy.1 : Nat) : Int) = ((xx.2 : Nat) : Int) + 1 := by
        rw [← hxx, ← hyy]
        have := next_all nN (by omega) (by omega)
        show ((cntOdd (resL (nN + 1)) : Nat) : Int) = (((resL nN).length - cntOdd (resL nN) : Nat) : Int) + 1
        rw [this]; rfl
      clear hxx hyy
      obtain ⟨D0, D1, ta0, tb0, ta1, tb1, e1, e2⟩ := ctA_two ct5
      rw [e1, e2] at N4
      rw [e2] at atu
      have atu1 := atu (D1, pairO yy.1 yy.2 ta1 tb1) (.head _)
      have atu0 := atu (D0, pairO xx.1 xx.2 ta0 tb0) (.tail _ (.head _))
      obtain ⟨p44, h44⟩ := tabD_mem td4
      obtain ⟨p37, h37⟩ := tabI_mem ti4
      have sg5 : SgA c.vs [] := sg4
      have lI119 : @LT.lt Nat _ 119 I := by dsimp only at *; omega
      have lIc : @LT.lt Nat _ (s1.heap.objs.size + 1) I := by dsimp only at *; omega
      refine li_end (D := l8) rfl F4 N4 (.head _) lo4 (.tail _ (.head _)) (by show 2 ≤ c.i; omega) (nx := ((pb, W.listOf ([]).toArray c.ep) :: (x, instObj 101 dx) :: (dx, (dictOf [{ hash := PyData.keyHash wd.params ("lineno" : Str), key := .str ("lineno" : Str) n1, val := .int c.ln c.n5 }, { hash := PyData.keyHash wd.params ("instream" : Str), key := .str ("instream" : Str) n2, val := .ref fS }, { hash := PyData.keyHash wd.params ("whitespace" : Str), key := .str ("whitespace" : Str) n3, val := .str (PySem.Str.ofString "\n\t\x0d ") n6 }, { hash := PyData.keyHash wd.params ("pushback" : Str), key := .str ("pushback" : Str) n4, val := .ref pb }] 4)) :: (dS, dictOf [{ hash := PyData.keyHash wd.params ("read" : Str), key := .str ("read" : Str) n7, val := .ref r }] 1) :: (fS, ({ cls := .type "function", dict := some dS, data := .func fd } : Obj)) :: (r, fnMade nm qu ps bd sc [(("signs" : Str), cS)] dc pm cr ct) :: (cr, oc) :: (cS, oS) :: (S, W.listOf (c.vs).toArray c.ep2) :: (CT, W.listOf (List.toArray [Value.ref D0, Value.ref D1]) c.ce) :: (119, tabObj pt) :: (s1.heap.objs.size + 1, o6) :: (D1, pairO yy.1 yy.2 ta1 tb1) :: (D0, pairO xx.1 xx.2 ta0 tb0) :: (44, tabObj p44) :: (37, tabObj p37) :: [])) (List.forall_mem_cons.mpr ⟨.tail _ (.tail _ (.tail _ (.head _))), List.forall_mem_cons.mpr ⟨.tail _ (.tail _ (.tail _ (.tail _ (.head _)))), List.forall_mem_cons.mpr ⟨.tail _ (.tail _ (.tail _ (.tail _ (.tail _ (.head _))))), List.forall_mem_cons.mpr ⟨.tail _ (.tail _ (.tail _ (.tail _ (.tail _ (.tail _ (.head _)))))), List.forall_mem_cons.mpr ⟨.tail _ (.tail _ (.tail _ (.tail _ (.tail _ (.tail _ (.tail _ (.head _))))))), List.forall_mem_cons.mpr ⟨.tail _ (.tail _ (.tail _ (.tail _ (.tail _ (.tail _ (.tail _ (.tail _ (.head _)))))))), List.forall_mem_cons.mpr ⟨.tail _ (.tail _ (.tail _ (.tail _ (.tail _ (.tail _ (.tail _ (.tail _ (.tail _ (.head _))))))))), List.forall_mem_cons.mpr ⟨.tail _ (.tail _ (.tail _ (.tail _ (.tail _ (.tail _ (.tail _ (.tail _ (.tail _ (.tail _ (.head _)))))))))), List.forall_mem_cons.mpr ⟨.tail _ (.tail _ (.tail _ (.tail _ (.tail _ (.tail _ (.tail _ (.tail _ (.tail _ (.tail _ (.tail _ (.head _))))))))))), List.forall_mem_cons.mpr ⟨.tail _ (.tail _ (.head _)), List.forall_mem_cons.mpr ⟨.tail _ (.tail _ (.tail _ (.tail _ (.tail _ (.tail _ (.tail _ (.tail _ (.tail _ (.tail _ (.tail _ (.tail _ (.head _)))))))))))), List.forall_mem_cons.mpr ⟨.tail _ (.tail _ (.tail _ (.tail _ (.tail _ (.tail _ (.tail _ (.tail _ (.tail _ (.tail _ (.tail _ (.tail _ (.tail _ (.head _))))))))))))), List.forall_mem_cons.mpr ⟨.tail _ (.tail _ (.tail _ (.tail _ (.tail _ (.tail _ (.tail _ (.tail _ (.tail _ (.tail _ (.tail _ (.tail _ (.tail _ (.tail _ (List.mem_append.mpr (.inr (List.mem_append.mpr (.inr (.head _)))))))))))))))))), List.forall_mem_cons.mpr ⟨.tail _ (.tail _ (.tail _ (.tail _ (.tail _ (.tail _ (.tail _ (.tail _ (.tail _ (.tail _ (.tail _ (.tail _ (.tail _ (.tail _ (List.mem_append.mpr (.inr (List.mem_append.mpr (.inr (.tail _ (.head _))))))))))))))))))), List.forall_mem_cons.mpr ⟨.tail _ (.tail _ (.tail _ (.tail _ (.tail _ (.tail _ (.tail _ (.tail _ (.tail _ (.tail _ (.tail _ (.tail _ (.tail _ (.tail _ (List.mem_append.mpr (.inl h44))))))))))))))), List.forall_mem_cons.mpr ⟨.tail _ (.tail _ (.tail _ (.tail _ (.tail _ (.tail _ (.tail _ (.tail _ (.tail _ (.tail _ (.tail _ (.tail _ (.tail _ (.tail _ (List.mem_append.mpr (.inr (List.mem_append.mpr (.inl h37))))))))))))))))), fun _ h => nomatch h⟩⟩⟩⟩⟩⟩⟩⟩⟩⟩⟩⟩⟩⟩⟩⟩) (List.forall_mem_cons.mpr ⟨by refine neN ?_; (try dsimp only at *); omega, List.forall_mem_cons.mpr ⟨by refine neN ?_; (try dsimp only at *); omega, List.forall_mem_cons.mpr ⟨by refine neN ?_; (try dsimp only at *); omega, List.forall_mem_cons.mpr ⟨by refine neN ?_; (try dsimp only at *); omega, List.forall_mem_cons.mpr ⟨by refine neN ?_; (try dsimp only at *); omega, List.forall_mem_cons.mpr ⟨by refine neN ?_; (try dsimp only at *); omega, List.forall_mem_cons.mpr ⟨by refine neN ?_; (try dsimp only at *); omega, List.forall_mem_cons.mpr ⟨by refine neN ?_; (try dsimp only at *); omega, List.forall_mem_cons.mpr ⟨by refine neN ?_; (try dsimp only at *); omega, List.forall_mem_cons.mpr ⟨by refine neN ?_; (try dsimp only at *); omega, List.forall_mem_cons.mpr ⟨by refine neN ?_; (try dsimp only at *); omega, List.forall_mem_cons.mpr ⟨by refine neN ?_; (try dsimp only at *); omega, List.forall_mem_cons.mpr ⟨atu1 I (by repeat (first | exact .head _ | refine .tail _ ?_)), List.forall_mem_cons.mpr ⟨atu0 I (by repeat (first | exact .head _ | refine .tail _ ?_)), List.forall_mem_cons.mpr ⟨atd _ h44 I (by repeat (first | exact .head _ | refine .tail _ ?_)), List.forall_mem_cons.mpr ⟨atb _ h37 I (by repeat (first | exact .head _ | refine .tail _ ?_)), fun _ h => nomatch h⟩⟩⟩⟩⟩⟩⟩⟩⟩⟩⟩⟩⟩⟩⟩⟩) (fun h5 F5 N5 => ?_)
      clear N4 F4
      (try dsimp only)
      k_steps
      unfold Halt
      (rename News _ _ _ _ => Nwp1)
      refine' tail_any (News.isList (a := CT) (items := (List.toArray [Value.ref D0, Value.ref D1])) Nwp1 ?mlp1).typeIs slot_list_getitem.lookup (wpAny_getItem_list (News.isList (a := CT) (items := (List.toArray [Value.ref D0, Value.ref D1])) Nwp1 ?mkp1) (by decide) (by decide) (x := .ref D1) rfl ?_) (by with_unfolding_all rfl)
      (case mlp1 => exact .tail _ (.tail _ (.tail _ (.tail _ (.tail _ (.tail _ (.tail _ (.tail _ (.tail _ (.head _))))))))))
      (case mkp1 => exact .tail _ (.tail _ (.tail _ (.tail _ (.tail _ (.tail _ (.tail _ (.tail _ (.tail _ (.head _))))))))))
      k_steps
      unfold Halt
      refine' item_tupleT (l := [Value.int ((yy.1 : Nat) : Int) ta1, Value.int ((yy.2 : Nat) : Int) tb1]) (j := 0) ⟨_, (Nwp1 _ (.tail _ (.tail _ (.tail _ (.tail _ (.tail _ (.tail _ (.tail _ (.tail _ (.tail _ (.tail _ (.tail _ (.tail _ (.head _)))))))))))))).1, rfl, _, rfl⟩ (by decide) (by decide) rfl rfl ?_ (by with_unfolding_all rfl)
      k_steps
      unfold Halt
      (rename News _ _ _ _ => Nwp2)
      refine' tail_any (News.isList (a := CT) (items := (List.toArray [Value.ref D0, Value.ref D1])) Nwp2 ?mlp2).typeIs slot_list_getitem.lookup (wpAny_getItem_list (News.isList (a := CT) (items := (List.toArray [Value.ref D0, Value.ref D1])) Nwp2 ?mkp2) (by decide) (by decide) (x := .ref D0) rfl ?_) (by with_unfolding_all rfl)
      (case mlp2 => exact .tail _ (.tail _ (.tail _ (.tail _ (.tail _ (.tail _ (.tail _ (.tail _ (.tail _ (.head _))))))))))
      (case mkp2 => exact .tail _ (.tail _ (.tail _ (.tail _ (.tail _ (.tail _ (.tail _ (.tail _ (.tail _ (.head _))))))))))
      k_steps
      unfold Halt
      refine' item_tupleT (l := [Value.int ((xx.1 : Nat) : Int) ta0, Value.int ((xx.2 : Nat) : Int) tb0]) (j := 1) ⟨_, (Nwp2 _ (.tail _ (.tail _ (.tail _ (.tail _ (.tail _ (.tail _ (.tail _ (.tail _ (.tail _ (.tail _ (.tail _ (.tail _ (.tail _ (.head _))))))))))))))).1, rfl, _, rfl⟩ (by decide) (by decide) rfl rfl ?_ (by with_unfolding_all rfl)
      k_steps
      unfold Halt
      (try dsimp only [List.nil_append, List.append_nil])
      (rename News _ _ _ _ => N30)
      refine' gt_spec (wsp := PySem.Str.ofString "\n\t\x0d ") (pd := []) (ws := []) (rest := (CT, W.listOf (List.toArray [Value.ref D0, Value.ref D1]) c.ce) :: (119, tabObj pt) :: (s1.heap.objs.size + 1, o6) :: (D1, pairO yy.1 yy.2 ta1 tb1) :: (D0, pairO xx.1 xx.2 ta0 tb0) :: (44, tabObj p44) :: (37, tabObj p37) :: []) ?Bq ?Fq ?Xq ?Nq ?Tq ?hkq ?hdq ?huq hnd hoc hoc1 hoS o1 o2 o3 o4 o5x o6' o7 o8 ?q1q ?q2q ?q3q sg5 (fun _ h => nomatch h) (Nat.zero_le _) ?retq
      (case Bq => k_asm)
      (case Fq => k_asm)
      (case Xq => k_asm)
      (case Nq => exact N30)
      (case Tq => k_asm)
      (case hkq => exact rfl)
      (case hdq => decide +kernel)
      (case huq => decide +kernel)
      case q1q => exact List.forall_mem_cons.mpr ⟨by refine neN ?_; (try dsimp only at *); omega, List.forall_mem_cons.mpr ⟨by refine neN ?_; (try dsimp only at *); omega, List.forall_mem_cons.mpr ⟨by refine neN ?_; (try dsimp only at *); omega, List.forall_mem_cons.mpr ⟨atu1 S (by repeat (first | exact .head _ | refine .tail _ ?_)), List.forall_mem_cons.mpr ⟨atu0 S (by repeat (first | exact .head _ | refine .tail _ ?_)), List.forall_mem_cons.mpr ⟨atd _ h44 S (by repeat (first | exact .head _ | refine .tail _ ?_)), List.forall_mem_cons.mpr ⟨atb _ h37 S (by repeat (first | exact .head _ | refine .tail _ ?_)), fun _ h => nomatch h⟩⟩⟩⟩⟩⟩⟩
      case q2q => exact List.forall_mem_cons.mpr ⟨by refine neN ?_; (try dsimp only at *); omega, List.forall_mem_cons.mpr ⟨by refine neN ?_; (try dsimp only at *); omega, List.forall_mem_cons.mpr ⟨by refine neN ?_; (try dsimp only at *); omega, List.forall_mem_cons.mpr ⟨atu1 dx (by repeat (first | exact .head _ | refine .tail _ ?_)), List.forall_mem_cons.mpr ⟨atu0 dx (by repeat (first | exact .head _ | refine .tail _ ?_)), List.forall_mem_cons.mpr ⟨atd _ h44 dx (by repeat (first | exact .head _ | refine .tail _ ?_)), List.forall_mem_cons.mpr ⟨atb _ h37 dx (by repeat (first | exact .head _ | refine .tail _ ?_)), fun _ h => nomatch h⟩⟩⟩⟩⟩⟩⟩
      case q3q => exact List.forall_mem_cons.mpr ⟨by refine neN ?_; (try dsimp only at *); omega, List.forall_mem_cons.mpr ⟨by refine neN ?_; (try dsimp only at *); omega, List.forall_mem_cons.mpr ⟨by refine neN ?_; (try dsimp only at *); omega, List.forall_mem_cons.mpr ⟨atu1 pb (by repeat (first | exact .head _ | refine .tail _ ?_)), List.forall_mem_cons.mpr ⟨atu0 pb (by repeat (first | exact .head _ | refine .tail _ ?_)), List.forall_mem_cons.mpr ⟨atd _ h44 pb (by repeat (first | exact .head _ | refine .tail _ ?_)), List.forall_mem_cons.mpr ⟨atb _ h37 pb (by repeat (first | exact .head _ | refine .tail _ ?_)), fun _ h => nomatch h⟩⟩⟩⟩⟩⟩⟩
      intro vs31 ln31 n31 ep31 h31 tk31 tr31 F31 N31 sg31
      rw [show gO (PySem.Str.ofString "\n\t\x0d ") ([] : List Str) ("" : Str) = (("" : Str), []) by rw [gO]]
      (try dsimp only)
      k_steps)
end
end
end Mine
set_option maxHeartbeats 4000000 in
theorem PySem.Challenge.cw_pg0212_01_holds : PySem.Challenge.rw_pg0212_01.Holds := by
  exact Mine.law_one
