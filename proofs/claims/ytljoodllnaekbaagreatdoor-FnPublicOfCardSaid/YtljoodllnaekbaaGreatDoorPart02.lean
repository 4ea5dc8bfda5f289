/- Part 2 of the proof. What the reference's 'BigPower', 'BigBytes', 'Significant', 'Bits', 'Octets', 'Number' and 'MPI' compute, as lists. The rules of the walks: statements whose order Go leaves open, some of which act. What only reads is put first; what acts is taken in each order that is open. The group's numbers, and what 'SecretNumber', 'PublicNumber', 'GroupKey', 'KeyBody' compute of them. Structs that are built, and results that lie in cells. The rules of the walks over unsigned numbers. 'spec.trim': the digits without zeros at their end. 'spec.FromBytes': the digits of bytes. 'spec.Plus': a sum. 'spec.Minus': a difference. 'spec.shifted': a number times a power of two. 'spec.Compare': which number is greater. 'spec.takeAway': a number less some times another. No condition. -/
import Derived.Test.YtljoodllnaekbaaGreatDoorPart01
namespace Go.Proofs.YtljoodllnaekbaaGreatDoor
open Go

theorem prodL_valid {a b : List Nat} (ha : Val16 a) (hb : Val16 b) : Val16 (prodL a b) := trimL_valid (prods_row ha hb a.length (Nat.le_refl _)).ok
theorem prodL_length {a b : List Nat} (ha : Val16 a) (hb : Val16 b) : (prodL a b).length ≤ a.length + b.length := by
  have := trimL_length_le (prods a b a.length)
  rwa [(prods_row ha hb a.length (Nat.le_refl _)).len] at this
theorem restL_valid (a m : List Nat) (n : Nat) : Val16 (restL a m n) := restC_valid _ _ _ _
theorem restL_length {m : List Nat} {n : Nat} (h : Modulus m n) (a : List Nat) : (restL a m n).length ≤ 401 := by
  have h1 := restC_length a n (shiftL m n).length (val (shiftL m n))
  have h2 := shiftL_length m n
  have h3 := h.short
  unfold restL; omega
/-- 'BigPower': one bit, a byte's bits, all. -/
def powBit (g m : List Nat) (n d : Nat) (x : List Nat) (i : Nat) : List Nat :=
  if d / 2 ^ i % 2 = 1 then restL (prodL (restL (prodL x x) m n) g) m n else restL (prodL x x) m n
def powBits (g m : List Nat) (n d : Nat) (x : List Nat) : Nat → List Nat
  | 0 => x
  | t + 1 => powBit g m n d (powBits g m n d x t) (7 - t)
def powL (g e m : List Nat) (n : Nat) : List Nat := e.foldl (fun x d => powBits g m n d x 8) [1]
theorem powL_take (g e m : List Nat) (n i : Nat) (h : i < e.length) : powL g (e.take (i + 1)) m n = powBits g m n (e.getD i 0) (powL g (e.take i) m n) 8 := by
  rw [take_snoc e i h]
  simp [powL]
theorem powBits_next (g m : List Nat) (n d : Nat) (x : List Nat) (i : Nat) (h : i < 8) : powBits g m n d x (8 - i) = powBit g m n d (powBits g m n d x (8 - (i + 1))) i := by
  rw [show 8 - i = (8 - (i + 1)) + 1 by omega, powBits, show 7 - (8 - (i + 1)) = i by omega]
theorem and_one_u8 {x : Nat} (h : x < 256) : andI .u8 (x : Int) 1 = ((x % 2 : Nat) : Int) := by
  unfold andI
  rw [show IntKind.u8.bits = 8 from rfl, show (1 : Int) = ((1 : Nat) : Int) from rfl, toNat_and 8 x 1 (by omega) (by omega)]
  rw [show (1 : Nat) = 2 ^ 1 - 1 from rfl, Nat.and_two_pow_sub_one_eq_mod, w_u8 (by omega)]
theorem and_128_u8 {x : Nat} (h : x < 256) : andI .u8 (x : Int) 128 = ((x &&& 128 : Nat) : Int) := by
  unfold andI
  rw [show IntKind.u8.bits = 8 from rfl, show (128 : Int) = ((128 : Nat) : Int) from rfl, toNat_and 8 x 128 (by omega) (by omega)]
  have : x &&& 128 ≤ x := Nat.and_le_left
  rw [w_u8 (by omega)]
theorem shl_one_u8 {x : Nat} : shlI .u8 (x : Int) 1 = ((x * 2 % 256 : Nat) : Int) := by
  unfold shlI
  rw [show min (1 : Int).toNat IntKind.u8.bits = 1 from rfl, show (x : Int) * 2 ^ 1 = ((x * 2 : Nat) : Int) by omega, conv_u8]

/-- 'BigBytes': the bytes of the last t digits, the greatest first. -/
def bbs (a : List Nat) : Nat → List Nat
  | 0 => []
  | t + 1 => bbs a t ++ [a.getD (a.length - 1 - t) 0 / 2 ^ 8 % 256, a.getD (a.length - 1 - t) 0 % 256]
theorem bbs_length (a : List Nat) (t : Nat) : (bbs a t).length = 2 * t := by
  induction t with
  | zero => rfl
  | succ t ih => simp [bbs, ih]; omega
/-- 'Significant': without zeros at the head. -/
def sigL (xs : List Nat) : List Nat := xs.dropWhile (· == 0)
theorem sigL_length (xs : List Nat) : (sigL xs).length ≤ xs.length := (List.dropWhile_suffix _).length_le
theorem sigL_drop_zero {xs : List Nat} {k : Nat} (hk : k < xs.length) (h : xs.getD k 0 = 0) : sigL (xs.drop k) = sigL (xs.drop (k + 1)) := by
  rw [List.drop_eq_getElem_cons hk]
  have : xs[k] = 0 := by simpa [hk] using h
  simp [sigL, this]
theorem sigL_drop_ne {xs : List Nat} {k : Nat} (hk : k < xs.length) (h : xs.getD k 0 ≠ 0) : sigL (xs.drop k) = xs.drop k := by
  rw [List.drop_eq_getElem_cons hk]
  have : xs[k] ≠ 0 := by simpa [hk] using h
  rw [sigL, List.dropWhile_cons_of_neg (by simpa using this)]
theorem sigL_mem {xs : List Nat} : ∀ d ∈ sigL xs, d ∈ xs := fun _ h => (List.dropWhile_suffix _).subset h
theorem sigL_head {xs : List Nat} (h : 0 < (sigL xs).length) : (sigL xs).getD 0 0 ≠ 0 := by
  induction xs with
  | nil => simp [sigL] at h
  | cons d r ih =>
    by_cases hd : d = 0
    · subst hd
      have e : sigL (0 :: r) = sigL r := by simp [sigL]
      rw [e] at h ⊢
      exact ih h
    · have e : sigL (d :: r) = d :: r := by simp [sigL, hd]
      rw [e]; simpa using hd
def bigB (a : List Nat) : List Nat := sigL (bbs a a.length)
theorem bbs_byte (a : List Nat) (t : Nat) : ∀ d ∈ bbs a t, d < 256 := by
  induction t with
  | zero => intro d h; simp [bbs] at h
  | succ t ih =>
    intro d h
    rcases List.mem_append.1 h with h | h
    · exact ih d h
    · simp at h; omega
theorem bigB_byte (a : List Nat) : ∀ d ∈ bigB a, d < 256 := fun d h => bbs_byte a _ d (sigL_mem d h)
theorem bigB_length (a : List Nat) : (bigB a).length ≤ 2 * a.length := by
  have := sigL_length (bbs a a.length)
  rwa [bbs_length] at this
/-- 'Bits': how many. -/
def lz (d : Nat) : Nat := 7 - Nat.log2 d
theorem lz_step : ∀ x, x < 256 → x ≠ 0 → (x &&& 128 = 0 → lz (x * 2 % 256) + 1 = lz x ∧ x * 2 % 256 ≠ 0) ∧ (x &&& 128 ≠ 0 → lz x = 0) := by decide +kernel
theorem lz_le (x : Nat) : lz x ≤ 7 := by unfold lz; omega
def bitsN (a : List Nat) : Nat := 8 * (sigL a).length - (if (sigL a).length = 0 then 0 else lz ((sigL a).getD 0 0))
/-- 'Octets' -/
def octD (v k i : Nat) : Nat := v / 2 ^ (8 * (k - 1 - i)) % 256
def octL (v k : Nat) : List Nat := (List.range k).map (octD v k)
theorem octL_length (v k : Nat) : (octL v k).length = k := by simp [octL]
theorem octL_byte (v k : Nat) : ∀ d ∈ octL v k, d < 256 := fun d h => by
  obtain ⟨j, _, rfl⟩ := List.mem_map.1 h
  unfold octD; omega
/-- 'Number' -/
def numL (bs : List Nat) : Nat := bs.foldl (fun v b => v * 2 ^ 8 ||| b) 0
theorem numL_take (bs : List Nat) (i : Nat) (h : i < bs.length) : numL (bs.take (i + 1)) = numL (bs.take i) * 2 ^ 8 ||| bs.getD i 0 := by
  rw [take_snoc bs i h]
  simp [numL]
theorem numL_lt {bs : List Nat} (h : ∀ d ∈ bs, d < 256) (i : Nat) : i ≤ bs.length → numL (bs.take i) < 2 ^ (8 * i) := by
  induction i with
  | zero => intro _; simp [numL]
  | succ i ih =>
    intro hi
    rw [numL_take bs i (by omega)]
    have h1 := ih (by omega)
    have h2 := byte_at h i
    refine or_lt ?_ ?_
    · rw [show 8 * (i + 1) = 8 * i + 8 by omega, Nat.pow_add]
      exact Nat.mul_lt_mul_of_pos_right h1 (by decide)
    · refine Nat.lt_of_lt_of_le h2 ?_
      rw [show (256 : Nat) = 2 ^ 8 from rfl]
      exact Nat.pow_le_pow_right (by omega) (by omega)
/-- 'MPI' -/
def mpiL (a : List Nat) : List Nat := octL (bitsN a) 2 ++ sigL a
theorem mpiL_length (a : List Nat) : (mpiL a).length ≤ 2 + a.length := by
  have := sigL_length a
  simp [mpiL, octL_length]; omega
end Go.Proofs.YtljoodllnaekbaaGreatDoor

namespace Go.Proofs.YtljoodllnaekbaaGreatDoor
open Go

/-- Only an ordinary end. -/
def QN (K : Act → World → Prop) : Exit → Act → World → Prop
  | .normal, a, w => K a w
  | _, _, _ => False
/-- The frame is as it was, but for one slot. -/
def Same (x : Option Tmp) (a a' : Act) : Prop := ∃ u, a'.tmps = (a.put x u).tmps

section
variable {ops : Array Oper} {K0 : Act → World → Prop} {w0 : World} {L0 : Heap}
/-- An act beside a slot that it neither reads nor writes. -/
theorem op_beside {j : Nat} {oj : Oper} {x : Option Tmp} {v : Value} (hj : ops[j]? = some oj) (hr : ∀ d, x = some d → d ∉ oj.looksAt ops) (hd : ∀ d, x = some d → oj.dst ≠ some d)
    (hs : ∀ cs b, oj.op ≠ .select cs b) {K : Act → World → Prop} {a : Act} {w : World} (h : wpOp P ops (QN K0) j K (a.put x v) w) :
    wpOp P ops (QN K0) j (fun a' w' => Same oj.dst a a' ∧ K (a'.put x v) w') a w := by
  unfold wpOp at *
  simp only [hj] at *
  rw [wanted_put oj a x v hr] at h
  split
  · rename_i hw
    simp only [hw, if_true] at h
    rcases h with h | ⟨h1, h2⟩
    · left
      unfold Oper.wp at *
      rw [execOp_put oj hs a x v hr] at h
      generalize (execOp a.eval oj).run P w = r at *
      cases r with
      | ok q w' =>
        cases q <;> simp only [Oper.upon] at h ⊢
        case value u => exact ⟨⟨u, rfl⟩, by rw [← Act.put_comm a v u hd]; exact h⟩
        case skip => exact ⟨⟨undef, rfl⟩, by rw [← Act.put_comm a v undef hd]; exact h⟩
        case defer d =>
          refine ⟨⟨undef, by cases oj.dst <;> rfl⟩, ?_⟩
          rw [← Act.put_comm _ v undef hd, ← Act.put_defers]
          exact h
        case enter f args =>
          refine Calls.mono h fun e w2 he => ?_
          cases e with
          | returned u => exact ⟨⟨u, rfl⟩, by rw [← Act.put_comm a v u hd]; exact he⟩
          | panicked c => exact he.elim
          | outgrown => exact he
        case row row args => exact Rows.mono h fun u w2 he => ⟨⟨u, rfl⟩, by rw [← Act.put_comm a v u hd]; exact he⟩
      | halt y w' =>
        cases y <;> simp only [Oper.upon] at h ⊢
        case panic u => exact h.elim
    · right
      refine ⟨?_, h2⟩
      unfold Oper.asks at *
      rw [execOp_put oj hs a x v hr] at h1
      exact h1
  · rename_i hw
    simp only [hw] at h
    exact ⟨⟨undef, rfl⟩, by rw [← Act.put_comm a v undef hd]; exact h⟩

/-- It yields v in each world where these blocks are known. -/
def YI (w0 : World) (L0 : Heap) (ops : Array Oper) (o : Oper) (v : Value) (a : Act) : Prop :=
  (Region.wanted o (yielded ops a.tmps) = true ∧ ∀ w, HW w0 L0 w → (execOp a.eval o).run P w = .ok (.value v) w) ∨ (Region.wanted o (yielded ops a.tmps) = false ∧ v = undef)
theorem YI.keep {o : Oper} {v : Value} {a a' : Act} {x : Option Tmp} (h : YI w0 L0 ops o v a) (hs : Same x a a') (hx : ∀ d, x = some d → d ∉ o.looksAt ops) (hsel : ∀ cs b, o.op ≠ .select cs b) : YI w0 L0 ops o v a' := by
  obtain ⟨u, hu⟩ := hs
  have he : a'.eval = (a.put x u).eval := by
    funext y
    cases y <;> simp [Act.eval, hu]
  unfold YI at *
  rw [he, execOp_put o hsel a x u hx, hu, wanted_put o a x u hx]
  exact h
theorem YI.op {i : Nat} {o : Oper} {v : Value} {a : Act} {w : World} (hi : ops[i]? = some o) (hw : HW w0 L0 w) (hy : YI w0 L0 ops o v a) {K : Act → World → Prop} (h : K (a.put o.dst v) w) : wpOp P ops (QN K0) i K a w := by
  unfold wpOp
  simp only [hi]
  rcases hy with ⟨h1, h2⟩ | ⟨h1, rfl⟩
  · simp only [h1, if_true, Oper.wp, h2 w hw, Oper.upon]; exact .inl h
  · simp only [h1, Bool.false_eq_true, if_false]; exact h

/-- All orders that are open; the blocks stay known. -/
def anyC (w0 : World) (L0 : Heap) (ops : Array Oper) (K0 : Act → World → Prop) : Nat → Array Bool → Act → World → Prop
  | 0, listed, a, w => Region.ready .any ops listed = [] ∧ K0 a w
  | fuel + 1, listed, a, w => (Region.ready .any ops listed = [] → K0 a w) ∧
    ∀ i ∈ Region.ready .any ops listed, wpOp P ops (QN K0) i (fun a' w' => HW w0 L0 w' ∧ anyC w0 L0 ops K0 fuel (listed.setIfInBounds i true) a' w') a w
theorem anyC_more : ∀ (f : Nat) (listed : Array Bool) (a : Act) (w : World), anyC w0 L0 ops K0 f listed a w → anyC w0 L0 ops K0 (f + 1) listed a w := by
  intro f
  induction f with
  | zero => intro listed a w h; exact ⟨fun _ => h.2, by rw [h.1]; simp⟩
  | succ f ih => intro listed a w h; exact ⟨h.1, fun i hi => wpOp_mono (fun a' w' q => ⟨q.1, ih _ _ _ q.2⟩) (h.2 i hi)⟩
theorem anyC_le {f g : Nat} (hfg : f ≤ g) {listed : Array Bool} {a : Act} {w : World} (h : anyC w0 L0 ops K0 f listed a w) : anyC w0 L0 ops K0 g listed a w := by
  induction hfg with
  | refl => exact h
  | step _ ih => exact anyC_more _ _ _ _ ih
theorem anyC_any : ∀ (f : Nat) (listed : Array Bool) (a : Act) (w : World), anyC w0 L0 ops K0 f listed a w → wpAny P .any ops (QN K0) f listed a w := by
  intro f
  induction f with
  | zero => intro listed a w h; exact h
  | succ f ih => intro listed a w h; exact ⟨h.1, fun i hi => wpOp_mono (fun a' w' q => ih _ _ _ q.2) (h.2 i hi)⟩
theorem unlisted {i : Nat} {listed : Array Bool} (h : listed.getD i true = false) : listed.getD i false = false := by
  rcases Nat.lt_or_ge i listed.size with h' | h'
  · simp [h'] at h ⊢; exact h
  · simp [Array.getElem?_eq_none h'] at h
/-- What only reads may go first. -/
theorem anyC_first {i : Nat} {oi : Oper} {v : Value} (hi : ops[i]? = some oi) (hsel : Region.noSelect ops = true) : ∀ (f : Nat) (listed : Array Bool) (a : Act) (w : World),
    (∀ j oj, ops[j]? = some oj → j ≠ i → listed.getD j true = false → (∀ e ∈ oj.after, Region.binds .any e = true → e.on ≠ i) → oi.apart ops oj = true) →
    i ∈ Region.ready .any ops listed → HW w0 L0 w → YI w0 L0 ops oi v a →
    anyC w0 L0 ops K0 f (listed.setIfInBounds i true) (a.put oi.dst v) w → anyC w0 L0 ops K0 (f + 1) listed a w := by
  intro f
  induction f with
  | zero =>
    intro listed a w _ hr hw hy h
    refine ⟨fun h0 => (by rw [h0] at hr; cases hr), fun j hj => ?_⟩
    by_cases hji : j = i
    · subst hji; exact hy.op hi hw ⟨hw, h⟩
    · have := ready_mono hj hji
      rw [h.1] at this
      cases this
  | succ f ih =>
    intro listed a w hfree hr hw hy h
    refine ⟨fun h0 => (by rw [h0] at hr; cases hr), fun j hj => ?_⟩
    by_cases hji : j = i
    · subst hji; exact hy.op hi hw ⟨hw, h⟩
    · have h1 := h.2 j (ready_mono hj hji)
      obtain ⟨hjun, oj, hoj, hall⟩ := mem_ready.1 hj
      have hnot : ∀ e ∈ oj.after, Region.binds .any e = true → e.on ≠ i := fun e he hb heq => by
        have h2 := hall e he hb
        rw [heq, unlisted (mem_ready.1 hr).1] at h2
        cases h2
      obtain ⟨p1, p2, p3⟩ := Oper.apart_spec (hfree j oj hoj hji hjun hnot)
      have hsi := Region.noSelect_spec hsel i oi
      have h3 := op_beside hoj p1 p2 (fun cs b => Region.noSelect_spec hsel j oj cs b hoj) h1
      refine wpOp_mono (fun a' w' h4 => ?_) h3
      obtain ⟨hsame, hw', h5⟩ := h4
      refine ⟨hw', ih (listed.setIfInBounds j true) a' w' ?_ (ready_mono hr (Ne.symm hji)) hw' (hy.keep hsame p3 (fun cs b => hsi cs b hi)) ?_⟩
      · intro k ok hk hki hun hno
        refine hfree k ok hk hki ?_ hno
        by_cases hjk : j = k
        · subst hjk; exact hjun
        · rw [getD_set_ne true hjk] at hun; exact hun
      · rw [Array.setIfInBounds_comm _ _ hji]
        exact h5

/-- An order: what reads, one after the other; and what acts, each way that is open. -/
inductive Sched
  | done
  | quiet (i : Nat) (r : Sched)
  | one (i : Nat) (r : Sched)
  | two (i : Nat) (r : Sched) (j : Nat) (s : Sched)
  | three (i : Nat) (r : Sched) (j : Nat) (s : Sched) (k : Nat) (t : Sched)
  | four (i : Nat) (r : Sched) (j : Nat) (s : Sched) (k : Nat) (t : Sched) (l : Nat) (u : Sched)
def Sched.depth : Sched → Nat
  | .done => 0
  | .quiet _ r => r.depth + 1
  | .one _ r => r.depth + 1
  | .two _ r _ s => max r.depth s.depth + 1
  | .three _ r _ s _ t => max r.depth (max s.depth t.depth) + 1
  | .four _ r _ s _ t _ u => max (max r.depth s.depth) (max t.depth u.depth) + 1
def Sched.ok (ops : Array Oper) : Sched → Array Bool → Bool
  | .done, ls => (Region.ready .any ops ls).isEmpty
  | .quiet i r, ls => (Region.ready .any ops ls).contains i && Region.free .any ops ls i && r.ok ops (ls.setIfInBounds i true)
  | .one i r, ls => decide (Region.ready .any ops ls = [i]) && r.ok ops (ls.setIfInBounds i true)
  | .two i r j s, ls => decide (Region.ready .any ops ls = [i, j]) && r.ok ops (ls.setIfInBounds i true) && s.ok ops (ls.setIfInBounds j true)
  | .three i r j s k t, ls => decide (Region.ready .any ops ls = [i, j, k]) && r.ok ops (ls.setIfInBounds i true) && s.ok ops (ls.setIfInBounds j true) && t.ok ops (ls.setIfInBounds k true)
  | .four i r j s k t l u, ls => decide (Region.ready .any ops ls = [i, j, k, l]) && r.ok ops (ls.setIfInBounds i true) && s.ok ops (ls.setIfInBounds j true) && t.ok ops (ls.setIfInBounds k true) && u.ok ops (ls.setIfInBounds l true)
def Sched.wp (w0 : World) (L0 : Heap) (ops : Array Oper) (K0 : Act → World → Prop) : Sched → Act → World → Prop
  | .done, a, w => K0 a w
  | .quiet i r, a, w => ∃ o v, ops[i]? = some o ∧ YI w0 L0 ops o v a ∧ r.wp w0 L0 ops K0 (a.put o.dst v) w
  | .one i r, a, w => wpOp P ops (QN K0) i (fun a' w' => HW w0 L0 w' ∧ r.wp w0 L0 ops K0 a' w') a w
  | .two i r j s, a, w => wpOp P ops (QN K0) i (fun a' w' => HW w0 L0 w' ∧ r.wp w0 L0 ops K0 a' w') a w ∧ wpOp P ops (QN K0) j (fun a' w' => HW w0 L0 w' ∧ s.wp w0 L0 ops K0 a' w') a w
  | .three i r j s k t, a, w => wpOp P ops (QN K0) i (fun a' w' => HW w0 L0 w' ∧ r.wp w0 L0 ops K0 a' w') a w ∧ wpOp P ops (QN K0) j (fun a' w' => HW w0 L0 w' ∧ s.wp w0 L0 ops K0 a' w') a w ∧
    wpOp P ops (QN K0) k (fun a' w' => HW w0 L0 w' ∧ t.wp w0 L0 ops K0 a' w') a w
  | .four i r j s k t l u, a, w => wpOp P ops (QN K0) i (fun a' w' => HW w0 L0 w' ∧ r.wp w0 L0 ops K0 a' w') a w ∧ wpOp P ops (QN K0) j (fun a' w' => HW w0 L0 w' ∧ s.wp w0 L0 ops K0 a' w') a w ∧
    wpOp P ops (QN K0) k (fun a' w' => HW w0 L0 w' ∧ t.wp w0 L0 ops K0 a' w') a w ∧ wpOp P ops (QN K0) l (fun a' w' => HW w0 L0 w' ∧ u.wp w0 L0 ops K0 a' w') a w
theorem Sched.sound (hsel : Region.noSelect ops = true) : ∀ (s : Sched) (ls : Array Bool) (a : Act) (w : World), s.ok ops ls = true → HW w0 L0 w → s.wp w0 L0 ops K0 a w → anyC w0 L0 ops K0 s.depth ls a w := by
  intro s
  induction s with
  | done => intro ls a w hB _ h; exact ⟨by simpa [Sched.ok] using hB, h⟩
  | quiet i r ih =>
    intro ls a w hB hw h
    obtain ⟨o, v, hi, hy, h⟩ := h
    simp only [Sched.ok, Bool.and_eq_true] at hB
    exact anyC_first hi hsel _ _ _ _ (Region.free_spec hi hB.1.2) (by simpa using hB.1.1) hw hy (ih _ _ _ hB.2 hw h)
  | one i r ih =>
    intro ls a w hB hw h
    simp only [Sched.ok, Bool.and_eq_true, decide_eq_true_eq] at hB
    refine ⟨fun h0 => (by rw [hB.1] at h0; cases h0), fun q hq => ?_⟩
    rw [hB.1] at hq
    have hq' : q = i := by simpa using hq
    subst hq'
    exact wpOp_mono (fun a' w' g => ⟨g.1, ih _ _ _ hB.2 g.1 g.2⟩) h
  | two i r j s ih1 ih2 =>
    intro ls a w hB hw h
    simp only [Sched.ok, Bool.and_eq_true, decide_eq_true_eq] at hB
    refine ⟨fun h0 => (by rw [hB.1.1] at h0; cases h0), fun q hq => ?_⟩
    rw [hB.1.1] at hq
    simp only [List.mem_cons, List.not_mem_nil, or_false] at hq
    rcases hq with rfl | rfl
    · exact wpOp_mono (fun a' w' g => ⟨g.1, anyC_le (Nat.le_max_left _ _) (ih1 _ _ _ hB.1.2 g.1 g.2)⟩) h.1
    · exact wpOp_mono (fun a' w' g => ⟨g.1, anyC_le (Nat.le_max_right _ _) (ih2 _ _ _ hB.2 g.1 g.2)⟩) h.2
  | three i r j s k t ih1 ih2 ih3 =>
    intro ls a w hB hw h
    simp only [Sched.ok, Bool.and_eq_true, decide_eq_true_eq] at hB
    obtain ⟨⟨⟨hB0, hB1⟩, hB2⟩, hB3⟩ := hB
    refine ⟨fun h0 => (by rw [hB0] at h0; cases h0), fun q hq => ?_⟩
    rw [hB0] at hq
    simp only [List.mem_cons, List.not_mem_nil, or_false] at hq
    rcases hq with rfl | rfl | rfl
    · exact wpOp_mono (fun a' w' g => ⟨g.1, anyC_le (by omega) (ih1 _ _ _ hB1 g.1 g.2)⟩) h.1
    · exact wpOp_mono (fun a' w' g => ⟨g.1, anyC_le (by omega) (ih2 _ _ _ hB2 g.1 g.2)⟩) h.2.1
    · exact wpOp_mono (fun a' w' g => ⟨g.1, anyC_le (by omega) (ih3 _ _ _ hB3 g.1 g.2)⟩) h.2.2
  | four i r j s k t l u ih1 ih2 ih3 ih4 =>
    intro ls a w hB hw h
    simp only [Sched.ok, Bool.and_eq_true, decide_eq_true_eq] at hB
    obtain ⟨⟨⟨⟨hB0, hB1⟩, hB2⟩, hB3⟩, hB4⟩ := hB
    refine ⟨fun h0 => (by rw [hB0] at h0; cases h0), fun q hq => ?_⟩
    rw [hB0] at hq
    simp only [List.mem_cons, List.not_mem_nil, or_false] at hq
    rcases hq with rfl | rfl | rfl | rfl
    · exact wpOp_mono (fun a' w' g => ⟨g.1, anyC_le (by omega) (ih1 _ _ _ hB1 g.1 g.2)⟩) h.1
    · exact wpOp_mono (fun a' w' g => ⟨g.1, anyC_le (by omega) (ih2 _ _ _ hB2 g.1 g.2)⟩) h.2.1
    · exact wpOp_mono (fun a' w' g => ⟨g.1, anyC_le (by omega) (ih3 _ _ _ hB3 g.1 g.2)⟩) h.2.2.1
    · exact wpOp_mono (fun a' w' g => ⟨g.1, anyC_le (by omega) (ih4 _ _ _ hB4 g.1 g.2)⟩) h.2.2.2
end

abbrev AK (w0 : World) (n : Nat) (L0 : Heap) (ops : Array Oper) (K : Act → World → Prop) (s : Sched) (tm : Slots) (L : Heap) : Prop := KS w0 n (s.wp w0 L0 ops K) tm L

section
variable {w0 : World} {n : Nat} {Q : Exit → Act → World → Prop} {tm : Slots} {L L0 L' : Heap} {ops : Array Oper} {rest l : List Oper} {K : Act → World → Prop} {r s t' u : Sched} {i j k i' : Nat}
variable {d : Nat} {v : Value} {t : TypeId} {p : String} {af : Array Edge} {op : Op} {o o2 o3 o4 : Oper}
theorem WC.draw {id : Nat} (L0 : Heap) (s : Sched) (hB : (Region.noSelect l.toArray && s.ok l.toArray (Array.replicate l.toArray.size false) && decide (s.depth ≤ l.toArray.size)) = true) (hL : ∀ w, HW w0 L w → HW w0 L0 w)
    (h : AK w0 n L0 l.toArray (Q .normal) s tm L) : WC w0 n Q tm L (.region id l.toArray true) := .mk fun a w hS => by
  simp only [Bool.and_eq_true, decide_eq_true_eq] at hB
  have h1 := h.out a _ (hS.heap' (hS.mem.drewN (w.drawn + 1)))
  have h2 := anyC_any _ _ _ _ (anyC_le hB.2 (Sched.sound hB.1.1 s _ a _ hB.1.2 (hL _ (hS.mem.drewN (w.drawn + 1))) h1))
  refine Code.wp_mono ?_ (wp_region_any (id := id) follows h2)
  intro e a' w' q
  cases e <;> first | exact q | exact q.elim
theorem AK.quiet (hi : ops[i]? = some ⟨some d, op, t, p, af, none⟩) (hv : Val w0 tm L0 ⟨some d, op, t, p, af, none⟩ v) (hd : Nat.blt d n = true) (k : AK w0 n L0 ops K r ((d, v) :: tm) L) : AK w0 n L0 ops K (.quiet i r) tm L := .mk fun a w hS =>
  ⟨_, v, hi, .inl ⟨rfl, fun w' hw' => hv.out a w' hS.agree hw'⟩, k.out _ _ (hS.put (by simpa using hd))⟩
theorem AK.yes {jj dj : Nat} {want b : Bool} {oj : Oper} (hi : ops[i]? = some ⟨some d, op, t, p, af, some (jj, want)⟩) (hj : ops[jj]? = some oj) (hdj : oj.dst = some dj) (hb : get tm dj = some (.bool b)) (hw : b = want)
    (hv : Val w0 tm L0 ⟨some d, op, t, p, af, some (jj, want)⟩ v) (hd : Nat.blt d n = true) (k : AK w0 n L0 ops K r ((d, v) :: tm) L) : AK w0 n L0 ops K (.quiet i r) tm L := .mk fun a w hS => by
  have hy := yielded_of (ops := ops) hS.agree hj hdj hb
  exact ⟨_, v, hi, .inl ⟨by simp [Region.wanted, hy, hw], fun w' hw' => hv.out a w' hS.agree hw'⟩, k.out _ _ (hS.put (by simpa using hd))⟩
theorem AK.no {jj dj : Nat} {want b : Bool} {oj : Oper} (hi : ops[i]? = some ⟨some d, op, t, p, af, some (jj, want)⟩) (hj : ops[jj]? = some oj) (hdj : oj.dst = some dj) (hb : get tm dj = some (.bool b)) (hw : b = !want)
    (k : AK w0 n L0 ops K r (forget d tm) L) : AK w0 n L0 ops K (.quiet i r) tm L := .mk fun a w hS => by
  have hy := yielded_of (ops := ops) hS.agree hj hdj hb
  have hf : (some b == some want) = false := by rw [hw]; cases want <;> rfl
  exact ⟨_, undef, hi, .inr ⟨by simp [Region.wanted, hy, hf], rfl⟩, k.out _ _ (hS.drop d undef)⟩
theorem AK.done (h : KS w0 n K tm L) : AK w0 n L0 ops K .done tm L := .mk fun a w hS => h.out a w hS
/-- One operation that acts, in an order's midst. -/
abbrev AO (w0 : World) (n : Nat) (L0 : Heap) (ops : Array Oper) (K : Act → World → Prop) (r : Sched) (o : Oper) (tm : Slots) (L : Heap) : Prop := OW w0 n (QN K) o (fun a w => HW w0 L0 w ∧ r.wp w0 L0 ops K a w) tm L
theorem OW.anyOp {a : Act} {w : World} (hi : ops[i]? = some o) (hg : o.guard = none) (h : AO w0 n L0 ops K r o tm L) (hS : St w0 n tm L a w) : wpOp P ops (QN K) i (fun a' w' => HW w0 L0 w' ∧ r.wp w0 L0 ops K a' w') a w := by
  unfold wpOp
  simp only [hi]
  rw [if_pos (by simp [Region.wanted, hg])]
  exact .inl (h.out a w hS)
theorem AK.one (hi : ops[i]? = some o) (hg : o.guard = none) (h : AO w0 n L0 ops K r o tm L) : AK w0 n L0 ops K (.one i r) tm L := .mk fun _ _ hS => h.anyOp hi hg hS
theorem AK.two (hi : ops[i]? = some o) (hg : o.guard = none) (h : AO w0 n L0 ops K r o tm L) (hi2 : ops[j]? = some o2) (hg2 : o2.guard = none) (h2 : AO w0 n L0 ops K s o2 tm L) : AK w0 n L0 ops K (.two i r j s) tm L := .mk fun _ _ hS => ⟨h.anyOp hi hg hS, h2.anyOp hi2 hg2 hS⟩
theorem AK.three (hi : ops[i]? = some o) (hg : o.guard = none) (h : AO w0 n L0 ops K r o tm L) (hi2 : ops[j]? = some o2) (hg2 : o2.guard = none) (h2 : AO w0 n L0 ops K s o2 tm L)
    (hi3 : ops[k]? = some o3) (hg3 : o3.guard = none) (h3 : AO w0 n L0 ops K t' o3 tm L) : AK w0 n L0 ops K (.three i r j s k t') tm L := .mk fun _ _ hS => ⟨h.anyOp hi hg hS, h2.anyOp hi2 hg2 hS, h3.anyOp hi3 hg3 hS⟩
theorem AK.four (hi : ops[i]? = some o) (hg : o.guard = none) (h : AO w0 n L0 ops K r o tm L) (hi2 : ops[j]? = some o2) (hg2 : o2.guard = none) (h2 : AO w0 n L0 ops K s o2 tm L)
    (hi3 : ops[k]? = some o3) (hg3 : o3.guard = none) (h3 : AO w0 n L0 ops K t' o3 tm L) (hi4 : ops[i']? = some o4) (hg4 : o4.guard = none) (h4 : AO w0 n L0 ops K u o4 tm L) : AK w0 n L0 ops K (.four i r j s k t' i' u) tm L :=
  .mk fun _ _ hS => ⟨h.anyOp hi hg hS, h2.anyOp hi2 hg2 hS, h3.anyOp hi3 hg3 hS, h4.anyOp hi4 hg4 hS⟩
theorem AK.on (hs : ∀ w, HW w0 L' w → HW w0 L0 w) (k : AK w0 n L0 ops K r tm L') : KS w0 n (fun a w => HW w0 L0 w ∧ r.wp w0 L0 ops K a w) tm L' := .mk fun a w hS => ⟨hs w hS.mem, k.out a w hS⟩
end
/-- These blocks are among those, in this order. -/
class Sb (l l' : Heap) : Prop where
  out : l.Sublist l'
section
variable {l l' m : Heap} {a b : Nat × Obj}
instance (priority := 100) Sb.cons [h : Sb l l'] : Sb l (a :: l') := ⟨h.out.cons a⟩
instance (priority := 100) Sb.app [h : Sb l l'] : Sb l (m ++ l') := ⟨h.out.trans (List.sublist_append_right _ _)⟩
instance (priority := 500) Sb.cons2 [h : Sb l l'] : Sb (a :: l) (a :: l') := ⟨h.out.cons_cons a⟩
instance (priority := 500) Sb.app2 [h : Sb l l'] : Sb (m ++ l) (m ++ l') := ⟨h.out.append_left m⟩
instance (priority := 1000) Sb.refl : Sb l l := ⟨.refl _⟩
theorem Sb.hw {w0 w : World} [h : Sb l l'] (hw : HW w0 l' w) : HW w0 l w := hw.sub h.out
end
/-- The same blocks, in another order. -/
class Pm (l l' : Heap) : Prop where
  out : l.Perm l'
section
variable {l l' m m' : Heap} {x y : Nat × Obj}
instance (priority := 100) Pm.skip [h : Pm (x :: l) l'] : Pm (x :: y :: l) (y :: l') := ⟨(List.Perm.swap _ _ _).trans (h.out.cons _)⟩
instance (priority := 100) Pm.skipA [h : Pm (x :: l) l'] : Pm (x :: (m ++ l)) (m ++ l') := ⟨(List.perm_middle.symm).trans (h.out.append_left _)⟩
instance (priority := 100) Pm.skipB [h : Pm (m ++ l) l'] : Pm (m ++ (x :: l)) (x :: l') := ⟨(List.perm_middle).trans (h.out.cons _)⟩
instance (priority := 100) Pm.skipC [h : Pm (m ++ l) l'] : Pm (m ++ (m' ++ l)) (m' ++ l') := ⟨(List.perm_append_comm_assoc _ _ _).trans (h.out.append_left _)⟩
instance (priority := 500) Pm.cons [h : Pm l l'] : Pm (x :: l) (x :: l') := ⟨h.out.cons _⟩
instance (priority := 500) Pm.app [h : Pm l l'] : Pm (m ++ l) (m ++ l') := ⟨h.out.append_left _⟩
instance (priority := 1000) Pm.refl : Pm l l := ⟨.refl _⟩
/-- One block, or one row of blocks, taken out. -/
class Ex (y : Nat × Obj) (l : Heap) (l2 : outParam Heap) : Prop where
  out : l.Perm (y :: l2)
class ExA (m l : Heap) (l2 : outParam Heap) : Prop where
  out : l.Perm (m ++ l2)
instance (priority := 1000) Ex.here : Ex x (x :: l) l := ⟨.refl _⟩
instance (priority := 500) Ex.there {l2 : Heap} [h : Ex x l l2] : Ex x (y :: l) (y :: l2) := ⟨(h.out.cons _).trans (.swap _ _ _)⟩
instance (priority := 500) Ex.app {l2 : Heap} [h : Ex x l l2] : Ex x (m ++ l) (m ++ l2) := ⟨(h.out.append_left _).trans List.perm_middle⟩
instance (priority := 1000) ExA.here : ExA m (m ++ l) l := ⟨.refl _⟩
instance (priority := 500) ExA.there {l2 : Heap} [h : ExA m l l2] : ExA m (y :: l) (y :: l2) := ⟨(h.out.cons _).trans List.perm_middle.symm⟩
instance (priority := 500) ExA.app {l2 : Heap} [h : ExA m l l2] : ExA m (m' ++ l) (m' ++ l2) := ⟨(h.out.append_left _).trans (List.perm_append_comm_assoc _ _ _)⟩
instance (priority := 50) Pm.ex {l2 : Heap} [h : Ex y l l2] [h2 : Pm l2 l'] : Pm l (y :: l') := ⟨h.out.trans (h2.out.cons _)⟩
instance (priority := 50) Pm.exA {l2 : Heap} [h : ExA m l l2] [h2 : Pm l2 l'] : Pm l (m ++ l') := ⟨h.out.trans (h2.out.append_left _)⟩
theorem Pm.hw {w0 w : World} [h : Pm l l'] (hw : HW w0 l w) : HW w0 l' w := hw.perm h.out
end
/-! ### the same, one set of done operations after the other -/
/-- Which operations are done, by a number's bits. -/
def Ls (n m : Nat) : Array Bool := ((List.range n).map m.testBit).toArray
/-- The operations of a region of a function's code. -/
def regionOps (id : Nat) : Code → Option (Array Oper)
  | .region i ops _ => if i = id then some ops else none
  | .seq a b => (regionOps id a).or (regionOps id b)
  | .cond _ a b => (regionOps id a).or (regionOps id b)
  | .block _ a => regionOps id a
  | .loop a => regionOps id a
  | .scope a => regionOps id a
  | _ => none
def funcOps (f : Func) (id : Nat) : Array Oper := ((f.body.bind (regionOps id))).getD #[]
section
variable {w0 : World} {n : Nat} {Q : Exit → Act → World → Prop} {tm : Slots} {L L0 L' : Heap} {ops : Array Oper} {l : List Oper} {K : Act → World → Prop} {i j k i' f : Nat} {ls ls1 ls2 ls3 ls4 : Array Bool}
variable {d : Nat} {v : Value} {t : TypeId} {p : String} {af : Array Edge} {op : Op} {o o2 o3 o4 : Oper}
theorem WC.drawN {id : Nat} (L0 : Heap) (hops : l.toArray = ops) (hL : ∀ w, HW w0 L w → HW w0 L0 w) (h : KS w0 n (anyC w0 L0 ops (Q .normal) ops.size (Array.replicate ops.size false)) tm L) : WC w0 n Q tm L (.region id l.toArray true) := .mk fun a w hS => by
  subst hops
  have h1 := h.out a _ (hS.heap' (hS.mem.drewN (w.drawn + 1)))
  refine Code.wp_mono ?_ (wp_region_any (id := id) follows (anyC_any _ _ _ _ h1))
  intro e a' w' q
  cases e <;> first | exact q | exact q.elim
theorem KN.quiet (hsel : Region.noSelect ops = true) (hc : ((Region.ready .any ops ls).contains i && Region.free .any ops ls i) = true) (hls : ls.setIfInBounds i true = ls1) (hL : ∀ w, HW w0 L w → HW w0 L0 w)
    (hi : ops[i]? = some ⟨some d, op, t, p, af, none⟩) (hv : Val w0 tm L0 ⟨some d, op, t, p, af, none⟩ v) (hd : Nat.blt d n = true) (k : KS w0 n (anyC w0 L0 ops K f ls1) ((d, v) :: tm) L) : KS w0 n (anyC w0 L0 ops K (f + 1) ls) tm L := .mk fun a w hS => by
  subst hls
  simp only [Bool.and_eq_true] at hc
  exact anyC_first hi hsel _ _ _ _ (Region.free_spec hi hc.2) (by simpa using hc.1) (hL w hS.mem) (.inl ⟨rfl, fun w' hw' => hv.out a w' hS.agree hw'⟩) (k.out _ _ (hS.put (by simpa using hd)))
theorem KN.done (hr : (Region.ready .any ops ls).isEmpty = true) (h : KS w0 n K tm L) : KS w0 n (anyC w0 L0 ops K f ls) tm L := .mk fun a w hS => by
  have hr' : Region.ready .any ops ls = [] := by simpa using hr
  cases f with
  | zero => exact ⟨hr', h.out a w hS⟩
  | succ f => exact ⟨fun _ => h.out a w hS, by rw [hr']; simp⟩
theorem KN.on (hs : ∀ w, HW w0 L' w → HW w0 L0 w) (k : KS w0 n (anyC w0 L0 ops K f ls) tm L') : KS w0 n (fun a w => HW w0 L0 w ∧ anyC w0 L0 ops K f ls a w) tm L' := .mk fun a w hS => ⟨hs w hS.mem, k.out a w hS⟩
abbrev NO (w0 : World) (n : Nat) (L0 : Heap) (ops : Array Oper) (K : Act → World → Prop) (f : Nat) (ls : Array Bool) (o : Oper) (tm : Slots) (L : Heap) : Prop := OW w0 n (QN K) o (fun a w => HW w0 L0 w ∧ anyC w0 L0 ops K f ls a w) tm L
theorem OW.nOp {a : Act} {w : World} (hi : ops[i]? = some o) (hg : o.guard = none) (h : NO w0 n L0 ops K f ls o tm L) (hS : St w0 n tm L a w) : wpOp P ops (QN K) i (fun a' w' => HW w0 L0 w' ∧ anyC w0 L0 ops K f ls a' w') a w := by
  unfold wpOp
  simp only [hi]
  rw [if_pos (by simp [Region.wanted, hg])]
  exact .inl (h.out a w hS)
theorem KN.fork {is : List Nat} (hr : Region.ready .any ops ls = is) (hne : is ≠ []) (h : ∀ a w, St w0 n tm L a w → ∀ i ∈ is, wpOp P ops (QN K) i (fun a' w' => HW w0 L0 w' ∧ anyC w0 L0 ops K f (ls.setIfInBounds i true) a' w') a w) :
    KS w0 n (anyC w0 L0 ops K (f + 1) ls) tm L := .mk fun a w hS => ⟨fun h0 => absurd (hr ▸ h0) hne, hr ▸ h a w hS⟩
theorem KN.one (hr : Region.ready .any ops ls = [i]) (hi : ops[i]? = some o) (hg : o.guard = none) (hl : ls.setIfInBounds i true = ls1) (h : NO w0 n L0 ops K f ls1 o tm L) : KS w0 n (anyC w0 L0 ops K (f + 1) ls) tm L := by
  subst hl
  refine KN.fork hr (by simp) fun a w hS q hq => ?_
  simp only [List.mem_cons, List.not_mem_nil, or_false] at hq
  subst hq
  exact h.nOp hi hg hS
theorem KN.two (hr : Region.ready .any ops ls = [i, j]) (hi : ops[i]? = some o) (hg : o.guard = none) (hl : ls.setIfInBounds i true = ls1) (h : NO w0 n L0 ops K f ls1 o tm L)
    (hi2 : ops[j]? = some o2) (hg2 : o2.guard = none) (hl2 : ls.setIfInBounds j true = ls2) (h2 : NO w0 n L0 ops K f ls2 o2 tm L) : KS w0 n (anyC w0 L0 ops K (f + 1) ls) tm L := by
  subst hl hl2
  refine KN.fork hr (by simp) fun a w hS q hq => ?_
  simp only [List.mem_cons, List.not_mem_nil, or_false] at hq
  rcases hq with rfl | rfl
  · exact h.nOp hi hg hS
  · exact h2.nOp hi2 hg2 hS
theorem KN.three (hr : Region.ready .any ops ls = [i, j, k]) (hi : ops[i]? = some o) (hg : o.guard = none) (hl : ls.setIfInBounds i true = ls1) (h : NO w0 n L0 ops K f ls1 o tm L)
    (hi2 : ops[j]? = some o2) (hg2 : o2.guard = none) (hl2 : ls.setIfInBounds j true = ls2) (h2 : NO w0 n L0 ops K f ls2 o2 tm L)
    (hi3 : ops[k]? = some o3) (hg3 : o3.guard = none) (hl3 : ls.setIfInBounds k true = ls3) (h3 : NO w0 n L0 ops K f ls3 o3 tm L) : KS w0 n (anyC w0 L0 ops K (f + 1) ls) tm L := by
  subst hl hl2 hl3
  refine KN.fork hr (by simp) fun a w hS q hq => ?_
  simp only [List.mem_cons, List.not_mem_nil, or_false] at hq
  rcases hq with rfl | rfl | rfl
  · exact h.nOp hi hg hS
  · exact h2.nOp hi2 hg2 hS
  · exact h3.nOp hi3 hg3 hS
theorem KN.four (hr : Region.ready .any ops ls = [i, j, k, i']) (hi : ops[i]? = some o) (hg : o.guard = none) (hl : ls.setIfInBounds i true = ls1) (h : NO w0 n L0 ops K f ls1 o tm L)
    (hi2 : ops[j]? = some o2) (hg2 : o2.guard = none) (hl2 : ls.setIfInBounds j true = ls2) (h2 : NO w0 n L0 ops K f ls2 o2 tm L)
    (hi3 : ops[k]? = some o3) (hg3 : o3.guard = none) (hl3 : ls.setIfInBounds k true = ls3) (h3 : NO w0 n L0 ops K f ls3 o3 tm L)
    (hi4 : ops[i']? = some o4) (hg4 : o4.guard = none) (hl4 : ls.setIfInBounds i' true = ls4) (h4 : NO w0 n L0 ops K f ls4 o4 tm L) : KS w0 n (anyC w0 L0 ops K (f + 1) ls) tm L := by
  subst hl hl2 hl3 hl4
  refine KN.fork hr (by simp) fun a w hS q hq => ?_
  simp only [List.mem_cons, List.not_mem_nil, or_false] at hq
  rcases hq with rfl | rfl | rfl | rfl
  · exact h.nOp hi hg hS
  · exact h2.nOp hi2 hg2 hS
  · exact h3.nOp hi3 hg3 hS
  · exact h4.nOp hi4 hg4 hS
end
end Go.Proofs.YtljoodllnaekbaaGreatDoor

namespace Go.Proofs.YtljoodllnaekbaaGreatDoor
open Go

def Pb : List Nat := [1, 0, 0, 0, 0, 1, 255, 255, 255, 255, 255, 255, 255, 255, 255, 255, 255, 255, 255, 255, 208, 255, 255, 255, 255, 163]
def Qb : List Nat := [255, 255, 255, 255, 255, 255, 255, 255, 255, 255, 255, 255, 255, 255, 255, 255, 255, 255, 255, 209]
def Gb : List Nat := [131, 5, 225, 200, 246, 133, 197, 165, 35, 209, 150, 65, 151, 215, 129, 228, 148, 103, 50, 126, 57, 130, 47, 61, 39]
def Qm : List Nat := minusL (fromB Qb) [1]
theorem Qm_mod : Modulus Qm 0 := ⟨by decide +kernel, by decide +kernel, by unfold Val16; decide +kernel, by decide +kernel, by decide +kernel, by decide +kernel, by decide +kernel, by decide +kernel⟩
theorem Pm_mod : Modulus (fromB Pb) 7 := ⟨by decide +kernel, by decide +kernel, by unfold Val16; decide +kernel, by decide +kernel, by decide +kernel, by decide +kernel, by decide +kernel, by decide +kernel⟩
theorem Qm_len : Qm.length = 10 := by decide +kernel
theorem Qm2_len : (shiftL Qm 0).length = 10 := by decide +kernel
theorem Pm_len : (fromB Pb).length = 13 := by decide +kernel
theorem Pm2_len : (shiftL (fromB Pb) 7).length = 13 := by decide +kernel
theorem Gm_len : (fromB Gb).length = 13 := by decide +kernel
theorem Gm_val : Val16 (fromB Gb) := by unfold Val16; decide +kernel
theorem Qb_val : Val16 (fromB Qb) := by unfold Val16; decide +kernel
theorem Qb_len : (fromB Qb).length = 10 := by decide +kernel
theorem one_val : Val16 [1] := by unfold Val16; decide +kernel
theorem fromB_valid {bs : List Nat} (h : ∀ d ∈ bs, d < 256) : Val16 (fromB bs) := trimL_valid fun d hd => by
  obtain ⟨j, _, rfl⟩ := List.mem_map.1 hd
  exact fbD_lt h j
theorem fromB_length (bs : List Nat) : (fromB bs).length ≤ (bs.length + 1) / 2 := by
  have := trimL_length_le (fbs bs ((bs.length + 1) / 2))
  rwa [fbs_length] at this
theorem plusL_valid {a b : List Nat} : Val16 (plusL a b) := trimL_valid fun d hd => by
  obtain ⟨j, _, rfl⟩ := List.mem_map.1 hd
  unfold plusD; omega
theorem plusL_length (a b : List Nat) : (plusL a b).length ≤ max a.length b.length + 1 := by
  have := trimL_length_le (pluses a b (plusN a b))
  rw [pluses_length] at this
  unfold plusL
  refine Nat.le_trans this ?_
  unfold plusN
  split <;> omega
/-- 'SecretNumber' -/
def secN (x : List Nat) : List Nat := bigB (plusL (restL (fromB x) Qm 0) [1])
theorem secN_byte (x : List Nat) : ∀ d ∈ secN x, d < 256 := bigB_byte _
theorem secN_length (x : List Nat) : (secN x).length ≤ 22 := by
  have h1 := bigB_length (plusL (restL (fromB x) Qm 0) [1])
  have h2 := plusL_length (restL (fromB x) Qm 0) [1]
  have h3 := restC_length (fromB x) 0 (shiftL Qm 0).length (val (shiftL Qm 0))
  rw [Qm2_len] at h3
  have h4 : (restL (fromB x) Qm 0).length ≤ 10 := by rw [restL, Qm2_len]; exact h3
  simp only [List.length_cons, List.length_nil] at h2
  unfold secN; omega
theorem powBits_len {g m : List Nat} {n d k : Nat} {x : List Nat} (hk : (shiftL m n).length ≤ k) (hx : x.length ≤ k) (t : Nat) : (powBits g m n d x t).length ≤ k := by
  have hr : ∀ a, (restL a m n).length ≤ k := fun a => Nat.le_trans (restC_length _ _ _ _) hk
  cases t with
  | zero => exact hx
  | succ t => simp only [powBits, powBit]; split <;> exact hr _
theorem powL_len {g m : List Nat} {n k : Nat} (hk : (shiftL m n).length ≤ k) (h1 : 1 ≤ k) (e : List Nat) : (powL g e m n).length ≤ k := by
  have : ∀ (e x : List Nat), x.length ≤ k → (e.foldl (fun x d => powBits g m n d x 8) x).length ≤ k := by
    intro e
    induction e with
    | nil => intro x hx; exact hx
    | cons d r ih => intro x hx; exact ih _ (powBits_len hk hx 8)
  exact this e [1] h1
theorem powL_valid (g e m : List Nat) (n : Nat) : Val16 (powL g e m n) := by
  have hb : ∀ (d : Nat) (x : List Nat), Val16 x → ∀ t, Val16 (powBits g m n d x t) := by
    intro d x hx t
    cases t with
    | zero => exact hx
    | succ t => simp only [powBits, powBit]; split <;> exact restL_valid _ _ _
  have : ∀ (e x : List Nat), Val16 x → Val16 (e.foldl (fun x d => powBits g m n d x 8) x) := by
    intro e
    induction e with
    | nil => intro x hx; exact hx
    | cons d r ih => intro x hx; exact ih _ (hb d x hx 8)
  exact this e [1] one_val
/-- 'PublicNumber' -/
def pubN (x : List Nat) : List Nat := bigB (powL (fromB Gb) x (fromB Pb) 7)
theorem pubN_byte (x : List Nat) : ∀ d ∈ pubN x, d < 256 := bigB_byte _
theorem pubN_length (x : List Nat) : (pubN x).length ≤ 26 := by
  have h1 := bigB_length (powL (fromB Gb) x (fromB Pb) 7)
  have h2 : (powL (fromB Gb) x (fromB Pb) 7).length ≤ 13 := powL_len (by rw [Pm2_len]; exact Nat.le_refl _) (by decide) x
  unfold pubN; omega
/-- Bytes somewhere in memory: where, how much room, which. -/
abbrev Sl := Option Addr × Nat × List Nat
def slV (q : Sl) : Value := .slice q.1 q.2.2.length q.2.1
structure Lies (L : Heap) (q : Sl) : Prop where
  cap : q.2.2.length ≤ q.2.1
  rd : Rd L q.1 (bt q.2.2)
theorem Lies.mono {L L' : Heap} {q : Sl} (h : Lies L q) (hs : ∀ x ∈ L, x ∈ L') : Lies L' q := ⟨h.cap, h.rd.mono hs⟩
theorem Lies.own {L : Heap} {o : Option Own} {xs : List Nat} (h : o = none → bt xs = []) : Lies (ownL 5 o (bt xs) ++ L) (ownA o, ownC o (bt xs), xs) := ⟨by have := ownC_le h; rwa [bt_length] at this, Rd.own h⟩
theorem slV_own (o : Option Own) (xs : List Nat) : ownV o (bt xs) = slV (ownA o, ownC o (bt xs), xs) := by
  show Value.slice _ _ _ = Value.slice _ _ _
  rw [bt_length]
/-- A key, as 'GroupKey' makes it: its version, its time, its numbers as they are laid. -/
def KeyIs (L : Heap) (v : Value) (ver created : Nat) (ns : List (List Nat)) : Prop :=
  ∃ (b : Nat) (qs : List Sl), v = .agg #[.int .i64 (ver : Int), .int .i64 17, .int .u32 (created : Int), .slice (some ⟨b, 0, none⟩) ns.length ns.length] ∧ qs.map (·.2.2) = ns ∧ (b, blk 23 (0, 0) (qs.map slV)) ∈ L ∧ ∀ q ∈ qs, Lies L q
theorem KeyIs.mono {L L' : Heap} {v : Value} {ver created : Nat} {ns : List (List Nat)} (h : KeyIs L v ver created ns) (hs : ∀ x ∈ L, x ∈ L') : KeyIs L' v ver created ns := by
  obtain ⟨b, qs, h1, h2, h3, h4⟩ := h
  exact ⟨b, qs, h1, h2, hs _ h3, fun q hq => (h4 q hq).mono hs⟩
/-- A secret that is given: the group, both numbers, the version, the time, and whether it is a subkey's. -/
def GivIs (L : Heap) (v : Value) (ver created : Nat) (sub : Bool) (n : List Nat) : Prop :=
  ∃ qp qq qg qy qn : Sl, v = .agg #[slV qp, slV qq, slV qg, slV qy, slV qn, .int .i64 (ver : Int), .int .u32 (created : Int), .bool sub] ∧ qp.2.2 = Pb ∧ qq.2.2 = Qb ∧ qg.2.2 = Gb ∧ qy.2.2 = pubN n ∧ qn.2.2 = n ∧ Lies L qp ∧ Lies L qq ∧ Lies L qg ∧ Lies L qy ∧ Lies L qn
theorem GivIs.mono {L L' : Heap} {v : Value} {ver created : Nat} {sub : Bool} {n : List Nat} (h : GivIs L v ver created sub n) (hs : ∀ x ∈ L, x ∈ L') : GivIs L' v ver created sub n := by
  obtain ⟨qp, qq, qg, qy, qn, h0, h1, h2, h3, h4, h5, l1, l2, l3, l4, l5⟩ := h
  exact ⟨qp, qq, qg, qy, qn, h0, h1, h2, h3, h4, h5, l1.mono hs, l2.mono hs, l3.mono hs, l4.mono hs, l5.mono hs⟩
/-- A secret's version. -/
def verN (six : Bool) : Nat := if six then 6 else 4
theorem verN_cases (six : Bool) : verN six = 6 ∨ verN six = 4 := by cases six <;> decide
def keyN (n : List Nat) : List (List Nat) := [mpiL Pb, mpiL Qb, mpiL Gb, mpiL (pubN n)]
/-- 'KeyBody' -/
def bodyL (ver created : Nat) (ns : List (List Nat)) : List Nat :=
  [ver % 256] ++ octL created 4 ++ [17] ++ (if ver = 6 then octL ns.flatten.length 4 else []) ++ ns.flatten
theorem flat_take {ns : List (List Nat)} {i : Nat} {x : List Nat} (h : ns[i]? = some x) : (ns.take (i + 1)).flatten = (ns.take i).flatten ++ x ∧ (ns.take i).flatten.length + x.length ≤ ns.flatten.length := by
  have hi := (List.getElem?_eq_some_iff.1 h).1
  have e : ns.take (i + 1) = ns.take i ++ [x] := by
    rw [List.take_succ_eq_append_getElem hi]
    congr 2
    exact (List.getElem?_eq_some_iff.1 h).2
  refine ⟨by rw [e]; simp, ?_⟩
  have h2 : ns.flatten = (ns.take (i + 1)).flatten ++ (ns.drop (i + 1)).flatten := by rw [← List.flatten_append, List.take_append_drop]
  rw [h2, e]
  simp only [List.flatten_append, List.flatten_cons, List.flatten_nil, List.length_append, List.append_nil]
  omega
theorem bodyL_head (ver created : Nat) (ns : List (List Nat)) : ([ver % 256] ++ octL created 4 ++ [17] ++ (if ver = 6 then octL ns.flatten.length 4 else [])).length ≤ 10 := by
  split <;> simp [octL_length]
/-- The cells of a key, of a secret that is drawn, of a secret that is given; and of such that are new. -/
abbrev keyC (ver created kb : Nat) : List Value := [.int .i64 (ver : Int), .int .i64 17, .int .u32 (created : Int), .slice (some ⟨kb, 0, none⟩) 4 4]
abbrev secC (six sub : Bool) (created : Nat) (qx : Sl) : List Value := [.bool six, .bool sub, .int .u32 (created : Int), slV qx]
abbrev givC (bp bq bg : Nat) (oy : Option Own) (qn : Sl) (ver created : Nat) (sub : Bool) : List Value :=
  [.slice (some ⟨bp, 0, none⟩) (bt Pb).length (bt Pb).length, .slice (some ⟨bq, 0, none⟩) (bt Qb).length (bt Qb).length, .slice (some ⟨bg, 0, none⟩) (bt Gb).length (bt Gb).length, ownV oy (bt (pubN qn.2.2)), slV qn, .int .i64 (ver : Int), .int .u32 (created : Int), .bool sub]
abbrev z29 : List Value := [.int .i64 0, .int .i64 0, .int .u32 0, .slice none 0 0]
abbrev z33 : List Value := [.slice none 0 0, .slice none 0 0, .slice none 0 0, .slice none 0 0, .slice none 0 0, .int .i64 0, .int .u32 0, .bool false]
end Go.Proofs.YtljoodllnaekbaaGreatDoor

namespace Go.Proofs.YtljoodllnaekbaaGreatDoor
open Go

theorem At.over {q q' : Nat × Obj} {L L' : Heap} (h : At L q q' L') : ∀ M : Heap, At (M ++ L) q q' (M ++ L')
  | [] => h
  | _ :: M => .there (h.over M)
theorem build29 {a b c : Int} {A : Option Addr} {l k : Nat} (w : World) : (Instr.build 29 [(0, .int .i64 a), (1, .int .i64 b), (2, .int .u32 c), (3, .slice A l k)].toArray).run P w = .ok (.agg #[.int .i64 a, .int .i64 b, .int .u32 c, .slice A l k]) w := by
  simp [Instr.build, Tryz.zeroValue29, Tryz.runUnderlying29, Tryz.sizeOf3, Tryz.sizeOf22, Tryz.sizeOf27]
  rfl
theorem build31 {A B C D E : Option Addr} {l k l2 k2 l3 k3 l4 k4 l5 k5 : Nat} (w : World) : (Instr.build 31 [(0, .slice A l k), (1, .slice B l2 k2), (2, .slice C l3 k3), (3, .slice D l4 k4), (4, .slice E l5 k5)].toArray).run P w =
    .ok (.agg #[.slice A l k, .slice B l2 k2, .slice C l3 k3, .slice D l4 k4, .slice E l5 k5]) w := by
  simp [Instr.build, Tryz.zeroValue31, Tryz.runUnderlying31, Tryz.sizeOf23]
  rfl
theorem build33 {a b c d e : Value} {x y : Int} {z : Bool} (w : World) : (Instr.build 33 [(0, .agg #[a, b, c, d, e]), (1, .int .i64 x), (2, .int .u32 y), (3, .bool z)].toArray).run P w = .ok (.agg #[a, b, c, d, e, .int .i64 x, .int .u32 y, .bool z]) w := by
  simp [Instr.build, Tryz.zeroValue33, Tryz.runUnderlying33, Tryz.sizeOf31, Tryz.sizeOf3, Tryz.sizeOf22, Tryz.sizeOf4]
  simp [Instr.fill, Value.cells, Array.zipIdx]
section
variable {w0 : World} {n d : Nat} {Q : Exit → Act → World → Prop} {tm : Slots} {L : Heap} {K : Act → World → Prop} {t e : TypeId} {p : String} {af : Array Edge}
theorem OW.allocC {z : Value} {vs : List Value} (hz : ∀ w, (zeroValue e).run P w = .ok z w) (hc : z.cells.toList = vs) (hd : Nat.blt d n = true) (k : ∀ b, KS w0 n K ((d, .pointer (some ⟨b, 0, none⟩)) :: tm) ((b, blk e (0, 0) vs) :: L)) :
    OW w0 n Q ⟨some d, .alloc e, t, p, af, none⟩ K tm L := by
  subst hc
  exact OW.alloc hz hd k
end
section
variable {w0 w : World} {n : Nat} {L : Heap} {R : Ending → World → Prop} {fn : Func} {tm : Slots}
theorem run_loadAgg {e t' : TypeId} {b sz : Nat} {fr : Nat × Nat} {vs : List Value} (hg : ∀ w, (isAgg e).run P w = .ok true w) (hz : ∀ w, (sizeOf e).run P w = .ok sz w) (hw : HW w0 L w) (hm : (b, blk t' fr vs) ∈ L) (hl : vs.length = sz) :
    (loadVar e ⟨b, 0, none⟩).run P w = .ok (.agg vs.toArray) w := by
  subst hl
  have := run_loadCellsFrom (w := w) (b := b) (off := 0) vs 0 #[] (fun j v hj => by rw [Nat.zero_add, hw.cell hm, Nat.zero_add]; exact hj)
  simp [loadVar, hg, hz, loadCells, this]
/-- One result, in a cell. -/
theorem retC {t b sz : Nat} {e t' : TypeId} {fr : Nat × Nat} {vs : List Value} (hr : fn.results = #[.cell t e]) (hg : ∀ w, (isAgg e).run P w = .ok true w) (hz : ∀ w, (sizeOf e).run P w = .ok sz w) (hv : get tm t = some (.pointer (some ⟨b, 0, none⟩)))
    (hm : (b, blk t' fr vs) ∈ L) (hl : vs.length = sz) (h : ∀ w, HW w0 L w → R (.returned (.agg vs.toArray)) w) : EX w0 n .ret (bodyPost P fn R) tm L :=
  retG (fun a w ha hw => by
    have h1 := run_loadAgg hg hz hw hm hl
    simp [results, hr, ha t _ hv, asAddr, h1]) h
/-- Three results: a value, and two in cells. -/
theorem retTCC {t t2 t3 b b2 sz sz2 : Nat} {e t' e2 t2' : TypeId} {fr fr2 : Nat × Nat} {u : Value} {vs vs2 : List Value} (hr : fn.results = #[.tmp t, .cell t2 e, .cell t3 e2]) (hu : get tm t = some u)
    (hg : ∀ w, (isAgg e).run P w = .ok true w) (hz : ∀ w, (sizeOf e).run P w = .ok sz w) (hv : get tm t2 = some (.pointer (some ⟨b, 0, none⟩))) (hm : (b, blk t' fr vs) ∈ L) (hl : vs.length = sz)
    (hg2 : ∀ w, (isAgg e2).run P w = .ok true w) (hz2 : ∀ w, (sizeOf e2).run P w = .ok sz2 w) (hv2 : get tm t3 = some (.pointer (some ⟨b2, 0, none⟩))) (hm2 : (b2, blk t2' fr2 vs2) ∈ L) (hl2 : vs2.length = sz2)
    (h : ∀ w, HW w0 L w → R (.returned (.tuple #[u, .agg vs.toArray, .agg vs2.toArray])) w) : EX w0 n .ret (bodyPost P fn R) tm L :=
  retG (fun a w ha hw => by
    have h1 := run_loadAgg hg hz hw hm hl
    have h2 := run_loadAgg hg2 hz2 hw hm2 hl2
    simp [results, hr, ha t _ hu, ha t2 _ hv, ha t3 _ hv2, asAddr, h1, h2]) h
end
end Go.Proofs.YtljoodllnaekbaaGreatDoor

namespace Go.Proofs.YtljoodllnaekbaaGreatDoor
open Go

/-! ### u8 -/
theorem wrap_u8_nat (m : Nat) : IntKind.u8.wrap (m : Int) = ((m % 256 : Nat) : Int) := by simp [IntKind.wrap, IntKind.bits, IntKind.signed]
theorem wrap_u8_lt {m : Nat} (h : m < 256) : IntKind.u8.wrap (m : Int) = (m : Int) := by rw [wrap_u8_nat, Nat.mod_eq_of_lt h]
theorem orI_u8 {m n : Nat} (hm : m < 256) (hn : n < 256) : orI .u8 (m : Int) (n : Int) = ((m ||| n : Nat) : Int) := by
  unfold orI
  rw [show IntKind.u8.bits = 8 from rfl, toNat_or 8 m n (by omega) (by omega)]
  exact wrap_u8_lt (or_lt (k := 8) (by omega) (by omega))
theorem andI_u8 {m n : Nat} (hm : m < 256) (hn : n < 256) : andI .u8 (m : Int) (n : Int) = ((m &&& n : Nat) : Int) := by
  unfold andI
  rw [show IntKind.u8.bits = 8 from rfl, toNat_and 8 m n (by omega) (by omega)]
  have : m &&& n ≤ m := Nat.and_le_left
  exact wrap_u8_lt (by omega)
theorem shlI_u8 {m s : Nat} (hs : s < 8) (h : m * 2 ^ s < 256) : shlI .u8 (m : Int) (s : Int) = ((m * 2 ^ s : Nat) : Int) := by
  unfold shlI
  have : min (s : Int).toNat IntKind.u8.bits = s := by simp [IntKind.bits]; omega
  rw [this]
  have h2 : (m : Int) * 2 ^ s = ((m * 2 ^ s : Nat) : Int) := by norm_cast
  rw [h2]
  exact wrap_u8_lt h
theorem shrI_u8 {m s : Nat} (hs : s < 8) : shrI .u8 (m : Int) (s : Int) = ((m / 2 ^ s : Nat) : Int) := by
  unfold shrI
  have : min (s : Int).toNat IntKind.u8.bits = s := by simp [IntKind.bits]; omega
  rw [this, Int.fdiv_eq_ediv_of_nonneg _ (by exact Int.pow_nonneg (by omega))]
  norm_cast
section
variable {w0 : World} {tm : Slots} {L : Heap} {d : Option Tmp} {t : TypeId} {p : String} {af : Array Edge} {g : Option (Nat × Bool)}
variable {x y : Operand} {xt yt : TypeId} {yk : IntKind} {m n : Nat}
theorem u8_add {c : Int} (hx : ev tm x = some (.int .u8 (m : Int))) (hy : ev tm y = some (.int .u8 c)) (hc : c = (n : Int)) (h : m + n < 256) : Val w0 tm L ⟨d, .binOp .add xt x y yt, t, p, af, g⟩ (.int .u8 ((m + n : Nat) : Int)) :=
  (v_add hx hy).cast (by rw [hc, show (m : Int) + (n : Int) = ((m + n : Nat) : Int) from by omega, wrap_u8_lt h])
theorem u8_or (hx : ev tm x = some (.int .u8 (m : Int))) (hy : ev tm y = some (.int .u8 (n : Int))) (hm : m < 256) (hn : n < 256) : Val w0 tm L ⟨d, .binOp .or xt x y yt, t, p, af, g⟩ (.int .u8 ((m ||| n : Nat) : Int)) :=
  (v_or hx hy).cast (by rw [orI_u8 hm hn])
theorem u8_shr {c : Int} (hx : ev tm x = some (.int .u8 (m : Int))) (hy : ev tm y = some (.int yk c)) (hc : c = (n : Int)) (hn : n < 8) : Val w0 tm L ⟨d, .binOp .shr xt x y yt, t, p, af, g⟩ (.int .u8 ((m / 2 ^ n : Nat) : Int)) :=
  (v_shr hx hy (by omega)).cast (by rw [hc, shrI_u8 hn])
theorem u8_shl {c : Int} (hx : ev tm x = some (.int .u8 (m : Int))) (hy : ev tm y = some (.int yk c)) (hc : c = (n : Int)) (hn : n < 8) (h : m * 2 ^ n < 256) : Val w0 tm L ⟨d, .binOp .shl xt x y yt, t, p, af, g⟩ (.int .u8 ((m * 2 ^ n : Nat) : Int)) :=
  (v_shl hx hy (by omega)).cast (by rw [hc, shlI_u8 hn h])
theorem u8_conv {sd : TypeDesc} (hs : ∀ w, (underlying xt).run P w = .ok sd w) (hd : ∀ w, (underlying yt).run P w = .ok (.int .u8) w) {k' : IntKind} (hx : ev tm x = some (.int k' (m : Int))) (h : m < 256) :
    Val w0 tm L ⟨d, .convert xt yt x, t, p, af, g⟩ (.int .u8 (m : Int)) := (v_conv hs hd hx).cast (by rw [wrap_u8_lt h])
end
/-! ### u16 -/
theorem wrap_u16_nat (m : Nat) : IntKind.u16.wrap (m : Int) = ((m % 65536 : Nat) : Int) := by simp [IntKind.wrap, IntKind.bits, IntKind.signed]
theorem wrap_u16_lt {m : Nat} (h : m < 65536) : IntKind.u16.wrap (m : Int) = (m : Int) := by rw [wrap_u16_nat, Nat.mod_eq_of_lt h]
theorem orI_u16 {m n : Nat} (hm : m < 65536) (hn : n < 65536) : orI .u16 (m : Int) (n : Int) = ((m ||| n : Nat) : Int) := by
  unfold orI
  rw [show IntKind.u16.bits = 16 from rfl, toNat_or 16 m n (by omega) (by omega)]
  exact wrap_u16_lt (or_lt (k := 16) (by omega) (by omega))
theorem andI_u16 {m n : Nat} (hm : m < 65536) (hn : n < 65536) : andI .u16 (m : Int) (n : Int) = ((m &&& n : Nat) : Int) := by
  unfold andI
  rw [show IntKind.u16.bits = 16 from rfl, toNat_and 16 m n (by omega) (by omega)]
  have : m &&& n ≤ m := Nat.and_le_left
  exact wrap_u16_lt (by omega)
theorem shlI_u16 {m s : Nat} (hs : s < 16) (h : m * 2 ^ s < 65536) : shlI .u16 (m : Int) (s : Int) = ((m * 2 ^ s : Nat) : Int) := by
  unfold shlI
  have : min (s : Int).toNat IntKind.u16.bits = s := by simp [IntKind.bits]; omega
  rw [this]
  have h2 : (m : Int) * 2 ^ s = ((m * 2 ^ s : Nat) : Int) := by norm_cast
  rw [h2]
  exact wrap_u16_lt h
theorem shrI_u16 {m s : Nat} (hs : s < 16) : shrI .u16 (m : Int) (s : Int) = ((m / 2 ^ s : Nat) : Int) := by
  unfold shrI
  have : min (s : Int).toNat IntKind.u16.bits = s := by simp [IntKind.bits]; omega
  rw [this, Int.fdiv_eq_ediv_of_nonneg _ (by exact Int.pow_nonneg (by omega))]
  norm_cast
section
variable {w0 : World} {tm : Slots} {L : Heap} {d : Option Tmp} {t : TypeId} {p : String} {af : Array Edge} {g : Option (Nat × Bool)}
variable {x y : Operand} {xt yt : TypeId} {yk : IntKind} {m n : Nat}
theorem u16_add {c : Int} (hx : ev tm x = some (.int .u16 (m : Int))) (hy : ev tm y = some (.int .u16 c)) (hc : c = (n : Int)) (h : m + n < 65536) : Val w0 tm L ⟨d, .binOp .add xt x y yt, t, p, af, g⟩ (.int .u16 ((m + n : Nat) : Int)) :=
  (v_add hx hy).cast (by rw [hc, show (m : Int) + (n : Int) = ((m + n : Nat) : Int) from by omega, wrap_u16_lt h])
theorem u16_or (hx : ev tm x = some (.int .u16 (m : Int))) (hy : ev tm y = some (.int .u16 (n : Int))) (hm : m < 65536) (hn : n < 65536) : Val w0 tm L ⟨d, .binOp .or xt x y yt, t, p, af, g⟩ (.int .u16 ((m ||| n : Nat) : Int)) :=
  (v_or hx hy).cast (by rw [orI_u16 hm hn])
theorem u16_shr {c : Int} (hx : ev tm x = some (.int .u16 (m : Int))) (hy : ev tm y = some (.int yk c)) (hc : c = (n : Int)) (hn : n < 16) : Val w0 tm L ⟨d, .binOp .shr xt x y yt, t, p, af, g⟩ (.int .u16 ((m / 2 ^ n : Nat) : Int)) :=
  (v_shr hx hy (by omega)).cast (by rw [hc, shrI_u16 hn])
theorem u16_shl {c : Int} (hx : ev tm x = some (.int .u16 (m : Int))) (hy : ev tm y = some (.int yk c)) (hc : c = (n : Int)) (hn : n < 16) (h : m * 2 ^ n < 65536) : Val w0 tm L ⟨d, .binOp .shl xt x y yt, t, p, af, g⟩ (.int .u16 ((m * 2 ^ n : Nat) : Int)) :=
  (v_shl hx hy (by omega)).cast (by rw [hc, shlI_u16 hn h])
theorem u16_conv {sd : TypeDesc} (hs : ∀ w, (underlying xt).run P w = .ok sd w) (hd : ∀ w, (underlying yt).run P w = .ok (.int .u16) w) {k' : IntKind} (hx : ev tm x = some (.int k' (m : Int))) (h : m < 65536) :
    Val w0 tm L ⟨d, .convert xt yt x, t, p, af, g⟩ (.int .u16 (m : Int)) := (v_conv hs hd hx).cast (by rw [wrap_u16_lt h])
end
/-! ### u32 -/
theorem wrap_u32_nat (m : Nat) : IntKind.u32.wrap (m : Int) = ((m % 4294967296 : Nat) : Int) := by simp [IntKind.wrap, IntKind.bits, IntKind.signed]
theorem wrap_u32_lt {m : Nat} (h : m < 4294967296) : IntKind.u32.wrap (m : Int) = (m : Int) := by rw [wrap_u32_nat, Nat.mod_eq_of_lt h]
theorem orI_u32 {m n : Nat} (hm : m < 4294967296) (hn : n < 4294967296) : orI .u32 (m : Int) (n : Int) = ((m ||| n : Nat) : Int) := by
  unfold orI
  rw [show IntKind.u32.bits = 32 from rfl, toNat_or 32 m n (by omega) (by omega)]
  exact wrap_u32_lt (or_lt (k := 32) (by omega) (by omega))
theorem andI_u32 {m n : Nat} (hm : m < 4294967296) (hn : n < 4294967296) : andI .u32 (m : Int) (n : Int) = ((m &&& n : Nat) : Int) := by
  unfold andI
  rw [show IntKind.u32.bits = 32 from rfl, toNat_and 32 m n (by omega) (by omega)]
  have : m &&& n ≤ m := Nat.and_le_left
  exact wrap_u32_lt (by omega)
theorem shlI_u32 {m s : Nat} (hs : s < 32) (h : m * 2 ^ s < 4294967296) : shlI .u32 (m : Int) (s : Int) = ((m * 2 ^ s : Nat) : Int) := by
  unfold shlI
  have : min (s : Int).toNat IntKind.u32.bits = s := by simp [IntKind.bits]; omega
  rw [this]
  have h2 : (m : Int) * 2 ^ s = ((m * 2 ^ s : Nat) : Int) := by norm_cast
  rw [h2]
  exact wrap_u32_lt h
theorem shrI_u32 {m s : Nat} (hs : s < 32) : shrI .u32 (m : Int) (s : Int) = ((m / 2 ^ s : Nat) : Int) := by
  unfold shrI
  have : min (s : Int).toNat IntKind.u32.bits = s := by simp [IntKind.bits]; omega
  rw [this, Int.fdiv_eq_ediv_of_nonneg _ (by exact Int.pow_nonneg (by omega))]
  norm_cast
section
variable {w0 : World} {tm : Slots} {L : Heap} {d : Option Tmp} {t : TypeId} {p : String} {af : Array Edge} {g : Option (Nat × Bool)}
variable {x y : Operand} {xt yt : TypeId} {yk : IntKind} {m n : Nat}
theorem u32_add {c : Int} (hx : ev tm x = some (.int .u32 (m : Int))) (hy : ev tm y = some (.int .u32 c)) (hc : c = (n : Int)) (h : m + n < 4294967296) : Val w0 tm L ⟨d, .binOp .add xt x y yt, t, p, af, g⟩ (.int .u32 ((m + n : Nat) : Int)) :=
  (v_add hx hy).cast (by rw [hc, show (m : Int) + (n : Int) = ((m + n : Nat) : Int) from by omega, wrap_u32_lt h])
theorem u32_or (hx : ev tm x = some (.int .u32 (m : Int))) (hy : ev tm y = some (.int .u32 (n : Int))) (hm : m < 4294967296) (hn : n < 4294967296) : Val w0 tm L ⟨d, .binOp .or xt x y yt, t, p, af, g⟩ (.int .u32 ((m ||| n : Nat) : Int)) :=
  (v_or hx hy).cast (by rw [orI_u32 hm hn])
theorem u32_shr {c : Int} (hx : ev tm x = some (.int .u32 (m : Int))) (hy : ev tm y = some (.int yk c)) (hc : c = (n : Int)) (hn : n < 32) : Val w0 tm L ⟨d, .binOp .shr xt x y yt, t, p, af, g⟩ (.int .u32 ((m / 2 ^ n : Nat) : Int)) :=
  (v_shr hx hy (by omega)).cast (by rw [hc, shrI_u32 hn])
theorem u32_shl {c : Int} (hx : ev tm x = some (.int .u32 (m : Int))) (hy : ev tm y = some (.int yk c)) (hc : c = (n : Int)) (hn : n < 32) (h : m * 2 ^ n < 4294967296) : Val w0 tm L ⟨d, .binOp .shl xt x y yt, t, p, af, g⟩ (.int .u32 ((m * 2 ^ n : Nat) : Int)) :=
  (v_shl hx hy (by omega)).cast (by rw [hc, shlI_u32 hn h])
theorem u32_conv {sd : TypeDesc} (hs : ∀ w, (underlying xt).run P w = .ok sd w) (hd : ∀ w, (underlying yt).run P w = .ok (.int .u32) w) {k' : IntKind} (hx : ev tm x = some (.int k' (m : Int))) (h : m < 4294967296) :
    Val w0 tm L ⟨d, .convert xt yt x, t, p, af, g⟩ (.int .u32 (m : Int)) := (v_conv hs hd hx).cast (by rw [wrap_u32_lt h])
end
/-! ### u64 -/
theorem wrap_u64_nat (m : Nat) : IntKind.u64.wrap (m : Int) = ((m % 18446744073709551616 : Nat) : Int) := by simp [IntKind.wrap, IntKind.bits, IntKind.signed]
theorem wrap_u64_lt {m : Nat} (h : m < 18446744073709551616) : IntKind.u64.wrap (m : Int) = (m : Int) := by rw [wrap_u64_nat, Nat.mod_eq_of_lt h]
theorem orI_u64 {m n : Nat} (hm : m < 18446744073709551616) (hn : n < 18446744073709551616) : orI .u64 (m : Int) (n : Int) = ((m ||| n : Nat) : Int) := by
  unfold orI
  rw [show IntKind.u64.bits = 64 from rfl, toNat_or 64 m n (by omega) (by omega)]
  exact wrap_u64_lt (or_lt (k := 64) (by omega) (by omega))
theorem andI_u64 {m n : Nat} (hm : m < 18446744073709551616) (hn : n < 18446744073709551616) : andI .u64 (m : Int) (n : Int) = ((m &&& n : Nat) : Int) := by
  unfold andI
  rw [show IntKind.u64.bits = 64 from rfl, toNat_and 64 m n (by omega) (by omega)]
  have : m &&& n ≤ m := Nat.and_le_left
  exact wrap_u64_lt (by omega)
theorem shlI_u64 {m s : Nat} (hs : s < 64) (h : m * 2 ^ s < 18446744073709551616) : shlI .u64 (m : Int) (s : Int) = ((m * 2 ^ s : Nat) : Int) := by
  unfold shlI
  have : min (s : Int).toNat IntKind.u64.bits = s := by simp [IntKind.bits]; omega
  rw [this]
  have h2 : (m : Int) * 2 ^ s = ((m * 2 ^ s : Nat) : Int) := by norm_cast
  rw [h2]
  exact wrap_u64_lt h
theorem shrI_u64 {m s : Nat} (hs : s < 64) : shrI .u64 (m : Int) (s : Int) = ((m / 2 ^ s : Nat) : Int) := by
  unfold shrI
  have : min (s : Int).toNat IntKind.u64.bits = s := by simp [IntKind.bits]; omega
  rw [this, Int.fdiv_eq_ediv_of_nonneg _ (by exact Int.pow_nonneg (by omega))]
  norm_cast
section
variable {w0 : World} {tm : Slots} {L : Heap} {d : Option Tmp} {t : TypeId} {p : String} {af : Array Edge} {g : Option (Nat × Bool)}
variable {x y : Operand} {xt yt : TypeId} {yk : IntKind} {m n : Nat}
theorem u64_add {c : Int} (hx : ev tm x = some (.int .u64 (m : Int))) (hy : ev tm y = some (.int .u64 c)) (hc : c = (n : Int)) (h : m + n < 18446744073709551616) : Val w0 tm L ⟨d, .binOp .add xt x y yt, t, p, af, g⟩ (.int .u64 ((m + n : Nat) : Int)) :=
  (v_add hx hy).cast (by rw [hc, show (m : Int) + (n : Int) = ((m + n : Nat) : Int) from by omega, wrap_u64_lt h])
theorem u64_or (hx : ev tm x = some (.int .u64 (m : Int))) (hy : ev tm y = some (.int .u64 (n : Int))) (hm : m < 18446744073709551616) (hn : n < 18446744073709551616) : Val w0 tm L ⟨d, .binOp .or xt x y yt, t, p, af, g⟩ (.int .u64 ((m ||| n : Nat) : Int)) :=
  (v_or hx hy).cast (by rw [orI_u64 hm hn])
theorem u64_shr {c : Int} (hx : ev tm x = some (.int .u64 (m : Int))) (hy : ev tm y = some (.int yk c)) (hc : c = (n : Int)) (hn : n < 64) : Val w0 tm L ⟨d, .binOp .shr xt x y yt, t, p, af, g⟩ (.int .u64 ((m / 2 ^ n : Nat) : Int)) :=
  (v_shr hx hy (by omega)).cast (by rw [hc, shrI_u64 hn])
theorem u64_shl {c : Int} (hx : ev tm x = some (.int .u64 (m : Int))) (hy : ev tm y = some (.int yk c)) (hc : c = (n : Int)) (hn : n < 64) (h : m * 2 ^ n < 18446744073709551616) : Val w0 tm L ⟨d, .binOp .shl xt x y yt, t, p, af, g⟩ (.int .u64 ((m * 2 ^ n : Nat) : Int)) :=
  (v_shl hx hy (by omega)).cast (by rw [hc, shlI_u64 hn h])
theorem u64_conv {sd : TypeDesc} (hs : ∀ w, (underlying xt).run P w = .ok sd w) (hd : ∀ w, (underlying yt).run P w = .ok (.int .u64) w) {k' : IntKind} (hx : ev tm x = some (.int k' (m : Int))) (h : m < 18446744073709551616) :
    Val w0 tm L ⟨d, .convert xt yt x, t, p, af, g⟩ (.int .u64 (m : Int)) := (v_conv hs hd hx).cast (by rw [wrap_u64_lt h])
end
end Go.Proofs.YtljoodllnaekbaaGreatDoor

namespace Go.Proofs.YtljoodllnaekbaaGreatDoor
open Go

theorem trim_any (w0 w : World) (L : Heap) (Aa : Option Addr) (la ca : Nat) (a : List Nat) (hla : a.length = la) (hxa : a.length ≤ 5000) (hca : la ≤ ca) (hRa : Rd L Aa (dg a)) (hw : HW w0 L w) :
    Calls P 33 #[.slice Aa la ca] w fun e w' => e = .returned (.slice Aa (trimL a).length ca) ∧ HW w0 L w' := by
  refine enter (us := [.slice Aa la ca]) Tryz.func33 rfl Tryz.ntmps33 (by simp) rfl ?_ hw
  refine WC.seq ?_
  refine WC.region ?_
  refine WL.val (v_assign rfl) rfl ?_
  refine WL.nil ?_
  refine EX.next ?_
  refine WC.seq ?_
  refine WC.block ?_
  refine WC.loop (fun mm ac wl => ∃ k : Nat, (k = mm) ∧ (k ≤ a.length) ∧ (trimL (a.take k) = trimL a) ∧ St w0 21 [(0, .slice Aa k ca)] (L) ac wl) (la) ?_ ?_
  · intro ac wl hS
    exact ⟨la, rfl, by omega, by rw [← hla, List.take_length], hS.keep ⟨rfl, trivial⟩⟩
  · rintro mm ac wl ⟨k, hm, hk, ht, hS⟩
    subst hm
    revert ac wl
    refine KS.out ?_
    refine WC.seq ?_
    refine WC.seq ?_
    refine WC.region ?_
    refine WL.val (v_move rfl) rfl ?_
    refine WL.val (v_len Tryz.runUnderlying71 rfl) rfl ?_
    refine WL.val (v_gtr rfl rfl) rfl ?_
    refine WL.val (v_move rfl) rfl ?_
    refine KS.split (decide ((k : Int) > 0)) ?_ ?_
    · intro hg1_3
      have hk0 : 0 < k := by have := of_decide_eq_true hg1_3; omega
      refine WL.yes rfl rfl rfl hg1_3 (v_move rfl) rfl ?_
      refine WL.yes rfl rfl rfl hg1_3 (v_move rfl) rfl ?_
      refine WL.yes rfl rfl rfl hg1_3 (v_len Tryz.runUnderlying71 rfl) rfl ?_
      refine WL.yes rfl rfl rfl hg1_3 (v_sub_i rfl rfl (by omega)) rfl ?_
      refine WL.yes rfl rfl rfl hg1_3 (v_index_rd Tryz.runUnderlying71 Tryz.sizeOf3 rfl rfl hRa (by omega) (by rw [dg_length]; omega)) rfl ?_
      refine WL.yes rfl rfl rfl hg1_3 (v_load_rd Tryz.isAgg3 rfl hRa (dg_at (by omega))) rfl ?_
      refine WL.yes rfl rfl rfl hg1_3 (v_eql rfl rfl) rfl ?_
      refine WL.val (v_pick_t rfl hg1_3 rfl) rfl ?_
      refine WL.nil ?_
      refine EX.next ?_
      refine WC.cond rfl ?_ ?_
      · intro hb1
        refine WC.skip ?_
        refine EX.next ?_
        refine WC.block ?_
        refine WC.region ?_
        refine WL.val (v_move rfl) rfl ?_
        refine WL.val (v_move rfl) rfl ?_
        refine WL.val (v_len Tryz.runUnderlying71 rfl) rfl ?_
        refine WL.val (v_sub_i rfl rfl (by omega)) rfl ?_
        refine WL.val (v_slice (i := 0) (j := k - 1) Tryz.runUnderlying71 Tryz.sizeOf3 rfl rfl ⟨.i64, by simp [ev, get]; omega⟩ (by omega) (by omega) (by omega)) rfl ?_
        refine WL.val (v_assign rfl) rfl ?_
        refine WL.nil ?_
        refine EX.normal_block ?_
        refine EX.to ?_
        refine KS.mk fun b w hS => ⟨k - 1, by omega, k - 1, rfl, by omega, ?_, hS.keep ⟨?_, trivial⟩⟩
        · rw [← ht, trimL_take_zero hk0 hk (by simpa using hb1)]
        · simp [get, cutA_zero]
      · intro hb1
        refine WC.exit ?_
        refine EX.exit_then ?_
        refine EX.exit_then ?_
        refine EX.exit_here ?_
        refine EX.next ?_
        refine WC.seq ?_
        refine WC.region ?_
        refine WL.val (v_move rfl) rfl ?_
        refine WL.val (v_assign rfl) rfl ?_
        refine WL.nil ?_
        refine EX.next ?_
        refine WC.ret ?_
        refine ret1 Tryz.results33 rfl fun w hw => ⟨?_, hw⟩
        rw [← ht, trimL_take_ne hk0 hk (by simpa using hb1), List.length_take, Nat.min_eq_left hk]
    · intro hg1_3
      have hk0 : k = 0 := by have := of_decide_eq_false hg1_3; omega
      refine WL.no rfl rfl rfl hg1_3 ?_
      refine WL.no rfl rfl rfl hg1_3 ?_
      refine WL.no rfl rfl rfl hg1_3 ?_
      refine WL.no rfl rfl rfl hg1_3 ?_
      refine WL.no rfl rfl rfl hg1_3 ?_
      refine WL.no rfl rfl rfl hg1_3 ?_
      refine WL.no rfl rfl rfl hg1_3 ?_
      refine WL.val (v_pick_f rfl hg1_3 rfl) rfl ?_
      refine WL.nil ?_
      refine EX.next ?_
      refine WC.cond rfl ?_ ?_
      · intro hb1
        exact absurd hb1 (by decide)
      · intro hb1
        refine WC.exit ?_
        refine EX.exit_then ?_
        refine EX.exit_then ?_
        refine EX.exit_here ?_
        refine EX.next ?_
        refine WC.seq ?_
        refine WC.region ?_
        refine WL.val (v_move rfl) rfl ?_
        refine WL.val (v_assign rfl) rfl ?_
        refine WL.nil ?_
        refine EX.next ?_
        refine WC.ret ?_
        subst hk0
        refine ret1 Tryz.results33 rfl fun w hw => ⟨?_, hw⟩
        rw [← ht]; rfl
end Go.Proofs.YtljoodllnaekbaaGreatDoor

namespace Go.Proofs.YtljoodllnaekbaaGreatDoor
open Go

theorem fromBytes_any (w0 w : World) (L : Heap) (Aa : Option Addr) (la ca : Nat) (a : List Nat) (hb : ∀ d ∈ a, d < 256) (hla : a.length = la) (hxa : a.length ≤ 1000) (hca : la ≤ ca) (hRa : Rd L Aa (bt a)) (hw : HW w0 L w) :
    Calls P 21 #[.slice Aa la ca] w (NewBig w0 L (fromB a)) := by
  refine enter (us := [.slice Aa la ca]) Tryz.func21 rfl Tryz.ntmps21 (by simp) rfl ?_ hw
  refine WC.seq ?_
  refine WC.region ?_
  refine WL.val (v_assign rfl) rfl ?_
  refine WL.nil ?_
  refine EX.next ?_
  refine WC.seq ?_
  refine WC.region ?_
  refine WL.val (v_assign rfl) rfl ?_
  refine WL.nil ?_
  refine EX.next ?_
  refine WC.seq ?_
  refine WC.seq ?_
  refine WC.region ?_
  refine WL.val (v_move rfl) rfl ?_
  refine WL.val (v_len Tryz.runUnderlying23 rfl) rfl ?_
  refine WL.val (v_sub_i rfl rfl (by omega)) rfl ?_
  refine WL.val (v_assign rfl) rfl ?_
  refine WL.nil ?_
  refine EX.next ?_
  refine WC.block ?_
  refine WC.loop (fun mm ac wl => ∃ t : Nat, ∃ o : Option Own, ((a.length + 1) / 2 - t = mm) ∧ (t ≤ (a.length + 1) / 2) ∧ (o = none → dg (fbs a t) = []) ∧ St w0 35 [(0, .slice Aa la ca), (3, ownV o (dg (fbs a t))), (4, .int .i64 ((a.length : Int) - 1 - 2 * (t : Int)))] (ownL 3 o (dg (fbs a t)) ++ L) ac wl) ((a.length + 1) / 2) ?_ ?_
  · intro ac wl hS
    refine ⟨0, none, rfl, by omega, fun _ => rfl, hS.keep ⟨rfl, rfl, ?_, trivial⟩⟩
    simp [get]; omega
  · rintro mm ac wl ⟨t, o, hm, ht, ho, hS⟩
    subst hm
    revert ac wl
    refine KS.out ?_
    refine WC.seq ?_
    refine WC.seq ?_
    refine WC.region ?_
    refine WL.val (v_move rfl) rfl ?_
    refine WL.val (v_geq rfl rfl) rfl ?_
    refine WL.nil ?_
    refine EX.next ?_
    refine WC.cond rfl ?_ ?_
    · intro hb3
      have hi : 0 ≤ (a.length : Int) - 1 - 2 * (t : Int) := of_decide_eq_true hb3
      refine WC.skip ?_
      refine EX.next ?_
      refine WC.seq ?_
      refine WC.block ?_
      refine WC.seq ?_
      refine WC.region ?_
      refine WL.val (v_move rfl) rfl ?_
      refine WL.val (v_move rfl) rfl ?_
      refine WL.val (v_index_rd Tryz.runUnderlying23 Tryz.sizeOf5 rfl rfl (Rd.mono hRa (fun _ h => (List.mem_append_right _ h))) (by omega) (by rw [bt_length]; omega)) rfl ?_
      refine WL.val (v_load_rd Tryz.isAgg5 rfl (Rd.mono hRa (fun _ h => (List.mem_append_right _ h))) (bt_at (by omega))) rfl ?_
      refine WL.val (n_int Tryz.runUnderlying5 Tryz.runUnderlying3 rfl (by have := byte_at hb ((a.length : Int) - 1 - 2 * (t : Int)).toNat; omega)) rfl ?_
      refine WL.val (v_assign rfl) rfl ?_
      refine WL.nil ?_
      refine EX.next ?_
      refine WC.cut (fun ac wl => St w0 35 [(0, .slice Aa la ca), (3, ownV o (dg (fbs a t))), (4, .int .i64 ((a.length : Int) - 1 - 2 * (t : Int))), (5, .int .i64 (fbD a t : Int))] (ownL 3 o (dg (fbs a t)) ++ L) ac wl) ?_ ?_
      · skip
        refine WC.seq ?_
        refine WC.region ?_
        refine WL.val (v_move rfl) rfl ?_
        refine WL.val (v_gtr rfl rfl) rfl ?_
        refine WL.nil ?_
        refine EX.next ?_
        refine WC.cond rfl ?_ ?_
        · intro hb6
          have hp : 0 < (a.length : Int) - 1 - 2 * (t : Int) := of_decide_eq_true hb6
          refine WC.region ?_
          refine WL.val (v_move rfl) rfl ?_
          refine WL.val (v_move rfl) rfl ?_
          refine WL.val (v_move rfl) rfl ?_
          refine WL.val (v_sub_i rfl rfl (by omega)) rfl ?_
          refine WL.val (v_index_rd Tryz.runUnderlying23 Tryz.sizeOf5 rfl rfl (Rd.mono hRa (fun _ h => (List.mem_append_right _ h))) (by omega) (by rw [bt_length]; omega)) rfl ?_
          refine WL.val (v_load_rd Tryz.isAgg5 rfl (Rd.mono hRa (fun _ h => (List.mem_append_right _ h))) (bt_at (by omega))) rfl ?_
          refine WL.val (n_int Tryz.runUnderlying5 Tryz.runUnderlying3 rfl (by have := byte_at hb ((a.length : Int) - 1 - 2 * (t : Int) - 1).toNat; omega)) rfl ?_
          refine WL.val (n_shl rfl rfl (show (8 : Int) = ((8 : Nat) : Int) from rfl) (by have := byte_at hb ((a.length : Int) - 1 - 2 * (t : Int) - 1).toNat; omega) (by have := byte_at hb ((a.length : Int) - 1 - 2 * (t : Int) - 1).toNat; omega)) rfl ?_
          refine WL.val (n_or rfl rfl (by first | (have := byte_at hb ((a.length : Int) - 1 - 2 * (t : Int)).toNat; omega) | (have := byte_at hb ((a.length : Int) - 1 - 2 * (t : Int) - 1).toNat; omega)) (by first | (have := byte_at hb ((a.length : Int) - 1 - 2 * (t : Int)).toNat; omega) | (have := byte_at hb ((a.length : Int) - 1 - 2 * (t : Int) - 1).toNat; omega))) rfl ?_
          refine WL.val (v_assign rfl) rfl ?_
          refine WL.nil ?_
          refine EX.to ?_
          refine KS.mk fun b w hS => hS.keep ⟨rfl, rfl, rfl, ?_, trivial⟩
          simp only [fbD, hp, if_true, if_false]; rfl
        · intro hb6
          have hp : ¬ 0 < (a.length : Int) - 1 - 2 * (t : Int) := of_decide_eq_false hb6
          refine WC.skip ?_
          refine EX.to ?_
          refine KS.mk fun b w hS => hS.keep ⟨rfl, rfl, rfl, ?_, trivial⟩
          simp only [fbD, hp, if_true, if_false]; rfl
      · intro ac wl hS
        revert ac wl
        refine KS.out ?_
        refine WC.region ?_
        refine WL.val (v_move rfl) rfl ?_
        refine WL.val (v_move rfl) rfl ?_
        refine WL.act rfl (OW.buildSlice (xs := [.tmp 30]) Tryz.runUnderlying71 Tryz.sizeOf3 Tryz.zeroValue3 rfl rfl rfl (by simp) rfl (fun b1 => ?_) rfl rfl)
        refine WL.act rfl (OW.appendLit (data := dg (fbs a t)) (data' := dg (fbs a (t + 1))) Tryz.runUnderlying71 Tryz.runUnderlying71 Tryz.sizeOf3 Tryz.typeInfo3 Tryz.zeroValue3 rfl rfl rfl rfl ho rfl (by rw [dg_length, fbs_length]; simp only [bytes3, List.length_cons, List.length_nil]; omega) (by rw [dg_length, fbs_length]; simp only [bytes3, List.length_cons, List.length_nil]; omega) (by rw [fbs_succ]; exact dg_snoc _ _) rfl (fun o1 ho1 => ?_))
        refine WL.val (v_assign rfl) rfl ?_
        refine WL.nil ?_
        refine EX.normal_block ?_
        refine EX.next ?_
        refine WC.region ?_
        refine WL.val (v_move rfl) rfl ?_
        refine WL.val (v_sub_i rfl rfl (by omega)) rfl ?_
        refine WL.val (v_assign rfl) rfl ?_
        refine WL.nil ?_
        refine EX.to ?_
        refine KS.mk fun b w hS => ⟨(a.length + 1) / 2 - (t + 1), by omega, t + 1, o1, rfl, by omega, ho1, hS.keep ⟨rfl, rfl, ?_, trivial⟩⟩
        simp [get]; omega
    · intro hb3
      have hi : (a.length : Int) - 1 - 2 * (t : Int) < 0 := by have := of_decide_eq_false hb3; omega
      have hte : t = (a.length + 1) / 2 := by omega
      subst hte
      refine WC.exit ?_
      refine EX.exit_then ?_
      refine EX.exit_then ?_
      refine EX.exit_here ?_
      refine EX.next ?_
      refine WC.seq ?_
      refine WC.region ?_
      refine WL.val (v_move rfl) rfl ?_
      refine WL.act rfl (OW.call (xs := [.tmp 33]) Tryz.call33 rfl (fun w hw => trim_any w0 w _ _ _ _ (fbs a ((a.length + 1) / 2)) (dg_length _).symm (by rw [fbs_length]; omega) (ownC_le ho) (Rd.own ho) hw) rfl ?_)
      rintro r w' ⟨rfl, hw'⟩
      refine ⟨_, _, rfl, hw', ?_⟩
      refine WL.val (v_assign rfl) rfl ?_
      refine WL.nil ?_
      refine EX.next ?_
      refine WC.ret ?_
      exact ret1 Tryz.results21 rfl fun w hw => newBig_own ho hw
end Go.Proofs.YtljoodllnaekbaaGreatDoor

namespace Go.Proofs.YtljoodllnaekbaaGreatDoor
open Go

theorem plus_any (w0 w : World) (L : Heap) (Aa : Option Addr) (la ca : Nat) (a : List Nat) (hla : a.length = la) (hxa : a.length ≤ 1000) (hca : la ≤ ca) (hRa : Rd L Aa (dg a)) (Ab : Option Addr) (lb cb : Nat) (b : List Nat) (hlb : b.length = lb) (hxb : b.length ≤ 1000) (hcb : lb ≤ cb) (hRb : Rd L Ab (dg b)) (va : Val16 a) (vb : Val16 b) (hw : HW w0 L w) :
    Calls P 19 #[.slice Aa la ca, .slice Ab lb cb] w (NewBig w0 L (plusL a b)) := by
  refine enter (us := [.slice Aa la ca, .slice Ab lb cb]) Tryz.func19 rfl Tryz.ntmps19 (by simp) rfl ?_ hw
  refine WC.seq ?_
  refine WC.region ?_
  refine WL.val (v_assign rfl) rfl ?_
  refine WL.nil ?_
  refine EX.next ?_
  refine WC.seq ?_
  refine WC.region ?_
  refine WL.val (v_assign rfl) rfl ?_
  refine WL.nil ?_
  refine EX.next ?_
  refine WC.seq ?_
  refine WC.region ?_
  refine WL.val (v_assign rfl) rfl ?_
  refine WL.nil ?_
  refine EX.next ?_
  refine WC.seq ?_
  refine WC.seq ?_
  refine WC.region ?_
  refine WL.val (v_assign rfl) rfl ?_
  refine WL.nil ?_
  refine EX.next ?_
  refine WC.block ?_
  refine WC.loop (fun mm ac wl => ∃ i : Nat, ∃ o : Option Own, (max a.length b.length + 1 - i = mm) ∧ (i ≤ max a.length b.length + 1) ∧ (i = max a.length b.length + 1 → plusC a b (max a.length b.length) ≠ 0) ∧ (o = none → dg (pluses a b i) = []) ∧ St w0 53 [(0, .slice Aa la ca), (1, .slice Ab lb cb), (5, ownV o (dg (pluses a b i))), (6, .int .i64 (plusC a b i : Int)), (7, .int .i64 (i : Int))] (ownL 3 o (dg (pluses a b i)) ++ L) ac wl) (max a.length b.length + 1) ?_ ?_
  · intro ac wl hS
    exact ⟨0, none, rfl, by omega, by omega, fun _ => rfl, hS.keep ⟨rfl, rfl, rfl, rfl, rfl, trivial⟩⟩
  · rintro mm ac wl ⟨i, o, hm, hi, hne, ho, hS⟩
    subst hm
    revert ac wl
    refine KS.out ?_
    have hca := plusC_le va vb i
    have hda := va.at_ i
    have hdb := vb.at_ i
    refine WC.cut (fun ac wl => (i ≤ max a.length b.length) ∧ (i = max a.length b.length → plusC a b i ≠ 0) ∧ St w0 53 [(0, .slice Aa la ca), (1, .slice Ab lb cb), (5, ownV o (dg (pluses a b i))), (6, .int .i64 (plusC a b i : Int)), (7, .int .i64 (i : Int))] (ownL 3 o (dg (pluses a b i)) ++ L) ac wl) ?_ ?_
    · skip
      refine WC.seq ?_
      refine WC.region ?_
      refine WL.val (v_move rfl) rfl ?_
      refine WL.val (v_move rfl) rfl ?_
      refine WL.val (v_len Tryz.runUnderlying71 rfl) rfl ?_
      refine WL.val (v_lss rfl rfl) rfl ?_
      refine WL.val (v_move rfl) rfl ?_
      refine KS.split (decide ((i : Int) < (la : Int))) ?_ ?_
      · intro hg4_4
        have h1 : i < la := by have := of_decide_eq_true hg4_4; omega
        refine WL.no rfl rfl rfl hg4_4 ?_
        refine WL.no rfl rfl rfl hg4_4 ?_
        refine WL.no rfl rfl rfl hg4_4 ?_
        refine WL.no rfl rfl rfl hg4_4 ?_
        refine WL.val (v_pick_t rfl hg4_4 rfl) rfl ?_
        refine WL.val (v_move rfl) rfl ?_
        have hg4_10 : true = true := rfl
        refine WL.no rfl rfl rfl hg4_10 ?_
        refine WL.no rfl rfl rfl hg4_10 ?_
        refine WL.val (v_pick_t rfl hg4_10 rfl) rfl ?_
        refine WL.nil ?_
        refine EX.next ?_
        refine WC.cond rfl ?_ ?_
        · intro hb4
          have hlim : i < max a.length b.length := by omega
          refine WC.skip ?_
          refine EX.to ?_
          refine KS.mk fun b1 w hS => ⟨by omega, by omega, hS.keep ⟨rfl, rfl, rfl, rfl, rfl, trivial⟩⟩
        · intro hb4
          exact absurd hb4 (by decide)
      · intro hg4_4
        have h1 : la ≤ i := by have := of_decide_eq_false hg4_4; omega
        refine WL.yes rfl rfl rfl hg4_4 (v_move rfl) rfl ?_
        refine WL.yes rfl rfl rfl hg4_4 (v_move rfl) rfl ?_
        refine WL.yes rfl rfl rfl hg4_4 (v_len Tryz.runUnderlying71 rfl) rfl ?_
        refine WL.yes rfl rfl rfl hg4_4 (v_lss rfl rfl) rfl ?_
        refine WL.val (v_pick_f rfl hg4_4 rfl) rfl ?_
        refine WL.val (v_move rfl) rfl ?_
        refine KS.split (decide ((i : Int) < (lb : Int))) ?_ ?_
        · intro hg4_10
          have h2 : i < lb := by have := of_decide_eq_true hg4_10; omega
          refine WL.no rfl rfl rfl hg4_10 ?_
          refine WL.no rfl rfl rfl hg4_10 ?_
          refine WL.val (v_pick_t rfl hg4_10 rfl) rfl ?_
          refine WL.nil ?_
          refine EX.next ?_
          refine WC.cond rfl ?_ ?_
          · intro hb4
            have hlim : i < max a.length b.length := by omega
            refine WC.skip ?_
            refine EX.to ?_
            refine KS.mk fun b1 w hS => ⟨by omega, by omega, hS.keep ⟨rfl, rfl, rfl, rfl, rfl, trivial⟩⟩
          · intro hb4
            exact absurd hb4 (by simp)
        · intro hg4_10
          have h2 : lb ≤ i := by have := of_decide_eq_false hg4_10; omega
          refine WL.yes rfl rfl rfl hg4_10 (v_move rfl) rfl ?_
          refine WL.yes rfl rfl rfl hg4_10 (v_gtr rfl rfl) rfl ?_
          refine WL.val (v_pick_f rfl hg4_10 rfl) rfl ?_
          refine WL.nil ?_
          refine EX.next ?_
          refine WC.cond rfl ?_ ?_
          · intro hb4
            have hc0 : 0 < plusC a b i := by have := of_decide_eq_true hb4; omega
            have hi2 : i ≤ max a.length b.length := by
              by_cases he : i = max a.length b.length + 1
              · rw [he] at hc0; have h3 := plusC_le va vb (max a.length b.length); have h4 := getD_beyond (a := a) (i := max a.length b.length) (by omega); have h5 := getD_beyond (a := b) (i := max a.length b.length) (by omega); simp only [plusC] at hc0; omega
              · omega
            refine WC.skip ?_
            refine EX.to ?_
            refine KS.mk fun b1 w hS => ⟨by omega, by omega, hS.keep ⟨rfl, rfl, rfl, rfl, rfl, trivial⟩⟩
          · intro hb4
            have hc0 : plusC a b i = 0 := by have := of_decide_eq_false hb4; omega
            have hN : i = plusN a b := by
              unfold plusN
              by_cases he : i = max a.length b.length + 1
              · rw [if_neg (hne he)]; exact he
              · have : i = max a.length b.length := by omega
                rw [← this, if_pos hc0]
            subst hN
            refine WC.exit ?_
            refine EX.exit_then ?_
            refine EX.exit_then ?_
            refine EX.exit_here ?_
            refine EX.next ?_
            refine WC.seq ?_
            refine WC.region ?_
            refine WL.val (v_move rfl) rfl ?_
            refine WL.act rfl (OW.call (xs := [.tmp 51]) Tryz.call33 rfl (fun w hw => trim_any w0 w _ _ _ _ (pluses a b (plusN a b)) (dg_length _).symm (by rw [pluses_length]; unfold plusN; split <;> omega) (ownC_le ho) (Rd.own ho) hw) rfl ?_)
            rintro r w' ⟨rfl, hw'⟩
            refine ⟨_, _, rfl, hw', ?_⟩
            refine WL.val (v_assign rfl) rfl ?_
            refine WL.nil ?_
            refine EX.next ?_
            refine WC.ret ?_
            exact ret1 Tryz.results19 rfl fun w hw => newBig_own ho hw
    · rintro ac wl ⟨hlim, hcn, hS⟩
      revert ac wl
      refine KS.out ?_
      refine WC.seq ?_
      refine WC.block ?_
      refine WC.cut (fun ac wl => St w0 53 [(0, .slice Aa la ca), (1, .slice Ab lb cb), (5, ownV o (dg (pluses a b i))), (6, .int .i64 ((plusC a b i + a.getD i 0 : Nat) : Int)), (7, .int .i64 (i : Int))] (ownL 3 o (dg (pluses a b i)) ++ L) ac wl) ?_ ?_
      · skip
        refine WC.seq ?_
        refine WC.region ?_
        refine WL.val (v_move rfl) rfl ?_
        refine WL.val (v_move rfl) rfl ?_
        refine WL.val (v_len Tryz.runUnderlying71 rfl) rfl ?_
        refine WL.val (v_lss rfl rfl) rfl ?_
        refine WL.nil ?_
        refine EX.next ?_
        refine WC.cond rfl ?_ ?_
        · intro hb6
          have hlt : i < la := by have := of_decide_eq_true hb6; omega
          refine WC.region ?_
          refine WL.val (v_move rfl) rfl ?_
          refine WL.val (v_move rfl) rfl ?_
          refine WL.val (v_move rfl) rfl ?_
          refine WL.val (n_index Tryz.runUnderlying71 Tryz.sizeOf3 rfl rfl (Rd.mono hRa (fun _ h => (List.mem_append_right _ h))) (by omega) (by rw [dg_length]; omega)) rfl ?_
          refine WL.val (v_load_rd Tryz.isAgg3 rfl (Rd.mono hRa (fun _ h => (List.mem_append_right _ h))) (dg_at (by omega))) rfl ?_
          refine WL.val (n_add rfl rfl (by omega)) rfl ?_
          refine WL.val (v_assign rfl) rfl ?_
          refine WL.nil ?_
          refine EX.to ?_
          refine KS.mk fun b1 w hS => hS.keep ⟨rfl, rfl, rfl, ?_, rfl, trivial⟩
          first | rfl | (rw [getD_beyond (a := a) (by omega)]; rfl)
        · intro hb6
          have hge : la ≤ i := by have := of_decide_eq_false hb6; omega
          refine WC.skip ?_
          refine EX.to ?_
          refine KS.mk fun b1 w hS => hS.keep ⟨rfl, rfl, rfl, ?_, rfl, trivial⟩
          first | rfl | (rw [getD_beyond (a := a) (by omega)]; rfl)
      · intro ac wl hS
        revert ac wl
        refine KS.out ?_
        refine WC.cut (fun ac wl => St w0 53 [(0, .slice Aa la ca), (1, .slice Ab lb cb), (5, ownV o (dg (pluses a b i))), (6, .int .i64 ((plusC a b i + a.getD i 0 + b.getD i 0 : Nat) : Int)), (7, .int .i64 (i : Int))] (ownL 3 o (dg (pluses a b i)) ++ L) ac wl) ?_ ?_
        · skip
          refine WC.seq ?_
          refine WC.region ?_
          refine WL.val (v_move rfl) rfl ?_
          refine WL.val (v_move rfl) rfl ?_
          refine WL.val (v_len Tryz.runUnderlying71 rfl) rfl ?_
          refine WL.val (v_lss rfl rfl) rfl ?_
          refine WL.nil ?_
          refine EX.next ?_
          refine WC.cond rfl ?_ ?_
          · intro hb8
            have hlt : i < lb := by have := of_decide_eq_true hb8; omega
            refine WC.region ?_
            refine WL.val (v_move rfl) rfl ?_
            refine WL.val (v_move rfl) rfl ?_
            refine WL.val (v_move rfl) rfl ?_
            refine WL.val (n_index Tryz.runUnderlying71 Tryz.sizeOf3 rfl rfl (Rd.mono hRb (fun _ h => (List.mem_append_right _ h))) (by omega) (by rw [dg_length]; omega)) rfl ?_
            refine WL.val (v_load_rd Tryz.isAgg3 rfl (Rd.mono hRb (fun _ h => (List.mem_append_right _ h))) (dg_at (by omega))) rfl ?_
            refine WL.val (n_add rfl rfl (by omega)) rfl ?_
            refine WL.val (v_assign rfl) rfl ?_
            refine WL.nil ?_
            refine EX.to ?_
            refine KS.mk fun b1 w hS => hS.keep ⟨rfl, rfl, rfl, ?_, rfl, trivial⟩
            first | rfl | (rw [getD_beyond (a := b) (by omega)]; rfl)
          · intro hb8
            have hge : lb ≤ i := by have := of_decide_eq_false hb8; omega
            refine WC.skip ?_
            refine EX.to ?_
            refine KS.mk fun b1 w hS => hS.keep ⟨rfl, rfl, rfl, ?_, rfl, trivial⟩
            first | rfl | (rw [getD_beyond (a := b) (by omega)]; rfl)
        · intro ac wl hS
          revert ac wl
          refine KS.out ?_
          refine WC.seq ?_
          refine WC.region ?_
          refine WL.val (v_move rfl) rfl ?_
          refine WL.val (v_move rfl) rfl ?_
          refine WL.val (n_mask rfl (by omega)) rfl ?_
          refine WL.act rfl (OW.buildSlice (xs := [.tmp 46]) Tryz.runUnderlying71 Tryz.sizeOf3 Tryz.zeroValue3 rfl rfl rfl (by simp) rfl (fun b1 => ?_) rfl rfl)
          refine WL.act rfl (OW.appendLit (data := dg (pluses a b i)) (data' := dg (pluses a b (i + 1))) Tryz.runUnderlying71 Tryz.runUnderlying71 Tryz.sizeOf3 Tryz.typeInfo3 Tryz.zeroValue3 rfl rfl rfl rfl ho rfl (by rw [dg_length, pluses_length]; simp only [bytes3, List.length_cons, List.length_nil]; omega) (by rw [dg_length, pluses_length]; simp only [bytes3, List.length_cons, List.length_nil]; omega) (by rw [pluses_succ]; exact dg_snoc _ _) rfl (fun o1 ho1 => ?_))
          refine WL.val (v_assign rfl) rfl ?_
          refine WL.nil ?_
          refine EX.next ?_
          refine WC.region ?_
          refine WL.val (v_move rfl) rfl ?_
          refine WL.val (n_shr rfl rfl (show (16 : Int) = ((16 : Nat) : Int) from rfl) (by omega)) rfl ?_
          refine WL.val (v_assign rfl) rfl ?_
          refine WL.nil ?_
          refine EX.normal_block ?_
          refine EX.next ?_
          refine WC.region ?_
          refine WL.val (v_move rfl) rfl ?_
          refine WL.val (n_add1 rfl rfl (show (1 : Int) = ((1 : Nat) : Int) from rfl) (by omega)) rfl ?_
          refine WL.val (v_assign rfl) rfl ?_
          refine WL.nil ?_
          refine EX.to ?_
          refine KS.mk fun b1 w hS => ⟨max a.length b.length + 1 - (i + 1), by omega, i + 1, o1, rfl, by omega, ?_, ho1, hS.keep ⟨rfl, rfl, rfl, rfl, rfl, trivial⟩⟩
          intro he; have h9 : i = max a.length b.length := by omega
          rw [← h9]; exact hcn h9
end Go.Proofs.YtljoodllnaekbaaGreatDoor

namespace Go.Proofs.YtljoodllnaekbaaGreatDoor
open Go

theorem minus_any (w0 w : World) (L : Heap) (Aa : Option Addr) (la ca : Nat) (a : List Nat) (hla : a.length = la) (hxa : a.length ≤ 1000) (hca : la ≤ ca) (hRa : Rd L Aa (dg a)) (Ab : Option Addr) (lb cb : Nat) (b : List Nat) (hlb : b.length = lb) (hxb : b.length ≤ 1000) (hcb : lb ≤ cb) (hRb : Rd L Ab (dg b)) (va : Val16 a) (vb : Val16 b) (hw : HW w0 L w) :
    Calls P 22 #[.slice Aa la ca, .slice Ab lb cb] w (NewBig w0 L (minusL a b)) := by
  refine enter (us := [.slice Aa la ca, .slice Ab lb cb]) Tryz.func22 rfl Tryz.ntmps22 (by simp) rfl ?_ hw
  refine WC.seq ?_
  refine WC.region ?_
  refine WL.val (v_assign rfl) rfl ?_
  refine WL.nil ?_
  refine EX.next ?_
  refine WC.seq ?_
  refine WC.region ?_
  refine WL.val (v_assign rfl) rfl ?_
  refine WL.nil ?_
  refine EX.next ?_
  refine WC.seq ?_
  refine WC.region ?_
  refine WL.val (v_assign rfl) rfl ?_
  refine WL.nil ?_
  refine EX.next ?_
  refine WC.seq ?_
  refine WC.seq ?_
  refine WC.region ?_
  refine WL.val (v_move rfl) rfl ?_
  refine WL.val (v_len Tryz.runUnderlying71 rfl) rfl ?_
  refine WL.val (v_move rfl) rfl ?_
  refine WL.nil ?_
  refine EX.next ?_
  refine WC.block ?_
  refine WC.loop (fun mm ac wl => ∃ i : Nat, ∃ o : Option Own, (la - i = mm) ∧ (i ≤ la) ∧ (o = none → dg (minuses a b i) = []) ∧ St w0 41 [(0, .slice Aa la ca), (1, .slice Ab lb cb), (5, ownV o (dg (minuses a b i))), (6, .int .i64 (minusC a b i : Int)), (10, .int .i64 (la : Int)), (11, .int .i64 (i : Int))] (ownL 3 o (dg (minuses a b i)) ++ L) ac wl) (la) ?_ ?_
  · intro ac wl hS
    exact ⟨0, none, rfl, by omega, fun _ => rfl, hS.keep ⟨rfl, rfl, rfl, rfl, rfl, rfl, trivial⟩⟩
  · rintro mm ac wl ⟨i, o, hm, hi, ho, hS⟩
    subst hm
    revert ac wl
    refine KS.out ?_
    have hca := minusC_le a b i
    have hda := va.at_ i
    have hdb := vb.at_ i
    refine WC.seq ?_
    refine WC.region ?_
    refine WL.val (v_lss rfl rfl) rfl ?_
    refine WL.nil ?_
    refine EX.next ?_
    refine WC.seq ?_
    refine WC.cond rfl ?_ ?_
    · intro hb4
      have hlt : i < la := by have := of_decide_eq_true hb4; omega
      refine WC.skip ?_
      refine EX.next ?_
      refine WC.seq ?_
      refine WC.block ?_
      refine WC.seq ?_
      refine WC.region ?_
      refine WL.val (v_move rfl) rfl ?_
      refine WL.val (v_assign rfl) rfl ?_
      refine WL.nil ?_
      refine EX.next ?_
      refine WC.seq ?_
      refine WC.region ?_
      refine WL.val (v_move rfl) rfl ?_
      refine WL.val (v_move rfl) rfl ?_
      refine WL.val (n_index Tryz.runUnderlying71 Tryz.sizeOf3 rfl rfl (Rd.mono hRa (fun _ h => (List.mem_append_right _ h))) (by omega) (by rw [dg_length]; omega)) rfl ?_
      refine WL.val (v_load_rd Tryz.isAgg3 rfl (Rd.mono hRa (fun _ h => (List.mem_append_right _ h))) (dg_at (by omega))) rfl ?_
      refine WL.val (v_move rfl) rfl ?_
      refine WL.val (v_sub_i rfl rfl (by omega)) rfl ?_
      refine WL.val (v_assign rfl) rfl ?_
      refine WL.nil ?_
      refine EX.next ?_
      refine WC.cut (fun ac wl => St w0 41 [(0, .slice Aa la ca), (1, .slice Ab lb cb), (5, ownV o (dg (minuses a b i))), (8, .int .i64 ((a.getD i 0 : Int) - (minusC a b i : Int) - (b.getD i 0 : Int))), (10, .int .i64 (la : Int)), (11, .int .i64 (i : Int))] (ownL 3 o (dg (minuses a b i)) ++ L) ac wl) ?_ ?_
      · skip
        refine WC.seq ?_
        refine WC.region ?_
        refine WL.val (v_move rfl) rfl ?_
        refine WL.val (v_move rfl) rfl ?_
        refine WL.val (v_len Tryz.runUnderlying71 rfl) rfl ?_
        refine WL.val (v_lss rfl rfl) rfl ?_
        refine WL.nil ?_
        refine EX.next ?_
        refine WC.cond rfl ?_ ?_
        · intro hb7
          have hlb2 : i < lb := by have := of_decide_eq_true hb7; omega
          refine WC.region ?_
          refine WL.val (v_move rfl) rfl ?_
          refine WL.val (v_move rfl) rfl ?_
          refine WL.val (v_move rfl) rfl ?_
          refine WL.val (n_index Tryz.runUnderlying71 Tryz.sizeOf3 rfl rfl (Rd.mono hRb (fun _ h => (List.mem_append_right _ h))) (by omega) (by rw [dg_length]; omega)) rfl ?_
          refine WL.val (v_load_rd Tryz.isAgg3 rfl (Rd.mono hRb (fun _ h => (List.mem_append_right _ h))) (dg_at (by omega))) rfl ?_
          refine WL.val (v_sub_i rfl rfl (by omega)) rfl ?_
          refine WL.val (v_assign rfl) rfl ?_
          refine WL.nil ?_
          refine EX.to ?_
          refine KS.mk fun b1 w hS => hS.keep ⟨rfl, rfl, rfl, ?_, rfl, rfl, trivial⟩
          first | rfl | (rw [getD_beyond (a := b) (by omega)]; show some (Value.int IntKind.i64 _) = some (Value.int IntKind.i64 _); congr 2; omega)
        · intro hb7
          have hlb2 : lb ≤ i := by have := of_decide_eq_false hb7; omega
          refine WC.skip ?_
          refine EX.to ?_
          refine KS.mk fun b1 w hS => hS.keep ⟨rfl, rfl, rfl, ?_, rfl, rfl, trivial⟩
          first | rfl | (rw [getD_beyond (a := b) (by omega)]; show some (Value.int IntKind.i64 _) = some (Value.int IntKind.i64 _); congr 2; omega)
      · intro ac wl hS
        revert ac wl
        refine KS.out ?_
        refine WC.seq ?_
        refine WC.region ?_
        refine WL.val (v_assign rfl) rfl ?_
        refine WL.nil ?_
        refine EX.next ?_
        refine WC.cut (fun ac wl => St w0 41 [(0, .slice Aa la ca), (1, .slice Ab lb cb), (5, ownV o (dg (minuses a b i))), (6, .int .i64 (minusC a b (i + 1) : Int)), (8, .int .i64 (minusD a b i : Int)), (10, .int .i64 (la : Int)), (11, .int .i64 (i : Int))] (ownL 3 o (dg (minuses a b i)) ++ L) ac wl) ?_ ?_
        · skip
          refine WC.seq ?_
          refine WC.region ?_
          refine WL.val (v_move rfl) rfl ?_
          refine WL.val (v_lss rfl rfl) rfl ?_
          refine WL.nil ?_
          refine EX.next ?_
          refine WC.cond rfl ?_ ?_
          · intro hb10
            have hneg : (a.getD i 0 : Int) - (minusC a b i : Int) - (b.getD i 0 : Int) < 0 := of_decide_eq_true hb10
            refine WC.region ?_
            refine WL.val (v_move rfl) rfl ?_
            refine WL.val (v_add_i rfl rfl (by omega)) rfl ?_
            refine WL.val (v_assign rfl) rfl ?_
            refine WL.val (v_assign rfl) rfl ?_
            refine WL.nil ?_
            refine EX.to ?_
            refine KS.mk fun b1 w hS => hS.keep ⟨rfl, rfl, rfl, ?_, ?_, rfl, rfl, trivial⟩
            · show some (Value.int IntKind.i64 _) = some (Value.int IntKind.i64 _); congr 2; simp only [minusC]; split <;> omega
            · show some (Value.int IntKind.i64 _) = some (Value.int IntKind.i64 _); congr 2; unfold minusD; split <;> omega
          · intro hb10
            have hneg : ¬ (a.getD i 0 : Int) - (minusC a b i : Int) - (b.getD i 0 : Int) < 0 := of_decide_eq_false hb10
            refine WC.skip ?_
            refine EX.to ?_
            refine KS.mk fun b1 w hS => hS.keep ⟨rfl, rfl, rfl, ?_, ?_, rfl, rfl, trivial⟩
            · show some (Value.int IntKind.i64 _) = some (Value.int IntKind.i64 _); congr 2; simp only [minusC]; split <;> omega
            · show some (Value.int IntKind.i64 _) = some (Value.int IntKind.i64 _); congr 2; unfold minusD; split <;> omega
        · intro ac wl hS
          revert ac wl
          refine KS.out ?_
          refine WC.region ?_
          refine WL.val (v_move rfl) rfl ?_
          refine WL.val (v_move rfl) rfl ?_
          refine WL.act rfl (OW.buildSlice (xs := [.tmp 35]) Tryz.runUnderlying71 Tryz.sizeOf3 Tryz.zeroValue3 rfl rfl rfl (by simp) rfl (fun b1 => ?_) rfl rfl)
          refine WL.act rfl (OW.appendLit (data := dg (minuses a b i)) (data' := dg (minuses a b (i + 1))) Tryz.runUnderlying71 Tryz.runUnderlying71 Tryz.sizeOf3 Tryz.typeInfo3 Tryz.zeroValue3 rfl rfl rfl rfl ho rfl (by rw [dg_length, minuses_length]; simp only [bytes3, List.length_cons, List.length_nil]; omega) (by rw [dg_length, minuses_length]; simp only [bytes3, List.length_cons, List.length_nil]; omega) (by rw [minuses_succ]; exact dg_snoc _ _) rfl (fun o1 ho1 => ?_))
          refine WL.val (v_assign rfl) rfl ?_
          refine WL.nil ?_
          refine EX.normal_block ?_
          refine EX.next ?_
          refine WC.region ?_
          refine WL.val (n_add1 rfl rfl (show (1 : Int) = ((1 : Nat) : Int) from rfl) (by omega)) rfl ?_
          refine WL.val (v_move rfl) rfl ?_
          refine WL.nil ?_
          refine EX.to ?_
          exact KS.mk fun b1 w hS => ⟨la - (i + 1), by omega, i + 1, o1, rfl, by omega, ho1, hS.keep ⟨rfl, rfl, rfl, rfl, rfl, rfl, trivial⟩⟩
    · intro hb4
      have hge : i = la := by have := of_decide_eq_false hb4; omega
      have hfin : o = none → dg (minuses a b a.length) = [] := by rw [hla, ← hge]; exact ho
      refine WC.exit ?_
      refine EX.exit_then ?_
      refine EX.exit_then ?_
      refine EX.exit_here ?_
      refine EX.next ?_
      refine WC.seq ?_
      refine WC.region ?_
      refine WL.val (v_move rfl) rfl ?_
      have ho : o = none → dg (minuses a b a.length) = [] := hfin
      rw [hge, ← hla]
      refine WL.act rfl (OW.call (xs := [.tmp 39]) Tryz.call33 rfl (fun w hw => trim_any w0 w _ _ _ _ (minuses a b a.length) (dg_length _).symm (by rw [minuses_length]; omega) (ownC_le ho) (Rd.own ho) hw) rfl ?_)
      rintro r w' ⟨rfl, hw'⟩
      refine ⟨_, _, rfl, hw', ?_⟩
      refine WL.val (v_assign rfl) rfl ?_
      refine WL.nil ?_
      refine EX.next ?_
      refine WC.ret ?_
      exact ret1 Tryz.results22 rfl fun w hw => newBig_own ho hw
end Go.Proofs.YtljoodllnaekbaaGreatDoor

namespace Go.Proofs.YtljoodllnaekbaaGreatDoor
open Go

theorem shifted_any (w0 w : World) (L : Heap) (Aa : Option Addr) (la ca : Nat) (a : List Nat) (hla : a.length = la) (hxa : a.length ≤ 1000) (hca : la ≤ ca) (hRa : Rd L Aa (dg a)) (n : Nat) (hn : n ≤ 15) (va : Val16 a) (hw : HW w0 L w) :
    Calls P 34 #[.slice Aa la ca, .int .i64 (n : Int)] w (NewBig w0 L (shiftL a n)) := by
  refine enter (us := [.slice Aa la ca, .int .i64 (n : Int)]) Tryz.func34 rfl Tryz.ntmps34 (by simp) rfl ?_ hw
  refine WC.seq ?_
  refine WC.region ?_
  refine WL.val (v_assign rfl) rfl ?_
  refine WL.nil ?_
  refine EX.next ?_
  refine WC.seq ?_
  refine WC.region ?_
  refine WL.val (v_assign rfl) rfl ?_
  refine WL.nil ?_
  refine EX.next ?_
  refine WC.seq ?_
  refine WC.region ?_
  refine WL.val (v_assign rfl) rfl ?_
  refine WL.nil ?_
  refine EX.next ?_
  refine WC.seq ?_
  refine WC.seq ?_
  refine WC.region ?_
  refine WL.val (v_move rfl) rfl ?_
  refine WL.val (v_len Tryz.runUnderlying71 rfl) rfl ?_
  refine WL.val (v_move rfl) rfl ?_
  refine WL.nil ?_
  refine EX.next ?_
  refine WC.block ?_
  refine WC.loop (fun mm ac wl => ∃ i : Nat, ∃ o : Option Own, (la - i = mm) ∧ (i ≤ la) ∧ (o = none → dg (shifts a n i) = []) ∧ St w0 33 [(1, .int .i64 (n : Int)), (5, ownV o (dg (shifts a n i))), (6, .int .i64 (shiftC a n i : Int)), (9, .slice Aa la ca), (10, .int .i64 (la : Int)), (11, .int .i64 (i : Int))] (ownL 3 o (dg (shifts a n i)) ++ L) ac wl) (la) ?_ ?_
  · intro ac wl hS
    exact ⟨0, none, rfl, by omega, fun _ => rfl, hS.keep ⟨rfl, rfl, rfl, rfl, rfl, rfl, trivial⟩⟩
  · rintro mm ac wl ⟨i, o, hm, hi, ho, hS⟩
    subst hm
    revert ac wl
    refine KS.out ?_
    have hca := shiftC_lt va hn i
    have hda := mul_pow_lt (va.at_ i) hn
    have hor := shift_or_lt va hn i
    refine WC.seq ?_
    refine WC.region ?_
    refine WL.val (v_lss rfl rfl) rfl ?_
    refine WL.nil ?_
    refine EX.next ?_
    refine WC.seq ?_
    refine WC.cond rfl ?_ ?_
    · intro hb4
      have hlt : i < la := by have := of_decide_eq_true hb4; omega
      refine WC.skip ?_
      refine EX.next ?_
      refine WC.seq ?_
      refine WC.block ?_
      refine WC.seq ?_
      refine WC.region ?_
      refine WL.val (n_index Tryz.runUnderlying71 Tryz.sizeOf3 rfl rfl (Rd.mono hRa (fun _ h => (List.mem_append_right _ h))) (by omega) (by rw [dg_length]; omega)) rfl ?_
      refine WL.val (v_load_rd Tryz.isAgg3 rfl (Rd.mono hRa (fun _ h => (List.mem_append_right _ h))) (dg_at (by omega))) rfl ?_
      refine WL.val (v_assign rfl) rfl ?_
      refine WL.nil ?_
      refine EX.next ?_
      refine WC.seq ?_
      refine WC.region ?_
      refine WL.val (v_move rfl) rfl ?_
      refine WL.val (v_move rfl) rfl ?_
      refine WL.val (v_move rfl) rfl ?_
      refine WL.val (n_shl rfl rfl rfl (by omega) (by omega)) rfl ?_
      refine WL.val (n_or rfl rfl (by omega) (by omega)) rfl ?_
      refine WL.val (v_assign rfl) rfl ?_
      refine WL.nil ?_
      refine EX.next ?_
      refine WC.seq ?_
      refine WC.region ?_
      refine WL.val (v_move rfl) rfl ?_
      refine WL.val (v_move rfl) rfl ?_
      refine WL.val (n_mask rfl (by omega)) rfl ?_
      refine WL.act rfl (OW.buildSlice (xs := [.tmp 22]) Tryz.runUnderlying71 Tryz.sizeOf3 Tryz.zeroValue3 rfl rfl rfl (by simp) rfl (fun b1 => ?_) rfl rfl)
      refine WL.act rfl (OW.appendLit (data := dg (shifts a n i)) (data' := dg (shifts a n (i + 1))) Tryz.runUnderlying71 Tryz.runUnderlying71 Tryz.sizeOf3 Tryz.typeInfo3 Tryz.zeroValue3 rfl rfl rfl rfl ho rfl (by rw [dg_length, shifts_length]; simp only [bytes3, List.length_cons, List.length_nil]; omega) (by rw [dg_length, shifts_length]; simp only [bytes3, List.length_cons, List.length_nil]; omega) (by rw [shifts_succ]; exact dg_snoc _ _) rfl (fun o1 ho1 => ?_))
      refine WL.val (v_assign rfl) rfl ?_
      refine WL.nil ?_
      refine EX.next ?_
      refine WC.region ?_
      refine WL.val (v_move rfl) rfl ?_
      refine WL.val (n_shr rfl rfl (show (16 : Int) = ((16 : Nat) : Int) from rfl) (by omega)) rfl ?_
      refine WL.val (v_assign rfl) rfl ?_
      refine WL.nil ?_
      refine EX.normal_block ?_
      refine EX.next ?_
      refine WC.region ?_
      refine WL.val (n_add1 rfl rfl (show (1 : Int) = ((1 : Nat) : Int) from rfl) (by omega)) rfl ?_
      refine WL.val (v_move rfl) rfl ?_
      refine WL.nil ?_
      refine EX.to ?_
      exact KS.mk fun b1 w hS => ⟨la - (i + 1), by omega, i + 1, o1, rfl, by omega, ho1, hS.keep ⟨rfl, rfl, rfl, rfl, rfl, rfl, trivial⟩⟩
    · intro hb4
      have hge : i = la := by have := of_decide_eq_false hb4; omega
      have hfin : o = none → dg (shifts a n a.length) = [] := by rw [hla, ← hge]; exact ho
      refine WC.exit ?_
      refine EX.exit_then ?_
      refine EX.exit_then ?_
      refine EX.exit_here ?_
      refine EX.next ?_
      refine WC.seq ?_
      refine WC.region ?_
      refine WL.val (v_move rfl) rfl ?_
      refine WL.val (v_move rfl) rfl ?_
      have ho : o = none → dg (shifts a n a.length) = [] := hfin
      rw [hge, ← hla]
      refine WL.act rfl (OW.buildSlice (xs := [.tmp 29]) Tryz.runUnderlying71 Tryz.sizeOf3 Tryz.zeroValue3 rfl rfl rfl (by simp) rfl (fun b2 => ?_) rfl rfl)
      refine WL.act rfl (OW.appendLit (data := dg (shifts a n a.length)) (data' := dg (shifts a n a.length ++ [shiftC a n a.length])) Tryz.runUnderlying71 Tryz.runUnderlying71 Tryz.sizeOf3 Tryz.typeInfo3 Tryz.zeroValue3 rfl rfl rfl rfl ho rfl (by rw [dg_length, shifts_length]; simp only [bytes3, List.length_cons, List.length_nil]; omega) (by rw [dg_length, shifts_length]; simp only [bytes3, List.length_cons, List.length_nil]; omega) (dg_snoc _ _) rfl (fun o2 ho2 => ?_))
      refine WL.act rfl (OW.call (xs := [.tmp 31]) Tryz.call33 rfl (fun w hw => trim_any w0 w _ _ _ _ (shifts a n a.length ++ [shiftC a n a.length]) (dg_length _).symm (by rw [List.length_append, shifts_length]; simp only [List.length_cons, List.length_nil]; omega) (ownC_le ho2) (Rd.own ho2) hw) rfl ?_)
      rintro r w' ⟨rfl, hw'⟩
      refine ⟨_, _, rfl, hw', ?_⟩
      refine WL.val (v_assign rfl) rfl ?_
      refine WL.nil ?_
      refine EX.next ?_
      refine WC.ret ?_
      exact ret1 Tryz.results34 rfl fun w hw => newBig_own ho2 hw
end Go.Proofs.YtljoodllnaekbaaGreatDoor

namespace Go.Proofs.YtljoodllnaekbaaGreatDoor
open Go

theorem compare_any (w0 w : World) (L : Heap) (Aa : Option Addr) (la ca : Nat) (a : List Nat) (hla : a.length = la) (hxa : a.length ≤ 1000) (hca : la ≤ ca) (hRa : Rd L Aa (dg a)) (Ab : Option Addr) (lb cb : Nat) (b : List Nat) (hlb : b.length = lb) (hxb : b.length ≤ 1000) (hcb : lb ≤ cb) (hRb : Rd L Ab (dg b)) (va : Val16 a) (vb : Val16 b) (ta : Trimmed a) (tb : Trimmed b) (hw : HW w0 L w) :
    Calls P 35 #[.slice Aa la ca, .slice Ab lb cb] w fun e w' => ∃ c : Int, e = .returned (.int .i64 c) ∧ (0 ≤ c ↔ val b ≤ val a) ∧ HW w0 L w' := by
  refine enter (us := [.slice Aa la ca, .slice Ab lb cb]) Tryz.func35 rfl Tryz.ntmps35 (by simp) rfl ?_ hw
  refine WC.seq ?_
  refine WC.region ?_
  refine WL.val (v_assign rfl) rfl ?_
  refine WL.nil ?_
  refine EX.next ?_
  refine WC.seq ?_
  refine WC.seq ?_
  refine WC.region ?_
  refine WL.val (v_move rfl) rfl ?_
  refine WL.val (v_len Tryz.runUnderlying71 rfl) rfl ?_
  refine WL.val (v_move rfl) rfl ?_
  refine WL.val (v_len Tryz.runUnderlying71 rfl) rfl ?_
  refine WL.val (v_neq rfl rfl) rfl ?_
  refine WL.nil ?_
  refine EX.next ?_
  refine WC.cond rfl ?_ ?_
  · intro hb1
    have hne : la ≠ lb := by intro he; rw [he] at hb1; simp at hb1
    refine WC.seq ?_
    refine WC.seq ?_
    refine WC.region ?_
    refine WL.val (v_move rfl) rfl ?_
    refine WL.val (v_len Tryz.runUnderlying71 rfl) rfl ?_
    refine WL.val (v_move rfl) rfl ?_
    refine WL.val (v_len Tryz.runUnderlying71 rfl) rfl ?_
    refine WL.val (v_lss rfl rfl) rfl ?_
    refine WL.nil ?_
    refine EX.next ?_
    refine WC.cond rfl ?_ ?_
    · intro hb2
      have hlt := of_decide_eq_true hb2
      refine WC.seq ?_
      refine WC.region ?_
      refine WL.val (v_assign rfl) rfl ?_
      refine WL.nil ?_
      refine EX.next ?_
      refine WC.ret ?_
      refine EX.ret_then ?_
      refine EX.ret_then ?_
      exact ret1 Tryz.results35 rfl fun w hw => ⟨_, rfl, iff_of_false (by decide) (by have := val_lt_of_length va (tb.resolve_left (by intro he; rw [he] at hlb; simp at hlb; omega)) (by omega); omega), hw⟩
    · intro hb2
      have hlt := of_decide_eq_false hb2
      refine WC.skip ?_
      refine EX.next ?_
      refine WC.seq ?_
      refine WC.region ?_
      refine WL.val (v_assign rfl) rfl ?_
      refine WL.nil ?_
      refine EX.next ?_
      refine WC.ret ?_
      refine EX.ret_then ?_
      exact ret1 Tryz.results35 rfl fun w hw => ⟨_, rfl, iff_of_true (by decide) (by have := val_lt_of_length vb (ta.resolve_left (by intro he; rw [he] at hla; simp at hla; omega)) (by omega); omega), hw⟩
  · intro hb1
    have heq : la = lb := by by_cases he : la = lb
                             · exact he
                             · exfalso; have : ((la : Int) != (lb : Int)) = true := by rw [bne_iff_ne]; omega
                               rw [this] at hb1; cases hb1
    refine WC.skip ?_
    refine EX.next ?_
    refine WC.seq ?_
    refine WC.seq ?_
    refine WC.region ?_
    refine WL.val (v_move rfl) rfl ?_
    refine WL.val (v_len Tryz.runUnderlying71 rfl) rfl ?_
    refine WL.val (v_sub_i rfl rfl (by omega)) rfl ?_
    refine WL.val (v_assign rfl) rfl ?_
    refine WL.nil ?_
    refine EX.next ?_
    refine WC.block ?_
    refine WC.loop (fun mm ac wl => ∃ j : Nat, (j = mm) ∧ (j ≤ la) ∧ (∀ k, j ≤ k → a.getD k 0 = b.getD k 0) ∧ St w0 41 [(0, .slice Aa la ca), (1, .slice Ab lb cb), (5, .int .i64 ((j : Int) - 1))] (L) ac wl) (la) ?_ ?_
    · intro ac wl hS
      exact ⟨la, rfl, Nat.le_refl _, fun k hk => by rw [getD_beyond (by omega), getD_beyond (by omega)], hS.keep ⟨rfl, rfl, rfl, trivial⟩⟩
    · rintro mm ac wl ⟨j, hm, hj, hs, hS⟩
      subst hm
      revert ac wl
      refine KS.out ?_
      refine WC.seq ?_
      refine WC.seq ?_
      refine WC.region ?_
      refine WL.val (v_move rfl) rfl ?_
      refine WL.val (v_geq rfl rfl) rfl ?_
      refine WL.nil ?_
      refine EX.next ?_
      refine WC.cond rfl ?_ ?_
      · intro hb6
        have hj1 : 1 ≤ j := by have := of_decide_eq_true hb6; omega
        have hJ : ((j : Int) - 1) = ((j - 1 : Nat) : Int) := by omega
        rw [hJ]
        refine WC.skip ?_
        refine EX.next ?_
        refine WC.seq ?_
        refine WC.block ?_
        refine WC.seq ?_
        refine WC.drawAll (by kernel_rfl) ?_
        refine WS.val (v_move rfl) rfl ?_
        refine WS.val (v_move rfl) rfl ?_
        refine WS.val (n_index Tryz.runUnderlying71 Tryz.sizeOf3 rfl rfl hRa (by omega) (by rw [dg_length]; omega)) rfl ?_
        refine WS.val (v_load_rd Tryz.isAgg3 rfl hRa (dg_at (by omega))) rfl ?_
        refine WS.val (v_move rfl) rfl ?_
        refine WS.val (v_move rfl) rfl ?_
        refine WS.val (n_index Tryz.runUnderlying71 Tryz.sizeOf3 rfl rfl hRb (by omega) (by rw [dg_length]; omega)) rfl ?_
        refine WS.val (v_load_rd Tryz.isAgg3 rfl hRb (dg_at (by omega))) rfl ?_
        refine WS.val (v_neq rfl rfl) rfl ?_
        refine WS.nil ?_
        refine EX.next ?_
        refine WC.cond rfl ?_ ?_
        · intro hb8
          have hne8 : a.getD (j - 1) 0 ≠ b.getD (j - 1) 0 := by intro he; rw [he] at hb8; simp at hb8
          refine WC.seq ?_
          refine WC.seq ?_
          refine WC.drawAll (by kernel_rfl) ?_
          refine WS.val (v_move rfl) rfl ?_
          refine WS.val (v_move rfl) rfl ?_
          refine WS.val (n_index Tryz.runUnderlying71 Tryz.sizeOf3 rfl rfl hRa (by omega) (by rw [dg_length]; omega)) rfl ?_
          refine WS.val (v_load_rd Tryz.isAgg3 rfl hRa (dg_at (by omega))) rfl ?_
          refine WS.val (v_move rfl) rfl ?_
          refine WS.val (v_move rfl) rfl ?_
          refine WS.val (n_index Tryz.runUnderlying71 Tryz.sizeOf3 rfl rfl hRb (by omega) (by rw [dg_length]; omega)) rfl ?_
          refine WS.val (v_load_rd Tryz.isAgg3 rfl hRb (dg_at (by omega))) rfl ?_
          refine WS.val (v_lss rfl rfl) rfl ?_
          refine WS.nil ?_
          refine EX.next ?_
          refine WC.cond rfl ?_ ?_
          · intro hb9
            have hlt : a.getD (j - 1) 0 < b.getD (j - 1) 0 := by have := of_decide_eq_true hb9; omega
            refine WC.seq ?_
            refine WC.region ?_
            refine WL.val (v_assign rfl) rfl ?_
            refine WL.nil ?_
            refine EX.next ?_
            refine WC.ret ?_
            refine EX.ret_then ?_
            refine EX.ret_block ?_
            refine EX.ret_then ?_
            refine EX.ret_then ?_
            refine EX.ret_block ?_
            refine EX.ret_then ?_
            exact ret1 Tryz.results35 rfl fun w hw => ⟨_, rfl, iff_of_false (by decide) (by have := val_lt_of_digit (i := j - 1) va (by omega) (by omega) (fun k hk => hs k (by omega)) hlt; omega), hw⟩
          · intro hb9
            have hlt : b.getD (j - 1) 0 < a.getD (j - 1) 0 := by have := of_decide_eq_false hb9; omega
            refine WC.skip ?_
            refine EX.next ?_
            refine WC.seq ?_
            refine WC.region ?_
            refine WL.val (v_assign rfl) rfl ?_
            refine WL.nil ?_
            refine EX.next ?_
            refine WC.ret ?_
            refine EX.ret_block ?_
            refine EX.ret_then ?_
            refine EX.ret_then ?_
            refine EX.ret_block ?_
            refine EX.ret_then ?_
            exact ret1 Tryz.results35 rfl fun w hw => ⟨_, rfl, iff_of_true (by decide) (by have := val_lt_of_digit (i := j - 1) vb (by omega) (by omega) (fun k hk => (hs k (by omega)).symm) hlt; omega), hw⟩
        · intro hb8
          have he8 : a.getD (j - 1) 0 = b.getD (j - 1) 0 := by
            by_cases he : a.getD (j - 1) 0 = b.getD (j - 1) 0
            · exact he
            · exfalso; have : (((a.getD (j - 1) 0 : Nat) : Int) != ((b.getD (j - 1) 0 : Nat) : Int)) = true := by rw [bne_iff_ne]; omega
              rw [this] at hb8; cases hb8
          refine WC.skip ?_
          refine EX.normal_block ?_
          refine EX.next ?_
          refine WC.region ?_
          refine WL.val (v_move rfl) rfl ?_
          refine WL.val (v_sub_i rfl rfl (by omega)) rfl ?_
          refine WL.val (v_assign rfl) rfl ?_
          refine WL.nil ?_
          refine EX.to ?_
          refine KS.mk fun b1 w hS => ⟨j - 1, by omega, j - 1, rfl, by omega, ?_, hS.keep ⟨rfl, rfl, rfl, trivial⟩⟩
          intro k hk
          by_cases he : k = j - 1
          · rw [he]; exact he8
          · exact hs k (by omega)
      · intro hb6
        have hj0 : j = 0 := by have := of_decide_eq_false hb6; omega
        have hab : a = b := val_eq_of_digits (by omega) (fun k => hs k (by omega))
        refine WC.exit ?_
        refine EX.exit_then ?_
        refine EX.exit_then ?_
        refine EX.exit_here ?_
        refine EX.next ?_
        refine WC.seq ?_
        refine WC.region ?_
        refine WL.val (v_assign rfl) rfl ?_
        refine WL.nil ?_
        refine EX.next ?_
        refine WC.ret ?_
        exact ret1 Tryz.results35 rfl fun w hw => ⟨_, rfl, iff_of_true (by decide) (by rw [hab]; exact Nat.le_refl _), hw⟩
end Go.Proofs.YtljoodllnaekbaaGreatDoor

namespace Go.Proofs.YtljoodllnaekbaaGreatDoor
open Go

theorem takeAway_any (w0 w : World) (L : Heap) (b lr cr : Nat) (r : List Nat) (hlr : r.length = lr) (hxr : r.length ≤ 2000) (Am : Option Addr) (lm cm : Nat) (m : List Nat) (hlm : m.length = lm) (hxm : m.length ≤ 1000) (hcm : lm ≤ cm) (hRm : Rd L Am (dg m)) (q : Nat) (hq : q ≤ 4294967296) (vr : Val16 r) (vm : Val16 m) (hw : HW w0 ((b, blk 3 (0, 0) (dg r)) :: L) w) :
    Calls P 36 #[.slice (some ⟨b, 0, none⟩) lr cr, .slice Am lm cm, .int .i64 (q : Int)] w fun e w' => e = .returned (.tuple #[]) ∧ HW w0 ((b, blk 3 (0, 0) (dg (takeL r m q))) :: L) w' := by
  refine enter (us := [.slice (some ⟨b, 0, none⟩) lr cr, .slice Am lm cm, .int .i64 (q : Int)]) Tryz.func36 rfl Tryz.ntmps36 (by simp) rfl ?_ hw
  refine WC.seq ?_
  refine WC.region ?_
  refine WL.val (v_assign rfl) rfl ?_
  refine WL.nil ?_
  refine EX.next ?_
  refine WC.seq ?_
  refine WC.region ?_
  refine WL.val (v_move rfl) rfl ?_
  refine WL.val (v_len Tryz.runUnderlying71 rfl) rfl ?_
  refine WL.val (v_move rfl) rfl ?_
  refine WL.nil ?_
  refine EX.next ?_
  refine WC.block ?_
  refine WC.loop (fun mm ac wl => ∃ i : Nat, (lr - i = mm) ∧ (i ≤ lr) ∧ St w0 41 [(0, .slice (some ⟨b, 0, none⟩) lr cr), (1, .slice Am lm cm), (2, .int .i64 (q : Int)), (6, .int .i64 (borrow r m q i)), (10, .int .i64 (lr : Int)), (11, .int .i64 (i : Int))] ((b, blk 3 (0, 0) (dg (mix r m q i))) :: L) ac wl) (lr) ?_ ?_
  · intro ac wl hS
    rw [← mix_zero r m q] at hS
    exact ⟨0, rfl, by omega, hS.keep ⟨rfl, rfl, rfl, rfl, rfl, rfl, trivial⟩⟩
  · rintro mm ac wl ⟨i, hm, hi, hS⟩
    subst hm
    revert ac wl
    refine KS.out ?_
    have hbo := borrow_bound vr vm q i
    have hdr := vr.at_ i
    have hdm := vm.at_ i
    have hqm0 : (0 : Int) ≤ (q : Int) * ((m.getD i 0 : Nat) : Int) := Int.mul_nonneg (by omega) (by omega)
    have hqm1 : (q : Int) * ((m.getD i 0 : Nat) : Int) ≤ 4294967296 * 65535 := Int.mul_le_mul (by omega) (by omega) (by omega) (by omega)
    refine WC.seq ?_
    refine WC.region ?_
    refine WL.val (v_lss rfl rfl) rfl ?_
    refine WL.nil ?_
    refine EX.next ?_
    refine WC.seq ?_
    refine WC.cond rfl ?_ ?_
    · intro hb2
      have hlt : i < lr := by have := of_decide_eq_true hb2; omega
      have hmx := mix_getD r m q i (by omega)
      refine WC.skip ?_
      refine EX.next ?_
      refine WC.seq ?_
      refine WC.block ?_
      refine WC.seq ?_
      refine WC.region ?_
      refine WL.val (v_move rfl) rfl ?_
      refine WL.val (v_assign rfl) rfl ?_
      refine WL.nil ?_
      refine EX.next ?_
      refine WC.seq ?_
      refine WC.region ?_
      refine WL.val (v_move rfl) rfl ?_
      refine WL.val (v_move rfl) rfl ?_
      refine WL.val (n_ix Tryz.runUnderlying71 Tryz.sizeOf3 rfl rfl (by omega)) rfl ?_
      refine WL.val (Val.to (by rw [hmx]) (v_load Tryz.isAgg3 rfl m0 (dg_at (by rw [mix_length]; omega)))) rfl ?_
      refine WL.val (v_move rfl) rfl ?_
      refine WL.val (v_sub_i rfl rfl (by omega)) rfl ?_
      refine WL.val (v_assign rfl) rfl ?_
      refine WL.nil ?_
      refine EX.next ?_
      refine WC.cut (fun ac wl => St w0 41 [(0, .slice (some ⟨b, 0, none⟩) lr cr), (1, .slice Am lm cm), (2, .int .i64 (q : Int)), (7, .int .i64 (i : Int)), (8, .int .i64 (lessD r m q i)), (10, .int .i64 (lr : Int)), (11, .int .i64 (i : Int))] ((b, blk 3 (0, 0) (dg (mix r m q i))) :: L) ac wl) ?_ ?_
      · skip
        refine WC.seq ?_
        refine WC.region ?_
        refine WL.val (v_move rfl) rfl ?_
        refine WL.val (v_move rfl) rfl ?_
        refine WL.val (v_len Tryz.runUnderlying71 rfl) rfl ?_
        refine WL.val (v_lss rfl rfl) rfl ?_
        refine WL.nil ?_
        refine EX.next ?_
        refine WC.cond rfl ?_ ?_
        · intro hb5
          have hlm2 : i < lm := by have := of_decide_eq_true hb5; omega
          refine WC.region ?_
          refine WL.val (v_move rfl) rfl ?_
          refine WL.val (v_move rfl) rfl ?_
          refine WL.val (v_move rfl) rfl ?_
          refine WL.val (v_move rfl) rfl ?_
          refine WL.val (n_index Tryz.runUnderlying71 Tryz.sizeOf3 rfl rfl (Rd.mono hRm (fun _ h => (mS h))) (by omega) (by rw [dg_length]; omega)) rfl ?_
          refine WL.val (v_load_rd Tryz.isAgg3 rfl (Rd.mono hRm (fun _ h => (mS h))) (dg_at (by omega))) rfl ?_
          refine WL.val (v_mul_i rfl rfl (by omega)) rfl ?_
          refine WL.val (v_sub_i rfl rfl (by omega)) rfl ?_
          refine WL.val (v_assign rfl) rfl ?_
          refine WL.nil ?_
          refine EX.to ?_
          refine KS.mk fun b1 w hS => hS.keep ⟨rfl, rfl, rfl, rfl, ?_, rfl, rfl, trivial⟩
          first | rfl | (unfold lessD; rw [getD_beyond (a := m) (i := i) (by omega)]; show some (Value.int IntKind.i64 _) = some (Value.int IntKind.i64 _); congr 2; omega)
        · intro hb5
          have hlm2 : lm ≤ i := by have := of_decide_eq_false hb5; omega
          refine WC.skip ?_
          refine EX.to ?_
          refine KS.mk fun b1 w hS => hS.keep ⟨rfl, rfl, rfl, rfl, ?_, rfl, rfl, trivial⟩
          first | rfl | (unfold lessD; rw [getD_beyond (a := m) (i := i) (by omega)]; show some (Value.int IntKind.i64 _) = some (Value.int IntKind.i64 _); congr 2; omega)
      · intro ac wl hS
        revert ac wl
        refine KS.out ?_
        refine WC.seq ?_
        refine WC.region ?_
        refine WL.val (v_move rfl) rfl ?_
        refine WL.val (v_move rfl) rfl ?_
        refine WL.val (v_move rfl) rfl ?_
        refine WL.val ((v_and rfl rfl).cast (show Value.int IntKind.i64 (andI .i64 (lessD r m q i) 65535) = .int .i64 ((taken r m q i : Nat) : Int) by rw [andI_mask_int]; unfold taken; congr 1; omega)) rfl ?_
        refine WL.val (n_ix Tryz.runUnderlying71 Tryz.sizeOf3 rfl rfl (by omega)) rfl ?_
        refine WL.act rfl (OW.store (vs' := _) Tryz.sizeOf3 rfl rfl rfl (by rw [dg_set, mix_set r m q i (by omega)]) .here (by rw [dg_length, mix_length]; omega) (by simp) ?_)
        refine WL.nil ?_
        refine EX.next ?_
        refine WC.region ?_
        refine WL.val (v_move rfl) rfl ?_
        refine WL.val ((v_shr rfl rfl (by decide)).cast (by rw [shrI_int])) rfl ?_
        refine WL.val ((v_neg rfl).cast (show Value.int IntKind.i64 (IntKind.i64.wrap (0 - lessD r m q i / 65536)) = .int .i64 (borrow r m q (i + 1)) by rw [borrow_succ, w_i64 (by unfold lessD; omega)]; congr 1; omega)) rfl ?_
        refine WL.val (v_assign rfl) rfl ?_
        refine WL.nil ?_
        refine EX.normal_block ?_
        refine EX.next ?_
        refine WC.region ?_
        refine WL.val (v_add_i rfl rfl (by omega)) rfl ?_
        refine WL.val (v_move rfl) rfl ?_
        refine WL.nil ?_
        refine EX.to ?_
        exact KS.mk fun b1 w hS => ⟨lr - (i + 1), by omega, i + 1, rfl, by omega, hS.keep ⟨rfl, rfl, rfl, rfl, rfl, rfl, trivial⟩⟩
    · intro hb2
      have hge : i = lr := by have := of_decide_eq_false hb2; omega
      subst hge
      refine WC.exit ?_
      refine EX.exit_then ?_
      refine EX.exit_then ?_
      refine EX.exit_here ?_
      refine end0 Tryz.results36 fun w hw => ⟨rfl, ?_⟩
      rw [← hlr, mix_all] at hw
      exact hw
end Go.Proofs.YtljoodllnaekbaaGreatDoor
