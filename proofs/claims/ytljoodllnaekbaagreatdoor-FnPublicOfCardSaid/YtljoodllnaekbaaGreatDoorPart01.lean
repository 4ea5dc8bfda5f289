/- Part 1 of the proof. The ground of the walks: what is known of a frame's slots and of memory's blocks, and one rule for each step of the code. The rules of the walks: what each operation yields, in terms of the slots and the blocks that are known. The rules of the walks: operations that make or write memory, and calls. The rules of the walks: append, copy, calls, methods. The rules of the walks: a function's begin and end; sums that stay in their kind. Lists of digits and of bytes, as the code holds them. The rules of the walks over numbers that are not negative. The rules of the walks: statements whose order Go leaves open. Plain lists of digits: what the reference's functions of numbers compute. No program in it. What the reference's functions of numbers compute, as lists; and the form of their results. What the reference's functions of numbers compute, as lists, further: takeAway, Product, Rest. What the reference's 'Rest' and 'BigPower' compute, as lists. No condition. -/
import Derived.Test.YtljoodllnaekbaaGreatDoorProg
import Derived.Tactics
import Derived.Orders
import Derived.Still
import Derived.Laws.World
import Derived.Laws.Sem
import Derived.Laws.Bits
import Derived.Laws.Append
import Derived.StillTail
import Derived.KernelRfl
namespace Go.Proofs.YtljoodllnaekbaaGreatDoor
open Go

noncomputable abbrev P : Program := Tryz.prog
abbrev Slots := List (Nat × Value)
abbrev Heap := List (Nat × Obj)

/-- A block of cells. -/
abbrev blk (t : TypeId) (fr : Nat × Nat) (vs : List Value) : Obj := .cells vs.toArray t fr

def get : Slots → Nat → Option Value
  | [], _ => none
  | (j, v) :: r, i => bif Nat.beq j i then some v else get r i

def ev (tm : Slots) : Operand → Option Value
  | .tmp t => get tm t
  | .const v => some v
  | .global g => some (.pointer (some ⟨g, 0, none⟩))
  | .func f => some (.func (.func f) #[] #[])

structure HW (w0 : World) (L : Heap) (w : World) : Prop where
  nodup : (L.map Prod.fst).Nodup
  heap : ∀ p ∈ L, w.heap[p.1]? = some p.2
  os : w.os = w0.os
  tape : w.tape = w0.tape
  output : w.output = w0.output

def Agree (tm : Slots) (a : Act) : Prop := ∀ i v, get tm i = some v → a.tmps[i]? = some v

structure St (w0 : World) (n : Nat) (tm : Slots) (L : Heap) (a : Act) (w : World) : Prop where
  defers : a.defers = []
  size : a.tmps.size = n
  agree : Agree tm a
  mem : HW w0 L w

theorem ev_eval {tm : Slots} {a : Act} (h : Agree tm a) {x : Operand} {u : Value} (hx : ev tm x = some u) : a.eval x = u := by
  cases x with
  | tmp t => simp only [ev] at hx; simp [Act.eval, h t u hx]
  | const v => simpa [ev, Act.eval] using hx
  | global g => simpa [ev, Act.eval] using hx
  | func f => simpa [ev, Act.eval] using hx

/-! ### memory -/
section
variable {w0 w : World} {L L' : Heap}
theorem HW.lt (h : HW w0 L w) {b : Nat} {o : Obj} (hm : (b, o) ∈ L) : b < w.heap.size := by
  have := h.heap _ hm
  rcases Nat.lt_or_ge b w.heap.size with h' | h'
  · exact h'
  · simp [Array.getElem?_eq_none h'] at this
theorem HW.drewN (h : HW w0 L w) (n : Nat) : HW w0 L { w with drawn := n } := ⟨h.nodup, h.heap, h.os, h.tape, h.output⟩
theorem HW.perm (h : HW w0 L w) (hp : L.Perm L') : HW w0 L' w :=
  ⟨(hp.map Prod.fst).nodup_iff.1 h.nodup, fun p hm => h.heap p (hp.mem_iff.2 hm), h.os, h.tape, h.output⟩
theorem HW.sub (h : HW w0 L w) (hs : L'.Sublist L) : HW w0 L' w :=
  ⟨h.nodup.sublist (hs.map Prod.fst), fun p hm => h.heap p (hs.subset hm), h.os, h.tape, h.output⟩
theorem HW.tail {p : Nat × Obj} (h : HW w0 (p :: L) w) : HW w0 L w := h.sub (List.sublist_cons_self _ _)
theorem HW.alloc (h : HW w0 L w) (o : Obj) : HW w0 ((w.heap.size, o) :: L) { w with heap := w.heap.push o } := by
  refine ⟨?_, ?_, h.os, h.tape, h.output⟩
  · simp only [List.map_cons, List.nodup_cons]
    refine ⟨fun hm => ?_, h.nodup⟩
    obtain ⟨⟨b, o'⟩, hb, rfl⟩ := List.mem_map.1 hm
    exact absurd (h.lt hb) (by simp)
  · intro p hp
    rcases List.mem_cons.1 hp with rfl | hp
    · simp
    · have hl := h.lt (b := p.1) (o := p.2) hp
      show (w.heap.push o)[p.1]? = _
      rw [Array.getElem?_push, if_neg (by omega)]
      exact h.heap p hp
theorem HW.cell (h : HW w0 L w) {b off : Nat} {t : TypeId} {fr : Nat × Nat} {vs : List Value} (hm : (b, blk t fr vs) ∈ L) : w.cell? ⟨b, off, none⟩ = vs[off]? := by
  have := h.heap _ hm
  simp [World.cell?, this]
theorem HW.frozen (h : HW w0 L w) {b off : Nat} {t : TypeId} {fr : Nat × Nat} {vs : List Value} (hm : (b, blk t fr vs) ∈ L) : w.frozen? ⟨b, off, none⟩ = (decide (fr.1 ≤ off) && decide (off < fr.2)) := by
  have := h.heap _ hm
  simp [World.frozen?, this]
theorem HW.shape (h : HW w0 L w) {b : Nat} {t : TypeId} {fr : Nat × Nat} {vs : List Value} (hm : (b, blk t fr vs) ∈ L) : w.shape? b = some (t, vs.length) := by
  have := h.heap _ hm
  simp [World.shape?, this]
theorem HW.set {b off : Nat} {t : TypeId} {fr : Nat × Nat} {vs : List Value} (h : HW w0 ((b, blk t fr vs) :: L) w) (v : Value) :
    HW w0 ((b, blk t fr (vs.set off v)) :: L) (w.setCell ⟨b, off, none⟩ v) := by
  have hb := h.heap (b, blk t fr vs) (by simp)
  have hn := h.nodup
  simp only [List.map_cons, List.nodup_cons] at hn
  refine ⟨by simpa using hn, ?_, h.os, h.tape, h.output⟩
  intro p hp
  rcases List.mem_cons.1 hp with rfl | hp
  · simp [World.setCell, Array.getElem?_modify, hb]
  · have hne : p.1 ≠ b := fun e => hn.1 (List.mem_map.2 ⟨p, hp, e⟩)
    show (w.setCell ⟨b, off, none⟩ v).heap[p.1]? = _
    simp only [World.setCell, Array.getElem?_modify]
    rw [if_neg (fun e => hne e.symm)]
    exact h.heap p (List.mem_cons_of_mem _ hp)
theorem HW.freeze {b : Nat} {t : TypeId} {vs : List Value} (h : HW w0 ((b, blk t (0, 0) vs) :: L) w) (lo n : Nat) (hn0 : n ≠ 0) :
    HW w0 ((b, blk t (lo, lo + n) vs) :: L) (w.freeze ⟨b, lo, none⟩ n) := by
  have hb := h.heap (b, blk t (0, 0) vs) (by simp)
  have hn := h.nodup
  simp only [List.map_cons, List.nodup_cons] at hn
  refine ⟨by simpa using hn, ?_, ?_, ?_, ?_⟩
  · intro p hp
    rcases List.mem_cons.1 hp with rfl | hp
    · simp [World.freeze, hn0, Array.getElem?_modify, hb]
    · have hne : p.1 ≠ b := fun e => hn.1 (List.mem_map.2 ⟨p, hp, e⟩)
      simp only [World.freeze, hn0, if_false, Array.getElem?_modify]
      rw [if_neg (fun e => hne e.symm)]
      exact h.heap p (List.mem_cons_of_mem _ hp)
  all_goals (simp only [World.freeze, hn0, if_false])
  · exact h.os
  · exact h.tape
  · exact h.output
end

/-! ### slots -/
theorem get_cons {tm : Slots} {d : Nat} {v : Value} {i : Nat} : get ((d, v) :: tm) i = if d = i then some v else get tm i := by
  by_cases h : d = i
  · subst h; simp [get]
  · have : Nat.beq d i = false := by
      cases hb : Nat.beq d i with
      | false => rfl
      | true => exact absurd (Nat.eq_of_beq_eq_true hb) h
    simp [get, this, h]
theorem St.put {w0 : World} {n : Nat} {tm : Slots} {L : Heap} {a : Act} {w : World} (h : St w0 n tm L a w) {d : Nat} {v : Value} (hd : d < n) : St w0 n ((d, v) :: tm) L (a.put (some d) v) w := by
  refine ⟨h.defers, by simp [Act.put, h.size], ?_, h.mem⟩
  intro i u hu
  rw [get_cons] at hu
  simp only [Act.put]
  split at hu
  · rename_i e; subst e
    simp at hu; subst hu
    simp [h.size, hd]
  · rename_i e
    rw [Array.getElem?_setIfInBounds_ne e]
    exact h.agree i u hu
/-- The slot is written with something of which nothing is known. -/
def forget (d : Nat) : Slots → Slots
  | [] => []
  | (j, v) :: r => bif Nat.beq j d then forget d r else (j, v) :: forget d r
theorem get_forget {tm : Slots} {d i : Nat} {v : Value} (h : get (forget d tm) i = some v) : i ≠ d ∧ get tm i = some v := by
  induction tm with
  | nil => simp [forget, get] at h
  | cons p r ih =>
    obtain ⟨j, u⟩ := p
    cases hb : Nat.beq j d with
    | true =>
      simp only [forget, hb, cond_true] at h
      obtain ⟨h1, h2⟩ := ih h
      have := Nat.eq_of_beq_eq_true hb
      subst this
      exact ⟨h1, by rw [get_cons, if_neg (Ne.symm h1)]; exact h2⟩
    | false =>
      simp only [forget, hb, cond_false] at h
      rw [get_cons] at h ⊢
      split at h
      · rename_i e; subst e
        simp at h; subst h
        refine ⟨fun e => ?_, by simp⟩
        subst e; simp at hb
      · rename_i e
        obtain ⟨h1, h2⟩ := ih h
        exact ⟨h1, by simp [e, h2]⟩
theorem St.drop {w0 : World} {n : Nat} {tm : Slots} {L : Heap} {a : Act} {w : World} (h : St w0 n tm L a w) (d : Nat) (v : Value) : St w0 n (forget d tm) L (a.put (some d) v) w := by
  refine ⟨h.defers, by simp [Act.put, h.size], ?_, h.mem⟩
  intro i u hu
  obtain ⟨h1, h2⟩ := get_forget hu
  simp only [Act.put]
  rw [Array.getElem?_setIfInBounds_ne (Ne.symm h1)]
  exact h.agree i u h2
theorem St.heap' {w0 : World} {n : Nat} {tm : Slots} {L L' : Heap} {a : Act} {w w' : World} (h : St w0 n tm L a w) (hm : HW w0 L' w') : St w0 n tm L' a w' := ⟨h.defers, h.size, h.agree, hm⟩

/-- Each slot of the list is known so. -/
def Sub : Slots → Slots → Prop
  | [], _ => True
  | (i, v) :: r, tm => get tm i = some v ∧ Sub r tm
theorem Sub.get {t tm : Slots} (h : Sub t tm) {i : Nat} {v : Value} (hv : get t i = some v) : get tm i = some v := by
  induction t with
  | nil => simp [YtljoodllnaekbaaGreatDoor.get] at hv
  | cons p r ih =>
    obtain ⟨j, u⟩ := p
    rw [get_cons] at hv
    split at hv
    · rename_i e; subst e; simp at hv; subst hv; exact h.1
    · exact ih h.2 hv
theorem St.keep {w0 : World} {n : Nat} {tm t : Slots} {L : Heap} {a : Act} {w : World} (h : St w0 n tm L a w) (hs : Sub t tm) : St w0 n t L a w :=
  ⟨h.defers, h.size, fun i v hv => h.agree i v (hs.get hv), h.mem⟩
/-- Those slots, as they are known. -/
inductive Pick : List Nat → Slots → Slots → Prop
  | nil {tm : Slots} : Pick [] tm []
  | cons {k : Nat} {ks : List Nat} {tm t : Slots} {v : Value} : YtljoodllnaekbaaGreatDoor.get tm k = some v → Pick ks tm t → Pick (k :: ks) tm ((k, v) :: t)
theorem Pick.sub {ks : List Nat} {tm t : Slots} (h : Pick ks tm t) : Sub t tm := by
  induction h with
  | nil => trivial
  | cons hv _ ih => exact ⟨hv, ih⟩

/-! ### the walk -/
theorem exists_least (p : Nat → Prop) (h : ∃ m, p m) : ∃ m, p m ∧ ∀ k, p k → m ≤ k := by
  obtain ⟨m, hm⟩ := h
  induction m using Nat.strongRecOn with
  | _ m ih =>
    by_cases hs : ∃ k, k < m ∧ p k
    · obtain ⟨k, hk, hp⟩ := hs
      exact ih k hk hp
    · refine ⟨m, hm, fun k hk => ?_⟩
      rcases Nat.lt_or_ge k m with h' | h'
      · exact absurd ⟨k, h', hk⟩ hs
      · exact h'
/-- Wherever this is known, K holds. -/
structure KS (w0 : World) (n : Nat) (K : Act → World → Prop) (tm : Slots) (L : Heap) : Prop where
  out : ∀ a w, St w0 n tm L a w → K a w
abbrev WC (w0 : World) (n : Nat) (Q : Exit → Act → World → Prop) (tm : Slots) (L : Heap) (c : Code) : Prop := KS w0 n (c.wp P Q) tm L
abbrev WL (w0 : World) (n : Nat) (ops : Array Oper) (Q : Exit → Act → World → Prop) (tm : Slots) (L : Heap) (l : List Oper) : Prop := KS w0 n (wpList P ops Q l) tm L
abbrev EX (w0 : World) (n : Nat) (e : Exit) (Q : Exit → Act → World → Prop) (tm : Slots) (L : Heap) : Prop := KS w0 n (Q e) tm L

section
variable {w0 : World} {n : Nat} {Q Q' : Exit → Act → World → Prop} {tm t : Slots} {L L' : Heap} {x y c : Code} {ops : Array Oper} {rest : List Oper} {K : Act → World → Prop} {id id' : Nat}

theorem WC.seq (h : WC w0 n (Exit.then (y.wp P Q) Q) tm L x) : WC w0 n Q tm L (x.seq y) := .mk fun a w hS => wp_seq (h.out a w hS)
theorem WC.cut (M : Act → World → Prop) (h : WC w0 n (Exit.then M Q) tm L x) (h2 : ∀ a w, M a w → y.wp P Q a w) : WC w0 n Q tm L (x.seq y) :=
  .mk fun a w hS => wp_seq (Code.wp_mono (fun e a w q => by cases e <;> first | exact h2 _ _ q | exact q) (h.out a w hS))
theorem WC.block (h : WC w0 n (Exit.inBlock id Q) tm L c) : WC w0 n Q tm L (.block id c) := .mk fun a w hS => wp_block (h.out a w hS)
theorem WC.skip (h : EX w0 n .normal Q tm L) : WC w0 n Q tm L .skip := .mk fun a w hS => wp_skip (h.out a w hS)
theorem WC.exit (h : EX w0 n (.exit id) Q tm L) : WC w0 n Q tm L (.exit id) := .mk fun a w hS => wp_exit (h.out a w hS)
theorem WC.ret (h : EX w0 n .ret Q tm L) : WC w0 n Q tm L .ret := .mk fun a w hS => wp_ret (h.out a w hS)
theorem WC.region {i : Nat} {l : List Oper} (h : WL w0 n l.toArray Q tm L l) : WC w0 n Q tm L (.region i l.toArray false) := .mk fun a w hS => wp_region_lit (h.out a w hS)
theorem WC.cond {o : Operand} {b : Bool} (hb : ev tm o = some (.bool b)) (ht : b = true → WC w0 n Q tm L x) (hf : b = false → WC w0 n Q tm L y) : WC w0 n Q tm L (.cond o x y) :=
  .mk fun a w hS => wp_cond_split (ev_eval hS.agree hb) (fun h => (ht h).out a w hS) (fun h => (hf h).out a w hS)
theorem KS.keep (ks : List Nat) (hp : Pick ks tm t) (h : KS w0 n K t L) : KS w0 n K tm L := .mk fun a w hS => h.out a w (hS.keep hp.sub)
theorem KS.mem (hm : ∀ w, HW w0 L w → HW w0 L' w) (h : KS w0 n K tm L') : KS w0 n K tm L := .mk fun a w hS => h.out a w (hS.heap' (hm w hS.mem))
theorem WL.nil (h : EX w0 n .normal Q tm L) : WL w0 n ops Q tm L [] := .mk fun a w hS => h.out a w hS

theorem EX.next (h : WC w0 n Q tm L y) : EX w0 n .normal (Exit.then (y.wp P Q) Q') tm L := .mk fun a w hS => h.out a w hS
theorem EX.to (h : KS w0 n K tm L) : EX w0 n .normal (Exit.then K Q) tm L := .mk fun a w hS => h.out a w hS
theorem EX.ret_then (h : EX w0 n .ret Q tm L) : EX w0 n .ret (Exit.then K Q) tm L := .mk fun a w hS => h.out a w hS
theorem EX.ret_block (h : EX w0 n .ret Q tm L) : EX w0 n .ret (Exit.inBlock id Q) tm L := .mk fun a w hS => h.out a w hS
theorem EX.exit_then (h : EX w0 n (.exit id) Q tm L) : EX w0 n (.exit id) (Exit.then K Q) tm L := .mk fun a w hS => h.out a w hS
theorem EX.normal_block (h : EX w0 n .normal Q tm L) : EX w0 n .normal (Exit.inBlock id Q) tm L := .mk fun a w hS => h.out a w hS
theorem EX.exit_here (h : EX w0 n .normal Q tm L) : EX w0 n (.exit id) (Exit.inBlock id Q) tm L := .mk fun a w hS => by
  simp only [Exit.inBlock, if_true]; exact h.out a w hS
theorem EX.exit_on (hne : Nat.beq id id' = false) (h : EX w0 n (.exit id) Q tm L) : EX w0 n (.exit id) (Exit.inBlock id' Q) tm L := .mk fun a w hS => by
  have : id ≠ id' := fun e => by subst e; simp at hne
  simp only [Exit.inBlock, this, if_false]; exact h.out a w hS

/-- A loop: 'I m' holds at each round's head for some 'm' that goes down. -/
theorem WC.loop (I : Nat → Act → World → Prop) (m : Nat) (h0 : ∀ a w, St w0 n tm L a w → I m a w)
    (hr : ∀ m a w, I m a w → c.wp P (Exit.then (fun a' w' => ∃ m', m' < m ∧ I m' a' w') Q) a w) : WC w0 n Q tm L (.loop c) := by
  refine .mk fun a w hS => ?_
  classical
  let μ : Act → World → Nat := fun a w => if h : ∃ m, I m a w then Classical.choose (exists_least _ h) else 0
  refine wp_loop (fun a w => ∃ m, I m a w) μ ⟨m, h0 a w hS⟩ ?_
  intro a w hI
  have hs := Classical.choose_spec (exists_least _ hI)
  refine Code.wp_mono ?_ (hr (Classical.choose (exists_least _ hI)) a w hs.1)
  intro e a' w' q
  cases e <;> try exact q
  obtain ⟨m', hlt, hI'⟩ := q
  have h1 : μ a' w' ≤ m' := by
    simp only [μ]
    rw [dif_pos ⟨m', hI'⟩]
    exact (Classical.choose_spec (exists_least _ (⟨m', hI'⟩ : ∃ m, I m a' w'))).2 m' hI'
  have h2 : μ a w = Classical.choose (exists_least _ hI) := by simp only [μ]; rw [dif_pos hI]
  exact ⟨⟨m', hI'⟩, by omega⟩
end
end Go.Proofs.YtljoodllnaekbaaGreatDoor

namespace Go.Proofs.YtljoodllnaekbaaGreatDoor
open Go

/-- In every world and frame of which this is known, the operation yields v and leaves the world alone. -/
structure Val (w0 : World) (tm : Slots) (L : Heap) (o : Oper) (v : Value) : Prop where
  out : ∀ a w, Agree tm a → HW w0 L w → (execOp a.eval o).run P w = .ok (.value v) w

section
variable {w0 : World} {n : Nat} {Q : Exit → Act → World → Prop} {tm : Slots} {L : Heap} {ops : Array Oper} {rest : List Oper}
variable {d : Nat} {v : Value} {t : TypeId} {p : String} {af : Array Edge} {op : Op}

theorem WL.val (hv : Val w0 tm L ⟨some d, op, t, p, af, none⟩ v) (hd : Nat.blt d n = true) (k : WL w0 n ops Q ((d, v) :: tm) L rest) :
    WL w0 n ops Q tm L (⟨some d, op, t, p, af, none⟩ :: rest) := by
  refine .mk fun a w hS => ?_
  unfold wpList
  simp only [Region.wanted, if_true]
  refine .inl ?_
  simp only [Oper.wp, hv.out a w hS.agree hS.mem, Oper.upon]
  exact k.out _ _ (hS.put (by simpa using hd))
/-- A guarded operation whose guard says yes. -/
theorem yielded_of {a : Act} {j dj : Nat} {b : Bool} {oj : Oper} (hS : Agree tm a) (hj : ops[j]? = some oj) (hdj : oj.dst = some dj) (hb : get tm dj = some (.bool b)) : yielded ops a.tmps j = some b := by
  have := hS _ _ hb
  simp [yielded, hj, hdj, this]
theorem WL.yes {j dj : Nat} {want b : Bool} {oj : Oper} (hj : ops[j]? = some oj) (hdj : oj.dst = some dj) (hb : get tm dj = some (.bool b)) (hw : b = want)
    (hv : Val w0 tm L ⟨some d, op, t, p, af, some (j, want)⟩ v) (hd : Nat.blt d n = true) (k : WL w0 n ops Q ((d, v) :: tm) L rest) :
    WL w0 n ops Q tm L (⟨some d, op, t, p, af, some (j, want)⟩ :: rest) := by
  refine .mk fun a w hS => ?_
  unfold wpList
  have hy := yielded_of (ops := ops) hS.agree hj hdj hb
  simp only [Region.wanted, hy, hw, beq_self_eq_true, if_true]
  refine .inl ?_
  simp only [Oper.wp, hv.out a w hS.agree hS.mem, Oper.upon]
  exact k.out _ _ (hS.put (by simpa using hd))
theorem WL.no {j dj : Nat} {want b : Bool} {oj : Oper} (hj : ops[j]? = some oj) (hdj : oj.dst = some dj) (hb : get tm dj = some (.bool b)) (hw : b = !want)
    (k : WL w0 n ops Q (forget d tm) L rest) :
    WL w0 n ops Q tm L (⟨some d, op, t, p, af, some (j, want)⟩ :: rest) := by
  refine .mk fun a w hS => ?_
  unfold wpList
  have hy := yielded_of (ops := ops) hS.agree hj hdj hb
  have hf : (some b == some want) = false := by rw [hw]; cases want <;> rfl
  simp only [Region.wanted, hy, hf, Bool.false_eq_true, if_false]
  exact k.out _ _ (hS.drop d undef)
theorem WL.split (b : Bool) (ht : b = true → WL w0 n ops Q tm L rest) (hf : b = false → WL w0 n ops Q tm L rest) : WL w0 n ops Q tm L rest := by
  cases b
  · exact hf rfl
  · exact ht rfl
theorem Val.cast {o : Oper} {v v' : Value} (h : Val w0 tm L o v) (e : v = v') : Val w0 tm L o v' := e ▸ h
end

/-! ### pure operations -/
section
variable {w0 : World} {tm : Slots} {L : Heap} {d : Option Tmp} {t : TypeId} {p : String} {af : Array Edge} {g : Option (Nat × Bool)}
variable {x y z : Operand} {u v : Value} {xt yt e : TypeId} {k : IntKind} {m n : Int}
theorem v_move (h : ev tm x = some u) : Val w0 tm L ⟨d, .move x, t, p, af, g⟩ u := .mk fun a w ha _ => by simp [execOp, ev_eval ha h]
theorem v_assign (h : ev tm x = some u) : Val w0 tm L ⟨d, .assign x, t, p, af, g⟩ u := .mk fun a w ha _ => by simp [execOp, ev_eval ha h]
theorem v_pick_t {b : Bool} (h : ev tm x = some (.bool b)) (hb : b = true) (hy : ev tm y = some u) : Val w0 tm L ⟨d, .pick x y z, t, p, af, g⟩ u := .mk fun a w ha _ => by
  subst hb; simp [execOp, ev_eval ha h, ev_eval ha hy, asBool]
theorem v_pick_f {b : Bool} (h : ev tm x = some (.bool b)) (hb : b = false) (hz : ev tm z = some u) : Val w0 tm L ⟨d, .pick x y z, t, p, af, g⟩ u := .mk fun a w ha _ => by
  subst hb; simp [execOp, ev_eval ha h, ev_eval ha hz, asBool]

def andI (k : IntKind) (x y : Int) : Int := k.wrap (BitVec.ofInt k.bits x &&& BitVec.ofInt k.bits y).toNat
def orI (k : IntKind) (x y : Int) : Int := k.wrap (BitVec.ofInt k.bits x ||| BitVec.ofInt k.bits y).toNat
def xorI (k : IntKind) (x y : Int) : Int := k.wrap (BitVec.ofInt k.bits x ^^^ BitVec.ofInt k.bits y).toNat
def andNotI (k : IntKind) (x y : Int) : Int := k.wrap (BitVec.ofInt k.bits x &&& ~~~BitVec.ofInt k.bits y).toNat
def shlI (k : IntKind) (x y : Int) : Int := k.wrap (x * 2 ^ (min y.toNat k.bits))
def shrI (k : IntKind) (x y : Int) : Int := x.fdiv (2 ^ (min y.toNat k.bits))

theorem v_add (hx : ev tm x = some (.int k m)) (hy : ev tm y = some (.int k n)) : Val w0 tm L ⟨d, .binOp .add xt x y yt, t, p, af, g⟩ (.int k (k.wrap (m + n))) := .mk fun a w ha _ => by
  simp [execOp, ev_eval ha hx, ev_eval ha hy, eqGuard, binOp, Op.intArith]
theorem v_sub (hx : ev tm x = some (.int k m)) (hy : ev tm y = some (.int k n)) : Val w0 tm L ⟨d, .binOp .sub xt x y yt, t, p, af, g⟩ (.int k (k.wrap (m - n))) := .mk fun a w ha _ => by
  simp [execOp, ev_eval ha hx, ev_eval ha hy, eqGuard, binOp, Op.intArith]
theorem v_mul (hx : ev tm x = some (.int k m)) (hy : ev tm y = some (.int k n)) : Val w0 tm L ⟨d, .binOp .mul xt x y yt, t, p, af, g⟩ (.int k (k.wrap (m * n))) := .mk fun a w ha _ => by
  simp [execOp, ev_eval ha hx, ev_eval ha hy, eqGuard, binOp, Op.intArith]
theorem v_quo (hx : ev tm x = some (.int k m)) (hy : ev tm y = some (.int k n)) (h0 : n ≠ 0) : Val w0 tm L ⟨d, .binOp .quo xt x y yt, t, p, af, g⟩ (.int k (k.wrap (m.tdiv n))) := .mk fun a w ha _ => by
  simp [execOp, ev_eval ha hx, ev_eval ha hy, eqGuard, binOp, Op.intDiv, h0]
theorem v_rem (hx : ev tm x = some (.int k m)) (hy : ev tm y = some (.int k n)) (h0 : n ≠ 0) : Val w0 tm L ⟨d, .binOp .rem xt x y yt, t, p, af, g⟩ (.int k (m.tmod n)) := .mk fun a w ha _ => by
  simp [execOp, ev_eval ha hx, ev_eval ha hy, eqGuard, binOp, Op.intDiv, h0]
theorem v_and (hx : ev tm x = some (.int k m)) (hy : ev tm y = some (.int k n)) : Val w0 tm L ⟨d, .binOp .and xt x y yt, t, p, af, g⟩ (.int k (andI k m n)) := .mk fun a w ha _ => by
  simp [execOp, ev_eval ha hx, ev_eval ha hy, eqGuard, binOp, Op.intBits, andI]
theorem v_or (hx : ev tm x = some (.int k m)) (hy : ev tm y = some (.int k n)) : Val w0 tm L ⟨d, .binOp .or xt x y yt, t, p, af, g⟩ (.int k (orI k m n)) := .mk fun a w ha _ => by
  simp [execOp, ev_eval ha hx, ev_eval ha hy, eqGuard, binOp, Op.intBits, orI]
theorem v_xor (hx : ev tm x = some (.int k m)) (hy : ev tm y = some (.int k n)) : Val w0 tm L ⟨d, .binOp .xor xt x y yt, t, p, af, g⟩ (.int k (xorI k m n)) := .mk fun a w ha _ => by
  simp [execOp, ev_eval ha hx, ev_eval ha hy, eqGuard, binOp, Op.intBits, xorI]
theorem v_andNot (hx : ev tm x = some (.int k m)) (hy : ev tm y = some (.int k n)) : Val w0 tm L ⟨d, .binOp .andNot xt x y yt, t, p, af, g⟩ (.int k (andNotI k m n)) := .mk fun a w ha _ => by
  simp [execOp, ev_eval ha hx, ev_eval ha hy, eqGuard, binOp, Op.intBits, andNotI]
theorem v_shl {yk : IntKind} (hx : ev tm x = some (.int k m)) (hy : ev tm y = some (.int yk n)) (h0 : 0 ≤ n) : Val w0 tm L ⟨d, .binOp .shl xt x y yt, t, p, af, g⟩ (.int k (shlI k m n)) := .mk fun a w ha _ => by
  have : ¬ n < 0 := by omega
  simp [execOp, ev_eval ha hx, ev_eval ha hy, eqGuard, binOp, Op.shift, shlI, this]
theorem v_shr {yk : IntKind} (hx : ev tm x = some (.int k m)) (hy : ev tm y = some (.int yk n)) (h0 : 0 ≤ n) : Val w0 tm L ⟨d, .binOp .shr xt x y yt, t, p, af, g⟩ (.int k (shrI k m n)) := .mk fun a w ha _ => by
  have : ¬ n < 0 := by omega
  simp [execOp, ev_eval ha hx, ev_eval ha hy, eqGuard, binOp, Op.shift, shrI, this]
theorem v_eql (hx : ev tm x = some (.int k m)) (hy : ev tm y = some (.int k n)) : Val w0 tm L ⟨d, .binOp .eql xt x y yt, t, p, af, g⟩ (.bool (m == n)) := .mk fun a w ha _ => by
  simp [execOp, ev_eval ha hx, ev_eval ha hy, eqGuard, binOp, Op.intCmp]
theorem v_neq (hx : ev tm x = some (.int k m)) (hy : ev tm y = some (.int k n)) : Val w0 tm L ⟨d, .binOp .neq xt x y yt, t, p, af, g⟩ (.bool (m != n)) := .mk fun a w ha _ => by
  simp [execOp, ev_eval ha hx, ev_eval ha hy, eqGuard, binOp, Op.intCmp]
theorem v_lss (hx : ev tm x = some (.int k m)) (hy : ev tm y = some (.int k n)) : Val w0 tm L ⟨d, .binOp .lss xt x y yt, t, p, af, g⟩ (.bool (decide (m < n))) := .mk fun a w ha _ => by
  simp [execOp, ev_eval ha hx, ev_eval ha hy, eqGuard, binOp, Op.intCmp]
theorem v_leq (hx : ev tm x = some (.int k m)) (hy : ev tm y = some (.int k n)) : Val w0 tm L ⟨d, .binOp .leq xt x y yt, t, p, af, g⟩ (.bool (decide (m ≤ n))) := .mk fun a w ha _ => by
  simp [execOp, ev_eval ha hx, ev_eval ha hy, eqGuard, binOp, Op.intCmp]
theorem v_gtr (hx : ev tm x = some (.int k m)) (hy : ev tm y = some (.int k n)) : Val w0 tm L ⟨d, .binOp .gtr xt x y yt, t, p, af, g⟩ (.bool (decide (m > n))) := .mk fun a w ha _ => by
  simp [execOp, ev_eval ha hx, ev_eval ha hy, eqGuard, binOp, Op.intCmp]
theorem v_geq (hx : ev tm x = some (.int k m)) (hy : ev tm y = some (.int k n)) : Val w0 tm L ⟨d, .binOp .geq xt x y yt, t, p, af, g⟩ (.bool (decide (m ≥ n))) := .mk fun a w ha _ => by
  simp [execOp, ev_eval ha hx, ev_eval ha hy, eqGuard, binOp, Op.intCmp]
theorem v_neg (hx : ev tm x = some (.int k m)) : Val w0 tm L ⟨d, .unOp .neg xt x, t, p, af, g⟩ (.int k (k.wrap (0 - m))) := .mk fun a w ha _ => by
  simp [execOp, ev_eval ha hx, Op.unary, Op.intArith]
theorem v_cpl (hx : ev tm x = some (.int k m)) : Val w0 tm L ⟨d, .unOp .xor xt x, t, p, af, g⟩ (.int k (xorI k (if k.signed then -1 else k.max) m)) := .mk fun a w ha _ => by
  simp [execOp, ev_eval ha hx, Op.unary, Op.intBits, xorI]
theorem v_not {b : Bool} (hx : ev tm x = some (.bool b)) : Val w0 tm L ⟨d, .unOp .not xt x, t, p, af, g⟩ (.bool !b) := .mk fun a w ha _ => by
  simp [execOp, ev_eval ha hx, Op.unary]
/-- A conversion between integer kinds. -/
theorem v_conv {sd : TypeDesc} (hs : ∀ w, (underlying xt).run P w = .ok sd w) (hd : ∀ w, (underlying yt).run P w = .ok (.int k) w) {k' : IntKind} (hx : ev tm x = some (.int k' m)) :
    Val w0 tm L ⟨d, .convert xt yt x, t, p, af, g⟩ (.int k (k.wrap m)) := .mk fun a w ha _ => by
  simp [execOp, ev_eval ha hx, convert, hs, hd, Conv.intToInt]
/-! length, capacity, cuts -/
theorem v_len {A : Option Addr} {l c : Nat} (hs : ∀ w, (underlying xt).run P w = .ok (.slice e) w) (hx : ev tm x = some (.slice A l c)) :
    Val w0 tm L ⟨d, .call ⟨.builtin .len, #[x], #[xt]⟩, t, p, af, g⟩ (.int .i64 l) := .mk fun a w ha _ => by
  simp [execOp, ev_eval ha hx, resolve, invoke, builtin, Builtin.len_, hs, goInt]
theorem v_cap {A : Option Addr} {l c : Nat} (hs : ∀ w, (underlying xt).run P w = .ok (.slice e) w) (hx : ev tm x = some (.slice A l c)) :
    Val w0 tm L ⟨d, .call ⟨.builtin .cap, #[x], #[xt]⟩, t, p, af, g⟩ (.int .i64 c) := .mk fun a w ha _ => by
  simp [execOp, ev_eval ha hx, resolve, invoke, builtin, Builtin.cap_, hs, goInt]
theorem v_extract {vs : Array Value} {i : Nat} (hx : ev tm x = some (.tuple vs)) (hv : vs[i]? = some v) : Val w0 tm L ⟨d, .extract x i, t, p, af, g⟩ v := .mk fun a w ha _ => by
  simp [execOp, ev_eval ha hx, Instr.extract, hv]
theorem v_iface {sd : TypeDesc} (hs : ∀ w, (underlying xt).run P w = .ok sd w) (hi : (match sd with | .interface _ => true | _ => false) = false) (hx : ev tm x = some u) :
    Val w0 tm L ⟨d, .makeInterface xt x, t, p, af, g⟩ (.iface xt u) := .mk fun a w ha _ => by
  cases sd <;> simp at hi <;> simp [execOp, ev_eval ha hx, Instr.makeInterface, hs]
theorem v_nilCheck_ptr {q : Addr} (hx : ev tm x = some (.pointer (some q))) : Val w0 tm L ⟨d, .nilCheck x, t, p, af, g⟩ (.pointer (some q)) := .mk fun a w ha _ => by
  simp [execOp, ev_eval ha hx]
end

/-! ### addresses, loads -/
/-- Element i of the slice at A (elements of one cell). -/
def pAt (A : Option Addr) (i : Nat) : Addr := (A.getD ⟨0, 0, none⟩).add i
/-- The slice at A reads as this list. -/
def Rd (L : Heap) (A : Option Addr) (vs : List Value) : Prop :=
  ∀ j v, vs[j]? = some v → ∃ b off t fr ws, A = some ⟨b, off, none⟩ ∧ (b, blk t fr ws) ∈ L ∧ ws[off + j]? = some v
theorem add_block (b off i : Nat) : (⟨b, off, none⟩ : Addr).add i = ⟨b, off + i, none⟩ := by
  unfold Addr.add; split
  · rename_i h; subst h; rfl
  · rfl
theorem Rd.mono {L L' : Heap} {A : Option Addr} {vs : List Value} (h : Rd L A vs) (hs : ∀ q ∈ L, q ∈ L') : Rd L' A vs := fun j v hv => by
  obtain ⟨b, off, t, fr, ws, h1, h2, h3⟩ := h j v hv
  exact ⟨b, off, t, fr, ws, h1, hs _ h2, h3⟩
theorem Rd.nil {L : Heap} {A : Option Addr} : Rd L A [] := fun j v hv => by simp at hv
/-- The elements of a block from off on. -/
theorem Rd.of {L : Heap} {b off : Nat} {t : TypeId} {fr : Nat × Nat} {ws vs : List Value} (h : (b, blk t fr ws) ∈ L) (hv : ∀ j v, vs[j]? = some v → ws[off + j]? = some v) : Rd L (some ⟨b, off, none⟩) vs :=
  fun j v hj => ⟨b, off, t, fr, ws, rfl, h, hv j v hj⟩
theorem Rd.row {L : Heap} {b : Nat} {t : TypeId} {fr : Nat × Nat} {vs sp : List Value} (h : (b, blk t fr (vs ++ sp)) ∈ L) : Rd L (some ⟨b, 0, none⟩) vs :=
  Rd.of h fun j v hj => by
    rw [Nat.zero_add, List.getElem?_append_left]
    · exact hj
    · exact (List.getElem?_eq_some_iff.1 hj).1
theorem Rd.whole {L : Heap} {b : Nat} {t : TypeId} {fr : Nat × Nat} {vs : List Value} (h : (b, blk t fr vs) ∈ L) : Rd L (some ⟨b, 0, none⟩) vs :=
  Rd.of h fun j v hj => by rw [Nat.zero_add]; exact hj
theorem Rd.take {L : Heap} {A : Option Addr} {vs : List Value} (h : Rd L A vs) (k : Nat) : Rd L A (vs.take k) := fun j v hj => by
  refine h j v ?_
  rw [List.getElem?_take] at hj
  split at hj
  · exact hj
  · simp at hj
/-- Where a cut begins. -/
def cutA (A : Option Addr) (cap l : Nat) : Option Addr := if cap = l then A else A.map (·.add l)
theorem Rd.cut {L : Heap} {A : Option Addr} {vs : List Value} (h : Rd L A vs) {cap k : Nat} (hc : vs.length ≤ cap) : Rd L (cutA A cap k) (vs.drop k) := fun j v hj => by
  rw [List.getElem?_drop] at hj
  have hlt := (List.getElem?_eq_some_iff.1 hj).1
  obtain ⟨b, off, t, fr, ws, h1, h2, h3⟩ := h _ v hj
  refine ⟨b, off + k, t, fr, ws, ?_, h2, by rw [Nat.add_assoc]; exact h3⟩
  unfold cutA
  rw [if_neg (by omega), h1]
  simp [add_block]
theorem cutA_zero (A : Option Addr) (cap : Nat) : cutA A cap 0 = A := by
  unfold cutA; split
  · rfl
  · cases A <;> simp [Addr.add]
theorem cutA_block (b off cap l : Nat) (h : l < cap) : cutA (some ⟨b, off, none⟩) cap l = some ⟨b, off + l, none⟩ := by
  unfold cutA; rw [if_neg (by omega)]; simp [add_block]

section
variable {w0 : World} {tm : Slots} {L : Heap} {d : Option Tmp} {t : TypeId} {p : String} {af : Array Edge} {g : Option (Nat × Bool)}
variable {x y z : Operand} {u v : Value} {xt yt e : TypeId} {k : IntKind} {m n : Int}
theorem v_index {A : Option Addr} {l c : Nat} {q : Addr} (hs : ∀ w, (underlying xt).run P w = .ok (.slice e) w) (hz : ∀ w, (sizeOf e).run P w = .ok 1 w) (hx : ev tm x = some (.slice A l c)) (hy : ev tm y = some (.int k m))
    (hA : A = some q) (h0 : 0 ≤ m ∧ m < l) : Val w0 tm L ⟨d, .indexAddr xt x y, t, p, af, g⟩ (.pointer (some (q.add m.toNat))) := .mk fun a w ha _ => by
  subst hA
  simp [execOp, ev_eval ha hx, ev_eval ha hy, Instr.indexAt, asIntOf, hs, hz, h0]
/-- An element that is read. -/
theorem v_index_rd {A : Option Addr} {l c : Nat} {vs : List Value} (hs : ∀ w, (underlying xt).run P w = .ok (.slice e) w) (hz : ∀ w, (sizeOf e).run P w = .ok 1 w) (hx : ev tm x = some (.slice A l c)) (hy : ev tm y = some (.int k m))
    (hr : Rd L A vs) (h0 : 0 ≤ m ∧ m < l) (hl : m.toNat < vs.length) : Val w0 tm L ⟨d, .indexAddr xt x y, t, p, af, g⟩ (.pointer (some (pAt A m.toNat))) := .mk fun a w ha _ => by
  obtain ⟨b, off, t, fr, ws, h1, h2, h3⟩ := hr m.toNat _ (List.getElem?_eq_getElem hl)
  subst h1
  simp [execOp, ev_eval ha hx, ev_eval ha hy, Instr.indexAt, asIntOf, hs, hz, h0, pAt]
theorem v_index_arr {q : Addr} {len : Nat} (hs : ∀ w, (underlying xt).run P w = .ok (.array len e) w) (hz : ∀ w, (sizeOf e).run P w = .ok 1 w) (hx : ev tm x = some (.pointer (some q))) (hy : ev tm y = some (.int k m))
    (h0 : 0 ≤ m ∧ m < len) : Val w0 tm L ⟨d, .indexAddr xt x y, t, p, af, g⟩ (.pointer (some (q.add m.toNat))) := .mk fun a w ha _ => by
  simp [execOp, ev_eval ha hx, ev_eval ha hy, Instr.indexAt, asIntOf, hs, hz, h0, Instr.sureAddr]
theorem v_field {fs : Array Field} {f : Field} {i sz b off : Nat} (hs : ∀ w, (underlying xt).run P w = .ok (.struct fs) w) (hf : fs[i]? = some f) (hz : ∀ w, (sizeOf f.type).run P w = .ok sz w) (hn : sz ≠ 0)
    (hx : ev tm x = some (.pointer (some ⟨b, off, none⟩))) : Val w0 tm L ⟨d, .fieldAddr xt x i, t, p, af, g⟩ (.pointer (some ⟨b, off + f.offset, none⟩)) := .mk fun a w ha _ => by
  simp [execOp, ev_eval ha hx, Instr.fieldAt, hs, hf, Instr.sureAddr, fieldPlace, hz, hn, add_block]
theorem v_load {b off : Nat} {t' : TypeId} {fr : Nat × Nat} {vs : List Value} (hg : ∀ w, (isAgg xt).run P w = .ok false w) (hx : ev tm x = some (.pointer (some ⟨b, off, none⟩)))
    (hm : (b, blk t' fr vs) ∈ L) (hv : vs[off]? = some v) : Val w0 tm L ⟨d, .load xt x, t, p, af, g⟩ v := .mk fun a w ha hw => by
  simp [execOp, ev_eval ha hx, Instr.loadAt, Instr.sureAddr, loadVar, hg, hw.cell hm, hv]
/-- An element is loaded. -/
theorem v_load_rd {A : Option Addr} {i : Nat} {vs : List Value} (hg : ∀ w, (isAgg xt).run P w = .ok false w) (hx : ev tm x = some (.pointer (some (pAt A i)))) (hr : Rd L A vs) (hv : vs[i]? = some v) :
    Val w0 tm L ⟨d, .load xt x, t, p, af, g⟩ v := .mk fun a w ha hw => by
  obtain ⟨b, off, t, fr, ws, h1, h2, h3⟩ := hr i v hv
  subst h1
  simp [execOp, ev_eval ha hx, Instr.loadAt, Instr.sureAddr, loadVar, hg, pAt, add_block, hw.cell h2, h3]
theorem run_loadCellsFrom {w : World} {b off : Nat} (us : List Value) : ∀ (i : Nat) (acc : Array Value), (∀ j v, us[j]? = some v → w.cell? ⟨b, off + (i + j), none⟩ = some v) →
    (loadCellsFrom ⟨b, off, none⟩ i us.length acc).run P w = .ok (acc ++ us.toArray) w := by
  induction us with
  | nil => intro i acc _; simp [loadCellsFrom]
  | cons u us ih =>
    intro i acc h
    have h0 := h 0 u (by simp)
    simp only [List.length_cons, loadCellsFrom, Sem.run_bind, run_load, add_block]
    rw [show off + (i + 0) = off + i from rfl] at h0
    rw [h0]
    simp only [Result.andThen_ok]
    rw [ih (i + 1) (acc.push u) (fun j v hj => by rw [show i + 1 + j = i + (j + 1) by omega]; exact h (j + 1) v (by simpa using hj))]
    simp
/-- A struct or an array is loaded whole. -/
theorem v_load_agg {b off sz : Nat} {t' : TypeId} {fr : Nat × Nat} {vs us : List Value} (hg : ∀ w, (isAgg xt).run P w = .ok true w) (hz : ∀ w, (sizeOf xt).run P w = .ok sz w) (hx : ev tm x = some (.pointer (some ⟨b, off, none⟩)))
    (hm : (b, blk t' fr vs) ∈ L) (hl : us.length = sz) (hv : ∀ j v, us[j]? = some v → vs[off + j]? = some v) : Val w0 tm L ⟨d, .load xt x, t, p, af, g⟩ (.agg us.toArray) := .mk fun a w ha hw => by
  subst hl
  have := run_loadCellsFrom (w := w) (b := b) (off := off) us 0 #[] (fun j v hj => by rw [Nat.zero_add, hw.cell hm]; exact hv j v hj)
  simp [execOp, ev_eval ha hx, Instr.loadAt, Instr.sureAddr, loadVar, hg, hz, loadCells, this]
/-- A cut of a slice (elements of one cell). -/
theorem v_slice {A : Option Addr} {l c : Nat} {lo hi : Option Operand} {i j : Nat} (hs : ∀ w, (underlying xt).run P w = .ok (.slice e) w) (hz : ∀ w, (sizeOf e).run P w = .ok 1 w) (hx : ev tm x = some (.slice A l c))
    (hlo : match lo with | some o => ∃ kk, ev tm o = some (.int kk (i : Int)) | none => i = 0) (hhi : match hi with | some o => ∃ kk, ev tm o = some (.int kk (j : Int)) | none => j = l) (hij : i ≤ j) (hjc : j ≤ c) (_hlc : l ≤ c) :
    Val w0 tm L ⟨d, .slice xt x lo hi none, t, p, af, g⟩ (.slice (cutA A c i) (j - i) (c - i)) := .mk fun a w ha _ => by
  have hi1 : (0 : Int) ≤ i ∧ (i : Int) ≤ j := by omega
  have hj1 : (0 : Int) ≤ j ∧ (j : Int) ≤ c := by omega
  cases lo with
  | none =>
    subst hlo
    cases hi with
    | none =>
      subst hhi
      simp [execOp, ev_eval ha hx, Instr.sliceAt, Instr.slice, Instr.sliceBounds, hs, hz, cutA]
    | some oh =>
      obtain ⟨kh, hkh⟩ := hhi
      simp [execOp, ev_eval ha hx, ev_eval ha hkh, Instr.sliceAt, Instr.slice, Instr.sliceBounds, Instr.sliceBound, asIntOf, hs, hz, cutA, hjc]
  | some ol =>
    obtain ⟨kl, hkl⟩ := hlo
    cases hi with
    | none =>
      subst hhi
      simp [execOp, ev_eval ha hx, ev_eval ha hkl, Instr.sliceAt, Instr.slice, Instr.sliceBounds, Instr.sliceBound, asIntOf, hs, hz, cutA, hij]
    | some oh =>
      obtain ⟨kh, hkh⟩ := hhi
      simp [execOp, ev_eval ha hx, ev_eval ha hkh, ev_eval ha hkl, Instr.sliceAt, Instr.slice, Instr.sliceBounds, Instr.sliceBound, asIntOf, hs, hz, cutA, hij, hjc]
/-- A cut of an array behind its address. -/
theorem v_slice_arr {b off len : Nat} {lo hi : Option Operand} {i j : Nat} (hs : ∀ w, (underlying xt).run P w = .ok (.array len e) w) (hz : ∀ w, (sizeOf e).run P w = .ok 1 w) (hx : ev tm x = some (.pointer (some ⟨b, off, none⟩)))
    (hlo : match lo with | some o => ∃ kk, ev tm o = some (.int kk (i : Int)) | none => i = 0) (hhi : match hi with | some o => ∃ kk, ev tm o = some (.int kk (j : Int)) | none => j = len) (hij : i ≤ j) (hjc : j ≤ len) (hil : i < len) :
    Val w0 tm L ⟨d, .slice xt x lo hi none, t, p, af, g⟩ (.slice (some ⟨b, off + i, none⟩) (j - i) (len - i)) := .mk fun a w ha _ => by
  have hi1 : (0 : Int) ≤ i ∧ (i : Int) ≤ j := by omega
  have hj1 : (0 : Int) ≤ j ∧ (j : Int) ≤ len := by omega
  have hne : ¬ len = i := by omega
  cases lo with
  | none =>
    subst hlo
    cases hi with
    | none =>
      subst hhi
      simp [execOp, ev_eval ha hx, Instr.sliceAt, Instr.sureAddr, Instr.sliceBounds, hs, hz, hne, add_block]
    | some oh =>
      obtain ⟨kh, hkh⟩ := hhi
      simp [execOp, ev_eval ha hx, ev_eval ha hkh, Instr.sliceAt, Instr.sureAddr, Instr.sliceBounds, Instr.sliceBound, asIntOf, hs, hz, hjc, hne, add_block]
  | some ol =>
    obtain ⟨kl, hkl⟩ := hlo
    cases hi with
    | none =>
      subst hhi
      simp [execOp, ev_eval ha hx, ev_eval ha hkl, Instr.sliceAt, Instr.sureAddr, Instr.sliceBounds, Instr.sliceBound, asIntOf, hs, hz, hij, hne, add_block]
    | some oh =>
      obtain ⟨kh, hkh⟩ := hhi
      simp [execOp, ev_eval ha hx, ev_eval ha hkh, ev_eval ha hkl, Instr.sliceAt, Instr.sureAddr, Instr.sliceBounds, Instr.sliceBound, asIntOf, hs, hz, hij, hjc, hne, add_block]
end
end Go.Proofs.YtljoodllnaekbaaGreatDoor

namespace Go.Proofs.YtljoodllnaekbaaGreatDoor
open Go

/-- L' is L with the one block turned. -/
inductive At : Heap → (Nat × Obj) → (Nat × Obj) → Heap → Prop
  | here {q q' : Nat × Obj} {L : Heap} : At (q :: L) q q' (q' :: L)
  | there {p q q' : Nat × Obj} {L L' : Heap} : At L q q' L' → At (p :: L) q q' (p :: L')
theorem At.perm {L L' : Heap} {q q' : Nat × Obj} (h : At L q q' L') : ∃ M, L.Perm (q :: M) ∧ L'.Perm (q' :: M) := by
  induction h with
  | here => exact ⟨_, .refl _, .refl _⟩
  | there _ ih =>
    obtain ⟨M, h1, h2⟩ := ih
    exact ⟨_, (h1.cons _).trans (.swap _ _ _), (h2.cons _).trans (.swap _ _ _)⟩
theorem At.mem {L L' : Heap} {q q' : Nat × Obj} (h : At L q q' L') : q ∈ L := by
  obtain ⟨M, h1, _⟩ := h.perm
  exact h1.mem_iff.2 (by simp)
theorem m0 {q : Nat × Obj} {L : Heap} : q ∈ q :: L := by simp
theorem mS {q p : Nat × Obj} {L : Heap} (h : q ∈ L) : q ∈ p :: L := by simp [h]

/-- One operation, then K. -/
structure OW (w0 : World) (n : Nat) (Q : Exit → Act → World → Prop) (o : Oper) (K : Act → World → Prop) (tm : Slots) (L : Heap) : Prop where
  out : ∀ a w, St w0 n tm L a w → o.wp P a w K Q

section
variable {w0 : World} {n : Nat} {Q : Exit → Act → World → Prop} {tm : Slots} {L L' : Heap} {ops : Array Oper} {rest : List Oper} {K : Act → World → Prop}
variable {d : Nat} {v : Value} {t xt yt e : TypeId} {p : String} {af : Array Edge} {op : Op} {o : Oper} {x y : Operand}

theorem WL.act (hg : o.guard = none) (h : OW w0 n Q o (wpList P ops Q rest) tm L) : WL w0 n ops Q tm L (o :: rest) := .mk fun a w hS => by
  unfold wpList
  rw [if_pos (by simp [Region.wanted, hg])]
  exact .inl (h.out a w hS)
theorem OW.val (hv : Val w0 tm L ⟨some d, op, t, p, af, none⟩ v) (hd : Nat.blt d n = true) (k : KS w0 n K ((d, v) :: tm) L) : OW w0 n Q ⟨some d, op, t, p, af, none⟩ K tm L := .mk fun a w hS => by
  simp only [Oper.wp, hv.out a w hS.agree hS.mem, Oper.upon]
  exact k.out _ _ (hS.put (by simpa using hd))
/-- A run that comes to one value, in some world. -/
theorem OW.run {g : Option (Nat × Bool)} (hd : Nat.blt d n = true) (h : ∀ a w, St w0 n tm L a w → ∃ v w' L', (execOp a.eval ⟨some d, op, t, p, af, g⟩).run P w = .ok (.value v) w' ∧ HW w0 L' w' ∧ KS w0 n K ((d, v) :: tm) L') :
    OW w0 n Q ⟨some d, op, t, p, af, g⟩ K tm L := .mk fun a w hS => by
  obtain ⟨v, w', L', h1, h2, h3⟩ := h a w hS
  simp only [Oper.wp, h1, Oper.upon]
  exact h3.out _ _ ((hS.put (by simpa using hd)).heap' h2)

/-! ### new blocks -/
theorem OW.alloc {z : Value} (hz : ∀ w, (zeroValue e).run P w = .ok z w) (hd : Nat.blt d n = true) (k : ∀ b, KS w0 n K ((d, .pointer (some ⟨b, 0, none⟩)) :: tm) ((b, blk e (0, 0) z.cells.toList) :: L)) :
    OW w0 n Q ⟨some d, .alloc e, t, p, af, none⟩ K tm L := OW.run hd fun a w hS => by
  refine ⟨.pointer (some ⟨w.heap.size, 0, none⟩), _, _, ?_, hS.mem.alloc (blk e (0, 0) z.cells.toList), k w.heap.size⟩
  simp [execOp, Instr.alloc, hz, newVar, newRow]
theorem OW.box {u : Value} {us : List Value} (hx : ev tm x = some u) (hu : u.cells = us.toArray) (hd : Nat.blt d n = true) (k : ∀ b, KS w0 n K ((d, .pointer (some ⟨b, 0, none⟩)) :: tm) ((b, blk e (0, 0) us) :: L)) :
    OW w0 n Q ⟨some d, .box e x, t, p, af, none⟩ K tm L := OW.run hd fun a w hS => by
  refine ⟨.pointer (some ⟨w.heap.size, 0, none⟩), _, _, ?_, hS.mem.alloc (blk e (0, 0) us), k w.heap.size⟩
  simp [execOp, Instr.box, ev_eval hS.agree hx, newVar, newRow, hu]
/-- 'make([]T, l, c)', elements of one cell. -/
theorem OW.make {z : Value} {kl kc : IntKind} {i : TypeInfo} {l c : Nat} (hs : ∀ w, (underlying t).run P w = .ok (.slice e) w) (hi : ∀ w, (typeInfo e).run P w = .ok i w) (hsz : ∀ w, (sizeOf e).run P w = .ok 1 w)
    (hz : ∀ w, (zeroValue e).run P w = .ok z w) (hz1 : z.cells = #[z]) (hx : ev tm x = some (.int kl (l : Int))) (hy : ev tm y = some (.int kc (c : Int))) (hlc : l ≤ c) (hb : i.bytes * c ≤ 281474976710656) (hc : c ≤ 9223372036854775807)
    (hd : Nat.blt d n = true) (k : ∀ b, KS w0 n K ((d, .slice (some ⟨b, 0, none⟩) l c) :: tm) ((b, blk e (0, 0) (List.replicate c z)) :: L)) {t' : TypeId} :
    OW w0 n Q ⟨some d, .makeSlice t x y, t', p, af, none⟩ K tm L := OW.run hd fun a w hS => by
  have hwl : IntKind.i64.wrap (l : Int) = l := by rw [IntKind.wrap_i64]; omega
  have hwc : IntKind.i64.wrap (c : Int) = c := by rw [IntKind.wrap_i64]; omega
  have hbi : ¬ ((i.bytes : Int) * (c : Int) > 2 ^ 48) := by
    have := Int.ofNat_le.2 hb
    rw [Int.natCast_mul] at this
    have h2 : ((281474976710656 : Nat) : Int) = 2 ^ 48 := by decide
    omega
  refine ⟨.slice (some ⟨w.heap.size, 0, none⟩) l c, _, _, ?_, hS.mem.alloc (blk e (0, 0) (List.replicate c z)), k w.heap.size⟩
  have hrow : ((Array.range c).map fun j => (#[z] : Array Value)[j % 1]!) = (List.replicate c z).toArray := by
    apply Array.ext
    · simp
    · intro j h1 h2
      have : j % 1 = 0 := Nat.mod_one j
      simp [this]
  have hneg : ¬ ((c : Int) < 0) := by omega
  have hneg2 : ¬ ((l : Int) < 0) := by omega
  have hle : ¬ ((l : Int) > (c : Int)) := by omega
  simp only [execOp, Instr.makeSlice, ev_eval hS.agree hx, ev_eval hS.agree hy, Sem.run_bind, Sem.run_pure, hs, hi, hsz, Result.andThen_ok, asInt, asIntOf, hwl, hwc]
  simp only [hbi, hneg, hneg2, hle, decide_false, Bool.or_false, Bool.false_eq_true, if_false, run_askRoom, Sem.run_bind, Result.andThen_ok, hsz, Int.toNat_natCast, Nat.mul_one]
  by_cases h0 : c = 0
  · subst h0
    have hr : ∀ f : Nat → Value, (Array.range 0).map f = #[] := fun f => Array.eq_empty_of_size_eq_zero (by simp)
    simp [newRow, hr]
  · simp only [h0, if_false, Sem.run_bind, hz, Result.andThen_ok, Sem.run_pure, hz1, newRow, run_newObj]
    rw [show (#[z] : Array Value).size = 1 from rfl, hrow]

/-! ### '[]T{v0, v1, ..}' -/
/-- The parts, as they are known. -/
def evs (tm : Slots) : List Operand → Option (List Value)
  | [] => some []
  | x :: r => match ev tm x, evs tm r with
    | some u, some us => some (u :: us)
    | _, _ => none
theorem evs_map {a : Act} (h : Agree tm a) : ∀ {xs : List Operand} {us : List Value}, evs tm xs = some us → xs.map a.eval = us := by
  intro xs
  induction xs with
  | nil => intro us hu; simp [evs] at hu; simp [← hu]
  | cons x r ih =>
    intro us hu
    simp only [evs] at hu
    split at hu
    · rename_i u us' h1 h2
      simp at hu; subst hu
      simp [ev_eval h h1, ih h2]
    · simp at hu
theorem fill_all (us : List Value) (h1 : ∀ u ∈ us, u.cells = #[u]) : ∀ (k : Nat) (done : List Value) (rest : List Value), done.length = k → rest.length = us.length →
    Instr.fill (fun i => some (i * 1, 1)) (done ++ rest).toArray ((us.zipIdx k).map fun q => (q.2, q.1)) = some (done ++ us).toArray := by
  induction us with
  | nil => intro k done rest _ hr; simp at hr; subst hr; simp [Instr.fill]
  | cons u us ih =>
    intro k done rest hk hr
    match rest, hr with
    | r :: rest, hr =>
      have hu := h1 u (by simp)
      have hs : ((#[u] : Array Value).zipIdx.foldl (fun cs (c, j) => cs.setIfInBounds (k * 1 + j) c) (done ++ r :: rest).toArray) = ((done ++ [u]) ++ rest).toArray := by
        simp [← hk, Array.zipIdx]
      simp only [List.zipIdx_cons, List.map_cons, Instr.fill]
      rw [hu]
      simp only [List.size_toArray, List.length_cons, List.length_nil, List.length_append]
      rw [if_neg (by simp; omega)]
      have := ih (fun v hv => h1 v (by simp [hv])) (k + 1) (done ++ [u]) rest (by simp [hk]) (by simpa using hr)
      rw [List.append_assoc, List.singleton_append] at this
      rw [hs]
      simpa using this
theorem OW.buildSlice {z : Value} {xs : List Operand} {us : List Value} {t' : TypeId} (hs : ∀ w, (underlying t).run P w = .ok (.slice e) w) (hsz : ∀ w, (sizeOf e).run P w = .ok 1 w)
    (hz : ∀ w, (zeroValue e).run P w = .ok z w) (hz1 : z.cells = #[z]) (hx : evs tm xs = some us) (h1 : us.all Value.oneCell' = true) (hlen : us.length ≤ 16777216)
    (hd : Nat.blt d n = true) (k : ∀ b, KS w0 n K ((d, .slice (some ⟨b, 0, none⟩) us.length us.length) :: tm) ((b, blk e (0, 0) us) :: L)) {m : Nat} {parts : Array (Nat × Operand)} (hm : m = us.length)
    (hp : parts.toList = (xs.zipIdx.map fun q => (q.2, q.1))) :
    OW w0 n Q ⟨some d, .buildSlice t m parts, t', p, af, none⟩ K tm L := OW.run hd fun a w hS => by
  have h1' : ∀ u ∈ us, u.cells = #[u] := fun u hu => by
    have := List.all_eq_true.1 h1 u hu
    cases u <;> simp [Value.oneCell'] at this <;> rfl
  have hmap := evs_map hS.agree hx
  have hlx : xs.length = us.length := by rw [← hmap]; simp
  refine ⟨.slice (some ⟨w.heap.size, 0, none⟩) us.length us.length, _, _, ?_, hS.mem.alloc (blk e (0, 0) us), k w.heap.size⟩
  subst hm
  have hparts : (parts.map fun (i, x) => (i, a.eval x)).toList = (us.zipIdx 0).map fun q => (q.2, q.1) := by
    rw [Array.toList_map, hp, ← hmap, List.zipIdx_map]
    simp [List.map_map, Function.comp_def]
  have hbig : ¬ (us.length * 1 > 2 ^ 24) := by omega
  simp only [execOp, Instr.buildSlice, Sem.run_bind, hs, hsz, Result.andThen_ok, hbig, if_false, hparts]
  by_cases h0 : us.length * 1 = 0
  · have hu : us = [] := List.eq_nil_of_length_eq_zero (by omega)
    subst hu
    have hr : ∀ f : Nat → Value, (Array.range 0).map f = #[] := fun f => Array.eq_empty_of_size_eq_zero (by simp)
    simp [newRow, Instr.fill, hr]
  · have hrow : ((Array.range (us.length * 1)).map fun j => (#[z] : Array Value)[j % (#[z] : Array Value).size]!) = ([] ++ List.replicate us.length z).toArray := by
      apply Array.ext
      · simp
      · intro j g1 g2
        have : j % 1 = 0 := Nat.mod_one j
        simp [this]
    have hfill := fill_all us h1' 0 [] (List.replicate us.length z) rfl (by simp)
    simp only [h0, if_false, Sem.run_bind, hz, Result.andThen_ok, Sem.run_pure, hz1]
    rw [hrow, hfill]
    simp [newRow]

/-! ### stores -/
def overlay (vs : List Value) (k : Nat) (us : List Value) : List Value := vs.take k ++ us ++ vs.drop (k + us.length)
theorem overlay_nil (vs : List Value) (k : Nat) : overlay vs k [] = vs := by simp [overlay]
theorem overlay_length (vs : List Value) (k : Nat) (us : List Value) (h : k + us.length ≤ vs.length) : (overlay vs k us).length = vs.length := by
  simp [overlay]; omega
theorem overlay_set (vs : List Value) (k : Nat) (u : Value) (us : List Value) (h : k + 1 + us.length ≤ vs.length) : overlay (vs.set k u) (k + 1) us = overlay vs k (u :: us) := by
  unfold overlay
  have h1 : (vs.set k u).take (k + 1) = vs.take k ++ [u] := by
    rw [List.take_set, List.take_succ_eq_append_getElem (by omega), List.set_append]
    simp [show min k vs.length = k by omega]
  rw [h1, List.drop_set_of_lt (by omega)]
  simp [Nat.add_assoc, Nat.add_comm 1]
theorem overlay_get (vs : List Value) (k : Nat) (us : List Value) (h : k + us.length ≤ vs.length) (j : Nat) : (overlay vs k us)[j]? = if j < k then vs[j]? else if j < k + us.length then us[j - k]? else vs[j]? := by
  unfold overlay
  rw [List.append_assoc]
  by_cases h1 : j < k
  · rw [if_pos h1, List.getElem?_append_left (by simp; omega), List.getElem?_take, if_pos h1]
  · rw [if_neg h1, List.getElem?_append_right (by simp; omega)]
    have hk : (vs.take k).length = k := by simp; omega
    rw [hk]
    by_cases h2 : j < k + us.length
    · rw [if_pos h2, List.getElem?_append_left (by omega)]
    · rw [if_neg h2, List.getElem?_append_right (by omega), List.getElem?_drop]
      congr 1; omega
theorem overlay_all (vs us : List Value) (h : us.length = vs.length) : overlay vs 0 us = us := by simp [overlay, h]
theorem overlay_one (vs : List Value) (k : Nat) (u : Value) (h : k < vs.length) : overlay vs k [u] = vs.set k u := by
  rw [← overlay_set vs k u [] (by simp; omega), overlay_nil]
theorem run_storeCells {b off : Nat} {fr : Nat × Nat} (us : List Value) : ∀ (vs : List Value) (w : World) (i : Nat), HW w0 ((b, blk e fr vs) :: L) w → off + i + us.length ≤ vs.length →
    (∀ u ∈ us, u.oneCell' = true) → (∀ j, off + i ≤ j → j < off + i + us.length → (decide (fr.1 ≤ j) && decide (j < fr.2)) = false) →
    ∃ w', (storeCells ⟨b, off, none⟩ us i).run P w = .ok () w' ∧ HW w0 ((b, blk e fr (overlay vs (off + i) us)) :: L) w' := by
  induction us with
  | nil => intro vs w i h _ _ _; exact ⟨w, by simp [storeCells], by rw [overlay_nil]; exact h⟩
  | cons u us ih =>
    intro vs w i h hl h1 hf
    simp only [List.length_cons] at hl
    have hc := h.cell (b := b) (off := off + i) (t := e) (fr := fr) (vs := vs) (by simp)
    rw [List.getElem?_eq_getElem (by omega)] at hc
    have hfz := h.frozen (b := b) (off := off + i) (t := e) (fr := fr) (vs := vs) (by simp)
    rw [hf (off + i) (by omega) (by simp)] at hfz
    obtain ⟨w', hr, hw'⟩ := ih (vs.set (off + i) u) (w.setCell ⟨b, off + i, none⟩ u) (i + 1) (h.set u) (by simp; omega) (fun v hv => h1 v (by simp [hv])) (fun j hj1 hj2 => hf j (by omega) (by simp; omega))
    refine ⟨w', ?_, ?_⟩
    · simp only [storeCells, Sem.run_bind, add_block, run_store P w ⟨b, off + i, none⟩ u .plain (h1 u (by simp)), hc, hfz, Result.andThen_ok, Bool.false_eq_true, if_false]
      exact hr
    · rw [← overlay_set vs (off + i) u us (by omega)]
      exact hw'
theorem OW.skip {g : Option (Nat × Bool)} (h : ∀ a w, St w0 n tm L a w → ∃ w' L', (execOp a.eval ⟨none, op, t, p, af, g⟩).run P w = .ok .skip w' ∧ HW w0 L' w' ∧ KS w0 n K tm L') :
    OW w0 n Q ⟨none, op, t, p, af, g⟩ K tm L := .mk fun a w hS => by
  obtain ⟨w', L', h1, h2, h3⟩ := h a w hS
  simp only [Oper.wp, h1, Oper.upon]
  exact h3.out _ _ (hS.heap' h2)
/-- One cell is written. -/
theorem OW.store {b off : Nat} {t' : TypeId} {fr : Nat × Nat} {vs vs' : List Value} {u : Value} (hsz : ∀ w, (sizeOf xt).run P w = .ok 1 w) (hx : ev tm x = some (.pointer (some ⟨b, off, none⟩))) (hy : ev tm y = some u) (hu : u.oneCell' = true)
    (hset : vs.set off u = vs') (hat : At L (b, blk t' fr vs) (b, blk t' fr vs') L') (hl : off < vs.length) (hf : (decide (fr.1 ≤ off) && decide (off < fr.2)) = false)
    (k : KS w0 n K tm L') : OW w0 n Q ⟨none, .store xt x y, t, p, af, none⟩ K tm L := OW.skip fun a w hS => by
  subst hset
  obtain ⟨M, p1, p2⟩ := hat.perm
  have hm := hS.mem.perm p1
  have hu' : u.cells = #[u] ∧ u.oneCell' = true := by cases u <;> simp [Value.oneCell'] at hu <;> exact ⟨rfl, rfl⟩
  have hc := hm.cell (b := b) (off := off) (t := t') (fr := fr) (vs := vs) (by simp)
  rw [List.getElem?_eq_getElem hl] at hc
  have hfz := hm.frozen (b := b) (off := off) (t := t') (fr := fr) (vs := vs) (by simp)
  rw [hf] at hfz
  refine ⟨w.setCell ⟨b, off, none⟩ u, L', ?_, (hm.set u).perm p2.symm, k⟩
  simp [execOp, ev_eval hS.agree hx, ev_eval hS.agree hy, Instr.storeAt, Instr.sureAddr, storeVar, hu'.1, hsz, storeCells, Addr.add, run_store P w _ u .plain hu'.2, hc, hfz]
/-- A struct or an array is written whole. -/
theorem OW.storeAgg {b off sz : Nat} {t' : TypeId} {vs us ws : List Value} (hsz : ∀ w, (sizeOf xt).run P w = .ok sz w) (hx : ev tm x = some (.pointer (some ⟨b, off, none⟩))) (hy : ev tm y = some (.agg us.toArray)) (hu : us.all Value.oneCell' = true)
    (hlen : us.length = sz) (hw : overlay vs off us = ws) (hat : At L (b, blk t' (0, 0) vs) (b, blk t' (0, 0) ws) L') (hl : off + us.length ≤ vs.length)
    (k : KS w0 n K tm L') : OW w0 n Q ⟨none, .store xt x y, t, p, af, none⟩ K tm L := OW.skip fun a w hS => by
  obtain ⟨M, p1, p2⟩ := hat.perm
  have hm := hS.mem.perm p1
  have h1 : ∀ u ∈ us, u.oneCell' = true := fun u hu1 => by
    have := List.all_eq_true.1 hu u hu1
    cases u <;> simp [Value.oneCell'] at this <;> rfl
  obtain ⟨w', hr, hw'⟩ := run_storeCells us vs w 0 hm (by omega) h1 (fun j _ _ => by simp)
  subst hw
  refine ⟨w', L', ?_, hw'.perm p2.symm, k⟩
  simp only [execOp, ev_eval hS.agree hx, ev_eval hS.agree hy, Instr.storeAt, Instr.sureAddr, storeVar, Value.cells, hsz, Sem.run_bind, Sem.run_pure, Result.andThen_ok, List.size_toArray, hlen, ne_eq, not_true, if_false]
  rw [hr]
  rfl
end
end Go.Proofs.YtljoodllnaekbaaGreatDoor

namespace Go.Proofs.YtljoodllnaekbaaGreatDoor
open Go

/-- A slice that the code itself has made, or nil: its block, and the cells behind its elements. -/
structure Own where
  b : Nat
  sp : List Value
def ownA (o : Option Own) : Option Addr := o.map fun q => ⟨q.b, 0, none⟩
def ownC (o : Option Own) (data : List Value) : Nat := match o with | none => 0 | some q => data.length + q.sp.length
def ownL (e : TypeId) (o : Option Own) (data : List Value) : Heap := match o with | none => [] | some q => [(q.b, blk e (0, 0) (data ++ q.sp))]
/-- The slice's value. -/
abbrev ownV (o : Option Own) (data : List Value) : Value := .slice (ownA o) data.length (ownC o data)
theorem ownC_le {o : Option Own} {data : List Value} (h : o = none → data = []) : data.length ≤ ownC o data := by
  cases o with
  | none => rw [h rfl]; simp [ownC]
  | some q => simp [ownC]
theorem Rd.own {e : TypeId} {o : Option Own} {data : List Value} {L : Heap} (h : o = none → data = []) : Rd (ownL e o data ++ L) (ownA o) data := by
  cases o with
  | none => rw [h rfl]; exact Rd.nil
  | some q => exact Rd.row (t := e) (fr := (0, 0)) (sp := q.sp) (by simp [ownL])
theorem ownV_some (b : Nat) (data sp : List Value) : ownV (some ⟨b, sp⟩) data = .slice (some ⟨b, 0, none⟩) data.length (data.length + sp.length) := rfl

section
variable {w0 : World} {L L1 : Heap} {e t t2 ty : TypeId}
theorem run_loadCells {w : World} {b off : Nat} (us : List Value) (h : ∀ j v, us[j]? = some v → w.cell? ⟨b, off + j, none⟩ = some v) : (loadCells ⟨b, off, none⟩ us.length).run P w = .ok us.toArray w := by
  have := run_loadCellsFrom (w := w) (b := b) (off := off) us 0 #[] (fun j v hj => by rw [Nat.zero_add]; exact h j v hj)
  simpa [loadCells] using this
theorem run_firstCells {w : World} {B : Option Addr} {news : List Value} {l c : Nat} (hw : HW w0 L w) (hr : Rd L B news) : (Builtin.firstCells 1 news.length (.slice B l c)).run P w = .ok news.toArray w := by
  rcases Nat.eq_zero_or_pos news.length with h0 | h0
  · have : news = [] := List.eq_nil_of_length_eq_zero h0
    subst this
    cases B <;> simp [Builtin.firstCells, loadCells, loadCellsFrom]
  · obtain ⟨b, off, t, fr, ws, h1, _, _⟩ := hr 0 news[0] (List.getElem?_eq_getElem h0)
    subst h1
    simp only [Builtin.firstCells, Nat.mul_one]
    refine run_loadCells news fun j v hj => ?_
    obtain ⟨b', off', t', fr', ws', h1, h2, h3⟩ := hr j v hj
    cases h1
    rw [hw.cell h2, h3]
theorem zeroCells_one (z : Value) (n : Nat) : Builtin.zeroCells #[z] n = (List.replicate n z).toArray := by
  unfold Builtin.zeroCells
  apply Array.ext
  · simp
  · intro j h1 h2
    have : j % 1 = 0 := Nat.mod_one j
    simp [this]
theorem run_append {z : Value} {i : TypeInfo} {e2 : TypeId} {o : Option Own} {data news : List Value} {B : Option Addr} {c2 : Nat} {w : World}
    (hs : ∀ w, (underlying t).run P w = .ok (.slice e) w) (hs2 : ∀ w, (underlying t2).run P w = .ok (.slice e2) w)
    (hsz : ∀ w, (sizeOf e).run P w = .ok 1 w) (hi : ∀ w, (typeInfo e).run P w = .ok i w) (hz : ∀ w, (zeroValue e).run P w = .ok z w) (hz1 : z.cells = #[z])
    (hw : HW w0 (ownL e o data ++ L1) w) (hok : o = none → data = []) (hr : Rd (ownL e o data ++ L1) B news) (hone : ∀ u ∈ news, u.oneCell' = true)
    (hb : (data.length + news.length) * i.bytes ≤ 140737488355328) (hmax : data.length + news.length ≤ 9223372036854775807) :
    ∃ o' w', (Builtin.append_ #[t, t2] ty #[ownV o data, .slice B news.length c2]).run P w = .ok (ownV o' (data ++ news)) w' ∧ HW w0 (ownL e o' (data ++ news) ++ L1) w' ∧ (o' = none → data ++ news = []) := by
  have hfirst := run_firstCells (l := news.length) (c := c2) hw hr
  by_cases hfit : data.length + news.length ≤ ownC o data
  · cases o with
    | none =>
      have hd := hok rfl
      subst hd
      have hn : news = [] := List.eq_nil_of_length_eq_zero (by simp [ownC] at hfit; simpa using hfit)
      subst hn
      refine ⟨none, w, ?_, by simpa using hw, fun _ => rfl⟩
      simp only [List.length_nil] at hfirst
      simp [Builtin.append_, hs, hs2, hsz, Builtin.lenOf, ownA, ownC, hfirst]
    | some q =>
      simp only [ownC] at hfit
      simp only [ownL, List.singleton_append] at hw hr
      obtain ⟨w', h1, h2⟩ := run_storeCells (off := data.length) news (data ++ q.sp) w 0 hw (by simp; omega) hone (fun j _ _ => by simp)
      have hov : overlay (data ++ q.sp) (data.length + 0) news = data ++ news ++ q.sp.drop news.length := by
        simp [overlay]
      rw [hov] at h2
      refine ⟨some ⟨q.b, q.sp.drop news.length⟩, w', ?_, h2, fun h => by simp at h⟩
      have hc : data.length + news.length + (q.sp.length - news.length) = data.length + q.sp.length := by omega
      have hfit' : news.length ≤ q.sp.length := by omega
      simp [Builtin.append_, hs, hs2, hsz, Builtin.lenOf, ownA, ownC, hfirst, hfit', add_block, h1, hc]
  · have hgt : ownC o data < data.length + news.length := by omega
    have hroom := growslice_fits hgt hb
    have hold : (Builtin.firstCells 1 data.length (ownV o data)).run P { w with drawn := w.drawn + 1 } = .ok data.toArray { w with drawn := w.drawn + 1 } :=
      run_firstCells (hw.drewN _) (Rd.own hok)
    have hfirst2 := run_firstCells (l := news.length) (c := c2) (hw.drewN (w.drawn + 1)) hr
    have hL1 : HW w0 L1 { w with drawn := w.drawn + 1 } := (hw.drewN _).sub (List.sublist_append_right _ _)
    let N := (Question.appendCap (data.length + news.length) (ownC o data) e).cut (w.tape w.drawn (.appendCap (data.length + news.length) (ownC o data) e))
    have hN : data.length + news.length ≤ N := by simp only [N, Question.cut]; omega
    refine ⟨some ⟨w.heap.size, List.replicate (N - (data.length + news.length)) z⟩, _, ?_, hL1.alloc (blk e (0, 0) (data ++ news ++ List.replicate (N - (data.length + news.length)) z)), fun h => by simp at h⟩
    have hc : data.length + news.length + (N - (data.length + news.length)) = N := by omega
    have hfit2 : ¬ data.length + news.length ≤ ownC o data := hfit
    have hng : ¬ (9223372036854775807 < (data.length : Int) + (news.length : Int)) := by omega
    have hroom2 : ¬ (281474976710656 < Builtin.nextslicecap (data.length + news.length) (ownC o data) * i.bytes) := by omega
    rw [World.drew_eq] at hold hfirst2
    simp [Builtin.append_, hs, hs2, hsz, hi, hz, hz1, Builtin.lenOf, hfit2, hng, hroom2, Question.forced, hold, hfirst2, newRow, zeroCells_one]
    refine ⟨⟨rfl, ?_⟩, ?_⟩
    · show N = _
      simp only [ownC, List.length_append, List.length_replicate]
      omega
    · show World.alloc _ _ = World.alloc w.drew _
      congr 1
      simp [blk, N]
end

section
variable {w0 : World} {n : Nat} {Q : Exit → Act → World → Prop} {tm : Slots} {L L1 L' : Heap} {K : Act → World → Prop}
variable {d : Nat} {v : Value} {t t2 xt yt e e2 ty : TypeId} {p : String} {af : Array Edge} {o : Option Own} {x y : Operand}
/-- 'append(x, y...)', x a slice of the code's own. -/
theorem OW.append {z : Value} {i : TypeInfo} {data news data' : List Value} {B : Option Addr} {m c2 : Nat}
    (hs : ∀ w, (underlying t).run P w = .ok (.slice e) w) (hs2 : ∀ w, (underlying t2).run P w = .ok (.slice e2) w)
    (hsz : ∀ w, (sizeOf e).run P w = .ok 1 w) (hi : ∀ w, (typeInfo e).run P w = .ok i w) (hz : ∀ w, (zeroValue e).run P w = .ok z w) (hz1 : z.cells = #[z])
    (hx : ev tm x = some (ownV o data)) (hy : ev tm y = some (.slice B m c2)) (hm : m = news.length)
    (hp : ∀ w, HW w0 L w → HW w0 (ownL e o data ++ L1) w) (hok : o = none → data = []) (hr : Rd (ownL e o data ++ L1) B news) (hone : ∀ u ∈ news, u.oneCell' = true)
    (hb : (data.length + news.length) * i.bytes ≤ 140737488355328) (hmax : data.length + news.length ≤ 9223372036854775807) (hdata : data ++ news = data') (hd : Nat.blt d n = true)
    (k : ∀ o' : Option Own, (o' = none → data' = []) → KS w0 n K ((d, ownV o' data') :: tm) (ownL e o' data' ++ L1)) :
    OW w0 n Q ⟨some d, .call ⟨.builtin .append, #[x, y], #[t, t2]⟩, ty, p, af, none⟩ K tm L := OW.run hd fun a w hS => by
  subst hm
  subst hdata
  obtain ⟨o', w', h1, h2, h3⟩ := run_append (c2 := c2) (ty := ty) hs hs2 hsz hi hz hz1 (hp w hS.mem) hok hr hone hb hmax
  refine ⟨_, w', _, ?_, h2, k o' h3⟩
  simp [execOp, ev_eval hS.agree hx, ev_eval hS.agree hy, resolve, invoke, builtin, h1]
/-- 'copy(x, y)' into a block that is known. -/
theorem OW.copy {b off l c m c2 nn : Nat} {t' : TypeId} {vs us news : List Value} {B : Option Addr} (hs : ∀ w, (underlying t).run P w = .ok (.slice e) w) (hsz : ∀ w, (sizeOf e).run P w = .ok 1 w)
    (hx : ev tm x = some (.slice (some ⟨b, off, none⟩) l c)) (hy : ev tm y = some (.slice B m c2)) (hr : Rd L B news) (hnn : Nat.min m l = nn) (hn : news.length = nn) (hone : ∀ u ∈ news, u.oneCell' = true)
    (hat : At L (b, blk t' (0, 0) vs) (b, blk t' (0, 0) us) L') (hl : off + nn ≤ vs.length) (hu : overlay vs off news = us) (hd : Nat.blt d n = true)
    (k : KS w0 n K ((d, .int .i64 nn) :: tm) L') : OW w0 n Q ⟨some d, .call ⟨.builtin .copy, #[x, y], #[t, t2]⟩, ty, p, af, none⟩ K tm L := OW.run hd fun a w hS => by
  subst hn
  subst hu
  obtain ⟨M, p1, p2⟩ := hat.perm
  have hm := hS.mem.perm p1
  have h0 := run_firstCells (l := m) (c := c2) hS.mem hr
  obtain ⟨w', h1, h2⟩ := run_storeCells (off := off) news vs w 0 hm (by omega) hone (fun j _ _ => by simp)
  refine ⟨.int .i64 (news.length : Int), w', L', ?_, h2.perm p2.symm, k⟩
  simp [execOp, ev_eval hS.agree hx, ev_eval hS.agree hy, resolve, invoke, builtin, Builtin.copy_, hs, hsz, Builtin.lenOf, hnn, h0, h1, goInt]
/-- A call, by what is known of the callee. -/
theorem OW.call {g : Option (Nat × Bool)} {f : FuncId} {xs : List Operand} {us : List Value} {ts : Array TypeId} {R : Ending → World → Prop} (hc : ∀ args w, (callFunc f args).run P w = .ok (.enter f args) w) (hx : evs tm xs = some us)
    (h : ∀ w, HW w0 L w → Calls P f us.toArray w R) (hd : Nat.blt d n = true) (k : ∀ r w', R r w' → ∃ v L', r = .returned v ∧ HW w0 L' w' ∧ KS w0 n K ((d, v) :: tm) L') :
    OW w0 n Q ⟨some d, .call ⟨.value (.func f), xs.toArray, ts⟩, ty, p, af, g⟩ K tm L := .mk fun a w hS => by
  have hm := evs_map hS.agree hx
  have hrun : (execOp a.eval ⟨some d, .call ⟨.value (.func f), xs.toArray, ts⟩, ty, p, af, g⟩).run P w = .ok (.enter f us.toArray) w := by
    simp [execOp, resolve, Act.eval, Deferred.ofValue, invoke, hc, hm]
  simp only [Oper.wp, hrun, Oper.upon]
  refine (h w hS.mem).mono fun r w' hr => ?_
  obtain ⟨v, L', rfl, h2, h3⟩ := k r w' hr
  exact h3.out _ _ ((hS.put (by simpa using hd)).heap' h2)
/-- A method of an interface value whose type is known. -/
theorem OW.invoke {f : FuncId} {name : String} {xs : List Operand} {us : List Value} {ts : Array TypeId} {u ru : Value} {R : Ending → World → Prop} (hx : ev tm x = some (.iface xt u))
    (hm : ∀ w, (method (349 + Made.depth) xt u name).run P w = .ok (f, ru) w)
    (hc : ∀ args w, (callFunc f args).run P w = .ok (.enter f args) w) (hxs : evs tm xs = some us)
    (h : ∀ w, HW w0 L w → Calls P f (#[ru] ++ us.toArray) w R) (hd : Nat.blt d n = true) (k : ∀ r w', R r w' → ∃ v L', r = .returned v ∧ HW w0 L' w' ∧ KS w0 n K ((d, v) :: tm) L') :
    OW w0 n Q ⟨some d, .call ⟨.invoke x name, xs.toArray, ts⟩, ty, p, af, none⟩ K tm L := .mk fun a w hS => by
  have hmap := evs_map hS.agree hxs
  have hrun : (execOp a.eval ⟨some d, .call ⟨.invoke x name, xs.toArray, ts⟩, ty, p, af, none⟩).run P w = .ok (.enter f (#[ru] ++ us.toArray)) w := by
    have he : (#[Value.iface xt u] ++ us.toArray).extract 1 (#[Value.iface xt u] ++ us.toArray).size = us.toArray := by simp
    simp [execOp, resolve, ev_eval hS.agree hx, hmap, Go.invoke, callMethod, hm, hc]
  simp only [Oper.wp, hrun, Oper.upon]
  refine (h w hS.mem).mono fun r w' hr => ?_
  obtain ⟨v, L', rfl, h2, h3⟩ := k r w' hr
  exact h3.out _ _ ((hS.put (by simpa using hd)).heap' h2)
end

section
variable {w0 : World} {n : Nat} {Q : Exit → Act → World → Prop} {tm : Slots} {L L1 L' : Heap} {K : Act → World → Prop}
variable {d : Nat} {v u : Value} {t t2 xt yt e e2 ty : TypeId} {p : String} {af : Array Edge} {x y : Operand} {g : Option (Nat × Bool)} {od : Option Tmp}
theorem v_makeFunc {name : String} (hx : ev tm x = some u) : Val w0 tm L ⟨od, .makeFunc (.method name) #[x] #[], ty, p, af, g⟩ (.func (.method name) #[u] #[]) := .mk fun a w ha _ => by
  simp [execOp, Instr.makeFunc, ev_eval ha hx]
theorem v_nilCheck_method {name : String} (hx : ev tm x = some (.func (.method name) #[.iface xt u] #[])) (hn : ∀ w, (nilAhead (349 + Made.depth) xt u name).run P w = .ok (some false) w) :
    Val w0 tm L ⟨od, .nilCheck x, ty, p, af, g⟩ (.func (.method name) #[.iface xt u] #[]) := .mk fun a w ha _ => by
  simp [execOp, ev_eval ha hx, hn]
theorem v_nilCheck_iface (hx : ev tm x = some (.iface xt u)) : Val w0 tm L ⟨od, .nilCheck x, ty, p, af, g⟩ (.iface xt u) := .mk fun a w ha _ => by
  simp [execOp, ev_eval ha hx]
/-- A struct or an array that is built. -/
theorem v_build {parts : Array (Nat × Operand)} {xs : List Operand} {us : List Value} {is : List Nat} (hp : parts = (is.zip xs).toArray) (hl : is.length = xs.length) (hx : evs tm xs = some us)
    (hb : ∀ w, (Instr.build t (is.zip us).toArray).run P w = .ok v w) : Val w0 tm L ⟨od, .build t parts, ty, p, af, g⟩ v := .mk fun a w ha _ => by
  have hm := evs_map ha hx
  have : (parts.map fun (i, x) => (i, a.eval x)) = (is.zip us).toArray := by
    subst hp
    rw [← hm]
    simp [List.zip_map_right]
  simp [execOp, this, hb]
/-- '[]byte(..)' of bytes: a mark is laid. -/
theorem OW.mark {b off l c : Nat} {t' : TypeId} {vs : List Value} (hs : ∀ w, (underlying t).run P w = .ok (.slice e) w) (he : ∀ w, (underlying e).run P w = .ok (.int .u8) w) (hx : ev tm x = some (.slice (some ⟨b, off, none⟩) l c))
    (hat : At L (b, blk t' (0, 0) vs) (b, blk t' (vs.length, vs.length + 1) vs) L') (hd : Nat.blt d n = true) (k : KS w0 n K ((d, .slice (some ⟨b, off, none⟩) l c) :: tm) L') :
    OW w0 n Q ⟨some d, .convert t t x, ty, p, af, none⟩ K tm L := OW.run hd fun a w hS => by
  obtain ⟨M, p1, p2⟩ := hat.perm
  have hm := hS.mem.perm p1
  have hsh := hm.shape (b := b) (t := t') (fr := (0, 0)) (vs := vs) (by simp)
  refine ⟨.slice (some ⟨b, off, none⟩) l c, _, L', ?_, (hm.freeze vs.length 1 (by simp)).perm p2.symm, k⟩
  simp [execOp, ev_eval hS.agree hx, convert, hs, he, markStringish, hsh]
/-- An error, or another interface value, beside nil. -/
theorem v_nil_neq (hx : ev tm x = some .nilIface) (he : ∀ w, (Op.equal xt .nilIface .nilIface).run P w = .ok true w) : Val w0 tm L ⟨od, .binOp .neq xt x (.const .nilIface) yt, ty, p, af, g⟩ (.bool false) := .mk fun a w ha _ => by
  have h2 : a.eval (.const .nilIface) = .nilIface := rfl
  simp [execOp, ev_eval ha hx, h2, eqGuard, binOp, he]
end
end Go.Proofs.YtljoodllnaekbaaGreatDoor

namespace Go.Proofs.YtljoodllnaekbaaGreatDoor
open Go

/-- The arguments' slots. -/
def argS : Nat → List Value → Slots
  | _, [] => []
  | i, v :: r => (i, v) :: argS (i + 1) r
theorem get_argS {us : List Value} : ∀ {k i : Nat} {v : Value}, get (argS k us) i = some v → k ≤ i ∧ us[i - k]? = some v := by
  induction us with
  | nil => intro k i v h; simp [argS, get] at h
  | cons u us ih =>
    intro k i v h
    rw [argS, get_cons] at h
    split at h
    · rename_i e; subst e; simp at h; subst h; simp
    · obtain ⟨h1, h2⟩ := ih h
      refine ⟨by omega, ?_⟩
      rw [show i - k = (i - (k + 1)) + 1 by omega]
      simpa using h2

section
variable {w0 w : World} {n : Nat} {L : Heap} {R : Ending → World → Prop} {f : FuncId} {fn : Func} {c : Code} {tm : Slots} {us : List Value}
theorem enter (hf : P.funcs[f]? = some fn) (hb : fn.body = some c) (hn : fn.ntmps = n) (hl : us.length ≤ n) (ht : tm = argS 0 us) (h : WC w0 n (bodyPost P fn R) tm L c) (hw : HW w0 L w) : Calls P f us.toArray w R := by
  refine calls_of_wp hf hb (h.out _ _ ⟨rfl, ?_, ?_, hw⟩)
  · simp [hn]; omega
  · intro i v hv
    rw [ht] at hv
    obtain ⟨_, h2⟩ := get_argS hv
    have hlt := (List.getElem?_eq_some_iff.1 h2).1
    rw [Array.getElem?_append_left (by simpa using hlt)]
    simpa using h2
theorem ret1 {t : Nat} {v : Value} (hr : fn.results = #[.tmp t]) (hv : get tm t = some v) (h : ∀ w, HW w0 L w → R (.returned v) w) : EX w0 n .ret (bodyPost P fn R) tm L := .mk fun a w hS =>
  ⟨hS.defers, v, by rw [results_tmp hr]; simp [hS.agree t v hv], h w hS.mem⟩
theorem ret2 {t t' : Nat} {v v' : Value} (hr : fn.results = #[.tmp t, .tmp t']) (hv : get tm t = some v) (hv' : get tm t' = some v') (h : ∀ w, HW w0 L w → R (.returned (.tuple #[v, v'])) w) : EX w0 n .ret (bodyPost P fn R) tm L := .mk fun a w hS =>
  ⟨hS.defers, _, by rw [results_tmp2 hr]; simp [hS.agree t v hv, hS.agree t' v' hv'], h w hS.mem⟩
theorem ret0 (hr : fn.results = #[]) (h : ∀ w, HW w0 L w → R (.returned (.tuple #[])) w) : EX w0 n .ret (bodyPost P fn R) tm L := .mk fun a w hS =>
  ⟨hS.defers, _, by rw [results_none hr], h w hS.mem⟩
theorem end0 (hr : fn.results = #[]) (h : ∀ w, HW w0 L w → R (.returned (.tuple #[])) w) : EX w0 n .normal (bodyPost P fn R) tm L := .mk fun a w hS =>
  ⟨hS.defers, _, by rw [results_none hr], h w hS.mem⟩
theorem retG {v : Value} (hr : ∀ a w, Agree tm a → HW w0 L w → (results fn a.tmps).run P w = .ok v w) (h : ∀ w, HW w0 L w → R (.returned v) w) : EX w0 n .ret (bodyPost P fn R) tm L := .mk fun a w hS =>
  ⟨hS.defers, v, hr a w hS.agree hS.mem, h w hS.mem⟩
end

section
variable {w0 : World} {tm : Slots} {L : Heap} {d : Option Tmp} {t : TypeId} {p : String} {af : Array Edge} {g : Option (Nat × Bool)}
variable {x y z : Operand} {u v : Value} {xt yt e : TypeId} {k : IntKind} {m n : Int}
theorem w_i64 {n : Int} (h : -9223372036854775808 ≤ n ∧ n ≤ 9223372036854775807) : IntKind.i64.wrap n = n := by rw [IntKind.wrap_i64]; omega
theorem w_u64 {n : Int} (h : 0 ≤ n ∧ n ≤ 18446744073709551615) : IntKind.u64.wrap n = n := by simp [IntKind.wrap, IntKind.bits, IntKind.signed]; omega
theorem w_u32 {n : Int} (h : 0 ≤ n ∧ n ≤ 4294967295) : IntKind.u32.wrap n = n := by rw [IntKind.wrap_u32]; omega
theorem w_u16 {n : Int} (h : 0 ≤ n ∧ n ≤ 65535) : IntKind.u16.wrap n = n := by simp [IntKind.wrap, IntKind.bits, IntKind.signed]; omega
theorem w_u8 {n : Int} (h : 0 ≤ n ∧ n ≤ 255) : IntKind.u8.wrap n = n := by rw [IntKind.wrap_u8]; omega
theorem v_add_i (hx : ev tm x = some (.int .i64 m)) (hy : ev tm y = some (.int .i64 n)) (h : -9223372036854775808 ≤ m + n ∧ m + n ≤ 9223372036854775807) : Val w0 tm L ⟨d, .binOp .add xt x y yt, t, p, af, g⟩ (.int .i64 (m + n)) :=
  (v_add hx hy).cast (by rw [w_i64 h])
theorem v_sub_i (hx : ev tm x = some (.int .i64 m)) (hy : ev tm y = some (.int .i64 n)) (h : -9223372036854775808 ≤ m - n ∧ m - n ≤ 9223372036854775807) : Val w0 tm L ⟨d, .binOp .sub xt x y yt, t, p, af, g⟩ (.int .i64 (m - n)) :=
  (v_sub hx hy).cast (by rw [w_i64 h])
theorem v_mul_i (hx : ev tm x = some (.int .i64 m)) (hy : ev tm y = some (.int .i64 n)) (h : -9223372036854775808 ≤ m * n ∧ m * n ≤ 9223372036854775807) : Val w0 tm L ⟨d, .binOp .mul xt x y yt, t, p, af, g⟩ (.int .i64 (m * n)) :=
  (v_mul hx hy).cast (by rw [w_i64 h])
theorem v_lenE {A : Option Addr} {l l' c : Nat} (hs : ∀ w, (underlying xt).run P w = .ok (.slice e) w) (hx : ev tm x = some (.slice A l c)) (hl : l = l') :
    Val w0 tm L ⟨d, .call ⟨.builtin .len, #[x], #[xt]⟩, t, p, af, g⟩ (.int .i64 l') := hl ▸ v_len hs hx
/-- What an equation turns a value into. -/
theorem Val.to {o : Oper} {v v' : Value} (e : v = v') (h : Val w0 tm L o v) : Val w0 tm L o v' := e ▸ h
end
end Go.Proofs.YtljoodllnaekbaaGreatDoor

namespace Go.Proofs.YtljoodllnaekbaaGreatDoor
open Go

/-- Digits, as int values. -/
def dg (xs : List Nat) : List Value := xs.map fun (d : Nat) => Value.int .i64 (d : Int)
/-- Bytes, as values. -/
def bt (xs : List Nat) : List Value := xs.map fun (d : Nat) => Value.int .u8 (d : Int)
theorem dg_length (xs : List Nat) : (dg xs).length = xs.length := by simp [dg]
theorem bt_length (xs : List Nat) : (bt xs).length = xs.length := by simp [bt]
theorem dg_at {xs : List Nat} {i : Nat} (h : i < xs.length) : (dg xs)[i]? = some (.int .i64 ((xs.getD i 0 : Nat) : Int)) := by simp [dg, h]
theorem bt_at {xs : List Nat} {i : Nat} (h : i < xs.length) : (bt xs)[i]? = some (.int .u8 ((xs.getD i 0 : Nat) : Int)) := by simp [bt, h]
theorem dg_append (xs ys : List Nat) : dg (xs ++ ys) = dg xs ++ dg ys := by simp [dg]
theorem bt_append (xs ys : List Nat) : bt (xs ++ ys) = bt xs ++ bt ys := by simp [bt]
theorem dg_take (xs : List Nat) (k : Nat) : dg (xs.take k) = (dg xs).take k := by simp [dg]
theorem bt_take (xs : List Nat) (k : Nat) : bt (xs.take k) = (bt xs).take k := by simp [bt]
theorem dg_drop (xs : List Nat) (k : Nat) : dg (xs.drop k) = (dg xs).drop k := by simp [dg]
theorem bt_drop (xs : List Nat) (k : Nat) : bt (xs.drop k) = (bt xs).drop k := by simp [bt]
theorem dg_set (xs : List Nat) (k v : Nat) : (dg xs).set k (.int .i64 (v : Int)) = dg (xs.set k v) := by simp [dg, List.map_set]
theorem bt_set (xs : List Nat) (k v : Nat) : (bt xs).set k (.int .u8 (v : Int)) = bt (xs.set k v) := by simp [bt, List.map_set]
theorem dg_one (xs : List Nat) : ∀ u ∈ dg xs, u.oneCell' = true := by intro u h; simp [dg] at h; obtain ⟨a, _, rfl⟩ := h; rfl
theorem bt_one (xs : List Nat) : ∀ u ∈ bt xs, u.oneCell' = true := by intro u h; simp [bt] at h; obtain ⟨a, _, rfl⟩ := h; rfl
theorem dg_replicate (n : Nat) : List.replicate n (Value.int .i64 0) = dg (List.replicate n 0) := by simp [dg]
theorem bt_replicate (n : Nat) : List.replicate n (Value.int .u8 0) = bt (List.replicate n 0) := by simp [bt]

theorem dg_snoc (xs : List Nat) (d : Nat) : dg xs ++ [Value.int .i64 (d : Int)] = dg (xs ++ [d]) := by simp [dg]
theorem bt_snoc (xs : List Nat) (d : Nat) : bt xs ++ [Value.int .u8 (d : Int)] = bt (xs ++ [d]) := by simp [bt]
theorem bt_snoc2 (xs : List Nat) (d e : Nat) : bt xs ++ [Value.int .u8 (d : Int), Value.int .u8 (e : Int)] = bt (xs ++ [d, e]) := by simp [bt]
/-- Without zeros at the end. -/
def trimL (xs : List Nat) : List Nat := (xs.reverse.dropWhile (· == 0)).reverse
theorem trimL_nil : trimL [] = [] := rfl
theorem trimL_snoc_zero (xs : List Nat) : trimL (xs ++ [0]) = trimL xs := by simp [trimL]
theorem trimL_snoc (xs : List Nat) (d : Nat) (h : d ≠ 0) : trimL (xs ++ [d]) = xs ++ [d] := by simp [trimL, h]
theorem take_snoc (xs : List Nat) (k : Nat) (h : k < xs.length) : xs.take (k + 1) = xs.take k ++ [xs.getD k 0] := by
  rw [List.take_succ_eq_append_getElem h]; simp [h]
theorem trimL_take_zero {xs : List Nat} {k : Nat} (h0 : 0 < k) (hk : k ≤ xs.length) (hz : xs.getD (k - 1) 0 = 0) : trimL (xs.take k) = trimL (xs.take (k - 1)) := by
  obtain ⟨j, rfl⟩ : ∃ j, k = j + 1 := ⟨k - 1, by omega⟩
  rw [Nat.add_sub_cancel] at hz ⊢
  rw [take_snoc xs j (by omega), hz, trimL_snoc_zero]
theorem trimL_take_ne {xs : List Nat} {k : Nat} (h0 : 0 < k) (hk : k ≤ xs.length) (hz : xs.getD (k - 1) 0 ≠ 0) : trimL (xs.take k) = xs.take k := by
  obtain ⟨j, rfl⟩ : ∃ j, k = j + 1 := ⟨k - 1, by omega⟩
  rw [Nat.add_sub_cancel] at hz
  rw [take_snoc xs j (by omega), trimL_snoc _ _ hz]
theorem trimL_prefix (xs : List Nat) : ∃ k, k ≤ xs.length ∧ trimL xs = xs.take k := by
  have h : trimL xs <+: xs := by
    unfold trimL
    have := List.dropWhile_suffix (l := xs.reverse) (· == 0)
    simpa using List.reverse_prefix.2 this
  exact ⟨(trimL xs).length, h.length_le, (List.prefix_iff_eq_take.1 h)⟩
theorem trimL_length_le (xs : List Nat) : (trimL xs).length ≤ xs.length := by
  obtain ⟨k, _, h⟩ := trimL_prefix xs
  rw [h]; simp; omega
end Go.Proofs.YtljoodllnaekbaaGreatDoor

namespace Go.Proofs.YtljoodllnaekbaaGreatDoor
open Go

theorem ofInt_nat (w m : Nat) : BitVec.ofInt w (m : Int) = BitVec.ofNat w m := by
  simp [BitVec.ofInt_natCast]
theorem toNat_and (w m n : Nat) (hm : m < 2 ^ w) (hn : n < 2 ^ w) : (BitVec.ofInt w (m : Int) &&& BitVec.ofInt w (n : Int)).toNat = m &&& n := by
  rw [ofInt_nat, ofInt_nat, BitVec.toNat_and, BitVec.toNat_ofNat, BitVec.toNat_ofNat, Nat.mod_eq_of_lt hm, Nat.mod_eq_of_lt hn]
theorem toNat_or (w m n : Nat) (hm : m < 2 ^ w) (hn : n < 2 ^ w) : (BitVec.ofInt w (m : Int) ||| BitVec.ofInt w (n : Int)).toNat = m ||| n := by
  rw [ofInt_nat, ofInt_nat, BitVec.toNat_or, BitVec.toNat_ofNat, BitVec.toNat_ofNat, Nat.mod_eq_of_lt hm, Nat.mod_eq_of_lt hn]
theorem andI_i64 {m n : Nat} (hm : m < 9223372036854775808) (hn : n < 9223372036854775808) : andI .i64 (m : Int) (n : Int) = ((m &&& n : Nat) : Int) := by
  unfold andI
  rw [show IntKind.i64.bits = 64 from rfl, toNat_and 64 m n (by omega) (by omega)]
  have : m &&& n ≤ m := Nat.and_le_left
  exact w_i64 (by omega)
theorem or_lt {m n k : Nat} (hm : m < 2 ^ k) (hn : n < 2 ^ k) : m ||| n < 2 ^ k := Nat.or_lt_two_pow hm hn
theorem orI_i64 {m n : Nat} (hm : m < 9223372036854775808) (hn : n < 9223372036854775808) : orI .i64 (m : Int) (n : Int) = ((m ||| n : Nat) : Int) := by
  unfold orI
  rw [show IntKind.i64.bits = 64 from rfl, toNat_or 64 m n (by omega) (by omega)]
  have := or_lt (k := 63) (m := m) (n := n) (by omega) (by omega)
  exact w_i64 (by omega)
theorem andI_mask {m : Nat} (hm : m < 9223372036854775808) : andI .i64 (m : Int) 65535 = ((m % 65536 : Nat) : Int) := by
  rw [show (65535 : Int) = ((65535 : Nat) : Int) from rfl, andI_i64 hm (by omega)]
  rw [show (65535 : Nat) = 2 ^ 16 - 1 from rfl, Nat.and_two_pow_sub_one_eq_mod]
theorem shrI_nat (k : IntKind) {m s : Nat} (hs : s < 8) : shrI k (m : Int) (s : Int) = ((m / 2 ^ s : Nat) : Int) := by
  unfold shrI
  have : min (s : Int).toNat k.bits = s := by cases k <;> simp [IntKind.bits] <;> omega
  rw [this, Int.fdiv_eq_ediv_of_nonneg _ (by exact Int.pow_nonneg (by omega))]
  norm_cast
theorem shrI_i64 {m s : Nat} (hs : s < 64) : shrI .i64 (m : Int) (s : Int) = ((m / 2 ^ s : Nat) : Int) := by
  unfold shrI
  have : min (s : Int).toNat IntKind.i64.bits = s := by simp [IntKind.bits]; omega
  rw [this, Int.fdiv_eq_ediv_of_nonneg _ (by exact Int.pow_nonneg (by omega))]
  norm_cast
theorem shlI_i64 {m s : Nat} (hs : s < 64) (h : m * 2 ^ s < 9223372036854775808) : shlI .i64 (m : Int) (s : Int) = ((m * 2 ^ s : Nat) : Int) := by
  unfold shlI
  have : min (s : Int).toNat IntKind.i64.bits = s := by simp [IntKind.bits]; omega
  rw [this]
  have h2 : (m : Int) * 2 ^ s = ((m * 2 ^ s : Nat) : Int) := by norm_cast
  rw [h2]
  exact w_i64 (by omega)
theorem andI_mask_int {n : Int} : andI .i64 n 65535 = n % 65536 := by
  unfold andI
  rw [show IntKind.i64.bits = 64 from rfl, show (65535 : Int) = ((65535 : Nat) : Int) from rfl, ofInt_nat, BitVec.toNat_and, BitVec.toNat_ofNat, BitVec.toNat_ofInt]
  rw [show (65535 : Nat) % 2 ^ 64 = 2 ^ 16 - 1 from rfl, Nat.and_two_pow_sub_one_eq_mod]
  rw [w_i64 (by omega)]
  omega
theorem shrI_int {n : Int} : shrI .i64 n 16 = n / 65536 := by
  unfold shrI
  rw [show min (16 : Int).toNat IntKind.i64.bits = 16 from rfl, Int.fdiv_eq_ediv_of_nonneg _ (by decide)]
  rfl
theorem conv_u8 (m : Nat) : IntKind.u8.wrap (m : Int) = ((m % 256 : Nat) : Int) := by rw [IntKind.wrap_u8]; omega
theorem conv_i64 {m : Nat} (h : m < 9223372036854775808) : IntKind.i64.wrap (m : Int) = (m : Int) := w_i64 (by omega)

section
variable {w0 : World} {tm : Slots} {L : Heap} {d : Option Tmp} {t : TypeId} {p : String} {af : Array Edge} {g : Option (Nat × Bool)}
variable {x y z : Operand} {u v : Value} {xt yt e : TypeId} {k yk : IntKind} {m n : Nat}
theorem n_index {A : Option Addr} {l c : Nat} {vs : List Value} {ki : IntKind} (hs : ∀ w, (underlying xt).run P w = .ok (.slice e) w) (hz : ∀ w, (sizeOf e).run P w = .ok 1 w) (hx : ev tm x = some (.slice A l c)) (hy : ev tm y = some (.int ki (m : Int)))
    (hr : Rd L A vs) (h0 : m < l) (hl : m < vs.length) : Val w0 tm L ⟨d, .indexAddr xt x y, t, p, af, g⟩ (.pointer (some (pAt A m))) :=
  (v_index_rd hs hz hx hy hr (by omega) (by simpa using hl)).cast (by simp)
theorem n_ix {b l c : Nat} {ki : IntKind} (hs : ∀ w, (underlying xt).run P w = .ok (.slice e) w) (hz : ∀ w, (sizeOf e).run P w = .ok 1 w) (hx : ev tm x = some (.slice (some ⟨b, 0, none⟩) l c)) (hy : ev tm y = some (.int ki (m : Int)))
    (h0 : m < l) : Val w0 tm L ⟨d, .indexAddr xt x y, t, p, af, g⟩ (.pointer (some ⟨b, m, none⟩)) :=
  (v_index hs hz hx hy rfl (by omega)).cast (by rw [add_block]; simp)
theorem n_ixa {b off len : Nat} {ki : IntKind} (hs : ∀ w, (underlying xt).run P w = .ok (.array len e) w) (hz : ∀ w, (sizeOf e).run P w = .ok 1 w) (hx : ev tm x = some (.pointer (some ⟨b, off, none⟩))) (hy : ev tm y = some (.int ki (m : Int)))
    (h0 : m < len) : Val w0 tm L ⟨d, .indexAddr xt x y, t, p, af, g⟩ (.pointer (some ⟨b, off + m, none⟩)) :=
  (v_index_arr hs hz hx hy (by omega)).cast (by rw [add_block]; simp)
theorem n_add (hx : ev tm x = some (.int .i64 (m : Int))) (hy : ev tm y = some (.int .i64 (n : Int))) (h : m + n < 9223372036854775808) : Val w0 tm L ⟨d, .binOp .add xt x y yt, t, p, af, g⟩ (.int .i64 ((m + n : Nat) : Int)) :=
  (v_add hx hy).cast (by rw [show (m : Int) + (n : Int) = ((m + n : Nat) : Int) from by omega, conv_i64 h])
theorem n_add1 {c : Int} (hx : ev tm x = some (.int .i64 (m : Int))) (hy : ev tm y = some (.int .i64 c)) (hc : c = (n : Int)) (h : m + n < 9223372036854775808) : Val w0 tm L ⟨d, .binOp .add xt x y yt, t, p, af, g⟩ (.int .i64 ((m + n : Nat) : Int)) :=
  n_add hx (hc ▸ hy) h
theorem n_sub (hx : ev tm x = some (.int .i64 (m : Int))) (hy : ev tm y = some (.int .i64 (n : Int))) (h : n ≤ m) (hm : m < 9223372036854775808) : Val w0 tm L ⟨d, .binOp .sub xt x y yt, t, p, af, g⟩ (.int .i64 ((m - n : Nat) : Int)) :=
  (v_sub hx hy).cast (by rw [show (m : Int) - (n : Int) = ((m - n : Nat) : Int) from by omega, conv_i64 (by omega)])
theorem n_sub1 {c : Int} (hx : ev tm x = some (.int .i64 (m : Int))) (hy : ev tm y = some (.int .i64 c)) (hc : c = (n : Int)) (h : n ≤ m) (hm : m < 9223372036854775808) : Val w0 tm L ⟨d, .binOp .sub xt x y yt, t, p, af, g⟩ (.int .i64 ((m - n : Nat) : Int)) :=
  n_sub hx (hc ▸ hy) h hm
theorem n_mul (hx : ev tm x = some (.int .i64 (m : Int))) (hy : ev tm y = some (.int .i64 (n : Int))) (h : m * n < 9223372036854775808) : Val w0 tm L ⟨d, .binOp .mul xt x y yt, t, p, af, g⟩ (.int .i64 ((m * n : Nat) : Int)) :=
  (v_mul hx hy).cast (by rw [show (m : Int) * (n : Int) = ((m * n : Nat) : Int) from by norm_cast, conv_i64 h])
theorem n_or (hx : ev tm x = some (.int .i64 (m : Int))) (hy : ev tm y = some (.int .i64 (n : Int))) (hm : m < 9223372036854775808) (hn : n < 9223372036854775808) : Val w0 tm L ⟨d, .binOp .or xt x y yt, t, p, af, g⟩ (.int .i64 ((m ||| n : Nat) : Int)) :=
  (v_or hx hy).cast (by rw [orI_i64 hm hn])
theorem n_mask (hx : ev tm x = some (.int .i64 (m : Int))) (hm : m < 9223372036854775808) : Val w0 tm L ⟨d, .binOp .and xt x (.const (.int .i64 65535)) yt, t, p, af, g⟩ (.int .i64 ((m % 65536 : Nat) : Int)) :=
  (v_and hx rfl).cast (by rw [andI_mask hm])
theorem n_shr {c : Int} (hx : ev tm x = some (.int .i64 (m : Int))) (hy : ev tm y = some (.int yk c)) (hc : c = (n : Int)) (hn : n < 64) : Val w0 tm L ⟨d, .binOp .shr xt x y yt, t, p, af, g⟩ (.int .i64 ((m / 2 ^ n : Nat) : Int)) :=
  (v_shr hx hy (by omega)).cast (by rw [hc, shrI_i64 hn])
theorem n_shl {c : Int} (hx : ev tm x = some (.int .i64 (m : Int))) (hy : ev tm y = some (.int yk c)) (hc : c = (n : Int)) (hn : n < 64) (h : m * 2 ^ n < 9223372036854775808) : Val w0 tm L ⟨d, .binOp .shl xt x y yt, t, p, af, g⟩ (.int .i64 ((m * 2 ^ n : Nat) : Int)) :=
  (v_shl hx hy (by omega)).cast (by rw [hc, shlI_i64 hn h])
theorem n_byte {sd : TypeDesc} (hs : ∀ w, (underlying xt).run P w = .ok sd w) (hd : ∀ w, (underlying yt).run P w = .ok (.int .u8) w) {k' : IntKind} (hx : ev tm x = some (.int k' (m : Int))) :
    Val w0 tm L ⟨d, .convert xt yt x, t, p, af, g⟩ (.int .u8 ((m % 256 : Nat) : Int)) := (v_conv hs hd hx).cast (by rw [conv_u8])
theorem n_int {sd : TypeDesc} (hs : ∀ w, (underlying xt).run P w = .ok sd w) (hd : ∀ w, (underlying yt).run P w = .ok (.int .i64) w) {k' : IntKind} (hx : ev tm x = some (.int k' (m : Int))) (hm : m < 9223372036854775808) :
    Val w0 tm L ⟨d, .convert xt yt x, t, p, af, g⟩ (.int .i64 (m : Int)) := (v_conv hs hd hx).cast (by rw [conv_i64 hm])
end

section
variable {w0 : World} {n : Nat} {Q : Exit → Act → World → Prop} {tm : Slots} {L F L' : Heap} {K : Act → World → Prop}
variable {d : Nat} {v : Value} {t t2 xt yt e e2 ty : TypeId} {p : String} {af : Array Edge} {o : Option Own} {x y : Operand}
/-- 'append(x, a, b, ..)': what is appended has just been laid. -/
theorem OW.appendLit {z : Value} {i : TypeInfo} {data us data' : List Value} {b m c2 : Nat} {e' : TypeId} {fr : Nat × Nat}
    (hs : ∀ w, (underlying t).run P w = .ok (.slice e) w) (hs2 : ∀ w, (underlying t2).run P w = .ok (.slice e2) w)
    (hsz : ∀ w, (sizeOf e).run P w = .ok 1 w) (hi : ∀ w, (typeInfo e).run P w = .ok i w) (hz : ∀ w, (zeroValue e).run P w = .ok z w) (hz1 : z.cells = #[z])
    (hx : ev tm x = some (ownV o data)) (hy : ev tm y = some (.slice (some ⟨b, 0, none⟩) m c2)) (hm : m = us.length) (hok : o = none → data = []) (hone : us.all Value.oneCell' = true)
    (hb : (data.length + us.length) * i.bytes ≤ 140737488355328) (hmax : data.length + us.length ≤ 9223372036854775807) (hdata : data ++ us = data') (hd : Nat.blt d n = true)
    (k : ∀ o' : Option Own, (o' = none → data' = []) → KS w0 n K ((d, ownV o' data') :: tm) (ownL e o' data' ++ F)) :
    OW w0 n Q ⟨some d, .call ⟨.builtin .append, #[x, y], #[t, t2]⟩, ty, p, af, none⟩ K tm ((b, blk e' fr us) :: (ownL e o data ++ F)) := by
  refine OW.append (o := o) (L1 := (b, blk e' fr us) :: F) hs hs2 hsz hi hz hz1 hx hy hm (fun w hw => hw.perm List.perm_middle.symm) hok (Rd.whole (t := e') (fr := fr) (by simp)) (fun u hu => List.all_eq_true.1 hone u hu) hb hmax hdata hd ?_
  intro o' ho'
  exact KS.mem (fun w hw => hw.sub ((List.sublist_cons_self _ _).append_left _)) (k o' ho')
end
end Go.Proofs.YtljoodllnaekbaaGreatDoor

namespace Go.Proofs.YtljoodllnaekbaaGreatDoor
open Go

theorem follows : P.follows .mixedOrders = true := by kernel_rfl

/-- Operations that leave the world alone, one after the other. -/
abbrev WS (w0 : World) (n : Nat) (ops : Array Oper) (K : Act → World → Prop) (tm : Slots) (L : Heap) (l : List Oper) : Prop := KS w0 n (fun a w => wpStill P ops w (fun a' => K a' w) l a) tm L

section
variable {w0 : World} {n : Nat} {Q : Exit → Act → World → Prop} {tm : Slots} {L L' : Heap} {ops : Array Oper} {rest l : List Oper} {K : Act → World → Prop}
variable {d : Nat} {v : Value} {t : TypeId} {p : String} {af : Array Edge} {op : Op}
theorem WC.drawAll {i : Nat} (hB : Region.lexB .any l.toArray = true) (h : WS w0 n l.toArray (Q .normal) tm L l) : WC w0 n Q tm L (.region i l.toArray true) := .mk fun a w hS =>
  wp_region_still_lit follows hB (h.out a _ (hS.heap' (hS.mem.drewN _)))
theorem WC.drawTail {i : Nat} (k : Nat) (hB : Region.lexTailB .any l.toArray k = true) (h : WS w0 n l.toArray (wpList P l.toArray Q (l.drop k)) tm L (l.take k)) : WC w0 n Q tm L (.region i l.toArray true) := .mk fun a w hS =>
  wp_region_still_tail k follows hB (h.out a _ (hS.heap' (hS.mem.drewN _)))
theorem WS.nil (h : KS w0 n K tm L) : WS w0 n ops K tm L [] := .mk fun a w hS => h.out a w hS
theorem WS.val (hv : Val w0 tm L ⟨some d, op, t, p, af, none⟩ v) (hd : Nat.blt d n = true) (k : WS w0 n ops K ((d, v) :: tm) L rest) : WS w0 n ops K tm L (⟨some d, op, t, p, af, none⟩ :: rest) := .mk fun a w hS => by
  unfold wpStill
  simp only [Region.wanted, if_true, Oper.still, hv.out a w hS.agree hS.mem, Oper.stillUpon]
  exact ⟨trivial, k.out _ _ (hS.put (by simpa using hd))⟩
theorem WS.yes {j dj : Nat} {want b : Bool} {oj : Oper} (hj : ops[j]? = some oj) (hdj : oj.dst = some dj) (hb : get tm dj = some (.bool b)) (hw : b = want)
    (hv : Val w0 tm L ⟨some d, op, t, p, af, some (j, want)⟩ v) (hd : Nat.blt d n = true) (k : WS w0 n ops K ((d, v) :: tm) L rest) : WS w0 n ops K tm L (⟨some d, op, t, p, af, some (j, want)⟩ :: rest) := .mk fun a w hS => by
  have hy := yielded_of (ops := ops) hS.agree hj hdj hb
  unfold wpStill
  simp only [Region.wanted, hy, hw, beq_self_eq_true, if_true, Oper.still, hv.out a w hS.agree hS.mem, Oper.stillUpon]
  exact ⟨trivial, k.out _ _ (hS.put (by simpa using hd))⟩
theorem WS.no {j dj : Nat} {want b : Bool} {oj : Oper} (hj : ops[j]? = some oj) (hdj : oj.dst = some dj) (hb : get tm dj = some (.bool b)) (hw : b = !want)
    (k : WS w0 n ops K (forget d tm) L rest) : WS w0 n ops K tm L (⟨some d, op, t, p, af, some (j, want)⟩ :: rest) := .mk fun a w hS => by
  have hy := yielded_of (ops := ops) hS.agree hj hdj hb
  have hf : (some b == some want) = false := by rw [hw]; cases want <;> rfl
  unfold wpStill
  simp only [Region.wanted, hy, hf, Bool.false_eq_true, if_false]
  exact k.out _ _ (hS.drop d undef)
theorem KS.split (b : Bool) (ht : b = true → KS w0 n K tm L) (hf : b = false → KS w0 n K tm L) : KS w0 n K tm L := by
  cases b
  · exact hf rfl
  · exact ht rfl
end
end Go.Proofs.YtljoodllnaekbaaGreatDoor

namespace Go.Proofs.YtljoodllnaekbaaGreatDoor

def Val16 (xs : List Nat) : Prop := ∀ d ∈ xs, d < 65536
def val : List Nat → Nat
  | [] => 0
  | d :: r => d + 65536 * val r
theorem Val16.at_ {xs : List Nat} (h : Val16 xs) (i : Nat) : xs.getD i 0 < 65536 := by
  by_cases hi : i < xs.length
  · have : xs.getD i 0 = xs[i] := by simp [hi]
    rw [this]; exact h _ (List.getElem_mem hi)
  · have : xs.getD i 0 = 0 := by simp [Nat.le_of_not_lt hi]
    omega
theorem Val16.of_getD {xs : List Nat} (h : ∀ i, xs.getD i 0 < 65536) : Val16 xs := fun d hd => by
  obtain ⟨i, hi, rfl⟩ := List.mem_iff_getElem.1 hd
  have := h i
  simpa [hi] using this
theorem Val16.set {xs : List Nat} (h : Val16 xs) (i v : Nat) (hv : v < 65536) : Val16 (xs.set i v) := fun d hd => by
  rcases List.mem_or_eq_of_mem_set hd with h1 | h1
  · exact h d h1
  · omega
theorem Val16.append {xs ys : List Nat} (h : Val16 xs) (h' : Val16 ys) : Val16 (xs ++ ys) := fun d hd => by
  rcases List.mem_append.1 hd with h1 | h1
  · exact h d h1
  · exact h' d h1
theorem Val16.sub {xs ys : List Nat} (h : Val16 ys) (hs : ∀ d ∈ xs, d ∈ ys) : Val16 xs := fun d hd => h d (hs d hd)
theorem val_append (xs ys : List Nat) : val (xs ++ ys) = val xs + 65536 ^ xs.length * val ys := by
  induction xs with
  | nil => simp [val]
  | cons d r ih =>
    simp only [List.cons_append, val, ih, List.length_cons, Nat.pow_succ]
    rw [Nat.mul_add, Nat.mul_comm (65536 ^ r.length) 65536, Nat.mul_assoc]; omega
theorem val_lt {xs : List Nat} (h : Val16 xs) : val xs < 65536 ^ xs.length := by
  induction xs with
  | nil => simp [val]
  | cons d r ih =>
    have h1 := h d (by simp)
    have h2 := ih (fun x hx => h x (by simp [hx]))
    simp only [val, List.length_cons, Nat.pow_succ]
    omega
/-- The digits of a number, so many. -/
def fixd : Nat → Nat → List Nat
  | 0, _ => []
  | n + 1, v => v % 65536 :: fixd n (v / 65536)
theorem fixd_length (n v : Nat) : (fixd n v).length = n := by
  induction n generalizing v with
  | zero => rfl
  | succ n ih => simp [fixd, ih]
theorem fixd_val {xs : List Nat} (h : Val16 xs) : fixd xs.length (val xs) = xs := by
  induction xs with
  | nil => rfl
  | cons d r ih =>
    have h1 := h d (by simp)
    have h2 := ih (fun x hx => h x (by simp [hx]))
    simp only [List.length_cons, fixd, val]
    rw [show (d + 65536 * val r) % 65536 = d by omega, show (d + 65536 * val r) / 65536 = val r by omega, h2]
theorem fixd_valid (n v : Nat) : Val16 (fixd n v) := by
  induction n generalizing v with
  | zero => intro d hd; simp [fixd] at hd
  | succ n ih =>
    intro d hd
    simp only [fixd, List.mem_cons] at hd
    rcases hd with rfl | hd
    · omega
    · exact ih _ d hd
theorem val_fixd (n v : Nat) (h : v < 65536 ^ n) : val (fixd n v) = v := by
  induction n generalizing v with
  | zero => simp at h; simp [fixd, val, h]
  | succ n ih =>
    simp only [fixd, val]
    rw [ih (v / 65536) (by rw [Nat.pow_succ] at h; omega)]
    omega
theorem val_take_succ (xs : List Nat) (i : Nat) (h : i < xs.length) : val (xs.take (i + 1)) = val (xs.take i) + 65536 ^ i * xs.getD i 0 := by
  rw [List.take_succ_eq_append_getElem h, val_append]
  have : (xs.take i).length = i := by simp; omega
  simp [this, val, h]

/-! ### takeAway -/
/-- What is borrowed ahead of digit i. -/
def borrow (r m : List Nat) (q : Nat) : Nat → Int
  | 0 => 0
  | i + 1 => -(((r.getD i 0 : Int) - borrow r m q i - q * (m.getD i 0 : Int)) / 65536)
def lessD (r m : List Nat) (q i : Nat) : Int := (r.getD i 0 : Int) - borrow r m q i - q * (m.getD i 0 : Int)
def taken (r m : List Nat) (q i : Nat) : Nat := (lessD r m q i % 65536).toNat
theorem borrow_succ (r m : List Nat) (q i : Nat) : borrow r m q (i + 1) = -(lessD r m q i / 65536) := rfl
theorem borrow_bound {r m : List Nat} (hr : Val16 r) (hm : Val16 m) (q : Nat) : ∀ i, 0 ≤ borrow r m q i ∧ borrow r m q i ≤ q + 1 := by
  intro i
  induction i with
  | zero => simp [borrow]; omega
  | succ i ih =>
    have h1 := hr.at_ i
    have h2 := hm.at_ i
    have h3 : (0 : Int) ≤ q * (m.getD i 0 : Int) := Int.mul_nonneg (by omega) (by omega)
    have h4 : (q : Int) * (m.getD i 0 : Int) ≤ q * 65535 := Int.mul_le_mul_of_nonneg_left (by omega) (by omega)
    simp only [borrow]
    omega
theorem taken_lt (r m : List Nat) (q i : Nat) : taken r m q i < 65536 := by unfold taken; omega
theorem taken_eq (r m : List Nat) (q i : Nat) : (taken r m q i : Int) = lessD r m q i + 65536 * borrow r m q (i + 1) := by
  unfold taken
  rw [borrow_succ]
  omega
theorem val_taken {r m : List Nat} (q : Nat) : ∀ i, (val ((List.range i).map (taken r m q)) : Int) = val ((List.range i).map fun j => r.getD j 0) - q * val ((List.range i).map fun j => m.getD j 0) + 65536 ^ i * borrow r m q i := by
  intro i
  induction i with
  | zero => simp [val, borrow]
  | succ i ih =>
    simp only [List.range_succ, List.map_append, List.map_cons, List.map_nil, val_append, List.length_map, List.length_range, val]
    have h := taken_eq r m q i
    unfold lessD at h
    simp only [Nat.mul_zero, Nat.add_zero, Int.natCast_add, Int.natCast_mul, Int.natCast_pow]
    rw [show ((65536 : Nat) : Int) = 65536 from rfl, ih, h, Int.pow_succ]
    simp only [Int.mul_add, Int.mul_sub, Int.mul_zero, Int.add_zero]
    have e1 : (65536 : Int) ^ i * (65536 * borrow r m q (i + 1)) = 65536 ^ i * 65536 * borrow r m q (i + 1) := by rw [Int.mul_assoc]
    have e2 : (q : Int) * (65536 ^ i * (m.getD i 0 : Int)) = 65536 ^ i * (q * (m.getD i 0 : Int)) := by rw [← Int.mul_assoc, ← Int.mul_assoc, Int.mul_comm (q : Int)]
    rw [e1, e2]
    omega
theorem val_getD_range (xs : List Nat) (n : Nat) (h : xs.length ≤ n) : val ((List.range n).map fun j => xs.getD j 0) = val xs := by
  have : (List.range n).map (fun j => xs.getD j 0) = xs ++ List.replicate (n - xs.length) 0 := by
    apply List.ext_getElem
    · simp; omega
    · intro i h1 h2
      simp at h1
      by_cases hi : i < xs.length
      · simp [hi, List.getElem_append_left]
      · simp [Nat.le_of_not_lt hi, List.getElem_append_right (Nat.le_of_not_lt hi)]
  rw [this, val_append]
  have : ∀ k, val (List.replicate k 0) = 0 := by
    intro k; induction k with
    | zero => rfl
    | succ k ih => simp [List.replicate_succ, val, ih]
  simp [this]
/-- 'takeAway' takes q m away. -/
theorem val_takeAway {r m : List Nat} {q : Nat} (hr : Val16 r) (hl : m.length ≤ r.length) (h : q * val m ≤ val r) : val ((List.range r.length).map (taken r m q)) = val r - q * val m := by
  have h1 := val_taken (r := r) (m := m) q r.length
  rw [val_getD_range r _ (Nat.le_refl _), val_getD_range m _ hl] at h1
  have hv : Val16 ((List.range r.length).map (taken r m q)) := fun d hd => by
    obtain ⟨i, _, rfl⟩ := List.mem_map.1 hd
    exact taken_lt r m q i
  have h2 := val_lt hv
  have h3 := val_lt hr
  simp only [List.length_map, List.length_range] at h2
  have hc : ((65536 : Int) ^ r.length) = ((65536 ^ r.length : Nat) : Int) := by rw [Int.natCast_pow]; rfl
  have hq : (q : Int) * (val m : Int) = ((q * val m : Nat) : Int) := by norm_cast
  rw [hc, hq] at h1
  generalize hN : 65536 ^ r.length = N at *
  generalize hb : borrow r m q r.length = b at *
  generalize hqm : q * val m = qm at *
  have hb0 : b = 0 := by
    by_cases hb1 : b ≤ -1
    · have : (N : Int) * b ≤ N * (-1) := Int.mul_le_mul_of_nonneg_left hb1 (by omega)
      omega
    · by_cases hb2 : 1 ≤ b
      · have : (N : Int) * 1 ≤ N * b := Int.mul_le_mul_of_nonneg_left hb2 (by omega)
        omega
      · omega
  subst hb0
  omega

/-! ### Compare -/
theorem val_lt_of_length {a b : List Nat} (ha : Val16 a) (hb : b.getD (b.length - 1) 0 ≠ 0) (h : a.length < b.length) : val a < val b := by
  have h1 := val_lt ha
  have h2 : val b ≥ 65536 ^ (b.length - 1) := by
    have := val_take_succ b (b.length - 1) (by omega)
    rw [show b.length - 1 + 1 = b.length by omega, List.take_length] at this
    have h3 : 65536 ^ (b.length - 1) * 1 ≤ 65536 ^ (b.length - 1) * b.getD (b.length - 1) 0 := Nat.mul_le_mul_left _ (by omega)
    omega
  have h3 : 65536 ^ a.length ≤ 65536 ^ (b.length - 1) := Nat.pow_le_pow_right (by omega) (by omega)
  omega
theorem val_lt_of_digit {a b : List Nat} (ha : Val16 a) (hl : a.length = b.length) {i : Nat} (hi : i < a.length) (hs : ∀ j, i < j → a.getD j 0 = b.getD j 0) (h : a.getD i 0 < b.getD i 0) : val a < val b := by
  have hd : a.drop (i + 1) = b.drop (i + 1) := by
    apply List.ext_getElem
    · simp [hl]
    · intro j h1 h2
      simp at h1 h2
      have := hs (i + 1 + j) (by omega)
      rw [List.getElem_drop, List.getElem_drop]
      simpa [show i + 1 + j < a.length by omega, show i + 1 + j < b.length by omega] using this
  have e1 : val a = val (a.take (i + 1)) + 65536 ^ (i + 1) * val (a.drop (i + 1)) := by
    conv => lhs; rw [← List.take_append_drop (i + 1) a, val_append]
    simp [show min (i + 1) a.length = i + 1 by omega]
  have e2 : val b = val (b.take (i + 1)) + 65536 ^ (i + 1) * val (b.drop (i + 1)) := by
    conv => lhs; rw [← List.take_append_drop (i + 1) b, val_append]
    simp [show min (i + 1) b.length = i + 1 by omega]
  rw [e1, e2, hd, val_take_succ a i hi, val_take_succ b i (by omega)]
  have h1 : val (a.take i) < 65536 ^ i := by
    have := val_lt (xs := a.take i) (fun d hd => ha d (List.mem_of_mem_take hd))
    simpa [show min i a.length = i by omega] using this
  have h2 : 65536 ^ i * (a.getD i 0 + 1) ≤ 65536 ^ i * b.getD i 0 := Nat.mul_le_mul_left _ h
  rw [Nat.mul_add] at h2
  omega
theorem val_eq_of_digits {a b : List Nat} (hl : a.length = b.length) (hs : ∀ j, a.getD j 0 = b.getD j 0) : a = b := by
  apply List.ext_getElem hl
  intro i h1 h2
  have := hs i
  simpa [h1, h2] using this
end Go.Proofs.YtljoodllnaekbaaGreatDoor

namespace Go.Proofs.YtljoodllnaekbaaGreatDoor
open Go

theorem bytes3 : Tryz.t3.bytes = 8 := rfl
theorem bytes5 : Tryz.t5.bytes = 1 := rfl
theorem bytes23 : Tryz.t23.bytes = 24 := rfl

/-- A number in new memory. -/
def NewBig (w0 : World) (L : Heap) (res : List Nat) (e : Ending) (w' : World) : Prop :=
  ∃ (A : Option Addr) (c : Nat) (B : Heap), e = .returned (.slice A res.length c) ∧ res.length ≤ c ∧ Rd (B ++ L) A (dg res) ∧ HW w0 (B ++ L) w'
/-- Bytes in new memory, at the head of a block. -/
def NewBytes (w0 : World) (L : Heap) (res : List Nat) (e : Ending) (w' : World) : Prop :=
  ∃ o : Option Own, e = .returned (ownV o (bt res)) ∧ (o = none → bt res = []) ∧ HW w0 (ownL 5 o (bt res) ++ L) w'
theorem Rd.trim {L : Heap} {A : Option Addr} {xs : List Nat} (h : Rd L A (dg xs)) : Rd L A (dg (trimL xs)) := by
  obtain ⟨k, _, e⟩ := trimL_prefix xs
  rw [e, dg_take]
  exact h.take k
theorem newBig_own {w0 w : World} {L : Heap} {o : Option Own} {ys : List Nat} (ho : o = none → dg ys = []) (hw : HW w0 (ownL 3 o (dg ys) ++ L) w) :
    NewBig w0 L (trimL ys) (.returned (.slice (ownA o) (trimL ys).length (ownC o (dg ys)))) w :=
  ⟨_, _, _, rfl, Nat.le_trans (trimL_length_le ys) (by have := ownC_le ho; rwa [dg_length] at this), (Rd.own ho).trim, hw⟩

/-- 'FromBytes': digit t. -/
def fbD (bs : List Nat) (t : Nat) : Nat :=
  if 0 < (bs.length : Int) - 1 - 2 * (t : Int) then bs.getD ((bs.length : Int) - 1 - 2 * (t : Int)).toNat 0 ||| bs.getD ((bs.length : Int) - 1 - 2 * (t : Int) - 1).toNat 0 * 2 ^ 8
  else bs.getD ((bs.length : Int) - 1 - 2 * (t : Int)).toNat 0
def fbs (bs : List Nat) (t : Nat) : List Nat := (List.range t).map (fbD bs)
theorem fbs_succ (bs : List Nat) (t : Nat) : fbs bs (t + 1) = fbs bs t ++ [fbD bs t] := by simp [fbs, List.range_succ]
theorem fbs_length (bs : List Nat) (t : Nat) : (fbs bs t).length = t := by simp [fbs]
def fromB (bs : List Nat) : List Nat := trimL (fbs bs ((bs.length + 1) / 2))
theorem byte_at {bs : List Nat} (h : ∀ d ∈ bs, d < 256) (i : Nat) : bs.getD i 0 < 256 := by
  by_cases hi : i < bs.length
  · have : bs.getD i 0 = bs[i] := by simp [hi]
    rw [this]; exact h _ (List.getElem_mem hi)
  · have : bs.getD i 0 = 0 := by simp [Nat.le_of_not_lt hi]
    omega
theorem fbD_lt {bs : List Nat} (h : ∀ d ∈ bs, d < 256) (t : Nat) : fbD bs t < 65536 := by
  unfold fbD
  have h1 := byte_at h ((bs.length : Int) - 1 - 2 * (t : Int)).toNat
  have h2 := byte_at h ((bs.length : Int) - 1 - 2 * (t : Int) - 1).toNat
  split
  · exact or_lt (k := 16) (by omega) (by omega)
  · omega

/-- 'Plus': what is carried ahead of digit i. -/
def plusC (a b : List Nat) : Nat → Nat
  | 0 => 0
  | i + 1 => (plusC a b i + a.getD i 0 + b.getD i 0) / 65536
def plusD (a b : List Nat) (i : Nat) : Nat := (plusC a b i + a.getD i 0 + b.getD i 0) % 65536
def pluses (a b : List Nat) (n : Nat) : List Nat := (List.range n).map (plusD a b)
theorem pluses_succ (a b : List Nat) (n : Nat) : pluses a b (n + 1) = pluses a b n ++ [plusD a b n] := by simp [pluses, List.range_succ]
theorem pluses_length (a b : List Nat) (n : Nat) : (pluses a b n).length = n := by simp [pluses]
def plusN (a b : List Nat) : Nat := if plusC a b (max a.length b.length) = 0 then max a.length b.length else max a.length b.length + 1
def plusL (a b : List Nat) : List Nat := trimL (pluses a b (plusN a b))
theorem plusC_le {a b : List Nat} (ha : Val16 a) (hb : Val16 b) : ∀ i, plusC a b i ≤ 1 := by
  intro i
  induction i with
  | zero => simp [plusC]
  | succ i ih =>
    have h1 := ha.at_ i
    have h2 := hb.at_ i
    simp only [plusC]; omega
theorem getD_beyond {a : List Nat} {i : Nat} (h : a.length ≤ i) : a.getD i 0 = 0 := by simp [h]

/-- 'Minus' -/
def minusC (a b : List Nat) : Nat → Nat
  | 0 => 0
  | i + 1 => if a.getD i 0 < minusC a b i + b.getD i 0 then 1 else 0
def minusD (a b : List Nat) (i : Nat) : Nat := if a.getD i 0 < minusC a b i + b.getD i 0 then a.getD i 0 + 65536 - minusC a b i - b.getD i 0 else a.getD i 0 - minusC a b i - b.getD i 0
def minuses (a b : List Nat) (n : Nat) : List Nat := (List.range n).map (minusD a b)
theorem minuses_succ (a b : List Nat) (n : Nat) : minuses a b (n + 1) = minuses a b n ++ [minusD a b n] := by simp [minuses, List.range_succ]
theorem minuses_length (a b : List Nat) (n : Nat) : (minuses a b n).length = n := by simp [minuses]
def minusL (a b : List Nat) : List Nat := trimL (minuses a b a.length)
theorem minusC_le (a b : List Nat) (i : Nat) : minusC a b i ≤ 1 := by
  cases i with
  | zero => simp [minusC]
  | succ i => simp only [minusC]; split <;> omega

/-- 'shifted' -/
def shiftC (a : List Nat) (n : Nat) : Nat → Nat
  | 0 => 0
  | i + 1 => (shiftC a n i ||| a.getD i 0 * 2 ^ n) / 2 ^ 16
def shiftD (a : List Nat) (n i : Nat) : Nat := (shiftC a n i ||| a.getD i 0 * 2 ^ n) % 65536
def shifts (a : List Nat) (n m : Nat) : List Nat := (List.range m).map (shiftD a n)
theorem shifts_succ (a : List Nat) (n m : Nat) : shifts a n (m + 1) = shifts a n m ++ [shiftD a n m] := by simp [shifts, List.range_succ]
theorem shifts_length (a : List Nat) (n m : Nat) : (shifts a n m).length = m := by simp [shifts]
def shiftL (a : List Nat) (n : Nat) : List Nat := trimL (shifts a n a.length ++ [shiftC a n a.length])
theorem mul_pow_lt {x n : Nat} (hx : x < 65536) (hn : n ≤ 15) : x * 2 ^ n < 2147483648 := by
  have h1 : 2 ^ n ≤ 2 ^ 15 := Nat.pow_le_pow_right (by omega) hn
  have h2 : x * 2 ^ n ≤ x * 2 ^ 15 := Nat.mul_le_mul_left _ h1
  omega
theorem shiftC_lt {a : List Nat} {n : Nat} (ha : Val16 a) (hn : n ≤ 15) : ∀ i, shiftC a n i < 65536 := by
  intro i
  induction i with
  | zero => simp [shiftC]
  | succ i ih =>
    have h1 := mul_pow_lt (ha.at_ i) hn
    have h2 := or_lt (k := 31) (m := shiftC a n i) (n := a.getD i 0 * 2 ^ n) (by omega) (by omega)
    simp only [shiftC]; omega
theorem shift_or_lt {a : List Nat} {n : Nat} (ha : Val16 a) (hn : n ≤ 15) (i : Nat) : shiftC a n i ||| a.getD i 0 * 2 ^ n < 2147483648 :=
  or_lt (k := 31) (by have := shiftC_lt ha hn i; omega) (by have := mul_pow_lt (ha.at_ i) hn; omega)
end Go.Proofs.YtljoodllnaekbaaGreatDoor

namespace Go.Proofs.YtljoodllnaekbaaGreatDoor
open Go

/-- The rest, digit by digit: the first i are new. -/
def mix (r m : List Nat) (q i : Nat) : List Nat := (List.range r.length).map fun j => if j < i then taken r m q j else r.getD j 0
theorem mix_length (r m : List Nat) (q i : Nat) : (mix r m q i).length = r.length := by simp [mix]
theorem mix_zero (r m : List Nat) (q : Nat) : mix r m q 0 = r := by
  apply List.ext_getElem
  · simp [mix]
  · intro j h1 h2; simp [mix, h2]
theorem mix_all (r m : List Nat) (q : Nat) : mix r m q r.length = (List.range r.length).map (taken r m q) := by
  apply List.map_congr_left
  intro j hj
  simp at hj
  simp [hj]
theorem mix_getD (r m : List Nat) (q i : Nat) (h : i < r.length) : (mix r m q i).getD i 0 = r.getD i 0 := by
  simp [mix, h]
theorem mix_set (r m : List Nat) (q i : Nat) (h : i < r.length) : (mix r m q i).set i (taken r m q i) = mix r m q (i + 1) := by
  apply List.ext_getElem
  · simp [mix]
  · intro j h1 h2
    simp only [mix, List.length_map, List.length_range] at h2
    rw [List.getElem_set]
    simp only [mix, List.getElem_map, List.getElem_range]
    by_cases he : i = j
    · subst he; simp
    · rw [if_neg he]
      by_cases hlt : j < i
      · rw [if_pos hlt, if_pos (by omega)]
      · rw [if_neg hlt, if_neg (by omega)]
theorem mix_valid {r m : List Nat} (hr : Val16 r) (q i : Nat) : Val16 (mix r m q i) := fun d hd => by
  obtain ⟨j, _, rfl⟩ := List.mem_map.1 hd
  split
  · exact taken_lt r m q j
  · exact hr.at_ j
/-- What 'takeAway' leaves. -/
def takeL (r m : List Nat) (q : Nat) : List Nat := (List.range r.length).map (taken r m q)
theorem takeL_length (r m : List Nat) (q : Nat) : (takeL r m q).length = r.length := by simp [takeL]
theorem takeL_valid (r m : List Nat) (q : Nat) : Val16 (takeL r m q) := fun d hd => by
  obtain ⟨j, _, rfl⟩ := List.mem_map.1 hd
  exact taken_lt r m q j

/-- One step of a row of 'Product': the list, and what is carried. -/
def prodS (x : Nat) (b : List Nat) (i : Nat) (p : List Nat × Nat) (k : Nat) : List Nat × Nat :=
  (p.1.set (i + k) ((p.2 + (p.1.getD (i + k) 0 + x * b.getD k 0)) % 65536), (p.2 + (p.1.getD (i + k) 0 + x * b.getD k 0)) / 2 ^ 16)
def prodK (x : Nat) (b : List Nat) (i : Nat) (os : List Nat) (k : Nat) : List Nat × Nat := (List.range k).foldl (prodS x b i) (os, 0)
theorem prodK_succ (x : Nat) (b : List Nat) (i : Nat) (os : List Nat) (k : Nat) : prodK x b i os (k + 1) = prodS x b i (prodK x b i os k) k := by simp [prodK, List.range_succ]
def prodR (x : Nat) (b : List Nat) (i : Nat) (os : List Nat) : List Nat :=
  (prodK x b i os b.length).1.set (i + b.length) ((prodK x b i os b.length).1.getD (i + b.length) 0 + (prodK x b i os b.length).2)
def prods (a b : List Nat) : Nat → List Nat
  | 0 => List.replicate (a.length + b.length) 0
  | i + 1 => prodR (a.getD i 0) b i (prods a b i)
def prodL (a b : List Nat) : List Nat := trimL (prods a b a.length)
/-- The list is as long as it was, of digits, with zeros from n on; what is carried is a digit. -/
structure Row (n len : Nat) (os : List Nat) : Prop where
  len : os.length = len
  ok : Val16 os
  zero : ∀ j, n ≤ j → os.getD j 0 = 0
theorem getD_set {xs : List Nat} {i j v : Nat} : (xs.set i v).getD j 0 = if i = j ∧ i < xs.length then v else xs.getD j 0 := by
  simp only [List.getD_eq_getElem?_getD, List.getElem?_set]
  by_cases h : i = j
  · subst h
    by_cases hl : i < xs.length
    · simp [hl]
    · simp [hl]
  · simp [h]
theorem mul_digit {x y : Nat} (hx : x < 65536) (hy : y < 65536) : x * y ≤ 4294836225 := by
  have : x * y ≤ 65535 * 65535 := Nat.mul_le_mul (by omega) (by omega)
  omega
theorem prodK_row {x i n len : Nat} {b os : List Nat} (hx : x < 65536) (hb : Val16 b) (h : Row n len os) (hn : i + b.length ≤ n) : ∀ k, k ≤ b.length → Row n len (prodK x b i os k).1 ∧ (prodK x b i os k).2 < 65536 := by
  intro k
  induction k with
  | zero => intro _; exact ⟨h, by simp [prodK]⟩
  | succ k ih =>
    intro hk
    obtain ⟨h1, h2⟩ := ih (by omega)
    rw [prodK_succ]
    have h3 := h1.ok.at_ (i + k)
    have h4 := mul_digit hx (hb.at_ k)
    refine ⟨⟨?_, ?_, ?_⟩, ?_⟩
    · simp [prodS, h1.len]
    · exact h1.ok.set _ _ (by omega)
    · intro j hj
      show ((prodK x b i os k).1.set (i + k) _).getD j 0 = 0
      rw [getD_set, if_neg (by omega)]
      exact h1.zero j hj
    · show _ / 2 ^ 16 < 65536
      omega
theorem prods_row {a b : List Nat} (ha : Val16 a) (hb : Val16 b) : ∀ i, i ≤ a.length → Row (i + b.length) (a.length + b.length) (prods a b i) := by
  intro i
  induction i with
  | zero =>
    intro _
    refine ⟨by simp [prods], ?_, ?_⟩
    · intro d hd; simp [prods] at hd; omega
    · intro j hj
      by_cases hl : j < a.length + b.length
      · simp [prods, hl]
      · simp [prods, Nat.le_of_not_lt hl]
  | succ i ih =>
    intro hi
    have hr := ih (by omega)
    obtain ⟨h1, h2⟩ := prodK_row (x := a.getD i 0) (i := i) (ha.at_ i) hb hr (Nat.le_refl _) b.length (Nat.le_refl _)
    have h3 := h1.zero (i + b.length) (Nat.le_refl _)
    refine ⟨?_, ?_, ?_⟩
    · simp only [prods, prodR, List.length_set]; exact h1.len
    · exact h1.ok.set _ _ (by omega)
    · intro j hj
      show ((prodK (a.getD i 0) b i (prods a b i) b.length).1.set (i + b.length) _).getD j 0 = 0
      rw [getD_set, if_neg (by omega)]
      exact h1.zero j (by omega)
theorem trimL_valid {xs : List Nat} (h : Val16 xs) : Val16 (trimL xs) := by
  obtain ⟨k, _, e⟩ := trimL_prefix xs
  rw [e]
  exact h.sub fun d hd => List.mem_of_mem_take hd
/-- A number without zeros at its end. -/
def Trimmed (xs : List Nat) : Prop := xs = [] ∨ xs.getD (xs.length - 1) 0 ≠ 0
theorem trimL_trimmed (xs : List Nat) : Trimmed (trimL xs) := by
  generalize hn : xs.length = n
  induction n generalizing xs with
  | zero => left; rw [List.eq_nil_of_length_eq_zero hn]; rfl
  | succ n ih =>
    have e : xs = xs.take n ++ [xs.getD n 0] := by
      have := take_snoc xs n (by omega)
      rwa [← hn, List.take_length] at this
    by_cases h0 : xs.getD n 0 = 0
    · rw [e, h0, trimL_snoc_zero]
      exact ih _ (by simp; omega)
    · right
      rw [e, trimL_snoc _ _ h0]
      simp only [List.length_append, List.length_take, List.length_cons, List.length_nil]
      rw [show min n xs.length + (0 + 1) - 1 = (xs.take n).length by simp]
      simpa using h0
theorem val_trimL (xs : List Nat) : val (trimL xs) = val xs := by
  generalize hn : xs.length = n
  induction n generalizing xs with
  | zero => rw [List.eq_nil_of_length_eq_zero hn]; rfl
  | succ n ih =>
    have e : xs = xs.take n ++ [xs.getD n 0] := by
      have := take_snoc xs n (by omega)
      rwa [← hn, List.take_length] at this
    by_cases h0 : xs.getD n 0 = 0
    · have h1 := ih (xs.take n) (by simp; omega)
      conv => lhs; rw [e, h0, trimL_snoc_zero, h1]
      conv => rhs; rw [e, h0, val_append]
      simp [val]
    · conv => lhs; rw [e, trimL_snoc _ _ h0]
      rw [← e]
end Go.Proofs.YtljoodllnaekbaaGreatDoor

namespace Go.Proofs.YtljoodllnaekbaaGreatDoor
open Go

theorem fixd_take (k v : Nat) : (fixd (k + 1) v).take k = fixd k v := by
  induction k generalizing v with
  | zero => rfl
  | succ k ih =>
    rw [fixd, List.take_succ_cons, ih]
    rfl
theorem fixd_push {d : Nat} (hd : d < 65536) (k v : Nat) : d :: fixd k v = fixd (k + 1) (d + 65536 * v) := by
  rw [fixd, show (d + 65536 * v) % 65536 = d by omega, show (d + 65536 * v) / 65536 = v by omega]
theorem fixd_getD (n v i : Nat) (h : i < n) : (fixd n v).getD i 0 = v / 65536 ^ i % 65536 := by
  induction n generalizing v i with
  | zero => omega
  | succ n ih =>
    cases i with
    | zero => simp [fixd]
    | succ i =>
      rw [fixd, List.getD_cons_succ, ih (v / 65536) i (by omega), Nat.div_div_eq_div_mul, Nat.pow_succ, Nat.mul_comm 65536]
theorem fixd_zero (k : Nat) : fixd k 0 = List.replicate k 0 := by
  induction k with
  | zero => rfl
  | succ k ih => rw [fixd, List.replicate_succ, Nat.zero_div, ih]
theorem copy_fixd (k v : Nat) : overlay (dg (fixd (k + 1) v)) 1 ((dg (fixd (k + 1) v)).take k) = dg (v % 65536 :: fixd k v) := by
  rw [← dg_take, fixd_take]
  unfold overlay
  rw [List.drop_eq_nil_of_le (by rw [dg_length, dg_length, fixd_length, fixd_length]; omega), List.append_nil]
  rfl
/-- A list whose first i places are f's, the others g's. -/
def fillL (f g : Nat → Nat) (n i : Nat) : List Nat := (List.range n).map fun j => if j < i then f j else g j
theorem fillL_length (f g : Nat → Nat) (n i : Nat) : (fillL f g n i).length = n := by simp [fillL]
theorem fillL_zero (f g : Nat → Nat) (n : Nat) : fillL f g n 0 = (List.range n).map g := by simp [fillL]
theorem fillL_all (f g : Nat → Nat) (n : Nat) : fillL f g n n = (List.range n).map f := by
  apply List.map_congr_left
  intro j hj
  simp at hj
  simp [hj]
theorem fillL_set (f g : Nat → Nat) (n i : Nat) : (fillL f g n i).set i (f i) = fillL f g n (i + 1) := by
  apply List.ext_getElem
  · simp [fillL]
  · intro j h1 h2
    simp only [fillL, List.length_map, List.length_range] at h2
    rw [List.getElem_set]
    simp only [fillL, List.getElem_map, List.getElem_range]
    by_cases he : i = j
    · subst he; simp
    · rw [if_neg he]
      by_cases hlt : j < i
      · rw [if_pos hlt, if_pos (by omega)]
      · rw [if_neg hlt, if_neg (by omega)]
theorem range_zero (n : Nat) : (List.range n).map (fun _ => 0) = List.replicate n 0 := by
  apply List.ext_getElem
  · simp
  · intro j h1 h2; simp

/-- 'Rest': a digit of the shifted number. -/
def restLow (a : List Nat) (i : Nat) : Nat := if i = 0 then 0 else a.getD (i - 1) 0
theorem restLow_lt {a : List Nat} (ha : Val16 a) (i : Nat) : restLow a i < 65536 := by
  unfold restLow; split
  · omega
  · exact ha.at_ _
def restD (a : List Nat) (n i : Nat) : Nat := (a.getD i 0 * 2 ^ n ||| restLow a i / 2 ^ (16 - n)) % 65536
theorem restD_lt (a : List Nat) (n i : Nat) : restD a n i < 65536 := by unfold restD; omega
def restV (a : List Nat) (n M : Nat) : Nat → Nat
  | 0 => 0
  | t + 1 => (restD a n (a.length - t) + 65536 * restV a n M t) % M
theorem restV_lt (a : List Nat) (n : Nat) {M : Nat} (hM : 0 < M) (t : Nat) : restV a n M t < M := by
  cases t with
  | zero => exact hM
  | succ t => exact Nat.mod_lt _ hM
def restO (r : List Nat) (n i : Nat) : Nat := (r.getD i 0 ||| r.getD (i + 1) 0 * 2 ^ 16) / 2 ^ n % 65536
/-- What 'Rest' yields of a, for a modulus that, shifted by n, has k digits and the value M. -/
def restC (a : List Nat) (n k M : Nat) : List Nat := trimL ((List.range k).map (restO (fixd (k + 1) (restV a n M (a.length + 1))) n))
def restL (a m : List Nat) (n : Nat) : List Nat := restC a n (shiftL m n).length (val (shiftL m n))
theorem restC_valid (a : List Nat) (n k M : Nat) : Val16 (restC a n k M) := by
  refine trimL_valid fun d hd => ?_
  obtain ⟨j, _, rfl⟩ := List.mem_map.1 hd
  unfold restO; omega
theorem restC_length (a : List Nat) (n k M : Nat) : (restC a n k M).length ≤ k := by
  have := trimL_length_le ((List.range k).map (restO (fixd (k + 1) (restV a n M (a.length + 1))) n))
  simpa [restC] using this
/-- The quotient that is guessed. -/
def restQ (r m : List Nat) (k : Nat) : Nat := (r.getD k 0 * 2 ^ 16 ||| r.getD (k - 1) 0) / (m.getD (k - 1) 0 + 1)
theorem or_add {x y : Nat} (hy : y < 65536) : x * 2 ^ 16 ||| y = x * 65536 + y := by
  have h := Nat.shiftLeft_add_eq_or_of_lt (i := 16) (b := y) (by omega) x
  rw [← Nat.shiftLeft_eq, ← h, Nat.shiftLeft_eq]
theorem restQ_le {m : List Nat} (hm : Val16 m) (v : Nat) {k : Nat} (hk : m.length = k) (h0 : 0 < k) (hv : v < 65536 ^ (k + 1)) : restQ (fixd (k + 1) v) m k * val m ≤ v := by
  obtain ⟨j, rfl⟩ : ∃ j, k = j + 1 := ⟨k - 1, by omega⟩
  unfold restQ
  rw [Nat.add_sub_cancel, fixd_getD _ _ _ (by omega), fixd_getD _ _ _ (by omega), or_add (by omega)]
  have hX : 0 < 65536 ^ j := Nat.pow_pos (by omega)
  have hvX : v / 65536 ^ j < 65536 * 65536 := by
    rw [Nat.div_lt_iff_lt_mul hX]
    rw [Nat.pow_succ, Nat.pow_succ] at hv
    rw [Nat.mul_comm]
    rw [Nat.mul_assoc] at hv
    exact hv
  have htop : v / 65536 ^ (j + 1) % 65536 * 65536 + v / 65536 ^ j % 65536 = v / 65536 ^ j := by
    rw [Nat.pow_succ, ← Nat.div_div_eq_div_mul]
    generalize v / 65536 ^ j = u at hvX
    omega
  rw [htop]
  have hmd : m.getD j 0 = val m / 65536 ^ j := by
    have h1 := fixd_getD m.length (val m) j (by omega)
    rw [fixd_val hm] at h1
    have h2 : val m / 65536 ^ j < 65536 := by
      rw [Nat.div_lt_iff_lt_mul hX]
      have := val_lt hm
      rw [hk, Nat.pow_succ, Nat.mul_comm] at this
      exact this
    rw [h1, Nat.mod_eq_of_lt h2]
  rw [hmd]
  have hM : val m ≤ (val m / 65536 ^ j + 1) * 65536 ^ j := by
    have := Nat.lt_div_mul_add hX (a := val m)
    rw [Nat.add_mul]; omega
  calc v / 65536 ^ j / (val m / 65536 ^ j + 1) * val m
      ≤ v / 65536 ^ j / (val m / 65536 ^ j + 1) * ((val m / 65536 ^ j + 1) * 65536 ^ j) := Nat.mul_le_mul_left _ hM
    _ = (v / 65536 ^ j / (val m / 65536 ^ j + 1) * (val m / 65536 ^ j + 1)) * 65536 ^ j := by rw [Nat.mul_assoc]
    _ ≤ v / 65536 ^ j * 65536 ^ j := Nat.mul_le_mul_right _ (Nat.div_mul_le_self _ _)
    _ ≤ v := Nat.div_mul_le_self _ _
theorem restQ_lt {r m : List Nat} (hr : Val16 r) (k : Nat) : restQ r m k ≤ 4294967296 := by
  unfold restQ
  have h1 := hr.at_ k
  have h2 := hr.at_ (k - 1)
  rw [or_add h2]
  refine Nat.le_trans (Nat.div_le_self _ _) (by omega)
theorem take_fixd {m : List Nat} {k q v : Nat} (hk : m.length = k) (hv : v < 65536 ^ (k + 1)) (h : q * val m ≤ v) : takeL (fixd (k + 1) v) m q = fixd (k + 1) (v - q * val m) := by
  have h1 := val_takeAway (r := fixd (k + 1) v) (m := m) (q := q) (fixd_valid _ _) (by rw [fixd_length]; omega) (by rw [val_fixd _ _ hv]; exact h)
  rw [val_fixd _ _ hv] at h1
  have h2 := fixd_val (takeL_valid (fixd (k + 1) v) m q)
  rw [takeL_length, fixd_length] at h2
  rw [← h2]
  unfold takeL
  rw [h1]

/-- A modulus, and by how much it is shifted. -/
structure Modulus (m : List Nat) (n : Nat) : Prop where
  pos : 0 < m.length
  short : m.length ≤ 400
  ok : Val16 m
  low : ∀ j, j < n → m.getD (m.length - 1) 0 * 2 ^ j < 32768
  high : 32768 ≤ m.getD (m.length - 1) 0 * 2 ^ n
  n15 : n ≤ 15
  pos' : 0 < (shiftL m n).length
  val' : 0 < val (shiftL m n)
theorem shiftL_valid {m : List Nat} {n : Nat} (hm : Val16 m) (hn : n ≤ 15) : Val16 (shiftL m n) := by
  refine trimL_valid ?_
  intro d hd
  rcases List.mem_append.1 hd with h | h
  · obtain ⟨j, _, rfl⟩ := List.mem_map.1 h
    unfold shiftD; omega
  · simp at h; subst h; exact shiftC_lt hm hn _
theorem shiftL_length (m : List Nat) (n : Nat) : (shiftL m n).length ≤ m.length + 1 := by
  have := trimL_length_le (shifts m n m.length ++ [shiftC m n m.length])
  simpa [shiftL, shifts_length] using this

section
variable {w0 : World} {tm : Slots} {L : Heap} {d : Option Tmp} {t : TypeId} {p : String} {af : Array Edge} {g : Option (Nat × Bool)}
variable {x y : Operand} {xt yt : TypeId} {m n : Nat}
theorem n_quo (hx : ev tm x = some (.int .i64 (m : Int))) (hy : ev tm y = some (.int .i64 (n : Int))) (hn : 0 < n) (hm : m < 9223372036854775808) : Val w0 tm L ⟨d, .binOp .quo xt x y yt, t, p, af, g⟩ (.int .i64 ((m / n : Nat) : Int)) :=
  (v_quo hx hy (by omega)).cast (by
    have h1 : (m : Int).tdiv (n : Int) = ((m / n : Nat) : Int) := rfl
    rw [h1]
    have : m / n ≤ m := Nat.div_le_self _ _
    rw [conv_i64 (by omega)])
theorem n_gtr0 (hx : ev tm x = some (.int .i64 (m : Int))) : Val w0 tm L ⟨d, .binOp .gtr xt x (.const (.int .i64 0)) yt, t, p, af, g⟩ (.bool (decide (0 < m))) :=
  (v_gtr hx rfl).cast (by congr 1; exact decide_eq_decide.2 (by omega))
theorem n_eql0 (hx : ev tm x = some (.int .i64 (m : Int))) : Val w0 tm L ⟨d, .binOp .eql xt x (.const (.int .i64 0)) yt, t, p, af, g⟩ (.bool (decide (m = 0))) :=
  (v_eql hx rfl).cast (by congr 1; rw [Bool.eq_iff_iff]; simp)
end
section
variable {w0 : World} {n : Nat} {Q : Exit → Act → World → Prop} {tm : Slots} {L : Heap} {ops : Array Oper} {rest : List Oper}
variable {d : Nat} {t : TypeId} {p : String} {af : Array Edge} {op : Op}
/-- A guarded operation that acts, and whose guard says yes. -/
theorem WL.actYes {od : Option Tmp} {j dj : Nat} {want b : Bool} {oj : Oper} (hj : ops[j]? = some oj) (hdj : oj.dst = some dj) (hb : get tm dj = some (.bool b)) (hw : b = want)
    (h : OW w0 n Q ⟨od, op, t, p, af, some (j, want)⟩ (wpList P ops Q rest) tm L) : WL w0 n ops Q tm L (⟨od, op, t, p, af, some (j, want)⟩ :: rest) := .mk fun a w hS => by
  have hy := yielded_of (ops := ops) hS.agree hj hdj hb
  unfold wpList
  rw [if_pos (by simp [Region.wanted, hy, hw])]
  exact .inl (h.out a w hS)
end
end Go.Proofs.YtljoodllnaekbaaGreatDoor
