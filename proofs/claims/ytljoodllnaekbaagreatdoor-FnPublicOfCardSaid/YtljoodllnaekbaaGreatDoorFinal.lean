/- 'laws.FnPublicOf': the row's statement and its card, from the walk. No condition. -/
import Derived.Test.YtljoodllnaekbaaGreatDoorPart09
import Derived.Test.YtljoodllnaekbaaGreatDoorCards
import Derived.Test.YtljoodllnaekbaaGreatDoorTie
import Derived.WalkKit
import Derived.ProofKit
import Derived.OpenShut
import Derived.Deep.DeepHandedRow
import Derived.Lib.LaidTab
import Derived.Lib.SmallJoins
import Derived.LaidSub
import Derived.MakeChecks
namespace Go.Proofs.YtljoodllnaekbaaGreatDoor
open Go Go.ChangeShapes Go.WideShapes Go.ChangeAt Go.RowKit

/-- All blocks of a world. -/
def oldL (W : World) : Heap := (List.range W.heap.size).map fun i => (i, (W.heap[i]?).getD (.cells #[] 0 (0, 0)))
theorem oldL_in {W : World} {i : Nat} {o : Obj} (h : W.heap[i]? = some o) : (i, o) ∈ oldL W := by
  have hi : i < W.heap.size := by
    rcases Nat.lt_or_ge i W.heap.size with h' | h'
    · exact h'
    · simp [Array.getElem?_eq_none h'] at h
  exact List.mem_map.2 ⟨i, List.mem_range.2 hi, by simp [h]⟩
theorem oldL_hw (W : World) : HW W (oldL W) W := by
  refine ⟨?_, ?_, rfl, rfl, rfl⟩
  · have : (oldL W).map Prod.fst = List.range W.heap.size := by simp [oldL, Function.comp_def]
    rw [this]
    exact List.nodup_range
  · intro p hp
    obtain ⟨i, hi, rfl⟩ := List.mem_map.1 hp
    have hi' := List.mem_range.1 hi
    simp [hi']
theorem oldL_same {W W' : World} (h : HW W (oldL W) W') {i : Nat} (hi : i < W.heap.size) : W'.heap[i]? = W.heap[i]? := by
  have e : W.heap[i]? = some W.heap[i] := by simp [hi]
  rw [e]
  exact h.heap _ (oldL_in e)
theorem oldL_kept {W W' : World} (h : HW W (oldL W) W') (may : MemPlace → Prop) : W.keptBut W' may := by
  refine ⟨h.os, h.output, fun i hi => ?_⟩
  rw [oldL_same h hi]
  cases W.heap[i]? with
  | none => rfl
  | some o => cases o <;> simp
theorem oldL_at {W W' : World} (h : HW W (oldL W) W') {p : MemPlace} (hp : p.block < W.heap.size) : W.sameAt W' p := by
  cases p with
  | cell b off => exact World.cell?_of_block (w := W) (w' := W') (a := ⟨b, off, none⟩) (oldL_same h hp)
  | map b => exact oldL_same h hp

theorem top_own : ownKnob Tryz.prog.godebug = none := by kernel_rfl
theorem top_kids : Kids Tryz.prog (· < Tryz.prog.types.size) := kids_rows (by kernel_rfl) (by kernel_rfl)
theorem top_full : ∀ t e, t < Tryz.prog.types.size → Tryz.prog.underlying t = some (.slice e) → 0 < Tryz.prog.cellsOf e := slices_full_of _ (by kernel_rfl)
theorem top_gK : Tryz.prog.globalNamed "pub-counterseal/pub/gosha256._K" = some 1 := by kernel_rfl
theorem top_gKType : (Tryz.prog.globals[1]?).map (·.type) = some 209 := by kernel_rfl
theorem top_cells209 : Tryz.prog.cellsOf 209 = 64 := by kernel_rfl
theorem top_cells22 : Tryz.prog.cellsOf 22 = 1 := by kernel_rfl
theorem top_cells25 : Tryz.prog.cellsOf 25 = 4 := by kernel_rfl
theorem top_cells4 : Tryz.prog.cellsOf 4 = 1 := by kernel_rfl
theorem top_cells5 : Tryz.prog.cellsOf 5 = 1 := by kernel_rfl
theorem top_cells23 : Tryz.prog.cellsOf 23 = 1 := by kernel_rfl
theorem top_block1 : ((((begin Tryz.prog (fun _ _ => 0) default).world).heap[1]?).bind Obj.row?).map (·.2) = some 209 := by kernel_rfl
theorem top_has25 : 25 < Tryz.prog.types.size := of_decide_eq_true (by kernel_rfl)
theorem top_size : 1 < Tryz.prog.globals.size := of_decide_eq_true (by kernel_rfl)

/-- The numbers of the table, as the row lists them. -/
def kInts : List Int := [1116352408, 1899447441, 3049323471, 3921009573, 961987163, 1508970993, 2453635748, 2870763221, 3624381080, 310598401, 607225278, 1426881987, 1925078388, 2162078206, 2614888103, 3248222580, 3835390401, 4022224774, 264347078, 604807628, 770255983, 1249150122, 1555081692, 1996064986, 2554220882, 2821834349, 2952996808, 3210313671, 3336571891, 3584528711, 113926993, 338241895, 666307205, 773529912, 1294757372, 1396182291, 1695183700, 1986661051, 2177026350, 2456956037, 2730485921, 2820302411, 3259730800, 3345764771, 3516065817, 3600352804, 4094571909, 275423344, 430227734, 506948616, 659060556, 883997877, 958139571, 1322822218, 1537002063, 1747873779, 1955562222, 2024104815, 2227730452, 2361852424, 2428436474, 2756734187, 3204031479, 3329325298]
theorem kInts_is : (Rows.laid_pub_counterseal_pub_gosha256_K : DataW Unit) = Lib.tabData .u32 kInts := rfl

/-- The block of the table. -/
theorem top_KG {W : World} (hL : laidMetH Tryz.prog Rows.fnPublicOfRow.laid W) (hsh : W.ShapedOpen Tryz.prog) : KG (oldL W) := by
  rw [MakeChecks.laidMetH_plain _ _ _ (by kernel_rfl)] at hL
  obtain ⟨ps, hv, _⟩ := hL
  obtain ⟨_, _, _, _, _, _, _, _, _, _, ⟨_, _, _, _, _, _, _, _, _, _, ⟨_, _, _, _, _, _, _, _, _, _, ⟨g, t, cs, fuel, p, q, hg, ht, hvar, hd, _, _⟩, _⟩, _⟩, _⟩ := hv
  obtain rfl := Option.some.inj (top_gK.symm.trans hg)
  obtain rfl := Option.some.inj (top_gKType.symm.trans ht)
  rw [kInts_is] at hd
  have hcs := Lib.cells_of_tab Tryz.underlying209 Tryz.underlying22 top_cells22 top_cells209 hd
  obtain ⟨⟨zero, t0⟩, h1, h2⟩ := Option.map_eq_some_iff.1 top_block1
  obtain rfl : t0 = 209 := h2
  obtain ⟨cs', hb, _, _⟩ := hsh.1 1 zero 209 top_size h1
  have hvar' : W.var? Tryz.prog "pub-counterseal/pub/gosha256._K" = some cs' := by
    unfold World.var?
    rw [top_gK]
    simp [hb]
  have e : cs = cs' := Option.some.inj (hvar.symm.trans hvar')
  refine ⟨(0, 0), kInts, by decide, ?_⟩
  refine oldL_in (hb.trans ?_)
  rw [← e]
  show some (Obj.cells cs 209 (0, 0)) = some (Obj.cells (iu .u32 kInts).toArray 209 (0, 0))
  have : cs = (iu .u32 kInts).toArray := by
    cases cs
    simp only [iu]
    simp only at hcs
    rw [hcs]
  rw [this]

set_option maxRecDepth 100000 in
/-- The argument, opened. -/
theorem top_open {H : Type} {enc : TypeId × Value → H} {W : World} {base : Nat} {v : Value} {d : DataW H} {ps : List MemPlace}
    (hval : Value.okWide Tryz.prog W .any base 25 v) (h : DataW.Trod enc Tryz.prog W 0 (fun _ => true) true 25 v d ps) :
    ∃ six sub created qx, v = .agg (secC six sub created qx).toArray ∧ created < 4294967296 ∧ Lies (oldL W) qx ∧ ∀ x ∈ qx.2.2, x < 256 := by
  obtain ⟨cs, rfl, hsz⟩ := okWide_struct Tryz.underlying25 hval
  rw [top_cells25] at hsz
  obtain ⟨c0, c1, c2, c3, rfl⟩ := Joins.array4 hsz
  obtain ⟨fuel, hf⟩ := h
  obtain ⟨y0, y1, y2, y3, n, _, _, h0, h1, h2, h3⟩ := Joins.trod_struct4 Tryz.underlying25 hf
  simp only [Value.cells, top_cells4, top_cells22, top_cells23, List.drop_zero, List.drop_succ_cons, List.take_succ_cons, List.take_zero] at h0 h1 h2 h3
  obtain ⟨b0, e0, _⟩ := DataW.trod_bool Tryz.underlying4 h0
  obtain ⟨b1, e1, _⟩ := DataW.trod_bool Tryz.underlying4 h1
  obtain ⟨m, e2, _, hm⟩ := DataW.trod_int Tryz.underlying22 h2
  obtain rfl : c0 = .bool b0 := by simpa using e0
  obtain rfl : c1 = .bool b1 := by simpa using e1
  obtain rfl : c2 = .int .u32 m := by simpa using e2
  have hmb := bounds_u32 hm
  have hmm : m = ((m.toNat : Nat) : Int) := by omega
  rcases open_ints Tryz.underlying23 Tryz.underlying5 top_cells5 h3 with ⟨e3, _⟩ | ⟨a, len, cap, zs, e3, _, hle, _, hzl, _, hcell, hwf⟩
  · obtain rfl : c3 = .slice none 0 0 := by simpa using e3
    refine ⟨b0, b1, m.toNat, (none, 0, []), ?_, by omega, ⟨by simp, fun j v hj => by simp [bt] at hj⟩, fun x hx => by simp at hx⟩
    rw [secC, ← hmm]
    rfl
  · obtain rfl : c3 = .slice (some a) len cap := by simpa using e3
    simp only [if_true] at hzl
    have hr : ∀ x ∈ zs, 0 ≤ x ∧ x ≤ 255 := fun x hx => bounds_u8 (hwf x hx)
    have hlen : ((zs.take len).map Int.toNat).length = len := by simp; omega
    refine ⟨b0, b1, m.toNat, (some a, cap, (zs.take len).map Int.toNat), ?_, by omega, ⟨by rw [hlen]; exact hle, fun j v hj => ?_⟩, fun x hx => ?_⟩
    · rw [secC, ← hmm]
      simp only [slV, hlen]
    · have hj' : j < len := by
        have := (List.getElem?_eq_some_iff.1 hj).1
        rw [bt_length, hlen] at this
        exact this
      have hz : j < zs.length := by omega
      obtain ⟨b, off, rfl, hc⟩ := ints_at hcell (by omega)
      have hcj := hc j hz
      have hv : v = .int .u8 (zs.getD j 0) := by
        have h0 := hr zs[j] (List.getElem_mem hz)
        have e := bt_at (xs := (zs.take len).map Int.toNat) (i := j) (by rw [hlen]; exact hj')
        rw [hj] at e
        rw [Option.some.inj e]
        have e1 : ((zs.take len).map Int.toNat).getD j 0 = (zs[j]).toNat := by simp [List.getD, hj', hz]
        have e2 : zs.getD j 0 = zs[j] := by simp [List.getD, hz]
        rw [e1, e2]
        congr 1
        omega
      simp only [World.cell?] at hcj
      split at hcj
      · rename_i c t fr hb
        simp only [Option.isSome_none, Bool.false_eq_true, if_false] at hcj
        refine ⟨b, off, t, fr, c.toList, rfl, ?_, ?_⟩
        · exact oldL_in hb
        · rw [Array.getElem?_toList, hcj, hv]
      · cases hcj
    · obtain ⟨z, hz, rfl⟩ := List.mem_map.1 hx
      have := hr z (List.mem_of_mem_take hz)
      omega

set_option maxRecDepth 100000 in
/-- What the walk gives, for every argument and every world that holds the table. -/
theorem top_contract (H : Type) (enc : TypeId × Value → H) (W : World) (base : Nat) (args : Array Value) (ds gs : List (DataW H)) (before : List MemPlace)
    (hval : ∀ (j : Nat) t v, Tryz.f3.params[j]? = some t → args[j]? = some v → Value.okWide Tryz.prog W .any base t v)
    (hW : DataW.Whole enc Tryz.prog Tryz.f3.params.toList Rows.fnPublicOfSpec.vars false W args.toList ds gs before) (hL : laidMetH Tryz.prog Rows.fnPublicOfRow.laid W) (hsh : W.ShapedOpen Tryz.prog) :
    Calls Tryz.prog 3 args W fun e W' => ∃ v, e = .returned v ∧ Rows.fnPublicOfSpec.post enc Tryz.prog Tryz.f3 false true false false W args v W' := by
  have hW' := hW
  obtain ⟨p, q, hA0, hV, rfl, hfz, hnd⟩ := hW
  have hA : DataW.TrodAll enc Tryz.prog W 0 (fun _ => true) true Tryz.f3.params.toList args.toList ds p := hA0
  have hK := top_KG hL hsh
  rw [Tryz.params3] at hA hval
  obtain ⟨v0, vs0, d0, ds0, p0, q0, hargs, rfl, rfl, h0, r0⟩ := trodAll_cons hA
  obtain ⟨rfl, rfl, rfl⟩ := trodAll_nil r0
  obtain rfl : args = #[v0] := by cases args; simp_all
  obtain ⟨rfl, rfl⟩ := trodVars_none hV
  obtain ⟨six, sub, created, qx, rfl, hc, hqx, hxb⟩ := top_open (hval 0 25 v0 rfl rfl) h0
  clear hA0
  simp only [List.append_nil] at hW'
  refine (law_any W W (oldL W) six sub created hc qx hqx hxb hK (oldL_hw W)).mono fun e W' ⟨he, h⟩ => ?_
  subst he
  have hlt : ∀ x ∈ p0, x.block < W.heap.size := fun x hx => by simpa using hW'.lt x hx
  have h1 := DataW.Trod.respare (spare' := fun b => decide (b < W.heap.size)) top_kids top_full (t := 25) top_has25 h0 (fun x hx => by simpa using hlt x hx)
  obtain ⟨n, hn⟩ := h1
  refine ⟨_, rfl, [d0], [], p0, [], p0 ++ [], [], hW', ?_, ?_, ?_, oldL_kept h _, fun h => by cases h⟩
  · exact trodAll_cons_mk (shut_bool Tryz.underlying4 _) trodAll_mk0
  · rw [Tryz.params3]
    exact trodAll_cons_mk ⟨n, DataW.trod_carry n _ _ _ hn (fun p hp => oldL_at h (hlt p hp))⟩ trodAll_mk0
  · rfl

/-- A world for the witness: the settled one, each listed variable holding what its initialiser lays. -/
noncomputable def top_low : Nat := (World.holding Tryz.prog default ⟨#[], #[], []⟩).heap.size
def putG (h : Array Obj) (g : Nat) (cs : Array Value) : Array Obj := h.modify g fun
  | .cells _ t frozen => .cells cs t frozen
  | o => o
def tab32 : List Int := [0, 1, 28, 2, 29, 14, 24, 3, 30, 22, 20, 15, 25, 17, 4, 8, 31, 27, 13, 23, 21, 19, 16, 7, 26, 12, 18, 6, 11, 5, 10, 9]
def tab64 : List Int := [0, 1, 56, 2, 57, 49, 28, 3, 61, 58, 42, 50, 38, 29, 17, 4, 62, 47, 59, 36, 45, 43, 51, 22, 53, 39, 33, 30, 24, 18, 12, 5, 63, 55, 48, 27, 60, 41, 37, 16, 46, 35, 44, 21, 52, 32, 23, 11, 54, 26, 40, 15, 34, 20, 31, 10, 25, 14, 19, 9, 13, 8, 7, 6]
def textEOF : ByteArray := { data := #[69, 79, 70] }
def textSep : ByteArray := { data := #[39, 95, 39, 32, 109, 117, 115, 116, 32, 115, 101, 112, 97, 114, 97, 116, 101, 32, 115, 117, 99, 99, 101, 115, 115, 105, 118, 101, 32, 100, 105, 103, 105, 116, 115] }
def textNo : ByteArray := { data := #[110, 117, 109, 98, 101, 114, 32, 104, 97, 115, 32, 110, 111, 32, 100, 105, 103, 105, 116, 115] }
noncomputable def laidWorld (os : Os) : World :=
  let w0 := World.holding Tryz.prog os ⟨#[.cells #[.string textEOF] 345, .cells #[.string textSep] 345, .cells #[.string textNo] 345], #[], []⟩
  let h1 := putG w0.heap 1 (kInts.map fun z => Value.int .u32 z).toArray
  let h2 := putG h1 2 #[.iface 312 (.pointer (some ⟨top_low, 0, none⟩))]
  let h3 := putG h2 3 #[.iface 312 (.pointer (some ⟨top_low + 1, 0, none⟩))]
  let h4 := putG h3 4 #[.iface 312 (.pointer (some ⟨top_low + 2, 0, none⟩))]
  let h5 := putG h4 5 #[.int .i64 12]
  let h6 := putG h5 6 #[.int .i64 80]
  let h7 := putG h6 7 #[.int .i64 40]
  let h8 := putG h7 8 #[.int .i64 40]
  let h9 := putG h8 9 (tab32.map fun z => Value.int .u8 z).toArray
  let h10 := putG h9 10 (tab64.map fun z => Value.int .u8 z).toArray
  { w0 with heap := h10 }
def topArg : Value := .agg #[.bool false, .bool false, .int .u32 0, .slice none 0 0]
theorem laid_met (os : Os) : laidMet Tryz.prog Rows.fnPublicOfRow.laid ((laidWorld os).forCall (fun _ _ => 0) ⟨#[], #[topArg], []⟩).memory :=
  laidMet_of_run' 8 (by kernel_rfl) (by kernel_rfl)
theorem top_reads (os : Os) {H : Type} (enc : TypeId × Value → H) : ∃ places, DataW.whole enc Tryz.prog ((laidWorld os).forCall (fun _ _ => 0) ⟨#[], #[topArg], []⟩).memory Tryz.f3.params.toList Rows.fnPublicOfSpec.vars false #[topArg].toList 8 = some ([.agg [.lit (.bool false), .lit (.bool false), .lit (.int .u32 0), .nil]], [], places) :=
  ⟨[], by kernel_rfl⟩

set_option maxRecDepth 100000 in
theorem top_lifted (os : Os) (started : os.Started) (H : Type) (enc : TypeId × Value → H) (F : Stop.Interp) :
    ReturnsInHanded {} Tryz.checked os 3 .any ((OpenSpec.ofChange Rows.fnPublicOfSpec).preRow enc Tryz.prog Tryz.f3 Rows.fnPublicOfRow.domain false Rows.fnPublicOfRow.laid) (((OpenSpec.ofChange Rows.fnPublicOfSpec).at F).post enc Tryz.prog Tryz.f3 false true false false) := by
  obtain ⟨places, hx⟩ := top_reads os enc
  refine returnsInHanded_of_row (C := Tryz.checked) (s := OpenSpec.ofChange Rows.fnPublicOfSpec) top_own started (by kernel_rfl) Tryz.func3
    (witness_row_at (enc := enc) (C := Tryz.checked) false (laidWorld os) #[topArg] rfl (by kernel_rfl) (by kernel_rfl) (by kernel_rfl)
      (OpenSpec.preRow_of_cond 8 hx (by kernel_rfl) (fun k hk => by cases hk) (by kernel_rfl) (laid_met os))) ?_
  intro W base args ds gs before hval hW _ _ _ hL hsh _
  exact top_contract H enc W base args ds gs before hval hW hL hsh

set_option maxRecDepth 100000 in
theorem fnPublicOf_said : Rows.FnPublicOfSaid :=
  OpenClaim.holds_of_cond 3 Tryz.f3 rfl rfl rfl rfl rfl rfl rfl ⟨rfl, rfl, rfl, rfl, rfl⟩ rfl rfl rfl rfl rfl (by kernel_rfl) Tryz.func3 (by kernel_rfl)
    (of_decide_eq_true (by kernel_rfl)) (by unfold Func.isWrapper; first | (rw [if_pos (by decide +kernel)]; kernel_rfl) | (rw [if_neg (by decide +kernel)]; exact ⟨rfl, rfl⟩))
    (fun os started H enc _ F => by rw [OpenClaim.pre_eq_preRow]; exact top_lifted os started H enc F)

set_option maxRecDepth 100000 in
/-- No parameter wants a stand-in; the program's own looks are off: what the card asks. -/
theorem top_plain (f : FuncId) (fn : Func) (hf : Tryz.pinned.checked.prog.funcNamed "pub-counterseal/laws.FnPublicOf" = some f) (hfn : Tryz.pinned.checked.prog.funcs[f]? = some fn) :
    true = Tryz.pinned.checked.prog.looks [] ∧ ∀ (j : Nat) t, fn.params[j]? = some t → Tryz.pinned.checked.prog.wantsStandIn t = false := by
  obtain rfl : f = 3 := Option.some.inj ((show Tryz.prog.funcNamed "pub-counterseal/laws.FnPublicOf" = some 3 by kernel_rfl).symm.trans hf) |>.symm
  obtain rfl : fn = Tryz.f3 := (Option.some.inj (Tryz.func3.symm.trans hfn)).symm
  refine ⟨by kernel_rfl, fun j t ht => ?_⟩
  rw [Tryz.params3] at ht
  obtain rfl : t = 25 := by simpa using Array.mem_of_getElem? ht
  exact (show Tryz.prog.wantsStandIn 25 = false by kernel_rfl)

set_option maxRecDepth 100000 in
/-- The card. -/
theorem fnPublicOf_card : Rows.FnPublicOfCardSaid :=
  Claim7.holds_tied_plain_at .later [] _ _ _ _ fnPublicOf_said (fun _ h => by cases h) (by kernel_rfl) (fun _ h => by cases h) fnPublicOf_row_tie rfl ⟨rfl, rfl⟩ (by kernel_rfl) rfl top_plain (by kernel_rfl)
end Go.Proofs.YtljoodllnaekbaaGreatDoor
