/- 'laws.secretOf': the numbers' statement, whose order Go leaves open. No condition. -/
import Derived.Test.YtljoodllnaekbaaGreatDoorPart03
namespace Go.Proofs.YtljoodllnaekbaaGreatDoor
open Go

noncomputable def secretOf6_ops : Array Oper := funcOps Tryz.f5 6
theorem secretOf6_sel : Region.noSelect secretOf6_ops = true := by kernel_rfl
section
variable {w0 : World} {LB : Heap} {k3 k4 k7 k1 kb ver created : Nat} {six sub : Bool} {qx qn : Sl} (hk7 : (k7, blk 29 (0, 0) (keyC ver created kb)) ∈ LB) (hk1 : (k1, blk 25 (0, 0) (secC six sub created qx)) ∈ LB) (hqn : Lies LB qn) (hnl : qn.2.2.length ≤ 100) (hnb : ∀ d ∈ qn.2.2, d < 256) {K : Act → World → Prop}
variable (hF : ∀ (bp bq bg : Nat) (oy : Option Own), (oy = none → bt (pubN qn.2.2) = []) → KS w0 36 K [(2, slV qn), (3, .pointer (some ⟨k3, 0, none⟩)), (4, .pointer (some ⟨k4, 0, none⟩))] ((bp, blk 5 ((bt Pb).length, (bt Pb).length + 1) (bt Pb)) :: ((bq, blk 5 ((bt Qb).length, (bt Qb).length + 1) (bt Qb)) :: ((bg, blk 5 ((bt Gb).length, (bt Gb).length + 1) (bt Gb)) :: (ownL 5 oy (bt (pubN qn.2.2)) ++ ((k3, blk 29 (0, 0) (keyC ver created kb)) :: (k4, blk 33 (0, 0) (givC bp bq bg oy qn ver created sub)) :: LB))))))
include hk7 hk1 hqn hnl hnb hF
theorem secretOf6_2_3_4_5_6_7_9_19_20 (bp : Nat) (bq : Nat) (bg : Nat) (oy : Option Own) (hoy : oy = none → bt (pubN qn.2.2) = []) :
    KS w0 36 (anyC w0 (LB) secretOf6_ops K 0 (Ls 21 2097151)) [(2, slV qn), (35, .agg (givC bp bq bg oy qn ver created sub).toArray), (34, .bool sub), (33, .pointer (some ⟨k1, 1, none⟩)), (32, .int .u32 (created : Int)), (31, .pointer (some ⟨k1, 2, none⟩)), (30, .int .i64 (ver : Int)), (29, .agg #[.slice (some ⟨bp, 0, none⟩) (bt Pb).length (bt Pb).length, .slice (some ⟨bq, 0, none⟩) (bt Qb).length (bt Qb).length, .slice (some ⟨bg, 0, none⟩) (bt Gb).length (bt Gb).length, ownV oy (bt (pubN qn.2.2)), slV qn]), (28, slV qn), (27, ownV oy (bt (pubN qn.2.2))), (26, slV qn), (25, .slice (some ⟨bg, 0, none⟩) (bt Gb).length (bt Gb).length), (24, .slice (some ⟨bg, 0, none⟩) (bt Gb).length (bt Gb).length), (23, .slice (some ⟨bq, 0, none⟩) (bt Qb).length (bt Qb).length), (22, .slice (some ⟨bq, 0, none⟩) (bt Qb).length (bt Qb).length), (21, .slice (some ⟨bp, 0, none⟩) (bt Pb).length (bt Pb).length), (20, .slice (some ⟨bp, 0, none⟩) (bt Pb).length (bt Pb).length), (19, .agg (keyC ver created kb).toArray), (18, slV qn), (1, .pointer (some ⟨k1, 0, none⟩)), (3, .pointer (some ⟨k3, 0, none⟩)), (4, .pointer (some ⟨k4, 0, none⟩)), (5, .int .i64 (ver : Int)), (6, slV qn), (7, .pointer (some ⟨k7, 0, none⟩))] ((bp, blk 5 ((bt Pb).length, (bt Pb).length + 1) (bt Pb)) :: ((bq, blk 5 ((bt Qb).length, (bt Qb).length + 1) (bt Qb)) :: ((bg, blk 5 ((bt Gb).length, (bt Gb).length + 1) (bt Gb)) :: (ownL 5 oy (bt (pubN qn.2.2)) ++ ((k3, blk 29 (0, 0) (keyC ver created kb)) :: (k4, blk 33 (0, 0) (givC bp bq bg oy qn ver created sub)) :: LB))))) := by
  have _ := And.intro hk7 (And.intro hk1 (And.intro hqn (And.intro hnl hnb)))
  refine KN.done (by kernel_rfl) ?_
  exact KS.mk fun a w hS => (hF _ _ _ _ hoy).out a w (hS.keep ⟨rfl, rfl, rfl, trivial⟩)
theorem secretOf6_2_3_4_5_6_7_9_19 (bp : Nat) (bq : Nat) (bg : Nat) (oy : Option Own) (hoy : oy = none → bt (pubN qn.2.2) = []) :
    KS w0 36 (anyC w0 (LB) secretOf6_ops K 1 (Ls 21 1048575)) [(2, slV qn), (35, .agg (givC bp bq bg oy qn ver created sub).toArray), (34, .bool sub), (33, .pointer (some ⟨k1, 1, none⟩)), (32, .int .u32 (created : Int)), (31, .pointer (some ⟨k1, 2, none⟩)), (30, .int .i64 (ver : Int)), (29, .agg #[.slice (some ⟨bp, 0, none⟩) (bt Pb).length (bt Pb).length, .slice (some ⟨bq, 0, none⟩) (bt Qb).length (bt Qb).length, .slice (some ⟨bg, 0, none⟩) (bt Gb).length (bt Gb).length, ownV oy (bt (pubN qn.2.2)), slV qn]), (28, slV qn), (27, ownV oy (bt (pubN qn.2.2))), (26, slV qn), (25, .slice (some ⟨bg, 0, none⟩) (bt Gb).length (bt Gb).length), (24, .slice (some ⟨bg, 0, none⟩) (bt Gb).length (bt Gb).length), (23, .slice (some ⟨bq, 0, none⟩) (bt Qb).length (bt Qb).length), (22, .slice (some ⟨bq, 0, none⟩) (bt Qb).length (bt Qb).length), (21, .slice (some ⟨bp, 0, none⟩) (bt Pb).length (bt Pb).length), (20, .slice (some ⟨bp, 0, none⟩) (bt Pb).length (bt Pb).length), (19, .agg (keyC ver created kb).toArray), (18, slV qn), (1, .pointer (some ⟨k1, 0, none⟩)), (3, .pointer (some ⟨k3, 0, none⟩)), (4, .pointer (some ⟨k4, 0, none⟩)), (5, .int .i64 (ver : Int)), (6, slV qn), (7, .pointer (some ⟨k7, 0, none⟩))] ((bp, blk 5 ((bt Pb).length, (bt Pb).length + 1) (bt Pb)) :: ((bq, blk 5 ((bt Qb).length, (bt Qb).length + 1) (bt Qb)) :: ((bg, blk 5 ((bt Gb).length, (bt Gb).length + 1) (bt Gb)) :: (ownL 5 oy (bt (pubN qn.2.2)) ++ ((k3, blk 29 (0, 0) (keyC ver created kb)) :: (k4, blk 33 (0, 0) z33) :: LB))))) := by
  refine KN.one (i := 20) (by kernel_rfl) rfl rfl (show _ = (Ls 21 2097151) by kernel_rfl) ?_
  · skip
    refine OW.storeAgg (us := (givC bp bq bg oy qn ver created sub)) Tryz.sizeOf33 rfl rfl rfl rfl (overlay_all _ _ (by rfl)) (.there (.there (.there (At.over (.there .here) _)))) (Nat.le_refl _) ?_
    refine KN.on (fun _ => Sb.hw) ?_
    exact KS.mk fun a w hS => (secretOf6_2_3_4_5_6_7_9_19_20 hk7 hk1 hqn hnl hnb hF _ _ _ _ hoy).out a w ((hS.heap' (Pm.hw hS.mem)).keep ⟨rfl, rfl, rfl, rfl, rfl, rfl, rfl, rfl, rfl, rfl, rfl, rfl, rfl, rfl, rfl, rfl, rfl, rfl, rfl, rfl, rfl, rfl, rfl, rfl, rfl, trivial⟩)
theorem secretOf6_2_3_4_5_6_7_9 (bp : Nat) (bq : Nat) (bg : Nat) (oy : Option Own) (hoy : oy = none → bt (pubN qn.2.2) = []) :
    KS w0 36 (anyC w0 (LB) secretOf6_ops K 2 (Ls 21 524287)) [(2, slV qn), (35, .agg (givC bp bq bg oy qn ver created sub).toArray), (34, .bool sub), (33, .pointer (some ⟨k1, 1, none⟩)), (32, .int .u32 (created : Int)), (31, .pointer (some ⟨k1, 2, none⟩)), (30, .int .i64 (ver : Int)), (29, .agg #[.slice (some ⟨bp, 0, none⟩) (bt Pb).length (bt Pb).length, .slice (some ⟨bq, 0, none⟩) (bt Qb).length (bt Qb).length, .slice (some ⟨bg, 0, none⟩) (bt Gb).length (bt Gb).length, ownV oy (bt (pubN qn.2.2)), slV qn]), (28, slV qn), (27, ownV oy (bt (pubN qn.2.2))), (26, slV qn), (25, .slice (some ⟨bg, 0, none⟩) (bt Gb).length (bt Gb).length), (24, .slice (some ⟨bg, 0, none⟩) (bt Gb).length (bt Gb).length), (23, .slice (some ⟨bq, 0, none⟩) (bt Qb).length (bt Qb).length), (22, .slice (some ⟨bq, 0, none⟩) (bt Qb).length (bt Qb).length), (21, .slice (some ⟨bp, 0, none⟩) (bt Pb).length (bt Pb).length), (20, .slice (some ⟨bp, 0, none⟩) (bt Pb).length (bt Pb).length), (19, .agg (keyC ver created kb).toArray), (18, slV qn), (1, .pointer (some ⟨k1, 0, none⟩)), (3, .pointer (some ⟨k3, 0, none⟩)), (4, .pointer (some ⟨k4, 0, none⟩)), (5, .int .i64 (ver : Int)), (6, slV qn), (7, .pointer (some ⟨k7, 0, none⟩))] ((bp, blk 5 ((bt Pb).length, (bt Pb).length + 1) (bt Pb)) :: ((bq, blk 5 ((bt Qb).length, (bt Qb).length + 1) (bt Qb)) :: ((bg, blk 5 ((bt Gb).length, (bt Gb).length + 1) (bt Gb)) :: (ownL 5 oy (bt (pubN qn.2.2)) ++ ((k3, blk 29 (0, 0) z29) :: (k4, blk 33 (0, 0) z33) :: LB))))) := by
  refine KN.one (i := 19) (by kernel_rfl) rfl rfl (show _ = (Ls 21 1048575) by kernel_rfl) ?_
  · skip
    refine OW.storeAgg (us := (keyC ver created kb)) Tryz.sizeOf29 rfl rfl rfl rfl (overlay_all _ _ (by rfl)) (.there (.there (.there (At.over .here _)))) (Nat.le_refl _) ?_
    refine KN.on (fun _ => Sb.hw) ?_
    exact KS.mk fun a w hS => (secretOf6_2_3_4_5_6_7_9_19 hk7 hk1 hqn hnl hnb hF _ _ _ _ hoy).out a w ((hS.heap' (Pm.hw hS.mem)).keep ⟨rfl, rfl, rfl, rfl, rfl, rfl, rfl, rfl, rfl, rfl, rfl, rfl, rfl, rfl, rfl, rfl, rfl, rfl, rfl, rfl, rfl, rfl, rfl, rfl, rfl, trivial⟩)
theorem secretOf6_2_4_5_6_7_9_19 (bp : Nat) (bq : Nat) (bg : Nat) (oy : Option Own) (hoy : oy = none → bt (pubN qn.2.2) = []) :
    KS w0 36 (anyC w0 (LB) secretOf6_ops K 4 (Ls 21 915447)) [(2, slV qn), (34, .bool sub), (33, .pointer (some ⟨k1, 1, none⟩)), (32, .int .u32 (created : Int)), (31, .pointer (some ⟨k1, 2, none⟩)), (30, .int .i64 (ver : Int)), (28, slV qn), (27, ownV oy (bt (pubN qn.2.2))), (26, slV qn), (25, .slice (some ⟨bg, 0, none⟩) (bt Gb).length (bt Gb).length), (24, .slice (some ⟨bg, 0, none⟩) (bt Gb).length (bt Gb).length), (23, .slice (some ⟨bq, 0, none⟩) (bt Qb).length (bt Qb).length), (22, .slice (some ⟨bq, 0, none⟩) (bt Qb).length (bt Qb).length), (20, .slice (some ⟨bp, 0, none⟩) (bt Pb).length (bt Pb).length), (19, .agg (keyC ver created kb).toArray), (18, slV qn), (1, .pointer (some ⟨k1, 0, none⟩)), (3, .pointer (some ⟨k3, 0, none⟩)), (4, .pointer (some ⟨k4, 0, none⟩)), (5, .int .i64 (ver : Int)), (6, slV qn), (7, .pointer (some ⟨k7, 0, none⟩))] ((bp, blk 5 (0, 0) (bt Pb)) :: ((bq, blk 5 ((bt Qb).length, (bt Qb).length + 1) (bt Qb)) :: ((bg, blk 5 ((bt Gb).length, (bt Gb).length + 1) (bt Gb)) :: (ownL 5 oy (bt (pubN qn.2.2)) ++ ((k3, blk 29 (0, 0) (keyC ver created kb)) :: (k4, blk 33 (0, 0) z33) :: LB))))) := by
  refine KN.one (i := 3) (by kernel_rfl) rfl rfl (show _ = (Ls 21 915455) by kernel_rfl) ?_
  · skip
    refine OW.mark Tryz.runUnderlying23 Tryz.runUnderlying5 rfl .here rfl ?_
    refine KN.on (fun _ => Sb.hw) ?_
    refine KN.quiet (i := 11) (ls1 := (Ls 21 917503)) secretOf6_sel (by kernel_rfl) (by kernel_rfl) (fun _ => Sb.hw) rfl (v_build (is := [0, 1, 2, 3, 4]) (xs := [.tmp 21, .tmp 23, .tmp 25, .tmp 27, .tmp 28]) rfl rfl rfl build31) rfl ?_
    refine KN.quiet (i := 17) (ls1 := (Ls 21 1048575)) secretOf6_sel (by kernel_rfl) (by kernel_rfl) (fun _ => Sb.hw) rfl (v_build (is := [0, 1, 2, 3]) (xs := [.tmp 29, .tmp 30, .tmp 32, .tmp 34]) rfl rfl rfl build33) rfl ?_
    exact KS.mk fun a w hS => (secretOf6_2_3_4_5_6_7_9_19 hk7 hk1 hqn hnl hnb hF _ _ _ _ hoy).out a w ((hS.heap' (Pm.hw hS.mem)).keep ⟨rfl, rfl, rfl, rfl, rfl, rfl, rfl, rfl, rfl, rfl, rfl, rfl, rfl, rfl, rfl, rfl, rfl, rfl, rfl, rfl, rfl, rfl, rfl, rfl, rfl, trivial⟩)
theorem secretOf6_2_3_4_6_7_9_19 (bp : Nat) (bq : Nat) (bg : Nat) (oy : Option Own) (hoy : oy = none → bt (pubN qn.2.2) = []) :
    KS w0 36 (anyC w0 (LB) secretOf6_ops K 4 (Ls 21 915423)) [(2, slV qn), (34, .bool sub), (33, .pointer (some ⟨k1, 1, none⟩)), (32, .int .u32 (created : Int)), (31, .pointer (some ⟨k1, 2, none⟩)), (30, .int .i64 (ver : Int)), (28, slV qn), (27, ownV oy (bt (pubN qn.2.2))), (26, slV qn), (25, .slice (some ⟨bg, 0, none⟩) (bt Gb).length (bt Gb).length), (24, .slice (some ⟨bg, 0, none⟩) (bt Gb).length (bt Gb).length), (22, .slice (some ⟨bq, 0, none⟩) (bt Qb).length (bt Qb).length), (21, .slice (some ⟨bp, 0, none⟩) (bt Pb).length (bt Pb).length), (20, .slice (some ⟨bp, 0, none⟩) (bt Pb).length (bt Pb).length), (19, .agg (keyC ver created kb).toArray), (18, slV qn), (1, .pointer (some ⟨k1, 0, none⟩)), (3, .pointer (some ⟨k3, 0, none⟩)), (4, .pointer (some ⟨k4, 0, none⟩)), (5, .int .i64 (ver : Int)), (6, slV qn), (7, .pointer (some ⟨k7, 0, none⟩))] ((bp, blk 5 ((bt Pb).length, (bt Pb).length + 1) (bt Pb)) :: ((bq, blk 5 (0, 0) (bt Qb)) :: ((bg, blk 5 ((bt Gb).length, (bt Gb).length + 1) (bt Gb)) :: (ownL 5 oy (bt (pubN qn.2.2)) ++ ((k3, blk 29 (0, 0) (keyC ver created kb)) :: (k4, blk 33 (0, 0) z33) :: LB))))) := by
  refine KN.one (i := 5) (by kernel_rfl) rfl rfl (show _ = (Ls 21 915455) by kernel_rfl) ?_
  · skip
    refine OW.mark Tryz.runUnderlying23 Tryz.runUnderlying5 rfl (.there .here) rfl ?_
    refine KN.on (fun _ => Sb.hw) ?_
    refine KN.quiet (i := 11) (ls1 := (Ls 21 917503)) secretOf6_sel (by kernel_rfl) (by kernel_rfl) (fun _ => Sb.hw) rfl (v_build (is := [0, 1, 2, 3, 4]) (xs := [.tmp 21, .tmp 23, .tmp 25, .tmp 27, .tmp 28]) rfl rfl rfl build31) rfl ?_
    refine KN.quiet (i := 17) (ls1 := (Ls 21 1048575)) secretOf6_sel (by kernel_rfl) (by kernel_rfl) (fun _ => Sb.hw) rfl (v_build (is := [0, 1, 2, 3]) (xs := [.tmp 29, .tmp 30, .tmp 32, .tmp 34]) rfl rfl rfl build33) rfl ?_
    exact KS.mk fun a w hS => (secretOf6_2_3_4_5_6_7_9_19 hk7 hk1 hqn hnl hnb hF _ _ _ _ hoy).out a w ((hS.heap' (Pm.hw hS.mem)).keep ⟨rfl, rfl, rfl, rfl, rfl, rfl, rfl, rfl, rfl, rfl, rfl, rfl, rfl, rfl, rfl, rfl, rfl, rfl, rfl, rfl, rfl, rfl, rfl, rfl, rfl, trivial⟩)
theorem secretOf6_2_3_4_5_6_9_19 (bp : Nat) (bq : Nat) (bg : Nat) (oy : Option Own) (hoy : oy = none → bt (pubN qn.2.2) = []) :
    KS w0 36 (anyC w0 (LB) secretOf6_ops K 4 (Ls 21 915327)) [(2, slV qn), (34, .bool sub), (33, .pointer (some ⟨k1, 1, none⟩)), (32, .int .u32 (created : Int)), (31, .pointer (some ⟨k1, 2, none⟩)), (30, .int .i64 (ver : Int)), (28, slV qn), (27, ownV oy (bt (pubN qn.2.2))), (26, slV qn), (24, .slice (some ⟨bg, 0, none⟩) (bt Gb).length (bt Gb).length), (23, .slice (some ⟨bq, 0, none⟩) (bt Qb).length (bt Qb).length), (22, .slice (some ⟨bq, 0, none⟩) (bt Qb).length (bt Qb).length), (21, .slice (some ⟨bp, 0, none⟩) (bt Pb).length (bt Pb).length), (20, .slice (some ⟨bp, 0, none⟩) (bt Pb).length (bt Pb).length), (19, .agg (keyC ver created kb).toArray), (18, slV qn), (1, .pointer (some ⟨k1, 0, none⟩)), (3, .pointer (some ⟨k3, 0, none⟩)), (4, .pointer (some ⟨k4, 0, none⟩)), (5, .int .i64 (ver : Int)), (6, slV qn), (7, .pointer (some ⟨k7, 0, none⟩))] ((bp, blk 5 ((bt Pb).length, (bt Pb).length + 1) (bt Pb)) :: ((bq, blk 5 ((bt Qb).length, (bt Qb).length + 1) (bt Qb)) :: ((bg, blk 5 (0, 0) (bt Gb)) :: (ownL 5 oy (bt (pubN qn.2.2)) ++ ((k3, blk 29 (0, 0) (keyC ver created kb)) :: (k4, blk 33 (0, 0) z33) :: LB))))) := by
  refine KN.one (i := 7) (by kernel_rfl) rfl rfl (show _ = (Ls 21 915455) by kernel_rfl) ?_
  · skip
    refine OW.mark Tryz.runUnderlying23 Tryz.runUnderlying5 rfl (.there (.there .here)) rfl ?_
    refine KN.on (fun _ => Sb.hw) ?_
    refine KN.quiet (i := 11) (ls1 := (Ls 21 917503)) secretOf6_sel (by kernel_rfl) (by kernel_rfl) (fun _ => Sb.hw) rfl (v_build (is := [0, 1, 2, 3, 4]) (xs := [.tmp 21, .tmp 23, .tmp 25, .tmp 27, .tmp 28]) rfl rfl rfl build31) rfl ?_
    refine KN.quiet (i := 17) (ls1 := (Ls 21 1048575)) secretOf6_sel (by kernel_rfl) (by kernel_rfl) (fun _ => Sb.hw) rfl (v_build (is := [0, 1, 2, 3]) (xs := [.tmp 29, .tmp 30, .tmp 32, .tmp 34]) rfl rfl rfl build33) rfl ?_
    exact KS.mk fun a w hS => (secretOf6_2_3_4_5_6_7_9_19 hk7 hk1 hqn hnl hnb hF _ _ _ _ hoy).out a w ((hS.heap' (Pm.hw hS.mem)).keep ⟨rfl, rfl, rfl, rfl, rfl, rfl, rfl, rfl, rfl, rfl, rfl, rfl, rfl, rfl, rfl, rfl, rfl, rfl, rfl, rfl, rfl, rfl, rfl, rfl, rfl, trivial⟩)
theorem secretOf6_4_5_6_7_9_19 (bq : Nat) (bg : Nat) (oy : Option Own) (hoy : oy = none → bt (pubN qn.2.2) = []) :
    KS w0 36 (anyC w0 (LB) secretOf6_ops K 5 (Ls 21 915443)) [(2, slV qn), (34, .bool sub), (33, .pointer (some ⟨k1, 1, none⟩)), (32, .int .u32 (created : Int)), (31, .pointer (some ⟨k1, 2, none⟩)), (30, .int .i64 (ver : Int)), (28, slV qn), (27, ownV oy (bt (pubN qn.2.2))), (26, slV qn), (25, .slice (some ⟨bg, 0, none⟩) (bt Gb).length (bt Gb).length), (24, .slice (some ⟨bg, 0, none⟩) (bt Gb).length (bt Gb).length), (23, .slice (some ⟨bq, 0, none⟩) (bt Qb).length (bt Qb).length), (22, .slice (some ⟨bq, 0, none⟩) (bt Qb).length (bt Qb).length), (19, .agg (keyC ver created kb).toArray), (18, slV qn), (1, .pointer (some ⟨k1, 0, none⟩)), (3, .pointer (some ⟨k3, 0, none⟩)), (4, .pointer (some ⟨k4, 0, none⟩)), (5, .int .i64 (ver : Int)), (6, slV qn), (7, .pointer (some ⟨k7, 0, none⟩))] ((bq, blk 5 ((bt Qb).length, (bt Qb).length + 1) (bt Qb)) :: ((bg, blk 5 ((bt Gb).length, (bt Gb).length + 1) (bt Gb)) :: (ownL 5 oy (bt (pubN qn.2.2)) ++ ((k3, blk 29 (0, 0) (keyC ver created kb)) :: (k4, blk 33 (0, 0) z33) :: LB)))) := by
  refine KN.one (i := 2) (by kernel_rfl) rfl rfl (show _ = (Ls 21 915447) by kernel_rfl) ?_
  · skip
    refine OW.buildSlice (us := bt Pb) (xs := [.const (.int .u8 1), .const (.int .u8 0), .const (.int .u8 0), .const (.int .u8 0), .const (.int .u8 0), .const (.int .u8 1), .const (.int .u8 255), .const (.int .u8 255), .const (.int .u8 255), .const (.int .u8 255), .const (.int .u8 255), .const (.int .u8 255), .const (.int .u8 255), .const (.int .u8 255), .const (.int .u8 255), .const (.int .u8 255), .const (.int .u8 255), .const (.int .u8 255), .const (.int .u8 255), .const (.int .u8 255), .const (.int .u8 208), .const (.int .u8 255), .const (.int .u8 255), .const (.int .u8 255), .const (.int .u8 255), .const (.int .u8 163)]) Tryz.runUnderlying23 Tryz.sizeOf5 Tryz.zeroValue5 rfl rfl rfl (by decide) rfl (fun bp => ?_) rfl rfl
    refine KN.on (fun _ => Sb.hw) ?_
    exact KS.mk fun a w hS => (secretOf6_2_4_5_6_7_9_19 hk7 hk1 hqn hnl hnb hF _ _ _ _ hoy).out a w ((hS.heap' (Pm.hw hS.mem)).keep ⟨rfl, rfl, rfl, rfl, rfl, rfl, rfl, rfl, rfl, rfl, rfl, rfl, rfl, rfl, rfl, rfl, rfl, rfl, rfl, rfl, rfl, rfl, trivial⟩)
theorem secretOf6_2_4_6_7_9_19 (bp : Nat) (bq : Nat) (bg : Nat) (oy : Option Own) (hoy : oy = none → bt (pubN qn.2.2) = []) :
    KS w0 36 (anyC w0 (LB) secretOf6_ops K 5 (Ls 21 915415)) [(2, slV qn), (34, .bool sub), (33, .pointer (some ⟨k1, 1, none⟩)), (32, .int .u32 (created : Int)), (31, .pointer (some ⟨k1, 2, none⟩)), (30, .int .i64 (ver : Int)), (28, slV qn), (27, ownV oy (bt (pubN qn.2.2))), (26, slV qn), (25, .slice (some ⟨bg, 0, none⟩) (bt Gb).length (bt Gb).length), (24, .slice (some ⟨bg, 0, none⟩) (bt Gb).length (bt Gb).length), (22, .slice (some ⟨bq, 0, none⟩) (bt Qb).length (bt Qb).length), (20, .slice (some ⟨bp, 0, none⟩) (bt Pb).length (bt Pb).length), (19, .agg (keyC ver created kb).toArray), (18, slV qn), (1, .pointer (some ⟨k1, 0, none⟩)), (3, .pointer (some ⟨k3, 0, none⟩)), (4, .pointer (some ⟨k4, 0, none⟩)), (5, .int .i64 (ver : Int)), (6, slV qn), (7, .pointer (some ⟨k7, 0, none⟩))] ((bp, blk 5 (0, 0) (bt Pb)) :: ((bq, blk 5 (0, 0) (bt Qb)) :: ((bg, blk 5 ((bt Gb).length, (bt Gb).length + 1) (bt Gb)) :: (ownL 5 oy (bt (pubN qn.2.2)) ++ ((k3, blk 29 (0, 0) (keyC ver created kb)) :: (k4, blk 33 (0, 0) z33) :: LB))))) := by
  refine KN.two (i := 3) (j := 5) (by kernel_rfl) rfl rfl (show _ = (Ls 21 915423) by kernel_rfl) ?_ rfl rfl (show _ = (Ls 21 915447) by kernel_rfl) ?_
  · skip
    refine OW.mark Tryz.runUnderlying23 Tryz.runUnderlying5 rfl .here rfl ?_
    refine KN.on (fun _ => Sb.hw) ?_
    exact KS.mk fun a w hS => (secretOf6_2_3_4_6_7_9_19 hk7 hk1 hqn hnl hnb hF _ _ _ _ hoy).out a w ((hS.heap' (Pm.hw hS.mem)).keep ⟨rfl, rfl, rfl, rfl, rfl, rfl, rfl, rfl, rfl, rfl, rfl, rfl, rfl, rfl, rfl, rfl, rfl, rfl, rfl, rfl, rfl, rfl, trivial⟩)
  · skip
    refine OW.mark Tryz.runUnderlying23 Tryz.runUnderlying5 rfl (.there .here) rfl ?_
    refine KN.on (fun _ => Sb.hw) ?_
    exact KS.mk fun a w hS => (secretOf6_2_4_5_6_7_9_19 hk7 hk1 hqn hnl hnb hF _ _ _ _ hoy).out a w ((hS.heap' (Pm.hw hS.mem)).keep ⟨rfl, rfl, rfl, rfl, rfl, rfl, rfl, rfl, rfl, rfl, rfl, rfl, rfl, rfl, rfl, rfl, rfl, rfl, rfl, rfl, rfl, rfl, trivial⟩)
theorem secretOf6_2_3_6_7_9_19 (bp : Nat) (bg : Nat) (oy : Option Own) (hoy : oy = none → bt (pubN qn.2.2) = []) :
    KS w0 36 (anyC w0 (LB) secretOf6_ops K 5 (Ls 21 915407)) [(2, slV qn), (34, .bool sub), (33, .pointer (some ⟨k1, 1, none⟩)), (32, .int .u32 (created : Int)), (31, .pointer (some ⟨k1, 2, none⟩)), (30, .int .i64 (ver : Int)), (28, slV qn), (27, ownV oy (bt (pubN qn.2.2))), (26, slV qn), (25, .slice (some ⟨bg, 0, none⟩) (bt Gb).length (bt Gb).length), (24, .slice (some ⟨bg, 0, none⟩) (bt Gb).length (bt Gb).length), (21, .slice (some ⟨bp, 0, none⟩) (bt Pb).length (bt Pb).length), (20, .slice (some ⟨bp, 0, none⟩) (bt Pb).length (bt Pb).length), (19, .agg (keyC ver created kb).toArray), (18, slV qn), (1, .pointer (some ⟨k1, 0, none⟩)), (3, .pointer (some ⟨k3, 0, none⟩)), (4, .pointer (some ⟨k4, 0, none⟩)), (5, .int .i64 (ver : Int)), (6, slV qn), (7, .pointer (some ⟨k7, 0, none⟩))] ((bp, blk 5 ((bt Pb).length, (bt Pb).length + 1) (bt Pb)) :: ((bg, blk 5 ((bt Gb).length, (bt Gb).length + 1) (bt Gb)) :: (ownL 5 oy (bt (pubN qn.2.2)) ++ ((k3, blk 29 (0, 0) (keyC ver created kb)) :: (k4, blk 33 (0, 0) z33) :: LB)))) := by
  refine KN.one (i := 4) (by kernel_rfl) rfl rfl (show _ = (Ls 21 915423) by kernel_rfl) ?_
  · skip
    refine OW.buildSlice (us := bt Qb) (xs := [.const (.int .u8 255), .const (.int .u8 255), .const (.int .u8 255), .const (.int .u8 255), .const (.int .u8 255), .const (.int .u8 255), .const (.int .u8 255), .const (.int .u8 255), .const (.int .u8 255), .const (.int .u8 255), .const (.int .u8 255), .const (.int .u8 255), .const (.int .u8 255), .const (.int .u8 255), .const (.int .u8 255), .const (.int .u8 255), .const (.int .u8 255), .const (.int .u8 255), .const (.int .u8 255), .const (.int .u8 209)]) Tryz.runUnderlying23 Tryz.sizeOf5 Tryz.zeroValue5 rfl rfl rfl (by decide) rfl (fun bq => ?_) rfl rfl
    refine KN.on (fun _ => Sb.hw) ?_
    exact KS.mk fun a w hS => (secretOf6_2_3_4_6_7_9_19 hk7 hk1 hqn hnl hnb hF _ _ _ _ hoy).out a w ((hS.heap' (Pm.hw hS.mem)).keep ⟨rfl, rfl, rfl, rfl, rfl, rfl, rfl, rfl, rfl, rfl, rfl, rfl, rfl, rfl, rfl, rfl, rfl, rfl, rfl, rfl, rfl, rfl, trivial⟩)
theorem secretOf6_2_4_5_6_9_19 (bp : Nat) (bq : Nat) (bg : Nat) (oy : Option Own) (hoy : oy = none → bt (pubN qn.2.2) = []) :
    KS w0 36 (anyC w0 (LB) secretOf6_ops K 5 (Ls 21 915319)) [(2, slV qn), (34, .bool sub), (33, .pointer (some ⟨k1, 1, none⟩)), (32, .int .u32 (created : Int)), (31, .pointer (some ⟨k1, 2, none⟩)), (30, .int .i64 (ver : Int)), (28, slV qn), (27, ownV oy (bt (pubN qn.2.2))), (26, slV qn), (24, .slice (some ⟨bg, 0, none⟩) (bt Gb).length (bt Gb).length), (23, .slice (some ⟨bq, 0, none⟩) (bt Qb).length (bt Qb).length), (22, .slice (some ⟨bq, 0, none⟩) (bt Qb).length (bt Qb).length), (20, .slice (some ⟨bp, 0, none⟩) (bt Pb).length (bt Pb).length), (19, .agg (keyC ver created kb).toArray), (18, slV qn), (1, .pointer (some ⟨k1, 0, none⟩)), (3, .pointer (some ⟨k3, 0, none⟩)), (4, .pointer (some ⟨k4, 0, none⟩)), (5, .int .i64 (ver : Int)), (6, slV qn), (7, .pointer (some ⟨k7, 0, none⟩))] ((bp, blk 5 (0, 0) (bt Pb)) :: ((bq, blk 5 ((bt Qb).length, (bt Qb).length + 1) (bt Qb)) :: ((bg, blk 5 (0, 0) (bt Gb)) :: (ownL 5 oy (bt (pubN qn.2.2)) ++ ((k3, blk 29 (0, 0) (keyC ver created kb)) :: (k4, blk 33 (0, 0) z33) :: LB))))) := by
  refine KN.two (i := 3) (j := 7) (by kernel_rfl) rfl rfl (show _ = (Ls 21 915327) by kernel_rfl) ?_ rfl rfl (show _ = (Ls 21 915447) by kernel_rfl) ?_
  · skip
    refine OW.mark Tryz.runUnderlying23 Tryz.runUnderlying5 rfl .here rfl ?_
    refine KN.on (fun _ => Sb.hw) ?_
    exact KS.mk fun a w hS => (secretOf6_2_3_4_5_6_9_19 hk7 hk1 hqn hnl hnb hF _ _ _ _ hoy).out a w ((hS.heap' (Pm.hw hS.mem)).keep ⟨rfl, rfl, rfl, rfl, rfl, rfl, rfl, rfl, rfl, rfl, rfl, rfl, rfl, rfl, rfl, rfl, rfl, rfl, rfl, rfl, rfl, rfl, trivial⟩)
  · skip
    refine OW.mark Tryz.runUnderlying23 Tryz.runUnderlying5 rfl (.there (.there .here)) rfl ?_
    refine KN.on (fun _ => Sb.hw) ?_
    exact KS.mk fun a w hS => (secretOf6_2_4_5_6_7_9_19 hk7 hk1 hqn hnl hnb hF _ _ _ _ hoy).out a w ((hS.heap' (Pm.hw hS.mem)).keep ⟨rfl, rfl, rfl, rfl, rfl, rfl, rfl, rfl, rfl, rfl, rfl, rfl, rfl, rfl, rfl, rfl, rfl, rfl, rfl, rfl, rfl, rfl, trivial⟩)
theorem secretOf6_2_3_4_6_9_19 (bp : Nat) (bq : Nat) (bg : Nat) (oy : Option Own) (hoy : oy = none → bt (pubN qn.2.2) = []) :
    KS w0 36 (anyC w0 (LB) secretOf6_ops K 5 (Ls 21 915295)) [(2, slV qn), (34, .bool sub), (33, .pointer (some ⟨k1, 1, none⟩)), (32, .int .u32 (created : Int)), (31, .pointer (some ⟨k1, 2, none⟩)), (30, .int .i64 (ver : Int)), (28, slV qn), (27, ownV oy (bt (pubN qn.2.2))), (26, slV qn), (24, .slice (some ⟨bg, 0, none⟩) (bt Gb).length (bt Gb).length), (22, .slice (some ⟨bq, 0, none⟩) (bt Qb).length (bt Qb).length), (21, .slice (some ⟨bp, 0, none⟩) (bt Pb).length (bt Pb).length), (20, .slice (some ⟨bp, 0, none⟩) (bt Pb).length (bt Pb).length), (19, .agg (keyC ver created kb).toArray), (18, slV qn), (1, .pointer (some ⟨k1, 0, none⟩)), (3, .pointer (some ⟨k3, 0, none⟩)), (4, .pointer (some ⟨k4, 0, none⟩)), (5, .int .i64 (ver : Int)), (6, slV qn), (7, .pointer (some ⟨k7, 0, none⟩))] ((bp, blk 5 ((bt Pb).length, (bt Pb).length + 1) (bt Pb)) :: ((bq, blk 5 (0, 0) (bt Qb)) :: ((bg, blk 5 (0, 0) (bt Gb)) :: (ownL 5 oy (bt (pubN qn.2.2)) ++ ((k3, blk 29 (0, 0) (keyC ver created kb)) :: (k4, blk 33 (0, 0) z33) :: LB))))) := by
  refine KN.two (i := 5) (j := 7) (by kernel_rfl) rfl rfl (show _ = (Ls 21 915327) by kernel_rfl) ?_ rfl rfl (show _ = (Ls 21 915423) by kernel_rfl) ?_
  · skip
    refine OW.mark Tryz.runUnderlying23 Tryz.runUnderlying5 rfl (.there .here) rfl ?_
    refine KN.on (fun _ => Sb.hw) ?_
    exact KS.mk fun a w hS => (secretOf6_2_3_4_5_6_9_19 hk7 hk1 hqn hnl hnb hF _ _ _ _ hoy).out a w ((hS.heap' (Pm.hw hS.mem)).keep ⟨rfl, rfl, rfl, rfl, rfl, rfl, rfl, rfl, rfl, rfl, rfl, rfl, rfl, rfl, rfl, rfl, rfl, rfl, rfl, rfl, rfl, rfl, trivial⟩)
  · skip
    refine OW.mark Tryz.runUnderlying23 Tryz.runUnderlying5 rfl (.there (.there .here)) rfl ?_
    refine KN.on (fun _ => Sb.hw) ?_
    exact KS.mk fun a w hS => (secretOf6_2_3_4_6_7_9_19 hk7 hk1 hqn hnl hnb hF _ _ _ _ hoy).out a w ((hS.heap' (Pm.hw hS.mem)).keep ⟨rfl, rfl, rfl, rfl, rfl, rfl, rfl, rfl, rfl, rfl, rfl, rfl, rfl, rfl, rfl, rfl, rfl, rfl, rfl, rfl, rfl, rfl, trivial⟩)
theorem secretOf6_2_3_4_5_9_19 (bp : Nat) (bq : Nat) (oy : Option Own) (hoy : oy = none → bt (pubN qn.2.2) = []) :
    KS w0 36 (anyC w0 (LB) secretOf6_ops K 5 (Ls 21 915263)) [(2, slV qn), (34, .bool sub), (33, .pointer (some ⟨k1, 1, none⟩)), (32, .int .u32 (created : Int)), (31, .pointer (some ⟨k1, 2, none⟩)), (30, .int .i64 (ver : Int)), (28, slV qn), (27, ownV oy (bt (pubN qn.2.2))), (26, slV qn), (23, .slice (some ⟨bq, 0, none⟩) (bt Qb).length (bt Qb).length), (22, .slice (some ⟨bq, 0, none⟩) (bt Qb).length (bt Qb).length), (21, .slice (some ⟨bp, 0, none⟩) (bt Pb).length (bt Pb).length), (20, .slice (some ⟨bp, 0, none⟩) (bt Pb).length (bt Pb).length), (19, .agg (keyC ver created kb).toArray), (18, slV qn), (1, .pointer (some ⟨k1, 0, none⟩)), (3, .pointer (some ⟨k3, 0, none⟩)), (4, .pointer (some ⟨k4, 0, none⟩)), (5, .int .i64 (ver : Int)), (6, slV qn), (7, .pointer (some ⟨k7, 0, none⟩))] ((bp, blk 5 ((bt Pb).length, (bt Pb).length + 1) (bt Pb)) :: ((bq, blk 5 ((bt Qb).length, (bt Qb).length + 1) (bt Qb)) :: (ownL 5 oy (bt (pubN qn.2.2)) ++ ((k3, blk 29 (0, 0) (keyC ver created kb)) :: (k4, blk 33 (0, 0) z33) :: LB)))) := by
  refine KN.one (i := 6) (by kernel_rfl) rfl rfl (show _ = (Ls 21 915327) by kernel_rfl) ?_
  · skip
    refine OW.buildSlice (us := bt Gb) (xs := [.const (.int .u8 131), .const (.int .u8 5), .const (.int .u8 225), .const (.int .u8 200), .const (.int .u8 246), .const (.int .u8 133), .const (.int .u8 197), .const (.int .u8 165), .const (.int .u8 35), .const (.int .u8 209), .const (.int .u8 150), .const (.int .u8 65), .const (.int .u8 151), .const (.int .u8 215), .const (.int .u8 129), .const (.int .u8 228), .const (.int .u8 148), .const (.int .u8 103), .const (.int .u8 50), .const (.int .u8 126), .const (.int .u8 57), .const (.int .u8 130), .const (.int .u8 47), .const (.int .u8 61), .const (.int .u8 39)]) Tryz.runUnderlying23 Tryz.sizeOf5 Tryz.zeroValue5 rfl rfl rfl (by decide) rfl (fun bg => ?_) rfl rfl
    refine KN.on (fun _ => Sb.hw) ?_
    exact KS.mk fun a w hS => (secretOf6_2_3_4_5_6_9_19 hk7 hk1 hqn hnl hnb hF _ _ _ _ hoy).out a w ((hS.heap' (Pm.hw hS.mem)).keep ⟨rfl, rfl, rfl, rfl, rfl, rfl, rfl, rfl, rfl, rfl, rfl, rfl, rfl, rfl, rfl, rfl, rfl, rfl, rfl, rfl, rfl, rfl, trivial⟩)
theorem secretOf6_2_4_5_6_7_9 (bp : Nat) (bq : Nat) (bg : Nat) (oy : Option Own) (hoy : oy = none → bt (pubN qn.2.2) = []) :
    KS w0 36 (anyC w0 (LB) secretOf6_ops K 5 (Ls 21 391159)) [(2, slV qn), (34, .bool sub), (33, .pointer (some ⟨k1, 1, none⟩)), (32, .int .u32 (created : Int)), (31, .pointer (some ⟨k1, 2, none⟩)), (30, .int .i64 (ver : Int)), (28, slV qn), (27, ownV oy (bt (pubN qn.2.2))), (26, slV qn), (25, .slice (some ⟨bg, 0, none⟩) (bt Gb).length (bt Gb).length), (24, .slice (some ⟨bg, 0, none⟩) (bt Gb).length (bt Gb).length), (23, .slice (some ⟨bq, 0, none⟩) (bt Qb).length (bt Qb).length), (22, .slice (some ⟨bq, 0, none⟩) (bt Qb).length (bt Qb).length), (20, .slice (some ⟨bp, 0, none⟩) (bt Pb).length (bt Pb).length), (19, .agg (keyC ver created kb).toArray), (18, slV qn), (1, .pointer (some ⟨k1, 0, none⟩)), (3, .pointer (some ⟨k3, 0, none⟩)), (4, .pointer (some ⟨k4, 0, none⟩)), (5, .int .i64 (ver : Int)), (6, slV qn), (7, .pointer (some ⟨k7, 0, none⟩))] ((bp, blk 5 (0, 0) (bt Pb)) :: ((bq, blk 5 ((bt Qb).length, (bt Qb).length + 1) (bt Qb)) :: ((bg, blk 5 ((bt Gb).length, (bt Gb).length + 1) (bt Gb)) :: (ownL 5 oy (bt (pubN qn.2.2)) ++ ((k3, blk 29 (0, 0) z29) :: (k4, blk 33 (0, 0) z33) :: LB))))) := by
  refine KN.two (i := 3) (j := 19) (by kernel_rfl) rfl rfl (show _ = (Ls 21 391167) by kernel_rfl) ?_ rfl rfl (show _ = (Ls 21 915447) by kernel_rfl) ?_
  · skip
    refine OW.mark Tryz.runUnderlying23 Tryz.runUnderlying5 rfl .here rfl ?_
    refine KN.on (fun _ => Sb.hw) ?_
    refine KN.quiet (i := 11) (ls1 := (Ls 21 393215)) secretOf6_sel (by kernel_rfl) (by kernel_rfl) (fun _ => Sb.hw) rfl (v_build (is := [0, 1, 2, 3, 4]) (xs := [.tmp 21, .tmp 23, .tmp 25, .tmp 27, .tmp 28]) rfl rfl rfl build31) rfl ?_
    refine KN.quiet (i := 17) (ls1 := (Ls 21 524287)) secretOf6_sel (by kernel_rfl) (by kernel_rfl) (fun _ => Sb.hw) rfl (v_build (is := [0, 1, 2, 3]) (xs := [.tmp 29, .tmp 30, .tmp 32, .tmp 34]) rfl rfl rfl build33) rfl ?_
    exact KS.mk fun a w hS => (secretOf6_2_3_4_5_6_7_9 hk7 hk1 hqn hnl hnb hF _ _ _ _ hoy).out a w ((hS.heap' (Pm.hw hS.mem)).keep ⟨rfl, rfl, rfl, rfl, rfl, rfl, rfl, rfl, rfl, rfl, rfl, rfl, rfl, rfl, rfl, rfl, rfl, rfl, rfl, rfl, rfl, rfl, rfl, rfl, rfl, trivial⟩)
  · skip
    refine OW.storeAgg (us := (keyC ver created kb)) Tryz.sizeOf29 rfl rfl rfl rfl (overlay_all _ _ (by rfl)) (.there (.there (.there (At.over .here _)))) (Nat.le_refl _) ?_
    refine KN.on (fun _ => Sb.hw) ?_
    exact KS.mk fun a w hS => (secretOf6_2_4_5_6_7_9_19 hk7 hk1 hqn hnl hnb hF _ _ _ _ hoy).out a w ((hS.heap' (Pm.hw hS.mem)).keep ⟨rfl, rfl, rfl, rfl, rfl, rfl, rfl, rfl, rfl, rfl, rfl, rfl, rfl, rfl, rfl, rfl, rfl, rfl, rfl, rfl, rfl, rfl, trivial⟩)
theorem secretOf6_2_3_4_6_7_9 (bp : Nat) (bq : Nat) (bg : Nat) (oy : Option Own) (hoy : oy = none → bt (pubN qn.2.2) = []) :
    KS w0 36 (anyC w0 (LB) secretOf6_ops K 5 (Ls 21 391135)) [(2, slV qn), (34, .bool sub), (33, .pointer (some ⟨k1, 1, none⟩)), (32, .int .u32 (created : Int)), (31, .pointer (some ⟨k1, 2, none⟩)), (30, .int .i64 (ver : Int)), (28, slV qn), (27, ownV oy (bt (pubN qn.2.2))), (26, slV qn), (25, .slice (some ⟨bg, 0, none⟩) (bt Gb).length (bt Gb).length), (24, .slice (some ⟨bg, 0, none⟩) (bt Gb).length (bt Gb).length), (22, .slice (some ⟨bq, 0, none⟩) (bt Qb).length (bt Qb).length), (21, .slice (some ⟨bp, 0, none⟩) (bt Pb).length (bt Pb).length), (20, .slice (some ⟨bp, 0, none⟩) (bt Pb).length (bt Pb).length), (19, .agg (keyC ver created kb).toArray), (18, slV qn), (1, .pointer (some ⟨k1, 0, none⟩)), (3, .pointer (some ⟨k3, 0, none⟩)), (4, .pointer (some ⟨k4, 0, none⟩)), (5, .int .i64 (ver : Int)), (6, slV qn), (7, .pointer (some ⟨k7, 0, none⟩))] ((bp, blk 5 ((bt Pb).length, (bt Pb).length + 1) (bt Pb)) :: ((bq, blk 5 (0, 0) (bt Qb)) :: ((bg, blk 5 ((bt Gb).length, (bt Gb).length + 1) (bt Gb)) :: (ownL 5 oy (bt (pubN qn.2.2)) ++ ((k3, blk 29 (0, 0) z29) :: (k4, blk 33 (0, 0) z33) :: LB))))) := by
  refine KN.two (i := 5) (j := 19) (by kernel_rfl) rfl rfl (show _ = (Ls 21 391167) by kernel_rfl) ?_ rfl rfl (show _ = (Ls 21 915423) by kernel_rfl) ?_
  · skip
    refine OW.mark Tryz.runUnderlying23 Tryz.runUnderlying5 rfl (.there .here) rfl ?_
    refine KN.on (fun _ => Sb.hw) ?_
    refine KN.quiet (i := 11) (ls1 := (Ls 21 393215)) secretOf6_sel (by kernel_rfl) (by kernel_rfl) (fun _ => Sb.hw) rfl (v_build (is := [0, 1, 2, 3, 4]) (xs := [.tmp 21, .tmp 23, .tmp 25, .tmp 27, .tmp 28]) rfl rfl rfl build31) rfl ?_
    refine KN.quiet (i := 17) (ls1 := (Ls 21 524287)) secretOf6_sel (by kernel_rfl) (by kernel_rfl) (fun _ => Sb.hw) rfl (v_build (is := [0, 1, 2, 3]) (xs := [.tmp 29, .tmp 30, .tmp 32, .tmp 34]) rfl rfl rfl build33) rfl ?_
    exact KS.mk fun a w hS => (secretOf6_2_3_4_5_6_7_9 hk7 hk1 hqn hnl hnb hF _ _ _ _ hoy).out a w ((hS.heap' (Pm.hw hS.mem)).keep ⟨rfl, rfl, rfl, rfl, rfl, rfl, rfl, rfl, rfl, rfl, rfl, rfl, rfl, rfl, rfl, rfl, rfl, rfl, rfl, rfl, rfl, rfl, rfl, rfl, rfl, trivial⟩)
  · skip
    refine OW.storeAgg (us := (keyC ver created kb)) Tryz.sizeOf29 rfl rfl rfl rfl (overlay_all _ _ (by rfl)) (.there (.there (.there (At.over .here _)))) (Nat.le_refl _) ?_
    refine KN.on (fun _ => Sb.hw) ?_
    exact KS.mk fun a w hS => (secretOf6_2_3_4_6_7_9_19 hk7 hk1 hqn hnl hnb hF _ _ _ _ hoy).out a w ((hS.heap' (Pm.hw hS.mem)).keep ⟨rfl, rfl, rfl, rfl, rfl, rfl, rfl, rfl, rfl, rfl, rfl, rfl, rfl, rfl, rfl, rfl, rfl, rfl, rfl, rfl, rfl, rfl, trivial⟩)
theorem secretOf6_2_3_4_5_6_9 (bp : Nat) (bq : Nat) (bg : Nat) (oy : Option Own) (hoy : oy = none → bt (pubN qn.2.2) = []) :
    KS w0 36 (anyC w0 (LB) secretOf6_ops K 5 (Ls 21 391039)) [(2, slV qn), (34, .bool sub), (33, .pointer (some ⟨k1, 1, none⟩)), (32, .int .u32 (created : Int)), (31, .pointer (some ⟨k1, 2, none⟩)), (30, .int .i64 (ver : Int)), (28, slV qn), (27, ownV oy (bt (pubN qn.2.2))), (26, slV qn), (24, .slice (some ⟨bg, 0, none⟩) (bt Gb).length (bt Gb).length), (23, .slice (some ⟨bq, 0, none⟩) (bt Qb).length (bt Qb).length), (22, .slice (some ⟨bq, 0, none⟩) (bt Qb).length (bt Qb).length), (21, .slice (some ⟨bp, 0, none⟩) (bt Pb).length (bt Pb).length), (20, .slice (some ⟨bp, 0, none⟩) (bt Pb).length (bt Pb).length), (19, .agg (keyC ver created kb).toArray), (18, slV qn), (1, .pointer (some ⟨k1, 0, none⟩)), (3, .pointer (some ⟨k3, 0, none⟩)), (4, .pointer (some ⟨k4, 0, none⟩)), (5, .int .i64 (ver : Int)), (6, slV qn), (7, .pointer (some ⟨k7, 0, none⟩))] ((bp, blk 5 ((bt Pb).length, (bt Pb).length + 1) (bt Pb)) :: ((bq, blk 5 ((bt Qb).length, (bt Qb).length + 1) (bt Qb)) :: ((bg, blk 5 (0, 0) (bt Gb)) :: (ownL 5 oy (bt (pubN qn.2.2)) ++ ((k3, blk 29 (0, 0) z29) :: (k4, blk 33 (0, 0) z33) :: LB))))) := by
  refine KN.two (i := 7) (j := 19) (by kernel_rfl) rfl rfl (show _ = (Ls 21 391167) by kernel_rfl) ?_ rfl rfl (show _ = (Ls 21 915327) by kernel_rfl) ?_
  · skip
    refine OW.mark Tryz.runUnderlying23 Tryz.runUnderlying5 rfl (.there (.there .here)) rfl ?_
    refine KN.on (fun _ => Sb.hw) ?_
    refine KN.quiet (i := 11) (ls1 := (Ls 21 393215)) secretOf6_sel (by kernel_rfl) (by kernel_rfl) (fun _ => Sb.hw) rfl (v_build (is := [0, 1, 2, 3, 4]) (xs := [.tmp 21, .tmp 23, .tmp 25, .tmp 27, .tmp 28]) rfl rfl rfl build31) rfl ?_
    refine KN.quiet (i := 17) (ls1 := (Ls 21 524287)) secretOf6_sel (by kernel_rfl) (by kernel_rfl) (fun _ => Sb.hw) rfl (v_build (is := [0, 1, 2, 3]) (xs := [.tmp 29, .tmp 30, .tmp 32, .tmp 34]) rfl rfl rfl build33) rfl ?_
    exact KS.mk fun a w hS => (secretOf6_2_3_4_5_6_7_9 hk7 hk1 hqn hnl hnb hF _ _ _ _ hoy).out a w ((hS.heap' (Pm.hw hS.mem)).keep ⟨rfl, rfl, rfl, rfl, rfl, rfl, rfl, rfl, rfl, rfl, rfl, rfl, rfl, rfl, rfl, rfl, rfl, rfl, rfl, rfl, rfl, rfl, rfl, rfl, rfl, trivial⟩)
  · skip
    refine OW.storeAgg (us := (keyC ver created kb)) Tryz.sizeOf29 rfl rfl rfl rfl (overlay_all _ _ (by rfl)) (.there (.there (.there (At.over .here _)))) (Nat.le_refl _) ?_
    refine KN.on (fun _ => Sb.hw) ?_
    exact KS.mk fun a w hS => (secretOf6_2_3_4_5_6_9_19 hk7 hk1 hqn hnl hnb hF _ _ _ _ hoy).out a w ((hS.heap' (Pm.hw hS.mem)).keep ⟨rfl, rfl, rfl, rfl, rfl, rfl, rfl, rfl, rfl, rfl, rfl, rfl, rfl, rfl, rfl, rfl, rfl, rfl, rfl, rfl, rfl, rfl, trivial⟩)
theorem secretOf6_4_6_7_9_19 (bq : Nat) (bg : Nat) (oy : Option Own) (hoy : oy = none → bt (pubN qn.2.2) = []) :
    KS w0 36 (anyC w0 (LB) secretOf6_ops K 6 (Ls 21 915411)) [(2, slV qn), (34, .bool sub), (33, .pointer (some ⟨k1, 1, none⟩)), (32, .int .u32 (created : Int)), (31, .pointer (some ⟨k1, 2, none⟩)), (30, .int .i64 (ver : Int)), (28, slV qn), (27, ownV oy (bt (pubN qn.2.2))), (26, slV qn), (25, .slice (some ⟨bg, 0, none⟩) (bt Gb).length (bt Gb).length), (24, .slice (some ⟨bg, 0, none⟩) (bt Gb).length (bt Gb).length), (22, .slice (some ⟨bq, 0, none⟩) (bt Qb).length (bt Qb).length), (19, .agg (keyC ver created kb).toArray), (18, slV qn), (1, .pointer (some ⟨k1, 0, none⟩)), (3, .pointer (some ⟨k3, 0, none⟩)), (4, .pointer (some ⟨k4, 0, none⟩)), (5, .int .i64 (ver : Int)), (6, slV qn), (7, .pointer (some ⟨k7, 0, none⟩))] ((bq, blk 5 (0, 0) (bt Qb)) :: ((bg, blk 5 ((bt Gb).length, (bt Gb).length + 1) (bt Gb)) :: (ownL 5 oy (bt (pubN qn.2.2)) ++ ((k3, blk 29 (0, 0) (keyC ver created kb)) :: (k4, blk 33 (0, 0) z33) :: LB)))) := by
  refine KN.two (i := 2) (j := 5) (by kernel_rfl) rfl rfl (show _ = (Ls 21 915415) by kernel_rfl) ?_ rfl rfl (show _ = (Ls 21 915443) by kernel_rfl) ?_
  · skip
    refine OW.buildSlice (us := bt Pb) (xs := [.const (.int .u8 1), .const (.int .u8 0), .const (.int .u8 0), .const (.int .u8 0), .const (.int .u8 0), .const (.int .u8 1), .const (.int .u8 255), .const (.int .u8 255), .const (.int .u8 255), .const (.int .u8 255), .const (.int .u8 255), .const (.int .u8 255), .const (.int .u8 255), .const (.int .u8 255), .const (.int .u8 255), .const (.int .u8 255), .const (.int .u8 255), .const (.int .u8 255), .const (.int .u8 255), .const (.int .u8 255), .const (.int .u8 208), .const (.int .u8 255), .const (.int .u8 255), .const (.int .u8 255), .const (.int .u8 255), .const (.int .u8 163)]) Tryz.runUnderlying23 Tryz.sizeOf5 Tryz.zeroValue5 rfl rfl rfl (by decide) rfl (fun bp => ?_) rfl rfl
    refine KN.on (fun _ => Sb.hw) ?_
    exact KS.mk fun a w hS => (secretOf6_2_4_6_7_9_19 hk7 hk1 hqn hnl hnb hF _ _ _ _ hoy).out a w ((hS.heap' (Pm.hw hS.mem)).keep ⟨rfl, rfl, rfl, rfl, rfl, rfl, rfl, rfl, rfl, rfl, rfl, rfl, rfl, rfl, rfl, rfl, rfl, rfl, rfl, rfl, rfl, trivial⟩)
  · skip
    refine OW.mark Tryz.runUnderlying23 Tryz.runUnderlying5 rfl .here rfl ?_
    refine KN.on (fun _ => Sb.hw) ?_
    exact KS.mk fun a w hS => (secretOf6_4_5_6_7_9_19 hk7 hk1 hqn hnl hnb hF _ _ _ hoy).out a w ((hS.heap' (Pm.hw hS.mem)).keep ⟨rfl, rfl, rfl, rfl, rfl, rfl, rfl, rfl, rfl, rfl, rfl, rfl, rfl, rfl, rfl, rfl, rfl, rfl, rfl, rfl, rfl, trivial⟩)
theorem secretOf6_2_6_7_9_19 (bp : Nat) (bg : Nat) (oy : Option Own) (hoy : oy = none → bt (pubN qn.2.2) = []) :
    KS w0 36 (anyC w0 (LB) secretOf6_ops K 6 (Ls 21 915399)) [(2, slV qn), (34, .bool sub), (33, .pointer (some ⟨k1, 1, none⟩)), (32, .int .u32 (created : Int)), (31, .pointer (some ⟨k1, 2, none⟩)), (30, .int .i64 (ver : Int)), (28, slV qn), (27, ownV oy (bt (pubN qn.2.2))), (26, slV qn), (25, .slice (some ⟨bg, 0, none⟩) (bt Gb).length (bt Gb).length), (24, .slice (some ⟨bg, 0, none⟩) (bt Gb).length (bt Gb).length), (20, .slice (some ⟨bp, 0, none⟩) (bt Pb).length (bt Pb).length), (19, .agg (keyC ver created kb).toArray), (18, slV qn), (1, .pointer (some ⟨k1, 0, none⟩)), (3, .pointer (some ⟨k3, 0, none⟩)), (4, .pointer (some ⟨k4, 0, none⟩)), (5, .int .i64 (ver : Int)), (6, slV qn), (7, .pointer (some ⟨k7, 0, none⟩))] ((bp, blk 5 (0, 0) (bt Pb)) :: ((bg, blk 5 ((bt Gb).length, (bt Gb).length + 1) (bt Gb)) :: (ownL 5 oy (bt (pubN qn.2.2)) ++ ((k3, blk 29 (0, 0) (keyC ver created kb)) :: (k4, blk 33 (0, 0) z33) :: LB)))) := by
  refine KN.two (i := 3) (j := 4) (by kernel_rfl) rfl rfl (show _ = (Ls 21 915407) by kernel_rfl) ?_ rfl rfl (show _ = (Ls 21 915415) by kernel_rfl) ?_
  · skip
    refine OW.mark Tryz.runUnderlying23 Tryz.runUnderlying5 rfl .here rfl ?_
    refine KN.on (fun _ => Sb.hw) ?_
    exact KS.mk fun a w hS => (secretOf6_2_3_6_7_9_19 hk7 hk1 hqn hnl hnb hF _ _ _ hoy).out a w ((hS.heap' (Pm.hw hS.mem)).keep ⟨rfl, rfl, rfl, rfl, rfl, rfl, rfl, rfl, rfl, rfl, rfl, rfl, rfl, rfl, rfl, rfl, rfl, rfl, rfl, rfl, rfl, trivial⟩)
  · skip
    refine OW.buildSlice (us := bt Qb) (xs := [.const (.int .u8 255), .const (.int .u8 255), .const (.int .u8 255), .const (.int .u8 255), .const (.int .u8 255), .const (.int .u8 255), .const (.int .u8 255), .const (.int .u8 255), .const (.int .u8 255), .const (.int .u8 255), .const (.int .u8 255), .const (.int .u8 255), .const (.int .u8 255), .const (.int .u8 255), .const (.int .u8 255), .const (.int .u8 255), .const (.int .u8 255), .const (.int .u8 255), .const (.int .u8 255), .const (.int .u8 209)]) Tryz.runUnderlying23 Tryz.sizeOf5 Tryz.zeroValue5 rfl rfl rfl (by decide) rfl (fun bq => ?_) rfl rfl
    refine KN.on (fun _ => Sb.hw) ?_
    exact KS.mk fun a w hS => (secretOf6_2_4_6_7_9_19 hk7 hk1 hqn hnl hnb hF _ _ _ _ hoy).out a w ((hS.heap' (Pm.hw hS.mem)).keep ⟨rfl, rfl, rfl, rfl, rfl, rfl, rfl, rfl, rfl, rfl, rfl, rfl, rfl, rfl, rfl, rfl, rfl, rfl, rfl, rfl, rfl, trivial⟩)
theorem secretOf6_4_5_6_9_19 (bq : Nat) (bg : Nat) (oy : Option Own) (hoy : oy = none → bt (pubN qn.2.2) = []) :
    KS w0 36 (anyC w0 (LB) secretOf6_ops K 6 (Ls 21 915315)) [(2, slV qn), (34, .bool sub), (33, .pointer (some ⟨k1, 1, none⟩)), (32, .int .u32 (created : Int)), (31, .pointer (some ⟨k1, 2, none⟩)), (30, .int .i64 (ver : Int)), (28, slV qn), (27, ownV oy (bt (pubN qn.2.2))), (26, slV qn), (24, .slice (some ⟨bg, 0, none⟩) (bt Gb).length (bt Gb).length), (23, .slice (some ⟨bq, 0, none⟩) (bt Qb).length (bt Qb).length), (22, .slice (some ⟨bq, 0, none⟩) (bt Qb).length (bt Qb).length), (19, .agg (keyC ver created kb).toArray), (18, slV qn), (1, .pointer (some ⟨k1, 0, none⟩)), (3, .pointer (some ⟨k3, 0, none⟩)), (4, .pointer (some ⟨k4, 0, none⟩)), (5, .int .i64 (ver : Int)), (6, slV qn), (7, .pointer (some ⟨k7, 0, none⟩))] ((bq, blk 5 ((bt Qb).length, (bt Qb).length + 1) (bt Qb)) :: ((bg, blk 5 (0, 0) (bt Gb)) :: (ownL 5 oy (bt (pubN qn.2.2)) ++ ((k3, blk 29 (0, 0) (keyC ver created kb)) :: (k4, blk 33 (0, 0) z33) :: LB)))) := by
  refine KN.two (i := 2) (j := 7) (by kernel_rfl) rfl rfl (show _ = (Ls 21 915319) by kernel_rfl) ?_ rfl rfl (show _ = (Ls 21 915443) by kernel_rfl) ?_
  · skip
    refine OW.buildSlice (us := bt Pb) (xs := [.const (.int .u8 1), .const (.int .u8 0), .const (.int .u8 0), .const (.int .u8 0), .const (.int .u8 0), .const (.int .u8 1), .const (.int .u8 255), .const (.int .u8 255), .const (.int .u8 255), .const (.int .u8 255), .const (.int .u8 255), .const (.int .u8 255), .const (.int .u8 255), .const (.int .u8 255), .const (.int .u8 255), .const (.int .u8 255), .const (.int .u8 255), .const (.int .u8 255), .const (.int .u8 255), .const (.int .u8 255), .const (.int .u8 208), .const (.int .u8 255), .const (.int .u8 255), .const (.int .u8 255), .const (.int .u8 255), .const (.int .u8 163)]) Tryz.runUnderlying23 Tryz.sizeOf5 Tryz.zeroValue5 rfl rfl rfl (by decide) rfl (fun bp => ?_) rfl rfl
    refine KN.on (fun _ => Sb.hw) ?_
    exact KS.mk fun a w hS => (secretOf6_2_4_5_6_9_19 hk7 hk1 hqn hnl hnb hF _ _ _ _ hoy).out a w ((hS.heap' (Pm.hw hS.mem)).keep ⟨rfl, rfl, rfl, rfl, rfl, rfl, rfl, rfl, rfl, rfl, rfl, rfl, rfl, rfl, rfl, rfl, rfl, rfl, rfl, rfl, rfl, trivial⟩)
  · skip
    refine OW.mark Tryz.runUnderlying23 Tryz.runUnderlying5 rfl (.there .here) rfl ?_
    refine KN.on (fun _ => Sb.hw) ?_
    exact KS.mk fun a w hS => (secretOf6_4_5_6_7_9_19 hk7 hk1 hqn hnl hnb hF _ _ _ hoy).out a w ((hS.heap' (Pm.hw hS.mem)).keep ⟨rfl, rfl, rfl, rfl, rfl, rfl, rfl, rfl, rfl, rfl, rfl, rfl, rfl, rfl, rfl, rfl, rfl, rfl, rfl, rfl, rfl, trivial⟩)
theorem secretOf6_2_4_6_9_19 (bp : Nat) (bq : Nat) (bg : Nat) (oy : Option Own) (hoy : oy = none → bt (pubN qn.2.2) = []) :
    KS w0 36 (anyC w0 (LB) secretOf6_ops K 6 (Ls 21 915287)) [(2, slV qn), (34, .bool sub), (33, .pointer (some ⟨k1, 1, none⟩)), (32, .int .u32 (created : Int)), (31, .pointer (some ⟨k1, 2, none⟩)), (30, .int .i64 (ver : Int)), (28, slV qn), (27, ownV oy (bt (pubN qn.2.2))), (26, slV qn), (24, .slice (some ⟨bg, 0, none⟩) (bt Gb).length (bt Gb).length), (22, .slice (some ⟨bq, 0, none⟩) (bt Qb).length (bt Qb).length), (20, .slice (some ⟨bp, 0, none⟩) (bt Pb).length (bt Pb).length), (19, .agg (keyC ver created kb).toArray), (18, slV qn), (1, .pointer (some ⟨k1, 0, none⟩)), (3, .pointer (some ⟨k3, 0, none⟩)), (4, .pointer (some ⟨k4, 0, none⟩)), (5, .int .i64 (ver : Int)), (6, slV qn), (7, .pointer (some ⟨k7, 0, none⟩))] ((bp, blk 5 (0, 0) (bt Pb)) :: ((bq, blk 5 (0, 0) (bt Qb)) :: ((bg, blk 5 (0, 0) (bt Gb)) :: (ownL 5 oy (bt (pubN qn.2.2)) ++ ((k3, blk 29 (0, 0) (keyC ver created kb)) :: (k4, blk 33 (0, 0) z33) :: LB))))) := by
  refine KN.three (i := 3) (j := 5) (k := 7) (by kernel_rfl) rfl rfl (show _ = (Ls 21 915295) by kernel_rfl) ?_ rfl rfl (show _ = (Ls 21 915319) by kernel_rfl) ?_ rfl rfl (show _ = (Ls 21 915415) by kernel_rfl) ?_
  · skip
    refine OW.mark Tryz.runUnderlying23 Tryz.runUnderlying5 rfl .here rfl ?_
    refine KN.on (fun _ => Sb.hw) ?_
    exact KS.mk fun a w hS => (secretOf6_2_3_4_6_9_19 hk7 hk1 hqn hnl hnb hF _ _ _ _ hoy).out a w ((hS.heap' (Pm.hw hS.mem)).keep ⟨rfl, rfl, rfl, rfl, rfl, rfl, rfl, rfl, rfl, rfl, rfl, rfl, rfl, rfl, rfl, rfl, rfl, rfl, rfl, rfl, rfl, trivial⟩)
  · skip
    refine OW.mark Tryz.runUnderlying23 Tryz.runUnderlying5 rfl (.there .here) rfl ?_
    refine KN.on (fun _ => Sb.hw) ?_
    exact KS.mk fun a w hS => (secretOf6_2_4_5_6_9_19 hk7 hk1 hqn hnl hnb hF _ _ _ _ hoy).out a w ((hS.heap' (Pm.hw hS.mem)).keep ⟨rfl, rfl, rfl, rfl, rfl, rfl, rfl, rfl, rfl, rfl, rfl, rfl, rfl, rfl, rfl, rfl, rfl, rfl, rfl, rfl, rfl, trivial⟩)
  · skip
    refine OW.mark Tryz.runUnderlying23 Tryz.runUnderlying5 rfl (.there (.there .here)) rfl ?_
    refine KN.on (fun _ => Sb.hw) ?_
    exact KS.mk fun a w hS => (secretOf6_2_4_6_7_9_19 hk7 hk1 hqn hnl hnb hF _ _ _ _ hoy).out a w ((hS.heap' (Pm.hw hS.mem)).keep ⟨rfl, rfl, rfl, rfl, rfl, rfl, rfl, rfl, rfl, rfl, rfl, rfl, rfl, rfl, rfl, rfl, rfl, rfl, rfl, rfl, rfl, trivial⟩)
theorem secretOf6_2_3_6_9_19 (bp : Nat) (bg : Nat) (oy : Option Own) (hoy : oy = none → bt (pubN qn.2.2) = []) :
    KS w0 36 (anyC w0 (LB) secretOf6_ops K 6 (Ls 21 915279)) [(2, slV qn), (34, .bool sub), (33, .pointer (some ⟨k1, 1, none⟩)), (32, .int .u32 (created : Int)), (31, .pointer (some ⟨k1, 2, none⟩)), (30, .int .i64 (ver : Int)), (28, slV qn), (27, ownV oy (bt (pubN qn.2.2))), (26, slV qn), (24, .slice (some ⟨bg, 0, none⟩) (bt Gb).length (bt Gb).length), (21, .slice (some ⟨bp, 0, none⟩) (bt Pb).length (bt Pb).length), (20, .slice (some ⟨bp, 0, none⟩) (bt Pb).length (bt Pb).length), (19, .agg (keyC ver created kb).toArray), (18, slV qn), (1, .pointer (some ⟨k1, 0, none⟩)), (3, .pointer (some ⟨k3, 0, none⟩)), (4, .pointer (some ⟨k4, 0, none⟩)), (5, .int .i64 (ver : Int)), (6, slV qn), (7, .pointer (some ⟨k7, 0, none⟩))] ((bp, blk 5 ((bt Pb).length, (bt Pb).length + 1) (bt Pb)) :: ((bg, blk 5 (0, 0) (bt Gb)) :: (ownL 5 oy (bt (pubN qn.2.2)) ++ ((k3, blk 29 (0, 0) (keyC ver created kb)) :: (k4, blk 33 (0, 0) z33) :: LB)))) := by
  refine KN.two (i := 4) (j := 7) (by kernel_rfl) rfl rfl (show _ = (Ls 21 915295) by kernel_rfl) ?_ rfl rfl (show _ = (Ls 21 915407) by kernel_rfl) ?_
  · skip
    refine OW.buildSlice (us := bt Qb) (xs := [.const (.int .u8 255), .const (.int .u8 255), .const (.int .u8 255), .const (.int .u8 255), .const (.int .u8 255), .const (.int .u8 255), .const (.int .u8 255), .const (.int .u8 255), .const (.int .u8 255), .const (.int .u8 255), .const (.int .u8 255), .const (.int .u8 255), .const (.int .u8 255), .const (.int .u8 255), .const (.int .u8 255), .const (.int .u8 255), .const (.int .u8 255), .const (.int .u8 255), .const (.int .u8 255), .const (.int .u8 209)]) Tryz.runUnderlying23 Tryz.sizeOf5 Tryz.zeroValue5 rfl rfl rfl (by decide) rfl (fun bq => ?_) rfl rfl
    refine KN.on (fun _ => Sb.hw) ?_
    exact KS.mk fun a w hS => (secretOf6_2_3_4_6_9_19 hk7 hk1 hqn hnl hnb hF _ _ _ _ hoy).out a w ((hS.heap' (Pm.hw hS.mem)).keep ⟨rfl, rfl, rfl, rfl, rfl, rfl, rfl, rfl, rfl, rfl, rfl, rfl, rfl, rfl, rfl, rfl, rfl, rfl, rfl, rfl, rfl, trivial⟩)
  · skip
    refine OW.mark Tryz.runUnderlying23 Tryz.runUnderlying5 rfl (.there .here) rfl ?_
    refine KN.on (fun _ => Sb.hw) ?_
    exact KS.mk fun a w hS => (secretOf6_2_3_6_7_9_19 hk7 hk1 hqn hnl hnb hF _ _ _ hoy).out a w ((hS.heap' (Pm.hw hS.mem)).keep ⟨rfl, rfl, rfl, rfl, rfl, rfl, rfl, rfl, rfl, rfl, rfl, rfl, rfl, rfl, rfl, rfl, rfl, rfl, rfl, rfl, rfl, trivial⟩)
theorem secretOf6_2_4_5_9_19 (bp : Nat) (bq : Nat) (oy : Option Own) (hoy : oy = none → bt (pubN qn.2.2) = []) :
    KS w0 36 (anyC w0 (LB) secretOf6_ops K 6 (Ls 21 915255)) [(2, slV qn), (34, .bool sub), (33, .pointer (some ⟨k1, 1, none⟩)), (32, .int .u32 (created : Int)), (31, .pointer (some ⟨k1, 2, none⟩)), (30, .int .i64 (ver : Int)), (28, slV qn), (27, ownV oy (bt (pubN qn.2.2))), (26, slV qn), (23, .slice (some ⟨bq, 0, none⟩) (bt Qb).length (bt Qb).length), (22, .slice (some ⟨bq, 0, none⟩) (bt Qb).length (bt Qb).length), (20, .slice (some ⟨bp, 0, none⟩) (bt Pb).length (bt Pb).length), (19, .agg (keyC ver created kb).toArray), (18, slV qn), (1, .pointer (some ⟨k1, 0, none⟩)), (3, .pointer (some ⟨k3, 0, none⟩)), (4, .pointer (some ⟨k4, 0, none⟩)), (5, .int .i64 (ver : Int)), (6, slV qn), (7, .pointer (some ⟨k7, 0, none⟩))] ((bp, blk 5 (0, 0) (bt Pb)) :: ((bq, blk 5 ((bt Qb).length, (bt Qb).length + 1) (bt Qb)) :: (ownL 5 oy (bt (pubN qn.2.2)) ++ ((k3, blk 29 (0, 0) (keyC ver created kb)) :: (k4, blk 33 (0, 0) z33) :: LB)))) := by
  refine KN.two (i := 3) (j := 6) (by kernel_rfl) rfl rfl (show _ = (Ls 21 915263) by kernel_rfl) ?_ rfl rfl (show _ = (Ls 21 915319) by kernel_rfl) ?_
  · skip
    refine OW.mark Tryz.runUnderlying23 Tryz.runUnderlying5 rfl .here rfl ?_
    refine KN.on (fun _ => Sb.hw) ?_
    exact KS.mk fun a w hS => (secretOf6_2_3_4_5_9_19 hk7 hk1 hqn hnl hnb hF _ _ _ hoy).out a w ((hS.heap' (Pm.hw hS.mem)).keep ⟨rfl, rfl, rfl, rfl, rfl, rfl, rfl, rfl, rfl, rfl, rfl, rfl, rfl, rfl, rfl, rfl, rfl, rfl, rfl, rfl, rfl, trivial⟩)
  · skip
    refine OW.buildSlice (us := bt Gb) (xs := [.const (.int .u8 131), .const (.int .u8 5), .const (.int .u8 225), .const (.int .u8 200), .const (.int .u8 246), .const (.int .u8 133), .const (.int .u8 197), .const (.int .u8 165), .const (.int .u8 35), .const (.int .u8 209), .const (.int .u8 150), .const (.int .u8 65), .const (.int .u8 151), .const (.int .u8 215), .const (.int .u8 129), .const (.int .u8 228), .const (.int .u8 148), .const (.int .u8 103), .const (.int .u8 50), .const (.int .u8 126), .const (.int .u8 57), .const (.int .u8 130), .const (.int .u8 47), .const (.int .u8 61), .const (.int .u8 39)]) Tryz.runUnderlying23 Tryz.sizeOf5 Tryz.zeroValue5 rfl rfl rfl (by decide) rfl (fun bg => ?_) rfl rfl
    refine KN.on (fun _ => Sb.hw) ?_
    exact KS.mk fun a w hS => (secretOf6_2_4_5_6_9_19 hk7 hk1 hqn hnl hnb hF _ _ _ _ hoy).out a w ((hS.heap' (Pm.hw hS.mem)).keep ⟨rfl, rfl, rfl, rfl, rfl, rfl, rfl, rfl, rfl, rfl, rfl, rfl, rfl, rfl, rfl, rfl, rfl, rfl, rfl, rfl, rfl, trivial⟩)
theorem secretOf6_2_3_4_9_19 (bp : Nat) (bq : Nat) (oy : Option Own) (hoy : oy = none → bt (pubN qn.2.2) = []) :
    KS w0 36 (anyC w0 (LB) secretOf6_ops K 6 (Ls 21 915231)) [(2, slV qn), (34, .bool sub), (33, .pointer (some ⟨k1, 1, none⟩)), (32, .int .u32 (created : Int)), (31, .pointer (some ⟨k1, 2, none⟩)), (30, .int .i64 (ver : Int)), (28, slV qn), (27, ownV oy (bt (pubN qn.2.2))), (26, slV qn), (22, .slice (some ⟨bq, 0, none⟩) (bt Qb).length (bt Qb).length), (21, .slice (some ⟨bp, 0, none⟩) (bt Pb).length (bt Pb).length), (20, .slice (some ⟨bp, 0, none⟩) (bt Pb).length (bt Pb).length), (19, .agg (keyC ver created kb).toArray), (18, slV qn), (1, .pointer (some ⟨k1, 0, none⟩)), (3, .pointer (some ⟨k3, 0, none⟩)), (4, .pointer (some ⟨k4, 0, none⟩)), (5, .int .i64 (ver : Int)), (6, slV qn), (7, .pointer (some ⟨k7, 0, none⟩))] ((bp, blk 5 ((bt Pb).length, (bt Pb).length + 1) (bt Pb)) :: ((bq, blk 5 (0, 0) (bt Qb)) :: (ownL 5 oy (bt (pubN qn.2.2)) ++ ((k3, blk 29 (0, 0) (keyC ver created kb)) :: (k4, blk 33 (0, 0) z33) :: LB)))) := by
  refine KN.two (i := 5) (j := 6) (by kernel_rfl) rfl rfl (show _ = (Ls 21 915263) by kernel_rfl) ?_ rfl rfl (show _ = (Ls 21 915295) by kernel_rfl) ?_
  · skip
    refine OW.mark Tryz.runUnderlying23 Tryz.runUnderlying5 rfl (.there .here) rfl ?_
    refine KN.on (fun _ => Sb.hw) ?_
    exact KS.mk fun a w hS => (secretOf6_2_3_4_5_9_19 hk7 hk1 hqn hnl hnb hF _ _ _ hoy).out a w ((hS.heap' (Pm.hw hS.mem)).keep ⟨rfl, rfl, rfl, rfl, rfl, rfl, rfl, rfl, rfl, rfl, rfl, rfl, rfl, rfl, rfl, rfl, rfl, rfl, rfl, rfl, rfl, trivial⟩)
  · skip
    refine OW.buildSlice (us := bt Gb) (xs := [.const (.int .u8 131), .const (.int .u8 5), .const (.int .u8 225), .const (.int .u8 200), .const (.int .u8 246), .const (.int .u8 133), .const (.int .u8 197), .const (.int .u8 165), .const (.int .u8 35), .const (.int .u8 209), .const (.int .u8 150), .const (.int .u8 65), .const (.int .u8 151), .const (.int .u8 215), .const (.int .u8 129), .const (.int .u8 228), .const (.int .u8 148), .const (.int .u8 103), .const (.int .u8 50), .const (.int .u8 126), .const (.int .u8 57), .const (.int .u8 130), .const (.int .u8 47), .const (.int .u8 61), .const (.int .u8 39)]) Tryz.runUnderlying23 Tryz.sizeOf5 Tryz.zeroValue5 rfl rfl rfl (by decide) rfl (fun bg => ?_) rfl rfl
    refine KN.on (fun _ => Sb.hw) ?_
    exact KS.mk fun a w hS => (secretOf6_2_3_4_6_9_19 hk7 hk1 hqn hnl hnb hF _ _ _ _ hoy).out a w ((hS.heap' (Pm.hw hS.mem)).keep ⟨rfl, rfl, rfl, rfl, rfl, rfl, rfl, rfl, rfl, rfl, rfl, rfl, rfl, rfl, rfl, rfl, rfl, rfl, rfl, rfl, rfl, trivial⟩)
theorem secretOf6_4_5_6_7_9 (bq : Nat) (bg : Nat) (oy : Option Own) (hoy : oy = none → bt (pubN qn.2.2) = []) :
    KS w0 36 (anyC w0 (LB) secretOf6_ops K 6 (Ls 21 391155)) [(2, slV qn), (34, .bool sub), (33, .pointer (some ⟨k1, 1, none⟩)), (32, .int .u32 (created : Int)), (31, .pointer (some ⟨k1, 2, none⟩)), (30, .int .i64 (ver : Int)), (28, slV qn), (27, ownV oy (bt (pubN qn.2.2))), (26, slV qn), (25, .slice (some ⟨bg, 0, none⟩) (bt Gb).length (bt Gb).length), (24, .slice (some ⟨bg, 0, none⟩) (bt Gb).length (bt Gb).length), (23, .slice (some ⟨bq, 0, none⟩) (bt Qb).length (bt Qb).length), (22, .slice (some ⟨bq, 0, none⟩) (bt Qb).length (bt Qb).length), (19, .agg (keyC ver created kb).toArray), (18, slV qn), (1, .pointer (some ⟨k1, 0, none⟩)), (3, .pointer (some ⟨k3, 0, none⟩)), (4, .pointer (some ⟨k4, 0, none⟩)), (5, .int .i64 (ver : Int)), (6, slV qn), (7, .pointer (some ⟨k7, 0, none⟩))] ((bq, blk 5 ((bt Qb).length, (bt Qb).length + 1) (bt Qb)) :: ((bg, blk 5 ((bt Gb).length, (bt Gb).length + 1) (bt Gb)) :: (ownL 5 oy (bt (pubN qn.2.2)) ++ ((k3, blk 29 (0, 0) z29) :: (k4, blk 33 (0, 0) z33) :: LB)))) := by
  refine KN.two (i := 2) (j := 19) (by kernel_rfl) rfl rfl (show _ = (Ls 21 391159) by kernel_rfl) ?_ rfl rfl (show _ = (Ls 21 915443) by kernel_rfl) ?_
  · skip
    refine OW.buildSlice (us := bt Pb) (xs := [.const (.int .u8 1), .const (.int .u8 0), .const (.int .u8 0), .const (.int .u8 0), .const (.int .u8 0), .const (.int .u8 1), .const (.int .u8 255), .const (.int .u8 255), .const (.int .u8 255), .const (.int .u8 255), .const (.int .u8 255), .const (.int .u8 255), .const (.int .u8 255), .const (.int .u8 255), .const (.int .u8 255), .const (.int .u8 255), .const (.int .u8 255), .const (.int .u8 255), .const (.int .u8 255), .const (.int .u8 255), .const (.int .u8 208), .const (.int .u8 255), .const (.int .u8 255), .const (.int .u8 255), .const (.int .u8 255), .const (.int .u8 163)]) Tryz.runUnderlying23 Tryz.sizeOf5 Tryz.zeroValue5 rfl rfl rfl (by decide) rfl (fun bp => ?_) rfl rfl
    refine KN.on (fun _ => Sb.hw) ?_
    exact KS.mk fun a w hS => (secretOf6_2_4_5_6_7_9 hk7 hk1 hqn hnl hnb hF _ _ _ _ hoy).out a w ((hS.heap' (Pm.hw hS.mem)).keep ⟨rfl, rfl, rfl, rfl, rfl, rfl, rfl, rfl, rfl, rfl, rfl, rfl, rfl, rfl, rfl, rfl, rfl, rfl, rfl, rfl, rfl, rfl, trivial⟩)
  · skip
    refine OW.storeAgg (us := (keyC ver created kb)) Tryz.sizeOf29 rfl rfl rfl rfl (overlay_all _ _ (by rfl)) (.there (.there (At.over .here _))) (Nat.le_refl _) ?_
    refine KN.on (fun _ => Sb.hw) ?_
    exact KS.mk fun a w hS => (secretOf6_4_5_6_7_9_19 hk7 hk1 hqn hnl hnb hF _ _ _ hoy).out a w ((hS.heap' (Pm.hw hS.mem)).keep ⟨rfl, rfl, rfl, rfl, rfl, rfl, rfl, rfl, rfl, rfl, rfl, rfl, rfl, rfl, rfl, rfl, rfl, rfl, rfl, rfl, rfl, trivial⟩)
theorem secretOf6_2_4_6_7_9 (bp : Nat) (bq : Nat) (bg : Nat) (oy : Option Own) (hoy : oy = none → bt (pubN qn.2.2) = []) :
    KS w0 36 (anyC w0 (LB) secretOf6_ops K 6 (Ls 21 391127)) [(2, slV qn), (34, .bool sub), (33, .pointer (some ⟨k1, 1, none⟩)), (32, .int .u32 (created : Int)), (31, .pointer (some ⟨k1, 2, none⟩)), (30, .int .i64 (ver : Int)), (28, slV qn), (27, ownV oy (bt (pubN qn.2.2))), (26, slV qn), (25, .slice (some ⟨bg, 0, none⟩) (bt Gb).length (bt Gb).length), (24, .slice (some ⟨bg, 0, none⟩) (bt Gb).length (bt Gb).length), (22, .slice (some ⟨bq, 0, none⟩) (bt Qb).length (bt Qb).length), (20, .slice (some ⟨bp, 0, none⟩) (bt Pb).length (bt Pb).length), (19, .agg (keyC ver created kb).toArray), (18, slV qn), (1, .pointer (some ⟨k1, 0, none⟩)), (3, .pointer (some ⟨k3, 0, none⟩)), (4, .pointer (some ⟨k4, 0, none⟩)), (5, .int .i64 (ver : Int)), (6, slV qn), (7, .pointer (some ⟨k7, 0, none⟩))] ((bp, blk 5 (0, 0) (bt Pb)) :: ((bq, blk 5 (0, 0) (bt Qb)) :: ((bg, blk 5 ((bt Gb).length, (bt Gb).length + 1) (bt Gb)) :: (ownL 5 oy (bt (pubN qn.2.2)) ++ ((k3, blk 29 (0, 0) z29) :: (k4, blk 33 (0, 0) z33) :: LB))))) := by
  refine KN.three (i := 3) (j := 5) (k := 19) (by kernel_rfl) rfl rfl (show _ = (Ls 21 391135) by kernel_rfl) ?_ rfl rfl (show _ = (Ls 21 391159) by kernel_rfl) ?_ rfl rfl (show _ = (Ls 21 915415) by kernel_rfl) ?_
  · skip
    refine OW.mark Tryz.runUnderlying23 Tryz.runUnderlying5 rfl .here rfl ?_
    refine KN.on (fun _ => Sb.hw) ?_
    exact KS.mk fun a w hS => (secretOf6_2_3_4_6_7_9 hk7 hk1 hqn hnl hnb hF _ _ _ _ hoy).out a w ((hS.heap' (Pm.hw hS.mem)).keep ⟨rfl, rfl, rfl, rfl, rfl, rfl, rfl, rfl, rfl, rfl, rfl, rfl, rfl, rfl, rfl, rfl, rfl, rfl, rfl, rfl, rfl, rfl, trivial⟩)
  · skip
    refine OW.mark Tryz.runUnderlying23 Tryz.runUnderlying5 rfl (.there .here) rfl ?_
    refine KN.on (fun _ => Sb.hw) ?_
    exact KS.mk fun a w hS => (secretOf6_2_4_5_6_7_9 hk7 hk1 hqn hnl hnb hF _ _ _ _ hoy).out a w ((hS.heap' (Pm.hw hS.mem)).keep ⟨rfl, rfl, rfl, rfl, rfl, rfl, rfl, rfl, rfl, rfl, rfl, rfl, rfl, rfl, rfl, rfl, rfl, rfl, rfl, rfl, rfl, rfl, trivial⟩)
  · skip
    refine OW.storeAgg (us := (keyC ver created kb)) Tryz.sizeOf29 rfl rfl rfl rfl (overlay_all _ _ (by rfl)) (.there (.there (.there (At.over .here _)))) (Nat.le_refl _) ?_
    refine KN.on (fun _ => Sb.hw) ?_
    exact KS.mk fun a w hS => (secretOf6_2_4_6_7_9_19 hk7 hk1 hqn hnl hnb hF _ _ _ _ hoy).out a w ((hS.heap' (Pm.hw hS.mem)).keep ⟨rfl, rfl, rfl, rfl, rfl, rfl, rfl, rfl, rfl, rfl, rfl, rfl, rfl, rfl, rfl, rfl, rfl, rfl, rfl, rfl, rfl, trivial⟩)
theorem secretOf6_2_3_6_7_9 (bp : Nat) (bg : Nat) (oy : Option Own) (hoy : oy = none → bt (pubN qn.2.2) = []) :
    KS w0 36 (anyC w0 (LB) secretOf6_ops K 6 (Ls 21 391119)) [(2, slV qn), (34, .bool sub), (33, .pointer (some ⟨k1, 1, none⟩)), (32, .int .u32 (created : Int)), (31, .pointer (some ⟨k1, 2, none⟩)), (30, .int .i64 (ver : Int)), (28, slV qn), (27, ownV oy (bt (pubN qn.2.2))), (26, slV qn), (25, .slice (some ⟨bg, 0, none⟩) (bt Gb).length (bt Gb).length), (24, .slice (some ⟨bg, 0, none⟩) (bt Gb).length (bt Gb).length), (21, .slice (some ⟨bp, 0, none⟩) (bt Pb).length (bt Pb).length), (20, .slice (some ⟨bp, 0, none⟩) (bt Pb).length (bt Pb).length), (19, .agg (keyC ver created kb).toArray), (18, slV qn), (1, .pointer (some ⟨k1, 0, none⟩)), (3, .pointer (some ⟨k3, 0, none⟩)), (4, .pointer (some ⟨k4, 0, none⟩)), (5, .int .i64 (ver : Int)), (6, slV qn), (7, .pointer (some ⟨k7, 0, none⟩))] ((bp, blk 5 ((bt Pb).length, (bt Pb).length + 1) (bt Pb)) :: ((bg, blk 5 ((bt Gb).length, (bt Gb).length + 1) (bt Gb)) :: (ownL 5 oy (bt (pubN qn.2.2)) ++ ((k3, blk 29 (0, 0) z29) :: (k4, blk 33 (0, 0) z33) :: LB)))) := by
  refine KN.two (i := 4) (j := 19) (by kernel_rfl) rfl rfl (show _ = (Ls 21 391135) by kernel_rfl) ?_ rfl rfl (show _ = (Ls 21 915407) by kernel_rfl) ?_
  · skip
    refine OW.buildSlice (us := bt Qb) (xs := [.const (.int .u8 255), .const (.int .u8 255), .const (.int .u8 255), .const (.int .u8 255), .const (.int .u8 255), .const (.int .u8 255), .const (.int .u8 255), .const (.int .u8 255), .const (.int .u8 255), .const (.int .u8 255), .const (.int .u8 255), .const (.int .u8 255), .const (.int .u8 255), .const (.int .u8 255), .const (.int .u8 255), .const (.int .u8 255), .const (.int .u8 255), .const (.int .u8 255), .const (.int .u8 255), .const (.int .u8 209)]) Tryz.runUnderlying23 Tryz.sizeOf5 Tryz.zeroValue5 rfl rfl rfl (by decide) rfl (fun bq => ?_) rfl rfl
    refine KN.on (fun _ => Sb.hw) ?_
    exact KS.mk fun a w hS => (secretOf6_2_3_4_6_7_9 hk7 hk1 hqn hnl hnb hF _ _ _ _ hoy).out a w ((hS.heap' (Pm.hw hS.mem)).keep ⟨rfl, rfl, rfl, rfl, rfl, rfl, rfl, rfl, rfl, rfl, rfl, rfl, rfl, rfl, rfl, rfl, rfl, rfl, rfl, rfl, rfl, rfl, trivial⟩)
  · skip
    refine OW.storeAgg (us := (keyC ver created kb)) Tryz.sizeOf29 rfl rfl rfl rfl (overlay_all _ _ (by rfl)) (.there (.there (At.over .here _))) (Nat.le_refl _) ?_
    refine KN.on (fun _ => Sb.hw) ?_
    exact KS.mk fun a w hS => (secretOf6_2_3_6_7_9_19 hk7 hk1 hqn hnl hnb hF _ _ _ hoy).out a w ((hS.heap' (Pm.hw hS.mem)).keep ⟨rfl, rfl, rfl, rfl, rfl, rfl, rfl, rfl, rfl, rfl, rfl, rfl, rfl, rfl, rfl, rfl, rfl, rfl, rfl, rfl, rfl, trivial⟩)
theorem secretOf6_2_4_5_6_9 (bp : Nat) (bq : Nat) (bg : Nat) (oy : Option Own) (hoy : oy = none → bt (pubN qn.2.2) = []) :
    KS w0 36 (anyC w0 (LB) secretOf6_ops K 6 (Ls 21 391031)) [(2, slV qn), (34, .bool sub), (33, .pointer (some ⟨k1, 1, none⟩)), (32, .int .u32 (created : Int)), (31, .pointer (some ⟨k1, 2, none⟩)), (30, .int .i64 (ver : Int)), (28, slV qn), (27, ownV oy (bt (pubN qn.2.2))), (26, slV qn), (24, .slice (some ⟨bg, 0, none⟩) (bt Gb).length (bt Gb).length), (23, .slice (some ⟨bq, 0, none⟩) (bt Qb).length (bt Qb).length), (22, .slice (some ⟨bq, 0, none⟩) (bt Qb).length (bt Qb).length), (20, .slice (some ⟨bp, 0, none⟩) (bt Pb).length (bt Pb).length), (19, .agg (keyC ver created kb).toArray), (18, slV qn), (1, .pointer (some ⟨k1, 0, none⟩)), (3, .pointer (some ⟨k3, 0, none⟩)), (4, .pointer (some ⟨k4, 0, none⟩)), (5, .int .i64 (ver : Int)), (6, slV qn), (7, .pointer (some ⟨k7, 0, none⟩))] ((bp, blk 5 (0, 0) (bt Pb)) :: ((bq, blk 5 ((bt Qb).length, (bt Qb).length + 1) (bt Qb)) :: ((bg, blk 5 (0, 0) (bt Gb)) :: (ownL 5 oy (bt (pubN qn.2.2)) ++ ((k3, blk 29 (0, 0) z29) :: (k4, blk 33 (0, 0) z33) :: LB))))) := by
  refine KN.three (i := 3) (j := 7) (k := 19) (by kernel_rfl) rfl rfl (show _ = (Ls 21 391039) by kernel_rfl) ?_ rfl rfl (show _ = (Ls 21 391159) by kernel_rfl) ?_ rfl rfl (show _ = (Ls 21 915319) by kernel_rfl) ?_
  · skip
    refine OW.mark Tryz.runUnderlying23 Tryz.runUnderlying5 rfl .here rfl ?_
    refine KN.on (fun _ => Sb.hw) ?_
    exact KS.mk fun a w hS => (secretOf6_2_3_4_5_6_9 hk7 hk1 hqn hnl hnb hF _ _ _ _ hoy).out a w ((hS.heap' (Pm.hw hS.mem)).keep ⟨rfl, rfl, rfl, rfl, rfl, rfl, rfl, rfl, rfl, rfl, rfl, rfl, rfl, rfl, rfl, rfl, rfl, rfl, rfl, rfl, rfl, rfl, trivial⟩)
  · skip
    refine OW.mark Tryz.runUnderlying23 Tryz.runUnderlying5 rfl (.there (.there .here)) rfl ?_
    refine KN.on (fun _ => Sb.hw) ?_
    exact KS.mk fun a w hS => (secretOf6_2_4_5_6_7_9 hk7 hk1 hqn hnl hnb hF _ _ _ _ hoy).out a w ((hS.heap' (Pm.hw hS.mem)).keep ⟨rfl, rfl, rfl, rfl, rfl, rfl, rfl, rfl, rfl, rfl, rfl, rfl, rfl, rfl, rfl, rfl, rfl, rfl, rfl, rfl, rfl, rfl, trivial⟩)
  · skip
    refine OW.storeAgg (us := (keyC ver created kb)) Tryz.sizeOf29 rfl rfl rfl rfl (overlay_all _ _ (by rfl)) (.there (.there (.there (At.over .here _)))) (Nat.le_refl _) ?_
    refine KN.on (fun _ => Sb.hw) ?_
    exact KS.mk fun a w hS => (secretOf6_2_4_5_6_9_19 hk7 hk1 hqn hnl hnb hF _ _ _ _ hoy).out a w ((hS.heap' (Pm.hw hS.mem)).keep ⟨rfl, rfl, rfl, rfl, rfl, rfl, rfl, rfl, rfl, rfl, rfl, rfl, rfl, rfl, rfl, rfl, rfl, rfl, rfl, rfl, rfl, trivial⟩)
theorem secretOf6_2_3_4_6_9 (bp : Nat) (bq : Nat) (bg : Nat) (oy : Option Own) (hoy : oy = none → bt (pubN qn.2.2) = []) :
    KS w0 36 (anyC w0 (LB) secretOf6_ops K 6 (Ls 21 391007)) [(2, slV qn), (34, .bool sub), (33, .pointer (some ⟨k1, 1, none⟩)), (32, .int .u32 (created : Int)), (31, .pointer (some ⟨k1, 2, none⟩)), (30, .int .i64 (ver : Int)), (28, slV qn), (27, ownV oy (bt (pubN qn.2.2))), (26, slV qn), (24, .slice (some ⟨bg, 0, none⟩) (bt Gb).length (bt Gb).length), (22, .slice (some ⟨bq, 0, none⟩) (bt Qb).length (bt Qb).length), (21, .slice (some ⟨bp, 0, none⟩) (bt Pb).length (bt Pb).length), (20, .slice (some ⟨bp, 0, none⟩) (bt Pb).length (bt Pb).length), (19, .agg (keyC ver created kb).toArray), (18, slV qn), (1, .pointer (some ⟨k1, 0, none⟩)), (3, .pointer (some ⟨k3, 0, none⟩)), (4, .pointer (some ⟨k4, 0, none⟩)), (5, .int .i64 (ver : Int)), (6, slV qn), (7, .pointer (some ⟨k7, 0, none⟩))] ((bp, blk 5 ((bt Pb).length, (bt Pb).length + 1) (bt Pb)) :: ((bq, blk 5 (0, 0) (bt Qb)) :: ((bg, blk 5 (0, 0) (bt Gb)) :: (ownL 5 oy (bt (pubN qn.2.2)) ++ ((k3, blk 29 (0, 0) z29) :: (k4, blk 33 (0, 0) z33) :: LB))))) := by
  refine KN.three (i := 5) (j := 7) (k := 19) (by kernel_rfl) rfl rfl (show _ = (Ls 21 391039) by kernel_rfl) ?_ rfl rfl (show _ = (Ls 21 391135) by kernel_rfl) ?_ rfl rfl (show _ = (Ls 21 915295) by kernel_rfl) ?_
  · skip
    refine OW.mark Tryz.runUnderlying23 Tryz.runUnderlying5 rfl (.there .here) rfl ?_
    refine KN.on (fun _ => Sb.hw) ?_
    exact KS.mk fun a w hS => (secretOf6_2_3_4_5_6_9 hk7 hk1 hqn hnl hnb hF _ _ _ _ hoy).out a w ((hS.heap' (Pm.hw hS.mem)).keep ⟨rfl, rfl, rfl, rfl, rfl, rfl, rfl, rfl, rfl, rfl, rfl, rfl, rfl, rfl, rfl, rfl, rfl, rfl, rfl, rfl, rfl, rfl, trivial⟩)
  · skip
    refine OW.mark Tryz.runUnderlying23 Tryz.runUnderlying5 rfl (.there (.there .here)) rfl ?_
    refine KN.on (fun _ => Sb.hw) ?_
    exact KS.mk fun a w hS => (secretOf6_2_3_4_6_7_9 hk7 hk1 hqn hnl hnb hF _ _ _ _ hoy).out a w ((hS.heap' (Pm.hw hS.mem)).keep ⟨rfl, rfl, rfl, rfl, rfl, rfl, rfl, rfl, rfl, rfl, rfl, rfl, rfl, rfl, rfl, rfl, rfl, rfl, rfl, rfl, rfl, rfl, trivial⟩)
  · skip
    refine OW.storeAgg (us := (keyC ver created kb)) Tryz.sizeOf29 rfl rfl rfl rfl (overlay_all _ _ (by rfl)) (.there (.there (.there (At.over .here _)))) (Nat.le_refl _) ?_
    refine KN.on (fun _ => Sb.hw) ?_
    exact KS.mk fun a w hS => (secretOf6_2_3_4_6_9_19 hk7 hk1 hqn hnl hnb hF _ _ _ _ hoy).out a w ((hS.heap' (Pm.hw hS.mem)).keep ⟨rfl, rfl, rfl, rfl, rfl, rfl, rfl, rfl, rfl, rfl, rfl, rfl, rfl, rfl, rfl, rfl, rfl, rfl, rfl, rfl, rfl, trivial⟩)
theorem secretOf6_2_3_4_5_9 (bp : Nat) (bq : Nat) (oy : Option Own) (hoy : oy = none → bt (pubN qn.2.2) = []) :
    KS w0 36 (anyC w0 (LB) secretOf6_ops K 6 (Ls 21 390975)) [(2, slV qn), (34, .bool sub), (33, .pointer (some ⟨k1, 1, none⟩)), (32, .int .u32 (created : Int)), (31, .pointer (some ⟨k1, 2, none⟩)), (30, .int .i64 (ver : Int)), (28, slV qn), (27, ownV oy (bt (pubN qn.2.2))), (26, slV qn), (23, .slice (some ⟨bq, 0, none⟩) (bt Qb).length (bt Qb).length), (22, .slice (some ⟨bq, 0, none⟩) (bt Qb).length (bt Qb).length), (21, .slice (some ⟨bp, 0, none⟩) (bt Pb).length (bt Pb).length), (20, .slice (some ⟨bp, 0, none⟩) (bt Pb).length (bt Pb).length), (19, .agg (keyC ver created kb).toArray), (18, slV qn), (1, .pointer (some ⟨k1, 0, none⟩)), (3, .pointer (some ⟨k3, 0, none⟩)), (4, .pointer (some ⟨k4, 0, none⟩)), (5, .int .i64 (ver : Int)), (6, slV qn), (7, .pointer (some ⟨k7, 0, none⟩))] ((bp, blk 5 ((bt Pb).length, (bt Pb).length + 1) (bt Pb)) :: ((bq, blk 5 ((bt Qb).length, (bt Qb).length + 1) (bt Qb)) :: (ownL 5 oy (bt (pubN qn.2.2)) ++ ((k3, blk 29 (0, 0) z29) :: (k4, blk 33 (0, 0) z33) :: LB)))) := by
  refine KN.two (i := 6) (j := 19) (by kernel_rfl) rfl rfl (show _ = (Ls 21 391039) by kernel_rfl) ?_ rfl rfl (show _ = (Ls 21 915263) by kernel_rfl) ?_
  · skip
    refine OW.buildSlice (us := bt Gb) (xs := [.const (.int .u8 131), .const (.int .u8 5), .const (.int .u8 225), .const (.int .u8 200), .const (.int .u8 246), .const (.int .u8 133), .const (.int .u8 197), .const (.int .u8 165), .const (.int .u8 35), .const (.int .u8 209), .const (.int .u8 150), .const (.int .u8 65), .const (.int .u8 151), .const (.int .u8 215), .const (.int .u8 129), .const (.int .u8 228), .const (.int .u8 148), .const (.int .u8 103), .const (.int .u8 50), .const (.int .u8 126), .const (.int .u8 57), .const (.int .u8 130), .const (.int .u8 47), .const (.int .u8 61), .const (.int .u8 39)]) Tryz.runUnderlying23 Tryz.sizeOf5 Tryz.zeroValue5 rfl rfl rfl (by decide) rfl (fun bg => ?_) rfl rfl
    refine KN.on (fun _ => Sb.hw) ?_
    exact KS.mk fun a w hS => (secretOf6_2_3_4_5_6_9 hk7 hk1 hqn hnl hnb hF _ _ _ _ hoy).out a w ((hS.heap' (Pm.hw hS.mem)).keep ⟨rfl, rfl, rfl, rfl, rfl, rfl, rfl, rfl, rfl, rfl, rfl, rfl, rfl, rfl, rfl, rfl, rfl, rfl, rfl, rfl, rfl, rfl, trivial⟩)
  · skip
    refine OW.storeAgg (us := (keyC ver created kb)) Tryz.sizeOf29 rfl rfl rfl rfl (overlay_all _ _ (by rfl)) (.there (.there (At.over .here _))) (Nat.le_refl _) ?_
    refine KN.on (fun _ => Sb.hw) ?_
    exact KS.mk fun a w hS => (secretOf6_2_3_4_5_9_19 hk7 hk1 hqn hnl hnb hF _ _ _ hoy).out a w ((hS.heap' (Pm.hw hS.mem)).keep ⟨rfl, rfl, rfl, rfl, rfl, rfl, rfl, rfl, rfl, rfl, rfl, rfl, rfl, rfl, rfl, rfl, rfl, rfl, rfl, rfl, rfl, trivial⟩)
theorem secretOf6_2_3_4_5_6_7 (bp : Nat) (bq : Nat) (bg : Nat)  :
    KS w0 36 (anyC w0 (LB) secretOf6_ops K 6 (Ls 21 128511)) [(34, .bool sub), (33, .pointer (some ⟨k1, 1, none⟩)), (32, .int .u32 (created : Int)), (31, .pointer (some ⟨k1, 2, none⟩)), (30, .int .i64 (ver : Int)), (28, slV qn), (26, slV qn), (25, .slice (some ⟨bg, 0, none⟩) (bt Gb).length (bt Gb).length), (24, .slice (some ⟨bg, 0, none⟩) (bt Gb).length (bt Gb).length), (23, .slice (some ⟨bq, 0, none⟩) (bt Qb).length (bt Qb).length), (22, .slice (some ⟨bq, 0, none⟩) (bt Qb).length (bt Qb).length), (21, .slice (some ⟨bp, 0, none⟩) (bt Pb).length (bt Pb).length), (20, .slice (some ⟨bp, 0, none⟩) (bt Pb).length (bt Pb).length), (19, .agg (keyC ver created kb).toArray), (18, slV qn), (1, .pointer (some ⟨k1, 0, none⟩)), (3, .pointer (some ⟨k3, 0, none⟩)), (4, .pointer (some ⟨k4, 0, none⟩)), (5, .int .i64 (ver : Int)), (6, slV qn), (7, .pointer (some ⟨k7, 0, none⟩))] ((bp, blk 5 ((bt Pb).length, (bt Pb).length + 1) (bt Pb)) :: ((bq, blk 5 ((bt Qb).length, (bt Qb).length + 1) (bt Qb)) :: ((bg, blk 5 ((bt Gb).length, (bt Gb).length + 1) (bt Gb)) :: ((k3, blk 29 (0, 0) z29) :: (k4, blk 33 (0, 0) z33) :: LB)))) := by
  refine KN.one (i := 9) (by kernel_rfl) rfl rfl (show _ = (Ls 21 129023) by kernel_rfl) ?_
  · skip
    refine OW.call (xs := [.tmp 26]) Tryz.call13 rfl (fun w hw => publicNumber_any w0 w _ _ _ _ qn.2.2 rfl (by omega) hqn.cap (hqn.rd.mono (fun _ h => (mS (mS (mS (mS (mS h))))))) hnb hw) rfl ?_
    rintro r w' ⟨oy, rfl, hoy, hw'⟩
    refine ⟨_, _, rfl, hw', ?_⟩
    refine KN.on (fun _ => Sb.hw) ?_
    refine KN.quiet (i := 11) (ls1 := (Ls 21 131071)) secretOf6_sel (by kernel_rfl) (by kernel_rfl) (fun _ => Sb.hw) rfl (v_build (is := [0, 1, 2, 3, 4]) (xs := [.tmp 21, .tmp 23, .tmp 25, .tmp 27, .tmp 28]) rfl rfl rfl build31) rfl ?_
    refine KN.quiet (i := 17) (ls1 := (Ls 21 262143)) secretOf6_sel (by kernel_rfl) (by kernel_rfl) (fun _ => Sb.hw) rfl (v_build (is := [0, 1, 2, 3]) (xs := [.tmp 29, .tmp 30, .tmp 32, .tmp 34]) rfl rfl rfl build33) rfl ?_
    refine KN.quiet (i := 18) (ls1 := (Ls 21 524287)) secretOf6_sel (by kernel_rfl) (by kernel_rfl) (fun _ => Sb.hw) rfl (v_assign rfl) rfl ?_
    exact KS.mk fun a w hS => (secretOf6_2_3_4_5_6_7_9 hk7 hk1 hqn hnl hnb hF _ _ _ _ hoy).out a w ((hS.heap' (Pm.hw hS.mem)).keep ⟨rfl, rfl, rfl, rfl, rfl, rfl, rfl, rfl, rfl, rfl, rfl, rfl, rfl, rfl, rfl, rfl, rfl, rfl, rfl, rfl, rfl, rfl, rfl, rfl, rfl, trivial⟩)
theorem secretOf6_6_7_9_19 (bg : Nat) (oy : Option Own) (hoy : oy = none → bt (pubN qn.2.2) = []) :
    KS w0 36 (anyC w0 (LB) secretOf6_ops K 7 (Ls 21 915395)) [(2, slV qn), (34, .bool sub), (33, .pointer (some ⟨k1, 1, none⟩)), (32, .int .u32 (created : Int)), (31, .pointer (some ⟨k1, 2, none⟩)), (30, .int .i64 (ver : Int)), (28, slV qn), (27, ownV oy (bt (pubN qn.2.2))), (26, slV qn), (25, .slice (some ⟨bg, 0, none⟩) (bt Gb).length (bt Gb).length), (24, .slice (some ⟨bg, 0, none⟩) (bt Gb).length (bt Gb).length), (19, .agg (keyC ver created kb).toArray), (18, slV qn), (1, .pointer (some ⟨k1, 0, none⟩)), (3, .pointer (some ⟨k3, 0, none⟩)), (4, .pointer (some ⟨k4, 0, none⟩)), (5, .int .i64 (ver : Int)), (6, slV qn), (7, .pointer (some ⟨k7, 0, none⟩))] ((bg, blk 5 ((bt Gb).length, (bt Gb).length + 1) (bt Gb)) :: (ownL 5 oy (bt (pubN qn.2.2)) ++ ((k3, blk 29 (0, 0) (keyC ver created kb)) :: (k4, blk 33 (0, 0) z33) :: LB))) := by
  refine KN.two (i := 2) (j := 4) (by kernel_rfl) rfl rfl (show _ = (Ls 21 915399) by kernel_rfl) ?_ rfl rfl (show _ = (Ls 21 915411) by kernel_rfl) ?_
  · skip
    refine OW.buildSlice (us := bt Pb) (xs := [.const (.int .u8 1), .const (.int .u8 0), .const (.int .u8 0), .const (.int .u8 0), .const (.int .u8 0), .const (.int .u8 1), .const (.int .u8 255), .const (.int .u8 255), .const (.int .u8 255), .const (.int .u8 255), .const (.int .u8 255), .const (.int .u8 255), .const (.int .u8 255), .const (.int .u8 255), .const (.int .u8 255), .const (.int .u8 255), .const (.int .u8 255), .const (.int .u8 255), .const (.int .u8 255), .const (.int .u8 255), .const (.int .u8 208), .const (.int .u8 255), .const (.int .u8 255), .const (.int .u8 255), .const (.int .u8 255), .const (.int .u8 163)]) Tryz.runUnderlying23 Tryz.sizeOf5 Tryz.zeroValue5 rfl rfl rfl (by decide) rfl (fun bp => ?_) rfl rfl
    refine KN.on (fun _ => Sb.hw) ?_
    exact KS.mk fun a w hS => (secretOf6_2_6_7_9_19 hk7 hk1 hqn hnl hnb hF _ _ _ hoy).out a w ((hS.heap' (Pm.hw hS.mem)).keep ⟨rfl, rfl, rfl, rfl, rfl, rfl, rfl, rfl, rfl, rfl, rfl, rfl, rfl, rfl, rfl, rfl, rfl, rfl, rfl, rfl, trivial⟩)
  · skip
    refine OW.buildSlice (us := bt Qb) (xs := [.const (.int .u8 255), .const (.int .u8 255), .const (.int .u8 255), .const (.int .u8 255), .const (.int .u8 255), .const (.int .u8 255), .const (.int .u8 255), .const (.int .u8 255), .const (.int .u8 255), .const (.int .u8 255), .const (.int .u8 255), .const (.int .u8 255), .const (.int .u8 255), .const (.int .u8 255), .const (.int .u8 255), .const (.int .u8 255), .const (.int .u8 255), .const (.int .u8 255), .const (.int .u8 255), .const (.int .u8 209)]) Tryz.runUnderlying23 Tryz.sizeOf5 Tryz.zeroValue5 rfl rfl rfl (by decide) rfl (fun bq => ?_) rfl rfl
    refine KN.on (fun _ => Sb.hw) ?_
    exact KS.mk fun a w hS => (secretOf6_4_6_7_9_19 hk7 hk1 hqn hnl hnb hF _ _ _ hoy).out a w ((hS.heap' (Pm.hw hS.mem)).keep ⟨rfl, rfl, rfl, rfl, rfl, rfl, rfl, rfl, rfl, rfl, rfl, rfl, rfl, rfl, rfl, rfl, rfl, rfl, rfl, rfl, trivial⟩)
theorem secretOf6_4_6_9_19 (bq : Nat) (bg : Nat) (oy : Option Own) (hoy : oy = none → bt (pubN qn.2.2) = []) :
    KS w0 36 (anyC w0 (LB) secretOf6_ops K 7 (Ls 21 915283)) [(2, slV qn), (34, .bool sub), (33, .pointer (some ⟨k1, 1, none⟩)), (32, .int .u32 (created : Int)), (31, .pointer (some ⟨k1, 2, none⟩)), (30, .int .i64 (ver : Int)), (28, slV qn), (27, ownV oy (bt (pubN qn.2.2))), (26, slV qn), (24, .slice (some ⟨bg, 0, none⟩) (bt Gb).length (bt Gb).length), (22, .slice (some ⟨bq, 0, none⟩) (bt Qb).length (bt Qb).length), (19, .agg (keyC ver created kb).toArray), (18, slV qn), (1, .pointer (some ⟨k1, 0, none⟩)), (3, .pointer (some ⟨k3, 0, none⟩)), (4, .pointer (some ⟨k4, 0, none⟩)), (5, .int .i64 (ver : Int)), (6, slV qn), (7, .pointer (some ⟨k7, 0, none⟩))] ((bq, blk 5 (0, 0) (bt Qb)) :: ((bg, blk 5 (0, 0) (bt Gb)) :: (ownL 5 oy (bt (pubN qn.2.2)) ++ ((k3, blk 29 (0, 0) (keyC ver created kb)) :: (k4, blk 33 (0, 0) z33) :: LB)))) := by
  refine KN.three (i := 2) (j := 5) (k := 7) (by kernel_rfl) rfl rfl (show _ = (Ls 21 915287) by kernel_rfl) ?_ rfl rfl (show _ = (Ls 21 915315) by kernel_rfl) ?_ rfl rfl (show _ = (Ls 21 915411) by kernel_rfl) ?_
  · skip
    refine OW.buildSlice (us := bt Pb) (xs := [.const (.int .u8 1), .const (.int .u8 0), .const (.int .u8 0), .const (.int .u8 0), .const (.int .u8 0), .const (.int .u8 1), .const (.int .u8 255), .const (.int .u8 255), .const (.int .u8 255), .const (.int .u8 255), .const (.int .u8 255), .const (.int .u8 255), .const (.int .u8 255), .const (.int .u8 255), .const (.int .u8 255), .const (.int .u8 255), .const (.int .u8 255), .const (.int .u8 255), .const (.int .u8 255), .const (.int .u8 255), .const (.int .u8 208), .const (.int .u8 255), .const (.int .u8 255), .const (.int .u8 255), .const (.int .u8 255), .const (.int .u8 163)]) Tryz.runUnderlying23 Tryz.sizeOf5 Tryz.zeroValue5 rfl rfl rfl (by decide) rfl (fun bp => ?_) rfl rfl
    refine KN.on (fun _ => Sb.hw) ?_
    exact KS.mk fun a w hS => (secretOf6_2_4_6_9_19 hk7 hk1 hqn hnl hnb hF _ _ _ _ hoy).out a w ((hS.heap' (Pm.hw hS.mem)).keep ⟨rfl, rfl, rfl, rfl, rfl, rfl, rfl, rfl, rfl, rfl, rfl, rfl, rfl, rfl, rfl, rfl, rfl, rfl, rfl, rfl, trivial⟩)
  · skip
    refine OW.mark Tryz.runUnderlying23 Tryz.runUnderlying5 rfl .here rfl ?_
    refine KN.on (fun _ => Sb.hw) ?_
    exact KS.mk fun a w hS => (secretOf6_4_5_6_9_19 hk7 hk1 hqn hnl hnb hF _ _ _ hoy).out a w ((hS.heap' (Pm.hw hS.mem)).keep ⟨rfl, rfl, rfl, rfl, rfl, rfl, rfl, rfl, rfl, rfl, rfl, rfl, rfl, rfl, rfl, rfl, rfl, rfl, rfl, rfl, trivial⟩)
  · skip
    refine OW.mark Tryz.runUnderlying23 Tryz.runUnderlying5 rfl (.there .here) rfl ?_
    refine KN.on (fun _ => Sb.hw) ?_
    exact KS.mk fun a w hS => (secretOf6_4_6_7_9_19 hk7 hk1 hqn hnl hnb hF _ _ _ hoy).out a w ((hS.heap' (Pm.hw hS.mem)).keep ⟨rfl, rfl, rfl, rfl, rfl, rfl, rfl, rfl, rfl, rfl, rfl, rfl, rfl, rfl, rfl, rfl, rfl, rfl, rfl, rfl, trivial⟩)
theorem secretOf6_2_6_9_19 (bp : Nat) (bg : Nat) (oy : Option Own) (hoy : oy = none → bt (pubN qn.2.2) = []) :
    KS w0 36 (anyC w0 (LB) secretOf6_ops K 7 (Ls 21 915271)) [(2, slV qn), (34, .bool sub), (33, .pointer (some ⟨k1, 1, none⟩)), (32, .int .u32 (created : Int)), (31, .pointer (some ⟨k1, 2, none⟩)), (30, .int .i64 (ver : Int)), (28, slV qn), (27, ownV oy (bt (pubN qn.2.2))), (26, slV qn), (24, .slice (some ⟨bg, 0, none⟩) (bt Gb).length (bt Gb).length), (20, .slice (some ⟨bp, 0, none⟩) (bt Pb).length (bt Pb).length), (19, .agg (keyC ver created kb).toArray), (18, slV qn), (1, .pointer (some ⟨k1, 0, none⟩)), (3, .pointer (some ⟨k3, 0, none⟩)), (4, .pointer (some ⟨k4, 0, none⟩)), (5, .int .i64 (ver : Int)), (6, slV qn), (7, .pointer (some ⟨k7, 0, none⟩))] ((bp, blk 5 (0, 0) (bt Pb)) :: ((bg, blk 5 (0, 0) (bt Gb)) :: (ownL 5 oy (bt (pubN qn.2.2)) ++ ((k3, blk 29 (0, 0) (keyC ver created kb)) :: (k4, blk 33 (0, 0) z33) :: LB)))) := by
  refine KN.three (i := 3) (j := 4) (k := 7) (by kernel_rfl) rfl rfl (show _ = (Ls 21 915279) by kernel_rfl) ?_ rfl rfl (show _ = (Ls 21 915287) by kernel_rfl) ?_ rfl rfl (show _ = (Ls 21 915399) by kernel_rfl) ?_
  · skip
    refine OW.mark Tryz.runUnderlying23 Tryz.runUnderlying5 rfl .here rfl ?_
    refine KN.on (fun _ => Sb.hw) ?_
    exact KS.mk fun a w hS => (secretOf6_2_3_6_9_19 hk7 hk1 hqn hnl hnb hF _ _ _ hoy).out a w ((hS.heap' (Pm.hw hS.mem)).keep ⟨rfl, rfl, rfl, rfl, rfl, rfl, rfl, rfl, rfl, rfl, rfl, rfl, rfl, rfl, rfl, rfl, rfl, rfl, rfl, rfl, trivial⟩)
  · skip
    refine OW.buildSlice (us := bt Qb) (xs := [.const (.int .u8 255), .const (.int .u8 255), .const (.int .u8 255), .const (.int .u8 255), .const (.int .u8 255), .const (.int .u8 255), .const (.int .u8 255), .const (.int .u8 255), .const (.int .u8 255), .const (.int .u8 255), .const (.int .u8 255), .const (.int .u8 255), .const (.int .u8 255), .const (.int .u8 255), .const (.int .u8 255), .const (.int .u8 255), .const (.int .u8 255), .const (.int .u8 255), .const (.int .u8 255), .const (.int .u8 209)]) Tryz.runUnderlying23 Tryz.sizeOf5 Tryz.zeroValue5 rfl rfl rfl (by decide) rfl (fun bq => ?_) rfl rfl
    refine KN.on (fun _ => Sb.hw) ?_
    exact KS.mk fun a w hS => (secretOf6_2_4_6_9_19 hk7 hk1 hqn hnl hnb hF _ _ _ _ hoy).out a w ((hS.heap' (Pm.hw hS.mem)).keep ⟨rfl, rfl, rfl, rfl, rfl, rfl, rfl, rfl, rfl, rfl, rfl, rfl, rfl, rfl, rfl, rfl, rfl, rfl, rfl, rfl, trivial⟩)
  · skip
    refine OW.mark Tryz.runUnderlying23 Tryz.runUnderlying5 rfl (.there .here) rfl ?_
    refine KN.on (fun _ => Sb.hw) ?_
    exact KS.mk fun a w hS => (secretOf6_2_6_7_9_19 hk7 hk1 hqn hnl hnb hF _ _ _ hoy).out a w ((hS.heap' (Pm.hw hS.mem)).keep ⟨rfl, rfl, rfl, rfl, rfl, rfl, rfl, rfl, rfl, rfl, rfl, rfl, rfl, rfl, rfl, rfl, rfl, rfl, rfl, rfl, trivial⟩)
theorem secretOf6_4_5_9_19 (bq : Nat) (oy : Option Own) (hoy : oy = none → bt (pubN qn.2.2) = []) :
    KS w0 36 (anyC w0 (LB) secretOf6_ops K 7 (Ls 21 915251)) [(2, slV qn), (34, .bool sub), (33, .pointer (some ⟨k1, 1, none⟩)), (32, .int .u32 (created : Int)), (31, .pointer (some ⟨k1, 2, none⟩)), (30, .int .i64 (ver : Int)), (28, slV qn), (27, ownV oy (bt (pubN qn.2.2))), (26, slV qn), (23, .slice (some ⟨bq, 0, none⟩) (bt Qb).length (bt Qb).length), (22, .slice (some ⟨bq, 0, none⟩) (bt Qb).length (bt Qb).length), (19, .agg (keyC ver created kb).toArray), (18, slV qn), (1, .pointer (some ⟨k1, 0, none⟩)), (3, .pointer (some ⟨k3, 0, none⟩)), (4, .pointer (some ⟨k4, 0, none⟩)), (5, .int .i64 (ver : Int)), (6, slV qn), (7, .pointer (some ⟨k7, 0, none⟩))] ((bq, blk 5 ((bt Qb).length, (bt Qb).length + 1) (bt Qb)) :: (ownL 5 oy (bt (pubN qn.2.2)) ++ ((k3, blk 29 (0, 0) (keyC ver created kb)) :: (k4, blk 33 (0, 0) z33) :: LB))) := by
  refine KN.two (i := 2) (j := 6) (by kernel_rfl) rfl rfl (show _ = (Ls 21 915255) by kernel_rfl) ?_ rfl rfl (show _ = (Ls 21 915315) by kernel_rfl) ?_
  · skip
    refine OW.buildSlice (us := bt Pb) (xs := [.const (.int .u8 1), .const (.int .u8 0), .const (.int .u8 0), .const (.int .u8 0), .const (.int .u8 0), .const (.int .u8 1), .const (.int .u8 255), .const (.int .u8 255), .const (.int .u8 255), .const (.int .u8 255), .const (.int .u8 255), .const (.int .u8 255), .const (.int .u8 255), .const (.int .u8 255), .const (.int .u8 255), .const (.int .u8 255), .const (.int .u8 255), .const (.int .u8 255), .const (.int .u8 255), .const (.int .u8 255), .const (.int .u8 208), .const (.int .u8 255), .const (.int .u8 255), .const (.int .u8 255), .const (.int .u8 255), .const (.int .u8 163)]) Tryz.runUnderlying23 Tryz.sizeOf5 Tryz.zeroValue5 rfl rfl rfl (by decide) rfl (fun bp => ?_) rfl rfl
    refine KN.on (fun _ => Sb.hw) ?_
    exact KS.mk fun a w hS => (secretOf6_2_4_5_9_19 hk7 hk1 hqn hnl hnb hF _ _ _ hoy).out a w ((hS.heap' (Pm.hw hS.mem)).keep ⟨rfl, rfl, rfl, rfl, rfl, rfl, rfl, rfl, rfl, rfl, rfl, rfl, rfl, rfl, rfl, rfl, rfl, rfl, rfl, rfl, trivial⟩)
  · skip
    refine OW.buildSlice (us := bt Gb) (xs := [.const (.int .u8 131), .const (.int .u8 5), .const (.int .u8 225), .const (.int .u8 200), .const (.int .u8 246), .const (.int .u8 133), .const (.int .u8 197), .const (.int .u8 165), .const (.int .u8 35), .const (.int .u8 209), .const (.int .u8 150), .const (.int .u8 65), .const (.int .u8 151), .const (.int .u8 215), .const (.int .u8 129), .const (.int .u8 228), .const (.int .u8 148), .const (.int .u8 103), .const (.int .u8 50), .const (.int .u8 126), .const (.int .u8 57), .const (.int .u8 130), .const (.int .u8 47), .const (.int .u8 61), .const (.int .u8 39)]) Tryz.runUnderlying23 Tryz.sizeOf5 Tryz.zeroValue5 rfl rfl rfl (by decide) rfl (fun bg => ?_) rfl rfl
    refine KN.on (fun _ => Sb.hw) ?_
    exact KS.mk fun a w hS => (secretOf6_4_5_6_9_19 hk7 hk1 hqn hnl hnb hF _ _ _ hoy).out a w ((hS.heap' (Pm.hw hS.mem)).keep ⟨rfl, rfl, rfl, rfl, rfl, rfl, rfl, rfl, rfl, rfl, rfl, rfl, rfl, rfl, rfl, rfl, rfl, rfl, rfl, rfl, trivial⟩)
theorem secretOf6_2_4_9_19 (bp : Nat) (bq : Nat) (oy : Option Own) (hoy : oy = none → bt (pubN qn.2.2) = []) :
    KS w0 36 (anyC w0 (LB) secretOf6_ops K 7 (Ls 21 915223)) [(2, slV qn), (34, .bool sub), (33, .pointer (some ⟨k1, 1, none⟩)), (32, .int .u32 (created : Int)), (31, .pointer (some ⟨k1, 2, none⟩)), (30, .int .i64 (ver : Int)), (28, slV qn), (27, ownV oy (bt (pubN qn.2.2))), (26, slV qn), (22, .slice (some ⟨bq, 0, none⟩) (bt Qb).length (bt Qb).length), (20, .slice (some ⟨bp, 0, none⟩) (bt Pb).length (bt Pb).length), (19, .agg (keyC ver created kb).toArray), (18, slV qn), (1, .pointer (some ⟨k1, 0, none⟩)), (3, .pointer (some ⟨k3, 0, none⟩)), (4, .pointer (some ⟨k4, 0, none⟩)), (5, .int .i64 (ver : Int)), (6, slV qn), (7, .pointer (some ⟨k7, 0, none⟩))] ((bp, blk 5 (0, 0) (bt Pb)) :: ((bq, blk 5 (0, 0) (bt Qb)) :: (ownL 5 oy (bt (pubN qn.2.2)) ++ ((k3, blk 29 (0, 0) (keyC ver created kb)) :: (k4, blk 33 (0, 0) z33) :: LB)))) := by
  refine KN.three (i := 3) (j := 5) (k := 6) (by kernel_rfl) rfl rfl (show _ = (Ls 21 915231) by kernel_rfl) ?_ rfl rfl (show _ = (Ls 21 915255) by kernel_rfl) ?_ rfl rfl (show _ = (Ls 21 915287) by kernel_rfl) ?_
  · skip
    refine OW.mark Tryz.runUnderlying23 Tryz.runUnderlying5 rfl .here rfl ?_
    refine KN.on (fun _ => Sb.hw) ?_
    exact KS.mk fun a w hS => (secretOf6_2_3_4_9_19 hk7 hk1 hqn hnl hnb hF _ _ _ hoy).out a w ((hS.heap' (Pm.hw hS.mem)).keep ⟨rfl, rfl, rfl, rfl, rfl, rfl, rfl, rfl, rfl, rfl, rfl, rfl, rfl, rfl, rfl, rfl, rfl, rfl, rfl, rfl, trivial⟩)
  · skip
    refine OW.mark Tryz.runUnderlying23 Tryz.runUnderlying5 rfl (.there .here) rfl ?_
    refine KN.on (fun _ => Sb.hw) ?_
    exact KS.mk fun a w hS => (secretOf6_2_4_5_9_19 hk7 hk1 hqn hnl hnb hF _ _ _ hoy).out a w ((hS.heap' (Pm.hw hS.mem)).keep ⟨rfl, rfl, rfl, rfl, rfl, rfl, rfl, rfl, rfl, rfl, rfl, rfl, rfl, rfl, rfl, rfl, rfl, rfl, rfl, rfl, trivial⟩)
  · skip
    refine OW.buildSlice (us := bt Gb) (xs := [.const (.int .u8 131), .const (.int .u8 5), .const (.int .u8 225), .const (.int .u8 200), .const (.int .u8 246), .const (.int .u8 133), .const (.int .u8 197), .const (.int .u8 165), .const (.int .u8 35), .const (.int .u8 209), .const (.int .u8 150), .const (.int .u8 65), .const (.int .u8 151), .const (.int .u8 215), .const (.int .u8 129), .const (.int .u8 228), .const (.int .u8 148), .const (.int .u8 103), .const (.int .u8 50), .const (.int .u8 126), .const (.int .u8 57), .const (.int .u8 130), .const (.int .u8 47), .const (.int .u8 61), .const (.int .u8 39)]) Tryz.runUnderlying23 Tryz.sizeOf5 Tryz.zeroValue5 rfl rfl rfl (by decide) rfl (fun bg => ?_) rfl rfl
    refine KN.on (fun _ => Sb.hw) ?_
    exact KS.mk fun a w hS => (secretOf6_2_4_6_9_19 hk7 hk1 hqn hnl hnb hF _ _ _ _ hoy).out a w ((hS.heap' (Pm.hw hS.mem)).keep ⟨rfl, rfl, rfl, rfl, rfl, rfl, rfl, rfl, rfl, rfl, rfl, rfl, rfl, rfl, rfl, rfl, rfl, rfl, rfl, rfl, trivial⟩)
theorem secretOf6_2_3_9_19 (bp : Nat) (oy : Option Own) (hoy : oy = none → bt (pubN qn.2.2) = []) :
    KS w0 36 (anyC w0 (LB) secretOf6_ops K 7 (Ls 21 915215)) [(2, slV qn), (34, .bool sub), (33, .pointer (some ⟨k1, 1, none⟩)), (32, .int .u32 (created : Int)), (31, .pointer (some ⟨k1, 2, none⟩)), (30, .int .i64 (ver : Int)), (28, slV qn), (27, ownV oy (bt (pubN qn.2.2))), (26, slV qn), (21, .slice (some ⟨bp, 0, none⟩) (bt Pb).length (bt Pb).length), (20, .slice (some ⟨bp, 0, none⟩) (bt Pb).length (bt Pb).length), (19, .agg (keyC ver created kb).toArray), (18, slV qn), (1, .pointer (some ⟨k1, 0, none⟩)), (3, .pointer (some ⟨k3, 0, none⟩)), (4, .pointer (some ⟨k4, 0, none⟩)), (5, .int .i64 (ver : Int)), (6, slV qn), (7, .pointer (some ⟨k7, 0, none⟩))] ((bp, blk 5 ((bt Pb).length, (bt Pb).length + 1) (bt Pb)) :: (ownL 5 oy (bt (pubN qn.2.2)) ++ ((k3, blk 29 (0, 0) (keyC ver created kb)) :: (k4, blk 33 (0, 0) z33) :: LB))) := by
  refine KN.two (i := 4) (j := 6) (by kernel_rfl) rfl rfl (show _ = (Ls 21 915231) by kernel_rfl) ?_ rfl rfl (show _ = (Ls 21 915279) by kernel_rfl) ?_
  · skip
    refine OW.buildSlice (us := bt Qb) (xs := [.const (.int .u8 255), .const (.int .u8 255), .const (.int .u8 255), .const (.int .u8 255), .const (.int .u8 255), .const (.int .u8 255), .const (.int .u8 255), .const (.int .u8 255), .const (.int .u8 255), .const (.int .u8 255), .const (.int .u8 255), .const (.int .u8 255), .const (.int .u8 255), .const (.int .u8 255), .const (.int .u8 255), .const (.int .u8 255), .const (.int .u8 255), .const (.int .u8 255), .const (.int .u8 255), .const (.int .u8 209)]) Tryz.runUnderlying23 Tryz.sizeOf5 Tryz.zeroValue5 rfl rfl rfl (by decide) rfl (fun bq => ?_) rfl rfl
    refine KN.on (fun _ => Sb.hw) ?_
    exact KS.mk fun a w hS => (secretOf6_2_3_4_9_19 hk7 hk1 hqn hnl hnb hF _ _ _ hoy).out a w ((hS.heap' (Pm.hw hS.mem)).keep ⟨rfl, rfl, rfl, rfl, rfl, rfl, rfl, rfl, rfl, rfl, rfl, rfl, rfl, rfl, rfl, rfl, rfl, rfl, rfl, rfl, trivial⟩)
  · skip
    refine OW.buildSlice (us := bt Gb) (xs := [.const (.int .u8 131), .const (.int .u8 5), .const (.int .u8 225), .const (.int .u8 200), .const (.int .u8 246), .const (.int .u8 133), .const (.int .u8 197), .const (.int .u8 165), .const (.int .u8 35), .const (.int .u8 209), .const (.int .u8 150), .const (.int .u8 65), .const (.int .u8 151), .const (.int .u8 215), .const (.int .u8 129), .const (.int .u8 228), .const (.int .u8 148), .const (.int .u8 103), .const (.int .u8 50), .const (.int .u8 126), .const (.int .u8 57), .const (.int .u8 130), .const (.int .u8 47), .const (.int .u8 61), .const (.int .u8 39)]) Tryz.runUnderlying23 Tryz.sizeOf5 Tryz.zeroValue5 rfl rfl rfl (by decide) rfl (fun bg => ?_) rfl rfl
    refine KN.on (fun _ => Sb.hw) ?_
    exact KS.mk fun a w hS => (secretOf6_2_3_6_9_19 hk7 hk1 hqn hnl hnb hF _ _ _ hoy).out a w ((hS.heap' (Pm.hw hS.mem)).keep ⟨rfl, rfl, rfl, rfl, rfl, rfl, rfl, rfl, rfl, rfl, rfl, rfl, rfl, rfl, rfl, rfl, rfl, rfl, rfl, rfl, trivial⟩)
theorem secretOf6_4_6_7_9 (bq : Nat) (bg : Nat) (oy : Option Own) (hoy : oy = none → bt (pubN qn.2.2) = []) :
    KS w0 36 (anyC w0 (LB) secretOf6_ops K 7 (Ls 21 391123)) [(2, slV qn), (34, .bool sub), (33, .pointer (some ⟨k1, 1, none⟩)), (32, .int .u32 (created : Int)), (31, .pointer (some ⟨k1, 2, none⟩)), (30, .int .i64 (ver : Int)), (28, slV qn), (27, ownV oy (bt (pubN qn.2.2))), (26, slV qn), (25, .slice (some ⟨bg, 0, none⟩) (bt Gb).length (bt Gb).length), (24, .slice (some ⟨bg, 0, none⟩) (bt Gb).length (bt Gb).length), (22, .slice (some ⟨bq, 0, none⟩) (bt Qb).length (bt Qb).length), (19, .agg (keyC ver created kb).toArray), (18, slV qn), (1, .pointer (some ⟨k1, 0, none⟩)), (3, .pointer (some ⟨k3, 0, none⟩)), (4, .pointer (some ⟨k4, 0, none⟩)), (5, .int .i64 (ver : Int)), (6, slV qn), (7, .pointer (some ⟨k7, 0, none⟩))] ((bq, blk 5 (0, 0) (bt Qb)) :: ((bg, blk 5 ((bt Gb).length, (bt Gb).length + 1) (bt Gb)) :: (ownL 5 oy (bt (pubN qn.2.2)) ++ ((k3, blk 29 (0, 0) z29) :: (k4, blk 33 (0, 0) z33) :: LB)))) := by
  refine KN.three (i := 2) (j := 5) (k := 19) (by kernel_rfl) rfl rfl (show _ = (Ls 21 391127) by kernel_rfl) ?_ rfl rfl (show _ = (Ls 21 391155) by kernel_rfl) ?_ rfl rfl (show _ = (Ls 21 915411) by kernel_rfl) ?_
  · skip
    refine OW.buildSlice (us := bt Pb) (xs := [.const (.int .u8 1), .const (.int .u8 0), .const (.int .u8 0), .const (.int .u8 0), .const (.int .u8 0), .const (.int .u8 1), .const (.int .u8 255), .const (.int .u8 255), .const (.int .u8 255), .const (.int .u8 255), .const (.int .u8 255), .const (.int .u8 255), .const (.int .u8 255), .const (.int .u8 255), .const (.int .u8 255), .const (.int .u8 255), .const (.int .u8 255), .const (.int .u8 255), .const (.int .u8 255), .const (.int .u8 255), .const (.int .u8 208), .const (.int .u8 255), .const (.int .u8 255), .const (.int .u8 255), .const (.int .u8 255), .const (.int .u8 163)]) Tryz.runUnderlying23 Tryz.sizeOf5 Tryz.zeroValue5 rfl rfl rfl (by decide) rfl (fun bp => ?_) rfl rfl
    refine KN.on (fun _ => Sb.hw) ?_
    exact KS.mk fun a w hS => (secretOf6_2_4_6_7_9 hk7 hk1 hqn hnl hnb hF _ _ _ _ hoy).out a w ((hS.heap' (Pm.hw hS.mem)).keep ⟨rfl, rfl, rfl, rfl, rfl, rfl, rfl, rfl, rfl, rfl, rfl, rfl, rfl, rfl, rfl, rfl, rfl, rfl, rfl, rfl, rfl, trivial⟩)
  · skip
    refine OW.mark Tryz.runUnderlying23 Tryz.runUnderlying5 rfl .here rfl ?_
    refine KN.on (fun _ => Sb.hw) ?_
    exact KS.mk fun a w hS => (secretOf6_4_5_6_7_9 hk7 hk1 hqn hnl hnb hF _ _ _ hoy).out a w ((hS.heap' (Pm.hw hS.mem)).keep ⟨rfl, rfl, rfl, rfl, rfl, rfl, rfl, rfl, rfl, rfl, rfl, rfl, rfl, rfl, rfl, rfl, rfl, rfl, rfl, rfl, rfl, trivial⟩)
  · skip
    refine OW.storeAgg (us := (keyC ver created kb)) Tryz.sizeOf29 rfl rfl rfl rfl (overlay_all _ _ (by rfl)) (.there (.there (At.over .here _))) (Nat.le_refl _) ?_
    refine KN.on (fun _ => Sb.hw) ?_
    exact KS.mk fun a w hS => (secretOf6_4_6_7_9_19 hk7 hk1 hqn hnl hnb hF _ _ _ hoy).out a w ((hS.heap' (Pm.hw hS.mem)).keep ⟨rfl, rfl, rfl, rfl, rfl, rfl, rfl, rfl, rfl, rfl, rfl, rfl, rfl, rfl, rfl, rfl, rfl, rfl, rfl, rfl, trivial⟩)
theorem secretOf6_2_6_7_9 (bp : Nat) (bg : Nat) (oy : Option Own) (hoy : oy = none → bt (pubN qn.2.2) = []) :
    KS w0 36 (anyC w0 (LB) secretOf6_ops K 7 (Ls 21 391111)) [(2, slV qn), (34, .bool sub), (33, .pointer (some ⟨k1, 1, none⟩)), (32, .int .u32 (created : Int)), (31, .pointer (some ⟨k1, 2, none⟩)), (30, .int .i64 (ver : Int)), (28, slV qn), (27, ownV oy (bt (pubN qn.2.2))), (26, slV qn), (25, .slice (some ⟨bg, 0, none⟩) (bt Gb).length (bt Gb).length), (24, .slice (some ⟨bg, 0, none⟩) (bt Gb).length (bt Gb).length), (20, .slice (some ⟨bp, 0, none⟩) (bt Pb).length (bt Pb).length), (19, .agg (keyC ver created kb).toArray), (18, slV qn), (1, .pointer (some ⟨k1, 0, none⟩)), (3, .pointer (some ⟨k3, 0, none⟩)), (4, .pointer (some ⟨k4, 0, none⟩)), (5, .int .i64 (ver : Int)), (6, slV qn), (7, .pointer (some ⟨k7, 0, none⟩))] ((bp, blk 5 (0, 0) (bt Pb)) :: ((bg, blk 5 ((bt Gb).length, (bt Gb).length + 1) (bt Gb)) :: (ownL 5 oy (bt (pubN qn.2.2)) ++ ((k3, blk 29 (0, 0) z29) :: (k4, blk 33 (0, 0) z33) :: LB)))) := by
  refine KN.three (i := 3) (j := 4) (k := 19) (by kernel_rfl) rfl rfl (show _ = (Ls 21 391119) by kernel_rfl) ?_ rfl rfl (show _ = (Ls 21 391127) by kernel_rfl) ?_ rfl rfl (show _ = (Ls 21 915399) by kernel_rfl) ?_
  · skip
    refine OW.mark Tryz.runUnderlying23 Tryz.runUnderlying5 rfl .here rfl ?_
    refine KN.on (fun _ => Sb.hw) ?_
    exact KS.mk fun a w hS => (secretOf6_2_3_6_7_9 hk7 hk1 hqn hnl hnb hF _ _ _ hoy).out a w ((hS.heap' (Pm.hw hS.mem)).keep ⟨rfl, rfl, rfl, rfl, rfl, rfl, rfl, rfl, rfl, rfl, rfl, rfl, rfl, rfl, rfl, rfl, rfl, rfl, rfl, rfl, rfl, trivial⟩)
  · skip
    refine OW.buildSlice (us := bt Qb) (xs := [.const (.int .u8 255), .const (.int .u8 255), .const (.int .u8 255), .const (.int .u8 255), .const (.int .u8 255), .const (.int .u8 255), .const (.int .u8 255), .const (.int .u8 255), .const (.int .u8 255), .const (.int .u8 255), .const (.int .u8 255), .const (.int .u8 255), .const (.int .u8 255), .const (.int .u8 255), .const (.int .u8 255), .const (.int .u8 255), .const (.int .u8 255), .const (.int .u8 255), .const (.int .u8 255), .const (.int .u8 209)]) Tryz.runUnderlying23 Tryz.sizeOf5 Tryz.zeroValue5 rfl rfl rfl (by decide) rfl (fun bq => ?_) rfl rfl
    refine KN.on (fun _ => Sb.hw) ?_
    exact KS.mk fun a w hS => (secretOf6_2_4_6_7_9 hk7 hk1 hqn hnl hnb hF _ _ _ _ hoy).out a w ((hS.heap' (Pm.hw hS.mem)).keep ⟨rfl, rfl, rfl, rfl, rfl, rfl, rfl, rfl, rfl, rfl, rfl, rfl, rfl, rfl, rfl, rfl, rfl, rfl, rfl, rfl, rfl, trivial⟩)
  · skip
    refine OW.storeAgg (us := (keyC ver created kb)) Tryz.sizeOf29 rfl rfl rfl rfl (overlay_all _ _ (by rfl)) (.there (.there (At.over .here _))) (Nat.le_refl _) ?_
    refine KN.on (fun _ => Sb.hw) ?_
    exact KS.mk fun a w hS => (secretOf6_2_6_7_9_19 hk7 hk1 hqn hnl hnb hF _ _ _ hoy).out a w ((hS.heap' (Pm.hw hS.mem)).keep ⟨rfl, rfl, rfl, rfl, rfl, rfl, rfl, rfl, rfl, rfl, rfl, rfl, rfl, rfl, rfl, rfl, rfl, rfl, rfl, rfl, trivial⟩)
theorem secretOf6_4_5_6_9 (bq : Nat) (bg : Nat) (oy : Option Own) (hoy : oy = none → bt (pubN qn.2.2) = []) :
    KS w0 36 (anyC w0 (LB) secretOf6_ops K 7 (Ls 21 391027)) [(2, slV qn), (34, .bool sub), (33, .pointer (some ⟨k1, 1, none⟩)), (32, .int .u32 (created : Int)), (31, .pointer (some ⟨k1, 2, none⟩)), (30, .int .i64 (ver : Int)), (28, slV qn), (27, ownV oy (bt (pubN qn.2.2))), (26, slV qn), (24, .slice (some ⟨bg, 0, none⟩) (bt Gb).length (bt Gb).length), (23, .slice (some ⟨bq, 0, none⟩) (bt Qb).length (bt Qb).length), (22, .slice (some ⟨bq, 0, none⟩) (bt Qb).length (bt Qb).length), (19, .agg (keyC ver created kb).toArray), (18, slV qn), (1, .pointer (some ⟨k1, 0, none⟩)), (3, .pointer (some ⟨k3, 0, none⟩)), (4, .pointer (some ⟨k4, 0, none⟩)), (5, .int .i64 (ver : Int)), (6, slV qn), (7, .pointer (some ⟨k7, 0, none⟩))] ((bq, blk 5 ((bt Qb).length, (bt Qb).length + 1) (bt Qb)) :: ((bg, blk 5 (0, 0) (bt Gb)) :: (ownL 5 oy (bt (pubN qn.2.2)) ++ ((k3, blk 29 (0, 0) z29) :: (k4, blk 33 (0, 0) z33) :: LB)))) := by
  refine KN.three (i := 2) (j := 7) (k := 19) (by kernel_rfl) rfl rfl (show _ = (Ls 21 391031) by kernel_rfl) ?_ rfl rfl (show _ = (Ls 21 391155) by kernel_rfl) ?_ rfl rfl (show _ = (Ls 21 915315) by kernel_rfl) ?_
  · skip
    refine OW.buildSlice (us := bt Pb) (xs := [.const (.int .u8 1), .const (.int .u8 0), .const (.int .u8 0), .const (.int .u8 0), .const (.int .u8 0), .const (.int .u8 1), .const (.int .u8 255), .const (.int .u8 255), .const (.int .u8 255), .const (.int .u8 255), .const (.int .u8 255), .const (.int .u8 255), .const (.int .u8 255), .const (.int .u8 255), .const (.int .u8 255), .const (.int .u8 255), .const (.int .u8 255), .const (.int .u8 255), .const (.int .u8 255), .const (.int .u8 255), .const (.int .u8 208), .const (.int .u8 255), .const (.int .u8 255), .const (.int .u8 255), .const (.int .u8 255), .const (.int .u8 163)]) Tryz.runUnderlying23 Tryz.sizeOf5 Tryz.zeroValue5 rfl rfl rfl (by decide) rfl (fun bp => ?_) rfl rfl
    refine KN.on (fun _ => Sb.hw) ?_
    exact KS.mk fun a w hS => (secretOf6_2_4_5_6_9 hk7 hk1 hqn hnl hnb hF _ _ _ _ hoy).out a w ((hS.heap' (Pm.hw hS.mem)).keep ⟨rfl, rfl, rfl, rfl, rfl, rfl, rfl, rfl, rfl, rfl, rfl, rfl, rfl, rfl, rfl, rfl, rfl, rfl, rfl, rfl, rfl, trivial⟩)
  · skip
    refine OW.mark Tryz.runUnderlying23 Tryz.runUnderlying5 rfl (.there .here) rfl ?_
    refine KN.on (fun _ => Sb.hw) ?_
    exact KS.mk fun a w hS => (secretOf6_4_5_6_7_9 hk7 hk1 hqn hnl hnb hF _ _ _ hoy).out a w ((hS.heap' (Pm.hw hS.mem)).keep ⟨rfl, rfl, rfl, rfl, rfl, rfl, rfl, rfl, rfl, rfl, rfl, rfl, rfl, rfl, rfl, rfl, rfl, rfl, rfl, rfl, rfl, trivial⟩)
  · skip
    refine OW.storeAgg (us := (keyC ver created kb)) Tryz.sizeOf29 rfl rfl rfl rfl (overlay_all _ _ (by rfl)) (.there (.there (At.over .here _))) (Nat.le_refl _) ?_
    refine KN.on (fun _ => Sb.hw) ?_
    exact KS.mk fun a w hS => (secretOf6_4_5_6_9_19 hk7 hk1 hqn hnl hnb hF _ _ _ hoy).out a w ((hS.heap' (Pm.hw hS.mem)).keep ⟨rfl, rfl, rfl, rfl, rfl, rfl, rfl, rfl, rfl, rfl, rfl, rfl, rfl, rfl, rfl, rfl, rfl, rfl, rfl, rfl, trivial⟩)
theorem secretOf6_2_4_6_9 (bp : Nat) (bq : Nat) (bg : Nat) (oy : Option Own) (hoy : oy = none → bt (pubN qn.2.2) = []) :
    KS w0 36 (anyC w0 (LB) secretOf6_ops K 7 (Ls 21 390999)) [(2, slV qn), (34, .bool sub), (33, .pointer (some ⟨k1, 1, none⟩)), (32, .int .u32 (created : Int)), (31, .pointer (some ⟨k1, 2, none⟩)), (30, .int .i64 (ver : Int)), (28, slV qn), (27, ownV oy (bt (pubN qn.2.2))), (26, slV qn), (24, .slice (some ⟨bg, 0, none⟩) (bt Gb).length (bt Gb).length), (22, .slice (some ⟨bq, 0, none⟩) (bt Qb).length (bt Qb).length), (20, .slice (some ⟨bp, 0, none⟩) (bt Pb).length (bt Pb).length), (19, .agg (keyC ver created kb).toArray), (18, slV qn), (1, .pointer (some ⟨k1, 0, none⟩)), (3, .pointer (some ⟨k3, 0, none⟩)), (4, .pointer (some ⟨k4, 0, none⟩)), (5, .int .i64 (ver : Int)), (6, slV qn), (7, .pointer (some ⟨k7, 0, none⟩))] ((bp, blk 5 (0, 0) (bt Pb)) :: ((bq, blk 5 (0, 0) (bt Qb)) :: ((bg, blk 5 (0, 0) (bt Gb)) :: (ownL 5 oy (bt (pubN qn.2.2)) ++ ((k3, blk 29 (0, 0) z29) :: (k4, blk 33 (0, 0) z33) :: LB))))) := by
  refine KN.four (i := 3) (j := 5) (k := 7) (i' := 19) (by kernel_rfl) rfl rfl (show _ = (Ls 21 391007) by kernel_rfl) ?_ rfl rfl (show _ = (Ls 21 391031) by kernel_rfl) ?_ rfl rfl (show _ = (Ls 21 391127) by kernel_rfl) ?_ rfl rfl (show _ = (Ls 21 915287) by kernel_rfl) ?_
  · skip
    refine OW.mark Tryz.runUnderlying23 Tryz.runUnderlying5 rfl .here rfl ?_
    refine KN.on (fun _ => Sb.hw) ?_
    exact KS.mk fun a w hS => (secretOf6_2_3_4_6_9 hk7 hk1 hqn hnl hnb hF _ _ _ _ hoy).out a w ((hS.heap' (Pm.hw hS.mem)).keep ⟨rfl, rfl, rfl, rfl, rfl, rfl, rfl, rfl, rfl, rfl, rfl, rfl, rfl, rfl, rfl, rfl, rfl, rfl, rfl, rfl, rfl, trivial⟩)
  · skip
    refine OW.mark Tryz.runUnderlying23 Tryz.runUnderlying5 rfl (.there .here) rfl ?_
    refine KN.on (fun _ => Sb.hw) ?_
    exact KS.mk fun a w hS => (secretOf6_2_4_5_6_9 hk7 hk1 hqn hnl hnb hF _ _ _ _ hoy).out a w ((hS.heap' (Pm.hw hS.mem)).keep ⟨rfl, rfl, rfl, rfl, rfl, rfl, rfl, rfl, rfl, rfl, rfl, rfl, rfl, rfl, rfl, rfl, rfl, rfl, rfl, rfl, rfl, trivial⟩)
  · skip
    refine OW.mark Tryz.runUnderlying23 Tryz.runUnderlying5 rfl (.there (.there .here)) rfl ?_
    refine KN.on (fun _ => Sb.hw) ?_
    exact KS.mk fun a w hS => (secretOf6_2_4_6_7_9 hk7 hk1 hqn hnl hnb hF _ _ _ _ hoy).out a w ((hS.heap' (Pm.hw hS.mem)).keep ⟨rfl, rfl, rfl, rfl, rfl, rfl, rfl, rfl, rfl, rfl, rfl, rfl, rfl, rfl, rfl, rfl, rfl, rfl, rfl, rfl, rfl, trivial⟩)
  · skip
    refine OW.storeAgg (us := (keyC ver created kb)) Tryz.sizeOf29 rfl rfl rfl rfl (overlay_all _ _ (by rfl)) (.there (.there (.there (At.over .here _)))) (Nat.le_refl _) ?_
    refine KN.on (fun _ => Sb.hw) ?_
    exact KS.mk fun a w hS => (secretOf6_2_4_6_9_19 hk7 hk1 hqn hnl hnb hF _ _ _ _ hoy).out a w ((hS.heap' (Pm.hw hS.mem)).keep ⟨rfl, rfl, rfl, rfl, rfl, rfl, rfl, rfl, rfl, rfl, rfl, rfl, rfl, rfl, rfl, rfl, rfl, rfl, rfl, rfl, trivial⟩)
theorem secretOf6_2_3_6_9 (bp : Nat) (bg : Nat) (oy : Option Own) (hoy : oy = none → bt (pubN qn.2.2) = []) :
    KS w0 36 (anyC w0 (LB) secretOf6_ops K 7 (Ls 21 390991)) [(2, slV qn), (34, .bool sub), (33, .pointer (some ⟨k1, 1, none⟩)), (32, .int .u32 (created : Int)), (31, .pointer (some ⟨k1, 2, none⟩)), (30, .int .i64 (ver : Int)), (28, slV qn), (27, ownV oy (bt (pubN qn.2.2))), (26, slV qn), (24, .slice (some ⟨bg, 0, none⟩) (bt Gb).length (bt Gb).length), (21, .slice (some ⟨bp, 0, none⟩) (bt Pb).length (bt Pb).length), (20, .slice (some ⟨bp, 0, none⟩) (bt Pb).length (bt Pb).length), (19, .agg (keyC ver created kb).toArray), (18, slV qn), (1, .pointer (some ⟨k1, 0, none⟩)), (3, .pointer (some ⟨k3, 0, none⟩)), (4, .pointer (some ⟨k4, 0, none⟩)), (5, .int .i64 (ver : Int)), (6, slV qn), (7, .pointer (some ⟨k7, 0, none⟩))] ((bp, blk 5 ((bt Pb).length, (bt Pb).length + 1) (bt Pb)) :: ((bg, blk 5 (0, 0) (bt Gb)) :: (ownL 5 oy (bt (pubN qn.2.2)) ++ ((k3, blk 29 (0, 0) z29) :: (k4, blk 33 (0, 0) z33) :: LB)))) := by
  refine KN.three (i := 4) (j := 7) (k := 19) (by kernel_rfl) rfl rfl (show _ = (Ls 21 391007) by kernel_rfl) ?_ rfl rfl (show _ = (Ls 21 391119) by kernel_rfl) ?_ rfl rfl (show _ = (Ls 21 915279) by kernel_rfl) ?_
  · skip
    refine OW.buildSlice (us := bt Qb) (xs := [.const (.int .u8 255), .const (.int .u8 255), .const (.int .u8 255), .const (.int .u8 255), .const (.int .u8 255), .const (.int .u8 255), .const (.int .u8 255), .const (.int .u8 255), .const (.int .u8 255), .const (.int .u8 255), .const (.int .u8 255), .const (.int .u8 255), .const (.int .u8 255), .const (.int .u8 255), .const (.int .u8 255), .const (.int .u8 255), .const (.int .u8 255), .const (.int .u8 255), .const (.int .u8 255), .const (.int .u8 209)]) Tryz.runUnderlying23 Tryz.sizeOf5 Tryz.zeroValue5 rfl rfl rfl (by decide) rfl (fun bq => ?_) rfl rfl
    refine KN.on (fun _ => Sb.hw) ?_
    exact KS.mk fun a w hS => (secretOf6_2_3_4_6_9 hk7 hk1 hqn hnl hnb hF _ _ _ _ hoy).out a w ((hS.heap' (Pm.hw hS.mem)).keep ⟨rfl, rfl, rfl, rfl, rfl, rfl, rfl, rfl, rfl, rfl, rfl, rfl, rfl, rfl, rfl, rfl, rfl, rfl, rfl, rfl, rfl, trivial⟩)
  · skip
    refine OW.mark Tryz.runUnderlying23 Tryz.runUnderlying5 rfl (.there .here) rfl ?_
    refine KN.on (fun _ => Sb.hw) ?_
    exact KS.mk fun a w hS => (secretOf6_2_3_6_7_9 hk7 hk1 hqn hnl hnb hF _ _ _ hoy).out a w ((hS.heap' (Pm.hw hS.mem)).keep ⟨rfl, rfl, rfl, rfl, rfl, rfl, rfl, rfl, rfl, rfl, rfl, rfl, rfl, rfl, rfl, rfl, rfl, rfl, rfl, rfl, rfl, trivial⟩)
  · skip
    refine OW.storeAgg (us := (keyC ver created kb)) Tryz.sizeOf29 rfl rfl rfl rfl (overlay_all _ _ (by rfl)) (.there (.there (At.over .here _))) (Nat.le_refl _) ?_
    refine KN.on (fun _ => Sb.hw) ?_
    exact KS.mk fun a w hS => (secretOf6_2_3_6_9_19 hk7 hk1 hqn hnl hnb hF _ _ _ hoy).out a w ((hS.heap' (Pm.hw hS.mem)).keep ⟨rfl, rfl, rfl, rfl, rfl, rfl, rfl, rfl, rfl, rfl, rfl, rfl, rfl, rfl, rfl, rfl, rfl, rfl, rfl, rfl, trivial⟩)
theorem secretOf6_2_4_5_9 (bp : Nat) (bq : Nat) (oy : Option Own) (hoy : oy = none → bt (pubN qn.2.2) = []) :
    KS w0 36 (anyC w0 (LB) secretOf6_ops K 7 (Ls 21 390967)) [(2, slV qn), (34, .bool sub), (33, .pointer (some ⟨k1, 1, none⟩)), (32, .int .u32 (created : Int)), (31, .pointer (some ⟨k1, 2, none⟩)), (30, .int .i64 (ver : Int)), (28, slV qn), (27, ownV oy (bt (pubN qn.2.2))), (26, slV qn), (23, .slice (some ⟨bq, 0, none⟩) (bt Qb).length (bt Qb).length), (22, .slice (some ⟨bq, 0, none⟩) (bt Qb).length (bt Qb).length), (20, .slice (some ⟨bp, 0, none⟩) (bt Pb).length (bt Pb).length), (19, .agg (keyC ver created kb).toArray), (18, slV qn), (1, .pointer (some ⟨k1, 0, none⟩)), (3, .pointer (some ⟨k3, 0, none⟩)), (4, .pointer (some ⟨k4, 0, none⟩)), (5, .int .i64 (ver : Int)), (6, slV qn), (7, .pointer (some ⟨k7, 0, none⟩))] ((bp, blk 5 (0, 0) (bt Pb)) :: ((bq, blk 5 ((bt Qb).length, (bt Qb).length + 1) (bt Qb)) :: (ownL 5 oy (bt (pubN qn.2.2)) ++ ((k3, blk 29 (0, 0) z29) :: (k4, blk 33 (0, 0) z33) :: LB)))) := by
  refine KN.three (i := 3) (j := 6) (k := 19) (by kernel_rfl) rfl rfl (show _ = (Ls 21 390975) by kernel_rfl) ?_ rfl rfl (show _ = (Ls 21 391031) by kernel_rfl) ?_ rfl rfl (show _ = (Ls 21 915255) by kernel_rfl) ?_
  · skip
    refine OW.mark Tryz.runUnderlying23 Tryz.runUnderlying5 rfl .here rfl ?_
    refine KN.on (fun _ => Sb.hw) ?_
    exact KS.mk fun a w hS => (secretOf6_2_3_4_5_9 hk7 hk1 hqn hnl hnb hF _ _ _ hoy).out a w ((hS.heap' (Pm.hw hS.mem)).keep ⟨rfl, rfl, rfl, rfl, rfl, rfl, rfl, rfl, rfl, rfl, rfl, rfl, rfl, rfl, rfl, rfl, rfl, rfl, rfl, rfl, rfl, trivial⟩)
  · skip
    refine OW.buildSlice (us := bt Gb) (xs := [.const (.int .u8 131), .const (.int .u8 5), .const (.int .u8 225), .const (.int .u8 200), .const (.int .u8 246), .const (.int .u8 133), .const (.int .u8 197), .const (.int .u8 165), .const (.int .u8 35), .const (.int .u8 209), .const (.int .u8 150), .const (.int .u8 65), .const (.int .u8 151), .const (.int .u8 215), .const (.int .u8 129), .const (.int .u8 228), .const (.int .u8 148), .const (.int .u8 103), .const (.int .u8 50), .const (.int .u8 126), .const (.int .u8 57), .const (.int .u8 130), .const (.int .u8 47), .const (.int .u8 61), .const (.int .u8 39)]) Tryz.runUnderlying23 Tryz.sizeOf5 Tryz.zeroValue5 rfl rfl rfl (by decide) rfl (fun bg => ?_) rfl rfl
    refine KN.on (fun _ => Sb.hw) ?_
    exact KS.mk fun a w hS => (secretOf6_2_4_5_6_9 hk7 hk1 hqn hnl hnb hF _ _ _ _ hoy).out a w ((hS.heap' (Pm.hw hS.mem)).keep ⟨rfl, rfl, rfl, rfl, rfl, rfl, rfl, rfl, rfl, rfl, rfl, rfl, rfl, rfl, rfl, rfl, rfl, rfl, rfl, rfl, rfl, trivial⟩)
  · skip
    refine OW.storeAgg (us := (keyC ver created kb)) Tryz.sizeOf29 rfl rfl rfl rfl (overlay_all _ _ (by rfl)) (.there (.there (At.over .here _))) (Nat.le_refl _) ?_
    refine KN.on (fun _ => Sb.hw) ?_
    exact KS.mk fun a w hS => (secretOf6_2_4_5_9_19 hk7 hk1 hqn hnl hnb hF _ _ _ hoy).out a w ((hS.heap' (Pm.hw hS.mem)).keep ⟨rfl, rfl, rfl, rfl, rfl, rfl, rfl, rfl, rfl, rfl, rfl, rfl, rfl, rfl, rfl, rfl, rfl, rfl, rfl, rfl, trivial⟩)
theorem secretOf6_2_3_4_9 (bp : Nat) (bq : Nat) (oy : Option Own) (hoy : oy = none → bt (pubN qn.2.2) = []) :
    KS w0 36 (anyC w0 (LB) secretOf6_ops K 7 (Ls 21 390943)) [(2, slV qn), (34, .bool sub), (33, .pointer (some ⟨k1, 1, none⟩)), (32, .int .u32 (created : Int)), (31, .pointer (some ⟨k1, 2, none⟩)), (30, .int .i64 (ver : Int)), (28, slV qn), (27, ownV oy (bt (pubN qn.2.2))), (26, slV qn), (22, .slice (some ⟨bq, 0, none⟩) (bt Qb).length (bt Qb).length), (21, .slice (some ⟨bp, 0, none⟩) (bt Pb).length (bt Pb).length), (20, .slice (some ⟨bp, 0, none⟩) (bt Pb).length (bt Pb).length), (19, .agg (keyC ver created kb).toArray), (18, slV qn), (1, .pointer (some ⟨k1, 0, none⟩)), (3, .pointer (some ⟨k3, 0, none⟩)), (4, .pointer (some ⟨k4, 0, none⟩)), (5, .int .i64 (ver : Int)), (6, slV qn), (7, .pointer (some ⟨k7, 0, none⟩))] ((bp, blk 5 ((bt Pb).length, (bt Pb).length + 1) (bt Pb)) :: ((bq, blk 5 (0, 0) (bt Qb)) :: (ownL 5 oy (bt (pubN qn.2.2)) ++ ((k3, blk 29 (0, 0) z29) :: (k4, blk 33 (0, 0) z33) :: LB)))) := by
  refine KN.three (i := 5) (j := 6) (k := 19) (by kernel_rfl) rfl rfl (show _ = (Ls 21 390975) by kernel_rfl) ?_ rfl rfl (show _ = (Ls 21 391007) by kernel_rfl) ?_ rfl rfl (show _ = (Ls 21 915231) by kernel_rfl) ?_
  · skip
    refine OW.mark Tryz.runUnderlying23 Tryz.runUnderlying5 rfl (.there .here) rfl ?_
    refine KN.on (fun _ => Sb.hw) ?_
    exact KS.mk fun a w hS => (secretOf6_2_3_4_5_9 hk7 hk1 hqn hnl hnb hF _ _ _ hoy).out a w ((hS.heap' (Pm.hw hS.mem)).keep ⟨rfl, rfl, rfl, rfl, rfl, rfl, rfl, rfl, rfl, rfl, rfl, rfl, rfl, rfl, rfl, rfl, rfl, rfl, rfl, rfl, rfl, trivial⟩)
  · skip
    refine OW.buildSlice (us := bt Gb) (xs := [.const (.int .u8 131), .const (.int .u8 5), .const (.int .u8 225), .const (.int .u8 200), .const (.int .u8 246), .const (.int .u8 133), .const (.int .u8 197), .const (.int .u8 165), .const (.int .u8 35), .const (.int .u8 209), .const (.int .u8 150), .const (.int .u8 65), .const (.int .u8 151), .const (.int .u8 215), .const (.int .u8 129), .const (.int .u8 228), .const (.int .u8 148), .const (.int .u8 103), .const (.int .u8 50), .const (.int .u8 126), .const (.int .u8 57), .const (.int .u8 130), .const (.int .u8 47), .const (.int .u8 61), .const (.int .u8 39)]) Tryz.runUnderlying23 Tryz.sizeOf5 Tryz.zeroValue5 rfl rfl rfl (by decide) rfl (fun bg => ?_) rfl rfl
    refine KN.on (fun _ => Sb.hw) ?_
    exact KS.mk fun a w hS => (secretOf6_2_3_4_6_9 hk7 hk1 hqn hnl hnb hF _ _ _ _ hoy).out a w ((hS.heap' (Pm.hw hS.mem)).keep ⟨rfl, rfl, rfl, rfl, rfl, rfl, rfl, rfl, rfl, rfl, rfl, rfl, rfl, rfl, rfl, rfl, rfl, rfl, rfl, rfl, rfl, trivial⟩)
  · skip
    refine OW.storeAgg (us := (keyC ver created kb)) Tryz.sizeOf29 rfl rfl rfl rfl (overlay_all _ _ (by rfl)) (.there (.there (At.over .here _))) (Nat.le_refl _) ?_
    refine KN.on (fun _ => Sb.hw) ?_
    exact KS.mk fun a w hS => (secretOf6_2_3_4_9_19 hk7 hk1 hqn hnl hnb hF _ _ _ hoy).out a w ((hS.heap' (Pm.hw hS.mem)).keep ⟨rfl, rfl, rfl, rfl, rfl, rfl, rfl, rfl, rfl, rfl, rfl, rfl, rfl, rfl, rfl, rfl, rfl, rfl, rfl, rfl, trivial⟩)
theorem secretOf6_2_4_5_6_7 (bp : Nat) (bq : Nat) (bg : Nat)  :
    KS w0 36 (anyC w0 (LB) secretOf6_ops K 7 (Ls 21 128503)) [(34, .bool sub), (33, .pointer (some ⟨k1, 1, none⟩)), (32, .int .u32 (created : Int)), (31, .pointer (some ⟨k1, 2, none⟩)), (30, .int .i64 (ver : Int)), (28, slV qn), (26, slV qn), (25, .slice (some ⟨bg, 0, none⟩) (bt Gb).length (bt Gb).length), (24, .slice (some ⟨bg, 0, none⟩) (bt Gb).length (bt Gb).length), (23, .slice (some ⟨bq, 0, none⟩) (bt Qb).length (bt Qb).length), (22, .slice (some ⟨bq, 0, none⟩) (bt Qb).length (bt Qb).length), (20, .slice (some ⟨bp, 0, none⟩) (bt Pb).length (bt Pb).length), (19, .agg (keyC ver created kb).toArray), (18, slV qn), (1, .pointer (some ⟨k1, 0, none⟩)), (3, .pointer (some ⟨k3, 0, none⟩)), (4, .pointer (some ⟨k4, 0, none⟩)), (5, .int .i64 (ver : Int)), (6, slV qn), (7, .pointer (some ⟨k7, 0, none⟩))] ((bp, blk 5 (0, 0) (bt Pb)) :: ((bq, blk 5 ((bt Qb).length, (bt Qb).length + 1) (bt Qb)) :: ((bg, blk 5 ((bt Gb).length, (bt Gb).length + 1) (bt Gb)) :: ((k3, blk 29 (0, 0) z29) :: (k4, blk 33 (0, 0) z33) :: LB)))) := by
  refine KN.two (i := 3) (j := 9) (by kernel_rfl) rfl rfl (show _ = (Ls 21 128511) by kernel_rfl) ?_ rfl rfl (show _ = (Ls 21 129015) by kernel_rfl) ?_
  · skip
    refine OW.mark Tryz.runUnderlying23 Tryz.runUnderlying5 rfl .here rfl ?_
    refine KN.on (fun _ => Sb.hw) ?_
    exact KS.mk fun a w hS => (secretOf6_2_3_4_5_6_7 hk7 hk1 hqn hnl hnb hF _ _ _ ).out a w ((hS.heap' (Pm.hw hS.mem)).keep ⟨rfl, rfl, rfl, rfl, rfl, rfl, rfl, rfl, rfl, rfl, rfl, rfl, rfl, rfl, rfl, rfl, rfl, rfl, rfl, rfl, rfl, trivial⟩)
  · skip
    refine OW.call (xs := [.tmp 26]) Tryz.call13 rfl (fun w hw => publicNumber_any w0 w _ _ _ _ qn.2.2 rfl (by omega) hqn.cap (hqn.rd.mono (fun _ h => (mS (mS (mS (mS (mS h))))))) hnb hw) rfl ?_
    rintro r w' ⟨oy, rfl, hoy, hw'⟩
    refine ⟨_, _, rfl, hw', ?_⟩
    refine KN.on (fun _ => Sb.hw) ?_
    refine KN.quiet (i := 18) (ls1 := (Ls 21 391159)) secretOf6_sel (by kernel_rfl) (by kernel_rfl) (fun _ => Sb.hw) rfl (v_assign rfl) rfl ?_
    exact KS.mk fun a w hS => (secretOf6_2_4_5_6_7_9 hk7 hk1 hqn hnl hnb hF _ _ _ _ hoy).out a w ((hS.heap' (Pm.hw hS.mem)).keep ⟨rfl, rfl, rfl, rfl, rfl, rfl, rfl, rfl, rfl, rfl, rfl, rfl, rfl, rfl, rfl, rfl, rfl, rfl, rfl, rfl, rfl, rfl, trivial⟩)
theorem secretOf6_2_3_4_6_7 (bp : Nat) (bq : Nat) (bg : Nat)  :
    KS w0 36 (anyC w0 (LB) secretOf6_ops K 7 (Ls 21 128479)) [(34, .bool sub), (33, .pointer (some ⟨k1, 1, none⟩)), (32, .int .u32 (created : Int)), (31, .pointer (some ⟨k1, 2, none⟩)), (30, .int .i64 (ver : Int)), (28, slV qn), (26, slV qn), (25, .slice (some ⟨bg, 0, none⟩) (bt Gb).length (bt Gb).length), (24, .slice (some ⟨bg, 0, none⟩) (bt Gb).length (bt Gb).length), (22, .slice (some ⟨bq, 0, none⟩) (bt Qb).length (bt Qb).length), (21, .slice (some ⟨bp, 0, none⟩) (bt Pb).length (bt Pb).length), (20, .slice (some ⟨bp, 0, none⟩) (bt Pb).length (bt Pb).length), (19, .agg (keyC ver created kb).toArray), (18, slV qn), (1, .pointer (some ⟨k1, 0, none⟩)), (3, .pointer (some ⟨k3, 0, none⟩)), (4, .pointer (some ⟨k4, 0, none⟩)), (5, .int .i64 (ver : Int)), (6, slV qn), (7, .pointer (some ⟨k7, 0, none⟩))] ((bp, blk 5 ((bt Pb).length, (bt Pb).length + 1) (bt Pb)) :: ((bq, blk 5 (0, 0) (bt Qb)) :: ((bg, blk 5 ((bt Gb).length, (bt Gb).length + 1) (bt Gb)) :: ((k3, blk 29 (0, 0) z29) :: (k4, blk 33 (0, 0) z33) :: LB)))) := by
  refine KN.two (i := 5) (j := 9) (by kernel_rfl) rfl rfl (show _ = (Ls 21 128511) by kernel_rfl) ?_ rfl rfl (show _ = (Ls 21 128991) by kernel_rfl) ?_
  · skip
    refine OW.mark Tryz.runUnderlying23 Tryz.runUnderlying5 rfl (.there .here) rfl ?_
    refine KN.on (fun _ => Sb.hw) ?_
    exact KS.mk fun a w hS => (secretOf6_2_3_4_5_6_7 hk7 hk1 hqn hnl hnb hF _ _ _ ).out a w ((hS.heap' (Pm.hw hS.mem)).keep ⟨rfl, rfl, rfl, rfl, rfl, rfl, rfl, rfl, rfl, rfl, rfl, rfl, rfl, rfl, rfl, rfl, rfl, rfl, rfl, rfl, rfl, trivial⟩)
  · skip
    refine OW.call (xs := [.tmp 26]) Tryz.call13 rfl (fun w hw => publicNumber_any w0 w _ _ _ _ qn.2.2 rfl (by omega) hqn.cap (hqn.rd.mono (fun _ h => (mS (mS (mS (mS (mS h))))))) hnb hw) rfl ?_
    rintro r w' ⟨oy, rfl, hoy, hw'⟩
    refine ⟨_, _, rfl, hw', ?_⟩
    refine KN.on (fun _ => Sb.hw) ?_
    refine KN.quiet (i := 18) (ls1 := (Ls 21 391135)) secretOf6_sel (by kernel_rfl) (by kernel_rfl) (fun _ => Sb.hw) rfl (v_assign rfl) rfl ?_
    exact KS.mk fun a w hS => (secretOf6_2_3_4_6_7_9 hk7 hk1 hqn hnl hnb hF _ _ _ _ hoy).out a w ((hS.heap' (Pm.hw hS.mem)).keep ⟨rfl, rfl, rfl, rfl, rfl, rfl, rfl, rfl, rfl, rfl, rfl, rfl, rfl, rfl, rfl, rfl, rfl, rfl, rfl, rfl, rfl, rfl, trivial⟩)
theorem secretOf6_2_3_4_5_6 (bp : Nat) (bq : Nat) (bg : Nat)  :
    KS w0 36 (anyC w0 (LB) secretOf6_ops K 7 (Ls 21 128383)) [(34, .bool sub), (33, .pointer (some ⟨k1, 1, none⟩)), (32, .int .u32 (created : Int)), (31, .pointer (some ⟨k1, 2, none⟩)), (30, .int .i64 (ver : Int)), (28, slV qn), (26, slV qn), (24, .slice (some ⟨bg, 0, none⟩) (bt Gb).length (bt Gb).length), (23, .slice (some ⟨bq, 0, none⟩) (bt Qb).length (bt Qb).length), (22, .slice (some ⟨bq, 0, none⟩) (bt Qb).length (bt Qb).length), (21, .slice (some ⟨bp, 0, none⟩) (bt Pb).length (bt Pb).length), (20, .slice (some ⟨bp, 0, none⟩) (bt Pb).length (bt Pb).length), (19, .agg (keyC ver created kb).toArray), (18, slV qn), (1, .pointer (some ⟨k1, 0, none⟩)), (3, .pointer (some ⟨k3, 0, none⟩)), (4, .pointer (some ⟨k4, 0, none⟩)), (5, .int .i64 (ver : Int)), (6, slV qn), (7, .pointer (some ⟨k7, 0, none⟩))] ((bp, blk 5 ((bt Pb).length, (bt Pb).length + 1) (bt Pb)) :: ((bq, blk 5 ((bt Qb).length, (bt Qb).length + 1) (bt Qb)) :: ((bg, blk 5 (0, 0) (bt Gb)) :: ((k3, blk 29 (0, 0) z29) :: (k4, blk 33 (0, 0) z33) :: LB)))) := by
  refine KN.two (i := 7) (j := 9) (by kernel_rfl) rfl rfl (show _ = (Ls 21 128511) by kernel_rfl) ?_ rfl rfl (show _ = (Ls 21 128895) by kernel_rfl) ?_
  · skip
    refine OW.mark Tryz.runUnderlying23 Tryz.runUnderlying5 rfl (.there (.there .here)) rfl ?_
    refine KN.on (fun _ => Sb.hw) ?_
    exact KS.mk fun a w hS => (secretOf6_2_3_4_5_6_7 hk7 hk1 hqn hnl hnb hF _ _ _ ).out a w ((hS.heap' (Pm.hw hS.mem)).keep ⟨rfl, rfl, rfl, rfl, rfl, rfl, rfl, rfl, rfl, rfl, rfl, rfl, rfl, rfl, rfl, rfl, rfl, rfl, rfl, rfl, rfl, trivial⟩)
  · skip
    refine OW.call (xs := [.tmp 26]) Tryz.call13 rfl (fun w hw => publicNumber_any w0 w _ _ _ _ qn.2.2 rfl (by omega) hqn.cap (hqn.rd.mono (fun _ h => (mS (mS (mS (mS (mS h))))))) hnb hw) rfl ?_
    rintro r w' ⟨oy, rfl, hoy, hw'⟩
    refine ⟨_, _, rfl, hw', ?_⟩
    refine KN.on (fun _ => Sb.hw) ?_
    refine KN.quiet (i := 18) (ls1 := (Ls 21 391039)) secretOf6_sel (by kernel_rfl) (by kernel_rfl) (fun _ => Sb.hw) rfl (v_assign rfl) rfl ?_
    exact KS.mk fun a w hS => (secretOf6_2_3_4_5_6_9 hk7 hk1 hqn hnl hnb hF _ _ _ _ hoy).out a w ((hS.heap' (Pm.hw hS.mem)).keep ⟨rfl, rfl, rfl, rfl, rfl, rfl, rfl, rfl, rfl, rfl, rfl, rfl, rfl, rfl, rfl, rfl, rfl, rfl, rfl, rfl, rfl, rfl, trivial⟩)
theorem secretOf6_6_9_19 (bg : Nat) (oy : Option Own) (hoy : oy = none → bt (pubN qn.2.2) = []) :
    KS w0 36 (anyC w0 (LB) secretOf6_ops K 8 (Ls 21 915267)) [(2, slV qn), (34, .bool sub), (33, .pointer (some ⟨k1, 1, none⟩)), (32, .int .u32 (created : Int)), (31, .pointer (some ⟨k1, 2, none⟩)), (30, .int .i64 (ver : Int)), (28, slV qn), (27, ownV oy (bt (pubN qn.2.2))), (26, slV qn), (24, .slice (some ⟨bg, 0, none⟩) (bt Gb).length (bt Gb).length), (19, .agg (keyC ver created kb).toArray), (18, slV qn), (1, .pointer (some ⟨k1, 0, none⟩)), (3, .pointer (some ⟨k3, 0, none⟩)), (4, .pointer (some ⟨k4, 0, none⟩)), (5, .int .i64 (ver : Int)), (6, slV qn), (7, .pointer (some ⟨k7, 0, none⟩))] ((bg, blk 5 (0, 0) (bt Gb)) :: (ownL 5 oy (bt (pubN qn.2.2)) ++ ((k3, blk 29 (0, 0) (keyC ver created kb)) :: (k4, blk 33 (0, 0) z33) :: LB))) := by
  refine KN.three (i := 2) (j := 4) (k := 7) (by kernel_rfl) rfl rfl (show _ = (Ls 21 915271) by kernel_rfl) ?_ rfl rfl (show _ = (Ls 21 915283) by kernel_rfl) ?_ rfl rfl (show _ = (Ls 21 915395) by kernel_rfl) ?_
  · skip
    refine OW.buildSlice (us := bt Pb) (xs := [.const (.int .u8 1), .const (.int .u8 0), .const (.int .u8 0), .const (.int .u8 0), .const (.int .u8 0), .const (.int .u8 1), .const (.int .u8 255), .const (.int .u8 255), .const (.int .u8 255), .const (.int .u8 255), .const (.int .u8 255), .const (.int .u8 255), .const (.int .u8 255), .const (.int .u8 255), .const (.int .u8 255), .const (.int .u8 255), .const (.int .u8 255), .const (.int .u8 255), .const (.int .u8 255), .const (.int .u8 255), .const (.int .u8 208), .const (.int .u8 255), .const (.int .u8 255), .const (.int .u8 255), .const (.int .u8 255), .const (.int .u8 163)]) Tryz.runUnderlying23 Tryz.sizeOf5 Tryz.zeroValue5 rfl rfl rfl (by decide) rfl (fun bp => ?_) rfl rfl
    refine KN.on (fun _ => Sb.hw) ?_
    exact KS.mk fun a w hS => (secretOf6_2_6_9_19 hk7 hk1 hqn hnl hnb hF _ _ _ hoy).out a w ((hS.heap' (Pm.hw hS.mem)).keep ⟨rfl, rfl, rfl, rfl, rfl, rfl, rfl, rfl, rfl, rfl, rfl, rfl, rfl, rfl, rfl, rfl, rfl, rfl, rfl, trivial⟩)
  · skip
    refine OW.buildSlice (us := bt Qb) (xs := [.const (.int .u8 255), .const (.int .u8 255), .const (.int .u8 255), .const (.int .u8 255), .const (.int .u8 255), .const (.int .u8 255), .const (.int .u8 255), .const (.int .u8 255), .const (.int .u8 255), .const (.int .u8 255), .const (.int .u8 255), .const (.int .u8 255), .const (.int .u8 255), .const (.int .u8 255), .const (.int .u8 255), .const (.int .u8 255), .const (.int .u8 255), .const (.int .u8 255), .const (.int .u8 255), .const (.int .u8 209)]) Tryz.runUnderlying23 Tryz.sizeOf5 Tryz.zeroValue5 rfl rfl rfl (by decide) rfl (fun bq => ?_) rfl rfl
    refine KN.on (fun _ => Sb.hw) ?_
    exact KS.mk fun a w hS => (secretOf6_4_6_9_19 hk7 hk1 hqn hnl hnb hF _ _ _ hoy).out a w ((hS.heap' (Pm.hw hS.mem)).keep ⟨rfl, rfl, rfl, rfl, rfl, rfl, rfl, rfl, rfl, rfl, rfl, rfl, rfl, rfl, rfl, rfl, rfl, rfl, rfl, trivial⟩)
  · skip
    refine OW.mark Tryz.runUnderlying23 Tryz.runUnderlying5 rfl .here rfl ?_
    refine KN.on (fun _ => Sb.hw) ?_
    exact KS.mk fun a w hS => (secretOf6_6_7_9_19 hk7 hk1 hqn hnl hnb hF _ _ hoy).out a w ((hS.heap' (Pm.hw hS.mem)).keep ⟨rfl, rfl, rfl, rfl, rfl, rfl, rfl, rfl, rfl, rfl, rfl, rfl, rfl, rfl, rfl, rfl, rfl, rfl, rfl, trivial⟩)
theorem secretOf6_4_9_19 (bq : Nat) (oy : Option Own) (hoy : oy = none → bt (pubN qn.2.2) = []) :
    KS w0 36 (anyC w0 (LB) secretOf6_ops K 8 (Ls 21 915219)) [(2, slV qn), (34, .bool sub), (33, .pointer (some ⟨k1, 1, none⟩)), (32, .int .u32 (created : Int)), (31, .pointer (some ⟨k1, 2, none⟩)), (30, .int .i64 (ver : Int)), (28, slV qn), (27, ownV oy (bt (pubN qn.2.2))), (26, slV qn), (22, .slice (some ⟨bq, 0, none⟩) (bt Qb).length (bt Qb).length), (19, .agg (keyC ver created kb).toArray), (18, slV qn), (1, .pointer (some ⟨k1, 0, none⟩)), (3, .pointer (some ⟨k3, 0, none⟩)), (4, .pointer (some ⟨k4, 0, none⟩)), (5, .int .i64 (ver : Int)), (6, slV qn), (7, .pointer (some ⟨k7, 0, none⟩))] ((bq, blk 5 (0, 0) (bt Qb)) :: (ownL 5 oy (bt (pubN qn.2.2)) ++ ((k3, blk 29 (0, 0) (keyC ver created kb)) :: (k4, blk 33 (0, 0) z33) :: LB))) := by
  refine KN.three (i := 2) (j := 5) (k := 6) (by kernel_rfl) rfl rfl (show _ = (Ls 21 915223) by kernel_rfl) ?_ rfl rfl (show _ = (Ls 21 915251) by kernel_rfl) ?_ rfl rfl (show _ = (Ls 21 915283) by kernel_rfl) ?_
  · skip
    refine OW.buildSlice (us := bt Pb) (xs := [.const (.int .u8 1), .const (.int .u8 0), .const (.int .u8 0), .const (.int .u8 0), .const (.int .u8 0), .const (.int .u8 1), .const (.int .u8 255), .const (.int .u8 255), .const (.int .u8 255), .const (.int .u8 255), .const (.int .u8 255), .const (.int .u8 255), .const (.int .u8 255), .const (.int .u8 255), .const (.int .u8 255), .const (.int .u8 255), .const (.int .u8 255), .const (.int .u8 255), .const (.int .u8 255), .const (.int .u8 255), .const (.int .u8 208), .const (.int .u8 255), .const (.int .u8 255), .const (.int .u8 255), .const (.int .u8 255), .const (.int .u8 163)]) Tryz.runUnderlying23 Tryz.sizeOf5 Tryz.zeroValue5 rfl rfl rfl (by decide) rfl (fun bp => ?_) rfl rfl
    refine KN.on (fun _ => Sb.hw) ?_
    exact KS.mk fun a w hS => (secretOf6_2_4_9_19 hk7 hk1 hqn hnl hnb hF _ _ _ hoy).out a w ((hS.heap' (Pm.hw hS.mem)).keep ⟨rfl, rfl, rfl, rfl, rfl, rfl, rfl, rfl, rfl, rfl, rfl, rfl, rfl, rfl, rfl, rfl, rfl, rfl, rfl, trivial⟩)
  · skip
    refine OW.mark Tryz.runUnderlying23 Tryz.runUnderlying5 rfl .here rfl ?_
    refine KN.on (fun _ => Sb.hw) ?_
    exact KS.mk fun a w hS => (secretOf6_4_5_9_19 hk7 hk1 hqn hnl hnb hF _ _ hoy).out a w ((hS.heap' (Pm.hw hS.mem)).keep ⟨rfl, rfl, rfl, rfl, rfl, rfl, rfl, rfl, rfl, rfl, rfl, rfl, rfl, rfl, rfl, rfl, rfl, rfl, rfl, trivial⟩)
  · skip
    refine OW.buildSlice (us := bt Gb) (xs := [.const (.int .u8 131), .const (.int .u8 5), .const (.int .u8 225), .const (.int .u8 200), .const (.int .u8 246), .const (.int .u8 133), .const (.int .u8 197), .const (.int .u8 165), .const (.int .u8 35), .const (.int .u8 209), .const (.int .u8 150), .const (.int .u8 65), .const (.int .u8 151), .const (.int .u8 215), .const (.int .u8 129), .const (.int .u8 228), .const (.int .u8 148), .const (.int .u8 103), .const (.int .u8 50), .const (.int .u8 126), .const (.int .u8 57), .const (.int .u8 130), .const (.int .u8 47), .const (.int .u8 61), .const (.int .u8 39)]) Tryz.runUnderlying23 Tryz.sizeOf5 Tryz.zeroValue5 rfl rfl rfl (by decide) rfl (fun bg => ?_) rfl rfl
    refine KN.on (fun _ => Sb.hw) ?_
    exact KS.mk fun a w hS => (secretOf6_4_6_9_19 hk7 hk1 hqn hnl hnb hF _ _ _ hoy).out a w ((hS.heap' (Pm.hw hS.mem)).keep ⟨rfl, rfl, rfl, rfl, rfl, rfl, rfl, rfl, rfl, rfl, rfl, rfl, rfl, rfl, rfl, rfl, rfl, rfl, rfl, trivial⟩)
theorem secretOf6_2_9_19 (bp : Nat) (oy : Option Own) (hoy : oy = none → bt (pubN qn.2.2) = []) :
    KS w0 36 (anyC w0 (LB) secretOf6_ops K 8 (Ls 21 915207)) [(2, slV qn), (34, .bool sub), (33, .pointer (some ⟨k1, 1, none⟩)), (32, .int .u32 (created : Int)), (31, .pointer (some ⟨k1, 2, none⟩)), (30, .int .i64 (ver : Int)), (28, slV qn), (27, ownV oy (bt (pubN qn.2.2))), (26, slV qn), (20, .slice (some ⟨bp, 0, none⟩) (bt Pb).length (bt Pb).length), (19, .agg (keyC ver created kb).toArray), (18, slV qn), (1, .pointer (some ⟨k1, 0, none⟩)), (3, .pointer (some ⟨k3, 0, none⟩)), (4, .pointer (some ⟨k4, 0, none⟩)), (5, .int .i64 (ver : Int)), (6, slV qn), (7, .pointer (some ⟨k7, 0, none⟩))] ((bp, blk 5 (0, 0) (bt Pb)) :: (ownL 5 oy (bt (pubN qn.2.2)) ++ ((k3, blk 29 (0, 0) (keyC ver created kb)) :: (k4, blk 33 (0, 0) z33) :: LB))) := by
  refine KN.three (i := 3) (j := 4) (k := 6) (by kernel_rfl) rfl rfl (show _ = (Ls 21 915215) by kernel_rfl) ?_ rfl rfl (show _ = (Ls 21 915223) by kernel_rfl) ?_ rfl rfl (show _ = (Ls 21 915271) by kernel_rfl) ?_
  · skip
    refine OW.mark Tryz.runUnderlying23 Tryz.runUnderlying5 rfl .here rfl ?_
    refine KN.on (fun _ => Sb.hw) ?_
    exact KS.mk fun a w hS => (secretOf6_2_3_9_19 hk7 hk1 hqn hnl hnb hF _ _ hoy).out a w ((hS.heap' (Pm.hw hS.mem)).keep ⟨rfl, rfl, rfl, rfl, rfl, rfl, rfl, rfl, rfl, rfl, rfl, rfl, rfl, rfl, rfl, rfl, rfl, rfl, rfl, trivial⟩)
  · skip
    refine OW.buildSlice (us := bt Qb) (xs := [.const (.int .u8 255), .const (.int .u8 255), .const (.int .u8 255), .const (.int .u8 255), .const (.int .u8 255), .const (.int .u8 255), .const (.int .u8 255), .const (.int .u8 255), .const (.int .u8 255), .const (.int .u8 255), .const (.int .u8 255), .const (.int .u8 255), .const (.int .u8 255), .const (.int .u8 255), .const (.int .u8 255), .const (.int .u8 255), .const (.int .u8 255), .const (.int .u8 255), .const (.int .u8 255), .const (.int .u8 209)]) Tryz.runUnderlying23 Tryz.sizeOf5 Tryz.zeroValue5 rfl rfl rfl (by decide) rfl (fun bq => ?_) rfl rfl
    refine KN.on (fun _ => Sb.hw) ?_
    exact KS.mk fun a w hS => (secretOf6_2_4_9_19 hk7 hk1 hqn hnl hnb hF _ _ _ hoy).out a w ((hS.heap' (Pm.hw hS.mem)).keep ⟨rfl, rfl, rfl, rfl, rfl, rfl, rfl, rfl, rfl, rfl, rfl, rfl, rfl, rfl, rfl, rfl, rfl, rfl, rfl, trivial⟩)
  · skip
    refine OW.buildSlice (us := bt Gb) (xs := [.const (.int .u8 131), .const (.int .u8 5), .const (.int .u8 225), .const (.int .u8 200), .const (.int .u8 246), .const (.int .u8 133), .const (.int .u8 197), .const (.int .u8 165), .const (.int .u8 35), .const (.int .u8 209), .const (.int .u8 150), .const (.int .u8 65), .const (.int .u8 151), .const (.int .u8 215), .const (.int .u8 129), .const (.int .u8 228), .const (.int .u8 148), .const (.int .u8 103), .const (.int .u8 50), .const (.int .u8 126), .const (.int .u8 57), .const (.int .u8 130), .const (.int .u8 47), .const (.int .u8 61), .const (.int .u8 39)]) Tryz.runUnderlying23 Tryz.sizeOf5 Tryz.zeroValue5 rfl rfl rfl (by decide) rfl (fun bg => ?_) rfl rfl
    refine KN.on (fun _ => Sb.hw) ?_
    exact KS.mk fun a w hS => (secretOf6_2_6_9_19 hk7 hk1 hqn hnl hnb hF _ _ _ hoy).out a w ((hS.heap' (Pm.hw hS.mem)).keep ⟨rfl, rfl, rfl, rfl, rfl, rfl, rfl, rfl, rfl, rfl, rfl, rfl, rfl, rfl, rfl, rfl, rfl, rfl, rfl, trivial⟩)
theorem secretOf6_6_7_9 (bg : Nat) (oy : Option Own) (hoy : oy = none → bt (pubN qn.2.2) = []) :
    KS w0 36 (anyC w0 (LB) secretOf6_ops K 8 (Ls 21 391107)) [(2, slV qn), (34, .bool sub), (33, .pointer (some ⟨k1, 1, none⟩)), (32, .int .u32 (created : Int)), (31, .pointer (some ⟨k1, 2, none⟩)), (30, .int .i64 (ver : Int)), (28, slV qn), (27, ownV oy (bt (pubN qn.2.2))), (26, slV qn), (25, .slice (some ⟨bg, 0, none⟩) (bt Gb).length (bt Gb).length), (24, .slice (some ⟨bg, 0, none⟩) (bt Gb).length (bt Gb).length), (19, .agg (keyC ver created kb).toArray), (18, slV qn), (1, .pointer (some ⟨k1, 0, none⟩)), (3, .pointer (some ⟨k3, 0, none⟩)), (4, .pointer (some ⟨k4, 0, none⟩)), (5, .int .i64 (ver : Int)), (6, slV qn), (7, .pointer (some ⟨k7, 0, none⟩))] ((bg, blk 5 ((bt Gb).length, (bt Gb).length + 1) (bt Gb)) :: (ownL 5 oy (bt (pubN qn.2.2)) ++ ((k3, blk 29 (0, 0) z29) :: (k4, blk 33 (0, 0) z33) :: LB))) := by
  refine KN.three (i := 2) (j := 4) (k := 19) (by kernel_rfl) rfl rfl (show _ = (Ls 21 391111) by kernel_rfl) ?_ rfl rfl (show _ = (Ls 21 391123) by kernel_rfl) ?_ rfl rfl (show _ = (Ls 21 915395) by kernel_rfl) ?_
  · skip
    refine OW.buildSlice (us := bt Pb) (xs := [.const (.int .u8 1), .const (.int .u8 0), .const (.int .u8 0), .const (.int .u8 0), .const (.int .u8 0), .const (.int .u8 1), .const (.int .u8 255), .const (.int .u8 255), .const (.int .u8 255), .const (.int .u8 255), .const (.int .u8 255), .const (.int .u8 255), .const (.int .u8 255), .const (.int .u8 255), .const (.int .u8 255), .const (.int .u8 255), .const (.int .u8 255), .const (.int .u8 255), .const (.int .u8 255), .const (.int .u8 255), .const (.int .u8 208), .const (.int .u8 255), .const (.int .u8 255), .const (.int .u8 255), .const (.int .u8 255), .const (.int .u8 163)]) Tryz.runUnderlying23 Tryz.sizeOf5 Tryz.zeroValue5 rfl rfl rfl (by decide) rfl (fun bp => ?_) rfl rfl
    refine KN.on (fun _ => Sb.hw) ?_
    exact KS.mk fun a w hS => (secretOf6_2_6_7_9 hk7 hk1 hqn hnl hnb hF _ _ _ hoy).out a w ((hS.heap' (Pm.hw hS.mem)).keep ⟨rfl, rfl, rfl, rfl, rfl, rfl, rfl, rfl, rfl, rfl, rfl, rfl, rfl, rfl, rfl, rfl, rfl, rfl, rfl, rfl, trivial⟩)
  · skip
    refine OW.buildSlice (us := bt Qb) (xs := [.const (.int .u8 255), .const (.int .u8 255), .const (.int .u8 255), .const (.int .u8 255), .const (.int .u8 255), .const (.int .u8 255), .const (.int .u8 255), .const (.int .u8 255), .const (.int .u8 255), .const (.int .u8 255), .const (.int .u8 255), .const (.int .u8 255), .const (.int .u8 255), .const (.int .u8 255), .const (.int .u8 255), .const (.int .u8 255), .const (.int .u8 255), .const (.int .u8 255), .const (.int .u8 255), .const (.int .u8 209)]) Tryz.runUnderlying23 Tryz.sizeOf5 Tryz.zeroValue5 rfl rfl rfl (by decide) rfl (fun bq => ?_) rfl rfl
    refine KN.on (fun _ => Sb.hw) ?_
    exact KS.mk fun a w hS => (secretOf6_4_6_7_9 hk7 hk1 hqn hnl hnb hF _ _ _ hoy).out a w ((hS.heap' (Pm.hw hS.mem)).keep ⟨rfl, rfl, rfl, rfl, rfl, rfl, rfl, rfl, rfl, rfl, rfl, rfl, rfl, rfl, rfl, rfl, rfl, rfl, rfl, rfl, trivial⟩)
  · skip
    refine OW.storeAgg (us := (keyC ver created kb)) Tryz.sizeOf29 rfl rfl rfl rfl (overlay_all _ _ (by rfl)) (.there (At.over .here _)) (Nat.le_refl _) ?_
    refine KN.on (fun _ => Sb.hw) ?_
    exact KS.mk fun a w hS => (secretOf6_6_7_9_19 hk7 hk1 hqn hnl hnb hF _ _ hoy).out a w ((hS.heap' (Pm.hw hS.mem)).keep ⟨rfl, rfl, rfl, rfl, rfl, rfl, rfl, rfl, rfl, rfl, rfl, rfl, rfl, rfl, rfl, rfl, rfl, rfl, rfl, trivial⟩)
theorem secretOf6_4_6_9 (bq : Nat) (bg : Nat) (oy : Option Own) (hoy : oy = none → bt (pubN qn.2.2) = []) :
    KS w0 36 (anyC w0 (LB) secretOf6_ops K 8 (Ls 21 390995)) [(2, slV qn), (34, .bool sub), (33, .pointer (some ⟨k1, 1, none⟩)), (32, .int .u32 (created : Int)), (31, .pointer (some ⟨k1, 2, none⟩)), (30, .int .i64 (ver : Int)), (28, slV qn), (27, ownV oy (bt (pubN qn.2.2))), (26, slV qn), (24, .slice (some ⟨bg, 0, none⟩) (bt Gb).length (bt Gb).length), (22, .slice (some ⟨bq, 0, none⟩) (bt Qb).length (bt Qb).length), (19, .agg (keyC ver created kb).toArray), (18, slV qn), (1, .pointer (some ⟨k1, 0, none⟩)), (3, .pointer (some ⟨k3, 0, none⟩)), (4, .pointer (some ⟨k4, 0, none⟩)), (5, .int .i64 (ver : Int)), (6, slV qn), (7, .pointer (some ⟨k7, 0, none⟩))] ((bq, blk 5 (0, 0) (bt Qb)) :: ((bg, blk 5 (0, 0) (bt Gb)) :: (ownL 5 oy (bt (pubN qn.2.2)) ++ ((k3, blk 29 (0, 0) z29) :: (k4, blk 33 (0, 0) z33) :: LB)))) := by
  refine KN.four (i := 2) (j := 5) (k := 7) (i' := 19) (by kernel_rfl) rfl rfl (show _ = (Ls 21 390999) by kernel_rfl) ?_ rfl rfl (show _ = (Ls 21 391027) by kernel_rfl) ?_ rfl rfl (show _ = (Ls 21 391123) by kernel_rfl) ?_ rfl rfl (show _ = (Ls 21 915283) by kernel_rfl) ?_
  · skip
    refine OW.buildSlice (us := bt Pb) (xs := [.const (.int .u8 1), .const (.int .u8 0), .const (.int .u8 0), .const (.int .u8 0), .const (.int .u8 0), .const (.int .u8 1), .const (.int .u8 255), .const (.int .u8 255), .const (.int .u8 255), .const (.int .u8 255), .const (.int .u8 255), .const (.int .u8 255), .const (.int .u8 255), .const (.int .u8 255), .const (.int .u8 255), .const (.int .u8 255), .const (.int .u8 255), .const (.int .u8 255), .const (.int .u8 255), .const (.int .u8 255), .const (.int .u8 208), .const (.int .u8 255), .const (.int .u8 255), .const (.int .u8 255), .const (.int .u8 255), .const (.int .u8 163)]) Tryz.runUnderlying23 Tryz.sizeOf5 Tryz.zeroValue5 rfl rfl rfl (by decide) rfl (fun bp => ?_) rfl rfl
    refine KN.on (fun _ => Sb.hw) ?_
    exact KS.mk fun a w hS => (secretOf6_2_4_6_9 hk7 hk1 hqn hnl hnb hF _ _ _ _ hoy).out a w ((hS.heap' (Pm.hw hS.mem)).keep ⟨rfl, rfl, rfl, rfl, rfl, rfl, rfl, rfl, rfl, rfl, rfl, rfl, rfl, rfl, rfl, rfl, rfl, rfl, rfl, rfl, trivial⟩)
  · skip
    refine OW.mark Tryz.runUnderlying23 Tryz.runUnderlying5 rfl .here rfl ?_
    refine KN.on (fun _ => Sb.hw) ?_
    exact KS.mk fun a w hS => (secretOf6_4_5_6_9 hk7 hk1 hqn hnl hnb hF _ _ _ hoy).out a w ((hS.heap' (Pm.hw hS.mem)).keep ⟨rfl, rfl, rfl, rfl, rfl, rfl, rfl, rfl, rfl, rfl, rfl, rfl, rfl, rfl, rfl, rfl, rfl, rfl, rfl, rfl, trivial⟩)
  · skip
    refine OW.mark Tryz.runUnderlying23 Tryz.runUnderlying5 rfl (.there .here) rfl ?_
    refine KN.on (fun _ => Sb.hw) ?_
    exact KS.mk fun a w hS => (secretOf6_4_6_7_9 hk7 hk1 hqn hnl hnb hF _ _ _ hoy).out a w ((hS.heap' (Pm.hw hS.mem)).keep ⟨rfl, rfl, rfl, rfl, rfl, rfl, rfl, rfl, rfl, rfl, rfl, rfl, rfl, rfl, rfl, rfl, rfl, rfl, rfl, rfl, trivial⟩)
  · skip
    refine OW.storeAgg (us := (keyC ver created kb)) Tryz.sizeOf29 rfl rfl rfl rfl (overlay_all _ _ (by rfl)) (.there (.there (At.over .here _))) (Nat.le_refl _) ?_
    refine KN.on (fun _ => Sb.hw) ?_
    exact KS.mk fun a w hS => (secretOf6_4_6_9_19 hk7 hk1 hqn hnl hnb hF _ _ _ hoy).out a w ((hS.heap' (Pm.hw hS.mem)).keep ⟨rfl, rfl, rfl, rfl, rfl, rfl, rfl, rfl, rfl, rfl, rfl, rfl, rfl, rfl, rfl, rfl, rfl, rfl, rfl, trivial⟩)
theorem secretOf6_2_6_9 (bp : Nat) (bg : Nat) (oy : Option Own) (hoy : oy = none → bt (pubN qn.2.2) = []) :
    KS w0 36 (anyC w0 (LB) secretOf6_ops K 8 (Ls 21 390983)) [(2, slV qn), (34, .bool sub), (33, .pointer (some ⟨k1, 1, none⟩)), (32, .int .u32 (created : Int)), (31, .pointer (some ⟨k1, 2, none⟩)), (30, .int .i64 (ver : Int)), (28, slV qn), (27, ownV oy (bt (pubN qn.2.2))), (26, slV qn), (24, .slice (some ⟨bg, 0, none⟩) (bt Gb).length (bt Gb).length), (20, .slice (some ⟨bp, 0, none⟩) (bt Pb).length (bt Pb).length), (19, .agg (keyC ver created kb).toArray), (18, slV qn), (1, .pointer (some ⟨k1, 0, none⟩)), (3, .pointer (some ⟨k3, 0, none⟩)), (4, .pointer (some ⟨k4, 0, none⟩)), (5, .int .i64 (ver : Int)), (6, slV qn), (7, .pointer (some ⟨k7, 0, none⟩))] ((bp, blk 5 (0, 0) (bt Pb)) :: ((bg, blk 5 (0, 0) (bt Gb)) :: (ownL 5 oy (bt (pubN qn.2.2)) ++ ((k3, blk 29 (0, 0) z29) :: (k4, blk 33 (0, 0) z33) :: LB)))) := by
  refine KN.four (i := 3) (j := 4) (k := 7) (i' := 19) (by kernel_rfl) rfl rfl (show _ = (Ls 21 390991) by kernel_rfl) ?_ rfl rfl (show _ = (Ls 21 390999) by kernel_rfl) ?_ rfl rfl (show _ = (Ls 21 391111) by kernel_rfl) ?_ rfl rfl (show _ = (Ls 21 915271) by kernel_rfl) ?_
  · skip
    refine OW.mark Tryz.runUnderlying23 Tryz.runUnderlying5 rfl .here rfl ?_
    refine KN.on (fun _ => Sb.hw) ?_
    exact KS.mk fun a w hS => (secretOf6_2_3_6_9 hk7 hk1 hqn hnl hnb hF _ _ _ hoy).out a w ((hS.heap' (Pm.hw hS.mem)).keep ⟨rfl, rfl, rfl, rfl, rfl, rfl, rfl, rfl, rfl, rfl, rfl, rfl, rfl, rfl, rfl, rfl, rfl, rfl, rfl, rfl, trivial⟩)
  · skip
    refine OW.buildSlice (us := bt Qb) (xs := [.const (.int .u8 255), .const (.int .u8 255), .const (.int .u8 255), .const (.int .u8 255), .const (.int .u8 255), .const (.int .u8 255), .const (.int .u8 255), .const (.int .u8 255), .const (.int .u8 255), .const (.int .u8 255), .const (.int .u8 255), .const (.int .u8 255), .const (.int .u8 255), .const (.int .u8 255), .const (.int .u8 255), .const (.int .u8 255), .const (.int .u8 255), .const (.int .u8 255), .const (.int .u8 255), .const (.int .u8 209)]) Tryz.runUnderlying23 Tryz.sizeOf5 Tryz.zeroValue5 rfl rfl rfl (by decide) rfl (fun bq => ?_) rfl rfl
    refine KN.on (fun _ => Sb.hw) ?_
    exact KS.mk fun a w hS => (secretOf6_2_4_6_9 hk7 hk1 hqn hnl hnb hF _ _ _ _ hoy).out a w ((hS.heap' (Pm.hw hS.mem)).keep ⟨rfl, rfl, rfl, rfl, rfl, rfl, rfl, rfl, rfl, rfl, rfl, rfl, rfl, rfl, rfl, rfl, rfl, rfl, rfl, rfl, trivial⟩)
  · skip
    refine OW.mark Tryz.runUnderlying23 Tryz.runUnderlying5 rfl (.there .here) rfl ?_
    refine KN.on (fun _ => Sb.hw) ?_
    exact KS.mk fun a w hS => (secretOf6_2_6_7_9 hk7 hk1 hqn hnl hnb hF _ _ _ hoy).out a w ((hS.heap' (Pm.hw hS.mem)).keep ⟨rfl, rfl, rfl, rfl, rfl, rfl, rfl, rfl, rfl, rfl, rfl, rfl, rfl, rfl, rfl, rfl, rfl, rfl, rfl, rfl, trivial⟩)
  · skip
    refine OW.storeAgg (us := (keyC ver created kb)) Tryz.sizeOf29 rfl rfl rfl rfl (overlay_all _ _ (by rfl)) (.there (.there (At.over .here _))) (Nat.le_refl _) ?_
    refine KN.on (fun _ => Sb.hw) ?_
    exact KS.mk fun a w hS => (secretOf6_2_6_9_19 hk7 hk1 hqn hnl hnb hF _ _ _ hoy).out a w ((hS.heap' (Pm.hw hS.mem)).keep ⟨rfl, rfl, rfl, rfl, rfl, rfl, rfl, rfl, rfl, rfl, rfl, rfl, rfl, rfl, rfl, rfl, rfl, rfl, rfl, trivial⟩)
theorem secretOf6_4_5_9 (bq : Nat) (oy : Option Own) (hoy : oy = none → bt (pubN qn.2.2) = []) :
    KS w0 36 (anyC w0 (LB) secretOf6_ops K 8 (Ls 21 390963)) [(2, slV qn), (34, .bool sub), (33, .pointer (some ⟨k1, 1, none⟩)), (32, .int .u32 (created : Int)), (31, .pointer (some ⟨k1, 2, none⟩)), (30, .int .i64 (ver : Int)), (28, slV qn), (27, ownV oy (bt (pubN qn.2.2))), (26, slV qn), (23, .slice (some ⟨bq, 0, none⟩) (bt Qb).length (bt Qb).length), (22, .slice (some ⟨bq, 0, none⟩) (bt Qb).length (bt Qb).length), (19, .agg (keyC ver created kb).toArray), (18, slV qn), (1, .pointer (some ⟨k1, 0, none⟩)), (3, .pointer (some ⟨k3, 0, none⟩)), (4, .pointer (some ⟨k4, 0, none⟩)), (5, .int .i64 (ver : Int)), (6, slV qn), (7, .pointer (some ⟨k7, 0, none⟩))] ((bq, blk 5 ((bt Qb).length, (bt Qb).length + 1) (bt Qb)) :: (ownL 5 oy (bt (pubN qn.2.2)) ++ ((k3, blk 29 (0, 0) z29) :: (k4, blk 33 (0, 0) z33) :: LB))) := by
  refine KN.three (i := 2) (j := 6) (k := 19) (by kernel_rfl) rfl rfl (show _ = (Ls 21 390967) by kernel_rfl) ?_ rfl rfl (show _ = (Ls 21 391027) by kernel_rfl) ?_ rfl rfl (show _ = (Ls 21 915251) by kernel_rfl) ?_
  · skip
    refine OW.buildSlice (us := bt Pb) (xs := [.const (.int .u8 1), .const (.int .u8 0), .const (.int .u8 0), .const (.int .u8 0), .const (.int .u8 0), .const (.int .u8 1), .const (.int .u8 255), .const (.int .u8 255), .const (.int .u8 255), .const (.int .u8 255), .const (.int .u8 255), .const (.int .u8 255), .const (.int .u8 255), .const (.int .u8 255), .const (.int .u8 255), .const (.int .u8 255), .const (.int .u8 255), .const (.int .u8 255), .const (.int .u8 255), .const (.int .u8 255), .const (.int .u8 208), .const (.int .u8 255), .const (.int .u8 255), .const (.int .u8 255), .const (.int .u8 255), .const (.int .u8 163)]) Tryz.runUnderlying23 Tryz.sizeOf5 Tryz.zeroValue5 rfl rfl rfl (by decide) rfl (fun bp => ?_) rfl rfl
    refine KN.on (fun _ => Sb.hw) ?_
    exact KS.mk fun a w hS => (secretOf6_2_4_5_9 hk7 hk1 hqn hnl hnb hF _ _ _ hoy).out a w ((hS.heap' (Pm.hw hS.mem)).keep ⟨rfl, rfl, rfl, rfl, rfl, rfl, rfl, rfl, rfl, rfl, rfl, rfl, rfl, rfl, rfl, rfl, rfl, rfl, rfl, rfl, trivial⟩)
  · skip
    refine OW.buildSlice (us := bt Gb) (xs := [.const (.int .u8 131), .const (.int .u8 5), .const (.int .u8 225), .const (.int .u8 200), .const (.int .u8 246), .const (.int .u8 133), .const (.int .u8 197), .const (.int .u8 165), .const (.int .u8 35), .const (.int .u8 209), .const (.int .u8 150), .const (.int .u8 65), .const (.int .u8 151), .const (.int .u8 215), .const (.int .u8 129), .const (.int .u8 228), .const (.int .u8 148), .const (.int .u8 103), .const (.int .u8 50), .const (.int .u8 126), .const (.int .u8 57), .const (.int .u8 130), .const (.int .u8 47), .const (.int .u8 61), .const (.int .u8 39)]) Tryz.runUnderlying23 Tryz.sizeOf5 Tryz.zeroValue5 rfl rfl rfl (by decide) rfl (fun bg => ?_) rfl rfl
    refine KN.on (fun _ => Sb.hw) ?_
    exact KS.mk fun a w hS => (secretOf6_4_5_6_9 hk7 hk1 hqn hnl hnb hF _ _ _ hoy).out a w ((hS.heap' (Pm.hw hS.mem)).keep ⟨rfl, rfl, rfl, rfl, rfl, rfl, rfl, rfl, rfl, rfl, rfl, rfl, rfl, rfl, rfl, rfl, rfl, rfl, rfl, rfl, trivial⟩)
  · skip
    refine OW.storeAgg (us := (keyC ver created kb)) Tryz.sizeOf29 rfl rfl rfl rfl (overlay_all _ _ (by rfl)) (.there (At.over .here _)) (Nat.le_refl _) ?_
    refine KN.on (fun _ => Sb.hw) ?_
    exact KS.mk fun a w hS => (secretOf6_4_5_9_19 hk7 hk1 hqn hnl hnb hF _ _ hoy).out a w ((hS.heap' (Pm.hw hS.mem)).keep ⟨rfl, rfl, rfl, rfl, rfl, rfl, rfl, rfl, rfl, rfl, rfl, rfl, rfl, rfl, rfl, rfl, rfl, rfl, rfl, trivial⟩)
theorem secretOf6_2_4_9 (bp : Nat) (bq : Nat) (oy : Option Own) (hoy : oy = none → bt (pubN qn.2.2) = []) :
    KS w0 36 (anyC w0 (LB) secretOf6_ops K 8 (Ls 21 390935)) [(2, slV qn), (34, .bool sub), (33, .pointer (some ⟨k1, 1, none⟩)), (32, .int .u32 (created : Int)), (31, .pointer (some ⟨k1, 2, none⟩)), (30, .int .i64 (ver : Int)), (28, slV qn), (27, ownV oy (bt (pubN qn.2.2))), (26, slV qn), (22, .slice (some ⟨bq, 0, none⟩) (bt Qb).length (bt Qb).length), (20, .slice (some ⟨bp, 0, none⟩) (bt Pb).length (bt Pb).length), (19, .agg (keyC ver created kb).toArray), (18, slV qn), (1, .pointer (some ⟨k1, 0, none⟩)), (3, .pointer (some ⟨k3, 0, none⟩)), (4, .pointer (some ⟨k4, 0, none⟩)), (5, .int .i64 (ver : Int)), (6, slV qn), (7, .pointer (some ⟨k7, 0, none⟩))] ((bp, blk 5 (0, 0) (bt Pb)) :: ((bq, blk 5 (0, 0) (bt Qb)) :: (ownL 5 oy (bt (pubN qn.2.2)) ++ ((k3, blk 29 (0, 0) z29) :: (k4, blk 33 (0, 0) z33) :: LB)))) := by
  refine KN.four (i := 3) (j := 5) (k := 6) (i' := 19) (by kernel_rfl) rfl rfl (show _ = (Ls 21 390943) by kernel_rfl) ?_ rfl rfl (show _ = (Ls 21 390967) by kernel_rfl) ?_ rfl rfl (show _ = (Ls 21 390999) by kernel_rfl) ?_ rfl rfl (show _ = (Ls 21 915223) by kernel_rfl) ?_
  · skip
    refine OW.mark Tryz.runUnderlying23 Tryz.runUnderlying5 rfl .here rfl ?_
    refine KN.on (fun _ => Sb.hw) ?_
    exact KS.mk fun a w hS => (secretOf6_2_3_4_9 hk7 hk1 hqn hnl hnb hF _ _ _ hoy).out a w ((hS.heap' (Pm.hw hS.mem)).keep ⟨rfl, rfl, rfl, rfl, rfl, rfl, rfl, rfl, rfl, rfl, rfl, rfl, rfl, rfl, rfl, rfl, rfl, rfl, rfl, rfl, trivial⟩)
  · skip
    refine OW.mark Tryz.runUnderlying23 Tryz.runUnderlying5 rfl (.there .here) rfl ?_
    refine KN.on (fun _ => Sb.hw) ?_
    exact KS.mk fun a w hS => (secretOf6_2_4_5_9 hk7 hk1 hqn hnl hnb hF _ _ _ hoy).out a w ((hS.heap' (Pm.hw hS.mem)).keep ⟨rfl, rfl, rfl, rfl, rfl, rfl, rfl, rfl, rfl, rfl, rfl, rfl, rfl, rfl, rfl, rfl, rfl, rfl, rfl, rfl, trivial⟩)
  · skip
    refine OW.buildSlice (us := bt Gb) (xs := [.const (.int .u8 131), .const (.int .u8 5), .const (.int .u8 225), .const (.int .u8 200), .const (.int .u8 246), .const (.int .u8 133), .const (.int .u8 197), .const (.int .u8 165), .const (.int .u8 35), .const (.int .u8 209), .const (.int .u8 150), .const (.int .u8 65), .const (.int .u8 151), .const (.int .u8 215), .const (.int .u8 129), .const (.int .u8 228), .const (.int .u8 148), .const (.int .u8 103), .const (.int .u8 50), .const (.int .u8 126), .const (.int .u8 57), .const (.int .u8 130), .const (.int .u8 47), .const (.int .u8 61), .const (.int .u8 39)]) Tryz.runUnderlying23 Tryz.sizeOf5 Tryz.zeroValue5 rfl rfl rfl (by decide) rfl (fun bg => ?_) rfl rfl
    refine KN.on (fun _ => Sb.hw) ?_
    exact KS.mk fun a w hS => (secretOf6_2_4_6_9 hk7 hk1 hqn hnl hnb hF _ _ _ _ hoy).out a w ((hS.heap' (Pm.hw hS.mem)).keep ⟨rfl, rfl, rfl, rfl, rfl, rfl, rfl, rfl, rfl, rfl, rfl, rfl, rfl, rfl, rfl, rfl, rfl, rfl, rfl, rfl, trivial⟩)
  · skip
    refine OW.storeAgg (us := (keyC ver created kb)) Tryz.sizeOf29 rfl rfl rfl rfl (overlay_all _ _ (by rfl)) (.there (.there (At.over .here _))) (Nat.le_refl _) ?_
    refine KN.on (fun _ => Sb.hw) ?_
    exact KS.mk fun a w hS => (secretOf6_2_4_9_19 hk7 hk1 hqn hnl hnb hF _ _ _ hoy).out a w ((hS.heap' (Pm.hw hS.mem)).keep ⟨rfl, rfl, rfl, rfl, rfl, rfl, rfl, rfl, rfl, rfl, rfl, rfl, rfl, rfl, rfl, rfl, rfl, rfl, rfl, trivial⟩)
theorem secretOf6_2_3_9 (bp : Nat) (oy : Option Own) (hoy : oy = none → bt (pubN qn.2.2) = []) :
    KS w0 36 (anyC w0 (LB) secretOf6_ops K 8 (Ls 21 390927)) [(2, slV qn), (34, .bool sub), (33, .pointer (some ⟨k1, 1, none⟩)), (32, .int .u32 (created : Int)), (31, .pointer (some ⟨k1, 2, none⟩)), (30, .int .i64 (ver : Int)), (28, slV qn), (27, ownV oy (bt (pubN qn.2.2))), (26, slV qn), (21, .slice (some ⟨bp, 0, none⟩) (bt Pb).length (bt Pb).length), (20, .slice (some ⟨bp, 0, none⟩) (bt Pb).length (bt Pb).length), (19, .agg (keyC ver created kb).toArray), (18, slV qn), (1, .pointer (some ⟨k1, 0, none⟩)), (3, .pointer (some ⟨k3, 0, none⟩)), (4, .pointer (some ⟨k4, 0, none⟩)), (5, .int .i64 (ver : Int)), (6, slV qn), (7, .pointer (some ⟨k7, 0, none⟩))] ((bp, blk 5 ((bt Pb).length, (bt Pb).length + 1) (bt Pb)) :: (ownL 5 oy (bt (pubN qn.2.2)) ++ ((k3, blk 29 (0, 0) z29) :: (k4, blk 33 (0, 0) z33) :: LB))) := by
  refine KN.three (i := 4) (j := 6) (k := 19) (by kernel_rfl) rfl rfl (show _ = (Ls 21 390943) by kernel_rfl) ?_ rfl rfl (show _ = (Ls 21 390991) by kernel_rfl) ?_ rfl rfl (show _ = (Ls 21 915215) by kernel_rfl) ?_
  · skip
    refine OW.buildSlice (us := bt Qb) (xs := [.const (.int .u8 255), .const (.int .u8 255), .const (.int .u8 255), .const (.int .u8 255), .const (.int .u8 255), .const (.int .u8 255), .const (.int .u8 255), .const (.int .u8 255), .const (.int .u8 255), .const (.int .u8 255), .const (.int .u8 255), .const (.int .u8 255), .const (.int .u8 255), .const (.int .u8 255), .const (.int .u8 255), .const (.int .u8 255), .const (.int .u8 255), .const (.int .u8 255), .const (.int .u8 255), .const (.int .u8 209)]) Tryz.runUnderlying23 Tryz.sizeOf5 Tryz.zeroValue5 rfl rfl rfl (by decide) rfl (fun bq => ?_) rfl rfl
    refine KN.on (fun _ => Sb.hw) ?_
    exact KS.mk fun a w hS => (secretOf6_2_3_4_9 hk7 hk1 hqn hnl hnb hF _ _ _ hoy).out a w ((hS.heap' (Pm.hw hS.mem)).keep ⟨rfl, rfl, rfl, rfl, rfl, rfl, rfl, rfl, rfl, rfl, rfl, rfl, rfl, rfl, rfl, rfl, rfl, rfl, rfl, rfl, trivial⟩)
  · skip
    refine OW.buildSlice (us := bt Gb) (xs := [.const (.int .u8 131), .const (.int .u8 5), .const (.int .u8 225), .const (.int .u8 200), .const (.int .u8 246), .const (.int .u8 133), .const (.int .u8 197), .const (.int .u8 165), .const (.int .u8 35), .const (.int .u8 209), .const (.int .u8 150), .const (.int .u8 65), .const (.int .u8 151), .const (.int .u8 215), .const (.int .u8 129), .const (.int .u8 228), .const (.int .u8 148), .const (.int .u8 103), .const (.int .u8 50), .const (.int .u8 126), .const (.int .u8 57), .const (.int .u8 130), .const (.int .u8 47), .const (.int .u8 61), .const (.int .u8 39)]) Tryz.runUnderlying23 Tryz.sizeOf5 Tryz.zeroValue5 rfl rfl rfl (by decide) rfl (fun bg => ?_) rfl rfl
    refine KN.on (fun _ => Sb.hw) ?_
    exact KS.mk fun a w hS => (secretOf6_2_3_6_9 hk7 hk1 hqn hnl hnb hF _ _ _ hoy).out a w ((hS.heap' (Pm.hw hS.mem)).keep ⟨rfl, rfl, rfl, rfl, rfl, rfl, rfl, rfl, rfl, rfl, rfl, rfl, rfl, rfl, rfl, rfl, rfl, rfl, rfl, rfl, trivial⟩)
  · skip
    refine OW.storeAgg (us := (keyC ver created kb)) Tryz.sizeOf29 rfl rfl rfl rfl (overlay_all _ _ (by rfl)) (.there (At.over .here _)) (Nat.le_refl _) ?_
    refine KN.on (fun _ => Sb.hw) ?_
    exact KS.mk fun a w hS => (secretOf6_2_3_9_19 hk7 hk1 hqn hnl hnb hF _ _ hoy).out a w ((hS.heap' (Pm.hw hS.mem)).keep ⟨rfl, rfl, rfl, rfl, rfl, rfl, rfl, rfl, rfl, rfl, rfl, rfl, rfl, rfl, rfl, rfl, rfl, rfl, rfl, trivial⟩)
theorem secretOf6_4_5_6_7 (bq : Nat) (bg : Nat)  :
    KS w0 36 (anyC w0 (LB) secretOf6_ops K 8 (Ls 21 128499)) [(34, .bool sub), (33, .pointer (some ⟨k1, 1, none⟩)), (32, .int .u32 (created : Int)), (31, .pointer (some ⟨k1, 2, none⟩)), (30, .int .i64 (ver : Int)), (28, slV qn), (26, slV qn), (25, .slice (some ⟨bg, 0, none⟩) (bt Gb).length (bt Gb).length), (24, .slice (some ⟨bg, 0, none⟩) (bt Gb).length (bt Gb).length), (23, .slice (some ⟨bq, 0, none⟩) (bt Qb).length (bt Qb).length), (22, .slice (some ⟨bq, 0, none⟩) (bt Qb).length (bt Qb).length), (19, .agg (keyC ver created kb).toArray), (18, slV qn), (1, .pointer (some ⟨k1, 0, none⟩)), (3, .pointer (some ⟨k3, 0, none⟩)), (4, .pointer (some ⟨k4, 0, none⟩)), (5, .int .i64 (ver : Int)), (6, slV qn), (7, .pointer (some ⟨k7, 0, none⟩))] ((bq, blk 5 ((bt Qb).length, (bt Qb).length + 1) (bt Qb)) :: ((bg, blk 5 ((bt Gb).length, (bt Gb).length + 1) (bt Gb)) :: ((k3, blk 29 (0, 0) z29) :: (k4, blk 33 (0, 0) z33) :: LB))) := by
  refine KN.two (i := 2) (j := 9) (by kernel_rfl) rfl rfl (show _ = (Ls 21 128503) by kernel_rfl) ?_ rfl rfl (show _ = (Ls 21 129011) by kernel_rfl) ?_
  · skip
    refine OW.buildSlice (us := bt Pb) (xs := [.const (.int .u8 1), .const (.int .u8 0), .const (.int .u8 0), .const (.int .u8 0), .const (.int .u8 0), .const (.int .u8 1), .const (.int .u8 255), .const (.int .u8 255), .const (.int .u8 255), .const (.int .u8 255), .const (.int .u8 255), .const (.int .u8 255), .const (.int .u8 255), .const (.int .u8 255), .const (.int .u8 255), .const (.int .u8 255), .const (.int .u8 255), .const (.int .u8 255), .const (.int .u8 255), .const (.int .u8 255), .const (.int .u8 208), .const (.int .u8 255), .const (.int .u8 255), .const (.int .u8 255), .const (.int .u8 255), .const (.int .u8 163)]) Tryz.runUnderlying23 Tryz.sizeOf5 Tryz.zeroValue5 rfl rfl rfl (by decide) rfl (fun bp => ?_) rfl rfl
    refine KN.on (fun _ => Sb.hw) ?_
    exact KS.mk fun a w hS => (secretOf6_2_4_5_6_7 hk7 hk1 hqn hnl hnb hF _ _ _ ).out a w ((hS.heap' (Pm.hw hS.mem)).keep ⟨rfl, rfl, rfl, rfl, rfl, rfl, rfl, rfl, rfl, rfl, rfl, rfl, rfl, rfl, rfl, rfl, rfl, rfl, rfl, rfl, trivial⟩)
  · skip
    refine OW.call (xs := [.tmp 26]) Tryz.call13 rfl (fun w hw => publicNumber_any w0 w _ _ _ _ qn.2.2 rfl (by omega) hqn.cap (hqn.rd.mono (fun _ h => (mS (mS (mS (mS h)))))) hnb hw) rfl ?_
    rintro r w' ⟨oy, rfl, hoy, hw'⟩
    refine ⟨_, _, rfl, hw', ?_⟩
    refine KN.on (fun _ => Sb.hw) ?_
    refine KN.quiet (i := 18) (ls1 := (Ls 21 391155)) secretOf6_sel (by kernel_rfl) (by kernel_rfl) (fun _ => Sb.hw) rfl (v_assign rfl) rfl ?_
    exact KS.mk fun a w hS => (secretOf6_4_5_6_7_9 hk7 hk1 hqn hnl hnb hF _ _ _ hoy).out a w ((hS.heap' (Pm.hw hS.mem)).keep ⟨rfl, rfl, rfl, rfl, rfl, rfl, rfl, rfl, rfl, rfl, rfl, rfl, rfl, rfl, rfl, rfl, rfl, rfl, rfl, rfl, rfl, trivial⟩)
theorem secretOf6_2_4_6_7 (bp : Nat) (bq : Nat) (bg : Nat)  :
    KS w0 36 (anyC w0 (LB) secretOf6_ops K 8 (Ls 21 128471)) [(34, .bool sub), (33, .pointer (some ⟨k1, 1, none⟩)), (32, .int .u32 (created : Int)), (31, .pointer (some ⟨k1, 2, none⟩)), (30, .int .i64 (ver : Int)), (28, slV qn), (26, slV qn), (25, .slice (some ⟨bg, 0, none⟩) (bt Gb).length (bt Gb).length), (24, .slice (some ⟨bg, 0, none⟩) (bt Gb).length (bt Gb).length), (22, .slice (some ⟨bq, 0, none⟩) (bt Qb).length (bt Qb).length), (20, .slice (some ⟨bp, 0, none⟩) (bt Pb).length (bt Pb).length), (19, .agg (keyC ver created kb).toArray), (18, slV qn), (1, .pointer (some ⟨k1, 0, none⟩)), (3, .pointer (some ⟨k3, 0, none⟩)), (4, .pointer (some ⟨k4, 0, none⟩)), (5, .int .i64 (ver : Int)), (6, slV qn), (7, .pointer (some ⟨k7, 0, none⟩))] ((bp, blk 5 (0, 0) (bt Pb)) :: ((bq, blk 5 (0, 0) (bt Qb)) :: ((bg, blk 5 ((bt Gb).length, (bt Gb).length + 1) (bt Gb)) :: ((k3, blk 29 (0, 0) z29) :: (k4, blk 33 (0, 0) z33) :: LB)))) := by
  refine KN.three (i := 3) (j := 5) (k := 9) (by kernel_rfl) rfl rfl (show _ = (Ls 21 128479) by kernel_rfl) ?_ rfl rfl (show _ = (Ls 21 128503) by kernel_rfl) ?_ rfl rfl (show _ = (Ls 21 128983) by kernel_rfl) ?_
  · skip
    refine OW.mark Tryz.runUnderlying23 Tryz.runUnderlying5 rfl .here rfl ?_
    refine KN.on (fun _ => Sb.hw) ?_
    exact KS.mk fun a w hS => (secretOf6_2_3_4_6_7 hk7 hk1 hqn hnl hnb hF _ _ _ ).out a w ((hS.heap' (Pm.hw hS.mem)).keep ⟨rfl, rfl, rfl, rfl, rfl, rfl, rfl, rfl, rfl, rfl, rfl, rfl, rfl, rfl, rfl, rfl, rfl, rfl, rfl, rfl, trivial⟩)
  · skip
    refine OW.mark Tryz.runUnderlying23 Tryz.runUnderlying5 rfl (.there .here) rfl ?_
    refine KN.on (fun _ => Sb.hw) ?_
    exact KS.mk fun a w hS => (secretOf6_2_4_5_6_7 hk7 hk1 hqn hnl hnb hF _ _ _ ).out a w ((hS.heap' (Pm.hw hS.mem)).keep ⟨rfl, rfl, rfl, rfl, rfl, rfl, rfl, rfl, rfl, rfl, rfl, rfl, rfl, rfl, rfl, rfl, rfl, rfl, rfl, rfl, trivial⟩)
  · skip
    refine OW.call (xs := [.tmp 26]) Tryz.call13 rfl (fun w hw => publicNumber_any w0 w _ _ _ _ qn.2.2 rfl (by omega) hqn.cap (hqn.rd.mono (fun _ h => (mS (mS (mS (mS (mS h))))))) hnb hw) rfl ?_
    rintro r w' ⟨oy, rfl, hoy, hw'⟩
    refine ⟨_, _, rfl, hw', ?_⟩
    refine KN.on (fun _ => Sb.hw) ?_
    refine KN.quiet (i := 18) (ls1 := (Ls 21 391127)) secretOf6_sel (by kernel_rfl) (by kernel_rfl) (fun _ => Sb.hw) rfl (v_assign rfl) rfl ?_
    exact KS.mk fun a w hS => (secretOf6_2_4_6_7_9 hk7 hk1 hqn hnl hnb hF _ _ _ _ hoy).out a w ((hS.heap' (Pm.hw hS.mem)).keep ⟨rfl, rfl, rfl, rfl, rfl, rfl, rfl, rfl, rfl, rfl, rfl, rfl, rfl, rfl, rfl, rfl, rfl, rfl, rfl, rfl, rfl, trivial⟩)
theorem secretOf6_2_3_6_7 (bp : Nat) (bg : Nat)  :
    KS w0 36 (anyC w0 (LB) secretOf6_ops K 8 (Ls 21 128463)) [(34, .bool sub), (33, .pointer (some ⟨k1, 1, none⟩)), (32, .int .u32 (created : Int)), (31, .pointer (some ⟨k1, 2, none⟩)), (30, .int .i64 (ver : Int)), (28, slV qn), (26, slV qn), (25, .slice (some ⟨bg, 0, none⟩) (bt Gb).length (bt Gb).length), (24, .slice (some ⟨bg, 0, none⟩) (bt Gb).length (bt Gb).length), (21, .slice (some ⟨bp, 0, none⟩) (bt Pb).length (bt Pb).length), (20, .slice (some ⟨bp, 0, none⟩) (bt Pb).length (bt Pb).length), (19, .agg (keyC ver created kb).toArray), (18, slV qn), (1, .pointer (some ⟨k1, 0, none⟩)), (3, .pointer (some ⟨k3, 0, none⟩)), (4, .pointer (some ⟨k4, 0, none⟩)), (5, .int .i64 (ver : Int)), (6, slV qn), (7, .pointer (some ⟨k7, 0, none⟩))] ((bp, blk 5 ((bt Pb).length, (bt Pb).length + 1) (bt Pb)) :: ((bg, blk 5 ((bt Gb).length, (bt Gb).length + 1) (bt Gb)) :: ((k3, blk 29 (0, 0) z29) :: (k4, blk 33 (0, 0) z33) :: LB))) := by
  refine KN.two (i := 4) (j := 9) (by kernel_rfl) rfl rfl (show _ = (Ls 21 128479) by kernel_rfl) ?_ rfl rfl (show _ = (Ls 21 128975) by kernel_rfl) ?_
  · skip
    refine OW.buildSlice (us := bt Qb) (xs := [.const (.int .u8 255), .const (.int .u8 255), .const (.int .u8 255), .const (.int .u8 255), .const (.int .u8 255), .const (.int .u8 255), .const (.int .u8 255), .const (.int .u8 255), .const (.int .u8 255), .const (.int .u8 255), .const (.int .u8 255), .const (.int .u8 255), .const (.int .u8 255), .const (.int .u8 255), .const (.int .u8 255), .const (.int .u8 255), .const (.int .u8 255), .const (.int .u8 255), .const (.int .u8 255), .const (.int .u8 209)]) Tryz.runUnderlying23 Tryz.sizeOf5 Tryz.zeroValue5 rfl rfl rfl (by decide) rfl (fun bq => ?_) rfl rfl
    refine KN.on (fun _ => Sb.hw) ?_
    exact KS.mk fun a w hS => (secretOf6_2_3_4_6_7 hk7 hk1 hqn hnl hnb hF _ _ _ ).out a w ((hS.heap' (Pm.hw hS.mem)).keep ⟨rfl, rfl, rfl, rfl, rfl, rfl, rfl, rfl, rfl, rfl, rfl, rfl, rfl, rfl, rfl, rfl, rfl, rfl, rfl, rfl, trivial⟩)
  · skip
    refine OW.call (xs := [.tmp 26]) Tryz.call13 rfl (fun w hw => publicNumber_any w0 w _ _ _ _ qn.2.2 rfl (by omega) hqn.cap (hqn.rd.mono (fun _ h => (mS (mS (mS (mS h)))))) hnb hw) rfl ?_
    rintro r w' ⟨oy, rfl, hoy, hw'⟩
    refine ⟨_, _, rfl, hw', ?_⟩
    refine KN.on (fun _ => Sb.hw) ?_
    refine KN.quiet (i := 18) (ls1 := (Ls 21 391119)) secretOf6_sel (by kernel_rfl) (by kernel_rfl) (fun _ => Sb.hw) rfl (v_assign rfl) rfl ?_
    exact KS.mk fun a w hS => (secretOf6_2_3_6_7_9 hk7 hk1 hqn hnl hnb hF _ _ _ hoy).out a w ((hS.heap' (Pm.hw hS.mem)).keep ⟨rfl, rfl, rfl, rfl, rfl, rfl, rfl, rfl, rfl, rfl, rfl, rfl, rfl, rfl, rfl, rfl, rfl, rfl, rfl, rfl, rfl, trivial⟩)
theorem secretOf6_2_4_5_6 (bp : Nat) (bq : Nat) (bg : Nat)  :
    KS w0 36 (anyC w0 (LB) secretOf6_ops K 8 (Ls 21 128375)) [(34, .bool sub), (33, .pointer (some ⟨k1, 1, none⟩)), (32, .int .u32 (created : Int)), (31, .pointer (some ⟨k1, 2, none⟩)), (30, .int .i64 (ver : Int)), (28, slV qn), (26, slV qn), (24, .slice (some ⟨bg, 0, none⟩) (bt Gb).length (bt Gb).length), (23, .slice (some ⟨bq, 0, none⟩) (bt Qb).length (bt Qb).length), (22, .slice (some ⟨bq, 0, none⟩) (bt Qb).length (bt Qb).length), (20, .slice (some ⟨bp, 0, none⟩) (bt Pb).length (bt Pb).length), (19, .agg (keyC ver created kb).toArray), (18, slV qn), (1, .pointer (some ⟨k1, 0, none⟩)), (3, .pointer (some ⟨k3, 0, none⟩)), (4, .pointer (some ⟨k4, 0, none⟩)), (5, .int .i64 (ver : Int)), (6, slV qn), (7, .pointer (some ⟨k7, 0, none⟩))] ((bp, blk 5 (0, 0) (bt Pb)) :: ((bq, blk 5 ((bt Qb).length, (bt Qb).length + 1) (bt Qb)) :: ((bg, blk 5 (0, 0) (bt Gb)) :: ((k3, blk 29 (0, 0) z29) :: (k4, blk 33 (0, 0) z33) :: LB)))) := by
  refine KN.three (i := 3) (j := 7) (k := 9) (by kernel_rfl) rfl rfl (show _ = (Ls 21 128383) by kernel_rfl) ?_ rfl rfl (show _ = (Ls 21 128503) by kernel_rfl) ?_ rfl rfl (show _ = (Ls 21 128887) by kernel_rfl) ?_
  · skip
    refine OW.mark Tryz.runUnderlying23 Tryz.runUnderlying5 rfl .here rfl ?_
    refine KN.on (fun _ => Sb.hw) ?_
    exact KS.mk fun a w hS => (secretOf6_2_3_4_5_6 hk7 hk1 hqn hnl hnb hF _ _ _ ).out a w ((hS.heap' (Pm.hw hS.mem)).keep ⟨rfl, rfl, rfl, rfl, rfl, rfl, rfl, rfl, rfl, rfl, rfl, rfl, rfl, rfl, rfl, rfl, rfl, rfl, rfl, rfl, trivial⟩)
  · skip
    refine OW.mark Tryz.runUnderlying23 Tryz.runUnderlying5 rfl (.there (.there .here)) rfl ?_
    refine KN.on (fun _ => Sb.hw) ?_
    exact KS.mk fun a w hS => (secretOf6_2_4_5_6_7 hk7 hk1 hqn hnl hnb hF _ _ _ ).out a w ((hS.heap' (Pm.hw hS.mem)).keep ⟨rfl, rfl, rfl, rfl, rfl, rfl, rfl, rfl, rfl, rfl, rfl, rfl, rfl, rfl, rfl, rfl, rfl, rfl, rfl, rfl, trivial⟩)
  · skip
    refine OW.call (xs := [.tmp 26]) Tryz.call13 rfl (fun w hw => publicNumber_any w0 w _ _ _ _ qn.2.2 rfl (by omega) hqn.cap (hqn.rd.mono (fun _ h => (mS (mS (mS (mS (mS h))))))) hnb hw) rfl ?_
    rintro r w' ⟨oy, rfl, hoy, hw'⟩
    refine ⟨_, _, rfl, hw', ?_⟩
    refine KN.on (fun _ => Sb.hw) ?_
    refine KN.quiet (i := 18) (ls1 := (Ls 21 391031)) secretOf6_sel (by kernel_rfl) (by kernel_rfl) (fun _ => Sb.hw) rfl (v_assign rfl) rfl ?_
    exact KS.mk fun a w hS => (secretOf6_2_4_5_6_9 hk7 hk1 hqn hnl hnb hF _ _ _ _ hoy).out a w ((hS.heap' (Pm.hw hS.mem)).keep ⟨rfl, rfl, rfl, rfl, rfl, rfl, rfl, rfl, rfl, rfl, rfl, rfl, rfl, rfl, rfl, rfl, rfl, rfl, rfl, rfl, rfl, trivial⟩)
theorem secretOf6_2_3_4_6 (bp : Nat) (bq : Nat) (bg : Nat)  :
    KS w0 36 (anyC w0 (LB) secretOf6_ops K 8 (Ls 21 128351)) [(34, .bool sub), (33, .pointer (some ⟨k1, 1, none⟩)), (32, .int .u32 (created : Int)), (31, .pointer (some ⟨k1, 2, none⟩)), (30, .int .i64 (ver : Int)), (28, slV qn), (26, slV qn), (24, .slice (some ⟨bg, 0, none⟩) (bt Gb).length (bt Gb).length), (22, .slice (some ⟨bq, 0, none⟩) (bt Qb).length (bt Qb).length), (21, .slice (some ⟨bp, 0, none⟩) (bt Pb).length (bt Pb).length), (20, .slice (some ⟨bp, 0, none⟩) (bt Pb).length (bt Pb).length), (19, .agg (keyC ver created kb).toArray), (18, slV qn), (1, .pointer (some ⟨k1, 0, none⟩)), (3, .pointer (some ⟨k3, 0, none⟩)), (4, .pointer (some ⟨k4, 0, none⟩)), (5, .int .i64 (ver : Int)), (6, slV qn), (7, .pointer (some ⟨k7, 0, none⟩))] ((bp, blk 5 ((bt Pb).length, (bt Pb).length + 1) (bt Pb)) :: ((bq, blk 5 (0, 0) (bt Qb)) :: ((bg, blk 5 (0, 0) (bt Gb)) :: ((k3, blk 29 (0, 0) z29) :: (k4, blk 33 (0, 0) z33) :: LB)))) := by
  refine KN.three (i := 5) (j := 7) (k := 9) (by kernel_rfl) rfl rfl (show _ = (Ls 21 128383) by kernel_rfl) ?_ rfl rfl (show _ = (Ls 21 128479) by kernel_rfl) ?_ rfl rfl (show _ = (Ls 21 128863) by kernel_rfl) ?_
  · skip
    refine OW.mark Tryz.runUnderlying23 Tryz.runUnderlying5 rfl (.there .here) rfl ?_
    refine KN.on (fun _ => Sb.hw) ?_
    exact KS.mk fun a w hS => (secretOf6_2_3_4_5_6 hk7 hk1 hqn hnl hnb hF _ _ _ ).out a w ((hS.heap' (Pm.hw hS.mem)).keep ⟨rfl, rfl, rfl, rfl, rfl, rfl, rfl, rfl, rfl, rfl, rfl, rfl, rfl, rfl, rfl, rfl, rfl, rfl, rfl, rfl, trivial⟩)
  · skip
    refine OW.mark Tryz.runUnderlying23 Tryz.runUnderlying5 rfl (.there (.there .here)) rfl ?_
    refine KN.on (fun _ => Sb.hw) ?_
    exact KS.mk fun a w hS => (secretOf6_2_3_4_6_7 hk7 hk1 hqn hnl hnb hF _ _ _ ).out a w ((hS.heap' (Pm.hw hS.mem)).keep ⟨rfl, rfl, rfl, rfl, rfl, rfl, rfl, rfl, rfl, rfl, rfl, rfl, rfl, rfl, rfl, rfl, rfl, rfl, rfl, rfl, trivial⟩)
  · skip
    refine OW.call (xs := [.tmp 26]) Tryz.call13 rfl (fun w hw => publicNumber_any w0 w _ _ _ _ qn.2.2 rfl (by omega) hqn.cap (hqn.rd.mono (fun _ h => (mS (mS (mS (mS (mS h))))))) hnb hw) rfl ?_
    rintro r w' ⟨oy, rfl, hoy, hw'⟩
    refine ⟨_, _, rfl, hw', ?_⟩
    refine KN.on (fun _ => Sb.hw) ?_
    refine KN.quiet (i := 18) (ls1 := (Ls 21 391007)) secretOf6_sel (by kernel_rfl) (by kernel_rfl) (fun _ => Sb.hw) rfl (v_assign rfl) rfl ?_
    exact KS.mk fun a w hS => (secretOf6_2_3_4_6_9 hk7 hk1 hqn hnl hnb hF _ _ _ _ hoy).out a w ((hS.heap' (Pm.hw hS.mem)).keep ⟨rfl, rfl, rfl, rfl, rfl, rfl, rfl, rfl, rfl, rfl, rfl, rfl, rfl, rfl, rfl, rfl, rfl, rfl, rfl, rfl, rfl, trivial⟩)
theorem secretOf6_2_3_4_5 (bp : Nat) (bq : Nat)  :
    KS w0 36 (anyC w0 (LB) secretOf6_ops K 8 (Ls 21 128319)) [(34, .bool sub), (33, .pointer (some ⟨k1, 1, none⟩)), (32, .int .u32 (created : Int)), (31, .pointer (some ⟨k1, 2, none⟩)), (30, .int .i64 (ver : Int)), (28, slV qn), (26, slV qn), (23, .slice (some ⟨bq, 0, none⟩) (bt Qb).length (bt Qb).length), (22, .slice (some ⟨bq, 0, none⟩) (bt Qb).length (bt Qb).length), (21, .slice (some ⟨bp, 0, none⟩) (bt Pb).length (bt Pb).length), (20, .slice (some ⟨bp, 0, none⟩) (bt Pb).length (bt Pb).length), (19, .agg (keyC ver created kb).toArray), (18, slV qn), (1, .pointer (some ⟨k1, 0, none⟩)), (3, .pointer (some ⟨k3, 0, none⟩)), (4, .pointer (some ⟨k4, 0, none⟩)), (5, .int .i64 (ver : Int)), (6, slV qn), (7, .pointer (some ⟨k7, 0, none⟩))] ((bp, blk 5 ((bt Pb).length, (bt Pb).length + 1) (bt Pb)) :: ((bq, blk 5 ((bt Qb).length, (bt Qb).length + 1) (bt Qb)) :: ((k3, blk 29 (0, 0) z29) :: (k4, blk 33 (0, 0) z33) :: LB))) := by
  refine KN.two (i := 6) (j := 9) (by kernel_rfl) rfl rfl (show _ = (Ls 21 128383) by kernel_rfl) ?_ rfl rfl (show _ = (Ls 21 128831) by kernel_rfl) ?_
  · skip
    refine OW.buildSlice (us := bt Gb) (xs := [.const (.int .u8 131), .const (.int .u8 5), .const (.int .u8 225), .const (.int .u8 200), .const (.int .u8 246), .const (.int .u8 133), .const (.int .u8 197), .const (.int .u8 165), .const (.int .u8 35), .const (.int .u8 209), .const (.int .u8 150), .const (.int .u8 65), .const (.int .u8 151), .const (.int .u8 215), .const (.int .u8 129), .const (.int .u8 228), .const (.int .u8 148), .const (.int .u8 103), .const (.int .u8 50), .const (.int .u8 126), .const (.int .u8 57), .const (.int .u8 130), .const (.int .u8 47), .const (.int .u8 61), .const (.int .u8 39)]) Tryz.runUnderlying23 Tryz.sizeOf5 Tryz.zeroValue5 rfl rfl rfl (by decide) rfl (fun bg => ?_) rfl rfl
    refine KN.on (fun _ => Sb.hw) ?_
    exact KS.mk fun a w hS => (secretOf6_2_3_4_5_6 hk7 hk1 hqn hnl hnb hF _ _ _ ).out a w ((hS.heap' (Pm.hw hS.mem)).keep ⟨rfl, rfl, rfl, rfl, rfl, rfl, rfl, rfl, rfl, rfl, rfl, rfl, rfl, rfl, rfl, rfl, rfl, rfl, rfl, rfl, trivial⟩)
  · skip
    refine OW.call (xs := [.tmp 26]) Tryz.call13 rfl (fun w hw => publicNumber_any w0 w _ _ _ _ qn.2.2 rfl (by omega) hqn.cap (hqn.rd.mono (fun _ h => (mS (mS (mS (mS h)))))) hnb hw) rfl ?_
    rintro r w' ⟨oy, rfl, hoy, hw'⟩
    refine ⟨_, _, rfl, hw', ?_⟩
    refine KN.on (fun _ => Sb.hw) ?_
    refine KN.quiet (i := 18) (ls1 := (Ls 21 390975)) secretOf6_sel (by kernel_rfl) (by kernel_rfl) (fun _ => Sb.hw) rfl (v_assign rfl) rfl ?_
    exact KS.mk fun a w hS => (secretOf6_2_3_4_5_9 hk7 hk1 hqn hnl hnb hF _ _ _ hoy).out a w ((hS.heap' (Pm.hw hS.mem)).keep ⟨rfl, rfl, rfl, rfl, rfl, rfl, rfl, rfl, rfl, rfl, rfl, rfl, rfl, rfl, rfl, rfl, rfl, rfl, rfl, rfl, rfl, trivial⟩)
theorem secretOf6_9_19 (oy : Option Own) (hoy : oy = none → bt (pubN qn.2.2) = []) :
    KS w0 36 (anyC w0 (LB) secretOf6_ops K 9 (Ls 21 915203)) [(2, slV qn), (34, .bool sub), (33, .pointer (some ⟨k1, 1, none⟩)), (32, .int .u32 (created : Int)), (31, .pointer (some ⟨k1, 2, none⟩)), (30, .int .i64 (ver : Int)), (28, slV qn), (27, ownV oy (bt (pubN qn.2.2))), (26, slV qn), (19, .agg (keyC ver created kb).toArray), (18, slV qn), (1, .pointer (some ⟨k1, 0, none⟩)), (3, .pointer (some ⟨k3, 0, none⟩)), (4, .pointer (some ⟨k4, 0, none⟩)), (5, .int .i64 (ver : Int)), (6, slV qn), (7, .pointer (some ⟨k7, 0, none⟩))] (ownL 5 oy (bt (pubN qn.2.2)) ++ ((k3, blk 29 (0, 0) (keyC ver created kb)) :: (k4, blk 33 (0, 0) z33) :: LB)) := by
  refine KN.three (i := 2) (j := 4) (k := 6) (by kernel_rfl) rfl rfl (show _ = (Ls 21 915207) by kernel_rfl) ?_ rfl rfl (show _ = (Ls 21 915219) by kernel_rfl) ?_ rfl rfl (show _ = (Ls 21 915267) by kernel_rfl) ?_
  · skip
    refine OW.buildSlice (us := bt Pb) (xs := [.const (.int .u8 1), .const (.int .u8 0), .const (.int .u8 0), .const (.int .u8 0), .const (.int .u8 0), .const (.int .u8 1), .const (.int .u8 255), .const (.int .u8 255), .const (.int .u8 255), .const (.int .u8 255), .const (.int .u8 255), .const (.int .u8 255), .const (.int .u8 255), .const (.int .u8 255), .const (.int .u8 255), .const (.int .u8 255), .const (.int .u8 255), .const (.int .u8 255), .const (.int .u8 255), .const (.int .u8 255), .const (.int .u8 208), .const (.int .u8 255), .const (.int .u8 255), .const (.int .u8 255), .const (.int .u8 255), .const (.int .u8 163)]) Tryz.runUnderlying23 Tryz.sizeOf5 Tryz.zeroValue5 rfl rfl rfl (by decide) rfl (fun bp => ?_) rfl rfl
    refine KN.on (fun _ => Sb.hw) ?_
    exact KS.mk fun a w hS => (secretOf6_2_9_19 hk7 hk1 hqn hnl hnb hF _ _ hoy).out a w ((hS.heap' (Pm.hw hS.mem)).keep ⟨rfl, rfl, rfl, rfl, rfl, rfl, rfl, rfl, rfl, rfl, rfl, rfl, rfl, rfl, rfl, rfl, rfl, rfl, trivial⟩)
  · skip
    refine OW.buildSlice (us := bt Qb) (xs := [.const (.int .u8 255), .const (.int .u8 255), .const (.int .u8 255), .const (.int .u8 255), .const (.int .u8 255), .const (.int .u8 255), .const (.int .u8 255), .const (.int .u8 255), .const (.int .u8 255), .const (.int .u8 255), .const (.int .u8 255), .const (.int .u8 255), .const (.int .u8 255), .const (.int .u8 255), .const (.int .u8 255), .const (.int .u8 255), .const (.int .u8 255), .const (.int .u8 255), .const (.int .u8 255), .const (.int .u8 209)]) Tryz.runUnderlying23 Tryz.sizeOf5 Tryz.zeroValue5 rfl rfl rfl (by decide) rfl (fun bq => ?_) rfl rfl
    refine KN.on (fun _ => Sb.hw) ?_
    exact KS.mk fun a w hS => (secretOf6_4_9_19 hk7 hk1 hqn hnl hnb hF _ _ hoy).out a w ((hS.heap' (Pm.hw hS.mem)).keep ⟨rfl, rfl, rfl, rfl, rfl, rfl, rfl, rfl, rfl, rfl, rfl, rfl, rfl, rfl, rfl, rfl, rfl, rfl, trivial⟩)
  · skip
    refine OW.buildSlice (us := bt Gb) (xs := [.const (.int .u8 131), .const (.int .u8 5), .const (.int .u8 225), .const (.int .u8 200), .const (.int .u8 246), .const (.int .u8 133), .const (.int .u8 197), .const (.int .u8 165), .const (.int .u8 35), .const (.int .u8 209), .const (.int .u8 150), .const (.int .u8 65), .const (.int .u8 151), .const (.int .u8 215), .const (.int .u8 129), .const (.int .u8 228), .const (.int .u8 148), .const (.int .u8 103), .const (.int .u8 50), .const (.int .u8 126), .const (.int .u8 57), .const (.int .u8 130), .const (.int .u8 47), .const (.int .u8 61), .const (.int .u8 39)]) Tryz.runUnderlying23 Tryz.sizeOf5 Tryz.zeroValue5 rfl rfl rfl (by decide) rfl (fun bg => ?_) rfl rfl
    refine KN.on (fun _ => Sb.hw) ?_
    exact KS.mk fun a w hS => (secretOf6_6_9_19 hk7 hk1 hqn hnl hnb hF _ _ hoy).out a w ((hS.heap' (Pm.hw hS.mem)).keep ⟨rfl, rfl, rfl, rfl, rfl, rfl, rfl, rfl, rfl, rfl, rfl, rfl, rfl, rfl, rfl, rfl, rfl, rfl, trivial⟩)
theorem secretOf6_6_9 (bg : Nat) (oy : Option Own) (hoy : oy = none → bt (pubN qn.2.2) = []) :
    KS w0 36 (anyC w0 (LB) secretOf6_ops K 9 (Ls 21 390979)) [(2, slV qn), (34, .bool sub), (33, .pointer (some ⟨k1, 1, none⟩)), (32, .int .u32 (created : Int)), (31, .pointer (some ⟨k1, 2, none⟩)), (30, .int .i64 (ver : Int)), (28, slV qn), (27, ownV oy (bt (pubN qn.2.2))), (26, slV qn), (24, .slice (some ⟨bg, 0, none⟩) (bt Gb).length (bt Gb).length), (19, .agg (keyC ver created kb).toArray), (18, slV qn), (1, .pointer (some ⟨k1, 0, none⟩)), (3, .pointer (some ⟨k3, 0, none⟩)), (4, .pointer (some ⟨k4, 0, none⟩)), (5, .int .i64 (ver : Int)), (6, slV qn), (7, .pointer (some ⟨k7, 0, none⟩))] ((bg, blk 5 (0, 0) (bt Gb)) :: (ownL 5 oy (bt (pubN qn.2.2)) ++ ((k3, blk 29 (0, 0) z29) :: (k4, blk 33 (0, 0) z33) :: LB))) := by
  refine KN.four (i := 2) (j := 4) (k := 7) (i' := 19) (by kernel_rfl) rfl rfl (show _ = (Ls 21 390983) by kernel_rfl) ?_ rfl rfl (show _ = (Ls 21 390995) by kernel_rfl) ?_ rfl rfl (show _ = (Ls 21 391107) by kernel_rfl) ?_ rfl rfl (show _ = (Ls 21 915267) by kernel_rfl) ?_
  · skip
    refine OW.buildSlice (us := bt Pb) (xs := [.const (.int .u8 1), .const (.int .u8 0), .const (.int .u8 0), .const (.int .u8 0), .const (.int .u8 0), .const (.int .u8 1), .const (.int .u8 255), .const (.int .u8 255), .const (.int .u8 255), .const (.int .u8 255), .const (.int .u8 255), .const (.int .u8 255), .const (.int .u8 255), .const (.int .u8 255), .const (.int .u8 255), .const (.int .u8 255), .const (.int .u8 255), .const (.int .u8 255), .const (.int .u8 255), .const (.int .u8 255), .const (.int .u8 208), .const (.int .u8 255), .const (.int .u8 255), .const (.int .u8 255), .const (.int .u8 255), .const (.int .u8 163)]) Tryz.runUnderlying23 Tryz.sizeOf5 Tryz.zeroValue5 rfl rfl rfl (by decide) rfl (fun bp => ?_) rfl rfl
    refine KN.on (fun _ => Sb.hw) ?_
    exact KS.mk fun a w hS => (secretOf6_2_6_9 hk7 hk1 hqn hnl hnb hF _ _ _ hoy).out a w ((hS.heap' (Pm.hw hS.mem)).keep ⟨rfl, rfl, rfl, rfl, rfl, rfl, rfl, rfl, rfl, rfl, rfl, rfl, rfl, rfl, rfl, rfl, rfl, rfl, rfl, trivial⟩)
  · skip
    refine OW.buildSlice (us := bt Qb) (xs := [.const (.int .u8 255), .const (.int .u8 255), .const (.int .u8 255), .const (.int .u8 255), .const (.int .u8 255), .const (.int .u8 255), .const (.int .u8 255), .const (.int .u8 255), .const (.int .u8 255), .const (.int .u8 255), .const (.int .u8 255), .const (.int .u8 255), .const (.int .u8 255), .const (.int .u8 255), .const (.int .u8 255), .const (.int .u8 255), .const (.int .u8 255), .const (.int .u8 255), .const (.int .u8 255), .const (.int .u8 209)]) Tryz.runUnderlying23 Tryz.sizeOf5 Tryz.zeroValue5 rfl rfl rfl (by decide) rfl (fun bq => ?_) rfl rfl
    refine KN.on (fun _ => Sb.hw) ?_
    exact KS.mk fun a w hS => (secretOf6_4_6_9 hk7 hk1 hqn hnl hnb hF _ _ _ hoy).out a w ((hS.heap' (Pm.hw hS.mem)).keep ⟨rfl, rfl, rfl, rfl, rfl, rfl, rfl, rfl, rfl, rfl, rfl, rfl, rfl, rfl, rfl, rfl, rfl, rfl, rfl, trivial⟩)
  · skip
    refine OW.mark Tryz.runUnderlying23 Tryz.runUnderlying5 rfl .here rfl ?_
    refine KN.on (fun _ => Sb.hw) ?_
    exact KS.mk fun a w hS => (secretOf6_6_7_9 hk7 hk1 hqn hnl hnb hF _ _ hoy).out a w ((hS.heap' (Pm.hw hS.mem)).keep ⟨rfl, rfl, rfl, rfl, rfl, rfl, rfl, rfl, rfl, rfl, rfl, rfl, rfl, rfl, rfl, rfl, rfl, rfl, rfl, trivial⟩)
  · skip
    refine OW.storeAgg (us := (keyC ver created kb)) Tryz.sizeOf29 rfl rfl rfl rfl (overlay_all _ _ (by rfl)) (.there (At.over .here _)) (Nat.le_refl _) ?_
    refine KN.on (fun _ => Sb.hw) ?_
    exact KS.mk fun a w hS => (secretOf6_6_9_19 hk7 hk1 hqn hnl hnb hF _ _ hoy).out a w ((hS.heap' (Pm.hw hS.mem)).keep ⟨rfl, rfl, rfl, rfl, rfl, rfl, rfl, rfl, rfl, rfl, rfl, rfl, rfl, rfl, rfl, rfl, rfl, rfl, trivial⟩)
theorem secretOf6_4_9 (bq : Nat) (oy : Option Own) (hoy : oy = none → bt (pubN qn.2.2) = []) :
    KS w0 36 (anyC w0 (LB) secretOf6_ops K 9 (Ls 21 390931)) [(2, slV qn), (34, .bool sub), (33, .pointer (some ⟨k1, 1, none⟩)), (32, .int .u32 (created : Int)), (31, .pointer (some ⟨k1, 2, none⟩)), (30, .int .i64 (ver : Int)), (28, slV qn), (27, ownV oy (bt (pubN qn.2.2))), (26, slV qn), (22, .slice (some ⟨bq, 0, none⟩) (bt Qb).length (bt Qb).length), (19, .agg (keyC ver created kb).toArray), (18, slV qn), (1, .pointer (some ⟨k1, 0, none⟩)), (3, .pointer (some ⟨k3, 0, none⟩)), (4, .pointer (some ⟨k4, 0, none⟩)), (5, .int .i64 (ver : Int)), (6, slV qn), (7, .pointer (some ⟨k7, 0, none⟩))] ((bq, blk 5 (0, 0) (bt Qb)) :: (ownL 5 oy (bt (pubN qn.2.2)) ++ ((k3, blk 29 (0, 0) z29) :: (k4, blk 33 (0, 0) z33) :: LB))) := by
  refine KN.four (i := 2) (j := 5) (k := 6) (i' := 19) (by kernel_rfl) rfl rfl (show _ = (Ls 21 390935) by kernel_rfl) ?_ rfl rfl (show _ = (Ls 21 390963) by kernel_rfl) ?_ rfl rfl (show _ = (Ls 21 390995) by kernel_rfl) ?_ rfl rfl (show _ = (Ls 21 915219) by kernel_rfl) ?_
  · skip
    refine OW.buildSlice (us := bt Pb) (xs := [.const (.int .u8 1), .const (.int .u8 0), .const (.int .u8 0), .const (.int .u8 0), .const (.int .u8 0), .const (.int .u8 1), .const (.int .u8 255), .const (.int .u8 255), .const (.int .u8 255), .const (.int .u8 255), .const (.int .u8 255), .const (.int .u8 255), .const (.int .u8 255), .const (.int .u8 255), .const (.int .u8 255), .const (.int .u8 255), .const (.int .u8 255), .const (.int .u8 255), .const (.int .u8 255), .const (.int .u8 255), .const (.int .u8 208), .const (.int .u8 255), .const (.int .u8 255), .const (.int .u8 255), .const (.int .u8 255), .const (.int .u8 163)]) Tryz.runUnderlying23 Tryz.sizeOf5 Tryz.zeroValue5 rfl rfl rfl (by decide) rfl (fun bp => ?_) rfl rfl
    refine KN.on (fun _ => Sb.hw) ?_
    exact KS.mk fun a w hS => (secretOf6_2_4_9 hk7 hk1 hqn hnl hnb hF _ _ _ hoy).out a w ((hS.heap' (Pm.hw hS.mem)).keep ⟨rfl, rfl, rfl, rfl, rfl, rfl, rfl, rfl, rfl, rfl, rfl, rfl, rfl, rfl, rfl, rfl, rfl, rfl, rfl, trivial⟩)
  · skip
    refine OW.mark Tryz.runUnderlying23 Tryz.runUnderlying5 rfl .here rfl ?_
    refine KN.on (fun _ => Sb.hw) ?_
    exact KS.mk fun a w hS => (secretOf6_4_5_9 hk7 hk1 hqn hnl hnb hF _ _ hoy).out a w ((hS.heap' (Pm.hw hS.mem)).keep ⟨rfl, rfl, rfl, rfl, rfl, rfl, rfl, rfl, rfl, rfl, rfl, rfl, rfl, rfl, rfl, rfl, rfl, rfl, rfl, trivial⟩)
  · skip
    refine OW.buildSlice (us := bt Gb) (xs := [.const (.int .u8 131), .const (.int .u8 5), .const (.int .u8 225), .const (.int .u8 200), .const (.int .u8 246), .const (.int .u8 133), .const (.int .u8 197), .const (.int .u8 165), .const (.int .u8 35), .const (.int .u8 209), .const (.int .u8 150), .const (.int .u8 65), .const (.int .u8 151), .const (.int .u8 215), .const (.int .u8 129), .const (.int .u8 228), .const (.int .u8 148), .const (.int .u8 103), .const (.int .u8 50), .const (.int .u8 126), .const (.int .u8 57), .const (.int .u8 130), .const (.int .u8 47), .const (.int .u8 61), .const (.int .u8 39)]) Tryz.runUnderlying23 Tryz.sizeOf5 Tryz.zeroValue5 rfl rfl rfl (by decide) rfl (fun bg => ?_) rfl rfl
    refine KN.on (fun _ => Sb.hw) ?_
    exact KS.mk fun a w hS => (secretOf6_4_6_9 hk7 hk1 hqn hnl hnb hF _ _ _ hoy).out a w ((hS.heap' (Pm.hw hS.mem)).keep ⟨rfl, rfl, rfl, rfl, rfl, rfl, rfl, rfl, rfl, rfl, rfl, rfl, rfl, rfl, rfl, rfl, rfl, rfl, rfl, trivial⟩)
  · skip
    refine OW.storeAgg (us := (keyC ver created kb)) Tryz.sizeOf29 rfl rfl rfl rfl (overlay_all _ _ (by rfl)) (.there (At.over .here _)) (Nat.le_refl _) ?_
    refine KN.on (fun _ => Sb.hw) ?_
    exact KS.mk fun a w hS => (secretOf6_4_9_19 hk7 hk1 hqn hnl hnb hF _ _ hoy).out a w ((hS.heap' (Pm.hw hS.mem)).keep ⟨rfl, rfl, rfl, rfl, rfl, rfl, rfl, rfl, rfl, rfl, rfl, rfl, rfl, rfl, rfl, rfl, rfl, rfl, trivial⟩)
theorem secretOf6_2_9 (bp : Nat) (oy : Option Own) (hoy : oy = none → bt (pubN qn.2.2) = []) :
    KS w0 36 (anyC w0 (LB) secretOf6_ops K 9 (Ls 21 390919)) [(2, slV qn), (34, .bool sub), (33, .pointer (some ⟨k1, 1, none⟩)), (32, .int .u32 (created : Int)), (31, .pointer (some ⟨k1, 2, none⟩)), (30, .int .i64 (ver : Int)), (28, slV qn), (27, ownV oy (bt (pubN qn.2.2))), (26, slV qn), (20, .slice (some ⟨bp, 0, none⟩) (bt Pb).length (bt Pb).length), (19, .agg (keyC ver created kb).toArray), (18, slV qn), (1, .pointer (some ⟨k1, 0, none⟩)), (3, .pointer (some ⟨k3, 0, none⟩)), (4, .pointer (some ⟨k4, 0, none⟩)), (5, .int .i64 (ver : Int)), (6, slV qn), (7, .pointer (some ⟨k7, 0, none⟩))] ((bp, blk 5 (0, 0) (bt Pb)) :: (ownL 5 oy (bt (pubN qn.2.2)) ++ ((k3, blk 29 (0, 0) z29) :: (k4, blk 33 (0, 0) z33) :: LB))) := by
  refine KN.four (i := 3) (j := 4) (k := 6) (i' := 19) (by kernel_rfl) rfl rfl (show _ = (Ls 21 390927) by kernel_rfl) ?_ rfl rfl (show _ = (Ls 21 390935) by kernel_rfl) ?_ rfl rfl (show _ = (Ls 21 390983) by kernel_rfl) ?_ rfl rfl (show _ = (Ls 21 915207) by kernel_rfl) ?_
  · skip
    refine OW.mark Tryz.runUnderlying23 Tryz.runUnderlying5 rfl .here rfl ?_
    refine KN.on (fun _ => Sb.hw) ?_
    exact KS.mk fun a w hS => (secretOf6_2_3_9 hk7 hk1 hqn hnl hnb hF _ _ hoy).out a w ((hS.heap' (Pm.hw hS.mem)).keep ⟨rfl, rfl, rfl, rfl, rfl, rfl, rfl, rfl, rfl, rfl, rfl, rfl, rfl, rfl, rfl, rfl, rfl, rfl, rfl, trivial⟩)
  · skip
    refine OW.buildSlice (us := bt Qb) (xs := [.const (.int .u8 255), .const (.int .u8 255), .const (.int .u8 255), .const (.int .u8 255), .const (.int .u8 255), .const (.int .u8 255), .const (.int .u8 255), .const (.int .u8 255), .const (.int .u8 255), .const (.int .u8 255), .const (.int .u8 255), .const (.int .u8 255), .const (.int .u8 255), .const (.int .u8 255), .const (.int .u8 255), .const (.int .u8 255), .const (.int .u8 255), .const (.int .u8 255), .const (.int .u8 255), .const (.int .u8 209)]) Tryz.runUnderlying23 Tryz.sizeOf5 Tryz.zeroValue5 rfl rfl rfl (by decide) rfl (fun bq => ?_) rfl rfl
    refine KN.on (fun _ => Sb.hw) ?_
    exact KS.mk fun a w hS => (secretOf6_2_4_9 hk7 hk1 hqn hnl hnb hF _ _ _ hoy).out a w ((hS.heap' (Pm.hw hS.mem)).keep ⟨rfl, rfl, rfl, rfl, rfl, rfl, rfl, rfl, rfl, rfl, rfl, rfl, rfl, rfl, rfl, rfl, rfl, rfl, rfl, trivial⟩)
  · skip
    refine OW.buildSlice (us := bt Gb) (xs := [.const (.int .u8 131), .const (.int .u8 5), .const (.int .u8 225), .const (.int .u8 200), .const (.int .u8 246), .const (.int .u8 133), .const (.int .u8 197), .const (.int .u8 165), .const (.int .u8 35), .const (.int .u8 209), .const (.int .u8 150), .const (.int .u8 65), .const (.int .u8 151), .const (.int .u8 215), .const (.int .u8 129), .const (.int .u8 228), .const (.int .u8 148), .const (.int .u8 103), .const (.int .u8 50), .const (.int .u8 126), .const (.int .u8 57), .const (.int .u8 130), .const (.int .u8 47), .const (.int .u8 61), .const (.int .u8 39)]) Tryz.runUnderlying23 Tryz.sizeOf5 Tryz.zeroValue5 rfl rfl rfl (by decide) rfl (fun bg => ?_) rfl rfl
    refine KN.on (fun _ => Sb.hw) ?_
    exact KS.mk fun a w hS => (secretOf6_2_6_9 hk7 hk1 hqn hnl hnb hF _ _ _ hoy).out a w ((hS.heap' (Pm.hw hS.mem)).keep ⟨rfl, rfl, rfl, rfl, rfl, rfl, rfl, rfl, rfl, rfl, rfl, rfl, rfl, rfl, rfl, rfl, rfl, rfl, rfl, trivial⟩)
  · skip
    refine OW.storeAgg (us := (keyC ver created kb)) Tryz.sizeOf29 rfl rfl rfl rfl (overlay_all _ _ (by rfl)) (.there (At.over .here _)) (Nat.le_refl _) ?_
    refine KN.on (fun _ => Sb.hw) ?_
    exact KS.mk fun a w hS => (secretOf6_2_9_19 hk7 hk1 hqn hnl hnb hF _ _ hoy).out a w ((hS.heap' (Pm.hw hS.mem)).keep ⟨rfl, rfl, rfl, rfl, rfl, rfl, rfl, rfl, rfl, rfl, rfl, rfl, rfl, rfl, rfl, rfl, rfl, rfl, trivial⟩)
theorem secretOf6_4_6_7 (bq : Nat) (bg : Nat)  :
    KS w0 36 (anyC w0 (LB) secretOf6_ops K 9 (Ls 21 128467)) [(34, .bool sub), (33, .pointer (some ⟨k1, 1, none⟩)), (32, .int .u32 (created : Int)), (31, .pointer (some ⟨k1, 2, none⟩)), (30, .int .i64 (ver : Int)), (28, slV qn), (26, slV qn), (25, .slice (some ⟨bg, 0, none⟩) (bt Gb).length (bt Gb).length), (24, .slice (some ⟨bg, 0, none⟩) (bt Gb).length (bt Gb).length), (22, .slice (some ⟨bq, 0, none⟩) (bt Qb).length (bt Qb).length), (19, .agg (keyC ver created kb).toArray), (18, slV qn), (1, .pointer (some ⟨k1, 0, none⟩)), (3, .pointer (some ⟨k3, 0, none⟩)), (4, .pointer (some ⟨k4, 0, none⟩)), (5, .int .i64 (ver : Int)), (6, slV qn), (7, .pointer (some ⟨k7, 0, none⟩))] ((bq, blk 5 (0, 0) (bt Qb)) :: ((bg, blk 5 ((bt Gb).length, (bt Gb).length + 1) (bt Gb)) :: ((k3, blk 29 (0, 0) z29) :: (k4, blk 33 (0, 0) z33) :: LB))) := by
  refine KN.three (i := 2) (j := 5) (k := 9) (by kernel_rfl) rfl rfl (show _ = (Ls 21 128471) by kernel_rfl) ?_ rfl rfl (show _ = (Ls 21 128499) by kernel_rfl) ?_ rfl rfl (show _ = (Ls 21 128979) by kernel_rfl) ?_
  · skip
    refine OW.buildSlice (us := bt Pb) (xs := [.const (.int .u8 1), .const (.int .u8 0), .const (.int .u8 0), .const (.int .u8 0), .const (.int .u8 0), .const (.int .u8 1), .const (.int .u8 255), .const (.int .u8 255), .const (.int .u8 255), .const (.int .u8 255), .const (.int .u8 255), .const (.int .u8 255), .const (.int .u8 255), .const (.int .u8 255), .const (.int .u8 255), .const (.int .u8 255), .const (.int .u8 255), .const (.int .u8 255), .const (.int .u8 255), .const (.int .u8 255), .const (.int .u8 208), .const (.int .u8 255), .const (.int .u8 255), .const (.int .u8 255), .const (.int .u8 255), .const (.int .u8 163)]) Tryz.runUnderlying23 Tryz.sizeOf5 Tryz.zeroValue5 rfl rfl rfl (by decide) rfl (fun bp => ?_) rfl rfl
    refine KN.on (fun _ => Sb.hw) ?_
    exact KS.mk fun a w hS => (secretOf6_2_4_6_7 hk7 hk1 hqn hnl hnb hF _ _ _ ).out a w ((hS.heap' (Pm.hw hS.mem)).keep ⟨rfl, rfl, rfl, rfl, rfl, rfl, rfl, rfl, rfl, rfl, rfl, rfl, rfl, rfl, rfl, rfl, rfl, rfl, rfl, trivial⟩)
  · skip
    refine OW.mark Tryz.runUnderlying23 Tryz.runUnderlying5 rfl .here rfl ?_
    refine KN.on (fun _ => Sb.hw) ?_
    exact KS.mk fun a w hS => (secretOf6_4_5_6_7 hk7 hk1 hqn hnl hnb hF _ _ ).out a w ((hS.heap' (Pm.hw hS.mem)).keep ⟨rfl, rfl, rfl, rfl, rfl, rfl, rfl, rfl, rfl, rfl, rfl, rfl, rfl, rfl, rfl, rfl, rfl, rfl, rfl, trivial⟩)
  · skip
    refine OW.call (xs := [.tmp 26]) Tryz.call13 rfl (fun w hw => publicNumber_any w0 w _ _ _ _ qn.2.2 rfl (by omega) hqn.cap (hqn.rd.mono (fun _ h => (mS (mS (mS (mS h)))))) hnb hw) rfl ?_
    rintro r w' ⟨oy, rfl, hoy, hw'⟩
    refine ⟨_, _, rfl, hw', ?_⟩
    refine KN.on (fun _ => Sb.hw) ?_
    refine KN.quiet (i := 18) (ls1 := (Ls 21 391123)) secretOf6_sel (by kernel_rfl) (by kernel_rfl) (fun _ => Sb.hw) rfl (v_assign rfl) rfl ?_
    exact KS.mk fun a w hS => (secretOf6_4_6_7_9 hk7 hk1 hqn hnl hnb hF _ _ _ hoy).out a w ((hS.heap' (Pm.hw hS.mem)).keep ⟨rfl, rfl, rfl, rfl, rfl, rfl, rfl, rfl, rfl, rfl, rfl, rfl, rfl, rfl, rfl, rfl, rfl, rfl, rfl, rfl, trivial⟩)
theorem secretOf6_2_6_7 (bp : Nat) (bg : Nat)  :
    KS w0 36 (anyC w0 (LB) secretOf6_ops K 9 (Ls 21 128455)) [(34, .bool sub), (33, .pointer (some ⟨k1, 1, none⟩)), (32, .int .u32 (created : Int)), (31, .pointer (some ⟨k1, 2, none⟩)), (30, .int .i64 (ver : Int)), (28, slV qn), (26, slV qn), (25, .slice (some ⟨bg, 0, none⟩) (bt Gb).length (bt Gb).length), (24, .slice (some ⟨bg, 0, none⟩) (bt Gb).length (bt Gb).length), (20, .slice (some ⟨bp, 0, none⟩) (bt Pb).length (bt Pb).length), (19, .agg (keyC ver created kb).toArray), (18, slV qn), (1, .pointer (some ⟨k1, 0, none⟩)), (3, .pointer (some ⟨k3, 0, none⟩)), (4, .pointer (some ⟨k4, 0, none⟩)), (5, .int .i64 (ver : Int)), (6, slV qn), (7, .pointer (some ⟨k7, 0, none⟩))] ((bp, blk 5 (0, 0) (bt Pb)) :: ((bg, blk 5 ((bt Gb).length, (bt Gb).length + 1) (bt Gb)) :: ((k3, blk 29 (0, 0) z29) :: (k4, blk 33 (0, 0) z33) :: LB))) := by
  refine KN.three (i := 3) (j := 4) (k := 9) (by kernel_rfl) rfl rfl (show _ = (Ls 21 128463) by kernel_rfl) ?_ rfl rfl (show _ = (Ls 21 128471) by kernel_rfl) ?_ rfl rfl (show _ = (Ls 21 128967) by kernel_rfl) ?_
  · skip
    refine OW.mark Tryz.runUnderlying23 Tryz.runUnderlying5 rfl .here rfl ?_
    refine KN.on (fun _ => Sb.hw) ?_
    exact KS.mk fun a w hS => (secretOf6_2_3_6_7 hk7 hk1 hqn hnl hnb hF _ _ ).out a w ((hS.heap' (Pm.hw hS.mem)).keep ⟨rfl, rfl, rfl, rfl, rfl, rfl, rfl, rfl, rfl, rfl, rfl, rfl, rfl, rfl, rfl, rfl, rfl, rfl, rfl, trivial⟩)
  · skip
    refine OW.buildSlice (us := bt Qb) (xs := [.const (.int .u8 255), .const (.int .u8 255), .const (.int .u8 255), .const (.int .u8 255), .const (.int .u8 255), .const (.int .u8 255), .const (.int .u8 255), .const (.int .u8 255), .const (.int .u8 255), .const (.int .u8 255), .const (.int .u8 255), .const (.int .u8 255), .const (.int .u8 255), .const (.int .u8 255), .const (.int .u8 255), .const (.int .u8 255), .const (.int .u8 255), .const (.int .u8 255), .const (.int .u8 255), .const (.int .u8 209)]) Tryz.runUnderlying23 Tryz.sizeOf5 Tryz.zeroValue5 rfl rfl rfl (by decide) rfl (fun bq => ?_) rfl rfl
    refine KN.on (fun _ => Sb.hw) ?_
    exact KS.mk fun a w hS => (secretOf6_2_4_6_7 hk7 hk1 hqn hnl hnb hF _ _ _ ).out a w ((hS.heap' (Pm.hw hS.mem)).keep ⟨rfl, rfl, rfl, rfl, rfl, rfl, rfl, rfl, rfl, rfl, rfl, rfl, rfl, rfl, rfl, rfl, rfl, rfl, rfl, trivial⟩)
  · skip
    refine OW.call (xs := [.tmp 26]) Tryz.call13 rfl (fun w hw => publicNumber_any w0 w _ _ _ _ qn.2.2 rfl (by omega) hqn.cap (hqn.rd.mono (fun _ h => (mS (mS (mS (mS h)))))) hnb hw) rfl ?_
    rintro r w' ⟨oy, rfl, hoy, hw'⟩
    refine ⟨_, _, rfl, hw', ?_⟩
    refine KN.on (fun _ => Sb.hw) ?_
    refine KN.quiet (i := 18) (ls1 := (Ls 21 391111)) secretOf6_sel (by kernel_rfl) (by kernel_rfl) (fun _ => Sb.hw) rfl (v_assign rfl) rfl ?_
    exact KS.mk fun a w hS => (secretOf6_2_6_7_9 hk7 hk1 hqn hnl hnb hF _ _ _ hoy).out a w ((hS.heap' (Pm.hw hS.mem)).keep ⟨rfl, rfl, rfl, rfl, rfl, rfl, rfl, rfl, rfl, rfl, rfl, rfl, rfl, rfl, rfl, rfl, rfl, rfl, rfl, rfl, trivial⟩)
theorem secretOf6_4_5_6 (bq : Nat) (bg : Nat)  :
    KS w0 36 (anyC w0 (LB) secretOf6_ops K 9 (Ls 21 128371)) [(34, .bool sub), (33, .pointer (some ⟨k1, 1, none⟩)), (32, .int .u32 (created : Int)), (31, .pointer (some ⟨k1, 2, none⟩)), (30, .int .i64 (ver : Int)), (28, slV qn), (26, slV qn), (24, .slice (some ⟨bg, 0, none⟩) (bt Gb).length (bt Gb).length), (23, .slice (some ⟨bq, 0, none⟩) (bt Qb).length (bt Qb).length), (22, .slice (some ⟨bq, 0, none⟩) (bt Qb).length (bt Qb).length), (19, .agg (keyC ver created kb).toArray), (18, slV qn), (1, .pointer (some ⟨k1, 0, none⟩)), (3, .pointer (some ⟨k3, 0, none⟩)), (4, .pointer (some ⟨k4, 0, none⟩)), (5, .int .i64 (ver : Int)), (6, slV qn), (7, .pointer (some ⟨k7, 0, none⟩))] ((bq, blk 5 ((bt Qb).length, (bt Qb).length + 1) (bt Qb)) :: ((bg, blk 5 (0, 0) (bt Gb)) :: ((k3, blk 29 (0, 0) z29) :: (k4, blk 33 (0, 0) z33) :: LB))) := by
  refine KN.three (i := 2) (j := 7) (k := 9) (by kernel_rfl) rfl rfl (show _ = (Ls 21 128375) by kernel_rfl) ?_ rfl rfl (show _ = (Ls 21 128499) by kernel_rfl) ?_ rfl rfl (show _ = (Ls 21 128883) by kernel_rfl) ?_
  · skip
    refine OW.buildSlice (us := bt Pb) (xs := [.const (.int .u8 1), .const (.int .u8 0), .const (.int .u8 0), .const (.int .u8 0), .const (.int .u8 0), .const (.int .u8 1), .const (.int .u8 255), .const (.int .u8 255), .const (.int .u8 255), .const (.int .u8 255), .const (.int .u8 255), .const (.int .u8 255), .const (.int .u8 255), .const (.int .u8 255), .const (.int .u8 255), .const (.int .u8 255), .const (.int .u8 255), .const (.int .u8 255), .const (.int .u8 255), .const (.int .u8 255), .const (.int .u8 208), .const (.int .u8 255), .const (.int .u8 255), .const (.int .u8 255), .const (.int .u8 255), .const (.int .u8 163)]) Tryz.runUnderlying23 Tryz.sizeOf5 Tryz.zeroValue5 rfl rfl rfl (by decide) rfl (fun bp => ?_) rfl rfl
    refine KN.on (fun _ => Sb.hw) ?_
    exact KS.mk fun a w hS => (secretOf6_2_4_5_6 hk7 hk1 hqn hnl hnb hF _ _ _ ).out a w ((hS.heap' (Pm.hw hS.mem)).keep ⟨rfl, rfl, rfl, rfl, rfl, rfl, rfl, rfl, rfl, rfl, rfl, rfl, rfl, rfl, rfl, rfl, rfl, rfl, rfl, trivial⟩)
  · skip
    refine OW.mark Tryz.runUnderlying23 Tryz.runUnderlying5 rfl (.there .here) rfl ?_
    refine KN.on (fun _ => Sb.hw) ?_
    exact KS.mk fun a w hS => (secretOf6_4_5_6_7 hk7 hk1 hqn hnl hnb hF _ _ ).out a w ((hS.heap' (Pm.hw hS.mem)).keep ⟨rfl, rfl, rfl, rfl, rfl, rfl, rfl, rfl, rfl, rfl, rfl, rfl, rfl, rfl, rfl, rfl, rfl, rfl, rfl, trivial⟩)
  · skip
    refine OW.call (xs := [.tmp 26]) Tryz.call13 rfl (fun w hw => publicNumber_any w0 w _ _ _ _ qn.2.2 rfl (by omega) hqn.cap (hqn.rd.mono (fun _ h => (mS (mS (mS (mS h)))))) hnb hw) rfl ?_
    rintro r w' ⟨oy, rfl, hoy, hw'⟩
    refine ⟨_, _, rfl, hw', ?_⟩
    refine KN.on (fun _ => Sb.hw) ?_
    refine KN.quiet (i := 18) (ls1 := (Ls 21 391027)) secretOf6_sel (by kernel_rfl) (by kernel_rfl) (fun _ => Sb.hw) rfl (v_assign rfl) rfl ?_
    exact KS.mk fun a w hS => (secretOf6_4_5_6_9 hk7 hk1 hqn hnl hnb hF _ _ _ hoy).out a w ((hS.heap' (Pm.hw hS.mem)).keep ⟨rfl, rfl, rfl, rfl, rfl, rfl, rfl, rfl, rfl, rfl, rfl, rfl, rfl, rfl, rfl, rfl, rfl, rfl, rfl, rfl, trivial⟩)
theorem secretOf6_2_4_6 (bp : Nat) (bq : Nat) (bg : Nat)  :
    KS w0 36 (anyC w0 (LB) secretOf6_ops K 9 (Ls 21 128343)) [(34, .bool sub), (33, .pointer (some ⟨k1, 1, none⟩)), (32, .int .u32 (created : Int)), (31, .pointer (some ⟨k1, 2, none⟩)), (30, .int .i64 (ver : Int)), (28, slV qn), (26, slV qn), (24, .slice (some ⟨bg, 0, none⟩) (bt Gb).length (bt Gb).length), (22, .slice (some ⟨bq, 0, none⟩) (bt Qb).length (bt Qb).length), (20, .slice (some ⟨bp, 0, none⟩) (bt Pb).length (bt Pb).length), (19, .agg (keyC ver created kb).toArray), (18, slV qn), (1, .pointer (some ⟨k1, 0, none⟩)), (3, .pointer (some ⟨k3, 0, none⟩)), (4, .pointer (some ⟨k4, 0, none⟩)), (5, .int .i64 (ver : Int)), (6, slV qn), (7, .pointer (some ⟨k7, 0, none⟩))] ((bp, blk 5 (0, 0) (bt Pb)) :: ((bq, blk 5 (0, 0) (bt Qb)) :: ((bg, blk 5 (0, 0) (bt Gb)) :: ((k3, blk 29 (0, 0) z29) :: (k4, blk 33 (0, 0) z33) :: LB)))) := by
  refine KN.four (i := 3) (j := 5) (k := 7) (i' := 9) (by kernel_rfl) rfl rfl (show _ = (Ls 21 128351) by kernel_rfl) ?_ rfl rfl (show _ = (Ls 21 128375) by kernel_rfl) ?_ rfl rfl (show _ = (Ls 21 128471) by kernel_rfl) ?_ rfl rfl (show _ = (Ls 21 128855) by kernel_rfl) ?_
  · skip
    refine OW.mark Tryz.runUnderlying23 Tryz.runUnderlying5 rfl .here rfl ?_
    refine KN.on (fun _ => Sb.hw) ?_
    exact KS.mk fun a w hS => (secretOf6_2_3_4_6 hk7 hk1 hqn hnl hnb hF _ _ _ ).out a w ((hS.heap' (Pm.hw hS.mem)).keep ⟨rfl, rfl, rfl, rfl, rfl, rfl, rfl, rfl, rfl, rfl, rfl, rfl, rfl, rfl, rfl, rfl, rfl, rfl, rfl, trivial⟩)
  · skip
    refine OW.mark Tryz.runUnderlying23 Tryz.runUnderlying5 rfl (.there .here) rfl ?_
    refine KN.on (fun _ => Sb.hw) ?_
    exact KS.mk fun a w hS => (secretOf6_2_4_5_6 hk7 hk1 hqn hnl hnb hF _ _ _ ).out a w ((hS.heap' (Pm.hw hS.mem)).keep ⟨rfl, rfl, rfl, rfl, rfl, rfl, rfl, rfl, rfl, rfl, rfl, rfl, rfl, rfl, rfl, rfl, rfl, rfl, rfl, trivial⟩)
  · skip
    refine OW.mark Tryz.runUnderlying23 Tryz.runUnderlying5 rfl (.there (.there .here)) rfl ?_
    refine KN.on (fun _ => Sb.hw) ?_
    exact KS.mk fun a w hS => (secretOf6_2_4_6_7 hk7 hk1 hqn hnl hnb hF _ _ _ ).out a w ((hS.heap' (Pm.hw hS.mem)).keep ⟨rfl, rfl, rfl, rfl, rfl, rfl, rfl, rfl, rfl, rfl, rfl, rfl, rfl, rfl, rfl, rfl, rfl, rfl, rfl, trivial⟩)
  · skip
    refine OW.call (xs := [.tmp 26]) Tryz.call13 rfl (fun w hw => publicNumber_any w0 w _ _ _ _ qn.2.2 rfl (by omega) hqn.cap (hqn.rd.mono (fun _ h => (mS (mS (mS (mS (mS h))))))) hnb hw) rfl ?_
    rintro r w' ⟨oy, rfl, hoy, hw'⟩
    refine ⟨_, _, rfl, hw', ?_⟩
    refine KN.on (fun _ => Sb.hw) ?_
    refine KN.quiet (i := 18) (ls1 := (Ls 21 390999)) secretOf6_sel (by kernel_rfl) (by kernel_rfl) (fun _ => Sb.hw) rfl (v_assign rfl) rfl ?_
    exact KS.mk fun a w hS => (secretOf6_2_4_6_9 hk7 hk1 hqn hnl hnb hF _ _ _ _ hoy).out a w ((hS.heap' (Pm.hw hS.mem)).keep ⟨rfl, rfl, rfl, rfl, rfl, rfl, rfl, rfl, rfl, rfl, rfl, rfl, rfl, rfl, rfl, rfl, rfl, rfl, rfl, rfl, trivial⟩)
theorem secretOf6_2_3_6 (bp : Nat) (bg : Nat)  :
    KS w0 36 (anyC w0 (LB) secretOf6_ops K 9 (Ls 21 128335)) [(34, .bool sub), (33, .pointer (some ⟨k1, 1, none⟩)), (32, .int .u32 (created : Int)), (31, .pointer (some ⟨k1, 2, none⟩)), (30, .int .i64 (ver : Int)), (28, slV qn), (26, slV qn), (24, .slice (some ⟨bg, 0, none⟩) (bt Gb).length (bt Gb).length), (21, .slice (some ⟨bp, 0, none⟩) (bt Pb).length (bt Pb).length), (20, .slice (some ⟨bp, 0, none⟩) (bt Pb).length (bt Pb).length), (19, .agg (keyC ver created kb).toArray), (18, slV qn), (1, .pointer (some ⟨k1, 0, none⟩)), (3, .pointer (some ⟨k3, 0, none⟩)), (4, .pointer (some ⟨k4, 0, none⟩)), (5, .int .i64 (ver : Int)), (6, slV qn), (7, .pointer (some ⟨k7, 0, none⟩))] ((bp, blk 5 ((bt Pb).length, (bt Pb).length + 1) (bt Pb)) :: ((bg, blk 5 (0, 0) (bt Gb)) :: ((k3, blk 29 (0, 0) z29) :: (k4, blk 33 (0, 0) z33) :: LB))) := by
  refine KN.three (i := 4) (j := 7) (k := 9) (by kernel_rfl) rfl rfl (show _ = (Ls 21 128351) by kernel_rfl) ?_ rfl rfl (show _ = (Ls 21 128463) by kernel_rfl) ?_ rfl rfl (show _ = (Ls 21 128847) by kernel_rfl) ?_
  · skip
    refine OW.buildSlice (us := bt Qb) (xs := [.const (.int .u8 255), .const (.int .u8 255), .const (.int .u8 255), .const (.int .u8 255), .const (.int .u8 255), .const (.int .u8 255), .const (.int .u8 255), .const (.int .u8 255), .const (.int .u8 255), .const (.int .u8 255), .const (.int .u8 255), .const (.int .u8 255), .const (.int .u8 255), .const (.int .u8 255), .const (.int .u8 255), .const (.int .u8 255), .const (.int .u8 255), .const (.int .u8 255), .const (.int .u8 255), .const (.int .u8 209)]) Tryz.runUnderlying23 Tryz.sizeOf5 Tryz.zeroValue5 rfl rfl rfl (by decide) rfl (fun bq => ?_) rfl rfl
    refine KN.on (fun _ => Sb.hw) ?_
    exact KS.mk fun a w hS => (secretOf6_2_3_4_6 hk7 hk1 hqn hnl hnb hF _ _ _ ).out a w ((hS.heap' (Pm.hw hS.mem)).keep ⟨rfl, rfl, rfl, rfl, rfl, rfl, rfl, rfl, rfl, rfl, rfl, rfl, rfl, rfl, rfl, rfl, rfl, rfl, rfl, trivial⟩)
  · skip
    refine OW.mark Tryz.runUnderlying23 Tryz.runUnderlying5 rfl (.there .here) rfl ?_
    refine KN.on (fun _ => Sb.hw) ?_
    exact KS.mk fun a w hS => (secretOf6_2_3_6_7 hk7 hk1 hqn hnl hnb hF _ _ ).out a w ((hS.heap' (Pm.hw hS.mem)).keep ⟨rfl, rfl, rfl, rfl, rfl, rfl, rfl, rfl, rfl, rfl, rfl, rfl, rfl, rfl, rfl, rfl, rfl, rfl, rfl, trivial⟩)
  · skip
    refine OW.call (xs := [.tmp 26]) Tryz.call13 rfl (fun w hw => publicNumber_any w0 w _ _ _ _ qn.2.2 rfl (by omega) hqn.cap (hqn.rd.mono (fun _ h => (mS (mS (mS (mS h)))))) hnb hw) rfl ?_
    rintro r w' ⟨oy, rfl, hoy, hw'⟩
    refine ⟨_, _, rfl, hw', ?_⟩
    refine KN.on (fun _ => Sb.hw) ?_
    refine KN.quiet (i := 18) (ls1 := (Ls 21 390991)) secretOf6_sel (by kernel_rfl) (by kernel_rfl) (fun _ => Sb.hw) rfl (v_assign rfl) rfl ?_
    exact KS.mk fun a w hS => (secretOf6_2_3_6_9 hk7 hk1 hqn hnl hnb hF _ _ _ hoy).out a w ((hS.heap' (Pm.hw hS.mem)).keep ⟨rfl, rfl, rfl, rfl, rfl, rfl, rfl, rfl, rfl, rfl, rfl, rfl, rfl, rfl, rfl, rfl, rfl, rfl, rfl, rfl, trivial⟩)
theorem secretOf6_2_4_5 (bp : Nat) (bq : Nat)  :
    KS w0 36 (anyC w0 (LB) secretOf6_ops K 9 (Ls 21 128311)) [(34, .bool sub), (33, .pointer (some ⟨k1, 1, none⟩)), (32, .int .u32 (created : Int)), (31, .pointer (some ⟨k1, 2, none⟩)), (30, .int .i64 (ver : Int)), (28, slV qn), (26, slV qn), (23, .slice (some ⟨bq, 0, none⟩) (bt Qb).length (bt Qb).length), (22, .slice (some ⟨bq, 0, none⟩) (bt Qb).length (bt Qb).length), (20, .slice (some ⟨bp, 0, none⟩) (bt Pb).length (bt Pb).length), (19, .agg (keyC ver created kb).toArray), (18, slV qn), (1, .pointer (some ⟨k1, 0, none⟩)), (3, .pointer (some ⟨k3, 0, none⟩)), (4, .pointer (some ⟨k4, 0, none⟩)), (5, .int .i64 (ver : Int)), (6, slV qn), (7, .pointer (some ⟨k7, 0, none⟩))] ((bp, blk 5 (0, 0) (bt Pb)) :: ((bq, blk 5 ((bt Qb).length, (bt Qb).length + 1) (bt Qb)) :: ((k3, blk 29 (0, 0) z29) :: (k4, blk 33 (0, 0) z33) :: LB))) := by
  refine KN.three (i := 3) (j := 6) (k := 9) (by kernel_rfl) rfl rfl (show _ = (Ls 21 128319) by kernel_rfl) ?_ rfl rfl (show _ = (Ls 21 128375) by kernel_rfl) ?_ rfl rfl (show _ = (Ls 21 128823) by kernel_rfl) ?_
  · skip
    refine OW.mark Tryz.runUnderlying23 Tryz.runUnderlying5 rfl .here rfl ?_
    refine KN.on (fun _ => Sb.hw) ?_
    exact KS.mk fun a w hS => (secretOf6_2_3_4_5 hk7 hk1 hqn hnl hnb hF _ _ ).out a w ((hS.heap' (Pm.hw hS.mem)).keep ⟨rfl, rfl, rfl, rfl, rfl, rfl, rfl, rfl, rfl, rfl, rfl, rfl, rfl, rfl, rfl, rfl, rfl, rfl, rfl, trivial⟩)
  · skip
    refine OW.buildSlice (us := bt Gb) (xs := [.const (.int .u8 131), .const (.int .u8 5), .const (.int .u8 225), .const (.int .u8 200), .const (.int .u8 246), .const (.int .u8 133), .const (.int .u8 197), .const (.int .u8 165), .const (.int .u8 35), .const (.int .u8 209), .const (.int .u8 150), .const (.int .u8 65), .const (.int .u8 151), .const (.int .u8 215), .const (.int .u8 129), .const (.int .u8 228), .const (.int .u8 148), .const (.int .u8 103), .const (.int .u8 50), .const (.int .u8 126), .const (.int .u8 57), .const (.int .u8 130), .const (.int .u8 47), .const (.int .u8 61), .const (.int .u8 39)]) Tryz.runUnderlying23 Tryz.sizeOf5 Tryz.zeroValue5 rfl rfl rfl (by decide) rfl (fun bg => ?_) rfl rfl
    refine KN.on (fun _ => Sb.hw) ?_
    exact KS.mk fun a w hS => (secretOf6_2_4_5_6 hk7 hk1 hqn hnl hnb hF _ _ _ ).out a w ((hS.heap' (Pm.hw hS.mem)).keep ⟨rfl, rfl, rfl, rfl, rfl, rfl, rfl, rfl, rfl, rfl, rfl, rfl, rfl, rfl, rfl, rfl, rfl, rfl, rfl, trivial⟩)
  · skip
    refine OW.call (xs := [.tmp 26]) Tryz.call13 rfl (fun w hw => publicNumber_any w0 w _ _ _ _ qn.2.2 rfl (by omega) hqn.cap (hqn.rd.mono (fun _ h => (mS (mS (mS (mS h)))))) hnb hw) rfl ?_
    rintro r w' ⟨oy, rfl, hoy, hw'⟩
    refine ⟨_, _, rfl, hw', ?_⟩
    refine KN.on (fun _ => Sb.hw) ?_
    refine KN.quiet (i := 18) (ls1 := (Ls 21 390967)) secretOf6_sel (by kernel_rfl) (by kernel_rfl) (fun _ => Sb.hw) rfl (v_assign rfl) rfl ?_
    exact KS.mk fun a w hS => (secretOf6_2_4_5_9 hk7 hk1 hqn hnl hnb hF _ _ _ hoy).out a w ((hS.heap' (Pm.hw hS.mem)).keep ⟨rfl, rfl, rfl, rfl, rfl, rfl, rfl, rfl, rfl, rfl, rfl, rfl, rfl, rfl, rfl, rfl, rfl, rfl, rfl, rfl, trivial⟩)
theorem secretOf6_2_3_4 (bp : Nat) (bq : Nat)  :
    KS w0 36 (anyC w0 (LB) secretOf6_ops K 9 (Ls 21 128287)) [(34, .bool sub), (33, .pointer (some ⟨k1, 1, none⟩)), (32, .int .u32 (created : Int)), (31, .pointer (some ⟨k1, 2, none⟩)), (30, .int .i64 (ver : Int)), (28, slV qn), (26, slV qn), (22, .slice (some ⟨bq, 0, none⟩) (bt Qb).length (bt Qb).length), (21, .slice (some ⟨bp, 0, none⟩) (bt Pb).length (bt Pb).length), (20, .slice (some ⟨bp, 0, none⟩) (bt Pb).length (bt Pb).length), (19, .agg (keyC ver created kb).toArray), (18, slV qn), (1, .pointer (some ⟨k1, 0, none⟩)), (3, .pointer (some ⟨k3, 0, none⟩)), (4, .pointer (some ⟨k4, 0, none⟩)), (5, .int .i64 (ver : Int)), (6, slV qn), (7, .pointer (some ⟨k7, 0, none⟩))] ((bp, blk 5 ((bt Pb).length, (bt Pb).length + 1) (bt Pb)) :: ((bq, blk 5 (0, 0) (bt Qb)) :: ((k3, blk 29 (0, 0) z29) :: (k4, blk 33 (0, 0) z33) :: LB))) := by
  refine KN.three (i := 5) (j := 6) (k := 9) (by kernel_rfl) rfl rfl (show _ = (Ls 21 128319) by kernel_rfl) ?_ rfl rfl (show _ = (Ls 21 128351) by kernel_rfl) ?_ rfl rfl (show _ = (Ls 21 128799) by kernel_rfl) ?_
  · skip
    refine OW.mark Tryz.runUnderlying23 Tryz.runUnderlying5 rfl (.there .here) rfl ?_
    refine KN.on (fun _ => Sb.hw) ?_
    exact KS.mk fun a w hS => (secretOf6_2_3_4_5 hk7 hk1 hqn hnl hnb hF _ _ ).out a w ((hS.heap' (Pm.hw hS.mem)).keep ⟨rfl, rfl, rfl, rfl, rfl, rfl, rfl, rfl, rfl, rfl, rfl, rfl, rfl, rfl, rfl, rfl, rfl, rfl, rfl, trivial⟩)
  · skip
    refine OW.buildSlice (us := bt Gb) (xs := [.const (.int .u8 131), .const (.int .u8 5), .const (.int .u8 225), .const (.int .u8 200), .const (.int .u8 246), .const (.int .u8 133), .const (.int .u8 197), .const (.int .u8 165), .const (.int .u8 35), .const (.int .u8 209), .const (.int .u8 150), .const (.int .u8 65), .const (.int .u8 151), .const (.int .u8 215), .const (.int .u8 129), .const (.int .u8 228), .const (.int .u8 148), .const (.int .u8 103), .const (.int .u8 50), .const (.int .u8 126), .const (.int .u8 57), .const (.int .u8 130), .const (.int .u8 47), .const (.int .u8 61), .const (.int .u8 39)]) Tryz.runUnderlying23 Tryz.sizeOf5 Tryz.zeroValue5 rfl rfl rfl (by decide) rfl (fun bg => ?_) rfl rfl
    refine KN.on (fun _ => Sb.hw) ?_
    exact KS.mk fun a w hS => (secretOf6_2_3_4_6 hk7 hk1 hqn hnl hnb hF _ _ _ ).out a w ((hS.heap' (Pm.hw hS.mem)).keep ⟨rfl, rfl, rfl, rfl, rfl, rfl, rfl, rfl, rfl, rfl, rfl, rfl, rfl, rfl, rfl, rfl, rfl, rfl, rfl, trivial⟩)
  · skip
    refine OW.call (xs := [.tmp 26]) Tryz.call13 rfl (fun w hw => publicNumber_any w0 w _ _ _ _ qn.2.2 rfl (by omega) hqn.cap (hqn.rd.mono (fun _ h => (mS (mS (mS (mS h)))))) hnb hw) rfl ?_
    rintro r w' ⟨oy, rfl, hoy, hw'⟩
    refine ⟨_, _, rfl, hw', ?_⟩
    refine KN.on (fun _ => Sb.hw) ?_
    refine KN.quiet (i := 18) (ls1 := (Ls 21 390943)) secretOf6_sel (by kernel_rfl) (by kernel_rfl) (fun _ => Sb.hw) rfl (v_assign rfl) rfl ?_
    exact KS.mk fun a w hS => (secretOf6_2_3_4_9 hk7 hk1 hqn hnl hnb hF _ _ _ hoy).out a w ((hS.heap' (Pm.hw hS.mem)).keep ⟨rfl, rfl, rfl, rfl, rfl, rfl, rfl, rfl, rfl, rfl, rfl, rfl, rfl, rfl, rfl, rfl, rfl, rfl, rfl, rfl, trivial⟩)
theorem secretOf6_9 (oy : Option Own) (hoy : oy = none → bt (pubN qn.2.2) = []) :
    KS w0 36 (anyC w0 (LB) secretOf6_ops K 10 (Ls 21 390915)) [(2, slV qn), (34, .bool sub), (33, .pointer (some ⟨k1, 1, none⟩)), (32, .int .u32 (created : Int)), (31, .pointer (some ⟨k1, 2, none⟩)), (30, .int .i64 (ver : Int)), (28, slV qn), (27, ownV oy (bt (pubN qn.2.2))), (26, slV qn), (19, .agg (keyC ver created kb).toArray), (18, slV qn), (1, .pointer (some ⟨k1, 0, none⟩)), (3, .pointer (some ⟨k3, 0, none⟩)), (4, .pointer (some ⟨k4, 0, none⟩)), (5, .int .i64 (ver : Int)), (6, slV qn), (7, .pointer (some ⟨k7, 0, none⟩))] (ownL 5 oy (bt (pubN qn.2.2)) ++ ((k3, blk 29 (0, 0) z29) :: (k4, blk 33 (0, 0) z33) :: LB)) := by
  refine KN.four (i := 2) (j := 4) (k := 6) (i' := 19) (by kernel_rfl) rfl rfl (show _ = (Ls 21 390919) by kernel_rfl) ?_ rfl rfl (show _ = (Ls 21 390931) by kernel_rfl) ?_ rfl rfl (show _ = (Ls 21 390979) by kernel_rfl) ?_ rfl rfl (show _ = (Ls 21 915203) by kernel_rfl) ?_
  · skip
    refine OW.buildSlice (us := bt Pb) (xs := [.const (.int .u8 1), .const (.int .u8 0), .const (.int .u8 0), .const (.int .u8 0), .const (.int .u8 0), .const (.int .u8 1), .const (.int .u8 255), .const (.int .u8 255), .const (.int .u8 255), .const (.int .u8 255), .const (.int .u8 255), .const (.int .u8 255), .const (.int .u8 255), .const (.int .u8 255), .const (.int .u8 255), .const (.int .u8 255), .const (.int .u8 255), .const (.int .u8 255), .const (.int .u8 255), .const (.int .u8 255), .const (.int .u8 208), .const (.int .u8 255), .const (.int .u8 255), .const (.int .u8 255), .const (.int .u8 255), .const (.int .u8 163)]) Tryz.runUnderlying23 Tryz.sizeOf5 Tryz.zeroValue5 rfl rfl rfl (by decide) rfl (fun bp => ?_) rfl rfl
    refine KN.on (fun _ => Sb.hw) ?_
    exact KS.mk fun a w hS => (secretOf6_2_9 hk7 hk1 hqn hnl hnb hF _ _ hoy).out a w ((hS.heap' (Pm.hw hS.mem)).keep ⟨rfl, rfl, rfl, rfl, rfl, rfl, rfl, rfl, rfl, rfl, rfl, rfl, rfl, rfl, rfl, rfl, rfl, rfl, trivial⟩)
  · skip
    refine OW.buildSlice (us := bt Qb) (xs := [.const (.int .u8 255), .const (.int .u8 255), .const (.int .u8 255), .const (.int .u8 255), .const (.int .u8 255), .const (.int .u8 255), .const (.int .u8 255), .const (.int .u8 255), .const (.int .u8 255), .const (.int .u8 255), .const (.int .u8 255), .const (.int .u8 255), .const (.int .u8 255), .const (.int .u8 255), .const (.int .u8 255), .const (.int .u8 255), .const (.int .u8 255), .const (.int .u8 255), .const (.int .u8 255), .const (.int .u8 209)]) Tryz.runUnderlying23 Tryz.sizeOf5 Tryz.zeroValue5 rfl rfl rfl (by decide) rfl (fun bq => ?_) rfl rfl
    refine KN.on (fun _ => Sb.hw) ?_
    exact KS.mk fun a w hS => (secretOf6_4_9 hk7 hk1 hqn hnl hnb hF _ _ hoy).out a w ((hS.heap' (Pm.hw hS.mem)).keep ⟨rfl, rfl, rfl, rfl, rfl, rfl, rfl, rfl, rfl, rfl, rfl, rfl, rfl, rfl, rfl, rfl, rfl, rfl, trivial⟩)
  · skip
    refine OW.buildSlice (us := bt Gb) (xs := [.const (.int .u8 131), .const (.int .u8 5), .const (.int .u8 225), .const (.int .u8 200), .const (.int .u8 246), .const (.int .u8 133), .const (.int .u8 197), .const (.int .u8 165), .const (.int .u8 35), .const (.int .u8 209), .const (.int .u8 150), .const (.int .u8 65), .const (.int .u8 151), .const (.int .u8 215), .const (.int .u8 129), .const (.int .u8 228), .const (.int .u8 148), .const (.int .u8 103), .const (.int .u8 50), .const (.int .u8 126), .const (.int .u8 57), .const (.int .u8 130), .const (.int .u8 47), .const (.int .u8 61), .const (.int .u8 39)]) Tryz.runUnderlying23 Tryz.sizeOf5 Tryz.zeroValue5 rfl rfl rfl (by decide) rfl (fun bg => ?_) rfl rfl
    refine KN.on (fun _ => Sb.hw) ?_
    exact KS.mk fun a w hS => (secretOf6_6_9 hk7 hk1 hqn hnl hnb hF _ _ hoy).out a w ((hS.heap' (Pm.hw hS.mem)).keep ⟨rfl, rfl, rfl, rfl, rfl, rfl, rfl, rfl, rfl, rfl, rfl, rfl, rfl, rfl, rfl, rfl, rfl, rfl, trivial⟩)
  · skip
    refine OW.storeAgg (us := (keyC ver created kb)) Tryz.sizeOf29 rfl rfl rfl rfl (overlay_all _ _ (by rfl)) (At.over .here _) (Nat.le_refl _) ?_
    refine KN.on (fun _ => Sb.hw) ?_
    exact KS.mk fun a w hS => (secretOf6_9_19 hk7 hk1 hqn hnl hnb hF _ hoy).out a w ((hS.heap' (Pm.hw hS.mem)).keep ⟨rfl, rfl, rfl, rfl, rfl, rfl, rfl, rfl, rfl, rfl, rfl, rfl, rfl, rfl, rfl, rfl, rfl, trivial⟩)
theorem secretOf6_6_7 (bg : Nat)  :
    KS w0 36 (anyC w0 (LB) secretOf6_ops K 10 (Ls 21 128451)) [(34, .bool sub), (33, .pointer (some ⟨k1, 1, none⟩)), (32, .int .u32 (created : Int)), (31, .pointer (some ⟨k1, 2, none⟩)), (30, .int .i64 (ver : Int)), (28, slV qn), (26, slV qn), (25, .slice (some ⟨bg, 0, none⟩) (bt Gb).length (bt Gb).length), (24, .slice (some ⟨bg, 0, none⟩) (bt Gb).length (bt Gb).length), (19, .agg (keyC ver created kb).toArray), (18, slV qn), (1, .pointer (some ⟨k1, 0, none⟩)), (3, .pointer (some ⟨k3, 0, none⟩)), (4, .pointer (some ⟨k4, 0, none⟩)), (5, .int .i64 (ver : Int)), (6, slV qn), (7, .pointer (some ⟨k7, 0, none⟩))] ((bg, blk 5 ((bt Gb).length, (bt Gb).length + 1) (bt Gb)) :: ((k3, blk 29 (0, 0) z29) :: (k4, blk 33 (0, 0) z33) :: LB)) := by
  refine KN.three (i := 2) (j := 4) (k := 9) (by kernel_rfl) rfl rfl (show _ = (Ls 21 128455) by kernel_rfl) ?_ rfl rfl (show _ = (Ls 21 128467) by kernel_rfl) ?_ rfl rfl (show _ = (Ls 21 128963) by kernel_rfl) ?_
  · skip
    refine OW.buildSlice (us := bt Pb) (xs := [.const (.int .u8 1), .const (.int .u8 0), .const (.int .u8 0), .const (.int .u8 0), .const (.int .u8 0), .const (.int .u8 1), .const (.int .u8 255), .const (.int .u8 255), .const (.int .u8 255), .const (.int .u8 255), .const (.int .u8 255), .const (.int .u8 255), .const (.int .u8 255), .const (.int .u8 255), .const (.int .u8 255), .const (.int .u8 255), .const (.int .u8 255), .const (.int .u8 255), .const (.int .u8 255), .const (.int .u8 255), .const (.int .u8 208), .const (.int .u8 255), .const (.int .u8 255), .const (.int .u8 255), .const (.int .u8 255), .const (.int .u8 163)]) Tryz.runUnderlying23 Tryz.sizeOf5 Tryz.zeroValue5 rfl rfl rfl (by decide) rfl (fun bp => ?_) rfl rfl
    refine KN.on (fun _ => Sb.hw) ?_
    exact KS.mk fun a w hS => (secretOf6_2_6_7 hk7 hk1 hqn hnl hnb hF _ _ ).out a w ((hS.heap' (Pm.hw hS.mem)).keep ⟨rfl, rfl, rfl, rfl, rfl, rfl, rfl, rfl, rfl, rfl, rfl, rfl, rfl, rfl, rfl, rfl, rfl, rfl, trivial⟩)
  · skip
    refine OW.buildSlice (us := bt Qb) (xs := [.const (.int .u8 255), .const (.int .u8 255), .const (.int .u8 255), .const (.int .u8 255), .const (.int .u8 255), .const (.int .u8 255), .const (.int .u8 255), .const (.int .u8 255), .const (.int .u8 255), .const (.int .u8 255), .const (.int .u8 255), .const (.int .u8 255), .const (.int .u8 255), .const (.int .u8 255), .const (.int .u8 255), .const (.int .u8 255), .const (.int .u8 255), .const (.int .u8 255), .const (.int .u8 255), .const (.int .u8 209)]) Tryz.runUnderlying23 Tryz.sizeOf5 Tryz.zeroValue5 rfl rfl rfl (by decide) rfl (fun bq => ?_) rfl rfl
    refine KN.on (fun _ => Sb.hw) ?_
    exact KS.mk fun a w hS => (secretOf6_4_6_7 hk7 hk1 hqn hnl hnb hF _ _ ).out a w ((hS.heap' (Pm.hw hS.mem)).keep ⟨rfl, rfl, rfl, rfl, rfl, rfl, rfl, rfl, rfl, rfl, rfl, rfl, rfl, rfl, rfl, rfl, rfl, rfl, trivial⟩)
  · skip
    refine OW.call (xs := [.tmp 26]) Tryz.call13 rfl (fun w hw => publicNumber_any w0 w _ _ _ _ qn.2.2 rfl (by omega) hqn.cap (hqn.rd.mono (fun _ h => (mS (mS (mS h))))) hnb hw) rfl ?_
    rintro r w' ⟨oy, rfl, hoy, hw'⟩
    refine ⟨_, _, rfl, hw', ?_⟩
    refine KN.on (fun _ => Sb.hw) ?_
    refine KN.quiet (i := 18) (ls1 := (Ls 21 391107)) secretOf6_sel (by kernel_rfl) (by kernel_rfl) (fun _ => Sb.hw) rfl (v_assign rfl) rfl ?_
    exact KS.mk fun a w hS => (secretOf6_6_7_9 hk7 hk1 hqn hnl hnb hF _ _ hoy).out a w ((hS.heap' (Pm.hw hS.mem)).keep ⟨rfl, rfl, rfl, rfl, rfl, rfl, rfl, rfl, rfl, rfl, rfl, rfl, rfl, rfl, rfl, rfl, rfl, rfl, rfl, trivial⟩)
theorem secretOf6_4_6 (bq : Nat) (bg : Nat)  :
    KS w0 36 (anyC w0 (LB) secretOf6_ops K 10 (Ls 21 128339)) [(34, .bool sub), (33, .pointer (some ⟨k1, 1, none⟩)), (32, .int .u32 (created : Int)), (31, .pointer (some ⟨k1, 2, none⟩)), (30, .int .i64 (ver : Int)), (28, slV qn), (26, slV qn), (24, .slice (some ⟨bg, 0, none⟩) (bt Gb).length (bt Gb).length), (22, .slice (some ⟨bq, 0, none⟩) (bt Qb).length (bt Qb).length), (19, .agg (keyC ver created kb).toArray), (18, slV qn), (1, .pointer (some ⟨k1, 0, none⟩)), (3, .pointer (some ⟨k3, 0, none⟩)), (4, .pointer (some ⟨k4, 0, none⟩)), (5, .int .i64 (ver : Int)), (6, slV qn), (7, .pointer (some ⟨k7, 0, none⟩))] ((bq, blk 5 (0, 0) (bt Qb)) :: ((bg, blk 5 (0, 0) (bt Gb)) :: ((k3, blk 29 (0, 0) z29) :: (k4, blk 33 (0, 0) z33) :: LB))) := by
  refine KN.four (i := 2) (j := 5) (k := 7) (i' := 9) (by kernel_rfl) rfl rfl (show _ = (Ls 21 128343) by kernel_rfl) ?_ rfl rfl (show _ = (Ls 21 128371) by kernel_rfl) ?_ rfl rfl (show _ = (Ls 21 128467) by kernel_rfl) ?_ rfl rfl (show _ = (Ls 21 128851) by kernel_rfl) ?_
  · skip
    refine OW.buildSlice (us := bt Pb) (xs := [.const (.int .u8 1), .const (.int .u8 0), .const (.int .u8 0), .const (.int .u8 0), .const (.int .u8 0), .const (.int .u8 1), .const (.int .u8 255), .const (.int .u8 255), .const (.int .u8 255), .const (.int .u8 255), .const (.int .u8 255), .const (.int .u8 255), .const (.int .u8 255), .const (.int .u8 255), .const (.int .u8 255), .const (.int .u8 255), .const (.int .u8 255), .const (.int .u8 255), .const (.int .u8 255), .const (.int .u8 255), .const (.int .u8 208), .const (.int .u8 255), .const (.int .u8 255), .const (.int .u8 255), .const (.int .u8 255), .const (.int .u8 163)]) Tryz.runUnderlying23 Tryz.sizeOf5 Tryz.zeroValue5 rfl rfl rfl (by decide) rfl (fun bp => ?_) rfl rfl
    refine KN.on (fun _ => Sb.hw) ?_
    exact KS.mk fun a w hS => (secretOf6_2_4_6 hk7 hk1 hqn hnl hnb hF _ _ _ ).out a w ((hS.heap' (Pm.hw hS.mem)).keep ⟨rfl, rfl, rfl, rfl, rfl, rfl, rfl, rfl, rfl, rfl, rfl, rfl, rfl, rfl, rfl, rfl, rfl, rfl, trivial⟩)
  · skip
    refine OW.mark Tryz.runUnderlying23 Tryz.runUnderlying5 rfl .here rfl ?_
    refine KN.on (fun _ => Sb.hw) ?_
    exact KS.mk fun a w hS => (secretOf6_4_5_6 hk7 hk1 hqn hnl hnb hF _ _ ).out a w ((hS.heap' (Pm.hw hS.mem)).keep ⟨rfl, rfl, rfl, rfl, rfl, rfl, rfl, rfl, rfl, rfl, rfl, rfl, rfl, rfl, rfl, rfl, rfl, rfl, trivial⟩)
  · skip
    refine OW.mark Tryz.runUnderlying23 Tryz.runUnderlying5 rfl (.there .here) rfl ?_
    refine KN.on (fun _ => Sb.hw) ?_
    exact KS.mk fun a w hS => (secretOf6_4_6_7 hk7 hk1 hqn hnl hnb hF _ _ ).out a w ((hS.heap' (Pm.hw hS.mem)).keep ⟨rfl, rfl, rfl, rfl, rfl, rfl, rfl, rfl, rfl, rfl, rfl, rfl, rfl, rfl, rfl, rfl, rfl, rfl, trivial⟩)
  · skip
    refine OW.call (xs := [.tmp 26]) Tryz.call13 rfl (fun w hw => publicNumber_any w0 w _ _ _ _ qn.2.2 rfl (by omega) hqn.cap (hqn.rd.mono (fun _ h => (mS (mS (mS (mS h)))))) hnb hw) rfl ?_
    rintro r w' ⟨oy, rfl, hoy, hw'⟩
    refine ⟨_, _, rfl, hw', ?_⟩
    refine KN.on (fun _ => Sb.hw) ?_
    refine KN.quiet (i := 18) (ls1 := (Ls 21 390995)) secretOf6_sel (by kernel_rfl) (by kernel_rfl) (fun _ => Sb.hw) rfl (v_assign rfl) rfl ?_
    exact KS.mk fun a w hS => (secretOf6_4_6_9 hk7 hk1 hqn hnl hnb hF _ _ _ hoy).out a w ((hS.heap' (Pm.hw hS.mem)).keep ⟨rfl, rfl, rfl, rfl, rfl, rfl, rfl, rfl, rfl, rfl, rfl, rfl, rfl, rfl, rfl, rfl, rfl, rfl, rfl, trivial⟩)
theorem secretOf6_2_6 (bp : Nat) (bg : Nat)  :
    KS w0 36 (anyC w0 (LB) secretOf6_ops K 10 (Ls 21 128327)) [(34, .bool sub), (33, .pointer (some ⟨k1, 1, none⟩)), (32, .int .u32 (created : Int)), (31, .pointer (some ⟨k1, 2, none⟩)), (30, .int .i64 (ver : Int)), (28, slV qn), (26, slV qn), (24, .slice (some ⟨bg, 0, none⟩) (bt Gb).length (bt Gb).length), (20, .slice (some ⟨bp, 0, none⟩) (bt Pb).length (bt Pb).length), (19, .agg (keyC ver created kb).toArray), (18, slV qn), (1, .pointer (some ⟨k1, 0, none⟩)), (3, .pointer (some ⟨k3, 0, none⟩)), (4, .pointer (some ⟨k4, 0, none⟩)), (5, .int .i64 (ver : Int)), (6, slV qn), (7, .pointer (some ⟨k7, 0, none⟩))] ((bp, blk 5 (0, 0) (bt Pb)) :: ((bg, blk 5 (0, 0) (bt Gb)) :: ((k3, blk 29 (0, 0) z29) :: (k4, blk 33 (0, 0) z33) :: LB))) := by
  refine KN.four (i := 3) (j := 4) (k := 7) (i' := 9) (by kernel_rfl) rfl rfl (show _ = (Ls 21 128335) by kernel_rfl) ?_ rfl rfl (show _ = (Ls 21 128343) by kernel_rfl) ?_ rfl rfl (show _ = (Ls 21 128455) by kernel_rfl) ?_ rfl rfl (show _ = (Ls 21 128839) by kernel_rfl) ?_
  · skip
    refine OW.mark Tryz.runUnderlying23 Tryz.runUnderlying5 rfl .here rfl ?_
    refine KN.on (fun _ => Sb.hw) ?_
    exact KS.mk fun a w hS => (secretOf6_2_3_6 hk7 hk1 hqn hnl hnb hF _ _ ).out a w ((hS.heap' (Pm.hw hS.mem)).keep ⟨rfl, rfl, rfl, rfl, rfl, rfl, rfl, rfl, rfl, rfl, rfl, rfl, rfl, rfl, rfl, rfl, rfl, rfl, trivial⟩)
  · skip
    refine OW.buildSlice (us := bt Qb) (xs := [.const (.int .u8 255), .const (.int .u8 255), .const (.int .u8 255), .const (.int .u8 255), .const (.int .u8 255), .const (.int .u8 255), .const (.int .u8 255), .const (.int .u8 255), .const (.int .u8 255), .const (.int .u8 255), .const (.int .u8 255), .const (.int .u8 255), .const (.int .u8 255), .const (.int .u8 255), .const (.int .u8 255), .const (.int .u8 255), .const (.int .u8 255), .const (.int .u8 255), .const (.int .u8 255), .const (.int .u8 209)]) Tryz.runUnderlying23 Tryz.sizeOf5 Tryz.zeroValue5 rfl rfl rfl (by decide) rfl (fun bq => ?_) rfl rfl
    refine KN.on (fun _ => Sb.hw) ?_
    exact KS.mk fun a w hS => (secretOf6_2_4_6 hk7 hk1 hqn hnl hnb hF _ _ _ ).out a w ((hS.heap' (Pm.hw hS.mem)).keep ⟨rfl, rfl, rfl, rfl, rfl, rfl, rfl, rfl, rfl, rfl, rfl, rfl, rfl, rfl, rfl, rfl, rfl, rfl, trivial⟩)
  · skip
    refine OW.mark Tryz.runUnderlying23 Tryz.runUnderlying5 rfl (.there .here) rfl ?_
    refine KN.on (fun _ => Sb.hw) ?_
    exact KS.mk fun a w hS => (secretOf6_2_6_7 hk7 hk1 hqn hnl hnb hF _ _ ).out a w ((hS.heap' (Pm.hw hS.mem)).keep ⟨rfl, rfl, rfl, rfl, rfl, rfl, rfl, rfl, rfl, rfl, rfl, rfl, rfl, rfl, rfl, rfl, rfl, rfl, trivial⟩)
  · skip
    refine OW.call (xs := [.tmp 26]) Tryz.call13 rfl (fun w hw => publicNumber_any w0 w _ _ _ _ qn.2.2 rfl (by omega) hqn.cap (hqn.rd.mono (fun _ h => (mS (mS (mS (mS h)))))) hnb hw) rfl ?_
    rintro r w' ⟨oy, rfl, hoy, hw'⟩
    refine ⟨_, _, rfl, hw', ?_⟩
    refine KN.on (fun _ => Sb.hw) ?_
    refine KN.quiet (i := 18) (ls1 := (Ls 21 390983)) secretOf6_sel (by kernel_rfl) (by kernel_rfl) (fun _ => Sb.hw) rfl (v_assign rfl) rfl ?_
    exact KS.mk fun a w hS => (secretOf6_2_6_9 hk7 hk1 hqn hnl hnb hF _ _ _ hoy).out a w ((hS.heap' (Pm.hw hS.mem)).keep ⟨rfl, rfl, rfl, rfl, rfl, rfl, rfl, rfl, rfl, rfl, rfl, rfl, rfl, rfl, rfl, rfl, rfl, rfl, rfl, trivial⟩)
theorem secretOf6_4_5 (bq : Nat)  :
    KS w0 36 (anyC w0 (LB) secretOf6_ops K 10 (Ls 21 128307)) [(34, .bool sub), (33, .pointer (some ⟨k1, 1, none⟩)), (32, .int .u32 (created : Int)), (31, .pointer (some ⟨k1, 2, none⟩)), (30, .int .i64 (ver : Int)), (28, slV qn), (26, slV qn), (23, .slice (some ⟨bq, 0, none⟩) (bt Qb).length (bt Qb).length), (22, .slice (some ⟨bq, 0, none⟩) (bt Qb).length (bt Qb).length), (19, .agg (keyC ver created kb).toArray), (18, slV qn), (1, .pointer (some ⟨k1, 0, none⟩)), (3, .pointer (some ⟨k3, 0, none⟩)), (4, .pointer (some ⟨k4, 0, none⟩)), (5, .int .i64 (ver : Int)), (6, slV qn), (7, .pointer (some ⟨k7, 0, none⟩))] ((bq, blk 5 ((bt Qb).length, (bt Qb).length + 1) (bt Qb)) :: ((k3, blk 29 (0, 0) z29) :: (k4, blk 33 (0, 0) z33) :: LB)) := by
  refine KN.three (i := 2) (j := 6) (k := 9) (by kernel_rfl) rfl rfl (show _ = (Ls 21 128311) by kernel_rfl) ?_ rfl rfl (show _ = (Ls 21 128371) by kernel_rfl) ?_ rfl rfl (show _ = (Ls 21 128819) by kernel_rfl) ?_
  · skip
    refine OW.buildSlice (us := bt Pb) (xs := [.const (.int .u8 1), .const (.int .u8 0), .const (.int .u8 0), .const (.int .u8 0), .const (.int .u8 0), .const (.int .u8 1), .const (.int .u8 255), .const (.int .u8 255), .const (.int .u8 255), .const (.int .u8 255), .const (.int .u8 255), .const (.int .u8 255), .const (.int .u8 255), .const (.int .u8 255), .const (.int .u8 255), .const (.int .u8 255), .const (.int .u8 255), .const (.int .u8 255), .const (.int .u8 255), .const (.int .u8 255), .const (.int .u8 208), .const (.int .u8 255), .const (.int .u8 255), .const (.int .u8 255), .const (.int .u8 255), .const (.int .u8 163)]) Tryz.runUnderlying23 Tryz.sizeOf5 Tryz.zeroValue5 rfl rfl rfl (by decide) rfl (fun bp => ?_) rfl rfl
    refine KN.on (fun _ => Sb.hw) ?_
    exact KS.mk fun a w hS => (secretOf6_2_4_5 hk7 hk1 hqn hnl hnb hF _ _ ).out a w ((hS.heap' (Pm.hw hS.mem)).keep ⟨rfl, rfl, rfl, rfl, rfl, rfl, rfl, rfl, rfl, rfl, rfl, rfl, rfl, rfl, rfl, rfl, rfl, rfl, trivial⟩)
  · skip
    refine OW.buildSlice (us := bt Gb) (xs := [.const (.int .u8 131), .const (.int .u8 5), .const (.int .u8 225), .const (.int .u8 200), .const (.int .u8 246), .const (.int .u8 133), .const (.int .u8 197), .const (.int .u8 165), .const (.int .u8 35), .const (.int .u8 209), .const (.int .u8 150), .const (.int .u8 65), .const (.int .u8 151), .const (.int .u8 215), .const (.int .u8 129), .const (.int .u8 228), .const (.int .u8 148), .const (.int .u8 103), .const (.int .u8 50), .const (.int .u8 126), .const (.int .u8 57), .const (.int .u8 130), .const (.int .u8 47), .const (.int .u8 61), .const (.int .u8 39)]) Tryz.runUnderlying23 Tryz.sizeOf5 Tryz.zeroValue5 rfl rfl rfl (by decide) rfl (fun bg => ?_) rfl rfl
    refine KN.on (fun _ => Sb.hw) ?_
    exact KS.mk fun a w hS => (secretOf6_4_5_6 hk7 hk1 hqn hnl hnb hF _ _ ).out a w ((hS.heap' (Pm.hw hS.mem)).keep ⟨rfl, rfl, rfl, rfl, rfl, rfl, rfl, rfl, rfl, rfl, rfl, rfl, rfl, rfl, rfl, rfl, rfl, rfl, trivial⟩)
  · skip
    refine OW.call (xs := [.tmp 26]) Tryz.call13 rfl (fun w hw => publicNumber_any w0 w _ _ _ _ qn.2.2 rfl (by omega) hqn.cap (hqn.rd.mono (fun _ h => (mS (mS (mS h))))) hnb hw) rfl ?_
    rintro r w' ⟨oy, rfl, hoy, hw'⟩
    refine ⟨_, _, rfl, hw', ?_⟩
    refine KN.on (fun _ => Sb.hw) ?_
    refine KN.quiet (i := 18) (ls1 := (Ls 21 390963)) secretOf6_sel (by kernel_rfl) (by kernel_rfl) (fun _ => Sb.hw) rfl (v_assign rfl) rfl ?_
    exact KS.mk fun a w hS => (secretOf6_4_5_9 hk7 hk1 hqn hnl hnb hF _ _ hoy).out a w ((hS.heap' (Pm.hw hS.mem)).keep ⟨rfl, rfl, rfl, rfl, rfl, rfl, rfl, rfl, rfl, rfl, rfl, rfl, rfl, rfl, rfl, rfl, rfl, rfl, rfl, trivial⟩)
theorem secretOf6_2_4 (bp : Nat) (bq : Nat)  :
    KS w0 36 (anyC w0 (LB) secretOf6_ops K 10 (Ls 21 128279)) [(34, .bool sub), (33, .pointer (some ⟨k1, 1, none⟩)), (32, .int .u32 (created : Int)), (31, .pointer (some ⟨k1, 2, none⟩)), (30, .int .i64 (ver : Int)), (28, slV qn), (26, slV qn), (22, .slice (some ⟨bq, 0, none⟩) (bt Qb).length (bt Qb).length), (20, .slice (some ⟨bp, 0, none⟩) (bt Pb).length (bt Pb).length), (19, .agg (keyC ver created kb).toArray), (18, slV qn), (1, .pointer (some ⟨k1, 0, none⟩)), (3, .pointer (some ⟨k3, 0, none⟩)), (4, .pointer (some ⟨k4, 0, none⟩)), (5, .int .i64 (ver : Int)), (6, slV qn), (7, .pointer (some ⟨k7, 0, none⟩))] ((bp, blk 5 (0, 0) (bt Pb)) :: ((bq, blk 5 (0, 0) (bt Qb)) :: ((k3, blk 29 (0, 0) z29) :: (k4, blk 33 (0, 0) z33) :: LB))) := by
  refine KN.four (i := 3) (j := 5) (k := 6) (i' := 9) (by kernel_rfl) rfl rfl (show _ = (Ls 21 128287) by kernel_rfl) ?_ rfl rfl (show _ = (Ls 21 128311) by kernel_rfl) ?_ rfl rfl (show _ = (Ls 21 128343) by kernel_rfl) ?_ rfl rfl (show _ = (Ls 21 128791) by kernel_rfl) ?_
  · skip
    refine OW.mark Tryz.runUnderlying23 Tryz.runUnderlying5 rfl .here rfl ?_
    refine KN.on (fun _ => Sb.hw) ?_
    exact KS.mk fun a w hS => (secretOf6_2_3_4 hk7 hk1 hqn hnl hnb hF _ _ ).out a w ((hS.heap' (Pm.hw hS.mem)).keep ⟨rfl, rfl, rfl, rfl, rfl, rfl, rfl, rfl, rfl, rfl, rfl, rfl, rfl, rfl, rfl, rfl, rfl, rfl, trivial⟩)
  · skip
    refine OW.mark Tryz.runUnderlying23 Tryz.runUnderlying5 rfl (.there .here) rfl ?_
    refine KN.on (fun _ => Sb.hw) ?_
    exact KS.mk fun a w hS => (secretOf6_2_4_5 hk7 hk1 hqn hnl hnb hF _ _ ).out a w ((hS.heap' (Pm.hw hS.mem)).keep ⟨rfl, rfl, rfl, rfl, rfl, rfl, rfl, rfl, rfl, rfl, rfl, rfl, rfl, rfl, rfl, rfl, rfl, rfl, trivial⟩)
  · skip
    refine OW.buildSlice (us := bt Gb) (xs := [.const (.int .u8 131), .const (.int .u8 5), .const (.int .u8 225), .const (.int .u8 200), .const (.int .u8 246), .const (.int .u8 133), .const (.int .u8 197), .const (.int .u8 165), .const (.int .u8 35), .const (.int .u8 209), .const (.int .u8 150), .const (.int .u8 65), .const (.int .u8 151), .const (.int .u8 215), .const (.int .u8 129), .const (.int .u8 228), .const (.int .u8 148), .const (.int .u8 103), .const (.int .u8 50), .const (.int .u8 126), .const (.int .u8 57), .const (.int .u8 130), .const (.int .u8 47), .const (.int .u8 61), .const (.int .u8 39)]) Tryz.runUnderlying23 Tryz.sizeOf5 Tryz.zeroValue5 rfl rfl rfl (by decide) rfl (fun bg => ?_) rfl rfl
    refine KN.on (fun _ => Sb.hw) ?_
    exact KS.mk fun a w hS => (secretOf6_2_4_6 hk7 hk1 hqn hnl hnb hF _ _ _ ).out a w ((hS.heap' (Pm.hw hS.mem)).keep ⟨rfl, rfl, rfl, rfl, rfl, rfl, rfl, rfl, rfl, rfl, rfl, rfl, rfl, rfl, rfl, rfl, rfl, rfl, trivial⟩)
  · skip
    refine OW.call (xs := [.tmp 26]) Tryz.call13 rfl (fun w hw => publicNumber_any w0 w _ _ _ _ qn.2.2 rfl (by omega) hqn.cap (hqn.rd.mono (fun _ h => (mS (mS (mS (mS h)))))) hnb hw) rfl ?_
    rintro r w' ⟨oy, rfl, hoy, hw'⟩
    refine ⟨_, _, rfl, hw', ?_⟩
    refine KN.on (fun _ => Sb.hw) ?_
    refine KN.quiet (i := 18) (ls1 := (Ls 21 390935)) secretOf6_sel (by kernel_rfl) (by kernel_rfl) (fun _ => Sb.hw) rfl (v_assign rfl) rfl ?_
    exact KS.mk fun a w hS => (secretOf6_2_4_9 hk7 hk1 hqn hnl hnb hF _ _ _ hoy).out a w ((hS.heap' (Pm.hw hS.mem)).keep ⟨rfl, rfl, rfl, rfl, rfl, rfl, rfl, rfl, rfl, rfl, rfl, rfl, rfl, rfl, rfl, rfl, rfl, rfl, rfl, trivial⟩)
theorem secretOf6_2_3 (bp : Nat)  :
    KS w0 36 (anyC w0 (LB) secretOf6_ops K 10 (Ls 21 128271)) [(34, .bool sub), (33, .pointer (some ⟨k1, 1, none⟩)), (32, .int .u32 (created : Int)), (31, .pointer (some ⟨k1, 2, none⟩)), (30, .int .i64 (ver : Int)), (28, slV qn), (26, slV qn), (21, .slice (some ⟨bp, 0, none⟩) (bt Pb).length (bt Pb).length), (20, .slice (some ⟨bp, 0, none⟩) (bt Pb).length (bt Pb).length), (19, .agg (keyC ver created kb).toArray), (18, slV qn), (1, .pointer (some ⟨k1, 0, none⟩)), (3, .pointer (some ⟨k3, 0, none⟩)), (4, .pointer (some ⟨k4, 0, none⟩)), (5, .int .i64 (ver : Int)), (6, slV qn), (7, .pointer (some ⟨k7, 0, none⟩))] ((bp, blk 5 ((bt Pb).length, (bt Pb).length + 1) (bt Pb)) :: ((k3, blk 29 (0, 0) z29) :: (k4, blk 33 (0, 0) z33) :: LB)) := by
  refine KN.three (i := 4) (j := 6) (k := 9) (by kernel_rfl) rfl rfl (show _ = (Ls 21 128287) by kernel_rfl) ?_ rfl rfl (show _ = (Ls 21 128335) by kernel_rfl) ?_ rfl rfl (show _ = (Ls 21 128783) by kernel_rfl) ?_
  · skip
    refine OW.buildSlice (us := bt Qb) (xs := [.const (.int .u8 255), .const (.int .u8 255), .const (.int .u8 255), .const (.int .u8 255), .const (.int .u8 255), .const (.int .u8 255), .const (.int .u8 255), .const (.int .u8 255), .const (.int .u8 255), .const (.int .u8 255), .const (.int .u8 255), .const (.int .u8 255), .const (.int .u8 255), .const (.int .u8 255), .const (.int .u8 255), .const (.int .u8 255), .const (.int .u8 255), .const (.int .u8 255), .const (.int .u8 255), .const (.int .u8 209)]) Tryz.runUnderlying23 Tryz.sizeOf5 Tryz.zeroValue5 rfl rfl rfl (by decide) rfl (fun bq => ?_) rfl rfl
    refine KN.on (fun _ => Sb.hw) ?_
    exact KS.mk fun a w hS => (secretOf6_2_3_4 hk7 hk1 hqn hnl hnb hF _ _ ).out a w ((hS.heap' (Pm.hw hS.mem)).keep ⟨rfl, rfl, rfl, rfl, rfl, rfl, rfl, rfl, rfl, rfl, rfl, rfl, rfl, rfl, rfl, rfl, rfl, rfl, trivial⟩)
  · skip
    refine OW.buildSlice (us := bt Gb) (xs := [.const (.int .u8 131), .const (.int .u8 5), .const (.int .u8 225), .const (.int .u8 200), .const (.int .u8 246), .const (.int .u8 133), .const (.int .u8 197), .const (.int .u8 165), .const (.int .u8 35), .const (.int .u8 209), .const (.int .u8 150), .const (.int .u8 65), .const (.int .u8 151), .const (.int .u8 215), .const (.int .u8 129), .const (.int .u8 228), .const (.int .u8 148), .const (.int .u8 103), .const (.int .u8 50), .const (.int .u8 126), .const (.int .u8 57), .const (.int .u8 130), .const (.int .u8 47), .const (.int .u8 61), .const (.int .u8 39)]) Tryz.runUnderlying23 Tryz.sizeOf5 Tryz.zeroValue5 rfl rfl rfl (by decide) rfl (fun bg => ?_) rfl rfl
    refine KN.on (fun _ => Sb.hw) ?_
    exact KS.mk fun a w hS => (secretOf6_2_3_6 hk7 hk1 hqn hnl hnb hF _ _ ).out a w ((hS.heap' (Pm.hw hS.mem)).keep ⟨rfl, rfl, rfl, rfl, rfl, rfl, rfl, rfl, rfl, rfl, rfl, rfl, rfl, rfl, rfl, rfl, rfl, rfl, trivial⟩)
  · skip
    refine OW.call (xs := [.tmp 26]) Tryz.call13 rfl (fun w hw => publicNumber_any w0 w _ _ _ _ qn.2.2 rfl (by omega) hqn.cap (hqn.rd.mono (fun _ h => (mS (mS (mS h))))) hnb hw) rfl ?_
    rintro r w' ⟨oy, rfl, hoy, hw'⟩
    refine ⟨_, _, rfl, hw', ?_⟩
    refine KN.on (fun _ => Sb.hw) ?_
    refine KN.quiet (i := 18) (ls1 := (Ls 21 390927)) secretOf6_sel (by kernel_rfl) (by kernel_rfl) (fun _ => Sb.hw) rfl (v_assign rfl) rfl ?_
    exact KS.mk fun a w hS => (secretOf6_2_3_9 hk7 hk1 hqn hnl hnb hF _ _ hoy).out a w ((hS.heap' (Pm.hw hS.mem)).keep ⟨rfl, rfl, rfl, rfl, rfl, rfl, rfl, rfl, rfl, rfl, rfl, rfl, rfl, rfl, rfl, rfl, rfl, rfl, rfl, trivial⟩)
theorem secretOf6_6 (bg : Nat)  :
    KS w0 36 (anyC w0 (LB) secretOf6_ops K 11 (Ls 21 128323)) [(34, .bool sub), (33, .pointer (some ⟨k1, 1, none⟩)), (32, .int .u32 (created : Int)), (31, .pointer (some ⟨k1, 2, none⟩)), (30, .int .i64 (ver : Int)), (28, slV qn), (26, slV qn), (24, .slice (some ⟨bg, 0, none⟩) (bt Gb).length (bt Gb).length), (19, .agg (keyC ver created kb).toArray), (18, slV qn), (1, .pointer (some ⟨k1, 0, none⟩)), (3, .pointer (some ⟨k3, 0, none⟩)), (4, .pointer (some ⟨k4, 0, none⟩)), (5, .int .i64 (ver : Int)), (6, slV qn), (7, .pointer (some ⟨k7, 0, none⟩))] ((bg, blk 5 (0, 0) (bt Gb)) :: ((k3, blk 29 (0, 0) z29) :: (k4, blk 33 (0, 0) z33) :: LB)) := by
  refine KN.four (i := 2) (j := 4) (k := 7) (i' := 9) (by kernel_rfl) rfl rfl (show _ = (Ls 21 128327) by kernel_rfl) ?_ rfl rfl (show _ = (Ls 21 128339) by kernel_rfl) ?_ rfl rfl (show _ = (Ls 21 128451) by kernel_rfl) ?_ rfl rfl (show _ = (Ls 21 128835) by kernel_rfl) ?_
  · skip
    refine OW.buildSlice (us := bt Pb) (xs := [.const (.int .u8 1), .const (.int .u8 0), .const (.int .u8 0), .const (.int .u8 0), .const (.int .u8 0), .const (.int .u8 1), .const (.int .u8 255), .const (.int .u8 255), .const (.int .u8 255), .const (.int .u8 255), .const (.int .u8 255), .const (.int .u8 255), .const (.int .u8 255), .const (.int .u8 255), .const (.int .u8 255), .const (.int .u8 255), .const (.int .u8 255), .const (.int .u8 255), .const (.int .u8 255), .const (.int .u8 255), .const (.int .u8 208), .const (.int .u8 255), .const (.int .u8 255), .const (.int .u8 255), .const (.int .u8 255), .const (.int .u8 163)]) Tryz.runUnderlying23 Tryz.sizeOf5 Tryz.zeroValue5 rfl rfl rfl (by decide) rfl (fun bp => ?_) rfl rfl
    refine KN.on (fun _ => Sb.hw) ?_
    exact KS.mk fun a w hS => (secretOf6_2_6 hk7 hk1 hqn hnl hnb hF _ _ ).out a w ((hS.heap' (Pm.hw hS.mem)).keep ⟨rfl, rfl, rfl, rfl, rfl, rfl, rfl, rfl, rfl, rfl, rfl, rfl, rfl, rfl, rfl, rfl, rfl, trivial⟩)
  · skip
    refine OW.buildSlice (us := bt Qb) (xs := [.const (.int .u8 255), .const (.int .u8 255), .const (.int .u8 255), .const (.int .u8 255), .const (.int .u8 255), .const (.int .u8 255), .const (.int .u8 255), .const (.int .u8 255), .const (.int .u8 255), .const (.int .u8 255), .const (.int .u8 255), .const (.int .u8 255), .const (.int .u8 255), .const (.int .u8 255), .const (.int .u8 255), .const (.int .u8 255), .const (.int .u8 255), .const (.int .u8 255), .const (.int .u8 255), .const (.int .u8 209)]) Tryz.runUnderlying23 Tryz.sizeOf5 Tryz.zeroValue5 rfl rfl rfl (by decide) rfl (fun bq => ?_) rfl rfl
    refine KN.on (fun _ => Sb.hw) ?_
    exact KS.mk fun a w hS => (secretOf6_4_6 hk7 hk1 hqn hnl hnb hF _ _ ).out a w ((hS.heap' (Pm.hw hS.mem)).keep ⟨rfl, rfl, rfl, rfl, rfl, rfl, rfl, rfl, rfl, rfl, rfl, rfl, rfl, rfl, rfl, rfl, rfl, trivial⟩)
  · skip
    refine OW.mark Tryz.runUnderlying23 Tryz.runUnderlying5 rfl .here rfl ?_
    refine KN.on (fun _ => Sb.hw) ?_
    exact KS.mk fun a w hS => (secretOf6_6_7 hk7 hk1 hqn hnl hnb hF _ ).out a w ((hS.heap' (Pm.hw hS.mem)).keep ⟨rfl, rfl, rfl, rfl, rfl, rfl, rfl, rfl, rfl, rfl, rfl, rfl, rfl, rfl, rfl, rfl, rfl, trivial⟩)
  · skip
    refine OW.call (xs := [.tmp 26]) Tryz.call13 rfl (fun w hw => publicNumber_any w0 w _ _ _ _ qn.2.2 rfl (by omega) hqn.cap (hqn.rd.mono (fun _ h => (mS (mS (mS h))))) hnb hw) rfl ?_
    rintro r w' ⟨oy, rfl, hoy, hw'⟩
    refine ⟨_, _, rfl, hw', ?_⟩
    refine KN.on (fun _ => Sb.hw) ?_
    refine KN.quiet (i := 18) (ls1 := (Ls 21 390979)) secretOf6_sel (by kernel_rfl) (by kernel_rfl) (fun _ => Sb.hw) rfl (v_assign rfl) rfl ?_
    exact KS.mk fun a w hS => (secretOf6_6_9 hk7 hk1 hqn hnl hnb hF _ _ hoy).out a w ((hS.heap' (Pm.hw hS.mem)).keep ⟨rfl, rfl, rfl, rfl, rfl, rfl, rfl, rfl, rfl, rfl, rfl, rfl, rfl, rfl, rfl, rfl, rfl, rfl, trivial⟩)
theorem secretOf6_4 (bq : Nat)  :
    KS w0 36 (anyC w0 (LB) secretOf6_ops K 11 (Ls 21 128275)) [(34, .bool sub), (33, .pointer (some ⟨k1, 1, none⟩)), (32, .int .u32 (created : Int)), (31, .pointer (some ⟨k1, 2, none⟩)), (30, .int .i64 (ver : Int)), (28, slV qn), (26, slV qn), (22, .slice (some ⟨bq, 0, none⟩) (bt Qb).length (bt Qb).length), (19, .agg (keyC ver created kb).toArray), (18, slV qn), (1, .pointer (some ⟨k1, 0, none⟩)), (3, .pointer (some ⟨k3, 0, none⟩)), (4, .pointer (some ⟨k4, 0, none⟩)), (5, .int .i64 (ver : Int)), (6, slV qn), (7, .pointer (some ⟨k7, 0, none⟩))] ((bq, blk 5 (0, 0) (bt Qb)) :: ((k3, blk 29 (0, 0) z29) :: (k4, blk 33 (0, 0) z33) :: LB)) := by
  refine KN.four (i := 2) (j := 5) (k := 6) (i' := 9) (by kernel_rfl) rfl rfl (show _ = (Ls 21 128279) by kernel_rfl) ?_ rfl rfl (show _ = (Ls 21 128307) by kernel_rfl) ?_ rfl rfl (show _ = (Ls 21 128339) by kernel_rfl) ?_ rfl rfl (show _ = (Ls 21 128787) by kernel_rfl) ?_
  · skip
    refine OW.buildSlice (us := bt Pb) (xs := [.const (.int .u8 1), .const (.int .u8 0), .const (.int .u8 0), .const (.int .u8 0), .const (.int .u8 0), .const (.int .u8 1), .const (.int .u8 255), .const (.int .u8 255), .const (.int .u8 255), .const (.int .u8 255), .const (.int .u8 255), .const (.int .u8 255), .const (.int .u8 255), .const (.int .u8 255), .const (.int .u8 255), .const (.int .u8 255), .const (.int .u8 255), .const (.int .u8 255), .const (.int .u8 255), .const (.int .u8 255), .const (.int .u8 208), .const (.int .u8 255), .const (.int .u8 255), .const (.int .u8 255), .const (.int .u8 255), .const (.int .u8 163)]) Tryz.runUnderlying23 Tryz.sizeOf5 Tryz.zeroValue5 rfl rfl rfl (by decide) rfl (fun bp => ?_) rfl rfl
    refine KN.on (fun _ => Sb.hw) ?_
    exact KS.mk fun a w hS => (secretOf6_2_4 hk7 hk1 hqn hnl hnb hF _ _ ).out a w ((hS.heap' (Pm.hw hS.mem)).keep ⟨rfl, rfl, rfl, rfl, rfl, rfl, rfl, rfl, rfl, rfl, rfl, rfl, rfl, rfl, rfl, rfl, rfl, trivial⟩)
  · skip
    refine OW.mark Tryz.runUnderlying23 Tryz.runUnderlying5 rfl .here rfl ?_
    refine KN.on (fun _ => Sb.hw) ?_
    exact KS.mk fun a w hS => (secretOf6_4_5 hk7 hk1 hqn hnl hnb hF _ ).out a w ((hS.heap' (Pm.hw hS.mem)).keep ⟨rfl, rfl, rfl, rfl, rfl, rfl, rfl, rfl, rfl, rfl, rfl, rfl, rfl, rfl, rfl, rfl, rfl, trivial⟩)
  · skip
    refine OW.buildSlice (us := bt Gb) (xs := [.const (.int .u8 131), .const (.int .u8 5), .const (.int .u8 225), .const (.int .u8 200), .const (.int .u8 246), .const (.int .u8 133), .const (.int .u8 197), .const (.int .u8 165), .const (.int .u8 35), .const (.int .u8 209), .const (.int .u8 150), .const (.int .u8 65), .const (.int .u8 151), .const (.int .u8 215), .const (.int .u8 129), .const (.int .u8 228), .const (.int .u8 148), .const (.int .u8 103), .const (.int .u8 50), .const (.int .u8 126), .const (.int .u8 57), .const (.int .u8 130), .const (.int .u8 47), .const (.int .u8 61), .const (.int .u8 39)]) Tryz.runUnderlying23 Tryz.sizeOf5 Tryz.zeroValue5 rfl rfl rfl (by decide) rfl (fun bg => ?_) rfl rfl
    refine KN.on (fun _ => Sb.hw) ?_
    exact KS.mk fun a w hS => (secretOf6_4_6 hk7 hk1 hqn hnl hnb hF _ _ ).out a w ((hS.heap' (Pm.hw hS.mem)).keep ⟨rfl, rfl, rfl, rfl, rfl, rfl, rfl, rfl, rfl, rfl, rfl, rfl, rfl, rfl, rfl, rfl, rfl, trivial⟩)
  · skip
    refine OW.call (xs := [.tmp 26]) Tryz.call13 rfl (fun w hw => publicNumber_any w0 w _ _ _ _ qn.2.2 rfl (by omega) hqn.cap (hqn.rd.mono (fun _ h => (mS (mS (mS h))))) hnb hw) rfl ?_
    rintro r w' ⟨oy, rfl, hoy, hw'⟩
    refine ⟨_, _, rfl, hw', ?_⟩
    refine KN.on (fun _ => Sb.hw) ?_
    refine KN.quiet (i := 18) (ls1 := (Ls 21 390931)) secretOf6_sel (by kernel_rfl) (by kernel_rfl) (fun _ => Sb.hw) rfl (v_assign rfl) rfl ?_
    exact KS.mk fun a w hS => (secretOf6_4_9 hk7 hk1 hqn hnl hnb hF _ _ hoy).out a w ((hS.heap' (Pm.hw hS.mem)).keep ⟨rfl, rfl, rfl, rfl, rfl, rfl, rfl, rfl, rfl, rfl, rfl, rfl, rfl, rfl, rfl, rfl, rfl, rfl, trivial⟩)
theorem secretOf6_2 (bp : Nat)  :
    KS w0 36 (anyC w0 (LB) secretOf6_ops K 11 (Ls 21 128263)) [(34, .bool sub), (33, .pointer (some ⟨k1, 1, none⟩)), (32, .int .u32 (created : Int)), (31, .pointer (some ⟨k1, 2, none⟩)), (30, .int .i64 (ver : Int)), (28, slV qn), (26, slV qn), (20, .slice (some ⟨bp, 0, none⟩) (bt Pb).length (bt Pb).length), (19, .agg (keyC ver created kb).toArray), (18, slV qn), (1, .pointer (some ⟨k1, 0, none⟩)), (3, .pointer (some ⟨k3, 0, none⟩)), (4, .pointer (some ⟨k4, 0, none⟩)), (5, .int .i64 (ver : Int)), (6, slV qn), (7, .pointer (some ⟨k7, 0, none⟩))] ((bp, blk 5 (0, 0) (bt Pb)) :: ((k3, blk 29 (0, 0) z29) :: (k4, blk 33 (0, 0) z33) :: LB)) := by
  refine KN.four (i := 3) (j := 4) (k := 6) (i' := 9) (by kernel_rfl) rfl rfl (show _ = (Ls 21 128271) by kernel_rfl) ?_ rfl rfl (show _ = (Ls 21 128279) by kernel_rfl) ?_ rfl rfl (show _ = (Ls 21 128327) by kernel_rfl) ?_ rfl rfl (show _ = (Ls 21 128775) by kernel_rfl) ?_
  · skip
    refine OW.mark Tryz.runUnderlying23 Tryz.runUnderlying5 rfl .here rfl ?_
    refine KN.on (fun _ => Sb.hw) ?_
    exact KS.mk fun a w hS => (secretOf6_2_3 hk7 hk1 hqn hnl hnb hF _ ).out a w ((hS.heap' (Pm.hw hS.mem)).keep ⟨rfl, rfl, rfl, rfl, rfl, rfl, rfl, rfl, rfl, rfl, rfl, rfl, rfl, rfl, rfl, rfl, rfl, trivial⟩)
  · skip
    refine OW.buildSlice (us := bt Qb) (xs := [.const (.int .u8 255), .const (.int .u8 255), .const (.int .u8 255), .const (.int .u8 255), .const (.int .u8 255), .const (.int .u8 255), .const (.int .u8 255), .const (.int .u8 255), .const (.int .u8 255), .const (.int .u8 255), .const (.int .u8 255), .const (.int .u8 255), .const (.int .u8 255), .const (.int .u8 255), .const (.int .u8 255), .const (.int .u8 255), .const (.int .u8 255), .const (.int .u8 255), .const (.int .u8 255), .const (.int .u8 209)]) Tryz.runUnderlying23 Tryz.sizeOf5 Tryz.zeroValue5 rfl rfl rfl (by decide) rfl (fun bq => ?_) rfl rfl
    refine KN.on (fun _ => Sb.hw) ?_
    exact KS.mk fun a w hS => (secretOf6_2_4 hk7 hk1 hqn hnl hnb hF _ _ ).out a w ((hS.heap' (Pm.hw hS.mem)).keep ⟨rfl, rfl, rfl, rfl, rfl, rfl, rfl, rfl, rfl, rfl, rfl, rfl, rfl, rfl, rfl, rfl, rfl, trivial⟩)
  · skip
    refine OW.buildSlice (us := bt Gb) (xs := [.const (.int .u8 131), .const (.int .u8 5), .const (.int .u8 225), .const (.int .u8 200), .const (.int .u8 246), .const (.int .u8 133), .const (.int .u8 197), .const (.int .u8 165), .const (.int .u8 35), .const (.int .u8 209), .const (.int .u8 150), .const (.int .u8 65), .const (.int .u8 151), .const (.int .u8 215), .const (.int .u8 129), .const (.int .u8 228), .const (.int .u8 148), .const (.int .u8 103), .const (.int .u8 50), .const (.int .u8 126), .const (.int .u8 57), .const (.int .u8 130), .const (.int .u8 47), .const (.int .u8 61), .const (.int .u8 39)]) Tryz.runUnderlying23 Tryz.sizeOf5 Tryz.zeroValue5 rfl rfl rfl (by decide) rfl (fun bg => ?_) rfl rfl
    refine KN.on (fun _ => Sb.hw) ?_
    exact KS.mk fun a w hS => (secretOf6_2_6 hk7 hk1 hqn hnl hnb hF _ _ ).out a w ((hS.heap' (Pm.hw hS.mem)).keep ⟨rfl, rfl, rfl, rfl, rfl, rfl, rfl, rfl, rfl, rfl, rfl, rfl, rfl, rfl, rfl, rfl, rfl, trivial⟩)
  · skip
    refine OW.call (xs := [.tmp 26]) Tryz.call13 rfl (fun w hw => publicNumber_any w0 w _ _ _ _ qn.2.2 rfl (by omega) hqn.cap (hqn.rd.mono (fun _ h => (mS (mS (mS h))))) hnb hw) rfl ?_
    rintro r w' ⟨oy, rfl, hoy, hw'⟩
    refine ⟨_, _, rfl, hw', ?_⟩
    refine KN.on (fun _ => Sb.hw) ?_
    refine KN.quiet (i := 18) (ls1 := (Ls 21 390919)) secretOf6_sel (by kernel_rfl) (by kernel_rfl) (fun _ => Sb.hw) rfl (v_assign rfl) rfl ?_
    exact KS.mk fun a w hS => (secretOf6_2_9 hk7 hk1 hqn hnl hnb hF _ _ hoy).out a w ((hS.heap' (Pm.hw hS.mem)).keep ⟨rfl, rfl, rfl, rfl, rfl, rfl, rfl, rfl, rfl, rfl, rfl, rfl, rfl, rfl, rfl, rfl, rfl, rfl, trivial⟩)
theorem secretOf6_0   :
    KS w0 36 (anyC w0 (LB) secretOf6_ops K 12 (Ls 21 128259)) [(34, .bool sub), (33, .pointer (some ⟨k1, 1, none⟩)), (32, .int .u32 (created : Int)), (31, .pointer (some ⟨k1, 2, none⟩)), (30, .int .i64 (ver : Int)), (28, slV qn), (26, slV qn), (19, .agg (keyC ver created kb).toArray), (18, slV qn), (1, .pointer (some ⟨k1, 0, none⟩)), (3, .pointer (some ⟨k3, 0, none⟩)), (4, .pointer (some ⟨k4, 0, none⟩)), (5, .int .i64 (ver : Int)), (6, slV qn), (7, .pointer (some ⟨k7, 0, none⟩))] ((k3, blk 29 (0, 0) z29) :: (k4, blk 33 (0, 0) z33) :: LB) := by
  refine KN.four (i := 2) (j := 4) (k := 6) (i' := 9) (by kernel_rfl) rfl rfl (show _ = (Ls 21 128263) by kernel_rfl) ?_ rfl rfl (show _ = (Ls 21 128275) by kernel_rfl) ?_ rfl rfl (show _ = (Ls 21 128323) by kernel_rfl) ?_ rfl rfl (show _ = (Ls 21 128771) by kernel_rfl) ?_
  · skip
    refine OW.buildSlice (us := bt Pb) (xs := [.const (.int .u8 1), .const (.int .u8 0), .const (.int .u8 0), .const (.int .u8 0), .const (.int .u8 0), .const (.int .u8 1), .const (.int .u8 255), .const (.int .u8 255), .const (.int .u8 255), .const (.int .u8 255), .const (.int .u8 255), .const (.int .u8 255), .const (.int .u8 255), .const (.int .u8 255), .const (.int .u8 255), .const (.int .u8 255), .const (.int .u8 255), .const (.int .u8 255), .const (.int .u8 255), .const (.int .u8 255), .const (.int .u8 208), .const (.int .u8 255), .const (.int .u8 255), .const (.int .u8 255), .const (.int .u8 255), .const (.int .u8 163)]) Tryz.runUnderlying23 Tryz.sizeOf5 Tryz.zeroValue5 rfl rfl rfl (by decide) rfl (fun bp => ?_) rfl rfl
    refine KN.on (fun _ => Sb.hw) ?_
    exact KS.mk fun a w hS => (secretOf6_2 hk7 hk1 hqn hnl hnb hF _ ).out a w ((hS.heap' (Pm.hw hS.mem)).keep ⟨rfl, rfl, rfl, rfl, rfl, rfl, rfl, rfl, rfl, rfl, rfl, rfl, rfl, rfl, rfl, rfl, trivial⟩)
  · skip
    refine OW.buildSlice (us := bt Qb) (xs := [.const (.int .u8 255), .const (.int .u8 255), .const (.int .u8 255), .const (.int .u8 255), .const (.int .u8 255), .const (.int .u8 255), .const (.int .u8 255), .const (.int .u8 255), .const (.int .u8 255), .const (.int .u8 255), .const (.int .u8 255), .const (.int .u8 255), .const (.int .u8 255), .const (.int .u8 255), .const (.int .u8 255), .const (.int .u8 255), .const (.int .u8 255), .const (.int .u8 255), .const (.int .u8 255), .const (.int .u8 209)]) Tryz.runUnderlying23 Tryz.sizeOf5 Tryz.zeroValue5 rfl rfl rfl (by decide) rfl (fun bq => ?_) rfl rfl
    refine KN.on (fun _ => Sb.hw) ?_
    exact KS.mk fun a w hS => (secretOf6_4 hk7 hk1 hqn hnl hnb hF _ ).out a w ((hS.heap' (Pm.hw hS.mem)).keep ⟨rfl, rfl, rfl, rfl, rfl, rfl, rfl, rfl, rfl, rfl, rfl, rfl, rfl, rfl, rfl, rfl, trivial⟩)
  · skip
    refine OW.buildSlice (us := bt Gb) (xs := [.const (.int .u8 131), .const (.int .u8 5), .const (.int .u8 225), .const (.int .u8 200), .const (.int .u8 246), .const (.int .u8 133), .const (.int .u8 197), .const (.int .u8 165), .const (.int .u8 35), .const (.int .u8 209), .const (.int .u8 150), .const (.int .u8 65), .const (.int .u8 151), .const (.int .u8 215), .const (.int .u8 129), .const (.int .u8 228), .const (.int .u8 148), .const (.int .u8 103), .const (.int .u8 50), .const (.int .u8 126), .const (.int .u8 57), .const (.int .u8 130), .const (.int .u8 47), .const (.int .u8 61), .const (.int .u8 39)]) Tryz.runUnderlying23 Tryz.sizeOf5 Tryz.zeroValue5 rfl rfl rfl (by decide) rfl (fun bg => ?_) rfl rfl
    refine KN.on (fun _ => Sb.hw) ?_
    exact KS.mk fun a w hS => (secretOf6_6 hk7 hk1 hqn hnl hnb hF _ ).out a w ((hS.heap' (Pm.hw hS.mem)).keep ⟨rfl, rfl, rfl, rfl, rfl, rfl, rfl, rfl, rfl, rfl, rfl, rfl, rfl, rfl, rfl, rfl, trivial⟩)
  · skip
    refine OW.call (xs := [.tmp 26]) Tryz.call13 rfl (fun w hw => publicNumber_any w0 w _ _ _ _ qn.2.2 rfl (by omega) hqn.cap (hqn.rd.mono (fun _ h => (mS (mS h)))) hnb hw) rfl ?_
    rintro r w' ⟨oy, rfl, hoy, hw'⟩
    refine ⟨_, _, rfl, hw', ?_⟩
    refine KN.on (fun _ => Sb.hw) ?_
    refine KN.quiet (i := 18) (ls1 := (Ls 21 390915)) secretOf6_sel (by kernel_rfl) (by kernel_rfl) (fun _ => Sb.hw) rfl (v_assign rfl) rfl ?_
    exact KS.mk fun a w hS => (secretOf6_9 hk7 hk1 hqn hnl hnb hF _ hoy).out a w ((hS.heap' (Pm.hw hS.mem)).keep ⟨rfl, rfl, rfl, rfl, rfl, rfl, rfl, rfl, rfl, rfl, rfl, rfl, rfl, rfl, rfl, rfl, rfl, trivial⟩)
theorem secretOf6 :
    KS w0 36 (anyC w0 (LB) secretOf6_ops K secretOf6_ops.size (Array.replicate secretOf6_ops.size false)) [(1, .pointer (some ⟨k1, 0, none⟩)), (3, .pointer (some ⟨k3, 0, none⟩)), (4, .pointer (some ⟨k4, 0, none⟩)), (5, .int .i64 (ver : Int)), (6, slV qn), (7, .pointer (some ⟨k7, 0, none⟩))] ((k3, blk 29 (0, 0) z29) :: (k4, blk 33 (0, 0) z33) :: LB) := by
  show KS w0 36 (anyC w0 (LB) secretOf6_ops K 21 (Ls 21 0)) _ _
  refine KN.quiet (i := 0) (ls1 := (Ls 21 1)) secretOf6_sel (by kernel_rfl) (by kernel_rfl) (fun _ => Sb.hw) rfl (v_move rfl) rfl ?_
  refine KN.quiet (i := 1) (ls1 := (Ls 21 3)) secretOf6_sel (by kernel_rfl) (by kernel_rfl) (fun _ => Sb.hw) rfl (v_load_agg Tryz.isAgg29 Tryz.sizeOf29 rfl hk7 rfl (fun j v h => by rw [Nat.zero_add]; exact h)) rfl ?_
  refine KN.quiet (i := 8) (ls1 := (Ls 21 259)) secretOf6_sel (by kernel_rfl) (by kernel_rfl) (fun _ => Sb.hw) rfl (v_move rfl) rfl ?_
  refine KN.quiet (i := 10) (ls1 := (Ls 21 1283)) secretOf6_sel (by kernel_rfl) (by kernel_rfl) (fun _ => Sb.hw) rfl (v_move rfl) rfl ?_
  refine KN.quiet (i := 12) (ls1 := (Ls 21 5379)) secretOf6_sel (by kernel_rfl) (by kernel_rfl) (fun _ => Sb.hw) rfl (v_move rfl) rfl ?_
  refine KN.quiet (i := 13) (ls1 := (Ls 21 13571)) secretOf6_sel (by kernel_rfl) (by kernel_rfl) (fun _ => Sb.hw) rfl (v_field Tryz.runUnderlying25 rfl Tryz.sizeOf22 (by decide) rfl) rfl ?_
  refine KN.quiet (i := 14) (ls1 := (Ls 21 29955)) secretOf6_sel (by kernel_rfl) (by kernel_rfl) (fun _ => Sb.hw) rfl (v_load Tryz.isAgg22 rfl hk1 rfl) rfl ?_
  refine KN.quiet (i := 15) (ls1 := (Ls 21 62723)) secretOf6_sel (by kernel_rfl) (by kernel_rfl) (fun _ => Sb.hw) rfl (v_field Tryz.runUnderlying25 rfl Tryz.sizeOf4 (by decide) rfl) rfl ?_
  refine KN.quiet (i := 16) (ls1 := (Ls 21 128259)) secretOf6_sel (by kernel_rfl) (by kernel_rfl) (fun _ => Sb.hw) rfl (v_load Tryz.isAgg4 rfl hk1 rfl) rfl ?_
  exact KS.mk fun a w hS => (secretOf6_0 hk7 hk1 hqn hnl hnb hF  ).out a w ((hS.heap' (Pm.hw hS.mem)).keep ⟨rfl, rfl, rfl, rfl, rfl, rfl, rfl, rfl, rfl, rfl, rfl, rfl, rfl, rfl, rfl, trivial⟩)
end
end Go.Proofs.YtljoodllnaekbaaGreatDoor
