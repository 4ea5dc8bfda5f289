/- Part 9 of the proof. 'NewDSAPublicKey': the statement whose order Go leaves open. 'NewDSAPublicKey'. The cells of a private key. 'NewDSAPrivateKey'. 'impl.secret'. 'impl.PublicOf': the packet of the public key. 'laws.FnPublicOf' holds: it ends with true. No condition. -/
import Derived.Test.YtljoodllnaekbaaGreatDoorPart08
namespace Go.Proofs.YtljoodllnaekbaaGreatDoor
open Go

noncomputable def newPub1_ops : Array Oper := funcOps Tryz.f43 1
theorem newPub1_sel : Region.noSelect newPub1_ops = true := by kernel_rfl
section
variable {w0 : World} {LB : Heap} {k2 k3 kp kq kg ky created : Nat} {x : Value} {n : List Nat} (hk2 : (k2, blk 53 (0, 0) (tmC created)) ∈ LB) (hk3 : (k3, blk 111 (0, 0) (nmC kp kq kg ky x)) ∈ LB) (hN : Nums4 LB kp kq kg ky n) {K : Act → World → Prop}
variable (hF : ∀ (mp : Nat) (qp : Sl) (Bp : Heap) (mq : Nat) (qq : Sl) (Bq : Heap) (mg : Nat) (qg : Sl) (Bg : Heap) (my : Nat) (qy : Sl) (By : Heap) (k5 : Nat), qp.2.2 = sigL (Pb) → Lies Bp qp → qq.2.2 = sigL (Qb) → Lies Bq qq → qg.2.2 = sigL (Gb) → Lies Bg qg → qy.2.2 = sigL (pubN n) → Lies By qy → KS w0 45 K [(5, .pointer (some ⟨k5, 0, none⟩))] ((k5, blk 58 (0, 0) (pkC 4 created (.iface 104 (.pointer (some ⟨k3, 0, none⟩))) (.slice none 0 0) 0 false mp mq mg my [])) :: (Bp ++ ((mp, blk 134 (0, 0) [slV qp, .int .u16 (bitsN (Pb) : Int)]) :: (Bq ++ ((mq, blk 134 (0, 0) [slV qq, .int .u16 (bitsN (Qb) : Int)]) :: (Bg ++ ((mg, blk 134 (0, 0) [slV qg, .int .u16 (bitsN (Gb) : Int)]) :: (By ++ ((my, blk 134 (0, 0) [slV qy, .int .u16 (bitsN (pubN n) : Int)]) :: (LB)))))))))))
include hk2 hk3 hN hF
theorem newPub1_3_9_11_17_19_25_27_32_35 (mp : Nat) (qp : Sl) (Bp : Heap) (mq : Nat) (qq : Sl) (Bq : Heap) (mg : Nat) (qg : Sl) (Bg : Heap) (my : Nat) (qy : Sl) (By : Heap) (k5 : Nat) (hqp : qp.2.2 = sigL (Pb)) (hBp : Lies Bp qp) (hqq : qq.2.2 = sigL (Qb)) (hBq : Lies Bq qq) (hqg : qg.2.2 = sigL (Gb)) (hBg : Lies Bg qg) (hqy : qy.2.2 = sigL (pubN n)) (hBy : Lies By qy) :
    KS w0 45 (anyC w0 (LB) newPub1_ops K 0 (Ls 37 137438953471)) [(5, .pointer (some ⟨k5, 0, none⟩)), (41, .pointer (some ⟨k5, 0, none⟩)), (40, .agg (pkC 4 created (.iface 104 (.pointer (some ⟨k3, 0, none⟩))) (.slice none 0 0) 0 false mp mq mg my []).toArray), (39, .iface 132 (.pointer (some ⟨my, 0, none⟩))), (38, .pointer (some ⟨my, 0, none⟩)), (37, .pointer (some ⟨ky, 0, none⟩)), (36, .pointer (some ⟨k3, 3, none⟩)), (35, .pointer (some ⟨k3, 0, none⟩)), (34, .pointer (some ⟨k3, 0, none⟩)), (33, .pointer (some ⟨my, 0, none⟩)), (32, .iface 132 (.pointer (some ⟨mg, 0, none⟩))), (31, .pointer (some ⟨mg, 0, none⟩)), (30, .pointer (some ⟨kg, 0, none⟩)), (29, .pointer (some ⟨k3, 2, none⟩)), (28, .pointer (some ⟨k3, 0, none⟩)), (27, .pointer (some ⟨k3, 0, none⟩)), (26, .pointer (some ⟨k3, 0, none⟩)), (25, .pointer (some ⟨mg, 0, none⟩)), (24, .iface 132 (.pointer (some ⟨mq, 0, none⟩))), (23, .pointer (some ⟨mq, 0, none⟩)), (22, .pointer (some ⟨kq, 0, none⟩)), (21, .pointer (some ⟨k3, 1, none⟩)), (20, .pointer (some ⟨k3, 0, none⟩)), (19, .pointer (some ⟨k3, 0, none⟩)), (18, .pointer (some ⟨k3, 0, none⟩)), (17, .pointer (some ⟨mq, 0, none⟩)), (16, .iface 132 (.pointer (some ⟨mp, 0, none⟩))), (15, .pointer (some ⟨mp, 0, none⟩)), (14, .pointer (some ⟨kp, 0, none⟩)), (13, .pointer (some ⟨k3, 0, none⟩)), (12, .pointer (some ⟨k3, 0, none⟩)), (11, .pointer (some ⟨k3, 0, none⟩)), (10, .pointer (some ⟨k3, 0, none⟩)), (9, .pointer (some ⟨mp, 0, none⟩)), (8, .iface 104 (.pointer (some ⟨k3, 0, none⟩))), (7, .pointer (some ⟨k3, 0, none⟩)), (6, .agg (tmC created).toArray), (1, .pointer (some ⟨k3, 0, none⟩)), (2, .pointer (some ⟨k2, 0, none⟩))] ((k5, blk 58 (0, 0) (pkC 4 created (.iface 104 (.pointer (some ⟨k3, 0, none⟩))) (.slice none 0 0) 0 false mp mq mg my [])) :: (Bp ++ ((mp, blk 134 (0, 0) [slV qp, .int .u16 (bitsN (Pb) : Int)]) :: (Bq ++ ((mq, blk 134 (0, 0) [slV qq, .int .u16 (bitsN (Qb) : Int)]) :: (Bg ++ ((mg, blk 134 (0, 0) [slV qg, .int .u16 (bitsN (Gb) : Int)]) :: (By ++ ((my, blk 134 (0, 0) [slV qy, .int .u16 (bitsN (pubN n) : Int)]) :: (LB)))))))))) := by
  have _ := And.intro hk2 (And.intro hk3 hN)
  refine KN.done (by kernel_rfl) ?_
  exact KS.mk fun a w hS => (hF _ _ _ _ _ _ _ _ _ _ _ _ _ hqp hBp hqq hBq hqg hBg hqy hBy).out a w (hS.keep ⟨rfl, trivial⟩)
theorem newPub1_3_9_11_17_19_25_27_32 (mp : Nat) (qp : Sl) (Bp : Heap) (mq : Nat) (qq : Sl) (Bq : Heap) (mg : Nat) (qg : Sl) (Bg : Heap) (my : Nat) (qy : Sl) (By : Heap) (hqp : qp.2.2 = sigL (Pb)) (hBp : Lies Bp qp) (hqq : qq.2.2 = sigL (Qb)) (hBq : Lies Bq qq) (hqg : qg.2.2 = sigL (Gb)) (hBg : Lies Bg qg) (hqy : qy.2.2 = sigL (pubN n)) (hBy : Lies By qy) :
    KS w0 45 (anyC w0 (LB) newPub1_ops K 2 (Ls 37 34359738367)) [(40, .agg (pkC 4 created (.iface 104 (.pointer (some ⟨k3, 0, none⟩))) (.slice none 0 0) 0 false mp mq mg my []).toArray), (39, .iface 132 (.pointer (some ⟨my, 0, none⟩))), (38, .pointer (some ⟨my, 0, none⟩)), (37, .pointer (some ⟨ky, 0, none⟩)), (36, .pointer (some ⟨k3, 3, none⟩)), (35, .pointer (some ⟨k3, 0, none⟩)), (34, .pointer (some ⟨k3, 0, none⟩)), (33, .pointer (some ⟨my, 0, none⟩)), (32, .iface 132 (.pointer (some ⟨mg, 0, none⟩))), (31, .pointer (some ⟨mg, 0, none⟩)), (30, .pointer (some ⟨kg, 0, none⟩)), (29, .pointer (some ⟨k3, 2, none⟩)), (28, .pointer (some ⟨k3, 0, none⟩)), (27, .pointer (some ⟨k3, 0, none⟩)), (26, .pointer (some ⟨k3, 0, none⟩)), (25, .pointer (some ⟨mg, 0, none⟩)), (24, .iface 132 (.pointer (some ⟨mq, 0, none⟩))), (23, .pointer (some ⟨mq, 0, none⟩)), (22, .pointer (some ⟨kq, 0, none⟩)), (21, .pointer (some ⟨k3, 1, none⟩)), (20, .pointer (some ⟨k3, 0, none⟩)), (19, .pointer (some ⟨k3, 0, none⟩)), (18, .pointer (some ⟨k3, 0, none⟩)), (17, .pointer (some ⟨mq, 0, none⟩)), (16, .iface 132 (.pointer (some ⟨mp, 0, none⟩))), (15, .pointer (some ⟨mp, 0, none⟩)), (14, .pointer (some ⟨kp, 0, none⟩)), (13, .pointer (some ⟨k3, 0, none⟩)), (12, .pointer (some ⟨k3, 0, none⟩)), (11, .pointer (some ⟨k3, 0, none⟩)), (10, .pointer (some ⟨k3, 0, none⟩)), (9, .pointer (some ⟨mp, 0, none⟩)), (8, .iface 104 (.pointer (some ⟨k3, 0, none⟩))), (7, .pointer (some ⟨k3, 0, none⟩)), (6, .agg (tmC created).toArray), (1, .pointer (some ⟨k3, 0, none⟩)), (2, .pointer (some ⟨k2, 0, none⟩))] (Bp ++ ((mp, blk 134 (0, 0) [slV qp, .int .u16 (bitsN (Pb) : Int)]) :: (Bq ++ ((mq, blk 134 (0, 0) [slV qq, .int .u16 (bitsN (Qb) : Int)]) :: (Bg ++ ((mg, blk 134 (0, 0) [slV qg, .int .u16 (bitsN (Gb) : Int)]) :: (By ++ ((my, blk 134 (0, 0) [slV qy, .int .u16 (bitsN (pubN n) : Int)]) :: (LB))))))))) := by
  refine KN.one (i := 35) (by kernel_rfl) rfl rfl (show _ = (Ls 37 68719476735) by kernel_rfl) ?_
  · skip
    refine OW.box (us := pkC 4 created (.iface 104 (.pointer (some ⟨k3, 0, none⟩))) (.slice none 0 0) 0 false mp mq mg my []) rfl rfl rfl (fun k5 => ?_)
    refine KN.on (fun _ => Sb.hw) ?_
    refine KN.quiet (i := 36) (ls1 := (Ls 37 137438953471)) newPub1_sel (by kernel_rfl) (by kernel_rfl) (fun _ => Sb.hw) rfl (v_assign rfl) rfl ?_
    exact KS.mk fun a w hS => (newPub1_3_9_11_17_19_25_27_32_35 hk2 hk3 hN hF _ _ _ _ _ _ _ _ _ _ _ _ _ hqp hBp hqq hBq hqg hBg hqy hBy).out a w ((hS.heap' (Pm.hw hS.mem)).keep ⟨rfl, rfl, rfl, rfl, rfl, rfl, rfl, rfl, rfl, rfl, rfl, rfl, rfl, rfl, rfl, rfl, rfl, rfl, rfl, rfl, rfl, rfl, rfl, rfl, rfl, rfl, rfl, rfl, rfl, rfl, rfl, rfl, rfl, rfl, rfl, rfl, rfl, rfl, rfl, trivial⟩)
theorem newPub1_3_9_11_17_19_25_27 (mp : Nat) (qp : Sl) (Bp : Heap) (mq : Nat) (qq : Sl) (Bq : Heap) (mg : Nat) (qg : Sl) (Bg : Heap) (my : Nat) (hqp : qp.2.2 = sigL (Pb)) (hBp : Lies Bp qp) (hqq : qq.2.2 = sigL (Qb)) (hBq : Lies Bq qq) (hqg : qg.2.2 = sigL (Gb)) (hBg : Lies Bg qg) :
    KS w0 45 (anyC w0 (LB) newPub1_ops K 5 (Ls 37 4294967295)) [(37, .pointer (some ⟨ky, 0, none⟩)), (36, .pointer (some ⟨k3, 3, none⟩)), (35, .pointer (some ⟨k3, 0, none⟩)), (34, .pointer (some ⟨k3, 0, none⟩)), (33, .pointer (some ⟨my, 0, none⟩)), (32, .iface 132 (.pointer (some ⟨mg, 0, none⟩))), (31, .pointer (some ⟨mg, 0, none⟩)), (30, .pointer (some ⟨kg, 0, none⟩)), (29, .pointer (some ⟨k3, 2, none⟩)), (28, .pointer (some ⟨k3, 0, none⟩)), (27, .pointer (some ⟨k3, 0, none⟩)), (26, .pointer (some ⟨k3, 0, none⟩)), (25, .pointer (some ⟨mg, 0, none⟩)), (24, .iface 132 (.pointer (some ⟨mq, 0, none⟩))), (23, .pointer (some ⟨mq, 0, none⟩)), (22, .pointer (some ⟨kq, 0, none⟩)), (21, .pointer (some ⟨k3, 1, none⟩)), (20, .pointer (some ⟨k3, 0, none⟩)), (19, .pointer (some ⟨k3, 0, none⟩)), (18, .pointer (some ⟨k3, 0, none⟩)), (17, .pointer (some ⟨mq, 0, none⟩)), (16, .iface 132 (.pointer (some ⟨mp, 0, none⟩))), (15, .pointer (some ⟨mp, 0, none⟩)), (14, .pointer (some ⟨kp, 0, none⟩)), (13, .pointer (some ⟨k3, 0, none⟩)), (12, .pointer (some ⟨k3, 0, none⟩)), (11, .pointer (some ⟨k3, 0, none⟩)), (10, .pointer (some ⟨k3, 0, none⟩)), (9, .pointer (some ⟨mp, 0, none⟩)), (8, .iface 104 (.pointer (some ⟨k3, 0, none⟩))), (7, .pointer (some ⟨k3, 0, none⟩)), (6, .agg (tmC created).toArray), (1, .pointer (some ⟨k3, 0, none⟩)), (2, .pointer (some ⟨k2, 0, none⟩))] (Bp ++ ((mp, blk 134 (0, 0) [slV qp, .int .u16 (bitsN (Pb) : Int)]) :: (Bq ++ ((mq, blk 134 (0, 0) [slV qq, .int .u16 (bitsN (Qb) : Int)]) :: (Bg ++ ((mg, blk 134 (0, 0) [slV qg, .int .u16 (bitsN (Gb) : Int)]) :: ((my, blk 134 (0, 0) [.slice none 0 0, .int .u16 0]) :: (LB)))))))) := by
  refine KN.one (i := 32) (by kernel_rfl) rfl rfl (show _ = (Ls 37 8589934591) by kernel_rfl) ?_
  · skip
    refine OW.call (xs := [.tmp 33, .tmp 37]) Tryz.call51 rfl (fun w hw => setBig_any w0 w _ my ky (pubN n) (by exact hN.y.mono (fun x hx => by simp [hx])) (pubN_byte n) (by have := pubN_length n; omega) (HW.take hw)) rfl ?_
    rintro r w' ⟨qy, By, rfl, hqy, hBy, hw'⟩
    refine ⟨_, _, rfl, hw', ?_⟩
    refine KN.on (fun _ => Sb.hw) ?_
    refine KN.quiet (i := 33) (ls1 := (Ls 37 17179869183)) newPub1_sel (by kernel_rfl) (by kernel_rfl) (fun _ => Sb.hw) rfl (v_iface Tryz.runUnderlying132 rfl rfl) rfl ?_
    refine KN.quiet (i := 34) (ls1 := (Ls 37 34359738367)) newPub1_sel (by kernel_rfl) (by kernel_rfl) (fun _ => Sb.hw) rfl (v_build (is := [0, 1, 2, 3, 9, 10, 11, 12]) (xs := [.const (.int .i64 4), .tmp 6, .const (.int .u8 17), .tmp 8, .tmp 16, .tmp 24, .tmp 32, .tmp 39]) rfl rfl rfl build58) rfl ?_
    exact KS.mk fun a w hS => (newPub1_3_9_11_17_19_25_27_32 hk2 hk3 hN hF _ _ _ _ _ _ _ _ _ _ _ _ hqp hBp hqq hBq hqg hBg hqy hBy).out a w ((hS.heap' (Pm.hw hS.mem)).keep ⟨rfl, rfl, rfl, rfl, rfl, rfl, rfl, rfl, rfl, rfl, rfl, rfl, rfl, rfl, rfl, rfl, rfl, rfl, rfl, rfl, rfl, rfl, rfl, rfl, rfl, rfl, rfl, rfl, rfl, rfl, rfl, rfl, rfl, rfl, rfl, rfl, rfl, trivial⟩)
theorem newPub1_3_9_11_17_19_25 (mp : Nat) (qp : Sl) (Bp : Heap) (mq : Nat) (qq : Sl) (Bq : Heap) (mg : Nat) (qg : Sl) (Bg : Heap) (hqp : qp.2.2 = sigL (Pb)) (hBp : Lies Bp qp) (hqq : qq.2.2 = sigL (Qb)) (hBq : Lies Bq qq) (hqg : qg.2.2 = sigL (Gb)) (hBg : Lies Bg qg) :
    KS w0 45 (anyC w0 (LB) newPub1_ops K 6 (Ls 37 4160749567)) [(37, .pointer (some ⟨ky, 0, none⟩)), (36, .pointer (some ⟨k3, 3, none⟩)), (35, .pointer (some ⟨k3, 0, none⟩)), (34, .pointer (some ⟨k3, 0, none⟩)), (32, .iface 132 (.pointer (some ⟨mg, 0, none⟩))), (31, .pointer (some ⟨mg, 0, none⟩)), (30, .pointer (some ⟨kg, 0, none⟩)), (29, .pointer (some ⟨k3, 2, none⟩)), (28, .pointer (some ⟨k3, 0, none⟩)), (27, .pointer (some ⟨k3, 0, none⟩)), (26, .pointer (some ⟨k3, 0, none⟩)), (25, .pointer (some ⟨mg, 0, none⟩)), (24, .iface 132 (.pointer (some ⟨mq, 0, none⟩))), (23, .pointer (some ⟨mq, 0, none⟩)), (22, .pointer (some ⟨kq, 0, none⟩)), (21, .pointer (some ⟨k3, 1, none⟩)), (20, .pointer (some ⟨k3, 0, none⟩)), (19, .pointer (some ⟨k3, 0, none⟩)), (18, .pointer (some ⟨k3, 0, none⟩)), (17, .pointer (some ⟨mq, 0, none⟩)), (16, .iface 132 (.pointer (some ⟨mp, 0, none⟩))), (15, .pointer (some ⟨mp, 0, none⟩)), (14, .pointer (some ⟨kp, 0, none⟩)), (13, .pointer (some ⟨k3, 0, none⟩)), (12, .pointer (some ⟨k3, 0, none⟩)), (11, .pointer (some ⟨k3, 0, none⟩)), (10, .pointer (some ⟨k3, 0, none⟩)), (9, .pointer (some ⟨mp, 0, none⟩)), (8, .iface 104 (.pointer (some ⟨k3, 0, none⟩))), (7, .pointer (some ⟨k3, 0, none⟩)), (6, .agg (tmC created).toArray), (1, .pointer (some ⟨k3, 0, none⟩)), (2, .pointer (some ⟨k2, 0, none⟩))] (Bp ++ ((mp, blk 134 (0, 0) [slV qp, .int .u16 (bitsN (Pb) : Int)]) :: (Bq ++ ((mq, blk 134 (0, 0) [slV qq, .int .u16 (bitsN (Qb) : Int)]) :: (Bg ++ ((mg, blk 134 (0, 0) [slV qg, .int .u16 (bitsN (Gb) : Int)]) :: (LB))))))) := by
  refine KN.one (i := 27) (by kernel_rfl) rfl rfl (show _ = (Ls 37 4294967295) by kernel_rfl) ?_
  · skip
    refine OW.allocC (vs := [.slice none 0 0, .int .u16 0]) Tryz.zeroValue134 rfl rfl (fun my => ?_)
    refine KN.on (fun _ => Sb.hw) ?_
    exact KS.mk fun a w hS => (newPub1_3_9_11_17_19_25_27 hk2 hk3 hN hF _ _ _ _ _ _ _ _ _ _ hqp hBp hqq hBq hqg hBg).out a w ((hS.heap' (Pm.hw hS.mem)).keep ⟨rfl, rfl, rfl, rfl, rfl, rfl, rfl, rfl, rfl, rfl, rfl, rfl, rfl, rfl, rfl, rfl, rfl, rfl, rfl, rfl, rfl, rfl, rfl, rfl, rfl, rfl, rfl, rfl, rfl, rfl, rfl, rfl, rfl, rfl, trivial⟩)
theorem newPub1_3_9_11_17_19_27 (mp : Nat) (qp : Sl) (Bp : Heap) (mq : Nat) (qq : Sl) (Bq : Heap) (mg : Nat) (my : Nat) (hqp : qp.2.2 = sigL (Pb)) (hBp : Lies Bp qp) (hqq : qq.2.2 = sigL (Qb)) (hBq : Lies Bq qq) :
    KS w0 45 (anyC w0 (LB) newPub1_ops K 7 (Ls 37 4194303999)) [(37, .pointer (some ⟨ky, 0, none⟩)), (36, .pointer (some ⟨k3, 3, none⟩)), (35, .pointer (some ⟨k3, 0, none⟩)), (34, .pointer (some ⟨k3, 0, none⟩)), (33, .pointer (some ⟨my, 0, none⟩)), (30, .pointer (some ⟨kg, 0, none⟩)), (29, .pointer (some ⟨k3, 2, none⟩)), (28, .pointer (some ⟨k3, 0, none⟩)), (27, .pointer (some ⟨k3, 0, none⟩)), (26, .pointer (some ⟨k3, 0, none⟩)), (25, .pointer (some ⟨mg, 0, none⟩)), (24, .iface 132 (.pointer (some ⟨mq, 0, none⟩))), (23, .pointer (some ⟨mq, 0, none⟩)), (22, .pointer (some ⟨kq, 0, none⟩)), (21, .pointer (some ⟨k3, 1, none⟩)), (20, .pointer (some ⟨k3, 0, none⟩)), (19, .pointer (some ⟨k3, 0, none⟩)), (18, .pointer (some ⟨k3, 0, none⟩)), (17, .pointer (some ⟨mq, 0, none⟩)), (16, .iface 132 (.pointer (some ⟨mp, 0, none⟩))), (15, .pointer (some ⟨mp, 0, none⟩)), (14, .pointer (some ⟨kp, 0, none⟩)), (13, .pointer (some ⟨k3, 0, none⟩)), (12, .pointer (some ⟨k3, 0, none⟩)), (11, .pointer (some ⟨k3, 0, none⟩)), (10, .pointer (some ⟨k3, 0, none⟩)), (9, .pointer (some ⟨mp, 0, none⟩)), (8, .iface 104 (.pointer (some ⟨k3, 0, none⟩))), (7, .pointer (some ⟨k3, 0, none⟩)), (6, .agg (tmC created).toArray), (1, .pointer (some ⟨k3, 0, none⟩)), (2, .pointer (some ⟨k2, 0, none⟩))] (Bp ++ ((mp, blk 134 (0, 0) [slV qp, .int .u16 (bitsN (Pb) : Int)]) :: (Bq ++ ((mq, blk 134 (0, 0) [slV qq, .int .u16 (bitsN (Qb) : Int)]) :: ((mg, blk 134 (0, 0) [.slice none 0 0, .int .u16 0]) :: ((my, blk 134 (0, 0) [.slice none 0 0, .int .u16 0]) :: (LB))))))) := by
  refine KN.one (i := 25) (by kernel_rfl) rfl rfl (show _ = (Ls 37 4227858431) by kernel_rfl) ?_
  · skip
    refine OW.call (xs := [.tmp 25, .tmp 30]) Tryz.call51 rfl (fun w hw => setBig_any w0 w _ mg kg (Gb) (by exact hN.g.mono (fun x hx => by simp [hx])) (by decide) (by decide) (HW.take hw)) rfl ?_
    rintro r w' ⟨qg, Bg, rfl, hqg, hBg, hw'⟩
    refine ⟨_, _, rfl, hw', ?_⟩
    refine KN.on (fun _ => Sb.hw) ?_
    refine KN.quiet (i := 26) (ls1 := (Ls 37 4294967295)) newPub1_sel (by kernel_rfl) (by kernel_rfl) (fun _ => Sb.hw) rfl (v_iface Tryz.runUnderlying132 rfl rfl) rfl ?_
    exact KS.mk fun a w hS => (newPub1_3_9_11_17_19_25_27 hk2 hk3 hN hF _ _ _ _ _ _ _ _ _ _ hqp hBp hqq hBq hqg hBg).out a w ((hS.heap' (Pm.hw hS.mem)).keep ⟨rfl, rfl, rfl, rfl, rfl, rfl, rfl, rfl, rfl, rfl, rfl, rfl, rfl, rfl, rfl, rfl, rfl, rfl, rfl, rfl, rfl, rfl, rfl, rfl, rfl, rfl, rfl, rfl, rfl, rfl, rfl, rfl, rfl, rfl, trivial⟩)
theorem newPub1_3_9_11_17_27 (mp : Nat) (qp : Sl) (Bp : Heap) (mq : Nat) (qq : Sl) (Bq : Heap) (my : Nat) (hqp : qp.2.2 = sigL (Pb)) (hBp : Lies Bp qp) (hqq : qq.2.2 = sigL (Qb)) (hBq : Lies Bq qq) :
    KS w0 45 (anyC w0 (LB) newPub1_ops K 8 (Ls 37 4193779711)) [(37, .pointer (some ⟨ky, 0, none⟩)), (36, .pointer (some ⟨k3, 3, none⟩)), (35, .pointer (some ⟨k3, 0, none⟩)), (34, .pointer (some ⟨k3, 0, none⟩)), (33, .pointer (some ⟨my, 0, none⟩)), (30, .pointer (some ⟨kg, 0, none⟩)), (29, .pointer (some ⟨k3, 2, none⟩)), (28, .pointer (some ⟨k3, 0, none⟩)), (27, .pointer (some ⟨k3, 0, none⟩)), (26, .pointer (some ⟨k3, 0, none⟩)), (24, .iface 132 (.pointer (some ⟨mq, 0, none⟩))), (23, .pointer (some ⟨mq, 0, none⟩)), (22, .pointer (some ⟨kq, 0, none⟩)), (21, .pointer (some ⟨k3, 1, none⟩)), (20, .pointer (some ⟨k3, 0, none⟩)), (19, .pointer (some ⟨k3, 0, none⟩)), (18, .pointer (some ⟨k3, 0, none⟩)), (17, .pointer (some ⟨mq, 0, none⟩)), (16, .iface 132 (.pointer (some ⟨mp, 0, none⟩))), (15, .pointer (some ⟨mp, 0, none⟩)), (14, .pointer (some ⟨kp, 0, none⟩)), (13, .pointer (some ⟨k3, 0, none⟩)), (12, .pointer (some ⟨k3, 0, none⟩)), (11, .pointer (some ⟨k3, 0, none⟩)), (10, .pointer (some ⟨k3, 0, none⟩)), (9, .pointer (some ⟨mp, 0, none⟩)), (8, .iface 104 (.pointer (some ⟨k3, 0, none⟩))), (7, .pointer (some ⟨k3, 0, none⟩)), (6, .agg (tmC created).toArray), (1, .pointer (some ⟨k3, 0, none⟩)), (2, .pointer (some ⟨k2, 0, none⟩))] (Bp ++ ((mp, blk 134 (0, 0) [slV qp, .int .u16 (bitsN (Pb) : Int)]) :: (Bq ++ ((mq, blk 134 (0, 0) [slV qq, .int .u16 (bitsN (Qb) : Int)]) :: ((my, blk 134 (0, 0) [.slice none 0 0, .int .u16 0]) :: (LB)))))) := by
  refine KN.one (i := 19) (by kernel_rfl) rfl rfl (show _ = (Ls 37 4194303999) by kernel_rfl) ?_
  · skip
    refine OW.allocC (vs := [.slice none 0 0, .int .u16 0]) Tryz.zeroValue134 rfl rfl (fun mg => ?_)
    refine KN.on (fun _ => Sb.hw) ?_
    exact KS.mk fun a w hS => (newPub1_3_9_11_17_19_27 hk2 hk3 hN hF _ _ _ _ _ _ _ _ hqp hBp hqq hBq).out a w ((hS.heap' (Pm.hw hS.mem)).keep ⟨rfl, rfl, rfl, rfl, rfl, rfl, rfl, rfl, rfl, rfl, rfl, rfl, rfl, rfl, rfl, rfl, rfl, rfl, rfl, rfl, rfl, rfl, rfl, rfl, rfl, rfl, rfl, rfl, rfl, rfl, rfl, rfl, trivial⟩)
theorem newPub1_3_9_11_17_19 (mp : Nat) (qp : Sl) (Bp : Heap) (mq : Nat) (qq : Sl) (Bq : Heap) (mg : Nat) (hqp : qp.2.2 = sigL (Pb)) (hBp : Lies Bp qp) (hqq : qq.2.2 = sigL (Qb)) (hBq : Lies Bq qq) :
    KS w0 45 (anyC w0 (LB) newPub1_ops K 8 (Ls 37 4060086271)) [(37, .pointer (some ⟨ky, 0, none⟩)), (36, .pointer (some ⟨k3, 3, none⟩)), (35, .pointer (some ⟨k3, 0, none⟩)), (34, .pointer (some ⟨k3, 0, none⟩)), (30, .pointer (some ⟨kg, 0, none⟩)), (29, .pointer (some ⟨k3, 2, none⟩)), (28, .pointer (some ⟨k3, 0, none⟩)), (27, .pointer (some ⟨k3, 0, none⟩)), (26, .pointer (some ⟨k3, 0, none⟩)), (25, .pointer (some ⟨mg, 0, none⟩)), (24, .iface 132 (.pointer (some ⟨mq, 0, none⟩))), (23, .pointer (some ⟨mq, 0, none⟩)), (22, .pointer (some ⟨kq, 0, none⟩)), (21, .pointer (some ⟨k3, 1, none⟩)), (20, .pointer (some ⟨k3, 0, none⟩)), (19, .pointer (some ⟨k3, 0, none⟩)), (18, .pointer (some ⟨k3, 0, none⟩)), (17, .pointer (some ⟨mq, 0, none⟩)), (16, .iface 132 (.pointer (some ⟨mp, 0, none⟩))), (15, .pointer (some ⟨mp, 0, none⟩)), (14, .pointer (some ⟨kp, 0, none⟩)), (13, .pointer (some ⟨k3, 0, none⟩)), (12, .pointer (some ⟨k3, 0, none⟩)), (11, .pointer (some ⟨k3, 0, none⟩)), (10, .pointer (some ⟨k3, 0, none⟩)), (9, .pointer (some ⟨mp, 0, none⟩)), (8, .iface 104 (.pointer (some ⟨k3, 0, none⟩))), (7, .pointer (some ⟨k3, 0, none⟩)), (6, .agg (tmC created).toArray), (1, .pointer (some ⟨k3, 0, none⟩)), (2, .pointer (some ⟨k2, 0, none⟩))] (Bp ++ ((mp, blk 134 (0, 0) [slV qp, .int .u16 (bitsN (Pb) : Int)]) :: (Bq ++ ((mq, blk 134 (0, 0) [slV qq, .int .u16 (bitsN (Qb) : Int)]) :: ((mg, blk 134 (0, 0) [.slice none 0 0, .int .u16 0]) :: (LB)))))) := by
  refine KN.two (i := 25) (j := 27) (by kernel_rfl) rfl rfl (show _ = (Ls 37 4093640703) by kernel_rfl) ?_ rfl rfl (show _ = (Ls 37 4194303999) by kernel_rfl) ?_
  · skip
    refine OW.call (xs := [.tmp 25, .tmp 30]) Tryz.call51 rfl (fun w hw => setBig_any w0 w _ mg kg (Gb) (by exact hN.g.mono (fun x hx => by simp [hx])) (by decide) (by decide) (HW.take hw)) rfl ?_
    rintro r w' ⟨qg, Bg, rfl, hqg, hBg, hw'⟩
    refine ⟨_, _, rfl, hw', ?_⟩
    refine KN.on (fun _ => Sb.hw) ?_
    refine KN.quiet (i := 26) (ls1 := (Ls 37 4160749567)) newPub1_sel (by kernel_rfl) (by kernel_rfl) (fun _ => Sb.hw) rfl (v_iface Tryz.runUnderlying132 rfl rfl) rfl ?_
    exact KS.mk fun a w hS => (newPub1_3_9_11_17_19_25 hk2 hk3 hN hF _ _ _ _ _ _ _ _ _ hqp hBp hqq hBq hqg hBg).out a w ((hS.heap' (Pm.hw hS.mem)).keep ⟨rfl, rfl, rfl, rfl, rfl, rfl, rfl, rfl, rfl, rfl, rfl, rfl, rfl, rfl, rfl, rfl, rfl, rfl, rfl, rfl, rfl, rfl, rfl, rfl, rfl, rfl, rfl, rfl, rfl, rfl, rfl, rfl, rfl, trivial⟩)
  · skip
    refine OW.allocC (vs := [.slice none 0 0, .int .u16 0]) Tryz.zeroValue134 rfl rfl (fun my => ?_)
    refine KN.on (fun _ => Sb.hw) ?_
    exact KS.mk fun a w hS => (newPub1_3_9_11_17_19_27 hk2 hk3 hN hF _ _ _ _ _ _ _ _ hqp hBp hqq hBq).out a w ((hS.heap' (Pm.hw hS.mem)).keep ⟨rfl, rfl, rfl, rfl, rfl, rfl, rfl, rfl, rfl, rfl, rfl, rfl, rfl, rfl, rfl, rfl, rfl, rfl, rfl, rfl, rfl, rfl, rfl, rfl, rfl, rfl, rfl, rfl, rfl, rfl, rfl, rfl, trivial⟩)
theorem newPub1_3_9_11_19_27 (mp : Nat) (qp : Sl) (Bp : Heap) (mq : Nat) (mg : Nat) (my : Nat) (hqp : qp.2.2 = sigL (Pb)) (hBp : Lies Bp qp) :
    KS w0 45 (anyC w0 (LB) newPub1_ops K 9 (Ls 37 4193910783)) [(37, .pointer (some ⟨ky, 0, none⟩)), (36, .pointer (some ⟨k3, 3, none⟩)), (35, .pointer (some ⟨k3, 0, none⟩)), (34, .pointer (some ⟨k3, 0, none⟩)), (33, .pointer (some ⟨my, 0, none⟩)), (30, .pointer (some ⟨kg, 0, none⟩)), (29, .pointer (some ⟨k3, 2, none⟩)), (28, .pointer (some ⟨k3, 0, none⟩)), (27, .pointer (some ⟨k3, 0, none⟩)), (26, .pointer (some ⟨k3, 0, none⟩)), (25, .pointer (some ⟨mg, 0, none⟩)), (22, .pointer (some ⟨kq, 0, none⟩)), (21, .pointer (some ⟨k3, 1, none⟩)), (20, .pointer (some ⟨k3, 0, none⟩)), (19, .pointer (some ⟨k3, 0, none⟩)), (18, .pointer (some ⟨k3, 0, none⟩)), (17, .pointer (some ⟨mq, 0, none⟩)), (16, .iface 132 (.pointer (some ⟨mp, 0, none⟩))), (15, .pointer (some ⟨mp, 0, none⟩)), (14, .pointer (some ⟨kp, 0, none⟩)), (13, .pointer (some ⟨k3, 0, none⟩)), (12, .pointer (some ⟨k3, 0, none⟩)), (11, .pointer (some ⟨k3, 0, none⟩)), (10, .pointer (some ⟨k3, 0, none⟩)), (9, .pointer (some ⟨mp, 0, none⟩)), (8, .iface 104 (.pointer (some ⟨k3, 0, none⟩))), (7, .pointer (some ⟨k3, 0, none⟩)), (6, .agg (tmC created).toArray), (1, .pointer (some ⟨k3, 0, none⟩)), (2, .pointer (some ⟨k2, 0, none⟩))] (Bp ++ ((mp, blk 134 (0, 0) [slV qp, .int .u16 (bitsN (Pb) : Int)]) :: ((mq, blk 134 (0, 0) [.slice none 0 0, .int .u16 0]) :: ((mg, blk 134 (0, 0) [.slice none 0 0, .int .u16 0]) :: ((my, blk 134 (0, 0) [.slice none 0 0, .int .u16 0]) :: (LB)))))) := by
  refine KN.one (i := 17) (by kernel_rfl) rfl rfl (show _ = (Ls 37 4194041855) by kernel_rfl) ?_
  · skip
    refine OW.call (xs := [.tmp 17, .tmp 22]) Tryz.call51 rfl (fun w hw => setBig_any w0 w _ mq kq (Qb) (by exact hN.q.mono (fun x hx => by simp [hx])) (by decide) (by decide) (HW.take hw)) rfl ?_
    rintro r w' ⟨qq, Bq, rfl, hqq, hBq, hw'⟩
    refine ⟨_, _, rfl, hw', ?_⟩
    refine KN.on (fun _ => Sb.hw) ?_
    refine KN.quiet (i := 18) (ls1 := (Ls 37 4194303999)) newPub1_sel (by kernel_rfl) (by kernel_rfl) (fun _ => Sb.hw) rfl (v_iface Tryz.runUnderlying132 rfl rfl) rfl ?_
    exact KS.mk fun a w hS => (newPub1_3_9_11_17_19_27 hk2 hk3 hN hF _ _ _ _ _ _ _ _ hqp hBp hqq hBq).out a w ((hS.heap' (Pm.hw hS.mem)).keep ⟨rfl, rfl, rfl, rfl, rfl, rfl, rfl, rfl, rfl, rfl, rfl, rfl, rfl, rfl, rfl, rfl, rfl, rfl, rfl, rfl, rfl, rfl, rfl, rfl, rfl, rfl, rfl, rfl, rfl, rfl, rfl, rfl, trivial⟩)
theorem newPub1_3_9_11_17 (mp : Nat) (qp : Sl) (Bp : Heap) (mq : Nat) (qq : Sl) (Bq : Heap) (hqp : qp.2.2 = sigL (Pb)) (hBp : Lies Bp qp) (hqq : qq.2.2 = sigL (Qb)) (hBq : Lies Bq qq) :
    KS w0 45 (anyC w0 (LB) newPub1_ops K 9 (Ls 37 4059561983)) [(37, .pointer (some ⟨ky, 0, none⟩)), (36, .pointer (some ⟨k3, 3, none⟩)), (35, .pointer (some ⟨k3, 0, none⟩)), (34, .pointer (some ⟨k3, 0, none⟩)), (30, .pointer (some ⟨kg, 0, none⟩)), (29, .pointer (some ⟨k3, 2, none⟩)), (28, .pointer (some ⟨k3, 0, none⟩)), (27, .pointer (some ⟨k3, 0, none⟩)), (26, .pointer (some ⟨k3, 0, none⟩)), (24, .iface 132 (.pointer (some ⟨mq, 0, none⟩))), (23, .pointer (some ⟨mq, 0, none⟩)), (22, .pointer (some ⟨kq, 0, none⟩)), (21, .pointer (some ⟨k3, 1, none⟩)), (20, .pointer (some ⟨k3, 0, none⟩)), (19, .pointer (some ⟨k3, 0, none⟩)), (18, .pointer (some ⟨k3, 0, none⟩)), (17, .pointer (some ⟨mq, 0, none⟩)), (16, .iface 132 (.pointer (some ⟨mp, 0, none⟩))), (15, .pointer (some ⟨mp, 0, none⟩)), (14, .pointer (some ⟨kp, 0, none⟩)), (13, .pointer (some ⟨k3, 0, none⟩)), (12, .pointer (some ⟨k3, 0, none⟩)), (11, .pointer (some ⟨k3, 0, none⟩)), (10, .pointer (some ⟨k3, 0, none⟩)), (9, .pointer (some ⟨mp, 0, none⟩)), (8, .iface 104 (.pointer (some ⟨k3, 0, none⟩))), (7, .pointer (some ⟨k3, 0, none⟩)), (6, .agg (tmC created).toArray), (1, .pointer (some ⟨k3, 0, none⟩)), (2, .pointer (some ⟨k2, 0, none⟩))] (Bp ++ ((mp, blk 134 (0, 0) [slV qp, .int .u16 (bitsN (Pb) : Int)]) :: (Bq ++ ((mq, blk 134 (0, 0) [slV qq, .int .u16 (bitsN (Qb) : Int)]) :: (LB))))) := by
  refine KN.two (i := 19) (j := 27) (by kernel_rfl) rfl rfl (show _ = (Ls 37 4060086271) by kernel_rfl) ?_ rfl rfl (show _ = (Ls 37 4193779711) by kernel_rfl) ?_
  · skip
    refine OW.allocC (vs := [.slice none 0 0, .int .u16 0]) Tryz.zeroValue134 rfl rfl (fun mg => ?_)
    refine KN.on (fun _ => Sb.hw) ?_
    exact KS.mk fun a w hS => (newPub1_3_9_11_17_19 hk2 hk3 hN hF _ _ _ _ _ _ _ hqp hBp hqq hBq).out a w ((hS.heap' (Pm.hw hS.mem)).keep ⟨rfl, rfl, rfl, rfl, rfl, rfl, rfl, rfl, rfl, rfl, rfl, rfl, rfl, rfl, rfl, rfl, rfl, rfl, rfl, rfl, rfl, rfl, rfl, rfl, rfl, rfl, rfl, rfl, rfl, rfl, rfl, trivial⟩)
  · skip
    refine OW.allocC (vs := [.slice none 0 0, .int .u16 0]) Tryz.zeroValue134 rfl rfl (fun my => ?_)
    refine KN.on (fun _ => Sb.hw) ?_
    exact KS.mk fun a w hS => (newPub1_3_9_11_17_27 hk2 hk3 hN hF _ _ _ _ _ _ _ hqp hBp hqq hBq).out a w ((hS.heap' (Pm.hw hS.mem)).keep ⟨rfl, rfl, rfl, rfl, rfl, rfl, rfl, rfl, rfl, rfl, rfl, rfl, rfl, rfl, rfl, rfl, rfl, rfl, rfl, rfl, rfl, rfl, rfl, rfl, rfl, rfl, rfl, rfl, rfl, rfl, rfl, trivial⟩)
theorem newPub1_3_9_19_27 (mp : Nat) (qp : Sl) (Bp : Heap) (mg : Nat) (my : Nat) (hqp : qp.2.2 = sigL (Pb)) (hBp : Lies Bp qp) :
    KS w0 45 (anyC w0 (LB) newPub1_ops K 10 (Ls 37 4193908735)) [(37, .pointer (some ⟨ky, 0, none⟩)), (36, .pointer (some ⟨k3, 3, none⟩)), (35, .pointer (some ⟨k3, 0, none⟩)), (34, .pointer (some ⟨k3, 0, none⟩)), (33, .pointer (some ⟨my, 0, none⟩)), (30, .pointer (some ⟨kg, 0, none⟩)), (29, .pointer (some ⟨k3, 2, none⟩)), (28, .pointer (some ⟨k3, 0, none⟩)), (27, .pointer (some ⟨k3, 0, none⟩)), (26, .pointer (some ⟨k3, 0, none⟩)), (25, .pointer (some ⟨mg, 0, none⟩)), (22, .pointer (some ⟨kq, 0, none⟩)), (21, .pointer (some ⟨k3, 1, none⟩)), (20, .pointer (some ⟨k3, 0, none⟩)), (19, .pointer (some ⟨k3, 0, none⟩)), (18, .pointer (some ⟨k3, 0, none⟩)), (16, .iface 132 (.pointer (some ⟨mp, 0, none⟩))), (15, .pointer (some ⟨mp, 0, none⟩)), (14, .pointer (some ⟨kp, 0, none⟩)), (13, .pointer (some ⟨k3, 0, none⟩)), (12, .pointer (some ⟨k3, 0, none⟩)), (11, .pointer (some ⟨k3, 0, none⟩)), (10, .pointer (some ⟨k3, 0, none⟩)), (9, .pointer (some ⟨mp, 0, none⟩)), (8, .iface 104 (.pointer (some ⟨k3, 0, none⟩))), (7, .pointer (some ⟨k3, 0, none⟩)), (6, .agg (tmC created).toArray), (1, .pointer (some ⟨k3, 0, none⟩)), (2, .pointer (some ⟨k2, 0, none⟩))] (Bp ++ ((mp, blk 134 (0, 0) [slV qp, .int .u16 (bitsN (Pb) : Int)]) :: ((mg, blk 134 (0, 0) [.slice none 0 0, .int .u16 0]) :: ((my, blk 134 (0, 0) [.slice none 0 0, .int .u16 0]) :: (LB))))) := by
  refine KN.one (i := 11) (by kernel_rfl) rfl rfl (show _ = (Ls 37 4193910783) by kernel_rfl) ?_
  · skip
    refine OW.allocC (vs := [.slice none 0 0, .int .u16 0]) Tryz.zeroValue134 rfl rfl (fun mq => ?_)
    refine KN.on (fun _ => Sb.hw) ?_
    exact KS.mk fun a w hS => (newPub1_3_9_11_19_27 hk2 hk3 hN hF _ _ _ _ _ _ hqp hBp).out a w ((hS.heap' (Pm.hw hS.mem)).keep ⟨rfl, rfl, rfl, rfl, rfl, rfl, rfl, rfl, rfl, rfl, rfl, rfl, rfl, rfl, rfl, rfl, rfl, rfl, rfl, rfl, rfl, rfl, rfl, rfl, rfl, rfl, rfl, rfl, rfl, rfl, trivial⟩)
theorem newPub1_3_9_11_27 (mp : Nat) (qp : Sl) (Bp : Heap) (mq : Nat) (my : Nat) (hqp : qp.2.2 = sigL (Pb)) (hBp : Lies Bp qp) :
    KS w0 45 (anyC w0 (LB) newPub1_ops K 10 (Ls 37 4193386495)) [(37, .pointer (some ⟨ky, 0, none⟩)), (36, .pointer (some ⟨k3, 3, none⟩)), (35, .pointer (some ⟨k3, 0, none⟩)), (34, .pointer (some ⟨k3, 0, none⟩)), (33, .pointer (some ⟨my, 0, none⟩)), (30, .pointer (some ⟨kg, 0, none⟩)), (29, .pointer (some ⟨k3, 2, none⟩)), (28, .pointer (some ⟨k3, 0, none⟩)), (27, .pointer (some ⟨k3, 0, none⟩)), (26, .pointer (some ⟨k3, 0, none⟩)), (22, .pointer (some ⟨kq, 0, none⟩)), (21, .pointer (some ⟨k3, 1, none⟩)), (20, .pointer (some ⟨k3, 0, none⟩)), (19, .pointer (some ⟨k3, 0, none⟩)), (18, .pointer (some ⟨k3, 0, none⟩)), (17, .pointer (some ⟨mq, 0, none⟩)), (16, .iface 132 (.pointer (some ⟨mp, 0, none⟩))), (15, .pointer (some ⟨mp, 0, none⟩)), (14, .pointer (some ⟨kp, 0, none⟩)), (13, .pointer (some ⟨k3, 0, none⟩)), (12, .pointer (some ⟨k3, 0, none⟩)), (11, .pointer (some ⟨k3, 0, none⟩)), (10, .pointer (some ⟨k3, 0, none⟩)), (9, .pointer (some ⟨mp, 0, none⟩)), (8, .iface 104 (.pointer (some ⟨k3, 0, none⟩))), (7, .pointer (some ⟨k3, 0, none⟩)), (6, .agg (tmC created).toArray), (1, .pointer (some ⟨k3, 0, none⟩)), (2, .pointer (some ⟨k2, 0, none⟩))] (Bp ++ ((mp, blk 134 (0, 0) [slV qp, .int .u16 (bitsN (Pb) : Int)]) :: ((mq, blk 134 (0, 0) [.slice none 0 0, .int .u16 0]) :: ((my, blk 134 (0, 0) [.slice none 0 0, .int .u16 0]) :: (LB))))) := by
  refine KN.two (i := 17) (j := 19) (by kernel_rfl) rfl rfl (show _ = (Ls 37 4193517567) by kernel_rfl) ?_ rfl rfl (show _ = (Ls 37 4193910783) by kernel_rfl) ?_
  · skip
    refine OW.call (xs := [.tmp 17, .tmp 22]) Tryz.call51 rfl (fun w hw => setBig_any w0 w _ mq kq (Qb) (by exact hN.q.mono (fun x hx => by simp [hx])) (by decide) (by decide) (HW.take hw)) rfl ?_
    rintro r w' ⟨qq, Bq, rfl, hqq, hBq, hw'⟩
    refine ⟨_, _, rfl, hw', ?_⟩
    refine KN.on (fun _ => Sb.hw) ?_
    refine KN.quiet (i := 18) (ls1 := (Ls 37 4193779711)) newPub1_sel (by kernel_rfl) (by kernel_rfl) (fun _ => Sb.hw) rfl (v_iface Tryz.runUnderlying132 rfl rfl) rfl ?_
    exact KS.mk fun a w hS => (newPub1_3_9_11_17_27 hk2 hk3 hN hF _ _ _ _ _ _ _ hqp hBp hqq hBq).out a w ((hS.heap' (Pm.hw hS.mem)).keep ⟨rfl, rfl, rfl, rfl, rfl, rfl, rfl, rfl, rfl, rfl, rfl, rfl, rfl, rfl, rfl, rfl, rfl, rfl, rfl, rfl, rfl, rfl, rfl, rfl, rfl, rfl, rfl, rfl, rfl, rfl, rfl, trivial⟩)
  · skip
    refine OW.allocC (vs := [.slice none 0 0, .int .u16 0]) Tryz.zeroValue134 rfl rfl (fun mg => ?_)
    refine KN.on (fun _ => Sb.hw) ?_
    exact KS.mk fun a w hS => (newPub1_3_9_11_19_27 hk2 hk3 hN hF _ _ _ _ _ _ hqp hBp).out a w ((hS.heap' (Pm.hw hS.mem)).keep ⟨rfl, rfl, rfl, rfl, rfl, rfl, rfl, rfl, rfl, rfl, rfl, rfl, rfl, rfl, rfl, rfl, rfl, rfl, rfl, rfl, rfl, rfl, rfl, rfl, rfl, rfl, rfl, rfl, rfl, rfl, trivial⟩)
theorem newPub1_3_9_11_19 (mp : Nat) (qp : Sl) (Bp : Heap) (mq : Nat) (mg : Nat) (hqp : qp.2.2 = sigL (Pb)) (hBp : Lies Bp qp) :
    KS w0 45 (anyC w0 (LB) newPub1_ops K 10 (Ls 37 4059693055)) [(37, .pointer (some ⟨ky, 0, none⟩)), (36, .pointer (some ⟨k3, 3, none⟩)), (35, .pointer (some ⟨k3, 0, none⟩)), (34, .pointer (some ⟨k3, 0, none⟩)), (30, .pointer (some ⟨kg, 0, none⟩)), (29, .pointer (some ⟨k3, 2, none⟩)), (28, .pointer (some ⟨k3, 0, none⟩)), (27, .pointer (some ⟨k3, 0, none⟩)), (26, .pointer (some ⟨k3, 0, none⟩)), (25, .pointer (some ⟨mg, 0, none⟩)), (22, .pointer (some ⟨kq, 0, none⟩)), (21, .pointer (some ⟨k3, 1, none⟩)), (20, .pointer (some ⟨k3, 0, none⟩)), (19, .pointer (some ⟨k3, 0, none⟩)), (18, .pointer (some ⟨k3, 0, none⟩)), (17, .pointer (some ⟨mq, 0, none⟩)), (16, .iface 132 (.pointer (some ⟨mp, 0, none⟩))), (15, .pointer (some ⟨mp, 0, none⟩)), (14, .pointer (some ⟨kp, 0, none⟩)), (13, .pointer (some ⟨k3, 0, none⟩)), (12, .pointer (some ⟨k3, 0, none⟩)), (11, .pointer (some ⟨k3, 0, none⟩)), (10, .pointer (some ⟨k3, 0, none⟩)), (9, .pointer (some ⟨mp, 0, none⟩)), (8, .iface 104 (.pointer (some ⟨k3, 0, none⟩))), (7, .pointer (some ⟨k3, 0, none⟩)), (6, .agg (tmC created).toArray), (1, .pointer (some ⟨k3, 0, none⟩)), (2, .pointer (some ⟨k2, 0, none⟩))] (Bp ++ ((mp, blk 134 (0, 0) [slV qp, .int .u16 (bitsN (Pb) : Int)]) :: ((mq, blk 134 (0, 0) [.slice none 0 0, .int .u16 0]) :: ((mg, blk 134 (0, 0) [.slice none 0 0, .int .u16 0]) :: (LB))))) := by
  refine KN.two (i := 17) (j := 27) (by kernel_rfl) rfl rfl (show _ = (Ls 37 4059824127) by kernel_rfl) ?_ rfl rfl (show _ = (Ls 37 4193910783) by kernel_rfl) ?_
  · skip
    refine OW.call (xs := [.tmp 17, .tmp 22]) Tryz.call51 rfl (fun w hw => setBig_any w0 w _ mq kq (Qb) (by exact hN.q.mono (fun x hx => by simp [hx])) (by decide) (by decide) (HW.take hw)) rfl ?_
    rintro r w' ⟨qq, Bq, rfl, hqq, hBq, hw'⟩
    refine ⟨_, _, rfl, hw', ?_⟩
    refine KN.on (fun _ => Sb.hw) ?_
    refine KN.quiet (i := 18) (ls1 := (Ls 37 4060086271)) newPub1_sel (by kernel_rfl) (by kernel_rfl) (fun _ => Sb.hw) rfl (v_iface Tryz.runUnderlying132 rfl rfl) rfl ?_
    exact KS.mk fun a w hS => (newPub1_3_9_11_17_19 hk2 hk3 hN hF _ _ _ _ _ _ _ hqp hBp hqq hBq).out a w ((hS.heap' (Pm.hw hS.mem)).keep ⟨rfl, rfl, rfl, rfl, rfl, rfl, rfl, rfl, rfl, rfl, rfl, rfl, rfl, rfl, rfl, rfl, rfl, rfl, rfl, rfl, rfl, rfl, rfl, rfl, rfl, rfl, rfl, rfl, rfl, rfl, rfl, trivial⟩)
  · skip
    refine OW.allocC (vs := [.slice none 0 0, .int .u16 0]) Tryz.zeroValue134 rfl rfl (fun my => ?_)
    refine KN.on (fun _ => Sb.hw) ?_
    exact KS.mk fun a w hS => (newPub1_3_9_11_19_27 hk2 hk3 hN hF _ _ _ _ _ _ hqp hBp).out a w ((hS.heap' (Pm.hw hS.mem)).keep ⟨rfl, rfl, rfl, rfl, rfl, rfl, rfl, rfl, rfl, rfl, rfl, rfl, rfl, rfl, rfl, rfl, rfl, rfl, rfl, rfl, rfl, rfl, rfl, rfl, rfl, rfl, rfl, rfl, rfl, rfl, trivial⟩)
theorem newPub1_3_11_19_27 (mp : Nat) (mq : Nat) (mg : Nat) (my : Nat)  :
    KS w0 45 (anyC w0 (LB) newPub1_ops K 11 (Ls 37 4193909247)) [(37, .pointer (some ⟨ky, 0, none⟩)), (36, .pointer (some ⟨k3, 3, none⟩)), (35, .pointer (some ⟨k3, 0, none⟩)), (34, .pointer (some ⟨k3, 0, none⟩)), (33, .pointer (some ⟨my, 0, none⟩)), (30, .pointer (some ⟨kg, 0, none⟩)), (29, .pointer (some ⟨k3, 2, none⟩)), (28, .pointer (some ⟨k3, 0, none⟩)), (27, .pointer (some ⟨k3, 0, none⟩)), (26, .pointer (some ⟨k3, 0, none⟩)), (25, .pointer (some ⟨mg, 0, none⟩)), (22, .pointer (some ⟨kq, 0, none⟩)), (21, .pointer (some ⟨k3, 1, none⟩)), (20, .pointer (some ⟨k3, 0, none⟩)), (19, .pointer (some ⟨k3, 0, none⟩)), (18, .pointer (some ⟨k3, 0, none⟩)), (17, .pointer (some ⟨mq, 0, none⟩)), (14, .pointer (some ⟨kp, 0, none⟩)), (13, .pointer (some ⟨k3, 0, none⟩)), (12, .pointer (some ⟨k3, 0, none⟩)), (11, .pointer (some ⟨k3, 0, none⟩)), (10, .pointer (some ⟨k3, 0, none⟩)), (9, .pointer (some ⟨mp, 0, none⟩)), (8, .iface 104 (.pointer (some ⟨k3, 0, none⟩))), (7, .pointer (some ⟨k3, 0, none⟩)), (6, .agg (tmC created).toArray), (1, .pointer (some ⟨k3, 0, none⟩)), (2, .pointer (some ⟨k2, 0, none⟩))] ((mp, blk 134 (0, 0) [.slice none 0 0, .int .u16 0]) :: ((mq, blk 134 (0, 0) [.slice none 0 0, .int .u16 0]) :: ((mg, blk 134 (0, 0) [.slice none 0 0, .int .u16 0]) :: ((my, blk 134 (0, 0) [.slice none 0 0, .int .u16 0]) :: (LB))))) := by
  refine KN.one (i := 9) (by kernel_rfl) rfl rfl (show _ = (Ls 37 4193909759) by kernel_rfl) ?_
  · skip
    refine OW.call (xs := [.tmp 9, .tmp 14]) Tryz.call51 rfl (fun w hw => setBig_any w0 w _ mp kp (Pb) (by exact hN.p.mono (fun x hx => by simp [hx])) (by decide) (by decide) (HW.take hw)) rfl ?_
    rintro r w' ⟨qp, Bp, rfl, hqp, hBp, hw'⟩
    refine ⟨_, _, rfl, hw', ?_⟩
    refine KN.on (fun _ => Sb.hw) ?_
    refine KN.quiet (i := 10) (ls1 := (Ls 37 4193910783)) newPub1_sel (by kernel_rfl) (by kernel_rfl) (fun _ => Sb.hw) rfl (v_iface Tryz.runUnderlying132 rfl rfl) rfl ?_
    exact KS.mk fun a w hS => (newPub1_3_9_11_19_27 hk2 hk3 hN hF _ _ _ _ _ _ hqp hBp).out a w ((hS.heap' (Pm.hw hS.mem)).keep ⟨rfl, rfl, rfl, rfl, rfl, rfl, rfl, rfl, rfl, rfl, rfl, rfl, rfl, rfl, rfl, rfl, rfl, rfl, rfl, rfl, rfl, rfl, rfl, rfl, rfl, rfl, rfl, rfl, rfl, rfl, trivial⟩)
theorem newPub1_3_9_27 (mp : Nat) (qp : Sl) (Bp : Heap) (my : Nat) (hqp : qp.2.2 = sigL (Pb)) (hBp : Lies Bp qp) :
    KS w0 45 (anyC w0 (LB) newPub1_ops K 11 (Ls 37 4193384447)) [(37, .pointer (some ⟨ky, 0, none⟩)), (36, .pointer (some ⟨k3, 3, none⟩)), (35, .pointer (some ⟨k3, 0, none⟩)), (34, .pointer (some ⟨k3, 0, none⟩)), (33, .pointer (some ⟨my, 0, none⟩)), (30, .pointer (some ⟨kg, 0, none⟩)), (29, .pointer (some ⟨k3, 2, none⟩)), (28, .pointer (some ⟨k3, 0, none⟩)), (27, .pointer (some ⟨k3, 0, none⟩)), (26, .pointer (some ⟨k3, 0, none⟩)), (22, .pointer (some ⟨kq, 0, none⟩)), (21, .pointer (some ⟨k3, 1, none⟩)), (20, .pointer (some ⟨k3, 0, none⟩)), (19, .pointer (some ⟨k3, 0, none⟩)), (18, .pointer (some ⟨k3, 0, none⟩)), (16, .iface 132 (.pointer (some ⟨mp, 0, none⟩))), (15, .pointer (some ⟨mp, 0, none⟩)), (14, .pointer (some ⟨kp, 0, none⟩)), (13, .pointer (some ⟨k3, 0, none⟩)), (12, .pointer (some ⟨k3, 0, none⟩)), (11, .pointer (some ⟨k3, 0, none⟩)), (10, .pointer (some ⟨k3, 0, none⟩)), (9, .pointer (some ⟨mp, 0, none⟩)), (8, .iface 104 (.pointer (some ⟨k3, 0, none⟩))), (7, .pointer (some ⟨k3, 0, none⟩)), (6, .agg (tmC created).toArray), (1, .pointer (some ⟨k3, 0, none⟩)), (2, .pointer (some ⟨k2, 0, none⟩))] (Bp ++ ((mp, blk 134 (0, 0) [slV qp, .int .u16 (bitsN (Pb) : Int)]) :: ((my, blk 134 (0, 0) [.slice none 0 0, .int .u16 0]) :: (LB)))) := by
  refine KN.two (i := 11) (j := 19) (by kernel_rfl) rfl rfl (show _ = (Ls 37 4193386495) by kernel_rfl) ?_ rfl rfl (show _ = (Ls 37 4193908735) by kernel_rfl) ?_
  · skip
    refine OW.allocC (vs := [.slice none 0 0, .int .u16 0]) Tryz.zeroValue134 rfl rfl (fun mq => ?_)
    refine KN.on (fun _ => Sb.hw) ?_
    exact KS.mk fun a w hS => (newPub1_3_9_11_27 hk2 hk3 hN hF _ _ _ _ _ hqp hBp).out a w ((hS.heap' (Pm.hw hS.mem)).keep ⟨rfl, rfl, rfl, rfl, rfl, rfl, rfl, rfl, rfl, rfl, rfl, rfl, rfl, rfl, rfl, rfl, rfl, rfl, rfl, rfl, rfl, rfl, rfl, rfl, rfl, rfl, rfl, rfl, rfl, trivial⟩)
  · skip
    refine OW.allocC (vs := [.slice none 0 0, .int .u16 0]) Tryz.zeroValue134 rfl rfl (fun mg => ?_)
    refine KN.on (fun _ => Sb.hw) ?_
    exact KS.mk fun a w hS => (newPub1_3_9_19_27 hk2 hk3 hN hF _ _ _ _ _ hqp hBp).out a w ((hS.heap' (Pm.hw hS.mem)).keep ⟨rfl, rfl, rfl, rfl, rfl, rfl, rfl, rfl, rfl, rfl, rfl, rfl, rfl, rfl, rfl, rfl, rfl, rfl, rfl, rfl, rfl, rfl, rfl, rfl, rfl, rfl, rfl, rfl, rfl, trivial⟩)
theorem newPub1_3_9_19 (mp : Nat) (qp : Sl) (Bp : Heap) (mg : Nat) (hqp : qp.2.2 = sigL (Pb)) (hBp : Lies Bp qp) :
    KS w0 45 (anyC w0 (LB) newPub1_ops K 11 (Ls 37 4059691007)) [(37, .pointer (some ⟨ky, 0, none⟩)), (36, .pointer (some ⟨k3, 3, none⟩)), (35, .pointer (some ⟨k3, 0, none⟩)), (34, .pointer (some ⟨k3, 0, none⟩)), (30, .pointer (some ⟨kg, 0, none⟩)), (29, .pointer (some ⟨k3, 2, none⟩)), (28, .pointer (some ⟨k3, 0, none⟩)), (27, .pointer (some ⟨k3, 0, none⟩)), (26, .pointer (some ⟨k3, 0, none⟩)), (25, .pointer (some ⟨mg, 0, none⟩)), (22, .pointer (some ⟨kq, 0, none⟩)), (21, .pointer (some ⟨k3, 1, none⟩)), (20, .pointer (some ⟨k3, 0, none⟩)), (19, .pointer (some ⟨k3, 0, none⟩)), (18, .pointer (some ⟨k3, 0, none⟩)), (16, .iface 132 (.pointer (some ⟨mp, 0, none⟩))), (15, .pointer (some ⟨mp, 0, none⟩)), (14, .pointer (some ⟨kp, 0, none⟩)), (13, .pointer (some ⟨k3, 0, none⟩)), (12, .pointer (some ⟨k3, 0, none⟩)), (11, .pointer (some ⟨k3, 0, none⟩)), (10, .pointer (some ⟨k3, 0, none⟩)), (9, .pointer (some ⟨mp, 0, none⟩)), (8, .iface 104 (.pointer (some ⟨k3, 0, none⟩))), (7, .pointer (some ⟨k3, 0, none⟩)), (6, .agg (tmC created).toArray), (1, .pointer (some ⟨k3, 0, none⟩)), (2, .pointer (some ⟨k2, 0, none⟩))] (Bp ++ ((mp, blk 134 (0, 0) [slV qp, .int .u16 (bitsN (Pb) : Int)]) :: ((mg, blk 134 (0, 0) [.slice none 0 0, .int .u16 0]) :: (LB)))) := by
  refine KN.two (i := 11) (j := 27) (by kernel_rfl) rfl rfl (show _ = (Ls 37 4059693055) by kernel_rfl) ?_ rfl rfl (show _ = (Ls 37 4193908735) by kernel_rfl) ?_
  · skip
    refine OW.allocC (vs := [.slice none 0 0, .int .u16 0]) Tryz.zeroValue134 rfl rfl (fun mq => ?_)
    refine KN.on (fun _ => Sb.hw) ?_
    exact KS.mk fun a w hS => (newPub1_3_9_11_19 hk2 hk3 hN hF _ _ _ _ _ hqp hBp).out a w ((hS.heap' (Pm.hw hS.mem)).keep ⟨rfl, rfl, rfl, rfl, rfl, rfl, rfl, rfl, rfl, rfl, rfl, rfl, rfl, rfl, rfl, rfl, rfl, rfl, rfl, rfl, rfl, rfl, rfl, rfl, rfl, rfl, rfl, rfl, rfl, trivial⟩)
  · skip
    refine OW.allocC (vs := [.slice none 0 0, .int .u16 0]) Tryz.zeroValue134 rfl rfl (fun my => ?_)
    refine KN.on (fun _ => Sb.hw) ?_
    exact KS.mk fun a w hS => (newPub1_3_9_19_27 hk2 hk3 hN hF _ _ _ _ _ hqp hBp).out a w ((hS.heap' (Pm.hw hS.mem)).keep ⟨rfl, rfl, rfl, rfl, rfl, rfl, rfl, rfl, rfl, rfl, rfl, rfl, rfl, rfl, rfl, rfl, rfl, rfl, rfl, rfl, rfl, rfl, rfl, rfl, rfl, rfl, rfl, rfl, rfl, trivial⟩)
theorem newPub1_3_9_11 (mp : Nat) (qp : Sl) (Bp : Heap) (mq : Nat) (hqp : qp.2.2 = sigL (Pb)) (hBp : Lies Bp qp) :
    KS w0 45 (anyC w0 (LB) newPub1_ops K 11 (Ls 37 4059168767)) [(37, .pointer (some ⟨ky, 0, none⟩)), (36, .pointer (some ⟨k3, 3, none⟩)), (35, .pointer (some ⟨k3, 0, none⟩)), (34, .pointer (some ⟨k3, 0, none⟩)), (30, .pointer (some ⟨kg, 0, none⟩)), (29, .pointer (some ⟨k3, 2, none⟩)), (28, .pointer (some ⟨k3, 0, none⟩)), (27, .pointer (some ⟨k3, 0, none⟩)), (26, .pointer (some ⟨k3, 0, none⟩)), (22, .pointer (some ⟨kq, 0, none⟩)), (21, .pointer (some ⟨k3, 1, none⟩)), (20, .pointer (some ⟨k3, 0, none⟩)), (19, .pointer (some ⟨k3, 0, none⟩)), (18, .pointer (some ⟨k3, 0, none⟩)), (17, .pointer (some ⟨mq, 0, none⟩)), (16, .iface 132 (.pointer (some ⟨mp, 0, none⟩))), (15, .pointer (some ⟨mp, 0, none⟩)), (14, .pointer (some ⟨kp, 0, none⟩)), (13, .pointer (some ⟨k3, 0, none⟩)), (12, .pointer (some ⟨k3, 0, none⟩)), (11, .pointer (some ⟨k3, 0, none⟩)), (10, .pointer (some ⟨k3, 0, none⟩)), (9, .pointer (some ⟨mp, 0, none⟩)), (8, .iface 104 (.pointer (some ⟨k3, 0, none⟩))), (7, .pointer (some ⟨k3, 0, none⟩)), (6, .agg (tmC created).toArray), (1, .pointer (some ⟨k3, 0, none⟩)), (2, .pointer (some ⟨k2, 0, none⟩))] (Bp ++ ((mp, blk 134 (0, 0) [slV qp, .int .u16 (bitsN (Pb) : Int)]) :: ((mq, blk 134 (0, 0) [.slice none 0 0, .int .u16 0]) :: (LB)))) := by
  refine KN.three (i := 17) (j := 19) (k := 27) (by kernel_rfl) rfl rfl (show _ = (Ls 37 4059299839) by kernel_rfl) ?_ rfl rfl (show _ = (Ls 37 4059693055) by kernel_rfl) ?_ rfl rfl (show _ = (Ls 37 4193386495) by kernel_rfl) ?_
  · skip
    refine OW.call (xs := [.tmp 17, .tmp 22]) Tryz.call51 rfl (fun w hw => setBig_any w0 w _ mq kq (Qb) (by exact hN.q.mono (fun x hx => by simp [hx])) (by decide) (by decide) (HW.take hw)) rfl ?_
    rintro r w' ⟨qq, Bq, rfl, hqq, hBq, hw'⟩
    refine ⟨_, _, rfl, hw', ?_⟩
    refine KN.on (fun _ => Sb.hw) ?_
    refine KN.quiet (i := 18) (ls1 := (Ls 37 4059561983)) newPub1_sel (by kernel_rfl) (by kernel_rfl) (fun _ => Sb.hw) rfl (v_iface Tryz.runUnderlying132 rfl rfl) rfl ?_
    exact KS.mk fun a w hS => (newPub1_3_9_11_17 hk2 hk3 hN hF _ _ _ _ _ _ hqp hBp hqq hBq).out a w ((hS.heap' (Pm.hw hS.mem)).keep ⟨rfl, rfl, rfl, rfl, rfl, rfl, rfl, rfl, rfl, rfl, rfl, rfl, rfl, rfl, rfl, rfl, rfl, rfl, rfl, rfl, rfl, rfl, rfl, rfl, rfl, rfl, rfl, rfl, rfl, rfl, trivial⟩)
  · skip
    refine OW.allocC (vs := [.slice none 0 0, .int .u16 0]) Tryz.zeroValue134 rfl rfl (fun mg => ?_)
    refine KN.on (fun _ => Sb.hw) ?_
    exact KS.mk fun a w hS => (newPub1_3_9_11_19 hk2 hk3 hN hF _ _ _ _ _ hqp hBp).out a w ((hS.heap' (Pm.hw hS.mem)).keep ⟨rfl, rfl, rfl, rfl, rfl, rfl, rfl, rfl, rfl, rfl, rfl, rfl, rfl, rfl, rfl, rfl, rfl, rfl, rfl, rfl, rfl, rfl, rfl, rfl, rfl, rfl, rfl, rfl, rfl, trivial⟩)
  · skip
    refine OW.allocC (vs := [.slice none 0 0, .int .u16 0]) Tryz.zeroValue134 rfl rfl (fun my => ?_)
    refine KN.on (fun _ => Sb.hw) ?_
    exact KS.mk fun a w hS => (newPub1_3_9_11_27 hk2 hk3 hN hF _ _ _ _ _ hqp hBp).out a w ((hS.heap' (Pm.hw hS.mem)).keep ⟨rfl, rfl, rfl, rfl, rfl, rfl, rfl, rfl, rfl, rfl, rfl, rfl, rfl, rfl, rfl, rfl, rfl, rfl, rfl, rfl, rfl, rfl, rfl, rfl, rfl, rfl, rfl, rfl, rfl, trivial⟩)
theorem newPub1_11_19_27 (mq : Nat) (mg : Nat) (my : Nat)  :
    KS w0 45 (anyC w0 (LB) newPub1_ops K 12 (Ls 37 4193909239)) [(37, .pointer (some ⟨ky, 0, none⟩)), (36, .pointer (some ⟨k3, 3, none⟩)), (35, .pointer (some ⟨k3, 0, none⟩)), (34, .pointer (some ⟨k3, 0, none⟩)), (33, .pointer (some ⟨my, 0, none⟩)), (30, .pointer (some ⟨kg, 0, none⟩)), (29, .pointer (some ⟨k3, 2, none⟩)), (28, .pointer (some ⟨k3, 0, none⟩)), (27, .pointer (some ⟨k3, 0, none⟩)), (26, .pointer (some ⟨k3, 0, none⟩)), (25, .pointer (some ⟨mg, 0, none⟩)), (22, .pointer (some ⟨kq, 0, none⟩)), (21, .pointer (some ⟨k3, 1, none⟩)), (20, .pointer (some ⟨k3, 0, none⟩)), (19, .pointer (some ⟨k3, 0, none⟩)), (18, .pointer (some ⟨k3, 0, none⟩)), (17, .pointer (some ⟨mq, 0, none⟩)), (14, .pointer (some ⟨kp, 0, none⟩)), (13, .pointer (some ⟨k3, 0, none⟩)), (12, .pointer (some ⟨k3, 0, none⟩)), (11, .pointer (some ⟨k3, 0, none⟩)), (10, .pointer (some ⟨k3, 0, none⟩)), (8, .iface 104 (.pointer (some ⟨k3, 0, none⟩))), (7, .pointer (some ⟨k3, 0, none⟩)), (6, .agg (tmC created).toArray), (1, .pointer (some ⟨k3, 0, none⟩)), (2, .pointer (some ⟨k2, 0, none⟩))] ((mq, blk 134 (0, 0) [.slice none 0 0, .int .u16 0]) :: ((mg, blk 134 (0, 0) [.slice none 0 0, .int .u16 0]) :: ((my, blk 134 (0, 0) [.slice none 0 0, .int .u16 0]) :: (LB)))) := by
  refine KN.one (i := 3) (by kernel_rfl) rfl rfl (show _ = (Ls 37 4193909247) by kernel_rfl) ?_
  · skip
    refine OW.allocC (vs := [.slice none 0 0, .int .u16 0]) Tryz.zeroValue134 rfl rfl (fun mp => ?_)
    refine KN.on (fun _ => Sb.hw) ?_
    exact KS.mk fun a w hS => (newPub1_3_11_19_27 hk2 hk3 hN hF _ _ _ _ ).out a w ((hS.heap' (Pm.hw hS.mem)).keep ⟨rfl, rfl, rfl, rfl, rfl, rfl, rfl, rfl, rfl, rfl, rfl, rfl, rfl, rfl, rfl, rfl, rfl, rfl, rfl, rfl, rfl, rfl, rfl, rfl, rfl, rfl, rfl, rfl, trivial⟩)
theorem newPub1_3_19_27 (mp : Nat) (mg : Nat) (my : Nat)  :
    KS w0 45 (anyC w0 (LB) newPub1_ops K 12 (Ls 37 4193907199)) [(37, .pointer (some ⟨ky, 0, none⟩)), (36, .pointer (some ⟨k3, 3, none⟩)), (35, .pointer (some ⟨k3, 0, none⟩)), (34, .pointer (some ⟨k3, 0, none⟩)), (33, .pointer (some ⟨my, 0, none⟩)), (30, .pointer (some ⟨kg, 0, none⟩)), (29, .pointer (some ⟨k3, 2, none⟩)), (28, .pointer (some ⟨k3, 0, none⟩)), (27, .pointer (some ⟨k3, 0, none⟩)), (26, .pointer (some ⟨k3, 0, none⟩)), (25, .pointer (some ⟨mg, 0, none⟩)), (22, .pointer (some ⟨kq, 0, none⟩)), (21, .pointer (some ⟨k3, 1, none⟩)), (20, .pointer (some ⟨k3, 0, none⟩)), (19, .pointer (some ⟨k3, 0, none⟩)), (18, .pointer (some ⟨k3, 0, none⟩)), (14, .pointer (some ⟨kp, 0, none⟩)), (13, .pointer (some ⟨k3, 0, none⟩)), (12, .pointer (some ⟨k3, 0, none⟩)), (11, .pointer (some ⟨k3, 0, none⟩)), (10, .pointer (some ⟨k3, 0, none⟩)), (9, .pointer (some ⟨mp, 0, none⟩)), (8, .iface 104 (.pointer (some ⟨k3, 0, none⟩))), (7, .pointer (some ⟨k3, 0, none⟩)), (6, .agg (tmC created).toArray), (1, .pointer (some ⟨k3, 0, none⟩)), (2, .pointer (some ⟨k2, 0, none⟩))] ((mp, blk 134 (0, 0) [.slice none 0 0, .int .u16 0]) :: ((mg, blk 134 (0, 0) [.slice none 0 0, .int .u16 0]) :: ((my, blk 134 (0, 0) [.slice none 0 0, .int .u16 0]) :: (LB)))) := by
  refine KN.two (i := 9) (j := 11) (by kernel_rfl) rfl rfl (show _ = (Ls 37 4193907711) by kernel_rfl) ?_ rfl rfl (show _ = (Ls 37 4193909247) by kernel_rfl) ?_
  · skip
    refine OW.call (xs := [.tmp 9, .tmp 14]) Tryz.call51 rfl (fun w hw => setBig_any w0 w _ mp kp (Pb) (by exact hN.p.mono (fun x hx => by simp [hx])) (by decide) (by decide) (HW.take hw)) rfl ?_
    rintro r w' ⟨qp, Bp, rfl, hqp, hBp, hw'⟩
    refine ⟨_, _, rfl, hw', ?_⟩
    refine KN.on (fun _ => Sb.hw) ?_
    refine KN.quiet (i := 10) (ls1 := (Ls 37 4193908735)) newPub1_sel (by kernel_rfl) (by kernel_rfl) (fun _ => Sb.hw) rfl (v_iface Tryz.runUnderlying132 rfl rfl) rfl ?_
    exact KS.mk fun a w hS => (newPub1_3_9_19_27 hk2 hk3 hN hF _ _ _ _ _ hqp hBp).out a w ((hS.heap' (Pm.hw hS.mem)).keep ⟨rfl, rfl, rfl, rfl, rfl, rfl, rfl, rfl, rfl, rfl, rfl, rfl, rfl, rfl, rfl, rfl, rfl, rfl, rfl, rfl, rfl, rfl, rfl, rfl, rfl, rfl, rfl, rfl, rfl, trivial⟩)
  · skip
    refine OW.allocC (vs := [.slice none 0 0, .int .u16 0]) Tryz.zeroValue134 rfl rfl (fun mq => ?_)
    refine KN.on (fun _ => Sb.hw) ?_
    exact KS.mk fun a w hS => (newPub1_3_11_19_27 hk2 hk3 hN hF _ _ _ _ ).out a w ((hS.heap' (Pm.hw hS.mem)).keep ⟨rfl, rfl, rfl, rfl, rfl, rfl, rfl, rfl, rfl, rfl, rfl, rfl, rfl, rfl, rfl, rfl, rfl, rfl, rfl, rfl, rfl, rfl, rfl, rfl, rfl, rfl, rfl, rfl, trivial⟩)
theorem newPub1_3_11_27 (mp : Nat) (mq : Nat) (my : Nat)  :
    KS w0 45 (anyC w0 (LB) newPub1_ops K 12 (Ls 37 4193384959)) [(37, .pointer (some ⟨ky, 0, none⟩)), (36, .pointer (some ⟨k3, 3, none⟩)), (35, .pointer (some ⟨k3, 0, none⟩)), (34, .pointer (some ⟨k3, 0, none⟩)), (33, .pointer (some ⟨my, 0, none⟩)), (30, .pointer (some ⟨kg, 0, none⟩)), (29, .pointer (some ⟨k3, 2, none⟩)), (28, .pointer (some ⟨k3, 0, none⟩)), (27, .pointer (some ⟨k3, 0, none⟩)), (26, .pointer (some ⟨k3, 0, none⟩)), (22, .pointer (some ⟨kq, 0, none⟩)), (21, .pointer (some ⟨k3, 1, none⟩)), (20, .pointer (some ⟨k3, 0, none⟩)), (19, .pointer (some ⟨k3, 0, none⟩)), (18, .pointer (some ⟨k3, 0, none⟩)), (17, .pointer (some ⟨mq, 0, none⟩)), (14, .pointer (some ⟨kp, 0, none⟩)), (13, .pointer (some ⟨k3, 0, none⟩)), (12, .pointer (some ⟨k3, 0, none⟩)), (11, .pointer (some ⟨k3, 0, none⟩)), (10, .pointer (some ⟨k3, 0, none⟩)), (9, .pointer (some ⟨mp, 0, none⟩)), (8, .iface 104 (.pointer (some ⟨k3, 0, none⟩))), (7, .pointer (some ⟨k3, 0, none⟩)), (6, .agg (tmC created).toArray), (1, .pointer (some ⟨k3, 0, none⟩)), (2, .pointer (some ⟨k2, 0, none⟩))] ((mp, blk 134 (0, 0) [.slice none 0 0, .int .u16 0]) :: ((mq, blk 134 (0, 0) [.slice none 0 0, .int .u16 0]) :: ((my, blk 134 (0, 0) [.slice none 0 0, .int .u16 0]) :: (LB)))) := by
  refine KN.two (i := 9) (j := 19) (by kernel_rfl) rfl rfl (show _ = (Ls 37 4193385471) by kernel_rfl) ?_ rfl rfl (show _ = (Ls 37 4193909247) by kernel_rfl) ?_
  · skip
    refine OW.call (xs := [.tmp 9, .tmp 14]) Tryz.call51 rfl (fun w hw => setBig_any w0 w _ mp kp (Pb) (by exact hN.p.mono (fun x hx => by simp [hx])) (by decide) (by decide) (HW.take hw)) rfl ?_
    rintro r w' ⟨qp, Bp, rfl, hqp, hBp, hw'⟩
    refine ⟨_, _, rfl, hw', ?_⟩
    refine KN.on (fun _ => Sb.hw) ?_
    refine KN.quiet (i := 10) (ls1 := (Ls 37 4193386495)) newPub1_sel (by kernel_rfl) (by kernel_rfl) (fun _ => Sb.hw) rfl (v_iface Tryz.runUnderlying132 rfl rfl) rfl ?_
    exact KS.mk fun a w hS => (newPub1_3_9_11_27 hk2 hk3 hN hF _ _ _ _ _ hqp hBp).out a w ((hS.heap' (Pm.hw hS.mem)).keep ⟨rfl, rfl, rfl, rfl, rfl, rfl, rfl, rfl, rfl, rfl, rfl, rfl, rfl, rfl, rfl, rfl, rfl, rfl, rfl, rfl, rfl, rfl, rfl, rfl, rfl, rfl, rfl, rfl, rfl, trivial⟩)
  · skip
    refine OW.allocC (vs := [.slice none 0 0, .int .u16 0]) Tryz.zeroValue134 rfl rfl (fun mg => ?_)
    refine KN.on (fun _ => Sb.hw) ?_
    exact KS.mk fun a w hS => (newPub1_3_11_19_27 hk2 hk3 hN hF _ _ _ _ ).out a w ((hS.heap' (Pm.hw hS.mem)).keep ⟨rfl, rfl, rfl, rfl, rfl, rfl, rfl, rfl, rfl, rfl, rfl, rfl, rfl, rfl, rfl, rfl, rfl, rfl, rfl, rfl, rfl, rfl, rfl, rfl, rfl, rfl, rfl, rfl, trivial⟩)
theorem newPub1_3_11_19 (mp : Nat) (mq : Nat) (mg : Nat)  :
    KS w0 45 (anyC w0 (LB) newPub1_ops K 12 (Ls 37 4059691519)) [(37, .pointer (some ⟨ky, 0, none⟩)), (36, .pointer (some ⟨k3, 3, none⟩)), (35, .pointer (some ⟨k3, 0, none⟩)), (34, .pointer (some ⟨k3, 0, none⟩)), (30, .pointer (some ⟨kg, 0, none⟩)), (29, .pointer (some ⟨k3, 2, none⟩)), (28, .pointer (some ⟨k3, 0, none⟩)), (27, .pointer (some ⟨k3, 0, none⟩)), (26, .pointer (some ⟨k3, 0, none⟩)), (25, .pointer (some ⟨mg, 0, none⟩)), (22, .pointer (some ⟨kq, 0, none⟩)), (21, .pointer (some ⟨k3, 1, none⟩)), (20, .pointer (some ⟨k3, 0, none⟩)), (19, .pointer (some ⟨k3, 0, none⟩)), (18, .pointer (some ⟨k3, 0, none⟩)), (17, .pointer (some ⟨mq, 0, none⟩)), (14, .pointer (some ⟨kp, 0, none⟩)), (13, .pointer (some ⟨k3, 0, none⟩)), (12, .pointer (some ⟨k3, 0, none⟩)), (11, .pointer (some ⟨k3, 0, none⟩)), (10, .pointer (some ⟨k3, 0, none⟩)), (9, .pointer (some ⟨mp, 0, none⟩)), (8, .iface 104 (.pointer (some ⟨k3, 0, none⟩))), (7, .pointer (some ⟨k3, 0, none⟩)), (6, .agg (tmC created).toArray), (1, .pointer (some ⟨k3, 0, none⟩)), (2, .pointer (some ⟨k2, 0, none⟩))] ((mp, blk 134 (0, 0) [.slice none 0 0, .int .u16 0]) :: ((mq, blk 134 (0, 0) [.slice none 0 0, .int .u16 0]) :: ((mg, blk 134 (0, 0) [.slice none 0 0, .int .u16 0]) :: (LB)))) := by
  refine KN.two (i := 9) (j := 27) (by kernel_rfl) rfl rfl (show _ = (Ls 37 4059692031) by kernel_rfl) ?_ rfl rfl (show _ = (Ls 37 4193909247) by kernel_rfl) ?_
  · skip
    refine OW.call (xs := [.tmp 9, .tmp 14]) Tryz.call51 rfl (fun w hw => setBig_any w0 w _ mp kp (Pb) (by exact hN.p.mono (fun x hx => by simp [hx])) (by decide) (by decide) (HW.take hw)) rfl ?_
    rintro r w' ⟨qp, Bp, rfl, hqp, hBp, hw'⟩
    refine ⟨_, _, rfl, hw', ?_⟩
    refine KN.on (fun _ => Sb.hw) ?_
    refine KN.quiet (i := 10) (ls1 := (Ls 37 4059693055)) newPub1_sel (by kernel_rfl) (by kernel_rfl) (fun _ => Sb.hw) rfl (v_iface Tryz.runUnderlying132 rfl rfl) rfl ?_
    exact KS.mk fun a w hS => (newPub1_3_9_11_19 hk2 hk3 hN hF _ _ _ _ _ hqp hBp).out a w ((hS.heap' (Pm.hw hS.mem)).keep ⟨rfl, rfl, rfl, rfl, rfl, rfl, rfl, rfl, rfl, rfl, rfl, rfl, rfl, rfl, rfl, rfl, rfl, rfl, rfl, rfl, rfl, rfl, rfl, rfl, rfl, rfl, rfl, rfl, rfl, trivial⟩)
  · skip
    refine OW.allocC (vs := [.slice none 0 0, .int .u16 0]) Tryz.zeroValue134 rfl rfl (fun my => ?_)
    refine KN.on (fun _ => Sb.hw) ?_
    exact KS.mk fun a w hS => (newPub1_3_11_19_27 hk2 hk3 hN hF _ _ _ _ ).out a w ((hS.heap' (Pm.hw hS.mem)).keep ⟨rfl, rfl, rfl, rfl, rfl, rfl, rfl, rfl, rfl, rfl, rfl, rfl, rfl, rfl, rfl, rfl, rfl, rfl, rfl, rfl, rfl, rfl, rfl, rfl, rfl, rfl, rfl, rfl, trivial⟩)
theorem newPub1_3_9 (mp : Nat) (qp : Sl) (Bp : Heap) (hqp : qp.2.2 = sigL (Pb)) (hBp : Lies Bp qp) :
    KS w0 45 (anyC w0 (LB) newPub1_ops K 12 (Ls 37 4059166719)) [(37, .pointer (some ⟨ky, 0, none⟩)), (36, .pointer (some ⟨k3, 3, none⟩)), (35, .pointer (some ⟨k3, 0, none⟩)), (34, .pointer (some ⟨k3, 0, none⟩)), (30, .pointer (some ⟨kg, 0, none⟩)), (29, .pointer (some ⟨k3, 2, none⟩)), (28, .pointer (some ⟨k3, 0, none⟩)), (27, .pointer (some ⟨k3, 0, none⟩)), (26, .pointer (some ⟨k3, 0, none⟩)), (22, .pointer (some ⟨kq, 0, none⟩)), (21, .pointer (some ⟨k3, 1, none⟩)), (20, .pointer (some ⟨k3, 0, none⟩)), (19, .pointer (some ⟨k3, 0, none⟩)), (18, .pointer (some ⟨k3, 0, none⟩)), (16, .iface 132 (.pointer (some ⟨mp, 0, none⟩))), (15, .pointer (some ⟨mp, 0, none⟩)), (14, .pointer (some ⟨kp, 0, none⟩)), (13, .pointer (some ⟨k3, 0, none⟩)), (12, .pointer (some ⟨k3, 0, none⟩)), (11, .pointer (some ⟨k3, 0, none⟩)), (10, .pointer (some ⟨k3, 0, none⟩)), (9, .pointer (some ⟨mp, 0, none⟩)), (8, .iface 104 (.pointer (some ⟨k3, 0, none⟩))), (7, .pointer (some ⟨k3, 0, none⟩)), (6, .agg (tmC created).toArray), (1, .pointer (some ⟨k3, 0, none⟩)), (2, .pointer (some ⟨k2, 0, none⟩))] (Bp ++ ((mp, blk 134 (0, 0) [slV qp, .int .u16 (bitsN (Pb) : Int)]) :: (LB))) := by
  refine KN.three (i := 11) (j := 19) (k := 27) (by kernel_rfl) rfl rfl (show _ = (Ls 37 4059168767) by kernel_rfl) ?_ rfl rfl (show _ = (Ls 37 4059691007) by kernel_rfl) ?_ rfl rfl (show _ = (Ls 37 4193384447) by kernel_rfl) ?_
  · skip
    refine OW.allocC (vs := [.slice none 0 0, .int .u16 0]) Tryz.zeroValue134 rfl rfl (fun mq => ?_)
    refine KN.on (fun _ => Sb.hw) ?_
    exact KS.mk fun a w hS => (newPub1_3_9_11 hk2 hk3 hN hF _ _ _ _ hqp hBp).out a w ((hS.heap' (Pm.hw hS.mem)).keep ⟨rfl, rfl, rfl, rfl, rfl, rfl, rfl, rfl, rfl, rfl, rfl, rfl, rfl, rfl, rfl, rfl, rfl, rfl, rfl, rfl, rfl, rfl, rfl, rfl, rfl, rfl, rfl, rfl, trivial⟩)
  · skip
    refine OW.allocC (vs := [.slice none 0 0, .int .u16 0]) Tryz.zeroValue134 rfl rfl (fun mg => ?_)
    refine KN.on (fun _ => Sb.hw) ?_
    exact KS.mk fun a w hS => (newPub1_3_9_19 hk2 hk3 hN hF _ _ _ _ hqp hBp).out a w ((hS.heap' (Pm.hw hS.mem)).keep ⟨rfl, rfl, rfl, rfl, rfl, rfl, rfl, rfl, rfl, rfl, rfl, rfl, rfl, rfl, rfl, rfl, rfl, rfl, rfl, rfl, rfl, rfl, rfl, rfl, rfl, rfl, rfl, rfl, trivial⟩)
  · skip
    refine OW.allocC (vs := [.slice none 0 0, .int .u16 0]) Tryz.zeroValue134 rfl rfl (fun my => ?_)
    refine KN.on (fun _ => Sb.hw) ?_
    exact KS.mk fun a w hS => (newPub1_3_9_27 hk2 hk3 hN hF _ _ _ _ hqp hBp).out a w ((hS.heap' (Pm.hw hS.mem)).keep ⟨rfl, rfl, rfl, rfl, rfl, rfl, rfl, rfl, rfl, rfl, rfl, rfl, rfl, rfl, rfl, rfl, rfl, rfl, rfl, rfl, rfl, rfl, rfl, rfl, rfl, rfl, rfl, rfl, trivial⟩)
theorem newPub1_19_27 (mg : Nat) (my : Nat)  :
    KS w0 45 (anyC w0 (LB) newPub1_ops K 13 (Ls 37 4193907191)) [(37, .pointer (some ⟨ky, 0, none⟩)), (36, .pointer (some ⟨k3, 3, none⟩)), (35, .pointer (some ⟨k3, 0, none⟩)), (34, .pointer (some ⟨k3, 0, none⟩)), (33, .pointer (some ⟨my, 0, none⟩)), (30, .pointer (some ⟨kg, 0, none⟩)), (29, .pointer (some ⟨k3, 2, none⟩)), (28, .pointer (some ⟨k3, 0, none⟩)), (27, .pointer (some ⟨k3, 0, none⟩)), (26, .pointer (some ⟨k3, 0, none⟩)), (25, .pointer (some ⟨mg, 0, none⟩)), (22, .pointer (some ⟨kq, 0, none⟩)), (21, .pointer (some ⟨k3, 1, none⟩)), (20, .pointer (some ⟨k3, 0, none⟩)), (19, .pointer (some ⟨k3, 0, none⟩)), (18, .pointer (some ⟨k3, 0, none⟩)), (14, .pointer (some ⟨kp, 0, none⟩)), (13, .pointer (some ⟨k3, 0, none⟩)), (12, .pointer (some ⟨k3, 0, none⟩)), (11, .pointer (some ⟨k3, 0, none⟩)), (10, .pointer (some ⟨k3, 0, none⟩)), (8, .iface 104 (.pointer (some ⟨k3, 0, none⟩))), (7, .pointer (some ⟨k3, 0, none⟩)), (6, .agg (tmC created).toArray), (1, .pointer (some ⟨k3, 0, none⟩)), (2, .pointer (some ⟨k2, 0, none⟩))] ((mg, blk 134 (0, 0) [.slice none 0 0, .int .u16 0]) :: ((my, blk 134 (0, 0) [.slice none 0 0, .int .u16 0]) :: (LB))) := by
  refine KN.two (i := 3) (j := 11) (by kernel_rfl) rfl rfl (show _ = (Ls 37 4193907199) by kernel_rfl) ?_ rfl rfl (show _ = (Ls 37 4193909239) by kernel_rfl) ?_
  · skip
    refine OW.allocC (vs := [.slice none 0 0, .int .u16 0]) Tryz.zeroValue134 rfl rfl (fun mp => ?_)
    refine KN.on (fun _ => Sb.hw) ?_
    exact KS.mk fun a w hS => (newPub1_3_19_27 hk2 hk3 hN hF _ _ _ ).out a w ((hS.heap' (Pm.hw hS.mem)).keep ⟨rfl, rfl, rfl, rfl, rfl, rfl, rfl, rfl, rfl, rfl, rfl, rfl, rfl, rfl, rfl, rfl, rfl, rfl, rfl, rfl, rfl, rfl, rfl, rfl, rfl, rfl, rfl, trivial⟩)
  · skip
    refine OW.allocC (vs := [.slice none 0 0, .int .u16 0]) Tryz.zeroValue134 rfl rfl (fun mq => ?_)
    refine KN.on (fun _ => Sb.hw) ?_
    exact KS.mk fun a w hS => (newPub1_11_19_27 hk2 hk3 hN hF _ _ _ ).out a w ((hS.heap' (Pm.hw hS.mem)).keep ⟨rfl, rfl, rfl, rfl, rfl, rfl, rfl, rfl, rfl, rfl, rfl, rfl, rfl, rfl, rfl, rfl, rfl, rfl, rfl, rfl, rfl, rfl, rfl, rfl, rfl, rfl, rfl, trivial⟩)
theorem newPub1_11_27 (mq : Nat) (my : Nat)  :
    KS w0 45 (anyC w0 (LB) newPub1_ops K 13 (Ls 37 4193384951)) [(37, .pointer (some ⟨ky, 0, none⟩)), (36, .pointer (some ⟨k3, 3, none⟩)), (35, .pointer (some ⟨k3, 0, none⟩)), (34, .pointer (some ⟨k3, 0, none⟩)), (33, .pointer (some ⟨my, 0, none⟩)), (30, .pointer (some ⟨kg, 0, none⟩)), (29, .pointer (some ⟨k3, 2, none⟩)), (28, .pointer (some ⟨k3, 0, none⟩)), (27, .pointer (some ⟨k3, 0, none⟩)), (26, .pointer (some ⟨k3, 0, none⟩)), (22, .pointer (some ⟨kq, 0, none⟩)), (21, .pointer (some ⟨k3, 1, none⟩)), (20, .pointer (some ⟨k3, 0, none⟩)), (19, .pointer (some ⟨k3, 0, none⟩)), (18, .pointer (some ⟨k3, 0, none⟩)), (17, .pointer (some ⟨mq, 0, none⟩)), (14, .pointer (some ⟨kp, 0, none⟩)), (13, .pointer (some ⟨k3, 0, none⟩)), (12, .pointer (some ⟨k3, 0, none⟩)), (11, .pointer (some ⟨k3, 0, none⟩)), (10, .pointer (some ⟨k3, 0, none⟩)), (8, .iface 104 (.pointer (some ⟨k3, 0, none⟩))), (7, .pointer (some ⟨k3, 0, none⟩)), (6, .agg (tmC created).toArray), (1, .pointer (some ⟨k3, 0, none⟩)), (2, .pointer (some ⟨k2, 0, none⟩))] ((mq, blk 134 (0, 0) [.slice none 0 0, .int .u16 0]) :: ((my, blk 134 (0, 0) [.slice none 0 0, .int .u16 0]) :: (LB))) := by
  refine KN.two (i := 3) (j := 19) (by kernel_rfl) rfl rfl (show _ = (Ls 37 4193384959) by kernel_rfl) ?_ rfl rfl (show _ = (Ls 37 4193909239) by kernel_rfl) ?_
  · skip
    refine OW.allocC (vs := [.slice none 0 0, .int .u16 0]) Tryz.zeroValue134 rfl rfl (fun mp => ?_)
    refine KN.on (fun _ => Sb.hw) ?_
    exact KS.mk fun a w hS => (newPub1_3_11_27 hk2 hk3 hN hF _ _ _ ).out a w ((hS.heap' (Pm.hw hS.mem)).keep ⟨rfl, rfl, rfl, rfl, rfl, rfl, rfl, rfl, rfl, rfl, rfl, rfl, rfl, rfl, rfl, rfl, rfl, rfl, rfl, rfl, rfl, rfl, rfl, rfl, rfl, rfl, rfl, trivial⟩)
  · skip
    refine OW.allocC (vs := [.slice none 0 0, .int .u16 0]) Tryz.zeroValue134 rfl rfl (fun mg => ?_)
    refine KN.on (fun _ => Sb.hw) ?_
    exact KS.mk fun a w hS => (newPub1_11_19_27 hk2 hk3 hN hF _ _ _ ).out a w ((hS.heap' (Pm.hw hS.mem)).keep ⟨rfl, rfl, rfl, rfl, rfl, rfl, rfl, rfl, rfl, rfl, rfl, rfl, rfl, rfl, rfl, rfl, rfl, rfl, rfl, rfl, rfl, rfl, rfl, rfl, rfl, rfl, rfl, trivial⟩)
theorem newPub1_3_27 (mp : Nat) (my : Nat)  :
    KS w0 45 (anyC w0 (LB) newPub1_ops K 13 (Ls 37 4193382911)) [(37, .pointer (some ⟨ky, 0, none⟩)), (36, .pointer (some ⟨k3, 3, none⟩)), (35, .pointer (some ⟨k3, 0, none⟩)), (34, .pointer (some ⟨k3, 0, none⟩)), (33, .pointer (some ⟨my, 0, none⟩)), (30, .pointer (some ⟨kg, 0, none⟩)), (29, .pointer (some ⟨k3, 2, none⟩)), (28, .pointer (some ⟨k3, 0, none⟩)), (27, .pointer (some ⟨k3, 0, none⟩)), (26, .pointer (some ⟨k3, 0, none⟩)), (22, .pointer (some ⟨kq, 0, none⟩)), (21, .pointer (some ⟨k3, 1, none⟩)), (20, .pointer (some ⟨k3, 0, none⟩)), (19, .pointer (some ⟨k3, 0, none⟩)), (18, .pointer (some ⟨k3, 0, none⟩)), (14, .pointer (some ⟨kp, 0, none⟩)), (13, .pointer (some ⟨k3, 0, none⟩)), (12, .pointer (some ⟨k3, 0, none⟩)), (11, .pointer (some ⟨k3, 0, none⟩)), (10, .pointer (some ⟨k3, 0, none⟩)), (9, .pointer (some ⟨mp, 0, none⟩)), (8, .iface 104 (.pointer (some ⟨k3, 0, none⟩))), (7, .pointer (some ⟨k3, 0, none⟩)), (6, .agg (tmC created).toArray), (1, .pointer (some ⟨k3, 0, none⟩)), (2, .pointer (some ⟨k2, 0, none⟩))] ((mp, blk 134 (0, 0) [.slice none 0 0, .int .u16 0]) :: ((my, blk 134 (0, 0) [.slice none 0 0, .int .u16 0]) :: (LB))) := by
  refine KN.three (i := 9) (j := 11) (k := 19) (by kernel_rfl) rfl rfl (show _ = (Ls 37 4193383423) by kernel_rfl) ?_ rfl rfl (show _ = (Ls 37 4193384959) by kernel_rfl) ?_ rfl rfl (show _ = (Ls 37 4193907199) by kernel_rfl) ?_
  · skip
    refine OW.call (xs := [.tmp 9, .tmp 14]) Tryz.call51 rfl (fun w hw => setBig_any w0 w _ mp kp (Pb) (by exact hN.p.mono (fun x hx => by simp [hx])) (by decide) (by decide) (HW.take hw)) rfl ?_
    rintro r w' ⟨qp, Bp, rfl, hqp, hBp, hw'⟩
    refine ⟨_, _, rfl, hw', ?_⟩
    refine KN.on (fun _ => Sb.hw) ?_
    refine KN.quiet (i := 10) (ls1 := (Ls 37 4193384447)) newPub1_sel (by kernel_rfl) (by kernel_rfl) (fun _ => Sb.hw) rfl (v_iface Tryz.runUnderlying132 rfl rfl) rfl ?_
    exact KS.mk fun a w hS => (newPub1_3_9_27 hk2 hk3 hN hF _ _ _ _ hqp hBp).out a w ((hS.heap' (Pm.hw hS.mem)).keep ⟨rfl, rfl, rfl, rfl, rfl, rfl, rfl, rfl, rfl, rfl, rfl, rfl, rfl, rfl, rfl, rfl, rfl, rfl, rfl, rfl, rfl, rfl, rfl, rfl, rfl, rfl, rfl, rfl, trivial⟩)
  · skip
    refine OW.allocC (vs := [.slice none 0 0, .int .u16 0]) Tryz.zeroValue134 rfl rfl (fun mq => ?_)
    refine KN.on (fun _ => Sb.hw) ?_
    exact KS.mk fun a w hS => (newPub1_3_11_27 hk2 hk3 hN hF _ _ _ ).out a w ((hS.heap' (Pm.hw hS.mem)).keep ⟨rfl, rfl, rfl, rfl, rfl, rfl, rfl, rfl, rfl, rfl, rfl, rfl, rfl, rfl, rfl, rfl, rfl, rfl, rfl, rfl, rfl, rfl, rfl, rfl, rfl, rfl, rfl, trivial⟩)
  · skip
    refine OW.allocC (vs := [.slice none 0 0, .int .u16 0]) Tryz.zeroValue134 rfl rfl (fun mg => ?_)
    refine KN.on (fun _ => Sb.hw) ?_
    exact KS.mk fun a w hS => (newPub1_3_19_27 hk2 hk3 hN hF _ _ _ ).out a w ((hS.heap' (Pm.hw hS.mem)).keep ⟨rfl, rfl, rfl, rfl, rfl, rfl, rfl, rfl, rfl, rfl, rfl, rfl, rfl, rfl, rfl, rfl, rfl, rfl, rfl, rfl, rfl, rfl, rfl, rfl, rfl, rfl, rfl, trivial⟩)
theorem newPub1_11_19 (mq : Nat) (mg : Nat)  :
    KS w0 45 (anyC w0 (LB) newPub1_ops K 13 (Ls 37 4059691511)) [(37, .pointer (some ⟨ky, 0, none⟩)), (36, .pointer (some ⟨k3, 3, none⟩)), (35, .pointer (some ⟨k3, 0, none⟩)), (34, .pointer (some ⟨k3, 0, none⟩)), (30, .pointer (some ⟨kg, 0, none⟩)), (29, .pointer (some ⟨k3, 2, none⟩)), (28, .pointer (some ⟨k3, 0, none⟩)), (27, .pointer (some ⟨k3, 0, none⟩)), (26, .pointer (some ⟨k3, 0, none⟩)), (25, .pointer (some ⟨mg, 0, none⟩)), (22, .pointer (some ⟨kq, 0, none⟩)), (21, .pointer (some ⟨k3, 1, none⟩)), (20, .pointer (some ⟨k3, 0, none⟩)), (19, .pointer (some ⟨k3, 0, none⟩)), (18, .pointer (some ⟨k3, 0, none⟩)), (17, .pointer (some ⟨mq, 0, none⟩)), (14, .pointer (some ⟨kp, 0, none⟩)), (13, .pointer (some ⟨k3, 0, none⟩)), (12, .pointer (some ⟨k3, 0, none⟩)), (11, .pointer (some ⟨k3, 0, none⟩)), (10, .pointer (some ⟨k3, 0, none⟩)), (8, .iface 104 (.pointer (some ⟨k3, 0, none⟩))), (7, .pointer (some ⟨k3, 0, none⟩)), (6, .agg (tmC created).toArray), (1, .pointer (some ⟨k3, 0, none⟩)), (2, .pointer (some ⟨k2, 0, none⟩))] ((mq, blk 134 (0, 0) [.slice none 0 0, .int .u16 0]) :: ((mg, blk 134 (0, 0) [.slice none 0 0, .int .u16 0]) :: (LB))) := by
  refine KN.two (i := 3) (j := 27) (by kernel_rfl) rfl rfl (show _ = (Ls 37 4059691519) by kernel_rfl) ?_ rfl rfl (show _ = (Ls 37 4193909239) by kernel_rfl) ?_
  · skip
    refine OW.allocC (vs := [.slice none 0 0, .int .u16 0]) Tryz.zeroValue134 rfl rfl (fun mp => ?_)
    refine KN.on (fun _ => Sb.hw) ?_
    exact KS.mk fun a w hS => (newPub1_3_11_19 hk2 hk3 hN hF _ _ _ ).out a w ((hS.heap' (Pm.hw hS.mem)).keep ⟨rfl, rfl, rfl, rfl, rfl, rfl, rfl, rfl, rfl, rfl, rfl, rfl, rfl, rfl, rfl, rfl, rfl, rfl, rfl, rfl, rfl, rfl, rfl, rfl, rfl, rfl, rfl, trivial⟩)
  · skip
    refine OW.allocC (vs := [.slice none 0 0, .int .u16 0]) Tryz.zeroValue134 rfl rfl (fun my => ?_)
    refine KN.on (fun _ => Sb.hw) ?_
    exact KS.mk fun a w hS => (newPub1_11_19_27 hk2 hk3 hN hF _ _ _ ).out a w ((hS.heap' (Pm.hw hS.mem)).keep ⟨rfl, rfl, rfl, rfl, rfl, rfl, rfl, rfl, rfl, rfl, rfl, rfl, rfl, rfl, rfl, rfl, rfl, rfl, rfl, rfl, rfl, rfl, rfl, rfl, rfl, rfl, rfl, trivial⟩)
theorem newPub1_3_19 (mp : Nat) (mg : Nat)  :
    KS w0 45 (anyC w0 (LB) newPub1_ops K 13 (Ls 37 4059689471)) [(37, .pointer (some ⟨ky, 0, none⟩)), (36, .pointer (some ⟨k3, 3, none⟩)), (35, .pointer (some ⟨k3, 0, none⟩)), (34, .pointer (some ⟨k3, 0, none⟩)), (30, .pointer (some ⟨kg, 0, none⟩)), (29, .pointer (some ⟨k3, 2, none⟩)), (28, .pointer (some ⟨k3, 0, none⟩)), (27, .pointer (some ⟨k3, 0, none⟩)), (26, .pointer (some ⟨k3, 0, none⟩)), (25, .pointer (some ⟨mg, 0, none⟩)), (22, .pointer (some ⟨kq, 0, none⟩)), (21, .pointer (some ⟨k3, 1, none⟩)), (20, .pointer (some ⟨k3, 0, none⟩)), (19, .pointer (some ⟨k3, 0, none⟩)), (18, .pointer (some ⟨k3, 0, none⟩)), (14, .pointer (some ⟨kp, 0, none⟩)), (13, .pointer (some ⟨k3, 0, none⟩)), (12, .pointer (some ⟨k3, 0, none⟩)), (11, .pointer (some ⟨k3, 0, none⟩)), (10, .pointer (some ⟨k3, 0, none⟩)), (9, .pointer (some ⟨mp, 0, none⟩)), (8, .iface 104 (.pointer (some ⟨k3, 0, none⟩))), (7, .pointer (some ⟨k3, 0, none⟩)), (6, .agg (tmC created).toArray), (1, .pointer (some ⟨k3, 0, none⟩)), (2, .pointer (some ⟨k2, 0, none⟩))] ((mp, blk 134 (0, 0) [.slice none 0 0, .int .u16 0]) :: ((mg, blk 134 (0, 0) [.slice none 0 0, .int .u16 0]) :: (LB))) := by
  refine KN.three (i := 9) (j := 11) (k := 27) (by kernel_rfl) rfl rfl (show _ = (Ls 37 4059689983) by kernel_rfl) ?_ rfl rfl (show _ = (Ls 37 4059691519) by kernel_rfl) ?_ rfl rfl (show _ = (Ls 37 4193907199) by kernel_rfl) ?_
  · skip
    refine OW.call (xs := [.tmp 9, .tmp 14]) Tryz.call51 rfl (fun w hw => setBig_any w0 w _ mp kp (Pb) (by exact hN.p.mono (fun x hx => by simp [hx])) (by decide) (by decide) (HW.take hw)) rfl ?_
    rintro r w' ⟨qp, Bp, rfl, hqp, hBp, hw'⟩
    refine ⟨_, _, rfl, hw', ?_⟩
    refine KN.on (fun _ => Sb.hw) ?_
    refine KN.quiet (i := 10) (ls1 := (Ls 37 4059691007)) newPub1_sel (by kernel_rfl) (by kernel_rfl) (fun _ => Sb.hw) rfl (v_iface Tryz.runUnderlying132 rfl rfl) rfl ?_
    exact KS.mk fun a w hS => (newPub1_3_9_19 hk2 hk3 hN hF _ _ _ _ hqp hBp).out a w ((hS.heap' (Pm.hw hS.mem)).keep ⟨rfl, rfl, rfl, rfl, rfl, rfl, rfl, rfl, rfl, rfl, rfl, rfl, rfl, rfl, rfl, rfl, rfl, rfl, rfl, rfl, rfl, rfl, rfl, rfl, rfl, rfl, rfl, rfl, trivial⟩)
  · skip
    refine OW.allocC (vs := [.slice none 0 0, .int .u16 0]) Tryz.zeroValue134 rfl rfl (fun mq => ?_)
    refine KN.on (fun _ => Sb.hw) ?_
    exact KS.mk fun a w hS => (newPub1_3_11_19 hk2 hk3 hN hF _ _ _ ).out a w ((hS.heap' (Pm.hw hS.mem)).keep ⟨rfl, rfl, rfl, rfl, rfl, rfl, rfl, rfl, rfl, rfl, rfl, rfl, rfl, rfl, rfl, rfl, rfl, rfl, rfl, rfl, rfl, rfl, rfl, rfl, rfl, rfl, rfl, trivial⟩)
  · skip
    refine OW.allocC (vs := [.slice none 0 0, .int .u16 0]) Tryz.zeroValue134 rfl rfl (fun my => ?_)
    refine KN.on (fun _ => Sb.hw) ?_
    exact KS.mk fun a w hS => (newPub1_3_19_27 hk2 hk3 hN hF _ _ _ ).out a w ((hS.heap' (Pm.hw hS.mem)).keep ⟨rfl, rfl, rfl, rfl, rfl, rfl, rfl, rfl, rfl, rfl, rfl, rfl, rfl, rfl, rfl, rfl, rfl, rfl, rfl, rfl, rfl, rfl, rfl, rfl, rfl, rfl, rfl, trivial⟩)
theorem newPub1_3_11 (mp : Nat) (mq : Nat)  :
    KS w0 45 (anyC w0 (LB) newPub1_ops K 13 (Ls 37 4059167231)) [(37, .pointer (some ⟨ky, 0, none⟩)), (36, .pointer (some ⟨k3, 3, none⟩)), (35, .pointer (some ⟨k3, 0, none⟩)), (34, .pointer (some ⟨k3, 0, none⟩)), (30, .pointer (some ⟨kg, 0, none⟩)), (29, .pointer (some ⟨k3, 2, none⟩)), (28, .pointer (some ⟨k3, 0, none⟩)), (27, .pointer (some ⟨k3, 0, none⟩)), (26, .pointer (some ⟨k3, 0, none⟩)), (22, .pointer (some ⟨kq, 0, none⟩)), (21, .pointer (some ⟨k3, 1, none⟩)), (20, .pointer (some ⟨k3, 0, none⟩)), (19, .pointer (some ⟨k3, 0, none⟩)), (18, .pointer (some ⟨k3, 0, none⟩)), (17, .pointer (some ⟨mq, 0, none⟩)), (14, .pointer (some ⟨kp, 0, none⟩)), (13, .pointer (some ⟨k3, 0, none⟩)), (12, .pointer (some ⟨k3, 0, none⟩)), (11, .pointer (some ⟨k3, 0, none⟩)), (10, .pointer (some ⟨k3, 0, none⟩)), (9, .pointer (some ⟨mp, 0, none⟩)), (8, .iface 104 (.pointer (some ⟨k3, 0, none⟩))), (7, .pointer (some ⟨k3, 0, none⟩)), (6, .agg (tmC created).toArray), (1, .pointer (some ⟨k3, 0, none⟩)), (2, .pointer (some ⟨k2, 0, none⟩))] ((mp, blk 134 (0, 0) [.slice none 0 0, .int .u16 0]) :: ((mq, blk 134 (0, 0) [.slice none 0 0, .int .u16 0]) :: (LB))) := by
  refine KN.three (i := 9) (j := 19) (k := 27) (by kernel_rfl) rfl rfl (show _ = (Ls 37 4059167743) by kernel_rfl) ?_ rfl rfl (show _ = (Ls 37 4059691519) by kernel_rfl) ?_ rfl rfl (show _ = (Ls 37 4193384959) by kernel_rfl) ?_
  · skip
    refine OW.call (xs := [.tmp 9, .tmp 14]) Tryz.call51 rfl (fun w hw => setBig_any w0 w _ mp kp (Pb) (by exact hN.p.mono (fun x hx => by simp [hx])) (by decide) (by decide) (HW.take hw)) rfl ?_
    rintro r w' ⟨qp, Bp, rfl, hqp, hBp, hw'⟩
    refine ⟨_, _, rfl, hw', ?_⟩
    refine KN.on (fun _ => Sb.hw) ?_
    refine KN.quiet (i := 10) (ls1 := (Ls 37 4059168767)) newPub1_sel (by kernel_rfl) (by kernel_rfl) (fun _ => Sb.hw) rfl (v_iface Tryz.runUnderlying132 rfl rfl) rfl ?_
    exact KS.mk fun a w hS => (newPub1_3_9_11 hk2 hk3 hN hF _ _ _ _ hqp hBp).out a w ((hS.heap' (Pm.hw hS.mem)).keep ⟨rfl, rfl, rfl, rfl, rfl, rfl, rfl, rfl, rfl, rfl, rfl, rfl, rfl, rfl, rfl, rfl, rfl, rfl, rfl, rfl, rfl, rfl, rfl, rfl, rfl, rfl, rfl, rfl, trivial⟩)
  · skip
    refine OW.allocC (vs := [.slice none 0 0, .int .u16 0]) Tryz.zeroValue134 rfl rfl (fun mg => ?_)
    refine KN.on (fun _ => Sb.hw) ?_
    exact KS.mk fun a w hS => (newPub1_3_11_19 hk2 hk3 hN hF _ _ _ ).out a w ((hS.heap' (Pm.hw hS.mem)).keep ⟨rfl, rfl, rfl, rfl, rfl, rfl, rfl, rfl, rfl, rfl, rfl, rfl, rfl, rfl, rfl, rfl, rfl, rfl, rfl, rfl, rfl, rfl, rfl, rfl, rfl, rfl, rfl, trivial⟩)
  · skip
    refine OW.allocC (vs := [.slice none 0 0, .int .u16 0]) Tryz.zeroValue134 rfl rfl (fun my => ?_)
    refine KN.on (fun _ => Sb.hw) ?_
    exact KS.mk fun a w hS => (newPub1_3_11_27 hk2 hk3 hN hF _ _ _ ).out a w ((hS.heap' (Pm.hw hS.mem)).keep ⟨rfl, rfl, rfl, rfl, rfl, rfl, rfl, rfl, rfl, rfl, rfl, rfl, rfl, rfl, rfl, rfl, rfl, rfl, rfl, rfl, rfl, rfl, rfl, rfl, rfl, rfl, rfl, trivial⟩)
theorem newPub1_27 (my : Nat)  :
    KS w0 45 (anyC w0 (LB) newPub1_ops K 14 (Ls 37 4193382903)) [(37, .pointer (some ⟨ky, 0, none⟩)), (36, .pointer (some ⟨k3, 3, none⟩)), (35, .pointer (some ⟨k3, 0, none⟩)), (34, .pointer (some ⟨k3, 0, none⟩)), (33, .pointer (some ⟨my, 0, none⟩)), (30, .pointer (some ⟨kg, 0, none⟩)), (29, .pointer (some ⟨k3, 2, none⟩)), (28, .pointer (some ⟨k3, 0, none⟩)), (27, .pointer (some ⟨k3, 0, none⟩)), (26, .pointer (some ⟨k3, 0, none⟩)), (22, .pointer (some ⟨kq, 0, none⟩)), (21, .pointer (some ⟨k3, 1, none⟩)), (20, .pointer (some ⟨k3, 0, none⟩)), (19, .pointer (some ⟨k3, 0, none⟩)), (18, .pointer (some ⟨k3, 0, none⟩)), (14, .pointer (some ⟨kp, 0, none⟩)), (13, .pointer (some ⟨k3, 0, none⟩)), (12, .pointer (some ⟨k3, 0, none⟩)), (11, .pointer (some ⟨k3, 0, none⟩)), (10, .pointer (some ⟨k3, 0, none⟩)), (8, .iface 104 (.pointer (some ⟨k3, 0, none⟩))), (7, .pointer (some ⟨k3, 0, none⟩)), (6, .agg (tmC created).toArray), (1, .pointer (some ⟨k3, 0, none⟩)), (2, .pointer (some ⟨k2, 0, none⟩))] ((my, blk 134 (0, 0) [.slice none 0 0, .int .u16 0]) :: (LB)) := by
  refine KN.three (i := 3) (j := 11) (k := 19) (by kernel_rfl) rfl rfl (show _ = (Ls 37 4193382911) by kernel_rfl) ?_ rfl rfl (show _ = (Ls 37 4193384951) by kernel_rfl) ?_ rfl rfl (show _ = (Ls 37 4193907191) by kernel_rfl) ?_
  · skip
    refine OW.allocC (vs := [.slice none 0 0, .int .u16 0]) Tryz.zeroValue134 rfl rfl (fun mp => ?_)
    refine KN.on (fun _ => Sb.hw) ?_
    exact KS.mk fun a w hS => (newPub1_3_27 hk2 hk3 hN hF _ _ ).out a w ((hS.heap' (Pm.hw hS.mem)).keep ⟨rfl, rfl, rfl, rfl, rfl, rfl, rfl, rfl, rfl, rfl, rfl, rfl, rfl, rfl, rfl, rfl, rfl, rfl, rfl, rfl, rfl, rfl, rfl, rfl, rfl, rfl, trivial⟩)
  · skip
    refine OW.allocC (vs := [.slice none 0 0, .int .u16 0]) Tryz.zeroValue134 rfl rfl (fun mq => ?_)
    refine KN.on (fun _ => Sb.hw) ?_
    exact KS.mk fun a w hS => (newPub1_11_27 hk2 hk3 hN hF _ _ ).out a w ((hS.heap' (Pm.hw hS.mem)).keep ⟨rfl, rfl, rfl, rfl, rfl, rfl, rfl, rfl, rfl, rfl, rfl, rfl, rfl, rfl, rfl, rfl, rfl, rfl, rfl, rfl, rfl, rfl, rfl, rfl, rfl, rfl, trivial⟩)
  · skip
    refine OW.allocC (vs := [.slice none 0 0, .int .u16 0]) Tryz.zeroValue134 rfl rfl (fun mg => ?_)
    refine KN.on (fun _ => Sb.hw) ?_
    exact KS.mk fun a w hS => (newPub1_19_27 hk2 hk3 hN hF _ _ ).out a w ((hS.heap' (Pm.hw hS.mem)).keep ⟨rfl, rfl, rfl, rfl, rfl, rfl, rfl, rfl, rfl, rfl, rfl, rfl, rfl, rfl, rfl, rfl, rfl, rfl, rfl, rfl, rfl, rfl, rfl, rfl, rfl, rfl, trivial⟩)
theorem newPub1_19 (mg : Nat)  :
    KS w0 45 (anyC w0 (LB) newPub1_ops K 14 (Ls 37 4059689463)) [(37, .pointer (some ⟨ky, 0, none⟩)), (36, .pointer (some ⟨k3, 3, none⟩)), (35, .pointer (some ⟨k3, 0, none⟩)), (34, .pointer (some ⟨k3, 0, none⟩)), (30, .pointer (some ⟨kg, 0, none⟩)), (29, .pointer (some ⟨k3, 2, none⟩)), (28, .pointer (some ⟨k3, 0, none⟩)), (27, .pointer (some ⟨k3, 0, none⟩)), (26, .pointer (some ⟨k3, 0, none⟩)), (25, .pointer (some ⟨mg, 0, none⟩)), (22, .pointer (some ⟨kq, 0, none⟩)), (21, .pointer (some ⟨k3, 1, none⟩)), (20, .pointer (some ⟨k3, 0, none⟩)), (19, .pointer (some ⟨k3, 0, none⟩)), (18, .pointer (some ⟨k3, 0, none⟩)), (14, .pointer (some ⟨kp, 0, none⟩)), (13, .pointer (some ⟨k3, 0, none⟩)), (12, .pointer (some ⟨k3, 0, none⟩)), (11, .pointer (some ⟨k3, 0, none⟩)), (10, .pointer (some ⟨k3, 0, none⟩)), (8, .iface 104 (.pointer (some ⟨k3, 0, none⟩))), (7, .pointer (some ⟨k3, 0, none⟩)), (6, .agg (tmC created).toArray), (1, .pointer (some ⟨k3, 0, none⟩)), (2, .pointer (some ⟨k2, 0, none⟩))] ((mg, blk 134 (0, 0) [.slice none 0 0, .int .u16 0]) :: (LB)) := by
  refine KN.three (i := 3) (j := 11) (k := 27) (by kernel_rfl) rfl rfl (show _ = (Ls 37 4059689471) by kernel_rfl) ?_ rfl rfl (show _ = (Ls 37 4059691511) by kernel_rfl) ?_ rfl rfl (show _ = (Ls 37 4193907191) by kernel_rfl) ?_
  · skip
    refine OW.allocC (vs := [.slice none 0 0, .int .u16 0]) Tryz.zeroValue134 rfl rfl (fun mp => ?_)
    refine KN.on (fun _ => Sb.hw) ?_
    exact KS.mk fun a w hS => (newPub1_3_19 hk2 hk3 hN hF _ _ ).out a w ((hS.heap' (Pm.hw hS.mem)).keep ⟨rfl, rfl, rfl, rfl, rfl, rfl, rfl, rfl, rfl, rfl, rfl, rfl, rfl, rfl, rfl, rfl, rfl, rfl, rfl, rfl, rfl, rfl, rfl, rfl, rfl, rfl, trivial⟩)
  · skip
    refine OW.allocC (vs := [.slice none 0 0, .int .u16 0]) Tryz.zeroValue134 rfl rfl (fun mq => ?_)
    refine KN.on (fun _ => Sb.hw) ?_
    exact KS.mk fun a w hS => (newPub1_11_19 hk2 hk3 hN hF _ _ ).out a w ((hS.heap' (Pm.hw hS.mem)).keep ⟨rfl, rfl, rfl, rfl, rfl, rfl, rfl, rfl, rfl, rfl, rfl, rfl, rfl, rfl, rfl, rfl, rfl, rfl, rfl, rfl, rfl, rfl, rfl, rfl, rfl, rfl, trivial⟩)
  · skip
    refine OW.allocC (vs := [.slice none 0 0, .int .u16 0]) Tryz.zeroValue134 rfl rfl (fun my => ?_)
    refine KN.on (fun _ => Sb.hw) ?_
    exact KS.mk fun a w hS => (newPub1_19_27 hk2 hk3 hN hF _ _ ).out a w ((hS.heap' (Pm.hw hS.mem)).keep ⟨rfl, rfl, rfl, rfl, rfl, rfl, rfl, rfl, rfl, rfl, rfl, rfl, rfl, rfl, rfl, rfl, rfl, rfl, rfl, rfl, rfl, rfl, rfl, rfl, rfl, rfl, trivial⟩)
theorem newPub1_11 (mq : Nat)  :
    KS w0 45 (anyC w0 (LB) newPub1_ops K 14 (Ls 37 4059167223)) [(37, .pointer (some ⟨ky, 0, none⟩)), (36, .pointer (some ⟨k3, 3, none⟩)), (35, .pointer (some ⟨k3, 0, none⟩)), (34, .pointer (some ⟨k3, 0, none⟩)), (30, .pointer (some ⟨kg, 0, none⟩)), (29, .pointer (some ⟨k3, 2, none⟩)), (28, .pointer (some ⟨k3, 0, none⟩)), (27, .pointer (some ⟨k3, 0, none⟩)), (26, .pointer (some ⟨k3, 0, none⟩)), (22, .pointer (some ⟨kq, 0, none⟩)), (21, .pointer (some ⟨k3, 1, none⟩)), (20, .pointer (some ⟨k3, 0, none⟩)), (19, .pointer (some ⟨k3, 0, none⟩)), (18, .pointer (some ⟨k3, 0, none⟩)), (17, .pointer (some ⟨mq, 0, none⟩)), (14, .pointer (some ⟨kp, 0, none⟩)), (13, .pointer (some ⟨k3, 0, none⟩)), (12, .pointer (some ⟨k3, 0, none⟩)), (11, .pointer (some ⟨k3, 0, none⟩)), (10, .pointer (some ⟨k3, 0, none⟩)), (8, .iface 104 (.pointer (some ⟨k3, 0, none⟩))), (7, .pointer (some ⟨k3, 0, none⟩)), (6, .agg (tmC created).toArray), (1, .pointer (some ⟨k3, 0, none⟩)), (2, .pointer (some ⟨k2, 0, none⟩))] ((mq, blk 134 (0, 0) [.slice none 0 0, .int .u16 0]) :: (LB)) := by
  refine KN.three (i := 3) (j := 19) (k := 27) (by kernel_rfl) rfl rfl (show _ = (Ls 37 4059167231) by kernel_rfl) ?_ rfl rfl (show _ = (Ls 37 4059691511) by kernel_rfl) ?_ rfl rfl (show _ = (Ls 37 4193384951) by kernel_rfl) ?_
  · skip
    refine OW.allocC (vs := [.slice none 0 0, .int .u16 0]) Tryz.zeroValue134 rfl rfl (fun mp => ?_)
    refine KN.on (fun _ => Sb.hw) ?_
    exact KS.mk fun a w hS => (newPub1_3_11 hk2 hk3 hN hF _ _ ).out a w ((hS.heap' (Pm.hw hS.mem)).keep ⟨rfl, rfl, rfl, rfl, rfl, rfl, rfl, rfl, rfl, rfl, rfl, rfl, rfl, rfl, rfl, rfl, rfl, rfl, rfl, rfl, rfl, rfl, rfl, rfl, rfl, rfl, trivial⟩)
  · skip
    refine OW.allocC (vs := [.slice none 0 0, .int .u16 0]) Tryz.zeroValue134 rfl rfl (fun mg => ?_)
    refine KN.on (fun _ => Sb.hw) ?_
    exact KS.mk fun a w hS => (newPub1_11_19 hk2 hk3 hN hF _ _ ).out a w ((hS.heap' (Pm.hw hS.mem)).keep ⟨rfl, rfl, rfl, rfl, rfl, rfl, rfl, rfl, rfl, rfl, rfl, rfl, rfl, rfl, rfl, rfl, rfl, rfl, rfl, rfl, rfl, rfl, rfl, rfl, rfl, rfl, trivial⟩)
  · skip
    refine OW.allocC (vs := [.slice none 0 0, .int .u16 0]) Tryz.zeroValue134 rfl rfl (fun my => ?_)
    refine KN.on (fun _ => Sb.hw) ?_
    exact KS.mk fun a w hS => (newPub1_11_27 hk2 hk3 hN hF _ _ ).out a w ((hS.heap' (Pm.hw hS.mem)).keep ⟨rfl, rfl, rfl, rfl, rfl, rfl, rfl, rfl, rfl, rfl, rfl, rfl, rfl, rfl, rfl, rfl, rfl, rfl, rfl, rfl, rfl, rfl, rfl, rfl, rfl, rfl, trivial⟩)
theorem newPub1_3 (mp : Nat)  :
    KS w0 45 (anyC w0 (LB) newPub1_ops K 14 (Ls 37 4059165183)) [(37, .pointer (some ⟨ky, 0, none⟩)), (36, .pointer (some ⟨k3, 3, none⟩)), (35, .pointer (some ⟨k3, 0, none⟩)), (34, .pointer (some ⟨k3, 0, none⟩)), (30, .pointer (some ⟨kg, 0, none⟩)), (29, .pointer (some ⟨k3, 2, none⟩)), (28, .pointer (some ⟨k3, 0, none⟩)), (27, .pointer (some ⟨k3, 0, none⟩)), (26, .pointer (some ⟨k3, 0, none⟩)), (22, .pointer (some ⟨kq, 0, none⟩)), (21, .pointer (some ⟨k3, 1, none⟩)), (20, .pointer (some ⟨k3, 0, none⟩)), (19, .pointer (some ⟨k3, 0, none⟩)), (18, .pointer (some ⟨k3, 0, none⟩)), (14, .pointer (some ⟨kp, 0, none⟩)), (13, .pointer (some ⟨k3, 0, none⟩)), (12, .pointer (some ⟨k3, 0, none⟩)), (11, .pointer (some ⟨k3, 0, none⟩)), (10, .pointer (some ⟨k3, 0, none⟩)), (9, .pointer (some ⟨mp, 0, none⟩)), (8, .iface 104 (.pointer (some ⟨k3, 0, none⟩))), (7, .pointer (some ⟨k3, 0, none⟩)), (6, .agg (tmC created).toArray), (1, .pointer (some ⟨k3, 0, none⟩)), (2, .pointer (some ⟨k2, 0, none⟩))] ((mp, blk 134 (0, 0) [.slice none 0 0, .int .u16 0]) :: (LB)) := by
  refine KN.four (i := 9) (j := 11) (k := 19) (i' := 27) (by kernel_rfl) rfl rfl (show _ = (Ls 37 4059165695) by kernel_rfl) ?_ rfl rfl (show _ = (Ls 37 4059167231) by kernel_rfl) ?_ rfl rfl (show _ = (Ls 37 4059689471) by kernel_rfl) ?_ rfl rfl (show _ = (Ls 37 4193382911) by kernel_rfl) ?_
  · skip
    refine OW.call (xs := [.tmp 9, .tmp 14]) Tryz.call51 rfl (fun w hw => setBig_any w0 w _ mp kp (Pb) (by exact hN.p.mono (fun x hx => by simp [hx])) (by decide) (by decide) (HW.take hw)) rfl ?_
    rintro r w' ⟨qp, Bp, rfl, hqp, hBp, hw'⟩
    refine ⟨_, _, rfl, hw', ?_⟩
    refine KN.on (fun _ => Sb.hw) ?_
    refine KN.quiet (i := 10) (ls1 := (Ls 37 4059166719)) newPub1_sel (by kernel_rfl) (by kernel_rfl) (fun _ => Sb.hw) rfl (v_iface Tryz.runUnderlying132 rfl rfl) rfl ?_
    exact KS.mk fun a w hS => (newPub1_3_9 hk2 hk3 hN hF _ _ _ hqp hBp).out a w ((hS.heap' (Pm.hw hS.mem)).keep ⟨rfl, rfl, rfl, rfl, rfl, rfl, rfl, rfl, rfl, rfl, rfl, rfl, rfl, rfl, rfl, rfl, rfl, rfl, rfl, rfl, rfl, rfl, rfl, rfl, rfl, rfl, rfl, trivial⟩)
  · skip
    refine OW.allocC (vs := [.slice none 0 0, .int .u16 0]) Tryz.zeroValue134 rfl rfl (fun mq => ?_)
    refine KN.on (fun _ => Sb.hw) ?_
    exact KS.mk fun a w hS => (newPub1_3_11 hk2 hk3 hN hF _ _ ).out a w ((hS.heap' (Pm.hw hS.mem)).keep ⟨rfl, rfl, rfl, rfl, rfl, rfl, rfl, rfl, rfl, rfl, rfl, rfl, rfl, rfl, rfl, rfl, rfl, rfl, rfl, rfl, rfl, rfl, rfl, rfl, rfl, rfl, trivial⟩)
  · skip
    refine OW.allocC (vs := [.slice none 0 0, .int .u16 0]) Tryz.zeroValue134 rfl rfl (fun mg => ?_)
    refine KN.on (fun _ => Sb.hw) ?_
    exact KS.mk fun a w hS => (newPub1_3_19 hk2 hk3 hN hF _ _ ).out a w ((hS.heap' (Pm.hw hS.mem)).keep ⟨rfl, rfl, rfl, rfl, rfl, rfl, rfl, rfl, rfl, rfl, rfl, rfl, rfl, rfl, rfl, rfl, rfl, rfl, rfl, rfl, rfl, rfl, rfl, rfl, rfl, rfl, trivial⟩)
  · skip
    refine OW.allocC (vs := [.slice none 0 0, .int .u16 0]) Tryz.zeroValue134 rfl rfl (fun my => ?_)
    refine KN.on (fun _ => Sb.hw) ?_
    exact KS.mk fun a w hS => (newPub1_3_27 hk2 hk3 hN hF _ _ ).out a w ((hS.heap' (Pm.hw hS.mem)).keep ⟨rfl, rfl, rfl, rfl, rfl, rfl, rfl, rfl, rfl, rfl, rfl, rfl, rfl, rfl, rfl, rfl, rfl, rfl, rfl, rfl, rfl, rfl, rfl, rfl, rfl, rfl, trivial⟩)
theorem newPub1_0   :
    KS w0 45 (anyC w0 (LB) newPub1_ops K 15 (Ls 37 4059165175)) [(37, .pointer (some ⟨ky, 0, none⟩)), (36, .pointer (some ⟨k3, 3, none⟩)), (35, .pointer (some ⟨k3, 0, none⟩)), (34, .pointer (some ⟨k3, 0, none⟩)), (30, .pointer (some ⟨kg, 0, none⟩)), (29, .pointer (some ⟨k3, 2, none⟩)), (28, .pointer (some ⟨k3, 0, none⟩)), (27, .pointer (some ⟨k3, 0, none⟩)), (26, .pointer (some ⟨k3, 0, none⟩)), (22, .pointer (some ⟨kq, 0, none⟩)), (21, .pointer (some ⟨k3, 1, none⟩)), (20, .pointer (some ⟨k3, 0, none⟩)), (19, .pointer (some ⟨k3, 0, none⟩)), (18, .pointer (some ⟨k3, 0, none⟩)), (14, .pointer (some ⟨kp, 0, none⟩)), (13, .pointer (some ⟨k3, 0, none⟩)), (12, .pointer (some ⟨k3, 0, none⟩)), (11, .pointer (some ⟨k3, 0, none⟩)), (10, .pointer (some ⟨k3, 0, none⟩)), (8, .iface 104 (.pointer (some ⟨k3, 0, none⟩))), (7, .pointer (some ⟨k3, 0, none⟩)), (6, .agg (tmC created).toArray), (1, .pointer (some ⟨k3, 0, none⟩)), (2, .pointer (some ⟨k2, 0, none⟩))] (LB) := by
  refine KN.four (i := 3) (j := 11) (k := 19) (i' := 27) (by kernel_rfl) rfl rfl (show _ = (Ls 37 4059165183) by kernel_rfl) ?_ rfl rfl (show _ = (Ls 37 4059167223) by kernel_rfl) ?_ rfl rfl (show _ = (Ls 37 4059689463) by kernel_rfl) ?_ rfl rfl (show _ = (Ls 37 4193382903) by kernel_rfl) ?_
  · skip
    refine OW.allocC (vs := [.slice none 0 0, .int .u16 0]) Tryz.zeroValue134 rfl rfl (fun mp => ?_)
    refine KN.on (fun _ => Sb.hw) ?_
    exact KS.mk fun a w hS => (newPub1_3 hk2 hk3 hN hF _ ).out a w ((hS.heap' (Pm.hw hS.mem)).keep ⟨rfl, rfl, rfl, rfl, rfl, rfl, rfl, rfl, rfl, rfl, rfl, rfl, rfl, rfl, rfl, rfl, rfl, rfl, rfl, rfl, rfl, rfl, rfl, rfl, rfl, trivial⟩)
  · skip
    refine OW.allocC (vs := [.slice none 0 0, .int .u16 0]) Tryz.zeroValue134 rfl rfl (fun mq => ?_)
    refine KN.on (fun _ => Sb.hw) ?_
    exact KS.mk fun a w hS => (newPub1_11 hk2 hk3 hN hF _ ).out a w ((hS.heap' (Pm.hw hS.mem)).keep ⟨rfl, rfl, rfl, rfl, rfl, rfl, rfl, rfl, rfl, rfl, rfl, rfl, rfl, rfl, rfl, rfl, rfl, rfl, rfl, rfl, rfl, rfl, rfl, rfl, rfl, trivial⟩)
  · skip
    refine OW.allocC (vs := [.slice none 0 0, .int .u16 0]) Tryz.zeroValue134 rfl rfl (fun mg => ?_)
    refine KN.on (fun _ => Sb.hw) ?_
    exact KS.mk fun a w hS => (newPub1_19 hk2 hk3 hN hF _ ).out a w ((hS.heap' (Pm.hw hS.mem)).keep ⟨rfl, rfl, rfl, rfl, rfl, rfl, rfl, rfl, rfl, rfl, rfl, rfl, rfl, rfl, rfl, rfl, rfl, rfl, rfl, rfl, rfl, rfl, rfl, rfl, rfl, trivial⟩)
  · skip
    refine OW.allocC (vs := [.slice none 0 0, .int .u16 0]) Tryz.zeroValue134 rfl rfl (fun my => ?_)
    refine KN.on (fun _ => Sb.hw) ?_
    exact KS.mk fun a w hS => (newPub1_27 hk2 hk3 hN hF _ ).out a w ((hS.heap' (Pm.hw hS.mem)).keep ⟨rfl, rfl, rfl, rfl, rfl, rfl, rfl, rfl, rfl, rfl, rfl, rfl, rfl, rfl, rfl, rfl, rfl, rfl, rfl, rfl, rfl, rfl, rfl, rfl, rfl, trivial⟩)
theorem newPub1 :
    KS w0 45 (anyC w0 (LB) newPub1_ops K newPub1_ops.size (Array.replicate newPub1_ops.size false)) [(1, .pointer (some ⟨k3, 0, none⟩)), (2, .pointer (some ⟨k2, 0, none⟩))] (LB) := by
  show KS w0 45 (anyC w0 (LB) newPub1_ops K 37 (Ls 37 0)) _ _
  refine KN.quiet (i := 0) (ls1 := (Ls 37 1)) newPub1_sel (by kernel_rfl) (by kernel_rfl) (fun _ => Sb.hw) rfl (v_load_agg (us := tmC created) Tryz.isAgg53 Tryz.sizeOf53 rfl hk2 rfl (fun j v h => by rw [Nat.zero_add]; exact h)) rfl ?_
  refine KN.quiet (i := 1) (ls1 := (Ls 37 3)) newPub1_sel (by kernel_rfl) (by kernel_rfl) (fun _ => Sb.hw) rfl (v_move rfl) rfl ?_
  refine KN.quiet (i := 2) (ls1 := (Ls 37 7)) newPub1_sel (by kernel_rfl) (by kernel_rfl) (fun _ => Sb.hw) rfl (v_iface Tryz.runUnderlying104 rfl rfl) rfl ?_
  refine KN.quiet (i := 4) (ls1 := (Ls 37 23)) newPub1_sel (by kernel_rfl) (by kernel_rfl) (fun _ => Sb.hw) rfl (v_move rfl) rfl ?_
  refine KN.quiet (i := 5) (ls1 := (Ls 37 55)) newPub1_sel (by kernel_rfl) (by kernel_rfl) (fun _ => Sb.hw) rfl (v_nilCheck_ptr rfl) rfl ?_
  refine KN.quiet (i := 6) (ls1 := (Ls 37 119)) newPub1_sel (by kernel_rfl) (by kernel_rfl) (fun _ => Sb.hw) rfl (v_field Tryz.runUnderlying109 rfl Tryz.sizeOf107 (by decide) rfl) rfl ?_
  refine KN.quiet (i := 7) (ls1 := (Ls 37 247)) newPub1_sel (by kernel_rfl) (by kernel_rfl) (fun _ => Sb.hw) rfl (v_field Tryz.runUnderlying107 rfl Tryz.sizeOf105 (by decide) rfl) rfl ?_
  refine KN.quiet (i := 8) (ls1 := (Ls 37 503)) newPub1_sel (by kernel_rfl) (by kernel_rfl) (fun _ => Sb.hw) rfl (v_load Tryz.isAgg105 rfl hk3 rfl) rfl ?_
  refine KN.quiet (i := 12) (ls1 := (Ls 37 4599)) newPub1_sel (by kernel_rfl) (by kernel_rfl) (fun _ => Sb.hw) rfl (v_move rfl) rfl ?_
  refine KN.quiet (i := 13) (ls1 := (Ls 37 12791)) newPub1_sel (by kernel_rfl) (by kernel_rfl) (fun _ => Sb.hw) rfl (v_nilCheck_ptr rfl) rfl ?_
  refine KN.quiet (i := 14) (ls1 := (Ls 37 29175)) newPub1_sel (by kernel_rfl) (by kernel_rfl) (fun _ => Sb.hw) rfl (v_field Tryz.runUnderlying109 rfl Tryz.sizeOf107 (by decide) rfl) rfl ?_
  refine KN.quiet (i := 15) (ls1 := (Ls 37 61943)) newPub1_sel (by kernel_rfl) (by kernel_rfl) (fun _ => Sb.hw) rfl (v_field Tryz.runUnderlying107 rfl Tryz.sizeOf105 (by decide) rfl) rfl ?_
  refine KN.quiet (i := 16) (ls1 := (Ls 37 127479)) newPub1_sel (by kernel_rfl) (by kernel_rfl) (fun _ => Sb.hw) rfl (v_load Tryz.isAgg105 rfl hk3 rfl) rfl ?_
  refine KN.quiet (i := 20) (ls1 := (Ls 37 1176055)) newPub1_sel (by kernel_rfl) (by kernel_rfl) (fun _ => Sb.hw) rfl (v_move rfl) rfl ?_
  refine KN.quiet (i := 21) (ls1 := (Ls 37 3273207)) newPub1_sel (by kernel_rfl) (by kernel_rfl) (fun _ => Sb.hw) rfl (v_nilCheck_ptr rfl) rfl ?_
  refine KN.quiet (i := 22) (ls1 := (Ls 37 7467511)) newPub1_sel (by kernel_rfl) (by kernel_rfl) (fun _ => Sb.hw) rfl (v_field Tryz.runUnderlying109 rfl Tryz.sizeOf107 (by decide) rfl) rfl ?_
  refine KN.quiet (i := 23) (ls1 := (Ls 37 15856119)) newPub1_sel (by kernel_rfl) (by kernel_rfl) (fun _ => Sb.hw) rfl (v_field Tryz.runUnderlying107 rfl Tryz.sizeOf105 (by decide) rfl) rfl ?_
  refine KN.quiet (i := 24) (ls1 := (Ls 37 32633335)) newPub1_sel (by kernel_rfl) (by kernel_rfl) (fun _ => Sb.hw) rfl (v_load Tryz.isAgg105 rfl hk3 rfl) rfl ?_
  refine KN.quiet (i := 28) (ls1 := (Ls 37 301068791)) newPub1_sel (by kernel_rfl) (by kernel_rfl) (fun _ => Sb.hw) rfl (v_move rfl) rfl ?_
  refine KN.quiet (i := 29) (ls1 := (Ls 37 837939703)) newPub1_sel (by kernel_rfl) (by kernel_rfl) (fun _ => Sb.hw) rfl (v_nilCheck_ptr rfl) rfl ?_
  refine KN.quiet (i := 30) (ls1 := (Ls 37 1911681527)) newPub1_sel (by kernel_rfl) (by kernel_rfl) (fun _ => Sb.hw) rfl (v_field Tryz.runUnderlying109 rfl Tryz.sizeOf105 (by decide) rfl) rfl ?_
  refine KN.quiet (i := 31) (ls1 := (Ls 37 4059165175)) newPub1_sel (by kernel_rfl) (by kernel_rfl) (fun _ => Sb.hw) rfl (v_load Tryz.isAgg105 rfl hk3 rfl) rfl ?_
  exact KS.mk fun a w hS => (newPub1_0 hk2 hk3 hN hF  ).out a w ((hS.heap' (Pm.hw hS.mem)).keep ⟨rfl, rfl, rfl, rfl, rfl, rfl, rfl, rfl, rfl, rfl, rfl, rfl, rfl, rfl, rfl, rfl, rfl, rfl, rfl, rfl, rfl, rfl, rfl, rfl, trivial⟩)
end
end Go.Proofs.YtljoodllnaekbaaGreatDoor

namespace Go.Proofs.YtljoodllnaekbaaGreatDoor
open Go

theorem newPub_any (w0 w : World) (L : Heap) (created k3 kp kq kg ky : Nat) (x : Value) (n : List Nat) (hc : created < 4294967296) (hk3 : (k3, blk 111 (0, 0) (nmC kp kq kg ky x)) ∈ L) (hN : Nums4 L kp kq kg ky n) (hK : KG L) (hw : HW w0 L w) :
    Calls P 43 #[.agg (tmC created).toArray, .pointer (some ⟨k3, 0, none⟩)] w fun e w' => ∃ k mp mq mg my fp kid B, e = .returned (.pointer (some ⟨k, 0, none⟩)) ∧ fp.oneCell' = true ∧ Four B mp mq mg my n ∧ HW w0 ((k, blk 58 (0, 0) (pkC 4 created (.iface 104 (.pointer (some ⟨k3, 0, none⟩))) fp kid false mp mq mg my [])) :: (B ++ L)) w' := by
  refine enter (us := [.agg (tmC created).toArray, .pointer (some ⟨k3, 0, none⟩)]) Tryz.func43 rfl Tryz.ntmps43 (by simp) rfl ?_ hw
  refine WC.seq ?_
  refine WC.region ?_
  refine WL.act rfl (OW.box (us := (tmC created)) rfl rfl rfl (fun k2 => ?_))
  refine WL.val (v_assign rfl) rfl ?_
  refine WL.nil ?_
  refine EX.next ?_
  refine WC.seq ?_
  refine WC.drawN (ops := newPub1_ops) ((k2, blk 53 (0, 0) (tmC created)) :: L) (by kernel_rfl) (fun _ h => Sb.hw h) ?_
  refine KS.mk fun a w hS => (newPub1 (LB := ((k2, blk 53 (0, 0) (tmC created)) :: L)) (created := created) (n := n) m0 (mS hk3) (hN.mono fun _ h => mS h) ?_).out a w (hS.keep ⟨rfl, rfl, trivial⟩)
  intro mp qp Bp mq qq Bq mg qg Bg my qy By k5 hqp hBp hqq hBq hqg hBg hqy hBy
  refine EX.next ?_
  refine WC.seq ?_
  refine WC.region ?_
  refine WL.val (v_move rfl) rfl ?_
  have hFo : Four (Bp ++ ((mp, blk 134 (0, 0) [slV qp, .int .u16 (bitsN (Pb) : Int)]) :: (Bq ++ ((mq, blk 134 (0, 0) [slV qq, .int .u16 (bitsN (Qb) : Int)]) :: (Bg ++ ((mg, blk 134 (0, 0) [slV qg, .int .u16 (bitsN (Gb) : Int)]) :: (By ++ ((my, blk 134 (0, 0) [slV qy, .int .u16 (bitsN (pubN n) : Int)]) :: ([]))))))))) mp mq mg my n := ⟨⟨qp, by simp, hqp, hBp.mono (fun x hx => by simp [hx])⟩, ⟨qq, by simp, hqq, hBq.mono (fun x hx => by simp [hx])⟩, ⟨qg, by simp, hqg, hBg.mono (fun x hx => by simp [hx])⟩, ⟨qy, by simp, hqy, hBy.mono (fun x hx => by simp [hx])⟩⟩
  refine WL.act rfl (OW.call (xs := [.tmp 42]) Tryz.call46 rfl (fun w hw => finger_any w0 w _ k5 58 4 created (.iface 104 (.pointer (some ⟨k3, 0, none⟩))) (.slice none 0 0) 0 false mp mq mg my [] n (hFo.mono (fun x hx => by simp only [List.mem_append, List.mem_cons, List.not_mem_nil, or_false] at hx ⊢; rcases hx with h | h | h | h | h | h | h | h <;> simp [h])) (hK.mono (fun x hx => by simp [hx])) (.inr rfl) hc hw) rfl ?_)
  rintro r w' ⟨fp, kid, B, rfl, hfp, hw'⟩
  refine ⟨_, _, rfl, hw', ?_⟩
  refine WL.nil ?_
  refine EX.next ?_
  refine WC.seq ?_
  refine WC.region ?_
  refine WL.val (v_move rfl) rfl ?_
  refine WL.val (v_assign rfl) rfl ?_
  refine WL.nil ?_
  refine EX.next ?_
  refine WC.ret ?_
  refine ret1 Tryz.results43 rfl fun w hw => ⟨k5, mp, mq, mg, my, fp, kid, Bp ++ ((mp, blk 134 (0, 0) [slV qp, .int .u16 (bitsN (Pb) : Int)]) :: (Bq ++ ((mq, blk 134 (0, 0) [slV qq, .int .u16 (bitsN (Qb) : Int)]) :: (Bg ++ ((mg, blk 134 (0, 0) [slV qg, .int .u16 (bitsN (Gb) : Int)]) :: (By ++ ((my, blk 134 (0, 0) [slV qy, .int .u16 (bitsN (pubN n) : Int)]) :: ([])))))))), rfl, hfp, hFo, ?_⟩
  have h9 : HW w0 ((k5, blk 58 (0, 0) (pkC 4 created (.iface 104 (.pointer (some ⟨k3, 0, none⟩))) fp kid false mp mq mg my [])) :: (Bp ++ ((mp, blk 134 (0, 0) [slV qp, .int .u16 (bitsN (Pb) : Int)]) :: (Bq ++ ((mq, blk 134 (0, 0) [slV qq, .int .u16 (bitsN (Qb) : Int)]) :: (Bg ++ ((mg, blk 134 (0, 0) [slV qg, .int .u16 (bitsN (Gb) : Int)]) :: (By ++ ((my, blk 134 (0, 0) [slV qy, .int .u16 (bitsN (pubN n) : Int)]) :: (L)))))))))) w := Sb.hw hw
  simpa only [List.append_assoc, List.cons_append, List.nil_append] using h9
end Go.Proofs.YtljoodllnaekbaaGreatDoor

namespace Go.Proofs.YtljoodllnaekbaaGreatDoor
open Go

theorem pkC_all {ver created : Nat} {t : TypeId} {u fp : Value} {kid : Int} {sub : Bool} {mp mq mg my : Nat} (h : fp.oneCell' = true) : (pkC ver created (.iface t u) fp kid sub mp mq mg my []).all Value.oneCell' = true := by
  simp [h]
  simp [Value.oneCell']
abbrev z17 : List Value := [.int .i64 0, .int .u64 0, .int .i64 0, .pointer none, .int .u8 0, .nilIface, .slice none 0 0, .int .u64 0, .bool false, .nilIface, .nilIface, .nilIface, .nilIface, .nilIface, .nilIface, .nilIface, .nilIface]
abbrev z9 : List Value := [.bool false, .slice none 0 0, .int .u8 0, .nilFunc, .int .u8 0, .nilIface, .slice none 0 0, .int .u8 0, .pointer none]
abbrev r9 (k : Nat) : List Value := [.bool false, .slice none 0 0, .int .u8 0, .nilFunc, .int .u8 0, .iface 89 (.pointer (some ⟨k, 0, none⟩)), .slice none 0 0, .int .u8 0, .pointer none]
end Go.Proofs.YtljoodllnaekbaaGreatDoor

namespace Go.Proofs.YtljoodllnaekbaaGreatDoor
open Go

theorem newPriv_any (w0 w : World) (L : Heap) (created k3 kp kq kg ky : Nat) (x : Value) (n : List Nat) (hc : created < 4294967296) (hk3 : (k3, blk 111 (0, 0) (nmC kp kq kg ky x)) ∈ L) (hN : Nums4 L kp kq kg ky n) (hK : KG L) (hw : HW w0 L w) :
    Calls P 28 #[.agg (tmC created).toArray, .pointer (some ⟨k3, 0, none⟩)] w fun e w' => ∃ k mp mq mg my fp kid B, e = .returned (.pointer (some ⟨k, 0, none⟩)) ∧ Four B mp mq mg my n ∧ HW w0 ((k, blk 65 (0, 0) (pkC 4 created (.iface 104 (.pointer (some ⟨k3, 0, none⟩))) fp kid false mp mq mg my (r9 k3))) :: (B ++ L)) w' := by
  refine enter (us := [.agg (tmC created).toArray, .pointer (some ⟨k3, 0, none⟩)]) Tryz.func28 rfl Tryz.ntmps28 (by simp) rfl ?_ hw
  refine WC.seq ?_
  refine WC.region ?_
  refine WL.act rfl (OW.box (us := (tmC created)) rfl rfl rfl (fun k2 => ?_))
  refine WL.val (v_assign rfl) rfl ?_
  refine WL.nil ?_
  refine EX.next ?_
  refine WC.seq ?_
  refine WC.region ?_
  refine WL.act rfl (OW.allocC (vs := (z17 ++ z9)) Tryz.zeroValue65 rfl rfl (fun k6 => ?_))
  refine WL.val (v_assign rfl) rfl ?_
  refine WL.nil ?_
  refine EX.next ?_
  refine WC.seq ?_
  refine WC.draw ((k2, blk 53 (0, 0) (tmC created)) :: L) (.quiet 0 (.quiet 1 (.quiet 2 (.quiet 3 (.quiet 4 (.one 5 (.quiet 6 (.one 7 (.quiet 8 (.quiet 9 (.one 10 .done))))))))))) (by kernel_rfl) (fun _ => Sb.hw) ?_
  refine AK.quiet rfl (v_move rfl) rfl ?_
  refine AK.quiet rfl (v_load_agg (us := tmC created) Tryz.isAgg53 Tryz.sizeOf53 rfl m0 rfl (fun j v h => by rw [Nat.zero_add]; exact h)) rfl ?_
  refine AK.quiet rfl (v_move rfl) rfl ?_
  refine AK.quiet rfl (v_nilCheck_ptr rfl) rfl ?_
  refine AK.quiet rfl (v_field Tryz.runUnderlying111 rfl Tryz.sizeOf109 (by decide) rfl) rfl ?_
  refine AK.one rfl rfl (OW.call (xs := [.tmp 8, .tmp 11]) Tryz.call43 rfl (fun w hw => newPub_any w0 w _ created k3 kp kq kg ky x n hc (mS (mS hk3)) (hN.mono fun _ h => mS (mS h)) (hK.mono fun _ h => mS (mS h)) hw) rfl ?_)
  rintro r w' ⟨k5, mp, mq, mg, my, fp, kid, B, rfl, hfp, hF, hw'⟩
  refine ⟨_, _, rfl, hw', ?_⟩
  refine AK.on (fun _ => Sb.hw) ?_
  refine AK.quiet rfl (v_nilCheck_ptr rfl) rfl ?_
  refine AK.one rfl rfl (OW.val (v_load_agg (us := pkC 4 created (.iface 104 (.pointer (some ⟨k3, 0, none⟩))) fp kid false mp mq mg my []) Tryz.isAgg58 Tryz.sizeOf58 rfl m0 rfl (fun j v h => by rw [Nat.zero_add]; exact h)) rfl ?_)
  refine AK.on (fun _ => Sb.hw) ?_
  refine AK.quiet rfl (v_nilCheck_ptr rfl) rfl ?_
  refine AK.quiet rfl (v_field Tryz.runUnderlying65 rfl Tryz.sizeOf58 (by decide) rfl) rfl ?_
  refine AK.one rfl rfl (OW.storeAgg (us := pkC 4 created (.iface 104 (.pointer (some ⟨k3, 0, none⟩))) fp kid false mp mq mg my []) (ws := pkC 4 created (.iface 104 (.pointer (some ⟨k3, 0, none⟩))) fp kid false mp mq mg my z9) Tryz.sizeOf58 rfl rfl (pkC_all hfp) rfl (by rfl) (.there (At.over .here _)) (by simp) ?_)
  refine AK.on (fun _ => Sb.hw) ?_
  refine AK.done ?_
  refine EX.next ?_
  refine WC.seq ?_
  refine WC.region ?_
  refine WL.val (v_move rfl) rfl ?_
  refine WL.val (v_move rfl) rfl ?_
  refine WL.val (v_iface Tryz.runUnderlying89 rfl rfl) rfl ?_
  refine WL.val (v_nilCheck_ptr rfl) rfl ?_
  refine WL.val (v_field Tryz.runUnderlying65 rfl Tryz.sizeOf20 (by decide) rfl) rfl ?_
  refine WL.act rfl (OW.store (vs' := _) Tryz.sizeOf20 rfl rfl rfl (show _ = pkC 4 created (.iface 104 (.pointer (some ⟨k3, 0, none⟩))) fp kid false mp mq mg my (r9 k3) from rfl) (.there (At.over .here _)) (by show 22 < _; simp) (by simp) ?_)
  refine WL.nil ?_
  refine EX.next ?_
  refine WC.seq ?_
  refine WC.region ?_
  refine WL.val (v_move rfl) rfl ?_
  refine WL.val (v_assign rfl) rfl ?_
  refine WL.nil ?_
  refine EX.next ?_
  refine WC.ret ?_
  exact ret1 Tryz.results28 rfl fun w hw => ⟨k6, mp, mq, mg, my, fp, kid, B, rfl, hF, (hw.tail.perm (List.perm_middle (l₁ := B))).sub ((List.Sublist.append_left (List.sublist_cons_self _ _) B).cons_cons _)⟩
end Go.Proofs.YtljoodllnaekbaaGreatDoor

namespace Go.Proofs.YtljoodllnaekbaaGreatDoor
open Go

theorem secret_any (w0 w : World) (L : Heap) (v : Value) (ver created : Nat) (sub : Bool) (n : List Nat) (hG : GivIs L v ver created sub n) (hv : ver = 6 ∨ ver = 4) (hc : created < 4294967296) (hn : ∀ d ∈ n, d < 256) (hnl : n.length ≤ 100) (hK : KG L) (hw : HW w0 L w) :
    Calls P 16 #[v] w fun e w' => ∃ k B, e = .returned (.pointer (some ⟨k, 0, none⟩)) ∧ PK B k ver created sub n ∧ HW w0 (B ++ L) w' := by
  obtain ⟨qp, qq, qg, qy, qn, rfl, hp, hq, hg, hy, hx, lp, lq, lg, ly, ln⟩ := hG
  refine enter (us := [.agg #[slV qp, slV qq, slV qg, slV qy, slV qn, .int .i64 (ver : Int), .int .u32 (created : Int), .bool sub]]) Tryz.func16 rfl Tryz.ntmps16 (by simp) rfl ?_ hw
  refine WC.seq ?_
  refine WC.region ?_
  refine WL.act rfl (OW.box (us := [slV qp, slV qq, slV qg, slV qy, slV qn, .int .i64 (ver : Int), .int .u32 (created : Int), .bool sub]) rfl rfl rfl (fun k1 => ?_))
  refine WL.val (v_assign rfl) rfl ?_
  refine WL.nil ?_
  refine EX.next ?_
  refine WC.seq ?_
  refine WC.draw ((k1, blk 33 (0, 0) [slV qp, slV qq, slV qg, slV qy, slV qn, .int .i64 (ver : Int), .int .u32 (created : Int), .bool sub]) :: L) (.quiet 0 (.quiet 1 (.quiet 2 (.quiet 4 (.quiet 5 (.one 3 (.one 6 (.one 7 (.quiet 8 .done))))))))) (by kernel_rfl) (fun _ => Sb.hw) ?_
  refine AK.quiet rfl (v_field Tryz.runUnderlying33 rfl Tryz.sizeOf22 (by decide) rfl) rfl ?_
  refine AK.quiet rfl (v_load Tryz.isAgg22 rfl m0 rfl) rfl ?_
  refine AK.quiet rfl (n_int Tryz.runUnderlying22 Tryz.runUnderlying2 rfl (by omega)) rfl ?_
  refine AK.quiet rfl (v_field Tryz.runUnderlying33 rfl Tryz.sizeOf31 (by decide) rfl) rfl ?_
  refine AK.quiet rfl (v_load_agg (us := [slV qp, slV qq, slV qg, slV qy, slV qn]) Tryz.isAgg31 Tryz.sizeOf31 rfl m0 rfl (fun j v h => by rcases j with _ | _ | _ | _ | _ | j <;> first | exact h | simp at h)) rfl ?_
  refine AK.one rfl rfl (OW.call (xs := [.tmp 6, .const (.int .i64 0)]) Tryz.call29 rfl (fun w hw => gotimeUnix_any w0 w _ created hc hw) rfl ?_)
  rintro r w' ⟨rfl, hw'⟩
  refine ⟨_, _, rfl, hw', ?_⟩
  refine AK.on (fun _ => Sb.hw) ?_
  refine AK.one rfl rfl (OW.call (xs := [.tmp 9]) Tryz.call30 rfl (fun w hw => numbers_any w0 w _ qp qq qg qy qn n hn hnl hp hq hg hy hx (lp.mono fun _ h => mS h) (lq.mono fun _ h => mS h) (lg.mono fun _ h => mS h) (ly.mono fun _ h => mS h) (ln.mono fun _ h => mS h) hw) rfl ?_)
  rintro r w' ⟨k3, kp, kq, kg, ky, x, B, rfl, hk3, hN, hw'⟩
  refine ⟨_, _, rfl, hw', ?_⟩
  refine AK.on (fun _ => Sb.hw) ?_
  refine AK.one rfl rfl (OW.call (xs := [.tmp 7, .tmp 10]) Tryz.call28 rfl (fun w hw => newPriv_any w0 w _ created k3 kp kq kg ky x n hc (List.mem_append_left _ hk3) (hN.mono fun _ h => List.mem_append_left _ h) (hK.mono fun _ h => List.mem_append_right _ (mS h)) hw) rfl ?_)
  rintro r w' ⟨k6, mp, mq, mg, my, fp, kid, B6, rfl, hF, hw'⟩
  refine ⟨_, _, rfl, hw', ?_⟩
  refine AK.on (fun _ => Sb.hw) ?_
  refine AK.quiet rfl (v_assign rfl) rfl ?_
  refine AK.done ?_
  refine EX.next ?_
  refine WC.seq ?_
  refine WC.region ?_
  refine WL.val (v_move rfl) rfl ?_
  refine WL.val (v_field Tryz.runUnderlying33 rfl Tryz.sizeOf4 (by decide) rfl) rfl ?_
  refine WL.val (v_load Tryz.isAgg4 rfl (mS (List.mem_append_right _ (List.mem_append_right _ m0))) rfl) rfl ?_
  refine WL.val (v_nilCheck_ptr rfl) rfl ?_
  refine WL.val (v_field Tryz.runUnderlying65 rfl Tryz.sizeOf58 (by decide) rfl) rfl ?_
  refine WL.val (v_field Tryz.runUnderlying58 rfl Tryz.sizeOf4 (by decide) rfl) rfl ?_
  refine WL.act rfl (OW.store (vs' := _) Tryz.sizeOf4 rfl rfl rfl (show _ = pkC 4 created (.iface 104 (.pointer (some ⟨k3, 0, none⟩))) fp kid sub mp mq mg my (r9 k3) from rfl) .here (by show 8 < _; simp) (by simp) ?_)
  refine WL.nil ?_
  refine EX.next ?_
  refine WC.seq ?_
  refine WC.seq ?_
  refine WC.region ?_
  refine WL.val (v_field Tryz.runUnderlying33 rfl Tryz.sizeOf3 (by decide) rfl) rfl ?_
  refine WL.val (v_load Tryz.isAgg3 rfl (mS (List.mem_append_right _ (List.mem_append_right _ m0))) rfl) rfl ?_
  refine WL.val (v_eql rfl rfl) rfl ?_
  refine WL.nil ?_
  refine EX.next ?_
  refine WC.cond rfl ?_ ?_
  · intro hb3
    have hv6 : ver = 6 := by have := beq_iff_eq.1 hb3; omega
    refine WC.region ?_
    refine WL.val (v_move rfl) rfl ?_
    refine WL.val (v_nilCheck_ptr rfl) rfl ?_
    refine WL.val (v_field Tryz.runUnderlying65 rfl Tryz.sizeOf58 (by decide) rfl) rfl ?_
    refine WL.act rfl (OW.call (xs := [.tmp 23]) Tryz.call31 rfl (fun w hw => upgrade_any w0 w _ k6 65 4 created (.iface 104 (.pointer (some ⟨k3, 0, none⟩))) fp kid sub mp mq mg my (r9 k3) n (hF.mono fun _ h => List.mem_append_left _ h) (hK.mono fun _ h => List.mem_append_right _ (List.mem_append_right _ (mS h))) hc hw) rfl ?_)
    rintro r w' ⟨fp', kid', rfl, hw'⟩
    refine ⟨_, _, rfl, hw', ?_⟩
    refine WL.nil ?_
    refine EX.next ?_
    refine WC.seq ?_
    refine WC.region ?_
    refine WL.val (v_move rfl) rfl ?_
    refine WL.val (v_assign rfl) rfl ?_
    refine WL.nil ?_
    refine EX.next ?_
    refine WC.ret ?_
    exact ret1 Tryz.results16 rfl fun w hw => ⟨k6, (k6, blk 65 (0, 0) (pkC 6 created (.iface 104 (.pointer (some ⟨k3, 0, none⟩))) fp' kid' sub mp mq mg my (r9 k3))) :: (B6 ++ (B ++ [(k1, blk 33 (0, 0) [slV qp, slV qq, slV qg, slV qy, slV qn, .int .i64 (ver : Int), .int .u32 (created : Int), .bool sub])])), rfl, ⟨65, .iface 104 (.pointer (some ⟨k3, 0, none⟩)), fp', kid', mp, mq, mg, my, r9 k3, by rw [hv6]; exact m0, hF.mono fun _ h => mS (List.mem_append_left _ h)⟩, by simpa only [List.append_assoc, List.cons_append, List.nil_append] using hw⟩
  · intro hb3
    have hv4 : ver = 4 := hv.resolve_left (by intro h; rw [h] at hb3; cases hb3)
    refine WC.skip ?_
    refine EX.next ?_
    refine WC.seq ?_
    refine WC.region ?_
    refine WL.val (v_move rfl) rfl ?_
    refine WL.val (v_assign rfl) rfl ?_
    refine WL.nil ?_
    refine EX.next ?_
    refine WC.ret ?_
    exact ret1 Tryz.results16 rfl fun w hw => ⟨k6, (k6, blk 65 (0, 0) (pkC 4 created (.iface 104 (.pointer (some ⟨k3, 0, none⟩))) fp kid sub mp mq mg my (r9 k3))) :: (B6 ++ (B ++ [(k1, blk 33 (0, 0) [slV qp, slV qq, slV qg, slV qy, slV qn, .int .i64 (ver : Int), .int .u32 (created : Int), .bool sub])])), rfl, ⟨65, .iface 104 (.pointer (some ⟨k3, 0, none⟩)), fp, kid, mp, mq, mg, my, r9 k3, by rw [hv4]; exact m0, hF.mono fun _ h => mS (List.mem_append_left _ h)⟩, by simpa only [List.append_assoc, List.cons_append, List.nil_append] using hw⟩
end Go.Proofs.YtljoodllnaekbaaGreatDoor

namespace Go.Proofs.YtljoodllnaekbaaGreatDoor
open Go

theorem publicOf_any (w0 w : World) (L : Heap) (v : Value) (ver created : Nat) (sub : Bool) (n : List Nat) (hG : GivIs L v ver created sub n) (hv : ver = 6 ∨ ver = 4) (hc : created < 4294967296) (hn : ∀ d ∈ n, d < 256) (hnl : n.length ≤ 100) (hK : KG L) (hw : HW w0 L w) :
    Calls P 7 #[v] w (NewBytes w0 L (pktL ver created sub n)) := by
  have hG0 := hG
  obtain ⟨qp, qq, qg, qy, qn, rfl, hp, hq, hg, hy, hx, lp, lq, lg, ly, ln⟩ := hG
  refine enter (us := [.agg #[slV qp, slV qq, slV qg, slV qy, slV qn, .int .i64 (ver : Int), .int .u32 (created : Int), .bool sub]]) Tryz.func7 rfl Tryz.ntmps7 (by simp) rfl ?_ hw
  refine WC.seq ?_
  refine WC.region ?_
  refine WL.act rfl (OW.box (us := [slV qp, slV qq, slV qg, slV qy, slV qn, .int .i64 (ver : Int), .int .u32 (created : Int), .bool sub]) rfl rfl rfl (fun k1 => ?_))
  refine WL.val (v_assign rfl) rfl ?_
  refine WL.nil ?_
  refine EX.next ?_
  refine WC.seq ?_
  refine WC.region ?_
  refine WL.val (v_load_agg (us := [slV qp, slV qq, slV qg, slV qy, slV qn, .int .i64 (ver : Int), .int .u32 (created : Int), .bool sub]) Tryz.isAgg33 Tryz.sizeOf33 rfl m0 rfl (fun j v h => by rw [Nat.zero_add]; exact h)) rfl ?_
  refine WL.act rfl (OW.call (xs := [.tmp 3]) Tryz.call16 rfl (fun w hw => secret_any w0 w _ _ ver created sub n (hG0.mono fun _ h => mS h) hv hc hn hnl (hK.mono fun _ h => mS h) hw) rfl ?_)
  rintro r w' ⟨k6, B, rfl, hPK, hw'⟩
  refine ⟨_, _, rfl, hw', ?_⟩
  refine WL.val (v_nilCheck_ptr rfl) rfl ?_
  refine WL.val (v_field Tryz.runUnderlying65 rfl Tryz.sizeOf58 (by decide) rfl) rfl ?_
  refine WL.act rfl (OW.call (xs := [.tmp 6]) Tryz.call15 rfl (fun w hw => serialized_any w0 w _ k6 ver created sub n (hPK.mono fun _ h => List.mem_append_left _ h) hv hc hw) rfl ?_)
  rintro r w' ⟨o, rfl, ho, hw'⟩
  refine ⟨_, _, rfl, hw', ?_⟩
  refine WL.val (v_assign rfl) rfl ?_
  refine WL.nil ?_
  refine EX.next ?_
  refine WC.ret ?_
  refine ret1 Tryz.results7 rfl fun w hw => ⟨o, rfl, ho, Sb.hw hw⟩
end Go.Proofs.YtljoodllnaekbaaGreatDoor

namespace Go.Proofs.YtljoodllnaekbaaGreatDoor
open Go

theorem law_any (w0 w : World) (L : Heap) (six sub : Bool) (created : Nat) (hc : created < 4294967296) (qx : Sl) (hqx : Lies L qx) (hxb : ∀ d ∈ qx.2.2, d < 256) (hK : KG L) (hw : HW w0 L w) :
    Calls P 3 #[.agg (secC six sub created qx).toArray] w fun e w' => e = .returned (.bool true) ∧ HW w0 L w' := by
  refine enter (us := [.agg (secC six sub created qx).toArray]) Tryz.func3 rfl Tryz.ntmps3 (by simp) rfl ?_ hw
  refine WC.seq ?_
  refine WC.region ?_
  refine WL.act rfl (OW.box (us := (secC six sub created qx)) rfl rfl rfl (fun k1 => ?_))
  refine WL.val (v_assign rfl) rfl ?_
  refine WL.nil ?_
  refine EX.next ?_
  refine WC.seq ?_
  refine WC.seq ?_
  refine WC.region ?_
  refine WL.val (v_load_agg (us := (secC six sub created qx)) Tryz.isAgg25 Tryz.sizeOf25 rfl m0 rfl (fun j v h => by rw [Nat.zero_add]; exact h)) rfl ?_
  refine WL.act rfl (OW.call (xs := [.tmp 8]) Tryz.call4 rfl (fun w hw => fits_any w0 w _ six sub created qx hw) rfl ?_)
  rintro r w' ⟨b, rfl, hw'⟩
  refine ⟨_, _, rfl, hw', ?_⟩
  refine WL.val (v_not rfl) rfl ?_
  refine WL.nil ?_
  refine EX.next ?_
  refine WC.cond rfl ?_ ?_
  · intro hb1
    refine WC.seq ?_
    refine WC.region ?_
    refine WL.val (v_assign rfl) rfl ?_
    refine WL.nil ?_
    refine EX.next ?_
    refine WC.ret ?_
    refine EX.ret_then ?_
    exact ret1 Tryz.results3 rfl fun w hw => ⟨rfl, Sb.hw hw⟩
  · intro hb1
    refine WC.skip ?_
    refine EX.next ?_
    refine WC.seq ?_
    refine WC.seq ?_
    refine WC.region ?_
    refine WL.val (v_field Tryz.runUnderlying25 rfl Tryz.sizeOf23 (by decide) rfl) rfl ?_
    refine WL.val (v_load Tryz.isAgg23 rfl m0 rfl) rfl ?_
    refine WL.val (v_len Tryz.runUnderlying23 rfl) rfl ?_
    refine WL.val (v_gtr rfl rfl) rfl ?_
    refine WL.nil ?_
    refine EX.next ?_
    refine WC.cond rfl ?_ ?_
    · intro hb3
      refine WC.seq ?_
      refine WC.region ?_
      refine WL.val (v_assign rfl) rfl ?_
      refine WL.nil ?_
      refine EX.next ?_
      refine WC.ret ?_
      refine EX.ret_then ?_
      exact ret1 Tryz.results3 rfl fun w hw => ⟨rfl, Sb.hw hw⟩
    · intro hb3
      have hxl : qx.2.2.length ≤ 64 := by have := of_decide_eq_false hb3; omega
      refine WC.skip ?_
      refine EX.next ?_
      refine WC.seq ?_
      refine WC.region ?_
      refine WL.val (v_load_agg (us := (secC six sub created qx)) Tryz.isAgg25 Tryz.sizeOf25 rfl m0 rfl (fun j v h => by rw [Nat.zero_add]; exact h)) rfl ?_
      refine WL.act rfl (OW.call (xs := [.tmp 16]) Tryz.call5 rfl (fun w hw => secretOf_any w0 w _ six sub created hc qx (hqx.mono fun _ h => mS h) hxl hxb hw) rfl ?_)
      rintro r w' ⟨u, key, giv, B, rfl, hKey, hGiv, hw'⟩
      have hnl := secN_length qx.2.2
      have hnb := secN_byte qx.2.2
      generalize secN qx.2.2 = nn at *
      have hKey0 := hKey
      obtain ⟨kb, qs, rfl, _⟩ := hKey
      have hGiv0 := hGiv
      obtain ⟨gp, gq, gg, gy, gn, rfl, _⟩ := hGiv
      refine ⟨_, _, rfl, hw', ?_⟩
      refine WL.val (v_move rfl) rfl ?_
      refine WL.val (v_extract rfl rfl) rfl ?_
      refine WL.val (v_extract rfl rfl) rfl ?_
      refine WL.val (v_extract rfl rfl) rfl ?_
      refine WL.act rfl (OW.allocC (vs := z29) Tryz.zeroValue29 rfl rfl (fun k4 => ?_))
      refine WL.act rfl (OW.allocC (vs := z33) Tryz.zeroValue33 rfl rfl (fun k5 => ?_))
      refine WL.val (v_assign rfl) rfl ?_
      refine WL.act rfl (OW.storeAgg (us := keyC (verN six) created kb) Tryz.sizeOf29 rfl rfl rfl rfl (overlay_all _ _ (by rfl)) (.there .here) (Nat.le_refl _) ?_)
      refine WL.act rfl (OW.storeAgg (us := [slV gp, slV gq, slV gg, slV gy, slV gn, .int .i64 (verN six : Int), .int .u32 (created : Int), .bool sub]) Tryz.sizeOf33 rfl rfl rfl rfl (overlay_all _ _ (by rfl)) .here (Nat.le_refl _) ?_)
      refine WL.nil ?_
      refine EX.next ?_
      refine WC.seq ?_
      refine WC.draw (_) (.quiet 0 (.quiet 2 (.quiet 3 (.one 1 (.one 4 (.one 5 (.quiet 6 (.quiet 7 (.quiet 8 (.quiet 9 (.quiet 10 .done))))))))))) (by kernel_rfl) (fun _ h => h) ?_
      refine AK.quiet rfl (v_load_agg (us := [slV gp, slV gq, slV gg, slV gy, slV gn, .int .i64 (verN six : Int), .int .u32 (created : Int), .bool sub]) Tryz.isAgg33 Tryz.sizeOf33 rfl m0 rfl (fun j v h => by rw [Nat.zero_add]; exact h)) rfl ?_
      refine AK.quiet rfl (v_field Tryz.runUnderlying25 rfl Tryz.sizeOf4 (by decide) rfl) rfl ?_
      refine AK.quiet rfl (v_load Tryz.isAgg4 rfl (mS (mS (List.mem_append_right _ m0))) rfl) rfl ?_
      refine AK.one rfl rfl (OW.call (xs := [.tmp 22]) Tryz.call7 rfl (fun w hw => publicOf_any w0 w _ _ (verN six) created sub nn (hGiv0.mono fun x hx => by simp [hx]) (verN_cases six) hc hnb (by omega) (hK.mono (fun _ h => (mS (mS (List.mem_append_right _ (mS h)))))) hw) rfl ?_)
      rintro r w' ⟨o, rfl, ho, hw'⟩
      refine ⟨_, _, rfl, hw', ?_⟩
      refine AK.on (fun _ => Sb.hw) ?_
      refine AK.one rfl rfl (OW.call (xs := [.tmp 25, .const (.bool false)]) Tryz.call8 rfl (fun w hw => secretTag_any w0 w _ sub hw) rfl ?_)
      rintro r w' ⟨rfl, hw'⟩
      refine ⟨_, _, rfl, hw', ?_⟩
      refine AK.on (fun _ => Sb.hw) ?_
      refine AK.one rfl rfl (OW.call (xs := [.tmp 23, .tmp 26]) Tryz.call6 rfl (fun w hw => secretPacket_any w0 w _ (if sub then 14 else 6) (bodyN (verN six) nn) _ _ _ (bodyL (verN six) created (keyN nn)) (by cases sub <;> simp) (by rw [bt_length, pktL, List.length_cons, List.length_cons]) (ownC_le ho) (bodyN_lt nn (verN_cases six)) (Rd.own ho) (bodyL_len _ _ _) _ (by cases sub <;> rfl) hw) rfl ?_)
      rintro r w' ⟨o2, rfl, ho2, hw'⟩
      refine ⟨_, _, rfl, hw', ?_⟩
      refine AK.on (fun _ => Sb.hw) ?_
      refine AK.quiet rfl (v_move rfl) rfl ?_
      refine AK.quiet rfl (v_extract rfl rfl) rfl ?_
      refine AK.quiet rfl (v_extract rfl rfl) rfl ?_
      refine AK.quiet rfl (v_assign rfl) rfl ?_
      refine AK.quiet rfl (v_assign rfl) rfl ?_
      refine AK.done ?_
      refine EX.next ?_
      refine WC.seq ?_
      refine WC.region ?_
      refine WL.val (v_move rfl) rfl ?_
      refine WL.val (v_move rfl) rfl ?_
      have hg7_1 : true = true := rfl
      refine WL.yes rfl rfl rfl hg7_1 (v_move rfl) rfl ?_
      refine WL.yes rfl rfl rfl hg7_1 (v_load_agg (us := keyC (verN six) created kb) Tryz.isAgg29 Tryz.sizeOf29 rfl (List.mem_append_right _ (List.mem_append_right _ (mS m0))) rfl (fun j v h => by rw [Nat.zero_add]; exact h)) rfl ?_
      refine WL.actYes rfl rfl rfl hg7_1 (OW.call (xs := [.tmp 33]) Tryz.call10 rfl (fun w hw => keyBody_any w0 w _ (verN six) created (keyN nn) _ (hKey0.mono fun x hx => by simp [hx]) (by rw [keyLen_flat]; have := keyLen_le nn; omega) (show 4 ≤ 1000 by decide) (by have := verN_cases six; omega) hc hw) rfl ?_)
      rintro r w' ⟨o3, rfl, ho3, hw'⟩
      refine ⟨_, _, rfl, hw', ?_⟩
      refine WL.actYes rfl rfl rfl hg7_1 (OW.call (xs := [.tmp 32, .tmp 34]) Tryz.call9 rfl (fun w hw => sameBytes_any w0 w _ _ _ _ _ _ (bodyL (verN six) created (keyN nn)) (bt_length _).symm (by rw [bodyL_len]; have := bodyN_lt nn (verN_cases six); omega) (ownC_le ho2) ((Rd.own ho2).mono fun _ h => List.mem_append_right _ h) (Rd.own ho3) hw) rfl ?_)
      rintro r w' ⟨rfl, hw'⟩
      refine ⟨_, _, rfl, hw', ?_⟩
      refine WL.val (v_pick_t rfl hg7_1 rfl) rfl ?_
      refine WL.val (v_assign rfl) rfl ?_
      refine WL.nil ?_
      refine EX.next ?_
      refine WC.ret ?_
      exact ret1 Tryz.results3 rfl fun w hw => ⟨rfl, Sb.hw hw⟩
end Go.Proofs.YtljoodllnaekbaaGreatDoor
