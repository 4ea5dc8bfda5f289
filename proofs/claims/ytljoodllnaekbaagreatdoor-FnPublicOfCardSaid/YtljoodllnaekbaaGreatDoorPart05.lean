/- Part 5 of the proof. 'laws.secretOf': a secret's numbers, its key, and what is given. 'spec.SameBytes', of the same bytes. 'laws.secretTag'. 'laws.zzFits42'. More ends of functions; the head of a packet. 'spec.ReadLength' of a short packet. 'spec.ReadHead' of a short packet. 'spec.ReadPacket' of a short packet. 'laws.secretPacket' of a short packet. Great numbers as math/big keeps them: words, bytes, bits. No program in it. Great numbers as math/big keeps them: what the walks use. math/big: a word of bytes. math/big: 'nat.setBytes'. math/big: 'Int.SetBytes'; 'impl.great'. math/big: 'Int.Bytes'. No condition. -/
import Derived.Test.YtljoodllnaekbaaGreatDoorPart04
namespace Go.Proofs.YtljoodllnaekbaaGreatDoor
open Go

theorem secretOf_any (w0 w : World) (L : Heap) (six sub : Bool) (created : Nat) (hc : created < 4294967296) (qx : Sl) (hqx : Lies L qx) (hxl : qx.2.2.length ≤ 64) (hxb : ∀ d ∈ qx.2.2, d < 256) (hw : HW w0 L w) :
    Calls P 5 #[.agg (secC six sub created qx).toArray] w fun e w' => ∃ u key giv B, e = .returned (.tuple #[u, key, giv]) ∧ KeyIs B key (verN six) created (keyN (secN qx.2.2)) ∧ GivIs B giv (verN six) created sub (secN qx.2.2) ∧ HW w0 (B ++ L) w' := by
  refine enter (us := [.agg (secC six sub created qx).toArray]) Tryz.func5 rfl Tryz.ntmps5 (by simp) rfl ?_ hw
  refine WC.seq ?_
  refine WC.region ?_
  refine WL.act rfl (OW.box (us := (secC six sub created qx)) rfl rfl rfl (fun k1 => ?_))
  refine WL.val (v_assign rfl) rfl ?_
  refine WL.act rfl (OW.allocC (vs := z29) Tryz.zeroValue29 rfl rfl (fun k3 => ?_))
  refine WL.act rfl (OW.allocC (vs := z33) Tryz.zeroValue33 rfl rfl (fun k4 => ?_))
  refine WL.nil ?_
  refine EX.next ?_
  refine WC.seq ?_
  refine WC.region ?_
  refine WL.val (v_assign rfl) rfl ?_
  refine WL.nil ?_
  refine EX.next ?_
  refine WC.cut (fun ac wl => St w0 36 [(1, .pointer (some ⟨k1, 0, none⟩)), (3, .pointer (some ⟨k3, 0, none⟩)), (4, .pointer (some ⟨k4, 0, none⟩)), (5, .int .i64 (verN six : Int))] ((k4, blk 33 (0, 0) z33) :: (k3, blk 29 (0, 0) z29) :: (k1, blk 25 (0, 0) (secC six sub created qx)) :: L) ac wl) ?_ ?_
  · skip
    refine WC.seq ?_
    refine WC.region ?_
    refine WL.val (v_field Tryz.runUnderlying25 rfl Tryz.sizeOf4 (by decide) rfl) rfl ?_
    refine WL.val (v_load Tryz.isAgg4 rfl (mS (mS m0)) rfl) rfl ?_
    refine WL.nil ?_
    refine EX.next ?_
    refine WC.cond rfl ?_ ?_
    · intro hb2
      refine WC.region ?_
      refine WL.val (v_assign rfl) rfl ?_
      refine WL.nil ?_
      refine EX.to ?_
      subst hb2
      exact KS.mk fun b w hS => hS.keep ⟨rfl, rfl, rfl, rfl, trivial⟩
    · intro hb2
      refine WC.skip ?_
      refine EX.to ?_
      subst hb2
      exact KS.mk fun b w hS => hS.keep ⟨rfl, rfl, rfl, rfl, trivial⟩
  · intro ac wl hS
    revert ac wl
    refine KS.out ?_
    refine WC.seq ?_
    refine WC.region ?_
    refine WL.val (v_field Tryz.runUnderlying25 rfl Tryz.sizeOf23 (by decide) rfl) rfl ?_
    refine WL.val (v_load Tryz.isAgg23 rfl (mS (mS m0)) rfl) rfl ?_
    refine WL.act rfl (OW.call (xs := [.tmp 11]) Tryz.call11 rfl (fun w hw => secretNumber_any w0 w _ _ _ _ qx.2.2 rfl (by omega) hqx.cap (hqx.rd.mono (fun _ h => (mS (mS (mS h))))) hxb hw) rfl ?_)
    rintro r w' ⟨o_n, rfl, ho_n, hw'⟩
    refine ⟨_, _, rfl, hw', ?_⟩
    have hnl := secN_length qx.2.2
    have hnb := secN_byte qx.2.2
    generalize secN qx.2.2 = nn at *
    refine WL.val (v_assign rfl) rfl ?_
    refine WL.nil ?_
    refine EX.next ?_
    refine WC.seq ?_
    refine WC.region ?_
    refine WL.val (v_move rfl) rfl ?_
    refine WL.val (v_field Tryz.runUnderlying25 rfl Tryz.sizeOf22 (by decide) rfl) rfl ?_
    refine WL.val (v_load Tryz.isAgg22 rfl (List.mem_append_right _ (mS (mS m0))) rfl) rfl ?_
    refine WL.val (v_move rfl) rfl ?_
    refine WL.act rfl (OW.call (xs := [.tmp 13, .tmp 15, .tmp 16]) Tryz.call12 rfl (fun w hw => groupKey_any w0 w _ (verN six) created _ _ _ (nn) (bt_length _).symm (by omega) (ownC_le ho_n) (Rd.own ho_n) hnb hw) rfl ?_)
    rintro r w' ⟨v, B5, rfl, ⟨b, qs, rfl, hK⟩, hw'⟩
    refine ⟨_, _, rfl, hw', ?_⟩
    refine WL.act rfl (OW.allocC (vs := z29) Tryz.zeroValue29 rfl rfl (fun k7 => ?_))
    refine WL.act rfl (OW.storeAgg (us := keyC (verN six) created b) Tryz.sizeOf29 rfl rfl rfl rfl (overlay_all _ _ (by rfl)) .here (Nat.le_refl _) ?_)
    refine WL.nil ?_
    refine EX.next ?_
    refine WC.seq ?_
    refine KS.mem (L' := (k3, blk 29 (0, 0) z29) :: (k4, blk 33 (0, 0) z33) :: ((k7, blk 29 (0, 0) (keyC (verN six) created b)) :: (B5 ++ (ownL 5 o_n (bt (nn)) ++ ((k1, blk 25 (0, 0) (secC six sub created qx)) :: L))))) (fun _ h => Pm.hw h) ?_
    have hown := slV_own o_n (nn)
    refine WC.drawN (ops := secretOf6_ops) ((k7, blk 29 (0, 0) (keyC (verN six) created b)) :: (B5 ++ (ownL 5 o_n (bt (nn)) ++ ((k1, blk 25 (0, 0) (secC six sub created qx)) :: L)))) (by kernel_rfl) (fun _ h => Sb.hw h) ?_
    refine KS.mk fun a w hS => (secretOf6 (LB := ((k7, blk 29 (0, 0) (keyC (verN six) created b)) :: (B5 ++ (ownL 5 o_n (bt (nn)) ++ ((k1, blk 25 (0, 0) (secC six sub created qx)) :: L))))) (k7 := k7) (k1 := k1) (kb := b) (ver := verN six) (created := created) (six := six) (sub := sub) (qx := qx) (qn := (ownA o_n, ownC o_n (bt (nn)), nn)) m0 (mS (List.mem_append_right _ (List.mem_append_right _ m0))) ((Lies.own ho_n).mono (fun _ h => mS (List.mem_append_right _ h))) (by show (nn).length ≤ 100; omega) hnb ?_).out a w (hS.keep ⟨rfl, rfl, rfl, rfl, (by rw [← hown]; rfl), rfl, trivial⟩)
    intro bp bq bg oy hoy
    refine EX.next ?_
    refine WC.ret ?_
    refine retTCC Tryz.results5 rfl Tryz.isAgg29 Tryz.sizeOf29 rfl (mS (mS (mS (List.mem_append_right _ m0)))) rfl Tryz.isAgg33 Tryz.sizeOf33 rfl (mS (mS (mS (List.mem_append_right _ (mS m0))))) rfl fun w hw => ⟨_, _, _, (bp, blk 5 ((bt Pb).length, (bt Pb).length + 1) (bt Pb)) :: (bq, blk 5 ((bt Qb).length, (bt Qb).length + 1) (bt Qb)) :: (bg, blk 5 ((bt Gb).length, (bt Gb).length + 1) (bt Gb)) :: (ownL 5 oy (bt (pubN (nn))) ++ (B5 ++ ownL 5 o_n (bt (nn)))), rfl, ?_, ?_, ?_⟩
    · exact KeyIs.mono (L := B5) ⟨b, qs, rfl, hK⟩ (fun x hx => by simp [hx])
    · refine ⟨(some ⟨bp, 0, none⟩, 26, Pb), (some ⟨bq, 0, none⟩, 20, Qb), (some ⟨bg, 0, none⟩, 25, Gb), (ownA oy, ownC oy (bt (pubN (nn))), pubN (nn)), (ownA o_n, ownC o_n (bt (nn)), nn), ?_, rfl, rfl, rfl, rfl, rfl, ?_, ?_, ?_, ?_, ?_⟩
      · rw [← slV_own oy]; rfl
      · exact ⟨Nat.le_refl _, Rd.whole m0⟩
      · exact ⟨Nat.le_refl _, Rd.whole (mS m0)⟩
      · exact ⟨Nat.le_refl _, Rd.whole (mS (mS m0))⟩
      · exact (Lies.own (L := []) hoy).mono (fun x hx => by simp only [List.append_nil] at hx; simp [hx])
      · exact (Lies.own (L := []) ho_n).mono (fun x hx => by simp only [List.append_nil] at hx; simp [hx])
    · have h9 : HW w0 ((bp, blk 5 ((bt Pb).length, (bt Pb).length + 1) (bt Pb)) :: (bq, blk 5 ((bt Qb).length, (bt Qb).length + 1) (bt Qb)) :: (bg, blk 5 ((bt Gb).length, (bt Gb).length + 1) (bt Gb)) :: (ownL 5 oy (bt (pubN (nn))) ++ (B5 ++ (ownL 5 o_n (bt (nn)) ++ L)))) w := Sb.hw hw
      simpa only [List.append_assoc, List.cons_append] using h9
end Go.Proofs.YtljoodllnaekbaaGreatDoor

namespace Go.Proofs.YtljoodllnaekbaaGreatDoor
open Go

theorem sameBytes_any (w0 w : World) (L : Heap) (Aa Ab : Option Addr) (la ca cb : Nat) (a : List Nat) (hla : a.length = la) (hxa : a.length ≤ 100000) (hca : la ≤ ca) (hRa : Rd L Aa (bt a)) (hRb : Rd L Ab (bt a)) (hw : HW w0 L w) :
    Calls P 9 #[.slice Aa la ca, .slice Ab la cb] w fun e w' => e = .returned (.bool true) ∧ HW w0 L w' := by
  refine enter (us := [.slice Aa la ca, .slice Ab la cb]) Tryz.func9 rfl Tryz.ntmps9 (by simp) rfl ?_ hw
  refine WC.seq ?_
  refine WC.region ?_
  refine WL.val (v_assign rfl) rfl ?_
  refine WL.nil ?_
  refine EX.next ?_
  refine WC.seq ?_
  refine WC.seq ?_
  refine WC.region ?_
  refine WL.val (v_move rfl) rfl ?_
  refine WL.val (v_len Tryz.runUnderlying23 rfl) rfl ?_
  refine WL.val (v_move rfl) rfl ?_
  refine WL.val (v_len Tryz.runUnderlying23 rfl) rfl ?_
  refine WL.val (v_neq rfl rfl) rfl ?_
  refine WL.nil ?_
  refine EX.next ?_
  refine WC.cond rfl ?_ ?_
  · intro hb1
    exfalso; simp at hb1
  · intro hb1
    refine WC.skip ?_
    refine EX.next ?_
    refine WC.seq ?_
    refine WC.seq ?_
    refine WC.region ?_
    refine WL.val (v_move rfl) rfl ?_
    refine WL.val (v_len Tryz.runUnderlying23 rfl) rfl ?_
    refine WL.val (v_move rfl) rfl ?_
    refine WL.nil ?_
    refine EX.next ?_
    refine WC.block ?_
    refine WC.loop (fun mm ac wl => ∃ i : Nat, (la - i = mm) ∧ (i ≤ la) ∧ St w0 26 [(0, .slice Aa la ca), (1, .slice Ab la cb), (12, .int .i64 (la : Int)), (13, .int .i64 (i : Int))] (L) ac wl) (la) ?_ ?_
    · intro ac wl hS
      exact ⟨0, rfl, Nat.zero_le _, hS.keep ⟨rfl, rfl, rfl, rfl, trivial⟩⟩
    · rintro mm ac wl ⟨i, hm, hi, hS⟩
      subst hm
      revert ac wl
      refine KS.out ?_
      refine WC.seq ?_
      refine WC.region ?_
      refine WL.val (v_lss rfl rfl) rfl ?_
      refine WL.nil ?_
      refine EX.next ?_
      refine WC.seq ?_
      refine WC.cond rfl ?_ ?_
      · intro hb4
        have hlt : i < la := by have := of_decide_eq_true hb4; omega
        refine WC.skip ?_
        refine EX.next ?_
        refine WC.seq ?_
        refine WC.block ?_
        refine WC.seq ?_
        refine WC.region ?_
        refine WL.val (v_move rfl) rfl ?_
        refine WL.val (v_assign rfl) rfl ?_
        refine WL.nil ?_
        refine EX.next ?_
        refine WC.seq ?_
        refine WC.drawAll (by kernel_rfl) ?_
        refine WS.val (v_move rfl) rfl ?_
        refine WS.val (v_move rfl) rfl ?_
        refine WS.val (n_index Tryz.runUnderlying23 Tryz.sizeOf5 rfl rfl hRa (by omega) (by rw [bt_length]; omega)) rfl ?_
        refine WS.val (v_load_rd Tryz.isAgg5 rfl hRa (bt_at (by omega))) rfl ?_
        refine WS.val (v_move rfl) rfl ?_
        refine WS.val (v_move rfl) rfl ?_
        refine WS.val (n_index Tryz.runUnderlying23 Tryz.sizeOf5 rfl rfl hRb (by omega) (by rw [bt_length]; omega)) rfl ?_
        refine WS.val (v_load_rd Tryz.isAgg5 rfl hRb (bt_at (by omega))) rfl ?_
        refine WS.val (v_neq rfl rfl) rfl ?_
        refine WS.nil ?_
        refine EX.next ?_
        refine WC.cond rfl ?_ ?_
        · intro hb6
          exfalso; simp at hb6
        · intro hb6
          refine WC.skip ?_
          refine EX.normal_block ?_
          refine EX.next ?_
          refine WC.region ?_
          refine WL.val (n_add1 rfl rfl (show (1 : Int) = ((1 : Nat) : Int) from rfl) (by omega)) rfl ?_
          refine WL.val (v_move rfl) rfl ?_
          refine WL.nil ?_
          refine EX.to ?_
          exact KS.mk fun b w hS => ⟨la - (i + 1), by omega, i + 1, rfl, by omega, hS.keep ⟨rfl, rfl, rfl, rfl, trivial⟩⟩
      · intro hb4
        refine WC.exit ?_
        refine EX.exit_then ?_
        refine EX.exit_then ?_
        refine EX.exit_here ?_
        refine EX.next ?_
        refine WC.seq ?_
        refine WC.region ?_
        refine WL.val (v_assign rfl) rfl ?_
        refine WL.nil ?_
        refine EX.next ?_
        refine WC.ret ?_
        exact ret1 Tryz.results9 rfl fun w hw => ⟨rfl, hw⟩
end Go.Proofs.YtljoodllnaekbaaGreatDoor

namespace Go.Proofs.YtljoodllnaekbaaGreatDoor
open Go

theorem secretTag_any (w0 w : World) (L : Heap) (sub : Bool) (hw : HW w0 L w) :
    Calls P 8 #[.bool sub, .bool false] w fun e w' => e = .returned (.int .i64 (if sub then 14 else 6)) ∧ HW w0 L w' := by
  refine enter (us := [.bool sub, .bool false]) Tryz.func8 rfl Tryz.ntmps8 (by simp) rfl ?_ hw
  refine WC.seq ?_
  refine WC.region ?_
  refine WL.val (v_assign rfl) rfl ?_
  refine WL.nil ?_
  refine EX.next ?_
  refine WC.seq ?_
  refine WC.block ?_
  refine WC.seq ?_
  refine WC.region ?_
  refine WL.val (v_move rfl) rfl ?_
  refine WL.val (v_move rfl) rfl ?_
  refine KS.split (sub) ?_ ?_
  · intro hg1_1
    refine WL.yes rfl rfl rfl hg1_1 (v_move rfl) rfl ?_
    refine WL.val (v_pick_t rfl hg1_1 rfl) rfl ?_
    refine WL.val (v_assign rfl) rfl ?_
    refine WL.nil ?_
    refine EX.next ?_
    refine WC.cond rfl ?_ ?_
    · intro hb1
      exact absurd hb1 (by decide)
    · intro hb1
      refine WC.seq ?_
      refine WC.region ?_
      refine WL.val (v_move rfl) rfl ?_
      refine WL.val (v_assign rfl) rfl ?_
      refine WL.nil ?_
      refine EX.next ?_
      refine WC.cond rfl ?_ ?_
      · intro hb3
        subst hb3
        refine WC.seq ?_
        refine WC.region ?_
        refine WL.val (v_assign rfl) rfl ?_
        refine WL.nil ?_
        refine EX.next ?_
        refine WC.ret ?_
        refine EX.ret_block ?_
        refine EX.ret_then ?_
        exact ret1 Tryz.results8 rfl fun w hw => ⟨rfl, hw⟩
      · intro hb3
        subst hb3
        refine WC.seq ?_
        refine WC.region ?_
        refine WL.val (v_move rfl) rfl ?_
        refine WL.val (v_assign rfl) rfl ?_
        refine WL.nil ?_
        refine EX.next ?_
        refine WC.cond rfl ?_ ?_
        · intro hb5
          exact absurd hb5 (by decide)
        · intro hb5
          refine WC.skip ?_
          refine EX.normal_block ?_
          refine EX.next ?_
          refine WC.seq ?_
          refine WC.region ?_
          refine WL.val (v_assign rfl) rfl ?_
          refine WL.nil ?_
          refine EX.next ?_
          refine WC.ret ?_
          exact ret1 Tryz.results8 rfl fun w hw => ⟨rfl, hw⟩
  · intro hg1_1
    refine WL.no rfl rfl rfl hg1_1 ?_
    refine WL.val (v_pick_f rfl hg1_1 rfl) rfl ?_
    refine WL.val (v_assign rfl) rfl ?_
    refine WL.nil ?_
    refine EX.next ?_
    refine WC.cond rfl ?_ ?_
    · intro hb1
      exact absurd hb1 (by decide)
    · intro hb1
      refine WC.seq ?_
      refine WC.region ?_
      refine WL.val (v_move rfl) rfl ?_
      refine WL.val (v_assign rfl) rfl ?_
      refine WL.nil ?_
      refine EX.next ?_
      refine WC.cond rfl ?_ ?_
      · intro hb3
        subst hb3
        refine WC.seq ?_
        refine WC.region ?_
        refine WL.val (v_assign rfl) rfl ?_
        refine WL.nil ?_
        refine EX.next ?_
        refine WC.ret ?_
        refine EX.ret_block ?_
        refine EX.ret_then ?_
        exact ret1 Tryz.results8 rfl fun w hw => ⟨rfl, hw⟩
      · intro hb3
        subst hb3
        refine WC.seq ?_
        refine WC.region ?_
        refine WL.val (v_move rfl) rfl ?_
        refine WL.val (v_assign rfl) rfl ?_
        refine WL.nil ?_
        refine EX.next ?_
        refine WC.cond rfl ?_ ?_
        · intro hb5
          exact absurd hb5 (by decide)
        · intro hb5
          refine WC.skip ?_
          refine EX.normal_block ?_
          refine EX.next ?_
          refine WC.seq ?_
          refine WC.region ?_
          refine WL.val (v_assign rfl) rfl ?_
          refine WL.nil ?_
          refine EX.next ?_
          refine WC.ret ?_
          exact ret1 Tryz.results8 rfl fun w hw => ⟨rfl, hw⟩
end Go.Proofs.YtljoodllnaekbaaGreatDoor

namespace Go.Proofs.YtljoodllnaekbaaGreatDoor
open Go

theorem fits_any (w0 w : World) (L : Heap) (six sub : Bool) (created : Nat) (qx : Sl) (hw : HW w0 L w) :
    Calls P 4 #[.agg (secC six sub created qx).toArray] w fun e w' => ∃ b, e = .returned (.bool b) ∧ HW w0 L w' := by
  refine enter (us := [.agg (secC six sub created qx).toArray]) Tryz.func4 rfl Tryz.ntmps4 (by simp) rfl ?_ hw
  refine WC.seq ?_
  refine WC.region ?_
  refine WL.act rfl (OW.box (us := (secC six sub created qx)) rfl rfl rfl (fun k1 => ?_))
  refine WL.val (v_assign rfl) rfl ?_
  refine WL.nil ?_
  refine EX.next ?_
  refine WC.seq ?_
  refine WC.seq ?_
  refine WC.region ?_
  refine WL.val (v_field Tryz.runUnderlying25 rfl Tryz.sizeOf23 (by decide) rfl) rfl ?_
  refine WL.val (v_load Tryz.isAgg23 rfl m0 rfl) rfl ?_
  refine WL.val (v_len Tryz.runUnderlying23 rfl) rfl ?_
  refine WL.val (v_gtr rfl rfl) rfl ?_
  refine WL.nil ?_
  refine EX.next ?_
  refine WC.cond rfl ?_ ?_
  · intro hb1
    refine WC.seq ?_
    refine WC.region ?_
    refine WL.val (v_assign rfl) rfl ?_
    refine WL.nil ?_
    refine EX.next ?_
    refine WC.ret ?_
    refine EX.ret_then ?_
    exact ret1 Tryz.results4 rfl fun w hw => ⟨_, rfl, hw.tail⟩
  · intro hb1
    refine WC.skip ?_
    refine EX.next ?_
    refine WC.seq ?_
    refine WC.region ?_
    refine WL.val (v_assign rfl) rfl ?_
    refine WL.nil ?_
    refine EX.next ?_
    refine WC.ret ?_
    exact ret1 Tryz.results4 rfl fun w hw => ⟨_, rfl, hw.tail⟩
end Go.Proofs.YtljoodllnaekbaaGreatDoor

namespace Go.Proofs.YtljoodllnaekbaaGreatDoor
open Go

theorem build76 {a b c : Int} {x : Bool} (w : World) : (Instr.build 76 [(0, .int .i64 a), (2, .int .i64 b), (3, .bool x), (4, .int .i64 c)].toArray).run P w = .ok (.agg #[.int .i64 a, .bool false, .int .i64 b, .bool x, .int .i64 c]) w := by
  simp [Instr.build, Tryz.zeroValue76, Tryz.runUnderlying76, Tryz.sizeOf3, Tryz.sizeOf4]
  rfl
section
variable {w0 w : World} {n : Nat} {L : Heap} {R : Ending → World → Prop} {fn : Func} {tm : Slots}
theorem ret4 {t t2 t3 t4 : Nat} {v v2 v3 v4 : Value} (hr : fn.results = #[.tmp t, .tmp t2, .tmp t3, .tmp t4]) (h1 : get tm t = some v) (h2 : get tm t2 = some v2) (h3 : get tm t3 = some v3) (h4 : get tm t4 = some v4)
    (h : ∀ w, HW w0 L w → R (.returned (.tuple #[v, v2, v3, v4])) w) : EX w0 n .ret (bodyPost P fn R) tm L :=
  retG (fun a w ha hw => by simp [results, hr, ha t _ h1, ha t2 _ h2, ha t3 _ h3, ha t4 _ h4]) h
theorem retCT {t t2 b sz : Nat} {e t' : TypeId} {fr : Nat × Nat} {vs : List Value} {u : Value} (hr : fn.results = #[.cell t e, .tmp t2]) (hg : ∀ w, (isAgg e).run P w = .ok true w) (hz : ∀ w, (sizeOf e).run P w = .ok sz w) (hv : get tm t = some (.pointer (some ⟨b, 0, none⟩)))
    (hm : (b, blk t' fr vs) ∈ L) (hl : vs.length = sz) (hu : get tm t2 = some u) (h : ∀ w, HW w0 L w → R (.returned (.tuple #[.agg vs.toArray, u])) w) : EX w0 n .ret (bodyPost P fn R) tm L :=
  retG (fun a w ha hw => by
    have h1 := run_loadAgg hg hz hw hm hl
    simp [results, hr, ha t _ hv, ha t2 _ hu, asAddr, h1]) h
theorem retCTT {t t2 t3 b sz : Nat} {e t' : TypeId} {fr : Nat × Nat} {vs : List Value} {u u2 : Value} (hr : fn.results = #[.cell t e, .tmp t2, .tmp t3]) (hg : ∀ w, (isAgg e).run P w = .ok true w) (hz : ∀ w, (sizeOf e).run P w = .ok sz w) (hv : get tm t = some (.pointer (some ⟨b, 0, none⟩)))
    (hm : (b, blk t' fr vs) ∈ L) (hl : vs.length = sz) (hu : get tm t2 = some u) (hu2 : get tm t3 = some u2) (h : ∀ w, HW w0 L w → R (.returned (.tuple #[.agg vs.toArray, u, u2])) w) : EX w0 n .ret (bodyPost P fn R) tm L :=
  retG (fun a w ha hw => by
    have h1 := run_loadAgg hg hz hw hm hl
    simp [results, hr, ha t _ hv, ha t2 _ hu, ha t3 _ hu2, asAddr, h1]) h
end
/-- A packet's first byte. -/
theorem head_bits {g : Nat} (hg : g = 6 ∨ g = 14) : andI .i64 ((192 + g : Nat) : Int) 128 = 128 ∧ andI .i64 ((192 + g : Nat) : Int) 64 = 64 ∧ andI .i64 ((192 + g : Nat) : Int) 63 = (g : Int) := by
  rcases hg with rfl | rfl <;> decide
end Go.Proofs.YtljoodllnaekbaaGreatDoor

namespace Go.Proofs.YtljoodllnaekbaaGreatDoor
open Go

theorem readLength_any (w0 w : World) (L : Heap) (Aa : Option Addr) (la ca d : Nat) (a : List Nat) (hla : a.length + 1 = la) (hca : la ≤ ca) (hd : d < 192) (hRa : Rd L Aa (bt (d :: a))) (hw : HW w0 L w) :
    Calls P 26 #[.slice Aa la ca] w fun e w' => e = .returned (.tuple #[.int .i64 (d : Int), .bool false, .int .i64 1, .int .i64 0]) ∧ HW w0 L w' := by
  refine enter (us := [.slice Aa la ca]) Tryz.func26 rfl Tryz.ntmps26 (by simp) rfl ?_ hw
  refine WC.seq ?_
  refine WC.region ?_
  refine WL.val (v_assign rfl) rfl ?_
  refine WL.val (v_assign rfl) rfl ?_
  refine WL.val (v_assign rfl) rfl ?_
  refine WL.val (v_assign rfl) rfl ?_
  refine WL.nil ?_
  refine EX.next ?_
  refine WC.seq ?_
  refine WC.seq ?_
  refine WC.region ?_
  refine WL.val (v_move rfl) rfl ?_
  refine WL.val (v_len Tryz.runUnderlying23 rfl) rfl ?_
  refine WL.val (v_eql rfl rfl) rfl ?_
  refine WL.nil ?_
  refine EX.next ?_
  refine WC.cond rfl ?_ ?_
  · intro hb1
    exfalso; have := beq_iff_eq.1 hb1; omega
  · intro hb1
    refine WC.skip ?_
    refine EX.next ?_
    refine WC.seq ?_
    refine WC.region ?_
    refine WL.val (v_move rfl) rfl ?_
    refine WL.val (n_index (m := 0) Tryz.runUnderlying23 Tryz.sizeOf5 rfl (show _ = some (Value.int .i64 ((0 : Nat) : Int)) from rfl) hRa (by omega) (by rw [bt_length, List.length_cons]; omega)) rfl ?_
    refine WL.val (Val.to (v' := .int .u8 (d : Int)) rfl (v_load_rd Tryz.isAgg5 rfl hRa (bt_at (i := 0) (by rw [List.length_cons]; omega)))) rfl ?_
    refine WL.val (n_int Tryz.runUnderlying5 Tryz.runUnderlying3 rfl (by omega)) rfl ?_
    refine WL.val (v_assign rfl) rfl ?_
    refine WL.nil ?_
    refine EX.next ?_
    refine WC.seq ?_
    refine WC.block ?_
    refine WC.seq ?_
    refine WC.region ?_
    refine WL.val (v_move rfl) rfl ?_
    refine WL.val (v_lss rfl rfl) rfl ?_
    refine WL.val (v_assign rfl) rfl ?_
    refine WL.nil ?_
    refine EX.next ?_
    refine WC.cond rfl ?_ ?_
    · intro hb4
      refine WC.seq ?_
      refine WC.region ?_
      refine WL.val (v_move rfl) rfl ?_
      refine WL.val (v_assign rfl) rfl ?_
      refine WL.val (v_assign rfl) rfl ?_
      refine WL.val (v_assign rfl) rfl ?_
      refine WL.val (v_assign rfl) rfl ?_
      refine WL.nil ?_
      refine EX.next ?_
      refine WC.ret ?_
      refine EX.ret_block ?_
      refine EX.ret_then ?_
      exact ret4 Tryz.results26 rfl rfl rfl rfl fun w hw => ⟨rfl, hw⟩
    · intro hb4
      exfalso; have := of_decide_eq_false hb4; omega
end Go.Proofs.YtljoodllnaekbaaGreatDoor

namespace Go.Proofs.YtljoodllnaekbaaGreatDoor
open Go

theorem readHead_any (w0 w : World) (L : Heap) (g d la : Nat) (ca : Nat) (Aa : Option Addr) (a : List Nat) (hg : g = 6 ∨ g = 14) (hla : a.length + 2 = la) (hca : la ≤ ca) (hd : d < 192) (hRa : Rd L Aa (bt ((192 + g) :: d :: a))) (hx : a.length ≤ 1000) (hw : HW w0 L w) :
    Calls P 25 #[.slice Aa la ca] w fun e w' => e = .returned (.tuple #[.agg #[.int .i64 (g : Int), .bool false, .int .i64 (d : Int), .bool false, .int .i64 2], .int .i64 0]) ∧ HW w0 L w' := by
  obtain ⟨h128, h64, h63⟩ := head_bits hg
  have hlen : (bt ((192 + g) :: d :: a)).length = la := by rw [bt_length, List.length_cons, List.length_cons]; omega
  have hRt : Rd L (cutA Aa ca 1) (bt (d :: a)) := hRa.cut (k := 1) (by omega)
  refine enter (us := [.slice Aa la ca]) Tryz.func25 rfl Tryz.ntmps25 (by simp) rfl ?_ hw
  refine WC.seq ?_
  refine WC.region ?_
  refine WL.act rfl (OW.allocC (vs := [.int .i64 0, .bool false, .int .i64 0, .bool false, .int .i64 0]) Tryz.zeroValue76 rfl rfl (fun k2 => ?_))
  refine WL.val (v_assign rfl) rfl ?_
  refine WL.nil ?_
  refine EX.next ?_
  refine WC.seq ?_
  refine WC.seq ?_
  refine WC.region ?_
  refine WL.val (v_move rfl) rfl ?_
  refine WL.val (v_len Tryz.runUnderlying23 rfl) rfl ?_
  refine WL.val (v_eql rfl rfl) rfl ?_
  refine WL.nil ?_
  refine EX.next ?_
  refine WC.cond rfl ?_ ?_
  · intro hb1
    exfalso; have := beq_iff_eq.1 hb1; omega
  · intro hb1
    refine WC.skip ?_
    refine EX.next ?_
    refine WC.seq ?_
    refine WC.region ?_
    refine WL.val (v_move rfl) rfl ?_
    refine WL.val (n_index (m := 0) Tryz.runUnderlying23 Tryz.sizeOf5 rfl (show _ = some (Value.int .i64 ((0 : Nat) : Int)) from rfl) (Rd.mono hRa (fun _ h => (mS h))) (by omega) (by omega)) rfl ?_
    refine WL.val (Val.to (v' := .int .u8 ((192 + g : Nat) : Int)) rfl (v_load_rd Tryz.isAgg5 rfl (Rd.mono hRa (fun _ h => (mS h))) (bt_at (i := 0) (by rw [List.length_cons]; omega)))) rfl ?_
    refine WL.val (n_int Tryz.runUnderlying5 Tryz.runUnderlying3 rfl (by omega)) rfl ?_
    refine WL.val (v_assign rfl) rfl ?_
    refine WL.nil ?_
    refine EX.next ?_
    refine WC.seq ?_
    refine WC.seq ?_
    refine WC.region ?_
    refine WL.val (v_move rfl) rfl ?_
    refine WL.val ((v_and rfl rfl).cast (by rw [h128])) rfl ?_
    refine WL.val (v_eql rfl rfl) rfl ?_
    refine WL.nil ?_
    refine EX.next ?_
    refine WC.cond rfl ?_ ?_
    · intro hb4
      exact absurd hb4 (by decide)
    · intro hb4
      refine WC.skip ?_
      refine EX.next ?_
      refine WC.seq ?_
      refine WC.seq ?_
      refine WC.region ?_
      refine WL.val (v_move rfl) rfl ?_
      refine WL.val ((v_and rfl rfl).cast (by rw [h64])) rfl ?_
      refine WL.val (v_neq rfl rfl) rfl ?_
      refine WL.nil ?_
      refine EX.next ?_
      refine WC.cond rfl ?_ ?_
      · intro hb6
        refine WC.seq ?_
        refine WC.region ?_
        refine WL.val (v_move rfl) rfl ?_
        refine WL.val (v_slice (i := 1) (j := la) Tryz.runUnderlying23 Tryz.sizeOf5 rfl ⟨.i64, rfl⟩ rfl (by omega) (by omega) (by omega)) rfl ?_
        refine WL.act rfl (OW.call (xs := [.tmp 28]) Tryz.call26 rfl (fun w hw => readLength_any w0 w _ _ _ _ d a (by omega) (by omega) hd (hRt.mono (fun _ h => (mS h))) hw) rfl ?_)
        rintro r w' ⟨rfl, hw'⟩
        refine ⟨_, _, rfl, hw', ?_⟩
        refine WL.val (v_move rfl) rfl ?_
        refine WL.val (v_extract rfl rfl) rfl ?_
        refine WL.val (v_extract rfl rfl) rfl ?_
        refine WL.val (v_extract rfl rfl) rfl ?_
        refine WL.val (v_extract rfl rfl) rfl ?_
        refine WL.val (v_assign rfl) rfl ?_
        refine WL.val (v_assign rfl) rfl ?_
        refine WL.val (v_assign rfl) rfl ?_
        refine WL.val (v_assign rfl) rfl ?_
        refine WL.nil ?_
        refine EX.next ?_
        refine WC.seq ?_
        refine WC.seq ?_
        refine WC.region ?_
        refine WL.val (v_move rfl) rfl ?_
        refine WL.val (v_neq rfl rfl) rfl ?_
        refine WL.nil ?_
        refine EX.next ?_
        refine WC.cond rfl ?_ ?_
        · intro hb8
          exact absurd hb8 (by decide)
        · intro hb8
          refine WC.skip ?_
          refine EX.next ?_
          refine WC.seq ?_
          refine WC.region ?_
          refine WL.val (v_move rfl) rfl ?_
          refine WL.val ((v_and rfl rfl).cast (by rw [h63])) rfl ?_
          refine WL.val (v_move rfl) rfl ?_
          refine WL.val (v_move rfl) rfl ?_
          refine WL.val (v_move rfl) rfl ?_
          refine WL.val (Val.to (v' := .int .i64 2) rfl (v_add_i (m := 1) (n := 1) rfl rfl (by decide))) rfl ?_
          refine WL.val (v_build (is := [0, 2, 3, 4]) (xs := [.tmp 39, .tmp 40, .tmp 41, .tmp 43]) rfl rfl rfl build76) rfl ?_
          refine WL.act rfl (OW.storeAgg (us := [.int .i64 (g : Int), .bool false, .int .i64 (d : Int), .bool false, .int .i64 2]) Tryz.sizeOf76 rfl rfl rfl rfl (overlay_all _ _ (by rfl)) .here (Nat.le_refl _) ?_)
          refine WL.val (v_assign rfl) rfl ?_
          refine WL.nil ?_
          refine EX.next ?_
          refine WC.ret ?_
          refine EX.ret_then ?_
          exact retCT Tryz.results25 Tryz.isAgg76 Tryz.sizeOf76 rfl m0 rfl rfl fun w hw => ⟨rfl, hw.tail⟩
      · intro hb6
        exact absurd hb6 (by decide)
end Go.Proofs.YtljoodllnaekbaaGreatDoor

namespace Go.Proofs.YtljoodllnaekbaaGreatDoor
open Go

theorem readPacket_any (w0 w : World) (L : Heap) (g d la : Nat) (ca : Nat) (Aa : Option Addr) (a : List Nat) (hg : g = 6 ∨ g = 14) (hla : a.length + 2 = la) (hca : la ≤ ca) (hd : d < 192) (hRa : Rd L Aa (bt ((192 + g) :: d :: a))) (had : a.length = d) (hw : HW w0 L w) :
    Calls P 14 #[.slice Aa la ca] w fun e w' => ∃ o, e = .returned (.tuple #[.agg #[.int .i64 (g : Int), ownV o (bt a)], .int .i64 (la : Int), .int .i64 0]) ∧ (o = none → bt a = []) ∧ HW w0 (ownL 5 o (bt a) ++ L) w' := by
  have hlen : (bt ((192 + g) :: d :: a)).length = la := by rw [bt_length, List.length_cons, List.length_cons]; omega
  have hRt : Rd L (cutA Aa ca 2) (bt a) := hRa.cut (k := 2) (by omega)
  refine enter (us := [.slice Aa la ca]) Tryz.func14 rfl Tryz.ntmps14 (by simp) rfl ?_ hw
  refine WC.seq ?_
  refine WC.region ?_
  refine WL.act rfl (OW.allocC (vs := [.int .i64 0, .slice none 0 0]) Tryz.zeroValue45 rfl rfl (fun k2 => ?_))
  refine WL.val (v_assign rfl) rfl ?_
  refine WL.val (v_assign rfl) rfl ?_
  refine WL.nil ?_
  refine EX.next ?_
  refine WC.seq ?_
  refine WC.region ?_
  refine WL.val (v_move rfl) rfl ?_
  refine WL.act rfl (OW.call (xs := [.tmp 11]) Tryz.call25 rfl (fun w hw => readHead_any w0 w _ g d la ca Aa a hg hla hca hd (hRa.mono (fun _ h => (mS h))) (by omega) hw) rfl ?_)
  rintro r w' ⟨rfl, hw'⟩
  refine ⟨_, _, rfl, hw', ?_⟩
  refine WL.val (v_move rfl) rfl ?_
  refine WL.val (v_extract rfl rfl) rfl ?_
  refine WL.val (v_extract rfl rfl) rfl ?_
  refine WL.act rfl (OW.allocC (vs := [.int .i64 0, .bool false, .int .i64 0, .bool false, .int .i64 0]) Tryz.zeroValue76 rfl rfl (fun k5 => ?_))
  refine WL.act rfl (OW.storeAgg (us := [.int .i64 (g : Int), .bool false, .int .i64 (d : Int), .bool false, .int .i64 2]) Tryz.sizeOf76 rfl rfl rfl rfl (overlay_all _ _ (by rfl)) .here (Nat.le_refl _) ?_)
  refine WL.val (v_assign rfl) rfl ?_
  refine WL.nil ?_
  refine EX.next ?_
  refine WC.seq ?_
  refine WC.seq ?_
  refine WC.region ?_
  refine WL.val (v_move rfl) rfl ?_
  refine WL.val (v_neq rfl rfl) rfl ?_
  refine WL.nil ?_
  refine EX.next ?_
  refine WC.cond rfl ?_ ?_
  · intro hb2
    exact absurd hb2 (by decide)
  · intro hb2
    refine WC.skip ?_
    refine EX.next ?_
    refine WC.seq ?_
    refine WC.region ?_
    refine WL.val (v_field Tryz.runUnderlying76 rfl Tryz.sizeOf3 (by decide) rfl) rfl ?_
    refine WL.val (v_load Tryz.isAgg3 rfl m0 rfl) rfl ?_
    refine WL.val (v_field Tryz.runUnderlying45 rfl Tryz.sizeOf3 (by decide) rfl) rfl ?_
    refine WL.act rfl (OW.store (vs' := _) Tryz.sizeOf3 rfl rfl rfl (show _ = [Value.int .i64 (g : Int), .slice none 0 0] from rfl) (.there .here) (by exact Nat.succ_pos _) (by simp) ?_)
    refine WL.nil ?_
    refine EX.next ?_
    refine WC.seq ?_
    refine WC.region ?_
    refine WL.val (v_field Tryz.runUnderlying76 rfl Tryz.sizeOf3 (by decide) rfl) rfl ?_
    refine WL.val (v_load Tryz.isAgg3 rfl m0 rfl) rfl ?_
    refine WL.val (v_assign rfl) rfl ?_
    refine WL.nil ?_
    refine EX.next ?_
    refine WC.seq ?_
    refine WC.seq ?_
    refine WC.region ?_
    refine WL.val (v_field Tryz.runUnderlying76 rfl Tryz.sizeOf3 (by decide) rfl) rfl ?_
    refine WL.val (v_load Tryz.isAgg3 rfl m0 rfl) rfl ?_
    refine WL.val (v_lss rfl rfl) rfl ?_
    refine WL.nil ?_
    refine EX.next ?_
    refine WC.cond rfl ?_ ?_
    · intro hb6
      exfalso; have := of_decide_eq_true hb6; omega
    · intro hb6
      refine WC.skip ?_
      refine EX.next ?_
      refine WC.seq ?_
      refine WC.drawAll (by kernel_rfl) ?_
      refine WS.val (v_field Tryz.runUnderlying76 rfl Tryz.sizeOf3 (by decide) rfl) rfl ?_
      refine WS.val (v_load Tryz.isAgg3 rfl m0 rfl) rfl ?_
      refine WS.val (v_field Tryz.runUnderlying76 rfl Tryz.sizeOf4 (by decide) rfl) rfl ?_
      refine WS.val (v_load Tryz.isAgg4 rfl m0 rfl) rfl ?_
      refine WS.val (v_assign rfl) rfl ?_
      refine WS.val (v_assign rfl) rfl ?_
      refine WS.nil ?_
      refine EX.next ?_
      refine WC.block ?_
      refine WC.loop (fun mm ac wl => (0 = mm) ∧ St w0 81 [(0, .slice Aa la ca), (2, .pointer (some ⟨k2, 0, none⟩)), (6, .int .i64 2), (7, .int .i64 (d : Int)), (8, .bool false)] ((k5, blk 76 (0, 0) [.int .i64 (g : Int), .bool false, .int .i64 (d : Int), .bool false, .int .i64 2]) :: (k2, blk 45 (0, 0) [.int .i64 (g : Int), .slice none 0 0]) :: L) ac wl) (0) ?_ ?_
      · intro ac wl hS
        exact ⟨rfl, hS.keep ⟨rfl, rfl, rfl, rfl, rfl, trivial⟩⟩
      · rintro mm ac wl ⟨hm, hS⟩
        subst hm
        revert ac wl
        refine KS.out ?_
        refine WC.block ?_
        refine WC.seq ?_
        refine WC.seq ?_
        refine WC.region ?_
        refine WL.val (v_move rfl) rfl ?_
        refine WL.val (v_len Tryz.runUnderlying23 rfl) rfl ?_
        refine WL.val (v_move rfl) rfl ?_
        refine WL.val (Val.to (v' := .int .i64 (d : Int)) (by congr 1; omega) (v_sub_i rfl rfl (by omega))) rfl ?_
        refine WL.val (v_move rfl) rfl ?_
        refine WL.val (v_lss rfl rfl) rfl ?_
        refine WL.nil ?_
        refine EX.next ?_
        refine WC.cond rfl ?_ ?_
        · intro hb10
          exfalso; have := of_decide_eq_true hb10; omega
        · intro hb10
          refine WC.skip ?_
          refine EX.next ?_
          refine WC.seq ?_
          refine WC.drawTail 8 (by kernel_rfl) ?_
          refine WS.val (v_field Tryz.runUnderlying45 rfl Tryz.sizeOf23 (by decide) rfl) rfl ?_
          refine WS.val (v_load Tryz.isAgg23 rfl (mS m0) rfl) rfl ?_
          refine WS.val (v_move rfl) rfl ?_
          refine WS.val (v_move rfl) rfl ?_
          refine WS.val (v_move rfl) rfl ?_
          refine WS.val (v_move rfl) rfl ?_
          refine WS.val (Val.to (v' := .int .i64 ((d + 2 : Nat) : Int)) (by congr 1; omega) (v_add_i rfl rfl (by omega))) rfl ?_
          refine WS.val (v_slice (i := 2) (j := d + 2) Tryz.runUnderlying23 Tryz.sizeOf5 rfl ⟨.i64, rfl⟩ ⟨.i64, rfl⟩ (by omega) (by omega) (by omega)) rfl ?_
          refine WS.nil ?_
          refine WL.act rfl (OW.append (o := none) (data := []) (news := bt a) (data' := bt a) (L1 := (k5, blk 76 (0, 0) [.int .i64 (g : Int), .bool false, .int .i64 (d : Int), .bool false, .int .i64 2]) :: (k2, blk 45 (0, 0) [.int .i64 (g : Int), .slice none 0 0]) :: L) Tryz.runUnderlying23 Tryz.runUnderlying23 Tryz.sizeOf5 Tryz.typeInfo5 Tryz.zeroValue5 rfl rfl rfl (by rw [bt_length]; omega) (fun _ h => h) (fun _ => rfl) (hRt.mono (fun _ h => (mS (mS h)))) (bt_one _) (by simp only [List.length_nil]; rw [bt_length]; rw [bytes5]; omega) (by simp only [List.length_nil]; rw [bt_length]; omega) rfl rfl (fun o ho => ?_))
          refine WL.val (v_field Tryz.runUnderlying45 rfl Tryz.sizeOf23 (by decide) rfl) rfl ?_
          refine WL.act rfl (OW.store (vs' := _) Tryz.sizeOf23 rfl rfl rfl (show _ = [Value.int .i64 (g : Int), ownV o (bt a)] from rfl) (At.over (.there .here) _) (by exact Nat.lt_succ_self _) (by simp) ?_)
          refine WL.nil ?_
          refine EX.next ?_
          refine WC.seq ?_
          refine WC.region ?_
          refine WL.val (v_move rfl) rfl ?_
          refine WL.val (v_move rfl) rfl ?_
          refine WL.val (Val.to (v' := .int .i64 (la : Int)) (by congr 1; omega) (v_add_i rfl rfl (by omega))) rfl ?_
          refine WL.val (v_assign rfl) rfl ?_
          refine WL.nil ?_
          refine EX.next ?_
          refine WC.seq ?_
          refine WC.seq ?_
          refine WC.region ?_
          refine WL.val (v_move rfl) rfl ?_
          refine WL.val (v_not rfl) rfl ?_
          refine WL.nil ?_
          refine EX.next ?_
          refine WC.cond rfl ?_ ?_
          · intro hb14
            refine WC.seq ?_
            refine WC.region ?_
            refine WL.val (v_load_agg (us := [.int .i64 (g : Int), ownV o (bt a)]) Tryz.isAgg45 Tryz.sizeOf45 rfl (List.mem_append_right _ (mS m0)) rfl (fun j v h => by rw [Nat.zero_add]; exact h)) rfl ?_
            refine WL.val (v_move rfl) rfl ?_
            refine WL.act rfl (OW.storeAgg (us := [.int .i64 (g : Int), ownV o (bt a)]) Tryz.sizeOf45 rfl rfl rfl rfl (overlay_all _ _ (by rfl)) (At.over (.there .here) _) (Nat.le_refl _) ?_)
            refine WL.val (v_assign rfl) rfl ?_
            refine WL.val (v_assign rfl) rfl ?_
            refine WL.nil ?_
            refine EX.next ?_
            refine WC.ret ?_
            refine EX.ret_then ?_
            refine EX.ret_block ?_
            refine EX.ret_then ?_
            refine EX.ret_block ?_
            exact retCTT Tryz.results14 Tryz.isAgg45 Tryz.sizeOf45 rfl (List.mem_append_right _ (mS m0)) rfl rfl rfl fun w hw => ⟨o, rfl, ho, Sb.hw hw⟩
          · intro hb14
            exact absurd hb14 (by decide)
end Go.Proofs.YtljoodllnaekbaaGreatDoor

namespace Go.Proofs.YtljoodllnaekbaaGreatDoor
open Go

theorem secretPacket_any (w0 w : World) (L : Heap) (g d la : Nat) (ca : Nat) (Aa : Option Addr) (a : List Nat) (hg : g = 6 ∨ g = 14) (hla : a.length + 2 = la) (hca : la ≤ ca) (hd : d < 192) (hRa : Rd L Aa (bt ((192 + g) :: d :: a))) (had : a.length = d) (tg : Int) (htg : tg = (g : Int)) (hw : HW w0 L w) :
    Calls P 6 #[.slice Aa la ca, .int .i64 tg] w fun e w' => ∃ o, e = .returned (.tuple #[ownV o (bt a), .bool true]) ∧ (o = none → bt a = []) ∧ HW w0 (ownL 5 o (bt a) ++ L) w' := by
  subst htg
  refine enter (us := [.slice Aa la ca, .int .i64 (g : Int)]) Tryz.func6 rfl Tryz.ntmps6 (by simp) rfl ?_ hw
  refine WC.seq ?_
  refine WC.region ?_
  refine WL.val (v_assign rfl) rfl ?_
  refine WL.val (v_assign rfl) rfl ?_
  refine WL.nil ?_
  refine EX.next ?_
  refine WC.seq ?_
  refine WC.region ?_
  refine WL.val (v_move rfl) rfl ?_
  refine WL.act rfl (OW.call (xs := [.tmp 10]) Tryz.call14 rfl (fun w hw => readPacket_any w0 w _ g d la ca Aa a hg hla hca hd hRa had hw) rfl ?_)
  rintro r w' ⟨o, rfl, ho, hw'⟩
  refine ⟨_, _, rfl, hw', ?_⟩
  refine WL.val (v_move rfl) rfl ?_
  refine WL.val (v_extract rfl rfl) rfl ?_
  refine WL.val (v_extract rfl rfl) rfl ?_
  refine WL.val (v_extract rfl rfl) rfl ?_
  refine WL.act rfl (OW.allocC (vs := [.int .i64 0, .slice none 0 0]) Tryz.zeroValue45 rfl rfl (fun k6 => ?_))
  refine WL.act rfl (OW.storeAgg (us := [.int .i64 (g : Int), ownV o (bt a)]) Tryz.sizeOf45 rfl rfl rfl rfl (overlay_all _ _ (by rfl)) .here (Nat.le_refl _) ?_)
  refine WL.val (v_assign rfl) rfl ?_
  refine WL.val (v_assign rfl) rfl ?_
  refine WL.nil ?_
  refine EX.next ?_
  refine WC.seq ?_
  refine WC.drawAll (by kernel_rfl) ?_
  refine WS.val (v_field Tryz.runUnderlying45 rfl Tryz.sizeOf23 (by decide) rfl) rfl ?_
  refine WS.val (v_load Tryz.isAgg23 rfl m0 rfl) rfl ?_
  refine WS.val (v_move rfl) rfl ?_
  refine WS.val (v_eql rfl rfl) rfl ?_
  refine WS.val (v_move rfl) rfl ?_
  have hg2_4 : true = true := rfl
  refine WS.yes rfl rfl rfl hg2_4 (v_move rfl) rfl ?_
  refine WS.yes rfl rfl rfl hg2_4 (v_move rfl) rfl ?_
  refine WS.yes rfl rfl rfl hg2_4 (v_len Tryz.runUnderlying23 rfl) rfl ?_
  refine WS.yes rfl rfl rfl hg2_4 (Val.to (v' := .bool true) (by congr 1; simp) (v_eql rfl rfl)) rfl ?_
  refine WS.val (v_pick_t rfl hg2_4 rfl) rfl ?_
  refine WS.val (v_move rfl) rfl ?_
  have hg2_10 : true = true := rfl
  refine WS.yes rfl rfl rfl hg2_10 (v_field Tryz.runUnderlying45 rfl Tryz.sizeOf3 (by decide) rfl) rfl ?_
  refine WS.yes rfl rfl rfl hg2_10 (v_load Tryz.isAgg3 rfl m0 rfl) rfl ?_
  refine WS.yes rfl rfl rfl hg2_10 (v_move rfl) rfl ?_
  refine WS.yes rfl rfl rfl hg2_10 (Val.to (v' := .bool true) (by congr 1; simp) (v_eql rfl rfl)) rfl ?_
  refine WS.val (v_pick_t rfl hg2_10 rfl) rfl ?_
  refine WS.val (v_assign rfl) rfl ?_
  refine WS.val (v_assign rfl) rfl ?_
  refine WS.nil ?_
  refine EX.next ?_
  refine WC.ret ?_
  exact ret2 Tryz.results6 rfl rfl fun w hw => ⟨o, rfl, ho, Sb.hw hw⟩
end Go.Proofs.YtljoodllnaekbaaGreatDoor

namespace Go.Proofs.YtljoodllnaekbaaGreatDoor
open Go

/-- Words, as values. -/
def wd (xs : List Nat) : List Value := xs.map fun (d : Nat) => Value.int .u64 (d : Int)
theorem wd_length (xs : List Nat) : (wd xs).length = xs.length := by simp [wd]
theorem wd_at {xs : List Nat} {i : Nat} (h : i < xs.length) : (wd xs)[i]? = some (.int .u64 ((xs.getD i 0 : Nat) : Int)) := by simp [wd, h]
theorem wd_append (xs ys : List Nat) : wd (xs ++ ys) = wd xs ++ wd ys := by simp [wd]
theorem wd_take (xs : List Nat) (k : Nat) : wd (xs.take k) = (wd xs).take k := by simp [wd]
theorem wd_set (xs : List Nat) (k v : Nat) : (wd xs).set k (.int .u64 (v : Int)) = wd (xs.set k v) := by simp [wd, List.map_set]
theorem wd_set2 (xs : List Nat) (sp : List Value) (k v : Nat) (h : k < xs.length) : (wd xs ++ sp).set k (.int .u64 (v : Int)) = wd (xs.set k v) ++ sp := by
  rw [List.set_append_left _ _ (by rw [wd_length]; exact h), wd_set]
theorem wd_one (xs : List Nat) : ∀ u ∈ wd xs, u.oneCell' = true := by intro u h; simp [wd] at h; obtain ⟨a, _, rfl⟩ := h; rfl
theorem wd_replicate (n : Nat) : List.replicate n (Value.int .u64 0) = wd (List.replicate n 0) := by simp [wd]

/-- The number that bytes spell, the greatest first. -/
def bev (bs : List Nat) : Nat := bs.foldl (fun v b => v * 256 + b) 0
theorem bev_go (cs : List Nat) : ∀ v, cs.foldl (fun v b => v * 256 + b) v = v * 256 ^ cs.length + bev cs := by
  induction cs with
  | nil => intro v; simp [bev]
  | cons c cs ih =>
    intro v
    simp only [List.foldl_cons, List.length_cons, bev]
    rw [ih, ih (0 * 256 + c), Nat.pow_succ, Nat.add_mul, Nat.zero_mul, Nat.zero_add, Nat.mul_comm (256 ^ cs.length) 256, Nat.mul_assoc]
    omega
theorem bev_append (bs cs : List Nat) : bev (bs ++ cs) = bev bs * 256 ^ cs.length + bev cs := by
  unfold bev
  rw [List.foldl_append, bev_go]
  rfl
theorem bev_snoc (bs : List Nat) (b : Nat) : bev (bs ++ [b]) = bev bs * 256 + b := by rw [bev_append]; simp [bev]
theorem bev_lt {bs : List Nat} (h : ∀ d ∈ bs, d < 256) : bev bs < 256 ^ bs.length := by
  induction bs with
  | nil => simp [bev]
  | cons b bs ih =>
    have h1 := ih (fun d hd => h d (by simp [hd]))
    have h2 := h b (by simp)
    rw [show b :: bs = [b] ++ bs from rfl, bev_append, List.length_append, Nat.pow_add]
    have h3 : bev [b] = b := by simp [bev]
    rw [h3, show [b].length = 1 from rfl, Nat.pow_one]
    have : b * 256 ^ bs.length ≤ 255 * 256 ^ bs.length := Nat.mul_le_mul_right _ (by omega)
    omega
theorem octL_snoc (v k : Nat) : octL v (k + 1) = octL (v / 256) k ++ [v % 256] := by
  unfold octL
  rw [List.range_succ, List.map_append]
  congr 1
  · apply List.map_congr_left
    intro i hi
    simp only [List.mem_range] at hi
    unfold octD
    rw [Nat.div_div_eq_div_mul, show 8 * (k + 1 - 1 - i) = 8 + 8 * (k - 1 - i) by omega, Nat.pow_add]
  · simp [octD]
theorem octL_bev : ∀ (n : Nat) (bs : List Nat), bs.length = n → (∀ d ∈ bs, d < 256) → octL (bev bs) n = bs := by
  intro n
  induction n with
  | zero => intro bs hn _; rw [List.eq_nil_of_length_eq_zero hn]; rfl
  | succ n ih =>
    intro bs hn h
    have e : bs = bs.take n ++ [bs.getD n 0] := by
      have := take_snoc bs n (by omega)
      rwa [← hn, List.take_length] at this
    have hb := byte_at h n
    have h1 : (bs.take n).length = n := by simp; omega
    rw [octL_snoc]
    conv => lhs; rw [e, bev_snoc]
    rw [show (bev (bs.take n) * 256 + bs.getD n 0) / 256 = bev (bs.take n) by omega, show (bev (bs.take n) * 256 + bs.getD n 0) % 256 = bs.getD n 0 by omega, ih _ h1 (fun d hd => h d (List.mem_of_mem_take hd))]
    exact e.symm
theorem octL_more (j : Nat) : ∀ (k v : Nat), v < 256 ^ k → octL v (j + k) = List.replicate j 0 ++ octL v k := by
  intro k
  induction k with
  | zero =>
    intro v hv
    have : v = 0 := by simpa using hv
    subst this
    rw [Nat.add_zero, show octL 0 0 = [] from rfl, List.append_nil, ← range_zero]
    apply List.map_congr_left
    intro i _
    simp [octD]
  | succ k ih =>
    intro v hv
    rw [← Nat.add_assoc, octL_snoc, octL_snoc, ih (v / 256) (by rw [Nat.pow_succ] at hv; omega), List.append_assoc]
theorem sigL_zeros (j : Nat) (xs : List Nat) : sigL (List.replicate j 0 ++ xs) = sigL xs := by
  induction j with
  | zero => rfl
  | succ j ih => rw [List.replicate_succ, List.cons_append]; simp only [sigL, List.dropWhile_cons_of_pos, beq_self_eq_true]; exact ih
theorem sigL_octL {v k m : Nat} (hk : v < 256 ^ k) (hm : v < 256 ^ m) : sigL (octL v k) = sigL (octL v m) := by
  rcases Nat.le_total k m with h | h
  · obtain ⟨j, rfl⟩ : ∃ j, m = j + k := ⟨m - k, by omega⟩
    rw [octL_more j k v hk, sigL_zeros]
  · obtain ⟨j, rfl⟩ : ∃ j, k = j + m := ⟨k - m, by omega⟩
    rw [octL_more j m v hm, sigL_zeros]
theorem sigL_bytes {bs : List Nat} (h : ∀ d ∈ bs, d < 256) {m : Nat} (hm : bev bs < 256 ^ m) : sigL (octL (bev bs) m) = sigL bs := by
  rw [sigL_octL hm (bev_lt h), octL_bev _ bs rfl h]
theorem sigL_split (xs : List Nat) : ∃ j, xs = List.replicate j 0 ++ sigL xs := by
  induction xs with
  | nil => exact ⟨0, rfl⟩
  | cons d r ih =>
    by_cases hd : d = 0
    · obtain ⟨j, hj⟩ := ih
      refine ⟨j + 1, ?_⟩
      subst hd
      have : sigL (0 :: r) = sigL r := by simp [sigL]
      rw [this, List.replicate_succ, List.cons_append, ← hj]
    · exact ⟨0, by simp [sigL, hd]⟩
theorem bev_zeros (j : Nat) (xs : List Nat) : bev (List.replicate j 0 ++ xs) = bev xs := by
  induction j with
  | zero => rfl
  | succ j ih => rw [List.replicate_succ, List.cons_append, show (0 : Nat) :: (List.replicate j 0 ++ xs) = [0] ++ (List.replicate j 0 ++ xs) from rfl, bev_append, ih]; simp [bev]
theorem bev_sigL (xs : List Nat) : bev (sigL xs) = bev xs := by
  obtain ⟨j, hj⟩ := sigL_split xs
  conv => rhs; rw [hj, bev_zeros]

/-- The number that words spell, the least first. -/
def wval : List Nat → Nat
  | [] => 0
  | d :: r => d + 18446744073709551616 * wval r
theorem wval_append (xs ys : List Nat) : wval (xs ++ ys) = wval xs + 18446744073709551616 ^ xs.length * wval ys := by
  induction xs with
  | nil => simp [wval]
  | cons d r ih =>
    simp only [List.cons_append, wval, ih, List.length_cons, Nat.pow_succ]
    rw [Nat.mul_add, Nat.mul_comm (18446744073709551616 ^ r.length) 18446744073709551616, Nat.mul_assoc]; omega
theorem wval_lt {xs : List Nat} (h : ∀ d ∈ xs, d < 18446744073709551616) : wval xs < 18446744073709551616 ^ xs.length := by
  induction xs with
  | nil => simp [wval]
  | cons d r ih =>
    have h1 := h d (by simp)
    have h2 := ih (fun x hx => h x (by simp [hx]))
    simp only [wval, List.length_cons, Nat.pow_succ]
    omega
theorem wval_trimL (xs : List Nat) : wval (trimL xs) = wval xs := by
  generalize hn : xs.length = n
  induction n generalizing xs with
  | zero => rw [List.eq_nil_of_length_eq_zero hn]; rfl
  | succ n ih =>
    have e : xs = xs.take n ++ [xs.getD n 0] := by
      have := take_snoc xs n (by omega)
      rwa [← hn, List.take_length] at this
    by_cases h0 : xs.getD n 0 = 0
    · have h1 := ih (xs.take n) (by simp; omega)
      conv => lhs; rw [e, h0, trimL_snoc_zero, h1]
      conv => rhs; rw [e, h0, wval_append]
      simp [wval]
    · conv => lhs; rw [e, trimL_snoc _ _ h0]
      rw [← e]
theorem wval_getD {xs : List Nat} (h : ∀ d ∈ xs, d < 18446744073709551616) (i : Nat) : wval xs / 18446744073709551616 ^ i % 18446744073709551616 = xs.getD i 0 := by
  induction xs generalizing i with
  | nil => simp [wval]
  | cons d r ih =>
    have h1 := h d (by simp)
    cases i with
    | zero => simp [wval]; omega
    | succ i =>
      rw [List.getD_cons_succ, ← ih (fun x hx => h x (by simp [hx])) i, wval, Nat.pow_succ, Nat.mul_comm (18446744073709551616 ^ i), ← Nat.div_div_eq_div_mul]
      rw [show (d + 18446744073709551616 * wval r) / 18446744073709551616 = wval r by omega]
theorem word_byte {xs : List Nat} (h : ∀ d ∈ xs, d < 18446744073709551616) (t j : Nat) (hj : j < 8) : wval xs / 2 ^ (8 * (8 * t + j)) % 256 = xs.getD t 0 / 2 ^ (8 * j) % 256 := by
  rw [← wval_getD h t]
  rw [show 8 * (8 * t + j) = 64 * t + 8 * j by omega, Nat.pow_add, ← Nat.div_div_eq_div_mul, Nat.pow_mul, show 2 ^ 64 = 18446744073709551616 from rfl]
  generalize wval xs / 18446744073709551616 ^ t = X
  have : j = 0 ∨ j = 1 ∨ j = 2 ∨ j = 3 ∨ j = 4 ∨ j = 5 ∨ j = 6 ∨ j = 7 := by omega
  rcases this with rfl | rfl | rfl | rfl | rfl | rfl | rfl | rfl <;> omega
/-- The words of bytes. -/
def wordOf (bs : List Nat) (t : Nat) : Nat := bev ((bs.take (bs.length - 8 * t)).drop (bs.length - 8 * t - 8))
def wordsL (bs : List Nat) : List Nat := (List.range ((bs.length + 7) / 8)).map (wordOf bs)
theorem wordsL_length (bs : List Nat) : (wordsL bs).length = (bs.length + 7) / 8 := by simp [wordsL]
theorem wval_words_go (bs : List Nat) : ∀ n, wval ((List.range n).map (wordOf bs)) = bev (bs.drop (bs.length - 8 * n)) := by
  intro n
  induction n with
  | zero => simp [wval, bev]
  | succ n ih =>
    rw [List.range_succ, List.map_append, wval_append, ih]
    simp only [List.map_cons, List.map_nil, wval, List.length_map, List.length_range, Nat.mul_zero, Nat.add_zero]
    have e : bs.drop (bs.length - 8 * (n + 1)) = (bs.take (bs.length - 8 * n)).drop (bs.length - 8 * n - 8) ++ bs.drop (bs.length - 8 * n) := by
      have h1 : bs = bs.take (bs.length - 8 * n) ++ bs.drop (bs.length - 8 * n) := (List.take_append_drop _ _).symm
      conv => lhs; rw [h1]
      rw [List.drop_append_of_le_length (by simp; omega)]
      congr 2
      simp; omega
    rw [e, bev_append, List.length_drop]
    by_cases hle : 8 * n ≤ bs.length
    · rw [show bs.length - (bs.length - 8 * n) = 8 * n by omega, Nat.pow_mul, show 256 ^ 8 = 18446744073709551616 from rfl]
      unfold wordOf
      rw [Nat.mul_comm (18446744073709551616 ^ n)]
      omega
    · have h0 : bs.length - 8 * n = 0 := by omega
      unfold wordOf
      rw [h0]
      simp [bev]
theorem wval_words (bs : List Nat) : wval (wordsL bs) = bev bs := by
  rw [wordsL, wval_words_go, show bs.length - 8 * ((bs.length + 7) / 8) = 0 by omega, List.drop_zero]
theorem wordOf_lt {bs : List Nat} (h : ∀ d ∈ bs, d < 256) (t : Nat) : wordOf bs t < 18446744073709551616 := by
  have h1 := bev_lt (bs := (bs.take (bs.length - 8 * t)).drop (bs.length - 8 * t - 8)) (fun d hd => h d (List.mem_of_mem_take (List.mem_of_mem_drop hd)))
  have h2 : ((bs.take (bs.length - 8 * t)).drop (bs.length - 8 * t - 8)).length ≤ 8 := by simp; omega
  have h3 : 256 ^ ((bs.take (bs.length - 8 * t)).drop (bs.length - 8 * t - 8)).length ≤ 256 ^ 8 := Nat.pow_le_pow_right (by omega) h2
  unfold wordOf; omega
/-- The words of a great number that is set from bytes. -/
def intW (bs : List Nat) : List Nat := trimL (wordsL bs)
theorem intW_length (bs : List Nat) : (intW bs).length ≤ (bs.length + 7) / 8 := by
  have := trimL_length_le (wordsL bs)
  rwa [wordsL_length] at this
theorem intW_val (bs : List Nat) : wval (intW bs) = bev bs := by rw [intW, wval_trimL, wval_words]
theorem trimL_mem {xs : List Nat} : ∀ d ∈ trimL xs, d ∈ xs := fun d h => by
  obtain ⟨k, _, e⟩ := trimL_prefix xs
  rw [e] at h; exact List.mem_of_mem_take h
theorem intW_lt {bs : List Nat} (h : ∀ d ∈ bs, d < 256) : ∀ d ∈ intW bs, d < 18446744073709551616 := fun d hd => by
  have := trimL_mem d hd
  obtain ⟨t, _, rfl⟩ := List.mem_map.1 this
  exact wordOf_lt h t
theorem intW_bytes {bs : List Nat} (h : ∀ d ∈ bs, d < 256) : sigL (octL (wval (intW bs)) (8 * (intW bs).length)) = sigL bs := by
  have h1 := wval_lt (intW_lt h)
  have h2 : (18446744073709551616 : Nat) ^ (intW bs).length = 256 ^ (8 * (intW bs).length) := by rw [Nat.pow_mul]
  rw [intW_val] at *
  exact sigL_bytes h (by omega)
/-! bits -/
theorem log2_eq {v k : Nat} (h1 : 2 ^ k ≤ v) (h2 : v < 2 ^ (k + 1)) : Nat.log2 v = k := by
  have h0 : v ≠ 0 := by have := Nat.pow_pos (n := k) (show 0 < 2 by omega); omega
  have a1 := (Nat.le_log2 h0).2 h1
  have a2 := (Nat.log2_lt h0).2 h2
  omega
theorem log2_head {h m r : Nat} (h0 : h ≠ 0) (hr : r < 2 ^ m) : Nat.log2 (h * 2 ^ m + r) = m + Nat.log2 h := by
  have h1 := Nat.log2_self_le h0
  have h2 : h < 2 ^ (Nat.log2 h + 1) := (Nat.log2_lt h0).1 (Nat.lt_succ_self _)
  apply log2_eq
  · rw [Nat.add_comm m, Nat.pow_add]
    have := Nat.mul_le_mul_right (2 ^ m) h1
    omega
  · rw [show m + Nat.log2 h + 1 = (Nat.log2 h + 1) + m by omega, Nat.pow_add]
    have := Nat.mul_le_mul_right (2 ^ m) (show h + 1 ≤ 2 ^ (Nat.log2 h + 1) by omega)
    rw [Nat.add_mul] at this
    omega
/-- How many bits. -/
def blen (v : Nat) : Nat := if v = 0 then 0 else Nat.log2 v + 1
theorem bitsN_blen {bs : List Nat} (h : ∀ d ∈ bs, d < 256) : bitsN bs = blen (bev bs) := by
  rw [← bev_sigL]
  unfold bitsN
  have hb : ∀ d ∈ sigL bs, d < 256 := fun d hd => h d (sigL_mem d hd)
  by_cases h0 : (sigL bs).length = 0
  · rw [if_pos h0, h0, List.eq_nil_of_length_eq_zero h0]
    rfl
  · rw [if_neg h0]
    have hh := sigL_head (xs := bs) (by omega)
    generalize sigL bs = s at *
    cases s with
    | nil => simp at h0
    | cons a r =>
      simp only [List.getD_cons_zero] at hh ⊢
      have ha := hb a (by simp)
      have hr := bev_lt (bs := r) (fun d hd => hb d (by simp [hd]))
      have e : bev (a :: r) = a * 2 ^ (8 * r.length) + bev r := by
        rw [show a :: r = [a] ++ r from rfl, bev_append, show 256 = 2 ^ 8 from rfl, ← Nat.pow_mul]
        simp [bev]
      have hne : bev (a :: r) ≠ 0 := by
        rw [e]
        have := Nat.pow_pos (n := 8 * r.length) (show 0 < 2 by omega)
        have := Nat.mul_pos (Nat.pos_of_ne_zero hh) this
        omega
      have hr2 : bev r < 2 ^ (8 * r.length) := by
        rw [show (256 : Nat) = 2 ^ 8 from rfl, ← Nat.pow_mul] at hr
        exact hr
      unfold blen
      rw [if_neg hne, e, log2_head hh hr2]
      have h7 : Nat.log2 a ≤ 7 := by
        have := (Nat.log2_lt hh).2 (show a < 2 ^ 8 by omega)
        omega
      unfold lz
      simp only [List.length_cons]
      omega
theorem wval_blen {ws : List Nat} (h : ∀ d ∈ ws, d < 18446744073709551616) (h0 : ws ≠ []) (ht : ws.getD (ws.length - 1) 0 ≠ 0) : blen (wval ws) = 64 * (ws.length - 1) + blen (ws.getD (ws.length - 1) 0) := by
  obtain ⟨k, hk⟩ : ∃ k, ws.length = k + 1 := ⟨ws.length - 1, by have := List.length_pos_iff.2 h0; omega⟩
  have e : ws = ws.take k ++ [ws.getD k 0] := by
    have := take_snoc ws k (by omega)
    rwa [← hk, List.take_length] at this
  have hl : (ws.take k).length = k := by simp; omega
  rw [hk, Nat.add_sub_cancel] at ht ⊢
  have hv : wval ws = ws.getD k 0 * 2 ^ (64 * k) + wval (ws.take k) := by
    conv => lhs; rw [e, wval_append]
    simp only [wval, Nat.mul_zero, Nat.add_zero, hl]
    rw [Nat.pow_mul, show 2 ^ 64 = 18446744073709551616 from rfl, Nat.mul_comm]; omega
  have hr := wval_lt (xs := ws.take k) (fun d hd => h d (List.mem_of_mem_take hd))
  rw [hl] at hr
  have hr2 : wval (ws.take k) < 2 ^ (64 * k) := by rw [Nat.pow_mul, show 2 ^ 64 = 18446744073709551616 from rfl]; exact hr
  have hne : wval ws ≠ 0 := by
    rw [hv]
    have := Nat.pow_pos (n := 64 * k) (show 0 < 2 by omega)
    have := Nat.mul_pos (Nat.pos_of_ne_zero ht) this
    omega
  unfold blen
  rw [if_neg hne, if_neg ht, hv, log2_head ht hr2]
  omega
theorem log2_smear (x s : Nat) : Nat.log2 (x ||| x / 2 ^ s) = Nat.log2 x := by
  by_cases h0 : x = 0
  · subst h0; simp
  · apply log2_eq
    · exact Nat.le_trans (Nat.log2_self_le h0) Nat.left_le_or
    · have h1 : x < 2 ^ (Nat.log2 x + 1) := (Nat.log2_lt h0).1 (Nat.lt_succ_self _)
      exact or_lt h1 (Nat.lt_of_le_of_lt (Nat.div_le_self _ _) h1)
theorem blen_smear (x s : Nat) : blen (x ||| x / 2 ^ s) = blen x := by
  unfold blen
  rw [log2_smear]
  by_cases h0 : x = 0
  · subst h0; simp
  · have : (x ||| x / 2 ^ s) ≠ 0 := by
      have : x ≤ (x ||| x / 2 ^ s) := Nat.left_le_or
      omega
    rw [if_neg h0, if_neg this]
theorem blen_shift {x k : Nat} (h : 2 ^ k ≤ x) : blen x = k + blen (x / 2 ^ k) := by
  have hk := Nat.pow_pos (n := k) (show 0 < 2 by omega)
  have h0 : x ≠ 0 := by omega
  have h1 : x / 2 ^ k ≠ 0 := by
    have := Nat.div_pos h hk
    omega
  have e : x = x / 2 ^ k * 2 ^ k + x % 2 ^ k := by rw [Nat.mul_comm]; exact (Nat.div_add_mod x (2 ^ k)).symm
  have := log2_head h1 (Nat.mod_lt x hk)
  rw [← e] at this
  unfold blen
  rw [if_neg h0, if_neg h1, this]
  omega
theorem blen_u16 {bs : List Nat} (h : ∀ d ∈ bs, d < 256) (hl : bs.length ≤ 1000) : blen (bev bs) < 65536 := by
  rw [← bitsN_blen h]
  have := sigL_length bs
  unfold bitsN; omega
end Go.Proofs.YtljoodllnaekbaaGreatDoor

namespace Go.Proofs.YtljoodllnaekbaaGreatDoor
open Go

theorem or_pow_add {x y k : Nat} (hy : y < 2 ^ k) : y ||| x * 2 ^ k = x * 2 ^ k + y := by
  have h := Nat.shiftLeft_add_eq_or_of_lt (i := k) (b := y) hy x
  rw [Nat.or_comm, ← Nat.shiftLeft_eq, ← h, Nat.shiftLeft_eq]
theorem take4 {a : List Nat} (h : 4 ≤ a.length) : a.take 4 = [a.getD 0 0, a.getD 1 0, a.getD 2 0, a.getD 3 0] := by
  match a, h with
  | x :: y :: z :: u :: r, _ => rfl
theorem be4 {a : List Nat} (ha : ∀ d ∈ a, d < 256) (h : 4 ≤ a.length) : ((a.getD 3 0 ||| a.getD 2 0 * 2 ^ 8) ||| a.getD 1 0 * 2 ^ 16) ||| a.getD 0 0 * 2 ^ 24 = bev (a.take 4) := by
  have h0 := byte_at ha 0
  have h1 := byte_at ha 1
  have h2 := byte_at ha 2
  have h3 := byte_at ha 3
  rw [or_pow_add (k := 8) (by omega), or_pow_add (k := 16) (by omega), or_pow_add (k := 24) (by omega), take4 h]
  simp [bev]; omega
theorem be4_lt {a : List Nat} (ha : ∀ d ∈ a, d < 256) : bev (a.take 4) < 4294967296 := by
  have h1 := bev_lt (bs := a.take 4) (fun d hd => ha d (List.mem_of_mem_take hd))
  have h2 : (a.take 4).length ≤ 4 := by simp; omega
  have h3 : 256 ^ (a.take 4).length ≤ 256 ^ 4 := Nat.pow_le_pow_right (by omega) h2
  omega
theorem be8 {a : List Nat} (ha : ∀ d ∈ a, d < 256) (h : 8 ≤ a.length) : bev (a.take 4) * 2 ^ 32 ||| bev ((a.drop 4).take 4) = bev (a.take 8) := by
  have h1 := be4_lt (a := a.drop 4) (fun d hd => ha d (List.mem_of_mem_drop hd))
  rw [Nat.or_comm, or_pow_add (k := 32) (by omega)]
  have e : a.take 8 = a.take 4 ++ (a.drop 4).take 4 := by rw [show 8 = 4 + 4 from rfl, List.take_add]
  have hl : ((a.drop 4).take 4).length = 4 := by simp; omega
  rw [e, bev_append, hl]
theorem be8_lt {a : List Nat} (ha : ∀ d ∈ a, d < 256) : bev (a.take 8) < 18446744073709551616 := by
  have h1 := bev_lt (bs := a.take 8) (fun d hd => ha d (List.mem_of_mem_take hd))
  have h2 : (a.take 8).length ≤ 8 := by simp; omega
  have h3 : 256 ^ (a.take 8).length ≤ 256 ^ 8 := Nat.pow_le_pow_right (by omega) h2
  omega
theorem word_slice (a : List Nat) (i : Nat) (hi : 8 ≤ i) : bev ((a.drop (i - 8)).take 8) = bev ((a.take i).drop (i - 8)) := by
  rw [List.drop_take, show i - (i - 8) = 8 by omega]
/-- The last j bytes of the first r. -/
def lastB (a : List Nat) (r j : Nat) : Nat := bev ((a.take r).drop (r - j))
theorem lastB_zero (a : List Nat) (r : Nat) : lastB a r 0 = 0 := by
  unfold lastB
  rw [Nat.sub_zero, List.drop_eq_nil_of_le (by simp; omega)]
  rfl
theorem lastB_lt {a : List Nat} (ha : ∀ d ∈ a, d < 256) (r j : Nat) : lastB a r j < 2 ^ (8 * j) := by
  have h1 := bev_lt (bs := (a.take r).drop (r - j)) (fun d hd => ha d (List.mem_of_mem_take (List.mem_of_mem_drop hd)))
  have h2 : ((a.take r).drop (r - j)).length ≤ j := by simp; omega
  have h3 : 256 ^ ((a.take r).drop (r - j)).length ≤ 256 ^ j := Nat.pow_le_pow_right (by omega) h2
  rw [Nat.pow_mul]
  unfold lastB
  exact Nat.lt_of_lt_of_le h1 h3
theorem lastB_succ {a : List Nat} (ha : ∀ d ∈ a, d < 256) {r j : Nat} (hr : r ≤ a.length) (hj : j < r) : lastB a r j ||| a.getD (r - j - 1) 0 * 2 ^ (8 * j) = lastB a r (j + 1) := by
  rw [or_pow_add (lastB_lt ha r j)]
  unfold lastB
  have hlt : r - (j + 1) < (a.take r).length := by simp; omega
  rw [List.drop_eq_getElem_cons hlt, show r - (j + 1) + 1 = r - j by omega]
  have hg : (a.take r)[r - (j + 1)] = a.getD (r - j - 1) 0 := by
    have : r - (j + 1) < a.length := by omega
    simp [show r - j - 1 = r - (j + 1) by omega, this]
  rw [hg, show a.getD (r - j - 1) 0 :: (a.take r).drop (r - j) = [a.getD (r - j - 1) 0] ++ (a.take r).drop (r - j) from rfl, bev_append]
  have hl : ((a.take r).drop (r - j)).length = j := by simp; omega
  rw [hl, Nat.pow_mul, show 2 ^ 8 = 256 from rfl]
  simp [bev]
theorem lastB_word (a : List Nat) (t : Nat) (h : a.length - 8 * t ≤ 8) : lastB a (a.length - 8 * t) (a.length - 8 * t) = wordOf a t := by
  unfold lastB wordOf
  rw [Nat.sub_self, show a.length - 8 * t - 8 = 0 by omega]
/-- A list whose places from i on are f's, the others nought. -/
def fillR (f : Nat → Nat) (n i : Nat) : List Nat := (List.range n).map fun j => if i ≤ j then f j else 0
theorem fillR_length (f : Nat → Nat) (n i : Nat) : (fillR f n i).length = n := by simp [fillR]
theorem fillR_none (f : Nat → Nat) (n : Nat) : fillR f n n = List.replicate n 0 := by
  rw [← range_zero]
  apply List.map_congr_left
  intro j hj
  simp at hj
  simp; omega
theorem fillR_all (f : Nat → Nat) (n : Nat) : fillR f n 0 = (List.range n).map f := by simp [fillR]
theorem fillR_set (f : Nat → Nat) (n i : Nat) : (fillR f n (i + 1)).set i (f i) = fillR f n i := by
  apply List.ext_getElem
  · simp [fillR]
  · intro j h1 h2
    simp only [fillR, List.length_map, List.length_range] at h2
    rw [List.getElem_set]
    simp only [fillR, List.getElem_map, List.getElem_range]
    by_cases he : i = j
    · subst he; simp
    · rw [if_neg he]
      by_cases hlt : i + 1 ≤ j
      · rw [if_pos hlt, if_pos (by omega)]
      · rw [if_neg hlt, if_neg (by omega)]
theorem byte_place {W : List Nat} (h : ∀ d ∈ W, d < 18446744073709551616) {t j : Nat} (ht : t < W.length) (hj : j < 8) : W.getD t 0 / 2 ^ (8 * j) % 256 = octD (wval W) (8 * W.length) (8 * W.length - 8 * t - j - 1) := by
  unfold octD
  rw [show 8 * W.length - 1 - (8 * W.length - 8 * t - j - 1) = 8 * t + j by omega]
  exact (word_byte h t j hj).symm
theorem blen_le {x k : Nat} (h : x < 2 ^ k) : blen x ≤ k := by
  unfold blen
  by_cases h0 : x = 0
  · rw [if_pos h0]; omega
  · rw [if_neg h0]
    exact (Nat.log2_lt h0).2 h
theorem blen_le8 {x : Nat} (h : x < 256) : blen x ≤ 8 := blen_le (by omega)
theorem blen_le64 {x : Nat} (h : x < 18446744073709551616) : blen x ≤ 64 := blen_le (by omega)
theorem bytes175 : Tryz.t175.bytes = 8 := rfl
section
variable {w0 : World} {tm : Slots} {L : Heap} {d : Option Tmp} {t : TypeId} {p : String} {af : Array Edge} {g : Option (Nat × Bool)}
variable {x y : Operand} {xt yt : TypeId} {k : IntKind} {m : Nat}
/-- A byte of a string. -/
theorem v_index_str {s : ByteArray} {b : UInt8} (hs : ∀ w, (underlying xt).run P w = .ok .string w) (hx : ev tm x = some (.string s)) (hy : ev tm y = some (.int k (m : Int))) (hb : s[m]? = some b) :
    Val w0 tm L ⟨d, .index xt x y, t, p, af, g⟩ (.int .u8 (b.toNat : Int)) := .mk fun a w ha _ => by
  have h0 : (0 : Int) ≤ (m : Int) := by omega
  simp [execOp, ev_eval ha hx, ev_eval ha hy, Instr.index, asIntOf, hs, h0, hb]
end
/-- A great number in memory: not negative, its words. -/
def BigAt (H : Heap) (k : Nat) (bs : List Nat) : Prop := ∃ A c, (k, blk 139 (0, 0) [.bool false, .slice A (intW bs).length c]) ∈ H ∧ (intW bs).length ≤ c ∧ Rd H A (wd (intW bs))
theorem BigAt.mono {H H' : Heap} {k : Nat} {bs : List Nat} (h : BigAt H k bs) (hs : ∀ x ∈ H, x ∈ H') : BigAt H' k bs := by
  obtain ⟨A, c, h1, h2, h3⟩ := h
  exact ⟨A, c, hs _ h1, h2, h3.mono hs⟩
/-- An MPI in memory: its bytes, and how many bits. -/
def MpiAt (H : Heap) (k : Nat) (bs : List Nat) : Prop := ∃ q : Sl, (k, blk 134 (0, 0) [slV q, .int .u16 (bitsN bs : Int)]) ∈ H ∧ q.2.2 = sigL bs ∧ Lies H q
theorem MpiAt.mono {H H' : Heap} {k : Nat} {bs : List Nat} (h : MpiAt H k bs) (hs : ∀ x ∈ H, x ∈ H') : MpiAt H' k bs := by
  obtain ⟨q, h1, h2, h3⟩ := h
  exact ⟨q, hs _ h1, h2, h3.mono hs⟩
theorem bitsN_lt {bs : List Nat} (hl : bs.length ≤ 1000) : bitsN bs < 65536 := by
  have := sigL_length bs
  unfold bitsN; omega
theorem octL_two (v : Nat) : octL v 2 = [v / 2 ^ 8 % 256, v % 256] := by simp [octL, List.range_succ, octD]
end Go.Proofs.YtljoodllnaekbaaGreatDoor

namespace Go.Proofs.YtljoodllnaekbaaGreatDoor
open Go

theorem be32_any (w0 w : World) (L : Heap) (Aa : Option Addr) (la ca : Nat) (a : List Nat) (hby : ∀ d ∈ a, d < 256) (hla : la ≤ a.length) (h4 : 4 ≤ la) (hRa : Rd L Aa (bt a)) (hw : HW w0 L w) :
    Calls P 87 #[.slice Aa la ca] w fun e w' => e = .returned (.int .u32 (bev (a.take 4) : Int)) ∧ HW w0 L w' := by
  have hb0 := byte_at hby 0
  have hb1 := byte_at hby 1
  have hb2 := byte_at hby 2
  have hb3 := byte_at hby 3
  have o1 := or_lt (k := 32) (m := a.getD 3 0) (n := a.getD 2 0 * 2 ^ 8) (by omega) (by omega)
  have o2 := or_lt (k := 32) (m := a.getD 3 0 ||| a.getD 2 0 * 2 ^ 8) (n := a.getD 1 0 * 2 ^ 16) (by omega) (by omega)
  refine enter (us := [.slice Aa la ca]) Tryz.func87 rfl Tryz.ntmps87 (by simp) rfl ?_ hw
  refine WC.seq ?_
  refine WC.region ?_
  refine WL.val (v_assign rfl) rfl ?_
  refine WL.nil ?_
  refine EX.next ?_
  refine WC.seq ?_
  refine WC.region ?_
  refine WL.val (v_move rfl) rfl ?_
  refine WL.val (n_index (m := 3) Tryz.runUnderlying23 Tryz.sizeOf5 rfl (show _ = some (Value.int .i64 ((3 : Nat) : Int)) from rfl) hRa (by omega) (by rw [bt_length]; omega)) rfl ?_
  refine WL.val (v_load_rd Tryz.isAgg5 rfl hRa (bt_at (by omega))) rfl ?_
  refine WL.nil ?_
  refine EX.next ?_
  refine WC.seq ?_
  refine WC.drawAll (by kernel_rfl) ?_
  refine WS.val (v_move rfl) rfl ?_
  refine WS.val (n_index (m := 3) Tryz.runUnderlying23 Tryz.sizeOf5 rfl (show _ = some (Value.int .i64 ((3 : Nat) : Int)) from rfl) hRa (by omega) (by rw [bt_length]; omega)) rfl ?_
  refine WS.val (v_load_rd Tryz.isAgg5 rfl hRa (bt_at (by omega))) rfl ?_
  refine WS.val (u32_conv Tryz.runUnderlying5 Tryz.runUnderlying22 rfl (by omega)) rfl ?_
  refine WS.val (v_move rfl) rfl ?_
  refine WS.val (n_index (m := 2) Tryz.runUnderlying23 Tryz.sizeOf5 rfl (show _ = some (Value.int .i64 ((2 : Nat) : Int)) from rfl) hRa (by omega) (by rw [bt_length]; omega)) rfl ?_
  refine WS.val (v_load_rd Tryz.isAgg5 rfl hRa (bt_at (by omega))) rfl ?_
  refine WS.val (u32_conv Tryz.runUnderlying5 Tryz.runUnderlying22 rfl (by omega)) rfl ?_
  refine WS.val (u32_shl rfl rfl (show (8 : Int) = ((8 : Nat) : Int) from rfl) (by omega) (by omega)) rfl ?_
  refine WS.val (u32_or rfl rfl (by omega) (by omega)) rfl ?_
  refine WS.val (v_move rfl) rfl ?_
  refine WS.val (n_index (m := 1) Tryz.runUnderlying23 Tryz.sizeOf5 rfl (show _ = some (Value.int .i64 ((1 : Nat) : Int)) from rfl) hRa (by omega) (by rw [bt_length]; omega)) rfl ?_
  refine WS.val (v_load_rd Tryz.isAgg5 rfl hRa (bt_at (by omega))) rfl ?_
  refine WS.val (u32_conv Tryz.runUnderlying5 Tryz.runUnderlying22 rfl (by omega)) rfl ?_
  refine WS.val (u32_shl rfl rfl (show (16 : Int) = ((16 : Nat) : Int) from rfl) (by omega) (by omega)) rfl ?_
  refine WS.val (u32_or rfl rfl (by omega) (by omega)) rfl ?_
  refine WS.val (v_move rfl) rfl ?_
  refine WS.val (n_index (m := 0) Tryz.runUnderlying23 Tryz.sizeOf5 rfl (show _ = some (Value.int .i64 ((0 : Nat) : Int)) from rfl) hRa (by omega) (by rw [bt_length]; omega)) rfl ?_
  refine WS.val (v_load_rd Tryz.isAgg5 rfl hRa (bt_at (by omega))) rfl ?_
  refine WS.val (u32_conv Tryz.runUnderlying5 Tryz.runUnderlying22 rfl (by omega)) rfl ?_
  refine WS.val (u32_shl rfl rfl (show (24 : Int) = ((24 : Nat) : Int) from rfl) (by omega) (by omega)) rfl ?_
  refine WS.val (Val.to (v' := .int .u32 (bev (a.take 4) : Int)) (by rw [be4 hby (by omega)]) (u32_or rfl rfl (by omega) (by omega))) rfl ?_
  refine WS.val (v_assign rfl) rfl ?_
  refine WS.nil ?_
  refine EX.next ?_
  refine WC.ret ?_
  exact ret1 Tryz.results87 rfl fun w hw => ⟨rfl, hw⟩
theorem be64_any (w0 w : World) (L : Heap) (Aa : Option Addr) (la ca : Nat) (a : List Nat) (hby : ∀ d ∈ a, d < 256) (hla : la ≤ a.length) (h8 : 8 ≤ la) (hca : la ≤ ca) (hlc : a.length ≤ ca) (hRa : Rd L Aa (bt a)) (hw : HW w0 L w) :
    Calls P 86 #[.slice Aa la ca] w fun e w' => e = .returned (.int .u64 (bev (a.take 8) : Int)) ∧ HW w0 L w' := by
  have hx := be4_lt hby
  have hby4 : ∀ d ∈ a.drop 4, d < 256 := fun d hd => hby d (List.mem_of_mem_drop hd)
  have hy := be4_lt hby4
  have hR4 : Rd L (cutA Aa ca 4) (bt (a.drop 4)) := by have := hRa.cut (cap := ca) (k := 4) (by rw [bt_length]; omega); rwa [← bt_drop] at this
  refine enter (us := [.slice Aa la ca]) Tryz.func86 rfl Tryz.ntmps86 (by simp) rfl ?_ hw
  refine WC.seq ?_
  refine WC.region ?_
  refine WL.val (v_assign rfl) rfl ?_
  refine WL.nil ?_
  refine EX.next ?_
  refine WC.seq ?_
  refine WC.region ?_
  refine WL.val (v_move rfl) rfl ?_
  refine WL.val (n_index (m := 7) Tryz.runUnderlying23 Tryz.sizeOf5 rfl (show _ = some (Value.int .i64 ((7 : Nat) : Int)) from rfl) hRa (by omega) (by rw [bt_length]; omega)) rfl ?_
  refine WL.val (v_load_rd Tryz.isAgg5 rfl hRa (bt_at (by omega))) rfl ?_
  refine WL.nil ?_
  refine EX.next ?_
  refine WC.seq ?_
  refine WC.draw (_) (.quiet 0 (.quiet 4 (.quiet 5 (.one 1 (.quiet 2 (.quiet 3 (.one 6 (.quiet 7 (.quiet 8 (.quiet 9 .done)))))))))) (by kernel_rfl) (fun _ h => h) ?_
  refine AK.quiet rfl (v_move rfl) rfl ?_
  refine AK.quiet rfl (v_move rfl) rfl ?_
  refine AK.quiet rfl (v_slice (i := 4) (j := la) Tryz.runUnderlying23 Tryz.sizeOf5 rfl ⟨.i64, rfl⟩ rfl (by omega) hca hca) rfl ?_
  refine AK.one rfl rfl (OW.call (xs := [.tmp 6]) Tryz.call87 rfl (fun w hw => be32_any w0 w _ _ _ _ a hby hla (by omega) hRa hw) rfl ?_)
  rintro r w' ⟨rfl, hw'⟩
  refine ⟨_, _, rfl, hw', ?_⟩
  refine AK.on (fun _ => Sb.hw) ?_
  refine AK.quiet rfl (u64_conv Tryz.runUnderlying22 Tryz.runUnderlying50 rfl (by omega)) rfl ?_
  refine AK.quiet rfl (u64_shl rfl rfl (show (32 : Int) = ((32 : Nat) : Int) from rfl) (by omega) (by omega)) rfl ?_
  refine AK.one rfl rfl (OW.call (xs := [.tmp 11]) Tryz.call87 rfl (fun w hw => be32_any w0 w _ _ _ _ (a.drop 4) hby4 (by rw [List.length_drop]; omega) (by omega) hR4 hw) rfl ?_)
  rintro r w' ⟨rfl, hw'⟩
  refine ⟨_, _, rfl, hw', ?_⟩
  refine AK.on (fun _ => Sb.hw) ?_
  refine AK.quiet rfl (u64_conv Tryz.runUnderlying22 Tryz.runUnderlying50 rfl (by omega)) rfl ?_
  refine AK.quiet rfl (Val.to (v' := .int .u64 (bev (a.take 8) : Int)) (by rw [be8 hby (by omega)]) (u64_or rfl rfl (by omega) (by omega))) rfl ?_
  refine AK.quiet rfl (v_assign rfl) rfl ?_
  refine AK.done ?_
  refine EX.next ?_
  refine WC.ret ?_
  exact ret1 Tryz.results86 rfl fun w hw => ⟨rfl, hw⟩
theorem bigWord_any (w0 w : World) (L : Heap) (Aa : Option Addr) (la ca : Nat) (a : List Nat) (hby : ∀ d ∈ a, d < 256) (hla : la ≤ a.length) (h8 : 8 ≤ la) (hca : la ≤ ca) (hlc : a.length ≤ ca) (hRa : Rd L Aa (bt a)) (hw : HW w0 L w) :
    Calls P 74 #[.slice Aa la ca] w fun e w' => e = .returned (.int .u64 (bev (a.take 8) : Int)) ∧ HW w0 L w' := by
  refine enter (us := [.slice Aa la ca]) Tryz.func74 rfl Tryz.ntmps74 (by simp) rfl ?_ hw
  refine WC.seq ?_
  refine WC.region ?_
  refine WL.val (v_assign rfl) rfl ?_
  refine WL.nil ?_
  refine EX.next ?_
  refine WC.seq ?_
  refine WC.cond rfl ?_ ?_
  · intro hb0
    refine WC.seq ?_
    refine WC.region ?_
    refine WL.val (v_move rfl) rfl ?_
    refine WL.act rfl (OW.call (xs := [.tmp 3]) Tryz.call86 rfl (fun w hw => be64_any w0 w _ _ _ _ a hby hla h8 hca hlc hRa hw) rfl ?_)
    rintro r w' ⟨rfl, hw'⟩
    refine ⟨_, _, rfl, hw', ?_⟩
    refine WL.val (v_assign rfl) rfl ?_
    refine WL.nil ?_
    refine EX.next ?_
    refine WC.ret ?_
    refine EX.ret_then ?_
    exact ret1 Tryz.results74 rfl fun w hw => ⟨rfl, hw⟩
  · intro hb0
    cases hb0
end Go.Proofs.YtljoodllnaekbaaGreatDoor

namespace Go.Proofs.YtljoodllnaekbaaGreatDoor
open Go

theorem bigMake_any (w0 w : World) (L : Heap) (n : Nat) (hn : n ≤ 1000) (hw : HW w0 L w) :
    Calls P 73 #[.slice none 0 0, .int .i64 (n : Int)] w fun e w' => (n = 0 ∧ e = .returned (.slice none 0 0) ∧ HW w0 L w') ∨ (∃ b sp, e = .returned (.slice (some ⟨b, 0, none⟩) n (n + sp.length)) ∧ 0 < n ∧ HW w0 ((b, blk 175 (0, 0) (wd (List.replicate n 0) ++ sp)) :: L) w') := by
  refine enter (us := [.slice none 0 0, .int .i64 (n : Int)]) Tryz.func73 rfl Tryz.ntmps73 (by simp) rfl ?_ hw
  refine WC.seq ?_
  refine WC.region ?_
  refine WL.val (v_assign rfl) rfl ?_
  refine WL.nil ?_
  refine EX.next ?_
  refine WC.seq ?_
  refine WC.seq ?_
  refine WC.region ?_
  refine WL.val (v_move rfl) rfl ?_
  refine WL.val (v_move rfl) rfl ?_
  refine WL.val (v_cap Tryz.runUnderlying137 rfl) rfl ?_
  refine WL.val (v_leq rfl rfl) rfl ?_
  refine WL.nil ?_
  refine EX.next ?_
  refine WC.cond rfl ?_ ?_
  · intro hb1
    have h0 : n = 0 := by have := of_decide_eq_true hb1; omega
    subst h0
    refine WC.seq ?_
    refine WC.region ?_
    refine WL.val (v_move rfl) rfl ?_
    refine WL.val (v_move rfl) rfl ?_
    refine WL.val (v_slice (i := 0) (j := 0) Tryz.runUnderlying137 Tryz.sizeOf175 rfl rfl ⟨.i64, rfl⟩ (Nat.le_refl _) (Nat.le_refl _) (Nat.le_refl _)) rfl ?_
    refine WL.val (v_assign rfl) rfl ?_
    refine WL.nil ?_
    refine EX.next ?_
    refine WC.ret ?_
    refine EX.ret_then ?_
    exact ret1 Tryz.results73 rfl fun w hw => .inl ⟨rfl, rfl, hw⟩
  · intro hb1
    have h0 : 0 < n := by have := of_decide_eq_false hb1; omega
    refine WC.skip ?_
    refine EX.next ?_
    refine WC.seq ?_
    refine WC.seq ?_
    refine WC.region ?_
    refine WL.val (v_move rfl) rfl ?_
    refine WL.val (v_eql rfl rfl) rfl ?_
    refine WL.nil ?_
    refine EX.next ?_
    refine WC.cond rfl ?_ ?_
    · intro hb3
      have h1 : n = 1 := by have := beq_iff_eq.1 hb3; omega
      subst h1
      refine WC.seq ?_
      refine WC.region ?_
      refine WL.act rfl (OW.make (l := 1) (c := 1) Tryz.runUnderlying137 Tryz.typeInfo175 Tryz.sizeOf175 Tryz.zeroValue175 rfl rfl rfl (Nat.le_refl _) (by rw [bytes175]; omega) (by omega) rfl (fun b1 => ?_))
      refine WL.val (v_assign rfl) rfl ?_
      refine WL.nil ?_
      refine EX.next ?_
      refine WC.ret ?_
      refine EX.ret_then ?_
      exact ret1 Tryz.results73 rfl fun w hw => .inr ⟨b1, [], rfl, h0, hw⟩
    · intro hb3
      refine WC.skip ?_
      refine EX.next ?_
      refine WC.seq ?_
      refine WC.region ?_
      refine WL.val (v_move rfl) rfl ?_
      refine WL.val (v_move rfl) rfl ?_
      refine WL.val (n_add1 rfl rfl (show (4 : Int) = ((4 : Nat) : Int) from rfl) (by omega)) rfl ?_
      refine WL.act rfl (OW.make (l := n) (c := n + 4) Tryz.runUnderlying137 Tryz.typeInfo175 Tryz.sizeOf175 Tryz.zeroValue175 rfl rfl rfl (by omega) (by rw [bytes175]; omega) (by omega) rfl (fun b9 => ?_))
      refine WL.val (v_assign rfl) rfl ?_
      refine WL.nil ?_
      refine EX.next ?_
      refine WC.ret ?_
      refine ret1 Tryz.results73 rfl fun w hw => .inr ⟨b9, List.replicate 4 (.int .u64 0), rfl, h0, ?_⟩
      rw [← wd_replicate, List.replicate_append_replicate]
      exact hw
theorem norm_any (w0 w : World) (L : Heap) (Aa : Option Addr) (la ca : Nat) (a : List Nat) (hla : a.length = la) (hxa : a.length ≤ 5000) (hca : la ≤ ca) (hRa : Rd L Aa (wd a)) (hw : HW w0 L w) :
    Calls P 75 #[.slice Aa la ca] w fun e w' => e = .returned (.slice Aa (trimL a).length ca) ∧ HW w0 L w' := by
  refine enter (us := [.slice Aa la ca]) Tryz.func75 rfl Tryz.ntmps75 (by simp) rfl ?_ hw
  refine WC.seq ?_
  refine WC.region ?_
  refine WL.val (v_assign rfl) rfl ?_
  refine WL.nil ?_
  refine EX.next ?_
  refine WC.seq ?_
  refine WC.region ?_
  refine WL.val (v_move rfl) rfl ?_
  refine WL.val (v_len Tryz.runUnderlying137 rfl) rfl ?_
  refine WL.val (v_assign rfl) rfl ?_
  refine WL.nil ?_
  refine EX.next ?_
  refine WC.seq ?_
  refine WC.block ?_
  refine WC.loop (fun mm ac wl => ∃ k : Nat, (k = mm) ∧ (k ≤ a.length) ∧ (trimL (a.take k) = trimL a) ∧ St w0 21 [(0, .slice Aa la ca), (3, .int .i64 (k : Int))] (L) ac wl) (la) ?_ ?_
  · intro ac wl hS
    exact ⟨la, rfl, by omega, by rw [← hla, List.take_length], hS.keep ⟨rfl, rfl, trivial⟩⟩
  · rintro mm ac wl ⟨k, hm, hk, ht, hS⟩
    subst hm
    revert ac wl
    refine KS.out ?_
    refine WC.seq ?_
    refine WC.seq ?_
    refine WC.region ?_
    refine WL.val (v_move rfl) rfl ?_
    refine WL.val (v_gtr rfl rfl) rfl ?_
    refine WL.val (v_move rfl) rfl ?_
    refine KS.split (decide ((k : Int) > 0)) ?_ ?_
    · intro hg2_2
      have hk0 : 0 < k := by have := of_decide_eq_true hg2_2; omega
      refine WL.yes rfl rfl rfl hg2_2 (v_move rfl) rfl ?_
      refine WL.yes rfl rfl rfl hg2_2 (v_move rfl) rfl ?_
      refine WL.yes rfl rfl rfl hg2_2 (n_sub1 rfl rfl (show (1 : Int) = ((1 : Nat) : Int) from rfl) (by omega) (by omega)) rfl ?_
      refine WL.yes rfl rfl rfl hg2_2 (n_index Tryz.runUnderlying137 Tryz.sizeOf175 rfl rfl hRa (by omega) (by rw [wd_length]; omega)) rfl ?_
      refine WL.yes rfl rfl rfl hg2_2 (v_load_rd Tryz.isAgg175 rfl hRa (wd_at (by omega))) rfl ?_
      refine WL.yes rfl rfl rfl hg2_2 (v_eql rfl rfl) rfl ?_
      refine WL.val (v_pick_t rfl hg2_2 rfl) rfl ?_
      refine WL.nil ?_
      refine EX.next ?_
      refine WC.cond rfl ?_ ?_
      · intro hb2
        refine WC.skip ?_
        refine EX.next ?_
        refine WC.block ?_
        refine WC.region ?_
        refine WL.val (v_move rfl) rfl ?_
        refine WL.val (n_sub1 rfl rfl (show (1 : Int) = ((1 : Nat) : Int) from rfl) (by omega) (by omega)) rfl ?_
        refine WL.val (v_assign rfl) rfl ?_
        refine WL.nil ?_
        refine EX.normal_block ?_
        refine EX.to ?_
        refine KS.mk fun b w hS => ⟨k - 1, by omega, k - 1, rfl, by omega, ?_, hS.keep ⟨rfl, rfl, trivial⟩⟩
        rw [← ht, trimL_take_zero hk0 hk (by simpa using hb2)]
      · intro hb2
        refine WC.exit ?_
        refine EX.exit_then ?_
        refine EX.exit_then ?_
        refine EX.exit_here ?_
        refine EX.next ?_
        refine WC.seq ?_
        refine WC.region ?_
        refine WL.val (v_move rfl) rfl ?_
        refine WL.val (v_move rfl) rfl ?_
        refine WL.val (Val.cast (v_slice (i := 0) (j := k) Tryz.runUnderlying137 Tryz.sizeOf175 rfl ⟨.i64, rfl⟩ ⟨.i64, rfl⟩ (by omega) (by omega) hca) (show _ = Value.slice Aa k ca by rw [cutA_zero]; rfl)) rfl ?_
        refine WL.val (v_assign rfl) rfl ?_
        refine WL.nil ?_
        refine EX.next ?_
        refine WC.ret ?_
        refine ret1 Tryz.results75 rfl fun w hw => ⟨?_, hw⟩
        rw [← ht, trimL_take_ne hk0 hk (by simpa using hb2), List.length_take, Nat.min_eq_left hk]
    · intro hg2_2
      have hk0 : k = 0 := by have := of_decide_eq_false hg2_2; omega
      refine WL.no rfl rfl rfl hg2_2 ?_
      refine WL.no rfl rfl rfl hg2_2 ?_
      refine WL.no rfl rfl rfl hg2_2 ?_
      refine WL.no rfl rfl rfl hg2_2 ?_
      refine WL.no rfl rfl rfl hg2_2 ?_
      refine WL.no rfl rfl rfl hg2_2 ?_
      refine WL.val (v_pick_f rfl hg2_2 rfl) rfl ?_
      refine WL.nil ?_
      refine EX.next ?_
      refine WC.cond rfl ?_ ?_
      · intro hb2
        exact absurd hb2 (by decide)
      · intro hb2
        refine WC.exit ?_
        refine EX.exit_then ?_
        refine EX.exit_then ?_
        refine EX.exit_here ?_
        refine EX.next ?_
        refine WC.seq ?_
        refine WC.region ?_
        refine WL.val (v_move rfl) rfl ?_
        refine WL.val (v_move rfl) rfl ?_
        refine WL.val (Val.cast (v_slice (i := 0) (j := k) Tryz.runUnderlying137 Tryz.sizeOf175 rfl ⟨.i64, rfl⟩ ⟨.i64, rfl⟩ (by omega) (by omega) hca) (show _ = Value.slice Aa k ca by rw [cutA_zero]; rfl)) rfl ?_
        refine WL.val (v_assign rfl) rfl ?_
        refine WL.nil ?_
        refine EX.next ?_
        refine WC.ret ?_
        refine ret1 Tryz.results75 rfl fun w hw => ⟨?_, hw⟩
        subst hk0
        rw [← ht]; rfl
theorem setBytes_nil (w0 w : World) (L : Heap) (Aa : Option Addr) (ca : Nat) (a : List Nat) (h0 : a = []) (hw : HW w0 L w) :
    Calls P 62 #[.slice none 0 0, .slice Aa 0 ca] w (fun e w' => ∃ A c B, e = .returned (.slice A (intW a).length c) ∧ (intW a).length ≤ c ∧ Rd B A (wd (intW a)) ∧ HW w0 (B ++ L) w') := by
  refine enter (us := [.slice none 0 0, .slice Aa 0 ca]) Tryz.func62 rfl Tryz.ntmps62 (by simp) rfl ?_ hw
  refine WC.seq ?_
  refine WC.region ?_
  refine WL.val (v_assign rfl) rfl ?_
  refine WL.nil ?_
  refine EX.next ?_
  refine WC.seq ?_
  refine WC.region ?_
  refine WL.val (v_move rfl) rfl ?_
  refine WL.val (v_move rfl) rfl ?_
  refine WL.val (v_len Tryz.runUnderlying23 rfl) rfl ?_
  refine WL.val (v_add_i (m := 0) (n := 8) rfl rfl (by decide)) rfl ?_
  refine WL.val (v_sub_i (m := 0 + 8) (n := 1) rfl rfl (by decide)) rfl ?_
  refine WL.val (Val.to (v' := .int .i64 ((0 : Nat) : Int)) rfl (v_quo (m := 7) (n := 8) rfl rfl (by decide))) rfl ?_
  refine WL.act rfl (OW.call (xs := [.tmp 9, .tmp 14]) Tryz.call73 rfl (fun w hw => bigMake_any w0 w _ 0 (by omega) hw) rfl ?_)
  rintro r w' (⟨_, rfl, hw'⟩ | ⟨_, _, _, hn, _⟩)
  case inr => omega
  refine ⟨_, _, rfl, hw', ?_⟩
  refine WL.val (v_assign rfl) rfl ?_
  refine WL.nil ?_
  refine EX.next ?_
  refine WC.seq ?_
  refine WC.region ?_
  refine WL.val (v_move rfl) rfl ?_
  refine WL.val (v_len Tryz.runUnderlying23 rfl) rfl ?_
  refine WL.val (v_assign rfl) rfl ?_
  refine WL.nil ?_
  refine EX.next ?_
  refine WC.seq ?_
  refine WC.seq ?_
  refine WC.region ?_
  refine WL.val (v_assign rfl) rfl ?_
  refine WL.nil ?_
  refine EX.next ?_
  refine WC.block ?_
  refine WC.loop (fun mm ac wl => (0 = mm) ∧ St w0 59 [(0, .slice none 0 0), (5, .int .i64 0)] (L) ac wl) (0) ?_ ?_
  · intro ac wl hS
    exact ⟨rfl, hS.keep ⟨rfl, rfl, trivial⟩⟩
  · rintro mm ac wl ⟨hm, hS⟩
    subst hm
    revert ac wl
    refine KS.out ?_
    refine WC.seq ?_
    refine WC.seq ?_
    refine WC.region ?_
    refine WL.val (v_move rfl) rfl ?_
    refine WL.val (v_geq rfl rfl) rfl ?_
    refine WL.nil ?_
    refine EX.next ?_
    refine WC.cond rfl ?_ ?_
    · intro hb4
      exact absurd hb4 (by decide)
    · intro hb4
      refine WC.exit ?_
      refine EX.exit_then ?_
      refine EX.exit_then ?_
      refine EX.exit_here ?_
      refine EX.next ?_
      refine WC.seq ?_
      refine WC.seq ?_
      refine WC.region ?_
      refine WL.val (v_move rfl) rfl ?_
      refine WL.val (v_gtr rfl rfl) rfl ?_
      refine WL.nil ?_
      refine EX.next ?_
      refine WC.cond rfl ?_ ?_
      · intro hb8
        exact absurd hb8 (by decide)
      · intro hb8
        refine WC.skip ?_
        refine EX.next ?_
        refine WC.seq ?_
        refine WC.region ?_
        refine WL.val (v_move rfl) rfl ?_
        refine WL.act rfl (OW.call (xs := [.tmp 57]) Tryz.call75 rfl (fun w hw => norm_any w0 w _ _ _ _ [] rfl (by decide) (Nat.le_refl _) Rd.nil hw) rfl ?_)
        rintro r w' ⟨rfl, hw'⟩
        refine ⟨_, _, rfl, hw', ?_⟩
        refine WL.val (v_assign rfl) rfl ?_
        refine WL.nil ?_
        refine EX.next ?_
        refine WC.ret ?_
        subst h0
        exact ret1 Tryz.results62 rfl fun w hw => ⟨none, 0, [], rfl, Nat.le_refl _, Rd.nil, hw⟩
theorem setBytes_pos (w0 w : World) (L : Heap) (Aa : Option Addr) (la ca : Nat) (a : List Nat) (hby : ∀ d ∈ a, d < 256) (hla : a.length = la) (hxa : a.length ≤ 1000) (hca : la ≤ ca) (hRa : Rd L Aa (bt a)) (h0 : 0 < a.length) (hw : HW w0 L w) :
    Calls P 62 #[.slice none 0 0, .slice Aa la ca] w (fun e w' => ∃ A c B, e = .returned (.slice A (intW a).length c) ∧ (intW a).length ≤ c ∧ Rd B A (wd (intW a)) ∧ HW w0 (B ++ L) w') := by
  refine enter (us := [.slice none 0 0, .slice Aa la ca]) Tryz.func62 rfl Tryz.ntmps62 (by simp) rfl ?_ hw
  refine WC.seq ?_
  refine WC.region ?_
  refine WL.val (v_assign rfl) rfl ?_
  refine WL.nil ?_
  refine EX.next ?_
  refine WC.seq ?_
  refine WC.region ?_
  refine WL.val (v_move rfl) rfl ?_
  refine WL.val (v_move rfl) rfl ?_
  refine WL.val (v_len Tryz.runUnderlying23 rfl) rfl ?_
  refine WL.val (n_add1 rfl rfl (show (8 : Int) = ((8 : Nat) : Int) from rfl) (by omega)) rfl ?_
  refine WL.val (n_sub1 rfl rfl (show (1 : Int) = ((1 : Nat) : Int) from rfl) (by omega) (by omega)) rfl ?_
  refine WL.val (Val.to (v' := .int .i64 ((((la + 7) / 8) : Nat) : Int)) (by rw [show la + 8 - 1 = la + 7 by omega]) (n_quo rfl (show _ = some (Value.int .i64 ((8 : Nat) : Int)) from rfl) (by omega) (by omega))) rfl ?_
  refine WL.act rfl (OW.call (xs := [.tmp 9, .tmp 14]) Tryz.call73 rfl (fun w hw => bigMake_any w0 w _ ((la + 7) / 8) (by omega) hw) rfl ?_)
  rintro r w' (⟨hz, _, _⟩ | ⟨b, sp, rfl, hn, hw'⟩)
  case inl => omega
  refine ⟨_, _, rfl, hw', ?_⟩
  refine WL.val (v_assign rfl) rfl ?_
  refine WL.nil ?_
  refine EX.next ?_
  refine WC.seq ?_
  refine WC.region ?_
  refine WL.val (v_move rfl) rfl ?_
  refine WL.val (v_len Tryz.runUnderlying23 rfl) rfl ?_
  refine WL.val (v_assign rfl) rfl ?_
  refine WL.nil ?_
  refine EX.next ?_
  refine WC.seq ?_
  refine WC.seq ?_
  refine WC.region ?_
  refine WL.val (v_assign rfl) rfl ?_
  refine WL.nil ?_
  refine EX.next ?_
  refine WC.block ?_
  refine WC.loop (fun mm ac wl => ∃ t : Nat, (la - 8 * t = mm) ∧ (8 * t ≤ la) ∧ St w0 59 [(0, .slice (some ⟨b, 0, none⟩) ((la + 7) / 8) (((la + 7) / 8) + sp.length)), (1, .slice Aa la ca), (5, .int .i64 ((la - 8 * t : Nat) : Int)), (6, .int .i64 (t : Int))] ((b, blk 175 (0, 0) (wd (fillL (wordOf a) (fun _ => 0) ((la + 7) / 8) t) ++ sp)) :: L) ac wl) (la) ?_ ?_
  · intro ac wl hS
    refine ⟨0, rfl, by omega, (hS.heap' ?_).keep ⟨rfl, rfl, rfl, rfl, trivial⟩⟩
    have h8 := hS.mem
    rw [← range_zero] at h8
    rw [fillL_zero]; exact h8
  · rintro mm ac wl ⟨t, hm, ht, hS⟩
    subst hm
    revert ac wl
    refine KS.out ?_
    refine WC.seq ?_
    refine WC.seq ?_
    refine WC.region ?_
    refine WL.val (v_move rfl) rfl ?_
    refine WL.val (v_geq rfl rfl) rfl ?_
    refine WL.nil ?_
    refine EX.next ?_
    refine WC.cond rfl ?_ ?_
    · intro hb4
      have hge : 8 ≤ la - 8 * t := by have := of_decide_eq_true hb4; omega
      have hRt : Rd L (cutA Aa ca (la - 8 * t - 8)) (bt (a.drop (la - 8 * t - 8))) := by have := hRa.cut (cap := ca) (k := la - 8 * t - 8) (by rw [bt_length]; omega); rwa [← bt_drop] at this
      have hwo : bev ((a.drop (la - 8 * t - 8)).take 8) = wordOf a t := by rw [word_slice a (la - 8 * t) hge, wordOf, hla]
      have hbd : ∀ d ∈ a.drop (la - 8 * t - 8), d < 256 := fun d hd => hby d (List.mem_of_mem_drop hd)
      refine WC.skip ?_
      refine EX.next ?_
      refine WC.seq ?_
      refine WC.block ?_
      refine WC.seq ?_
      refine WC.region ?_
      refine WL.val (v_move rfl) rfl ?_
      refine WL.val (v_move rfl) rfl ?_
      refine WL.val (v_move rfl) rfl ?_
      refine WL.val (v_move rfl) rfl ?_
      refine WL.val (n_sub1 rfl rfl (show (8 : Int) = ((8 : Nat) : Int) from rfl) (by omega) (by omega)) rfl ?_
      refine WL.val (v_move rfl) rfl ?_
      refine WL.val (v_slice (i := la - 8 * t - 8) (j := la - 8 * t) Tryz.runUnderlying23 Tryz.sizeOf5 rfl ⟨.i64, rfl⟩ ⟨.i64, rfl⟩ (by omega) (by omega) hca) rfl ?_
      refine WL.act rfl (OW.call (xs := [.tmp 28]) Tryz.call74 rfl (fun w hw => bigWord_any w0 w _ _ _ _ (a.drop (la - 8 * t - 8)) hbd (by rw [List.length_drop]; omega) (by omega) (by omega) (by rw [List.length_drop]; omega) (hRt.mono (fun _ h => (mS h))) hw) rfl ?_)
      rintro r w' ⟨rfl, hw'⟩
      rw [hwo]
      refine ⟨_, _, rfl, hw', ?_⟩
      refine WL.val (n_ix Tryz.runUnderlying137 Tryz.sizeOf175 rfl rfl (by omega)) rfl ?_
      refine WL.act rfl (OW.store (vs' := _) Tryz.sizeOf175 rfl rfl rfl (by rw [wd_set2 _ _ _ _ (by rw [fillL_length]; omega), fillL_set]) .here (by rw [List.length_append, wd_length, fillL_length]; omega) (by simp) ?_)
      refine WL.nil ?_
      refine EX.next ?_
      refine WC.region ?_
      refine WL.val (v_move rfl) rfl ?_
      refine WL.val (Val.to (v' := .int .i64 ((la - 8 * (t + 1) : Nat) : Int)) (by rw [show la - 8 * t - 8 = la - 8 * (t + 1) by omega]) (n_sub1 rfl rfl (show (8 : Int) = ((8 : Nat) : Int) from rfl) (by omega) (by omega))) rfl ?_
      refine WL.val (v_assign rfl) rfl ?_
      refine WL.nil ?_
      refine EX.normal_block ?_
      refine EX.next ?_
      refine WC.region ?_
      refine WL.val (v_move rfl) rfl ?_
      refine WL.val (n_add1 rfl rfl (show (1 : Int) = ((1 : Nat) : Int) from rfl) (by omega)) rfl ?_
      refine WL.val (v_assign rfl) rfl ?_
      refine WL.nil ?_
      refine EX.to ?_
      exact KS.mk fun b w hS => ⟨la - 8 * (t + 1), by omega, t + 1, rfl, by omega, hS.keep ⟨rfl, rfl, rfl, rfl, trivial⟩⟩
    · intro hb4
      have hge : la - 8 * t < 8 := by have := of_decide_eq_false hb4; omega
      refine WC.exit ?_
      refine EX.exit_then ?_
      refine EX.exit_then ?_
      refine EX.exit_here ?_
      refine EX.next ?_
      refine WC.cut (fun ac wl => St w0 59 [(0, .slice (some ⟨b, 0, none⟩) ((la + 7) / 8) (((la + 7) / 8) + sp.length))] ((b, blk 175 (0, 0) (wd (wordsL a) ++ sp)) :: L) ac wl) ?_ ?_
      · skip
        refine WC.seq ?_
        refine WC.region ?_
        refine WL.val (v_move rfl) rfl ?_
        refine WL.val (v_gtr rfl rfl) rfl ?_
        refine WL.nil ?_
        refine EX.next ?_
        refine WC.cond rfl ?_ ?_
        · intro hb8
          have hr : 0 < la - 8 * t := by have := of_decide_eq_true hb8; omega
          have hN : ((la + 7) / 8) = t + 1 := by omega
          refine WC.seq ?_
          refine WC.region ?_
          refine WL.val (v_assign rfl) rfl ?_
          refine WL.nil ?_
          refine EX.next ?_
          refine WC.seq ?_
          refine WC.seq ?_
          refine WC.region ?_
          refine WL.val (v_assign rfl) rfl ?_
          refine WL.nil ?_
          refine EX.next ?_
          refine WC.block ?_
          refine WC.loop (fun mm ac wl => ∃ j : Nat, (la - 8 * t - j = mm) ∧ (j ≤ la - 8 * t) ∧ St w0 59 [(0, .slice (some ⟨b, 0, none⟩) ((la + 7) / 8) (((la + 7) / 8) + sp.length)), (1, .slice Aa la ca), (5, .int .i64 ((la - 8 * t - j : Nat) : Int)), (7, .int .u64 (lastB a (la - 8 * t) j : Int)), (8, .int .u64 ((8 * j : Nat) : Int))] ((b, blk 175 (0, 0) (wd (fillL (wordOf a) (fun _ => 0) ((la + 7) / 8) t) ++ sp)) :: L) ac wl) (la - 8 * t) ?_ ?_
          · intro ac wl hS
            refine ⟨0, rfl, by omega, ?_⟩
            rw [lastB_zero]
            exact hS.keep ⟨rfl, rfl, rfl, rfl, rfl, trivial⟩
          · rintro mm ac wl ⟨j, hm, hj, hS⟩
            subst hm
            revert ac wl
            refine KS.out ?_
            have hlb := lastB_lt hby (la - 8 * t) j
            have hpj : 2 ^ (8 * j) ≤ 2 ^ 56 ∨ j = la - 8 * t := by
              rcases Nat.lt_or_ge j (la - 8 * t) with h | h
              · exact .inl (Nat.pow_le_pow_right (by omega) (by omega))
              · exact .inr (by omega)
            refine WC.seq ?_
            refine WC.seq ?_
            refine WC.region ?_
            refine WL.val (v_move rfl) rfl ?_
            refine WL.val (v_gtr rfl rfl) rfl ?_
            refine WL.nil ?_
            refine EX.next ?_
            refine WC.cond rfl ?_ ?_
            · intro hb11
              have hlt : j < la - 8 * t := by have := of_decide_eq_true hb11; omega
              have hpj2 : 2 ^ (8 * j) ≤ 2 ^ 56 := hpj.resolve_right (by omega)
              have hbj := byte_at hby (la - 8 * t - j - 1)
              have hmul : a.getD (la - 8 * t - j - 1) 0 * 2 ^ (8 * j) ≤ 255 * 2 ^ 56 := Nat.mul_le_mul (by omega) hpj2
              refine WC.skip ?_
              refine EX.next ?_
              refine WC.seq ?_
              refine WC.block ?_
              refine WC.seq ?_
              refine WC.region ?_
              refine WL.val (v_move rfl) rfl ?_
              refine WL.val (v_move rfl) rfl ?_
              refine WL.val (v_move rfl) rfl ?_
              refine WL.val (n_sub1 rfl rfl (show (1 : Int) = ((1 : Nat) : Int) from rfl) (by omega) (by omega)) rfl ?_
              refine WL.val (n_index Tryz.runUnderlying23 Tryz.sizeOf5 rfl rfl (Rd.mono hRa (fun _ h => (mS h))) (by omega) (by rw [bt_length]; omega)) rfl ?_
              refine WL.val (v_load_rd Tryz.isAgg5 rfl (Rd.mono hRa (fun _ h => (mS h))) (bt_at (by omega))) rfl ?_
              refine WL.val (u64_conv Tryz.runUnderlying5 Tryz.runUnderlying175 rfl (by omega)) rfl ?_
              refine WL.val (v_move rfl) rfl ?_
              refine WL.val (u64_shl rfl rfl rfl (by omega) (by omega)) rfl ?_
              refine WL.val (Val.to (v' := .int .u64 (lastB a (la - 8 * t) (j + 1) : Int)) (by rw [lastB_succ hby (by omega) hlt]) (u64_or rfl rfl (by omega) (by omega))) rfl ?_
              refine WL.val (v_assign rfl) rfl ?_
              refine WL.nil ?_
              refine EX.next ?_
              refine WC.region ?_
              refine WL.val (v_move rfl) rfl ?_
              refine WL.val (Val.to (v' := .int .i64 ((la - 8 * t - (j + 1) : Nat) : Int)) (by rw [show la - 8 * t - j - 1 = la - 8 * t - (j + 1) by omega]) (n_sub1 rfl rfl (show (1 : Int) = ((1 : Nat) : Int) from rfl) (by omega) (by omega))) rfl ?_
              refine WL.val (v_assign rfl) rfl ?_
              refine WL.nil ?_
              refine EX.normal_block ?_
              refine EX.next ?_
              refine WC.region ?_
              refine WL.val (v_move rfl) rfl ?_
              refine WL.val (Val.to (v' := .int .u64 ((8 * (j + 1) : Nat) : Int)) (by rw [show 8 * j + 8 = 8 * (j + 1) by omega]) (u64_add rfl rfl (show (8 : Int) = ((8 : Nat) : Int) from rfl) (by omega))) rfl ?_
              refine WL.val (v_assign rfl) rfl ?_
              refine WL.nil ?_
              refine EX.to ?_
              exact KS.mk fun b w hS => ⟨la - 8 * t - (j + 1), by omega, j + 1, rfl, by omega, hS.keep ⟨rfl, rfl, rfl, rfl, rfl, trivial⟩⟩
            · intro hb11
              have hge2 : j = la - 8 * t := by have := of_decide_eq_false hb11; omega
              subst hge2
              have hlw : lastB a (la - 8 * t) (la - 8 * t) = wordOf a t := by have := lastB_word a t (by omega); rwa [hla] at this
              rw [hlw]
              refine WC.exit ?_
              refine EX.exit_then ?_
              refine EX.exit_then ?_
              refine EX.exit_here ?_
              refine EX.next ?_
              refine WC.region ?_
              refine WL.val (v_move rfl) rfl ?_
              refine WL.val (v_move rfl) rfl ?_
              refine WL.val (v_len Tryz.runUnderlying137 rfl) rfl ?_
              refine WL.val (Val.to (v' := .int .i64 (t : Int)) (by rw [show ((la + 7) / 8) - 1 = t by omega]) (n_sub1 rfl rfl (show (1 : Int) = ((1 : Nat) : Int) from rfl) (by omega) (by omega))) rfl ?_
              refine WL.val (v_move rfl) rfl ?_
              refine WL.val (n_ix Tryz.runUnderlying137 Tryz.sizeOf175 rfl rfl (by omega)) rfl ?_
              refine WL.act rfl (OW.store (vs' := _) Tryz.sizeOf175 rfl rfl rfl (by rw [wd_set2 _ _ _ _ (by rw [fillL_length]; omega), fillL_set]) .here (by rw [List.length_append, wd_length, fillL_length]; omega) (by simp) ?_)
              refine WL.nil ?_
              refine EX.to ?_
              refine KS.mk fun b w hS => (hS.heap' ?_).keep ⟨rfl, trivial⟩
              have h8 := hS.mem
              have hfl : fillL (wordOf a) (fun _ => 0) ((la + 7) / 8) (t + 1) = wordsL a := by rw [wordsL, hla, ← hN, fillL_all]
              rw [hfl] at h8
              exact h8
        · intro hb8
          have hr : la - 8 * t = 0 := by have := of_decide_eq_false hb8; omega
          have hN : ((la + 7) / 8) = t := by omega
          refine WC.skip ?_
          refine EX.to ?_
          refine KS.mk fun b w hS => (hS.heap' ?_).keep ⟨rfl, trivial⟩
          have h8 := hS.mem
          have hfl : fillL (wordOf a) (fun _ => 0) ((la + 7) / 8) t = wordsL a := by rw [wordsL, hla, ← hN, fillL_all]
          rw [hfl] at h8
          exact h8
      · intro ac wl hS
        revert ac wl
        refine KS.out ?_
        refine WC.seq ?_
        refine WC.region ?_
        refine WL.val (v_move rfl) rfl ?_
        refine WL.act rfl (OW.call (xs := [.tmp 57]) Tryz.call75 rfl (fun w hw => norm_any w0 w _ _ _ _ (wordsL a) (by rw [wordsL_length, hla]) (by rw [wordsL_length]; omega) (by omega) (Rd.row m0) hw) rfl ?_)
        rintro r w' ⟨rfl, hw'⟩
        refine ⟨_, _, rfl, hw', ?_⟩
        refine WL.val (v_assign rfl) rfl ?_
        refine WL.nil ?_
        refine EX.next ?_
        refine WC.ret ?_
        refine ret1 Tryz.results62 rfl fun w hw => ⟨some ⟨b, 0, none⟩, ((la + 7) / 8) + sp.length, [(b, _)], rfl, ?_, ?_, hw⟩
        · have := intW_length a; rw [hla] at this; omega
        · obtain ⟨k, _, e⟩ := trimL_prefix (wordsL a)
          unfold intW
          rw [e, wd_take]
          exact (Rd.row m0).take k
theorem setBytes_any (w0 w : World) (L : Heap) (Aa : Option Addr) (la ca : Nat) (a : List Nat) (hby : ∀ d ∈ a, d < 256) (hla : a.length = la) (hxa : a.length ≤ 1000) (hca : la ≤ ca) (hRa : Rd L Aa (bt a)) (hw : HW w0 L w) :
    Calls P 62 #[.slice none 0 0, .slice Aa la ca] w (fun e w' => ∃ A c B, e = .returned (.slice A (intW a).length c) ∧ (intW a).length ≤ c ∧ Rd B A (wd (intW a)) ∧ HW w0 (B ++ L) w') := by
  rcases Nat.eq_zero_or_pos a.length with h | h
  · have h0 := List.eq_nil_of_length_eq_zero h
    rw [h] at hla
    subst hla
    exact setBytes_nil w0 w L Aa ca a h0 hw
  · exact setBytes_pos w0 w L Aa la ca a hby hla hxa hca hRa h hw
end Go.Proofs.YtljoodllnaekbaaGreatDoor

namespace Go.Proofs.YtljoodllnaekbaaGreatDoor
open Go

theorem bigSetBytes_any (w0 w : World) (L : Heap) (k : Nat) (Aa : Option Addr) (la ca : Nat) (a : List Nat) (hby : ∀ d ∈ a, d < 256) (hla : a.length = la) (hxa : a.length ≤ 1000) (hca : la ≤ ca) (hRa : Rd L Aa (bt a)) (hw : HW w0 ((k, blk 139 (0, 0) [.bool false, .slice none 0 0]) :: L) w) :
    Calls P 52 #[.pointer (some ⟨k, 0, none⟩), .slice Aa la ca] w fun e w' => ∃ A c B, e = .returned (.pointer (some ⟨k, 0, none⟩)) ∧ (intW a).length ≤ c ∧ Rd B A (wd (intW a)) ∧ HW w0 (B ++ (k, blk 139 (0, 0) [.bool false, .slice A (intW a).length c]) :: L) w' := by
  refine enter (us := [.pointer (some ⟨k, 0, none⟩), .slice Aa la ca]) Tryz.func52 rfl Tryz.ntmps52 (by simp) rfl ?_ hw
  refine WC.seq ?_
  refine WC.region ?_
  refine WL.val (v_assign rfl) rfl ?_
  refine WL.nil ?_
  refine EX.next ?_
  refine WC.seq ?_
  refine WC.region ?_
  refine WL.val (v_move rfl) rfl ?_
  refine WL.val (v_move rfl) rfl ?_
  refine WL.val (v_nilCheck_ptr rfl) rfl ?_
  refine WL.val (v_field Tryz.runUnderlying139 rfl Tryz.sizeOf137 (by decide) rfl) rfl ?_
  refine WL.val (v_load Tryz.isAgg137 rfl m0 rfl) rfl ?_
  refine WL.val (v_move rfl) rfl ?_
  refine WL.act rfl (OW.call (xs := [.tmp 9, .tmp 10]) Tryz.call62 rfl (fun w hw => setBytes_any w0 w _ _ _ _ a hby hla hxa hca (hRa.mono fun _ h => mS h) hw) rfl ?_)
  rintro r w' ⟨A, c, B, rfl, hc, hR, hw'⟩
  refine ⟨_, _, rfl, hw', ?_⟩
  refine WL.val (v_nilCheck_ptr rfl) rfl ?_
  refine WL.val (v_field Tryz.runUnderlying139 rfl Tryz.sizeOf137 (by decide) rfl) rfl ?_
  refine WL.act rfl (OW.store (vs' := _) Tryz.sizeOf137 rfl rfl rfl (show _ = [Value.bool false, .slice A (intW a).length c] from rfl) (At.over .here _) (by exact Nat.lt_succ_self _) (by simp) ?_)
  refine WL.nil ?_
  refine EX.next ?_
  refine WC.seq ?_
  refine WC.region ?_
  refine WL.val (v_move rfl) rfl ?_
  refine WL.val (v_nilCheck_ptr rfl) rfl ?_
  refine WL.val (v_field Tryz.runUnderlying139 rfl Tryz.sizeOf4 (by decide) rfl) rfl ?_
  refine WL.act rfl (OW.store (vs' := _) Tryz.sizeOf4 rfl rfl rfl (show _ = [Value.bool false, .slice A (intW a).length c] from rfl) (At.over .here _) (by exact Nat.succ_pos _) (by simp) ?_)
  refine WL.nil ?_
  refine EX.next ?_
  refine WC.seq ?_
  refine WC.region ?_
  refine WL.val (v_move rfl) rfl ?_
  refine WL.val (v_assign rfl) rfl ?_
  refine WL.nil ?_
  refine EX.next ?_
  refine WC.ret ?_
  exact ret1 Tryz.results52 rfl fun w hw => ⟨A, c, B, rfl, hc, hR, hw⟩
theorem great_any (w0 w : World) (L : Heap) (q : Sl) (hq : Lies L q) (hby : ∀ d ∈ q.2.2, d < 256) (hxa : q.2.2.length ≤ 1000) (hw : HW w0 L w) :
    Calls P 45 #[slV q] w fun e w' => ∃ k B, e = .returned (.pointer (some ⟨k, 0, none⟩)) ∧ BigAt B k q.2.2 ∧ HW w0 (B ++ L) w' := by
  refine enter (us := [slV q]) Tryz.func45 rfl Tryz.ntmps45 (by simp) rfl ?_ hw
  refine WC.seq ?_
  refine WC.region ?_
  refine WL.val (v_assign rfl) rfl ?_
  refine WL.nil ?_
  refine EX.next ?_
  refine WC.seq ?_
  refine WC.region ?_
  refine WL.act rfl (OW.allocC (vs := [.bool false, .slice none 0 0]) Tryz.zeroValue139 rfl rfl (fun k => ?_))
  refine WL.val (v_move rfl) rfl ?_
  refine WL.act rfl (OW.call (xs := [.tmp 3, .tmp 4]) Tryz.call52 rfl (fun w hw => bigSetBytes_any w0 w _ k _ _ _ q.2.2 hby rfl hxa hq.cap hq.rd hw) rfl ?_)
  rintro r w' ⟨A, c, B, rfl, hc, hR, hw'⟩
  refine ⟨_, _, rfl, hw', ?_⟩
  refine WL.val (v_assign rfl) rfl ?_
  refine WL.nil ?_
  refine EX.next ?_
  refine WC.ret ?_
  refine ret1 Tryz.results45 rfl fun w hw => ⟨k, B ++ [(k, _)], rfl, ⟨A, c, List.mem_append_right _ m0, hc, hR.mono fun _ h => List.mem_append_left _ h⟩, ?_⟩
  rw [List.append_assoc]; exact hw
end Go.Proofs.YtljoodllnaekbaaGreatDoor

namespace Go.Proofs.YtljoodllnaekbaaGreatDoor
open Go

theorem bigBytes2_any (w0 w : World) (L : Heap) (Aa : Option Addr) (la ca : Nat) (a : List Nat) (h64 : ∀ d ∈ a, d < 18446744073709551616) (hla : a.length = la) (hxa : a.length ≤ 1000) (hca : la ≤ ca) (hRa : Rd L Aa (wd a)) (b : Nat) (hw : HW w0 ((b, blk 5 (0, 0) (bt (List.replicate (8 * a.length) 0))) :: L) w) :
    Calls P 71 #[.slice Aa la ca, .slice (some ⟨b, 0, none⟩) (8 * a.length) (8 * a.length)] w fun e w' => ∃ i : Nat, e = .returned (.int .i64 (i : Int)) ∧ i ≤ (8 * a.length) ∧ sigL (octL (wval a) (8 * a.length)) = (octL (wval a) (8 * a.length)).drop i ∧ HW w0 ((b, blk 5 (0, 0) (bt (octL (wval a) (8 * a.length)))) :: L) w' := by
  subst hla
  refine enter (us := [.slice Aa a.length ca, .slice (some ⟨b, 0, none⟩) (8 * a.length) (8 * a.length)]) Tryz.func71 rfl Tryz.ntmps71 (by simp) rfl ?_ hw
  refine WC.seq ?_
  refine WC.region ?_
  refine WL.val (v_assign rfl) rfl ?_
  refine WL.nil ?_
  refine EX.next ?_
  refine WC.seq ?_
  refine WC.region ?_
  refine WL.val (v_move rfl) rfl ?_
  refine WL.val (v_len Tryz.runUnderlying23 rfl) rfl ?_
  refine WL.val (v_assign rfl) rfl ?_
  refine WL.nil ?_
  refine EX.next ?_
  refine WC.seq ?_
  refine WC.seq ?_
  refine WC.region ?_
  refine WL.val (v_move rfl) rfl ?_
  refine WL.val (v_len Tryz.runUnderlying137 rfl) rfl ?_
  refine WL.val (v_move rfl) rfl ?_
  refine WL.nil ?_
  refine EX.next ?_
  refine WC.block ?_
  refine WC.loop (fun mm ac wl => ∃ t : Nat, (a.length - t = mm) ∧ (t ≤ a.length) ∧ St w0 51 [(1, .slice (some ⟨b, 0, none⟩) (8 * a.length) (8 * a.length)), (10, .slice Aa a.length ca), (11, .int .i64 (a.length : Int)), (12, .int .i64 (t : Int)), (4, .int .i64 (((8 * a.length) - 8 * t : Nat) : Int))] ((b, blk 5 (0, 0) (bt (fillR (octD (wval a) (8 * a.length)) (8 * a.length) ((8 * a.length) - 8 * t)))) :: L) ac wl) (a.length) ?_ ?_
  · intro ac wl hS
    refine ⟨0, rfl, Nat.zero_le _, (hS.heap' ?_).keep ⟨rfl, rfl, rfl, rfl, rfl, trivial⟩⟩
    have h8 := hS.mem
    rw [Nat.mul_zero, Nat.sub_zero, fillR_none]; exact h8
  · rintro mm ac wl ⟨t, hm, ht, hS⟩
    subst hm
    revert ac wl
    refine KS.out ?_
    refine WC.seq ?_
    refine WC.region ?_
    refine WL.val (v_lss rfl rfl) rfl ?_
    refine WL.nil ?_
    refine EX.next ?_
    refine WC.seq ?_
    refine WC.cond rfl ?_ ?_
    · intro hb3
      have hlt : t < a.length := by have := of_decide_eq_true hb3; omega
      have hW : a.getD t 0 < 18446744073709551616 := by
        have : a.getD t 0 = a[t] := by simp [hlt]
        rw [this]; exact h64 _ (List.getElem_mem hlt)
      refine WC.skip ?_
      refine EX.next ?_
      refine WC.seq ?_
      refine WC.block ?_
      refine WC.seq ?_
      refine WC.region ?_
      refine WL.val (n_index Tryz.runUnderlying137 Tryz.sizeOf175 rfl rfl (Rd.mono hRa (fun _ h => (mS h))) (by omega) (by rw [wd_length]; omega)) rfl ?_
      refine WL.val (v_load_rd Tryz.isAgg175 rfl (Rd.mono hRa (fun _ h => (mS h))) (wd_at (by omega))) rfl ?_
      refine WL.val (v_assign rfl) rfl ?_
      refine WL.nil ?_
      refine EX.next ?_
      refine WC.seq ?_
      refine WC.region ?_
      refine WL.val (v_assign rfl) rfl ?_
      refine WL.nil ?_
      refine EX.next ?_
      refine WC.block ?_
      refine WC.loop (fun mm ac wl => ∃ j : Nat, (8 - j = mm) ∧ (j ≤ 8) ∧ St w0 51 [(1, .slice (some ⟨b, 0, none⟩) (8 * a.length) (8 * a.length)), (10, .slice Aa a.length ca), (11, .int .i64 (a.length : Int)), (12, .int .i64 (t : Int)), (4, .int .i64 (((8 * a.length) - 8 * t - j : Nat) : Int)), (6, .int .u64 ((a.getD t 0 / 2 ^ (8 * j) : Nat) : Int)), (7, .int .i64 (j : Int))] ((b, blk 5 (0, 0) (bt (fillR (octD (wval a) (8 * a.length)) (8 * a.length) ((8 * a.length) - 8 * t - j)))) :: L) ac wl) (8) ?_ ?_
      · intro ac wl hS
        refine ⟨0, rfl, Nat.zero_le _, hS.keep ⟨rfl, rfl, rfl, rfl, rfl, ?_, rfl, trivial⟩⟩
        rw [Nat.mul_zero, Nat.pow_zero, Nat.div_one]; rfl
      · rintro mm ac wl ⟨j, hm, hj, hS⟩
        subst hm
        revert ac wl
        refine KS.out ?_
        refine WC.seq ?_
        refine WC.seq ?_
        refine WC.region ?_
        refine WL.val (v_move rfl) rfl ?_
        refine WL.val (v_lss rfl rfl) rfl ?_
        refine WL.nil ?_
        refine EX.next ?_
        refine WC.cond rfl ?_ ?_
        · intro hb6
          have hj8 : j < 8 := by have := of_decide_eq_true hb6; omega
          have hi1 : (8 * a.length) - 8 * t - j = ((8 * a.length) - 8 * t - j - 1) + 1 := by omega
          have hbp := byte_place h64 hlt hj8
          refine WC.skip ?_
          refine EX.next ?_
          refine WC.seq ?_
          refine WC.block ?_
          refine WC.seq ?_
          refine WC.region ?_
          refine WL.val (v_move rfl) rfl ?_
          refine WL.val (n_sub1 rfl rfl (show (1 : Int) = ((1 : Nat) : Int) from rfl) (by omega) (by omega)) rfl ?_
          refine WL.val (v_assign rfl) rfl ?_
          refine WL.nil ?_
          refine EX.next ?_
          refine WC.seq ?_
          refine WC.seq ?_
          refine WC.region ?_
          refine WL.val (v_move rfl) rfl ?_
          refine WL.val (v_geq rfl rfl) rfl ?_
          refine WL.nil ?_
          refine EX.next ?_
          refine WC.cond rfl ?_ ?_
          · intro hb9
            refine WC.region ?_
            refine WL.val (v_move rfl) rfl ?_
            refine WL.val (v_move rfl) rfl ?_
            refine WL.val (v_move rfl) rfl ?_
            refine WL.val (Val.to (by rw [hbp]) (n_byte Tryz.runUnderlying175 Tryz.runUnderlying5 rfl)) rfl ?_
            refine WL.val (n_ix Tryz.runUnderlying23 Tryz.sizeOf5 rfl rfl (by omega)) rfl ?_
            have hfs := fillR_set (octD (wval a) (8 * a.length)) (8 * a.length) ((8 * a.length) - 8 * t - j - 1)
            rw [← hi1] at hfs
            refine WL.act rfl (OW.store (vs' := _) Tryz.sizeOf5 rfl rfl rfl (by rw [bt_set, hfs]) .here (by rw [bt_length, fillR_length]; omega) (by simp) ?_)
            refine WL.nil ?_
            refine EX.next ?_
            refine WC.region ?_
            refine WL.val (v_move rfl) rfl ?_
            refine WL.val (Val.to (v' := .int .u64 ((a.getD t 0 / 2 ^ (8 * (j + 1)) : Nat) : Int)) (by rw [Nat.div_div_eq_div_mul, ← Nat.pow_add]; rfl) (u64_shr rfl rfl (show (8 : Int) = ((8 : Nat) : Int) from rfl) (by omega))) rfl ?_
            refine WL.val (v_assign rfl) rfl ?_
            refine WL.nil ?_
            refine EX.normal_block ?_
            refine EX.next ?_
            refine WC.region ?_
            refine WL.val (v_move rfl) rfl ?_
            refine WL.val (n_add1 rfl rfl (show (1 : Int) = ((1 : Nat) : Int) from rfl) (by omega)) rfl ?_
            refine WL.val (v_assign rfl) rfl ?_
            refine WL.nil ?_
            refine EX.to ?_
            refine KS.mk fun b w hS => ⟨8 - (j + 1), by omega, j + 1, rfl, by omega, ?_⟩
            rw [show (8 * a.length) - 8 * t - (j + 1) = (8 * a.length) - 8 * t - j - 1 by omega]
            exact hS.keep ⟨rfl, rfl, rfl, rfl, rfl, rfl, rfl, trivial⟩
          · intro hb9
            exfalso; have := of_decide_eq_false hb9; omega
        · intro hb6
          have hj8 : j = 8 := by have := of_decide_eq_false hb6; omega
          subst hj8
          refine WC.exit ?_
          refine EX.exit_then ?_
          refine EX.exit_then ?_
          refine EX.exit_here ?_
          refine EX.normal_block ?_
          refine EX.next ?_
          refine WC.region ?_
          refine WL.val (n_add1 rfl rfl (show (1 : Int) = ((1 : Nat) : Int) from rfl) (by omega)) rfl ?_
          refine WL.val (v_move rfl) rfl ?_
          refine WL.nil ?_
          refine EX.to ?_
          refine KS.mk fun b w hS => ⟨a.length - (t + 1), by omega, t + 1, rfl, by omega, ?_⟩
          rw [show (8 * a.length) - 8 * (t + 1) = (8 * a.length) - 8 * t - 8 by omega]
          exact hS.keep ⟨rfl, rfl, rfl, rfl, rfl, trivial⟩
    · intro hb3
      have hge : t = a.length := by have := of_decide_eq_false hb3; omega
      subst hge
      rw [Nat.sub_self (8 * a.length), fillR_all]
      refine WC.exit ?_
      refine EX.exit_then ?_
      refine EX.exit_then ?_
      refine EX.exit_here ?_
      refine EX.next ?_
      refine WC.seq ?_
      refine WC.seq ?_
      refine WC.region ?_
      refine WL.val (v_move rfl) rfl ?_
      refine WL.val (v_lss rfl rfl) rfl ?_
      refine WL.nil ?_
      refine EX.next ?_
      refine WC.cond rfl ?_ ?_
      · intro hb15
        exfalso; have := of_decide_eq_true hb15; omega
      · intro hb15
        refine WC.skip ?_
        refine EX.next ?_
        refine WC.seq ?_
        refine WC.block ?_
        refine WC.loop (fun mm ac wl => ∃ i : Nat, ((8 * a.length) - i = mm) ∧ (i ≤ (8 * a.length)) ∧ (sigL ((octL (wval a) (8 * a.length)).drop i) = sigL (octL (wval a) (8 * a.length))) ∧ St w0 51 [(1, .slice (some ⟨b, 0, none⟩) (8 * a.length) (8 * a.length)), (4, .int .i64 (i : Int))] ((b, blk 5 (0, 0) (bt (octL (wval a) (8 * a.length)))) :: L) ac wl) ((8 * a.length)) ?_ ?_
        · intro ac wl hS
          refine ⟨0, rfl, Nat.zero_le _, rfl, hS.keep ⟨rfl, ?_, trivial⟩⟩
          rfl
        · rintro mm ac wl ⟨i, hm, hi, hs, hS⟩
          subst hm
          revert ac wl
          refine KS.out ?_
          refine WC.seq ?_
          refine WC.seq ?_
          refine WC.region ?_
          refine WL.val (v_move rfl) rfl ?_
          refine WL.val (v_move rfl) rfl ?_
          refine WL.val (v_len Tryz.runUnderlying23 rfl) rfl ?_
          refine WL.val (v_lss rfl rfl) rfl ?_
          refine WL.val (v_move rfl) rfl ?_
          refine KS.split (decide ((i : Int) < (((8 * a.length) : Nat) : Int))) ?_ ?_
          · intro hg17_4
            have hlt : i < (8 * a.length) := by have := of_decide_eq_true hg17_4; omega
            refine WL.yes rfl rfl rfl hg17_4 (v_move rfl) rfl ?_
            refine WL.yes rfl rfl rfl hg17_4 (v_move rfl) rfl ?_
            refine WL.yes rfl rfl rfl hg17_4 (n_ix Tryz.runUnderlying23 Tryz.sizeOf5 rfl rfl (by omega)) rfl ?_
            refine WL.yes rfl rfl rfl hg17_4 (v_load Tryz.isAgg5 rfl m0 (bt_at (by rw [octL_length]; omega))) rfl ?_
            refine WL.yes rfl rfl rfl hg17_4 (v_eql rfl rfl) rfl ?_
            refine WL.val (v_pick_t rfl hg17_4 rfl) rfl ?_
            refine WL.nil ?_
            refine EX.next ?_
            refine WC.cond rfl ?_ ?_
            · intro hb17
              have hz : (octL (wval a) (8 * a.length)).getD i 0 = 0 := by simpa using hb17
              refine WC.skip ?_
              refine EX.next ?_
              refine WC.block ?_
              refine WC.region ?_
              refine WL.val (v_move rfl) rfl ?_
              refine WL.val (n_add1 rfl rfl (show (1 : Int) = ((1 : Nat) : Int) from rfl) (by omega)) rfl ?_
              refine WL.val (v_assign rfl) rfl ?_
              refine WL.nil ?_
              refine EX.normal_block ?_
              refine EX.to ?_
              refine KS.mk fun b w hS => ⟨(8 * a.length) - (i + 1), by omega, i + 1, rfl, by omega, ?_, hS.keep ⟨rfl, rfl, trivial⟩⟩
              rw [← hs, sigL_drop_zero (by rw [octL_length]; omega) hz]
            · intro hb17
              have hfin : sigL (octL (wval a) (8 * a.length)) = (octL (wval a) (8 * a.length)).drop i := by rw [← hs]; exact sigL_drop_ne (by rw [octL_length]; omega) (by simpa using hb17)
              refine WC.exit ?_
              refine EX.exit_then ?_
              refine EX.exit_then ?_
              refine EX.exit_here ?_
              refine EX.next ?_
              refine WC.ret ?_
              exact ret1 Tryz.results71 rfl fun w hw => ⟨i, rfl, hi, hfin, hw⟩
          · intro hg17_4
            have hge : i = (8 * a.length) := by have := of_decide_eq_false hg17_4; omega
            refine WL.no rfl rfl rfl hg17_4 ?_
            refine WL.no rfl rfl rfl hg17_4 ?_
            refine WL.no rfl rfl rfl hg17_4 ?_
            refine WL.no rfl rfl rfl hg17_4 ?_
            refine WL.no rfl rfl rfl hg17_4 ?_
            refine WL.val (v_pick_f rfl hg17_4 rfl) rfl ?_
            refine WL.nil ?_
            refine EX.next ?_
            refine WC.cond rfl ?_ ?_
            · intro hb17
              exact absurd hb17 (by decide)
            · intro hb17
              have hfin : sigL (octL (wval a) (8 * a.length)) = (octL (wval a) (8 * a.length)).drop i := by rw [← hs, List.drop_eq_nil_of_le (by rw [octL_length]; omega)]; rfl
              refine WC.exit ?_
              refine EX.exit_then ?_
              refine EX.exit_then ?_
              refine EX.exit_here ?_
              refine EX.next ?_
              refine WC.ret ?_
              exact ret1 Tryz.results71 rfl fun w hw => ⟨i, rfl, hi, hfin, hw⟩
theorem intBytes_any (w0 w : World) (L : Heap) (k : Nat) (a : List Nat) (hk : BigAt L k a) (hby : ∀ d ∈ a, d < 256) (hxa : a.length ≤ 1000) (hw : HW w0 L w) :
    Calls P 60 #[.pointer (some ⟨k, 0, none⟩)] w fun e w' => ∃ q B, e = .returned (slV q) ∧ q.2.2 = sigL a ∧ Lies B q ∧ HW w0 (B ++ L) w' := by
  obtain ⟨A, c, hkm, hc, hR⟩ := hk
  have hWl := intW_length a
  have hW := intW_lt hby
  have hWb := intW_bytes hby
  refine enter (us := [.pointer (some ⟨k, 0, none⟩)]) Tryz.func60 rfl Tryz.ntmps60 (by simp) rfl ?_ hw
  refine WC.seq ?_
  refine WC.region ?_
  refine WL.val (v_assign rfl) rfl ?_
  refine WL.nil ?_
  refine EX.next ?_
  refine WC.seq ?_
  refine WC.region ?_
  refine WL.val (v_move rfl) rfl ?_
  refine WL.val (v_nilCheck_ptr rfl) rfl ?_
  refine WL.val (v_field Tryz.runUnderlying139 rfl Tryz.sizeOf137 (by decide) rfl) rfl ?_
  refine WL.val (v_load Tryz.isAgg137 rfl hkm rfl) rfl ?_
  refine WL.val (v_len Tryz.runUnderlying137 rfl) rfl ?_
  refine WL.val (Val.to (v' := .int .i64 (((8 * (intW a).length) : Nat) : Int)) (by rw [Nat.mul_comm]) (n_mul rfl (show _ = some (Value.int .i64 ((8 : Nat) : Int)) from rfl) (by omega))) rfl ?_
  refine WL.act rfl (OW.make (l := (8 * (intW a).length)) (c := (8 * (intW a).length)) Tryz.runUnderlying23 Tryz.typeInfo5 Tryz.sizeOf5 Tryz.zeroValue5 rfl rfl rfl (Nat.le_refl _) (by rw [bytes5]; omega) (by omega) rfl (fun b1 => ?_))
  refine WL.val (v_assign rfl) rfl ?_
  refine WL.nil ?_
  refine EX.next ?_
  refine WC.seq ?_
  refine WC.region ?_
  refine WL.val (v_move rfl) rfl ?_
  refine WL.val (v_move rfl) rfl ?_
  refine WL.val (v_nilCheck_ptr rfl) rfl ?_
  refine WL.val (v_field Tryz.runUnderlying139 rfl Tryz.sizeOf137 (by decide) rfl) rfl ?_
  refine WL.val (v_load Tryz.isAgg137 rfl (mS hkm) rfl) rfl ?_
  refine WL.val (v_move rfl) rfl ?_
  refine WL.act rfl (OW.call (xs := [.tmp 15, .tmp 16]) Tryz.call71 rfl (fun w hw => bigBytes2_any w0 w _ _ _ _ (intW a) hW rfl (by omega) hc hR b1 (by rw [← bt_replicate]; exact hw)) rfl ?_)
  rintro r w' ⟨i, rfl, hi, hs, hw'⟩
  refine ⟨_, _, rfl, hw', ?_⟩
  refine WL.val (v_slice (i := i) (j := (8 * (intW a).length)) Tryz.runUnderlying23 Tryz.sizeOf5 rfl ⟨.i64, rfl⟩ rfl hi (Nat.le_refl _) (Nat.le_refl _)) rfl ?_
  refine WL.val (v_assign rfl) rfl ?_
  refine WL.nil ?_
  refine EX.next ?_
  refine WC.ret ?_
  have hqd : (octL (wval (intW a)) (8 * (intW a).length)).drop i = sigL a := by rw [← hs, hWb]
  have hql : (sigL a).length = (8 * (intW a).length) - i := by rw [← hqd, List.length_drop, octL_length]
  refine ret1 Tryz.results60 (v := slV (cutA (some ⟨b1, 0, none⟩) (8 * (intW a).length) i, (8 * (intW a).length) - i, sigL a)) (by show some (Value.slice _ _ _) = some (Value.slice _ _ _); rw [hql]) fun w hw => ⟨_, [(b1, _)], rfl, rfl, ⟨by show (sigL a).length ≤ (8 * (intW a).length) - i; omega, ?_⟩, hw⟩
  show Rd _ _ (bt (sigL a))
  rw [← hqd, bt_drop]
  exact (Rd.whole (t := 5) (fr := (0, 0)) m0).cut (by rw [bt_length, octL_length]; exact Nat.le_refl _)
end Go.Proofs.YtljoodllnaekbaaGreatDoor
