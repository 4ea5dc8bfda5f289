/- Part 7 of the proof. SHA-256: a block. SHA-256: bytes are written. SHA-1: a block. SHA-1: bytes are written. No condition. -/
import Derived.Test.YtljoodllnaekbaaGreatDoorPart06
namespace Go.Proofs.YtljoodllnaekbaaGreatDoor
open Go

theorem block256_any (w0 w : World) (L : Heap) (k : Nat) (hs xs : List Int) (nx len : Int) (r : List Value) (hK : KG L) (hhs : hs.length = 8) (Aa : Option Addr) (la ca : Nat) (ps : List Int) (hla : ps.length = la) (hca : la ≤ ca) (hRp : Rd ((k, blk 164 (0, 0) (dgC hs xs nx len r)) :: L) Aa (i8 ps)) (hw : HW w0 ((k, blk 164 (0, 0) (dgC hs xs nx len r)) :: L) w) :
    Calls P 95 #[.pointer (some ⟨k, 0, none⟩), .slice Aa la ca] w fun e w' => ∃ hs', e = .returned (.tuple #[]) ∧ hs'.length = 8 ∧ HW w0 ((k, blk 164 (0, 0) (dgC hs' xs nx len r)) :: L) w' := by
  obtain ⟨frK, ks, hks, hKm⟩ := hK
  refine enter (us := [.pointer (some ⟨k, 0, none⟩), .slice Aa la ca]) Tryz.func95 rfl Tryz.ntmps95 (by simp) rfl ?_ hw
  refine WC.seq ?_
  refine WC.region ?_
  refine WL.act rfl (OW.allocC (vs := iu .u32 (List.replicate 64 0)) Tryz.zeroValue209 rfl rfl (fun b4 => ?_))
  refine WL.nil ?_
  refine EX.next ?_
  refine WC.seq ?_
  refine WC.drawAll (by kernel_rfl) ?_
  refine WS.val (v_move rfl) rfl ?_
  refine WS.val (v_nilCheck_ptr rfl) rfl ?_
  refine WS.val (v_field Tryz.runUnderlying164 rfl Tryz.sizeOf161 (by decide) rfl) rfl ?_
  refine WS.val (n_ixa (m := 0) Tryz.runUnderlying161 Tryz.sizeOf22 rfl (show _ = some (Value.int .i64 ((0 : Nat) : Int)) from rfl) (by decide)) rfl ?_
  refine WS.val (v_load Tryz.isAgg22 rfl (mS m0) (dgC_h (i := 0) (by omega))) rfl ?_
  refine WS.val (v_move rfl) rfl ?_
  refine WS.val (v_nilCheck_ptr rfl) rfl ?_
  refine WS.val (v_field Tryz.runUnderlying164 rfl Tryz.sizeOf161 (by decide) rfl) rfl ?_
  refine WS.val (n_ixa (m := 1) Tryz.runUnderlying161 Tryz.sizeOf22 rfl (show _ = some (Value.int .i64 ((1 : Nat) : Int)) from rfl) (by decide)) rfl ?_
  refine WS.val (v_load Tryz.isAgg22 rfl (mS m0) (dgC_h (i := 1) (by omega))) rfl ?_
  refine WS.val (v_move rfl) rfl ?_
  refine WS.val (v_nilCheck_ptr rfl) rfl ?_
  refine WS.val (v_field Tryz.runUnderlying164 rfl Tryz.sizeOf161 (by decide) rfl) rfl ?_
  refine WS.val (n_ixa (m := 2) Tryz.runUnderlying161 Tryz.sizeOf22 rfl (show _ = some (Value.int .i64 ((2 : Nat) : Int)) from rfl) (by decide)) rfl ?_
  refine WS.val (v_load Tryz.isAgg22 rfl (mS m0) (dgC_h (i := 2) (by omega))) rfl ?_
  refine WS.val (v_move rfl) rfl ?_
  refine WS.val (v_nilCheck_ptr rfl) rfl ?_
  refine WS.val (v_field Tryz.runUnderlying164 rfl Tryz.sizeOf161 (by decide) rfl) rfl ?_
  refine WS.val (n_ixa (m := 3) Tryz.runUnderlying161 Tryz.sizeOf22 rfl (show _ = some (Value.int .i64 ((3 : Nat) : Int)) from rfl) (by decide)) rfl ?_
  refine WS.val (v_load Tryz.isAgg22 rfl (mS m0) (dgC_h (i := 3) (by omega))) rfl ?_
  refine WS.val (v_move rfl) rfl ?_
  refine WS.val (v_nilCheck_ptr rfl) rfl ?_
  refine WS.val (v_field Tryz.runUnderlying164 rfl Tryz.sizeOf161 (by decide) rfl) rfl ?_
  refine WS.val (n_ixa (m := 4) Tryz.runUnderlying161 Tryz.sizeOf22 rfl (show _ = some (Value.int .i64 ((4 : Nat) : Int)) from rfl) (by decide)) rfl ?_
  refine WS.val (v_load Tryz.isAgg22 rfl (mS m0) (dgC_h (i := 4) (by omega))) rfl ?_
  refine WS.val (v_move rfl) rfl ?_
  refine WS.val (v_nilCheck_ptr rfl) rfl ?_
  refine WS.val (v_field Tryz.runUnderlying164 rfl Tryz.sizeOf161 (by decide) rfl) rfl ?_
  refine WS.val (n_ixa (m := 5) Tryz.runUnderlying161 Tryz.sizeOf22 rfl (show _ = some (Value.int .i64 ((5 : Nat) : Int)) from rfl) (by decide)) rfl ?_
  refine WS.val (v_load Tryz.isAgg22 rfl (mS m0) (dgC_h (i := 5) (by omega))) rfl ?_
  refine WS.val (v_move rfl) rfl ?_
  refine WS.val (v_nilCheck_ptr rfl) rfl ?_
  refine WS.val (v_field Tryz.runUnderlying164 rfl Tryz.sizeOf161 (by decide) rfl) rfl ?_
  refine WS.val (n_ixa (m := 6) Tryz.runUnderlying161 Tryz.sizeOf22 rfl (show _ = some (Value.int .i64 ((6 : Nat) : Int)) from rfl) (by decide)) rfl ?_
  refine WS.val (v_load Tryz.isAgg22 rfl (mS m0) (dgC_h (i := 6) (by omega))) rfl ?_
  refine WS.val (v_move rfl) rfl ?_
  refine WS.val (v_nilCheck_ptr rfl) rfl ?_
  refine WS.val (v_field Tryz.runUnderlying164 rfl Tryz.sizeOf161 (by decide) rfl) rfl ?_
  refine WS.val (n_ixa (m := 7) Tryz.runUnderlying161 Tryz.sizeOf22 rfl (show _ = some (Value.int .i64 ((7 : Nat) : Int)) from rfl) (by decide)) rfl ?_
  refine WS.val (v_load Tryz.isAgg22 rfl (mS m0) (dgC_h (i := 7) (by omega))) rfl ?_
  refine WS.val (v_assign rfl) rfl ?_
  refine WS.val (v_assign rfl) rfl ?_
  refine WS.val (v_assign rfl) rfl ?_
  refine WS.val (v_assign rfl) rfl ?_
  refine WS.val (v_assign rfl) rfl ?_
  refine WS.val (v_assign rfl) rfl ?_
  refine WS.val (v_assign rfl) rfl ?_
  refine WS.val (v_assign rfl) rfl ?_
  refine WS.nil ?_
  refine EX.next ?_
  refine WC.seq ?_
  refine WC.block ?_
  refine WC.loop (fun mm ac wl => ∃ Aq : Option Addr, ∃ lq : Nat, ∃ cq : Nat, ∃ qs : List Int, ∃ ws : List Int, ∃ e5 : Int, ∃ e6 : Int, ∃ e7 : Int, ∃ e8 : Int, ∃ e9 : Int, ∃ e10 : Int, ∃ e11 : Int, ∃ e12 : Int, (lq = mm) ∧ (qs.length = lq) ∧ (lq ≤ cq) ∧ (Rd ((k, blk 164 (0, 0) (dgC hs xs nx len r)) :: L) Aq (i8 qs)) ∧ (ws.length = 64) ∧ St w0 283 [(0, .pointer (some ⟨k, 0, none⟩)), (1, .slice Aq lq cq), (4, .pointer (some ⟨b4, 0, none⟩)), (5, .int .u32 e5), (6, .int .u32 e6), (7, .int .u32 e7), (8, .int .u32 e8), (9, .int .u32 e9), (10, .int .u32 e10), (11, .int .u32 e11), (12, .int .u32 e12)] ((b4, blk 209 (0, 0) (iu .u32 ws)) :: (k, blk 164 (0, 0) (dgC hs xs nx len r)) :: L) ac wl) (la) ?_ ?_
  · intro ac wl hS
    exact ⟨Aa, la, ca, ps, List.replicate 64 0, _, _, _, _, _, _, _, _, rfl, hla, hca, hRp, by simp, hS.keep ⟨rfl, rfl, rfl, rfl, rfl, rfl, rfl, rfl, rfl, rfl, rfl, trivial⟩⟩
  · rintro mm ac wl ⟨Aq, lq, cq, qs, ws, e5, e6, e7, e8, e9, e10, e11, e12, hm, hlq, hcq, hRq, hws, hS⟩
    subst hm
    revert ac wl
    refine KS.out ?_
    refine WC.seq ?_
    refine WC.seq ?_
    refine WC.region ?_
    refine WL.val (v_move rfl) rfl ?_
    refine WL.val (v_len Tryz.runUnderlying23 rfl) rfl ?_
    refine WL.val (v_geq rfl rfl) rfl ?_
    refine WL.nil ?_
    refine EX.next ?_
    refine WC.cond rfl ?_ ?_
    · intro hb2
      have h64 : 64 ≤ lq := by have := of_decide_eq_true hb2; omega
      refine WC.skip ?_
      refine EX.next ?_
      refine WC.block ?_
      refine WC.seq ?_
      refine WC.region ?_
      refine WL.val (v_move rfl) rfl ?_
      refine WL.val (v_move rfl) rfl ?_
      refine WL.val (v_move rfl) rfl ?_
      refine WL.val (v_move rfl) rfl ?_
      refine WL.val (v_move rfl) rfl ?_
      refine WL.val (v_move rfl) rfl ?_
      refine WL.val (v_move rfl) rfl ?_
      refine WL.val (v_move rfl) rfl ?_
      refine WL.val (v_assign rfl) rfl ?_
      refine WL.val (v_assign rfl) rfl ?_
      refine WL.val (v_assign rfl) rfl ?_
      refine WL.val (v_assign rfl) rfl ?_
      refine WL.val (v_assign rfl) rfl ?_
      refine WL.val (v_assign rfl) rfl ?_
      refine WL.val (v_assign rfl) rfl ?_
      refine WL.val (v_assign rfl) rfl ?_
      refine WL.nil ?_
      refine EX.next ?_
      refine WC.seq ?_
      refine WC.seq ?_
      refine WC.region ?_
      refine WL.val (v_move rfl) rfl ?_
      refine WL.nil ?_
      refine EX.next ?_
      refine WC.block ?_
      refine WC.loop (fun mm ac wl => ∃ i : Nat, ∃ vs : List Int, ∃ f13 : Int, ∃ f14 : Int, ∃ f15 : Int, ∃ f16 : Int, ∃ f17 : Int, ∃ f18 : Int, ∃ f19 : Int, ∃ f20 : Int, (64 - i = mm) ∧ (i ≤ 64) ∧ (vs.length = 64) ∧ St w0 283 [(0, .pointer (some ⟨k, 0, none⟩)), (1, .slice Aq lq cq), (4, .pointer (some ⟨b4, 0, none⟩)), (5, .int .u32 e5), (6, .int .u32 e6), (7, .int .u32 e7), (8, .int .u32 e8), (9, .int .u32 e9), (10, .int .u32 e10), (11, .int .u32 e11), (12, .int .u32 e12), (13, .int .u32 f13), (14, .int .u32 f14), (15, .int .u32 f15), (16, .int .u32 f16), (17, .int .u32 f17), (18, .int .u32 f18), (19, .int .u32 f19), (20, .int .u32 f20), (80, .int .i64 (i : Int))] ((b4, blk 209 (0, 0) (iu .u32 vs)) :: (k, blk 164 (0, 0) (dgC hs xs nx len r)) :: L) ac wl) (64) ?_ ?_
      · intro ac wl hS
        exact ⟨0, ws, _, _, _, _, _, _, _, _, rfl, by omega, hws, hS.keep ⟨rfl, rfl, rfl, rfl, rfl, rfl, rfl, rfl, rfl, rfl, rfl, rfl, rfl, rfl, rfl, rfl, rfl, rfl, rfl, rfl, trivial⟩⟩
      · rintro mm ac wl ⟨i, vs, f13, f14, f15, f16, f17, f18, f19, f20, hm, hi, hvs, hS⟩
        subst hm
        revert ac wl
        refine KS.out ?_
        refine WC.seq ?_
        refine WC.region ?_
        refine WL.val (v_lss rfl rfl) rfl ?_
        refine WL.nil ?_
        refine EX.next ?_
        refine WC.seq ?_
        refine WC.cond rfl ?_ ?_
        · intro hb5
          have hlt : i < 64 := by have := of_decide_eq_true hb5; omega
          refine WC.skip ?_
          refine EX.next ?_
          refine WC.seq ?_
          refine WC.block ?_
          refine WC.seq ?_
          refine WC.region ?_
          refine WL.val (v_move rfl) rfl ?_
          refine WL.val (v_assign rfl) rfl ?_
          refine WL.nil ?_
          refine EX.next ?_
          refine WC.cut (fun ac wl => ∃ vs : List Int, (vs.length = 64) ∧ St w0 283 [(0, .pointer (some ⟨k, 0, none⟩)), (1, .slice Aq lq cq), (4, .pointer (some ⟨b4, 0, none⟩)), (5, .int .u32 e5), (6, .int .u32 e6), (7, .int .u32 e7), (8, .int .u32 e8), (9, .int .u32 e9), (10, .int .u32 e10), (11, .int .u32 e11), (12, .int .u32 e12), (13, .int .u32 f13), (14, .int .u32 f14), (15, .int .u32 f15), (16, .int .u32 f16), (17, .int .u32 f17), (18, .int .u32 f18), (19, .int .u32 f19), (20, .int .u32 f20), (80, .int .i64 (i : Int)), (21, .int .i64 (i : Int))] ((b4, blk 209 (0, 0) (iu .u32 vs)) :: (k, blk 164 (0, 0) (dgC hs xs nx len r)) :: L) ac wl) ?_ ?_
          · skip
            refine WC.seq ?_
            refine WC.region ?_
            refine WL.val (v_move rfl) rfl ?_
            refine WL.val (v_lss rfl rfl) rfl ?_
            refine WL.nil ?_
            refine EX.next ?_
            refine WC.cond rfl ?_ ?_
            · intro hb7
              have h16 : i < 16 := by have := of_decide_eq_true hb7; omega
              refine WC.seq ?_
              refine WC.region ?_
              refine WL.val (v_move rfl) rfl ?_
              refine WL.val (n_mul rfl (show _ = some (Value.int .i64 ((4 : Nat) : Int)) from rfl) (by omega)) rfl ?_
              refine WL.val (v_assign rfl) rfl ?_
              refine WL.nil ?_
              refine EX.next ?_
              refine WC.drawTail 31 (by kernel_rfl) ?_
              refine WS.val (v_move rfl) rfl ?_
              refine WS.val (v_move rfl) rfl ?_
              refine WS.val (v_move rfl) rfl ?_
              refine WS.val (n_index Tryz.runUnderlying23 Tryz.sizeOf5 rfl rfl (hRq.mono fun _ h => mS h) (by omega) (by rw [i8_length]; omega)) rfl ?_
              refine WS.val (v_load_rd Tryz.isAgg5 rfl (hRq.mono fun _ h => mS h) (i8_at (by omega))) rfl ?_
              refine WS.val (v_conv Tryz.runUnderlying5 Tryz.runUnderlying22 rfl) rfl ?_
              refine WS.val (v_shl rfl rfl (by omega)) rfl ?_
              refine WS.val (v_move rfl) rfl ?_
              refine WS.val (v_move rfl) rfl ?_
              refine WS.val (n_add1 rfl rfl (show (1 : Int) = ((1 : Nat) : Int) from rfl) (by omega)) rfl ?_
              refine WS.val (n_index Tryz.runUnderlying23 Tryz.sizeOf5 rfl rfl (hRq.mono fun _ h => mS h) (by omega) (by rw [i8_length]; omega)) rfl ?_
              refine WS.val (v_load_rd Tryz.isAgg5 rfl (hRq.mono fun _ h => mS h) (i8_at (by omega))) rfl ?_
              refine WS.val (v_conv Tryz.runUnderlying5 Tryz.runUnderlying22 rfl) rfl ?_
              refine WS.val (v_shl rfl rfl (by omega)) rfl ?_
              refine WS.val (v_or rfl rfl) rfl ?_
              refine WS.val (v_move rfl) rfl ?_
              refine WS.val (v_move rfl) rfl ?_
              refine WS.val (n_add1 rfl rfl (show (2 : Int) = ((2 : Nat) : Int) from rfl) (by omega)) rfl ?_
              refine WS.val (n_index Tryz.runUnderlying23 Tryz.sizeOf5 rfl rfl (hRq.mono fun _ h => mS h) (by omega) (by rw [i8_length]; omega)) rfl ?_
              refine WS.val (v_load_rd Tryz.isAgg5 rfl (hRq.mono fun _ h => mS h) (i8_at (by omega))) rfl ?_
              refine WS.val (v_conv Tryz.runUnderlying5 Tryz.runUnderlying22 rfl) rfl ?_
              refine WS.val (v_shl rfl rfl (by omega)) rfl ?_
              refine WS.val (v_or rfl rfl) rfl ?_
              refine WS.val (v_move rfl) rfl ?_
              refine WS.val (v_move rfl) rfl ?_
              refine WS.val (n_add1 rfl rfl (show (3 : Int) = ((3 : Nat) : Int) from rfl) (by omega)) rfl ?_
              refine WS.val (n_index Tryz.runUnderlying23 Tryz.sizeOf5 rfl rfl (hRq.mono fun _ h => mS h) (by omega) (by rw [i8_length]; omega)) rfl ?_
              refine WS.val (v_load_rd Tryz.isAgg5 rfl (hRq.mono fun _ h => mS h) (i8_at (by omega))) rfl ?_
              refine WS.val (v_conv Tryz.runUnderlying5 Tryz.runUnderlying22 rfl) rfl ?_
              refine WS.val (v_or rfl rfl) rfl ?_
              refine WS.val (n_ixa Tryz.runUnderlying209 Tryz.sizeOf22 rfl rfl (by omega)) rfl ?_
              refine WS.nil ?_
              refine WL.act rfl (OW.store (vs' := _) Tryz.sizeOf22 rfl rfl rfl (iu_set _ _ _ _) .here (by rw [iu_length]; omega) (by simp) ?_)
              refine WL.nil ?_
              refine EX.to ?_
              exact KS.mk fun b w hS => ⟨_, by rw [List.length_set]; exact hvs, hS.keep ⟨rfl, rfl, rfl, rfl, rfl, rfl, rfl, rfl, rfl, rfl, rfl, rfl, rfl, rfl, rfl, rfl, rfl, rfl, rfl, rfl, rfl, trivial⟩⟩
            · intro hb7
              have h16 : 16 ≤ i := by have := of_decide_eq_false hb7; omega
              refine WC.seq ?_
              refine WC.region ?_
              refine WL.val (v_move rfl) rfl ?_
              refine WL.val (n_sub1 rfl rfl (show (2 : Int) = ((2 : Nat) : Int) from rfl) (by omega) (by omega)) rfl ?_
              refine WL.val (n_ixa Tryz.runUnderlying209 Tryz.sizeOf22 rfl rfl (by omega)) rfl ?_
              refine WL.val (v_load Tryz.isAgg22 rfl m0 (iu_at0 (by omega))) rfl ?_
              refine WL.val (v_assign rfl) rfl ?_
              refine WL.nil ?_
              refine EX.next ?_
              refine WC.seq ?_
              refine WC.region ?_
              refine WL.val (v_move rfl) rfl ?_
              refine WL.act rfl (OW.call (xs := [.tmp 122, .const (.int .i64 (-17))]) Tryz.call101 rfl (fun w hw => rotate_any w0 w _ _ _ hw) rfl ?_)
              rintro r w' ⟨y11_1, rfl, hw'⟩
              refine ⟨_, _, rfl, hw', ?_⟩
              refine WL.val (v_move rfl) rfl ?_
              refine WL.act rfl (OW.call (xs := [.tmp 124, .const (.int .i64 (-19))]) Tryz.call101 rfl (fun w hw => rotate_any w0 w _ _ _ hw) rfl ?_)
              rintro r w' ⟨y11_3, rfl, hw'⟩
              refine ⟨_, _, rfl, hw', ?_⟩
              refine WL.val (v_xor rfl rfl) rfl ?_
              refine WL.val (v_move rfl) rfl ?_
              refine WL.val (v_shr rfl rfl (by omega)) rfl ?_
              refine WL.val (v_xor rfl rfl) rfl ?_
              refine WL.val (v_assign rfl) rfl ?_
              refine WL.nil ?_
              refine EX.next ?_
              refine WC.seq ?_
              refine WC.region ?_
              refine WL.val (v_move rfl) rfl ?_
              refine WL.val (n_sub1 rfl rfl (show (15 : Int) = ((15 : Nat) : Int) from rfl) (by omega) (by omega)) rfl ?_
              refine WL.val (n_ixa Tryz.runUnderlying209 Tryz.sizeOf22 rfl rfl (by omega)) rfl ?_
              refine WL.val (v_load Tryz.isAgg22 rfl m0 (iu_at0 (by omega))) rfl ?_
              refine WL.val (v_assign rfl) rfl ?_
              refine WL.nil ?_
              refine EX.next ?_
              refine WC.seq ?_
              refine WC.region ?_
              refine WL.val (v_move rfl) rfl ?_
              refine WL.act rfl (OW.call (xs := [.tmp 134, .const (.int .i64 (-7))]) Tryz.call101 rfl (fun w hw => rotate_any w0 w _ _ _ hw) rfl ?_)
              rintro r w' ⟨y13_1, rfl, hw'⟩
              refine ⟨_, _, rfl, hw', ?_⟩
              refine WL.val (v_move rfl) rfl ?_
              refine WL.act rfl (OW.call (xs := [.tmp 136, .const (.int .i64 (-18))]) Tryz.call101 rfl (fun w hw => rotate_any w0 w _ _ _ hw) rfl ?_)
              rintro r w' ⟨y13_3, rfl, hw'⟩
              refine ⟨_, _, rfl, hw', ?_⟩
              refine WL.val (v_xor rfl rfl) rfl ?_
              refine WL.val (v_move rfl) rfl ?_
              refine WL.val (v_shr rfl rfl (by omega)) rfl ?_
              refine WL.val (v_xor rfl rfl) rfl ?_
              refine WL.val (v_assign rfl) rfl ?_
              refine WL.nil ?_
              refine EX.next ?_
              refine WC.drawTail 15 (by kernel_rfl) ?_
              refine WS.val (v_move rfl) rfl ?_
              refine WS.val (v_move rfl) rfl ?_
              refine WS.val (v_move rfl) rfl ?_
              refine WS.val (n_sub1 rfl rfl (show (7 : Int) = ((7 : Nat) : Int) from rfl) (by omega) (by omega)) rfl ?_
              refine WS.val (n_ixa Tryz.runUnderlying209 Tryz.sizeOf22 rfl rfl (by omega)) rfl ?_
              refine WS.val (v_load Tryz.isAgg22 rfl m0 (iu_at0 (by omega))) rfl ?_
              refine WS.val (v_add rfl rfl) rfl ?_
              refine WS.val (v_move rfl) rfl ?_
              refine WS.val (v_add rfl rfl) rfl ?_
              refine WS.val (v_move rfl) rfl ?_
              refine WS.val (n_sub1 rfl rfl (show (16 : Int) = ((16 : Nat) : Int) from rfl) (by omega) (by omega)) rfl ?_
              refine WS.val (n_ixa Tryz.runUnderlying209 Tryz.sizeOf22 rfl rfl (by omega)) rfl ?_
              refine WS.val (v_load Tryz.isAgg22 rfl m0 (iu_at0 (by omega))) rfl ?_
              refine WS.val (v_add rfl rfl) rfl ?_
              refine WS.val (n_ixa Tryz.runUnderlying209 Tryz.sizeOf22 rfl rfl (by omega)) rfl ?_
              refine WS.nil ?_
              refine WL.act rfl (OW.store (vs' := _) Tryz.sizeOf22 rfl rfl rfl (iu_set _ _ _ _) .here (by rw [iu_length]; omega) (by simp) ?_)
              refine WL.nil ?_
              refine EX.to ?_
              exact KS.mk fun b w hS => ⟨_, by rw [List.length_set]; exact hvs, hS.keep ⟨rfl, rfl, rfl, rfl, rfl, rfl, rfl, rfl, rfl, rfl, rfl, rfl, rfl, rfl, rfl, rfl, rfl, rfl, rfl, rfl, rfl, trivial⟩⟩
          · rintro ac wl ⟨vs, hvs, hS⟩
            revert ac wl
            refine KS.out ?_
            refine WC.seq ?_
            refine WC.draw (_) (.quiet 0 (.quiet 1 (.quiet 3 (.quiet 6 (.quiet 10 (.quiet 11 (.quiet 12 (.quiet 13 (.quiet 14 (.quiet 15 (.quiet 16 (.quiet 17 (.quiet 19 (.quiet 20 (.quiet 21 (.quiet 23 (.quiet 24 (.quiet 25 (.one 2 (.one 4 (.quiet 5 (.one 7 (.quiet 8 (.quiet 9 (.quiet 18 (.quiet 22 (.quiet 26 (.quiet 27 .done)))))))))))))))))))))))))))) (by kernel_rfl) (fun _ h => h) ?_
            refine AK.quiet rfl (v_move rfl) rfl ?_
            refine AK.quiet rfl (v_move rfl) rfl ?_
            refine AK.quiet rfl (v_move rfl) rfl ?_
            refine AK.quiet rfl (v_move rfl) rfl ?_
            refine AK.quiet rfl (v_move rfl) rfl ?_
            refine AK.quiet rfl (v_move rfl) rfl ?_
            refine AK.quiet rfl (v_and rfl rfl) rfl ?_
            refine AK.quiet rfl (v_move rfl) rfl ?_
            refine AK.quiet rfl (v_cpl rfl) rfl ?_
            refine AK.quiet rfl (v_move rfl) rfl ?_
            refine AK.quiet rfl (v_and rfl rfl) rfl ?_
            refine AK.quiet rfl (v_xor rfl rfl) rfl ?_
            refine AK.quiet rfl (v_move rfl) rfl ?_
            refine AK.quiet rfl (n_ixa Tryz.runUnderlying209 Tryz.sizeOf22 rfl rfl (by omega)) rfl ?_
            refine AK.quiet rfl (v_load Tryz.isAgg22 rfl ((fun _ h => (mS (mS h))) _ hKm) (iu_at0 (by omega))) rfl ?_
            refine AK.quiet rfl (v_move rfl) rfl ?_
            refine AK.quiet rfl (n_ixa Tryz.runUnderlying209 Tryz.sizeOf22 rfl rfl (by omega)) rfl ?_
            refine AK.quiet rfl (v_load Tryz.isAgg22 rfl m0 (iu_at0 (by omega))) rfl ?_
            refine AK.one rfl rfl (OW.call (xs := [.tmp 158, .const (.int .i64 (-6))]) Tryz.call101 rfl (fun w hw => rotate_any w0 w _ _ _ hw) rfl ?_)
            rintro r w' ⟨y15_2, rfl, hw'⟩
            refine ⟨_, _, rfl, hw', ?_⟩
            refine AK.on (fun _ => Sb.hw) ?_
            refine AK.one rfl rfl (OW.call (xs := [.tmp 160, .const (.int .i64 (-11))]) Tryz.call101 rfl (fun w hw => rotate_any w0 w _ _ _ hw) rfl ?_)
            rintro r w' ⟨y15_4, rfl, hw'⟩
            refine ⟨_, _, rfl, hw', ?_⟩
            refine AK.on (fun _ => Sb.hw) ?_
            refine AK.quiet rfl (v_xor rfl rfl) rfl ?_
            refine AK.one rfl rfl (OW.call (xs := [.tmp 163, .const (.int .i64 (-25))]) Tryz.call101 rfl (fun w hw => rotate_any w0 w _ _ _ hw) rfl ?_)
            rintro r w' ⟨y15_7, rfl, hw'⟩
            refine ⟨_, _, rfl, hw', ?_⟩
            refine AK.on (fun _ => Sb.hw) ?_
            refine AK.quiet rfl (v_xor rfl rfl) rfl ?_
            refine AK.quiet rfl (v_add rfl rfl) rfl ?_
            refine AK.quiet rfl (v_add rfl rfl) rfl ?_
            refine AK.quiet rfl (v_add rfl rfl) rfl ?_
            refine AK.quiet rfl (v_add rfl rfl) rfl ?_
            refine AK.quiet rfl (v_assign rfl) rfl ?_
            refine AK.done ?_
            refine EX.next ?_
            refine WC.seq ?_
            refine WC.region ?_
            refine WL.val (v_move rfl) rfl ?_
            refine WL.act rfl (OW.call (xs := [.tmp 184, .const (.int .i64 (-2))]) Tryz.call101 rfl (fun w hw => rotate_any w0 w _ _ _ hw) rfl ?_)
            rintro r w' ⟨y16_1, rfl, hw'⟩
            refine ⟨_, _, rfl, hw', ?_⟩
            refine WL.val (v_move rfl) rfl ?_
            refine WL.act rfl (OW.call (xs := [.tmp 186, .const (.int .i64 (-13))]) Tryz.call101 rfl (fun w hw => rotate_any w0 w _ _ _ hw) rfl ?_)
            rintro r w' ⟨y16_3, rfl, hw'⟩
            refine ⟨_, _, rfl, hw', ?_⟩
            refine WL.val (v_xor rfl rfl) rfl ?_
            refine WL.val (v_move rfl) rfl ?_
            refine WL.act rfl (OW.call (xs := [.tmp 189, .const (.int .i64 (-22))]) Tryz.call101 rfl (fun w hw => rotate_any w0 w _ _ _ hw) rfl ?_)
            rintro r w' ⟨y16_6, rfl, hw'⟩
            refine ⟨_, _, rfl, hw', ?_⟩
            refine WL.val (v_xor rfl rfl) rfl ?_
            refine WL.val (v_move rfl) rfl ?_
            refine WL.val (v_move rfl) rfl ?_
            refine WL.val (v_and rfl rfl) rfl ?_
            refine WL.val (v_move rfl) rfl ?_
            refine WL.val (v_move rfl) rfl ?_
            refine WL.val (v_and rfl rfl) rfl ?_
            refine WL.val (v_xor rfl rfl) rfl ?_
            refine WL.val (v_move rfl) rfl ?_
            refine WL.val (v_move rfl) rfl ?_
            refine WL.val (v_and rfl rfl) rfl ?_
            refine WL.val (v_xor rfl rfl) rfl ?_
            refine WL.val (v_add rfl rfl) rfl ?_
            refine WL.val (v_assign rfl) rfl ?_
            refine WL.nil ?_
            refine EX.next ?_
            refine WC.seq ?_
            refine WC.region ?_
            refine WL.val (v_move rfl) rfl ?_
            refine WL.val (v_assign rfl) rfl ?_
            refine WL.nil ?_
            refine EX.next ?_
            refine WC.seq ?_
            refine WC.region ?_
            refine WL.val (v_move rfl) rfl ?_
            refine WL.val (v_assign rfl) rfl ?_
            refine WL.nil ?_
            refine EX.next ?_
            refine WC.seq ?_
            refine WC.region ?_
            refine WL.val (v_move rfl) rfl ?_
            refine WL.val (v_assign rfl) rfl ?_
            refine WL.nil ?_
            refine EX.next ?_
            refine WC.seq ?_
            refine WC.region ?_
            refine WL.val (v_move rfl) rfl ?_
            refine WL.val (v_move rfl) rfl ?_
            refine WL.val (v_add rfl rfl) rfl ?_
            refine WL.val (v_assign rfl) rfl ?_
            refine WL.nil ?_
            refine EX.next ?_
            refine WC.seq ?_
            refine WC.region ?_
            refine WL.val (v_move rfl) rfl ?_
            refine WL.val (v_assign rfl) rfl ?_
            refine WL.nil ?_
            refine EX.next ?_
            refine WC.seq ?_
            refine WC.region ?_
            refine WL.val (v_move rfl) rfl ?_
            refine WL.val (v_assign rfl) rfl ?_
            refine WL.nil ?_
            refine EX.next ?_
            refine WC.seq ?_
            refine WC.region ?_
            refine WL.val (v_move rfl) rfl ?_
            refine WL.val (v_assign rfl) rfl ?_
            refine WL.nil ?_
            refine EX.next ?_
            refine WC.region ?_
            refine WL.val (v_move rfl) rfl ?_
            refine WL.val (v_move rfl) rfl ?_
            refine WL.val (v_add rfl rfl) rfl ?_
            refine WL.val (v_assign rfl) rfl ?_
            refine WL.nil ?_
            refine EX.normal_block ?_
            refine EX.next ?_
            refine WC.region ?_
            refine WL.val (n_add1 rfl rfl (show (1 : Int) = ((1 : Nat) : Int) from rfl) (by omega)) rfl ?_
            refine WL.val (v_move rfl) rfl ?_
            refine WL.nil ?_
            refine EX.to ?_
            exact KS.mk fun b w hS => ⟨64 - (i + 1), by omega, i + 1, vs, _, _, _, _, _, _, _, _, rfl, by omega, hvs, hS.keep ⟨rfl, rfl, rfl, rfl, rfl, rfl, rfl, rfl, rfl, rfl, rfl, rfl, rfl, rfl, rfl, rfl, rfl, rfl, rfl, rfl, trivial⟩⟩
        · intro hb5
          refine WC.exit ?_
          refine EX.exit_then ?_
          refine EX.exit_then ?_
          refine EX.exit_here ?_
          refine EX.next ?_
          refine WC.seq ?_
          refine WC.region ?_
          refine WL.val (v_move rfl) rfl ?_
          refine WL.val (v_move rfl) rfl ?_
          refine WL.val (v_add rfl rfl) rfl ?_
          refine WL.val (v_assign rfl) rfl ?_
          refine WL.nil ?_
          refine EX.next ?_
          refine WC.seq ?_
          refine WC.region ?_
          refine WL.val (v_move rfl) rfl ?_
          refine WL.val (v_move rfl) rfl ?_
          refine WL.val (v_add rfl rfl) rfl ?_
          refine WL.val (v_assign rfl) rfl ?_
          refine WL.nil ?_
          refine EX.next ?_
          refine WC.seq ?_
          refine WC.region ?_
          refine WL.val (v_move rfl) rfl ?_
          refine WL.val (v_move rfl) rfl ?_
          refine WL.val (v_add rfl rfl) rfl ?_
          refine WL.val (v_assign rfl) rfl ?_
          refine WL.nil ?_
          refine EX.next ?_
          refine WC.seq ?_
          refine WC.region ?_
          refine WL.val (v_move rfl) rfl ?_
          refine WL.val (v_move rfl) rfl ?_
          refine WL.val (v_add rfl rfl) rfl ?_
          refine WL.val (v_assign rfl) rfl ?_
          refine WL.nil ?_
          refine EX.next ?_
          refine WC.seq ?_
          refine WC.region ?_
          refine WL.val (v_move rfl) rfl ?_
          refine WL.val (v_move rfl) rfl ?_
          refine WL.val (v_add rfl rfl) rfl ?_
          refine WL.val (v_assign rfl) rfl ?_
          refine WL.nil ?_
          refine EX.next ?_
          refine WC.seq ?_
          refine WC.region ?_
          refine WL.val (v_move rfl) rfl ?_
          refine WL.val (v_move rfl) rfl ?_
          refine WL.val (v_add rfl rfl) rfl ?_
          refine WL.val (v_assign rfl) rfl ?_
          refine WL.nil ?_
          refine EX.next ?_
          refine WC.seq ?_
          refine WC.region ?_
          refine WL.val (v_move rfl) rfl ?_
          refine WL.val (v_move rfl) rfl ?_
          refine WL.val (v_add rfl rfl) rfl ?_
          refine WL.val (v_assign rfl) rfl ?_
          refine WL.nil ?_
          refine EX.next ?_
          refine WC.seq ?_
          refine WC.region ?_
          refine WL.val (v_move rfl) rfl ?_
          refine WL.val (v_move rfl) rfl ?_
          refine WL.val (v_add rfl rfl) rfl ?_
          refine WL.val (v_assign rfl) rfl ?_
          refine WL.nil ?_
          refine EX.next ?_
          refine WC.region ?_
          refine WL.val (v_move rfl) rfl ?_
          refine WL.val (v_slice (i := 64) (j := lq) Tryz.runUnderlying23 Tryz.sizeOf5 rfl ⟨.i64, rfl⟩ rfl h64 hcq hcq) rfl ?_
          refine WL.val (v_assign rfl) rfl ?_
          refine WL.nil ?_
          refine EX.normal_block ?_
          refine EX.to ?_
          exact KS.mk fun b w hS => ⟨lq - 64, by omega, cutA Aq cq 64, lq - 64, cq - 64, qs.drop 64, vs, _, _, _, _, _, _, _, _, rfl, by rw [List.length_drop]; omega, by omega, (by have h9 := hRq.cut (cap := cq) (k := 64) (by rw [i8_length]; omega); rwa [show (i8 qs).drop 64 = i8 (qs.drop 64) from (iu_drop _ _ _).symm] at h9), hvs, hS.keep ⟨rfl, rfl, rfl, rfl, rfl, rfl, rfl, rfl, rfl, rfl, rfl, trivial⟩⟩
    · intro hb2
      refine WC.exit ?_
      refine EX.exit_then ?_
      refine EX.exit_then ?_
      refine EX.exit_here ?_
      refine EX.next ?_
      refine WC.draw (L) (.quiet 0 (.quiet 1 (.quiet 2 (.quiet 3 (.quiet 4 (.quiet 5 (.quiet 6 (.quiet 7 (.quiet 8 (.quiet 9 (.quiet 10 (.quiet 11 (.quiet 12 (.quiet 13 (.quiet 14 (.quiet 15 (.quiet 16 (.quiet 17 (.quiet 18 (.quiet 20 (.quiet 21 (.quiet 24 (.quiet 25 (.quiet 28 (.quiet 29 (.quiet 32 (.quiet 33 (.quiet 36 (.quiet 37 (.quiet 40 (.quiet 41 (.quiet 44 (.quiet 45 (.one 19 (.quiet 22 (.one 23 (.quiet 26 (.one 27 (.quiet 30 (.one 31 (.quiet 34 (.one 35 (.quiet 38 (.one 39 (.quiet 42 (.one 43 (.quiet 46 (.one 47 .done)))))))))))))))))))))))))))))))))))))))))))))))) (by kernel_rfl) (fun _ => Sb.hw) ?_
      refine AK.quiet rfl (v_move rfl) rfl ?_
      refine AK.quiet rfl (v_move rfl) rfl ?_
      refine AK.quiet rfl (v_move rfl) rfl ?_
      refine AK.quiet rfl (v_move rfl) rfl ?_
      refine AK.quiet rfl (v_move rfl) rfl ?_
      refine AK.quiet rfl (v_move rfl) rfl ?_
      refine AK.quiet rfl (v_move rfl) rfl ?_
      refine AK.quiet rfl (v_move rfl) rfl ?_
      refine AK.quiet rfl (v_move rfl) rfl ?_
      refine AK.quiet rfl (v_move rfl) rfl ?_
      refine AK.quiet rfl (v_move rfl) rfl ?_
      refine AK.quiet rfl (v_move rfl) rfl ?_
      refine AK.quiet rfl (v_move rfl) rfl ?_
      refine AK.quiet rfl (v_move rfl) rfl ?_
      refine AK.quiet rfl (v_move rfl) rfl ?_
      refine AK.quiet rfl (v_move rfl) rfl ?_
      refine AK.quiet rfl (v_nilCheck_ptr rfl) rfl ?_
      refine AK.quiet rfl (v_field Tryz.runUnderlying164 rfl Tryz.sizeOf161 (by decide) rfl) rfl ?_
      refine AK.quiet rfl (n_ixa (m := 0) Tryz.runUnderlying161 Tryz.sizeOf22 rfl (show _ = some (Value.int .i64 ((0 : Nat) : Int)) from rfl) (by decide)) rfl ?_
      refine AK.quiet rfl (v_nilCheck_ptr rfl) rfl ?_
      refine AK.quiet rfl (v_field Tryz.runUnderlying164 rfl Tryz.sizeOf161 (by decide) rfl) rfl ?_
      refine AK.quiet rfl (v_nilCheck_ptr rfl) rfl ?_
      refine AK.quiet rfl (v_field Tryz.runUnderlying164 rfl Tryz.sizeOf161 (by decide) rfl) rfl ?_
      refine AK.quiet rfl (v_nilCheck_ptr rfl) rfl ?_
      refine AK.quiet rfl (v_field Tryz.runUnderlying164 rfl Tryz.sizeOf161 (by decide) rfl) rfl ?_
      refine AK.quiet rfl (v_nilCheck_ptr rfl) rfl ?_
      refine AK.quiet rfl (v_field Tryz.runUnderlying164 rfl Tryz.sizeOf161 (by decide) rfl) rfl ?_
      refine AK.quiet rfl (v_nilCheck_ptr rfl) rfl ?_
      refine AK.quiet rfl (v_field Tryz.runUnderlying164 rfl Tryz.sizeOf161 (by decide) rfl) rfl ?_
      refine AK.quiet rfl (v_nilCheck_ptr rfl) rfl ?_
      refine AK.quiet rfl (v_field Tryz.runUnderlying164 rfl Tryz.sizeOf161 (by decide) rfl) rfl ?_
      refine AK.quiet rfl (v_nilCheck_ptr rfl) rfl ?_
      refine AK.quiet rfl (v_field Tryz.runUnderlying164 rfl Tryz.sizeOf161 (by decide) rfl) rfl ?_
      refine AK.one rfl rfl (OW.store (vs' := _) Tryz.sizeOf22 rfl rfl rfl (dgC_set_h (i := 0) (by omega) _) (.there .here) (by show 0 < _; rw [dgC_length]; omega) (by simp) ?_)
      refine AK.on (fun _ => Sb.hw) ?_
      refine AK.quiet rfl (n_ixa (m := 1) Tryz.runUnderlying161 Tryz.sizeOf22 rfl (show _ = some (Value.int .i64 ((1 : Nat) : Int)) from rfl) (by decide)) rfl ?_
      refine AK.one rfl rfl (OW.store (vs' := _) Tryz.sizeOf22 rfl rfl rfl (dgC_set_h (i := 1) (by simp only [List.length_set]; omega) _) (.there .here) (by show 1 < _; rw [dgC_length]; simp only [List.length_set]; omega) (by simp) ?_)
      refine AK.on (fun _ => Sb.hw) ?_
      refine AK.quiet rfl (n_ixa (m := 2) Tryz.runUnderlying161 Tryz.sizeOf22 rfl (show _ = some (Value.int .i64 ((2 : Nat) : Int)) from rfl) (by decide)) rfl ?_
      refine AK.one rfl rfl (OW.store (vs' := _) Tryz.sizeOf22 rfl rfl rfl (dgC_set_h (i := 2) (by simp only [List.length_set]; omega) _) (.there .here) (by show 2 < _; rw [dgC_length]; simp only [List.length_set]; omega) (by simp) ?_)
      refine AK.on (fun _ => Sb.hw) ?_
      refine AK.quiet rfl (n_ixa (m := 3) Tryz.runUnderlying161 Tryz.sizeOf22 rfl (show _ = some (Value.int .i64 ((3 : Nat) : Int)) from rfl) (by decide)) rfl ?_
      refine AK.one rfl rfl (OW.store (vs' := _) Tryz.sizeOf22 rfl rfl rfl (dgC_set_h (i := 3) (by simp only [List.length_set]; omega) _) (.there .here) (by show 3 < _; rw [dgC_length]; simp only [List.length_set]; omega) (by simp) ?_)
      refine AK.on (fun _ => Sb.hw) ?_
      refine AK.quiet rfl (n_ixa (m := 4) Tryz.runUnderlying161 Tryz.sizeOf22 rfl (show _ = some (Value.int .i64 ((4 : Nat) : Int)) from rfl) (by decide)) rfl ?_
      refine AK.one rfl rfl (OW.store (vs' := _) Tryz.sizeOf22 rfl rfl rfl (dgC_set_h (i := 4) (by simp only [List.length_set]; omega) _) (.there .here) (by show 4 < _; rw [dgC_length]; simp only [List.length_set]; omega) (by simp) ?_)
      refine AK.on (fun _ => Sb.hw) ?_
      refine AK.quiet rfl (n_ixa (m := 5) Tryz.runUnderlying161 Tryz.sizeOf22 rfl (show _ = some (Value.int .i64 ((5 : Nat) : Int)) from rfl) (by decide)) rfl ?_
      refine AK.one rfl rfl (OW.store (vs' := _) Tryz.sizeOf22 rfl rfl rfl (dgC_set_h (i := 5) (by simp only [List.length_set]; omega) _) (.there .here) (by show 5 < _; rw [dgC_length]; simp only [List.length_set]; omega) (by simp) ?_)
      refine AK.on (fun _ => Sb.hw) ?_
      refine AK.quiet rfl (n_ixa (m := 6) Tryz.runUnderlying161 Tryz.sizeOf22 rfl (show _ = some (Value.int .i64 ((6 : Nat) : Int)) from rfl) (by decide)) rfl ?_
      refine AK.one rfl rfl (OW.store (vs' := _) Tryz.sizeOf22 rfl rfl rfl (dgC_set_h (i := 6) (by simp only [List.length_set]; omega) _) (.there .here) (by show 6 < _; rw [dgC_length]; simp only [List.length_set]; omega) (by simp) ?_)
      refine AK.on (fun _ => Sb.hw) ?_
      refine AK.quiet rfl (n_ixa (m := 7) Tryz.runUnderlying161 Tryz.sizeOf22 rfl (show _ = some (Value.int .i64 ((7 : Nat) : Int)) from rfl) (by decide)) rfl ?_
      refine AK.one rfl rfl (OW.store (vs' := _) Tryz.sizeOf22 rfl rfl rfl (dgC_set_h (i := 7) (by simp only [List.length_set]; omega) _) (.there .here) (by show 7 < _; rw [dgC_length]; simp only [List.length_set]; omega) (by simp) ?_)
      refine AK.on (fun _ => Sb.hw) ?_
      refine AK.done ?_
      refine end0 Tryz.results95 fun w hw => ⟨_, rfl, ?_, hw.tail⟩
      simp only [List.length_set]; exact hhs
theorem blockOf256_any (w0 w : World) (L : Heap) (k : Nat) (hs xs : List Int) (nx len : Int) (r : List Value) (hK : KG L) (hhs : hs.length = 8) (Aa : Option Addr) (la ca : Nat) (ps : List Int) (hla : ps.length = la) (hca : la ≤ ca) (hRp : Rd ((k, blk 164 (0, 0) (dgC hs xs nx len r)) :: L) Aa (i8 ps)) (hw : HW w0 ((k, blk 164 (0, 0) (dgC hs xs nx len r)) :: L) w) :
    Calls P 88 #[.pointer (some ⟨k, 0, none⟩), .slice Aa la ca] w fun e w' => ∃ hs', e = .returned (.tuple #[]) ∧ hs'.length = 8 ∧ HW w0 ((k, blk 164 (0, 0) (dgC hs' xs nx len r)) :: L) w' := by
  refine enter (us := [.pointer (some ⟨k, 0, none⟩), .slice Aa la ca]) Tryz.func88 rfl Tryz.ntmps88 (by simp) rfl ?_ hw
  refine WC.region ?_
  refine WL.val (v_move rfl) rfl ?_
  refine WL.val (v_move rfl) rfl ?_
  refine WL.act rfl (OW.call (xs := [.tmp 4, .tmp 5]) Tryz.call95 rfl (fun w hw => block256_any w0 w L k hs xs nx len r hK hhs Aa la ca ps hla hca hRp hw) rfl ?_)
  rintro r w' ⟨hs', rfl, h8, hw'⟩
  refine ⟨_, _, rfl, hw', ?_⟩
  refine WL.nil ?_
  exact end0 Tryz.results88 fun w hw => ⟨hs', rfl, h8, hw⟩
end Go.Proofs.YtljoodllnaekbaaGreatDoor

namespace Go.Proofs.YtljoodllnaekbaaGreatDoor
open Go

theorem write256_any (w0 w : World) (L : Heap) (k : Nat) (hs xs : List Int) (nx len : Nat) (r : List Value) (hK : KG L) (hhs : hs.length = 8) (hxs : xs.length = 64) (hnx : nx < 64) (Ap : Option Addr) (lp cp : Nat) (ps : List Int) (hlp : ps.length = lp) (hcp : lp ≤ cp) (hRp : Rd L Ap (i8 ps)) (hm : lp ≤ 1000) (hw : HW w0 ((k, blk 164 (0, 0) (dgC hs xs ((nx : Int)) ((len : Int)) r)) :: L) w) :
    Calls P 77 #[.pointer (some ⟨k, 0, none⟩), .slice Ap lp cp] w fun e w' => ∃ hs' xs', e = .returned (.tuple #[.int .i64 (lp : Int), .nilIface]) ∧ hs'.length = 8 ∧ xs'.length = 64 ∧ HW w0 ((k, blk 164 (0, 0) (dgC hs' xs' ((((nx + lp) % 64 : Nat) : Int)) ((((len + lp) % 18446744073709551616 : Nat) : Int)) r)) :: L) w' := by
  refine enter (us := [.pointer (some ⟨k, 0, none⟩), .slice Ap lp cp]) Tryz.func77 rfl Tryz.ntmps77 (by simp) rfl ?_ hw
  refine WC.seq ?_
  refine WC.region ?_
  refine WL.val (v_assign rfl) rfl ?_
  refine WL.val (v_assign rfl) rfl ?_
  refine WL.nil ?_
  refine EX.next ?_
  refine WC.seq ?_
  refine WC.region ?_
  refine WL.val (v_move rfl) rfl ?_
  refine WL.val (v_len Tryz.runUnderlying23 rfl) rfl ?_
  refine WL.val (v_assign rfl) rfl ?_
  refine WL.nil ?_
  refine EX.next ?_
  refine WC.seq ?_
  refine WC.region ?_
  refine WL.val (v_move rfl) rfl ?_
  refine WL.val (v_nilCheck_ptr rfl) rfl ?_
  refine WL.val (v_field Tryz.runUnderlying164 rfl Tryz.sizeOf50 (by decide) rfl) rfl ?_
  refine WL.val (v_load Tryz.isAgg50 rfl m0 (dgC_len (o := 73) (by omega))) rfl ?_
  refine WL.val (v_move rfl) rfl ?_
  refine WL.val (u64_conv Tryz.runUnderlying3 Tryz.runUnderlying50 rfl (by omega)) rfl ?_
  refine WL.val (Val.to (v' := .int .u64 (((len + lp) % 18446744073709551616 : Nat) : Int)) (by rw [show (len : Int) + (lp : Int) = ((len + lp : Nat) : Int) by omega, wrap_u64_nat]) (v_add rfl rfl)) rfl ?_
  refine WL.val (v_nilCheck_ptr rfl) rfl ?_
  refine WL.val (v_field Tryz.runUnderlying164 rfl Tryz.sizeOf50 (by decide) rfl) rfl ?_
  refine WL.act rfl (OW.store (vs' := _) Tryz.sizeOf50 rfl rfl rfl (dgC_set_len (o := 73) (by omega) _) .here (by show 73 < _; rw [dgC_length]; omega) (by simp) ?_)
  refine WL.nil ?_
  refine EX.next ?_
  refine WC.cut (fun ac wl => ∃ hs1 : List Int, ∃ xs1 : List Int, ∃ n2 : Nat, ∃ Aq : Option Addr, ∃ lq : Nat, ∃ cq : Nat, ∃ qs : List Int, (hs1.length = 8) ∧ (xs1.length = 64) ∧ (qs.length = lq) ∧ (lq ≤ cq) ∧ (Rd L Aq (i8 qs)) ∧ (lq ≤ 1000) ∧ (n2 < 64) ∧ (n2 = 0 ∨ lq = 0) ∧ ((n2 + lq) % 64 = (nx + lp) % 64) ∧ St w0 95 [(0, .pointer (some ⟨k, 0, none⟩)), (1, .slice Aq lq cq), (4, .int .i64 (lp : Int)), (5, .nilIface)] ((k, blk 164 (0, 0) (dgC hs1 xs1 ((n2 : Int)) ((((len + lp) % 18446744073709551616 : Nat) : Int)) r)) :: L) ac wl) ?_ ?_
  · skip
    refine WC.seq ?_
    refine WC.region ?_
    refine WL.val (v_move rfl) rfl ?_
    refine WL.val (v_nilCheck_ptr rfl) rfl ?_
    refine WL.val (v_field Tryz.runUnderlying164 rfl Tryz.sizeOf3 (by decide) rfl) rfl ?_
    refine WL.val (v_load Tryz.isAgg3 rfl m0 (dgC_nx (o := 72) (by omega))) rfl ?_
    refine WL.val (v_gtr rfl rfl) rfl ?_
    refine WL.nil ?_
    refine EX.next ?_
    refine WC.cond rfl ?_ ?_
    · intro hb3
      have hp0 : 0 < nx := by have := of_decide_eq_true hb3; omega
      obtain ⟨zs, hzs, hzu⟩ := dgC_copy (hs := hs) (xs := xs) (nx := (nx : Int)) (len := (((len + lp) % 18446744073709551616 : Nat) : Int)) (r := r) (o := 8 + nx) (i := nx) (ys := ps.take (min lp (64 - nx))) (by omega) (by rw [List.length_take]; omega)
      refine WC.seq ?_
      refine WC.drawTail 9 (by kernel_rfl) ?_
      refine WS.val (v_move rfl) rfl ?_
      refine WS.val (v_nilCheck_ptr rfl) rfl ?_
      refine WS.val (v_field Tryz.runUnderlying164 rfl Tryz.sizeOf162 (by decide) rfl) rfl ?_
      refine WS.val (v_move rfl) rfl ?_
      refine WS.val (v_nilCheck_ptr rfl) rfl ?_
      refine WS.val (v_field Tryz.runUnderlying164 rfl Tryz.sizeOf3 (by decide) rfl) rfl ?_
      refine WS.val (v_load Tryz.isAgg3 rfl m0 (dgC_nx (o := 72) (by omega))) rfl ?_
      refine WS.val (Val.to (v' := .slice (some ⟨k, 8 + nx, none⟩) (64 - nx) (64 - nx)) rfl (v_slice_arr (i := nx) (j := 64) Tryz.runUnderlying162 Tryz.sizeOf5 rfl ⟨.i64, rfl⟩ rfl (by omega) (by omega) (by omega))) rfl ?_
      refine WS.val (v_move rfl) rfl ?_
      refine WS.nil ?_
      refine WL.act rfl (OW.copy (nn := min lp (64 - nx)) (news := i8 (ps.take (min lp (64 - nx)))) Tryz.runUnderlying23 Tryz.sizeOf5 rfl rfl (by rw [i8_take]; exact (Rd.mono hRp (fun _ h => mS h)).take _) rfl (by rw [i8_length, List.length_take]; omega) (iu_one _ _) .here (by rw [dgC_length]; omega) hzu rfl ?_)
      refine WL.val (v_assign rfl) rfl ?_
      refine WL.nil ?_
      refine EX.next ?_
      refine WC.seq ?_
      refine WC.region ?_
      refine WL.val (v_move rfl) rfl ?_
      refine WL.val (v_nilCheck_ptr rfl) rfl ?_
      refine WL.val (v_field Tryz.runUnderlying164 rfl Tryz.sizeOf3 (by decide) rfl) rfl ?_
      refine WL.val (v_load Tryz.isAgg3 rfl m0 (dgC_nx (o := 72) (by omega))) rfl ?_
      refine WL.val (v_move rfl) rfl ?_
      refine WL.val (n_add rfl rfl (by omega)) rfl ?_
      refine WL.val (v_nilCheck_ptr rfl) rfl ?_
      refine WL.val (v_field Tryz.runUnderlying164 rfl Tryz.sizeOf3 (by decide) rfl) rfl ?_
      refine WL.act rfl (OW.store (vs' := _) Tryz.sizeOf3 rfl rfl rfl (dgC_set_nx (o := 72) (by omega) _) .here (by show 72 < _; rw [dgC_length]; omega) (by simp) ?_)
      refine WL.nil ?_
      refine EX.next ?_
      refine WC.seq ?_
      refine WC.seq ?_
      refine WC.region ?_
      refine WL.val (v_move rfl) rfl ?_
      refine WL.val (v_nilCheck_ptr rfl) rfl ?_
      refine WL.val (v_field Tryz.runUnderlying164 rfl Tryz.sizeOf3 (by decide) rfl) rfl ?_
      refine WL.val (v_load Tryz.isAgg3 rfl m0 (dgC_nx (o := 72) (by omega))) rfl ?_
      refine WL.val (v_eql rfl rfl) rfl ?_
      refine WL.nil ?_
      refine EX.next ?_
      refine WC.cond rfl ?_ ?_
      · intro hb6
        have h64 : nx + min lp (64 - nx) = 64 := by have := beq_iff_eq.1 hb6; omega
        refine WC.seq ?_
        refine WC.region ?_
        refine WL.val (v_move rfl) rfl ?_
        refine WL.val (v_move rfl) rfl ?_
        refine WL.val (v_nilCheck_ptr rfl) rfl ?_
        refine WL.val (v_field Tryz.runUnderlying164 rfl Tryz.sizeOf162 (by decide) rfl) rfl ?_
        refine WL.val (Val.to (v' := .slice (some ⟨k, 8, none⟩) 64 64) rfl (v_slice_arr (i := 0) (j := 64) Tryz.runUnderlying162 Tryz.sizeOf5 rfl rfl rfl (by decide) (by decide) (by decide))) rfl ?_
        refine WL.act rfl (OW.call (xs := [.tmp 47, .tmp 51]) Tryz.call88 rfl (fun w hw => blockOf256_any w0 w L k hs zs _ _ r hK hhs _ 64 64 zs (by omega) (Nat.le_refl _) (dgC_rd (i := 0) m0 (by omega)) hw) rfl ?_)
        rintro r w' ⟨hs2, rfl, hhs2, hw'⟩
        refine ⟨_, _, rfl, hw', ?_⟩
        refine WL.nil ?_
        refine EX.next ?_
        refine WC.region ?_
        refine WL.val (v_move rfl) rfl ?_
        refine WL.val (v_nilCheck_ptr rfl) rfl ?_
        refine WL.val (v_field Tryz.runUnderlying164 rfl Tryz.sizeOf3 (by decide) rfl) rfl ?_
        refine WL.act rfl (OW.store (vs' := _) Tryz.sizeOf3 rfl rfl rfl (dgC_set_nx (o := 72) (by omega) _) .here (by show 72 < _; rw [dgC_length]; omega) (by simp) ?_)
        refine WL.nil ?_
        refine EX.next ?_
        refine WC.region ?_
        refine WL.val (v_move rfl) rfl ?_
        refine WL.val (v_move rfl) rfl ?_
        refine WL.val (v_slice (i := min lp (64 - nx)) (j := lp) Tryz.runUnderlying23 Tryz.sizeOf5 rfl ⟨.i64, rfl⟩ rfl (by omega) (by omega) (by omega)) rfl ?_
        refine WL.val (v_assign rfl) rfl ?_
        refine WL.nil ?_
        refine EX.to ?_
        exact KS.mk fun b w hS => ⟨hs2, zs, 0, _, _, _, ps.drop (min lp (64 - nx)), hhs2, by omega, by rw [List.length_drop]; omega, by omega, by have h9 := hRp.cut (cap := cp) (k := min lp (64 - nx)) (by rw [i8_length]; omega); rwa [← i8_drop] at h9, by omega, by omega, .inl rfl, by omega, hS.keep ⟨rfl, rfl, rfl, rfl, trivial⟩⟩
      · intro hb6
        have h64 : nx + min lp (64 - nx) ≠ 64 := by intro h; rw [h] at hb6; simp at hb6
        refine WC.skip ?_
        refine EX.next ?_
        refine WC.region ?_
        refine WL.val (v_move rfl) rfl ?_
        refine WL.val (v_move rfl) rfl ?_
        refine WL.val (v_slice (i := min lp (64 - nx)) (j := lp) Tryz.runUnderlying23 Tryz.sizeOf5 rfl ⟨.i64, rfl⟩ rfl (by omega) (by omega) (by omega)) rfl ?_
        refine WL.val (v_assign rfl) rfl ?_
        refine WL.nil ?_
        refine EX.to ?_
        exact KS.mk fun b w hS => ⟨hs, zs, nx + min lp (64 - nx), _, _, _, ps.drop (min lp (64 - nx)), hhs, by omega, by rw [List.length_drop]; omega, by omega, by have h9 := hRp.cut (cap := cp) (k := min lp (64 - nx)) (by rw [i8_length]; omega); rwa [← i8_drop] at h9, by omega, by omega, .inr (by omega), by omega, hS.keep ⟨rfl, rfl, rfl, rfl, trivial⟩⟩
    · intro hb3
      have hp0 : nx = 0 := by have := of_decide_eq_false hb3; omega
      refine WC.skip ?_
      refine EX.to ?_
      subst hp0
      exact KS.mk fun b w hS => ⟨hs, xs, 0, Ap, lp, cp, ps, hhs, hxs, hlp, hcp, hRp, hm, by omega, .inl rfl, rfl, hS.keep ⟨rfl, rfl, rfl, rfl, trivial⟩⟩
  · rintro ac wl ⟨hs1, xs1, n2, Aq, lq, cq, qs, hhs1, hxs1, hlq, hcq, hRq, hmq, hn2, hz2, hmod, hS⟩
    revert ac wl
    refine KS.out ?_
    refine WC.cut (fun ac wl => ∃ hs1 : List Int, ∃ xs1 : List Int, ∃ n2 : Nat, ∃ Aq : Option Addr, ∃ lq : Nat, ∃ cq : Nat, ∃ qs : List Int, (hs1.length = 8) ∧ (xs1.length = 64) ∧ (qs.length = lq) ∧ (lq ≤ cq) ∧ (Rd L Aq (i8 qs)) ∧ (lq ≤ 1000) ∧ (n2 < 64) ∧ (n2 = 0 ∨ lq = 0) ∧ ((n2 + lq) % 64 = (nx + lp) % 64) ∧ (lq < 64) ∧ St w0 95 [(0, .pointer (some ⟨k, 0, none⟩)), (1, .slice Aq lq cq), (4, .int .i64 (lp : Int)), (5, .nilIface)] ((k, blk 164 (0, 0) (dgC hs1 xs1 ((n2 : Int)) ((((len + lp) % 18446744073709551616 : Nat) : Int)) r)) :: L) ac wl) ?_ ?_
    · skip
      refine WC.seq ?_
      refine WC.region ?_
      refine WL.val (v_move rfl) rfl ?_
      refine WL.val (v_len Tryz.runUnderlying23 rfl) rfl ?_
      refine WL.val (v_geq rfl rfl) rfl ?_
      refine WL.nil ?_
      refine EX.next ?_
      refine WC.cond rfl ?_ ?_
      · intro hb10
        have h6 : 64 ≤ lq := by have := of_decide_eq_true hb10; omega
        have hn20 : n2 = 0 := hz2.resolve_right (by omega)
        refine WC.seq ?_
        refine WC.region ?_
        refine WL.val (v_move rfl) rfl ?_
        refine WL.val (v_len Tryz.runUnderlying23 rfl) rfl ?_
        refine WL.val (Val.to (v' := .int .i64 ((lq / 64 * 64 : Nat) : Int)) (by rw [andNot63 lq hmq]) (v_andNot rfl rfl)) rfl ?_
        refine WL.val (v_assign rfl) rfl ?_
        refine WL.nil ?_
        refine EX.next ?_
        refine WC.seq ?_
        refine WC.block ?_
        refine WC.loop (fun mm ac wl => (0 = mm) ∧ St w0 95 [(0, .pointer (some ⟨k, 0, none⟩)), (1, .slice Aq lq cq), (4, .int .i64 (lp : Int)), (5, .nilIface), (7, .int .i64 ((lq / 64 * 64 : Nat) : Int))] ((k, blk 164 (0, 0) (dgC hs1 xs1 ((n2 : Int)) ((((len + lp) % 18446744073709551616 : Nat) : Int)) r)) :: L) ac wl) (0) ?_ ?_
        · intro ac wl hS
          exact ⟨rfl, hS.keep ⟨rfl, rfl, rfl, rfl, rfl, trivial⟩⟩
        · rintro mm ac wl ⟨hm, hS⟩
          subst hm
          revert ac wl
          refine KS.out ?_
          refine WC.seq ?_
          refine WC.seq ?_
          refine WC.region ?_
          refine WL.val (v_move rfl) rfl ?_
          refine WL.val (v_gtr rfl rfl) rfl ?_
          refine WL.nil ?_
          refine EX.next ?_
          refine WC.cond rfl ?_ ?_
          · intro hb12
            exfalso; have := of_decide_eq_true hb12; omega
          · intro hb12
            refine WC.exit ?_
            refine EX.exit_then ?_
            refine EX.exit_then ?_
            refine EX.exit_here ?_
            refine EX.next ?_
            refine WC.seq ?_
            refine WC.region ?_
            refine WL.val (v_move rfl) rfl ?_
            refine WL.val (v_move rfl) rfl ?_
            refine WL.val (v_move rfl) rfl ?_
            refine WL.val (Val.to (v' := .slice Aq (lq / 64 * 64) cq) (by rw [cutA_zero]; rfl) (v_slice (i := 0) (j := lq / 64 * 64) Tryz.runUnderlying23 Tryz.sizeOf5 rfl rfl ⟨.i64, rfl⟩ (by omega) (by omega) hcq)) rfl ?_
            refine WL.act rfl (OW.call (xs := [.tmp 75, .tmp 78]) Tryz.call88 rfl (fun w hw => blockOf256_any w0 w L k hs1 xs1 _ _ r hK hhs1 _ _ _ (qs.take (lq / 64 * 64)) (by rw [List.length_take]; omega) (by omega) (by rw [i8_take]; exact (Rd.mono hRq (fun _ h => mS h)).take _) hw) rfl ?_)
            rintro r w' ⟨hs3, rfl, hhs3, hw'⟩
            refine ⟨_, _, rfl, hw', ?_⟩
            refine WL.nil ?_
            refine EX.next ?_
            refine WC.region ?_
            refine WL.val (v_move rfl) rfl ?_
            refine WL.val (v_move rfl) rfl ?_
            refine WL.val (v_slice (i := lq / 64 * 64) (j := lq) Tryz.runUnderlying23 Tryz.sizeOf5 rfl ⟨.i64, rfl⟩ rfl (by omega) (by omega) hcq) rfl ?_
            refine WL.val (v_assign rfl) rfl ?_
            refine WL.nil ?_
            refine EX.to ?_
            exact KS.mk fun b w hS => ⟨hs3, xs1, n2, _, _, _, qs.drop (lq / 64 * 64), hhs3, hxs1, by rw [List.length_drop]; omega, by omega, by have h9 := hRq.cut (cap := cq) (k := lq / 64 * 64) (by rw [i8_length]; omega); rwa [← i8_drop] at h9, by omega, hn2, .inl hn20, by omega, by omega, hS.keep ⟨rfl, rfl, rfl, rfl, trivial⟩⟩
      · intro hb10
        have h6 : lq < 64 := by have := of_decide_eq_false hb10; omega
        refine WC.skip ?_
        refine EX.to ?_
        exact KS.mk fun b w hS => ⟨hs1, xs1, n2, Aq, lq, cq, qs, hhs1, hxs1, hlq, hcq, hRq, hmq, hn2, hz2, hmod, h6, hS.keep ⟨rfl, rfl, rfl, rfl, trivial⟩⟩
    · rintro ac wl ⟨hs1, xs1, n2, Aq, lq, cq, qs, hhs1, hxs1, hlq, hcq, hRq, hmq, hn2, hz2, hmod, h6, hS⟩
      revert ac wl
      refine KS.out ?_
      refine WC.seq ?_
      refine WC.seq ?_
      refine WC.region ?_
      refine WL.val (v_move rfl) rfl ?_
      refine WL.val (v_len Tryz.runUnderlying23 rfl) rfl ?_
      refine WL.val (v_gtr rfl rfl) rfl ?_
      refine WL.nil ?_
      refine EX.next ?_
      refine WC.cond rfl ?_ ?_
      · intro hb18
        have hl0 : 0 < lq := by have := of_decide_eq_true hb18; omega
        have hn20 : n2 = 0 := hz2.resolve_right (by omega)
        have hfin : (nx + lp) % 64 = lq := by omega
        obtain ⟨zs, hzs, hzu⟩ := dgC_copy (hs := hs1) (xs := xs1) (nx := (n2 : Int)) (len := (((len + lp) % 18446744073709551616 : Nat) : Int)) (r := r) (o := 8) (i := 0) (ys := qs) (by omega) (by omega)
        refine WC.region ?_
        refine WL.val (v_move rfl) rfl ?_
        refine WL.val (v_move rfl) rfl ?_
        refine WL.val (v_nilCheck_ptr rfl) rfl ?_
        refine WL.val (v_field Tryz.runUnderlying164 rfl Tryz.sizeOf162 (by decide) rfl) rfl ?_
        refine WL.val (Val.to (v' := .slice (some ⟨k, 8, none⟩) 64 64) rfl (v_slice_arr (i := 0) (j := 64) Tryz.runUnderlying162 Tryz.sizeOf5 rfl rfl rfl (by decide) (by decide) (by decide))) rfl ?_
        refine WL.val (v_move rfl) rfl ?_
        refine WL.act rfl (OW.copy (nn := lq) (news := i8 qs) Tryz.runUnderlying23 Tryz.sizeOf5 rfl rfl (Rd.mono hRq (fun _ h => mS h)) (show min lq 64 = lq by omega) (by rw [i8_length]; exact hlq) (iu_one _ _) .here (by rw [dgC_length]; omega) hzu rfl ?_)
        refine WL.val (v_nilCheck_ptr rfl) rfl ?_
        refine WL.val (v_field Tryz.runUnderlying164 rfl Tryz.sizeOf3 (by decide) rfl) rfl ?_
        refine WL.act rfl (OW.store (vs' := _) Tryz.sizeOf3 rfl rfl rfl (dgC_set_nx (o := 72) (by omega) _) .here (by show 72 < _; rw [dgC_length]; omega) (by simp) ?_)
        refine WL.nil ?_
        refine EX.next ?_
        refine WC.ret ?_
        rw [hfin]
        exact ret2 Tryz.results77 rfl rfl fun w hw => ⟨hs1, zs, rfl, hhs1, by omega, hw⟩
      · intro hb18
        have hl0 : lq = 0 := by have := of_decide_eq_false hb18; omega
        have hfin : (nx + lp) % 64 = n2 := by omega
        refine WC.skip ?_
        refine EX.next ?_
        refine WC.ret ?_
        rw [hfin]
        exact ret2 Tryz.results77 rfl rfl fun w hw => ⟨hs1, xs1, rfl, hhs1, hxs1, hw⟩
end Go.Proofs.YtljoodllnaekbaaGreatDoor

namespace Go.Proofs.YtljoodllnaekbaaGreatDoor
open Go

theorem block1_any (w0 w : World) (L : Heap) (k : Nat) (hs xs : List Int) (nx len : Int) (r : List Value) (hhs : hs.length = 5) (Aa : Option Addr) (la ca : Nat) (ps : List Int) (hla : ps.length = la) (hca : la ≤ ca) (hRp : Rd ((k, blk 170 (0, 0) (dgC hs xs nx len r)) :: L) Aa (i8 ps)) (hw : HW w0 ((k, blk 170 (0, 0) (dgC hs xs nx len r)) :: L) w) :
    Calls P 262 #[.pointer (some ⟨k, 0, none⟩), .slice Aa la ca] w fun e w' => ∃ hs', e = .returned (.tuple #[]) ∧ hs'.length = 5 ∧ HW w0 ((k, blk 170 (0, 0) (dgC hs' xs nx len r)) :: L) w' := by
  refine enter (us := [.pointer (some ⟨k, 0, none⟩), .slice Aa la ca]) Tryz.func262 rfl Tryz.ntmps262 (by simp) rfl ?_ hw
  refine WC.seq ?_
  refine WC.region ?_
  refine WL.act rfl (OW.allocC (vs := iu .u32 (List.replicate 16 0)) Tryz.zeroValue337 rfl rfl (fun b4 => ?_))
  refine WL.nil ?_
  refine EX.next ?_
  refine WC.seq ?_
  refine WC.drawAll (by kernel_rfl) ?_
  refine WS.val (v_move rfl) rfl ?_
  refine WS.val (v_nilCheck_ptr rfl) rfl ?_
  refine WS.val (v_field Tryz.runUnderlying170 rfl Tryz.sizeOf168 (by decide) rfl) rfl ?_
  refine WS.val (n_ixa (m := 0) Tryz.runUnderlying168 Tryz.sizeOf22 rfl (show _ = some (Value.int .i64 ((0 : Nat) : Int)) from rfl) (by decide)) rfl ?_
  refine WS.val (v_load Tryz.isAgg22 rfl (mS m0) (dgC_h (i := 0) (by omega))) rfl ?_
  refine WS.val (v_move rfl) rfl ?_
  refine WS.val (v_nilCheck_ptr rfl) rfl ?_
  refine WS.val (v_field Tryz.runUnderlying170 rfl Tryz.sizeOf168 (by decide) rfl) rfl ?_
  refine WS.val (n_ixa (m := 1) Tryz.runUnderlying168 Tryz.sizeOf22 rfl (show _ = some (Value.int .i64 ((1 : Nat) : Int)) from rfl) (by decide)) rfl ?_
  refine WS.val (v_load Tryz.isAgg22 rfl (mS m0) (dgC_h (i := 1) (by omega))) rfl ?_
  refine WS.val (v_move rfl) rfl ?_
  refine WS.val (v_nilCheck_ptr rfl) rfl ?_
  refine WS.val (v_field Tryz.runUnderlying170 rfl Tryz.sizeOf168 (by decide) rfl) rfl ?_
  refine WS.val (n_ixa (m := 2) Tryz.runUnderlying168 Tryz.sizeOf22 rfl (show _ = some (Value.int .i64 ((2 : Nat) : Int)) from rfl) (by decide)) rfl ?_
  refine WS.val (v_load Tryz.isAgg22 rfl (mS m0) (dgC_h (i := 2) (by omega))) rfl ?_
  refine WS.val (v_move rfl) rfl ?_
  refine WS.val (v_nilCheck_ptr rfl) rfl ?_
  refine WS.val (v_field Tryz.runUnderlying170 rfl Tryz.sizeOf168 (by decide) rfl) rfl ?_
  refine WS.val (n_ixa (m := 3) Tryz.runUnderlying168 Tryz.sizeOf22 rfl (show _ = some (Value.int .i64 ((3 : Nat) : Int)) from rfl) (by decide)) rfl ?_
  refine WS.val (v_load Tryz.isAgg22 rfl (mS m0) (dgC_h (i := 3) (by omega))) rfl ?_
  refine WS.val (v_move rfl) rfl ?_
  refine WS.val (v_nilCheck_ptr rfl) rfl ?_
  refine WS.val (v_field Tryz.runUnderlying170 rfl Tryz.sizeOf168 (by decide) rfl) rfl ?_
  refine WS.val (n_ixa (m := 4) Tryz.runUnderlying168 Tryz.sizeOf22 rfl (show _ = some (Value.int .i64 ((4 : Nat) : Int)) from rfl) (by decide)) rfl ?_
  refine WS.val (v_load Tryz.isAgg22 rfl (mS m0) (dgC_h (i := 4) (by omega))) rfl ?_
  refine WS.val (v_assign rfl) rfl ?_
  refine WS.val (v_assign rfl) rfl ?_
  refine WS.val (v_assign rfl) rfl ?_
  refine WS.val (v_assign rfl) rfl ?_
  refine WS.val (v_assign rfl) rfl ?_
  refine WS.nil ?_
  refine EX.next ?_
  refine WC.seq ?_
  refine WC.block ?_
  refine WC.loop (fun mm ac wl => ∃ Aq : Option Addr, ∃ lq : Nat, ∃ cq : Nat, ∃ qs : List Int, ∃ ws : List Int, ∃ e5 : Int, ∃ e6 : Int, ∃ e7 : Int, ∃ e8 : Int, ∃ e9 : Int, (lq = mm) ∧ (qs.length = lq) ∧ (lq ≤ cq) ∧ (Rd ((k, blk 170 (0, 0) (dgC hs xs nx len r)) :: L) Aq (i8 qs)) ∧ (ws.length = 16) ∧ St w0 397 [(0, .pointer (some ⟨k, 0, none⟩)), (1, .slice Aq lq cq), (4, .pointer (some ⟨b4, 0, none⟩)), (5, .int .u32 e5), (6, .int .u32 e6), (7, .int .u32 e7), (8, .int .u32 e8), (9, .int .u32 e9)] ((b4, blk 337 (0, 0) (iu .u32 ws)) :: (k, blk 170 (0, 0) (dgC hs xs nx len r)) :: L) ac wl) (la) ?_ ?_
  · intro ac wl hS
    exact ⟨Aa, la, ca, ps, List.replicate 16 0, _, _, _, _, _, rfl, hla, hca, hRp, by simp, hS.keep ⟨rfl, rfl, rfl, rfl, rfl, rfl, rfl, rfl, trivial⟩⟩
  · rintro mm ac wl ⟨Aq, lq, cq, qs, ws, e5, e6, e7, e8, e9, hm, hlq, hcq, hRq, hws, hS⟩
    subst hm
    revert ac wl
    refine KS.out ?_
    refine WC.seq ?_
    refine WC.seq ?_
    refine WC.region ?_
    refine WL.val (v_move rfl) rfl ?_
    refine WL.val (v_len Tryz.runUnderlying23 rfl) rfl ?_
    refine WL.val (v_geq rfl rfl) rfl ?_
    refine WL.nil ?_
    refine EX.next ?_
    refine WC.cond rfl ?_ ?_
    · intro hb2
      have h64 : 64 ≤ lq := by have := of_decide_eq_true hb2; omega
      refine WC.skip ?_
      refine EX.next ?_
      refine WC.block ?_
      refine WC.seq ?_
      refine WC.seq ?_
      refine WC.region ?_
      refine WL.val (v_assign rfl) rfl ?_
      refine WL.nil ?_
      refine EX.next ?_
      refine WC.block ?_
      refine WC.loop (fun mm ac wl => ∃ i : Nat, ∃ vs : List Int, (16 - i = mm) ∧ (i ≤ 16) ∧ (vs.length = 16) ∧ St w0 397 [(0, .pointer (some ⟨k, 0, none⟩)), (1, .slice Aq lq cq), (4, .pointer (some ⟨b4, 0, none⟩)), (5, .int .u32 e5), (6, .int .u32 e6), (7, .int .u32 e7), (8, .int .u32 e8), (9, .int .u32 e9), (10, .int .i64 (i : Int))] ((b4, blk 337 (0, 0) (iu .u32 vs)) :: (k, blk 170 (0, 0) (dgC hs xs nx len r)) :: L) ac wl) (16) ?_ ?_
      · intro ac wl hS
        exact ⟨0, ws, rfl, by omega, hws, hS.keep ⟨rfl, rfl, rfl, rfl, rfl, rfl, rfl, rfl, rfl, trivial⟩⟩
      · rintro mm ac wl ⟨i, vs, hm, hi, hvs, hS⟩
        subst hm
        revert ac wl
        refine KS.out ?_
        refine WC.seq ?_
        refine WC.seq ?_
        refine WC.region ?_
        refine WL.val (v_move rfl) rfl ?_
        refine WL.val (v_lss rfl rfl) rfl ?_
        refine WL.nil ?_
        refine EX.next ?_
        refine WC.cond rfl ?_ ?_
        · intro hb4
          have hlt : i < 16 := by have := of_decide_eq_true hb4; omega
          refine WC.skip ?_
          refine EX.next ?_
          refine WC.seq ?_
          refine WC.block ?_
          refine WC.seq ?_
          refine WC.region ?_
          refine WL.val (v_move rfl) rfl ?_
          refine WL.val (n_mul rfl (show _ = some (Value.int .i64 ((4 : Nat) : Int)) from rfl) (by omega)) rfl ?_
          refine WL.val (v_assign rfl) rfl ?_
          refine WL.nil ?_
          refine EX.next ?_
          refine WC.drawTail 31 (by kernel_rfl) ?_
          refine WS.val (v_move rfl) rfl ?_
          refine WS.val (v_move rfl) rfl ?_
          refine WS.val (v_move rfl) rfl ?_
          refine WS.val (n_index Tryz.runUnderlying23 Tryz.sizeOf5 rfl rfl (hRq.mono fun _ h => mS h) (by omega) (by rw [i8_length]; omega)) rfl ?_
          refine WS.val (v_load_rd Tryz.isAgg5 rfl (hRq.mono fun _ h => mS h) (i8_at (by omega))) rfl ?_
          refine WS.val (v_conv Tryz.runUnderlying5 Tryz.runUnderlying22 rfl) rfl ?_
          refine WS.val (v_shl rfl rfl (by omega)) rfl ?_
          refine WS.val (v_move rfl) rfl ?_
          refine WS.val (v_move rfl) rfl ?_
          refine WS.val (n_add1 rfl rfl (show (1 : Int) = ((1 : Nat) : Int) from rfl) (by omega)) rfl ?_
          refine WS.val (n_index Tryz.runUnderlying23 Tryz.sizeOf5 rfl rfl (hRq.mono fun _ h => mS h) (by omega) (by rw [i8_length]; omega)) rfl ?_
          refine WS.val (v_load_rd Tryz.isAgg5 rfl (hRq.mono fun _ h => mS h) (i8_at (by omega))) rfl ?_
          refine WS.val (v_conv Tryz.runUnderlying5 Tryz.runUnderlying22 rfl) rfl ?_
          refine WS.val (v_shl rfl rfl (by omega)) rfl ?_
          refine WS.val (v_or rfl rfl) rfl ?_
          refine WS.val (v_move rfl) rfl ?_
          refine WS.val (v_move rfl) rfl ?_
          refine WS.val (n_add1 rfl rfl (show (2 : Int) = ((2 : Nat) : Int) from rfl) (by omega)) rfl ?_
          refine WS.val (n_index Tryz.runUnderlying23 Tryz.sizeOf5 rfl rfl (hRq.mono fun _ h => mS h) (by omega) (by rw [i8_length]; omega)) rfl ?_
          refine WS.val (v_load_rd Tryz.isAgg5 rfl (hRq.mono fun _ h => mS h) (i8_at (by omega))) rfl ?_
          refine WS.val (v_conv Tryz.runUnderlying5 Tryz.runUnderlying22 rfl) rfl ?_
          refine WS.val (v_shl rfl rfl (by omega)) rfl ?_
          refine WS.val (v_or rfl rfl) rfl ?_
          refine WS.val (v_move rfl) rfl ?_
          refine WS.val (v_move rfl) rfl ?_
          refine WS.val (n_add1 rfl rfl (show (3 : Int) = ((3 : Nat) : Int) from rfl) (by omega)) rfl ?_
          refine WS.val (n_index Tryz.runUnderlying23 Tryz.sizeOf5 rfl rfl (hRq.mono fun _ h => mS h) (by omega) (by rw [i8_length]; omega)) rfl ?_
          refine WS.val (v_load_rd Tryz.isAgg5 rfl (hRq.mono fun _ h => mS h) (i8_at (by omega))) rfl ?_
          refine WS.val (v_conv Tryz.runUnderlying5 Tryz.runUnderlying22 rfl) rfl ?_
          refine WS.val (v_or rfl rfl) rfl ?_
          refine WS.val (n_ixa Tryz.runUnderlying337 Tryz.sizeOf22 rfl rfl (by omega)) rfl ?_
          refine WS.nil ?_
          refine WL.act rfl (OW.store (vs' := _) Tryz.sizeOf22 rfl rfl rfl (iu_set _ _ _ _) .here (by rw [iu_length]; omega) (by simp) ?_)
          refine WL.nil ?_
          refine EX.normal_block ?_
          refine EX.next ?_
          refine WC.region ?_
          refine WL.val (v_move rfl) rfl ?_
          refine WL.val (n_add1 rfl rfl (show (1 : Int) = ((1 : Nat) : Int) from rfl) (by omega)) rfl ?_
          refine WL.val (v_assign rfl) rfl ?_
          refine WL.nil ?_
          refine EX.to ?_
          exact KS.mk fun b w hS => ⟨16 - (i + 1), by omega, i + 1, _, rfl, by omega, by rw [List.length_set]; exact hvs, hS.keep ⟨rfl, rfl, rfl, rfl, rfl, rfl, rfl, rfl, rfl, trivial⟩⟩
        · intro hb4
          refine WC.exit ?_
          refine EX.exit_then ?_
          refine EX.exit_then ?_
          refine EX.exit_here ?_
          refine EX.next ?_
          refine WC.seq ?_
          refine WC.region ?_
          refine WL.val (v_move rfl) rfl ?_
          refine WL.val (v_move rfl) rfl ?_
          refine WL.val (v_move rfl) rfl ?_
          refine WL.val (v_move rfl) rfl ?_
          refine WL.val (v_move rfl) rfl ?_
          refine WL.val (v_assign rfl) rfl ?_
          refine WL.val (v_assign rfl) rfl ?_
          refine WL.val (v_assign rfl) rfl ?_
          refine WL.val (v_assign rfl) rfl ?_
          refine WL.val (v_assign rfl) rfl ?_
          refine WL.nil ?_
          refine EX.next ?_
          refine WC.seq ?_
          refine WC.region ?_
          refine WL.val (v_assign rfl) rfl ?_
          refine WL.nil ?_
          refine EX.next ?_
          refine WC.seq ?_
          refine WC.block ?_
          refine WC.loop (fun mm ac wl => ∃ i : Nat, ∃ us : List Int, ∃ f12 : Int, ∃ f13 : Int, ∃ f14 : Int, ∃ f15 : Int, ∃ f16 : Int, (80 - i = mm) ∧ (i ≤ 80) ∧ (0 ≤ i) ∧ (us.length = 16) ∧ St w0 397 [(0, .pointer (some ⟨k, 0, none⟩)), (1, .slice Aq lq cq), (4, .pointer (some ⟨b4, 0, none⟩)), (5, .int .u32 e5), (6, .int .u32 e6), (7, .int .u32 e7), (8, .int .u32 e8), (9, .int .u32 e9), (12, .int .u32 f12), (13, .int .u32 f13), (14, .int .u32 f14), (15, .int .u32 f15), (16, .int .u32 f16), (17, .int .i64 (i : Int))] ((b4, blk 337 (0, 0) (iu .u32 us)) :: (k, blk 170 (0, 0) (dgC hs xs nx len r)) :: L) ac wl) (80) ?_ ?_
          · intro ac wl hS
            exact ⟨0, vs, _, _, _, _, _, rfl, by omega, by omega, hvs, hS.keep ⟨rfl, rfl, rfl, rfl, rfl, rfl, rfl, rfl, rfl, rfl, rfl, rfl, rfl, rfl, trivial⟩⟩
          · rintro mm ac wl ⟨i, us, f12, f13, f14, f15, f16, hm, hi, hlo, hus, hS⟩
            subst hm
            revert ac wl
            refine KS.out ?_
            refine WC.seq ?_
            refine WC.seq ?_
            refine WC.region ?_
            refine WL.val (v_move rfl) rfl ?_
            refine WL.val (v_lss rfl rfl) rfl ?_
            refine WL.nil ?_
            refine EX.next ?_
            refine WC.cond rfl ?_ ?_
            · intro hb10
              have hlt : i < 16 := by have := of_decide_eq_true hb10; omega
              refine WC.skip ?_
              refine EX.next ?_
              refine WC.seq ?_
              refine WC.block ?_
              refine WC.seq ?_
              refine WC.region ?_
              refine WL.val (v_move rfl) rfl ?_
              refine WL.val (v_move rfl) rfl ?_
              refine WL.val (v_and rfl rfl) rfl ?_
              refine WL.val (v_move rfl) rfl ?_
              refine WL.val (v_cpl rfl) rfl ?_
              refine WL.val (v_move rfl) rfl ?_
              refine WL.val (v_and rfl rfl) rfl ?_
              refine WL.val (v_or rfl rfl) rfl ?_
              refine WL.val (v_assign rfl) rfl ?_
              refine WL.nil ?_
              refine EX.next ?_
              refine WC.seq ?_
              refine WC.draw (_) (.quiet 0 (.quiet 2 (.quiet 4 (.quiet 6 (.quiet 7 (.quiet 8 (.quiet 9 (.one 1 (.quiet 3 (.quiet 5 (.quiet 10 (.quiet 11 (.quiet 12 .done))))))))))))) (by kernel_rfl) (fun _ h => h) ?_
              refine AK.quiet rfl (v_move rfl) rfl ?_
              refine AK.quiet rfl (v_move rfl) rfl ?_
              refine AK.quiet rfl (v_move rfl) rfl ?_
              refine AK.quiet rfl (v_move rfl) rfl ?_
              refine AK.quiet rfl (n_and15 rfl (by omega)) rfl ?_
              refine AK.quiet rfl (n_ixa Tryz.runUnderlying337 Tryz.sizeOf22 rfl rfl (by omega)) rfl ?_
              refine AK.quiet rfl (v_load Tryz.isAgg22 rfl m0 (iu_at0 (by first | omega | (simp only [List.length_set]; omega)))) rfl ?_
              refine AK.one rfl rfl (OW.call (xs := [.tmp 114, .const (.int .i64 5)]) Tryz.call101 rfl (fun w hw => rotate_any w0 w _ _ _ hw) rfl ?_)
              rintro r w' ⟨y13_1, rfl, hw'⟩
              refine ⟨_, _, rfl, hw', ?_⟩
              refine AK.on (fun _ => Sb.hw) ?_
              refine AK.quiet rfl (v_add rfl rfl) rfl ?_
              refine AK.quiet rfl (v_add rfl rfl) rfl ?_
              refine AK.quiet rfl (v_add rfl rfl) rfl ?_
              refine AK.quiet rfl (v_add rfl rfl) rfl ?_
              refine AK.quiet rfl (v_assign rfl) rfl ?_
              refine AK.done ?_
              refine EX.next ?_
              refine WC.region ?_
              refine WL.val (v_move rfl) rfl ?_
              refine WL.val (v_move rfl) rfl ?_
              refine WL.val (v_move rfl) rfl ?_
              refine WL.act rfl (OW.call (xs := [.tmp 128, .const (.int .i64 30)]) Tryz.call101 rfl (fun w hw => rotate_any w0 w _ _ _ hw) rfl ?_)
              rintro r w' ⟨y14_3, rfl, hw'⟩
              refine ⟨_, _, rfl, hw', ?_⟩
              refine WL.val (v_move rfl) rfl ?_
              refine WL.val (v_move rfl) rfl ?_
              refine WL.val (v_assign rfl) rfl ?_
              refine WL.val (v_assign rfl) rfl ?_
              refine WL.val (v_assign rfl) rfl ?_
              refine WL.val (v_assign rfl) rfl ?_
              refine WL.val (v_assign rfl) rfl ?_
              refine WL.nil ?_
              refine EX.normal_block ?_
              refine EX.next ?_
              refine WC.region ?_
              refine WL.val (v_move rfl) rfl ?_
              refine WL.val (n_add1 rfl rfl (show (1 : Int) = ((1 : Nat) : Int) from rfl) (by omega)) rfl ?_
              refine WL.val (v_assign rfl) rfl ?_
              refine WL.nil ?_
              refine EX.to ?_
              exact KS.mk fun b w hS => ⟨80 - (i + 1), by omega, i + 1, _, _, _, _, _, _, rfl, by omega, by omega, by first | exact hus | (rw [List.length_set]; exact hus), hS.keep ⟨rfl, rfl, rfl, rfl, rfl, rfl, rfl, rfl, rfl, rfl, rfl, rfl, rfl, rfl, trivial⟩⟩
            · intro hb10
              have hge : 16 ≤ i := by have := of_decide_eq_false hb10; omega
              refine WC.exit ?_
              refine EX.exit_then ?_
              refine EX.exit_then ?_
              refine EX.exit_here ?_
              refine EX.next ?_
              refine WC.seq ?_
              refine WC.block ?_
              refine WC.loop (fun mm ac wl => ∃ i : Nat, ∃ us : List Int, ∃ f12 : Int, ∃ f13 : Int, ∃ f14 : Int, ∃ f15 : Int, ∃ f16 : Int, (80 - i = mm) ∧ (i ≤ 80) ∧ (16 ≤ i) ∧ (us.length = 16) ∧ St w0 397 [(0, .pointer (some ⟨k, 0, none⟩)), (1, .slice Aq lq cq), (4, .pointer (some ⟨b4, 0, none⟩)), (5, .int .u32 e5), (6, .int .u32 e6), (7, .int .u32 e7), (8, .int .u32 e8), (9, .int .u32 e9), (12, .int .u32 f12), (13, .int .u32 f13), (14, .int .u32 f14), (15, .int .u32 f15), (16, .int .u32 f16), (17, .int .i64 (i : Int))] ((b4, blk 337 (0, 0) (iu .u32 us)) :: (k, blk 170 (0, 0) (dgC hs xs nx len r)) :: L) ac wl) (80 - i) ?_ ?_
              · intro ac wl hS
                exact ⟨i, us, _, _, _, _, _, rfl, by omega, by omega, hus, hS.keep ⟨rfl, rfl, rfl, rfl, rfl, rfl, rfl, rfl, rfl, rfl, rfl, rfl, rfl, rfl, trivial⟩⟩
              · rintro mm ac wl ⟨i, us, f12, f13, f14, f15, f16, hm, hi, hlo, hus, hS⟩
                subst hm
                revert ac wl
                refine KS.out ?_
                refine WC.seq ?_
                refine WC.seq ?_
                refine WC.region ?_
                refine WL.val (v_move rfl) rfl ?_
                refine WL.val (v_lss rfl rfl) rfl ?_
                refine WL.nil ?_
                refine EX.next ?_
                refine WC.cond rfl ?_ ?_
                · intro hb15
                  have hlt : i < 20 := by have := of_decide_eq_true hb15; omega
                  refine WC.skip ?_
                  refine EX.next ?_
                  refine WC.seq ?_
                  refine WC.block ?_
                  refine WC.seq ?_
                  refine WC.drawAll (by kernel_rfl) ?_
                  refine WS.val (v_move rfl) rfl ?_
                  refine WS.val (n_sub1 rfl rfl (show (3 : Int) = ((3 : Nat) : Int) from rfl) (by omega) (by omega)) rfl ?_
                  refine WS.val (n_and15 rfl (by omega)) rfl ?_
                  refine WS.val (n_ixa Tryz.runUnderlying337 Tryz.sizeOf22 rfl rfl (by omega)) rfl ?_
                  refine WS.val (v_load Tryz.isAgg22 rfl m0 (iu_at0 (by first | omega | (simp only [List.length_set]; omega)))) rfl ?_
                  refine WS.val (v_move rfl) rfl ?_
                  refine WS.val (n_sub1 rfl rfl (show (8 : Int) = ((8 : Nat) : Int) from rfl) (by omega) (by omega)) rfl ?_
                  refine WS.val (n_and15 rfl (by omega)) rfl ?_
                  refine WS.val (n_ixa Tryz.runUnderlying337 Tryz.sizeOf22 rfl rfl (by omega)) rfl ?_
                  refine WS.val (v_load Tryz.isAgg22 rfl m0 (iu_at0 (by first | omega | (simp only [List.length_set]; omega)))) rfl ?_
                  refine WS.val (v_xor rfl rfl) rfl ?_
                  refine WS.val (v_move rfl) rfl ?_
                  refine WS.val (n_sub1 rfl rfl (show (14 : Int) = ((14 : Nat) : Int) from rfl) (by omega) (by omega)) rfl ?_
                  refine WS.val (n_and15 rfl (by omega)) rfl ?_
                  refine WS.val (n_ixa Tryz.runUnderlying337 Tryz.sizeOf22 rfl rfl (by omega)) rfl ?_
                  refine WS.val (v_load Tryz.isAgg22 rfl m0 (iu_at0 (by first | omega | (simp only [List.length_set]; omega)))) rfl ?_
                  refine WS.val (v_xor rfl rfl) rfl ?_
                  refine WS.val (v_move rfl) rfl ?_
                  refine WS.val (n_and15 rfl (by omega)) rfl ?_
                  refine WS.val (n_ixa Tryz.runUnderlying337 Tryz.sizeOf22 rfl rfl (by omega)) rfl ?_
                  refine WS.val (v_load Tryz.isAgg22 rfl m0 (iu_at0 (by first | omega | (simp only [List.length_set]; omega)))) rfl ?_
                  refine WS.val (v_xor rfl rfl) rfl ?_
                  refine WS.val (v_assign rfl) rfl ?_
                  refine WS.nil ?_
                  refine EX.next ?_
                  refine WC.seq ?_
                  refine WC.region ?_
                  refine WL.val (v_move rfl) rfl ?_
                  refine WL.val (n_and15 rfl (by omega)) rfl ?_
                  refine WL.val (v_move rfl) rfl ?_
                  refine WL.act rfl (OW.call (xs := [.tmp 160, .const (.int .i64 1)]) Tryz.call101 rfl (fun w hw => rotate_any w0 w _ _ _ hw) rfl ?_)
                  rintro r w' ⟨y18_3, rfl, hw'⟩
                  refine ⟨_, _, rfl, hw', ?_⟩
                  refine WL.val (n_ixa Tryz.runUnderlying337 Tryz.sizeOf22 rfl rfl (by omega)) rfl ?_
                  refine WL.act rfl (OW.store (vs' := _) Tryz.sizeOf22 rfl rfl rfl (iu_set _ _ _ _) .here (by rw [iu_length]; omega) (by simp) ?_)
                  refine WL.nil ?_
                  refine EX.next ?_
                  refine WC.seq ?_
                  refine WC.region ?_
                  refine WL.val (v_move rfl) rfl ?_
                  refine WL.val (v_move rfl) rfl ?_
                  refine WL.val (v_and rfl rfl) rfl ?_
                  refine WL.val (v_move rfl) rfl ?_
                  refine WL.val (v_cpl rfl) rfl ?_
                  refine WL.val (v_move rfl) rfl ?_
                  refine WL.val (v_and rfl rfl) rfl ?_
                  refine WL.val (v_or rfl rfl) rfl ?_
                  refine WL.val (v_assign rfl) rfl ?_
                  refine WL.nil ?_
                  refine EX.next ?_
                  refine WC.seq ?_
                  refine WC.draw (_) (.quiet 0 (.quiet 2 (.quiet 4 (.quiet 6 (.quiet 7 (.quiet 8 (.quiet 9 (.one 1 (.quiet 3 (.quiet 5 (.quiet 10 (.quiet 11 (.quiet 12 .done))))))))))))) (by kernel_rfl) (fun _ h => h) ?_
                  refine AK.quiet rfl (v_move rfl) rfl ?_
                  refine AK.quiet rfl (v_move rfl) rfl ?_
                  refine AK.quiet rfl (v_move rfl) rfl ?_
                  refine AK.quiet rfl (v_move rfl) rfl ?_
                  refine AK.quiet rfl (n_and15 rfl (by omega)) rfl ?_
                  refine AK.quiet rfl (n_ixa Tryz.runUnderlying337 Tryz.sizeOf22 rfl rfl (by omega)) rfl ?_
                  refine AK.quiet rfl (v_load Tryz.isAgg22 rfl m0 (iu_at0 (by first | omega | (simp only [List.length_set]; omega)))) rfl ?_
                  refine AK.one rfl rfl (OW.call (xs := [.tmp 171, .const (.int .i64 5)]) Tryz.call101 rfl (fun w hw => rotate_any w0 w _ _ _ hw) rfl ?_)
                  rintro r w' ⟨y20_1, rfl, hw'⟩
                  refine ⟨_, _, rfl, hw', ?_⟩
                  refine AK.on (fun _ => Sb.hw) ?_
                  refine AK.quiet rfl (v_add rfl rfl) rfl ?_
                  refine AK.quiet rfl (v_add rfl rfl) rfl ?_
                  refine AK.quiet rfl (v_add rfl rfl) rfl ?_
                  refine AK.quiet rfl (v_add rfl rfl) rfl ?_
                  refine AK.quiet rfl (v_assign rfl) rfl ?_
                  refine AK.done ?_
                  refine EX.next ?_
                  refine WC.region ?_
                  refine WL.val (v_move rfl) rfl ?_
                  refine WL.val (v_move rfl) rfl ?_
                  refine WL.val (v_move rfl) rfl ?_
                  refine WL.act rfl (OW.call (xs := [.tmp 185, .const (.int .i64 30)]) Tryz.call101 rfl (fun w hw => rotate_any w0 w _ _ _ hw) rfl ?_)
                  rintro r w' ⟨y21_3, rfl, hw'⟩
                  refine ⟨_, _, rfl, hw', ?_⟩
                  refine WL.val (v_move rfl) rfl ?_
                  refine WL.val (v_move rfl) rfl ?_
                  refine WL.val (v_assign rfl) rfl ?_
                  refine WL.val (v_assign rfl) rfl ?_
                  refine WL.val (v_assign rfl) rfl ?_
                  refine WL.val (v_assign rfl) rfl ?_
                  refine WL.val (v_assign rfl) rfl ?_
                  refine WL.nil ?_
                  refine EX.normal_block ?_
                  refine EX.next ?_
                  refine WC.region ?_
                  refine WL.val (v_move rfl) rfl ?_
                  refine WL.val (n_add1 rfl rfl (show (1 : Int) = ((1 : Nat) : Int) from rfl) (by omega)) rfl ?_
                  refine WL.val (v_assign rfl) rfl ?_
                  refine WL.nil ?_
                  refine EX.to ?_
                  exact KS.mk fun b w hS => ⟨80 - (i + 1), by omega, i + 1, _, _, _, _, _, _, rfl, by omega, by omega, by first | exact hus | (rw [List.length_set]; exact hus), hS.keep ⟨rfl, rfl, rfl, rfl, rfl, rfl, rfl, rfl, rfl, rfl, rfl, rfl, rfl, rfl, trivial⟩⟩
                · intro hb15
                  have hge : 20 ≤ i := by have := of_decide_eq_false hb15; omega
                  refine WC.exit ?_
                  refine EX.exit_then ?_
                  refine EX.exit_then ?_
                  refine EX.exit_here ?_
                  refine EX.next ?_
                  refine WC.seq ?_
                  refine WC.block ?_
                  refine WC.loop (fun mm ac wl => ∃ i : Nat, ∃ us : List Int, ∃ f12 : Int, ∃ f13 : Int, ∃ f14 : Int, ∃ f15 : Int, ∃ f16 : Int, (80 - i = mm) ∧ (i ≤ 80) ∧ (16 ≤ i) ∧ (us.length = 16) ∧ St w0 397 [(0, .pointer (some ⟨k, 0, none⟩)), (1, .slice Aq lq cq), (4, .pointer (some ⟨b4, 0, none⟩)), (5, .int .u32 e5), (6, .int .u32 e6), (7, .int .u32 e7), (8, .int .u32 e8), (9, .int .u32 e9), (12, .int .u32 f12), (13, .int .u32 f13), (14, .int .u32 f14), (15, .int .u32 f15), (16, .int .u32 f16), (17, .int .i64 (i : Int))] ((b4, blk 337 (0, 0) (iu .u32 us)) :: (k, blk 170 (0, 0) (dgC hs xs nx len r)) :: L) ac wl) (80 - i) ?_ ?_
                  · intro ac wl hS
                    exact ⟨i, us, _, _, _, _, _, rfl, by omega, by omega, hus, hS.keep ⟨rfl, rfl, rfl, rfl, rfl, rfl, rfl, rfl, rfl, rfl, rfl, rfl, rfl, rfl, trivial⟩⟩
                  · rintro mm ac wl ⟨i, us, f12, f13, f14, f15, f16, hm, hi, hlo, hus, hS⟩
                    subst hm
                    revert ac wl
                    refine KS.out ?_
                    refine WC.seq ?_
                    refine WC.seq ?_
                    refine WC.region ?_
                    refine WL.val (v_move rfl) rfl ?_
                    refine WL.val (v_lss rfl rfl) rfl ?_
                    refine WL.nil ?_
                    refine EX.next ?_
                    refine WC.cond rfl ?_ ?_
                    · intro hb22
                      have hlt : i < 40 := by have := of_decide_eq_true hb22; omega
                      refine WC.skip ?_
                      refine EX.next ?_
                      refine WC.seq ?_
                      refine WC.block ?_
                      refine WC.seq ?_
                      refine WC.drawAll (by kernel_rfl) ?_
                      refine WS.val (v_move rfl) rfl ?_
                      refine WS.val (n_sub1 rfl rfl (show (3 : Int) = ((3 : Nat) : Int) from rfl) (by omega) (by omega)) rfl ?_
                      refine WS.val (n_and15 rfl (by omega)) rfl ?_
                      refine WS.val (n_ixa Tryz.runUnderlying337 Tryz.sizeOf22 rfl rfl (by omega)) rfl ?_
                      refine WS.val (v_load Tryz.isAgg22 rfl m0 (iu_at0 (by first | omega | (simp only [List.length_set]; omega)))) rfl ?_
                      refine WS.val (v_move rfl) rfl ?_
                      refine WS.val (n_sub1 rfl rfl (show (8 : Int) = ((8 : Nat) : Int) from rfl) (by omega) (by omega)) rfl ?_
                      refine WS.val (n_and15 rfl (by omega)) rfl ?_
                      refine WS.val (n_ixa Tryz.runUnderlying337 Tryz.sizeOf22 rfl rfl (by omega)) rfl ?_
                      refine WS.val (v_load Tryz.isAgg22 rfl m0 (iu_at0 (by first | omega | (simp only [List.length_set]; omega)))) rfl ?_
                      refine WS.val (v_xor rfl rfl) rfl ?_
                      refine WS.val (v_move rfl) rfl ?_
                      refine WS.val (n_sub1 rfl rfl (show (14 : Int) = ((14 : Nat) : Int) from rfl) (by omega) (by omega)) rfl ?_
                      refine WS.val (n_and15 rfl (by omega)) rfl ?_
                      refine WS.val (n_ixa Tryz.runUnderlying337 Tryz.sizeOf22 rfl rfl (by omega)) rfl ?_
                      refine WS.val (v_load Tryz.isAgg22 rfl m0 (iu_at0 (by first | omega | (simp only [List.length_set]; omega)))) rfl ?_
                      refine WS.val (v_xor rfl rfl) rfl ?_
                      refine WS.val (v_move rfl) rfl ?_
                      refine WS.val (n_and15 rfl (by omega)) rfl ?_
                      refine WS.val (n_ixa Tryz.runUnderlying337 Tryz.sizeOf22 rfl rfl (by omega)) rfl ?_
                      refine WS.val (v_load Tryz.isAgg22 rfl m0 (iu_at0 (by first | omega | (simp only [List.length_set]; omega)))) rfl ?_
                      refine WS.val (v_xor rfl rfl) rfl ?_
                      refine WS.val (v_assign rfl) rfl ?_
                      refine WS.nil ?_
                      refine EX.next ?_
                      refine WC.seq ?_
                      refine WC.region ?_
                      refine WL.val (v_move rfl) rfl ?_
                      refine WL.val (n_and15 rfl (by omega)) rfl ?_
                      refine WL.val (v_move rfl) rfl ?_
                      refine WL.act rfl (OW.call (xs := [.tmp 217, .const (.int .i64 1)]) Tryz.call101 rfl (fun w hw => rotate_any w0 w _ _ _ hw) rfl ?_)
                      rintro r w' ⟨y25_3, rfl, hw'⟩
                      refine ⟨_, _, rfl, hw', ?_⟩
                      refine WL.val (n_ixa Tryz.runUnderlying337 Tryz.sizeOf22 rfl rfl (by omega)) rfl ?_
                      refine WL.act rfl (OW.store (vs' := _) Tryz.sizeOf22 rfl rfl rfl (iu_set _ _ _ _) .here (by rw [iu_length]; omega) (by simp) ?_)
                      refine WL.nil ?_
                      refine EX.next ?_
                      refine WC.seq ?_
                      refine WC.region ?_
                      refine WL.val (v_move rfl) rfl ?_
                      refine WL.val (v_move rfl) rfl ?_
                      refine WL.val (v_xor rfl rfl) rfl ?_
                      refine WL.val (v_move rfl) rfl ?_
                      refine WL.val (v_xor rfl rfl) rfl ?_
                      refine WL.val (v_assign rfl) rfl ?_
                      refine WL.nil ?_
                      refine EX.next ?_
                      refine WC.seq ?_
                      refine WC.draw (_) (.quiet 0 (.quiet 2 (.quiet 4 (.quiet 6 (.quiet 7 (.quiet 8 (.quiet 9 (.one 1 (.quiet 3 (.quiet 5 (.quiet 10 (.quiet 11 (.quiet 12 .done))))))))))))) (by kernel_rfl) (fun _ h => h) ?_
                      refine AK.quiet rfl (v_move rfl) rfl ?_
                      refine AK.quiet rfl (v_move rfl) rfl ?_
                      refine AK.quiet rfl (v_move rfl) rfl ?_
                      refine AK.quiet rfl (v_move rfl) rfl ?_
                      refine AK.quiet rfl (n_and15 rfl (by omega)) rfl ?_
                      refine AK.quiet rfl (n_ixa Tryz.runUnderlying337 Tryz.sizeOf22 rfl rfl (by omega)) rfl ?_
                      refine AK.quiet rfl (v_load Tryz.isAgg22 rfl m0 (iu_at0 (by first | omega | (simp only [List.length_set]; omega)))) rfl ?_
                      refine AK.one rfl rfl (OW.call (xs := [.tmp 225, .const (.int .i64 5)]) Tryz.call101 rfl (fun w hw => rotate_any w0 w _ _ _ hw) rfl ?_)
                      rintro r w' ⟨y27_1, rfl, hw'⟩
                      refine ⟨_, _, rfl, hw', ?_⟩
                      refine AK.on (fun _ => Sb.hw) ?_
                      refine AK.quiet rfl (v_add rfl rfl) rfl ?_
                      refine AK.quiet rfl (v_add rfl rfl) rfl ?_
                      refine AK.quiet rfl (v_add rfl rfl) rfl ?_
                      refine AK.quiet rfl (v_add rfl rfl) rfl ?_
                      refine AK.quiet rfl (v_assign rfl) rfl ?_
                      refine AK.done ?_
                      refine EX.next ?_
                      refine WC.region ?_
                      refine WL.val (v_move rfl) rfl ?_
                      refine WL.val (v_move rfl) rfl ?_
                      refine WL.val (v_move rfl) rfl ?_
                      refine WL.act rfl (OW.call (xs := [.tmp 239, .const (.int .i64 30)]) Tryz.call101 rfl (fun w hw => rotate_any w0 w _ _ _ hw) rfl ?_)
                      rintro r w' ⟨y28_3, rfl, hw'⟩
                      refine ⟨_, _, rfl, hw', ?_⟩
                      refine WL.val (v_move rfl) rfl ?_
                      refine WL.val (v_move rfl) rfl ?_
                      refine WL.val (v_assign rfl) rfl ?_
                      refine WL.val (v_assign rfl) rfl ?_
                      refine WL.val (v_assign rfl) rfl ?_
                      refine WL.val (v_assign rfl) rfl ?_
                      refine WL.val (v_assign rfl) rfl ?_
                      refine WL.nil ?_
                      refine EX.normal_block ?_
                      refine EX.next ?_
                      refine WC.region ?_
                      refine WL.val (v_move rfl) rfl ?_
                      refine WL.val (n_add1 rfl rfl (show (1 : Int) = ((1 : Nat) : Int) from rfl) (by omega)) rfl ?_
                      refine WL.val (v_assign rfl) rfl ?_
                      refine WL.nil ?_
                      refine EX.to ?_
                      exact KS.mk fun b w hS => ⟨80 - (i + 1), by omega, i + 1, _, _, _, _, _, _, rfl, by omega, by omega, by first | exact hus | (rw [List.length_set]; exact hus), hS.keep ⟨rfl, rfl, rfl, rfl, rfl, rfl, rfl, rfl, rfl, rfl, rfl, rfl, rfl, rfl, trivial⟩⟩
                    · intro hb22
                      have hge : 40 ≤ i := by have := of_decide_eq_false hb22; omega
                      refine WC.exit ?_
                      refine EX.exit_then ?_
                      refine EX.exit_then ?_
                      refine EX.exit_here ?_
                      refine EX.next ?_
                      refine WC.seq ?_
                      refine WC.block ?_
                      refine WC.loop (fun mm ac wl => ∃ i : Nat, ∃ us : List Int, ∃ f12 : Int, ∃ f13 : Int, ∃ f14 : Int, ∃ f15 : Int, ∃ f16 : Int, (80 - i = mm) ∧ (i ≤ 80) ∧ (16 ≤ i) ∧ (us.length = 16) ∧ St w0 397 [(0, .pointer (some ⟨k, 0, none⟩)), (1, .slice Aq lq cq), (4, .pointer (some ⟨b4, 0, none⟩)), (5, .int .u32 e5), (6, .int .u32 e6), (7, .int .u32 e7), (8, .int .u32 e8), (9, .int .u32 e9), (12, .int .u32 f12), (13, .int .u32 f13), (14, .int .u32 f14), (15, .int .u32 f15), (16, .int .u32 f16), (17, .int .i64 (i : Int))] ((b4, blk 337 (0, 0) (iu .u32 us)) :: (k, blk 170 (0, 0) (dgC hs xs nx len r)) :: L) ac wl) (80 - i) ?_ ?_
                      · intro ac wl hS
                        exact ⟨i, us, _, _, _, _, _, rfl, by omega, by omega, hus, hS.keep ⟨rfl, rfl, rfl, rfl, rfl, rfl, rfl, rfl, rfl, rfl, rfl, rfl, rfl, rfl, trivial⟩⟩
                      · rintro mm ac wl ⟨i, us, f12, f13, f14, f15, f16, hm, hi, hlo, hus, hS⟩
                        subst hm
                        revert ac wl
                        refine KS.out ?_
                        refine WC.seq ?_
                        refine WC.seq ?_
                        refine WC.region ?_
                        refine WL.val (v_move rfl) rfl ?_
                        refine WL.val (v_lss rfl rfl) rfl ?_
                        refine WL.nil ?_
                        refine EX.next ?_
                        refine WC.cond rfl ?_ ?_
                        · intro hb29
                          have hlt : i < 60 := by have := of_decide_eq_true hb29; omega
                          refine WC.skip ?_
                          refine EX.next ?_
                          refine WC.seq ?_
                          refine WC.block ?_
                          refine WC.seq ?_
                          refine WC.drawAll (by kernel_rfl) ?_
                          refine WS.val (v_move rfl) rfl ?_
                          refine WS.val (n_sub1 rfl rfl (show (3 : Int) = ((3 : Nat) : Int) from rfl) (by omega) (by omega)) rfl ?_
                          refine WS.val (n_and15 rfl (by omega)) rfl ?_
                          refine WS.val (n_ixa Tryz.runUnderlying337 Tryz.sizeOf22 rfl rfl (by omega)) rfl ?_
                          refine WS.val (v_load Tryz.isAgg22 rfl m0 (iu_at0 (by first | omega | (simp only [List.length_set]; omega)))) rfl ?_
                          refine WS.val (v_move rfl) rfl ?_
                          refine WS.val (n_sub1 rfl rfl (show (8 : Int) = ((8 : Nat) : Int) from rfl) (by omega) (by omega)) rfl ?_
                          refine WS.val (n_and15 rfl (by omega)) rfl ?_
                          refine WS.val (n_ixa Tryz.runUnderlying337 Tryz.sizeOf22 rfl rfl (by omega)) rfl ?_
                          refine WS.val (v_load Tryz.isAgg22 rfl m0 (iu_at0 (by first | omega | (simp only [List.length_set]; omega)))) rfl ?_
                          refine WS.val (v_xor rfl rfl) rfl ?_
                          refine WS.val (v_move rfl) rfl ?_
                          refine WS.val (n_sub1 rfl rfl (show (14 : Int) = ((14 : Nat) : Int) from rfl) (by omega) (by omega)) rfl ?_
                          refine WS.val (n_and15 rfl (by omega)) rfl ?_
                          refine WS.val (n_ixa Tryz.runUnderlying337 Tryz.sizeOf22 rfl rfl (by omega)) rfl ?_
                          refine WS.val (v_load Tryz.isAgg22 rfl m0 (iu_at0 (by first | omega | (simp only [List.length_set]; omega)))) rfl ?_
                          refine WS.val (v_xor rfl rfl) rfl ?_
                          refine WS.val (v_move rfl) rfl ?_
                          refine WS.val (n_and15 rfl (by omega)) rfl ?_
                          refine WS.val (n_ixa Tryz.runUnderlying337 Tryz.sizeOf22 rfl rfl (by omega)) rfl ?_
                          refine WS.val (v_load Tryz.isAgg22 rfl m0 (iu_at0 (by first | omega | (simp only [List.length_set]; omega)))) rfl ?_
                          refine WS.val (v_xor rfl rfl) rfl ?_
                          refine WS.val (v_assign rfl) rfl ?_
                          refine WS.nil ?_
                          refine EX.next ?_
                          refine WC.seq ?_
                          refine WC.region ?_
                          refine WL.val (v_move rfl) rfl ?_
                          refine WL.val (n_and15 rfl (by omega)) rfl ?_
                          refine WL.val (v_move rfl) rfl ?_
                          refine WL.act rfl (OW.call (xs := [.tmp 271, .const (.int .i64 1)]) Tryz.call101 rfl (fun w hw => rotate_any w0 w _ _ _ hw) rfl ?_)
                          rintro r w' ⟨y32_3, rfl, hw'⟩
                          refine ⟨_, _, rfl, hw', ?_⟩
                          refine WL.val (n_ixa Tryz.runUnderlying337 Tryz.sizeOf22 rfl rfl (by omega)) rfl ?_
                          refine WL.act rfl (OW.store (vs' := _) Tryz.sizeOf22 rfl rfl rfl (iu_set _ _ _ _) .here (by rw [iu_length]; omega) (by simp) ?_)
                          refine WL.nil ?_
                          refine EX.next ?_
                          refine WC.seq ?_
                          refine WC.region ?_
                          refine WL.val (v_move rfl) rfl ?_
                          refine WL.val (v_move rfl) rfl ?_
                          refine WL.val (v_or rfl rfl) rfl ?_
                          refine WL.val (v_move rfl) rfl ?_
                          refine WL.val (v_and rfl rfl) rfl ?_
                          refine WL.val (v_move rfl) rfl ?_
                          refine WL.val (v_move rfl) rfl ?_
                          refine WL.val (v_and rfl rfl) rfl ?_
                          refine WL.val (v_or rfl rfl) rfl ?_
                          refine WL.val (v_assign rfl) rfl ?_
                          refine WL.nil ?_
                          refine EX.next ?_
                          refine WC.seq ?_
                          refine WC.draw (_) (.quiet 0 (.quiet 2 (.quiet 4 (.quiet 6 (.quiet 7 (.quiet 8 (.quiet 9 (.one 1 (.quiet 3 (.quiet 5 (.quiet 10 (.quiet 11 (.quiet 12 .done))))))))))))) (by kernel_rfl) (fun _ h => h) ?_
                          refine AK.quiet rfl (v_move rfl) rfl ?_
                          refine AK.quiet rfl (v_move rfl) rfl ?_
                          refine AK.quiet rfl (v_move rfl) rfl ?_
                          refine AK.quiet rfl (v_move rfl) rfl ?_
                          refine AK.quiet rfl (n_and15 rfl (by omega)) rfl ?_
                          refine AK.quiet rfl (n_ixa Tryz.runUnderlying337 Tryz.sizeOf22 rfl rfl (by omega)) rfl ?_
                          refine AK.quiet rfl (v_load Tryz.isAgg22 rfl m0 (iu_at0 (by first | omega | (simp only [List.length_set]; omega)))) rfl ?_
                          refine AK.one rfl rfl (OW.call (xs := [.tmp 283, .const (.int .i64 5)]) Tryz.call101 rfl (fun w hw => rotate_any w0 w _ _ _ hw) rfl ?_)
                          rintro r w' ⟨y34_1, rfl, hw'⟩
                          refine ⟨_, _, rfl, hw', ?_⟩
                          refine AK.on (fun _ => Sb.hw) ?_
                          refine AK.quiet rfl (v_add rfl rfl) rfl ?_
                          refine AK.quiet rfl (v_add rfl rfl) rfl ?_
                          refine AK.quiet rfl (v_add rfl rfl) rfl ?_
                          refine AK.quiet rfl (v_add rfl rfl) rfl ?_
                          refine AK.quiet rfl (v_assign rfl) rfl ?_
                          refine AK.done ?_
                          refine EX.next ?_
                          refine WC.region ?_
                          refine WL.val (v_move rfl) rfl ?_
                          refine WL.val (v_move rfl) rfl ?_
                          refine WL.val (v_move rfl) rfl ?_
                          refine WL.act rfl (OW.call (xs := [.tmp 297, .const (.int .i64 30)]) Tryz.call101 rfl (fun w hw => rotate_any w0 w _ _ _ hw) rfl ?_)
                          rintro r w' ⟨y35_3, rfl, hw'⟩
                          refine ⟨_, _, rfl, hw', ?_⟩
                          refine WL.val (v_move rfl) rfl ?_
                          refine WL.val (v_move rfl) rfl ?_
                          refine WL.val (v_assign rfl) rfl ?_
                          refine WL.val (v_assign rfl) rfl ?_
                          refine WL.val (v_assign rfl) rfl ?_
                          refine WL.val (v_assign rfl) rfl ?_
                          refine WL.val (v_assign rfl) rfl ?_
                          refine WL.nil ?_
                          refine EX.normal_block ?_
                          refine EX.next ?_
                          refine WC.region ?_
                          refine WL.val (v_move rfl) rfl ?_
                          refine WL.val (n_add1 rfl rfl (show (1 : Int) = ((1 : Nat) : Int) from rfl) (by omega)) rfl ?_
                          refine WL.val (v_assign rfl) rfl ?_
                          refine WL.nil ?_
                          refine EX.to ?_
                          exact KS.mk fun b w hS => ⟨80 - (i + 1), by omega, i + 1, _, _, _, _, _, _, rfl, by omega, by omega, by first | exact hus | (rw [List.length_set]; exact hus), hS.keep ⟨rfl, rfl, rfl, rfl, rfl, rfl, rfl, rfl, rfl, rfl, rfl, rfl, rfl, rfl, trivial⟩⟩
                        · intro hb29
                          have hge : 60 ≤ i := by have := of_decide_eq_false hb29; omega
                          refine WC.exit ?_
                          refine EX.exit_then ?_
                          refine EX.exit_then ?_
                          refine EX.exit_here ?_
                          refine EX.next ?_
                          refine WC.seq ?_
                          refine WC.block ?_
                          refine WC.loop (fun mm ac wl => ∃ i : Nat, ∃ us : List Int, ∃ f12 : Int, ∃ f13 : Int, ∃ f14 : Int, ∃ f15 : Int, ∃ f16 : Int, (80 - i = mm) ∧ (i ≤ 80) ∧ (16 ≤ i) ∧ (us.length = 16) ∧ St w0 397 [(0, .pointer (some ⟨k, 0, none⟩)), (1, .slice Aq lq cq), (4, .pointer (some ⟨b4, 0, none⟩)), (5, .int .u32 e5), (6, .int .u32 e6), (7, .int .u32 e7), (8, .int .u32 e8), (9, .int .u32 e9), (12, .int .u32 f12), (13, .int .u32 f13), (14, .int .u32 f14), (15, .int .u32 f15), (16, .int .u32 f16), (17, .int .i64 (i : Int))] ((b4, blk 337 (0, 0) (iu .u32 us)) :: (k, blk 170 (0, 0) (dgC hs xs nx len r)) :: L) ac wl) (80 - i) ?_ ?_
                          · intro ac wl hS
                            exact ⟨i, us, _, _, _, _, _, rfl, by omega, by omega, hus, hS.keep ⟨rfl, rfl, rfl, rfl, rfl, rfl, rfl, rfl, rfl, rfl, rfl, rfl, rfl, rfl, trivial⟩⟩
                          · rintro mm ac wl ⟨i, us, f12, f13, f14, f15, f16, hm, hi, hlo, hus, hS⟩
                            subst hm
                            revert ac wl
                            refine KS.out ?_
                            refine WC.seq ?_
                            refine WC.seq ?_
                            refine WC.region ?_
                            refine WL.val (v_move rfl) rfl ?_
                            refine WL.val (v_lss rfl rfl) rfl ?_
                            refine WL.nil ?_
                            refine EX.next ?_
                            refine WC.cond rfl ?_ ?_
                            · intro hb36
                              have hlt : i < 80 := by have := of_decide_eq_true hb36; omega
                              refine WC.skip ?_
                              refine EX.next ?_
                              refine WC.seq ?_
                              refine WC.block ?_
                              refine WC.seq ?_
                              refine WC.drawAll (by kernel_rfl) ?_
                              refine WS.val (v_move rfl) rfl ?_
                              refine WS.val (n_sub1 rfl rfl (show (3 : Int) = ((3 : Nat) : Int) from rfl) (by omega) (by omega)) rfl ?_
                              refine WS.val (n_and15 rfl (by omega)) rfl ?_
                              refine WS.val (n_ixa Tryz.runUnderlying337 Tryz.sizeOf22 rfl rfl (by omega)) rfl ?_
                              refine WS.val (v_load Tryz.isAgg22 rfl m0 (iu_at0 (by first | omega | (simp only [List.length_set]; omega)))) rfl ?_
                              refine WS.val (v_move rfl) rfl ?_
                              refine WS.val (n_sub1 rfl rfl (show (8 : Int) = ((8 : Nat) : Int) from rfl) (by omega) (by omega)) rfl ?_
                              refine WS.val (n_and15 rfl (by omega)) rfl ?_
                              refine WS.val (n_ixa Tryz.runUnderlying337 Tryz.sizeOf22 rfl rfl (by omega)) rfl ?_
                              refine WS.val (v_load Tryz.isAgg22 rfl m0 (iu_at0 (by first | omega | (simp only [List.length_set]; omega)))) rfl ?_
                              refine WS.val (v_xor rfl rfl) rfl ?_
                              refine WS.val (v_move rfl) rfl ?_
                              refine WS.val (n_sub1 rfl rfl (show (14 : Int) = ((14 : Nat) : Int) from rfl) (by omega) (by omega)) rfl ?_
                              refine WS.val (n_and15 rfl (by omega)) rfl ?_
                              refine WS.val (n_ixa Tryz.runUnderlying337 Tryz.sizeOf22 rfl rfl (by omega)) rfl ?_
                              refine WS.val (v_load Tryz.isAgg22 rfl m0 (iu_at0 (by first | omega | (simp only [List.length_set]; omega)))) rfl ?_
                              refine WS.val (v_xor rfl rfl) rfl ?_
                              refine WS.val (v_move rfl) rfl ?_
                              refine WS.val (n_and15 rfl (by omega)) rfl ?_
                              refine WS.val (n_ixa Tryz.runUnderlying337 Tryz.sizeOf22 rfl rfl (by omega)) rfl ?_
                              refine WS.val (v_load Tryz.isAgg22 rfl m0 (iu_at0 (by first | omega | (simp only [List.length_set]; omega)))) rfl ?_
                              refine WS.val (v_xor rfl rfl) rfl ?_
                              refine WS.val (v_assign rfl) rfl ?_
                              refine WS.nil ?_
                              refine EX.next ?_
                              refine WC.seq ?_
                              refine WC.region ?_
                              refine WL.val (v_move rfl) rfl ?_
                              refine WL.val (n_and15 rfl (by omega)) rfl ?_
                              refine WL.val (v_move rfl) rfl ?_
                              refine WL.act rfl (OW.call (xs := [.tmp 329, .const (.int .i64 1)]) Tryz.call101 rfl (fun w hw => rotate_any w0 w _ _ _ hw) rfl ?_)
                              rintro r w' ⟨y39_3, rfl, hw'⟩
                              refine ⟨_, _, rfl, hw', ?_⟩
                              refine WL.val (n_ixa Tryz.runUnderlying337 Tryz.sizeOf22 rfl rfl (by omega)) rfl ?_
                              refine WL.act rfl (OW.store (vs' := _) Tryz.sizeOf22 rfl rfl rfl (iu_set _ _ _ _) .here (by rw [iu_length]; omega) (by simp) ?_)
                              refine WL.nil ?_
                              refine EX.next ?_
                              refine WC.seq ?_
                              refine WC.region ?_
                              refine WL.val (v_move rfl) rfl ?_
                              refine WL.val (v_move rfl) rfl ?_
                              refine WL.val (v_xor rfl rfl) rfl ?_
                              refine WL.val (v_move rfl) rfl ?_
                              refine WL.val (v_xor rfl rfl) rfl ?_
                              refine WL.val (v_assign rfl) rfl ?_
                              refine WL.nil ?_
                              refine EX.next ?_
                              refine WC.seq ?_
                              refine WC.draw (_) (.quiet 0 (.quiet 2 (.quiet 4 (.quiet 6 (.quiet 7 (.quiet 8 (.quiet 9 (.one 1 (.quiet 3 (.quiet 5 (.quiet 10 (.quiet 11 (.quiet 12 .done))))))))))))) (by kernel_rfl) (fun _ h => h) ?_
                              refine AK.quiet rfl (v_move rfl) rfl ?_
                              refine AK.quiet rfl (v_move rfl) rfl ?_
                              refine AK.quiet rfl (v_move rfl) rfl ?_
                              refine AK.quiet rfl (v_move rfl) rfl ?_
                              refine AK.quiet rfl (n_and15 rfl (by omega)) rfl ?_
                              refine AK.quiet rfl (n_ixa Tryz.runUnderlying337 Tryz.sizeOf22 rfl rfl (by omega)) rfl ?_
                              refine AK.quiet rfl (v_load Tryz.isAgg22 rfl m0 (iu_at0 (by first | omega | (simp only [List.length_set]; omega)))) rfl ?_
                              refine AK.one rfl rfl (OW.call (xs := [.tmp 337, .const (.int .i64 5)]) Tryz.call101 rfl (fun w hw => rotate_any w0 w _ _ _ hw) rfl ?_)
                              rintro r w' ⟨y41_1, rfl, hw'⟩
                              refine ⟨_, _, rfl, hw', ?_⟩
                              refine AK.on (fun _ => Sb.hw) ?_
                              refine AK.quiet rfl (v_add rfl rfl) rfl ?_
                              refine AK.quiet rfl (v_add rfl rfl) rfl ?_
                              refine AK.quiet rfl (v_add rfl rfl) rfl ?_
                              refine AK.quiet rfl (v_add rfl rfl) rfl ?_
                              refine AK.quiet rfl (v_assign rfl) rfl ?_
                              refine AK.done ?_
                              refine EX.next ?_
                              refine WC.region ?_
                              refine WL.val (v_move rfl) rfl ?_
                              refine WL.val (v_move rfl) rfl ?_
                              refine WL.val (v_move rfl) rfl ?_
                              refine WL.act rfl (OW.call (xs := [.tmp 351, .const (.int .i64 30)]) Tryz.call101 rfl (fun w hw => rotate_any w0 w _ _ _ hw) rfl ?_)
                              rintro r w' ⟨y42_3, rfl, hw'⟩
                              refine ⟨_, _, rfl, hw', ?_⟩
                              refine WL.val (v_move rfl) rfl ?_
                              refine WL.val (v_move rfl) rfl ?_
                              refine WL.val (v_assign rfl) rfl ?_
                              refine WL.val (v_assign rfl) rfl ?_
                              refine WL.val (v_assign rfl) rfl ?_
                              refine WL.val (v_assign rfl) rfl ?_
                              refine WL.val (v_assign rfl) rfl ?_
                              refine WL.nil ?_
                              refine EX.normal_block ?_
                              refine EX.next ?_
                              refine WC.region ?_
                              refine WL.val (v_move rfl) rfl ?_
                              refine WL.val (n_add1 rfl rfl (show (1 : Int) = ((1 : Nat) : Int) from rfl) (by omega)) rfl ?_
                              refine WL.val (v_assign rfl) rfl ?_
                              refine WL.nil ?_
                              refine EX.to ?_
                              exact KS.mk fun b w hS => ⟨80 - (i + 1), by omega, i + 1, _, _, _, _, _, _, rfl, by omega, by omega, by first | exact hus | (rw [List.length_set]; exact hus), hS.keep ⟨rfl, rfl, rfl, rfl, rfl, rfl, rfl, rfl, rfl, rfl, rfl, rfl, rfl, rfl, trivial⟩⟩
                            · intro hb36
                              have hge : 80 ≤ i := by have := of_decide_eq_false hb36; omega
                              refine WC.exit ?_
                              refine EX.exit_then ?_
                              refine EX.exit_then ?_
                              refine EX.exit_here ?_
                              refine EX.next ?_
                              refine WC.seq ?_
                              refine WC.region ?_
                              refine WL.val (v_move rfl) rfl ?_
                              refine WL.val (v_move rfl) rfl ?_
                              refine WL.val (v_add rfl rfl) rfl ?_
                              refine WL.val (v_assign rfl) rfl ?_
                              refine WL.nil ?_
                              refine EX.next ?_
                              refine WC.seq ?_
                              refine WC.region ?_
                              refine WL.val (v_move rfl) rfl ?_
                              refine WL.val (v_move rfl) rfl ?_
                              refine WL.val (v_add rfl rfl) rfl ?_
                              refine WL.val (v_assign rfl) rfl ?_
                              refine WL.nil ?_
                              refine EX.next ?_
                              refine WC.seq ?_
                              refine WC.region ?_
                              refine WL.val (v_move rfl) rfl ?_
                              refine WL.val (v_move rfl) rfl ?_
                              refine WL.val (v_add rfl rfl) rfl ?_
                              refine WL.val (v_assign rfl) rfl ?_
                              refine WL.nil ?_
                              refine EX.next ?_
                              refine WC.seq ?_
                              refine WC.region ?_
                              refine WL.val (v_move rfl) rfl ?_
                              refine WL.val (v_move rfl) rfl ?_
                              refine WL.val (v_add rfl rfl) rfl ?_
                              refine WL.val (v_assign rfl) rfl ?_
                              refine WL.nil ?_
                              refine EX.next ?_
                              refine WC.seq ?_
                              refine WC.region ?_
                              refine WL.val (v_move rfl) rfl ?_
                              refine WL.val (v_move rfl) rfl ?_
                              refine WL.val (v_add rfl rfl) rfl ?_
                              refine WL.val (v_assign rfl) rfl ?_
                              refine WL.nil ?_
                              refine EX.next ?_
                              refine WC.region ?_
                              refine WL.val (v_move rfl) rfl ?_
                              refine WL.val (v_slice (i := 64) (j := lq) Tryz.runUnderlying23 Tryz.sizeOf5 rfl ⟨.i64, rfl⟩ rfl h64 hcq hcq) rfl ?_
                              refine WL.val (v_assign rfl) rfl ?_
                              refine WL.nil ?_
                              refine EX.normal_block ?_
                              refine EX.to ?_
                              exact KS.mk fun b w hS => ⟨lq - 64, by omega, cutA Aq cq 64, lq - 64, cq - 64, qs.drop 64, us, _, _, _, _, _, rfl, by rw [List.length_drop]; omega, by omega, (by have h9 := hRq.cut (cap := cq) (k := 64) (by rw [i8_length]; omega); rwa [show (i8 qs).drop 64 = i8 (qs.drop 64) from (iu_drop _ _ _).symm] at h9), hus, hS.keep ⟨rfl, rfl, rfl, rfl, rfl, rfl, rfl, rfl, trivial⟩⟩
    · intro hb2
      refine WC.exit ?_
      refine EX.exit_then ?_
      refine EX.exit_then ?_
      refine EX.exit_here ?_
      refine EX.next ?_
      refine WC.draw (L) (.quiet 0 (.quiet 1 (.quiet 2 (.quiet 3 (.quiet 4 (.quiet 5 (.quiet 6 (.quiet 7 (.quiet 8 (.quiet 9 (.quiet 10 (.quiet 11 (.quiet 12 (.quiet 14 (.quiet 15 (.quiet 18 (.quiet 19 (.quiet 22 (.quiet 23 (.quiet 26 (.quiet 27 (.one 13 (.quiet 16 (.one 17 (.quiet 20 (.one 21 (.quiet 24 (.one 25 (.quiet 28 (.one 29 .done)))))))))))))))))))))))))))))) (by kernel_rfl) (fun _ => Sb.hw) ?_
      refine AK.quiet rfl (v_move rfl) rfl ?_
      refine AK.quiet rfl (v_move rfl) rfl ?_
      refine AK.quiet rfl (v_move rfl) rfl ?_
      refine AK.quiet rfl (v_move rfl) rfl ?_
      refine AK.quiet rfl (v_move rfl) rfl ?_
      refine AK.quiet rfl (v_move rfl) rfl ?_
      refine AK.quiet rfl (v_move rfl) rfl ?_
      refine AK.quiet rfl (v_move rfl) rfl ?_
      refine AK.quiet rfl (v_move rfl) rfl ?_
      refine AK.quiet rfl (v_move rfl) rfl ?_
      refine AK.quiet rfl (v_nilCheck_ptr rfl) rfl ?_
      refine AK.quiet rfl (v_field Tryz.runUnderlying170 rfl Tryz.sizeOf168 (by decide) rfl) rfl ?_
      refine AK.quiet rfl (n_ixa (m := 0) Tryz.runUnderlying168 Tryz.sizeOf22 rfl (show _ = some (Value.int .i64 ((0 : Nat) : Int)) from rfl) (by decide)) rfl ?_
      refine AK.quiet rfl (v_nilCheck_ptr rfl) rfl ?_
      refine AK.quiet rfl (v_field Tryz.runUnderlying170 rfl Tryz.sizeOf168 (by decide) rfl) rfl ?_
      refine AK.quiet rfl (v_nilCheck_ptr rfl) rfl ?_
      refine AK.quiet rfl (v_field Tryz.runUnderlying170 rfl Tryz.sizeOf168 (by decide) rfl) rfl ?_
      refine AK.quiet rfl (v_nilCheck_ptr rfl) rfl ?_
      refine AK.quiet rfl (v_field Tryz.runUnderlying170 rfl Tryz.sizeOf168 (by decide) rfl) rfl ?_
      refine AK.quiet rfl (v_nilCheck_ptr rfl) rfl ?_
      refine AK.quiet rfl (v_field Tryz.runUnderlying170 rfl Tryz.sizeOf168 (by decide) rfl) rfl ?_
      refine AK.one rfl rfl (OW.store (vs' := _) Tryz.sizeOf22 rfl rfl rfl (dgC_set_h (i := 0) (by omega) _) (.there .here) (by show 0 < _; rw [dgC_length]; omega) (by simp) ?_)
      refine AK.on (fun _ => Sb.hw) ?_
      refine AK.quiet rfl (n_ixa (m := 1) Tryz.runUnderlying168 Tryz.sizeOf22 rfl (show _ = some (Value.int .i64 ((1 : Nat) : Int)) from rfl) (by decide)) rfl ?_
      refine AK.one rfl rfl (OW.store (vs' := _) Tryz.sizeOf22 rfl rfl rfl (dgC_set_h (i := 1) (by simp only [List.length_set]; omega) _) (.there .here) (by show 1 < _; rw [dgC_length]; simp only [List.length_set]; omega) (by simp) ?_)
      refine AK.on (fun _ => Sb.hw) ?_
      refine AK.quiet rfl (n_ixa (m := 2) Tryz.runUnderlying168 Tryz.sizeOf22 rfl (show _ = some (Value.int .i64 ((2 : Nat) : Int)) from rfl) (by decide)) rfl ?_
      refine AK.one rfl rfl (OW.store (vs' := _) Tryz.sizeOf22 rfl rfl rfl (dgC_set_h (i := 2) (by simp only [List.length_set]; omega) _) (.there .here) (by show 2 < _; rw [dgC_length]; simp only [List.length_set]; omega) (by simp) ?_)
      refine AK.on (fun _ => Sb.hw) ?_
      refine AK.quiet rfl (n_ixa (m := 3) Tryz.runUnderlying168 Tryz.sizeOf22 rfl (show _ = some (Value.int .i64 ((3 : Nat) : Int)) from rfl) (by decide)) rfl ?_
      refine AK.one rfl rfl (OW.store (vs' := _) Tryz.sizeOf22 rfl rfl rfl (dgC_set_h (i := 3) (by simp only [List.length_set]; omega) _) (.there .here) (by show 3 < _; rw [dgC_length]; simp only [List.length_set]; omega) (by simp) ?_)
      refine AK.on (fun _ => Sb.hw) ?_
      refine AK.quiet rfl (n_ixa (m := 4) Tryz.runUnderlying168 Tryz.sizeOf22 rfl (show _ = some (Value.int .i64 ((4 : Nat) : Int)) from rfl) (by decide)) rfl ?_
      refine AK.one rfl rfl (OW.store (vs' := _) Tryz.sizeOf22 rfl rfl rfl (dgC_set_h (i := 4) (by simp only [List.length_set]; omega) _) (.there .here) (by show 4 < _; rw [dgC_length]; simp only [List.length_set]; omega) (by simp) ?_)
      refine AK.on (fun _ => Sb.hw) ?_
      refine AK.done ?_
      refine end0 Tryz.results262 fun w hw => ⟨_, rfl, ?_, hw.tail⟩
      simp only [List.length_set]; exact hhs
theorem blockOf1_any (w0 w : World) (L : Heap) (k : Nat) (hs xs : List Int) (nx len : Int) (r : List Value) (hhs : hs.length = 5) (Aa : Option Addr) (la ca : Nat) (ps : List Int) (hla : ps.length = la) (hca : la ≤ ca) (hRp : Rd ((k, blk 170 (0, 0) (dgC hs xs nx len r)) :: L) Aa (i8 ps)) (hw : HW w0 ((k, blk 170 (0, 0) (dgC hs xs nx len r)) :: L) w) :
    Calls P 261 #[.pointer (some ⟨k, 0, none⟩), .slice Aa la ca] w fun e w' => ∃ hs', e = .returned (.tuple #[]) ∧ hs'.length = 5 ∧ HW w0 ((k, blk 170 (0, 0) (dgC hs' xs nx len r)) :: L) w' := by
  refine enter (us := [.pointer (some ⟨k, 0, none⟩), .slice Aa la ca]) Tryz.func261 rfl Tryz.ntmps261 (by simp) rfl ?_ hw
  refine WC.region ?_
  refine WL.val (v_move rfl) rfl ?_
  refine WL.val (v_move rfl) rfl ?_
  refine WL.act rfl (OW.call (xs := [.tmp 4, .tmp 5]) Tryz.call262 rfl (fun w hw => block1_any w0 w L k hs xs nx len r hhs Aa la ca ps hla hca hRp hw) rfl ?_)
  rintro r w' ⟨hs', rfl, h8, hw'⟩
  refine ⟨_, _, rfl, hw', ?_⟩
  refine WL.nil ?_
  exact end0 Tryz.results261 fun w hw => ⟨hs', rfl, h8, hw⟩
end Go.Proofs.YtljoodllnaekbaaGreatDoor

namespace Go.Proofs.YtljoodllnaekbaaGreatDoor
open Go

theorem write1_any (w0 w : World) (L : Heap) (k : Nat) (hs xs : List Int) (nx len : Nat) (r : List Value) (hhs : hs.length = 5) (hxs : xs.length = 64) (hnx : nx < 64) (Ap : Option Addr) (lp cp : Nat) (ps : List Int) (hlp : ps.length = lp) (hcp : lp ≤ cp) (hRp : Rd L Ap (i8 ps)) (hm : lp ≤ 1000) (hw : HW w0 ((k, blk 170 (0, 0) (dgC hs xs ((nx : Int)) ((len : Int)) r)) :: L) w) :
    Calls P 259 #[.pointer (some ⟨k, 0, none⟩), .slice Ap lp cp] w fun e w' => ∃ hs' xs', e = .returned (.tuple #[.int .i64 (lp : Int), .nilIface]) ∧ hs'.length = 5 ∧ xs'.length = 64 ∧ HW w0 ((k, blk 170 (0, 0) (dgC hs' xs' ((((nx + lp) % 64 : Nat) : Int)) ((((len + lp) % 18446744073709551616 : Nat) : Int)) r)) :: L) w' := by
  refine enter (us := [.pointer (some ⟨k, 0, none⟩), .slice Ap lp cp]) Tryz.func259 rfl Tryz.ntmps259 (by simp) rfl ?_ hw
  refine WC.seq ?_
  refine WC.region ?_
  refine WL.val (v_assign rfl) rfl ?_
  refine WL.val (v_assign rfl) rfl ?_
  refine WL.nil ?_
  refine EX.next ?_
  refine WC.seq ?_
  refine WC.region ?_
  refine WL.val (v_move rfl) rfl ?_
  refine WL.val (v_len Tryz.runUnderlying23 rfl) rfl ?_
  refine WL.val (v_assign rfl) rfl ?_
  refine WL.nil ?_
  refine EX.next ?_
  refine WC.seq ?_
  refine WC.region ?_
  refine WL.val (v_move rfl) rfl ?_
  refine WL.val (v_nilCheck_ptr rfl) rfl ?_
  refine WL.val (v_field Tryz.runUnderlying170 rfl Tryz.sizeOf50 (by decide) rfl) rfl ?_
  refine WL.val (v_load Tryz.isAgg50 rfl m0 (dgC_len (o := 70) (by omega))) rfl ?_
  refine WL.val (v_move rfl) rfl ?_
  refine WL.val (u64_conv Tryz.runUnderlying3 Tryz.runUnderlying50 rfl (by omega)) rfl ?_
  refine WL.val (Val.to (v' := .int .u64 (((len + lp) % 18446744073709551616 : Nat) : Int)) (by rw [show (len : Int) + (lp : Int) = ((len + lp : Nat) : Int) by omega, wrap_u64_nat]) (v_add rfl rfl)) rfl ?_
  refine WL.val (v_nilCheck_ptr rfl) rfl ?_
  refine WL.val (v_field Tryz.runUnderlying170 rfl Tryz.sizeOf50 (by decide) rfl) rfl ?_
  refine WL.act rfl (OW.store (vs' := _) Tryz.sizeOf50 rfl rfl rfl (dgC_set_len (o := 70) (by omega) _) .here (by show 70 < _; rw [dgC_length]; omega) (by simp) ?_)
  refine WL.nil ?_
  refine EX.next ?_
  refine WC.cut (fun ac wl => ∃ hs1 : List Int, ∃ xs1 : List Int, ∃ n2 : Nat, ∃ Aq : Option Addr, ∃ lq : Nat, ∃ cq : Nat, ∃ qs : List Int, (hs1.length = 5) ∧ (xs1.length = 64) ∧ (qs.length = lq) ∧ (lq ≤ cq) ∧ (Rd L Aq (i8 qs)) ∧ (lq ≤ 1000) ∧ (n2 < 64) ∧ (n2 = 0 ∨ lq = 0) ∧ ((n2 + lq) % 64 = (nx + lp) % 64) ∧ St w0 85 [(0, .pointer (some ⟨k, 0, none⟩)), (1, .slice Aq lq cq), (4, .int .i64 (lp : Int)), (5, .nilIface)] ((k, blk 170 (0, 0) (dgC hs1 xs1 ((n2 : Int)) ((((len + lp) % 18446744073709551616 : Nat) : Int)) r)) :: L) ac wl) ?_ ?_
  · skip
    refine WC.seq ?_
    refine WC.region ?_
    refine WL.val (v_move rfl) rfl ?_
    refine WL.val (v_nilCheck_ptr rfl) rfl ?_
    refine WL.val (v_field Tryz.runUnderlying170 rfl Tryz.sizeOf3 (by decide) rfl) rfl ?_
    refine WL.val (v_load Tryz.isAgg3 rfl m0 (dgC_nx (o := 69) (by omega))) rfl ?_
    refine WL.val (v_gtr rfl rfl) rfl ?_
    refine WL.nil ?_
    refine EX.next ?_
    refine WC.cond rfl ?_ ?_
    · intro hb3
      have hp0 : 0 < nx := by have := of_decide_eq_true hb3; omega
      obtain ⟨zs, hzs, hzu⟩ := dgC_copy (hs := hs) (xs := xs) (nx := (nx : Int)) (len := (((len + lp) % 18446744073709551616 : Nat) : Int)) (r := r) (o := 5 + nx) (i := nx) (ys := ps.take (min lp (64 - nx))) (by omega) (by rw [List.length_take]; omega)
      refine WC.seq ?_
      refine WC.drawTail 9 (by kernel_rfl) ?_
      refine WS.val (v_move rfl) rfl ?_
      refine WS.val (v_nilCheck_ptr rfl) rfl ?_
      refine WS.val (v_field Tryz.runUnderlying170 rfl Tryz.sizeOf162 (by decide) rfl) rfl ?_
      refine WS.val (v_move rfl) rfl ?_
      refine WS.val (v_nilCheck_ptr rfl) rfl ?_
      refine WS.val (v_field Tryz.runUnderlying170 rfl Tryz.sizeOf3 (by decide) rfl) rfl ?_
      refine WS.val (v_load Tryz.isAgg3 rfl m0 (dgC_nx (o := 69) (by omega))) rfl ?_
      refine WS.val (Val.to (v' := .slice (some ⟨k, 5 + nx, none⟩) (64 - nx) (64 - nx)) rfl (v_slice_arr (i := nx) (j := 64) Tryz.runUnderlying162 Tryz.sizeOf5 rfl ⟨.i64, rfl⟩ rfl (by omega) (by omega) (by omega))) rfl ?_
      refine WS.val (v_move rfl) rfl ?_
      refine WS.nil ?_
      refine WL.act rfl (OW.copy (nn := min lp (64 - nx)) (news := i8 (ps.take (min lp (64 - nx)))) Tryz.runUnderlying23 Tryz.sizeOf5 rfl rfl (by rw [i8_take]; exact (Rd.mono hRp (fun _ h => mS h)).take _) rfl (by rw [i8_length, List.length_take]; omega) (iu_one _ _) .here (by rw [dgC_length]; omega) hzu rfl ?_)
      refine WL.val (v_assign rfl) rfl ?_
      refine WL.nil ?_
      refine EX.next ?_
      refine WC.seq ?_
      refine WC.region ?_
      refine WL.val (v_move rfl) rfl ?_
      refine WL.val (v_nilCheck_ptr rfl) rfl ?_
      refine WL.val (v_field Tryz.runUnderlying170 rfl Tryz.sizeOf3 (by decide) rfl) rfl ?_
      refine WL.val (v_load Tryz.isAgg3 rfl m0 (dgC_nx (o := 69) (by omega))) rfl ?_
      refine WL.val (v_move rfl) rfl ?_
      refine WL.val (n_add rfl rfl (by omega)) rfl ?_
      refine WL.val (v_nilCheck_ptr rfl) rfl ?_
      refine WL.val (v_field Tryz.runUnderlying170 rfl Tryz.sizeOf3 (by decide) rfl) rfl ?_
      refine WL.act rfl (OW.store (vs' := _) Tryz.sizeOf3 rfl rfl rfl (dgC_set_nx (o := 69) (by omega) _) .here (by show 69 < _; rw [dgC_length]; omega) (by simp) ?_)
      refine WL.nil ?_
      refine EX.next ?_
      refine WC.seq ?_
      refine WC.seq ?_
      refine WC.region ?_
      refine WL.val (v_move rfl) rfl ?_
      refine WL.val (v_nilCheck_ptr rfl) rfl ?_
      refine WL.val (v_field Tryz.runUnderlying170 rfl Tryz.sizeOf3 (by decide) rfl) rfl ?_
      refine WL.val (v_load Tryz.isAgg3 rfl m0 (dgC_nx (o := 69) (by omega))) rfl ?_
      refine WL.val (v_eql rfl rfl) rfl ?_
      refine WL.nil ?_
      refine EX.next ?_
      refine WC.cond rfl ?_ ?_
      · intro hb6
        have h64 : nx + min lp (64 - nx) = 64 := by have := beq_iff_eq.1 hb6; omega
        refine WC.seq ?_
        refine WC.region ?_
        refine WL.val (v_move rfl) rfl ?_
        refine WL.val (v_move rfl) rfl ?_
        refine WL.val (v_nilCheck_ptr rfl) rfl ?_
        refine WL.val (v_field Tryz.runUnderlying170 rfl Tryz.sizeOf162 (by decide) rfl) rfl ?_
        refine WL.val (Val.to (v' := .slice (some ⟨k, 5, none⟩) 64 64) rfl (v_slice_arr (i := 0) (j := 64) Tryz.runUnderlying162 Tryz.sizeOf5 rfl rfl rfl (by decide) (by decide) (by decide))) rfl ?_
        refine WL.act rfl (OW.call (xs := [.tmp 47, .tmp 51]) Tryz.call261 rfl (fun w hw => blockOf1_any w0 w L k hs zs _ _ r hhs _ 64 64 zs (by omega) (Nat.le_refl _) (dgC_rd (i := 0) m0 (by omega)) hw) rfl ?_)
        rintro r w' ⟨hs2, rfl, hhs2, hw'⟩
        refine ⟨_, _, rfl, hw', ?_⟩
        refine WL.nil ?_
        refine EX.next ?_
        refine WC.region ?_
        refine WL.val (v_move rfl) rfl ?_
        refine WL.val (v_nilCheck_ptr rfl) rfl ?_
        refine WL.val (v_field Tryz.runUnderlying170 rfl Tryz.sizeOf3 (by decide) rfl) rfl ?_
        refine WL.act rfl (OW.store (vs' := _) Tryz.sizeOf3 rfl rfl rfl (dgC_set_nx (o := 69) (by omega) _) .here (by show 69 < _; rw [dgC_length]; omega) (by simp) ?_)
        refine WL.nil ?_
        refine EX.next ?_
        refine WC.region ?_
        refine WL.val (v_move rfl) rfl ?_
        refine WL.val (v_move rfl) rfl ?_
        refine WL.val (v_slice (i := min lp (64 - nx)) (j := lp) Tryz.runUnderlying23 Tryz.sizeOf5 rfl ⟨.i64, rfl⟩ rfl (by omega) (by omega) (by omega)) rfl ?_
        refine WL.val (v_assign rfl) rfl ?_
        refine WL.nil ?_
        refine EX.to ?_
        exact KS.mk fun b w hS => ⟨hs2, zs, 0, _, _, _, ps.drop (min lp (64 - nx)), hhs2, by omega, by rw [List.length_drop]; omega, by omega, by have h9 := hRp.cut (cap := cp) (k := min lp (64 - nx)) (by rw [i8_length]; omega); rwa [← i8_drop] at h9, by omega, by omega, .inl rfl, by omega, hS.keep ⟨rfl, rfl, rfl, rfl, trivial⟩⟩
      · intro hb6
        have h64 : nx + min lp (64 - nx) ≠ 64 := by intro h; rw [h] at hb6; simp at hb6
        refine WC.skip ?_
        refine EX.next ?_
        refine WC.region ?_
        refine WL.val (v_move rfl) rfl ?_
        refine WL.val (v_move rfl) rfl ?_
        refine WL.val (v_slice (i := min lp (64 - nx)) (j := lp) Tryz.runUnderlying23 Tryz.sizeOf5 rfl ⟨.i64, rfl⟩ rfl (by omega) (by omega) (by omega)) rfl ?_
        refine WL.val (v_assign rfl) rfl ?_
        refine WL.nil ?_
        refine EX.to ?_
        exact KS.mk fun b w hS => ⟨hs, zs, nx + min lp (64 - nx), _, _, _, ps.drop (min lp (64 - nx)), hhs, by omega, by rw [List.length_drop]; omega, by omega, by have h9 := hRp.cut (cap := cp) (k := min lp (64 - nx)) (by rw [i8_length]; omega); rwa [← i8_drop] at h9, by omega, by omega, .inr (by omega), by omega, hS.keep ⟨rfl, rfl, rfl, rfl, trivial⟩⟩
    · intro hb3
      have hp0 : nx = 0 := by have := of_decide_eq_false hb3; omega
      refine WC.skip ?_
      refine EX.to ?_
      subst hp0
      exact KS.mk fun b w hS => ⟨hs, xs, 0, Ap, lp, cp, ps, hhs, hxs, hlp, hcp, hRp, hm, by omega, .inl rfl, rfl, hS.keep ⟨rfl, rfl, rfl, rfl, trivial⟩⟩
  · rintro ac wl ⟨hs1, xs1, n2, Aq, lq, cq, qs, hhs1, hxs1, hlq, hcq, hRq, hmq, hn2, hz2, hmod, hS⟩
    revert ac wl
    refine KS.out ?_
    refine WC.cut (fun ac wl => ∃ hs1 : List Int, ∃ xs1 : List Int, ∃ n2 : Nat, ∃ Aq : Option Addr, ∃ lq : Nat, ∃ cq : Nat, ∃ qs : List Int, (hs1.length = 5) ∧ (xs1.length = 64) ∧ (qs.length = lq) ∧ (lq ≤ cq) ∧ (Rd L Aq (i8 qs)) ∧ (lq ≤ 1000) ∧ (n2 < 64) ∧ (n2 = 0 ∨ lq = 0) ∧ ((n2 + lq) % 64 = (nx + lp) % 64) ∧ (lq < 64) ∧ St w0 85 [(0, .pointer (some ⟨k, 0, none⟩)), (1, .slice Aq lq cq), (4, .int .i64 (lp : Int)), (5, .nilIface)] ((k, blk 170 (0, 0) (dgC hs1 xs1 ((n2 : Int)) ((((len + lp) % 18446744073709551616 : Nat) : Int)) r)) :: L) ac wl) ?_ ?_
    · skip
      refine WC.seq ?_
      refine WC.region ?_
      refine WL.val (v_move rfl) rfl ?_
      refine WL.val (v_len Tryz.runUnderlying23 rfl) rfl ?_
      refine WL.val (v_geq rfl rfl) rfl ?_
      refine WL.nil ?_
      refine EX.next ?_
      refine WC.cond rfl ?_ ?_
      · intro hb10
        have h6 : 64 ≤ lq := by have := of_decide_eq_true hb10; omega
        have hn20 : n2 = 0 := hz2.resolve_right (by omega)
        refine WC.seq ?_
        refine WC.region ?_
        refine WL.val (v_move rfl) rfl ?_
        refine WL.val (v_len Tryz.runUnderlying23 rfl) rfl ?_
        refine WL.val (Val.to (v' := .int .i64 ((lq / 64 * 64 : Nat) : Int)) (by rw [andNot63 lq hmq]) (v_andNot rfl rfl)) rfl ?_
        refine WL.val (v_assign rfl) rfl ?_
        refine WL.nil ?_
        refine EX.next ?_
        refine WC.seq ?_
        refine WC.region ?_
        refine WL.val (v_move rfl) rfl ?_
        refine WL.val (v_move rfl) rfl ?_
        refine WL.val (v_move rfl) rfl ?_
        refine WL.val (Val.to (v' := .slice Aq (lq / 64 * 64) cq) (by rw [cutA_zero]; rfl) (v_slice (i := 0) (j := lq / 64 * 64) Tryz.runUnderlying23 Tryz.sizeOf5 rfl rfl ⟨.i64, rfl⟩ (by omega) (by omega) hcq)) rfl ?_
        refine WL.act rfl (OW.call (xs := [.tmp 65, .tmp 68]) Tryz.call261 rfl (fun w hw => blockOf1_any w0 w L k hs1 xs1 _ _ r hhs1 _ _ _ (qs.take (lq / 64 * 64)) (by rw [List.length_take]; omega) (by omega) (by rw [i8_take]; exact (Rd.mono hRq (fun _ h => mS h)).take _) hw) rfl ?_)
        rintro r w' ⟨hs3, rfl, hhs3, hw'⟩
        refine ⟨_, _, rfl, hw', ?_⟩
        refine WL.nil ?_
        refine EX.next ?_
        refine WC.region ?_
        refine WL.val (v_move rfl) rfl ?_
        refine WL.val (v_move rfl) rfl ?_
        refine WL.val (v_slice (i := lq / 64 * 64) (j := lq) Tryz.runUnderlying23 Tryz.sizeOf5 rfl ⟨.i64, rfl⟩ rfl (by omega) (by omega) hcq) rfl ?_
        refine WL.val (v_assign rfl) rfl ?_
        refine WL.nil ?_
        refine EX.to ?_
        exact KS.mk fun b w hS => ⟨hs3, xs1, n2, _, _, _, qs.drop (lq / 64 * 64), hhs3, hxs1, by rw [List.length_drop]; omega, by omega, by have h9 := hRq.cut (cap := cq) (k := lq / 64 * 64) (by rw [i8_length]; omega); rwa [← i8_drop] at h9, by omega, hn2, .inl hn20, by omega, by omega, hS.keep ⟨rfl, rfl, rfl, rfl, trivial⟩⟩
      · intro hb10
        have h6 : lq < 64 := by have := of_decide_eq_false hb10; omega
        refine WC.skip ?_
        refine EX.to ?_
        exact KS.mk fun b w hS => ⟨hs1, xs1, n2, Aq, lq, cq, qs, hhs1, hxs1, hlq, hcq, hRq, hmq, hn2, hz2, hmod, h6, hS.keep ⟨rfl, rfl, rfl, rfl, trivial⟩⟩
    · rintro ac wl ⟨hs1, xs1, n2, Aq, lq, cq, qs, hhs1, hxs1, hlq, hcq, hRq, hmq, hn2, hz2, hmod, h6, hS⟩
      revert ac wl
      refine KS.out ?_
      refine WC.seq ?_
      refine WC.seq ?_
      refine WC.region ?_
      refine WL.val (v_move rfl) rfl ?_
      refine WL.val (v_len Tryz.runUnderlying23 rfl) rfl ?_
      refine WL.val (v_gtr rfl rfl) rfl ?_
      refine WL.nil ?_
      refine EX.next ?_
      refine WC.cond rfl ?_ ?_
      · intro hb14
        have hl0 : 0 < lq := by have := of_decide_eq_true hb14; omega
        have hn20 : n2 = 0 := hz2.resolve_right (by omega)
        have hfin : (nx + lp) % 64 = lq := by omega
        obtain ⟨zs, hzs, hzu⟩ := dgC_copy (hs := hs1) (xs := xs1) (nx := (n2 : Int)) (len := (((len + lp) % 18446744073709551616 : Nat) : Int)) (r := r) (o := 5) (i := 0) (ys := qs) (by omega) (by omega)
        refine WC.region ?_
        refine WL.val (v_move rfl) rfl ?_
        refine WL.val (v_move rfl) rfl ?_
        refine WL.val (v_nilCheck_ptr rfl) rfl ?_
        refine WL.val (v_field Tryz.runUnderlying170 rfl Tryz.sizeOf162 (by decide) rfl) rfl ?_
        refine WL.val (Val.to (v' := .slice (some ⟨k, 5, none⟩) 64 64) rfl (v_slice_arr (i := 0) (j := 64) Tryz.runUnderlying162 Tryz.sizeOf5 rfl rfl rfl (by decide) (by decide) (by decide))) rfl ?_
        refine WL.val (v_move rfl) rfl ?_
        refine WL.act rfl (OW.copy (nn := lq) (news := i8 qs) Tryz.runUnderlying23 Tryz.sizeOf5 rfl rfl (Rd.mono hRq (fun _ h => mS h)) (show min lq 64 = lq by omega) (by rw [i8_length]; exact hlq) (iu_one _ _) .here (by rw [dgC_length]; omega) hzu rfl ?_)
        refine WL.val (v_nilCheck_ptr rfl) rfl ?_
        refine WL.val (v_field Tryz.runUnderlying170 rfl Tryz.sizeOf3 (by decide) rfl) rfl ?_
        refine WL.act rfl (OW.store (vs' := _) Tryz.sizeOf3 rfl rfl rfl (dgC_set_nx (o := 69) (by omega) _) .here (by show 69 < _; rw [dgC_length]; omega) (by simp) ?_)
        refine WL.nil ?_
        refine EX.next ?_
        refine WC.ret ?_
        rw [hfin]
        exact ret2 Tryz.results259 rfl rfl fun w hw => ⟨hs1, zs, rfl, hhs1, by omega, hw⟩
      · intro hb14
        have hl0 : lq = 0 := by have := of_decide_eq_false hb14; omega
        have hfin : (nx + lp) % 64 = n2 := by omega
        refine WC.skip ?_
        refine EX.next ?_
        refine WC.ret ?_
        rw [hfin]
        exact ret2 Tryz.results259 rfl rfl fun w hw => ⟨hs1, xs1, rfl, hhs1, hxs1, hw⟩
end Go.Proofs.YtljoodllnaekbaaGreatDoor
