/- Part 3 of the proof. 'spec.Product': a product. 'spec.Rest': what a number leaves by a modulus. 'spec.BigPower': a power by a modulus. 'spec.Significant': bytes without zeros at their head. 'spec.Octets': a number's bytes. 'spec.Bits': how many bits a number has. 'spec.Number': the number that bytes spell. 'spec.BigBytes': a number's bytes. 'spec.MPI': a number as OpenPGP lays it. 'spec.SecretNumber'. 'spec.PublicNumber'. 'spec.GroupKey'. 'spec.KeyBody'. No condition. -/
import Derived.Test.YtljoodllnaekbaaGreatDoorPart02
namespace Go.Proofs.YtljoodllnaekbaaGreatDoor
open Go

theorem product_any (w0 w : World) (L : Heap) (Aa : Option Addr) (la ca : Nat) (a : List Nat) (hla : a.length = la) (hxa : a.length ≤ 1000) (hca : la ≤ ca) (hRa : Rd L Aa (dg a)) (Ab : Option Addr) (lb cb : Nat) (b : List Nat) (hlb : b.length = lb) (hxb : b.length ≤ 1000) (hcb : lb ≤ cb) (hRb : Rd L Ab (dg b)) (va : Val16 a) (vb : Val16 b) (hw : HW w0 L w) :
    Calls P 38 #[.slice Aa la ca, .slice Ab lb cb] w (NewBig w0 L (prodL a b)) := by
  refine enter (us := [.slice Aa la ca, .slice Ab lb cb]) Tryz.func38 rfl Tryz.ntmps38 (by simp) rfl ?_ hw
  refine WC.seq ?_
  refine WC.region ?_
  refine WL.val (v_assign rfl) rfl ?_
  refine WL.nil ?_
  refine EX.next ?_
  refine WC.seq ?_
  refine WC.region ?_
  refine WL.val (v_move rfl) rfl ?_
  refine WL.val (v_len Tryz.runUnderlying71 rfl) rfl ?_
  refine WL.val (v_move rfl) rfl ?_
  refine WL.val (v_len Tryz.runUnderlying71 rfl) rfl ?_
  refine WL.val (n_add rfl rfl (by omega)) rfl ?_
  refine WL.act rfl (OW.make (l := (la + lb)) (c := (la + lb)) Tryz.runUnderlying71 Tryz.typeInfo3 Tryz.sizeOf3 Tryz.zeroValue3 rfl rfl rfl (Nat.le_refl _) (by rw [bytes3]; omega) (by omega) rfl (fun b1 => ?_))
  refine WL.val (v_assign rfl) rfl ?_
  refine WL.nil ?_
  refine EX.next ?_
  refine WC.seq ?_
  refine WC.seq ?_
  refine WC.region ?_
  refine WL.val (v_move rfl) rfl ?_
  refine WL.val (v_len Tryz.runUnderlying71 rfl) rfl ?_
  refine WL.val (v_move rfl) rfl ?_
  refine WL.nil ?_
  refine EX.next ?_
  refine WC.block ?_
  refine WC.loop (fun mm ac wl => ∃ i : Nat, (la - i = mm) ∧ (i ≤ la) ∧ St w0 66 [(0, .slice Aa la ca), (1, .slice Ab lb cb), (5, .slice (some ⟨b1, 0, none⟩) (la + lb) (la + lb)), (17, .slice Aa la ca), (18, .int .i64 (la : Int)), (19, .int .i64 (i : Int))] ((b1, blk 3 (0, 0) (dg (prods a b i))) :: L) ac wl) (la) ?_ ?_
  · intro ac wl hS
    refine ⟨0, rfl, by omega, (hS.heap' ?_).keep ⟨rfl, rfl, rfl, rfl, rfl, rfl, trivial⟩⟩
    have h8 := hS.mem
    rw [dg_replicate, ← hla, ← hlb] at h8
    exact h8
  · rintro mm ac wl ⟨i, hm, hi, hS⟩
    subst hm
    revert ac wl
    refine KS.out ?_
    refine WC.seq ?_
    refine WC.region ?_
    refine WL.val (v_lss rfl rfl) rfl ?_
    refine WL.nil ?_
    refine EX.next ?_
    refine WC.seq ?_
    refine WC.cond rfl ?_ ?_
    · intro hb3
      have hlt : i < la := by have := of_decide_eq_true hb3; omega
      have hax := va.at_ i
      have hro := prods_row va vb i (by omega)
      refine WC.skip ?_
      refine EX.next ?_
      refine WC.seq ?_
      refine WC.block ?_
      refine WC.seq ?_
      refine WC.region ?_
      refine WL.val (v_move rfl) rfl ?_
      refine WL.val (n_index Tryz.runUnderlying71 Tryz.sizeOf3 rfl rfl (Rd.mono hRa (fun _ h => (mS h))) (by omega) (by rw [dg_length]; omega)) rfl ?_
      refine WL.val (v_load_rd Tryz.isAgg3 rfl (Rd.mono hRa (fun _ h => (mS h))) (dg_at (by omega))) rfl ?_
      refine WL.val (v_assign rfl) rfl ?_
      refine WL.val (v_assign rfl) rfl ?_
      refine WL.nil ?_
      refine EX.next ?_
      refine WC.seq ?_
      refine WC.region ?_
      refine WL.val (v_assign rfl) rfl ?_
      refine WL.nil ?_
      refine EX.next ?_
      refine WC.seq ?_
      refine WC.seq ?_
      refine WC.region ?_
      refine WL.val (v_move rfl) rfl ?_
      refine WL.val (v_len Tryz.runUnderlying71 rfl) rfl ?_
      refine WL.val (v_move rfl) rfl ?_
      refine WL.nil ?_
      refine EX.next ?_
      refine WC.block ?_
      refine WC.loop (fun mm ac wl => ∃ k : Nat, (lb - k = mm) ∧ (k ≤ lb) ∧ St w0 66 [(0, .slice Aa la ca), (1, .slice Ab lb cb), (5, .slice (some ⟨b1, 0, none⟩) (la + lb) (la + lb)), (17, .slice Aa la ca), (18, .int .i64 (la : Int)), (19, .int .i64 (i : Int)), (6, .int .i64 (i : Int)), (7, .int .i64 ((a.getD i 0 : Nat) : Int)), (8, .int .i64 (((prodK (a.getD i 0) b i (prods a b i) k).2 : Nat) : Int)), (24, .slice Ab lb cb), (25, .int .i64 (lb : Int)), (26, .int .i64 (k : Int))] ((b1, blk 3 (0, 0) (dg (prodK (a.getD i 0) b i (prods a b i) k).1)) :: L) ac wl) (lb) ?_ ?_
      · intro ac wl hS
        exact ⟨0, rfl, by omega, hS.keep ⟨rfl, rfl, rfl, rfl, rfl, rfl, rfl, rfl, rfl, rfl, rfl, rfl, trivial⟩⟩
      · rintro mm ac wl ⟨k, hm, hk, hS⟩
        subst hm
        revert ac wl
        refine KS.out ?_
        obtain ⟨hrk, hck⟩ := prodK_row (x := a.getD i 0) hax vb hro (Nat.le_refl _) k (by omega)
        refine WC.seq ?_
        refine WC.region ?_
        refine WL.val (v_lss rfl rfl) rfl ?_
        refine WL.nil ?_
        refine EX.next ?_
        refine WC.seq ?_
        refine WC.cond rfl ?_ ?_
        · intro hb7
          have hlt2 : k < lb := by have := of_decide_eq_true hb7; omega
          have hbk := vb.at_ k
          have hxk := mul_digit hax hbk
          have hok := hrk.ok.at_ (i + k)
          refine WC.skip ?_
          refine EX.next ?_
          refine WC.seq ?_
          refine WC.block ?_
          refine WC.seq ?_
          refine WC.region ?_
          refine WL.val (v_move rfl) rfl ?_
          refine WL.val (n_index Tryz.runUnderlying71 Tryz.sizeOf3 rfl rfl (Rd.mono hRb (fun _ h => (mS h))) (by omega) (by rw [dg_length]; omega)) rfl ?_
          refine WL.val (v_load_rd Tryz.isAgg3 rfl (Rd.mono hRb (fun _ h => (mS h))) (dg_at (by omega))) rfl ?_
          refine WL.val (v_assign rfl) rfl ?_
          refine WL.val (v_assign rfl) rfl ?_
          refine WL.nil ?_
          refine EX.next ?_
          refine WC.seq ?_
          refine WC.region ?_
          refine WL.val (v_move rfl) rfl ?_
          refine WL.val (v_move rfl) rfl ?_
          refine WL.val (v_move rfl) rfl ?_
          refine WL.val (v_move rfl) rfl ?_
          refine WL.val (n_add rfl rfl (by omega)) rfl ?_
          refine WL.val (n_ix Tryz.runUnderlying71 Tryz.sizeOf3 rfl rfl (by omega)) rfl ?_
          refine WL.val (v_load Tryz.isAgg3 rfl m0 (dg_at (by rw [hrk.len]; omega))) rfl ?_
          refine WL.val (v_move rfl) rfl ?_
          refine WL.val (v_move rfl) rfl ?_
          refine WL.val (n_mul rfl rfl (by omega)) rfl ?_
          refine WL.val (n_add rfl rfl (by omega)) rfl ?_
          refine WL.val (n_add rfl rfl (by omega)) rfl ?_
          refine WL.val (v_assign rfl) rfl ?_
          refine WL.nil ?_
          refine EX.next ?_
          refine WC.seq ?_
          refine WC.region ?_
          refine WL.val (v_move rfl) rfl ?_
          refine WL.val (v_move rfl) rfl ?_
          refine WL.val (v_move rfl) rfl ?_
          refine WL.val (n_add rfl rfl (by omega)) rfl ?_
          refine WL.val (v_move rfl) rfl ?_
          refine WL.val (n_mask rfl (by omega)) rfl ?_
          refine WL.val (n_ix Tryz.runUnderlying71 Tryz.sizeOf3 rfl rfl (by omega)) rfl ?_
          refine WL.act rfl (OW.store (vs' := _) Tryz.sizeOf3 rfl rfl rfl (dg_set _ _ _) .here (by rw [dg_length, hrk.len]; omega) (by simp) ?_)
          refine WL.nil ?_
          refine EX.next ?_
          refine WC.region ?_
          refine WL.val (v_move rfl) rfl ?_
          refine WL.val (n_shr rfl rfl (show (16 : Int) = ((16 : Nat) : Int) from rfl) (by omega)) rfl ?_
          refine WL.val (v_assign rfl) rfl ?_
          refine WL.nil ?_
          refine EX.normal_block ?_
          refine EX.next ?_
          refine WC.region ?_
          refine WL.val (n_add1 rfl rfl (show (1 : Int) = ((1 : Nat) : Int) from rfl) (by omega)) rfl ?_
          refine WL.val (v_move rfl) rfl ?_
          refine WL.nil ?_
          refine EX.to ?_
          refine KS.mk fun b w hS => ⟨lb - (k + 1), by omega, k + 1, rfl, by omega, ?_⟩
          rw [prodK_succ]
          exact hS.keep ⟨rfl, rfl, rfl, rfl, rfl, rfl, rfl, rfl, rfl, rfl, rfl, rfl, trivial⟩
        · intro hb7
          have hge2 : k = lb := by have := of_decide_eq_false hb7; omega
          subst hge2
          have hok := hrk.ok.at_ (i + k)
          refine WC.exit ?_
          refine EX.exit_then ?_
          refine EX.exit_then ?_
          refine EX.exit_here ?_
          refine EX.next ?_
          refine WC.region ?_
          refine WL.val (v_move rfl) rfl ?_
          refine WL.val (v_move rfl) rfl ?_
          refine WL.val (v_move rfl) rfl ?_
          refine WL.val (v_len Tryz.runUnderlying71 rfl) rfl ?_
          refine WL.val (n_add rfl rfl (by omega)) rfl ?_
          refine WL.val (n_ix Tryz.runUnderlying71 Tryz.sizeOf3 rfl rfl (by omega)) rfl ?_
          refine WL.val (v_load Tryz.isAgg3 rfl m0 (dg_at (by rw [hrk.len]; omega))) rfl ?_
          refine WL.val (v_move rfl) rfl ?_
          refine WL.val (n_add rfl rfl (by omega)) rfl ?_
          refine WL.val (n_ix Tryz.runUnderlying71 Tryz.sizeOf3 rfl rfl (by omega)) rfl ?_
          refine WL.act rfl (OW.store (vs' := _) Tryz.sizeOf3 rfl rfl rfl (dg_set _ _ _) .here (by rw [dg_length, hrk.len]; omega) (by simp) ?_)
          refine WL.nil ?_
          refine EX.normal_block ?_
          refine EX.next ?_
          refine WC.region ?_
          refine WL.val (n_add1 rfl rfl (show (1 : Int) = ((1 : Nat) : Int) from rfl) (by omega)) rfl ?_
          refine WL.val (v_move rfl) rfl ?_
          refine WL.nil ?_
          refine EX.to ?_
          refine KS.mk fun bb w hS => ⟨la - (i + 1), by omega, i + 1, rfl, by omega, ?_⟩
          subst hlb
          exact hS.keep ⟨rfl, rfl, rfl, rfl, rfl, rfl, trivial⟩
    · intro hb3
      have hge : i = la := by have := of_decide_eq_false hb3; omega
      subst hge
      refine WC.exit ?_
      refine EX.exit_then ?_
      refine EX.exit_then ?_
      refine EX.exit_here ?_
      refine EX.next ?_
      refine WC.seq ?_
      refine WC.region ?_
      refine WL.val (v_move rfl) rfl ?_
      refine WL.act rfl (OW.call (xs := [.tmp 64]) Tryz.call33 rfl (fun w hw => trim_any w0 w _ _ _ _ (prods a b a.length) (by rw [(prods_row va vb a.length (Nat.le_refl _)).len]; omega) (by rw [(prods_row va vb a.length (Nat.le_refl _)).len]; omega) (Nat.le_refl _) (Rd.whole (t := 3) (fr := (0, 0)) (by rw [hla]; exact m0)) hw) rfl ?_)
      rintro r w' ⟨rfl, hw'⟩
      refine ⟨_, _, rfl, hw', ?_⟩
      refine WL.val (v_assign rfl) rfl ?_
      refine WL.nil ?_
      refine EX.next ?_
      refine WC.ret ?_
      refine ret1 Tryz.results38 rfl fun w hw => ⟨_, _, [(b1, _)], rfl, ?_, (Rd.whole (t := 3) (fr := (0, 0)) m0).trim, by rw [hla]; exact hw⟩
      have h7 := trimL_length_le (prods a b a.length)
      rw [(prods_row va vb a.length (Nat.le_refl _)).len] at h7
      rw [hla] at h7
      unfold prodL; rw [hla]; omega
end Go.Proofs.YtljoodllnaekbaaGreatDoor

namespace Go.Proofs.YtljoodllnaekbaaGreatDoor
open Go

theorem rest_any (w0 w : World) (L : Heap) (Aa : Option Addr) (la ca : Nat) (a : List Nat) (hla : a.length = la) (hxa : a.length ≤ 1000) (hca : la ≤ ca) (hRa : Rd L Aa (dg a)) (Am : Option Addr) (lm cm : Nat) (m : List Nat) (hlm : m.length = lm) (hxm : m.length ≤ 1000) (hcm : lm ≤ cm) (hRm : Rd L Am (dg m)) (n : Nat) (m2 : List Nat) (hm2 : shiftL m n = m2) (hMo : Modulus m n) (va : Val16 a) (hw : HW w0 L w) :
    Calls P 20 #[.slice Aa la ca, .slice Am lm cm] w (NewBig w0 L (restL a m n)) := by
  have hMp := hMo.pos
  have hMlow := hMo.low
  have hMhigh := hMo.high
  have hMs := hMo.short
  have hn15 := hMo.n15
  rw [hlm] at hMp hMlow hMhigh hMs
  have hMp2 := hMo.pos'
  have hMv := hMo.val'
  have hv2 := shiftL_valid hMo.ok hn15
  have ht2 : Trimmed (shiftL m n) := trimL_trimmed _
  have hl2 := shiftL_length m n
  rw [hm2] at hMp2 hMv hv2 ht2 hl2
  have hMlt := val_lt hv2
  have hlast := hMo.ok.at_ (lm - 1)
  refine enter (us := [.slice Aa la ca, .slice Am lm cm]) Tryz.func20 rfl Tryz.ntmps20 (by simp) rfl ?_ hw
  refine WC.seq ?_
  refine WC.region ?_
  refine WL.val (v_assign rfl) rfl ?_
  refine WL.nil ?_
  refine EX.next ?_
  refine WC.seq ?_
  refine WC.region ?_
  refine WL.val (v_assign rfl) rfl ?_
  refine WL.nil ?_
  refine EX.next ?_
  refine WC.seq ?_
  refine WC.block ?_
  refine WC.loop (fun mm ac wl => ∃ j : Nat, (n - j = mm) ∧ (j ≤ n) ∧ St w0 133 [(0, .slice Aa la ca), (1, .slice Am lm cm), (5, .int .i64 (j : Int))] (L) ac wl) (n) ?_ ?_
  · intro ac wl hS
    exact ⟨0, rfl, by omega, hS.keep ⟨rfl, rfl, rfl, trivial⟩⟩
  · rintro mm ac wl ⟨j, hm, hj, hS⟩
    subst hm
    revert ac wl
    refine KS.out ?_
    have hp := mul_pow_lt hlast (show j ≤ 15 by omega)
    refine WC.seq ?_
    refine WC.seq ?_
    refine WC.region ?_
    refine WL.val (v_move rfl) rfl ?_
    refine WL.val (v_move rfl) rfl ?_
    refine WL.val (v_len Tryz.runUnderlying71 rfl) rfl ?_
    refine WL.val (n_sub1 rfl rfl (show (1 : Int) = ((1 : Nat) : Int) from rfl) (by omega) (by omega)) rfl ?_
    refine WL.val (n_index Tryz.runUnderlying71 Tryz.sizeOf3 rfl rfl hRm (by omega) (by rw [dg_length]; omega)) rfl ?_
    refine WL.val (v_load_rd Tryz.isAgg3 rfl hRm (dg_at (by omega))) rfl ?_
    refine WL.val (v_move rfl) rfl ?_
    refine WL.val (n_shl rfl rfl rfl (by omega) (by omega)) rfl ?_
    refine WL.val (v_lss rfl rfl) rfl ?_
    refine WL.nil ?_
    refine EX.next ?_
    refine WC.cond rfl ?_ ?_
    · intro hb2
      have hjl := of_decide_eq_true hb2
      have hjn : j < n := by
        rcases Nat.lt_or_ge j n with h | h
        · exact h
        · have : j = n := by omega
          rw [this] at hjl; omega
      refine WC.skip ?_
      refine EX.next ?_
      refine WC.block ?_
      refine WC.region ?_
      refine WL.val (v_move rfl) rfl ?_
      refine WL.val (n_add1 rfl rfl (show (1 : Int) = ((1 : Nat) : Int) from rfl) (by omega)) rfl ?_
      refine WL.val (v_assign rfl) rfl ?_
      refine WL.nil ?_
      refine EX.normal_block ?_
      refine EX.to ?_
      exact KS.mk fun b w hS => ⟨n - (j + 1), by omega, j + 1, rfl, by omega, hS.keep ⟨rfl, rfl, rfl, trivial⟩⟩
    · intro hb2
      have hjl := of_decide_eq_false hb2
      have hjn : n = j := by
        rcases Nat.lt_or_ge j n with h | h
        · have := hMlow j h; omega
        · omega
      subst hjn
      refine WC.exit ?_
      refine EX.exit_then ?_
      refine EX.exit_then ?_
      refine EX.exit_here ?_
      refine EX.next ?_
      refine WC.seq ?_
      refine WC.region ?_
      refine WL.val (v_move rfl) rfl ?_
      refine WL.val (v_move rfl) rfl ?_
      have hsh : ∀ w, HW w0 L w → Calls P 34 #[.slice Am lm cm, .int .i64 (n : Int)] w (NewBig w0 L m2) := fun w hw => by
        rw [← hm2]
        exact shifted_any w0 w _ _ _ _ m hlm (by omega) hcm hRm n hn15 hMo.ok hw
      refine WL.act rfl (OW.call (xs := [.tmp 26, .tmp 27]) Tryz.call34 rfl (fun w hw => hsh w hw) rfl ?_)
      rintro r w' ⟨A2, c2, B2, rfl, hc2, hR2, hw'⟩
      refine ⟨_, _, rfl, hw', ?_⟩
      refine WL.val (v_assign rfl) rfl ?_
      refine WL.nil ?_
      refine EX.next ?_
      refine WC.seq ?_
      refine WC.region ?_
      refine WL.val (v_move rfl) rfl ?_
      refine WL.val (v_len Tryz.runUnderlying71 rfl) rfl ?_
      refine WL.val (v_assign rfl) rfl ?_
      refine WL.nil ?_
      refine EX.next ?_
      refine WC.seq ?_
      refine WC.region ?_
      refine WL.val (v_move rfl) rfl ?_
      refine WL.val (n_add1 rfl rfl (show (1 : Int) = ((1 : Nat) : Int) from rfl) (by omega)) rfl ?_
      refine WL.act rfl (OW.make (l := (m2.length + 1)) (c := (m2.length + 1)) Tryz.runUnderlying71 Tryz.typeInfo3 Tryz.sizeOf3 Tryz.zeroValue3 rfl rfl rfl (Nat.le_refl _) (by rw [bytes3]; omega) (by omega) rfl (fun b1 => ?_))
      refine WL.val (v_assign rfl) rfl ?_
      refine WL.nil ?_
      refine EX.next ?_
      refine WC.seq ?_
      refine WC.seq ?_
      refine WC.region ?_
      refine WL.val (v_move rfl) rfl ?_
      refine WL.val (v_len Tryz.runUnderlying71 rfl) rfl ?_
      refine WL.val (v_assign rfl) rfl ?_
      refine WL.nil ?_
      refine EX.next ?_
      refine WC.block ?_
      refine WC.loop (fun mm ac wl => ∃ j : Nat, (j = mm) ∧ (j ≤ la + 1) ∧ St w0 133 [(0, .slice Aa la ca), (1, .slice A2 m2.length c2), (5, .int .i64 (n : Int)), (6, .int .i64 (m2.length : Int)), (7, .slice (some ⟨b1, 0, none⟩) (m2.length + 1) (m2.length + 1)), (8, .int .i64 ((j : Int) - 1))] ((b1, blk 3 (0, 0) (dg (fixd (m2.length + 1) (restV a n (val m2) (la + 1 - j))))) :: (B2 ++ L)) ac wl) (la + 1) ?_ ?_
      · intro ac wl hS
        refine ⟨la + 1, rfl, Nat.le_refl _, (hS.heap' ?_).keep ⟨rfl, rfl, rfl, rfl, rfl, ?_, trivial⟩⟩
        · have h8 := hS.mem
          rw [dg_replicate, ← fixd_zero] at h8
          rw [Nat.sub_self]; exact h8
        · show some (Value.int IntKind.i64 (la : Int)) = some (Value.int IntKind.i64 (((la + 1 : Nat) : Int) - 1))
          rw [show (((la + 1 : Nat) : Int) - 1) = (la : Int) by omega]
      · rintro mm ac wl ⟨j, hm, hj, hS⟩
        subst hm
        revert ac wl
        refine KS.out ?_
        refine WC.seq ?_
        refine WC.seq ?_
        refine WC.region ?_
        refine WL.val (v_move rfl) rfl ?_
        refine WL.val (v_geq rfl rfl) rfl ?_
        refine WL.nil ?_
        refine EX.next ?_
        refine WC.cond rfl ?_ ?_
        · intro hb8
          have hj1 : 1 ≤ j := by have := of_decide_eq_true hb8; omega
          obtain ⟨i, rfl⟩ : ∃ i, j = i + 1 := ⟨j - 1, by omega⟩
          rw [show (((i + 1 : Nat) : Int) - 1) = (i : Int) by omega, show la + 1 - (i + 1) = la - i by omega]
          have hVlt := restV_lt a n hMv (la - i)
          refine WC.skip ?_
          refine EX.next ?_
          refine WC.seq ?_
          refine WC.block ?_
          refine WC.seq ?_
          refine WC.region ?_
          refine WL.val (v_assign rfl) rfl ?_
          refine WL.val (v_assign rfl) rfl ?_
          refine WL.nil ?_
          refine EX.next ?_
          refine WC.cut (fun ac wl => St w0 133 [(0, .slice Aa la ca), (1, .slice A2 m2.length c2), (5, .int .i64 (n : Int)), (6, .int .i64 (m2.length : Int)), (7, .slice (some ⟨b1, 0, none⟩) (m2.length + 1) (m2.length + 1)), (8, .int .i64 (i : Int)), (9, .int .i64 ((a.getD i 0 : Nat) : Int)), (10, .int .i64 0)] ((b1, blk 3 (0, 0) (dg (fixd (m2.length + 1) (restV a n (val m2) (la - i))))) :: (B2 ++ L)) ac wl) ?_ ?_
          · skip
            refine WC.seq ?_
            refine WC.region ?_
            refine WL.val (v_move rfl) rfl ?_
            refine WL.val (v_move rfl) rfl ?_
            refine WL.val (v_len Tryz.runUnderlying71 rfl) rfl ?_
            refine WL.val (v_lss rfl rfl) rfl ?_
            refine WL.nil ?_
            refine EX.next ?_
            refine WC.cond rfl ?_ ?_
            · intro hb11
              have hil : i < la := by have := of_decide_eq_true hb11; omega
              refine WC.region ?_
              refine WL.val (v_move rfl) rfl ?_
              refine WL.val (v_move rfl) rfl ?_
              refine WL.val (n_index Tryz.runUnderlying71 Tryz.sizeOf3 rfl rfl (Rd.mono hRa (fun _ h => (mS (List.mem_append_right _ h)))) (by omega) (by rw [dg_length]; omega)) rfl ?_
              refine WL.val (v_load_rd Tryz.isAgg3 rfl (Rd.mono hRa (fun _ h => (mS (List.mem_append_right _ h)))) (dg_at (by omega))) rfl ?_
              refine WL.val (v_assign rfl) rfl ?_
              refine WL.nil ?_
              refine EX.to ?_
              refine KS.mk fun b w hS => hS.keep ⟨rfl, rfl, rfl, rfl, rfl, rfl, ?_, rfl, trivial⟩
              first | rfl | (rw [getD_beyond (a := a) (by omega)]; rfl)
            · intro hb11
              have hil : la ≤ i := by have := of_decide_eq_false hb11; omega
              refine WC.skip ?_
              refine EX.to ?_
              refine KS.mk fun b w hS => hS.keep ⟨rfl, rfl, rfl, rfl, rfl, rfl, ?_, rfl, trivial⟩
              first | rfl | (rw [getD_beyond (a := a) (by omega)]; rfl)
          · intro ac wl hS
            revert ac wl
            refine KS.out ?_
            refine WC.cut (fun ac wl => St w0 133 [(0, .slice Aa la ca), (1, .slice A2 m2.length c2), (5, .int .i64 (n : Int)), (6, .int .i64 (m2.length : Int)), (7, .slice (some ⟨b1, 0, none⟩) (m2.length + 1) (m2.length + 1)), (8, .int .i64 (i : Int)), (9, .int .i64 ((a.getD i 0 : Nat) : Int)), (10, .int .i64 (restLow a i : Int))] ((b1, blk 3 (0, 0) (dg (fixd (m2.length + 1) (restV a n (val m2) (la - i))))) :: (B2 ++ L)) ac wl) ?_ ?_
            · skip
              refine WC.seq ?_
              refine WC.region ?_
              refine WL.val (v_move rfl) rfl ?_
              refine WL.val (v_gtr rfl rfl) rfl ?_
              refine WL.nil ?_
              refine EX.next ?_
              refine WC.cond rfl ?_ ?_
              · intro hb13
                have hi0 : 0 < i := by have := of_decide_eq_true hb13; omega
                refine WC.region ?_
                refine WL.val (v_move rfl) rfl ?_
                refine WL.val (v_move rfl) rfl ?_
                refine WL.val (n_sub1 rfl rfl (show (1 : Int) = ((1 : Nat) : Int) from rfl) (by omega) (by omega)) rfl ?_
                refine WL.val (n_index Tryz.runUnderlying71 Tryz.sizeOf3 rfl rfl (Rd.mono hRa (fun _ h => (mS (List.mem_append_right _ h)))) (by omega) (by rw [dg_length]; omega)) rfl ?_
                refine WL.val (v_load_rd Tryz.isAgg3 rfl (Rd.mono hRa (fun _ h => (mS (List.mem_append_right _ h)))) (dg_at (by omega))) rfl ?_
                refine WL.val (v_assign rfl) rfl ?_
                refine WL.nil ?_
                refine EX.to ?_
                refine KS.mk fun b w hS => hS.keep ⟨rfl, rfl, rfl, rfl, rfl, rfl, rfl, ?_, trivial⟩
                first | (rw [restLow, if_pos (by omega)]; rfl) | (rw [restLow, if_neg (by omega)]; rfl)
              · intro hb13
                have hi0 : i = 0 := by have := of_decide_eq_false hb13; omega
                refine WC.skip ?_
                refine EX.to ?_
                refine KS.mk fun b w hS => hS.keep ⟨rfl, rfl, rfl, rfl, rfl, rfl, rfl, ?_, trivial⟩
                first | (rw [restLow, if_pos (by omega)]; rfl) | (rw [restLow, if_neg (by omega)]; rfl)
            · intro ac wl hS
              revert ac wl
              refine KS.out ?_
              refine WC.seq ?_
              refine WC.drawTail 5 (by kernel_rfl) ?_
              refine WS.val (v_move rfl) rfl ?_
              refine WS.val (Val.cast (v_slice (i := 1) (j := m2.length + 1) Tryz.runUnderlying71 Tryz.sizeOf3 rfl ⟨.i64, rfl⟩ rfl (by omega) (Nat.le_refl _) (Nat.le_refl _)) (show _ = Value.slice (some ⟨b1, 1, none⟩) m2.length m2.length by rw [cutA_block _ _ _ _ (by omega)]; rfl)) rfl ?_
              refine WS.val (v_move rfl) rfl ?_
              refine WS.val (v_move rfl) rfl ?_
              refine WS.val (Val.cast (v_slice (i := 0) (j := m2.length) Tryz.runUnderlying71 Tryz.sizeOf3 rfl rfl ⟨.i64, rfl⟩ (by omega) (by omega) (Nat.le_refl _)) (show _ = Value.slice (some ⟨b1, 0, none⟩) m2.length (m2.length + 1) by rw [cutA_zero]; rfl)) rfl ?_
              refine WS.nil ?_
              refine WL.act rfl (OW.copy (nn := m2.length) Tryz.runUnderlying71 Tryz.sizeOf3 rfl rfl ((Rd.whole (t := 3) (fr := (0, 0)) m0).take m2.length) (Nat.min_self _) (by rw [List.length_take, dg_length, fixd_length]; omega) (fun u h => dg_one _ u (List.mem_of_mem_take h)) .here (by rw [dg_length, fixd_length]; omega) (copy_fixd _ _) rfl ?_)
              have hAi := va.at_ i
              have hLo := restLow_lt va i
              have hpn := mul_pow_lt hAi hn15
              have hdv : restLow a i / 2 ^ (16 - n) ≤ restLow a i := Nat.div_le_self _ _
              have hor := or_lt (k := 31) (m := a.getD i 0 * 2 ^ n) (n := restLow a i / 2 ^ (16 - n)) (by omega) (by omega)
              refine WL.nil ?_
              refine EX.next ?_
              refine WC.seq ?_
              refine WC.drawTail 11 (by kernel_rfl) ?_
              refine WS.val (v_move rfl) rfl ?_
              refine WS.val (v_move rfl) rfl ?_
              refine WS.val (v_move rfl) rfl ?_
              refine WS.val (n_shl rfl rfl rfl (by omega) (by omega)) rfl ?_
              refine WS.val (v_move rfl) rfl ?_
              refine WS.val (v_move rfl) rfl ?_
              refine WS.val (n_sub (m := 16) (show _ = some (Value.int .i64 ((16 : Nat) : Int)) from rfl) rfl (by omega) (by omega)) rfl ?_
              refine WS.val (n_shr rfl rfl rfl (by omega)) rfl ?_
              refine WS.val (n_or rfl rfl (by omega) (by omega)) rfl ?_
              refine WS.val (Val.to (v' := .int .i64 ((restD a n i : Nat) : Int)) rfl (n_mask rfl (by omega))) rfl ?_
              refine WS.val (n_ix Tryz.runUnderlying71 Tryz.sizeOf3 rfl (show _ = some (Value.int .i64 ((0 : Nat) : Int)) from rfl) (by omega)) rfl ?_
              refine WS.nil ?_
              refine WL.act rfl (OW.store (vs' := _) Tryz.sizeOf3 rfl rfl rfl (by rw [dg_set, List.set_cons_zero, fixd_push (restD_lt a n i)]) .here (by rw [dg_length]; exact Nat.succ_pos _) (by simp) ?_)
              refine WL.nil ?_
              refine EX.next ?_
              refine WC.seq ?_
              refine WC.region ?_
              refine WL.val (v_assign rfl) rfl ?_
              refine WL.nil ?_
              refine EX.next ?_
              refine WC.block ?_
              refine WC.loop (fun mm ac wl => ∃ v : Nat, ∃ bb : Bool, (v + bb.toNat = mm) ∧ (v < 65536 ^ (m2.length + 1)) ∧ (v % val m2 = restV a n (val m2) (la - i + 1)) ∧ (bb = false → v < val m2) ∧ St w0 133 [(0, .slice Aa la ca), (1, .slice A2 m2.length c2), (5, .int .i64 (n : Int)), (6, .int .i64 (m2.length : Int)), (7, .slice (some ⟨b1, 0, none⟩) (m2.length + 1) (m2.length + 1)), (8, .int .i64 (i : Int)), (11, .bool bb)] ((b1, blk 3 (0, 0) (dg (fixd (m2.length + 1) (v)))) :: (B2 ++ L)) ac wl) (restD a n i + 65536 * restV a n (val m2) (la - i) + 1) ?_ ?_
              · intro ac wl hS
                refine ⟨restD a n i + 65536 * restV a n (val m2) (la - i), true, rfl, ?_, ?_, fun h => by simp at h, hS.keep ⟨rfl, rfl, rfl, rfl, rfl, rfl, rfl, trivial⟩⟩
                · have := restD_lt a n i
                  rw [Nat.pow_succ]; omega
                · show _ = (restD a n (a.length - (la - i)) + _) % _
                  rw [show a.length - (la - i) = i by omega]
              · rintro mm ac wl ⟨v, bb, hm, hv, hvm, hbb, hS⟩
                subst hm
                revert ac wl
                refine KS.out ?_
                refine WC.seq ?_
                refine WC.seq ?_
                refine WC.region ?_
                refine WL.val (v_move rfl) rfl ?_
                refine WL.nil ?_
                refine EX.next ?_
                refine WC.cond rfl ?_ ?_
                · intro hb18
                  subst hb18
                  have hrk := (fixd_valid (m2.length + 1) v).at_ m2.length
                  have hrk1 := (fixd_valid (m2.length + 1) v).at_ (m2.length - 1)
                  have hm2k := hv2.at_ (m2.length - 1)
                  have hor2 := or_lt (k := 32) (m := (fixd (m2.length + 1) v).getD m2.length 0 * 2 ^ 16) (n := (fixd (m2.length + 1) v).getD (m2.length - 1) 0) (by omega) (by omega)
                  refine WC.skip ?_
                  refine EX.next ?_
                  refine WC.block ?_
                  refine WC.seq ?_
                  refine WC.drawAll (by kernel_rfl) ?_
                  refine WS.val (v_move rfl) rfl ?_
                  refine WS.val (v_move rfl) rfl ?_
                  refine WS.val (n_ix Tryz.runUnderlying71 Tryz.sizeOf3 rfl rfl (by omega)) rfl ?_
                  refine WS.val (v_load Tryz.isAgg3 rfl m0 (dg_at (by rw [fixd_length]; omega))) rfl ?_
                  refine WS.val (n_shl rfl rfl (show (16 : Int) = ((16 : Nat) : Int) from rfl) (by omega) (by omega)) rfl ?_
                  refine WS.val (v_move rfl) rfl ?_
                  refine WS.val (v_move rfl) rfl ?_
                  refine WS.val (n_sub1 rfl rfl (show (1 : Int) = ((1 : Nat) : Int) from rfl) (by omega) (by omega)) rfl ?_
                  refine WS.val (n_ix Tryz.runUnderlying71 Tryz.sizeOf3 rfl rfl (by omega)) rfl ?_
                  refine WS.val (v_load Tryz.isAgg3 rfl m0 (dg_at (by rw [fixd_length]; omega))) rfl ?_
                  refine WS.val (n_or rfl rfl (by omega) (by omega)) rfl ?_
                  refine WS.val (v_move rfl) rfl ?_
                  refine WS.val (v_move rfl) rfl ?_
                  refine WS.val (n_sub1 rfl rfl (show (1 : Int) = ((1 : Nat) : Int) from rfl) (by omega) (by omega)) rfl ?_
                  refine WS.val (n_index Tryz.runUnderlying71 Tryz.sizeOf3 rfl rfl (Rd.mono hR2 (fun _ h => (mS h))) (by omega) (by rw [dg_length]; omega)) rfl ?_
                  refine WS.val (v_load_rd Tryz.isAgg3 rfl (Rd.mono hR2 (fun _ h => (mS h))) (dg_at (by omega))) rfl ?_
                  refine WS.val (n_add1 rfl rfl (show (1 : Int) = ((1 : Nat) : Int) from rfl) (by omega)) rfl ?_
                  refine WS.val (Val.to (v' := .int .i64 ((restQ (fixd (m2.length + 1) v) m2 m2.length : Nat) : Int)) rfl (n_quo rfl rfl (by omega) (by omega))) rfl ?_
                  refine WS.val (v_assign rfl) rfl ?_
                  refine WS.nil ?_
                  refine EX.next ?_
                  refine WC.cut (fun ac wl => ∃ q : Nat, (q * val m2 ≤ v) ∧ (q = 0 → v < val m2) ∧ (q ≤ 4294967296) ∧ St w0 133 [(0, .slice Aa la ca), (1, .slice A2 m2.length c2), (5, .int .i64 (n : Int)), (6, .int .i64 (m2.length : Int)), (7, .slice (some ⟨b1, 0, none⟩) (m2.length + 1) (m2.length + 1)), (8, .int .i64 (i : Int)), (12, .int .i64 (q : Int))] ((b1, blk 3 (0, 0) (dg (fixd (m2.length + 1) (v)))) :: (B2 ++ L)) ac wl) ?_ ?_
                  · skip
                    refine WC.seq ?_
                    refine WC.region ?_
                    refine WL.val (v_move rfl) rfl ?_
                    refine WL.val (n_eql0 rfl) rfl ?_
                    refine WL.val (v_move rfl) rfl ?_
                    refine KS.split (decide (restQ (fixd (m2.length + 1) v) m2 m2.length = 0)) ?_ ?_
                    · intro hg20_2
                      refine WL.yes rfl rfl rfl hg20_2 (v_move rfl) rfl ?_
                      refine WL.actYes rfl rfl rfl hg20_2 (OW.call (xs := [.tmp 94]) Tryz.call33 rfl (fun w hw => trim_any w0 w _ _ _ _ (fixd (m2.length + 1) v) (fixd_length _ _) (by rw [fixd_length]; omega) (Nat.le_refl _) (Rd.whole (t := 3) (fr := (0, 0)) m0) hw) rfl ?_)
                      rintro r w' ⟨rfl, hw'⟩
                      refine ⟨_, _, rfl, hw', ?_⟩
                      refine WL.yes rfl rfl rfl hg20_2 (v_move rfl) rfl ?_
                      have htl := trimL_length_le (fixd (m2.length + 1) v)
                      rw [fixd_length] at htl
                      refine WL.actYes rfl rfl rfl hg20_2 (OW.call (xs := [.tmp 95, .tmp 96]) Tryz.call35 rfl (fun w hw => compare_any w0 w _ _ _ _ (trimL (fixd (m2.length + 1) v)) rfl (by omega) (by omega) (Rd.whole (t := 3) (fr := (0, 0)) m0).trim _ _ _ m2 rfl (by omega) hc2 (Rd.mono hR2 (fun _ h => (mS h))) (trimL_valid (fixd_valid _ _)) hv2 (trimL_trimmed _) ht2 hw) rfl ?_)
                      rintro r w' ⟨c, rfl, hcc, hw'⟩
                      rw [val_trimL, val_fixd _ _ hv] at hcc
                      refine ⟨_, _, rfl, hw', ?_⟩
                      refine WL.yes rfl rfl rfl hg20_2 (v_geq rfl rfl) rfl ?_
                      refine WL.val (v_pick_t rfl hg20_2 rfl) rfl ?_
                      refine WL.nil ?_
                      refine EX.next ?_
                      refine WC.cond rfl ?_ ?_
                      · intro hb20
                        refine WC.region ?_
                        refine WL.val (v_assign rfl) rfl ?_
                        refine WL.nil ?_
                        refine EX.to ?_
                        have hc0 := hcc.1 (of_decide_eq_true hb20)
                        exact KS.mk fun b w hS => ⟨1, by omega, by omega, by omega, hS.keep ⟨rfl, rfl, rfl, rfl, rfl, rfl, rfl, trivial⟩⟩
                      · intro hb20
                        refine WC.skip ?_
                        refine EX.to ?_
                        have hq0 := of_decide_eq_true hg20_2
                        have hc0 : ¬ val m2 ≤ v := fun h => of_decide_eq_false hb20 (hcc.2 h)
                        exact KS.mk fun b w hS => ⟨restQ (fixd (m2.length + 1) v) m2 m2.length, by rw [hq0]; omega, fun _ => by omega, by omega, hS.keep ⟨rfl, rfl, rfl, rfl, rfl, rfl, rfl, trivial⟩⟩
                    · intro hg20_2
                      refine WL.no rfl rfl rfl hg20_2 ?_
                      refine WL.no rfl rfl rfl hg20_2 ?_
                      refine WL.no rfl rfl rfl hg20_2 ?_
                      refine WL.no rfl rfl rfl hg20_2 ?_
                      refine WL.no rfl rfl rfl hg20_2 ?_
                      refine WL.val (v_pick_f rfl hg20_2 rfl) rfl ?_
                      refine WL.nil ?_
                      refine EX.next ?_
                      refine WC.cond rfl ?_ ?_
                      · intro hb20
                        exact absurd hb20 (by decide)
                      · intro hb20
                        refine WC.skip ?_
                        refine EX.to ?_
                        have hq0 := of_decide_eq_false hg20_2
                        exact KS.mk fun b w hS => ⟨restQ (fixd (m2.length + 1) v) m2 m2.length, restQ_le hv2 v rfl hMp2 hv, fun h => absurd h hq0, restQ_lt (fixd_valid _ _) _, hS.keep ⟨rfl, rfl, rfl, rfl, rfl, rfl, rfl, trivial⟩⟩
                  · rintro ac wl ⟨q, hq, hq0, hql, hS⟩
                    revert ac wl
                    refine KS.out ?_
                    refine WC.seq ?_
                    refine WC.region ?_
                    refine WL.val (v_move rfl) rfl ?_
                    refine WL.val (v_move rfl) rfl ?_
                    refine WL.val (v_move rfl) rfl ?_
                    refine WL.act rfl (OW.call (xs := [.tmp 100, .tmp 101, .tmp 102]) Tryz.call36 rfl (fun w hw => takeAway_any w0 w _ _ _ _ (fixd (m2.length + 1) v) (fixd_length _ _) (by rw [fixd_length]; omega) _ _ _ m2 rfl (by omega) hc2 hR2 q hql (fixd_valid _ _) hv2 hw) rfl ?_)
                    rintro r w' ⟨rfl, hw'⟩
                    rw [take_fixd rfl hv hq] at hw'
                    refine ⟨_, _, rfl, hw', ?_⟩
                    refine WL.nil ?_
                    refine EX.next ?_
                    refine WC.region ?_
                    refine WL.val (v_move rfl) rfl ?_
                    refine WL.val (n_gtr0 rfl) rfl ?_
                    refine WL.val (v_assign rfl) rfl ?_
                    refine WL.nil ?_
                    refine EX.normal_block ?_
                    refine EX.to ?_
                    refine KS.mk fun b w hS => ⟨v - q * val m2 + (decide (0 < q)).toNat, ?_, v - q * val m2, decide (0 < q), rfl, by omega, ?_, ?_, hS.keep ⟨rfl, rfl, rfl, rfl, rfl, rfl, rfl, trivial⟩⟩
                    · rcases Nat.eq_zero_or_pos q with h | h
                      · subst h; simp
                      · have := Nat.mul_pos h hMv; simp [h]; omega
                    · rw [← hvm, Nat.mul_comm]; exact Nat.sub_mul_mod (by rw [Nat.mul_comm]; exact hq)
                    · intro h; have h0 := of_decide_eq_false h; have h1 : q = 0 := by omega
                      have := hq0 h1; omega
                · intro hb18
                  have hve : v = restV a n (val m2) (la - i + 1) := by rw [← hvm, Nat.mod_eq_of_lt (hbb hb18)]
                  subst hve
                  refine WC.exit ?_
                  refine EX.exit_then ?_
                  refine EX.exit_then ?_
                  refine EX.exit_here ?_
                  refine EX.normal_block ?_
                  refine EX.next ?_
                  refine WC.region ?_
                  refine WL.val (v_move rfl) rfl ?_
                  refine WL.val (v_sub_i rfl rfl (by omega)) rfl ?_
                  refine WL.val (v_assign rfl) rfl ?_
                  refine WL.nil ?_
                  refine EX.to ?_
                  refine KS.mk fun b w hS => ⟨i, by omega, i, rfl, by omega, ?_⟩
                  rw [show la + 1 - i = la - i + 1 by omega]
                  exact hS.keep ⟨rfl, rfl, rfl, rfl, rfl, rfl, trivial⟩
        · intro hb8
          have hj0 : j = 0 := by have := of_decide_eq_false hb8; omega
          subst hj0
          refine WC.exit ?_
          refine EX.exit_then ?_
          refine EX.exit_then ?_
          refine EX.exit_here ?_
          refine EX.next ?_
          refine WC.seq ?_
          refine WC.region ?_
          refine WL.val (v_move rfl) rfl ?_
          refine WL.act rfl (OW.make (l := (m2.length)) (c := (m2.length)) Tryz.runUnderlying71 Tryz.typeInfo3 Tryz.sizeOf3 Tryz.zeroValue3 rfl rfl rfl (Nat.le_refl _) (by rw [bytes3]; omega) (by omega) rfl (fun b2 => ?_))
          refine WL.val (v_assign rfl) rfl ?_
          refine WL.nil ?_
          refine EX.next ?_
          refine WC.seq ?_
          refine WC.seq ?_
          refine WC.region ?_
          refine WL.val (v_move rfl) rfl ?_
          refine WL.val (v_len Tryz.runUnderlying71 rfl) rfl ?_
          refine WL.val (v_move rfl) rfl ?_
          refine WL.nil ?_
          refine EX.next ?_
          refine WC.block ?_
          refine WC.loop (fun mm ac wl => ∃ i : Nat, (m2.length - i = mm) ∧ (i ≤ m2.length) ∧ St w0 133 [(5, .int .i64 (n : Int)), (7, .slice (some ⟨b1, 0, none⟩) (m2.length + 1) (m2.length + 1)), (13, .slice (some ⟨b2, 0, none⟩) m2.length m2.length), (109, .int .i64 (m2.length : Int)), (110, .int .i64 (i : Int))] ((b2, blk 3 (0, 0) (dg (fillL (restO (fixd (m2.length + 1) (restV a n (val m2) (la + 1))) n) (fun _ => 0) m2.length i))) :: (b1, blk 3 (0, 0) (dg (fixd (m2.length + 1) (restV a n (val m2) (la + 1))))) :: (B2 ++ L)) ac wl) (m2.length) ?_ ?_
          · intro ac wl hS
            refine ⟨0, rfl, Nat.zero_le _, (hS.heap' ?_).keep ⟨rfl, rfl, rfl, rfl, rfl, trivial⟩⟩
            have h8 := hS.mem
            rw [dg_replicate, ← range_zero] at h8
            rw [fillL_zero]; exact h8
          · rintro mm ac wl ⟨i, hm, hi, hS⟩
            subst hm
            revert ac wl
            refine KS.out ?_
            have hri := (fixd_valid (m2.length + 1) (restV a n (val m2) (la + 1))).at_ i
            have hri1 := (fixd_valid (m2.length + 1) (restV a n (val m2) (la + 1))).at_ (i + 1)
            have hor3 := or_lt (k := 32) (m := (fixd (m2.length + 1) (restV a n (val m2) (la + 1))).getD i 0) (n := (fixd (m2.length + 1) (restV a n (val m2) (la + 1))).getD (i + 1) 0 * 2 ^ 16) (by omega) (by omega)
            have hdv3 := Nat.div_le_self ((fixd (m2.length + 1) (restV a n (val m2) (la + 1))).getD i 0 ||| (fixd (m2.length + 1) (restV a n (val m2) (la + 1))).getD (i + 1) 0 * 2 ^ 16) (2 ^ n)
            refine WC.seq ?_
            refine WC.region ?_
            refine WL.val (v_lss rfl rfl) rfl ?_
            refine WL.nil ?_
            refine EX.next ?_
            refine WC.seq ?_
            refine WC.cond rfl ?_ ?_
            · intro hb26
              have hlt : i < m2.length := by have := of_decide_eq_true hb26; omega
              refine WC.skip ?_
              refine EX.next ?_
              refine WC.seq ?_
              refine WC.block ?_
              refine WC.seq ?_
              refine WC.region ?_
              refine WL.val (v_move rfl) rfl ?_
              refine WL.val (v_assign rfl) rfl ?_
              refine WL.nil ?_
              refine EX.next ?_
              refine WC.drawTail 17 (by kernel_rfl) ?_
              refine WS.val (v_move rfl) rfl ?_
              refine WS.val (v_move rfl) rfl ?_
              refine WS.val (v_move rfl) rfl ?_
              refine WS.val (v_move rfl) rfl ?_
              refine WS.val (n_ix Tryz.runUnderlying71 Tryz.sizeOf3 rfl rfl (by omega)) rfl ?_
              refine WS.val (v_load Tryz.isAgg3 rfl (mS m0) (dg_at (by rw [fixd_length]; omega))) rfl ?_
              refine WS.val (v_move rfl) rfl ?_
              refine WS.val (v_move rfl) rfl ?_
              refine WS.val (n_add1 rfl rfl (show (1 : Int) = ((1 : Nat) : Int) from rfl) (by omega)) rfl ?_
              refine WS.val (n_ix Tryz.runUnderlying71 Tryz.sizeOf3 rfl rfl (by omega)) rfl ?_
              refine WS.val (v_load Tryz.isAgg3 rfl (mS m0) (dg_at (by rw [fixd_length]; omega))) rfl ?_
              refine WS.val (n_shl rfl rfl (show (16 : Int) = ((16 : Nat) : Int) from rfl) (by omega) (by omega)) rfl ?_
              refine WS.val (n_or rfl rfl (by omega) (by omega)) rfl ?_
              refine WS.val (v_move rfl) rfl ?_
              refine WS.val (n_shr rfl rfl rfl (by omega)) rfl ?_
              refine WS.val (Val.to (v' := .int .i64 ((restO (fixd (m2.length + 1) (restV a n (val m2) (la + 1))) n i : Nat) : Int)) rfl (n_mask rfl (by omega))) rfl ?_
              refine WS.val (n_ix Tryz.runUnderlying71 Tryz.sizeOf3 rfl rfl (by omega)) rfl ?_
              refine WS.nil ?_
              refine WL.act rfl (OW.store (vs' := _) Tryz.sizeOf3 rfl rfl rfl (by rw [dg_set, fillL_set]) .here (by rw [dg_length, fillL_length]; omega) (by simp) ?_)
              refine WL.nil ?_
              refine EX.normal_block ?_
              refine EX.next ?_
              refine WC.region ?_
              refine WL.val (n_add1 rfl rfl (show (1 : Int) = ((1 : Nat) : Int) from rfl) (by omega)) rfl ?_
              refine WL.val (v_move rfl) rfl ?_
              refine WL.nil ?_
              refine EX.to ?_
              exact KS.mk fun b w hS => ⟨m2.length - (i + 1), by omega, i + 1, rfl, by omega, hS.keep ⟨rfl, rfl, rfl, rfl, rfl, trivial⟩⟩
            · intro hb26
              have hge : i = m2.length := by have := of_decide_eq_false hb26; omega
              subst hge
              rw [fillL_all]
              refine WC.exit ?_
              refine EX.exit_then ?_
              refine EX.exit_then ?_
              refine EX.exit_here ?_
              refine EX.next ?_
              refine WC.seq ?_
              refine WC.region ?_
              refine WL.val (v_move rfl) rfl ?_
              refine WL.act rfl (OW.call (xs := [.tmp 131]) Tryz.call33 rfl (fun w hw => trim_any w0 w _ _ _ _ ((List.range m2.length).map (restO (fixd (m2.length + 1) (restV a n (val m2) (la + 1))) n)) (by simp) (by simp; omega) (Nat.le_refl _) (Rd.whole (t := 3) (fr := (0, 0)) m0) hw) rfl ?_)
              rintro r w' ⟨rfl, hw'⟩
              refine ⟨_, _, rfl, hw', ?_⟩
              refine WL.val (v_assign rfl) rfl ?_
              refine WL.nil ?_
              refine EX.next ?_
              refine WC.ret ?_
              rw [restL, hm2, restC, hla]
              refine ret1 Tryz.results20 rfl fun w hw => ⟨_, _, (b2, _) :: (b1, _) :: B2, rfl, ?_, (Rd.whole (t := 3) (fr := (0, 0)) m0).trim, hw⟩
              have h7 := trimL_length_le ((List.range m2.length).map (restO (fixd (m2.length + 1) (restV a n (val m2) (la + 1))) n))
              simpa using h7
end Go.Proofs.YtljoodllnaekbaaGreatDoor

namespace Go.Proofs.YtljoodllnaekbaaGreatDoor
open Go

theorem power_any (w0 w : World) (L : Heap) (Ag : Option Addr) (lg cg : Nat) (g : List Nat) (hlg : g.length = lg) (hxg : g.length ≤ 1000) (hcg : lg ≤ cg) (hRg : Rd L Ag (dg g)) (Ae : Option Addr) (le ce : Nat) (e : List Nat) (hle : e.length = le) (hxe : e.length ≤ 1000) (hce : le ≤ ce) (hRe : Rd L Ae (bt e)) (Am : Option Addr) (lm cm : Nat) (m : List Nat) (hlm : m.length = lm) (hxm : m.length ≤ 1000) (hcm : lm ≤ cm) (hRm : Rd L Am (dg m)) (n : Nat) (hMo : Modulus m n) (vg : Val16 g) (hg500 : g.length ≤ 500) (hby : ∀ d ∈ e, d < 256) (hw : HW w0 L w) :
    Calls P 24 #[.slice Ag lg cg, .slice Ae le ce, .slice Am lm cm] w (NewBig w0 L (powL g e m n)) := by
  refine enter (us := [.slice Ag lg cg, .slice Ae le ce, .slice Am lm cm]) Tryz.func24 rfl Tryz.ntmps24 (by simp) rfl ?_ hw
  refine WC.seq ?_
  refine WC.region ?_
  refine WL.val (v_assign rfl) rfl ?_
  refine WL.nil ?_
  refine EX.next ?_
  refine WC.seq ?_
  refine WC.region ?_
  refine WL.act rfl (OW.buildSlice (xs := [.const (.int .i64 1)]) Tryz.runUnderlying71 Tryz.sizeOf3 Tryz.zeroValue3 rfl rfl rfl (by simp) rfl (fun b1 => ?_) rfl rfl)
  refine WL.val (v_assign rfl) rfl ?_
  refine WL.nil ?_
  refine EX.next ?_
  refine WC.seq ?_
  refine WC.seq ?_
  refine WC.region ?_
  refine WL.val (v_move rfl) rfl ?_
  refine WL.val (v_len Tryz.runUnderlying23 rfl) rfl ?_
  refine WL.val (v_move rfl) rfl ?_
  refine WL.nil ?_
  refine EX.next ?_
  refine WC.block ?_
  refine WC.loop (fun mm ac wl => ∃ i : Nat, ∃ x : List Nat, ∃ A : Option Addr, ∃ cp : Nat, ∃ B : Heap, (le - i = mm) ∧ (i ≤ le) ∧ (x = powL g (e.take i) m n) ∧ (Val16 x) ∧ (x.length ≤ 401) ∧ (x.length ≤ cp) ∧ (Rd (B ++ L) A (dg x)) ∧ St w0 39 [(0, .slice Ag lg cg), (2, .slice Am lm cm), (7, .slice A x.length cp), (12, .slice Ae le ce), (13, .int .i64 (le : Int)), (14, .int .i64 (i : Int))] (B ++ L) ac wl) (le) ?_ ?_
  · intro ac wl hS
    refine ⟨0, [1], some ⟨b1, 0, none⟩, 1, [(b1, _)], rfl, Nat.zero_le _, rfl, ?_, by decide, by decide, ?_, hS.keep ⟨rfl, rfl, rfl, rfl, rfl, rfl, trivial⟩⟩
    · intro d hd; simp at hd; omega
    · exact Rd.whole (t := 3) (fr := (0, 0)) m0
  · rintro mm ac wl ⟨i, x, A, cp, B, hm, hi, hx, vx, hxl, hxc, hRx, hS⟩
    subst hm
    revert ac wl
    refine KS.out ?_
    refine WC.seq ?_
    refine WC.region ?_
    refine WL.val (v_lss rfl rfl) rfl ?_
    refine WL.nil ?_
    refine EX.next ?_
    refine WC.seq ?_
    refine WC.cond rfl ?_ ?_
    · intro hb3
      have hlt : i < le := by have := of_decide_eq_true hb3; omega
      have hd := byte_at hby i
      refine WC.skip ?_
      refine EX.next ?_
      refine WC.seq ?_
      refine WC.block ?_
      refine WC.seq ?_
      refine WC.region ?_
      refine WL.val (n_index Tryz.runUnderlying23 Tryz.sizeOf5 rfl rfl (Rd.mono hRe (fun _ h => (List.mem_append_right _ h))) (by omega) (by rw [bt_length]; omega)) rfl ?_
      refine WL.val (v_load_rd Tryz.isAgg5 rfl (Rd.mono hRe (fun _ h => (List.mem_append_right _ h))) (bt_at (by omega))) rfl ?_
      refine WL.val (v_assign rfl) rfl ?_
      refine WL.nil ?_
      refine EX.next ?_
      refine WC.seq ?_
      refine WC.region ?_
      refine WL.val (v_assign rfl) rfl ?_
      refine WL.nil ?_
      refine EX.next ?_
      refine WC.block ?_
      refine WC.loop (fun mm ac wl => ∃ j : Nat, ∃ x2 : List Nat, ∃ A2 : Option Addr, ∃ cp2 : Nat, ∃ B2 : Heap, (j = mm) ∧ (j ≤ 8) ∧ (x2 = powBits g m n (e.getD i 0) x (8 - j)) ∧ (Val16 x2) ∧ (x2.length ≤ 401) ∧ (x2.length ≤ cp2) ∧ (Rd (B2 ++ L) A2 (dg x2)) ∧ St w0 39 [(0, .slice Ag lg cg), (2, .slice Am lm cm), (7, .slice A2 x2.length cp2), (12, .slice Ae le ce), (13, .int .i64 (le : Int)), (14, .int .i64 (i : Int)), (9, .int .u8 ((e.getD i 0 : Nat) : Int)), (10, .int .i64 ((j : Int) - 1))] (B2 ++ L) ac wl) (8) ?_ ?_
      · intro ac wl hS
        exact ⟨8, x, A, cp, B, rfl, Nat.le_refl _, rfl, vx, hxl, hxc, hRx, hS.keep ⟨rfl, rfl, rfl, rfl, rfl, rfl, rfl, rfl, trivial⟩⟩
      · rintro mm ac wl ⟨j, x2, A2, cp2, B2, hm, hj, hx2, vx2, hxl2, hxc2, hRx2, hS⟩
        subst hm
        revert ac wl
        refine KS.out ?_
        refine WC.seq ?_
        refine WC.seq ?_
        refine WC.region ?_
        refine WL.val (v_move rfl) rfl ?_
        refine WL.val (v_geq rfl rfl) rfl ?_
        refine WL.nil ?_
        refine EX.next ?_
        refine WC.cond rfl ?_ ?_
        · intro hb6
          have hj1 : 1 ≤ j := by have := of_decide_eq_true hb6; omega
          obtain ⟨k, rfl⟩ : ∃ k, j = k + 1 := ⟨j - 1, by omega⟩
          rw [show (((k + 1 : Nat) : Int) - 1) = (k : Int) by omega]
          have hnext := powBits_next g m n (e.getD i 0) x k (by omega)
          rw [← hx2, powBit] at hnext
          refine WC.skip ?_
          refine EX.next ?_
          refine WC.seq ?_
          refine WC.block ?_
          refine WC.seq ?_
          refine WC.region ?_
          refine WL.val (v_move rfl) rfl ?_
          refine WL.val (v_move rfl) rfl ?_
          refine WL.act rfl (OW.call (xs := [.tmp 22, .tmp 23]) Tryz.call38 rfl (fun w hw => product_any w0 w _ _ _ _ x2 rfl (by omega) hxc2 hRx2 _ _ _ x2 rfl (by omega) hxc2 hRx2 vx2 vx2 hw) rfl ?_)
          rintro r w' ⟨A3, c3, B3, rfl, hc3, hRy3, hw'⟩
          refine ⟨_, _, rfl, hw', ?_⟩
          have hl3 := prodL_length vx2 vx2
          have v3 := prodL_valid vx2 vx2
          refine WL.val (v_move rfl) rfl ?_
          refine WL.act rfl (OW.call (xs := [.tmp 24, .tmp 25]) Tryz.call20 rfl (fun w hw => rest_any w0 w _ _ _ _ (prodL x2 x2) rfl (by omega) hc3 hRy3 _ _ _ m hlm hxm hcm (Rd.mono hRm (fun _ h => (List.mem_append_right _ (List.mem_append_right _ h)))) n _ rfl hMo v3 hw) rfl ?_)
          rintro r w' ⟨A4, c4, B4, rfl, hc4, hRy4, hw'⟩
          refine ⟨_, _, rfl, hw', ?_⟩
          have hl4 := restL_length hMo (prodL x2 x2)
          have v4 := restL_valid (prodL x2 x2) m n
          refine WL.val (v_assign rfl) rfl ?_
          refine WL.nil ?_
          refine EX.next ?_
          refine WC.seq ?_
          refine WC.region ?_
          refine WL.val (v_move rfl) rfl ?_
          refine WL.val (v_move rfl) rfl ?_
          refine WL.val ((v_shr rfl rfl (by omega)).cast (by rw [shrI_nat _ (by omega)])) rfl ?_
          refine WL.val ((v_and rfl rfl).cast (by rw [and_one_u8 (Nat.lt_of_le_of_lt (Nat.div_le_self _ _) hd)])) rfl ?_
          refine WL.val (v_eql rfl rfl) rfl ?_
          refine WL.nil ?_
          refine EX.next ?_
          refine WC.cond rfl ?_ ?_
          · intro hb9
            have hbit : e.getD i 0 / 2 ^ k % 2 = 1 := by have := beq_iff_eq.1 hb9; omega
            rw [if_pos hbit] at hnext
            refine WC.region ?_
            refine WL.val (v_move rfl) rfl ?_
            refine WL.val (v_move rfl) rfl ?_
            refine WL.act rfl (OW.call (xs := [.tmp 32, .tmp 33]) Tryz.call38 rfl (fun w hw => product_any w0 w _ _ _ _ (restL (prodL x2 x2) m n) rfl (by omega) hc4 hRy4 _ _ _ g hlg hxg hcg (Rd.mono hRg (fun _ h => (List.mem_append_right _ (List.mem_append_right _ (List.mem_append_right _ h))))) v4 vg hw) rfl ?_)
            rintro r w' ⟨A5, c5, B5, rfl, hc5, hRy5, hw'⟩
            refine ⟨_, _, rfl, hw', ?_⟩
            have hl5 := prodL_length v4 vg
            have v5 := prodL_valid v4 vg
            refine WL.val (v_move rfl) rfl ?_
            refine WL.act rfl (OW.call (xs := [.tmp 34, .tmp 35]) Tryz.call20 rfl (fun w hw => rest_any w0 w _ _ _ _ (prodL (restL (prodL x2 x2) m n) g) rfl (by omega) hc5 hRy5 _ _ _ m hlm hxm hcm (Rd.mono hRm (fun _ h => (List.mem_append_right _ (List.mem_append_right _ (List.mem_append_right _ (List.mem_append_right _ h)))))) n _ rfl hMo v5 hw) rfl ?_)
            rintro r w' ⟨A6, c6, B6, rfl, hc6, hRy6, hw'⟩
            refine ⟨_, _, rfl, hw', ?_⟩
            have hl6 := restL_length hMo (prodL (restL (prodL x2 x2) m n) g)
            have v6 := restL_valid (prodL (restL (prodL x2 x2) m n) g) m n
            refine WL.val (v_assign rfl) rfl ?_
            refine WL.nil ?_
            refine EX.normal_block ?_
            refine EX.next ?_
            refine WC.region ?_
            refine WL.val (v_move rfl) rfl ?_
            refine WL.val (v_sub_i rfl rfl (by omega)) rfl ?_
            refine WL.val (v_assign rfl) rfl ?_
            refine WL.nil ?_
            refine EX.to ?_
            refine KS.mk fun b w hS => ⟨k, by omega, k, _, A6, c6, B6 ++ (B5 ++ (B4 ++ (B3 ++ B2))), rfl, by omega, hnext.symm, v6, hl6, hc6, by simpa only [List.append_assoc] using hRy6, (hS.heap' (by simpa only [List.append_assoc] using hS.mem)).keep ⟨rfl, rfl, rfl, rfl, rfl, rfl, rfl, rfl, trivial⟩⟩
          · intro hb9
            have hbit : e.getD i 0 / 2 ^ k % 2 ≠ 1 := by intro h; rw [h] at hb9; simp at hb9
            rw [if_neg hbit] at hnext
            refine WC.skip ?_
            refine EX.normal_block ?_
            refine EX.next ?_
            refine WC.region ?_
            refine WL.val (v_move rfl) rfl ?_
            refine WL.val (v_sub_i rfl rfl (by omega)) rfl ?_
            refine WL.val (v_assign rfl) rfl ?_
            refine WL.nil ?_
            refine EX.to ?_
            refine KS.mk fun b w hS => ⟨k, by omega, k, _, A4, c4, B4 ++ (B3 ++ B2), rfl, by omega, hnext.symm, v4, hl4, hc4, by simpa only [List.append_assoc] using hRy4, (hS.heap' (by simpa only [List.append_assoc] using hS.mem)).keep ⟨rfl, rfl, rfl, rfl, rfl, rfl, rfl, rfl, trivial⟩⟩
        · intro hb6
          have hj0 : j = 0 := by have := of_decide_eq_false hb6; omega
          subst hj0
          refine WC.exit ?_
          refine EX.exit_then ?_
          refine EX.exit_then ?_
          refine EX.exit_here ?_
          refine EX.normal_block ?_
          refine EX.next ?_
          refine WC.region ?_
          refine WL.val (n_add1 rfl rfl (show (1 : Int) = ((1 : Nat) : Int) from rfl) (by omega)) rfl ?_
          refine WL.val (v_move rfl) rfl ?_
          refine WL.nil ?_
          refine EX.to ?_
          refine KS.mk fun b w hS => ⟨le - (i + 1), by omega, i + 1, x2, A2, cp2, B2, rfl, by omega, ?_, vx2, hxl2, hxc2, hRx2, hS.keep ⟨rfl, rfl, rfl, rfl, rfl, rfl, trivial⟩⟩
          rw [powL_take g e m n i (by omega), ← hx]; exact hx2
    · intro hb3
      have hge : i = e.length := by have := of_decide_eq_false hb3; omega
      rw [hge, List.take_length] at hx
      refine WC.exit ?_
      refine EX.exit_then ?_
      refine EX.exit_then ?_
      refine EX.exit_here ?_
      refine EX.next ?_
      refine WC.seq ?_
      refine WC.region ?_
      refine WL.val (v_move rfl) rfl ?_
      refine WL.val (v_assign rfl) rfl ?_
      refine WL.nil ?_
      refine EX.next ?_
      refine WC.ret ?_
      rw [← hx]
      exact ret1 Tryz.results24 rfl fun w hw => ⟨A, cp, B, rfl, hxc, hRx, hw⟩
end Go.Proofs.YtljoodllnaekbaaGreatDoor

namespace Go.Proofs.YtljoodllnaekbaaGreatDoor
open Go

theorem significant_any (w0 w : World) (L : Heap) (Aa : Option Addr) (la ca : Nat) (a : List Nat) (hla : a.length = la) (hxa : a.length ≤ 1000) (hca : la ≤ ca) (hRa : Rd L Aa (bt a)) (hw : HW w0 L w) :
    Calls P 32 #[.slice Aa la ca] w (NewBytes w0 L (sigL a)) := by
  subst hla
  refine enter (us := [.slice Aa a.length ca]) Tryz.func32 rfl Tryz.ntmps32 (by simp) rfl ?_ hw
  refine WC.seq ?_
  refine WC.region ?_
  refine WL.val (v_assign rfl) rfl ?_
  refine WL.nil ?_
  refine EX.next ?_
  refine WC.seq ?_
  refine WC.block ?_
  refine WC.loop (fun mm ac wl => ∃ k : Nat, ∃ A : Option Addr, ∃ cp : Nat, (a.length - k = mm) ∧ (k ≤ a.length) ∧ (a.length - k ≤ cp) ∧ (Rd L A (bt (a.drop k))) ∧ (sigL (a.drop k) = sigL a) ∧ St w0 17 [(0, .slice A (a.length - k) cp)] (L) ac wl) (a.length) ?_ ?_
  · intro ac wl hS
    exact ⟨0, Aa, ca, rfl, by omega, hca, hRa, rfl, hS.keep ⟨rfl, trivial⟩⟩
  · rintro mm ac wl ⟨k, A, cp, hm, hk, hcp, hRd, hs, hS⟩
    subst hm
    revert ac wl
    refine KS.out ?_
    refine WC.seq ?_
    refine WC.seq ?_
    refine WC.region ?_
    refine WL.val (v_move rfl) rfl ?_
    refine WL.val (v_len Tryz.runUnderlying23 rfl) rfl ?_
    refine WL.val (v_gtr rfl rfl) rfl ?_
    refine WL.val (v_move rfl) rfl ?_
    refine KS.split (decide (((a.length - k : Nat) : Int) > 0)) ?_ ?_
    · intro hg1_3
      have hk0 : k < a.length := by have := of_decide_eq_true hg1_3; omega
      have hd0 : (a.drop k).getD 0 0 = a.getD k 0 := by simp [List.getElem?_drop]
      refine WL.yes rfl rfl rfl hg1_3 (v_move rfl) rfl ?_
      refine WL.yes rfl rfl rfl hg1_3 (n_index (m := 0) Tryz.runUnderlying23 Tryz.sizeOf5 rfl (show _ = some (Value.int .i64 ((0 : Nat) : Int)) from rfl) hRd (by omega) (by rw [bt_length, List.length_drop]; omega)) rfl ?_
      refine WL.yes rfl rfl rfl hg1_3 (Val.to (by rw [hd0]) (v_load_rd Tryz.isAgg5 rfl hRd (bt_at (i := 0) (by rw [List.length_drop]; omega)))) rfl ?_
      refine WL.yes rfl rfl rfl hg1_3 (v_eql rfl rfl) rfl ?_
      refine WL.val (v_pick_t rfl hg1_3 rfl) rfl ?_
      refine WL.nil ?_
      refine EX.next ?_
      refine WC.cond rfl ?_ ?_
      · intro hb1
        have hz : a.getD k 0 = 0 := by simpa using hb1
        refine WC.skip ?_
        refine EX.next ?_
        refine WC.block ?_
        refine WC.region ?_
        refine WL.val (v_move rfl) rfl ?_
        refine WL.val (v_slice (i := 1) (j := a.length - k) Tryz.runUnderlying23 Tryz.sizeOf5 rfl ⟨.i64, rfl⟩ rfl (by omega) (by omega) (by omega)) rfl ?_
        refine WL.val (v_assign rfl) rfl ?_
        refine WL.nil ?_
        refine EX.normal_block ?_
        refine EX.to ?_
        refine KS.mk fun b w hS => ⟨a.length - (k + 1), by omega, k + 1, cutA A cp 1, cp - 1, rfl, by omega, by omega, ?_, ?_, hS.keep ⟨rfl, trivial⟩⟩
        · have := hRd.cut (cap := cp) (k := 1) (by rw [bt_length, List.length_drop]; omega)
          rwa [← bt_drop, List.drop_drop] at this
        · rw [← hs, sigL_drop_zero hk0 hz]
      · intro hb1
        have hfin : sigL a = a.drop k := by rw [← hs]; exact sigL_drop_ne hk0 (by simpa using hb1)
        refine WC.exit ?_
        refine EX.exit_then ?_
        refine EX.exit_then ?_
        refine EX.exit_here ?_
        refine EX.next ?_
        refine WC.seq ?_
        refine WC.region ?_
        refine WL.act rfl (OW.buildSlice (xs := []) Tryz.runUnderlying23 Tryz.sizeOf5 Tryz.zeroValue5 rfl rfl rfl (by simp) rfl (fun b1 => ?_) rfl rfl)
        refine WL.val (v_move rfl) rfl ?_
        refine WL.act rfl (OW.append (o := some ⟨b1, []⟩) (data := []) (news := bt (a.drop k)) (data' := bt (sigL a)) (L1 := L) Tryz.runUnderlying23 Tryz.runUnderlying23 Tryz.sizeOf5 Tryz.typeInfo5 Tryz.zeroValue5 rfl rfl rfl (by rw [bt_length, List.length_drop]) (fun _ h => h) (fun _ => rfl) (Rd.mono hRd (fun _ h => (mS h))) (bt_one _) (by rw [bt_length, List.length_drop, bytes5]; simp only [List.length_nil]; omega) (by rw [bt_length, List.length_drop]; simp only [List.length_nil]; omega) (by rw [hfin]; rfl) rfl (fun o ho => ?_))
        refine WL.val (v_assign rfl) rfl ?_
        refine WL.nil ?_
        refine EX.next ?_
        refine WC.ret ?_
        exact ret1 Tryz.results32 rfl fun w hw => ⟨o, rfl, ho, hw⟩
    · intro hg1_3
      have hk0 : k = a.length := by have := of_decide_eq_false hg1_3; omega
      refine WL.no rfl rfl rfl hg1_3 ?_
      refine WL.no rfl rfl rfl hg1_3 ?_
      refine WL.no rfl rfl rfl hg1_3 ?_
      refine WL.no rfl rfl rfl hg1_3 ?_
      refine WL.val (v_pick_f rfl hg1_3 rfl) rfl ?_
      refine WL.nil ?_
      refine EX.next ?_
      refine WC.cond rfl ?_ ?_
      · intro hb1
        exact absurd hb1 (by decide)
      · intro hb1
        have hfin : sigL a = a.drop k := by rw [← hs, hk0, List.drop_length]; rfl
        refine WC.exit ?_
        refine EX.exit_then ?_
        refine EX.exit_then ?_
        refine EX.exit_here ?_
        refine EX.next ?_
        refine WC.seq ?_
        refine WC.region ?_
        refine WL.act rfl (OW.buildSlice (xs := []) Tryz.runUnderlying23 Tryz.sizeOf5 Tryz.zeroValue5 rfl rfl rfl (by simp) rfl (fun b2 => ?_) rfl rfl)
        refine WL.val (v_move rfl) rfl ?_
        refine WL.act rfl (OW.append (o := some ⟨b2, []⟩) (data := []) (news := bt (a.drop k)) (data' := bt (sigL a)) (L1 := L) Tryz.runUnderlying23 Tryz.runUnderlying23 Tryz.sizeOf5 Tryz.typeInfo5 Tryz.zeroValue5 rfl rfl rfl (by rw [bt_length, List.length_drop]) (fun _ h => h) (fun _ => rfl) (Rd.mono hRd (fun _ h => (mS h))) (bt_one _) (by rw [bt_length, List.length_drop, bytes5]; simp only [List.length_nil]; omega) (by rw [bt_length, List.length_drop]; simp only [List.length_nil]; omega) (by rw [hfin]; rfl) rfl (fun o ho => ?_))
        refine WL.val (v_assign rfl) rfl ?_
        refine WL.nil ?_
        refine EX.next ?_
        refine WC.ret ?_
        exact ret1 Tryz.results32 rfl fun w hw => ⟨o, rfl, ho, hw⟩
end Go.Proofs.YtljoodllnaekbaaGreatDoor

namespace Go.Proofs.YtljoodllnaekbaaGreatDoor
open Go

theorem octets_any (w0 w : World) (L : Heap) (v k : Nat) (hv : v < 9223372036854775808) (hk : k ≤ 8) (hw : HW w0 L w) :
    Calls P 17 #[.int .i64 (v : Int), .int .i64 (k : Int)] w fun e w' => ∃ b : Nat, e = .returned (.slice (some ⟨b, 0, none⟩) k k) ∧ HW w0 ((b, blk 5 (0, 0) (bt (octL v k))) :: L) w' := by
  refine enter (us := [.int .i64 (v : Int), .int .i64 (k : Int)]) Tryz.func17 rfl Tryz.ntmps17 (by simp) rfl ?_ hw
  refine WC.seq ?_
  refine WC.region ?_
  refine WL.val (v_assign rfl) rfl ?_
  refine WL.nil ?_
  refine EX.next ?_
  refine WC.seq ?_
  refine WC.region ?_
  refine WL.val (v_move rfl) rfl ?_
  refine WL.act rfl (OW.make (l := k) (c := k) Tryz.runUnderlying23 Tryz.typeInfo5 Tryz.sizeOf5 Tryz.zeroValue5 rfl rfl rfl (Nat.le_refl _) (by rw [bytes5]; omega) (by omega) rfl (fun b1 => ?_))
  refine WL.val (v_assign rfl) rfl ?_
  refine WL.nil ?_
  refine EX.next ?_
  refine WC.seq ?_
  refine WC.seq ?_
  refine WC.region ?_
  refine WL.val (v_move rfl) rfl ?_
  refine WL.val (v_len Tryz.runUnderlying23 rfl) rfl ?_
  refine WL.val (v_move rfl) rfl ?_
  refine WL.nil ?_
  refine EX.next ?_
  refine WC.block ?_
  refine WC.loop (fun mm ac wl => ∃ i : Nat, (k - i = mm) ∧ (i ≤ k) ∧ St w0 27 [(0, .int .i64 (v : Int)), (1, .int .i64 (k : Int)), (5, .slice (some ⟨b1, 0, none⟩) k k), (10, .int .i64 (k : Int)), (11, .int .i64 (i : Int))] ((b1, blk 5 (0, 0) (bt (fillL (octD v k) (fun _ => 0) k i))) :: L) ac wl) (k) ?_ ?_
  · intro ac wl hS
    refine ⟨0, rfl, Nat.zero_le _, (hS.heap' ?_).keep ⟨rfl, rfl, rfl, rfl, rfl, trivial⟩⟩
    have h8 := hS.mem
    rw [bt_replicate, ← range_zero] at h8
    rw [fillL_zero]; exact h8
  · rintro mm ac wl ⟨i, hm, hi, hS⟩
    subst hm
    revert ac wl
    refine KS.out ?_
    refine WC.seq ?_
    refine WC.region ?_
    refine WL.val (v_lss rfl rfl) rfl ?_
    refine WL.nil ?_
    refine EX.next ?_
    refine WC.seq ?_
    refine WC.cond rfl ?_ ?_
    · intro hb3
      have hlt : i < k := by have := of_decide_eq_true hb3; omega
      have hdv := Nat.div_le_self v (2 ^ (8 * (k - 1 - i)))
      refine WC.skip ?_
      refine EX.next ?_
      refine WC.seq ?_
      refine WC.block ?_
      refine WC.seq ?_
      refine WC.region ?_
      refine WL.val (v_move rfl) rfl ?_
      refine WL.val (v_assign rfl) rfl ?_
      refine WL.nil ?_
      refine EX.next ?_
      refine WC.region ?_
      refine WL.val (v_move rfl) rfl ?_
      refine WL.val (v_move rfl) rfl ?_
      refine WL.val (v_move rfl) rfl ?_
      refine WL.val (v_move rfl) rfl ?_
      refine WL.val (n_sub1 rfl rfl (show (1 : Int) = ((1 : Nat) : Int) from rfl) (by omega) (by omega)) rfl ?_
      refine WL.val (v_move rfl) rfl ?_
      refine WL.val (n_sub rfl rfl (by omega) (by omega)) rfl ?_
      refine WL.val (n_mul (m := 8) (show _ = some (Value.int .i64 ((8 : Nat) : Int)) from rfl) rfl (by omega)) rfl ?_
      refine WL.val (n_shr rfl rfl rfl (by omega)) rfl ?_
      refine WL.val (Val.to (v' := .int .u8 ((octD v k i : Nat) : Int)) rfl (n_byte Tryz.runUnderlying3 Tryz.runUnderlying5 rfl)) rfl ?_
      refine WL.val (n_ix Tryz.runUnderlying23 Tryz.sizeOf5 rfl rfl (by omega)) rfl ?_
      refine WL.act rfl (OW.store (vs' := _) Tryz.sizeOf5 rfl rfl rfl (by rw [bt_set, fillL_set]) .here (by rw [bt_length, fillL_length]; omega) (by simp) ?_)
      refine WL.nil ?_
      refine EX.normal_block ?_
      refine EX.next ?_
      refine WC.region ?_
      refine WL.val (n_add1 rfl rfl (show (1 : Int) = ((1 : Nat) : Int) from rfl) (by omega)) rfl ?_
      refine WL.val (v_move rfl) rfl ?_
      refine WL.nil ?_
      refine EX.to ?_
      exact KS.mk fun b w hS => ⟨k - (i + 1), by omega, i + 1, rfl, by omega, hS.keep ⟨rfl, rfl, rfl, rfl, rfl, trivial⟩⟩
    · intro hb3
      have hge : i = k := by have := of_decide_eq_false hb3; omega
      subst hge
      rw [fillL_all]
      refine WC.exit ?_
      refine EX.exit_then ?_
      refine EX.exit_then ?_
      refine EX.exit_here ?_
      refine EX.next ?_
      refine WC.seq ?_
      refine WC.region ?_
      refine WL.val (v_move rfl) rfl ?_
      refine WL.val (v_assign rfl) rfl ?_
      refine WL.nil ?_
      refine EX.next ?_
      refine WC.ret ?_
      exact ret1 Tryz.results17 rfl fun w hw => ⟨b1, rfl, hw⟩
end Go.Proofs.YtljoodllnaekbaaGreatDoor

namespace Go.Proofs.YtljoodllnaekbaaGreatDoor
open Go

theorem bits_any (w0 w : World) (L : Heap) (Aa : Option Addr) (la ca : Nat) (a : List Nat) (hla : a.length = la) (hxa : a.length ≤ 1000) (hca : la ≤ ca) (hRa : Rd L Aa (bt a)) (hby : ∀ d ∈ a, d < 256) (hw : HW w0 L w) :
    Calls P 37 #[.slice Aa la ca] w fun e w' => e = .returned (.int .i64 (bitsN a : Int)) ∧ HW w0 L w' := by
  have hsl := sigL_length a
  have hh : 0 < (sigL a).length → (sigL a).getD 0 0 ≠ 0 := sigL_head
  have hhb := byte_at (fun d h => hby d (sigL_mem d h)) 0
  refine enter (us := [.slice Aa la ca]) Tryz.func37 rfl Tryz.ntmps37 (by simp) rfl ?_ hw
  refine WC.seq ?_
  refine WC.region ?_
  refine WL.val (v_assign rfl) rfl ?_
  refine WL.nil ?_
  refine EX.next ?_
  refine WC.seq ?_
  refine WC.region ?_
  refine WL.val (v_move rfl) rfl ?_
  refine WL.act rfl (OW.call (xs := [.tmp 6]) Tryz.call32 rfl (fun w hw => significant_any w0 w _ _ _ _ a hla hxa hca hRa hw) rfl ?_)
  rintro r w' ⟨o, rfl, ho, hw'⟩
  refine ⟨_, _, rfl, hw', ?_⟩
  refine WL.val (v_assign rfl) rfl ?_
  refine WL.nil ?_
  refine EX.next ?_
  refine WC.seq ?_
  refine WC.seq ?_
  refine WC.region ?_
  refine WL.val (v_move rfl) rfl ?_
  refine WL.val (v_lenE Tryz.runUnderlying23 rfl (bt_length _)) rfl ?_
  refine WL.val (v_eql rfl rfl) rfl ?_
  refine WL.nil ?_
  refine EX.next ?_
  refine WC.cond rfl ?_ ?_
  · intro hb2
    have h0 : (sigL a).length = 0 := by have := beq_iff_eq.1 hb2; omega
    refine WC.seq ?_
    refine WC.region ?_
    refine WL.val (v_assign rfl) rfl ?_
    refine WL.nil ?_
    refine EX.next ?_
    refine WC.ret ?_
    refine EX.ret_then ?_
    first | exact ret1 Tryz.results37 (v := .int .i64 ((bitsN a : Nat) : Int)) (by show some (Value.int IntKind.i64 _) = some (Value.int IntKind.i64 _); congr 2; unfold bitsN; rw [if_pos h0, h0]; rfl) fun w hw => ⟨rfl, hw.sub (List.sublist_append_right _ _)⟩ | exact ret1 Tryz.results37 (v := .int .i64 ((bitsN a : Nat) : Int)) (by show some (Value.int IntKind.i64 ((8 * (sigL a).length - t : Nat) : Int)) = _; unfold bitsN; rw [if_neg (by omega), show t = lz ((sigL a).getD 0 0) by omega]) fun w hw => ⟨rfl, hw.sub (List.sublist_append_right _ _)⟩
  · intro hb2
    have h0 : 0 < (sigL a).length := by
      rcases Nat.eq_zero_or_pos (sigL a).length with h | h
      · rw [h] at hb2; simp at hb2
      · exact h
    refine WC.skip ?_
    refine EX.next ?_
    refine WC.seq ?_
    refine WC.region ?_
    refine WL.val (v_move rfl) rfl ?_
    refine WL.val (v_lenE Tryz.runUnderlying23 rfl (bt_length _)) rfl ?_
    refine WL.val (n_mul (m := 8) (show _ = some (Value.int .i64 ((8 : Nat) : Int)) from rfl) rfl (by omega)) rfl ?_
    refine WL.val (v_assign rfl) rfl ?_
    refine WL.nil ?_
    refine EX.next ?_
    refine WC.seq ?_
    refine WC.seq ?_
    refine WC.region ?_
    refine WL.val (v_move rfl) rfl ?_
    refine WL.val (n_index (m := 0) Tryz.runUnderlying23 Tryz.sizeOf5 rfl (show _ = some (Value.int .i64 ((0 : Nat) : Int)) from rfl) (Rd.own ho) (by rw [bt_length]; omega) (by rw [bt_length]; omega)) rfl ?_
    refine WL.val (v_load_rd Tryz.isAgg5 rfl (Rd.own ho) (bt_at (i := 0) (by omega))) rfl ?_
    refine WL.val (v_assign rfl) rfl ?_
    refine WL.nil ?_
    refine EX.next ?_
    refine WC.block ?_
    refine WC.loop (fun mm ac wl => ∃ x : Nat, ∃ t : Nat, (lz x = mm) ∧ (x < 256) ∧ (x ≠ 0) ∧ (lz x + t = lz ((sigL a).getD 0 0)) ∧ St w0 25 [(4, .int .i64 ((8 * (sigL a).length - t : Nat) : Int)), (5, .int .u8 (x : Int))] (ownL 5 o (bt (sigL a)) ++ L) ac wl) (lz ((sigL a).getD 0 0)) ?_ ?_
    · intro ac wl hS
      exact ⟨_, 0, rfl, hhb, hh h0, rfl, hS.keep ⟨rfl, rfl, trivial⟩⟩
    · rintro mm ac wl ⟨x, t, hm, hx, hx0, ht, hS⟩
      subst hm
      revert ac wl
      refine KS.out ?_
      obtain ⟨hst1, hst2⟩ := lz_step x hx hx0
      have hl7 := lz_le ((sigL a).getD 0 0)
      refine WC.seq ?_
      refine WC.seq ?_
      refine WC.region ?_
      refine WL.val (v_move rfl) rfl ?_
      refine WL.val ((v_and rfl rfl).cast (by rw [and_128_u8 hx])) rfl ?_
      refine WL.val (v_eql rfl rfl) rfl ?_
      refine WL.nil ?_
      refine EX.next ?_
      refine WC.cond rfl ?_ ?_
      · intro hb6
        have hz : x &&& 128 = 0 := by have := beq_iff_eq.1 hb6; omega
        obtain ⟨hn1, hn2⟩ := hst1 hz
        refine WC.skip ?_
        refine EX.next ?_
        refine WC.seq ?_
        refine WC.block ?_
        refine WC.region ?_
        refine WL.val (v_move rfl) rfl ?_
        refine WL.val (n_sub1 rfl rfl (show (1 : Int) = ((1 : Nat) : Int) from rfl) (by omega) (by omega)) rfl ?_
        refine WL.val (v_assign rfl) rfl ?_
        refine WL.nil ?_
        refine EX.normal_block ?_
        refine EX.next ?_
        refine WC.region ?_
        refine WL.val (v_move rfl) rfl ?_
        refine WL.val ((v_shl rfl rfl (by decide)).cast (by rw [shl_one_u8])) rfl ?_
        refine WL.val (v_assign rfl) rfl ?_
        refine WL.nil ?_
        refine EX.to ?_
        exact KS.mk fun b w hS => ⟨lz (x * 2 % 256), by omega, x * 2 % 256, t + 1, rfl, by omega, hn2, by omega, hS.keep ⟨rfl, rfl, trivial⟩⟩
      · intro hb6
        have hz : x &&& 128 ≠ 0 := by intro h; rw [h] at hb6; simp at hb6
        have hlz := hst2 hz
        refine WC.exit ?_
        refine EX.exit_then ?_
        refine EX.exit_then ?_
        refine EX.exit_here ?_
        refine EX.next ?_
        refine WC.seq ?_
        refine WC.region ?_
        refine WL.val (v_move rfl) rfl ?_
        refine WL.val (v_assign rfl) rfl ?_
        refine WL.nil ?_
        refine EX.next ?_
        refine WC.ret ?_
        first | exact ret1 Tryz.results37 (v := .int .i64 ((bitsN a : Nat) : Int)) (by show some (Value.int IntKind.i64 _) = some (Value.int IntKind.i64 _); congr 2; unfold bitsN; rw [if_pos h0, h0]; rfl) fun w hw => ⟨rfl, hw.sub (List.sublist_append_right _ _)⟩ | exact ret1 Tryz.results37 (v := .int .i64 ((bitsN a : Nat) : Int)) (by show some (Value.int IntKind.i64 ((8 * (sigL a).length - t : Nat) : Int)) = _; unfold bitsN; rw [if_neg (by omega), show t = lz ((sigL a).getD 0 0) by omega]) fun w hw => ⟨rfl, hw.sub (List.sublist_append_right _ _)⟩
end Go.Proofs.YtljoodllnaekbaaGreatDoor

namespace Go.Proofs.YtljoodllnaekbaaGreatDoor
open Go

theorem number_any (w0 w : World) (L : Heap) (Aa : Option Addr) (la ca : Nat) (a : List Nat) (hla : a.length = la) (hxa : a.length ≤ 1000) (hca : la ≤ ca) (hRa : Rd L Aa (bt a)) (hby : ∀ d ∈ a, d < 256) (hl7 : a.length ≤ 7) (hw : HW w0 L w) :
    Calls P 39 #[.slice Aa la ca] w fun e w' => e = .returned (.int .i64 (numL a : Int)) ∧ HW w0 L w' := by
  refine enter (us := [.slice Aa la ca]) Tryz.func39 rfl Tryz.ntmps39 (by simp) rfl ?_ hw
  refine WC.seq ?_
  refine WC.region ?_
  refine WL.val (v_assign rfl) rfl ?_
  refine WL.nil ?_
  refine EX.next ?_
  refine WC.seq ?_
  refine WC.region ?_
  refine WL.val (v_assign rfl) rfl ?_
  refine WL.nil ?_
  refine EX.next ?_
  refine WC.seq ?_
  refine WC.seq ?_
  refine WC.region ?_
  refine WL.val (v_move rfl) rfl ?_
  refine WL.val (v_len Tryz.runUnderlying23 rfl) rfl ?_
  refine WL.val (v_move rfl) rfl ?_
  refine WL.nil ?_
  refine EX.next ?_
  refine WC.block ?_
  refine WC.loop (fun mm ac wl => ∃ i : Nat, (la - i = mm) ∧ (i ≤ la) ∧ St w0 19 [(3, .int .i64 (numL (a.take i) : Int)), (6, .slice Aa la ca), (7, .int .i64 (la : Int)), (8, .int .i64 (i : Int))] (L) ac wl) (la) ?_ ?_
  · intro ac wl hS
    exact ⟨0, rfl, Nat.zero_le _, hS.keep ⟨rfl, rfl, rfl, rfl, trivial⟩⟩
  · rintro mm ac wl ⟨i, hm, hi, hS⟩
    subst hm
    revert ac wl
    refine KS.out ?_
    refine WC.seq ?_
    refine WC.region ?_
    refine WL.val (v_lss rfl rfl) rfl ?_
    refine WL.nil ?_
    refine EX.next ?_
    refine WC.seq ?_
    refine WC.cond rfl ?_ ?_
    · intro hb3
      have hlt : i < la := by have := of_decide_eq_true hb3; omega
      have h1 := numL_lt hby i (by omega)
      have h2 : 2 ^ (8 * i) ≤ 2 ^ 48 := Nat.pow_le_pow_right (by omega) (by omega)
      have h3 := byte_at hby i
      refine WC.skip ?_
      refine EX.next ?_
      refine WC.seq ?_
      refine WC.block ?_
      refine WC.seq ?_
      refine WC.region ?_
      refine WL.val (n_index Tryz.runUnderlying23 Tryz.sizeOf5 rfl rfl hRa (by omega) (by rw [bt_length]; omega)) rfl ?_
      refine WL.val (v_load_rd Tryz.isAgg5 rfl hRa (bt_at (by omega))) rfl ?_
      refine WL.val (v_assign rfl) rfl ?_
      refine WL.nil ?_
      refine EX.next ?_
      refine WC.region ?_
      refine WL.val (v_move rfl) rfl ?_
      refine WL.val (n_shl rfl rfl (show (8 : Int) = ((8 : Nat) : Int) from rfl) (by omega) (by omega)) rfl ?_
      refine WL.val (v_move rfl) rfl ?_
      refine WL.val (n_int Tryz.runUnderlying5 Tryz.runUnderlying3 rfl (by omega)) rfl ?_
      refine WL.val (n_or rfl rfl (by omega) (by omega)) rfl ?_
      refine WL.val (v_assign rfl) rfl ?_
      refine WL.nil ?_
      refine EX.normal_block ?_
      refine EX.next ?_
      refine WC.region ?_
      refine WL.val (n_add1 rfl rfl (show (1 : Int) = ((1 : Nat) : Int) from rfl) (by omega)) rfl ?_
      refine WL.val (v_move rfl) rfl ?_
      refine WL.nil ?_
      refine EX.to ?_
      refine KS.mk fun b w hS => ⟨la - (i + 1), by omega, i + 1, rfl, by omega, ?_⟩
      rw [numL_take a i (by omega)]
      exact hS.keep ⟨rfl, rfl, rfl, rfl, trivial⟩
    · intro hb3
      have hge : i = a.length := by have := of_decide_eq_false hb3; omega
      rw [hge, List.take_length]
      refine WC.exit ?_
      refine EX.exit_then ?_
      refine EX.exit_then ?_
      refine EX.exit_here ?_
      refine EX.next ?_
      refine WC.seq ?_
      refine WC.region ?_
      refine WL.val (v_move rfl) rfl ?_
      refine WL.val (v_assign rfl) rfl ?_
      refine WL.nil ?_
      refine EX.next ?_
      refine WC.ret ?_
      exact ret1 Tryz.results39 rfl fun w hw => ⟨rfl, hw⟩
end Go.Proofs.YtljoodllnaekbaaGreatDoor

namespace Go.Proofs.YtljoodllnaekbaaGreatDoor
open Go

theorem bigBytes_any (w0 w : World) (L : Heap) (Aa : Option Addr) (la ca : Nat) (a : List Nat) (hla : a.length = la) (hxa : a.length ≤ 1000) (hca : la ≤ ca) (hRa : Rd L Aa (dg a)) (va : Val16 a) (h500 : a.length ≤ 500) (hw : HW w0 L w) :
    Calls P 18 #[.slice Aa la ca] w (NewBytes w0 L (bigB a)) := by
  refine enter (us := [.slice Aa la ca]) Tryz.func18 rfl Tryz.ntmps18 (by simp) rfl ?_ hw
  refine WC.seq ?_
  refine WC.region ?_
  refine WL.val (v_assign rfl) rfl ?_
  refine WL.nil ?_
  refine EX.next ?_
  refine WC.seq ?_
  refine WC.region ?_
  refine WL.val (v_assign rfl) rfl ?_
  refine WL.nil ?_
  refine EX.next ?_
  refine WC.seq ?_
  refine WC.seq ?_
  refine WC.region ?_
  refine WL.val (v_move rfl) rfl ?_
  refine WL.val (v_len Tryz.runUnderlying71 rfl) rfl ?_
  refine WL.val (v_sub_i rfl rfl (by omega)) rfl ?_
  refine WL.val (v_assign rfl) rfl ?_
  refine WL.nil ?_
  refine EX.next ?_
  refine WC.block ?_
  refine WC.loop (fun mm ac wl => ∃ j : Nat, ∃ o : Option Own, (j = mm) ∧ (j ≤ la) ∧ (o = none → bt (bbs a (la - j)) = []) ∧ St w0 28 [(0, .slice Aa la ca), (3, ownV o (bt (bbs a (la - j)))), (4, .int .i64 ((j : Int) - 1))] (ownL 5 o (bt (bbs a (la - j))) ++ L) ac wl) (la) ?_ ?_
  · intro ac wl hS
    refine ⟨la, none, rfl, Nat.le_refl _, fun _ => ?_, ?_⟩
    · rw [Nat.sub_self]; rfl
    · rw [Nat.sub_self]; exact hS.keep ⟨rfl, rfl, rfl, trivial⟩
  · rintro mm ac wl ⟨j, o, hm, hj, ho, hS⟩
    subst hm
    revert ac wl
    refine KS.out ?_
    refine WC.seq ?_
    refine WC.seq ?_
    refine WC.region ?_
    refine WL.val (v_move rfl) rfl ?_
    refine WL.val (v_geq rfl rfl) rfl ?_
    refine WL.nil ?_
    refine EX.next ?_
    refine WC.cond rfl ?_ ?_
    · intro hb3
      have hj1 : 1 ≤ j := by have := of_decide_eq_true hb3; omega
      obtain ⟨i, rfl⟩ : ∃ i, j = i + 1 := ⟨j - 1, by omega⟩
      rw [show (((i + 1 : Nat) : Int) - 1) = (i : Int) by omega]
      have hAi := va.at_ i
      refine WC.skip ?_
      refine EX.next ?_
      refine WC.seq ?_
      refine WC.block ?_
      refine WC.draw (L) (.quiet 0 (.quiet 1 (.quiet 2 (.quiet 3 (.quiet 4 (.quiet 5 (.quiet 6 (.quiet 7 (.quiet 8 (.quiet 9 (.quiet 10 (.quiet 11 (.one 12 (.one 13 (.quiet 14 .done))))))))))))))) (by kernel_rfl) (fun _ => Sb.hw) ?_
      refine AK.quiet rfl (v_move rfl) rfl ?_
      refine AK.quiet rfl (v_move rfl) rfl ?_
      refine AK.quiet rfl (v_move rfl) rfl ?_
      refine AK.quiet rfl (n_index Tryz.runUnderlying71 Tryz.sizeOf3 rfl rfl hRa (by omega) (by rw [dg_length]; omega)) rfl ?_
      refine AK.quiet rfl (v_load_rd Tryz.isAgg3 rfl hRa (dg_at (by omega))) rfl ?_
      refine AK.quiet rfl (n_shr rfl rfl (show (8 : Int) = ((8 : Nat) : Int) from rfl) (by omega)) rfl ?_
      refine AK.quiet rfl (n_byte Tryz.runUnderlying3 Tryz.runUnderlying5 rfl) rfl ?_
      refine AK.quiet rfl (v_move rfl) rfl ?_
      refine AK.quiet rfl (v_move rfl) rfl ?_
      refine AK.quiet rfl (n_index Tryz.runUnderlying71 Tryz.sizeOf3 rfl rfl hRa (by omega) (by rw [dg_length]; omega)) rfl ?_
      refine AK.quiet rfl (v_load_rd Tryz.isAgg3 rfl hRa (dg_at (by omega))) rfl ?_
      refine AK.quiet rfl (n_byte Tryz.runUnderlying3 Tryz.runUnderlying5 rfl) rfl ?_
      refine AK.one rfl rfl (OW.buildSlice (xs := [.tmp 18, .tmp 23]) Tryz.runUnderlying23 Tryz.sizeOf5 Tryz.zeroValue5 rfl rfl rfl (by simp) rfl (fun b1 => ?_) rfl rfl)
      refine AK.on (fun _ => Sb.hw) ?_
      refine AK.one rfl rfl (OW.appendLit (data := bt (bbs a (la - (i + 1)))) (data' := bt (bbs a (la - i))) Tryz.runUnderlying23 Tryz.runUnderlying23 Tryz.sizeOf5 Tryz.typeInfo5 Tryz.zeroValue5 rfl rfl rfl rfl ho rfl (by rw [bt_length, bbs_length]; simp only [bytes5, List.length_cons, List.length_nil]; omega) (by rw [bt_length, bbs_length]; simp only [bytes5, List.length_cons, List.length_nil]; omega) (by rw [show la - i = (la - (i + 1)) + 1 by omega, bbs, show a.length - 1 - (la - (i + 1)) = i by omega]; exact bt_snoc2 _ _ _) rfl (fun o1 ho1 => ?_))
      refine AK.on (fun _ => Sb.hw) ?_
      refine AK.quiet rfl (v_assign rfl) rfl ?_
      refine AK.done ?_
      refine EX.normal_block ?_
      refine EX.next ?_
      refine WC.region ?_
      refine WL.val (v_move rfl) rfl ?_
      refine WL.val (v_sub_i rfl rfl (by omega)) rfl ?_
      refine WL.val (v_assign rfl) rfl ?_
      refine WL.nil ?_
      refine EX.to ?_
      exact KS.mk fun b w hS => ⟨i, by omega, i, o1, rfl, by omega, ho1, hS.keep ⟨rfl, rfl, rfl, trivial⟩⟩
    · intro hb3
      have hj0 : j = 0 := by have := of_decide_eq_false hb3; omega
      subst hj0
      refine WC.exit ?_
      refine EX.exit_then ?_
      refine EX.exit_then ?_
      refine EX.exit_here ?_
      refine EX.next ?_
      refine WC.seq ?_
      refine WC.region ?_
      refine WL.val (v_move rfl) rfl ?_
      refine WL.act rfl (OW.call (xs := [.tmp 26]) Tryz.call32 rfl (fun w hw => significant_any w0 w _ _ _ _ (bbs a (la - 0)) (bt_length _).symm (by rw [bbs_length]; omega) (ownC_le ho) (Rd.own ho) hw) rfl ?_)
      rintro r w' ⟨o2, rfl, ho2, hw'⟩
      refine ⟨_, _, rfl, hw', ?_⟩
      refine WL.val (v_assign rfl) rfl ?_
      refine WL.nil ?_
      refine EX.next ?_
      refine WC.ret ?_
      have hfin : bigB a = sigL (bbs a (la - 0)) := by rw [bigB, hla, Nat.sub_zero]
      rw [hfin]
      exact ret1 Tryz.results18 rfl fun w hw => ⟨o2, rfl, ho2, hw.sub ((List.sublist_append_right _ _).append_left _)⟩
end Go.Proofs.YtljoodllnaekbaaGreatDoor

namespace Go.Proofs.YtljoodllnaekbaaGreatDoor
open Go

theorem mpi_any (w0 w : World) (L : Heap) (Aa : Option Addr) (la ca : Nat) (a : List Nat) (hla : a.length = la) (hxa : a.length ≤ 1000) (hca : la ≤ ca) (hRa : Rd L Aa (bt a)) (hby : ∀ d ∈ a, d < 256) (hw : HW w0 L w) :
    Calls P 23 #[.slice Aa la ca] w (NewBytes w0 L (mpiL a)) := by
  have hsl := sigL_length a
  have hbl : bitsN a ≤ 8 * (sigL a).length := Nat.sub_le _ _
  refine enter (us := [.slice Aa la ca]) Tryz.func23 rfl Tryz.ntmps23 (by simp) rfl ?_ hw
  refine WC.seq ?_
  refine WC.region ?_
  refine WL.val (v_assign rfl) rfl ?_
  refine WL.nil ?_
  refine EX.next ?_
  refine WC.seq ?_
  refine WC.region ?_
  refine WL.val (v_move rfl) rfl ?_
  refine WL.act rfl (OW.call (xs := [.tmp 3]) Tryz.call37 rfl (fun w hw => bits_any w0 w _ _ _ _ a hla hxa hca hRa hby hw) rfl ?_)
  rintro r w' ⟨rfl, hw'⟩
  refine ⟨_, _, rfl, hw', ?_⟩
  refine WL.act rfl (OW.call (xs := [.tmp 4, .const (.int .i64 2)]) Tryz.call17 rfl (fun w hw => octets_any w0 w _ (bitsN a) 2 (by omega) (by omega) hw) rfl ?_)
  rintro r w' ⟨b1, rfl, hw'⟩
  refine ⟨_, _, rfl, hw', ?_⟩
  refine WL.val (v_move rfl) rfl ?_
  refine WL.act rfl (OW.call (xs := [.tmp 6]) Tryz.call32 rfl (fun w hw => significant_any w0 w _ _ _ _ a hla hxa hca (hRa.mono fun _ h => mS h) hw) rfl ?_)
  rintro r w' ⟨o, rfl, ho, hw'⟩
  refine ⟨_, _, rfl, hw', ?_⟩
  refine WL.act rfl (OW.append (o := some ⟨b1, []⟩) (data := bt (octL (bitsN a) 2)) (news := bt (sigL a)) (data' := bt (mpiL a)) (L1 := ownL 5 o (bt (sigL a)) ++ L) Tryz.runUnderlying23 Tryz.runUnderlying23 Tryz.sizeOf5 Tryz.typeInfo5 Tryz.zeroValue5 rfl rfl rfl rfl (fun _ h => (h.perm List.perm_middle)) (fun h => by simp at h) (Rd.mono (Rd.own ho) (fun _ h => (mS h))) (bt_one _) (by rw [bt_length, bt_length, octL_length, bytes5]; omega) (by rw [bt_length, bt_length, octL_length]; omega) (bt_append _ _).symm rfl (fun o2 ho2 => ?_))
  refine WL.val (v_assign rfl) rfl ?_
  refine WL.nil ?_
  refine EX.next ?_
  refine WC.ret ?_
  exact ret1 Tryz.results23 rfl fun w hw => ⟨o2, rfl, ho2, hw.sub ((List.sublist_append_right _ _).append_left _)⟩
end Go.Proofs.YtljoodllnaekbaaGreatDoor

namespace Go.Proofs.YtljoodllnaekbaaGreatDoor
open Go

theorem secretNumber_any (w0 w : World) (L : Heap) (Aa : Option Addr) (la ca : Nat) (a : List Nat) (hla : a.length = la) (hxa : a.length ≤ 100) (hca : la ≤ ca) (hRa : Rd L Aa (bt a)) (hby : ∀ d ∈ a, d < 256) (hw : HW w0 L w) :
    Calls P 11 #[.slice Aa la ca] w (NewBytes w0 L (secN a)) := by
  refine enter (us := [.slice Aa la ca]) Tryz.func11 rfl Tryz.ntmps11 (by simp) rfl ?_ hw
  refine WC.seq ?_
  refine WC.region ?_
  refine WL.val (v_assign rfl) rfl ?_
  refine WL.nil ?_
  refine EX.next ?_
  refine WC.seq ?_
  refine WC.region ?_
  refine WL.val (v_move rfl) rfl ?_
  refine WL.act rfl (OW.call (xs := [.tmp 3]) Tryz.call21 rfl (fun w hw => fromBytes_any w0 w _ _ _ _ a hby hla (by omega) hca hRa hw) rfl ?_)
  rintro r w' ⟨A_x, c_x, B_x, rfl, hc_x, hR_x, hw'⟩
  refine ⟨_, _, rfl, hw', ?_⟩
  have vx := fromB_valid hby
  have hlx := fromB_length a
  refine WL.act rfl (OW.buildSlice (us := bt Qb) (xs := [.const (.int .u8 255), .const (.int .u8 255), .const (.int .u8 255), .const (.int .u8 255), .const (.int .u8 255), .const (.int .u8 255), .const (.int .u8 255), .const (.int .u8 255), .const (.int .u8 255), .const (.int .u8 255), .const (.int .u8 255), .const (.int .u8 255), .const (.int .u8 255), .const (.int .u8 255), .const (.int .u8 255), .const (.int .u8 255), .const (.int .u8 255), .const (.int .u8 255), .const (.int .u8 255), .const (.int .u8 209)]) Tryz.runUnderlying23 Tryz.sizeOf5 Tryz.zeroValue5 rfl rfl rfl (by decide) rfl (fun b1 => ?_) rfl rfl)
  refine WL.act rfl (OW.mark Tryz.runUnderlying23 Tryz.runUnderlying5 rfl .here rfl ?_)
  refine WL.act rfl (OW.call (xs := [.tmp 6]) Tryz.call21 rfl (fun w hw => fromBytes_any w0 w _ _ _ _ Qb (by decide) (bt_length _).symm (by decide) (Nat.le_refl _) (show Rd _ _ (bt Qb) from Rd.whole m0) hw) rfl ?_)
  rintro r w' ⟨A_q, c_q, B_q, rfl, hc_q, hR_q, hw'⟩
  refine ⟨_, _, rfl, hw', ?_⟩
  refine WL.act rfl (OW.buildSlice (us := dg [1]) (xs := [.const (.int .i64 1)]) Tryz.runUnderlying71 Tryz.sizeOf3 Tryz.zeroValue3 rfl rfl rfl (by decide) rfl (fun b2 => ?_) rfl rfl)
  refine WL.act rfl (OW.call (xs := [.tmp 7, .tmp 8]) Tryz.call22 rfl (fun w hw => minus_any w0 w _ _ _ _ (fromB Qb) rfl (by rw [Qb_len]; decide) hc_q (Rd.mono hR_q (fun _ h => (mS h))) _ _ _ [1] (dg_length _).symm (by decide) (Nat.le_refl _) (show Rd _ _ (dg [1]) from Rd.whole m0) Qb_val one_val hw) rfl ?_)
  rintro r w' ⟨A_m, c_m, B_m, rfl, hc_m, hR_m, hw'⟩
  refine ⟨_, _, rfl, hw', ?_⟩
  refine WL.act rfl (OW.call (xs := [.tmp 4, .tmp 9]) Tryz.call20 rfl (fun w hw => rest_any w0 w _ _ _ _ (fromB a) rfl (by omega) hc_x (Rd.mono hR_x (fun _ h => (List.mem_append_right _ (mS (List.mem_append_right _ (mS h)))))) _ _ _ Qm rfl (by rw [Qm_len]; decide) hc_m hR_m 0 _ rfl Qm_mod vx hw) rfl ?_)
  rintro r w' ⟨A_r, c_r, B_r, rfl, hc_r, hR_r, hw'⟩
  refine ⟨_, _, rfl, hw', ?_⟩
  have hlr := restL_length Qm_mod (fromB a)
  have hlp := plusL_length (restL (fromB a) Qm 0) [1]
  simp only [List.length_cons, List.length_nil] at hlp
  refine WL.act rfl (OW.buildSlice (us := dg [1]) (xs := [.const (.int .i64 1)]) Tryz.runUnderlying71 Tryz.sizeOf3 Tryz.zeroValue3 rfl rfl rfl (by decide) rfl (fun b3 => ?_) rfl rfl)
  refine WL.act rfl (OW.call (xs := [.tmp 10, .tmp 11]) Tryz.call19 rfl (fun w hw => plus_any w0 w _ _ _ _ (restL (fromB a) Qm 0) rfl (by omega) hc_r (Rd.mono hR_r (fun _ h => (mS h))) _ _ _ [1] (dg_length _).symm (by decide) (Nat.le_refl _) (show Rd _ _ (dg [1]) from Rd.whole m0) (restL_valid _ _ _) one_val hw) rfl ?_)
  rintro r w' ⟨A_s, c_s, B_s, rfl, hc_s, hR_s, hw'⟩
  refine ⟨_, _, rfl, hw', ?_⟩
  refine WL.act rfl (OW.call (xs := [.tmp 12]) Tryz.call18 rfl (fun w hw => bigBytes_any w0 w _ _ _ _ (plusL (restL (fromB a) Qm 0) [1]) rfl (by omega) hc_s hR_s plusL_valid (by omega) hw) rfl ?_)
  rintro r w' ⟨o_e, rfl, ho_e, hw'⟩
  refine ⟨_, _, rfl, hw', ?_⟩
  refine WL.val (v_assign rfl) rfl ?_
  refine WL.nil ?_
  refine EX.next ?_
  refine WC.ret ?_
  unfold secN
  exact ret1 Tryz.results11 rfl fun w hw => ⟨o_e, rfl, ho_e, Sb.hw hw⟩
end Go.Proofs.YtljoodllnaekbaaGreatDoor

namespace Go.Proofs.YtljoodllnaekbaaGreatDoor
open Go

theorem publicNumber_any (w0 w : World) (L : Heap) (Aa : Option Addr) (la ca : Nat) (a : List Nat) (hla : a.length = la) (hxa : a.length ≤ 100) (hca : la ≤ ca) (hRa : Rd L Aa (bt a)) (hby : ∀ d ∈ a, d < 256) (hw : HW w0 L w) :
    Calls P 13 #[.slice Aa la ca] w (NewBytes w0 L (pubN a)) := by
  refine enter (us := [.slice Aa la ca]) Tryz.func13 rfl Tryz.ntmps13 (by simp) rfl ?_ hw
  refine WC.seq ?_
  refine WC.region ?_
  refine WL.val (v_assign rfl) rfl ?_
  refine WL.nil ?_
  refine EX.next ?_
  refine WC.seq ?_
  refine WC.region ?_
  refine WL.act rfl (OW.buildSlice (us := bt Gb) (xs := [.const (.int .u8 131), .const (.int .u8 5), .const (.int .u8 225), .const (.int .u8 200), .const (.int .u8 246), .const (.int .u8 133), .const (.int .u8 197), .const (.int .u8 165), .const (.int .u8 35), .const (.int .u8 209), .const (.int .u8 150), .const (.int .u8 65), .const (.int .u8 151), .const (.int .u8 215), .const (.int .u8 129), .const (.int .u8 228), .const (.int .u8 148), .const (.int .u8 103), .const (.int .u8 50), .const (.int .u8 126), .const (.int .u8 57), .const (.int .u8 130), .const (.int .u8 47), .const (.int .u8 61), .const (.int .u8 39)]) Tryz.runUnderlying23 Tryz.sizeOf5 Tryz.zeroValue5 rfl rfl rfl (by decide) rfl (fun b1 => ?_) rfl rfl)
  refine WL.act rfl (OW.mark Tryz.runUnderlying23 Tryz.runUnderlying5 rfl .here rfl ?_)
  refine WL.act rfl (OW.call (xs := [.tmp 4]) Tryz.call21 rfl (fun w hw => fromBytes_any w0 w _ _ _ _ Gb (by decide) (bt_length _).symm (by decide) (Nat.le_refl _) (show Rd _ _ (bt Gb) from Rd.whole m0) hw) rfl ?_)
  rintro r w' ⟨A_g, c_g, B_g, rfl, hc_g, hR_g, hw'⟩
  refine ⟨_, _, rfl, hw', ?_⟩
  refine WL.val (v_move rfl) rfl ?_
  refine WL.act rfl (OW.buildSlice (us := bt Pb) (xs := [.const (.int .u8 1), .const (.int .u8 0), .const (.int .u8 0), .const (.int .u8 0), .const (.int .u8 0), .const (.int .u8 1), .const (.int .u8 255), .const (.int .u8 255), .const (.int .u8 255), .const (.int .u8 255), .const (.int .u8 255), .const (.int .u8 255), .const (.int .u8 255), .const (.int .u8 255), .const (.int .u8 255), .const (.int .u8 255), .const (.int .u8 255), .const (.int .u8 255), .const (.int .u8 255), .const (.int .u8 255), .const (.int .u8 208), .const (.int .u8 255), .const (.int .u8 255), .const (.int .u8 255), .const (.int .u8 255), .const (.int .u8 163)]) Tryz.runUnderlying23 Tryz.sizeOf5 Tryz.zeroValue5 rfl rfl rfl (by decide) rfl (fun b2 => ?_) rfl rfl)
  refine WL.act rfl (OW.mark Tryz.runUnderlying23 Tryz.runUnderlying5 rfl .here rfl ?_)
  refine WL.act rfl (OW.call (xs := [.tmp 8]) Tryz.call21 rfl (fun w hw => fromBytes_any w0 w _ _ _ _ Pb (by decide) (bt_length _).symm (by decide) (Nat.le_refl _) (show Rd _ _ (bt Pb) from Rd.whole m0) hw) rfl ?_)
  rintro r w' ⟨A_p, c_p, B_p, rfl, hc_p, hR_p, hw'⟩
  refine ⟨_, _, rfl, hw', ?_⟩
  refine WL.act rfl (OW.call (xs := [.tmp 5, .tmp 6, .tmp 9]) Tryz.call24 rfl (fun w hw => power_any w0 w _ _ _ _ (fromB Gb) rfl (by rw [Gm_len]; decide) hc_g (Rd.mono hR_g (fun _ h => (List.mem_append_right _ (mS h)))) _ _ _ a hla (by omega) hca (Rd.mono hRa (fun _ h => (List.mem_append_right _ (mS (List.mem_append_right _ (mS h)))))) _ _ _ (fromB Pb) rfl (by rw [Pm_len]; decide) hc_p hR_p 7 Pm_mod Gm_val (by rw [Gm_len]; decide) hby hw) rfl ?_)
  rintro r w' ⟨A_y, c_y, B_y, rfl, hc_y, hR_y, hw'⟩
  refine ⟨_, _, rfl, hw', ?_⟩
  have hly : (powL (fromB Gb) a (fromB Pb) 7).length ≤ 13 := powL_len (by rw [Pm2_len]; exact Nat.le_refl _) (by decide) a
  refine WL.act rfl (OW.call (xs := [.tmp 10]) Tryz.call18 rfl (fun w hw => bigBytes_any w0 w _ _ _ _ (powL (fromB Gb) a (fromB Pb) 7) rfl (by omega) hc_y hR_y (powL_valid _ _ _ _) (by omega) hw) rfl ?_)
  rintro r w' ⟨o_e, rfl, ho_e, hw'⟩
  refine ⟨_, _, rfl, hw', ?_⟩
  refine WL.val (v_assign rfl) rfl ?_
  refine WL.nil ?_
  refine EX.next ?_
  refine WC.ret ?_
  unfold pubN
  exact ret1 Tryz.results13 rfl fun w hw => ⟨o_e, rfl, ho_e, Sb.hw hw⟩
end Go.Proofs.YtljoodllnaekbaaGreatDoor

namespace Go.Proofs.YtljoodllnaekbaaGreatDoor
open Go

theorem groupKey_any (w0 w : World) (L : Heap) (ver created : Nat) (Aa : Option Addr) (la ca : Nat) (a : List Nat) (hla : a.length = la) (hxa : a.length ≤ 100) (hca : la ≤ ca) (hRa : Rd L Aa (bt a)) (hby : ∀ d ∈ a, d < 256) (hw : HW w0 L w) :
    Calls P 12 #[.int .i64 (ver : Int), .int .u32 (created : Int), .slice Aa la ca] w fun e w' => ∃ v B, e = .returned v ∧ KeyIs B v ver created (keyN a) ∧ HW w0 (B ++ L) w' := by
  refine enter (us := [.int .i64 (ver : Int), .int .u32 (created : Int), .slice Aa la ca]) Tryz.func12 rfl Tryz.ntmps12 (by simp) rfl ?_ hw
  refine WC.seq ?_
  refine WC.region ?_
  refine WL.act rfl (OW.alloc Tryz.zeroValue29 rfl (fun k => ?_))
  refine WL.nil ?_
  refine EX.next ?_
  refine WC.seq ?_
  refine WC.region ?_
  refine WL.val (v_move rfl) rfl ?_
  refine WL.val (v_move rfl) rfl ?_
  refine WL.act rfl (OW.buildSlice (us := bt Pb) (xs := [.const (.int .u8 1), .const (.int .u8 0), .const (.int .u8 0), .const (.int .u8 0), .const (.int .u8 0), .const (.int .u8 1), .const (.int .u8 255), .const (.int .u8 255), .const (.int .u8 255), .const (.int .u8 255), .const (.int .u8 255), .const (.int .u8 255), .const (.int .u8 255), .const (.int .u8 255), .const (.int .u8 255), .const (.int .u8 255), .const (.int .u8 255), .const (.int .u8 255), .const (.int .u8 255), .const (.int .u8 255), .const (.int .u8 208), .const (.int .u8 255), .const (.int .u8 255), .const (.int .u8 255), .const (.int .u8 255), .const (.int .u8 163)]) Tryz.runUnderlying23 Tryz.sizeOf5 Tryz.zeroValue5 rfl rfl rfl (by decide) rfl (fun b1 => ?_) rfl rfl)
  refine WL.act rfl (OW.mark Tryz.runUnderlying23 Tryz.runUnderlying5 rfl .here rfl ?_)
  refine WL.act rfl (OW.call (xs := [.tmp 10]) Tryz.call23 rfl (fun w hw => mpi_any w0 w _ _ _ _ Pb (bt_length _).symm (by decide) (Nat.le_refl _) (show Rd _ _ (bt Pb) from Rd.whole m0) (by decide) hw) rfl ?_)
  rintro r w' ⟨o_p, rfl, ho_p, hw'⟩
  refine ⟨_, _, rfl, hw', ?_⟩
  refine WL.act rfl (OW.buildSlice (us := bt Qb) (xs := [.const (.int .u8 255), .const (.int .u8 255), .const (.int .u8 255), .const (.int .u8 255), .const (.int .u8 255), .const (.int .u8 255), .const (.int .u8 255), .const (.int .u8 255), .const (.int .u8 255), .const (.int .u8 255), .const (.int .u8 255), .const (.int .u8 255), .const (.int .u8 255), .const (.int .u8 255), .const (.int .u8 255), .const (.int .u8 255), .const (.int .u8 255), .const (.int .u8 255), .const (.int .u8 255), .const (.int .u8 209)]) Tryz.runUnderlying23 Tryz.sizeOf5 Tryz.zeroValue5 rfl rfl rfl (by decide) rfl (fun b2 => ?_) rfl rfl)
  refine WL.act rfl (OW.mark Tryz.runUnderlying23 Tryz.runUnderlying5 rfl .here rfl ?_)
  refine WL.act rfl (OW.call (xs := [.tmp 13]) Tryz.call23 rfl (fun w hw => mpi_any w0 w _ _ _ _ Qb (bt_length _).symm (by decide) (Nat.le_refl _) (show Rd _ _ (bt Qb) from Rd.whole m0) (by decide) hw) rfl ?_)
  rintro r w' ⟨o_q, rfl, ho_q, hw'⟩
  refine ⟨_, _, rfl, hw', ?_⟩
  refine WL.act rfl (OW.buildSlice (us := bt Gb) (xs := [.const (.int .u8 131), .const (.int .u8 5), .const (.int .u8 225), .const (.int .u8 200), .const (.int .u8 246), .const (.int .u8 133), .const (.int .u8 197), .const (.int .u8 165), .const (.int .u8 35), .const (.int .u8 209), .const (.int .u8 150), .const (.int .u8 65), .const (.int .u8 151), .const (.int .u8 215), .const (.int .u8 129), .const (.int .u8 228), .const (.int .u8 148), .const (.int .u8 103), .const (.int .u8 50), .const (.int .u8 126), .const (.int .u8 57), .const (.int .u8 130), .const (.int .u8 47), .const (.int .u8 61), .const (.int .u8 39)]) Tryz.runUnderlying23 Tryz.sizeOf5 Tryz.zeroValue5 rfl rfl rfl (by decide) rfl (fun b3 => ?_) rfl rfl)
  refine WL.act rfl (OW.mark Tryz.runUnderlying23 Tryz.runUnderlying5 rfl .here rfl ?_)
  refine WL.act rfl (OW.call (xs := [.tmp 16]) Tryz.call23 rfl (fun w hw => mpi_any w0 w _ _ _ _ Gb (bt_length _).symm (by decide) (Nat.le_refl _) (show Rd _ _ (bt Gb) from Rd.whole m0) (by decide) hw) rfl ?_)
  rintro r w' ⟨o_g, rfl, ho_g, hw'⟩
  refine ⟨_, _, rfl, hw', ?_⟩
  refine WL.val (v_move rfl) rfl ?_
  refine WL.act rfl (OW.call (xs := [.tmp 18]) Tryz.call13 rfl (fun w hw => publicNumber_any w0 w _ _ _ _ a hla hxa hca (Rd.mono hRa (fun _ h => (List.mem_append_right _ (mS (List.mem_append_right _ (mS (List.mem_append_right _ (mS (mS h))))))))) hby hw) rfl ?_)
  rintro r w' ⟨o_y, rfl, ho_y, hw'⟩
  refine ⟨_, _, rfl, hw', ?_⟩
  refine WL.act rfl (OW.call (xs := [.tmp 19]) Tryz.call23 rfl (fun w hw => mpi_any w0 w _ _ _ _ (pubN a) (bt_length _).symm (by have := pubN_length a; omega) (ownC_le ho_y) (Rd.own ho_y) (pubN_byte a) hw) rfl ?_)
  rintro r w' ⟨o_z, rfl, ho_z, hw'⟩
  refine ⟨_, _, rfl, hw', ?_⟩
  have hqs : [ownV o_p (bt (mpiL Pb)), ownV o_q (bt (mpiL Qb)), ownV o_g (bt (mpiL Gb)), ownV o_z (bt (mpiL (pubN a)))] = [(ownA o_p, ownC o_p (bt (mpiL Pb)), mpiL Pb), (ownA o_q, ownC o_q (bt (mpiL Qb)), mpiL Qb), (ownA o_g, ownC o_g (bt (mpiL Gb)), mpiL Gb), (ownA o_z, ownC o_z (bt (mpiL (pubN a))), mpiL (pubN a))].map slV := by rw [slV_own, slV_own, slV_own, slV_own]; rfl
  refine WL.act rfl (OW.buildSlice (us := [ownV o_p (bt (mpiL Pb)), ownV o_q (bt (mpiL Qb)), ownV o_g (bt (mpiL Gb)), ownV o_z (bt (mpiL (pubN a)))]) (xs := [.tmp 11, .tmp 14, .tmp 17, .tmp 20]) Tryz.runUnderlying27 Tryz.sizeOf23 Tryz.zeroValue23 rfl rfl rfl (by simp) rfl (fun b4 => ?_) rfl rfl)
  rw [hqs]
  refine WL.val (v_build (is := [0, 1, 2, 3]) (xs := [.tmp 7, .const (.int .i64 17), .tmp 8, .tmp 21]) rfl rfl rfl build29) rfl ?_
  refine WL.act rfl (OW.storeAgg Tryz.sizeOf29 rfl rfl rfl rfl (overlay_all _ _ (by rfl)) (.there (At.over (At.over (At.over (.there (At.over (.there (At.over (.there .here) _)) _)) _) _) _)) (Nat.le_refl _) ?_)
  refine WL.nil ?_
  refine EX.next ?_
  refine WC.ret ?_
  refine retC Tryz.results12 Tryz.isAgg29 Tryz.sizeOf29 rfl (mS (List.mem_append_right _ (List.mem_append_right _ (List.mem_append_right _ (mS (List.mem_append_right _ (mS (List.mem_append_right _ (mS m0))))))))) rfl fun w hw => ⟨_, (b4, blk 23 (0, 0) ([(ownA o_p, ownC o_p (bt (mpiL Pb)), mpiL Pb), (ownA o_q, ownC o_q (bt (mpiL Qb)), mpiL Qb), (ownA o_g, ownC o_g (bt (mpiL Gb)), mpiL Gb), (ownA o_z, ownC o_z (bt (mpiL (pubN a))), mpiL (pubN a))].map slV)) :: (ownL 5 o_z (bt (mpiL (pubN a))) ++ (ownL 5 o_g (bt (mpiL Gb)) ++ (ownL 5 o_q (bt (mpiL Qb)) ++ ownL 5 o_p (bt (mpiL Pb))))), rfl, ⟨b4, [(ownA o_p, ownC o_p (bt (mpiL Pb)), mpiL Pb), (ownA o_q, ownC o_q (bt (mpiL Qb)), mpiL Qb), (ownA o_g, ownC o_g (bt (mpiL Gb)), mpiL Gb), (ownA o_z, ownC o_z (bt (mpiL (pubN a))), mpiL (pubN a))], rfl, rfl, ?_, ?_⟩, ?_⟩
  · exact m0
  · intro q hq
    simp only [List.mem_cons, List.not_mem_nil, or_false] at hq
    rcases hq with rfl | rfl | rfl | rfl
    · exact (Lies.own (L := []) ho_p).mono (fun x hx => by simp only [List.append_nil] at hx; simp [hx])
    · exact (Lies.own (L := []) ho_q).mono (fun x hx => by simp only [List.append_nil] at hx; simp [hx])
    · exact (Lies.own (L := []) ho_g).mono (fun x hx => by simp only [List.append_nil] at hx; simp [hx])
    · exact (Lies.own (L := []) ho_z).mono (fun x hx => by simp only [List.append_nil] at hx; simp [hx])
  · have h9 : HW w0 ((b4, blk 23 (0, 0) ([(ownA o_p, ownC o_p (bt (mpiL Pb)), mpiL Pb), (ownA o_q, ownC o_q (bt (mpiL Qb)), mpiL Qb), (ownA o_g, ownC o_g (bt (mpiL Gb)), mpiL Gb), (ownA o_z, ownC o_z (bt (mpiL (pubN a))), mpiL (pubN a))].map slV)) :: (ownL 5 o_z (bt (mpiL (pubN a))) ++ (ownL 5 o_g (bt (mpiL Gb)) ++ (ownL 5 o_q (bt (mpiL Qb)) ++ (ownL 5 o_p (bt (mpiL Pb)) ++ L))))) w := Sb.hw hw
    simpa only [List.append_assoc, List.cons_append] using h9
end Go.Proofs.YtljoodllnaekbaaGreatDoor

namespace Go.Proofs.YtljoodllnaekbaaGreatDoor
open Go

theorem keyBody_any (w0 w : World) (L : Heap) (ver created : Nat) (ns : List (List Nat)) (v : Value) (hk : KeyIs L v ver created ns) (hs : ns.flatten.length ≤ 60000) (hn1000 : ns.length ≤ 1000) (hv : ver < 1000) (hc : created < 4294967296) (hw : HW w0 L w) :
    Calls P 10 #[v] w (NewBytes w0 L (bodyL ver created ns)) := by
  obtain ⟨b, qs, rfl, hns, hb, hqs⟩ := hk
  have hnl : qs.length = ns.length := by rw [← hns, List.length_map]
  refine enter (us := [.agg #[.int .i64 (ver : Int), .int .i64 17, .int .u32 (created : Int), .slice (some ⟨b, 0, none⟩) ns.length ns.length]]) Tryz.func10 rfl Tryz.ntmps10 (by simp) rfl ?_ hw
  refine WC.seq ?_
  refine WC.region ?_
  refine WL.act rfl (OW.box (us := [.int .i64 (ver : Int), .int .i64 17, .int .u32 (created : Int), .slice (some ⟨b, 0, none⟩) ns.length ns.length]) rfl rfl rfl (fun kb => ?_))
  refine WL.val (v_assign rfl) rfl ?_
  refine WL.nil ?_
  refine EX.next ?_
  refine WC.seq ?_
  refine WC.region ?_
  refine WL.val (v_assign rfl) rfl ?_
  refine WL.nil ?_
  refine EX.next ?_
  refine WC.seq ?_
  refine WC.seq ?_
  refine WC.region ?_
  refine WL.val (v_field Tryz.runUnderlying29 rfl Tryz.sizeOf27 (by decide) rfl) rfl ?_
  refine WL.val (v_load Tryz.isAgg27 rfl m0 rfl) rfl ?_
  refine WL.val (v_len Tryz.runUnderlying27 rfl) rfl ?_
  refine WL.val (v_move rfl) rfl ?_
  refine WL.nil ?_
  refine EX.next ?_
  refine WC.block ?_
  refine WC.loop (fun mm ac wl => ∃ i : Nat, ∃ o : Option Own, (ns.length - i = mm) ∧ (i ≤ ns.length) ∧ (o = none → bt (ns.take i).flatten = []) ∧ St w0 44 [(1, .pointer (some ⟨kb, 0, none⟩)), (3, ownV o (bt (ns.take i).flatten)), (8, .slice (some ⟨b, 0, none⟩) ns.length ns.length), (9, .int .i64 (ns.length : Int)), (10, .int .i64 (i : Int))] (ownL 5 o (bt (ns.take i).flatten) ++ ((kb, blk 29 (0, 0) [.int .i64 (ver : Int), .int .i64 17, .int .u32 (created : Int), .slice (some ⟨b, 0, none⟩) ns.length ns.length]) :: L)) ac wl) (ns.length) ?_ ?_
  · intro ac wl hS
    exact ⟨0, none, rfl, Nat.zero_le _, fun _ => rfl, hS.keep ⟨rfl, rfl, rfl, rfl, rfl, trivial⟩⟩
  · rintro mm ac wl ⟨i, o, hm, hi, ho, hS⟩
    subst hm
    revert ac wl
    refine KS.out ?_
    refine WC.seq ?_
    refine WC.region ?_
    refine WL.val (v_lss rfl rfl) rfl ?_
    refine WL.nil ?_
    refine EX.next ?_
    refine WC.seq ?_
    refine WC.cond rfl ?_ ?_
    · intro hb3
      have hlt : i < ns.length := by have := of_decide_eq_true hb3; omega
      obtain ⟨q, hq⟩ : ∃ q, qs[i]? = some q := ⟨_, List.getElem?_eq_getElem (by omega)⟩
      have hq1 : (qs.map slV)[i]? = some (slV q) := by rw [List.getElem?_map, hq]; rfl
      have hq2 : ns[i]? = some q.2.2 := by rw [← hns, List.getElem?_map, hq]; rfl
      have hql := hqs q (List.mem_of_getElem? hq)
      have hfl := flat_take hq2
      refine WC.skip ?_
      refine EX.next ?_
      refine WC.seq ?_
      refine WC.block ?_
      refine WC.seq ?_
      refine WC.region ?_
      refine WL.val (n_index Tryz.runUnderlying27 Tryz.sizeOf23 rfl rfl (Rd.mono (Rd.whole hb) (fun _ h => (List.mem_append_right _ (mS h)))) (by omega) (by rw [List.length_map]; omega)) rfl ?_
      refine WL.val (v_load_rd Tryz.isAgg23 rfl (Rd.mono (Rd.whole hb) (fun _ h => (List.mem_append_right _ (mS h)))) hq1) rfl ?_
      refine WL.val (v_assign rfl) rfl ?_
      refine WL.nil ?_
      refine EX.next ?_
      refine WC.region ?_
      refine WL.val (v_move rfl) rfl ?_
      refine WL.val (v_move rfl) rfl ?_
      refine WL.act rfl (OW.append (o := o) (data := bt (ns.take i).flatten) (news := bt q.2.2) (data' := bt (ns.take (i + 1)).flatten) (L1 := (kb, blk 29 (0, 0) [.int .i64 (ver : Int), .int .i64 17, .int .u32 (created : Int), .slice (some ⟨b, 0, none⟩) ns.length ns.length]) :: L) Tryz.runUnderlying23 Tryz.runUnderlying23 Tryz.sizeOf5 Tryz.typeInfo5 Tryz.zeroValue5 rfl rfl rfl (by first | rfl | exact (bt_length _).symm | rw [bt_length, octL_length]) (fun _ h => h) ho (hql.rd.mono (fun _ h => (List.mem_append_right _ (mS h)))) (bt_one _) (by rw [bt_length, bt_length]; rw [bytes5]; omega) (by rw [bt_length, bt_length]; omega) (by rw [← bt_append, ← hfl.1]) rfl (fun o1 ho1 => ?_))
      refine WL.val (v_assign rfl) rfl ?_
      refine WL.nil ?_
      refine EX.normal_block ?_
      refine EX.next ?_
      refine WC.region ?_
      refine WL.val (n_add1 rfl rfl (show (1 : Int) = ((1 : Nat) : Int) from rfl) (by omega)) rfl ?_
      refine WL.val (v_move rfl) rfl ?_
      refine WL.nil ?_
      refine EX.to ?_
      exact KS.mk fun b w hS => ⟨ns.length - (i + 1), by omega, i + 1, o1, rfl, by omega, ho1, hS.keep ⟨rfl, rfl, rfl, rfl, rfl, trivial⟩⟩
    · intro hb3
      have hge : i = ns.length := by have := of_decide_eq_false hb3; omega
      rw [hge, List.take_length]
      rw [hge, List.take_length] at ho
      refine WC.exit ?_
      refine EX.exit_then ?_
      refine EX.exit_then ?_
      refine EX.exit_here ?_
      refine EX.next ?_
      refine WC.cut (fun ac wl => ∃ o6 : Option Own, (o6 = none → bt ([ver % 256] ++ octL created 4) = []) ∧ St w0 44 [(1, .pointer (some ⟨kb, 0, none⟩)), (3, ownV o (bt ns.flatten)), (6, ownV o6 (bt ([ver % 256] ++ octL created 4)))] (ownL 5 o6 (bt ([ver % 256] ++ octL created 4)) ++ (ownL 5 o (bt ns.flatten) ++ ((kb, blk 29 (0, 0) [.int .i64 (ver : Int), .int .i64 17, .int .u32 (created : Int), .slice (some ⟨b, 0, none⟩) ns.length ns.length]) :: L))) ac wl) ?_ ?_
      · skip
        refine WC.draw (_) (.quiet 0 (.quiet 1 (.quiet 2 (.quiet 4 (.quiet 5 (.quiet 6 (.two 3 (.one 7 (.one 8 (.quiet 9 .done))) 7 (.one 3 (.one 8 (.quiet 9 .done)))))))))) (by kernel_rfl) (fun _ h => h) ?_
        refine AK.quiet rfl (v_field Tryz.runUnderlying29 rfl Tryz.sizeOf3 (by decide) rfl) rfl ?_
        refine AK.quiet rfl (v_load Tryz.isAgg3 rfl (List.mem_append_right _ m0) rfl) rfl ?_
        refine AK.quiet rfl (n_byte Tryz.runUnderlying3 Tryz.runUnderlying5 rfl) rfl ?_
        refine AK.quiet rfl (v_field Tryz.runUnderlying29 rfl Tryz.sizeOf22 (by decide) rfl) rfl ?_
        refine AK.quiet rfl (v_load Tryz.isAgg22 rfl (List.mem_append_right _ m0) rfl) rfl ?_
        refine AK.quiet rfl (n_int Tryz.runUnderlying22 Tryz.runUnderlying3 rfl (by omega)) rfl ?_
        refine AK.two rfl rfl ?_ rfl rfl ?_
        · skip
          refine OW.buildSlice (xs := [.tmp 20]) Tryz.runUnderlying23 Tryz.sizeOf5 Tryz.zeroValue5 rfl rfl rfl (by simp) rfl (fun b1 => ?_) rfl rfl
          refine AK.on (fun _ => Sb.hw) ?_
          refine AK.one rfl rfl (OW.call (xs := [.tmp 24, .const (.int .i64 4)]) Tryz.call17 rfl (fun w hw => octets_any w0 w _ created 4 (by omega) (by omega) hw) rfl ?_)
          rintro r w' ⟨b8, rfl, hw'⟩
          refine ⟨_, _, rfl, hw', ?_⟩
          refine AK.on (fun _ => Sb.hw) ?_
          refine AK.one rfl rfl (OW.append (o := some ⟨b1, []⟩) (data := bt [ver % 256]) (news := bt (octL created 4)) (data' := bt ([ver % 256] ++ octL created 4)) (L1 := (b8, blk 5 (0, 0) (bt (octL created 4))) :: (ownL 5 o (bt ns.flatten) ++ ((kb, blk 29 (0, 0) [.int .i64 (ver : Int), .int .i64 17, .int .u32 (created : Int), .slice (some ⟨b, 0, none⟩) ns.length ns.length]) :: L))) Tryz.runUnderlying23 Tryz.runUnderlying23 Tryz.sizeOf5 Tryz.typeInfo5 Tryz.zeroValue5 rfl rfl rfl (by first | rfl | exact (bt_length _).symm | rw [bt_length, octL_length]) (fun _ h => h.perm (.swap _ _ _)) (fun h => by simp at h) (Rd.whole (mS m0)) (bt_one _) (by rw [bt_length, bt_length, octL_length]; simp only [List.length_cons, List.length_nil]; rw [bytes5]; omega) (by rw [bt_length, bt_length, octL_length]; simp only [List.length_cons, List.length_nil]; omega) (bt_append _ _).symm rfl (fun o6 ho6 => ?_))
          refine AK.on (fun _ => Sb.hw) ?_
          refine AK.quiet rfl (v_assign rfl) rfl ?_
          refine AK.done ?_
          refine EX.to ?_
          exact KS.mk fun b w hS => ⟨o6, ho6, (hS.heap' (Sb.hw hS.mem)).keep ⟨rfl, rfl, rfl, trivial⟩⟩
        · skip
          refine OW.call (xs := [.tmp 24, .const (.int .i64 4)]) Tryz.call17 rfl (fun w hw => octets_any w0 w _ created 4 (by omega) (by omega) hw) rfl ?_
          rintro r w' ⟨b8, rfl, hw'⟩
          refine ⟨_, _, rfl, hw', ?_⟩
          refine AK.on (fun _ => Sb.hw) ?_
          refine AK.one rfl rfl (OW.buildSlice (xs := [.tmp 20]) Tryz.runUnderlying23 Tryz.sizeOf5 Tryz.zeroValue5 rfl rfl rfl (by simp) rfl (fun b2 => ?_) rfl rfl)
          refine AK.on (fun _ => Sb.hw) ?_
          refine AK.one rfl rfl (OW.append (o := some ⟨b2, []⟩) (data := bt [ver % 256]) (news := bt (octL created 4)) (data' := bt ([ver % 256] ++ octL created 4)) (L1 := (b8, blk 5 (0, 0) (bt (octL created 4))) :: (ownL 5 o (bt ns.flatten) ++ ((kb, blk 29 (0, 0) [.int .i64 (ver : Int), .int .i64 17, .int .u32 (created : Int), .slice (some ⟨b, 0, none⟩) ns.length ns.length]) :: L))) Tryz.runUnderlying23 Tryz.runUnderlying23 Tryz.sizeOf5 Tryz.typeInfo5 Tryz.zeroValue5 rfl rfl rfl (by first | rfl | exact (bt_length _).symm | rw [bt_length, octL_length]) (fun _ h => h) (fun h => by simp at h) (Rd.whole (mS m0)) (bt_one _) (by rw [bt_length, bt_length, octL_length]; simp only [List.length_cons, List.length_nil]; rw [bytes5]; omega) (by rw [bt_length, bt_length, octL_length]; simp only [List.length_cons, List.length_nil]; omega) (bt_append _ _).symm rfl (fun o6 ho6 => ?_))
          refine AK.on (fun _ => Sb.hw) ?_
          refine AK.quiet rfl (v_assign rfl) rfl ?_
          refine AK.done ?_
          refine EX.to ?_
          exact KS.mk fun b w hS => ⟨o6, ho6, (hS.heap' (Sb.hw hS.mem)).keep ⟨rfl, rfl, rfl, trivial⟩⟩
      · rintro ac wl ⟨o6, ho6, hS⟩
        revert ac wl
        refine KS.out ?_
        refine WC.seq ?_
        refine WC.region ?_
        refine WL.val (v_move rfl) rfl ?_
        refine WL.val (v_field Tryz.runUnderlying29 rfl Tryz.sizeOf3 (by decide) rfl) rfl ?_
        refine WL.val (v_load Tryz.isAgg3 rfl (List.mem_append_right _ (List.mem_append_right _ m0)) rfl) rfl ?_
        refine WL.val (n_byte (m := 17) Tryz.runUnderlying3 Tryz.runUnderlying5 rfl) rfl ?_
        refine WL.act rfl (OW.buildSlice (xs := [.tmp 30]) Tryz.runUnderlying23 Tryz.sizeOf5 Tryz.zeroValue5 rfl rfl rfl (by simp) rfl (fun b3 => ?_) rfl rfl)
        refine WL.act rfl (OW.appendLit (data := bt ([ver % 256] ++ octL created 4)) (data' := bt ([ver % 256] ++ octL created 4 ++ [17])) Tryz.runUnderlying23 Tryz.runUnderlying23 Tryz.sizeOf5 Tryz.typeInfo5 Tryz.zeroValue5 rfl rfl rfl rfl ho6 rfl (by rw [bt_length, List.length_append, octL_length]; simp only [bytes5, List.length_cons, List.length_nil]; omega) (by rw [bt_length, List.length_append, octL_length]; simp only [bytes5, List.length_cons, List.length_nil]; omega) (bt_snoc _ _) rfl (fun o7 ho7 => ?_))
        refine WL.val (v_assign rfl) rfl ?_
        refine WL.nil ?_
        refine EX.next ?_
        refine WC.cut (fun ac wl => ∃ o6 : Option Own, (o6 = none → bt ([ver % 256] ++ octL created 4 ++ [17] ++ (if ver = 6 then octL ns.flatten.length 4 else [])) = []) ∧ St w0 44 [(1, .pointer (some ⟨kb, 0, none⟩)), (3, ownV o (bt ns.flatten)), (6, ownV o6 (bt ([ver % 256] ++ octL created 4 ++ [17] ++ (if ver = 6 then octL ns.flatten.length 4 else []))))] (ownL 5 o6 (bt ([ver % 256] ++ octL created 4 ++ [17] ++ (if ver = 6 then octL ns.flatten.length 4 else []))) ++ (ownL 5 o (bt ns.flatten) ++ ((kb, blk 29 (0, 0) [.int .i64 (ver : Int), .int .i64 17, .int .u32 (created : Int), .slice (some ⟨b, 0, none⟩) ns.length ns.length]) :: L))) ac wl) ?_ ?_
        · skip
          refine WC.seq ?_
          refine WC.region ?_
          refine WL.val (v_field Tryz.runUnderlying29 rfl Tryz.sizeOf3 (by decide) rfl) rfl ?_
          refine WL.val (v_load Tryz.isAgg3 rfl (List.mem_append_right _ (List.mem_append_right _ m0)) rfl) rfl ?_
          refine WL.val (v_eql rfl rfl) rfl ?_
          refine WL.nil ?_
          refine EX.next ?_
          refine WC.cond rfl ?_ ?_
          · intro hb9
            have hv6 : ver = 6 := by have := beq_iff_eq.1 hb9; omega
            refine WC.region ?_
            refine WL.val (v_move rfl) rfl ?_
            refine WL.val (v_move rfl) rfl ?_
            refine WL.val (v_lenE Tryz.runUnderlying23 rfl (bt_length _)) rfl ?_
            refine WL.act rfl (OW.call (xs := [.tmp 38, .const (.int .i64 4)]) Tryz.call17 rfl (fun w hw => octets_any w0 w _ ns.flatten.length 4 (by omega) (by omega) hw) rfl ?_)
            rintro r w' ⟨b9, rfl, hw'⟩
            refine ⟨_, _, rfl, hw', ?_⟩
            refine WL.act rfl (OW.append (o := o7) (data := bt ([ver % 256] ++ octL created 4 ++ [17])) (news := bt (octL ns.flatten.length 4)) (data' := bt ([ver % 256] ++ octL created 4 ++ [17] ++ octL ns.flatten.length 4)) (L1 := (b9, blk 5 (0, 0) (bt (octL ns.flatten.length 4))) :: (ownL 5 o (bt ns.flatten) ++ ((kb, blk 29 (0, 0) [.int .i64 (ver : Int), .int .i64 17, .int .u32 (created : Int), .slice (some ⟨b, 0, none⟩) ns.length ns.length]) :: L))) Tryz.runUnderlying23 Tryz.runUnderlying23 Tryz.sizeOf5 Tryz.typeInfo5 Tryz.zeroValue5 rfl rfl rfl (by first | rfl | exact (bt_length _).symm | rw [bt_length, octL_length]) (fun _ h => h.perm List.perm_middle.symm) ho7 (Rd.whole (List.mem_append_right _ m0)) (bt_one _) (by rw [bt_length, bt_length, List.length_append, List.length_append, octL_length, octL_length]; simp only [List.length_cons, List.length_nil]; rw [bytes5]; omega) (by rw [bt_length, bt_length, List.length_append, List.length_append, octL_length, octL_length]; simp only [List.length_cons, List.length_nil]; omega) (bt_append _ _).symm rfl (fun o8 ho8 => ?_))
            refine WL.val (v_assign rfl) rfl ?_
            refine WL.nil ?_
            refine EX.to ?_
            rw [if_pos hv6]
            exact KS.mk fun b w hS => ⟨o8, ho8, (hS.heap' (Sb.hw hS.mem)).keep ⟨rfl, rfl, rfl, trivial⟩⟩
          · intro hb9
            have hv6 : ver ≠ 6 := by intro h; rw [h] at hb9; simp at hb9
            refine WC.skip ?_
            refine EX.to ?_
            rw [if_neg hv6, List.append_nil]
            exact KS.mk fun b w hS => ⟨o7, ho7, hS.keep ⟨rfl, rfl, rfl, trivial⟩⟩
        · rintro ac wl ⟨o6, ho6, hS⟩
          revert ac wl
          refine KS.out ?_
          refine WC.seq ?_
          refine WC.region ?_
          refine WL.val (v_move rfl) rfl ?_
          refine WL.val (v_move rfl) rfl ?_
          refine WL.act rfl (OW.append (o := o6) (data := bt ([ver % 256] ++ octL created 4 ++ [17] ++ (if ver = 6 then octL ns.flatten.length 4 else []))) (news := bt ns.flatten) (data' := bt (bodyL ver created ns)) (L1 := ownL 5 o (bt ns.flatten) ++ ((kb, blk 29 (0, 0) [.int .i64 (ver : Int), .int .i64 17, .int .u32 (created : Int), .slice (some ⟨b, 0, none⟩) ns.length ns.length]) :: L)) Tryz.runUnderlying23 Tryz.runUnderlying23 Tryz.sizeOf5 Tryz.typeInfo5 Tryz.zeroValue5 rfl rfl rfl (by first | rfl | exact (bt_length _).symm | rw [bt_length, octL_length]) (fun _ h => h) ho6 ((Rd.own ho).mono (fun _ h => List.mem_append_right _ h)) (bt_one _) (by rw [bt_length, bt_length]; have := bodyL_head ver created ns; rw [bytes5]; omega) (by rw [bt_length, bt_length]; have := bodyL_head ver created ns; omega) (bt_append _ _).symm rfl (fun o9 ho9 => ?_))
          refine WL.val (v_assign rfl) rfl ?_
          refine WL.nil ?_
          refine EX.next ?_
          refine WC.ret ?_
          exact ret1 Tryz.results10 rfl fun w hw => ⟨o9, rfl, ho9, Sb.hw hw⟩
end Go.Proofs.YtljoodllnaekbaaGreatDoor
