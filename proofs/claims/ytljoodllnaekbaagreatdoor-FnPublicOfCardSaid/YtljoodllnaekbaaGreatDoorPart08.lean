/- Part 8 of the proof. 'encoding/binary': numbers laid, and read. SHA-256: the sum. SHA-1: the sum. SHA-256: a digest is made. SHA-1: a digest is made. A key is written to a hash. 'setFingerprintAndKeyId' ends, and changes only these two. Keys in memory: the numbers given, and what is built of them. 'UpgradeToV6'. 'impl.numbers'. No condition. -/
import Derived.Test.YtljoodllnaekbaaGreatDoorPart07
namespace Go.Proofs.YtljoodllnaekbaaGreatDoor
open Go

theorem uint64_any (w0 w : World) (L : Heap) (Aa : Option Addr) (la ca : Nat) (ps : List Int) (h8 : 8 ≤ la) (hla : la ≤ ps.length) (hR : Rd L Aa (i8 ps)) (hw : HW w0 L w) :
    Calls P 56 #[.agg #[], .slice Aa la ca] w fun e w' => ∃ y, e = .returned (.int .u64 y) ∧ HW w0 L w' := by
  refine enter (us := [.agg #[], .slice Aa la ca]) Tryz.func56 rfl Tryz.ntmps56 (by simp) rfl ?_ hw
  refine WC.seq ?_
  refine WC.region ?_
  refine WL.act rfl (OW.box (us := []) rfl rfl rfl (fun bx => ?_))
  refine WL.val (v_assign rfl) rfl ?_
  refine WL.nil ?_
  refine EX.next ?_
  refine WC.seq ?_
  refine WC.region ?_
  refine WL.val (v_move rfl) rfl ?_
  refine WL.val (n_index (m := 7) Tryz.runUnderlying23 Tryz.sizeOf5 rfl (show _ = some (Value.int .i64 ((7 : Nat) : Int)) from rfl) (Rd.mono hR (fun _ h => (mS h))) (by omega) (by rw [i8_length]; omega)) rfl ?_
  refine WL.val (v_load_rd Tryz.isAgg5 rfl (Rd.mono hR (fun _ h => (mS h))) (i8_at (by omega))) rfl ?_
  refine WL.nil ?_
  refine EX.next ?_
  refine WC.seq ?_
  refine WC.drawAll (by kernel_rfl) ?_
  refine WS.val (v_move rfl) rfl ?_
  refine WS.val (n_index (m := 7) Tryz.runUnderlying23 Tryz.sizeOf5 rfl (show _ = some (Value.int .i64 ((7 : Nat) : Int)) from rfl) (Rd.mono hR (fun _ h => (mS h))) (by omega) (by rw [i8_length]; omega)) rfl ?_
  refine WS.val (v_load_rd Tryz.isAgg5 rfl (Rd.mono hR (fun _ h => (mS h))) (i8_at (by omega))) rfl ?_
  refine WS.val (v_conv Tryz.runUnderlying5 Tryz.runUnderlying50 rfl) rfl ?_
  refine WS.val (v_move rfl) rfl ?_
  refine WS.val (n_index (m := 6) Tryz.runUnderlying23 Tryz.sizeOf5 rfl (show _ = some (Value.int .i64 ((6 : Nat) : Int)) from rfl) (Rd.mono hR (fun _ h => (mS h))) (by omega) (by rw [i8_length]; omega)) rfl ?_
  refine WS.val (v_load_rd Tryz.isAgg5 rfl (Rd.mono hR (fun _ h => (mS h))) (i8_at (by omega))) rfl ?_
  refine WS.val (v_conv Tryz.runUnderlying5 Tryz.runUnderlying50 rfl) rfl ?_
  refine WS.val (v_shl rfl rfl (by omega)) rfl ?_
  refine WS.val (v_or rfl rfl) rfl ?_
  refine WS.val (v_move rfl) rfl ?_
  refine WS.val (n_index (m := 5) Tryz.runUnderlying23 Tryz.sizeOf5 rfl (show _ = some (Value.int .i64 ((5 : Nat) : Int)) from rfl) (Rd.mono hR (fun _ h => (mS h))) (by omega) (by rw [i8_length]; omega)) rfl ?_
  refine WS.val (v_load_rd Tryz.isAgg5 rfl (Rd.mono hR (fun _ h => (mS h))) (i8_at (by omega))) rfl ?_
  refine WS.val (v_conv Tryz.runUnderlying5 Tryz.runUnderlying50 rfl) rfl ?_
  refine WS.val (v_shl rfl rfl (by omega)) rfl ?_
  refine WS.val (v_or rfl rfl) rfl ?_
  refine WS.val (v_move rfl) rfl ?_
  refine WS.val (n_index (m := 4) Tryz.runUnderlying23 Tryz.sizeOf5 rfl (show _ = some (Value.int .i64 ((4 : Nat) : Int)) from rfl) (Rd.mono hR (fun _ h => (mS h))) (by omega) (by rw [i8_length]; omega)) rfl ?_
  refine WS.val (v_load_rd Tryz.isAgg5 rfl (Rd.mono hR (fun _ h => (mS h))) (i8_at (by omega))) rfl ?_
  refine WS.val (v_conv Tryz.runUnderlying5 Tryz.runUnderlying50 rfl) rfl ?_
  refine WS.val (v_shl rfl rfl (by omega)) rfl ?_
  refine WS.val (v_or rfl rfl) rfl ?_
  refine WS.val (v_move rfl) rfl ?_
  refine WS.val (n_index (m := 3) Tryz.runUnderlying23 Tryz.sizeOf5 rfl (show _ = some (Value.int .i64 ((3 : Nat) : Int)) from rfl) (Rd.mono hR (fun _ h => (mS h))) (by omega) (by rw [i8_length]; omega)) rfl ?_
  refine WS.val (v_load_rd Tryz.isAgg5 rfl (Rd.mono hR (fun _ h => (mS h))) (i8_at (by omega))) rfl ?_
  refine WS.val (v_conv Tryz.runUnderlying5 Tryz.runUnderlying50 rfl) rfl ?_
  refine WS.val (v_shl rfl rfl (by omega)) rfl ?_
  refine WS.val (v_or rfl rfl) rfl ?_
  refine WS.val (v_move rfl) rfl ?_
  refine WS.val (n_index (m := 2) Tryz.runUnderlying23 Tryz.sizeOf5 rfl (show _ = some (Value.int .i64 ((2 : Nat) : Int)) from rfl) (Rd.mono hR (fun _ h => (mS h))) (by omega) (by rw [i8_length]; omega)) rfl ?_
  refine WS.val (v_load_rd Tryz.isAgg5 rfl (Rd.mono hR (fun _ h => (mS h))) (i8_at (by omega))) rfl ?_
  refine WS.val (v_conv Tryz.runUnderlying5 Tryz.runUnderlying50 rfl) rfl ?_
  refine WS.val (v_shl rfl rfl (by omega)) rfl ?_
  refine WS.val (v_or rfl rfl) rfl ?_
  refine WS.val (v_move rfl) rfl ?_
  refine WS.val (n_index (m := 1) Tryz.runUnderlying23 Tryz.sizeOf5 rfl (show _ = some (Value.int .i64 ((1 : Nat) : Int)) from rfl) (Rd.mono hR (fun _ h => (mS h))) (by omega) (by rw [i8_length]; omega)) rfl ?_
  refine WS.val (v_load_rd Tryz.isAgg5 rfl (Rd.mono hR (fun _ h => (mS h))) (i8_at (by omega))) rfl ?_
  refine WS.val (v_conv Tryz.runUnderlying5 Tryz.runUnderlying50 rfl) rfl ?_
  refine WS.val (v_shl rfl rfl (by omega)) rfl ?_
  refine WS.val (v_or rfl rfl) rfl ?_
  refine WS.val (v_move rfl) rfl ?_
  refine WS.val (n_index (m := 0) Tryz.runUnderlying23 Tryz.sizeOf5 rfl (show _ = some (Value.int .i64 ((0 : Nat) : Int)) from rfl) (Rd.mono hR (fun _ h => (mS h))) (by omega) (by rw [i8_length]; omega)) rfl ?_
  refine WS.val (v_load_rd Tryz.isAgg5 rfl (Rd.mono hR (fun _ h => (mS h))) (i8_at (by omega))) rfl ?_
  refine WS.val (v_conv Tryz.runUnderlying5 Tryz.runUnderlying50 rfl) rfl ?_
  refine WS.val (v_shl rfl rfl (by omega)) rfl ?_
  refine WS.val (v_or rfl rfl) rfl ?_
  refine WS.val (v_assign rfl) rfl ?_
  refine WS.nil ?_
  refine EX.next ?_
  refine WC.ret ?_
  exact ret1 Tryz.results56 rfl fun w hw => ⟨_, rfl, hw.tail⟩
theorem put64_any (w0 w : World) (L : Heap) (kb : Nat) (t' : TypeId) (xs : List Int) (off l c : Nat) (hl : 8 ≤ l) (ho : off + 8 ≤ xs.length) (v : Int) (hw : HW w0 ((kb, blk t' (0, 0) (i8 xs)) :: L) w) :
    Calls P 76 #[.agg #[], .slice (some ⟨kb, off, none⟩) l c, .int .u64 v] w fun e w' => ∃ ys, e = .returned (.tuple #[]) ∧ ys.length = xs.length ∧ HW w0 ((kb, blk t' (0, 0) (i8 ys)) :: L) w' := by
  refine enter (us := [.agg #[], .slice (some ⟨kb, off, none⟩) l c, .int .u64 v]) Tryz.func76 rfl Tryz.ntmps76 (by simp) rfl ?_ hw
  refine WC.seq ?_
  refine WC.region ?_
  refine WL.act rfl (OW.box (us := []) rfl rfl rfl (fun bx => ?_))
  refine WL.nil ?_
  refine EX.next ?_
  refine WC.seq ?_
  refine WC.region ?_
  refine WL.val (v_move rfl) rfl ?_
  refine WL.val (n_ixo (m := 7) Tryz.runUnderlying23 Tryz.sizeOf5 rfl (show _ = some (Value.int .i64 ((7 : Nat) : Int)) from rfl) (by omega)) rfl ?_
  refine WL.val (v_load Tryz.isAgg5 rfl (mS m0) (iu_at (by omega))) rfl ?_
  refine WL.nil ?_
  refine EX.next ?_
  refine WC.seq ?_
  refine WC.region ?_
  refine WL.val (v_move rfl) rfl ?_
  refine WL.val (v_move rfl) rfl ?_
  refine WL.val (v_shr rfl rfl (by omega)) rfl ?_
  refine WL.val (v_conv Tryz.runUnderlying50 Tryz.runUnderlying5 rfl) rfl ?_
  refine WL.val (n_ixo (m := 0) Tryz.runUnderlying23 Tryz.sizeOf5 rfl (show _ = some (Value.int .i64 ((0 : Nat) : Int)) from rfl) (by omega)) rfl ?_
  refine WL.act rfl (OW.store (vs' := _) Tryz.sizeOf5 rfl rfl rfl (iu_set_add _ _ _ _ _) (.there .here) (by rw [iu_length]; first | omega | (simp only [List.length_set]; omega)) (by simp) ?_)
  refine WL.nil ?_
  refine EX.next ?_
  refine WC.seq ?_
  refine WC.region ?_
  refine WL.val (v_move rfl) rfl ?_
  refine WL.val (v_move rfl) rfl ?_
  refine WL.val (v_shr rfl rfl (by omega)) rfl ?_
  refine WL.val (v_conv Tryz.runUnderlying50 Tryz.runUnderlying5 rfl) rfl ?_
  refine WL.val (n_ixo (m := 1) Tryz.runUnderlying23 Tryz.sizeOf5 rfl (show _ = some (Value.int .i64 ((1 : Nat) : Int)) from rfl) (by omega)) rfl ?_
  refine WL.act rfl (OW.store (vs' := _) Tryz.sizeOf5 rfl rfl rfl (iu_set_add _ _ _ _ _) (.there .here) (by rw [iu_length]; first | omega | (simp only [List.length_set]; omega)) (by simp) ?_)
  refine WL.nil ?_
  refine EX.next ?_
  refine WC.seq ?_
  refine WC.region ?_
  refine WL.val (v_move rfl) rfl ?_
  refine WL.val (v_move rfl) rfl ?_
  refine WL.val (v_shr rfl rfl (by omega)) rfl ?_
  refine WL.val (v_conv Tryz.runUnderlying50 Tryz.runUnderlying5 rfl) rfl ?_
  refine WL.val (n_ixo (m := 2) Tryz.runUnderlying23 Tryz.sizeOf5 rfl (show _ = some (Value.int .i64 ((2 : Nat) : Int)) from rfl) (by omega)) rfl ?_
  refine WL.act rfl (OW.store (vs' := _) Tryz.sizeOf5 rfl rfl rfl (iu_set_add _ _ _ _ _) (.there .here) (by rw [iu_length]; first | omega | (simp only [List.length_set]; omega)) (by simp) ?_)
  refine WL.nil ?_
  refine EX.next ?_
  refine WC.seq ?_
  refine WC.region ?_
  refine WL.val (v_move rfl) rfl ?_
  refine WL.val (v_move rfl) rfl ?_
  refine WL.val (v_shr rfl rfl (by omega)) rfl ?_
  refine WL.val (v_conv Tryz.runUnderlying50 Tryz.runUnderlying5 rfl) rfl ?_
  refine WL.val (n_ixo (m := 3) Tryz.runUnderlying23 Tryz.sizeOf5 rfl (show _ = some (Value.int .i64 ((3 : Nat) : Int)) from rfl) (by omega)) rfl ?_
  refine WL.act rfl (OW.store (vs' := _) Tryz.sizeOf5 rfl rfl rfl (iu_set_add _ _ _ _ _) (.there .here) (by rw [iu_length]; first | omega | (simp only [List.length_set]; omega)) (by simp) ?_)
  refine WL.nil ?_
  refine EX.next ?_
  refine WC.seq ?_
  refine WC.region ?_
  refine WL.val (v_move rfl) rfl ?_
  refine WL.val (v_move rfl) rfl ?_
  refine WL.val (v_shr rfl rfl (by omega)) rfl ?_
  refine WL.val (v_conv Tryz.runUnderlying50 Tryz.runUnderlying5 rfl) rfl ?_
  refine WL.val (n_ixo (m := 4) Tryz.runUnderlying23 Tryz.sizeOf5 rfl (show _ = some (Value.int .i64 ((4 : Nat) : Int)) from rfl) (by omega)) rfl ?_
  refine WL.act rfl (OW.store (vs' := _) Tryz.sizeOf5 rfl rfl rfl (iu_set_add _ _ _ _ _) (.there .here) (by rw [iu_length]; first | omega | (simp only [List.length_set]; omega)) (by simp) ?_)
  refine WL.nil ?_
  refine EX.next ?_
  refine WC.seq ?_
  refine WC.region ?_
  refine WL.val (v_move rfl) rfl ?_
  refine WL.val (v_move rfl) rfl ?_
  refine WL.val (v_shr rfl rfl (by omega)) rfl ?_
  refine WL.val (v_conv Tryz.runUnderlying50 Tryz.runUnderlying5 rfl) rfl ?_
  refine WL.val (n_ixo (m := 5) Tryz.runUnderlying23 Tryz.sizeOf5 rfl (show _ = some (Value.int .i64 ((5 : Nat) : Int)) from rfl) (by omega)) rfl ?_
  refine WL.act rfl (OW.store (vs' := _) Tryz.sizeOf5 rfl rfl rfl (iu_set_add _ _ _ _ _) (.there .here) (by rw [iu_length]; first | omega | (simp only [List.length_set]; omega)) (by simp) ?_)
  refine WL.nil ?_
  refine EX.next ?_
  refine WC.seq ?_
  refine WC.region ?_
  refine WL.val (v_move rfl) rfl ?_
  refine WL.val (v_move rfl) rfl ?_
  refine WL.val (v_shr rfl rfl (by omega)) rfl ?_
  refine WL.val (v_conv Tryz.runUnderlying50 Tryz.runUnderlying5 rfl) rfl ?_
  refine WL.val (n_ixo (m := 6) Tryz.runUnderlying23 Tryz.sizeOf5 rfl (show _ = some (Value.int .i64 ((6 : Nat) : Int)) from rfl) (by omega)) rfl ?_
  refine WL.act rfl (OW.store (vs' := _) Tryz.sizeOf5 rfl rfl rfl (iu_set_add _ _ _ _ _) (.there .here) (by rw [iu_length]; first | omega | (simp only [List.length_set]; omega)) (by simp) ?_)
  refine WL.nil ?_
  refine EX.next ?_
  refine WC.region ?_
  refine WL.val (v_move rfl) rfl ?_
  refine WL.val (v_move rfl) rfl ?_
  refine WL.val (v_conv Tryz.runUnderlying50 Tryz.runUnderlying5 rfl) rfl ?_
  refine WL.val (n_ixo (m := 7) Tryz.runUnderlying23 Tryz.sizeOf5 rfl (show _ = some (Value.int .i64 ((7 : Nat) : Int)) from rfl) (by omega)) rfl ?_
  refine WL.act rfl (OW.store (vs' := _) Tryz.sizeOf5 rfl rfl rfl (iu_set_add _ _ _ _ _) (.there .here) (by rw [iu_length]; first | omega | (simp only [List.length_set]; omega)) (by simp) ?_)
  refine WL.nil ?_
  exact end0 Tryz.results76 fun w hw => ⟨_, rfl, by simp only [List.length_set], hw.tail⟩
theorem put32_any (w0 w : World) (L : Heap) (kb : Nat) (t' : TypeId) (xs : List Int) (off l c : Nat) (hl : 4 ≤ l) (ho : off + 4 ≤ xs.length) (v : Int) (hw : HW w0 ((kb, blk t' (0, 0) (i8 xs)) :: L) w) :
    Calls P 78 #[.agg #[], .slice (some ⟨kb, off, none⟩) l c, .int .u32 v] w fun e w' => ∃ ys, e = .returned (.tuple #[]) ∧ ys.length = xs.length ∧ HW w0 ((kb, blk t' (0, 0) (i8 ys)) :: L) w' := by
  refine enter (us := [.agg #[], .slice (some ⟨kb, off, none⟩) l c, .int .u32 v]) Tryz.func78 rfl Tryz.ntmps78 (by simp) rfl ?_ hw
  refine WC.seq ?_
  refine WC.region ?_
  refine WL.act rfl (OW.box (us := []) rfl rfl rfl (fun bx => ?_))
  refine WL.nil ?_
  refine EX.next ?_
  refine WC.seq ?_
  refine WC.region ?_
  refine WL.val (v_move rfl) rfl ?_
  refine WL.val (n_ixo (m := 3) Tryz.runUnderlying23 Tryz.sizeOf5 rfl (show _ = some (Value.int .i64 ((3 : Nat) : Int)) from rfl) (by omega)) rfl ?_
  refine WL.val (v_load Tryz.isAgg5 rfl (mS m0) (iu_at (by omega))) rfl ?_
  refine WL.nil ?_
  refine EX.next ?_
  refine WC.seq ?_
  refine WC.region ?_
  refine WL.val (v_move rfl) rfl ?_
  refine WL.val (v_move rfl) rfl ?_
  refine WL.val (v_shr rfl rfl (by omega)) rfl ?_
  refine WL.val (v_conv Tryz.runUnderlying22 Tryz.runUnderlying5 rfl) rfl ?_
  refine WL.val (n_ixo (m := 0) Tryz.runUnderlying23 Tryz.sizeOf5 rfl (show _ = some (Value.int .i64 ((0 : Nat) : Int)) from rfl) (by omega)) rfl ?_
  refine WL.act rfl (OW.store (vs' := _) Tryz.sizeOf5 rfl rfl rfl (iu_set_add _ _ _ _ _) (.there .here) (by rw [iu_length]; first | omega | (simp only [List.length_set]; omega)) (by simp) ?_)
  refine WL.nil ?_
  refine EX.next ?_
  refine WC.seq ?_
  refine WC.region ?_
  refine WL.val (v_move rfl) rfl ?_
  refine WL.val (v_move rfl) rfl ?_
  refine WL.val (v_shr rfl rfl (by omega)) rfl ?_
  refine WL.val (v_conv Tryz.runUnderlying22 Tryz.runUnderlying5 rfl) rfl ?_
  refine WL.val (n_ixo (m := 1) Tryz.runUnderlying23 Tryz.sizeOf5 rfl (show _ = some (Value.int .i64 ((1 : Nat) : Int)) from rfl) (by omega)) rfl ?_
  refine WL.act rfl (OW.store (vs' := _) Tryz.sizeOf5 rfl rfl rfl (iu_set_add _ _ _ _ _) (.there .here) (by rw [iu_length]; first | omega | (simp only [List.length_set]; omega)) (by simp) ?_)
  refine WL.nil ?_
  refine EX.next ?_
  refine WC.seq ?_
  refine WC.region ?_
  refine WL.val (v_move rfl) rfl ?_
  refine WL.val (v_move rfl) rfl ?_
  refine WL.val (v_shr rfl rfl (by omega)) rfl ?_
  refine WL.val (v_conv Tryz.runUnderlying22 Tryz.runUnderlying5 rfl) rfl ?_
  refine WL.val (n_ixo (m := 2) Tryz.runUnderlying23 Tryz.sizeOf5 rfl (show _ = some (Value.int .i64 ((2 : Nat) : Int)) from rfl) (by omega)) rfl ?_
  refine WL.act rfl (OW.store (vs' := _) Tryz.sizeOf5 rfl rfl rfl (iu_set_add _ _ _ _ _) (.there .here) (by rw [iu_length]; first | omega | (simp only [List.length_set]; omega)) (by simp) ?_)
  refine WL.nil ?_
  refine EX.next ?_
  refine WC.region ?_
  refine WL.val (v_move rfl) rfl ?_
  refine WL.val (v_move rfl) rfl ?_
  refine WL.val (v_conv Tryz.runUnderlying22 Tryz.runUnderlying5 rfl) rfl ?_
  refine WL.val (n_ixo (m := 3) Tryz.runUnderlying23 Tryz.sizeOf5 rfl (show _ = some (Value.int .i64 ((3 : Nat) : Int)) from rfl) (by omega)) rfl ?_
  refine WL.act rfl (OW.store (vs' := _) Tryz.sizeOf5 rfl rfl rfl (iu_set_add _ _ _ _ _) (.there .here) (by rw [iu_length]; first | omega | (simp only [List.length_set]; omega)) (by simp) ?_)
  refine WL.nil ?_
  exact end0 Tryz.results78 fun w hw => ⟨_, rfl, by simp only [List.length_set], hw.tail⟩
end Go.Proofs.YtljoodllnaekbaaGreatDoor

namespace Go.Proofs.YtljoodllnaekbaaGreatDoor
open Go

theorem checkSum256_any (w0 w : World) (L : Heap) (k : Nat) (hs xs : List Int) (nx len : Nat) (hK : KG L) (hhs : hs.length = 8) (hxs : xs.length = 64) (hnx : nx = len % 64) (hw : HW w0 ((k, blk 164 (0, 0) (dgC hs xs (nx : Int) (len : Int) [.bool false])) :: L) w) :
    Calls P 65 #[.pointer (some ⟨k, 0, none⟩)] w fun e w' => ∃ ys hs' xs' nx' len', e = .returned (.agg (i8 ys).toArray) ∧ ys.length = 32 ∧ hs'.length = 8 ∧ xs'.length = 64 ∧ HW w0 ((k, blk 164 (0, 0) (dgC hs' xs' nx' len' [.bool false])) :: L) w' := by
  refine enter (us := [.pointer (some ⟨k, 0, none⟩)]) Tryz.func65 rfl Tryz.ntmps65 (by simp) rfl ?_ hw
  refine WC.seq ?_
  refine WC.region ?_
  refine WL.act rfl (OW.allocC (vs := i8 (List.replicate 32 0)) Tryz.zeroValue165 rfl rfl (fun b2 => ?_))
  refine WL.nil ?_
  refine EX.next ?_
  refine WC.seq ?_
  refine WC.region ?_
  refine WL.val (v_move rfl) rfl ?_
  refine WL.val (v_nilCheck_ptr rfl) rfl ?_
  refine WL.val (v_field Tryz.runUnderlying164 rfl Tryz.sizeOf50 (by decide) rfl) rfl ?_
  refine WL.val (v_load Tryz.isAgg50 rfl (mS m0) (dgC_len (o := 73) (by omega))) rfl ?_
  refine WL.val (v_assign rfl) rfl ?_
  refine WL.nil ?_
  refine EX.next ?_
  refine WC.seq ?_
  refine WC.region ?_
  refine WL.act rfl (OW.allocC (vs := i8 (List.replicate 72 0)) Tryz.zeroValue178 rfl rfl (fun b4 => ?_))
  refine WL.nil ?_
  refine EX.next ?_
  refine WC.seq ?_
  refine WC.region ?_
  refine WL.val (n_ixa (m := 0) Tryz.runUnderlying178 Tryz.sizeOf5 rfl (show _ = some (Value.int .i64 ((0 : Nat) : Int)) from rfl) (by decide)) rfl ?_
  refine WL.act rfl (OW.store (vs' := _) Tryz.sizeOf5 rfl rfl rfl (iu_set _ _ 0 128) .here (by rw [iu_length]; simp) (by simp) ?_)
  refine WL.nil ?_
  refine EX.next ?_
  refine WC.seq ?_
  refine WC.region ?_
  refine WL.val (v_assign rfl) rfl ?_
  refine WL.nil ?_
  refine EX.next ?_
  refine WC.cut (fun ac wl => ∃ T : Nat, ∃ zs : List Int, ((len + T + 8) % 64 = 0) ∧ (1 ≤ T) ∧ (T ≤ 64) ∧ (zs.length = 72) ∧ St w0 113 [(0, .pointer (some ⟨k, 0, none⟩)), (2, .pointer (some ⟨b2, 0, none⟩)), (3, .int .u64 (len : Int)), (4, .pointer (some ⟨b4, 0, none⟩)), (5, .int .u64 (T : Int))] ((b4, blk 178 (0, 0) (i8 zs)) :: (b2, blk 165 (0, 0) (i8 (List.replicate 32 0))) :: (k, blk 164 (0, 0) (dgC hs xs (nx : Int) (len : Int) [.bool false])) :: L) ac wl) ?_ ?_
  · skip
    refine WC.seq ?_
    refine WC.region ?_
    refine WL.val (v_move rfl) rfl ?_
    refine WL.val (u64_rem rfl rfl (show (64 : Int) = ((64 : Nat) : Int) from rfl) (by decide)) rfl ?_
    refine WL.val (v_lss rfl rfl) rfl ?_
    refine WL.nil ?_
    refine EX.next ?_
    refine WC.cond rfl ?_ ?_
    · intro hb5
      have h56 : len % 64 < 56 := by have := of_decide_eq_true hb5; omega
      refine WC.region ?_
      refine WL.val (v_move rfl) rfl ?_
      refine WL.val (u64_rem rfl rfl (show (64 : Int) = ((64 : Nat) : Int) from rfl) (by decide)) rfl ?_
      refine WL.val (u64_sub (m := 56) rfl rfl rfl (by omega) (by omega)) rfl ?_
      refine WL.val (v_assign rfl) rfl ?_
      refine WL.nil ?_
      refine EX.to ?_
      exact KS.mk fun b w hS => ⟨56 - len % 64, _, by omega, by omega, by omega, by simp, hS.keep ⟨rfl, rfl, rfl, rfl, rfl, trivial⟩⟩
    · intro hb5
      have h56 : 56 ≤ len % 64 := by have := of_decide_eq_false hb5; omega
      refine WC.region ?_
      refine WL.val (v_move rfl) rfl ?_
      refine WL.val (u64_rem rfl rfl (show (64 : Int) = ((64 : Nat) : Int) from rfl) (by decide)) rfl ?_
      refine WL.val (u64_sub (m := 120) rfl rfl rfl (by omega) (by omega)) rfl ?_
      refine WL.val (v_assign rfl) rfl ?_
      refine WL.nil ?_
      refine EX.to ?_
      exact KS.mk fun b w hS => ⟨120 - len % 64, _, by omega, by omega, by omega, by simp, hS.keep ⟨rfl, rfl, rfl, rfl, rfl, trivial⟩⟩
  · rintro ac wl ⟨T, zs, hT, hT1, hT2, hzs, hS⟩
    revert ac wl
    refine KS.out ?_
    refine WC.seq ?_
    refine WC.region ?_
    refine WL.val (v_move rfl) rfl ?_
    refine WL.val (v_shl rfl rfl (by omega)) rfl ?_
    refine WL.val (v_assign rfl) rfl ?_
    refine WL.nil ?_
    refine EX.next ?_
    refine WC.seq ?_
    refine WC.region ?_
    refine WL.val (v_move rfl) rfl ?_
    refine WL.val (u64_add rfl rfl (show (8 : Int) = ((8 : Nat) : Int) from rfl) (by omega)) rfl ?_
    refine WL.val (Val.to (v' := .slice (some ⟨b4, 0, none⟩) (T + 8) 72) rfl (v_slice_arr (i := 0) (j := T + 8) Tryz.runUnderlying178 Tryz.sizeOf5 rfl rfl ⟨.u64, rfl⟩ (by omega) (show T + 8 ≤ 72 by omega) (by decide))) rfl ?_
    refine WL.val (v_assign rfl) rfl ?_
    refine WL.nil ?_
    refine EX.next ?_
    refine WC.seq ?_
    refine WC.draw (L) (.quiet 0 (.quiet 1 (.quiet 2 (.quiet 3 (.quiet 4 (.quiet 5 (.one 6 .done))))))) (by kernel_rfl) (fun _ => Sb.hw) ?_
    refine AK.quiet rfl (v_load_empty Tryz.isAgg143 Tryz.sizeOf143 rfl) rfl ?_
    refine AK.quiet rfl (v_move rfl) rfl ?_
    refine AK.quiet rfl (v_move rfl) rfl ?_
    refine AK.quiet rfl (Val.to (v' := .int .u64 (T : Int)) (by rw [Nat.add_zero]) (u64_add (n := 0) rfl rfl rfl (by omega))) rfl ?_
    refine AK.quiet rfl (Val.cast (v_slice (i := T) (j := T + 8) Tryz.runUnderlying23 Tryz.sizeOf5 rfl ⟨.u64, rfl⟩ rfl (by omega) (show T + 8 ≤ 72 by omega) (show T + 8 ≤ 72 by omega)) (show _ = Value.slice (some ⟨b4, T, none⟩) (T + 8 - T) (72 - T) by rw [cutA_block _ _ _ _ (by omega), Nat.zero_add])) rfl ?_
    refine AK.quiet rfl (v_move rfl) rfl ?_
    refine AK.one rfl rfl (OW.call (xs := [.tmp 27, .tmp 31, .tmp 32]) Tryz.call76 rfl (fun w hw => put64_any w0 w _ b4 178 zs T _ _ (by omega) (by omega) _ hw) rfl ?_)
    rintro r w' ⟨ys4, rfl, hys4, hw'⟩
    refine ⟨_, _, rfl, hw', ?_⟩
    refine AK.on (fun _ => Sb.hw) ?_
    refine AK.done ?_
    refine EX.next ?_
    refine WC.seq ?_
    refine WC.region ?_
    refine WL.val (v_move rfl) rfl ?_
    refine WL.val (v_move rfl) rfl ?_
    refine WL.act rfl (OW.call (xs := [.tmp 34, .tmp 35]) Tryz.call77 rfl (fun w hw => write256_any w0 w _ k hs xs nx len [.bool false] (by exact hK.mono (fun _ h => mS (mS h))) hhs hxs (by omega) _ (T + 8) 72 (ys4.take (T + 8)) (by rw [List.length_take]; omega) (by omega) (by exact (by rw [i8_take]; exact (Rd.whole (t := 178) (fr := (0, 0)) m0).take _)) (by omega) (HW.take hw)) rfl ?_)
    rintro r w' ⟨hs2, xs2, rfl, hhs2, hxs2, hw'⟩
    have hz0 : (nx + (T + 8)) % 64 = 0 := by omega
    rw [hz0] at hw'
    refine ⟨_, _, rfl, hw', ?_⟩
    refine WL.nil ?_
    refine EX.next ?_
    refine WC.seq ?_
    refine WC.seq ?_
    refine WC.region ?_
    refine WL.val (v_move rfl) rfl ?_
    refine WL.val (v_nilCheck_ptr rfl) rfl ?_
    refine WL.val (v_field Tryz.runUnderlying164 rfl Tryz.sizeOf3 (by decide) rfl) rfl ?_
    refine WL.val (v_load Tryz.isAgg3 rfl m0 (dgC_nx (o := 72) (by omega))) rfl ?_
    refine WL.val (v_neq rfl rfl) rfl ?_
    refine WL.nil ?_
    refine EX.next ?_
    refine WC.cond rfl ?_ ?_
    · intro hb12
      exact absurd hb12 (by decide)
    · intro hb12
      refine WC.skip ?_
      refine EX.next ?_
      refine WC.cut (fun ac wl => ∃ b7 : Nat, ∃ n2 : Int, ∃ l2 : Int, ∃ y0 : List Int, (y0.length = 32) ∧ St w0 113 [(0, .pointer (some ⟨k, 0, none⟩)), (2, .pointer (some ⟨b2, 0, none⟩)), (7, .pointer (some ⟨b7, 0, none⟩))] ((b7, blk 165 (0, 0) (i8 y0)) :: (k, blk 164 (0, 0) (dgC hs2 xs2 n2 l2 [.bool false])) :: (b2, blk 165 (0, 0) (i8 (List.replicate 32 0))) :: L) ac wl) ?_ ?_
      · skip
        refine WC.region ?_
        refine WL.act rfl (OW.allocC (vs := i8 (List.replicate 32 0)) Tryz.zeroValue165 rfl rfl (fun b7 => ?_))
        refine WL.nil ?_
        refine EX.to ?_
        exact KS.mk fun b w hS => ⟨b7, _, _, List.replicate 32 0, by simp, (hS.heap' (hS.mem.sub ((List.sublist_cons_self _ _).cons_cons _ |>.cons_cons _))).keep ⟨rfl, rfl, rfl, trivial⟩⟩
      · rintro ac wl ⟨b7, n2, l2, y0, hy0, hS⟩
        revert ac wl
        refine KS.out ?_
        refine WC.seq ?_
        refine WC.draw ((k, blk 164 (0, 0) (dgC hs2 xs2 n2 l2 [.bool false])) :: (b2, blk 165 (0, 0) (i8 (List.replicate 32 0))) :: L) (.quiet 0 (.quiet 1 (.quiet 2 (.quiet 3 (.quiet 4 (.quiet 5 (.quiet 6 (.one 7 .done)))))))) (by kernel_rfl) (fun _ => Sb.hw) ?_
        refine AK.quiet rfl (v_load_empty Tryz.isAgg143 Tryz.sizeOf143 rfl) rfl ?_
        refine AK.quiet rfl (Val.to (v' := .slice (some ⟨b7, 0, none⟩) 32 32) rfl (v_slice_arr (i := 0) (j := 32) Tryz.runUnderlying165 Tryz.sizeOf5 rfl ⟨.i64, rfl⟩ rfl (by decide) (by decide) (by decide))) rfl ?_
        refine AK.quiet rfl (v_move rfl) rfl ?_
        refine AK.quiet rfl (v_nilCheck_ptr rfl) rfl ?_
        refine AK.quiet rfl (v_field Tryz.runUnderlying164 rfl Tryz.sizeOf161 (by decide) rfl) rfl ?_
        refine AK.quiet rfl (n_ixa (m := 0) Tryz.runUnderlying161 Tryz.sizeOf22 rfl (show _ = some (Value.int .i64 ((0 : Nat) : Int)) from rfl) (by decide)) rfl ?_
        refine AK.quiet rfl (v_load Tryz.isAgg22 rfl m0 (dgC_h (i := 0) (by omega))) rfl ?_
        refine AK.one rfl rfl (OW.call (xs := [.tmp 43, .tmp 44, .tmp 49]) Tryz.call78 rfl (fun w hw => put32_any w0 w _ b7 165 y0 0 _ _ (by omega) (by omega) _ hw) rfl ?_)
        rintro r w' ⟨y1, rfl, hy1, hw'⟩
        refine ⟨_, _, rfl, hw', ?_⟩
        refine AK.on (fun _ => Sb.hw) ?_
        refine AK.done ?_
        refine EX.next ?_
        refine WC.seq ?_
        refine WC.draw ((k, blk 164 (0, 0) (dgC hs2 xs2 n2 l2 [.bool false])) :: (b2, blk 165 (0, 0) (i8 (List.replicate 32 0))) :: L) (.quiet 0 (.quiet 1 (.quiet 2 (.quiet 3 (.quiet 4 (.quiet 5 (.quiet 6 (.one 7 .done)))))))) (by kernel_rfl) (fun _ => Sb.hw) ?_
        refine AK.quiet rfl (v_load_empty Tryz.isAgg143 Tryz.sizeOf143 rfl) rfl ?_
        refine AK.quiet rfl (Val.to (v' := .slice (some ⟨b7, 4, none⟩) 28 28) rfl (v_slice_arr (i := 4) (j := 32) Tryz.runUnderlying165 Tryz.sizeOf5 rfl ⟨.i64, rfl⟩ rfl (by decide) (by decide) (by decide))) rfl ?_
        refine AK.quiet rfl (v_move rfl) rfl ?_
        refine AK.quiet rfl (v_nilCheck_ptr rfl) rfl ?_
        refine AK.quiet rfl (v_field Tryz.runUnderlying164 rfl Tryz.sizeOf161 (by decide) rfl) rfl ?_
        refine AK.quiet rfl (n_ixa (m := 1) Tryz.runUnderlying161 Tryz.sizeOf22 rfl (show _ = some (Value.int .i64 ((1 : Nat) : Int)) from rfl) (by decide)) rfl ?_
        refine AK.quiet rfl (v_load Tryz.isAgg22 rfl m0 (dgC_h (i := 1) (by omega))) rfl ?_
        refine AK.one rfl rfl (OW.call (xs := [.tmp 51, .tmp 52, .tmp 57]) Tryz.call78 rfl (fun w hw => put32_any w0 w _ b7 165 y1 4 _ _ (by omega) (by omega) _ hw) rfl ?_)
        rintro r w' ⟨y2, rfl, hy2, hw'⟩
        refine ⟨_, _, rfl, hw', ?_⟩
        refine AK.on (fun _ => Sb.hw) ?_
        refine AK.done ?_
        refine EX.next ?_
        refine WC.seq ?_
        refine WC.draw ((k, blk 164 (0, 0) (dgC hs2 xs2 n2 l2 [.bool false])) :: (b2, blk 165 (0, 0) (i8 (List.replicate 32 0))) :: L) (.quiet 0 (.quiet 1 (.quiet 2 (.quiet 3 (.quiet 4 (.quiet 5 (.quiet 6 (.one 7 .done)))))))) (by kernel_rfl) (fun _ => Sb.hw) ?_
        refine AK.quiet rfl (v_load_empty Tryz.isAgg143 Tryz.sizeOf143 rfl) rfl ?_
        refine AK.quiet rfl (Val.to (v' := .slice (some ⟨b7, 8, none⟩) 24 24) rfl (v_slice_arr (i := 8) (j := 32) Tryz.runUnderlying165 Tryz.sizeOf5 rfl ⟨.i64, rfl⟩ rfl (by decide) (by decide) (by decide))) rfl ?_
        refine AK.quiet rfl (v_move rfl) rfl ?_
        refine AK.quiet rfl (v_nilCheck_ptr rfl) rfl ?_
        refine AK.quiet rfl (v_field Tryz.runUnderlying164 rfl Tryz.sizeOf161 (by decide) rfl) rfl ?_
        refine AK.quiet rfl (n_ixa (m := 2) Tryz.runUnderlying161 Tryz.sizeOf22 rfl (show _ = some (Value.int .i64 ((2 : Nat) : Int)) from rfl) (by decide)) rfl ?_
        refine AK.quiet rfl (v_load Tryz.isAgg22 rfl m0 (dgC_h (i := 2) (by omega))) rfl ?_
        refine AK.one rfl rfl (OW.call (xs := [.tmp 59, .tmp 60, .tmp 65]) Tryz.call78 rfl (fun w hw => put32_any w0 w _ b7 165 y2 8 _ _ (by omega) (by omega) _ hw) rfl ?_)
        rintro r w' ⟨y3, rfl, hy3, hw'⟩
        refine ⟨_, _, rfl, hw', ?_⟩
        refine AK.on (fun _ => Sb.hw) ?_
        refine AK.done ?_
        refine EX.next ?_
        refine WC.seq ?_
        refine WC.draw ((k, blk 164 (0, 0) (dgC hs2 xs2 n2 l2 [.bool false])) :: (b2, blk 165 (0, 0) (i8 (List.replicate 32 0))) :: L) (.quiet 0 (.quiet 1 (.quiet 2 (.quiet 3 (.quiet 4 (.quiet 5 (.quiet 6 (.one 7 .done)))))))) (by kernel_rfl) (fun _ => Sb.hw) ?_
        refine AK.quiet rfl (v_load_empty Tryz.isAgg143 Tryz.sizeOf143 rfl) rfl ?_
        refine AK.quiet rfl (Val.to (v' := .slice (some ⟨b7, 12, none⟩) 20 20) rfl (v_slice_arr (i := 12) (j := 32) Tryz.runUnderlying165 Tryz.sizeOf5 rfl ⟨.i64, rfl⟩ rfl (by decide) (by decide) (by decide))) rfl ?_
        refine AK.quiet rfl (v_move rfl) rfl ?_
        refine AK.quiet rfl (v_nilCheck_ptr rfl) rfl ?_
        refine AK.quiet rfl (v_field Tryz.runUnderlying164 rfl Tryz.sizeOf161 (by decide) rfl) rfl ?_
        refine AK.quiet rfl (n_ixa (m := 3) Tryz.runUnderlying161 Tryz.sizeOf22 rfl (show _ = some (Value.int .i64 ((3 : Nat) : Int)) from rfl) (by decide)) rfl ?_
        refine AK.quiet rfl (v_load Tryz.isAgg22 rfl m0 (dgC_h (i := 3) (by omega))) rfl ?_
        refine AK.one rfl rfl (OW.call (xs := [.tmp 67, .tmp 68, .tmp 73]) Tryz.call78 rfl (fun w hw => put32_any w0 w _ b7 165 y3 12 _ _ (by omega) (by omega) _ hw) rfl ?_)
        rintro r w' ⟨y4, rfl, hy4, hw'⟩
        refine ⟨_, _, rfl, hw', ?_⟩
        refine AK.on (fun _ => Sb.hw) ?_
        refine AK.done ?_
        refine EX.next ?_
        refine WC.seq ?_
        refine WC.draw ((k, blk 164 (0, 0) (dgC hs2 xs2 n2 l2 [.bool false])) :: (b2, blk 165 (0, 0) (i8 (List.replicate 32 0))) :: L) (.quiet 0 (.quiet 1 (.quiet 2 (.quiet 3 (.quiet 4 (.quiet 5 (.quiet 6 (.one 7 .done)))))))) (by kernel_rfl) (fun _ => Sb.hw) ?_
        refine AK.quiet rfl (v_load_empty Tryz.isAgg143 Tryz.sizeOf143 rfl) rfl ?_
        refine AK.quiet rfl (Val.to (v' := .slice (some ⟨b7, 16, none⟩) 16 16) rfl (v_slice_arr (i := 16) (j := 32) Tryz.runUnderlying165 Tryz.sizeOf5 rfl ⟨.i64, rfl⟩ rfl (by decide) (by decide) (by decide))) rfl ?_
        refine AK.quiet rfl (v_move rfl) rfl ?_
        refine AK.quiet rfl (v_nilCheck_ptr rfl) rfl ?_
        refine AK.quiet rfl (v_field Tryz.runUnderlying164 rfl Tryz.sizeOf161 (by decide) rfl) rfl ?_
        refine AK.quiet rfl (n_ixa (m := 4) Tryz.runUnderlying161 Tryz.sizeOf22 rfl (show _ = some (Value.int .i64 ((4 : Nat) : Int)) from rfl) (by decide)) rfl ?_
        refine AK.quiet rfl (v_load Tryz.isAgg22 rfl m0 (dgC_h (i := 4) (by omega))) rfl ?_
        refine AK.one rfl rfl (OW.call (xs := [.tmp 75, .tmp 76, .tmp 81]) Tryz.call78 rfl (fun w hw => put32_any w0 w _ b7 165 y4 16 _ _ (by omega) (by omega) _ hw) rfl ?_)
        rintro r w' ⟨y5, rfl, hy5, hw'⟩
        refine ⟨_, _, rfl, hw', ?_⟩
        refine AK.on (fun _ => Sb.hw) ?_
        refine AK.done ?_
        refine EX.next ?_
        refine WC.seq ?_
        refine WC.draw ((k, blk 164 (0, 0) (dgC hs2 xs2 n2 l2 [.bool false])) :: (b2, blk 165 (0, 0) (i8 (List.replicate 32 0))) :: L) (.quiet 0 (.quiet 1 (.quiet 2 (.quiet 3 (.quiet 4 (.quiet 5 (.quiet 6 (.one 7 .done)))))))) (by kernel_rfl) (fun _ => Sb.hw) ?_
        refine AK.quiet rfl (v_load_empty Tryz.isAgg143 Tryz.sizeOf143 rfl) rfl ?_
        refine AK.quiet rfl (Val.to (v' := .slice (some ⟨b7, 20, none⟩) 12 12) rfl (v_slice_arr (i := 20) (j := 32) Tryz.runUnderlying165 Tryz.sizeOf5 rfl ⟨.i64, rfl⟩ rfl (by decide) (by decide) (by decide))) rfl ?_
        refine AK.quiet rfl (v_move rfl) rfl ?_
        refine AK.quiet rfl (v_nilCheck_ptr rfl) rfl ?_
        refine AK.quiet rfl (v_field Tryz.runUnderlying164 rfl Tryz.sizeOf161 (by decide) rfl) rfl ?_
        refine AK.quiet rfl (n_ixa (m := 5) Tryz.runUnderlying161 Tryz.sizeOf22 rfl (show _ = some (Value.int .i64 ((5 : Nat) : Int)) from rfl) (by decide)) rfl ?_
        refine AK.quiet rfl (v_load Tryz.isAgg22 rfl m0 (dgC_h (i := 5) (by omega))) rfl ?_
        refine AK.one rfl rfl (OW.call (xs := [.tmp 83, .tmp 84, .tmp 89]) Tryz.call78 rfl (fun w hw => put32_any w0 w _ b7 165 y5 20 _ _ (by omega) (by omega) _ hw) rfl ?_)
        rintro r w' ⟨y6, rfl, hy6, hw'⟩
        refine ⟨_, _, rfl, hw', ?_⟩
        refine AK.on (fun _ => Sb.hw) ?_
        refine AK.done ?_
        refine EX.next ?_
        refine WC.seq ?_
        refine WC.draw ((k, blk 164 (0, 0) (dgC hs2 xs2 n2 l2 [.bool false])) :: (b2, blk 165 (0, 0) (i8 (List.replicate 32 0))) :: L) (.quiet 0 (.quiet 1 (.quiet 2 (.quiet 3 (.quiet 4 (.quiet 5 (.quiet 6 (.one 7 .done)))))))) (by kernel_rfl) (fun _ => Sb.hw) ?_
        refine AK.quiet rfl (v_load_empty Tryz.isAgg143 Tryz.sizeOf143 rfl) rfl ?_
        refine AK.quiet rfl (Val.to (v' := .slice (some ⟨b7, 24, none⟩) 8 8) rfl (v_slice_arr (i := 24) (j := 32) Tryz.runUnderlying165 Tryz.sizeOf5 rfl ⟨.i64, rfl⟩ rfl (by decide) (by decide) (by decide))) rfl ?_
        refine AK.quiet rfl (v_move rfl) rfl ?_
        refine AK.quiet rfl (v_nilCheck_ptr rfl) rfl ?_
        refine AK.quiet rfl (v_field Tryz.runUnderlying164 rfl Tryz.sizeOf161 (by decide) rfl) rfl ?_
        refine AK.quiet rfl (n_ixa (m := 6) Tryz.runUnderlying161 Tryz.sizeOf22 rfl (show _ = some (Value.int .i64 ((6 : Nat) : Int)) from rfl) (by decide)) rfl ?_
        refine AK.quiet rfl (v_load Tryz.isAgg22 rfl m0 (dgC_h (i := 6) (by omega))) rfl ?_
        refine AK.one rfl rfl (OW.call (xs := [.tmp 91, .tmp 92, .tmp 97]) Tryz.call78 rfl (fun w hw => put32_any w0 w _ b7 165 y6 24 _ _ (by omega) (by omega) _ hw) rfl ?_)
        rintro r w' ⟨y7, rfl, hy7, hw'⟩
        refine ⟨_, _, rfl, hw', ?_⟩
        refine AK.on (fun _ => Sb.hw) ?_
        refine AK.done ?_
        refine EX.next ?_
        refine WC.seq ?_
        refine WC.seq ?_
        refine WC.region ?_
        refine WL.val (v_move rfl) rfl ?_
        refine WL.val (v_nilCheck_ptr rfl) rfl ?_
        refine WL.val (v_field Tryz.runUnderlying164 rfl Tryz.sizeOf4 (by decide) rfl) rfl ?_
        refine WL.val (v_load Tryz.isAgg4 rfl (mS m0) (dgC_more (o := 74) (by omega))) rfl ?_
        refine WL.val (v_not rfl) rfl ?_
        refine WL.nil ?_
        refine EX.next ?_
        refine WC.cond rfl ?_ ?_
        · intro hb22
          refine WC.draw ((k, blk 164 (0, 0) (dgC hs2 xs2 n2 l2 [.bool false])) :: (b2, blk 165 (0, 0) (i8 (List.replicate 32 0))) :: L) (.quiet 0 (.quiet 1 (.quiet 2 (.quiet 3 (.quiet 4 (.quiet 5 (.quiet 6 (.one 7 .done)))))))) (by kernel_rfl) (fun _ => Sb.hw) ?_
          refine AK.quiet rfl (v_load_empty Tryz.isAgg143 Tryz.sizeOf143 rfl) rfl ?_
          refine AK.quiet rfl (Val.to (v' := .slice (some ⟨b7, 28, none⟩) 4 4) rfl (v_slice_arr (i := 28) (j := 32) Tryz.runUnderlying165 Tryz.sizeOf5 rfl ⟨.i64, rfl⟩ rfl (by decide) (by decide) (by decide))) rfl ?_
          refine AK.quiet rfl (v_move rfl) rfl ?_
          refine AK.quiet rfl (v_nilCheck_ptr rfl) rfl ?_
          refine AK.quiet rfl (v_field Tryz.runUnderlying164 rfl Tryz.sizeOf161 (by decide) rfl) rfl ?_
          refine AK.quiet rfl (n_ixa (m := 7) Tryz.runUnderlying161 Tryz.sizeOf22 rfl (show _ = some (Value.int .i64 ((7 : Nat) : Int)) from rfl) (by decide)) rfl ?_
          refine AK.quiet rfl (v_load Tryz.isAgg22 rfl m0 (dgC_h (i := 7) (by omega))) rfl ?_
          refine AK.one rfl rfl (OW.call (xs := [.tmp 104, .tmp 105, .tmp 110]) Tryz.call78 rfl (fun w hw => put32_any w0 w _ b7 165 y7 28 _ _ (by omega) (by omega) _ hw) rfl ?_)
          rintro r w' ⟨y8, rfl, hy8, hw'⟩
          refine ⟨_, _, rfl, hw', ?_⟩
          refine AK.on (fun _ => Sb.hw) ?_
          refine AK.done ?_
          refine EX.next ?_
          refine WC.seq ?_
          refine WC.region ?_
          refine WL.val (v_load_agg (us := i8 y8) Tryz.isAgg165 Tryz.sizeOf165 rfl m0 (by rw [i8_length]; omega) (fun j v h => by rw [Nat.zero_add]; exact h)) rfl ?_
          refine WL.act rfl (OW.storeAgg (us := i8 y8) Tryz.sizeOf165 rfl rfl (i8_all _) (by rw [i8_length]; omega) (overlay_all _ _ (by rw [i8_length, i8_length, List.length_replicate]; omega)) (.there (.there .here)) (by rw [i8_length, i8_length, List.length_replicate]; omega) ?_)
          refine WL.nil ?_
          refine EX.next ?_
          refine WC.ret ?_
          exact retC Tryz.results65 Tryz.isAgg165 Tryz.sizeOf165 rfl (mS (mS m0)) (by rw [i8_length]; omega) fun w hw => ⟨y8, hs2, xs2, n2, l2, rfl, by omega, hhs2, hxs2, Sb.hw hw⟩
        · intro hb22
          exact absurd hb22 (by decide)
theorem sum256_any (w0 w : World) (L : Heap) (k : Nat) (hs xs : List Int) (nx len : Nat) (hK : KG L) (hhs : hs.length = 8) (hxs : xs.length = 64) (hnx : nx = len % 64) (hkm : (k, blk 164 (0, 0) (dgC hs xs (nx : Int) (len : Int) [.bool false])) ∈ L) (hw : HW w0 L w) :
    Calls P 55 #[.pointer (some ⟨k, 0, none⟩), .slice none 0 0] w fun e w' => ∃ o ys, e = .returned (ownV o (i8 ys)) ∧ ys.length = 32 ∧ (o = none → i8 ys = []) ∧ HW w0 (ownL 5 o (i8 ys) ++ L) w' := by
  refine enter (us := [.pointer (some ⟨k, 0, none⟩), .slice none 0 0]) Tryz.func55 rfl Tryz.ntmps55 (by simp) rfl ?_ hw
  refine WC.seq ?_
  refine WC.region ?_
  refine WL.val (v_assign rfl) rfl ?_
  refine WL.nil ?_
  refine EX.next ?_
  refine WC.seq ?_
  refine WC.region ?_
  refine WL.val (v_move rfl) rfl ?_
  refine WL.val (v_nilCheck_ptr rfl) rfl ?_
  refine WL.val (v_load_agg (us := dgC hs xs (nx : Int) (len : Int) [.bool false]) Tryz.isAgg164 Tryz.sizeOf164 rfl hkm (by rw [dgC_length]; simp only [List.length_cons, List.length_nil]; omega) (fun j v h => by rw [Nat.zero_add]; exact h)) rfl ?_
  refine WL.act rfl (OW.allocC (vs := dgC (List.replicate 8 0) (List.replicate 64 0) 0 0 [.bool false]) Tryz.zeroValue164 rfl rfl (fun b5 => ?_))
  refine WL.act rfl (OW.storeAgg (us := dgC hs xs (nx : Int) (len : Int) [.bool false]) Tryz.sizeOf164 rfl rfl (dgC_all rfl) (by rw [dgC_length]; simp only [List.length_cons, List.length_nil]; omega) (overlay_all _ _ (by rw [dgC_length, dgC_length, List.length_replicate, List.length_replicate]; omega)) .here (by rw [dgC_length, dgC_length, List.length_replicate, List.length_replicate]; omega) ?_)
  refine WL.nil ?_
  refine EX.next ?_
  refine WC.seq ?_
  refine WC.region ?_
  refine WL.act rfl (OW.call (xs := [.tmp 5]) Tryz.call65 rfl (fun w hw => checkSum256_any w0 w _ b5 hs xs nx len hK hhs hxs hnx hw) rfl ?_)
  rintro r w' ⟨ys, hs2, xs2, n2, l2, rfl, hys, hhs2, hxs2, hw'⟩
  refine ⟨_, _, rfl, hw', ?_⟩
  refine WL.act rfl (OW.allocC (vs := i8 (List.replicate 32 0)) Tryz.zeroValue165 rfl rfl (fun b6 => ?_))
  refine WL.act rfl (OW.storeAgg (us := i8 ys) Tryz.sizeOf165 rfl rfl (i8_all _) (by rw [i8_length]; omega) (overlay_all _ _ (by rw [i8_length, i8_length, List.length_replicate]; omega)) .here (by rw [i8_length, i8_length, List.length_replicate]; omega) ?_)
  refine WL.nil ?_
  refine EX.next ?_
  refine WC.seq ?_
  refine WC.seq ?_
  refine WC.region ?_
  refine WL.val (v_field Tryz.runUnderlying164 rfl Tryz.sizeOf4 (by decide) rfl) rfl ?_
  refine WL.val (v_load Tryz.isAgg4 rfl (mS m0) (dgC_more (o := 74) (by omega))) rfl ?_
  refine WL.nil ?_
  refine EX.next ?_
  refine WC.cond rfl ?_ ?_
  · intro hb3
    exact absurd hb3 (by decide)
  · intro hb3
    refine WC.skip ?_
    refine EX.next ?_
    refine WC.seq ?_
    refine WC.region ?_
    refine WL.val (v_move rfl) rfl ?_
    refine WL.val (Val.to (v' := .slice (some ⟨b6, 0, none⟩) 32 32) rfl (v_slice_arr (i := 0) (j := 32) Tryz.runUnderlying165 Tryz.sizeOf5 rfl rfl rfl (by decide) (by decide) (by decide))) rfl ?_
    refine WL.act rfl (OW.append (o := none) (data := []) (news := i8 ys) (data' := i8 ys) (L1 := _) Tryz.runUnderlying23 Tryz.runUnderlying23 Tryz.sizeOf5 Tryz.typeInfo5 Tryz.zeroValue5 rfl rfl rfl (by rw [i8_length]; omega) (fun _ h => h) (fun _ => rfl) (Rd.whole (t := 165) (fr := (0, 0)) m0) (iu_one _ _) (by rw [i8_length, bytes5]; simp only [List.length_nil]; omega) (by rw [i8_length]; simp only [List.length_nil]; omega) rfl rfl (fun o ho => ?_))
    refine WL.val (v_assign rfl) rfl ?_
    refine WL.nil ?_
    refine EX.next ?_
    refine WC.ret ?_
    exact ret1 Tryz.results55 rfl fun w hw => ⟨o, ys, rfl, hys, ho, hw.sub ((((List.sublist_cons_self _ _).trans (List.sublist_cons_self _ _))).append_left _)⟩
end Go.Proofs.YtljoodllnaekbaaGreatDoor

namespace Go.Proofs.YtljoodllnaekbaaGreatDoor
open Go

theorem checkSum1_any (w0 w : World) (L : Heap) (k : Nat) (hs xs : List Int) (nx len : Nat) (hhs : hs.length = 5) (hxs : xs.length = 64) (hnx : nx = len % 64) (hw : HW w0 ((k, blk 170 (0, 0) (dgC hs xs (nx : Int) (len : Int) [])) :: L) w) :
    Calls P 260 #[.pointer (some ⟨k, 0, none⟩)] w fun e w' => ∃ ys hs' xs' nx' len', e = .returned (.agg (i8 ys).toArray) ∧ ys.length = 20 ∧ hs'.length = 5 ∧ xs'.length = 64 ∧ HW w0 ((k, blk 170 (0, 0) (dgC hs' xs' nx' len' [])) :: L) w' := by
  refine enter (us := [.pointer (some ⟨k, 0, none⟩)]) Tryz.func260 rfl Tryz.ntmps260 (by simp) rfl ?_ hw
  refine WC.seq ?_
  refine WC.region ?_
  refine WL.act rfl (OW.allocC (vs := i8 (List.replicate 20 0)) Tryz.zeroValue334 rfl rfl (fun b2 => ?_))
  refine WL.nil ?_
  refine EX.next ?_
  refine WC.seq ?_
  refine WC.region ?_
  refine WL.val (v_move rfl) rfl ?_
  refine WL.val (v_nilCheck_ptr rfl) rfl ?_
  refine WL.val (v_field Tryz.runUnderlying170 rfl Tryz.sizeOf50 (by decide) rfl) rfl ?_
  refine WL.val (v_load Tryz.isAgg50 rfl (mS m0) (dgC_len (o := 70) (by omega))) rfl ?_
  refine WL.val (v_assign rfl) rfl ?_
  refine WL.nil ?_
  refine EX.next ?_
  refine WC.seq ?_
  refine WC.region ?_
  refine WL.act rfl (OW.allocC (vs := i8 (List.replicate 72 0)) Tryz.zeroValue178 rfl rfl (fun b4 => ?_))
  refine WL.nil ?_
  refine EX.next ?_
  refine WC.seq ?_
  refine WC.region ?_
  refine WL.val (n_ixa (m := 0) Tryz.runUnderlying178 Tryz.sizeOf5 rfl (show _ = some (Value.int .i64 ((0 : Nat) : Int)) from rfl) (by decide)) rfl ?_
  refine WL.act rfl (OW.store (vs' := _) Tryz.sizeOf5 rfl rfl rfl (iu_set _ _ 0 128) .here (by rw [iu_length]; simp) (by simp) ?_)
  refine WL.nil ?_
  refine EX.next ?_
  refine WC.seq ?_
  refine WC.region ?_
  refine WL.val (v_assign rfl) rfl ?_
  refine WL.nil ?_
  refine EX.next ?_
  refine WC.cut (fun ac wl => ∃ T : Nat, ∃ zs : List Int, ((len + T + 8) % 64 = 0) ∧ (1 ≤ T) ∧ (T ≤ 64) ∧ (zs.length = 72) ∧ St w0 83 [(0, .pointer (some ⟨k, 0, none⟩)), (2, .pointer (some ⟨b2, 0, none⟩)), (3, .int .u64 (len : Int)), (4, .pointer (some ⟨b4, 0, none⟩)), (5, .int .u64 (T : Int))] ((b4, blk 178 (0, 0) (i8 zs)) :: (b2, blk 334 (0, 0) (i8 (List.replicate 20 0))) :: (k, blk 170 (0, 0) (dgC hs xs (nx : Int) (len : Int) [])) :: L) ac wl) ?_ ?_
  · skip
    refine WC.seq ?_
    refine WC.region ?_
    refine WL.val (v_move rfl) rfl ?_
    refine WL.val (u64_rem rfl rfl (show (64 : Int) = ((64 : Nat) : Int) from rfl) (by decide)) rfl ?_
    refine WL.val (v_lss rfl rfl) rfl ?_
    refine WL.nil ?_
    refine EX.next ?_
    refine WC.cond rfl ?_ ?_
    · intro hb5
      have h56 : len % 64 < 56 := by have := of_decide_eq_true hb5; omega
      refine WC.region ?_
      refine WL.val (v_move rfl) rfl ?_
      refine WL.val (u64_rem rfl rfl (show (64 : Int) = ((64 : Nat) : Int) from rfl) (by decide)) rfl ?_
      refine WL.val (u64_sub (m := 56) rfl rfl rfl (by omega) (by omega)) rfl ?_
      refine WL.val (v_assign rfl) rfl ?_
      refine WL.nil ?_
      refine EX.to ?_
      exact KS.mk fun b w hS => ⟨56 - len % 64, _, by omega, by omega, by omega, by simp, hS.keep ⟨rfl, rfl, rfl, rfl, rfl, trivial⟩⟩
    · intro hb5
      have h56 : 56 ≤ len % 64 := by have := of_decide_eq_false hb5; omega
      refine WC.region ?_
      refine WL.val (v_move rfl) rfl ?_
      refine WL.val (u64_rem rfl rfl (show (64 : Int) = ((64 : Nat) : Int) from rfl) (by decide)) rfl ?_
      refine WL.val (u64_sub (m := 120) rfl rfl rfl (by omega) (by omega)) rfl ?_
      refine WL.val (v_assign rfl) rfl ?_
      refine WL.nil ?_
      refine EX.to ?_
      exact KS.mk fun b w hS => ⟨120 - len % 64, _, by omega, by omega, by omega, by simp, hS.keep ⟨rfl, rfl, rfl, rfl, rfl, trivial⟩⟩
  · rintro ac wl ⟨T, zs, hT, hT1, hT2, hzs, hS⟩
    revert ac wl
    refine KS.out ?_
    refine WC.seq ?_
    refine WC.region ?_
    refine WL.val (v_move rfl) rfl ?_
    refine WL.val (v_shl rfl rfl (by omega)) rfl ?_
    refine WL.val (v_assign rfl) rfl ?_
    refine WL.nil ?_
    refine EX.next ?_
    refine WC.seq ?_
    refine WC.region ?_
    refine WL.val (v_move rfl) rfl ?_
    refine WL.val (u64_add rfl rfl (show (8 : Int) = ((8 : Nat) : Int) from rfl) (by omega)) rfl ?_
    refine WL.val (Val.to (v' := .slice (some ⟨b4, 0, none⟩) (T + 8) 72) rfl (v_slice_arr (i := 0) (j := T + 8) Tryz.runUnderlying178 Tryz.sizeOf5 rfl rfl ⟨.u64, rfl⟩ (by omega) (show T + 8 ≤ 72 by omega) (by decide))) rfl ?_
    refine WL.val (v_assign rfl) rfl ?_
    refine WL.nil ?_
    refine EX.next ?_
    refine WC.seq ?_
    refine WC.draw (L) (.quiet 0 (.quiet 1 (.quiet 2 (.quiet 3 (.quiet 4 (.one 5 .done)))))) (by kernel_rfl) (fun _ => Sb.hw) ?_
    refine AK.quiet rfl (v_load_empty Tryz.isAgg143 Tryz.sizeOf143 rfl) rfl ?_
    refine AK.quiet rfl (v_move rfl) rfl ?_
    refine AK.quiet rfl (v_move rfl) rfl ?_
    refine AK.quiet rfl (Val.cast (v_slice (i := T) (j := T + 8) Tryz.runUnderlying23 Tryz.sizeOf5 rfl ⟨.u64, rfl⟩ rfl (by omega) (show T + 8 ≤ 72 by omega) (show T + 8 ≤ 72 by omega)) (show _ = Value.slice (some ⟨b4, T, none⟩) (T + 8 - T) (72 - T) by rw [cutA_block _ _ _ _ (by omega), Nat.zero_add])) rfl ?_
    refine AK.quiet rfl (v_move rfl) rfl ?_
    refine AK.one rfl rfl (OW.call (xs := [.tmp 27, .tmp 30, .tmp 31]) Tryz.call76 rfl (fun w hw => put64_any w0 w _ b4 178 zs T _ _ (by omega) (by omega) _ hw) rfl ?_)
    rintro r w' ⟨ys4, rfl, hys4, hw'⟩
    refine ⟨_, _, rfl, hw', ?_⟩
    refine AK.on (fun _ => Sb.hw) ?_
    refine AK.done ?_
    refine EX.next ?_
    refine WC.seq ?_
    refine WC.region ?_
    refine WL.val (v_move rfl) rfl ?_
    refine WL.val (v_move rfl) rfl ?_
    refine WL.act rfl (OW.call (xs := [.tmp 33, .tmp 34]) Tryz.call259 rfl (fun w hw => write1_any w0 w _ k hs xs nx len [] hhs hxs (by omega) _ (T + 8) 72 (ys4.take (T + 8)) (by rw [List.length_take]; omega) (by omega) (by exact (by rw [i8_take]; exact (Rd.whole (t := 178) (fr := (0, 0)) m0).take _)) (by omega) (HW.take hw)) rfl ?_)
    rintro r w' ⟨hs2, xs2, rfl, hhs2, hxs2, hw'⟩
    have hz0 : (nx + (T + 8)) % 64 = 0 := by omega
    rw [hz0] at hw'
    refine ⟨_, _, rfl, hw', ?_⟩
    refine WL.nil ?_
    refine EX.next ?_
    refine WC.seq ?_
    refine WC.seq ?_
    refine WC.region ?_
    refine WL.val (v_move rfl) rfl ?_
    refine WL.val (v_nilCheck_ptr rfl) rfl ?_
    refine WL.val (v_field Tryz.runUnderlying170 rfl Tryz.sizeOf3 (by decide) rfl) rfl ?_
    refine WL.val (v_load Tryz.isAgg3 rfl m0 (dgC_nx (o := 69) (by omega))) rfl ?_
    refine WL.val (v_neq rfl rfl) rfl ?_
    refine WL.nil ?_
    refine EX.next ?_
    refine WC.cond rfl ?_ ?_
    · intro hb12
      exact absurd hb12 (by decide)
    · intro hb12
      refine WC.skip ?_
      refine EX.next ?_
      refine WC.cut (fun ac wl => ∃ b7 : Nat, ∃ n2 : Int, ∃ l2 : Int, ∃ y0 : List Int, (y0.length = 20) ∧ St w0 83 [(0, .pointer (some ⟨k, 0, none⟩)), (2, .pointer (some ⟨b2, 0, none⟩)), (7, .pointer (some ⟨b7, 0, none⟩))] ((b7, blk 334 (0, 0) (i8 y0)) :: (k, blk 170 (0, 0) (dgC hs2 xs2 n2 l2 [])) :: (b2, blk 334 (0, 0) (i8 (List.replicate 20 0))) :: L) ac wl) ?_ ?_
      · skip
        refine WC.region ?_
        refine WL.act rfl (OW.allocC (vs := i8 (List.replicate 20 0)) Tryz.zeroValue334 rfl rfl (fun b7 => ?_))
        refine WL.nil ?_
        refine EX.to ?_
        exact KS.mk fun b w hS => ⟨b7, _, _, List.replicate 20 0, by simp, (hS.heap' (hS.mem.sub ((List.sublist_cons_self _ _).cons_cons _ |>.cons_cons _))).keep ⟨rfl, rfl, rfl, trivial⟩⟩
      · rintro ac wl ⟨b7, n2, l2, y0, hy0, hS⟩
        revert ac wl
        refine KS.out ?_
        refine WC.seq ?_
        refine WC.draw ((k, blk 170 (0, 0) (dgC hs2 xs2 n2 l2 [])) :: (b2, blk 334 (0, 0) (i8 (List.replicate 20 0))) :: L) (.quiet 0 (.quiet 1 (.quiet 2 (.quiet 3 (.quiet 4 (.quiet 5 (.quiet 6 (.one 7 .done)))))))) (by kernel_rfl) (fun _ => Sb.hw) ?_
        refine AK.quiet rfl (v_load_empty Tryz.isAgg143 Tryz.sizeOf143 rfl) rfl ?_
        refine AK.quiet rfl (Val.to (v' := .slice (some ⟨b7, 0, none⟩) 20 20) rfl (v_slice_arr (i := 0) (j := 20) Tryz.runUnderlying334 Tryz.sizeOf5 rfl ⟨.i64, rfl⟩ rfl (by decide) (by decide) (by decide))) rfl ?_
        refine AK.quiet rfl (v_move rfl) rfl ?_
        refine AK.quiet rfl (v_nilCheck_ptr rfl) rfl ?_
        refine AK.quiet rfl (v_field Tryz.runUnderlying170 rfl Tryz.sizeOf168 (by decide) rfl) rfl ?_
        refine AK.quiet rfl (n_ixa (m := 0) Tryz.runUnderlying168 Tryz.sizeOf22 rfl (show _ = some (Value.int .i64 ((0 : Nat) : Int)) from rfl) (by decide)) rfl ?_
        refine AK.quiet rfl (v_load Tryz.isAgg22 rfl m0 (dgC_h (i := 0) (by omega))) rfl ?_
        refine AK.one rfl rfl (OW.call (xs := [.tmp 42, .tmp 43, .tmp 48]) Tryz.call78 rfl (fun w hw => put32_any w0 w _ b7 334 y0 0 _ _ (by omega) (by omega) _ hw) rfl ?_)
        rintro r w' ⟨y1, rfl, hy1, hw'⟩
        refine ⟨_, _, rfl, hw', ?_⟩
        refine AK.on (fun _ => Sb.hw) ?_
        refine AK.done ?_
        refine EX.next ?_
        refine WC.seq ?_
        refine WC.draw ((k, blk 170 (0, 0) (dgC hs2 xs2 n2 l2 [])) :: (b2, blk 334 (0, 0) (i8 (List.replicate 20 0))) :: L) (.quiet 0 (.quiet 1 (.quiet 2 (.quiet 3 (.quiet 4 (.quiet 5 (.quiet 6 (.one 7 .done)))))))) (by kernel_rfl) (fun _ => Sb.hw) ?_
        refine AK.quiet rfl (v_load_empty Tryz.isAgg143 Tryz.sizeOf143 rfl) rfl ?_
        refine AK.quiet rfl (Val.to (v' := .slice (some ⟨b7, 4, none⟩) 16 16) rfl (v_slice_arr (i := 4) (j := 20) Tryz.runUnderlying334 Tryz.sizeOf5 rfl ⟨.i64, rfl⟩ rfl (by decide) (by decide) (by decide))) rfl ?_
        refine AK.quiet rfl (v_move rfl) rfl ?_
        refine AK.quiet rfl (v_nilCheck_ptr rfl) rfl ?_
        refine AK.quiet rfl (v_field Tryz.runUnderlying170 rfl Tryz.sizeOf168 (by decide) rfl) rfl ?_
        refine AK.quiet rfl (n_ixa (m := 1) Tryz.runUnderlying168 Tryz.sizeOf22 rfl (show _ = some (Value.int .i64 ((1 : Nat) : Int)) from rfl) (by decide)) rfl ?_
        refine AK.quiet rfl (v_load Tryz.isAgg22 rfl m0 (dgC_h (i := 1) (by omega))) rfl ?_
        refine AK.one rfl rfl (OW.call (xs := [.tmp 50, .tmp 51, .tmp 56]) Tryz.call78 rfl (fun w hw => put32_any w0 w _ b7 334 y1 4 _ _ (by omega) (by omega) _ hw) rfl ?_)
        rintro r w' ⟨y2, rfl, hy2, hw'⟩
        refine ⟨_, _, rfl, hw', ?_⟩
        refine AK.on (fun _ => Sb.hw) ?_
        refine AK.done ?_
        refine EX.next ?_
        refine WC.seq ?_
        refine WC.draw ((k, blk 170 (0, 0) (dgC hs2 xs2 n2 l2 [])) :: (b2, blk 334 (0, 0) (i8 (List.replicate 20 0))) :: L) (.quiet 0 (.quiet 1 (.quiet 2 (.quiet 3 (.quiet 4 (.quiet 5 (.quiet 6 (.one 7 .done)))))))) (by kernel_rfl) (fun _ => Sb.hw) ?_
        refine AK.quiet rfl (v_load_empty Tryz.isAgg143 Tryz.sizeOf143 rfl) rfl ?_
        refine AK.quiet rfl (Val.to (v' := .slice (some ⟨b7, 8, none⟩) 12 12) rfl (v_slice_arr (i := 8) (j := 20) Tryz.runUnderlying334 Tryz.sizeOf5 rfl ⟨.i64, rfl⟩ rfl (by decide) (by decide) (by decide))) rfl ?_
        refine AK.quiet rfl (v_move rfl) rfl ?_
        refine AK.quiet rfl (v_nilCheck_ptr rfl) rfl ?_
        refine AK.quiet rfl (v_field Tryz.runUnderlying170 rfl Tryz.sizeOf168 (by decide) rfl) rfl ?_
        refine AK.quiet rfl (n_ixa (m := 2) Tryz.runUnderlying168 Tryz.sizeOf22 rfl (show _ = some (Value.int .i64 ((2 : Nat) : Int)) from rfl) (by decide)) rfl ?_
        refine AK.quiet rfl (v_load Tryz.isAgg22 rfl m0 (dgC_h (i := 2) (by omega))) rfl ?_
        refine AK.one rfl rfl (OW.call (xs := [.tmp 58, .tmp 59, .tmp 64]) Tryz.call78 rfl (fun w hw => put32_any w0 w _ b7 334 y2 8 _ _ (by omega) (by omega) _ hw) rfl ?_)
        rintro r w' ⟨y3, rfl, hy3, hw'⟩
        refine ⟨_, _, rfl, hw', ?_⟩
        refine AK.on (fun _ => Sb.hw) ?_
        refine AK.done ?_
        refine EX.next ?_
        refine WC.seq ?_
        refine WC.draw ((k, blk 170 (0, 0) (dgC hs2 xs2 n2 l2 [])) :: (b2, blk 334 (0, 0) (i8 (List.replicate 20 0))) :: L) (.quiet 0 (.quiet 1 (.quiet 2 (.quiet 3 (.quiet 4 (.quiet 5 (.quiet 6 (.one 7 .done)))))))) (by kernel_rfl) (fun _ => Sb.hw) ?_
        refine AK.quiet rfl (v_load_empty Tryz.isAgg143 Tryz.sizeOf143 rfl) rfl ?_
        refine AK.quiet rfl (Val.to (v' := .slice (some ⟨b7, 12, none⟩) 8 8) rfl (v_slice_arr (i := 12) (j := 20) Tryz.runUnderlying334 Tryz.sizeOf5 rfl ⟨.i64, rfl⟩ rfl (by decide) (by decide) (by decide))) rfl ?_
        refine AK.quiet rfl (v_move rfl) rfl ?_
        refine AK.quiet rfl (v_nilCheck_ptr rfl) rfl ?_
        refine AK.quiet rfl (v_field Tryz.runUnderlying170 rfl Tryz.sizeOf168 (by decide) rfl) rfl ?_
        refine AK.quiet rfl (n_ixa (m := 3) Tryz.runUnderlying168 Tryz.sizeOf22 rfl (show _ = some (Value.int .i64 ((3 : Nat) : Int)) from rfl) (by decide)) rfl ?_
        refine AK.quiet rfl (v_load Tryz.isAgg22 rfl m0 (dgC_h (i := 3) (by omega))) rfl ?_
        refine AK.one rfl rfl (OW.call (xs := [.tmp 66, .tmp 67, .tmp 72]) Tryz.call78 rfl (fun w hw => put32_any w0 w _ b7 334 y3 12 _ _ (by omega) (by omega) _ hw) rfl ?_)
        rintro r w' ⟨y4, rfl, hy4, hw'⟩
        refine ⟨_, _, rfl, hw', ?_⟩
        refine AK.on (fun _ => Sb.hw) ?_
        refine AK.done ?_
        refine EX.next ?_
        refine WC.seq ?_
        refine WC.draw ((k, blk 170 (0, 0) (dgC hs2 xs2 n2 l2 [])) :: (b2, blk 334 (0, 0) (i8 (List.replicate 20 0))) :: L) (.quiet 0 (.quiet 1 (.quiet 2 (.quiet 3 (.quiet 4 (.quiet 5 (.quiet 6 (.one 7 .done)))))))) (by kernel_rfl) (fun _ => Sb.hw) ?_
        refine AK.quiet rfl (v_load_empty Tryz.isAgg143 Tryz.sizeOf143 rfl) rfl ?_
        refine AK.quiet rfl (Val.to (v' := .slice (some ⟨b7, 16, none⟩) 4 4) rfl (v_slice_arr (i := 16) (j := 20) Tryz.runUnderlying334 Tryz.sizeOf5 rfl ⟨.i64, rfl⟩ rfl (by decide) (by decide) (by decide))) rfl ?_
        refine AK.quiet rfl (v_move rfl) rfl ?_
        refine AK.quiet rfl (v_nilCheck_ptr rfl) rfl ?_
        refine AK.quiet rfl (v_field Tryz.runUnderlying170 rfl Tryz.sizeOf168 (by decide) rfl) rfl ?_
        refine AK.quiet rfl (n_ixa (m := 4) Tryz.runUnderlying168 Tryz.sizeOf22 rfl (show _ = some (Value.int .i64 ((4 : Nat) : Int)) from rfl) (by decide)) rfl ?_
        refine AK.quiet rfl (v_load Tryz.isAgg22 rfl m0 (dgC_h (i := 4) (by omega))) rfl ?_
        refine AK.one rfl rfl (OW.call (xs := [.tmp 74, .tmp 75, .tmp 80]) Tryz.call78 rfl (fun w hw => put32_any w0 w _ b7 334 y4 16 _ _ (by omega) (by omega) _ hw) rfl ?_)
        rintro r w' ⟨y5, rfl, hy5, hw'⟩
        refine ⟨_, _, rfl, hw', ?_⟩
        refine AK.on (fun _ => Sb.hw) ?_
        refine AK.done ?_
        refine EX.next ?_
        refine WC.seq ?_
        refine WC.region ?_
        refine WL.val (v_load_agg (us := i8 y5) Tryz.isAgg334 Tryz.sizeOf334 rfl m0 (by rw [i8_length]; omega) (fun j v h => by rw [Nat.zero_add]; exact h)) rfl ?_
        refine WL.act rfl (OW.storeAgg (us := i8 y5) Tryz.sizeOf334 rfl rfl (i8_all _) (by rw [i8_length]; omega) (overlay_all _ _ (by rw [i8_length, i8_length, List.length_replicate]; omega)) (.there (.there .here)) (by rw [i8_length, i8_length, List.length_replicate]; omega) ?_)
        refine WL.nil ?_
        refine EX.next ?_
        refine WC.ret ?_
        exact retC Tryz.results260 Tryz.isAgg334 Tryz.sizeOf334 rfl (mS (mS m0)) (by rw [i8_length]; omega) fun w hw => ⟨y5, hs2, xs2, n2, l2, rfl, by omega, hhs2, hxs2, Sb.hw hw⟩
theorem sum1_any (w0 w : World) (L : Heap) (k : Nat) (hs xs : List Int) (nx len : Nat) (hhs : hs.length = 5) (hxs : xs.length = 64) (hnx : nx = len % 64) (hkm : (k, blk 170 (0, 0) (dgC hs xs (nx : Int) (len : Int) [])) ∈ L) (hw : HW w0 L w) :
    Calls P 258 #[.pointer (some ⟨k, 0, none⟩), .slice none 0 0] w fun e w' => ∃ o ys, e = .returned (ownV o (i8 ys)) ∧ ys.length = 20 ∧ (o = none → i8 ys = []) ∧ HW w0 (ownL 5 o (i8 ys) ++ L) w' := by
  refine enter (us := [.pointer (some ⟨k, 0, none⟩), .slice none 0 0]) Tryz.func258 rfl Tryz.ntmps258 (by simp) rfl ?_ hw
  refine WC.seq ?_
  refine WC.region ?_
  refine WL.val (v_assign rfl) rfl ?_
  refine WL.nil ?_
  refine EX.next ?_
  refine WC.seq ?_
  refine WC.region ?_
  refine WL.val (v_move rfl) rfl ?_
  refine WL.val (v_nilCheck_ptr rfl) rfl ?_
  refine WL.val (v_load_agg (us := dgC hs xs (nx : Int) (len : Int) []) Tryz.isAgg170 Tryz.sizeOf170 rfl hkm (by rw [dgC_length]; simp only [List.length_cons, List.length_nil]; omega) (fun j v h => by rw [Nat.zero_add]; exact h)) rfl ?_
  refine WL.act rfl (OW.allocC (vs := dgC (List.replicate 5 0) (List.replicate 64 0) 0 0 []) Tryz.zeroValue170 rfl rfl (fun b5 => ?_))
  refine WL.act rfl (OW.storeAgg (us := dgC hs xs (nx : Int) (len : Int) []) Tryz.sizeOf170 rfl rfl (dgC_all rfl) (by rw [dgC_length]; simp only [List.length_cons, List.length_nil]; omega) (overlay_all _ _ (by rw [dgC_length, dgC_length, List.length_replicate, List.length_replicate]; omega)) .here (by rw [dgC_length, dgC_length, List.length_replicate, List.length_replicate]; omega) ?_)
  refine WL.nil ?_
  refine EX.next ?_
  refine WC.seq ?_
  refine WC.region ?_
  refine WL.act rfl (OW.call (xs := [.tmp 5]) Tryz.call260 rfl (fun w hw => checkSum1_any w0 w _ b5 hs xs nx len hhs hxs hnx hw) rfl ?_)
  rintro r w' ⟨ys, hs2, xs2, n2, l2, rfl, hys, hhs2, hxs2, hw'⟩
  refine ⟨_, _, rfl, hw', ?_⟩
  refine WL.act rfl (OW.allocC (vs := i8 (List.replicate 20 0)) Tryz.zeroValue334 rfl rfl (fun b6 => ?_))
  refine WL.act rfl (OW.storeAgg (us := i8 ys) Tryz.sizeOf334 rfl rfl (i8_all _) (by rw [i8_length]; omega) (overlay_all _ _ (by rw [i8_length, i8_length, List.length_replicate]; omega)) .here (by rw [i8_length, i8_length, List.length_replicate]; omega) ?_)
  refine WL.nil ?_
  refine EX.next ?_
  refine WC.seq ?_
  refine WC.region ?_
  refine WL.val (v_move rfl) rfl ?_
  refine WL.val (Val.to (v' := .slice (some ⟨b6, 0, none⟩) 20 20) rfl (v_slice_arr (i := 0) (j := 20) Tryz.runUnderlying334 Tryz.sizeOf5 rfl rfl rfl (by decide) (by decide) (by decide))) rfl ?_
  refine WL.act rfl (OW.append (o := none) (data := []) (news := i8 ys) (data' := i8 ys) (L1 := _) Tryz.runUnderlying23 Tryz.runUnderlying23 Tryz.sizeOf5 Tryz.typeInfo5 Tryz.zeroValue5 rfl rfl rfl (by rw [i8_length]; omega) (fun _ h => h) (fun _ => rfl) (Rd.whole (t := 334) (fr := (0, 0)) m0) (iu_one _ _) (by rw [i8_length, bytes5]; simp only [List.length_nil]; omega) (by rw [i8_length]; simp only [List.length_nil]; omega) rfl rfl (fun o ho => ?_))
  refine WL.val (v_assign rfl) rfl ?_
  refine WL.nil ?_
  refine EX.next ?_
  refine WC.ret ?_
  exact ret1 Tryz.results258 rfl fun w hw => ⟨o, ys, rfl, hys, ho, hw.sub ((((List.sublist_cons_self _ _).trans (List.sublist_cons_self _ _))).append_left _)⟩
end Go.Proofs.YtljoodllnaekbaaGreatDoor

namespace Go.Proofs.YtljoodllnaekbaaGreatDoor
open Go

theorem reset256_any (w0 w : World) (L : Heap) (k : Nat) (hs xs : List Int) (nx len : Int) (hhs : hs.length = 8) (hxs : xs.length = 64) (hw : HW w0 ((k, blk 164 (0, 0) (dgC hs xs nx len [.bool false])) :: L) w) :
    Calls P 63 #[.pointer (some ⟨k, 0, none⟩)] w fun e w' => ∃ hs', e = .returned (.tuple #[]) ∧ hs'.length = 8 ∧ HW w0 ((k, blk 164 (0, 0) (dgC hs' xs 0 0 [.bool false])) :: L) w' := by
  refine enter (us := [.pointer (some ⟨k, 0, none⟩)]) Tryz.func63 rfl Tryz.ntmps63 (by simp) rfl ?_ hw
  refine WC.seq ?_
  refine WC.seq ?_
  refine WC.region ?_
  refine WL.val (v_move rfl) rfl ?_
  refine WL.val (v_nilCheck_ptr rfl) rfl ?_
  refine WL.val (v_field Tryz.runUnderlying164 rfl Tryz.sizeOf4 (by decide) rfl) rfl ?_
  refine WL.val (v_load Tryz.isAgg4 rfl m0 (dgC_more (o := 74) (by omega))) rfl ?_
  refine WL.val (v_not rfl) rfl ?_
  refine WL.nil ?_
  refine EX.next ?_
  refine WC.cond rfl ?_ ?_
  · intro hb0
    refine WC.seq ?_
    refine WC.region ?_
    refine WL.val (v_move rfl) rfl ?_
    refine WL.val (v_nilCheck_ptr rfl) rfl ?_
    refine WL.val (v_field Tryz.runUnderlying164 rfl Tryz.sizeOf161 (by decide) rfl) rfl ?_
    refine WL.val (n_ixa (m := 0) Tryz.runUnderlying161 Tryz.sizeOf22 rfl (show _ = some (Value.int .i64 ((0 : Nat) : Int)) from rfl) (by decide)) rfl ?_
    refine WL.act rfl (OW.store (vs' := _) Tryz.sizeOf22 rfl rfl rfl (dgC_set_h (i := 0) (by omega) _) .here (by show 0 < _; rw [dgC_length]; omega) (by simp) ?_)
    refine WL.nil ?_
    refine EX.next ?_
    refine WC.seq ?_
    refine WC.region ?_
    refine WL.val (v_move rfl) rfl ?_
    refine WL.val (v_nilCheck_ptr rfl) rfl ?_
    refine WL.val (v_field Tryz.runUnderlying164 rfl Tryz.sizeOf161 (by decide) rfl) rfl ?_
    refine WL.val (n_ixa (m := 1) Tryz.runUnderlying161 Tryz.sizeOf22 rfl (show _ = some (Value.int .i64 ((1 : Nat) : Int)) from rfl) (by decide)) rfl ?_
    refine WL.act rfl (OW.store (vs' := _) Tryz.sizeOf22 rfl rfl rfl (dgC_set_h (i := 1) (by simp only [List.length_set]; omega) _) .here (by show 1 < _; rw [dgC_length]; simp only [List.length_set]; omega) (by simp) ?_)
    refine WL.nil ?_
    refine EX.next ?_
    refine WC.seq ?_
    refine WC.region ?_
    refine WL.val (v_move rfl) rfl ?_
    refine WL.val (v_nilCheck_ptr rfl) rfl ?_
    refine WL.val (v_field Tryz.runUnderlying164 rfl Tryz.sizeOf161 (by decide) rfl) rfl ?_
    refine WL.val (n_ixa (m := 2) Tryz.runUnderlying161 Tryz.sizeOf22 rfl (show _ = some (Value.int .i64 ((2 : Nat) : Int)) from rfl) (by decide)) rfl ?_
    refine WL.act rfl (OW.store (vs' := _) Tryz.sizeOf22 rfl rfl rfl (dgC_set_h (i := 2) (by simp only [List.length_set]; omega) _) .here (by show 2 < _; rw [dgC_length]; simp only [List.length_set]; omega) (by simp) ?_)
    refine WL.nil ?_
    refine EX.next ?_
    refine WC.seq ?_
    refine WC.region ?_
    refine WL.val (v_move rfl) rfl ?_
    refine WL.val (v_nilCheck_ptr rfl) rfl ?_
    refine WL.val (v_field Tryz.runUnderlying164 rfl Tryz.sizeOf161 (by decide) rfl) rfl ?_
    refine WL.val (n_ixa (m := 3) Tryz.runUnderlying161 Tryz.sizeOf22 rfl (show _ = some (Value.int .i64 ((3 : Nat) : Int)) from rfl) (by decide)) rfl ?_
    refine WL.act rfl (OW.store (vs' := _) Tryz.sizeOf22 rfl rfl rfl (dgC_set_h (i := 3) (by simp only [List.length_set]; omega) _) .here (by show 3 < _; rw [dgC_length]; simp only [List.length_set]; omega) (by simp) ?_)
    refine WL.nil ?_
    refine EX.next ?_
    refine WC.seq ?_
    refine WC.region ?_
    refine WL.val (v_move rfl) rfl ?_
    refine WL.val (v_nilCheck_ptr rfl) rfl ?_
    refine WL.val (v_field Tryz.runUnderlying164 rfl Tryz.sizeOf161 (by decide) rfl) rfl ?_
    refine WL.val (n_ixa (m := 4) Tryz.runUnderlying161 Tryz.sizeOf22 rfl (show _ = some (Value.int .i64 ((4 : Nat) : Int)) from rfl) (by decide)) rfl ?_
    refine WL.act rfl (OW.store (vs' := _) Tryz.sizeOf22 rfl rfl rfl (dgC_set_h (i := 4) (by simp only [List.length_set]; omega) _) .here (by show 4 < _; rw [dgC_length]; simp only [List.length_set]; omega) (by simp) ?_)
    refine WL.nil ?_
    refine EX.next ?_
    refine WC.seq ?_
    refine WC.region ?_
    refine WL.val (v_move rfl) rfl ?_
    refine WL.val (v_nilCheck_ptr rfl) rfl ?_
    refine WL.val (v_field Tryz.runUnderlying164 rfl Tryz.sizeOf161 (by decide) rfl) rfl ?_
    refine WL.val (n_ixa (m := 5) Tryz.runUnderlying161 Tryz.sizeOf22 rfl (show _ = some (Value.int .i64 ((5 : Nat) : Int)) from rfl) (by decide)) rfl ?_
    refine WL.act rfl (OW.store (vs' := _) Tryz.sizeOf22 rfl rfl rfl (dgC_set_h (i := 5) (by simp only [List.length_set]; omega) _) .here (by show 5 < _; rw [dgC_length]; simp only [List.length_set]; omega) (by simp) ?_)
    refine WL.nil ?_
    refine EX.next ?_
    refine WC.seq ?_
    refine WC.region ?_
    refine WL.val (v_move rfl) rfl ?_
    refine WL.val (v_nilCheck_ptr rfl) rfl ?_
    refine WL.val (v_field Tryz.runUnderlying164 rfl Tryz.sizeOf161 (by decide) rfl) rfl ?_
    refine WL.val (n_ixa (m := 6) Tryz.runUnderlying161 Tryz.sizeOf22 rfl (show _ = some (Value.int .i64 ((6 : Nat) : Int)) from rfl) (by decide)) rfl ?_
    refine WL.act rfl (OW.store (vs' := _) Tryz.sizeOf22 rfl rfl rfl (dgC_set_h (i := 6) (by simp only [List.length_set]; omega) _) .here (by show 6 < _; rw [dgC_length]; simp only [List.length_set]; omega) (by simp) ?_)
    refine WL.nil ?_
    refine EX.next ?_
    refine WC.region ?_
    refine WL.val (v_move rfl) rfl ?_
    refine WL.val (v_nilCheck_ptr rfl) rfl ?_
    refine WL.val (v_field Tryz.runUnderlying164 rfl Tryz.sizeOf161 (by decide) rfl) rfl ?_
    refine WL.val (n_ixa (m := 7) Tryz.runUnderlying161 Tryz.sizeOf22 rfl (show _ = some (Value.int .i64 ((7 : Nat) : Int)) from rfl) (by decide)) rfl ?_
    refine WL.act rfl (OW.store (vs' := _) Tryz.sizeOf22 rfl rfl rfl (dgC_set_h (i := 7) (by simp only [List.length_set]; omega) _) .here (by show 7 < _; rw [dgC_length]; simp only [List.length_set]; omega) (by simp) ?_)
    refine WL.nil ?_
    refine EX.next ?_
    refine WC.seq ?_
    refine WC.region ?_
    refine WL.val (v_move rfl) rfl ?_
    refine WL.val (v_nilCheck_ptr rfl) rfl ?_
    refine WL.val (v_field Tryz.runUnderlying164 rfl Tryz.sizeOf3 (by decide) rfl) rfl ?_
    refine WL.act rfl (OW.store (vs' := _) Tryz.sizeOf3 rfl rfl rfl (dgC_set_nx (o := 72) (by simp only [List.length_set]; omega) _) .here (by show 72 < _; rw [dgC_length]; simp only [List.length_set]; omega) (by simp) ?_)
    refine WL.nil ?_
    refine EX.next ?_
    refine WC.region ?_
    refine WL.val (v_move rfl) rfl ?_
    refine WL.val (v_nilCheck_ptr rfl) rfl ?_
    refine WL.val (v_field Tryz.runUnderlying164 rfl Tryz.sizeOf50 (by decide) rfl) rfl ?_
    refine WL.act rfl (OW.store (vs' := _) Tryz.sizeOf50 rfl rfl rfl (dgC_set_len (o := 73) (by simp only [List.length_set]; omega) _) .here (by show 73 < _; rw [dgC_length]; simp only [List.length_set]; omega) (by simp) ?_)
    refine WL.nil ?_
    exact end0 Tryz.results63 fun w hw => ⟨_, rfl, by simp only [List.length_set]; exact hhs, hw⟩
  · intro hb0
    exact absurd hb0 (by decide)
theorem new256_any (w0 w : World) (L : Heap) (hw : HW w0 L w) :
    Calls P 53 #[] w fun e w' => ∃ k hs, e = .returned (.pointer (some ⟨k, 0, none⟩)) ∧ hs.length = 8 ∧ HW w0 ((k, blk 164 (0, 0) (dgC hs (List.replicate 64 0) 0 0 [.bool false])) :: L) w' := by
  refine enter (us := []) Tryz.func53 rfl Tryz.ntmps53 (by simp) rfl ?_ hw
  refine WC.seq ?_
  refine WC.region ?_
  refine WL.val (v_assign rfl) rfl ?_
  refine WL.nil ?_
  refine EX.next ?_
  refine WC.seq ?_
  refine WC.region ?_
  refine WL.act rfl (OW.allocC (vs := dgC (List.replicate 8 0) (List.replicate 64 0) 0 0 [.bool false]) Tryz.zeroValue164 rfl rfl (fun k => ?_))
  refine WL.val (v_assign rfl) rfl ?_
  refine WL.nil ?_
  refine EX.next ?_
  refine WC.seq ?_
  refine WC.region ?_
  refine WL.val (v_move rfl) rfl ?_
  refine WL.act rfl (OW.call (xs := [.tmp 3]) Tryz.call63 rfl (fun w hw => reset256_any w0 w L k _ _ _ _ (by simp) (by simp) hw) rfl ?_)
  rintro r w' ⟨hs', rfl, h8, hw'⟩
  refine ⟨_, _, rfl, hw', ?_⟩
  refine WL.nil ?_
  refine EX.next ?_
  refine WC.seq ?_
  refine WC.region ?_
  refine WL.val (v_move rfl) rfl ?_
  refine WL.val (v_assign rfl) rfl ?_
  refine WL.nil ?_
  refine EX.next ?_
  refine WC.ret ?_
  exact ret1 Tryz.results53 rfl fun w hw => ⟨k, hs', rfl, h8, hw⟩
/-- A digest's memory. -/
def Dig256S (k : Nat) (_ : List Nat) (H : Heap) : Prop := ∃ (hs xs : List Int) (nx len : Nat), H = [(k, blk 164 (0, 0) (dgC hs xs (nx : Int) (len : Int) [.bool false]))] ∧ hs.length = 8 ∧ xs.length = 64 ∧ nx = len % 64
theorem Dig256Writer (w0 : World) (k : Nat) : Writer w0 140 (.pointer (some ⟨k, 0, none⟩)) 77 (Dig256S k) KG where
  gm := fun _ _ h hG => hG.mono h
  meth := run_method Tryz.typeInfo140 Tryz.runUnderlying140 rfl rfl rfl
  call := Tryz.call77
  ahead := run_ahead Tryz.typeInfo140 rfl rfl rfl
  write := fun w H L bs q hG hS hq hl hb hw => by
    obtain ⟨hs, xs, nx, len, rfl, h1, h2, h3⟩ := hS
    refine (write256_any w0 w L k hs xs nx len [.bool false] hG h1 h2 (by omega) _ _ _ (q.2.2.map Int.ofNat) (List.length_map _) hq.cap (by rw [← bt_i8]; exact hq.rd) hl hw).mono ?_
    rintro e w' ⟨hs', xs', rfl, h4, h5, h6⟩
    exact ⟨_, rfl, ⟨hs', xs', _, _, rfl, h4, h5, by omega⟩, h6⟩
end Go.Proofs.YtljoodllnaekbaaGreatDoor

namespace Go.Proofs.YtljoodllnaekbaaGreatDoor
open Go

theorem reset1_any (w0 w : World) (L : Heap) (k : Nat) (hs xs : List Int) (nx len : Int) (hhs : hs.length = 5) (hxs : xs.length = 64) (hw : HW w0 ((k, blk 170 (0, 0) (dgC hs xs nx len [])) :: L) w) :
    Calls P 66 #[.pointer (some ⟨k, 0, none⟩)] w fun e w' => ∃ hs', e = .returned (.tuple #[]) ∧ hs'.length = 5 ∧ HW w0 ((k, blk 170 (0, 0) (dgC hs' xs 0 0 [])) :: L) w' := by
  refine enter (us := [.pointer (some ⟨k, 0, none⟩)]) Tryz.func66 rfl Tryz.ntmps66 (by simp) rfl ?_ hw
  refine WC.seq ?_
  refine WC.region ?_
  refine WL.val (v_move rfl) rfl ?_
  refine WL.val (v_nilCheck_ptr rfl) rfl ?_
  refine WL.val (v_field Tryz.runUnderlying170 rfl Tryz.sizeOf168 (by decide) rfl) rfl ?_
  refine WL.val (n_ixa (m := 0) Tryz.runUnderlying168 Tryz.sizeOf22 rfl (show _ = some (Value.int .i64 ((0 : Nat) : Int)) from rfl) (by decide)) rfl ?_
  refine WL.act rfl (OW.store (vs' := _) Tryz.sizeOf22 rfl rfl rfl (dgC_set_h (i := 0) (by omega) _) .here (by show 0 < _; rw [dgC_length]; omega) (by simp) ?_)
  refine WL.nil ?_
  refine EX.next ?_
  refine WC.seq ?_
  refine WC.region ?_
  refine WL.val (v_move rfl) rfl ?_
  refine WL.val (v_nilCheck_ptr rfl) rfl ?_
  refine WL.val (v_field Tryz.runUnderlying170 rfl Tryz.sizeOf168 (by decide) rfl) rfl ?_
  refine WL.val (n_ixa (m := 1) Tryz.runUnderlying168 Tryz.sizeOf22 rfl (show _ = some (Value.int .i64 ((1 : Nat) : Int)) from rfl) (by decide)) rfl ?_
  refine WL.act rfl (OW.store (vs' := _) Tryz.sizeOf22 rfl rfl rfl (dgC_set_h (i := 1) (by simp only [List.length_set]; omega) _) .here (by show 1 < _; rw [dgC_length]; simp only [List.length_set]; omega) (by simp) ?_)
  refine WL.nil ?_
  refine EX.next ?_
  refine WC.seq ?_
  refine WC.region ?_
  refine WL.val (v_move rfl) rfl ?_
  refine WL.val (v_nilCheck_ptr rfl) rfl ?_
  refine WL.val (v_field Tryz.runUnderlying170 rfl Tryz.sizeOf168 (by decide) rfl) rfl ?_
  refine WL.val (n_ixa (m := 2) Tryz.runUnderlying168 Tryz.sizeOf22 rfl (show _ = some (Value.int .i64 ((2 : Nat) : Int)) from rfl) (by decide)) rfl ?_
  refine WL.act rfl (OW.store (vs' := _) Tryz.sizeOf22 rfl rfl rfl (dgC_set_h (i := 2) (by simp only [List.length_set]; omega) _) .here (by show 2 < _; rw [dgC_length]; simp only [List.length_set]; omega) (by simp) ?_)
  refine WL.nil ?_
  refine EX.next ?_
  refine WC.seq ?_
  refine WC.region ?_
  refine WL.val (v_move rfl) rfl ?_
  refine WL.val (v_nilCheck_ptr rfl) rfl ?_
  refine WL.val (v_field Tryz.runUnderlying170 rfl Tryz.sizeOf168 (by decide) rfl) rfl ?_
  refine WL.val (n_ixa (m := 3) Tryz.runUnderlying168 Tryz.sizeOf22 rfl (show _ = some (Value.int .i64 ((3 : Nat) : Int)) from rfl) (by decide)) rfl ?_
  refine WL.act rfl (OW.store (vs' := _) Tryz.sizeOf22 rfl rfl rfl (dgC_set_h (i := 3) (by simp only [List.length_set]; omega) _) .here (by show 3 < _; rw [dgC_length]; simp only [List.length_set]; omega) (by simp) ?_)
  refine WL.nil ?_
  refine EX.next ?_
  refine WC.seq ?_
  refine WC.region ?_
  refine WL.val (v_move rfl) rfl ?_
  refine WL.val (v_nilCheck_ptr rfl) rfl ?_
  refine WL.val (v_field Tryz.runUnderlying170 rfl Tryz.sizeOf168 (by decide) rfl) rfl ?_
  refine WL.val (n_ixa (m := 4) Tryz.runUnderlying168 Tryz.sizeOf22 rfl (show _ = some (Value.int .i64 ((4 : Nat) : Int)) from rfl) (by decide)) rfl ?_
  refine WL.act rfl (OW.store (vs' := _) Tryz.sizeOf22 rfl rfl rfl (dgC_set_h (i := 4) (by simp only [List.length_set]; omega) _) .here (by show 4 < _; rw [dgC_length]; simp only [List.length_set]; omega) (by simp) ?_)
  refine WL.nil ?_
  refine EX.next ?_
  refine WC.seq ?_
  refine WC.region ?_
  refine WL.val (v_move rfl) rfl ?_
  refine WL.val (v_nilCheck_ptr rfl) rfl ?_
  refine WL.val (v_field Tryz.runUnderlying170 rfl Tryz.sizeOf3 (by decide) rfl) rfl ?_
  refine WL.act rfl (OW.store (vs' := _) Tryz.sizeOf3 rfl rfl rfl (dgC_set_nx (o := 69) (by simp only [List.length_set]; omega) _) .here (by show 69 < _; rw [dgC_length]; simp only [List.length_set]; omega) (by simp) ?_)
  refine WL.nil ?_
  refine EX.next ?_
  refine WC.region ?_
  refine WL.val (v_move rfl) rfl ?_
  refine WL.val (v_nilCheck_ptr rfl) rfl ?_
  refine WL.val (v_field Tryz.runUnderlying170 rfl Tryz.sizeOf50 (by decide) rfl) rfl ?_
  refine WL.act rfl (OW.store (vs' := _) Tryz.sizeOf50 rfl rfl rfl (dgC_set_len (o := 70) (by simp only [List.length_set]; omega) _) .here (by show 70 < _; rw [dgC_length]; simp only [List.length_set]; omega) (by simp) ?_)
  refine WL.nil ?_
  exact end0 Tryz.results66 fun w hw => ⟨_, rfl, by simp only [List.length_set]; exact hhs, hw⟩
theorem new1_any (w0 w : World) (L : Heap) (hw : HW w0 L w) :
    Calls P 57 #[] w fun e w' => ∃ k hs, e = .returned (.iface 167 (.pointer (some ⟨k, 0, none⟩))) ∧ hs.length = 5 ∧ HW w0 ((k, blk 170 (0, 0) (dgC hs (List.replicate 64 0) 0 0 [])) :: L) w' := by
  refine enter (us := []) Tryz.func57 rfl Tryz.ntmps57 (by simp) rfl ?_ hw
  refine WC.seq ?_
  refine WC.region ?_
  refine WL.val (v_assign rfl) rfl ?_
  refine WL.nil ?_
  refine EX.next ?_
  refine WC.seq ?_
  refine WC.region ?_
  refine WL.act rfl (OW.allocC (vs := dgC (List.replicate 5 0) (List.replicate 64 0) 0 0 []) Tryz.zeroValue170 rfl rfl (fun k => ?_))
  refine WL.val (v_assign rfl) rfl ?_
  refine WL.nil ?_
  refine EX.next ?_
  refine WC.seq ?_
  refine WC.region ?_
  refine WL.val (v_move rfl) rfl ?_
  refine WL.act rfl (OW.call (xs := [.tmp 3]) Tryz.call66 rfl (fun w hw => reset1_any w0 w L k _ _ _ _ (by simp) (by simp) hw) rfl ?_)
  rintro r w' ⟨hs', rfl, h8, hw'⟩
  refine ⟨_, _, rfl, hw', ?_⟩
  refine WL.nil ?_
  refine EX.next ?_
  refine WC.seq ?_
  refine WC.region ?_
  refine WL.val (v_move rfl) rfl ?_
  refine WL.val (v_iface Tryz.runUnderlying167 rfl rfl) rfl ?_
  refine WL.val (v_assign rfl) rfl ?_
  refine WL.nil ?_
  refine EX.next ?_
  refine WC.ret ?_
  exact ret1 Tryz.results57 rfl fun w hw => ⟨k, hs', rfl, h8, hw⟩
/-- A digest's memory. -/
def Dig1S (k : Nat) (_ : List Nat) (H : Heap) : Prop := ∃ (hs xs : List Int) (nx len : Nat), H = [(k, blk 170 (0, 0) (dgC hs xs (nx : Int) (len : Int) []))] ∧ hs.length = 5 ∧ xs.length = 64 ∧ nx = len % 64
theorem Dig1Writer (w0 : World) (k : Nat) : Writer w0 167 (.pointer (some ⟨k, 0, none⟩)) 259 (Dig1S k) (fun _ => True) where
  gm := fun _ _ _ _ => trivial
  meth := run_method Tryz.typeInfo167 Tryz.runUnderlying167 rfl rfl rfl
  call := Tryz.call259
  ahead := run_ahead Tryz.typeInfo167 rfl rfl rfl
  write := fun w H L bs q hG hS hq hl hb hw => by
    obtain ⟨hs, xs, nx, len, rfl, h1, h2, h3⟩ := hS
    refine (write1_any w0 w L k hs xs nx len [] h1 h2 (by omega) _ _ _ (q.2.2.map Int.ofNat) (List.length_map _) hq.cap (by rw [← bt_i8]; exact hq.rd) hl hw).mono ?_
    rintro e w' ⟨hs', xs', rfl, h4, h5, h6⟩
    exact ⟨_, rfl, ⟨hs', xs', _, _, rfl, h4, h5, by omega⟩, h6⟩
end Go.Proofs.YtljoodllnaekbaaGreatDoor

namespace Go.Proofs.YtljoodllnaekbaaGreatDoor
open Go

theorem prefix_any (w0 w : World) (L H : Heap) {t : TypeId} {u : Value} {f : FuncId} {S : List Nat → Heap → Prop} {G : Heap → Prop} (W : Writer w0 t u f S G) (hG : G L) (bs : List Nat) (hS0 : S bs H) (hbs : bs.length ≤ 500) (k ver created : Nat) (sub : Bool) (n : List Nat) (hk : PK L k ver created sub n) (hv : ver = 6 ∨ ver = 4) (hc : created < 4294967296) (hw : HW w0 (H ++ L) w) :
    Calls P 64 #[.pointer (some ⟨k, 0, none⟩), .iface t u] w fun e w' => ∃ cs H', e = .returned .nilIface ∧ cs.length ≤ 5 ∧ S (bs ++ cs) H' ∧ HW w0 (H' ++ L) w' := by
  have hk0 := hk
  obtain ⟨ty, pub, fp, kid, mp, mq, mg, my, rest, hkm, hF⟩ := hk
  have hkl := keyLen_le n
  refine enter (us := [.pointer (some ⟨k, 0, none⟩), .iface t u]) Tryz.func64 rfl Tryz.ntmps64 (by simp) rfl ?_ hw
  refine WC.seq ?_
  refine WC.region ?_
  refine WL.val (v_assign rfl) rfl ?_
  refine WL.nil ?_
  refine EX.next ?_
  refine WC.seq ?_
  refine WC.region ?_
  refine WL.val (v_move rfl) rfl ?_
  refine WL.act rfl (OW.call (xs := [.tmp 10]) Tryz.call40 rfl (fun w hw => byteCount_any w0 w _ k ver created sub n (hk0.mono fun _ h => List.mem_append_right _ h) hv hc hw) rfl ?_)
  rintro r w' ⟨rfl, hw'⟩
  refine ⟨_, _, rfl, hw', ?_⟩
  refine WL.val (v_assign rfl) rfl ?_
  refine WL.nil ?_
  refine EX.next ?_
  refine WC.seq ?_
  refine WC.region ?_
  refine WL.val (v_move rfl) rfl ?_
  refine WL.val (u32_add rfl rfl (show (6 : Int) = ((6 : Nat) : Int) from rfl) (by omega)) rfl ?_
  refine WL.val (v_assign rfl) rfl ?_
  refine WL.nil ?_
  refine EX.next ?_
  refine WC.seq ?_
  refine WC.seq ?_
  refine WC.region ?_
  refine WL.val (v_move rfl) rfl ?_
  refine WL.val (v_nilCheck_ptr rfl) rfl ?_
  refine WL.val (v_field Tryz.runUnderlying58 rfl Tryz.sizeOf3 (by decide) rfl) rfl ?_
  refine WL.val (v_load Tryz.isAgg3 rfl ((fun _ h => (List.mem_append_right _ h)) _ hkm) rfl) rfl ?_
  refine WL.val (v_geq rfl rfl) rfl ?_
  refine WL.nil ?_
  refine EX.next ?_
  refine WC.cond rfl ?_ ?_
  · intro hb3
    have hv6 : ver = 6 := by have := of_decide_eq_true hb3; omega
    subst hv6
    refine WC.seq ?_
    refine WC.region ?_
    refine WL.val (v_move rfl) rfl ?_
    refine WL.val (u32_add rfl rfl (show (4 : Int) = ((4 : Nat) : Int) from rfl) (by omega)) rfl ?_
    refine WL.val (v_assign rfl) rfl ?_
    refine WL.nil ?_
    refine EX.next ?_
    refine WC.seq ?_
    refine WC.draw (L) (.quiet 0 (.quiet 1 (.quiet 2 (.quiet 3 (.quiet 4 (.quiet 5 (.quiet 6 (.quiet 7 (.quiet 8 (.quiet 9 (.quiet 10 (.quiet 11 (.quiet 12 (.quiet 13 (.quiet 14 (.quiet 15 (.quiet 16 (.quiet 17 (.quiet 19 (.quiet 20 (.quiet 21 (.one 18 (.one 22 (.quiet 23 (.quiet 24 (.quiet 25 (.quiet 26 (.quiet 27 .done)))))))))))))))))))))))))))) (by kernel_rfl) (fun _ => Sb.hw) ?_
    refine AK.quiet rfl (v_move rfl) rfl ?_
    refine AK.quiet rfl (v_move rfl) rfl ?_
    refine AK.quiet rfl (v_nilCheck_ptr rfl) rfl ?_
    refine AK.quiet rfl (v_field Tryz.runUnderlying58 rfl Tryz.sizeOf3 (by decide) rfl) rfl ?_
    refine AK.quiet rfl (v_load Tryz.isAgg3 rfl hkm rfl) rfl ?_
    refine AK.quiet rfl (n_byte Tryz.runUnderlying3 Tryz.runUnderlying5 rfl) rfl ?_
    refine AK.quiet rfl (Val.to (v' := .int .u8 ((155 : Nat) : Int)) (by simp [IntKind.wrap, IntKind.bits, IntKind.signed]) (v_add (m := 149) (n := ((6 % 256 : Nat) : Int)) rfl rfl)) rfl ?_
    refine AK.quiet rfl (v_move rfl) rfl ?_
    refine AK.quiet rfl (u32_shr rfl rfl (show (24 : Int) = ((24 : Nat) : Int) from rfl) (by omega)) rfl ?_
    refine AK.quiet rfl (n_byte Tryz.runUnderlying22 Tryz.runUnderlying5 rfl) rfl ?_
    refine AK.quiet rfl (v_move rfl) rfl ?_
    refine AK.quiet rfl (u32_shr rfl rfl (show (16 : Int) = ((16 : Nat) : Int) from rfl) (by omega)) rfl ?_
    refine AK.quiet rfl (n_byte Tryz.runUnderlying22 Tryz.runUnderlying5 rfl) rfl ?_
    refine AK.quiet rfl (v_move rfl) rfl ?_
    refine AK.quiet rfl (u32_shr rfl rfl (show (8 : Int) = ((8 : Nat) : Int) from rfl) (by omega)) rfl ?_
    refine AK.quiet rfl (n_byte Tryz.runUnderlying22 Tryz.runUnderlying5 rfl) rfl ?_
    refine AK.quiet rfl (v_move rfl) rfl ?_
    refine AK.quiet rfl (n_byte Tryz.runUnderlying22 Tryz.runUnderlying5 rfl) rfl ?_
    refine AK.quiet rfl (v_makeFunc rfl) rfl ?_
    refine AK.quiet rfl (v_nilCheck_method rfl W.ahead) rfl ?_
    refine AK.quiet rfl (v_move rfl) rfl ?_
    refine AK.one rfl rfl (OW.buildSlice (us := bt [155, (keyLen n + 6 + 4) / 2 ^ 24 % 256, (keyLen n + 6 + 4) / 2 ^ 16 % 256, (keyLen n + 6 + 4) / 2 ^ 8 % 256, (keyLen n + 6 + 4) % 256]) (xs := [.tmp 28, .tmp 31, .tmp 34, .tmp 37, .tmp 39]) Tryz.runUnderlying23 Tryz.sizeOf5 Tryz.zeroValue5 rfl rfl rfl (by simp [bt]) rfl (fun b1 => ?_) rfl rfl)
    refine AK.on (fun _ => Sb.hw) ?_
    refine AK.one rfl rfl (OW.invoke (xs := [.tmp 40]) (us := [slV (some ⟨b1, 0, none⟩, 5, [155, (keyLen n + 6 + 4) / 2 ^ 24 % 256, (keyLen n + 6 + 4) / 2 ^ 16 % 256, (keyLen n + 6 + 4) / 2 ^ 8 % 256, (keyLen n + 6 + 4) % 256])]) rfl W.meth W.call rfl (fun w hw => W.go w (H := H) hw (by exact W.gm _ _ (fun _ h => (mS h)) hG) (bs) (some ⟨b1, 0, none⟩, 5, [155, (keyLen n + 6 + 4) / 2 ^ 24 % 256, (keyLen n + 6 + 4) / 2 ^ 16 % 256, (keyLen n + 6 + 4) / 2 ^ 8 % 256, (keyLen n + 6 + 4) % 256]) hS0 (by exact ⟨Nat.le_refl _, Rd.whole m0⟩) (by simp) (by omega)) rfl ?_)
    rintro r w' ⟨H1, rfl, hH1, hw'⟩
    refine ⟨_, _, rfl, hw', ?_⟩
    refine AK.on (fun _ => Sb.hw) ?_
    refine AK.quiet rfl (v_move rfl) rfl ?_
    refine AK.quiet rfl (v_extract rfl rfl) rfl ?_
    refine AK.quiet rfl (v_extract rfl rfl) rfl ?_
    refine AK.quiet rfl (v_assign rfl) rfl ?_
    refine AK.quiet rfl (v_assign rfl) rfl ?_
    refine AK.done ?_
    refine EX.next ?_
    refine WC.seq ?_
    refine WC.region ?_
    refine WL.val (v_move rfl) rfl ?_
    refine WL.val (v_assign rfl) rfl ?_
    refine WL.nil ?_
    refine EX.next ?_
    refine WC.ret ?_
    refine EX.ret_then ?_
    exact ret1 Tryz.results64 rfl fun w hw => ⟨_, H1, rfl, by simp, hH1, Sb.hw hw⟩
  · intro hb3
    refine WC.skip ?_
    refine EX.next ?_
    refine WC.seq ?_
    refine WC.seq ?_
    refine WC.region ?_
    refine WL.val (v_move rfl) rfl ?_
    refine WL.val (v_move rfl) rfl ?_
    refine WL.val (u32_shr rfl rfl (show (8 : Int) = ((8 : Nat) : Int) from rfl) (by omega)) rfl ?_
    refine WL.val (n_byte Tryz.runUnderlying22 Tryz.runUnderlying5 rfl) rfl ?_
    refine WL.val (v_move rfl) rfl ?_
    refine WL.val (n_byte Tryz.runUnderlying22 Tryz.runUnderlying5 rfl) rfl ?_
    refine WL.act rfl (OW.buildSlice (us := bt [153, (keyLen n + 6) / 2 ^ 8 % 256, (keyLen n + 6) % 256]) (xs := [.const (.int .u8 153), .tmp 52, .tmp 54]) Tryz.runUnderlying23 Tryz.sizeOf5 Tryz.zeroValue5 rfl rfl rfl (by simp [bt]) rfl (fun b2 => ?_) rfl rfl)
    refine WL.act rfl (OW.invoke (xs := [.tmp 55]) (us := [slV (some ⟨b2, 0, none⟩, 3, [153, (keyLen n + 6) / 2 ^ 8 % 256, (keyLen n + 6) % 256])]) rfl W.meth W.call rfl (fun w hw => W.go w (H := H) hw (by exact W.gm _ _ (fun _ h => (mS h)) hG) (bs) (some ⟨b2, 0, none⟩, 3, [153, (keyLen n + 6) / 2 ^ 8 % 256, (keyLen n + 6) % 256]) hS0 (by exact ⟨Nat.le_refl _, Rd.whole m0⟩) (by simp) (by omega)) rfl ?_)
    rintro r w' ⟨H1, rfl, hH1, hw'⟩
    refine ⟨_, _, rfl, hw', ?_⟩
    refine WL.val (v_move rfl) rfl ?_
    refine WL.val (v_extract rfl rfl) rfl ?_
    refine WL.val (v_extract rfl rfl) rfl ?_
    refine WL.val (v_assign rfl) rfl ?_
    refine WL.val (v_assign rfl) rfl ?_
    refine WL.nil ?_
    refine EX.next ?_
    refine WC.seq ?_
    refine WC.region ?_
    refine WL.val (v_move rfl) rfl ?_
    refine WL.val (v_nil_neq rfl eq85) rfl ?_
    refine WL.nil ?_
    refine EX.next ?_
    refine WC.cond rfl ?_ ?_
    · intro hb8
      exact absurd hb8 (by decide)
    · intro hb8
      refine WC.skip ?_
      refine EX.next ?_
      refine WC.seq ?_
      refine WC.region ?_
      refine WL.val (v_assign rfl) rfl ?_
      refine WL.nil ?_
      refine EX.next ?_
      refine WC.ret ?_
      exact ret1 Tryz.results64 rfl fun w hw => ⟨_, H1, rfl, by simp, hH1, Sb.hw hw⟩
theorem forHash_any (w0 w : World) (L H : Heap) {t : TypeId} {u : Value} {f : FuncId} {S : List Nat → Heap → Prop} {G : Heap → Prop} (W : Writer w0 t u f S G) (hG : G L) (bs : List Nat) (hS0 : S bs H) (hbs : bs.length ≤ 300) (k ver created : Nat) (sub : Bool) (n : List Nat) (hk : PK L k ver created sub n) (hv : ver = 6 ∨ ver = 4) (hc : created < 4294967296) (hw : HW w0 (H ++ L) w) :
    Calls P 54 #[.pointer (some ⟨k, 0, none⟩), .iface t u] w fun e w' => ∃ cs H', e = .returned .nilIface ∧ S cs H' ∧ HW w0 (H' ++ L) w' := by
  refine enter (us := [.pointer (some ⟨k, 0, none⟩), .iface t u]) Tryz.func54 rfl Tryz.ntmps54 (by simp) rfl ?_ hw
  refine WC.seq ?_
  refine WC.region ?_
  refine WL.val (v_assign rfl) rfl ?_
  refine WL.nil ?_
  refine EX.next ?_
  refine WC.seq ?_
  refine WC.seq ?_
  refine WC.region ?_
  refine WL.val (v_move rfl) rfl ?_
  refine WL.val (v_move rfl) rfl ?_
  refine WL.act rfl (OW.call (xs := [.tmp 6, .tmp 7]) Tryz.call64 rfl (fun w hw => prefix_any w0 w L H W hG bs hS0 (by omega) k ver created sub n hk hv hc hw) rfl ?_)
  rintro r w' ⟨cs, H1, rfl, hcs, hH1, hw'⟩
  refine ⟨_, _, rfl, hw', ?_⟩
  refine WL.val (v_assign rfl) rfl ?_
  refine WL.nil ?_
  refine EX.next ?_
  refine WC.seq ?_
  refine WC.region ?_
  refine WL.val (v_move rfl) rfl ?_
  refine WL.val (v_nil_neq rfl eq85) rfl ?_
  refine WL.nil ?_
  refine EX.next ?_
  refine WC.cond rfl ?_ ?_
  · intro hb2
    exact absurd hb2 (by decide)
  · intro hb2
    refine WC.skip ?_
    refine EX.next ?_
    refine WC.seq ?_
    refine WC.region ?_
    refine WL.val (v_move rfl) rfl ?_
    refine WL.val (v_move rfl) rfl ?_
    refine WL.act rfl (OW.call (xs := [.tmp 12, .tmp 13]) Tryz.call42 rfl (fun w hw => body_any w0 w L H1 W hG _ hH1 (by rw [List.length_append]; omega) k ver created sub n hk hv hc hw) rfl ?_)
    rintro r w' ⟨H2, rfl, hH2, hw'⟩
    refine ⟨_, _, rfl, hw', ?_⟩
    refine WL.val (v_assign rfl) rfl ?_
    refine WL.nil ?_
    refine EX.next ?_
    refine WC.ret ?_
    exact ret1 Tryz.results54 rfl fun w hw => ⟨_, H2, rfl, hH2, hw⟩
end Go.Proofs.YtljoodllnaekbaaGreatDoor

namespace Go.Proofs.YtljoodllnaekbaaGreatDoor
open Go

theorem finger_any (w0 w : World) (L : Heap) (k : Nat) (ty : TypeId) (ver created : Nat) (pub fp : Value) (kid : Int) (sub : Bool) (mp mq mg my : Nat) (rest : List Value) (n : List Nat) (hF : Four L mp mq mg my n) (hK : KG L) (hv : ver = 6 ∨ ver = 4) (hc : created < 4294967296) (hw : HW w0 ((k, blk ty (0, 0) (pkC ver created pub fp kid sub mp mq mg my rest)) :: L) w) :
    Calls P 46 #[.pointer (some ⟨k, 0, none⟩)] w fun e w' => ∃ fp' kid' B, e = .returned (.tuple #[]) ∧ fp'.oneCell' = true ∧ HW w0 ((k, blk ty (0, 0) (pkC ver created pub fp' kid' sub mp mq mg my rest)) :: (B ++ L)) w' := by
  refine enter (us := [.pointer (some ⟨k, 0, none⟩)]) Tryz.func46 rfl Tryz.ntmps46 (by simp) rfl ?_ hw
  refine WC.seq ?_
  refine WC.region ?_
  refine WL.val (v_move rfl) rfl ?_
  refine WL.val (v_nilCheck_ptr rfl) rfl ?_
  refine WL.val (v_field Tryz.runUnderlying58 rfl Tryz.sizeOf3 (by decide) rfl) rfl ?_
  refine WL.val (v_load Tryz.isAgg3 rfl m0 rfl) rfl ?_
  refine WL.val (v_geq rfl rfl) rfl ?_
  refine WL.nil ?_
  refine EX.next ?_
  refine WC.cond rfl ?_ ?_
  · intro hb0
    refine WC.seq ?_
    refine WC.region ?_
    refine WL.act rfl (OW.call (xs := []) Tryz.call53 rfl (fun w hw => new256_any w0 w _ hw) rfl ?_)
    rintro r w' ⟨kd, hd, rfl, hhd, hw'⟩
    refine ⟨_, _, rfl, hw', ?_⟩
    refine WL.val (v_assign rfl) rfl ?_
    refine WL.nil ?_
    refine EX.next ?_
    refine WC.seq ?_
    refine WC.seq ?_
    refine WC.region ?_
    refine WL.val (v_move rfl) rfl ?_
    refine WL.val (v_move rfl) rfl ?_
    refine WL.val (v_iface Tryz.runUnderlying140 rfl rfl) rfl ?_
    refine WL.act rfl (OW.call (xs := [.tmp 12, .tmp 14]) Tryz.call54 rfl (fun w hw => forHash_any w0 w ((k, blk ty (0, 0) (pkC ver created pub fp kid sub mp mq mg my rest)) :: L) [(kd, blk 164 (0, 0) (dgC hd (List.replicate 64 0) ((0 : Nat) : Int) ((0 : Nat) : Int) [.bool false]))] (Dig256Writer w0 kd) (hK.mono fun _ h => mS h) [] ⟨_, _, 0, 0, rfl, hhd, by simp, rfl⟩ (by decide) k ver created sub n ⟨ty, pub, fp, kid, mp, mq, mg, my, rest, m0, hF.mono fun _ h => mS h⟩ hv hc hw) rfl ?_)
    rintro r w' ⟨cs, H', rfl, ⟨hs, xs, nx, len, rfl, h1, h2, h3⟩, hw'⟩
    refine ⟨_, _, rfl, hw', ?_⟩
    refine WL.val (v_assign rfl) rfl ?_
    refine WL.nil ?_
    refine EX.next ?_
    refine WC.seq ?_
    refine WC.region ?_
    refine WL.val (v_move rfl) rfl ?_
    refine WL.val (v_nil_neq rfl eq85) rfl ?_
    refine WL.nil ?_
    refine EX.next ?_
    refine WC.cond rfl ?_ ?_
    · intro hb3
      exact absurd hb3 (by decide)
    · intro hb3
      refine WC.skip ?_
      refine EX.next ?_
      refine WC.seq ?_
      refine WC.region ?_
      refine WL.val (v_move rfl) rfl ?_
      refine WL.act rfl (OW.make (l := 32) (c := 32) Tryz.runUnderlying23 Tryz.typeInfo5 Tryz.sizeOf5 Tryz.zeroValue5 rfl rfl rfl (Nat.le_refl _) (by rw [bytes5]; omega) (by omega) rfl (fun bf => ?_))
      refine WL.val (v_nilCheck_ptr rfl) rfl ?_
      refine WL.val (v_field Tryz.runUnderlying58 rfl Tryz.sizeOf23 (by decide) rfl) rfl ?_
      refine WL.act rfl (OW.store (vs' := _) Tryz.sizeOf23 rfl rfl rfl (show _ = pkC ver created pub (.slice (some ⟨bf, 0, none⟩) 32 32) kid sub mp mq mg my rest from rfl) (.there (.there .here)) (by show 6 < _; simp) (by simp) ?_)
      refine WL.nil ?_
      refine EX.next ?_
      refine WC.seq ?_
      refine WC.draw ((kd, blk 164 (0, 0) (dgC hs xs (nx : Int) (len : Int) [.bool false])) :: (k, blk ty (0, 0) (pkC ver created pub (.slice (some ⟨bf, 0, none⟩) 32 32) kid sub mp mq mg my rest)) :: L) (.quiet 0 (.quiet 1 (.quiet 2 (.quiet 3 (.quiet 4 (.one 5 (.one 6 .done))))))) (by kernel_rfl) (fun _ => Sb.hw) ?_
      refine AK.quiet rfl (v_move rfl) rfl ?_
      refine AK.quiet rfl (v_nilCheck_ptr rfl) rfl ?_
      refine AK.quiet rfl (v_field Tryz.runUnderlying58 rfl Tryz.sizeOf23 (by decide) rfl) rfl ?_
      refine AK.quiet rfl (v_load Tryz.isAgg23 rfl (mS m0) rfl) rfl ?_
      refine AK.quiet rfl (v_move rfl) rfl ?_
      refine AK.one rfl rfl (OW.call (xs := [.tmp 27, .const (.slice none 0 0)]) Tryz.call55 rfl (fun w hw => sum256_any w0 w _ kd hs xs nx len (hK.mono fun _ h => mS (mS (mS h))) h1 h2 h3 (mS m0) hw) rfl ?_)
      rintro r w' ⟨o, ys, rfl, hys, ho, hw'⟩
      refine ⟨_, _, rfl, hw', ?_⟩
      refine AK.on (fun _ => Sb.hw) ?_
      refine AK.one rfl rfl (OW.copy (vs := i8 (List.replicate 32 0)) (us := i8 ys) (nn := 32) (news := i8 ys) Tryz.runUnderlying23 Tryz.sizeOf5 rfl rfl (Rd.own ho) (show min (i8 ys).length 32 = 32 by rw [i8_length]; omega) (by rw [i8_length]; exact hys) (iu_one _ _) (At.over .here _) (by rw [i8_length, List.length_replicate]; exact Nat.le_refl _) (overlay_all _ _ (by rw [i8_length, i8_length, List.length_replicate]; exact hys)) rfl ?_)
      refine AK.on (fun _ => Sb.hw) ?_
      refine AK.done ?_
      refine EX.next ?_
      refine WC.draw (L) (.quiet 0 (.quiet 1 (.quiet 2 (.quiet 3 (.quiet 4 (.one 5 (.quiet 6 (.one 7 (.quiet 8 (.quiet 9 (.one 10 .done))))))))))) (by kernel_rfl) (fun _ => Sb.hw) ?_
      refine AK.quiet rfl (v_move rfl) rfl ?_
      refine AK.quiet rfl (v_load_empty Tryz.isAgg143 Tryz.sizeOf143 rfl) rfl ?_
      refine AK.quiet rfl (v_move rfl) rfl ?_
      refine AK.quiet rfl (v_nilCheck_ptr rfl) rfl ?_
      refine AK.quiet rfl (v_field Tryz.runUnderlying58 rfl Tryz.sizeOf23 (by decide) rfl) rfl ?_
      refine AK.one rfl rfl (OW.val (v_load Tryz.isAgg23 rfl (List.mem_append_right _ (mS (mS m0))) rfl) rfl ?_)
      refine AK.on (fun _ => Sb.hw) ?_
      refine AK.quiet rfl (v_slice (i := 0) (j := 8) Tryz.runUnderlying23 Tryz.sizeOf5 rfl rfl ⟨.i64, rfl⟩ (by decide) (by decide) (by decide)) rfl ?_
      refine AK.one rfl rfl (OW.call (xs := [.tmp 31, .tmp 36]) Tryz.call56 rfl (fun w hw => uint64_any w0 w _ _ _ _ ys (by decide) (by rw [hys]; decide) (by rw [cutA_zero]; exact Rd.mono (Rd.whole (t := 5) (fr := (0, 0)) (b := bf) (L := [(bf, blk 5 (0, 0) (i8 ys))]) m0) (fun x hx => by simp only [List.mem_singleton] at hx; subst hx; exact (List.mem_append_right _ m0))) hw) rfl ?_)
      rintro r w' ⟨kid', rfl, hw'⟩
      refine ⟨_, _, rfl, hw', ?_⟩
      refine AK.on (fun _ => Sb.hw) ?_
      refine AK.quiet rfl (v_nilCheck_ptr rfl) rfl ?_
      refine AK.quiet rfl (v_field Tryz.runUnderlying58 rfl Tryz.sizeOf50 (by decide) rfl) rfl ?_
      refine AK.one rfl rfl (OW.store (vs' := _) Tryz.sizeOf50 rfl rfl rfl (show _ = pkC ver created pub (.slice (some ⟨bf, 0, none⟩) 32 32) kid' sub mp mq mg my rest from rfl) (At.over (.there (.there .here)) _) (by show 7 < _; simp) (by simp) ?_)
      refine AK.on (fun _ => Sb.hw) ?_
      refine AK.done ?_
      refine end0 Tryz.results46 fun w hw => ⟨.slice (some ⟨bf, 0, none⟩) 32 32, kid', [], rfl, rfl, ?_⟩
      rw [List.nil_append]
      exact Sb.hw hw
  · intro hb0
    refine WC.seq ?_
    refine WC.region ?_
    refine WL.act rfl (OW.call (xs := []) Tryz.call57 rfl (fun w hw => new1_any w0 w _ hw) rfl ?_)
    rintro r w' ⟨kd, hd, rfl, hhd, hw'⟩
    refine ⟨_, _, rfl, hw', ?_⟩
    refine WL.val (v_assign rfl) rfl ?_
    refine WL.nil ?_
    refine EX.next ?_
    refine WC.seq ?_
    refine WC.seq ?_
    refine WC.region ?_
    refine WL.val (v_move rfl) rfl ?_
    refine WL.val (v_move rfl) rfl ?_
    refine WL.act rfl (OW.call (xs := [.tmp 41, .tmp 42]) Tryz.call54 rfl (fun w hw => forHash_any w0 w ((k, blk ty (0, 0) (pkC ver created pub fp kid sub mp mq mg my rest)) :: L) [(kd, blk 170 (0, 0) (dgC hd (List.replicate 64 0) ((0 : Nat) : Int) ((0 : Nat) : Int) []))] (Dig1Writer w0 kd) trivial [] ⟨_, _, 0, 0, rfl, hhd, by simp, rfl⟩ (by decide) k ver created sub n ⟨ty, pub, fp, kid, mp, mq, mg, my, rest, m0, hF.mono fun _ h => mS h⟩ hv hc hw) rfl ?_)
    rintro r w' ⟨cs, H', rfl, ⟨hs, xs, nx, len, rfl, h1, h2, h3⟩, hw'⟩
    refine ⟨_, _, rfl, hw', ?_⟩
    refine WL.val (v_assign rfl) rfl ?_
    refine WL.nil ?_
    refine EX.next ?_
    refine WC.seq ?_
    refine WC.region ?_
    refine WL.val (v_move rfl) rfl ?_
    refine WL.val (v_nil_neq rfl eq85) rfl ?_
    refine WL.nil ?_
    refine EX.next ?_
    refine WC.cond rfl ?_ ?_
    · intro hb10
      exact absurd hb10 (by decide)
    · intro hb10
      refine WC.skip ?_
      refine EX.next ?_
      refine WC.seq ?_
      refine WC.region ?_
      refine WL.val (v_move rfl) rfl ?_
      refine WL.act rfl (OW.make (l := 20) (c := 20) Tryz.runUnderlying23 Tryz.typeInfo5 Tryz.sizeOf5 Tryz.zeroValue5 rfl rfl rfl (Nat.le_refl _) (by rw [bytes5]; omega) (by omega) rfl (fun bf => ?_))
      refine WL.val (v_nilCheck_ptr rfl) rfl ?_
      refine WL.val (v_field Tryz.runUnderlying58 rfl Tryz.sizeOf23 (by decide) rfl) rfl ?_
      refine WL.act rfl (OW.store (vs' := _) Tryz.sizeOf23 rfl rfl rfl (show _ = pkC ver created pub (.slice (some ⟨bf, 0, none⟩) 20 20) kid sub mp mq mg my rest from rfl) (.there (.there .here)) (by show 6 < _; simp) (by simp) ?_)
      refine WL.nil ?_
      refine EX.next ?_
      refine WC.seq ?_
      refine WC.draw ((kd, blk 170 (0, 0) (dgC hs xs (nx : Int) (len : Int) [])) :: (k, blk ty (0, 0) (pkC ver created pub (.slice (some ⟨bf, 0, none⟩) 20 20) kid sub mp mq mg my rest)) :: L) (.quiet 0 (.quiet 1 (.quiet 2 (.quiet 3 (.quiet 4 (.one 5 (.one 6 .done))))))) (by kernel_rfl) (fun _ => Sb.hw) ?_
      refine AK.quiet rfl (v_move rfl) rfl ?_
      refine AK.quiet rfl (v_nilCheck_ptr rfl) rfl ?_
      refine AK.quiet rfl (v_field Tryz.runUnderlying58 rfl Tryz.sizeOf23 (by decide) rfl) rfl ?_
      refine AK.quiet rfl (v_load Tryz.isAgg23 rfl (mS m0) rfl) rfl ?_
      refine AK.quiet rfl (v_move rfl) rfl ?_
      refine AK.one rfl rfl (OW.invoke (xs := [.const (.slice none 0 0)]) (us := [.slice none 0 0]) rfl (run_method Tryz.typeInfo167 Tryz.runUnderlying167 rfl rfl rfl) Tryz.call258 rfl (fun w hw => sum1_any w0 w _ kd hs xs nx len h1 h2 h3 (mS m0) hw) rfl ?_)
      rintro r w' ⟨o, ys, rfl, hys, ho, hw'⟩
      refine ⟨_, _, rfl, hw', ?_⟩
      refine AK.on (fun _ => Sb.hw) ?_
      refine AK.one rfl rfl (OW.copy (vs := i8 (List.replicate 20 0)) (us := i8 ys) (nn := 20) (news := i8 ys) Tryz.runUnderlying23 Tryz.sizeOf5 rfl rfl (Rd.own ho) (show min (i8 ys).length 20 = 20 by rw [i8_length]; omega) (by rw [i8_length]; exact hys) (iu_one _ _) (At.over .here _) (by rw [i8_length, List.length_replicate]; exact Nat.le_refl _) (overlay_all _ _ (by rw [i8_length, i8_length, List.length_replicate]; exact hys)) rfl ?_)
      refine AK.on (fun _ => Sb.hw) ?_
      refine AK.done ?_
      refine EX.next ?_
      refine WC.draw (L) (.quiet 0 (.quiet 1 (.quiet 2 (.quiet 3 (.quiet 4 (.one 5 (.quiet 6 (.one 7 (.quiet 8 (.quiet 9 (.one 10 .done))))))))))) (by kernel_rfl) (fun _ => Sb.hw) ?_
      refine AK.quiet rfl (v_move rfl) rfl ?_
      refine AK.quiet rfl (v_load_empty Tryz.isAgg143 Tryz.sizeOf143 rfl) rfl ?_
      refine AK.quiet rfl (v_move rfl) rfl ?_
      refine AK.quiet rfl (v_nilCheck_ptr rfl) rfl ?_
      refine AK.quiet rfl (v_field Tryz.runUnderlying58 rfl Tryz.sizeOf23 (by decide) rfl) rfl ?_
      refine AK.one rfl rfl (OW.val (v_load Tryz.isAgg23 rfl (List.mem_append_right _ (mS (mS m0))) rfl) rfl ?_)
      refine AK.on (fun _ => Sb.hw) ?_
      refine AK.quiet rfl (Val.cast (v_slice (i := 12) (j := 20) Tryz.runUnderlying23 Tryz.sizeOf5 rfl ⟨.i64, rfl⟩ ⟨.i64, rfl⟩ (by decide) (by decide) (by decide)) (show _ = Value.slice (some ⟨bf, 12, none⟩) 8 8 by rw [cutA_block _ _ _ _ (by decide)])) rfl ?_
      refine AK.one rfl rfl (OW.call (xs := [.tmp 59, .tmp 64]) Tryz.call56 rfl (fun w hw => uint64_any w0 w _ _ _ _ (ys.drop 12) (by decide) (by rw [List.length_drop, hys]; decide) (Rd.of (t := 5) (fr := (0, 0)) (List.mem_append_right _ m0) (fun j v hj => by rw [i8_drop, List.getElem?_drop] at hj; exact hj)) hw) rfl ?_)
      rintro r w' ⟨kid', rfl, hw'⟩
      refine ⟨_, _, rfl, hw', ?_⟩
      refine AK.on (fun _ => Sb.hw) ?_
      refine AK.quiet rfl (v_nilCheck_ptr rfl) rfl ?_
      refine AK.quiet rfl (v_field Tryz.runUnderlying58 rfl Tryz.sizeOf50 (by decide) rfl) rfl ?_
      refine AK.one rfl rfl (OW.store (vs' := _) Tryz.sizeOf50 rfl rfl rfl (show _ = pkC ver created pub (.slice (some ⟨bf, 0, none⟩) 20 20) kid' sub mp mq mg my rest from rfl) (At.over (.there (.there .here)) _) (by show 7 < _; simp) (by simp) ?_)
      refine AK.on (fun _ => Sb.hw) ?_
      refine AK.done ?_
      refine end0 Tryz.results46 fun w hw => ⟨.slice (some ⟨bf, 0, none⟩) 20 20, kid', [], rfl, rfl, ?_⟩
      rw [List.nil_append]
      exact Sb.hw hw
end Go.Proofs.YtljoodllnaekbaaGreatDoor

namespace Go.Proofs.YtljoodllnaekbaaGreatDoor
open Go

/-- The time's cells. -/
abbrev tmC (created : Nat) : List Value := [.int .u64 0, .int .i64 ((created : Int) + 62135596800), .pointer none]
/-- The cells of a private key's numbers. -/
abbrev nmC (kp kq kg ky : Nat) (x : Value) : List Value := [.pointer (some ⟨kp, 0, none⟩), .pointer (some ⟨kq, 0, none⟩), .pointer (some ⟨kg, 0, none⟩), .pointer (some ⟨ky, 0, none⟩), x]
/-- A private key's numbers in memory. -/
structure Nums4 (L : Heap) (kp kq kg ky : Nat) (n : List Nat) : Prop where
  p : BigAt L kp Pb
  q : BigAt L kq Qb
  g : BigAt L kg Gb
  y : BigAt L ky (pubN n)
theorem Nums4.mono {L L' : Heap} {kp kq kg ky : Nat} {n : List Nat} (h : Nums4 L kp kq kg ky n) (hs : ∀ x ∈ L, x ∈ L') : Nums4 L' kp kq kg ky n := ⟨h.p.mono hs, h.q.mono hs, h.g.mono hs, h.y.mono hs⟩
theorem build111 {q : Option Addr} (w : World) : (Instr.build 111 [(1, .pointer q)].toArray).run P w = .ok (.agg #[.pointer none, .pointer none, .pointer none, .pointer none, .pointer q]) w := by
  simp [Instr.build, Tryz.zeroValue111, Tryz.runUnderlying111, Tryz.sizeOf109, Tryz.sizeOf105]
  rfl
theorem build58 {created mp mq mg my : Nat} {pub : Option Addr} (w : World) :
    (Instr.build 58 [(0, .int .i64 4), (1, .agg (tmC created).toArray), (2, .int .u8 17), (3, .iface 104 (.pointer pub)), (9, .iface 132 (.pointer (some ⟨mp, 0, none⟩))), (10, .iface 132 (.pointer (some ⟨mq, 0, none⟩))), (11, .iface 132 (.pointer (some ⟨mg, 0, none⟩))), (12, .iface 132 (.pointer (some ⟨my, 0, none⟩)))].toArray).run P w =
    .ok (.agg (pkC 4 created (.iface 104 (.pointer pub)) (.slice none 0 0) 0 false mp mq mg my []).toArray) w := by
  simp [Instr.build, Tryz.zeroValue58, Tryz.runUnderlying58, Tryz.sizeOf3, Tryz.sizeOf53, Tryz.sizeOf54, Tryz.sizeOf20, Tryz.sizeOf23, Tryz.sizeOf50, Tryz.sizeOf4, Tryz.sizeOf56]
  simp [Instr.fill, Value.cells, Array.zipIdx]
end Go.Proofs.YtljoodllnaekbaaGreatDoor

namespace Go.Proofs.YtljoodllnaekbaaGreatDoor
open Go

theorem compat_any (w0 w : World) (L : Heap) (k : Nat) (ty : TypeId) (ver created : Nat) (pub fp : Value) (kid : Int) (sub : Bool) (mp mq mg my : Nat) (rest : List Value) (hkm : (k, blk ty (0, 0) (pkC ver created pub fp kid sub mp mq mg my rest)) ∈ L) (hw : HW w0 L w) :
    Calls P 47 #[.pointer (some ⟨k, 0, none⟩)] w fun e w' => e = .returned .nilIface ∧ HW w0 L w' := by
  refine enter (us := [.pointer (some ⟨k, 0, none⟩)]) Tryz.func47 rfl Tryz.ntmps47 (by simp) rfl ?_ hw
  refine WC.seq ?_
  refine WC.region ?_
  refine WL.val (v_assign rfl) rfl ?_
  refine WL.nil ?_
  refine EX.next ?_
  refine WC.seq ?_
  refine WC.seq ?_
  refine WC.region ?_
  refine WL.val (v_move rfl) rfl ?_
  refine WL.val (v_nilCheck_ptr rfl) rfl ?_
  refine WL.val (v_field Tryz.runUnderlying58 rfl Tryz.sizeOf54 (by decide) rfl) rfl ?_
  refine WL.val (v_load Tryz.isAgg54 rfl hkm rfl) rfl ?_
  refine WL.nil ?_
  refine EX.next ?_
  refine WC.block ?_
  refine WC.seq ?_
  refine WC.region ?_
  refine WL.val (v_eql rfl rfl) rfl ?_
  refine WL.val (v_assign rfl) rfl ?_
  refine WL.nil ?_
  refine EX.next ?_
  refine WC.cond rfl ?_ ?_
  · intro hb2
    exact absurd hb2 (by decide)
  · intro hb2
    refine WC.seq ?_
    refine WC.region ?_
    refine WL.val (v_eql rfl rfl) rfl ?_
    refine WL.val (v_assign rfl) rfl ?_
    refine WL.nil ?_
    refine EX.next ?_
    refine WC.cond rfl ?_ ?_
    · intro hb8
      exact absurd hb8 (by decide)
    · intro hb8
      refine WC.skip ?_
      refine EX.normal_block ?_
      refine EX.next ?_
      refine WC.seq ?_
      refine WC.region ?_
      refine WL.val (v_assign rfl) rfl ?_
      refine WL.nil ?_
      refine EX.next ?_
      refine WC.ret ?_
      exact ret1 Tryz.results47 rfl fun w hw => ⟨rfl, hw⟩
theorem upgrade_any (w0 w : World) (L : Heap) (k : Nat) (ty : TypeId) (ver created : Nat) (pub fp : Value) (kid : Int) (sub : Bool) (mp mq mg my : Nat) (rest : List Value) (n : List Nat) (hF : Four L mp mq mg my n) (hK : KG L) (hc : created < 4294967296) (hw : HW w0 ((k, blk ty (0, 0) (pkC ver created pub fp kid sub mp mq mg my rest)) :: L) w) :
    Calls P 31 #[.pointer (some ⟨k, 0, none⟩)] w fun e w' => ∃ fp' kid', e = .returned .nilIface ∧ HW w0 ((k, blk ty (0, 0) (pkC 6 created pub fp' kid' sub mp mq mg my rest)) :: L) w' := by
  refine enter (us := [.pointer (some ⟨k, 0, none⟩)]) Tryz.func31 rfl Tryz.ntmps31 (by simp) rfl ?_ hw
  refine WC.seq ?_
  refine WC.region ?_
  refine WL.val (v_assign rfl) rfl ?_
  refine WL.nil ?_
  refine EX.next ?_
  refine WC.seq ?_
  refine WC.region ?_
  refine WL.val (v_move rfl) rfl ?_
  refine WL.val (v_nilCheck_ptr rfl) rfl ?_
  refine WL.val (v_field Tryz.runUnderlying58 rfl Tryz.sizeOf3 (by decide) rfl) rfl ?_
  refine WL.act rfl (OW.store (vs' := _) Tryz.sizeOf3 rfl rfl rfl (show _ = pkC 6 created pub fp kid sub mp mq mg my rest from rfl) .here (by show 0 < _; simp) (by simp) ?_)
  refine WL.nil ?_
  refine EX.next ?_
  refine WC.seq ?_
  refine WC.region ?_
  refine WL.val (v_move rfl) rfl ?_
  refine WL.act rfl (OW.call (xs := [.tmp 6]) Tryz.call46 rfl (fun w hw => finger_any w0 w L k ty 6 created pub fp kid sub mp mq mg my rest n hF hK (.inl rfl) hc hw) rfl ?_)
  rintro r w' ⟨fp', kid', B, rfl, hfp, hw'⟩
  refine ⟨_, _, rfl, hw', ?_⟩
  refine WL.nil ?_
  refine EX.next ?_
  refine WC.seq ?_
  refine WC.region ?_
  refine WL.val (v_move rfl) rfl ?_
  refine WL.act rfl (OW.call (xs := [.tmp 8]) Tryz.call47 rfl (fun w hw => compat_any w0 w _ k ty 6 created pub fp' kid' sub mp mq mg my rest m0 hw) rfl ?_)
  rintro r w' ⟨rfl, hw'⟩
  refine ⟨_, _, rfl, hw', ?_⟩
  refine WL.val (v_assign rfl) rfl ?_
  refine WL.nil ?_
  refine EX.next ?_
  refine WC.ret ?_
  exact ret1 Tryz.results31 rfl fun w hw => ⟨fp', kid', rfl, Sb.hw hw⟩
end Go.Proofs.YtljoodllnaekbaaGreatDoor

namespace Go.Proofs.YtljoodllnaekbaaGreatDoor
open Go

theorem numbers_any (w0 w : World) (L : Heap) (qp qq qg qy qn : Sl) (n : List Nat) (hn : ∀ d ∈ n, d < 256) (hnl : n.length ≤ 100) (hp : qp.2.2 = Pb) (hq : qq.2.2 = Qb) (hg : qg.2.2 = Gb) (hy : qy.2.2 = pubN n) (hx : qn.2.2 = n) (lp : Lies L qp) (lq : Lies L qq) (lg : Lies L qg) (ly : Lies L qy) (ln : Lies L qn) (hw : HW w0 L w) :
    Calls P 30 #[.agg #[slV qp, slV qq, slV qg, slV qy, slV qn]] w fun e w' => ∃ k kp kq kg ky x B, e = .returned (.pointer (some ⟨k, 0, none⟩)) ∧ (k, blk 111 (0, 0) (nmC kp kq kg ky x)) ∈ B ∧ Nums4 B kp kq kg ky n ∧ HW w0 (B ++ L) w' := by
  have bp : ∀ d ∈ qp.2.2, d < 256 := by rw [hp]; decide
  have bq : ∀ d ∈ qq.2.2, d < 256 := by rw [hq]; decide
  have bg : ∀ d ∈ qg.2.2, d < 256 := by rw [hg]; decide
  have by_ : ∀ d ∈ qy.2.2, d < 256 := by rw [hy]; exact pubN_byte n
  have bn : ∀ d ∈ qn.2.2, d < 256 := by rw [hx]; exact hn
  have sp : qp.2.2.length ≤ 1000 := by rw [hp]; decide
  have sq : qq.2.2.length ≤ 1000 := by rw [hq]; decide
  have sg : qg.2.2.length ≤ 1000 := by rw [hg]; decide
  have sy : qy.2.2.length ≤ 1000 := by rw [hy]; have := pubN_length n; omega
  have sn : qn.2.2.length ≤ 1000 := by rw [hx]; omega
  refine enter (us := [.agg #[slV qp, slV qq, slV qg, slV qy, slV qn]]) Tryz.func30 rfl Tryz.ntmps30 (by simp) rfl ?_ hw
  refine WC.seq ?_
  refine WC.region ?_
  refine WL.act rfl (OW.box (us := [slV qp, slV qq, slV qg, slV qy, slV qn]) rfl rfl rfl (fun k1 => ?_))
  refine WL.val (v_assign rfl) rfl ?_
  refine WL.nil ?_
  refine EX.next ?_
  refine WC.seq ?_
  refine WC.region ?_
  refine WL.val (v_field Tryz.runUnderlying31 rfl Tryz.sizeOf23 (by decide) rfl) rfl ?_
  refine WL.val (v_load Tryz.isAgg23 rfl m0 rfl) rfl ?_
  refine WL.act rfl (OW.call (xs := [.tmp 5]) Tryz.call45 rfl (fun w hw => great_any w0 w _ qn (ln.mono (fun _ h => (mS h))) bn sn hw) rfl ?_)
  rintro r w' ⟨kx, Bx, rfl, hx_, hw'⟩
  refine ⟨_, _, rfl, hw', ?_⟩
  refine WL.val (v_build (is := [1]) (xs := [.tmp 6]) rfl rfl rfl build111) rfl ?_
  refine WL.act rfl (OW.box (us := [.pointer none, .pointer none, .pointer none, .pointer none, .pointer (some ⟨kx, 0, none⟩)]) rfl rfl rfl (fun k3 => ?_))
  refine WL.val (v_assign rfl) rfl ?_
  refine WL.nil ?_
  refine EX.next ?_
  refine WC.seq ?_
  refine WC.draw ((k1, blk 31 (0, 0) [slV qp, slV qq, slV qg, slV qy, slV qn]) :: L) (.quiet 0 (.quiet 1 (.quiet 2 (.quiet 3 (.quiet 4 (.quiet 5 (.quiet 7 (.quiet 8 (.quiet 10 (.quiet 11 (.quiet 13 (.quiet 14 (.one 6 (.one 9 (.one 12 (.one 15 (.quiet 16 (.quiet 17 (.quiet 18 (.quiet 19 (.one 20 (.quiet 21 (.quiet 22 (.quiet 23 (.quiet 24 (.one 25 (.quiet 26 (.quiet 27 (.quiet 28 (.quiet 29 (.one 30 (.quiet 31 (.quiet 32 (.quiet 33 (.one 34 .done))))))))))))))))))))))))))))))))))) (by kernel_rfl) (fun _ => Sb.hw) ?_
  refine AK.quiet rfl (v_move rfl) rfl ?_
  refine AK.quiet rfl (v_move rfl) rfl ?_
  refine AK.quiet rfl (v_move rfl) rfl ?_
  refine AK.quiet rfl (v_move rfl) rfl ?_
  refine AK.quiet rfl (v_field Tryz.runUnderlying31 rfl Tryz.sizeOf23 (by decide) rfl) rfl ?_
  refine AK.quiet rfl (v_load Tryz.isAgg23 rfl m0 rfl) rfl ?_
  refine AK.quiet rfl (v_field Tryz.runUnderlying31 rfl Tryz.sizeOf23 (by decide) rfl) rfl ?_
  refine AK.quiet rfl (v_load Tryz.isAgg23 rfl m0 rfl) rfl ?_
  refine AK.quiet rfl (v_field Tryz.runUnderlying31 rfl Tryz.sizeOf23 (by decide) rfl) rfl ?_
  refine AK.quiet rfl (v_load Tryz.isAgg23 rfl m0 rfl) rfl ?_
  refine AK.quiet rfl (v_field Tryz.runUnderlying31 rfl Tryz.sizeOf23 (by decide) rfl) rfl ?_
  refine AK.quiet rfl (v_load Tryz.isAgg23 rfl m0 rfl) rfl ?_
  refine AK.one rfl rfl (OW.call (xs := [.tmp 14]) Tryz.call45 rfl (fun w hw => great_any w0 w _ qp (lp.mono (fun _ h => (mS (List.mem_append_right _ (mS h))))) bp sp hw) rfl ?_)
  rintro r w' ⟨kp, Bp, rfl, hp_, hw'⟩
  refine ⟨_, _, rfl, hw', ?_⟩
  refine AK.on (fun _ => Sb.hw) ?_
  refine AK.one rfl rfl (OW.call (xs := [.tmp 17]) Tryz.call45 rfl (fun w hw => great_any w0 w _ qq (lq.mono (fun _ h => (List.mem_append_right _ (mS (List.mem_append_right _ (mS h)))))) bq sq hw) rfl ?_)
  rintro r w' ⟨kq, Bq, rfl, hq_, hw'⟩
  refine ⟨_, _, rfl, hw', ?_⟩
  refine AK.on (fun _ => Sb.hw) ?_
  refine AK.one rfl rfl (OW.call (xs := [.tmp 20]) Tryz.call45 rfl (fun w hw => great_any w0 w _ qg (lg.mono (fun _ h => (List.mem_append_right _ (List.mem_append_right _ (mS (List.mem_append_right _ (mS h))))))) bg sg hw) rfl ?_)
  rintro r w' ⟨kg, Bg, rfl, hg_, hw'⟩
  refine ⟨_, _, rfl, hw', ?_⟩
  refine AK.on (fun _ => Sb.hw) ?_
  refine AK.one rfl rfl (OW.call (xs := [.tmp 23]) Tryz.call45 rfl (fun w hw => great_any w0 w _ qy (ly.mono (fun _ h => (List.mem_append_right _ (List.mem_append_right _ (List.mem_append_right _ (mS (List.mem_append_right _ (mS h)))))))) by_ sy hw) rfl ?_)
  rintro r w' ⟨ky, By, rfl, hy_, hw'⟩
  refine ⟨_, _, rfl, hw', ?_⟩
  refine AK.on (fun _ => Sb.hw) ?_
  refine AK.quiet rfl (v_nilCheck_ptr rfl) rfl ?_
  refine AK.quiet rfl (v_field Tryz.runUnderlying111 rfl Tryz.sizeOf109 (by decide) rfl) rfl ?_
  refine AK.quiet rfl (v_field Tryz.runUnderlying109 rfl Tryz.sizeOf107 (by decide) rfl) rfl ?_
  refine AK.quiet rfl (v_field Tryz.runUnderlying107 rfl Tryz.sizeOf105 (by decide) rfl) rfl ?_
  refine AK.one rfl rfl (OW.store (vs' := _) Tryz.sizeOf105 rfl rfl rfl (show _ = [Value.pointer (some ⟨kp, 0, none⟩), .pointer none, .pointer none, .pointer none, .pointer (some ⟨kx, 0, none⟩)] from rfl) (At.over (At.over (At.over (At.over .here _) _) _) _) (by show 0 < _; simp) (by simp) ?_)
  refine AK.on (fun _ => Sb.hw) ?_
  refine AK.quiet rfl (v_nilCheck_ptr rfl) rfl ?_
  refine AK.quiet rfl (v_field Tryz.runUnderlying111 rfl Tryz.sizeOf109 (by decide) rfl) rfl ?_
  refine AK.quiet rfl (v_field Tryz.runUnderlying109 rfl Tryz.sizeOf107 (by decide) rfl) rfl ?_
  refine AK.quiet rfl (v_field Tryz.runUnderlying107 rfl Tryz.sizeOf105 (by decide) rfl) rfl ?_
  refine AK.one rfl rfl (OW.store (vs' := _) Tryz.sizeOf105 rfl rfl rfl (show _ = [Value.pointer (some ⟨kp, 0, none⟩), .pointer (some ⟨kq, 0, none⟩), .pointer none, .pointer none, .pointer (some ⟨kx, 0, none⟩)] from rfl) (At.over (At.over (At.over (At.over .here _) _) _) _) (by show 1 < _; simp) (by simp) ?_)
  refine AK.on (fun _ => Sb.hw) ?_
  refine AK.quiet rfl (v_nilCheck_ptr rfl) rfl ?_
  refine AK.quiet rfl (v_field Tryz.runUnderlying111 rfl Tryz.sizeOf109 (by decide) rfl) rfl ?_
  refine AK.quiet rfl (v_field Tryz.runUnderlying109 rfl Tryz.sizeOf107 (by decide) rfl) rfl ?_
  refine AK.quiet rfl (v_field Tryz.runUnderlying107 rfl Tryz.sizeOf105 (by decide) rfl) rfl ?_
  refine AK.one rfl rfl (OW.store (vs' := _) Tryz.sizeOf105 rfl rfl rfl (show _ = [Value.pointer (some ⟨kp, 0, none⟩), .pointer (some ⟨kq, 0, none⟩), .pointer (some ⟨kg, 0, none⟩), .pointer none, .pointer (some ⟨kx, 0, none⟩)] from rfl) (At.over (At.over (At.over (At.over .here _) _) _) _) (by show 2 < _; simp) (by simp) ?_)
  refine AK.on (fun _ => Sb.hw) ?_
  refine AK.quiet rfl (v_nilCheck_ptr rfl) rfl ?_
  refine AK.quiet rfl (v_field Tryz.runUnderlying111 rfl Tryz.sizeOf109 (by decide) rfl) rfl ?_
  refine AK.quiet rfl (v_field Tryz.runUnderlying109 rfl Tryz.sizeOf105 (by decide) rfl) rfl ?_
  refine AK.one rfl rfl (OW.store (vs' := _) Tryz.sizeOf105 rfl rfl rfl (show _ = [Value.pointer (some ⟨kp, 0, none⟩), .pointer (some ⟨kq, 0, none⟩), .pointer (some ⟨kg, 0, none⟩), .pointer (some ⟨ky, 0, none⟩), .pointer (some ⟨kx, 0, none⟩)] from rfl) (At.over (At.over (At.over (At.over .here _) _) _) _) (by show 3 < _; simp) (by simp) ?_)
  refine AK.on (fun _ => Sb.hw) ?_
  refine AK.done ?_
  refine EX.next ?_
  refine WC.seq ?_
  refine WC.region ?_
  refine WL.val (v_move rfl) rfl ?_
  refine WL.val (v_assign rfl) rfl ?_
  refine WL.nil ?_
  refine EX.next ?_
  refine WC.ret ?_
  refine ret1 Tryz.results30 rfl fun w hw => ⟨k3, kp, kq, kg, ky, .pointer (some ⟨kx, 0, none⟩), (k3, blk 111 (0, 0) (nmC kp kq kg ky (.pointer (some ⟨kx, 0, none⟩)))) :: (By ++ (Bg ++ (Bq ++ Bp))), rfl, m0, ⟨?_, ?_, ?_, ?_⟩, ?_⟩
  · rw [← hp]; exact hp_.mono (fun x hx => by simp [hx])
  · rw [← hq]; exact hq_.mono (fun x hx => by simp [hx])
  · rw [← hg]; exact hg_.mono (fun x hx => by simp [hx])
  · rw [← hy]; exact hy_.mono (fun x hx => by simp [hx])
  · have h9 : HW w0 ((k3, blk 111 (0, 0) (nmC kp kq kg ky (.pointer (some ⟨kx, 0, none⟩)))) :: (By ++ (Bg ++ (Bq ++ (Bp ++ L))))) w := Pm.hw (Sb.hw (l := By ++ (Bg ++ (Bq ++ (Bp ++ ((k3, blk 111 (0, 0) (nmC kp kq kg ky (.pointer (some ⟨kx, 0, none⟩)))) :: L))))) hw)
    simpa only [List.append_assoc, List.cons_append] using h9
end Go.Proofs.YtljoodllnaekbaaGreatDoor
