/- Part 6 of the proof. math/big: 'Int.BitLen'. 'MPI.SetBig', 'MPI.EncodedBytes', 'MPI.EncodedLength'. What is written to, and a public key in memory. How many bytes a key's numbers take. A time, made of seconds, and back. A key's body is written. A packet's header is written. 'PublicKey.Serialize'. 'impl.serialized'. Memory of hashes: rows of numbers of which only the kind is known. Memory of hashes, further. 'bits.RotateLeft32'. No condition. -/
import Derived.Test.YtljoodllnaekbaaGreatDoorPart05
namespace Go.Proofs.YtljoodllnaekbaaGreatDoor
open Go

theorem len64_any (w0 w : World) (L : Heap) (x : Nat) (hx : x < 18446744073709551616) (hw : HW w0 L w) :
    Calls P 94 #[.int .u64 (x : Int)] w fun e w' => e = .returned (.int .i64 (blen x : Int)) ∧ HW w0 L w' := by
  refine enter (us := [.int .u64 (x : Int)]) Tryz.func94 rfl Tryz.ntmps94 (by simp) rfl ?_ hw
  refine WC.seq ?_
  refine WC.region ?_
  refine WL.val (v_assign rfl) rfl ?_
  refine WL.nil ?_
  refine EX.next ?_
  refine WC.cut (fun ac wl => ∃ x1 : Nat, ∃ n1 : Nat, (x1 < 4294967296) ∧ (n1 + blen x1 = blen x) ∧ (n1 ≤ 64) ∧ St w0 25 [(0, .int .u64 (x1 : Int)), (2, .int .i64 (n1 : Int))] (L) ac wl) ?_ ?_
  · skip
    refine WC.seq ?_
    refine WC.region ?_
    refine WL.val (v_move rfl) rfl ?_
    refine WL.val (v_geq rfl rfl) rfl ?_
    refine WL.nil ?_
    refine EX.next ?_
    refine WC.cond rfl ?_ ?_
    · intro hb1
      have hge : 2 ^ 32 ≤ x := by have := of_decide_eq_true hb1; omega
      have hbs := blen_shift hge
      refine WC.seq ?_
      refine WC.region ?_
      refine WL.val (v_move rfl) rfl ?_
      refine WL.val (u64_shr rfl rfl (show (32 : Int) = ((32 : Nat) : Int) from rfl) (by omega)) rfl ?_
      refine WL.val (v_assign rfl) rfl ?_
      refine WL.nil ?_
      refine EX.next ?_
      refine WC.region ?_
      refine WL.val (v_assign rfl) rfl ?_
      refine WL.nil ?_
      refine EX.to ?_
      exact KS.mk fun b w hS => ⟨x / 2 ^ 32, 32, by omega, by omega, by omega, hS.keep ⟨rfl, rfl, trivial⟩⟩
    · intro hb1
      have hlt : x < 2 ^ 32 := by have := of_decide_eq_false hb1; omega
      refine WC.skip ?_
      refine EX.to ?_
      exact KS.mk fun b w hS => ⟨x, 0, by omega, by omega, by omega, hS.keep ⟨rfl, rfl, trivial⟩⟩
  · rintro ac wl ⟨x1, n1, hx1, hn1, hm1, hS⟩
    revert ac wl
    refine KS.out ?_
    refine WC.cut (fun ac wl => ∃ x2 : Nat, ∃ n2 : Nat, (x2 < 65536) ∧ (n2 + blen x2 = blen x) ∧ (n2 ≤ 64) ∧ St w0 25 [(0, .int .u64 (x2 : Int)), (2, .int .i64 (n2 : Int))] (L) ac wl) ?_ ?_
    · skip
      refine WC.seq ?_
      refine WC.region ?_
      refine WL.val (v_move rfl) rfl ?_
      refine WL.val (v_geq rfl rfl) rfl ?_
      refine WL.nil ?_
      refine EX.next ?_
      refine WC.cond rfl ?_ ?_
      · intro hb4
        have hge : 2 ^ 16 ≤ x1 := by have := of_decide_eq_true hb4; omega
        have hbs := blen_shift hge
        refine WC.seq ?_
        refine WC.region ?_
        refine WL.val (v_move rfl) rfl ?_
        refine WL.val (u64_shr rfl rfl (show (16 : Int) = ((16 : Nat) : Int) from rfl) (by omega)) rfl ?_
        refine WL.val (v_assign rfl) rfl ?_
        refine WL.nil ?_
        refine EX.next ?_
        refine WC.region ?_
        refine WL.val (v_move rfl) rfl ?_
        refine WL.val (n_add1 rfl rfl (show (16 : Int) = ((16 : Nat) : Int) from rfl) (by omega)) rfl ?_
        refine WL.val (v_assign rfl) rfl ?_
        refine WL.nil ?_
        refine EX.to ?_
        exact KS.mk fun b w hS => ⟨x1 / 2 ^ 16, n1 + 16, by omega, by omega, by have := blen_le64 hx; omega, hS.keep ⟨rfl, rfl, trivial⟩⟩
      · intro hb4
        have hlt : x1 < 2 ^ 16 := by have := of_decide_eq_false hb4; omega
        refine WC.skip ?_
        refine EX.to ?_
        exact KS.mk fun b w hS => ⟨x1, n1, by omega, by omega, by omega, hS.keep ⟨rfl, rfl, trivial⟩⟩
    · rintro ac wl ⟨x2, n2, hx2, hn2, hm2, hS⟩
      revert ac wl
      refine KS.out ?_
      refine WC.cut (fun ac wl => ∃ x3 : Nat, ∃ n3 : Nat, (x3 < 256) ∧ (n3 + blen x3 = blen x) ∧ (n3 ≤ 64) ∧ St w0 25 [(0, .int .u64 (x3 : Int)), (2, .int .i64 (n3 : Int))] (L) ac wl) ?_ ?_
      · skip
        refine WC.seq ?_
        refine WC.region ?_
        refine WL.val (v_move rfl) rfl ?_
        refine WL.val (v_geq rfl rfl) rfl ?_
        refine WL.nil ?_
        refine EX.next ?_
        refine WC.cond rfl ?_ ?_
        · intro hb7
          have hge : 2 ^ 8 ≤ x2 := by have := of_decide_eq_true hb7; omega
          have hbs := blen_shift hge
          refine WC.seq ?_
          refine WC.region ?_
          refine WL.val (v_move rfl) rfl ?_
          refine WL.val (u64_shr rfl rfl (show (8 : Int) = ((8 : Nat) : Int) from rfl) (by omega)) rfl ?_
          refine WL.val (v_assign rfl) rfl ?_
          refine WL.nil ?_
          refine EX.next ?_
          refine WC.region ?_
          refine WL.val (v_move rfl) rfl ?_
          refine WL.val (n_add1 rfl rfl (show (8 : Int) = ((8 : Nat) : Int) from rfl) (by omega)) rfl ?_
          refine WL.val (v_assign rfl) rfl ?_
          refine WL.nil ?_
          refine EX.to ?_
          exact KS.mk fun b w hS => ⟨x2 / 2 ^ 8, n2 + 8, by omega, by omega, by have := blen_le64 hx; omega, hS.keep ⟨rfl, rfl, trivial⟩⟩
        · intro hb7
          have hlt : x2 < 2 ^ 8 := by have := of_decide_eq_false hb7; omega
          refine WC.skip ?_
          refine EX.to ?_
          exact KS.mk fun b w hS => ⟨x2, n2, by omega, by omega, by omega, hS.keep ⟨rfl, rfl, trivial⟩⟩
      · rintro ac wl ⟨x3, n3, hx3, hn3, hm3, hS⟩
        revert ac wl
        refine KS.out ?_
        refine WC.seq ?_
        refine WC.region ?_
        refine WL.val (v_move rfl) rfl ?_
        refine WL.val (v_move rfl) rfl ?_
        refine WL.val (Val.to (v' := .int .u8 (x3 : Int)) (by rw [Nat.mod_eq_of_lt hx3]) (n_byte Tryz.runUnderlying50 Tryz.runUnderlying5 rfl)) rfl ?_
        have htab := fun (s : ByteArray) (h : ∀ y, y < 256 → s[y]? = some (UInt8.ofNat (blen y))) => h x3 hx3
        refine WL.val (v_index_str Tryz.runUnderlying9 rfl rfl (htab _ (by decide +kernel))) rfl ?_
        have hb8 : (UInt8.ofNat (blen x3)).toNat = blen x3 := by have := blen_le8 hx3; simp; omega
        rw [hb8]
        have h8 := blen_le8 hx3
        have h64 := blen_le64 hx
        refine WL.val (n_int Tryz.runUnderlying5 Tryz.runUnderlying3 rfl (by omega)) rfl ?_
        refine WL.val (Val.to (v' := .int .i64 (blen x : Int)) (by rw [← hn3]) (n_add rfl rfl (by omega))) rfl ?_
        refine WL.val (v_assign rfl) rfl ?_
        refine WL.nil ?_
        refine EX.next ?_
        refine WC.ret ?_
        exact ret1 Tryz.results94 rfl fun w hw => ⟨rfl, hw⟩
theorem len_any (w0 w : World) (L : Heap) (x : Nat) (hx : x < 18446744073709551616) (hw : HW w0 L w) :
    Calls P 85 #[.int .u64 (x : Int)] w fun e w' => e = .returned (.int .i64 (blen x : Int)) ∧ HW w0 L w' := by
  refine enter (us := [.int .u64 (x : Int)]) Tryz.func85 rfl Tryz.ntmps85 (by simp) rfl ?_ hw
  refine WC.seq ?_
  refine WC.region ?_
  refine WL.val (v_assign rfl) rfl ?_
  refine WL.nil ?_
  refine EX.next ?_
  refine WC.seq ?_
  refine WC.cond rfl ?_ ?_
  · intro hb0
    cases hb0
  · intro hb0
    refine WC.skip ?_
    refine EX.next ?_
    refine WC.seq ?_
    refine WC.region ?_
    refine WL.val (v_move rfl) rfl ?_
    refine WL.act rfl (OW.call (xs := [.tmp 6]) Tryz.call94 rfl (fun w hw => len64_any w0 w _ x hx hw) rfl ?_)
    rintro r w' ⟨rfl, hw'⟩
    refine ⟨_, _, rfl, hw', ?_⟩
    refine WL.val (v_assign rfl) rfl ?_
    refine WL.nil ?_
    refine EX.next ?_
    refine WC.ret ?_
    exact ret1 Tryz.results85 rfl fun w hw => ⟨rfl, hw⟩
theorem bitLen_any (w0 w : World) (L : Heap) (Aa : Option Addr) (la ca : Nat) (a : List Nat) (h64 : ∀ d ∈ a, d < 18446744073709551616) (hla : a.length = la) (hxa : a.length ≤ 1000) (hca : la ≤ ca) (hRa : Rd L Aa (wd a)) (ht : Trimmed a) (hw : HW w0 L w) :
    Calls P 72 #[.slice Aa la ca] w fun e w' => e = .returned (.int .i64 (blen (wval a) : Int)) ∧ HW w0 L w' := by
  refine enter (us := [.slice Aa la ca]) Tryz.func72 rfl Tryz.ntmps72 (by simp) rfl ?_ hw
  refine WC.seq ?_
  refine WC.region ?_
  refine WL.val (v_assign rfl) rfl ?_
  refine WL.nil ?_
  refine EX.next ?_
  refine WC.seq ?_
  refine WC.seq ?_
  refine WC.region ?_
  refine WL.val (v_move rfl) rfl ?_
  refine WL.val (v_len Tryz.runUnderlying137 rfl) rfl ?_
  refine WL.val (v_sub_i rfl rfl (by omega)) rfl ?_
  refine WL.val (v_assign rfl) rfl ?_
  refine WL.nil ?_
  refine EX.next ?_
  refine WC.seq ?_
  refine WC.region ?_
  refine WL.val (v_move rfl) rfl ?_
  refine WL.val (v_geq rfl rfl) rfl ?_
  refine WL.nil ?_
  refine EX.next ?_
  refine WC.cond rfl ?_ ?_
  · intro hb2
    have h1 : 1 ≤ la := by have := of_decide_eq_true hb2; omega
    have hI : ((la : Int) - 1) = ((la - 1 : Nat) : Int) := by omega
    rw [hI]
    have hne : a ≠ [] := by intro h; rw [h] at hla; simp at hla; omega
    have htop := wval_blen h64 hne (ht.resolve_left hne)
    rw [hla] at htop
    have hW : a.getD (la - 1) 0 < 18446744073709551616 := by
      have hlt : la - 1 < a.length := by omega
      have : a.getD (la - 1) 0 = a[la - 1] := by simp [hlt]
      rw [this]; exact h64 _ (List.getElem_mem hlt)
    refine WC.cut (fun ac wl => ∃ x : Nat, (x < 18446744073709551616) ∧ (blen x = blen (a.getD (la - 1) 0)) ∧ St w0 44 [(3, .int .i64 ((la - 1 : Nat) : Int)), (4, .int .u64 (x : Int))] (L) ac wl) ?_ ?_
    · skip
      refine WC.region ?_
      refine WL.val (v_move rfl) rfl ?_
      refine WL.val (v_move rfl) rfl ?_
      refine WL.val (n_index Tryz.runUnderlying137 Tryz.sizeOf175 rfl rfl hRa (by omega) (by rw [wd_length]; omega)) rfl ?_
      refine WL.val (v_load_rd Tryz.isAgg175 rfl hRa (wd_at (by omega))) rfl ?_
      refine WL.val (v_assign rfl) rfl ?_
      refine WL.nil ?_
      refine EX.to ?_
      exact KS.mk fun b w hS => ⟨_, hW, rfl, hS.keep ⟨rfl, rfl, trivial⟩⟩
    · rintro ac wl ⟨x, hx, hbx, hS⟩
      revert ac wl
      refine KS.out ?_
      refine WC.cut (fun ac wl => ∃ x : Nat, (x < 18446744073709551616) ∧ (blen x = blen (a.getD (la - 1) 0)) ∧ St w0 44 [(3, .int .i64 ((la - 1 : Nat) : Int)), (4, .int .u64 (x : Int))] (L) ac wl) ?_ ?_
      · skip
        refine WC.region ?_
        refine WL.val (v_move rfl) rfl ?_
        refine WL.val (v_move rfl) rfl ?_
        refine WL.val (u64_shr rfl rfl (show (1 : Int) = ((1 : Nat) : Int) from rfl) (by omega)) rfl ?_
        refine WL.val (u64_or rfl rfl (by have := Nat.div_le_self x (2 ^ 1); omega) (by have := Nat.div_le_self x (2 ^ 1); omega)) rfl ?_
        refine WL.val (v_assign rfl) rfl ?_
        refine WL.nil ?_
        refine EX.to ?_
        have hle := Nat.div_le_self x (2 ^ 1)
        exact KS.mk fun b w hS => ⟨x ||| x / 2 ^ 1, or_lt (k := 64) (by omega) (by omega), by rw [blen_smear, hbx], hS.keep ⟨rfl, rfl, trivial⟩⟩
      · rintro ac wl ⟨x, hx, hbx, hS⟩
        revert ac wl
        refine KS.out ?_
        refine WC.cut (fun ac wl => ∃ x : Nat, (x < 18446744073709551616) ∧ (blen x = blen (a.getD (la - 1) 0)) ∧ St w0 44 [(3, .int .i64 ((la - 1 : Nat) : Int)), (4, .int .u64 (x : Int))] (L) ac wl) ?_ ?_
        · skip
          refine WC.region ?_
          refine WL.val (v_move rfl) rfl ?_
          refine WL.val (v_move rfl) rfl ?_
          refine WL.val (u64_shr rfl rfl (show (2 : Int) = ((2 : Nat) : Int) from rfl) (by omega)) rfl ?_
          refine WL.val (u64_or rfl rfl (by have := Nat.div_le_self x (2 ^ 2); omega) (by have := Nat.div_le_self x (2 ^ 2); omega)) rfl ?_
          refine WL.val (v_assign rfl) rfl ?_
          refine WL.nil ?_
          refine EX.to ?_
          have hle := Nat.div_le_self x (2 ^ 2)
          exact KS.mk fun b w hS => ⟨x ||| x / 2 ^ 2, or_lt (k := 64) (by omega) (by omega), by rw [blen_smear, hbx], hS.keep ⟨rfl, rfl, trivial⟩⟩
        · rintro ac wl ⟨x, hx, hbx, hS⟩
          revert ac wl
          refine KS.out ?_
          refine WC.cut (fun ac wl => ∃ x : Nat, (x < 18446744073709551616) ∧ (blen x = blen (a.getD (la - 1) 0)) ∧ St w0 44 [(3, .int .i64 ((la - 1 : Nat) : Int)), (4, .int .u64 (x : Int))] (L) ac wl) ?_ ?_
          · skip
            refine WC.region ?_
            refine WL.val (v_move rfl) rfl ?_
            refine WL.val (v_move rfl) rfl ?_
            refine WL.val (u64_shr rfl rfl (show (4 : Int) = ((4 : Nat) : Int) from rfl) (by omega)) rfl ?_
            refine WL.val (u64_or rfl rfl (by have := Nat.div_le_self x (2 ^ 4); omega) (by have := Nat.div_le_self x (2 ^ 4); omega)) rfl ?_
            refine WL.val (v_assign rfl) rfl ?_
            refine WL.nil ?_
            refine EX.to ?_
            have hle := Nat.div_le_self x (2 ^ 4)
            exact KS.mk fun b w hS => ⟨x ||| x / 2 ^ 4, or_lt (k := 64) (by omega) (by omega), by rw [blen_smear, hbx], hS.keep ⟨rfl, rfl, trivial⟩⟩
          · rintro ac wl ⟨x, hx, hbx, hS⟩
            revert ac wl
            refine KS.out ?_
            refine WC.cut (fun ac wl => ∃ x : Nat, (x < 18446744073709551616) ∧ (blen x = blen (a.getD (la - 1) 0)) ∧ St w0 44 [(3, .int .i64 ((la - 1 : Nat) : Int)), (4, .int .u64 (x : Int))] (L) ac wl) ?_ ?_
            · skip
              refine WC.region ?_
              refine WL.val (v_move rfl) rfl ?_
              refine WL.val (v_move rfl) rfl ?_
              refine WL.val (u64_shr rfl rfl (show (8 : Int) = ((8 : Nat) : Int) from rfl) (by omega)) rfl ?_
              refine WL.val (u64_or rfl rfl (by have := Nat.div_le_self x (2 ^ 8); omega) (by have := Nat.div_le_self x (2 ^ 8); omega)) rfl ?_
              refine WL.val (v_assign rfl) rfl ?_
              refine WL.nil ?_
              refine EX.to ?_
              have hle := Nat.div_le_self x (2 ^ 8)
              exact KS.mk fun b w hS => ⟨x ||| x / 2 ^ 8, or_lt (k := 64) (by omega) (by omega), by rw [blen_smear, hbx], hS.keep ⟨rfl, rfl, trivial⟩⟩
            · rintro ac wl ⟨x, hx, hbx, hS⟩
              revert ac wl
              refine KS.out ?_
              refine WC.cut (fun ac wl => ∃ x : Nat, (x < 18446744073709551616) ∧ (blen x = blen (a.getD (la - 1) 0)) ∧ St w0 44 [(3, .int .i64 ((la - 1 : Nat) : Int)), (4, .int .u64 (x : Int))] (L) ac wl) ?_ ?_
              · skip
                refine WC.region ?_
                refine WL.val (v_move rfl) rfl ?_
                refine WL.val (v_move rfl) rfl ?_
                refine WL.val (u64_shr rfl rfl (show (16 : Int) = ((16 : Nat) : Int) from rfl) (by omega)) rfl ?_
                refine WL.val (u64_or rfl rfl (by have := Nat.div_le_self x (2 ^ 16); omega) (by have := Nat.div_le_self x (2 ^ 16); omega)) rfl ?_
                refine WL.val (v_assign rfl) rfl ?_
                refine WL.nil ?_
                refine EX.to ?_
                have hle := Nat.div_le_self x (2 ^ 16)
                exact KS.mk fun b w hS => ⟨x ||| x / 2 ^ 16, or_lt (k := 64) (by omega) (by omega), by rw [blen_smear, hbx], hS.keep ⟨rfl, rfl, trivial⟩⟩
              · rintro ac wl ⟨x, hx, hbx, hS⟩
                revert ac wl
                refine KS.out ?_
                refine WC.cut (fun ac wl => ∃ x : Nat, (x < 18446744073709551616) ∧ (blen x = blen (a.getD (la - 1) 0)) ∧ St w0 44 [(3, .int .i64 ((la - 1 : Nat) : Int)), (4, .int .u64 (x : Int))] (L) ac wl) ?_ ?_
                · skip
                  refine WC.region ?_
                  refine WL.val (v_move rfl) rfl ?_
                  refine WL.val (v_move rfl) rfl ?_
                  refine WL.val (u64_shr rfl rfl (show (16 : Int) = ((16 : Nat) : Int) from rfl) (by omega)) rfl ?_
                  refine WL.val (Val.to (v' := .int .u64 ((x / 2 ^ 32 : Nat) : Int)) (by rw [Nat.div_div_eq_div_mul]) (u64_shr rfl rfl (show (16 : Int) = ((16 : Nat) : Int) from rfl) (by omega))) rfl ?_
                  refine WL.val (u64_or rfl rfl (by have := Nat.div_le_self x (2 ^ 32); omega) (by have := Nat.div_le_self x (2 ^ 32); omega)) rfl ?_
                  refine WL.val (v_assign rfl) rfl ?_
                  refine WL.nil ?_
                  refine EX.to ?_
                  have hle := Nat.div_le_self x (2 ^ 32)
                  exact KS.mk fun b w hS => ⟨x ||| x / 2 ^ 32, or_lt (k := 64) (by omega) (by omega), by rw [blen_smear, hbx], hS.keep ⟨rfl, rfl, trivial⟩⟩
                · rintro ac wl ⟨x, hx, hbx, hS⟩
                  revert ac wl
                  refine KS.out ?_
                  refine WC.seq ?_
                  refine WC.region ?_
                  refine WL.val (v_move rfl) rfl ?_
                  refine WL.val (n_mul rfl (show _ = some (Value.int .i64 ((64 : Nat) : Int)) from rfl) (by omega)) rfl ?_
                  refine WL.val (v_move rfl) rfl ?_
                  refine WL.act rfl (OW.call (xs := [.tmp 41]) Tryz.call85 rfl (fun w hw => len_any w0 w _ x hx hw) rfl ?_)
                  rintro r w' ⟨rfl, hw'⟩
                  refine ⟨_, _, rfl, hw', ?_⟩
                  have h64b := blen_le64 hx
                  refine WL.val (Val.to (v' := .int .i64 (blen (wval a) : Int)) (by rw [htop, hbx, Nat.mul_comm]) (n_add rfl rfl (by omega))) rfl ?_
                  refine WL.val (v_assign rfl) rfl ?_
                  refine WL.nil ?_
                  refine EX.next ?_
                  refine WC.ret ?_
                  refine EX.ret_then ?_
                  exact ret1 Tryz.results72 rfl fun w hw => ⟨rfl, hw⟩
  · intro hb2
    have h1 : a = [] := List.eq_nil_of_length_eq_zero (by have := of_decide_eq_false hb2; omega)
    refine WC.skip ?_
    refine EX.next ?_
    refine WC.seq ?_
    refine WC.region ?_
    refine WL.val (v_assign rfl) rfl ?_
    refine WL.nil ?_
    refine EX.next ?_
    refine WC.ret ?_
    subst h1
    exact ret1 Tryz.results72 rfl fun w hw => ⟨rfl, hw⟩
theorem intBitLen_any (w0 w : World) (L : Heap) (k : Nat) (a : List Nat) (hk : BigAt L k a) (hby : ∀ d ∈ a, d < 256) (hxa : a.length ≤ 1000) (hw : HW w0 L w) :
    Calls P 61 #[.pointer (some ⟨k, 0, none⟩)] w fun e w' => e = .returned (.int .i64 (bitsN a : Int)) ∧ HW w0 L w' := by
  obtain ⟨A, c, hkm, hc, hR⟩ := hk
  have hWl := intW_length a
  have hW := intW_lt hby
  have hbl : blen (wval (intW a)) = bitsN a := by rw [intW_val, bitsN_blen hby]
  refine enter (us := [.pointer (some ⟨k, 0, none⟩)]) Tryz.func61 rfl Tryz.ntmps61 (by simp) rfl ?_ hw
  refine WC.seq ?_
  refine WC.region ?_
  refine WL.val (v_assign rfl) rfl ?_
  refine WL.nil ?_
  refine EX.next ?_
  refine WC.seq ?_
  refine WC.region ?_
  refine WL.val (v_move rfl) rfl ?_
  refine WL.val (v_nilCheck_ptr rfl) rfl ?_
  refine WL.val (v_field Tryz.runUnderlying139 rfl Tryz.sizeOf137 (by decide) rfl) rfl ?_
  refine WL.val (v_load Tryz.isAgg137 rfl hkm rfl) rfl ?_
  refine WL.act rfl (OW.call (xs := [.tmp 6]) Tryz.call72 rfl (fun w hw => bitLen_any w0 w _ _ _ _ (intW a) hW rfl (by omega) hc hR (trimL_trimmed _) hw) rfl ?_)
  rintro r w' ⟨rfl, hw'⟩
  rw [hbl]
  refine ⟨_, _, rfl, hw', ?_⟩
  refine WL.val (v_assign rfl) rfl ?_
  refine WL.nil ?_
  refine EX.next ?_
  refine WC.ret ?_
  exact ret1 Tryz.results61 rfl fun w hw => ⟨rfl, hw⟩
end Go.Proofs.YtljoodllnaekbaaGreatDoor

namespace Go.Proofs.YtljoodllnaekbaaGreatDoor
open Go

theorem setBig_any (w0 w : World) (L : Heap) (m k : Nat) (a : List Nat) (hk : BigAt L k a) (hby : ∀ d ∈ a, d < 256) (hxa : a.length ≤ 1000) (hw : HW w0 ((m, blk 134 (0, 0) [.slice none 0 0, .int .u16 0]) :: L) w) :
    Calls P 51 #[.pointer (some ⟨m, 0, none⟩), .pointer (some ⟨k, 0, none⟩)] w fun e w' => ∃ q B, e = .returned (.pointer (some ⟨m, 0, none⟩)) ∧ q.2.2 = sigL a ∧ Lies B q ∧ HW w0 (B ++ ((m, blk 134 (0, 0) [slV q, .int .u16 (bitsN a : Int)]) :: L)) w' := by
  refine enter (us := [.pointer (some ⟨m, 0, none⟩), .pointer (some ⟨k, 0, none⟩)]) Tryz.func51 rfl Tryz.ntmps51 (by simp) rfl ?_ hw
  refine WC.seq ?_
  refine WC.region ?_
  refine WL.val (v_assign rfl) rfl ?_
  refine WL.nil ?_
  refine EX.next ?_
  refine WC.seq ?_
  refine WC.region ?_
  refine WL.val (v_move rfl) rfl ?_
  refine WL.val (v_move rfl) rfl ?_
  refine WL.act rfl (OW.call (xs := [.tmp 6]) Tryz.call60 rfl (fun w hw => intBytes_any w0 w _ k a (hk.mono fun _ h => mS h) hby hxa hw) rfl ?_)
  rintro r w' ⟨q, B, rfl, hq, hB, hw'⟩
  refine ⟨_, _, rfl, hw', ?_⟩
  refine WL.val (v_nilCheck_ptr rfl) rfl ?_
  refine WL.val (v_field Tryz.runUnderlying134 rfl Tryz.sizeOf23 (by decide) rfl) rfl ?_
  refine WL.act rfl (OW.store (vs' := _) Tryz.sizeOf23 rfl rfl rfl (show _ = [slV q, Value.int .u16 0] from rfl) (At.over .here _) (by exact Nat.succ_pos _) (by simp) ?_)
  refine WL.nil ?_
  refine EX.next ?_
  refine WC.seq ?_
  refine WC.region ?_
  refine WL.val (v_move rfl) rfl ?_
  refine WL.val (v_move rfl) rfl ?_
  refine WL.act rfl (OW.call (xs := [.tmp 11]) Tryz.call61 rfl (fun w hw => intBitLen_any w0 w _ k a (hk.mono fun _ h => List.mem_append_right _ (mS h)) hby hxa hw) rfl ?_)
  rintro r w' ⟨rfl, hw'⟩
  refine ⟨_, _, rfl, hw', ?_⟩
  have hbl := bitsN_lt hxa
  refine WL.val (u16_conv Tryz.runUnderlying3 Tryz.runUnderlying114 rfl (by omega)) rfl ?_
  refine WL.val (v_nilCheck_ptr rfl) rfl ?_
  refine WL.val (v_field Tryz.runUnderlying134 rfl Tryz.sizeOf114 (by decide) rfl) rfl ?_
  refine WL.act rfl (OW.store (vs' := _) Tryz.sizeOf114 rfl rfl rfl (show _ = [slV q, Value.int .u16 (bitsN a : Int)] from rfl) (At.over .here _) (by exact Nat.lt_succ_self _) (by simp) ?_)
  refine WL.nil ?_
  refine EX.next ?_
  refine WC.seq ?_
  refine WC.region ?_
  refine WL.val (v_move rfl) rfl ?_
  refine WL.val (v_assign rfl) rfl ?_
  refine WL.nil ?_
  refine EX.next ?_
  refine WC.ret ?_
  exact ret1 Tryz.results51 rfl fun w hw => ⟨q, B, rfl, hq, hB, hw⟩
theorem encodedBytes_any (w0 w : World) (L : Heap) (m : Nat) (a : List Nat) (hm : MpiAt L m a) (hxa : a.length ≤ 1000) (hw : HW w0 L w) :
    Calls P 244 #[.pointer (some ⟨m, 0, none⟩)] w (NewBytes w0 L (mpiL a)) := by
  obtain ⟨q, hmm, hq, hql⟩ := hm
  have hbl := bitsN_lt hxa
  have hsl := sigL_length a
  have hqL : q.2.2.length = (sigL a).length := by rw [hq]
  have hmp : mpiL a = [bitsN a / 2 ^ 8 % 256, bitsN a % 256] ++ sigL a := by rw [mpiL, octL_two]
  refine enter (us := [.pointer (some ⟨m, 0, none⟩)]) Tryz.func244 rfl Tryz.ntmps244 (by simp) rfl ?_ hw
  refine WC.seq ?_
  refine WC.region ?_
  refine WL.val (v_assign rfl) rfl ?_
  refine WL.nil ?_
  refine EX.next ?_
  refine WC.seq ?_
  refine WC.draw (L) (.quiet 0 (.quiet 1 (.quiet 2 (.quiet 3 (.quiet 4 (.quiet 5 (.quiet 6 (.quiet 7 (.quiet 8 (.quiet 9 (.quiet 10 (.quiet 12 (.quiet 13 (.quiet 14 (.quiet 15 (.one 11 (.one 16 (.quiet 17 .done)))))))))))))))))) (by kernel_rfl) (fun _ => Sb.hw) ?_
  refine AK.quiet rfl (v_move rfl) rfl ?_
  refine AK.quiet rfl (v_nilCheck_ptr rfl) rfl ?_
  refine AK.quiet rfl (v_field Tryz.runUnderlying134 rfl Tryz.sizeOf114 (by decide) rfl) rfl ?_
  refine AK.quiet rfl (v_load Tryz.isAgg114 rfl hmm rfl) rfl ?_
  refine AK.quiet rfl (u16_shr rfl rfl (show (8 : Int) = ((8 : Nat) : Int) from rfl) (by omega)) rfl ?_
  refine AK.quiet rfl (n_byte Tryz.runUnderlying114 Tryz.runUnderlying5 rfl) rfl ?_
  refine AK.quiet rfl (v_move rfl) rfl ?_
  refine AK.quiet rfl (v_nilCheck_ptr rfl) rfl ?_
  refine AK.quiet rfl (v_field Tryz.runUnderlying134 rfl Tryz.sizeOf114 (by decide) rfl) rfl ?_
  refine AK.quiet rfl (v_load Tryz.isAgg114 rfl hmm rfl) rfl ?_
  refine AK.quiet rfl (n_byte Tryz.runUnderlying114 Tryz.runUnderlying5 rfl) rfl ?_
  refine AK.quiet rfl (v_move rfl) rfl ?_
  refine AK.quiet rfl (v_nilCheck_ptr rfl) rfl ?_
  refine AK.quiet rfl (v_field Tryz.runUnderlying134 rfl Tryz.sizeOf23 (by decide) rfl) rfl ?_
  refine AK.quiet rfl (v_load Tryz.isAgg23 rfl hmm rfl) rfl ?_
  refine AK.one rfl rfl (OW.buildSlice (xs := [.tmp 8, .tmp 13]) Tryz.runUnderlying23 Tryz.sizeOf5 Tryz.zeroValue5 rfl rfl rfl (by simp) rfl (fun b1 => ?_) rfl rfl)
  refine AK.on (fun _ => Sb.hw) ?_
  refine AK.one rfl rfl (OW.append (o := some ⟨b1, []⟩) (data := bt [bitsN a / 2 ^ 8 % 256, bitsN a % 256]) (news := bt q.2.2) (data' := bt (mpiL a)) (L1 := L) Tryz.runUnderlying23 Tryz.runUnderlying23 Tryz.sizeOf5 Tryz.typeInfo5 Tryz.zeroValue5 rfl rfl rfl (by first | rfl | exact (bt_length _).symm | rw [bt_length, octL_length]) (fun _ h => h) (fun h => by simp at h) (hql.rd.mono fun _ h => mS h) (bt_one _) (by rw [bt_length, bt_length]; simp only [List.length_cons, List.length_nil]; rw [bytes5]; omega) (by rw [bt_length, bt_length]; simp only [List.length_cons, List.length_nil]; omega) (by rw [← bt_append, hq, hmp]) rfl (fun o ho => ?_))
  refine AK.on (fun _ => Sb.hw) ?_
  refine AK.quiet rfl (v_assign rfl) rfl ?_
  refine AK.done ?_
  refine EX.next ?_
  refine WC.ret ?_
  exact ret1 Tryz.results244 rfl fun w hw => ⟨o, rfl, ho, hw⟩
theorem encodedLength_any (w0 w : World) (L : Heap) (m : Nat) (a : List Nat) (hm : MpiAt L m a) (hxa : a.length ≤ 1000) (hw : HW w0 L w) :
    Calls P 245 #[.pointer (some ⟨m, 0, none⟩)] w fun e w' => e = .returned (.int .u16 ((mpiL a).length : Int)) ∧ HW w0 L w' := by
  obtain ⟨q, hmm, hq, hql⟩ := hm
  have hsl := sigL_length a
  have hqL : q.2.2.length = (sigL a).length := by rw [hq]
  have hmp : (mpiL a).length = 2 + (sigL a).length := by simp [mpiL, octL_length]
  refine enter (us := [.pointer (some ⟨m, 0, none⟩)]) Tryz.func245 rfl Tryz.ntmps245 (by simp) rfl ?_ hw
  refine WC.seq ?_
  refine WC.region ?_
  refine WL.val (v_assign rfl) rfl ?_
  refine WL.nil ?_
  refine EX.next ?_
  refine WC.seq ?_
  refine WC.region ?_
  refine WL.val (v_move rfl) rfl ?_
  refine WL.val (v_nilCheck_ptr rfl) rfl ?_
  refine WL.val (v_field Tryz.runUnderlying134 rfl Tryz.sizeOf23 (by decide) rfl) rfl ?_
  refine WL.val (v_load Tryz.isAgg23 rfl hmm rfl) rfl ?_
  refine WL.val (v_len Tryz.runUnderlying23 rfl) rfl ?_
  refine WL.val (Val.to (v' := .int .i64 ((mpiL a).length : Int)) (by rw [hmp, hqL]) (n_add (m := 2) (show _ = some (Value.int .i64 ((2 : Nat) : Int)) from rfl) rfl (by omega))) rfl ?_
  refine WL.val (u16_conv Tryz.runUnderlying3 Tryz.runUnderlying114 rfl (by omega)) rfl ?_
  refine WL.val (v_assign rfl) rfl ?_
  refine WL.nil ?_
  refine EX.next ?_
  refine WC.ret ?_
  exact ret1 Tryz.results245 rfl fun w hw => ⟨rfl, hw⟩
end Go.Proofs.YtljoodllnaekbaaGreatDoor

namespace Go.Proofs.YtljoodllnaekbaaGreatDoor
open Go

section
variable {t e : TypeId} {i : TypeInfo} {q : Option Addr} {name : String} {m : Go.Method} {f : FuncId}
theorem run_method (hi : ∀ w, (typeInfo t).run P w = .ok i w) (hu : ∀ w, (underlying t).run P w = .ok (.pointer e) w) (hm : i.methods.find? (·.name == name) = some m) (hp : m.path = #[]) (hf : m.func = some (f, true)) (w : World) :
    (method (349 + Made.depth) t (.pointer q) name).run P w = .ok (f, .pointer q) w := by
  rw [show 349 + Made.depth = (348 + Made.depth) + 1 by omega]
  simp [method, hi, hm, hp, hf, follow, receiverAt, hu, Place.get]
theorem run_ahead (hi : ∀ w, (typeInfo t).run P w = .ok i w) (hm : i.methods.find? (·.name == name) = some m) (hp : m.path = #[]) (hf : m.func = some (f, true)) (w : World) :
    (nilAhead (349 + Made.depth) t (.pointer q) name).run P w = .ok (some false) w := by
  rw [show 349 + Made.depth = (348 + Made.depth) + 1 by omega]
  simp [nilAhead, hi, hm, hp, hf, followBlind]
end
theorem eq85 (w : World) : (Op.equal 85 .nilIface .nilIface).run P w = .ok true w := by
  obtain ⟨k, hk⟩ : ∃ k, Op.maxDepth = k + 1 := ⟨Op.maxDepth - 1, by decide⟩
  show (Op.equalIn Op.maxDepth 85 .nilIface .nilIface).run P w = .ok true w
  rw [hk]
  simp [Op.equalIn, Tryz.runUnderlying85]
/-- Something that takes bytes; S: its memory after so many bytes; G: what it needs of the memory beside it. -/
structure Writer (w0 : World) (t : TypeId) (u : Value) (f : FuncId) (S : List Nat → Heap → Prop) (G : Heap → Prop) : Prop where
  gm : ∀ L L' : Heap, (∀ x ∈ L, x ∈ L') → G L → G L'
  meth : ∀ w, (method (349 + Made.depth) t u "Write").run P w = .ok (f, u) w
  call : ∀ args w, (callFunc f args).run P w = .ok (.enter f args) w
  ahead : ∀ w, (nilAhead (349 + Made.depth) t u "Write").run P w = .ok (some false) w
  write : ∀ (w : World) (H L : Heap) (bs : List Nat) (q : Sl), G L → S bs H → Lies L q → q.2.2.length ≤ 1000 → bs.length ≤ 100000 → HW w0 (H ++ L) w →
    Calls P f #[u, slV q] w fun e w' => ∃ H', e = .returned (.tuple #[.int .i64 (q.2.2.length : Int), .nilIface]) ∧ S (bs ++ q.2.2) H' ∧ HW w0 (H' ++ L) w'
theorem Writer.go {w0 : World} {t : TypeId} {u : Value} {f : FuncId} {S : List Nat → Heap → Prop} {G : Heap → Prop} (W : Writer w0 t u f S G) (w : World) {H A L : Heap} [hx : ExA H A L] (hw : HW w0 A w) (hG : G L) (bs : List Nat) (q : Sl) (hS : S bs H) (hq : Lies L q) (hl : q.2.2.length ≤ 1000) (hb : bs.length ≤ 100000) :
    Calls P f #[u, slV q] w fun e w' => ∃ H', e = .returned (.tuple #[.int .i64 (q.2.2.length : Int), .nilIface]) ∧ S (bs ++ q.2.2) H' ∧ HW w0 (H' ++ L) w' := W.write w H L bs q hG hS hq hl hb (hw.perm hx.out)
/-- The cells of a public key (a private key's begin with them). -/
abbrev pkC (ver created : Nat) (pub fp : Value) (kid : Int) (sub : Bool) (mp mq mg my : Nat) (rest : List Value) : List Value :=
  .int .i64 (ver : Int) :: .int .u64 0 :: .int .i64 ((created : Int) + 62135596800) :: .pointer none :: .int .u8 17 :: pub :: fp :: .int .u64 kid :: .bool sub :: .nilIface :: .nilIface ::
    .iface 132 (.pointer (some ⟨mp, 0, none⟩)) :: .iface 132 (.pointer (some ⟨mq, 0, none⟩)) :: .iface 132 (.pointer (some ⟨mg, 0, none⟩)) :: .iface 132 (.pointer (some ⟨my, 0, none⟩)) :: .nilIface :: .nilIface :: rest
/-- The four numbers of a public key. -/
structure Four (L : Heap) (mp mq mg my : Nat) (n : List Nat) : Prop where
  p : MpiAt L mp Pb
  q : MpiAt L mq Qb
  g : MpiAt L mg Gb
  y : MpiAt L my (pubN n)
theorem Four.mono {L L' : Heap} {mp mq mg my : Nat} {n : List Nat} (h : Four L mp mq mg my n) (hs : ∀ x ∈ L, x ∈ L') : Four L' mp mq mg my n := ⟨h.p.mono hs, h.q.mono hs, h.g.mono hs, h.y.mono hs⟩
/-- A public key in memory. -/
def PK (L : Heap) (k ver created : Nat) (sub : Bool) (n : List Nat) : Prop :=
  ∃ (ty : TypeId) (pub fp : Value) (kid : Int) (mp mq mg my : Nat) (rest : List Value), (k, blk ty (0, 0) (pkC ver created pub fp kid sub mp mq mg my rest)) ∈ L ∧ Four L mp mq mg my n
theorem PK.mono {L L' : Heap} {k ver created : Nat} {sub : Bool} {n : List Nat} (h : PK L k ver created sub n) (hs : ∀ x ∈ L, x ∈ L') : PK L' k ver created sub n := by
  obtain ⟨ty, pub, fp, kid, mp, mq, mg, my, rest, h1, h2⟩ := h
  exact ⟨ty, pub, fp, kid, mp, mq, mg, my, rest, hs _ h1, h2.mono hs⟩
/-- The numbers' bytes: how many. -/
def keyLen (n : List Nat) : Nat := (mpiL Pb).length + (mpiL Qb).length + (mpiL Gb).length + (mpiL (pubN n)).length
theorem keyLen_flat (n : List Nat) : (keyN n).flatten.length = keyLen n := by simp [keyN, keyLen]; omega
theorem keyLen_le (n : List Nat) : keyLen n ≤ 28 + 22 + 27 + 28 := by
  have h1 := mpiL_length Pb
  have h2 := mpiL_length Qb
  have h3 := mpiL_length Gb
  have h4 := mpiL_length (pubN n)
  have h5 := pubN_length n
  have e1 : Pb.length = 26 := rfl
  have e2 : Qb.length = 20 := rfl
  have e3 : Gb.length = 25 := rfl
  unfold keyLen; omega
theorem octL_four (v : Nat) : octL v 4 = [v / 2 ^ 24 % 256, v / 2 ^ 16 % 256, v / 2 ^ 8 % 256, v % 256] := by simp [octL, List.range_succ, octD]
theorem mpiL_byte {a : List Nat} (h : ∀ d ∈ a, d < 256) : ∀ d ∈ mpiL a, d < 256 := fun d hd => by
  rcases List.mem_append.1 hd with h1 | h1
  · exact octL_byte _ _ d h1
  · exact h d (sigL_mem d h1)
/-- A short row at the head of a block. -/
theorem Lies.head {L : Heap} {b : Nat} {t : TypeId} {fr : Nat × Nat} {xs : List Nat} {sp : List Value} {c : Nat} (h : (b, blk t fr (bt xs ++ sp)) ∈ L) (hc : xs.length ≤ c) : Lies L (some ⟨b, 0, none⟩, c, xs) := ⟨hc, Rd.row h⟩
/-- The bytes of a public key's body. -/
theorem body_parts (bs : List Nat) (ver created : Nat) (n : List Nat) : bs ++ bodyL ver created (keyN n) = bs ++ [ver % 256, created / 2 ^ 24 % 256, created / 2 ^ 16 % 256, created / 2 ^ 8 % 256, created % 256, 17] ++ (if ver = 6 then octL (keyLen n) 4 else []) ++ mpiL Pb ++ mpiL Qb ++ mpiL Gb ++ mpiL (pubN n) := by
  unfold bodyL
  rw [keyLen_flat, octL_four]
  simp [keyN]
theorem head_or {g : Nat} (hg : g = 6 ∨ g = 14) : orI .u8 192 (g : Int) = ((192 + g : Nat) : Int) := by rcases hg with rfl | rfl <;> decide
end Go.Proofs.YtljoodllnaekbaaGreatDoor

namespace Go.Proofs.YtljoodllnaekbaaGreatDoor
open Go

theorem byteCount_any (w0 w : World) (L : Heap) (k ver created : Nat) (sub : Bool) (n : List Nat) (hk : PK L k ver created sub n) (hv : ver = 6 ∨ ver = 4) (hc : created < 4294967296) (hw : HW w0 L w) :
    Calls P 40 #[.pointer (some ⟨k, 0, none⟩)] w fun e w' => e = .returned (.int .u32 (keyLen n : Int)) ∧ HW w0 L w' := by
  obtain ⟨ty, pub, fp, kid, mp, mq, mg, my, rest, hkm, hF⟩ := hk
  have hkl := keyLen_le n
  refine enter (us := [.pointer (some ⟨k, 0, none⟩)]) Tryz.func40 rfl Tryz.ntmps40 (by simp) rfl ?_ hw
  refine WC.seq ?_
  refine WC.region ?_
  refine WL.val (v_assign rfl) rfl ?_
  refine WL.nil ?_
  refine EX.next ?_
  refine WC.seq ?_
  refine WC.region ?_
  refine WL.val (v_assign rfl) rfl ?_
  refine WL.nil ?_
  refine EX.next ?_
  refine WC.seq ?_
  refine WC.seq ?_
  refine WC.region ?_
  refine WL.val (v_move rfl) rfl ?_
  refine WL.val (v_nilCheck_ptr rfl) rfl ?_
  refine WL.val (v_field Tryz.runUnderlying58 rfl Tryz.sizeOf54 (by decide) rfl) rfl ?_
  refine WL.val (v_load Tryz.isAgg54 rfl hkm rfl) rfl ?_
  refine WL.nil ?_
  refine EX.next ?_
  refine WC.block ?_
  refine WC.seq ?_
  refine WC.seq ?_
  refine WC.region ?_
  refine WL.val (v_eql rfl rfl) rfl ?_
  refine WL.val (v_assign rfl) rfl ?_
  refine WL.nil ?_
  refine EX.next ?_
  refine WC.cond rfl ?_ ?_
  · intro hb4
    exact absurd hb4 (by decide)
  · intro hb4
    refine WC.seq ?_
    refine WC.region ?_
    refine WL.val (v_eql rfl rfl) rfl ?_
    refine WL.val (v_assign rfl) rfl ?_
    refine WL.nil ?_
    refine EX.next ?_
    refine WC.cond rfl ?_ ?_
    · intro hb5
      exact absurd hb5 (by decide)
    · intro hb5
      refine WC.region ?_
      refine WL.val (v_eql rfl rfl) rfl ?_
      refine WL.val (v_assign rfl) rfl ?_
      refine WL.nil ?_
      refine EX.next ?_
      refine WC.cond rfl ?_ ?_
      · intro hb6
        exact absurd hb6 (by decide)
      · intro hb6
        refine WC.seq ?_
        refine WC.region ?_
        refine WL.val (v_eql rfl rfl) rfl ?_
        refine WL.val (v_assign rfl) rfl ?_
        refine WL.nil ?_
        refine EX.next ?_
        refine WC.cond rfl ?_ ?_
        · intro hb9
          refine WC.seq ?_
          refine WC.region ?_
          refine WL.val (v_move rfl) rfl ?_
          refine WL.val (v_move rfl) rfl ?_
          refine WL.val (v_nilCheck_ptr rfl) rfl ?_
          refine WL.val (v_field Tryz.runUnderlying58 rfl Tryz.sizeOf56 (by decide) rfl) rfl ?_
          refine WL.val (v_load Tryz.isAgg56 rfl hkm rfl) rfl ?_
          refine WL.act rfl (OW.invoke (xs := []) (us := []) rfl (run_method Tryz.typeInfo132 Tryz.runUnderlying132 rfl rfl rfl) Tryz.call245 rfl (fun w hw => encodedLength_any w0 w _ mp (Pb) hF.p (by decide) hw) rfl ?_)
          rintro r w' ⟨rfl, hw'⟩
          refine ⟨_, _, rfl, hw', ?_⟩
          have hlp := mpiL_length (Pb)
          refine WL.val (u32_conv Tryz.runUnderlying114 Tryz.runUnderlying22 rfl (by unfold keyLen at hkl; omega)) rfl ?_
          refine WL.val (u32_add (m := 0) rfl rfl rfl (by unfold keyLen at hkl; omega)) rfl ?_
          refine WL.val (v_assign rfl) rfl ?_
          refine WL.nil ?_
          refine EX.next ?_
          refine WC.seq ?_
          refine WC.region ?_
          refine WL.val (v_move rfl) rfl ?_
          refine WL.val (v_move rfl) rfl ?_
          refine WL.val (v_nilCheck_ptr rfl) rfl ?_
          refine WL.val (v_field Tryz.runUnderlying58 rfl Tryz.sizeOf56 (by decide) rfl) rfl ?_
          refine WL.val (v_load Tryz.isAgg56 rfl hkm rfl) rfl ?_
          refine WL.act rfl (OW.invoke (xs := []) (us := []) rfl (run_method Tryz.typeInfo132 Tryz.runUnderlying132 rfl rfl rfl) Tryz.call245 rfl (fun w hw => encodedLength_any w0 w _ mq (Qb) hF.q (by decide) hw) rfl ?_)
          rintro r w' ⟨rfl, hw'⟩
          refine ⟨_, _, rfl, hw', ?_⟩
          have hlq := mpiL_length (Qb)
          refine WL.val (u32_conv Tryz.runUnderlying114 Tryz.runUnderlying22 rfl (by unfold keyLen at hkl; omega)) rfl ?_
          refine WL.val (u32_add rfl rfl rfl (by unfold keyLen at hkl; omega)) rfl ?_
          refine WL.val (v_assign rfl) rfl ?_
          refine WL.nil ?_
          refine EX.next ?_
          refine WC.seq ?_
          refine WC.region ?_
          refine WL.val (v_move rfl) rfl ?_
          refine WL.val (v_move rfl) rfl ?_
          refine WL.val (v_nilCheck_ptr rfl) rfl ?_
          refine WL.val (v_field Tryz.runUnderlying58 rfl Tryz.sizeOf56 (by decide) rfl) rfl ?_
          refine WL.val (v_load Tryz.isAgg56 rfl hkm rfl) rfl ?_
          refine WL.act rfl (OW.invoke (xs := []) (us := []) rfl (run_method Tryz.typeInfo132 Tryz.runUnderlying132 rfl rfl rfl) Tryz.call245 rfl (fun w hw => encodedLength_any w0 w _ mg (Gb) hF.g (by decide) hw) rfl ?_)
          rintro r w' ⟨rfl, hw'⟩
          refine ⟨_, _, rfl, hw', ?_⟩
          have hlg := mpiL_length (Gb)
          refine WL.val (u32_conv Tryz.runUnderlying114 Tryz.runUnderlying22 rfl (by unfold keyLen at hkl; omega)) rfl ?_
          refine WL.val (u32_add rfl rfl rfl (by unfold keyLen at hkl; omega)) rfl ?_
          refine WL.val (v_assign rfl) rfl ?_
          refine WL.nil ?_
          refine EX.next ?_
          refine WC.region ?_
          refine WL.val (v_move rfl) rfl ?_
          refine WL.val (v_move rfl) rfl ?_
          refine WL.val (v_nilCheck_ptr rfl) rfl ?_
          refine WL.val (v_field Tryz.runUnderlying58 rfl Tryz.sizeOf56 (by decide) rfl) rfl ?_
          refine WL.val (v_load Tryz.isAgg56 rfl hkm rfl) rfl ?_
          refine WL.act rfl (OW.invoke (xs := []) (us := []) rfl (run_method Tryz.typeInfo132 Tryz.runUnderlying132 rfl rfl rfl) Tryz.call245 rfl (fun w hw => encodedLength_any w0 w _ my (pubN n) hF.y (by have := pubN_length n; omega) hw) rfl ?_)
          rintro r w' ⟨rfl, hw'⟩
          refine ⟨_, _, rfl, hw', ?_⟩
          have hly := mpiL_length (pubN n)
          refine WL.val (u32_conv Tryz.runUnderlying114 Tryz.runUnderlying22 rfl (by unfold keyLen at hkl; omega)) rfl ?_
          refine WL.val (u32_add rfl rfl rfl (by unfold keyLen at hkl; omega)) rfl ?_
          refine WL.val (v_assign rfl) rfl ?_
          refine WL.nil ?_
          refine EX.normal_block ?_
          refine EX.next ?_
          refine WC.seq ?_
          refine WC.region ?_
          refine WL.val (v_move rfl) rfl ?_
          refine WL.val (v_assign rfl) rfl ?_
          refine WL.nil ?_
          refine EX.next ?_
          refine WC.ret ?_
          refine ret1 Tryz.results40 (v := .int .u32 (keyLen n : Int)) ?_ fun w hw => ⟨rfl, hw⟩
          unfold keyLen; rw [← Nat.zero_add (mpiL Pb).length]; rfl
        · intro hb9
          exact absurd hb9 (by decide)
end Go.Proofs.YtljoodllnaekbaaGreatDoor

namespace Go.Proofs.YtljoodllnaekbaaGreatDoor
open Go

theorem build53 {a b : Int} {q : Option Addr} {kk : IntKind} (w : World) : (Instr.build 53 [(0, .int kk a), (1, .int .i64 b), (2, .pointer q)].toArray).run P w = .ok (.agg #[.int kk a, .int .i64 b, .pointer q]) w := by
  simp [Instr.build, Tryz.zeroValue53, Tryz.runUnderlying53, Tryz.sizeOf50, Tryz.sizeOf2, Tryz.sizeOf51]
  rfl
theorem timeSec_any (w0 w : World) (L : Heap) (k created : Nat) (hkm : (k, blk 53 (0, 0) [.int .u64 0, .int .i64 ((created : Int) + 62135596800), .pointer none]) ∈ L) (hw : HW w0 L w) :
    Calls P 70 #[.pointer (some ⟨k, 0, none⟩)] w fun e w' => e = .returned (.int .i64 ((created : Int) + 62135596800)) ∧ HW w0 L w' := by
  refine enter (us := [.pointer (some ⟨k, 0, none⟩)]) Tryz.func70 rfl Tryz.ntmps70 (by simp) rfl ?_ hw
  refine WC.seq ?_
  refine WC.region ?_
  refine WL.val (v_assign rfl) rfl ?_
  refine WL.nil ?_
  refine EX.next ?_
  refine WC.seq ?_
  refine WC.seq ?_
  refine WC.region ?_
  refine WL.val (v_move rfl) rfl ?_
  refine WL.val (v_nilCheck_ptr rfl) rfl ?_
  refine WL.val (v_field Tryz.runUnderlying53 rfl Tryz.sizeOf50 (by decide) rfl) rfl ?_
  refine WL.val (v_load Tryz.isAgg50 rfl hkm rfl) rfl ?_
  refine WL.val (v_and rfl rfl) rfl ?_
  refine WL.val (v_neq rfl rfl) rfl ?_
  refine WL.nil ?_
  refine EX.next ?_
  refine WC.cond rfl ?_ ?_
  · intro hb1
    exact absurd hb1 (by decide)
  · intro hb1
    refine WC.skip ?_
    refine EX.next ?_
    refine WC.seq ?_
    refine WC.region ?_
    refine WL.val (v_move rfl) rfl ?_
    refine WL.val (v_nilCheck_ptr rfl) rfl ?_
    refine WL.val (v_field Tryz.runUnderlying53 rfl Tryz.sizeOf2 (by decide) rfl) rfl ?_
    refine WL.val (v_load Tryz.isAgg2 rfl hkm rfl) rfl ?_
    refine WL.val (v_assign rfl) rfl ?_
    refine WL.nil ?_
    refine EX.next ?_
    refine WC.ret ?_
    exact ret1 Tryz.results70 rfl fun w hw => ⟨rfl, hw⟩
theorem timeUnixSec_any (w0 w : World) (L : Heap) (k created : Nat) (hc : created < 4294967296) (hkm : (k, blk 53 (0, 0) [.int .u64 0, .int .i64 ((created : Int) + 62135596800), .pointer none]) ∈ L) (hw : HW w0 L w) :
    Calls P 59 #[.pointer (some ⟨k, 0, none⟩)] w fun e w' => e = .returned (.int .i64 (created : Int)) ∧ HW w0 L w' := by
  refine enter (us := [.pointer (some ⟨k, 0, none⟩)]) Tryz.func59 rfl Tryz.ntmps59 (by simp) rfl ?_ hw
  refine WC.seq ?_
  refine WC.region ?_
  refine WL.val (v_assign rfl) rfl ?_
  refine WL.nil ?_
  refine EX.next ?_
  refine WC.seq ?_
  refine WC.region ?_
  refine WL.val (v_move rfl) rfl ?_
  refine WL.act rfl (OW.call (xs := [.tmp 3]) Tryz.call70 rfl (fun w hw => timeSec_any w0 w _ k created hkm hw) rfl ?_)
  rintro r w' ⟨rfl, hw'⟩
  refine ⟨_, _, rfl, hw', ?_⟩
  refine WL.val (Val.to (v' := .int .i64 (created : Int)) (by rw [show (created : Int) + 62135596800 + -62135596800 = created by omega]) (v_add_i (n := -62135596800) rfl rfl (by omega))) rfl ?_
  refine WL.val (v_assign rfl) rfl ?_
  refine WL.nil ?_
  refine EX.next ?_
  refine WC.ret ?_
  exact ret1 Tryz.results59 rfl fun w hw => ⟨rfl, hw⟩
theorem timeUnix_any (w0 w : World) (L : Heap) (created : Nat) (hc : created < 4294967296) (hw : HW w0 L w) :
    Calls P 50 #[.agg ([.int .u64 0, .int .i64 ((created : Int) + 62135596800), .pointer none] : List Value).toArray] w fun e w' => e = .returned (.int .i64 (created : Int)) ∧ HW w0 L w' := by
  refine enter (us := [.agg ([.int .u64 0, .int .i64 ((created : Int) + 62135596800), .pointer none] : List Value).toArray]) Tryz.func50 rfl Tryz.ntmps50 (by simp) rfl ?_ hw
  refine WC.seq ?_
  refine WC.region ?_
  refine WL.act rfl (OW.box (us := [.int .u64 0, .int .i64 ((created : Int) + 62135596800), .pointer none]) rfl rfl rfl (fun k => ?_))
  refine WL.val (v_assign rfl) rfl ?_
  refine WL.nil ?_
  refine EX.next ?_
  refine WC.seq ?_
  refine WC.region ?_
  refine WL.act rfl (OW.call (xs := [.tmp 1]) Tryz.call59 rfl (fun w hw => timeUnixSec_any w0 w _ k created hc m0 hw) rfl ?_)
  rintro r w' ⟨rfl, hw'⟩
  refine ⟨_, _, rfl, hw', ?_⟩
  refine WL.val (v_assign rfl) rfl ?_
  refine WL.nil ?_
  refine EX.next ?_
  refine WC.ret ?_
  exact ret1 Tryz.results50 rfl fun w hw => ⟨rfl, hw.tail⟩
theorem unixTime_any (w0 w : World) (L : Heap) (created : Nat) (hc : created < 4294967296) (hw : HW w0 L w) :
    Calls P 44 #[.int .i64 (created : Int), .int .i32 0] w fun e w' => e = .returned (.agg ([.int .u64 0, .int .i64 ((created : Int) + 62135596800), .pointer none] : List Value).toArray) ∧ HW w0 L w' := by
  refine enter (us := [.int .i64 (created : Int), .int .i32 0]) Tryz.func44 rfl Tryz.ntmps44 (by simp) rfl ?_ hw
  refine WC.seq ?_
  refine WC.region ?_
  refine WL.act rfl (OW.allocC (vs := [.int .u64 0, .int .i64 0, .pointer none]) Tryz.zeroValue53 rfl rfl (fun k4 => ?_))
  refine WL.nil ?_
  refine EX.next ?_
  refine WC.seq ?_
  refine WC.region ?_
  refine WL.val (v_move rfl) rfl ?_
  refine WL.val (v_conv Tryz.runUnderlying21 Tryz.runUnderlying50 rfl) rfl ?_
  refine WL.val (v_move rfl) rfl ?_
  refine WL.val (v_add_i (n := 62135596800) rfl rfl (by omega)) rfl ?_
  refine WL.val (v_build (is := [0, 1, 2]) (xs := [.tmp 6, .tmp 8, .const (.pointer none)]) rfl rfl rfl build53) rfl ?_
  refine WL.act rfl (OW.storeAgg (us := [.int .u64 0, .int .i64 ((created : Int) + 62135596800), .pointer none]) Tryz.sizeOf53 rfl rfl rfl rfl (overlay_all _ _ (by rfl)) .here (Nat.le_refl _) ?_)
  refine WL.nil ?_
  refine EX.next ?_
  refine WC.ret ?_
  exact retC Tryz.results44 Tryz.isAgg53 Tryz.sizeOf53 rfl m0 rfl fun w hw => ⟨rfl, hw.tail⟩
theorem gotimeUnix_any (w0 w : World) (L : Heap) (created : Nat) (hc : created < 4294967296) (hw : HW w0 L w) :
    Calls P 29 #[.int .i64 (created : Int), .int .i64 0] w fun e w' => e = .returned (.agg ([.int .u64 0, .int .i64 ((created : Int) + 62135596800), .pointer none] : List Value).toArray) ∧ HW w0 L w' := by
  refine enter (us := [.int .i64 (created : Int), .int .i64 0]) Tryz.func29 rfl Tryz.ntmps29 (by simp) rfl ?_ hw
  refine WC.seq ?_
  refine WC.region ?_
  refine WL.act rfl (OW.allocC (vs := [.int .u64 0, .int .i64 0, .pointer none]) Tryz.zeroValue53 rfl rfl (fun k4 => ?_))
  refine WL.nil ?_
  refine EX.next ?_
  refine WC.seq ?_
  refine WC.seq ?_
  refine WC.region ?_
  refine WL.val (v_move rfl) rfl ?_
  refine WL.val (v_lss rfl rfl) rfl ?_
  refine WL.val (v_move rfl) rfl ?_
  have hg1_2 : false = false := rfl
  refine WL.yes rfl rfl rfl hg1_2 (v_move rfl) rfl ?_
  refine WL.yes rfl rfl rfl hg1_2 (v_geq rfl rfl) rfl ?_
  refine WL.val (v_pick_f rfl hg1_2 rfl) rfl ?_
  refine WL.nil ?_
  refine EX.next ?_
  refine WC.cond rfl ?_ ?_
  · intro hb1
    exact absurd hb1 (by decide)
  · intro hb1
    refine WC.skip ?_
    refine EX.next ?_
    refine WC.seq ?_
    refine WC.region ?_
    refine WL.val (v_move rfl) rfl ?_
    refine WL.val (v_move rfl) rfl ?_
    refine WL.val (Val.to (v' := .int .i32 0) (by simp [IntKind.wrap, IntKind.bits, IntKind.signed]) (v_conv (m := 0) Tryz.runUnderlying2 Tryz.runUnderlying21 rfl)) rfl ?_
    refine WL.act rfl (OW.call (xs := [.tmp 27, .tmp 29]) Tryz.call44 rfl (fun w hw => unixTime_any w0 w _ created hc hw) rfl ?_)
    rintro r w' ⟨rfl, hw'⟩
    refine ⟨_, _, rfl, hw', ?_⟩
    refine WL.act rfl (OW.storeAgg (us := [.int .u64 0, .int .i64 ((created : Int) + 62135596800), .pointer none]) Tryz.sizeOf53 rfl rfl rfl rfl (overlay_all _ _ (by rfl)) .here (Nat.le_refl _) ?_)
    refine WL.nil ?_
    refine EX.next ?_
    refine WC.ret ?_
    exact retC Tryz.results29 Tryz.isAgg53 Tryz.sizeOf53 rfl m0 rfl fun w hw => ⟨rfl, hw.tail⟩
end Go.Proofs.YtljoodllnaekbaaGreatDoor

namespace Go.Proofs.YtljoodllnaekbaaGreatDoor
open Go

theorem body_any (w0 w : World) (L H : Heap) {t : TypeId} {u : Value} {f : FuncId} {S : List Nat → Heap → Prop} {G : Heap → Prop} (W : Writer w0 t u f S G) (hG : G L) (bs : List Nat) (hS0 : S bs H) (hbs : bs.length ≤ 1000) (k ver created : Nat) (sub : Bool) (n : List Nat) (hk : PK L k ver created sub n) (hv : ver = 6 ∨ ver = 4) (hc : created < 4294967296) (hw : HW w0 (H ++ L) w) :
    Calls P 42 #[.pointer (some ⟨k, 0, none⟩), .iface t u] w fun e w' => ∃ H', e = .returned .nilIface ∧ S (bs ++ bodyL ver created (keyN n)) H' ∧ HW w0 (H' ++ L) w' := by
  obtain ⟨ty, pub, fp, kid, mp, mq, mg, my, rest, hkm, hF⟩ := hk
  have hkl := keyLen_le n
  rw [body_parts]
  have hl8 := mpiL_length Pb
  have hl9 := mpiL_length Qb
  have hl10 := mpiL_length Gb
  have hl11 := mpiL_length (pubN n)
  have hl12 := pubN_length n
  rw [show Pb.length = 26 from rfl] at hl8
  rw [show Qb.length = 20 from rfl] at hl9
  rw [show Gb.length = 25 from rfl] at hl10
  refine enter (us := [.pointer (some ⟨k, 0, none⟩), .iface t u]) Tryz.func42 rfl Tryz.ntmps42 (by simp) rfl ?_ hw
  refine WC.seq ?_
  refine WC.region ?_
  refine WL.val (v_assign rfl) rfl ?_
  refine WL.nil ?_
  refine EX.next ?_
  refine WC.seq ?_
  refine WC.region ?_
  refine WL.val (v_move rfl) rfl ?_
  refine WL.val (v_nilCheck_ptr rfl) rfl ?_
  refine WL.val (v_field Tryz.runUnderlying58 rfl Tryz.sizeOf53 (by decide) rfl) rfl ?_
  refine WL.val (v_load_agg (us := [.int .u64 0, .int .i64 ((created : Int) + 62135596800), .pointer none]) Tryz.isAgg53 Tryz.sizeOf53 rfl ((fun _ h => (List.mem_append_right _ h)) _ hkm) rfl (fun j v h => by rcases j with _ | _ | _ | j <;> first | exact h | simp at h)) rfl ?_
  refine WL.act rfl (OW.call (xs := [.tmp 14]) Tryz.call50 rfl (fun w hw => timeUnix_any w0 w _ created hc hw) rfl ?_)
  rintro r w' ⟨rfl, hw'⟩
  refine ⟨_, _, rfl, hw', ?_⟩
  refine WL.val (u32_conv Tryz.runUnderlying2 Tryz.runUnderlying22 rfl (by omega)) rfl ?_
  refine WL.val (v_assign rfl) rfl ?_
  refine WL.nil ?_
  refine EX.next ?_
  refine WC.seq ?_
  refine WC.seq ?_
  refine WC.draw (L) (.quiet 0 (.quiet 1 (.quiet 2 (.quiet 3 (.quiet 4 (.quiet 5 (.quiet 6 (.quiet 7 (.quiet 8 (.quiet 9 (.quiet 10 (.quiet 11 (.quiet 12 (.quiet 13 (.quiet 14 (.quiet 15 (.quiet 16 (.quiet 17 (.quiet 18 (.quiet 19 (.quiet 20 (.quiet 22 (.quiet 23 (.quiet 24 (.one 21 (.one 25 (.quiet 26 (.quiet 27 (.quiet 28 (.quiet 29 .done)))))))))))))))))))))))))))))) (by kernel_rfl) (fun _ => Sb.hw) ?_
  refine AK.quiet rfl (v_move rfl) rfl ?_
  refine AK.quiet rfl (v_move rfl) rfl ?_
  refine AK.quiet rfl (v_nilCheck_ptr rfl) rfl ?_
  refine AK.quiet rfl (v_field Tryz.runUnderlying58 rfl Tryz.sizeOf3 (by decide) rfl) rfl ?_
  refine AK.quiet rfl (v_load Tryz.isAgg3 rfl hkm rfl) rfl ?_
  refine AK.quiet rfl (n_byte Tryz.runUnderlying3 Tryz.runUnderlying5 rfl) rfl ?_
  refine AK.quiet rfl (v_move rfl) rfl ?_
  refine AK.quiet rfl (u32_shr rfl rfl (show (24 : Int) = ((24 : Nat) : Int) from rfl) (by omega)) rfl ?_
  refine AK.quiet rfl (n_byte Tryz.runUnderlying22 Tryz.runUnderlying5 rfl) rfl ?_
  refine AK.quiet rfl (v_move rfl) rfl ?_
  refine AK.quiet rfl (u32_shr rfl rfl (show (16 : Int) = ((16 : Nat) : Int) from rfl) (by omega)) rfl ?_
  refine AK.quiet rfl (n_byte Tryz.runUnderlying22 Tryz.runUnderlying5 rfl) rfl ?_
  refine AK.quiet rfl (v_move rfl) rfl ?_
  refine AK.quiet rfl (u32_shr rfl rfl (show (8 : Int) = ((8 : Nat) : Int) from rfl) (by omega)) rfl ?_
  refine AK.quiet rfl (n_byte Tryz.runUnderlying22 Tryz.runUnderlying5 rfl) rfl ?_
  refine AK.quiet rfl (v_move rfl) rfl ?_
  refine AK.quiet rfl (n_byte Tryz.runUnderlying22 Tryz.runUnderlying5 rfl) rfl ?_
  refine AK.quiet rfl (v_move rfl) rfl ?_
  refine AK.quiet rfl (v_nilCheck_ptr rfl) rfl ?_
  refine AK.quiet rfl (v_field Tryz.runUnderlying58 rfl Tryz.sizeOf54 (by decide) rfl) rfl ?_
  refine AK.quiet rfl (v_load Tryz.isAgg54 rfl hkm rfl) rfl ?_
  refine AK.quiet rfl (v_makeFunc rfl) rfl ?_
  refine AK.quiet rfl (v_nilCheck_method rfl W.ahead) rfl ?_
  refine AK.quiet rfl (v_move rfl) rfl ?_
  refine AK.one rfl rfl (OW.buildSlice (us := bt [ver % 256, created / 2 ^ 24 % 256, created / 2 ^ 16 % 256, created / 2 ^ 8 % 256, created % 256, 17]) (xs := [.tmp 23, .tmp 26, .tmp 29, .tmp 32, .tmp 34, .tmp 38]) Tryz.runUnderlying23 Tryz.sizeOf5 Tryz.zeroValue5 rfl rfl rfl (by simp [bt]) rfl (fun b1 => ?_) rfl rfl)
  refine AK.on (fun _ => Sb.hw) ?_
  refine AK.one rfl rfl (OW.invoke (xs := [.tmp 39]) (us := [slV (some ⟨b1, 0, none⟩, 6, [ver % 256, created / 2 ^ 24 % 256, created / 2 ^ 16 % 256, created / 2 ^ 8 % 256, created % 256, 17])]) rfl W.meth W.call rfl (fun w hw => W.go w (H := H) hw (by exact W.gm _ _ (fun _ h => (mS h)) hG) (bs) (some ⟨b1, 0, none⟩, 6, [ver % 256, created / 2 ^ 24 % 256, created / 2 ^ 16 % 256, created / 2 ^ 8 % 256, created % 256, 17]) hS0 (by exact ⟨Nat.le_refl _, Rd.whole m0⟩) (by simp) (by omega)) rfl ?_)
  rintro r w' ⟨H1, rfl, hH1, hw'⟩
  refine ⟨_, _, rfl, hw', ?_⟩
  refine AK.on (fun _ => Sb.hw) ?_
  refine AK.quiet rfl (v_move rfl) rfl ?_
  refine AK.quiet rfl (v_extract rfl rfl) rfl ?_
  refine AK.quiet rfl (v_extract rfl rfl) rfl ?_
  refine AK.quiet rfl (v_assign rfl) rfl ?_
  refine AK.done ?_
  refine EX.next ?_
  refine WC.seq ?_
  refine WC.region ?_
  refine WL.val (v_move rfl) rfl ?_
  refine WL.val (v_nil_neq rfl eq85) rfl ?_
  refine WL.nil ?_
  refine EX.next ?_
  refine WC.cond rfl ?_ ?_
  · intro hb3
    exact absurd hb3 (by decide)
  · intro hb3
    refine WC.skip ?_
    refine EX.next ?_
    refine WC.cut (fun ac wl => ∃ H8 : Heap, (S (bs ++ [ver % 256, created / 2 ^ 24 % 256, created / 2 ^ 16 % 256, created / 2 ^ 8 % 256, created % 256, 17] ++ (if ver = 6 then octL (keyLen n) 4 else [])) H8) ∧ ((bs ++ [ver % 256, created / 2 ^ 24 % 256, created / 2 ^ 16 % 256, created / 2 ^ 8 % 256, created % 256, 17] ++ (if ver = 6 then octL (keyLen n) 4 else [])).length ≤ 1100) ∧ St w0 367 [(0, .pointer (some ⟨k, 0, none⟩)), (1, .iface t u)] (H8 ++ L) ac wl) ?_ ?_
    · skip
      refine WC.seq ?_
      refine WC.region ?_
      refine WL.val (v_move rfl) rfl ?_
      refine WL.val (v_nilCheck_ptr rfl) rfl ?_
      refine WL.val (v_field Tryz.runUnderlying58 rfl Tryz.sizeOf3 (by decide) rfl) rfl ?_
      refine WL.val (v_load Tryz.isAgg3 rfl ((fun _ h => (List.mem_append_right _ (mS h))) _ hkm) rfl) rfl ?_
      refine WL.val (v_geq rfl rfl) rfl ?_
      refine WL.nil ?_
      refine EX.next ?_
      refine WC.cond rfl ?_ ?_
      · intro hb4
        have hv6 : ver = 6 := by have := of_decide_eq_true hb4; omega
        refine WC.seq ?_
        refine WC.region ?_
        refine WL.val (v_move rfl) rfl ?_
        refine WL.act rfl (OW.call (xs := [.tmp 53]) Tryz.call40 rfl (fun w hw => byteCount_any w0 w _ k ver created sub n ⟨ty, pub, fp, kid, mp, mq, mg, my, rest, ((fun _ h => (List.mem_append_right _ (mS h))) _ hkm), hF.mono (fun _ h => (List.mem_append_right _ (mS h)))⟩ hv hc hw) rfl ?_)
        rintro r w' ⟨rfl, hw'⟩
        refine ⟨_, _, rfl, hw', ?_⟩
        refine WL.val (v_assign rfl) rfl ?_
        refine WL.nil ?_
        refine EX.next ?_
        refine WC.seq ?_
        refine WC.region ?_
        refine WL.val (v_move rfl) rfl ?_
        refine WL.val (v_move rfl) rfl ?_
        refine WL.val (u32_shr rfl rfl (show (24 : Int) = ((24 : Nat) : Int) from rfl) (by omega)) rfl ?_
        refine WL.val (n_byte Tryz.runUnderlying22 Tryz.runUnderlying5 rfl) rfl ?_
        refine WL.val (v_move rfl) rfl ?_
        refine WL.val (u32_shr rfl rfl (show (16 : Int) = ((16 : Nat) : Int) from rfl) (by omega)) rfl ?_
        refine WL.val (n_byte Tryz.runUnderlying22 Tryz.runUnderlying5 rfl) rfl ?_
        refine WL.val (v_move rfl) rfl ?_
        refine WL.val (u32_shr rfl rfl (show (8 : Int) = ((8 : Nat) : Int) from rfl) (by omega)) rfl ?_
        refine WL.val (n_byte Tryz.runUnderlying22 Tryz.runUnderlying5 rfl) rfl ?_
        refine WL.val (v_move rfl) rfl ?_
        refine WL.val (n_byte Tryz.runUnderlying22 Tryz.runUnderlying5 rfl) rfl ?_
        refine WL.act rfl (OW.buildSlice (us := bt [keyLen n / 2 ^ 24 % 256, keyLen n / 2 ^ 16 % 256, keyLen n / 2 ^ 8 % 256, keyLen n % 256]) (xs := [.tmp 59, .tmp 62, .tmp 65, .tmp 67]) Tryz.runUnderlying23 Tryz.sizeOf5 Tryz.zeroValue5 rfl rfl rfl (by simp [bt]) rfl (fun b2 => ?_) rfl rfl)
        refine WL.act rfl (OW.invoke (xs := [.tmp 68]) (us := [slV (some ⟨b2, 0, none⟩, 4, [keyLen n / 2 ^ 24 % 256, keyLen n / 2 ^ 16 % 256, keyLen n / 2 ^ 8 % 256, keyLen n % 256])]) rfl W.meth W.call rfl (fun w hw => W.go w (H := H1) hw (by exact W.gm _ _ (fun _ h => (mS (mS h))) hG) (bs ++ [ver % 256, created / 2 ^ 24 % 256, created / 2 ^ 16 % 256, created / 2 ^ 8 % 256, created % 256, 17]) (some ⟨b2, 0, none⟩, 4, [keyLen n / 2 ^ 24 % 256, keyLen n / 2 ^ 16 % 256, keyLen n / 2 ^ 8 % 256, keyLen n % 256]) hH1 (by exact ⟨Nat.le_refl _, Rd.whole m0⟩) (by simp) (by simp; omega)) rfl ?_)
        rintro r w' ⟨H2, rfl, hH2, hw'⟩
        refine ⟨_, _, rfl, hw', ?_⟩
        refine WL.val (v_move rfl) rfl ?_
        refine WL.val (v_extract rfl rfl) rfl ?_
        refine WL.val (v_extract rfl rfl) rfl ?_
        refine WL.val (v_assign rfl) rfl ?_
        refine WL.nil ?_
        refine EX.next ?_
        refine WC.seq ?_
        refine WC.region ?_
        refine WL.val (v_move rfl) rfl ?_
        refine WL.val (v_nil_neq rfl eq85) rfl ?_
        refine WL.nil ?_
        refine EX.next ?_
        refine WC.cond rfl ?_ ?_
        · intro hb7
          exact absurd hb7 (by decide)
        · intro hb7
          refine WC.skip ?_
          refine EX.to ?_
          rw [if_pos hv6, octL_four]
          exact KS.mk fun b w hS => ⟨H2, hH2, by simp; omega, (hS.heap' (Sb.hw hS.mem)).keep ⟨rfl, rfl, trivial⟩⟩
      · intro hb4
        have hv6 : ver ≠ 6 := by have := of_decide_eq_false hb4; omega
        refine WC.skip ?_
        refine EX.to ?_
        rw [if_neg hv6, List.append_nil]
        exact KS.mk fun b w hS => ⟨H1, hH1, by simp; omega, (hS.heap' (Sb.hw hS.mem)).keep ⟨rfl, rfl, trivial⟩⟩
    · rintro ac wl ⟨H8, hH8, hb8, hS⟩
      revert ac wl
      refine KS.out ?_
      refine WC.seq ?_
      refine WC.seq ?_
      refine WC.region ?_
      refine WL.val (v_move rfl) rfl ?_
      refine WL.val (v_nilCheck_ptr rfl) rfl ?_
      refine WL.val (v_field Tryz.runUnderlying58 rfl Tryz.sizeOf54 (by decide) rfl) rfl ?_
      refine WL.val (v_load Tryz.isAgg54 rfl ((fun _ h => (List.mem_append_right _ h)) _ hkm) rfl) rfl ?_
      refine WL.nil ?_
      refine EX.next ?_
      refine WC.block ?_
      refine WC.seq ?_
      refine WC.seq ?_
      refine WC.region ?_
      refine WL.val (v_eql rfl rfl) rfl ?_
      refine WL.val (v_assign rfl) rfl ?_
      refine WL.nil ?_
      refine EX.next ?_
      refine WC.cond rfl ?_ ?_
      · intro hb9
        exact absurd hb9 (by decide)
      · intro hb9
        refine WC.seq ?_
        refine WC.region ?_
        refine WL.val (v_eql rfl rfl) rfl ?_
        refine WL.val (v_assign rfl) rfl ?_
        refine WL.nil ?_
        refine EX.next ?_
        refine WC.cond rfl ?_ ?_
        · intro hb10
          exact absurd hb10 (by decide)
        · intro hb10
          refine WC.region ?_
          refine WL.val (v_eql rfl rfl) rfl ?_
          refine WL.val (v_assign rfl) rfl ?_
          refine WL.nil ?_
          refine EX.next ?_
          refine WC.cond rfl ?_ ?_
          · intro hb11
            exact absurd hb11 (by decide)
          · intro hb11
            refine WC.seq ?_
            refine WC.region ?_
            refine WL.val (v_eql rfl rfl) rfl ?_
            refine WL.val (v_assign rfl) rfl ?_
            refine WL.nil ?_
            refine EX.next ?_
            refine WC.cond rfl ?_ ?_
            · intro hb15
              refine WC.seq ?_
              refine WC.seq ?_
              refine WC.draw (L) (.quiet 0 (.quiet 1 (.quiet 2 (.quiet 3 (.quiet 4 (.quiet 6 (.quiet 7 (.quiet 8 (.one 5 (.one 9 (.quiet 10 (.quiet 11 (.quiet 12 (.quiet 13 .done)))))))))))))) (by kernel_rfl) (fun _ => Sb.hw) ?_
              refine AK.quiet rfl (v_move rfl) rfl ?_
              refine AK.quiet rfl (v_move rfl) rfl ?_
              refine AK.quiet rfl (v_nilCheck_ptr rfl) rfl ?_
              refine AK.quiet rfl (v_field Tryz.runUnderlying58 rfl Tryz.sizeOf56 (by decide) rfl) rfl ?_
              refine AK.quiet rfl (v_load Tryz.isAgg56 rfl hkm rfl) rfl ?_
              refine AK.quiet rfl (v_makeFunc rfl) rfl ?_
              refine AK.quiet rfl (v_nilCheck_method rfl W.ahead) rfl ?_
              refine AK.quiet rfl (v_move rfl) rfl ?_
              refine AK.one rfl rfl (OW.invoke (xs := []) (us := []) rfl (run_method Tryz.typeInfo132 Tryz.runUnderlying132 rfl rfl rfl) Tryz.call244 rfl (fun w hw => encodedBytes_any w0 w _ mp (Pb) (hF.p.mono (fun _ h => (List.mem_append_right _ h))) (by decide) hw) rfl ?_)
              rintro r w' ⟨o_p, rfl, ho_p, hw'⟩
              refine ⟨_, _, rfl, hw', ?_⟩
              rw [slV_own o_p (mpiL (Pb))]
              refine AK.on (fun _ => Sb.hw) ?_
              refine AK.one rfl rfl (OW.invoke (xs := [.tmp 118]) (us := [slV (ownA o_p, ownC o_p (bt (mpiL (Pb))), mpiL (Pb))]) rfl W.meth W.call rfl (fun w hw => W.go w (H := H8) hw (by exact W.gm _ _ (fun _ h => (List.mem_append_right _ h)) hG) (bs ++ [ver % 256, created / 2 ^ 24 % 256, created / 2 ^ 16 % 256, created / 2 ^ 8 % 256, created % 256, 17] ++ (if ver = 6 then octL (keyLen n) 4 else [])) (ownA o_p, ownC o_p (bt (mpiL (Pb))), mpiL (Pb)) hH8 (by exact ((Lies.own (L := []) ho_p).mono (fun x hx => by simp only [List.append_nil] at hx; simp [hx]))) (by show (mpiL (Pb)).length ≤ 1000; omega) (by simp only [List.length_append] at hb8 ⊢; omega)) rfl ?_)
              rintro r w' ⟨H9, rfl, hH9, hw'⟩
              refine ⟨_, _, rfl, hw', ?_⟩
              refine AK.on (fun _ => Sb.hw) ?_
              refine AK.quiet rfl (v_move rfl) rfl ?_
              refine AK.quiet rfl (v_extract rfl rfl) rfl ?_
              refine AK.quiet rfl (v_extract rfl rfl) rfl ?_
              refine AK.quiet rfl (v_assign rfl) rfl ?_
              refine AK.done ?_
              refine EX.next ?_
              refine WC.seq ?_
              refine WC.region ?_
              refine WL.val (v_move rfl) rfl ?_
              refine WL.val (v_nil_neq rfl eq85) rfl ?_
              refine WL.nil ?_
              refine EX.next ?_
              refine WC.cond rfl ?_ ?_
              · intro hb17
                exact absurd hb17 (by decide)
              · intro hb17
                refine WC.skip ?_
                refine EX.next ?_
                refine WC.seq ?_
                refine WC.seq ?_
                refine WC.draw (L) (.quiet 0 (.quiet 1 (.quiet 2 (.quiet 3 (.quiet 4 (.quiet 6 (.quiet 7 (.quiet 8 (.one 5 (.one 9 (.quiet 10 (.quiet 11 (.quiet 12 (.quiet 13 .done)))))))))))))) (by kernel_rfl) (fun _ => Sb.hw) ?_
                refine AK.quiet rfl (v_move rfl) rfl ?_
                refine AK.quiet rfl (v_move rfl) rfl ?_
                refine AK.quiet rfl (v_nilCheck_ptr rfl) rfl ?_
                refine AK.quiet rfl (v_field Tryz.runUnderlying58 rfl Tryz.sizeOf56 (by decide) rfl) rfl ?_
                refine AK.quiet rfl (v_load Tryz.isAgg56 rfl hkm rfl) rfl ?_
                refine AK.quiet rfl (v_makeFunc rfl) rfl ?_
                refine AK.quiet rfl (v_nilCheck_method rfl W.ahead) rfl ?_
                refine AK.quiet rfl (v_move rfl) rfl ?_
                refine AK.one rfl rfl (OW.invoke (xs := []) (us := []) rfl (run_method Tryz.typeInfo132 Tryz.runUnderlying132 rfl rfl rfl) Tryz.call244 rfl (fun w hw => encodedBytes_any w0 w _ mq (Qb) (hF.q.mono (fun _ h => (List.mem_append_right _ (List.mem_append_right _ h)))) (by decide) hw) rfl ?_)
                rintro r w' ⟨o_q, rfl, ho_q, hw'⟩
                refine ⟨_, _, rfl, hw', ?_⟩
                rw [slV_own o_q (mpiL (Qb))]
                refine AK.on (fun _ => Sb.hw) ?_
                refine AK.one rfl rfl (OW.invoke (xs := [.tmp 133]) (us := [slV (ownA o_q, ownC o_q (bt (mpiL (Qb))), mpiL (Qb))]) rfl W.meth W.call rfl (fun w hw => W.go w (H := H9) hw (by exact W.gm _ _ (fun _ h => (List.mem_append_right _ (List.mem_append_right _ h))) hG) (bs ++ [ver % 256, created / 2 ^ 24 % 256, created / 2 ^ 16 % 256, created / 2 ^ 8 % 256, created % 256, 17] ++ (if ver = 6 then octL (keyLen n) 4 else []) ++ mpiL (Pb)) (ownA o_q, ownC o_q (bt (mpiL (Qb))), mpiL (Qb)) hH9 (by exact ((Lies.own (L := []) ho_q).mono (fun x hx => by simp only [List.append_nil] at hx; simp [hx]))) (by show (mpiL (Qb)).length ≤ 1000; omega) (by simp only [List.length_append] at hb8 ⊢; omega)) rfl ?_)
                rintro r w' ⟨H10, rfl, hH10, hw'⟩
                refine ⟨_, _, rfl, hw', ?_⟩
                refine AK.on (fun _ => Sb.hw) ?_
                refine AK.quiet rfl (v_move rfl) rfl ?_
                refine AK.quiet rfl (v_extract rfl rfl) rfl ?_
                refine AK.quiet rfl (v_extract rfl rfl) rfl ?_
                refine AK.quiet rfl (v_assign rfl) rfl ?_
                refine AK.done ?_
                refine EX.next ?_
                refine WC.seq ?_
                refine WC.region ?_
                refine WL.val (v_move rfl) rfl ?_
                refine WL.val (v_nil_neq rfl eq85) rfl ?_
                refine WL.nil ?_
                refine EX.next ?_
                refine WC.cond rfl ?_ ?_
                · intro hb19
                  exact absurd hb19 (by decide)
                · intro hb19
                  refine WC.skip ?_
                  refine EX.next ?_
                  refine WC.seq ?_
                  refine WC.seq ?_
                  refine WC.draw (L) (.quiet 0 (.quiet 1 (.quiet 2 (.quiet 3 (.quiet 4 (.quiet 6 (.quiet 7 (.quiet 8 (.one 5 (.one 9 (.quiet 10 (.quiet 11 (.quiet 12 (.quiet 13 .done)))))))))))))) (by kernel_rfl) (fun _ => Sb.hw) ?_
                  refine AK.quiet rfl (v_move rfl) rfl ?_
                  refine AK.quiet rfl (v_move rfl) rfl ?_
                  refine AK.quiet rfl (v_nilCheck_ptr rfl) rfl ?_
                  refine AK.quiet rfl (v_field Tryz.runUnderlying58 rfl Tryz.sizeOf56 (by decide) rfl) rfl ?_
                  refine AK.quiet rfl (v_load Tryz.isAgg56 rfl hkm rfl) rfl ?_
                  refine AK.quiet rfl (v_makeFunc rfl) rfl ?_
                  refine AK.quiet rfl (v_nilCheck_method rfl W.ahead) rfl ?_
                  refine AK.quiet rfl (v_move rfl) rfl ?_
                  refine AK.one rfl rfl (OW.invoke (xs := []) (us := []) rfl (run_method Tryz.typeInfo132 Tryz.runUnderlying132 rfl rfl rfl) Tryz.call244 rfl (fun w hw => encodedBytes_any w0 w _ mg (Gb) (hF.g.mono (fun _ h => (List.mem_append_right _ (List.mem_append_right _ (List.mem_append_right _ h))))) (by decide) hw) rfl ?_)
                  rintro r w' ⟨o_g, rfl, ho_g, hw'⟩
                  refine ⟨_, _, rfl, hw', ?_⟩
                  rw [slV_own o_g (mpiL (Gb))]
                  refine AK.on (fun _ => Sb.hw) ?_
                  refine AK.one rfl rfl (OW.invoke (xs := [.tmp 148]) (us := [slV (ownA o_g, ownC o_g (bt (mpiL (Gb))), mpiL (Gb))]) rfl W.meth W.call rfl (fun w hw => W.go w (H := H10) hw (by exact W.gm _ _ (fun _ h => (List.mem_append_right _ (List.mem_append_right _ (List.mem_append_right _ h)))) hG) (bs ++ [ver % 256, created / 2 ^ 24 % 256, created / 2 ^ 16 % 256, created / 2 ^ 8 % 256, created % 256, 17] ++ (if ver = 6 then octL (keyLen n) 4 else []) ++ mpiL (Pb) ++ mpiL (Qb)) (ownA o_g, ownC o_g (bt (mpiL (Gb))), mpiL (Gb)) hH10 (by exact ((Lies.own (L := []) ho_g).mono (fun x hx => by simp only [List.append_nil] at hx; simp [hx]))) (by show (mpiL (Gb)).length ≤ 1000; omega) (by simp only [List.length_append] at hb8 ⊢; omega)) rfl ?_)
                  rintro r w' ⟨H11, rfl, hH11, hw'⟩
                  refine ⟨_, _, rfl, hw', ?_⟩
                  refine AK.on (fun _ => Sb.hw) ?_
                  refine AK.quiet rfl (v_move rfl) rfl ?_
                  refine AK.quiet rfl (v_extract rfl rfl) rfl ?_
                  refine AK.quiet rfl (v_extract rfl rfl) rfl ?_
                  refine AK.quiet rfl (v_assign rfl) rfl ?_
                  refine AK.done ?_
                  refine EX.next ?_
                  refine WC.seq ?_
                  refine WC.region ?_
                  refine WL.val (v_move rfl) rfl ?_
                  refine WL.val (v_nil_neq rfl eq85) rfl ?_
                  refine WL.nil ?_
                  refine EX.next ?_
                  refine WC.cond rfl ?_ ?_
                  · intro hb21
                    exact absurd hb21 (by decide)
                  · intro hb21
                    refine WC.skip ?_
                    refine EX.next ?_
                    refine WC.seq ?_
                    refine WC.draw (L) (.quiet 0 (.quiet 1 (.quiet 2 (.quiet 3 (.quiet 4 (.quiet 6 (.quiet 7 (.quiet 8 (.one 5 (.one 9 (.quiet 10 (.quiet 11 (.quiet 12 (.quiet 13 .done)))))))))))))) (by kernel_rfl) (fun _ => Sb.hw) ?_
                    refine AK.quiet rfl (v_move rfl) rfl ?_
                    refine AK.quiet rfl (v_move rfl) rfl ?_
                    refine AK.quiet rfl (v_nilCheck_ptr rfl) rfl ?_
                    refine AK.quiet rfl (v_field Tryz.runUnderlying58 rfl Tryz.sizeOf56 (by decide) rfl) rfl ?_
                    refine AK.quiet rfl (v_load Tryz.isAgg56 rfl hkm rfl) rfl ?_
                    refine AK.quiet rfl (v_makeFunc rfl) rfl ?_
                    refine AK.quiet rfl (v_nilCheck_method rfl W.ahead) rfl ?_
                    refine AK.quiet rfl (v_move rfl) rfl ?_
                    refine AK.one rfl rfl (OW.invoke (xs := []) (us := []) rfl (run_method Tryz.typeInfo132 Tryz.runUnderlying132 rfl rfl rfl) Tryz.call244 rfl (fun w hw => encodedBytes_any w0 w _ my (pubN n) (hF.y.mono (fun _ h => (List.mem_append_right _ (List.mem_append_right _ (List.mem_append_right _ (List.mem_append_right _ h)))))) (by have := pubN_length n; omega) hw) rfl ?_)
                    rintro r w' ⟨o_y, rfl, ho_y, hw'⟩
                    refine ⟨_, _, rfl, hw', ?_⟩
                    rw [slV_own o_y (mpiL (pubN n))]
                    refine AK.on (fun _ => Sb.hw) ?_
                    refine AK.one rfl rfl (OW.invoke (xs := [.tmp 163]) (us := [slV (ownA o_y, ownC o_y (bt (mpiL (pubN n))), mpiL (pubN n))]) rfl W.meth W.call rfl (fun w hw => W.go w (H := H11) hw (by exact W.gm _ _ (fun _ h => (List.mem_append_right _ (List.mem_append_right _ (List.mem_append_right _ (List.mem_append_right _ h))))) hG) (bs ++ [ver % 256, created / 2 ^ 24 % 256, created / 2 ^ 16 % 256, created / 2 ^ 8 % 256, created % 256, 17] ++ (if ver = 6 then octL (keyLen n) 4 else []) ++ mpiL (Pb) ++ mpiL (Qb) ++ mpiL (Gb)) (ownA o_y, ownC o_y (bt (mpiL (pubN n))), mpiL (pubN n)) hH11 (by exact ((Lies.own (L := []) ho_y).mono (fun x hx => by simp only [List.append_nil] at hx; simp [hx]))) (by show (mpiL (pubN n)).length ≤ 1000; omega) (by simp only [List.length_append] at hb8 ⊢; omega)) rfl ?_)
                    rintro r w' ⟨H12, rfl, hH12, hw'⟩
                    refine ⟨_, _, rfl, hw', ?_⟩
                    refine AK.on (fun _ => Sb.hw) ?_
                    refine AK.quiet rfl (v_move rfl) rfl ?_
                    refine AK.quiet rfl (v_extract rfl rfl) rfl ?_
                    refine AK.quiet rfl (v_extract rfl rfl) rfl ?_
                    refine AK.quiet rfl (v_assign rfl) rfl ?_
                    refine AK.done ?_
                    refine EX.next ?_
                    refine WC.ret ?_
                    refine EX.ret_block ?_
                    refine EX.ret_then ?_
                    exact ret1 Tryz.results42 rfl fun w hw => ⟨H12, rfl, hH12, Sb.hw hw⟩
            · intro hb15
              exact absurd hb15 (by decide)
end Go.Proofs.YtljoodllnaekbaaGreatDoor

namespace Go.Proofs.YtljoodllnaekbaaGreatDoor
open Go

theorem headType_any (w0 w : World) (L H : Heap) {t : TypeId} {u : Value} {f : FuncId} {S : List Nat → Heap → Prop} {G : Heap → Prop} (W : Writer w0 t u f S G) (hG : G L) (bs : List Nat) (hS0 : S bs H) (hbs : bs.length ≤ 1000) (g : Nat) (hg : g = 6 ∨ g = 14) (hw : HW w0 (H ++ L) w) :
    Calls P 48 #[.iface t u, .int .u8 (g : Int)] w fun e w' => ∃ H', e = .returned .nilIface ∧ S (bs ++ [192 + g]) H' ∧ HW w0 (H' ++ L) w' := by
  refine enter (us := [.iface t u, .int .u8 (g : Int)]) Tryz.func48 rfl Tryz.ntmps48 (by simp) rfl ?_ hw
  refine WC.seq ?_
  refine WC.region ?_
  refine WL.val (v_assign rfl) rfl ?_
  refine WL.nil ?_
  refine EX.next ?_
  refine WC.seq ?_
  refine WC.region ?_
  refine WL.act rfl (OW.allocC (vs := [.int .u8 0]) Tryz.zeroValue157 rfl rfl (fun b5 => ?_))
  refine WL.nil ?_
  refine EX.next ?_
  refine WC.seq ?_
  refine WC.region ?_
  refine WL.val (v_move rfl) rfl ?_
  refine WL.val ((v_or rfl rfl).cast (by rw [head_or hg])) rfl ?_
  refine WL.val (n_ixa (m := 0) Tryz.runUnderlying157 Tryz.sizeOf5 rfl (show _ = some (Value.int .i64 ((0 : Nat) : Int)) from rfl) (by decide)) rfl ?_
  refine WL.act rfl (OW.store (vs' := _) Tryz.sizeOf5 rfl rfl rfl (show _ = bt [192 + g] from rfl) .here (by exact Nat.succ_pos _) (by simp) ?_)
  refine WL.nil ?_
  refine EX.next ?_
  refine WC.seq ?_
  refine WC.draw (L) (.quiet 0 (.quiet 1 (.quiet 2 (.quiet 3 (.quiet 4 (.one 5 (.quiet 6 (.quiet 7 (.quiet 8 (.quiet 9 .done)))))))))) (by kernel_rfl) (fun _ => Sb.hw) ?_
  refine AK.quiet rfl (v_move rfl) rfl ?_
  refine AK.quiet rfl (Val.to (v' := slV (some ⟨b5, 0, none⟩, 1, [192 + g])) rfl (v_slice_arr (i := 0) (j := 1) Tryz.runUnderlying157 Tryz.sizeOf5 rfl rfl rfl (by decide) (by decide) (by decide))) rfl ?_
  refine AK.quiet rfl (v_makeFunc rfl) rfl ?_
  refine AK.quiet rfl (v_nilCheck_method rfl W.ahead) rfl ?_
  refine AK.quiet rfl (v_move rfl) rfl ?_
  refine AK.one rfl rfl (OW.invoke (xs := [.tmp 11]) (us := [slV (some ⟨b5, 0, none⟩, 1, [192 + g])]) rfl W.meth W.call rfl (fun w hw => W.go w (H := H) hw (by exact W.gm _ _ (fun _ h => (mS h)) hG) (bs) (some ⟨b5, 0, none⟩, 1, [192 + g]) hS0 (by exact ⟨Nat.le_refl _, Rd.whole m0⟩) (by simp) (by omega)) rfl ?_)
  rintro r w' ⟨H1, rfl, hH1, hw'⟩
  refine ⟨_, _, rfl, hw', ?_⟩
  refine AK.on (fun _ => Sb.hw) ?_
  refine AK.quiet rfl (v_move rfl) rfl ?_
  refine AK.quiet rfl (v_extract rfl rfl) rfl ?_
  refine AK.quiet rfl (v_extract rfl rfl) rfl ?_
  refine AK.quiet rfl (v_assign rfl) rfl ?_
  refine AK.done ?_
  refine EX.next ?_
  refine WC.ret ?_
  exact ret1 Tryz.results48 rfl fun w hw => ⟨H1, rfl, hH1, Sb.hw hw⟩
theorem headLen_any (w0 w : World) (L H : Heap) {t : TypeId} {u : Value} {f : FuncId} {S : List Nat → Heap → Prop} {G : Heap → Prop} (W : Writer w0 t u f S G) (hG : G L) (bs : List Nat) (hS0 : S bs H) (hbs : bs.length ≤ 1000) (d : Nat) (hd : d < 192) (hw : HW w0 (H ++ L) w) :
    Calls P 49 #[.iface t u, .int .i64 (d : Int)] w fun e w' => ∃ H', e = .returned .nilIface ∧ S (bs ++ [d]) H' ∧ HW w0 (H' ++ L) w' := by
  refine enter (us := [.iface t u, .int .i64 (d : Int)]) Tryz.func49 rfl Tryz.ntmps49 (by simp) rfl ?_ hw
  refine WC.seq ?_
  refine WC.region ?_
  refine WL.val (v_assign rfl) rfl ?_
  refine WL.nil ?_
  refine EX.next ?_
  refine WC.seq ?_
  refine WC.region ?_
  refine WL.act rfl (OW.allocC (vs := bt [0, 0, 0, 0, 0]) Tryz.zeroValue158 rfl rfl (fun b5 => ?_))
  refine WL.nil ?_
  refine EX.next ?_
  refine WC.seq ?_
  refine WC.region ?_
  refine WL.val (v_assign rfl) rfl ?_
  refine WL.nil ?_
  refine EX.next ?_
  refine WC.seq ?_
  refine WC.seq ?_
  refine WC.region ?_
  refine WL.val (v_move rfl) rfl ?_
  refine WL.val (v_lss rfl rfl) rfl ?_
  refine WL.nil ?_
  refine EX.next ?_
  refine WC.cond rfl ?_ ?_
  · intro hb3
    refine WC.seq ?_
    refine WC.region ?_
    refine WL.val (v_move rfl) rfl ?_
    refine WL.val (Val.to (v' := .int .u8 (d : Int)) (by rw [Nat.mod_eq_of_lt (by omega)]) (n_byte Tryz.runUnderlying3 Tryz.runUnderlying5 rfl)) rfl ?_
    refine WL.val (n_ixa (m := 0) Tryz.runUnderlying158 Tryz.sizeOf5 rfl (show _ = some (Value.int .i64 ((0 : Nat) : Int)) from rfl) (by decide)) rfl ?_
    refine WL.act rfl (OW.store (vs' := _) Tryz.sizeOf5 rfl rfl rfl (show _ = bt [d] ++ bt [0, 0, 0, 0] from rfl) .here (by exact Nat.succ_pos _) (by simp) ?_)
    refine WL.nil ?_
    refine EX.next ?_
    refine WC.region ?_
    refine WL.val (v_assign rfl) rfl ?_
    refine WL.nil ?_
    refine EX.next ?_
    refine WC.seq ?_
    refine WC.draw (L) (.quiet 0 (.quiet 1 (.quiet 2 (.quiet 3 (.quiet 4 (.quiet 5 (.one 6 (.quiet 7 (.quiet 8 (.quiet 9 (.quiet 10 .done))))))))))) (by kernel_rfl) (fun _ => Sb.hw) ?_
    refine AK.quiet rfl (v_move rfl) rfl ?_
    refine AK.quiet rfl (v_move rfl) rfl ?_
    refine AK.quiet rfl (Val.to (v' := slV (some ⟨b5, 0, none⟩, 5, [d])) rfl (v_slice_arr (i := 0) (j := 1) Tryz.runUnderlying158 Tryz.sizeOf5 rfl rfl ⟨.i64, rfl⟩ (by decide) (by decide) (by decide))) rfl ?_
    refine AK.quiet rfl (v_makeFunc rfl) rfl ?_
    refine AK.quiet rfl (v_nilCheck_method rfl W.ahead) rfl ?_
    refine AK.quiet rfl (v_move rfl) rfl ?_
    refine AK.one rfl rfl (OW.invoke (xs := [.tmp 43]) (us := [slV (some ⟨b5, 0, none⟩, 5, [d])]) rfl W.meth W.call rfl (fun w hw => W.go w (H := H) hw (by exact W.gm _ _ (fun _ h => (mS h)) hG) (bs) (some ⟨b5, 0, none⟩, 5, [d]) hS0 (by exact (Lies.head m0 (by simp))) (by simp) (by omega)) rfl ?_)
    rintro r w' ⟨H1, rfl, hH1, hw'⟩
    refine ⟨_, _, rfl, hw', ?_⟩
    refine AK.on (fun _ => Sb.hw) ?_
    refine AK.quiet rfl (v_move rfl) rfl ?_
    refine AK.quiet rfl (v_extract rfl rfl) rfl ?_
    refine AK.quiet rfl (v_extract rfl rfl) rfl ?_
    refine AK.quiet rfl (v_assign rfl) rfl ?_
    refine AK.done ?_
    refine EX.next ?_
    refine WC.ret ?_
    exact ret1 Tryz.results49 rfl fun w hw => ⟨H1, rfl, hH1, Sb.hw hw⟩
  · intro hb3
    exfalso; have := of_decide_eq_false hb3; omega
theorem header_any (w0 w : World) (L H : Heap) {t : TypeId} {u : Value} {f : FuncId} {S : List Nat → Heap → Prop} {G : Heap → Prop} (W : Writer w0 t u f S G) (hG : G L) (bs : List Nat) (hS0 : S bs H) (hbs : bs.length ≤ 900) (g d : Nat) (hg : g = 6 ∨ g = 14) (hd : d < 192) (hw : HW w0 (H ++ L) w) :
    Calls P 41 #[.iface t u, .int .u8 (g : Int), .int .i64 (d : Int)] w fun e w' => ∃ H', e = .returned .nilIface ∧ S (bs ++ [192 + g] ++ [d]) H' ∧ HW w0 (H' ++ L) w' := by
  refine enter (us := [.iface t u, .int .u8 (g : Int), .int .i64 (d : Int)]) Tryz.func41 rfl Tryz.ntmps41 (by simp) rfl ?_ hw
  refine WC.seq ?_
  refine WC.region ?_
  refine WL.val (v_assign rfl) rfl ?_
  refine WL.nil ?_
  refine EX.next ?_
  refine WC.seq ?_
  refine WC.region ?_
  refine WL.val (v_move rfl) rfl ?_
  refine WL.val (v_move rfl) rfl ?_
  refine WL.act rfl (OW.call (xs := [.tmp 7, .tmp 8]) Tryz.call48 rfl (fun w hw => headType_any w0 w L H W hG bs hS0 (by omega) g hg hw) rfl ?_)
  rintro r w' ⟨H1, rfl, hH1, hw'⟩
  refine ⟨_, _, rfl, hw', ?_⟩
  refine WL.val (v_assign rfl) rfl ?_
  refine WL.nil ?_
  refine EX.next ?_
  refine WC.seq ?_
  refine WC.seq ?_
  refine WC.region ?_
  refine WL.val (v_move rfl) rfl ?_
  refine WL.val (v_nil_neq rfl eq85) rfl ?_
  refine WL.nil ?_
  refine EX.next ?_
  refine WC.cond rfl ?_ ?_
  · intro hb2
    exact absurd hb2 (by decide)
  · intro hb2
    refine WC.skip ?_
    refine EX.next ?_
    refine WC.seq ?_
    refine WC.region ?_
    refine WL.val (v_move rfl) rfl ?_
    refine WL.val (v_move rfl) rfl ?_
    refine WL.act rfl (OW.call (xs := [.tmp 12, .tmp 13]) Tryz.call49 rfl (fun w hw => headLen_any w0 w L H1 W hG _ hH1 (by simp; omega) d hd hw) rfl ?_)
    rintro r w' ⟨H2, rfl, hH2, hw'⟩
    refine ⟨_, _, rfl, hw', ?_⟩
    refine WL.val (v_assign rfl) rfl ?_
    refine WL.nil ?_
    refine EX.next ?_
    refine WC.ret ?_
    exact ret1 Tryz.results41 rfl fun w hw => ⟨H2, rfl, hH2, hw⟩
end Go.Proofs.YtljoodllnaekbaaGreatDoor

namespace Go.Proofs.YtljoodllnaekbaaGreatDoor
open Go

/-- A body's length; a whole packet. -/
def bodyN (ver : Nat) (n : List Nat) : Nat := if ver = 6 then 6 + keyLen n + 4 else 6 + keyLen n
theorem bodyN_lt {ver : Nat} (n : List Nat) (hv : ver = 6 ∨ ver = 4) : bodyN ver n < 192 := by
  have := keyLen_le n
  unfold bodyN
  split <;> omega
theorem bodyL_len (ver created : Nat) (n : List Nat) : (bodyL ver created (keyN n)).length = bodyN ver n := by
  unfold bodyL bodyN
  rw [keyLen_flat]
  simp only [List.length_append, octL_length, keyLen_flat, List.length_cons, List.length_nil]
  split
  · rw [octL_length]; omega
  · rw [List.length_nil]
def pktL (ver created : Nat) (sub : Bool) (n : List Nat) : List Nat := (192 + (if sub then 14 else 6)) :: bodyN ver n :: bodyL ver created (keyN n)
theorem serialize_any (w0 w : World) (L H : Heap) {t : TypeId} {u : Value} {f : FuncId} {S : List Nat → Heap → Prop} {G : Heap → Prop} (W : Writer w0 t u f S G) (hG : G L) (bs : List Nat) (hS0 : S bs H) (hbs : bs.length ≤ 500) (k ver created : Nat) (sub : Bool) (n : List Nat) (hk : PK L k ver created sub n) (hv : ver = 6 ∨ ver = 4) (hc : created < 4294967296) (hw : HW w0 (H ++ L) w) :
    Calls P 27 #[.pointer (some ⟨k, 0, none⟩), .iface t u] w fun e w' => ∃ H', e = .returned .nilIface ∧ S (bs ++ pktL ver created sub n) H' ∧ HW w0 (H' ++ L) w' := by
  have hk0 := hk
  obtain ⟨ty, pub, fp, kid, mp, mq, mg, my, rest, hkm, hF⟩ := hk
  have hkl := keyLen_le n
  refine enter (us := [.pointer (some ⟨k, 0, none⟩), .iface t u]) Tryz.func27 rfl Tryz.ntmps27 (by simp) rfl ?_ hw
  refine WC.seq ?_
  refine WC.region ?_
  refine WL.val (v_assign rfl) rfl ?_
  refine WL.nil ?_
  refine EX.next ?_
  refine WC.seq ?_
  refine WC.region ?_
  refine WL.val (v_assign rfl) rfl ?_
  refine WL.nil ?_
  refine EX.next ?_
  refine WC.seq ?_
  refine WC.region ?_
  refine WL.val (v_move rfl) rfl ?_
  refine WL.val (v_move rfl) rfl ?_
  refine WL.act rfl (OW.call (xs := [.tmp 8]) Tryz.call40 rfl (fun w hw => byteCount_any w0 w _ k ver created sub n (hk0.mono fun _ h => List.mem_append_right _ h) hv hc hw) rfl ?_)
  rintro r w' ⟨rfl, hw'⟩
  refine ⟨_, _, rfl, hw', ?_⟩
  refine WL.val (u32_add (m := 6) rfl rfl rfl (by omega)) rfl ?_
  refine WL.val (v_assign rfl) rfl ?_
  refine WL.nil ?_
  refine EX.next ?_
  refine WC.cut (fun ac wl => St w0 32 [(0, .pointer (some ⟨k, 0, none⟩)), (1, .iface t u), (5, .int .u32 (bodyN ver n : Int))] (H ++ L) ac wl) ?_ ?_
  · skip
    refine WC.seq ?_
    refine WC.region ?_
    refine WL.val (v_move rfl) rfl ?_
    refine WL.val (v_nilCheck_ptr rfl) rfl ?_
    refine WL.val (v_field Tryz.runUnderlying58 rfl Tryz.sizeOf3 (by decide) rfl) rfl ?_
    refine WL.val (v_load Tryz.isAgg3 rfl ((fun _ h => (List.mem_append_right _ h)) _ hkm) rfl) rfl ?_
    refine WL.val (v_geq rfl rfl) rfl ?_
    refine WL.nil ?_
    refine EX.next ?_
    refine WC.cond rfl ?_ ?_
    · intro hb3
      have hv6 : ver = 6 := by have := of_decide_eq_true hb3; omega
      refine WC.region ?_
      refine WL.val (v_move rfl) rfl ?_
      refine WL.val (u32_add rfl rfl (show (4 : Int) = ((4 : Nat) : Int) from rfl) (by omega)) rfl ?_
      refine WL.val (v_assign rfl) rfl ?_
      refine WL.nil ?_
      refine EX.to ?_
      refine KS.mk fun b w hS => hS.keep ⟨rfl, rfl, ?_, trivial⟩
      unfold bodyN
      rw [if_pos hv6]
      rfl
    · intro hb3
      have hv6 : ver ≠ 6 := by have := of_decide_eq_false hb3; omega
      refine WC.skip ?_
      refine EX.to ?_
      refine KS.mk fun b w hS => hS.keep ⟨rfl, rfl, ?_, trivial⟩
      unfold bodyN
      rw [if_neg hv6]
      rfl
  · intro ac wl hS
    revert ac wl
    refine KS.out ?_
    refine WC.seq ?_
    refine WC.region ?_
    refine WL.val (v_assign rfl) rfl ?_
    refine WL.nil ?_
    refine EX.next ?_
    refine WC.cut (fun ac wl => St w0 32 [(0, .pointer (some ⟨k, 0, none⟩)), (1, .iface t u), (5, .int .u32 (bodyN ver n : Int)), (6, .int .u8 (((if sub then 14 else 6) : Nat) : Int))] (H ++ L) ac wl) ?_ ?_
    · skip
      refine WC.seq ?_
      refine WC.region ?_
      refine WL.val (v_move rfl) rfl ?_
      refine WL.val (v_nilCheck_ptr rfl) rfl ?_
      refine WL.val (v_field Tryz.runUnderlying58 rfl Tryz.sizeOf4 (by decide) rfl) rfl ?_
      refine WL.val (v_load Tryz.isAgg4 rfl ((fun _ h => (List.mem_append_right _ h)) _ hkm) rfl) rfl ?_
      refine WL.nil ?_
      refine EX.next ?_
      refine WC.cond rfl ?_ ?_
      · intro hb6
        refine WC.region ?_
        refine WL.val (v_assign rfl) rfl ?_
        refine WL.nil ?_
        refine EX.to ?_
        subst hb6
        exact KS.mk fun b w hS => hS.keep ⟨rfl, rfl, rfl, rfl, trivial⟩
      · intro hb6
        refine WC.skip ?_
        refine EX.to ?_
        subst hb6
        exact KS.mk fun b w hS => hS.keep ⟨rfl, rfl, rfl, rfl, trivial⟩
    · intro ac wl hS
      revert ac wl
      refine KS.out ?_
      refine WC.seq ?_
      refine WC.region ?_
      refine WL.val (v_move rfl) rfl ?_
      refine WL.val (v_move rfl) rfl ?_
      refine WL.val (v_move rfl) rfl ?_
      refine WL.val (n_int Tryz.runUnderlying22 Tryz.runUnderlying3 rfl (by have := bodyN_lt n hv; omega)) rfl ?_
      refine WL.act rfl (OW.call (xs := [.tmp 22, .tmp 23, .tmp 25]) Tryz.call41 rfl (fun w hw => header_any w0 w L H W hG bs hS0 (by omega) (if sub then 14 else 6) (bodyN ver n) (by cases sub <;> simp) (bodyN_lt n hv) hw) rfl ?_)
      rintro r w' ⟨H1, rfl, hH1, hw'⟩
      refine ⟨_, _, rfl, hw', ?_⟩
      refine WL.val (v_assign rfl) rfl ?_
      refine WL.nil ?_
      refine EX.next ?_
      refine WC.seq ?_
      refine WC.seq ?_
      refine WC.region ?_
      refine WL.val (v_move rfl) rfl ?_
      refine WL.val (v_nil_neq rfl eq85) rfl ?_
      refine WL.nil ?_
      refine EX.next ?_
      refine WC.cond rfl ?_ ?_
      · intro hb9
        exact absurd hb9 (by decide)
      · intro hb9
        refine WC.skip ?_
        refine EX.next ?_
        refine WC.seq ?_
        refine WC.region ?_
        refine WL.val (v_move rfl) rfl ?_
        refine WL.val (v_move rfl) rfl ?_
        refine WL.act rfl (OW.call (xs := [.tmp 29, .tmp 30]) Tryz.call42 rfl (fun w hw => body_any w0 w L H1 W hG _ hH1 (by simp only [List.length_append, List.length_cons, List.length_nil]; omega) k ver created sub n hk0 hv hc hw) rfl ?_)
        rintro r w' ⟨H2, rfl, hH2, hw'⟩
        refine ⟨_, _, rfl, hw', ?_⟩
        refine WL.val (v_assign rfl) rfl ?_
        refine WL.nil ?_
        refine EX.next ?_
        refine WC.ret ?_
        refine ret1 Tryz.results27 rfl fun w hw => ⟨H2, rfl, ?_, hw⟩
        rw [pktL]
        simpa only [List.append_assoc, List.cons_append, List.nil_append] using hH2
end Go.Proofs.YtljoodllnaekbaaGreatDoor

namespace Go.Proofs.YtljoodllnaekbaaGreatDoor
open Go

theorem sinkWrite_any (w0 w : World) (L : Heap) (ks : Nat) (o : Option Own) (bs : List Nat) (ho : o = none → bt bs = []) (hbs : bs.length ≤ 100000) (q : Sl) (hq : Lies L q) (hql : q.2.2.length ≤ 1000) (hw : HW w0 ((ks, blk 83 (0, 0) [ownV o (bt bs)]) :: (ownL 5 o (bt bs) ++ L)) w) :
    Calls P 239 #[.pointer (some ⟨ks, 0, none⟩), slV q] w fun e w' => ∃ o', e = .returned (.tuple #[.int .i64 (q.2.2.length : Int), .nilIface]) ∧ (o' = none → bt (bs ++ q.2.2) = []) ∧ HW w0 ((ks, blk 83 (0, 0) [ownV o' (bt (bs ++ q.2.2))]) :: (ownL 5 o' (bt (bs ++ q.2.2)) ++ L)) w' := by
  refine enter (us := [.pointer (some ⟨ks, 0, none⟩), slV q]) Tryz.func239 rfl Tryz.ntmps239 (by simp) rfl ?_ hw
  refine WC.seq ?_
  refine WC.region ?_
  refine WL.val (v_assign rfl) rfl ?_
  refine WL.val (v_assign rfl) rfl ?_
  refine WL.nil ?_
  refine EX.next ?_
  refine WC.seq ?_
  refine WC.region ?_
  refine WL.val (v_move rfl) rfl ?_
  refine WL.val (v_move rfl) rfl ?_
  refine WL.val (v_nilCheck_ptr rfl) rfl ?_
  refine WL.val (v_field Tryz.runUnderlying83 rfl Tryz.sizeOf23 (by decide) rfl) rfl ?_
  refine WL.val (v_load Tryz.isAgg23 rfl m0 rfl) rfl ?_
  refine WL.val (v_move rfl) rfl ?_
  refine WL.act rfl (OW.append (o := o) (data := bt bs) (news := bt q.2.2) (data' := bt (bs ++ q.2.2)) (L1 := (ks, blk 83 (0, 0) [ownV o (bt bs)]) :: L) Tryz.runUnderlying23 Tryz.runUnderlying23 Tryz.sizeOf5 Tryz.typeInfo5 Tryz.zeroValue5 rfl rfl rfl (by first | rfl | exact (bt_length _).symm | rw [bt_length, octL_length]) (fun _ h => Pm.hw h) ho (hq.rd.mono fun _ h => List.mem_append_right _ (mS h)) (bt_one _) (by rw [bt_length, bt_length]; rw [bytes5]; omega) (by rw [bt_length, bt_length]; omega) (bt_append _ _).symm rfl (fun o2 ho2 => ?_))
  refine WL.val (v_nilCheck_ptr rfl) rfl ?_
  refine WL.val (v_field Tryz.runUnderlying83 rfl Tryz.sizeOf23 (by decide) rfl) rfl ?_
  refine WL.act rfl (OW.store (vs' := _) Tryz.sizeOf23 rfl rfl rfl (show _ = [ownV o2 (bt (bs ++ q.2.2))] from rfl) (At.over .here _) (by exact Nat.succ_pos _) (by simp) ?_)
  refine WL.nil ?_
  refine EX.next ?_
  refine WC.seq ?_
  refine WC.region ?_
  refine WL.val (v_move rfl) rfl ?_
  refine WL.val (v_len Tryz.runUnderlying23 rfl) rfl ?_
  refine WL.val (v_assign rfl) rfl ?_
  refine WL.val (v_assign rfl) rfl ?_
  refine WL.nil ?_
  refine EX.next ?_
  refine WC.ret ?_
  exact ret2 Tryz.results239 rfl rfl fun w hw => ⟨o2, rfl, ho2, Pm.hw hw⟩
/-- A sink's memory. -/
def SinkS (ks : Nat) (bs : List Nat) (H : Heap) : Prop := ∃ o : Option Own, (o = none → bt bs = []) ∧ H = (ks, blk 83 (0, 0) [ownV o (bt bs)]) :: ownL 5 o (bt bs)
theorem sinkWriter (w0 : World) (ks : Nat) : Writer w0 81 (.pointer (some ⟨ks, 0, none⟩)) 239 (SinkS ks) (fun _ => True) where
  gm := fun _ _ _ _ => trivial
  meth := run_method Tryz.typeInfo81 Tryz.runUnderlying81 rfl rfl rfl
  call := Tryz.call239
  ahead := run_ahead Tryz.typeInfo81 rfl rfl rfl
  write := fun w H L bs q _ hS hq hl hb hw => by
    obtain ⟨o, ho, rfl⟩ := hS
    refine (sinkWrite_any w0 w L ks o bs ho hb q hq hl hw).mono ?_
    rintro e w' ⟨o', h1, h2, h3⟩
    exact ⟨_, h1, ⟨o', h2, rfl⟩, h3⟩
theorem build83 (w : World) : (Instr.build 83 (([] : List Nat).zip ([] : List Value)).toArray).run P w = .ok (.agg #[.slice none 0 0]) w := by
  simp [Instr.build, Tryz.zeroValue83, Tryz.runUnderlying83, Tryz.sizeOf23]
  rfl
theorem serialized_any (w0 w : World) (L : Heap) (k ver created : Nat) (sub : Bool) (n : List Nat) (hk : PK L k ver created sub n) (hv : ver = 6 ∨ ver = 4) (hc : created < 4294967296) (hw : HW w0 L w) :
    Calls P 15 #[.pointer (some ⟨k, 0, none⟩)] w (NewBytes w0 L (pktL ver created sub n)) := by
  refine enter (us := [.pointer (some ⟨k, 0, none⟩)]) Tryz.func15 rfl Tryz.ntmps15 (by simp) rfl ?_ hw
  refine WC.seq ?_
  refine WC.region ?_
  refine WL.val (v_assign rfl) rfl ?_
  refine WL.nil ?_
  refine EX.next ?_
  refine WC.seq ?_
  refine WC.region ?_
  refine WL.val (v_build (v := .agg #[.slice none 0 0]) (is := []) (xs := []) rfl rfl rfl build83) rfl ?_
  refine WL.act rfl (OW.box (us := [ownV none (bt [])]) rfl rfl rfl (fun ks => ?_))
  refine WL.val (v_assign rfl) rfl ?_
  refine WL.nil ?_
  refine EX.next ?_
  refine WC.seq ?_
  refine WC.seq ?_
  refine WC.region ?_
  refine WL.val (v_move rfl) rfl ?_
  refine WL.val (v_move rfl) rfl ?_
  refine WL.val (v_iface Tryz.runUnderlying81 rfl rfl) rfl ?_
  refine WL.act rfl (OW.call (xs := [.tmp 6, .tmp 8]) Tryz.call27 rfl (fun w hw => serialize_any w0 w L ((ks, blk 83 (0, 0) [ownV none (bt [])]) :: ownL 5 none (bt [])) (sinkWriter w0 ks) trivial [] ⟨none, fun _ => rfl, rfl⟩ (by decide) k ver created sub n hk hv hc hw) rfl ?_)
  rintro r w' ⟨_, rfl, ⟨o, ho, rfl⟩, hw'⟩
  rw [List.nil_append] at hw' ho
  refine ⟨_, _, rfl, hw', ?_⟩
  refine WL.val (v_nil_neq rfl eq85) rfl ?_
  refine WL.nil ?_
  refine EX.next ?_
  refine WC.cond rfl ?_ ?_
  · intro hb2
    exact absurd hb2 (by decide)
  · intro hb2
    refine WC.skip ?_
    refine EX.next ?_
    refine WC.seq ?_
    refine WC.region ?_
    refine WL.val (v_move rfl) rfl ?_
    refine WL.val (v_nilCheck_ptr rfl) rfl ?_
    refine WL.val (v_field Tryz.runUnderlying83 rfl Tryz.sizeOf23 (by decide) rfl) rfl ?_
    refine WL.val (v_load Tryz.isAgg23 rfl m0 rfl) rfl ?_
    refine WL.val (v_assign rfl) rfl ?_
    refine WL.nil ?_
    refine EX.next ?_
    refine WC.ret ?_
    exact ret1 Tryz.results15 rfl fun w hw => ⟨o, rfl, ho, hw.tail⟩
end Go.Proofs.YtljoodllnaekbaaGreatDoor

namespace Go.Proofs.YtljoodllnaekbaaGreatDoor
open Go

/-- Numbers of one kind. -/
def iu (k : IntKind) (xs : List Int) : List Value := xs.map (Value.int k)
theorem iu_length (k : IntKind) (xs : List Int) : (iu k xs).length = xs.length := by simp [iu]
theorem iu_at {k : IntKind} {xs : List Int} {i : Nat} (h : i < xs.length) : (iu k xs)[i]? = some (.int k (xs.getD i 0)) := by simp [iu, h]
theorem iu_at0 {k : IntKind} {xs : List Int} {i : Nat} (h : i < xs.length) : (iu k xs)[0 + i]? = some (.int k (xs.getD i 0)) := by rw [Nat.zero_add]; exact iu_at h
theorem iu_set (k : IntKind) (xs : List Int) (i : Nat) (v : Int) : (iu k xs).set i (.int k v) = iu k (xs.set i v) := by simp [iu, List.map_set]
theorem iu_one (k : IntKind) (xs : List Int) : ∀ u ∈ iu k xs, u.oneCell' = true := by intro u h; simp [iu] at h; obtain ⟨a, _, rfl⟩ := h; rfl
theorem iu_take (k : IntKind) (xs : List Int) (n : Nat) : iu k (xs.take n) = (iu k xs).take n := by simp [iu]
theorem iu_drop (k : IntKind) (xs : List Int) (n : Nat) : iu k (xs.drop n) = (iu k xs).drop n := by simp [iu]
theorem iu_append (k : IntKind) (xs ys : List Int) : iu k (xs ++ ys) = iu k xs ++ iu k ys := by simp [iu]
theorem iu_replicate (k : IntKind) (n : Nat) : List.replicate n (Value.int k 0) = iu k (List.replicate n 0) := by simp [iu]
abbrev i8 (xs : List Int) : List Value := iu .u8 xs
theorem i8_length (xs : List Int) : (i8 xs).length = xs.length := iu_length _ _
theorem i8_at {xs : List Int} {i : Nat} (h : i < xs.length) : (i8 xs)[i]? = some (.int .u8 (xs.getD i 0)) := iu_at h
theorem bt_i8 (xs : List Nat) : bt xs = i8 (xs.map Int.ofNat) := by simp [bt, iu]
theorem wrap_u64_nonneg (n : Int) : 0 ≤ IntKind.u64.wrap n := by simp [IntKind.wrap, IntKind.bits, IntKind.signed]; omega
theorem overlay_iu {k : IntKind} {xs ys : List Int} {i : Nat} (h : i + ys.length ≤ xs.length) : ∃ zs : List Int, zs.length = xs.length ∧ overlay (iu k xs) i (iu k ys) = iu k zs := by
  refine ⟨xs.take i ++ ys ++ xs.drop (i + ys.length), by simp; omega, ?_⟩
  unfold overlay
  rw [iu_append, iu_append, iu_take, iu_drop, iu_length]
/-- A row within a block's cells. -/
theorem overlay_mid {a b c us : List Value} {i : Nat} (h : i + us.length ≤ b.length) : overlay (a ++ (b ++ c)) (a.length + i) us = a ++ (overlay b i us ++ c) := by
  apply List.ext_getElem?
  intro j
  rw [overlay_get _ _ _ (by simp; omega)]
  by_cases h1 : j < a.length
  · rw [if_pos (by omega), List.getElem?_append_left h1, List.getElem?_append_left h1]
  · rw [List.getElem?_append_right (by omega) (l₁ := a) (l₂ := overlay b i us ++ c), List.getElem?_append_right (by omega) (l₁ := a) (l₂ := b ++ c)]
    have hov := overlay_length b i us h
    by_cases h2 : j - a.length < b.length
    · rw [List.getElem?_append_left (by omega) (l₁ := overlay b i us), List.getElem?_append_left h2, overlay_get _ _ _ h]
      by_cases h3 : j - a.length < i
      · rw [if_pos (by omega), if_pos h3]
      · rw [if_neg (by omega), if_neg h3]
        by_cases h4 : j - a.length < i + us.length
        · rw [if_pos (by omega), if_pos h4]; congr 1; omega
        · rw [if_neg (by omega), if_neg h4]
    · rw [if_neg (by omega), if_neg (by omega), List.getElem?_append_right (by omega) (l₁ := overlay b i us), List.getElem?_append_right (by omega) (l₁ := b), hov]
/-- The cells of a digest: its numbers, its block, how full that is, how much was written; more. -/
def dgC (hs xs : List Int) (nx len : Int) (r : List Value) : List Value := iu .u32 hs ++ (i8 xs ++ (.int .i64 nx :: .int .u64 len :: r))
/-- A digest of nh numbers whose block holds nx bytes. -/
structure Dg (nh : Nat) (hs xs : List Int) (nx : Int) : Prop where
  h : hs.length = nh
  x : xs.length = 64
  lo : 0 ≤ nx
  hi : nx < 64
section
variable {nh : Nat} {hs xs : List Int} {nx len : Int} {r : List Value}
theorem dgC_length : (dgC hs xs nx len r).length = hs.length + (xs.length + (r.length + 2)) := by simp [dgC, iu]
theorem dgC_h {i : Nat} (h : i < hs.length) : (dgC hs xs nx len r)[i]? = some (.int .u32 (hs.getD i 0)) := by
  unfold dgC
  rw [List.getElem?_append_left (by rw [iu_length]; exact h)]
  exact iu_at h
theorem dgC_right (i : Nat) : (dgC hs xs nx len r)[hs.length + i]? = (i8 xs ++ (.int .i64 nx :: .int .u64 len :: r))[i]? := by
  unfold dgC
  rw [List.getElem?_append_right (by rw [iu_length]; omega), iu_length]
  congr 1; omega
theorem dgC_end (i : Nat) : (dgC hs xs nx len r)[hs.length + (xs.length + i)]? = (Value.int .i64 nx :: Value.int .u64 len :: r)[i]? := by
  rw [dgC_right, List.getElem?_append_right (by rw [i8_length]; omega), i8_length]
  congr 1; omega
theorem dgC_nx {o : Nat} (ho : o = hs.length + xs.length) : (dgC hs xs nx len r)[o]? = some (.int .i64 nx) := by
  have := dgC_end (hs := hs) (xs := xs) (nx := nx) (len := len) (r := r) 0
  rw [ho]; simpa using this
theorem dgC_len {o : Nat} (ho : o = hs.length + (xs.length + 1)) : (dgC hs xs nx len r)[o]? = some (.int .u64 len) := by
  have := dgC_end (hs := hs) (xs := xs) (nx := nx) (len := len) (r := r) 1
  rw [ho]; simpa using this
theorem dgC_more {o : Nat} {v : Value} (ho : o = hs.length + (xs.length + 2)) : (dgC hs xs nx len (v :: r))[o]? = some v := by
  have := dgC_end (hs := hs) (xs := xs) (nx := nx) (len := len) (r := v :: r) 2
  rw [ho]; simpa using this
theorem dgC_set_h {i : Nat} (h : i < hs.length) (v : Int) : (dgC hs xs nx len r).set i (.int .u32 v) = dgC (hs.set i v) xs nx len r := by
  unfold dgC
  rw [List.set_append_left _ _ (by rw [iu_length]; exact h), iu_set]
theorem dgC_set_nx {o : Nat} (ho : o = hs.length + xs.length) (v : Int) : (dgC hs xs nx len r).set o (.int .i64 v) = dgC hs xs v len r := by
  subst ho
  unfold dgC
  rw [List.set_append_right _ _ (by rw [iu_length]; omega), iu_length, show hs.length + xs.length - hs.length = xs.length by omega, List.set_append_right _ _ (by rw [i8_length]; omega), i8_length, Nat.sub_self]
  rfl
theorem dgC_set_len {o : Nat} (ho : o = hs.length + (xs.length + 1)) (v : Int) : (dgC hs xs nx len r).set o (.int .u64 v) = dgC hs xs nx v r := by
  subst ho
  unfold dgC
  rw [List.set_append_right _ _ (by rw [iu_length]; omega), iu_length, show hs.length + (xs.length + 1) - hs.length = xs.length + 1 by omega, List.set_append_right _ _ (by rw [i8_length]; omega), i8_length, show xs.length + 1 - xs.length = 1 by omega]
  rfl
/-- The block's bytes, read through a slice. -/
theorem dgC_rd {L : Heap} {k : Nat} {t : TypeId} {fr : Nat × Nat} {o i : Nat} (h : (k, blk t fr (dgC hs xs nx len r)) ∈ L) (ho : o = hs.length + i) : Rd L (some ⟨k, o, none⟩) (i8 (xs.drop i)) := Rd.of h fun j v hj => by
  rw [show i8 (xs.drop i) = (i8 xs).drop i from iu_drop _ _ _, List.getElem?_drop] at hj
  subst ho
  have hlt := (List.getElem?_eq_some_iff.1 hj).1
  rw [show hs.length + i + j = hs.length + (i + j) by omega, dgC_right, List.getElem?_append_left hlt]
  exact hj
/-- Bytes are copied into the block. -/
theorem dgC_copy {o i : Nat} {ys : List Int} (ho : o = hs.length + i) (h : i + ys.length ≤ xs.length) : ∃ zs : List Int, zs.length = xs.length ∧ overlay (dgC hs xs nx len r) o (i8 ys) = dgC hs zs nx len r := by
  obtain ⟨zs, h1, h2⟩ := overlay_iu (k := .u8) h
  refine ⟨zs, h1, ?_⟩
  subst ho
  unfold dgC
  have := overlay_mid (a := iu .u32 hs) (b := i8 xs) (c := .int .i64 nx :: .int .u64 len :: r) (us := i8 ys) (i := i) (by rw [i8_length, i8_length]; exact h)
  rw [iu_length] at this
  rw [this, h2]
end
theorem andNot63 : ∀ l : Nat, l ≤ 1000 → andNotI .i64 (l : Int) 63 = ((l / 64 * 64 : Nat) : Int) := by decide +kernel
theorem i8_take (xs : List Int) (n : Nat) : i8 (xs.take n) = (i8 xs).take n := iu_take _ _ _
theorem i8_drop (xs : List Int) (n : Nat) : i8 (xs.drop n) = (i8 xs).drop n := iu_drop _ _ _
theorem and15_i64 {m : Nat} (hm : m < 9223372036854775808) : andI .i64 (m : Int) 15 = ((m % 16 : Nat) : Int) := by
  rw [show (15 : Int) = ((15 : Nat) : Int) from rfl, andI_i64 hm (by omega)]
  rw [show (15 : Nat) = 2 ^ 4 - 1 from rfl, Nat.and_two_pow_sub_one_eq_mod]
/-- The constants of SHA-256. -/
def KG (L : Heap) : Prop := ∃ (fr : Nat × Nat) (ks : List Int), ks.length = 64 ∧ (1, blk 209 fr (iu .u32 ks)) ∈ L
section
variable {w0 : World} {tm : Slots} {L : Heap} {d : Option Tmp} {t : TypeId} {p : String} {af : Array Edge} {g : Option (Nat × Bool)} {x : Operand} {xt : TypeId}
theorem n_and15 {m : Nat} {yt : TypeId} (hx : ev tm x = some (.int .i64 (m : Int))) (hm : m < 9223372036854775808) : Val w0 tm L ⟨d, .binOp .and xt x (.const (.int .i64 15)) yt, t, p, af, g⟩ (.int .i64 ((m % 16 : Nat) : Int)) :=
  (v_and hx rfl).cast (by rw [and15_i64 hm])
/-- A struct without fields is loaded. -/
theorem v_load_empty {b off : Nat} (hg : ∀ w, (isAgg xt).run P w = .ok true w) (hz : ∀ w, (sizeOf xt).run P w = .ok 0 w) (hx : ev tm x = some (.pointer (some ⟨b, off, none⟩))) : Val w0 tm L ⟨d, .load xt x, t, p, af, g⟩ (.agg #[]) := .mk fun a w ha _ => by
  simp [execOp, ev_eval ha hx, Instr.loadAt, Instr.sureAddr, loadVar, hg, hz, loadCells, loadCellsFrom]
end
end Go.Proofs.YtljoodllnaekbaaGreatDoor

namespace Go.Proofs.YtljoodllnaekbaaGreatDoor
open Go

theorem HW.take {w0 w : World} {y : Nat × Obj} {A L : Heap} [h : Ex y A L] (hw : HW w0 A w) : HW w0 (y :: L) w := hw.perm h.out
theorem KG.mono {L L' : Heap} (h : KG L) (hs : ∀ x ∈ L, x ∈ L') : KG L' := by
  obtain ⟨fr, ks, h1, h2⟩ := h
  exact ⟨fr, ks, h1, hs _ h2⟩
theorem i8_all (xs : List Int) : (i8 xs).all Value.oneCell' = true := List.all_eq_true.2 (iu_one _ xs)
theorem dgC_all {hs xs : List Int} {nx len : Int} {r : List Value} (hr : r.all Value.oneCell' = true) : (dgC hs xs nx len r).all Value.oneCell' = true := by
  unfold dgC
  rw [List.all_append, List.all_append, List.all_cons, List.all_cons, hr, i8_all, List.all_eq_true.2 (iu_one _ hs)]
  rfl
theorem iu_set_add (k : IntKind) (xs : List Int) (o i : Nat) (v : Int) : (iu k xs).set (o + i) (.int k v) = iu k (xs.set (o + i) v) := iu_set _ _ _ _
section
variable {w0 : World} {tm : Slots} {L : Heap} {d : Option Tmp} {t : TypeId} {p : String} {af : Array Edge} {g : Option (Nat × Bool)} {x y : Operand} {xt e : TypeId} {m : Nat}
theorem n_ixo {b off l c : Nat} {ki : IntKind} (hs : ∀ w, (underlying xt).run P w = .ok (.slice e) w) (hz : ∀ w, (sizeOf e).run P w = .ok 1 w) (hx : ev tm x = some (.slice (some ⟨b, off, none⟩) l c)) (hy : ev tm y = some (.int ki (m : Int)))
    (h0 : m < l) : Val w0 tm L ⟨d, .indexAddr xt x y, t, p, af, g⟩ (.pointer (some ⟨b, off + m, none⟩)) :=
  (v_index hs hz hx hy rfl (by omega)).cast (by rw [add_block]; simp)
theorem u64_rem {c : Int} {n : Nat} {yt : TypeId} (hx : ev tm x = some (.int .u64 (m : Int))) (hy : ev tm y = some (.int .u64 c)) (hc : c = (n : Int)) (hn : 0 < n) : Val w0 tm L ⟨d, .binOp .rem xt x y yt, t, p, af, g⟩ (.int .u64 ((m % n : Nat) : Int)) :=
  (v_rem hx hy (by omega)).cast (by subst hc; rfl)
theorem u64_sub {c : Int} {n : Nat} {yt : TypeId} (hx : ev tm x = some (.int .u64 c)) (hy : ev tm y = some (.int .u64 (n : Int))) (hc : c = (m : Int)) (hn : n ≤ m) (hm : m < 18446744073709551616) : Val w0 tm L ⟨d, .binOp .sub xt x y yt, t, p, af, g⟩ (.int .u64 ((m - n : Nat) : Int)) :=
  (v_sub hx hy).cast (by rw [hc, show (m : Int) - (n : Int) = ((m - n : Nat) : Int) from by omega, wrap_u64_lt (by omega)])
end
end Go.Proofs.YtljoodllnaekbaaGreatDoor

namespace Go.Proofs.YtljoodllnaekbaaGreatDoor
open Go

theorem rotate_any (w0 w : World) (L : Heap) (x c : Int) (hw : HW w0 L w) :
    Calls P 101 #[.int .u32 x, .int .i64 c] w fun e w' => ∃ y, e = .returned (.int .u32 y) ∧ HW w0 L w' := by
  refine enter (us := [.int .u32 x, .int .i64 c]) Tryz.func101 rfl Tryz.ntmps101 (by simp) rfl ?_ hw
  refine WC.seq ?_
  refine WC.region ?_
  refine WL.val (v_assign rfl) rfl ?_
  refine WL.nil ?_
  refine EX.next ?_
  refine WC.seq ?_
  refine WC.region ?_
  refine WL.val (v_move rfl) rfl ?_
  refine WL.val (v_conv Tryz.runUnderlying3 Tryz.runUnderlying92 rfl) rfl ?_
  refine WL.val (v_and rfl rfl) rfl ?_
  refine WL.val (v_assign rfl) rfl ?_
  refine WL.nil ?_
  refine EX.next ?_
  refine WC.seq ?_
  refine WC.region ?_
  refine WL.val (v_move rfl) rfl ?_
  refine WL.val (v_move rfl) rfl ?_
  refine WL.val (v_shl rfl rfl (by exact wrap_u64_nonneg _)) rfl ?_
  refine WL.val (v_move rfl) rfl ?_
  refine WL.val (v_move rfl) rfl ?_
  refine WL.val (v_sub rfl rfl) rfl ?_
  refine WL.val (v_shr rfl rfl (by exact wrap_u64_nonneg _)) rfl ?_
  refine WL.val (v_or rfl rfl) rfl ?_
  refine WL.val (v_assign rfl) rfl ?_
  refine WL.nil ?_
  refine EX.next ?_
  refine WC.ret ?_
  exact ret1 Tryz.results101 rfl fun w hw => ⟨_, rfl, hw⟩
end Go.Proofs.YtljoodllnaekbaaGreatDoor
