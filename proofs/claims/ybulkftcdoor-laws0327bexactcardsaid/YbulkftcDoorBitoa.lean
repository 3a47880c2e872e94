/-
  The contract of config.zzs0327bitoa: the decimal numeral of every int, digit by digit from the back of a buffer of 24 bytes.
-/
import Derived.Test.YbulkftcDoorItoa
import Derived.WalkKit
import Derived.ProofKit
import Derived.Laws.IdiomStrings
import Derived.Lib.ItoaMem
namespace Go.Proofs.YbulkftcDoor
open Go.RowKit

/-- The buffer of zzs0327bitoa in the world wr: its 24 cells are there and not frozen; from k on they hold the bytes D. -/
structure Buf (w wr : World) (k : Nat) (D : List UInt8) : Prop where
  there : ∀ j, j < 24 → ∃ v, wr.cell? ⟨w.heap.size, j, none⟩ = some v
  frozen : ∀ j, wr.frozen? ⟨w.heap.size, j, none⟩ = false
  held : ∀ j (hj : j < D.length), wr.cell? ⟨w.heap.size, k + j, none⟩ = some (.int .u8 (D[j]).toNat)
  below : Below w.heap.size w wr

/-- One byte more, ahead of those that lie there. -/
theorem Buf.push {w wr : World} {k : Nat} {D : List UInt8} (h : Buf w wr (k + 1) D) (hk : k < 24) (c : UInt8) : Buf w (wr.setCell ⟨w.heap.size, k, none⟩ (.int .u8 c.toNat)) k (c :: D) := by
  obtain ⟨v, hv⟩ := h.there k hk
  refine ⟨fun j hj => ?_, fun j => ?_, fun j hj => ?_, h.below.setCell (by simp) _⟩
  · by_cases e : j = k
    · subst e; exact ⟨_, World.cell?_setCell_same _ _ _ hv⟩
    · obtain ⟨u, hu⟩ := h.there j hj
      exact ⟨u, (World.cell?_setCell_other _ _ _ _ (by simp)).trans hu⟩
  · rw [World.frozen?_setCell]; exact h.frozen j
  · cases j with
    | zero => exact World.cell?_setCell_same _ _ _ hv
    | succ j =>
      have hj' : j < D.length := by simpa using hj
      rw [World.cell?_setCell_other _ _ _ _ (by simp), List.getElem_cons_succ, show k + (j + 1) = k + 1 + j by omega]
      exact h.held j hj'

/-- 'string(buf[k:])': the bytes that lie there. -/
theorem Buf.text {w wr : World} {k : Nat} {D : List UInt8} (h : Buf w wr k D) (hD : D.length = 24 - k) :
    (convert 30 9 (.slice (some ⟨w.heap.size, k, none⟩) (24 - k) (24 - k))).run Ybad.prog wr = .ok (.string ⟨D.toArray⟩) wr := by
  have := run_convert_bytes_back (P := Ybad.prog) wr 30 9 5 ⟨w.heap.size, k, none⟩ (24 - k) D Ybad.underlying30 Ybad.underlying5 Ybad.underlying9 (fun j hj => by rw [Lib.add_plain]; exact h.held j hj)
  rw [hD] at this
  exact this

theorem arr24 : Ybad.prog.arrayLen 29 = 24 := by kernel_rfl
/-- 'buf[k:]'. -/
theorem cut_from (b k : Nat) (hk : k < 24) (W : World) : (Instr.sliceAt 29 (.pointer (some ⟨b, 0, none⟩)) (some (.int .i64 k)) none none).run Ybad.prog W = .ok (.slice (some ⟨b, k, none⟩) (24 - k) (24 - k)) W := by
  rw [run_sliceAt_array_l W 29 ⟨b, 0, none⟩ (by kernel_rfl) .i64 k (by omega) (by rw [arr24]; omega), arr24]
  have hs : (sizeOf (Ybad.prog.elem 29)).run Ybad.prog W = .ok 1 W := by kernel_rfl
  rw [hs]
  have hne : ¬ 24 = k := by omega
  simp [Result.andThen, slicedAt, hne, Addr.add_lit]

theorem dig (x : Nat) : (48 + (x : Int) % 10) = ((UInt8.ofNat (48 + x % 10)).toNat : Int) := by
  have : (UInt8.ofNat (48 + x % 10)).toNat = 48 + x % 10 := by
    rw [UInt8.toNat_ofNat']
    omega
  rw [this]; omega
theorem digits_last (x : Nat) (h : x < 10) : Lib.decDigits x = [UInt8.ofNat (48 + x % 10)] := by
  rw [Lib.decDigits, dif_pos h, Nat.mod_eq_of_lt h]
theorem digits_more (x : Nat) (h : ¬ x < 10) : Lib.decDigits x = Lib.decDigits (x / 10) ++ [UInt8.ofNat (48 + x % 10)] := by
  rw [Lib.decDigits, dif_neg h]

theorem zero_buf (w : World) (t : TypeId) : Buf w (w.alloc (.cells #[.int .u8 0, .int .u8 0, .int .u8 0, .int .u8 0, .int .u8 0, .int .u8 0, .int .u8 0, .int .u8 0, .int .u8 0, .int .u8 0, .int .u8 0, .int .u8 0, .int .u8 0, .int .u8 0, .int .u8 0, .int .u8 0, .int .u8 0, .int .u8 0, .int .u8 0, .int .u8 0, .int .u8 0, .int .u8 0, .int .u8 0, .int .u8 0] t)) 24 [] := by
  refine ⟨fun j hj => ?_, fun j => World.frozen?_alloc_at _ _ _ _ rfl, fun j hj => by simp at hj, (Below.refl _ _).alloc (Nat.le_refl _) _⟩
  refine ⟨.int .u8 0, ?_⟩
  rw [World.cell?_alloc_new]
  have : j = 0 ∨ j = 1 ∨ j = 2 ∨ j = 3 ∨ j = 4 ∨ j = 5 ∨ j = 6 ∨ j = 7 ∨ j = 8 ∨ j = 9 ∨ j = 10 ∨ j = 11 ∨ j = 12 ∨ j = 13 ∨ j = 14 ∨ j = 15 ∨ j = 16 ∨ j = 17 ∨ j = 18 ∨ j = 19 ∨ j = 20 ∨ j = 21 ∨ j = 22 ∨ j = 23 := by omega
  rcases this with rfl | rfl | rfl | rfl | rfl | rfl | rfl | rfl | rfl | rfl | rfl | rfl | rfl | rfl | rfl | rfl | rfl | rfl | rfl | rfl | rfl | rfl | rfl | rfl <;> rfl

theorem pow_room {x k : Nat} (h : x < 10 ^ (k + 1 - 4)) (hk : 5 ≤ k + 1) (hx : ¬ x < 10) : 5 ≤ k ∧ x / 10 < 10 ^ (k - 4) := by
  have h5 : 5 ≤ k := by
    apply Classical.byContradiction
    intro hn
    have : k + 1 - 4 = 1 := by omega
    rw [this] at h
    omega
  refine ⟨h5, ?_⟩
  have e : k + 1 - 4 = (k - 4) + 1 := by omega
  rw [e, Nat.pow_succ] at h
  exact Nat.div_lt_of_lt_mul (by rw [Nat.mul_comm]; exact h)

set_option maxHeartbeats 1000000 in
theorem bitoa_pos (U : Nat) (w : World) (hU : U < 100000000000000000000) (h1 : (U : Int) ≤ 9223372036854775807) :
    Calls Ybad.prog 6 #[.int .i64 U] w fun e w' => e = .returned (.string (num U)) ∧ Below w.heap.size w w' := by
  have hno : ¬ (U : Int) < 0 := by omega
  go_enter Ybad.func6, Ybad.ntmps6
  go_wp2_with fail
  go_loopw [4, 6] (fun s4 s6 wr => ∃ (x k : Nat) (D : List UInt8), s4 = .int .u64 x ∧ s6 = .int .i64 k ∧ 5 ≤ k ∧ k ≤ 24 ∧ x ≤ U ∧ x < 10 ^ (k - 4) ∧ D.length = 24 - k ∧ Lib.decDigits U = Lib.decDigits x ++ D ∧ Buf w wr k D) (fun s4 _ _ => (intOf s4).toNat)
  case atStart => exact ⟨U, 24, [], rfl, rfl, by omega, by omega, Nat.le_refl _, Nat.lt_of_lt_of_le hU (by decide), rfl, (List.append_nil _).symm, zero_buf w 29⟩
  case round =>
    obtain ⟨x, k, D, rfl, rfl, hk5, hk24, hxU, hx, hD, hdig, hbuf⟩ := hrel
    have hxb : (x : Int) ≤ 9223372036854775808 := by omega
    obtain ⟨k, rfl⟩ : ∃ k', k = k' + 1 := ⟨k - 1, by omega⟩
    have HDIG : Hid (Lib.decDigits U = Lib.decDigits x ++ D) := hdig
    have HD : Hid (D.length = 24 - (k + 1)) := hD
    have HX : Hid (x < 10 ^ (k + 1 - 4)) := hx
    clear hdig hD hx hU
    obtain ⟨v, hc⟩ := hbuf.there k (by omega)
    have hfz := hbuf.frozen k
    have HP := hbuf.push (by omega : k < 24) (UInt8.ofNat (48 + x % 10))
    have HPB : Hid (Buf w (wr.setCell ⟨w.heap.size, k, none⟩ (.int .u8 (48 + (x : Int) % 10))) k (UInt8.ofNat (48 + x % 10) :: D)) := by rw [dig x]; exact HP
    clear HP
    by_cases hlt : x < 10
    · have ht : ((x : Int) / 10 == 0) = true := beq_iff_eq.2 (by omega)
      have hsl := cut_from w.heap.size k (by omega)
      have hcv := HPB.out.text (by rw [List.length_cons, HD.out]; omega)
      have HT : Hid (Lib.decDigits U = UInt8.ofNat (48 + x % 10) :: D) := by
        show Lib.decDigits U = UInt8.ofNat (48 + x % 10) :: D
        rw [HDIG.out, digits_last x hlt]; rfl
      rw [← HT.out] at hcv
      go_wp2_with fail
      go_ret
      exact ⟨by rw [num, Lib.itoa_nonneg]; rfl, HPB.out.below⟩
    · have ht : ((x : Int) / 10 == 0) = false := beq_eq_false_iff_ne.2 (by omega)
      go_wp2_with fail
      go_roundw
      case rel =>
        obtain ⟨p1, p2⟩ := pow_room HX.out hk5 hlt
        exact ⟨x / 10, k, UInt8.ofNat (48 + x % 10) :: D, by go_num, rfl, p1, by omega, by omega, p2, by rw [List.length_cons, HD.out]; omega, by rw [HDIG.out, digits_more x hlt, List.append_assoc]; rfl, HPB.out⟩
      case measure => simp [intOf]; omega


set_option maxHeartbeats 1000000 in
theorem bitoa_neg (U : Nat) (w : World) (hU : U < 100000000000000000000) (hU1 : 1 ≤ U) (h1 : (U : Int) ≤ 9223372036854775808) :
    Calls Ybad.prog 6 #[.int .i64 (-(U : Int))] w fun e w' => e = .returned (.string (num (-(U : Int)))) ∧ Below w.heap.size w w' := by
  have hyes : -(U : Int) < 0 := by omega
  have hwr : IntKind.u64.wrap (-IntKind.u64.wrap (-(U : Int))) = (U : Int) := by rw [IntKind.wrap_u64, IntKind.wrap_u64]; omega
  go_enter Ybad.func6, Ybad.ntmps6
  go_wp2_with fail
  go_loopw [4, 6] (fun s4 s6 wr => ∃ (x k : Nat) (D : List UInt8), s4 = .int .u64 x ∧ s6 = .int .i64 k ∧ 5 ≤ k ∧ k ≤ 24 ∧ x ≤ U ∧ x < 10 ^ (k - 4) ∧ D.length = 24 - k ∧ Lib.decDigits U = Lib.decDigits x ++ D ∧ Buf w wr k D) (fun s4 _ _ => (intOf s4).toNat)
  case atStart => exact ⟨U, 24, [], rfl, rfl, by omega, by omega, Nat.le_refl _, Nat.lt_of_lt_of_le hU (by decide), rfl, (List.append_nil _).symm, zero_buf w 29⟩
  case round =>
    obtain ⟨x, k, D, rfl, rfl, hk5, hk24, hxU, hx, hD, hdig, hbuf⟩ := hrel
    have hxb : (x : Int) ≤ 9223372036854775808 := by omega
    obtain ⟨k, rfl⟩ : ∃ k', k = k' + 1 := ⟨k - 1, by omega⟩
    have HDIG : Hid (Lib.decDigits U = Lib.decDigits x ++ D) := hdig
    have HD : Hid (D.length = 24 - (k + 1)) := hD
    have HX : Hid (x < 10 ^ (k + 1 - 4)) := hx
    clear hdig hD hx hU
    obtain ⟨v, hc⟩ := hbuf.there k (by omega)
    have hfz := hbuf.frozen k
    have HP := hbuf.push (by omega : k < 24) (UInt8.ofNat (48 + x % 10))
    have HPB : Hid (Buf w (wr.setCell ⟨w.heap.size, k, none⟩ (.int .u8 (48 + (x : Int) % 10))) k (UInt8.ofNat (48 + x % 10) :: D)) := by rw [dig x]; exact HP
    clear HP
    by_cases hlt : x < 10
    · have ht : ((x : Int) / 10 == 0) = true := beq_iff_eq.2 (by omega)
      have h4 : 4 ≤ k := by omega
      obtain ⟨k, rfl⟩ : ∃ k', k = k' + 1 := ⟨k - 1, by omega⟩
      obtain ⟨v2, hc2⟩ := HPB.out.there k (by omega)
      have hfz2 := HPB.out.frozen k
      have HPM : Hid (Buf w ((wr.setCell ⟨w.heap.size, k + 1, none⟩ (.int .u8 (48 + (x : Int) % 10))).setCell ⟨w.heap.size, k, none⟩ (.int .u8 45)) k (45 :: UInt8.ofNat (48 + x % 10) :: D)) := HPB.out.push (by omega : k < 24) 45
      have hsl := cut_from w.heap.size k (by omega)
      have hcv := HPM.out.text (by rw [List.length_cons, List.length_cons, HD.out]; omega)
      have HT : Hid (Lib.decDigits U = UInt8.ofNat (48 + x % 10) :: D) := by
        show Lib.decDigits U = UInt8.ofNat (48 + x % 10) :: D
        rw [HDIG.out, digits_last x hlt]; rfl
      rw [← HT.out] at hcv
      go_wp2_with fail
      go_ret
      exact ⟨by rw [num, Lib.itoa_neg U hU1]; rfl, HPM.out.below⟩
    · have ht : ((x : Int) / 10 == 0) = false := beq_eq_false_iff_ne.2 (by omega)
      go_wp2_with fail
      go_roundw
      case rel =>
        obtain ⟨p1, p2⟩ := pow_room HX.out hk5 hlt
        exact ⟨x / 10, k, UInt8.ofNat (48 + x % 10) :: D, by go_num, rfl, p1, by omega, by omega, p2, by rw [List.length_cons, HD.out]; omega, by rw [HDIG.out, digits_more x hlt, List.append_assoc]; rfl, HPB.out⟩
      case measure => simp [intOf]; omega

theorem bitoa_any (n : Int) (h0 : -9223372036854775808 ≤ n) (h1 : n ≤ 9223372036854775807) (w : World) :
    Calls Ybad.prog 6 #[.int .i64 n] w fun e w' => e = .returned (.string (num n)) ∧ Below w.heap.size w w' := by
  by_cases hn : n < 0
  · obtain ⟨u, rfl⟩ : ∃ u : Nat, n = -(u : Int) := ⟨n.natAbs, by omega⟩
    exact bitoa_neg u w (by omega) (by omega) (by omega)
  · obtain ⟨u, rfl⟩ : ∃ u : Nat, n = u := ⟨n.toNat, by omega⟩
    exact bitoa_pos u w (by omega) h1
end Go.Proofs.YbulkftcDoor
