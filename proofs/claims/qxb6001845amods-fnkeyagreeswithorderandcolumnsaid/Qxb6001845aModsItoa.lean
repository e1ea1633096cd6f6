/-
  zzItoa: some text whose decimal value is the number.
-/
import Derived.Test.Qxb6001845aModsBase
namespace Go.Proofs.Qxb6001845aMods
open Go.RowKit

/-- The decimal value of a text. -/
def val : List UInt8 → Nat
  | [] => 0
  | c :: l => (c.toNat - 48) * 10 ^ l.length + val l

/-- The text of one digit. -/
def dig (q : Nat) : ByteArray := ⟨#[UInt8.ofNat (48 + q % 10)]⟩

theorem dig_size (q : Nat) : (dig q).size ≤ 1 := Nat.le_refl 1

theorem val_step (q n : Nat) (s : ByteArray) (h : q * 10 ^ s.size + val s.data.toList = n) :
    (q / 10) * 10 ^ (dig q ++ s).size + val (dig q ++ s).data.toList = n := by
  have e1 : (dig q ++ s).data.toList = UInt8.ofNat (48 + q % 10) :: s.data.toList := by
    simp [dig, ByteArray.data_append]
  have e2 : (dig q ++ s).size = s.size + 1 := by
    rw [ByteArray.size_append]
    show 1 + s.size = _
    omega
  have e3 : (UInt8.ofNat (48 + q % 10)).toNat - 48 = q % 10 := by
    rw [UInt8.toNat_ofNat', Nat.mod_eq_of_lt (by omega)]; omega
  have e4 : s.data.toList.length = s.size := Array.length_toList
  rw [e1, e2, val, e3, e4, Nat.pow_succ]
  have e5 : q / 10 * (10 ^ s.size * 10) + (q % 10 * 10 ^ s.size + val s.data.toList) = (10 * (q / 10) + q % 10) * 10 ^ s.size + val s.data.toList := by
    rw [Nat.add_mul, Nat.mul_comm (10 ^ s.size) 10, ← Nat.mul_assoc, Nat.mul_comm (q / 10) 10]
    omega
  rw [e5, Nat.div_add_mod, h]

theorem conv_one (w : World) (q : Nat) :
    (convert 53 9 (.slice (some ⟨w.heap.size, 0, none⟩) 1 1)).run Trym.prog (w.alloc (.cells #[.int .u8 (48 + (q : Int) % 10)] 5)) = .ok (.string (dig q)) (w.alloc (.cells #[.int .u8 (48 + (q : Int) % 10)] 5)) := by
  rw [run_convert_bytes_string _ 53 9 5 _ _ _ Trym.underlying53 Trym.underlying5 Trym.underlying9, run_bytesToString _ _ 1 1 [48 + (q : Int) % 10]]
  · have e : (48 + (q : Int) % 10).toNat = 48 + q % 10 := by omega
    simp [e, dig]
    rfl
  · have h := run_loadCells_list (P := Trym.prog) (w := w.alloc (.cells #[.int .u8 (48 + (q : Int) % 10)] 5)) ⟨w.heap.size, 0, none⟩ [.int .u8 (48 + (q : Int) % 10)] (by
      intro j v hj
      match j, hj with
      | 0, hj => simp at hj; subst hj; simp [Addr.add])
    exact h

set_option maxHeartbeats 400000 in
theorem itoa (n : Nat) (w : World) (hn : n ≤ 65536) :
    Calls Trym.prog 17 #[.int .i64 n] w fun e w' => (∃ s : ByteArray, e = .returned (.string s) ∧ val s.data.toList = n ∧ s.size ≤ 65537) ∧ Below w.heap.size w w' := by
  by_cases h0 : n = 0
  · subst h0
    go_enter Trym.func17, Trym.ntmps17
    go_wp2
    go_ret
    exact ⟨⟨_, rfl, by decide, by decide⟩, Below.refl _ _⟩
  go_enter Trym.func17, Trym.ntmps17
  go_wp2
  go_loopw [0, 3] (fun i v wr => ∃ (q : Nat) (s : ByteArray), i = .int .i64 q ∧ v = .string s ∧ q * 10 ^ s.size + val s.data.toList = n ∧ s.size + q ≤ 65536 ∧ Below w.heap.size w wr) (fun i _ _ => (intOf i).toNat)
  case atStart => exact ⟨n, _, rfl, rfl, by show n * 10 ^ 0 + 0 = n; omega, by show 0 + n ≤ 65536; omega, Below.refl _ _⟩
  case round =>
    obtain ⟨q, s, rfl, rfl, hv, hs, hb⟩ := hrel
    have HV : Hid (q * 10 ^ s.size + val s.data.toList = n) := hv
    clear hv h0
    by_cases hq : 0 < q
    · have hcv := conv_one wr q
      have hd := dig_size q
      have hb' := hb.alloc hb.size (.cells #[.int .u8 (48 + (q : Int) % 10)] 5)
      have hsz : ((dig q).size + s.size > 9223372036854775807) = False := by simp; omega
      have HV2 : Hid ((q / 10) * 10 ^ (dig q ++ s).size + val (dig q ++ s).data.toList = n) := val_step q n s HV.out
      have HSZ : Hid ((dig q ++ s).size = (dig q).size + s.size) := ByteArray.size_append
      clear HV
      generalize dig q = D at *
      go_wp2
      go_roundw
      case rel => exact ⟨q / 10, D ++ s, by go_num, rfl, HV2.out, by rw [HSZ.out]; omega, hb'⟩
      case measure => simp [intOf]; omega
    · go_wp2
      go_ret
      obtain rfl : q = 0 := by omega
      refine ⟨⟨s, rfl, ?_, by omega⟩, hb⟩
      have := HV.out
      omega

end Go.Proofs.Qxb6001845aMods
