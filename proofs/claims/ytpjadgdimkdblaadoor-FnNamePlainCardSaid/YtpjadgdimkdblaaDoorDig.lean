/- digits9 of a number below 100. -/
import Derived.Test.YtpjadgdimkdblaaDoorProg
import Derived.Test.YtpjadgdimkdblaaDoorWords
import Derived.WalkKit
import Derived.Lib.ItoaNum
import Derived.Laws.IdiomStrings
namespace Go.Proofs.YtpjadgdimkdblaaDoor
open Go.RowKit
set_option linter.unusedVariables false

def dg (c : Int) : ByteArray := ⟨#[UInt8.ofNat c.toNat]⟩
theorem dg_size (c : Int) : (dg c).size = 1 := rfl
theorem conv_one (w : World) (c : Int) (h0 : 0 ≤ c) (h1 : c < 256) : (convert 59 9 (.slice (some ⟨w.heap.size, 0, none⟩) 1 1)).run Tryd.prog (w.alloc (.cells #[.int .u8 c] 5)) = .ok (.string (dg c)) (w.alloc (.cells #[.int .u8 c] 5)) := by
  refine run_convert_bytes_back (P := Tryd.prog) (w.alloc (.cells #[.int .u8 c] 5)) 59 9 5 ⟨w.heap.size, 0, none⟩ 1 [UInt8.ofNat c.toNat] Tryd.underlying59 Tryd.underlying5 Tryd.underlying9 ?_
  intro j hj
  have hj0 : j = 0 := by simpa using hj
  subst hj0
  have hadd : (⟨w.heap.size, 0, none⟩ : Addr).add 0 = ⟨w.heap.size, 0, none⟩ := by unfold Addr.add; split <;> simp_all
  rw [hadd, cell_of_row _ _ _ _ _ _ (heap_alloc_new w _)]
  show some (Value.int .u8 c) = some (.int .u8 ((UInt8.ofNat c.toNat).toNat : Int))
  rw [UInt8.toNat_ofNat']
  congr 2
  omega
theorem dig_step {i m : Nat} {s : ByteArray} {l : List UInt8} (h : Lib.decDigits i = Lib.decDigits m ++ l) (hs : s.data.toList = l) (h9 : 9 < m) : Lib.decDigits i = Lib.decDigits (m / 10) ++ (dg (48 + (m : Int) % 10) ++ s).data.toList := by
  rw [h, Lib.decDigits, dif_neg (by omega), app_list, hs, List.append_assoc]
  show _ ++ ([UInt8.ofNat (48 + m % 10)] ++ l) = _ ++ ([UInt8.ofNat ((48 + (m : Int) % 10).toNat)] ++ l)
  rw [show (48 + (m : Int) % 10).toNat = 48 + m % 10 from by omega]
theorem dig_end {i m : Nat} {s : ByteArray} {l : List UInt8} (h : Lib.decDigits i = Lib.decDigits m ++ l) (hs : s.data.toList = l) (h9 : ¬ 9 < m) : dg (48 + (m : Int)) ++ s = ⟨(Lib.decDigits i).toArray⟩ := by
  apply ext_list
  rw [app_list, hs]
  show [UInt8.ofNat ((48 + (m : Int)).toNat)] ++ l = Lib.decDigits i
  rw [h, Lib.decDigits, dif_pos (by omega), show (48 + (m : Int)).toNat = 48 + m from by omega]
theorem ret_string1 {a b : ByteArray} (h : a = b) : Ending.returned (.string a) = .returned (.string b) := by rw [h]
set_option maxHeartbeats 1000000 in
set_option maxRecDepth 100000 in
theorem digits9_small (i : Nat) (hi : i < 100) (w : World) :
    Calls Tryd.prog 24 #[.int .i64 i] w fun e w' => e = .returned (.string ⟨(Lib.decDigits i).toArray⟩) ∧ Below w.heap.size w w' := by
  go_enter Tryd.func24, Tryd.ntmps24
  go_wp2_with fail
  go_loopw [0, 3] (fun nv ov wr => ∃ (m : Nat) (s : ByteArray) (l : List UInt8), nv = .int .i64 m ∧ ov = .string s ∧ m < 100 ∧ s.size ≤ 100 ∧ (s.size = 0 ∨ m < 10) ∧ Hid (s.data.toList = l) ∧ Hid (Lib.decDigits i = Lib.decDigits m ++ l) ∧ Hid (Below w.heap.size w wr)) (fun nv _ _ => (intOf nv).toNat)
  case atStart => exact ⟨i, ⟨#[]⟩, [], rfl, rfl, hi, by decide, Or.inl rfl, Lib.hid rfl, Lib.hid (by simp), Lib.hid (Below.refl _ _)⟩
  case round =>
    obtain ⟨m, s, l, rfl, rfl, hm, hl, hml, HL, HD, HB⟩ := hrel
    by_cases h9 : 9 < m
    · have h9i : (9 : Int) < m := by omega
      have hconv := conv_one wr (48 + (m : Int) % 10) (by omega) (by omega)
      have hz := dg_size (48 + (m : Int) % 10)
      have HDS := Lib.hid (dig_step HD.out HL.out h9)
      go_wp2_with fail
      go_roundw
      case rel =>
        refine ⟨m / 10, _, _, by go_num, rfl, by omega, ?_, ?_, Lib.hid rfl, HDS, Lib.hid (HB.out.alloc HB.out.size _)⟩
        · rw [ByteArray.size_append', dg_size]; omega
        · rw [ByteArray.size_append', dg_size]; omega
      case measure => simp [intOf]; omega
    · have h9i : ¬ (9 : Int) < m := by omega
      have hconv := conv_one wr (48 + (m : Int)) (by omega) (by omega)
      have hz := dg_size (48 + (m : Int))
      have HDE := Lib.hid (dig_end HD.out HL.out h9)
      go_wp2_with fail
      go_ret
      exact ⟨ret_string1 HDE.out, HB.out.alloc HB.out.size _⟩
end Go.Proofs.YtpjadgdimkdblaaDoor
