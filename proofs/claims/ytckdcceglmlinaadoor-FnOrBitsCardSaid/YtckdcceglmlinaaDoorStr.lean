/- The walks that write numbers: the reference's decimal and Text, the package's String. Condition: the numbers are small. -/
import Derived.Test.YtckdcceglmlinaaDoorMade
import Derived.Test.YtckdcceglmlinaaDoorShelf
import Derived.Laws.IdiomStrings
import Derived.Laws.Concat
namespace Go.Proofs.YtckdcceglmlinaaDoor
open Go.RowKit
set_option linter.unusedSimpArgs false

def bts (l : List UInt8) : ByteArray := ⟨l.toArray⟩
theorem bts_size (l : List UInt8) : (bts l).size = l.length := by show l.toArray.size = _; simp
theorem bts_cat (l m : List UInt8) : bts l ++ bts m = bts (l ++ m) := by
  unfold bts
  rw [ByteArray.mk_append_mk]
theorem cat_run (l m : List UInt8) (w : World) (h : l.length + m.length ≤ 9223372036854775807) : (Op.stringOp .add (bts l) (bts m)).run Tryd.prog w = .ok (.string (bts (l ++ m))) w := by
  rw [run_string_add_sum w _ _ (by rw [bts_size, bts_size]; exact h), bts_cat]
/-- a numeral is handed back -/
def StrPost (l : List UInt8) (w : World) (e : Ending) (w' : World) : Prop := e = .returned (.string (bts l)) ∧ Below w.heap.size w w'

theorem digit_u8 (n : Nat) (h : n < 10) : (48 + (n : Int)) = (((UInt8.ofNat (48 + n)).toNat : Nat) : Int) := by
  have : ∀ n : Fin 10, (48 + ((n.val : Nat) : Int)) = (((UInt8.ofNat (48 + n.val)).toNat : Nat) : Int) := by decide +kernel
  exact this ⟨n, h⟩
/-- one digit, as a string -/
theorem digit_run (k : Nat) (w : World) : (convert 57 9 (.slice (some ⟨w.heap.size, 0, none⟩) 1 1)).run Tryd.prog (w.alloc (.cells #[.int .u8 (48 + (k : Int) % 10)] 5)) = .ok (.string (bts [UInt8.ofNat (48 + k % 10)])) (w.alloc (.cells #[.int .u8 (48 + (k : Int) % 10)] 5)) := by
  refine run_convert_bytes_back _ 57 9 5 ⟨w.heap.size, 0, none⟩ 1 [UInt8.ofNat (48 + k % 10)] Tryd.underlying57 Tryd.underlying5 Tryd.underlying9 (fun j hj => ?_)
  simp only [List.length_singleton] at hj
  obtain rfl : j = 0 := by omega
  have e : (48 + (k : Int) % 10) = (((UInt8.ofNat (48 + k % 10)).toNat : Nat) : Int) := by
    rw [← digit_u8 (k % 10) (by omega)]; omega
  rw [show (⟨w.heap.size, 0, none⟩ : Addr).add 0 = ⟨w.heap.size, 0, none⟩ from rfl, World.cell?_alloc_at _ _ _ _ rfl]
  simp only [List.getElem_cons_zero]
  rw [← e]; rfl
set_option maxHeartbeats 1000000 in
theorem decimal_any (n : Nat) (hn : n ≤ 1000000) (w : World) : Calls Tryd.prog 16 #[.int .i64 (n : Int)] w (StrPost (Lib.itoa (n : Int)) w) := by
  rw [Lib.itoa_nonneg]
  go_enter Tryd.func16, Tryd.ntmps16
  go_wp2_with fail
  go_loopw [0, 3] (fun v o wr => ∃ (k : Nat) (l : List UInt8), k ≤ 1000000 ∧ v = .int .i64 (k : Int) ∧ o = .string (bts l) ∧ l.length + k ≤ 1000000 + 20 ∧ Hid (Lib.decDigits k ++ l = Lib.decDigits n) ∧ Hid (Below w.heap.size w wr)) (fun v _ _ => (intOf v).toNat)
  case atStart => exact ⟨n, [], hn, rfl, rfl, by simp; omega, Lib.hid (by simp), Lib.hid (Below.refl _ _)⟩
  case round =>
    obtain ⟨k, l, hk, rfl, rfl, hl, HL, HB⟩ := hrel
    have HB2 := Lib.hid (HB.out.alloc HB.out.size (.cells #[.int .u8 (48 + (k : Int) % 10)] 5))
    have hdr := digit_run k wr
    generalize hD : UInt8.ofNat (48 + k % 10) = D at *
    have HD := Lib.hid hD
    have hcat := fun wx => cat_run [D] l wx (by simp; omega)
    clear hD
    by_cases hz : k < 10
    · have hz' : ((k : Int) / 10 == 0) = true := by rw [beq_iff_eq]; omega
      go_wp2_with fail
      go_ret
      refine ⟨?_, HB2.out⟩
      rw [← HL.out, Lib.decDigits, dif_pos hz, ← HD.out, Nat.mod_eq_of_lt hz]
      rfl
    · have hz' : ((k : Int) / 10 == 0) = false := by rw [beq_eq_false_iff_ne]; omega
      go_wp2_with fail
      refine ⟨⟨k / 10, D :: l, by omega, by rfl, rfl, by simp; omega, Lib.hid ?_, HB2⟩, by simp only [intOf]; omega⟩
      rw [← HL.out, Lib.decDigits.eq_1 k, dif_neg hz, HD.out]
      simp

/-- the text of the first k -/
def outK (l : List Nat) (k : Nat) : List UInt8 := 123 :: Lib.join ((l.take k).map fun (n : Nat) => Lib.itoa (n : Int)) [44, 32]
theorem outK_len (l : List Nat) (k : Nat) (h : ∀ n ∈ l, n ≤ 1000000) : (outK l k).length ≤ 1 + 23 * l.length := by
  unfold outK
  rw [List.length_cons]
  have := join_len [44, 32] ((l.take k).map fun (n : Nat) => Lib.itoa (n : Int)) 21 (fun x hx => by
    obtain ⟨n, hn, rfl⟩ := List.mem_map.1 hx
    exact itoa_len n (h n (List.mem_of_mem_take hn)))
  simp only [List.length_map, List.length_take] at this
  have h2 : (([44, 32] : List UInt8).length + 21) * min k l.length ≤ 23 * l.length := Nat.mul_le_mul (by decide) (by omega)
  omega
theorem outK_succ {l : List Nat} {k n : Nat} (h : l[k]? = some n) : outK l (k + 1) = if k = 0 then outK l k ++ Lib.itoa (n : Int) else (outK l k ++ [44, 32]) ++ Lib.itoa (n : Int) := by
  unfold outK
  rw [take_snoc' _ _ _ h, List.map_append]
  simp only [List.map_cons, List.map_nil]
  rw [join_snoc]
  have hk := (List.getElem?_eq_some_iff.1 h).1
  by_cases h0 : k = 0
  · subst h0
    simp [Lib.join, List.intercalate]
  · rw [if_neg (by
      intro e
      rw [List.map_eq_nil_iff, List.take_eq_nil_iff] at e
      rcases e with e | e
      · exact h0 e
      · subst e; simp at hk), if_neg h0]
    simp
theorem text_any (A : Option Addr) (c : Nat) (l : List Nat) (w : World) (h : Reads w w.heap.size 1 A l.length (natI l)) (hm : l.length ≤ 1000) (hn : ∀ n ∈ l, n ≤ 1000000) :
    Calls Tryd.prog 8 #[.slice A l.length c] w (StrPost (textOf l) w) := by
  have H2 := Lib.hid h
  have HN := Lib.hid hn
  clear h hn
  have hb1 : ([123] : List UInt8).toArray = #[123] := rfl
  go_enter Tryd.func8, Tryd.ntmps8
  go_wp2_with fail
  go_loopw [3, 8] (fun o i wr => ∃ k : Nat, k ≤ l.length ∧ i = .int .i64 k ∧ o = .string (bts (outK l k)) ∧ Hid (Below w.heap.size w wr)) (fun _ i _ => l.length - (intOf i).toNat)
  case atStart => exact ⟨0, Nat.zero_le _, rfl, rfl, Lib.hid (Below.refl _ _)⟩
  case round =>
    obtain ⟨k, hk, rfl, rfl, HB⟩ := hrel
    have hlen := outK_len l k HN.out
    by_cases hlt : k < l.length
    · obtain ⟨b, off, u, rfl, hbb, hu, hc⟩ := (H2.out.ext HB.out).at1 hlt
      obtain ⟨n, hn, rfl⟩ := natI_at hu
      have hn6 : n ≤ 1000000 := HN.out n (List.mem_of_getElem? hn)
      have hil := itoa_len n hn6
      have HS := Lib.hid (outK_succ hn)
      clear hu hn
      generalize hO : outK l k = O at *
      clear hO
      generalize hI : Lib.itoa (n : Int) = I at *
      have HI := Lib.hid hI
      clear hI
      by_cases h0 : k = 0
      · subst h0
        have HS2 := Lib.hid HS.out
        rw [if_pos rfl] at HS2
        have hcat := fun wx => cat_run O I wx (by omega)
        simp only [Nat.add_zero] at hc
        go_wp2_with fail
        refine (decimal_any n hn6 _).mono ?_
        rintro e w1 ⟨rfl, hb⟩
        rw [HI.out]
        have HB1 := Lib.hid (HB.out.trans (hb.mono HB.out.size))
        clear hb
        go_wp2_with fail
        go_roundw
        case rel => exact ⟨1, by omega, by go_num, by rw [HS2.out], HB1⟩
        case measure => simp [intOf]; omega
      · have HS2 := Lib.hid HS.out
        rw [if_neg h0] at HS2
        have hk0 : ((0 : Int) < (k : Int)) := by omega
        have hcat0 := fun wx => cat_run O [44, 32] wx (by simp; omega)
        have hcat := fun wx => cat_run (O ++ [44, 32]) I wx (by simp; omega)
        have hsep : (⟨#[44, 32]⟩ : ByteArray) = bts [44, 32] := rfl
        go_wp2_with (simp only [hsep])
        refine (decimal_any n hn6 _).mono ?_
        rintro e w1 ⟨rfl, hb⟩
        rw [HI.out]
        have HB1 := Lib.hid (HB.out.trans (hb.mono HB.out.size))
        clear hb
        go_wp2_with fail
        go_roundw
        case rel => exact ⟨k + 1, by omega, by go_num, by rw [HS2.out]; simp, HB1⟩
        case measure => simp [intOf]; omega
    · have hkn : k = l.length := by omega
      subst hkn
      have hend : (⟨#[125]⟩ : ByteArray) = bts [125] := rfl
      have HT := Lib.hid (show textOf l = outK l l.length ++ [125] by unfold textOf outK; rw [List.take_length])
      generalize outK l l.length = O at *
      have hcat := fun wx => cat_run O [125] wx (by simp; omega)
      go_wp2_with (simp only [hend])
      go_ret
      refine ⟨?_, HB.out⟩
      rw [HT.out]; rfl
end Go.Proofs.YtckdcceglmlinaaDoor
