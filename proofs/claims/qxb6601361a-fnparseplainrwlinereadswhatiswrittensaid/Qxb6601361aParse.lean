/- leadingDigits (34), rwKind (32), hasAt (33), parsePlainRWLine (27), ZZParsePlainRWLine (16). -/
import Derived.Test.Qxb6601361aDec
import Derived.BigQuiet
import Derived.Deep.QuietTactic
namespace Go.Proofs.Qxb6601361a
open Go.RowKit

/-- The bytes ds lie in block g from offset o on. -/
def At (w : World) (g o : Nat) (ds : List Int) : Prop := ∀ i (h : i < ds.length), w.cell? ⟨g, o + i, none⟩ = some (.int .u8 ds[i])

theorem val_take (ds : List Int) (k : Nat) (h : k < ds.length) : valL (ds.take (k + 1)) = 10 * valL (ds.take k) + (ds[k] - 48) := by
  rw [List.take_succ_eq_append_getElem h, val_snoc]

theorem val_take_bd (ds : List Int) (k : Nat) (hd : ∀ d ∈ ds, isDig d) (hk : k ≤ 17) : 0 ≤ valL (ds.take k) ∧ valL (ds.take k) < 100000000000000000 := by
  have h := val_bd (ds.take k) (fun d hd' => hd d (List.mem_of_mem_take hd'))
  have hl : (ds.take k).length ≤ 17 := by rw [List.length_take]; omega
  have := pow_mono hl
  have e : (10 : Int) ^ 17 = 100000000000000000 := by decide
  omega

set_option maxHeartbeats 1000000 in
theorem lead_any (g o n cap : Nat) (ds : List Int) (c : Int) (w : World) (hd : ∀ d ∈ ds, isDig d) (hl : ds.length ≤ 18) (hn : ds.length < n) (_hm : n ≤ 1048576) (hat : At w g o ds) (hc : w.cell? ⟨g, o + ds.length, none⟩ = some (.int .u8 c)) (hc1 : c < 48) :
    Calls Try.prog 34 #[.slice (some ⟨g, o, none⟩) n cap] w fun e w' => e = .returned (.tuple #[.int .i64 (valL ds), .int .i64 ds.length]) ∧ w' = w := by
  go_enter Try.func34, Try.ntmps34
  go_wp2
  go_loop [2, 3] (fun a i => ∃ k : Nat, k ≤ ds.length ∧ i = .int .i64 k ∧ a = .int .i64 (valL (ds.take k))) (fun _ i => ds.length - (intOf i).toNat)
  case atStart => exact ⟨0, Nat.zero_le _, rfl, by simp [valL]⟩
  case round =>
    obtain ⟨k, hk, rfl, rfl⟩ := hrel
    by_cases hlt : k < ds.length
    · have hcell := hat k hlt
      obtain ⟨hb1, hb2⟩ := val_take_bd ds k hd (by omega)
      obtain ⟨hd1, hd2⟩ := hd ds[k] (List.getElem_mem hlt)
      have hst := val_take ds k hlt
      obtain ⟨y, hy⟩ : ∃ y, ds[k] = y := ⟨_, rfl⟩
      obtain ⟨z, hz⟩ : ∃ z, valL (ds.take k) = z := ⟨_, rfl⟩
      rw [hy] at hcell hd1 hd2 hst
      rw [hz] at hb1 hb2 hst ⊢
      have HS : Hid (valL (ds.take (k + 1)) = 10 * z + (y - 48)) := hst
      clear hst hy hz hat hc
      have k1 : (k : Int) < (n : Int) := by omega
      have k2 : (k : Int) < 18 := by omega
      go_wp2
      go_round
      case rel => exact ⟨k + 1, by omega, by go_num, by rw [HS.out]; go_num⟩
      case measure => simp [intOf]; omega
    · obtain rfl : k = ds.length := by omega
      rw [List.take_of_length_le (Nat.le_refl _)]
      have k1 : (ds.length : Int) < (n : Int) := by omega
      have dc : decide (48 ≤ c) = false := decide_eq_false (by omega)
      by_cases k2 : (ds.length : Int) < 18
      · go_wp2
        go_ret2
        exact ⟨rfl, rfl⟩
      · have dk : decide ((ds.length : Int) < 18) = false := decide_eq_false k2
        go_wp2
        go_ret2
        exact ⟨rfl, rfl⟩

theorem kind_r (w : World) : Calls Try.prog 32 #[.int .u8 114] w fun e w' => e = .returned (.tuple #[.int .u8 1, .bool true]) ∧ w' = w := by
  go_enter Try.func32, Try.ntmps32
  go_wp2
  go_ret2
  exact ⟨rfl, rfl⟩
theorem kind_w (w : World) : Calls Try.prog 32 #[.int .u8 119] w fun e w' => e = .returned (.tuple #[.int .u8 2, .bool true]) ∧ w' = w := by
  go_enter Try.func32, Try.ntmps32
  go_wp2
  go_ret2
  exact ⟨rfl, rfl⟩

theorem conv3 (g i : Nat) (a b c : Int) (w : World) (h0 : w.cell? ⟨g, i, none⟩ = some (.int .u8 a)) (h1 : w.cell? ⟨g, i + 1, none⟩ = some (.int .u8 b)) (h2 : w.cell? ⟨g, i + 2, none⟩ = some (.int .u8 c)) (cap : Nat) :
    (convert 22 9 (.slice (some ⟨g, i, none⟩) 3 cap)).run Try.prog w = .ok (.string (strOfNums [a, b, c])) w :=
  run_convert_bytes_arg w 22 5 Try.underlying22 Try.underlying5 g i 3 cap [a, b, c] rfl (fun j hj => by
    match j, hj with
    | 0, _ => exact h0
    | 1, _ => exact h1
    | 2, _ => exact h2
    | k + 3, h => exact absurd h (by omega)) 9 Try.underlying9

theorem str_yes : ((strOfNums [45, 49, 41]).toList == [45, 49, 41]) = true := by
  have e : (strOfNums [45, 49, 41]).toList = [UInt8.ofNat 45, UInt8.ofNat 49, UInt8.ofNat 41] := by
    rw [ByteArray.toList_eq]
    rfl
  rw [e]
  rfl
theorem ret_bool {a b : Bool} (h : a = b) : Ending.returned (.bool a) = .returned (.bool b) := by rw [h]

set_option maxHeartbeats 400000 in
theorem has_yes (g n cap i : Nat) (w : World) (hn : n = i + 3) (hc : n ≤ cap) (hm : n ≤ 1048576) (h0 : w.cell? ⟨g, i, none⟩ = some (.int .u8 45)) (h1 : w.cell? ⟨g, i + 1, none⟩ = some (.int .u8 49)) (h2 : w.cell? ⟨g, i + 2, none⟩ = some (.int .u8 41)) :
    Calls Try.prog 33 #[.slice (some ⟨g, 0, none⟩) n cap, .int .i64 i, .string ⟨#[45, 49, 41]⟩] w fun e w' => e = .returned (.bool true) ∧ w' = w := by
  subst hn
  have hcv := conv3 g i 45 49 41 w h0 h1 h2
  have hci : ¬ cap = i := by omega
  go_enter Try.func33, Try.ntmps33
  go_wp2
  go_ret
  exact ⟨ret_bool str_yes, rfl⟩

theorem str_no (y b c : Int) (h1 : 48 ≤ y) (h2 : y ≤ 57) : ((strOfNums [y, b, c]).toList == [45, 49, 41]) = false := by
  have e : (strOfNums [y, b, c]).toList = [UInt8.ofNat y.toNat, UInt8.ofNat b.toNat, UInt8.ofNat c.toNat] := by
    rw [ByteArray.toList_eq]
    rfl
  rw [e, Bool.eq_false_iff]
  intro h
  simp only [beq_iff_eq, List.cons.injEq] at h
  have := congrArg UInt8.toNat h.1
  simp at this
  omega

set_option maxHeartbeats 400000 in
theorem has_no (g n cap i : Nat) (y : Int) (w : World) (hi : i < n) (hc : n ≤ cap) (hm : n ≤ 1048576) (h0 : w.cell? ⟨g, i, none⟩ = some (.int .u8 y)) (y0 : 48 ≤ y) (y1 : y ≤ 57)
    (hx : ∀ j, j < n → ∃ v, w.cell? ⟨g, j, none⟩ = some (.int .u8 v)) :
    Calls Try.prog 33 #[.slice (some ⟨g, 0, none⟩) n cap, .int .i64 i, .string ⟨#[45, 49, 41]⟩] w fun e w' => e = .returned (.bool false) ∧ w' = w := by
  by_cases h3 : i + 3 ≤ n
  · obtain ⟨b, h1⟩ := hx (i + 1) (by omega)
    obtain ⟨c, h2⟩ := hx (i + 2) (by omega)
    have hcv := conv3 g i y b c w h0 h1 h2
    have hsn := str_no y b c y0 y1
    have hci : ¬ cap = i := by omega
    clear hx
    have h3' : (3 : Int) ≤ (n : Int) - (i : Int) := by omega
    go_enter Try.func33, Try.ntmps33
    go_wp2
    go_ret
    exact ⟨rfl, rfl⟩
  · have h3' : decide ((3 : Int) ≤ (n : Int) - (i : Int)) = false := decide_eq_false (by omega)
    clear hx
    go_enter Try.func33, Try.ntmps33
    go_wp2
    go_ret
    exact ⟨rfl, rfl⟩
end Go.Proofs.Qxb6601361a
