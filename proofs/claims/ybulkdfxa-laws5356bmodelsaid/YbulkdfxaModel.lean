import Derived.Test.YbulkdfxaRows
import Derived.Test.YbulkdfxaBlocks
import Derived.Lib.Bytes
namespace Go.Proofs.Ybulkdfxa
open Go Go.RowKit

/-- A control byte: 0 to 31 but the tab, or 127. -/
def badB (z : Int) : Bool := if z = 9 then false else if z ≤ 31 then true else decide (z = 127)

theorem bad_any (z : Int) (w : World) (h0 : 0 ≤ z) (h1 : z ≤ 255) : Calls Yba.prog 6 #[.int .u8 z] w fun e w' => e = .returned (.bool (badB z)) ∧ w' = w := by
  by_cases h9 : z = 9
  · subst h9
    go_enter Yba.func6, Yba.ntmps6
    go_wp2
    go_ret
    exact ⟨rfl, rfl⟩
  · have e9 : (z == 9) = false := beq_eq_false_iff_ne.2 h9
    by_cases h31 : z ≤ 31
    · have hb : badB z = true := by simp [badB, h9, h31]
      rw [hb]
      clear hb h9
      go_enter Yba.func6, Yba.ntmps6
      go_wp2
      go_ret
      exact ⟨rfl, rfl⟩
    · by_cases h127 : z = 127
      · subst h127
        go_enter Yba.func6, Yba.ntmps6
        go_wp2
        go_ret
        exact ⟨rfl, rfl⟩
      · have e127 : (z == 127) = false := beq_eq_false_iff_ne.2 h127
        have hb : badB z = false := by simp [badB, h9, h31, h127]
        rw [hb]
        clear hb h9 h127
        go_enter Yba.func6, Yba.ntmps6
        go_wp2
        go_ret
        exact ⟨rfl, rfl⟩

/-- No control byte among the bytes. -/
def okS (l : List UInt8) : Bool := l.all fun c => !badB (c.toNat : Int)

theorem take_snoc (s : ByteArray) (k : Nat) (h : k < s.size) : s.data.toList.take (k + 1) = s.data.toList.take k ++ [s[k]] := by
  rw [List.take_succ_eq_append_getElem (by simpa using h)]; rfl
theorem okS_snoc (s : ByteArray) (k : Nat) (h : k < s.size) (h1 : okS (s.data.toList.take k) = true) (h2 : badB (s[k].toNat : Int) = false) : okS (s.data.toList.take (k + 1)) = true := by
  rw [take_snoc s k h]; unfold okS at h1 ⊢; rw [List.all_append, h1]; simp [h2]
theorem okS_hit (s : ByteArray) (k : Nat) (h : k < s.size) (h2 : badB (s[k].toNat : Int) = true) : okS s.data.toList = false := by
  have hd : s.data.toList = s.data.toList.take (k + 1) ++ s.data.toList.drop (k + 1) := (List.take_append_drop _ _).symm
  rw [hd, take_snoc s k h]
  unfold okS
  simp [h2]

set_option maxHeartbeats 400000 in
theorem valid_any (s : ByteArray) (w : World) (hs : s.size ≤ 100000) : Calls Yba.prog 7 #[.string s] w fun e w' => e = .returned (.bool (okS s.data.toList)) ∧ w' = w := by
  go_enter Yba.func7, Yba.ntmps7
  go_wp2
  go_loop [3] (fun i => ∃ k : Nat, k ≤ s.size ∧ i = .int .i64 k ∧ Hid (okS (s.data.toList.take k) = true)) (fun i => s.size - (intOf i).toNat)
  case atStart => exact ⟨0, Nat.zero_le _, rfl, rfl⟩
  case round =>
    obtain ⟨k, hk, rfl, HK⟩ := hrel
    by_cases hlt : k < s.size
    · have hb : (s[k].toNat : Int) < 256 := by have := s[k].toNat_lt; omega
      by_cases h9 : (s[k].toNat : Int) = 9
      · have HN := unhalt (okS_snoc s k hlt HK.out (by rw [h9]; rfl))
        go_wp2
        go_round
        case rel => exact ⟨k + 1, by omega, by go_num, HN⟩
        case measure => simp [intOf]; omega
      · by_cases h31 : (s[k].toNat : Int) < 32
        · have HF := unhalt (okS_hit s k hlt (by simp only [badB, if_neg h9]; rw [if_pos (by omega)]))
          have e9 : ((s[k].toNat : Int) != 9) = true := by rw [bne_iff_ne]; exact h9
          clear h9
          go_wp2
          go_ret
          exact ⟨by rw [HF.out]; rfl, rfl⟩
        · by_cases h127 : (s[k].toNat : Int) = 127
          · have HF := unhalt (okS_hit s k hlt (by rw [h127]; rfl))
            go_wp2
            go_ret
            exact ⟨by rw [HF.out]; rfl, rfl⟩
          · have HN := unhalt (okS_snoc s k hlt HK.out (by simp only [badB, if_neg h9]; rw [if_neg (by omega)]; simpa using h127))
            have e127 : ((s[k].toNat : Int) == 127) = false := beq_eq_false_iff_ne.2 h127
            clear h9 h127
            go_wp2
            go_round
            case rel => exact ⟨k + 1, by omega, by go_num, HN⟩
            case measure => simp [intOf]; omega
    · have HF : Hid (okS s.data.toList = true) := by
        have := HK.out
        rwa [List.take_of_length_le (by simp; omega)] at this
      go_wp2
      go_ret
      exact ⟨by rw [HF.out]; rfl, rfl⟩

/-- No control byte among the numbers. -/
def okZ (zs : List Int) : Bool := zs.all fun z => !badB z

theorem okS_okZ (zs : List Int) (hz : ∀ z ∈ zs, 0 ≤ z ∧ z ≤ 255) : okS (strOfNums zs).data.toList = okZ zs := by
  rw [strOfNums_data]
  unfold okS okZ
  induction zs with
  | nil => rfl
  | cons z r ih =>
    have h0 := hz z (by simp)
    have e : (UInt8.ofNat z.toNat).toNat = z.toNat := by simp; omega
    have e2 : ((z.toNat : Nat) : Int) = z := by omega
    rw [List.map_cons, List.all_cons, List.all_cons, ih (fun y hy => hz y (by simp [hy])), e, e2]

theorem okZ_snoc (zs : List Int) (k : Nat) (z : Int) (h : zs[k]? = some z) : okZ (zs.take (k + 1)) = (okZ (zs.take k) && !badB z) := by
  rw [List.take_add_one, h]
  simp [okZ]

theorem conv_any (ao : Option Addr) (n c : Nat) (zs : List Int) (w : World) (hR : Rd w ao (zs.map (Value.int .u8))) (hn : zs.length = n) :
    (convert 22 9 (.slice ao n c)).run Yba.prog w = .ok (.string (strOfNums zs)) w := by
  cases ao with
  | none =>
    have h := hR.1 rfl
    have : zs = [] := by simpa using h
    subst this
    simp at hn
    subst hn
    exact run_convert_bytes_nil w 22 5 Yba.underlying22 Yba.underlying5 0 c 9 Yba.underlying9
  | some a =>
    have hl := run_loadCells_list (P := Yba.prog) w a (zs.map (Value.int .u8)) (hR.2 a rfl)
    rw [List.length_map, hn] at hl
    rw [run_convert_bytes_string w 22 9 5 _ n c Yba.underlying22 Yba.underlying5 Yba.underlying9, run_bytesToString w a n c zs hl, foldl_push_bytes]
    simp [strOfNums, ByteArray.empty, ByteArray.emptyWithCapacity]
    rfl

theorem Rd.form_u8 {w : World} {ao : Option Addr} {xs : List Value} (h : Rd w ao xs) (hne : 0 < xs.length) : ∃ b off, ao = some ⟨b, off, Option.none⟩ := by
  cases ao with
  | none => rw [h.1 rfl] at hne; simp at hne
  | some x =>
    have hc := h.2 x rfl 0 xs[0] (by simp [hne])
    have hs := World.cell?_spot hc
    obtain ⟨b, o, sp⟩ := x
    refine ⟨b, o, ?_⟩
    cases sp with
    | none => rfl
    | some q => simp [Addr.add] at hs

theorem model_long (a0 : Option Addr) (n c : Nat) (w : World) (h : 4096 < n) (hm : n ≤ maxLen) : Calls Yba.prog 3 #[.slice a0 n c] w fun e w' => e = .returned (.bool true) ∧ w' = w := by
  unfold maxLen at hm
  go_enter Yba.func3, Yba.ntmps3
  go_wp2
  go_ret
  exact ⟨rfl, rfl⟩

set_option maxHeartbeats 400000 in
theorem model_any (a0 : Option Addr) (n c : Nat) (zs : List Int) (w : World) (h : n ≤ 4096) (hR : Rd w a0 (zs.map (Value.int .u8))) (hn : zs.length = n) (hz : ∀ z ∈ zs, 0 ≤ z ∧ z ≤ 255) :
    Calls Yba.prog 3 #[.slice a0 n c] w fun e w' => e = .returned (.bool true) ∧ w' = w := by
  have hconv := conv_any a0 n c zs w hR hn
  have HE := unhalt (okS_okZ zs hz)
  go_enter Yba.func3, Yba.ntmps3
  go_wp2
  clear hconv
  go_loop [4, 5] (fun v i => ∃ k : Nat, k ≤ n ∧ i = .int .i64 k ∧ v = .bool (okZ (zs.take k))) (fun _ i => n - (intOf i).toNat)
  case atStart => exact ⟨0, Nat.zero_le _, rfl, rfl⟩
  case round =>
    obtain ⟨k, hk, rfl, rfl⟩ := hrel
    by_cases hlt : k < n
    · obtain ⟨b, off, rfl⟩ := hR.form_u8 (by simp; omega)
      obtain ⟨z, hzk⟩ : ∃ z, zs[k]? = some z := ⟨zs[k]'(by omega), List.getElem?_eq_getElem (by omega)⟩
      have hb := hz z (List.mem_of_getElem? hzk)
      have cZ : w.cell? ⟨b, off + k, none⟩ = some (.int .u8 z) := by
        have := hR.2 _ rfl k (.int .u8 z) (by rw [List.getElem?_map, hzk]; rfl)
        rwa [Addr.add_lit] at this
      have HS := unhalt (okZ_snoc zs k z hzk)
      clear hzk
      go_wp2_with (go_at_call 6; refine (bad_any z w hb.1 hb.2).mono ?_; rintro e w' ⟨rfl, rfl⟩)
      · have hbad : badB z = true := by assumption
        go_round
        case rel => exact ⟨k + 1, by omega, by go_num, by rw [HS.out, hbad]; simp⟩
        case measure => simp [intOf]; omega
      · have hbad : badB z = false := by assumption
        go_round
        case rel => exact ⟨k + 1, by omega, by go_num, by rw [HS.out, hbad]; simp⟩
        case measure => simp [intOf]; omega
    · have HF : Hid (zs.take k = zs) := List.take_of_length_le (by omega)
      rw [HF.out]
      go_wp2_with (go_at_call 7; refine (valid_any _ _ (by rw [strOfNums_size]; omega)).mono ?_; rintro e w' ⟨rfl, rfl⟩)
      go_ret
      exact ⟨by rw [HE.out]; simp, rfl⟩
end Go.Proofs.Ybulkdfxa
