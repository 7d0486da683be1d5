import Derived.Test.YbulkdfxoFmtErrorf
import Derived.Lib.Strings
import Derived.Lib.IndexBytes
namespace Go.Proofs.YbulkdfxoFmt
open Go Go.RowKit

def cap (c : UInt8) : Bool := decide (65 ≤ c.toNat) && decide (c.toNat ≤ 90)
def dig (c : UInt8) : Bool := decide (48 ≤ c.toNat) && decide (c.toNat ≤ 57)
def capL (l : List UInt8) : Bool := l.all cap
def digL (l : List UInt8) : Bool := l.all dig
def numV (l : List UInt8) : Int := l.foldl (fun n c => n * 10 + ((c.toNat : Int) - 48)) 0

theorem take_snoc (s : ByteArray) (k : Nat) (h : k < s.size) : s.data.toList.take (k + 1) = s.data.toList.take k ++ [s[k]] := by
  rw [List.take_succ_eq_append_getElem (by simpa using h)]; rfl
theorem take_all (s : ByteArray) (k : Nat) (h : ¬ k < s.size) : s.data.toList.take k = s.data.toList := List.take_of_length_le (by simp; omega)
theorem all_snoc (f : UInt8 → Bool) (s : ByteArray) (k : Nat) (h : k < s.size) (h1 : (s.data.toList.take k).all f = true) (h2 : f s[k] = true) : (s.data.toList.take (k + 1)).all f = true := by
  rw [take_snoc s k h, List.all_append, h1]; simp [h2]
theorem all_hit (f : UInt8 → Bool) (s : ByteArray) (k : Nat) (h : k < s.size) (h2 : f s[k] = false) : s.data.toList.all f = false := by
  have hd : s.data.toList = s.data.toList.take (k + 1) ++ s.data.toList.drop (k + 1) := (List.take_append_drop _ _).symm
  rw [hd, take_snoc s k h]
  simp [h2]
theorem numV_snoc (s : ByteArray) (k : Nat) (h : k < s.size) : numV (s.data.toList.take (k + 1)) = numV (s.data.toList.take k) * 10 + ((s[k].toNat : Int) - 48) := by
  rw [take_snoc s k h]; simp [numV]
theorem numV_bound (l : List UInt8) (h : digL l = true) : 0 ≤ numV l ∧ numV l < 10 ^ l.length := by
  suffices H : ∀ (l : List UInt8) (n : Int) (m : Int), digL l = true → 0 ≤ n → n < m → 0 ≤ l.foldl (fun n c => n * 10 + ((c.toNat : Int) - 48)) n ∧ l.foldl (fun n c => n * 10 + ((c.toNat : Int) - 48)) n < m * 10 ^ l.length by
    have := H l 0 1 h (by omega) (by omega)
    simpa [numV] using this
  intro l
  induction l with
  | nil => intro n m _ h0 h1; simp; omega
  | cons c r ih =>
    intro n m hd h0 h1
    simp only [digL, List.all_cons, Bool.and_eq_true] at hd
    have hc : 48 ≤ c.toNat ∧ c.toNat ≤ 57 := by simpa [dig] using hd.1
    have := ih (n * 10 + ((c.toNat : Int) - 48)) (m * 10) hd.2 (by omega) (by omega)
    rw [List.foldl_cons]
    refine ⟨this.1, ?_⟩
    have e : m * 10 ^ (c :: r).length = m * 10 * 10 ^ r.length := by rw [List.length_cons, Int.pow_succ]; rw [Int.mul_assoc, Int.mul_comm 10]
    rw [e]; exact this.2
theorem numV_small (l : List UInt8) (h : digL l = true) (hl : l.length ≤ 4) : 0 ≤ numV l ∧ numV l < 10000 := by
  have := numV_bound l h
  have h2 : (10 : Int) ^ l.length ≤ 10 ^ 4 := by
    match hn : l.length, hl with
    | 0, _ => decide
    | 1, _ => decide
    | 2, _ => decide
    | 3, _ => decide
    | 4, _ => decide
  omega

set_option maxHeartbeats 400000 in
theorem letters_any (s : ByteArray) (w : World) (hs : s.size ≤ 100000) : Calls Ybaf.prog 7 #[.string s] w fun e w' => e = .returned (.bool (capL s.data.toList)) ∧ w' = w := by
  go_enter Ybaf.func7, Ybaf.ntmps7
  go_wp2
  go_loop [3] (fun i => ∃ k : Nat, k ≤ s.size ∧ i = .int .i64 k ∧ Hid (capL (s.data.toList.take k) = true)) (fun i => s.size - (intOf i).toNat)
  case atStart => exact ⟨0, Nat.zero_le _, rfl, rfl⟩
  case round =>
    obtain ⟨k, hk, rfl, HK⟩ := hrel
    by_cases hlt : k < s.size
    · have hb : (s[k].toNat : Int) < 256 := by have := s[k].toNat_lt; omega
      by_cases h65 : (s[k].toNat : Int) < 65
      · have HF := unhalt (all_hit cap s k hlt (by simp [cap]; omega))
        go_wp2
        go_ret
        exact ⟨by rw [show capL s.data.toList = false from HF.out]; rfl, rfl⟩
      · by_cases h90 : 90 < (s[k].toNat : Int)
        · have HF := unhalt (all_hit cap s k hlt (by simp [cap]; omega))
          go_wp2
          go_ret
          exact ⟨by rw [show capL s.data.toList = false from HF.out]; rfl, rfl⟩
        · have HN := unhalt (all_snoc cap s k hlt HK.out (by simp [cap]; omega))
          go_wp2
          go_round
          case rel => exact ⟨k + 1, by omega, by go_num, HN⟩
          case measure => simp [intOf]; omega
    · have HF : Hid (capL s.data.toList = true) := by
        have := HK.out
        rwa [take_all s k hlt] at this
      go_wp2
      go_ret
      exact ⟨by rw [HF.out]; rfl, rfl⟩

set_option maxHeartbeats 400000 in
theorem number_any (s : ByteArray) (w : World) (h1 : 1 ≤ s.size) (hs : s.size ≤ 4) : Calls Ybaf.prog 13 #[.string s] w fun e w' => e = .returned (.tuple #[.int .i64 (bif digL s.data.toList then numV s.data.toList else 0), .bool (digL s.data.toList)]) ∧ w' = w := by
  have he : s.toList.isEmpty = false := by
    rw [Lib.toList_data, List.isEmpty_eq_false_iff]
    intro h
    have h2 : s.data.toList.length = s.size := by simp
    rw [h] at h2
    simp at h2
    omega
  go_enter Ybaf.func13, Ybaf.ntmps13
  go_wp2
  go_loop [4, 5] (fun n i => ∃ k : Nat, k ≤ s.size ∧ i = .int .i64 k ∧ n = .int .i64 (numV (s.data.toList.take k)) ∧ Hid (digL (s.data.toList.take k) = true)) (fun _ i => s.size - (intOf i).toNat)
  case atStart => exact ⟨0, Nat.zero_le _, rfl, rfl, rfl⟩
  case round =>
    obtain ⟨k, hk, rfl, rfl, HK⟩ := hrel
    have hnb := numV_small _ HK.out (by simp; omega)
    by_cases hlt : k < s.size
    · have hb : (s[k].toNat : Int) < 256 := by have := s[k].toNat_lt; omega
      by_cases h48 : (s[k].toNat : Int) < 48
      · have HF := unhalt (all_hit dig s k hlt (by simp [dig]; omega))
        go_wp2
        go_ret2
        exact ⟨by rw [show digL s.data.toList = false from HF.out]; rfl, rfl⟩
      · by_cases h57 : 57 < (s[k].toNat : Int)
        · have HF := unhalt (all_hit dig s k hlt (by simp [dig]; omega))
          go_wp2
          go_ret2
          exact ⟨by rw [show digL s.data.toList = false from HF.out]; rfl, rfl⟩
        · have HN := unhalt (all_snoc dig s k hlt HK.out (by simp [dig]; omega))
          have HV := unhalt (numV_snoc s k hlt)
          go_wp2
          go_round
          case rel => exact ⟨k + 1, by omega, by go_num, by rw [HV.out], HN⟩
          case measure => simp [intOf]; omega
    · have HF : Hid (digL s.data.toList = true) := by
        have := HK.out
        rwa [take_all s k hlt] at this
      have HT : Hid (s.data.toList.take k = s.data.toList) := take_all s k hlt
      go_wp2
      go_ret2
      exact ⟨by rw [HF.out, HT.out]; rfl, rfl⟩

/-- A time of day: HHMM. -/
def minOK (l : List UInt8) : Bool := digL (l.take 2) && (digL (l.drop 2) && decide (numV (l.drop 2) ≤ 59))
def timeB (l : List UInt8) : Bool := minOK l && decide (numV (l.take 2) * 60 + numV (l.drop 2) < 1440)

set_option maxHeartbeats 400000 in
theorem minutes_any (s : ByteArray) (w : World) (hs : s.size = 4) : Calls Ybaf.prog 12 #[.string s] w fun e w' =>
    e = .returned (.tuple #[.int .i64 (bif minOK s.data.toList then numV (s.data.toList.take 2) * 60 + numV (s.data.toList.drop 2) else 0), .bool (minOK s.data.toList)]) ∧ w' = w := by
  have hs1 : s.size ≤ 4 := by omega
  have hs2 : 4 ≤ s.size := by omega
  have HS := unhalt hs
  clear hs
  have e1 : (s.extract 0 2).data.toList = s.data.toList.take 2 := by rw [Lib.extract_data]; simp
  have e2 : (s.extract 2 s.size).data.toList = s.data.toList.drop 2 := Lib.extract_to_end s 2
  have c1 := fun w => number_any (s.extract 0 2) w (by simp; omega) (by simp; omega)
  have c2 := fun w => number_any (s.extract 2 s.size) w (by simp; omega) (by simp; omega)
  rw [e1] at c1
  rw [e2] at c2
  have C1 := unhalt c1
  have C2 := unhalt c2
  clear c1 c2 e1 e2
  unfold minOK
  have n1 : digL (s.data.toList.take 2) = true → 0 ≤ numV (s.data.toList.take 2) ∧ numV (s.data.toList.take 2) < 10000 := fun h => numV_small _ h (by simp; omega)
  have n2 : digL (s.data.toList.drop 2) = true → 0 ≤ numV (s.data.toList.drop 2) ∧ numV (s.data.toList.drop 2) < 10000 := fun h => numV_small _ h (by simp; omega)
  generalize digL (s.data.toList.take 2) = d1 at C1 n1 ⊢
  generalize digL (s.data.toList.drop 2) = d2 at C2 n2 ⊢
  generalize numV (s.data.toList.take 2) = v1 at C1 n1 ⊢
  generalize numV (s.data.toList.drop 2) = v2 at C2 n2 ⊢
  cases d1
  · go_enter Ybaf.func12, Ybaf.ntmps12
    go_wp2_with (go_at_call 13; refine halt ?_)
    refine unhalt ?_
    refine (C1.out _).mono ?_
    rintro e w ⟨rfl, rfl⟩
    go_wp2_with (go_at_call 13; refine halt ?_)
    refine unhalt ?_
    refine (C2.out _).mono ?_
    rintro e w ⟨rfl, rfl⟩
    go_wp2
    go_ret2
    exact ⟨rfl, rfl⟩
  · cases d2
    · go_enter Ybaf.func12, Ybaf.ntmps12
      go_wp2_with (go_at_call 13; refine halt ?_)
      refine unhalt ?_
      refine (C1.out _).mono ?_
      rintro e w ⟨rfl, rfl⟩
      go_wp2_with (go_at_call 13; refine halt ?_)
      refine unhalt ?_
      refine (C2.out _).mono ?_
      rintro e w ⟨rfl, rfl⟩
      go_wp2
      go_ret2
      exact ⟨rfl, rfl⟩
    · have m1 := n1 rfl
      have m2 := n2 rfl
      clear n1 n2
      by_cases h59 : v2 ≤ 59
      · have d59 : decide (v2 ≤ 59) = true := decide_eq_true h59
        rw [d59]
        clear d59
        go_enter Ybaf.func12, Ybaf.ntmps12
        go_wp2_with (go_at_call 13; refine halt ?_)
        refine unhalt ?_
        refine (C1.out _).mono ?_
        rintro e w ⟨rfl, rfl⟩
        go_wp2_with (go_at_call 13; refine halt ?_)
        refine unhalt ?_
        refine (C2.out _).mono ?_
        rintro e w ⟨rfl, rfl⟩
        go_wp2
        go_ret2
        exact ⟨rfl, rfl⟩
      · have d59 : decide (v2 ≤ 59) = false := decide_eq_false h59
        rw [d59]
        clear d59
        go_enter Ybaf.func12, Ybaf.ntmps12
        go_wp2_with (go_at_call 13; refine halt ?_)
        refine unhalt ?_
        refine (C1.out _).mono ?_
        rintro e w ⟨rfl, rfl⟩
        go_wp2_with (go_at_call 13; refine halt ?_)
        refine unhalt ?_
        refine (C2.out _).mono ?_
        rintro e w ⟨rfl, rfl⟩
        go_wp2
        go_ret2
        exact ⟨rfl, rfl⟩
end Go.Proofs.YbulkdfxoFmt
