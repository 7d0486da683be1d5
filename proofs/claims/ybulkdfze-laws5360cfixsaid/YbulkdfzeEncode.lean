import Derived.Test.YbulkdfzeRows
import Derived.Test.YbulkdfzeBlocks
import Derived.Lib.AppendStr
import Derived.Deep.RegionHeld3
import Derived.Deep.DeepMust
import Derived.Deep.QuietTactic
import Derived.BigQuiet
namespace Go.Proofs.Ybulkdfze
open Go Go.RowKit Go.Lib
theorem info5 : (Yba.prog.info? 5).map (fun i => (i.zero, i.size, i.bytes)) = some (some (.int .u8 0), 1, 1) := by kernel_rfl
theorem info9 : (Yba.prog.info? 9).map (fun i => (i.zero, i.size, i.bytes)) = some (some (.string ⟨#[]⟩), 1, 16) := by kernel_rfl

theorem below_own {w w' : World} {base : Nat} {e : TypeId} {k n : Nat} {v : Value} {xs : List Value} (h : w.ownsRow base e k v n xs) (hg : w.grownBy w' v.ownBlock) (hb : base ≤ w.heap.size) : Below base w w' := by
  refine ⟨hg.os, hg.tape, hg.output, hg.size, fun j hj => hg.block j (by omega) ?_⟩
  rcases h.2 with ⟨rfl, _⟩ | ⟨g, cap, cur, rfl, hb', _⟩
  · simp [Value.ownBlock]
  · intro e
    simp [Value.ownBlock] at e
    omega

set_option maxRecDepth 20000 in
/-- 'binary.AppendUvarint' of a number of one byte. -/
theorem uvarint (base n : Nat) (v : Value) (xs : List Value) (x : Int) (w : World) (hown : w.ownsRow base 5 1 v n xs) (hb : base ≤ w.heap.size) (hx0 : 0 ≤ x) (hx : x < 128) (hn : n ≤ 100000) :
    Calls Yba.prog 25 #[v, .int .u64 x] w fun e w' => ∃ v', e = .returned v' ∧ w'.ownsRow base 5 1 v' (n + 1) (xs ++ [.int .u8 x]) ∧ Below base w w' := by
  obtain ⟨i0, hi, hz0, hz1, hz2⟩ := info_parts info5
  go_enter Yba.func25, Yba.ntmps25
  go_wp2
  refine wp_loop_rounds 1 ?_
  rw [rounds_succ]
  go_wp2_with (at_builtin; refine halt ?_)
  refine unhalt ?_
  refine wpList_append_own _ rfl (.tmp 15) (.tmp 18) 46 rfl base 5 i0 (.int .u8 0) 1 1 Yba.underlying46 hi hz0 hz1 hz2 rfl (by decide) v n xs rfl (hown.alloc _) ⟨w.heap.size, 0, none⟩ 1 1 [.int .u8 x] rfl rfl ?_ (by simp [Value.oneCell']) (by unfold maxLen; omega) (by omega) (by simp; omega) ?_
  · intro j u hj
    rw [Addr.add_lit]
    rw [(Blk.new w #[.int .u8 x] 5).cell (0 + j), Nat.zero_add]
    exact hj
  intro v' w' hown' hg _
  go_wp2
  refine bodyPost_ret (v := v') (by simp [results, Yba.results25, go_sem]) rfl ⟨v', rfl, hown', ?_⟩
  exact ((Below.refl base w).alloc hb _).trans (below_own (hown.alloc _) hg (by simp; omega))

/-- 'wire.AppendUint'. -/
theorem app_uint (base n : Nat) (v : Value) (xs : List Value) (x : Int) (w : World) (hown : w.ownsRow base 5 1 v n xs) (hb : base ≤ w.heap.size) (hx0 : 0 ≤ x) (hx : x < 128) (hn : n ≤ 100000) :
    Calls Yba.prog 23 #[v, .int .u64 x] w fun e w' => ∃ v', e = .returned v' ∧ w'.ownsRow base 5 1 v' (n + 1) (xs ++ [.int .u8 x]) ∧ Below base w w' := by
  have HU := unhalt (uvarint base n v xs x w hown hb hx0 hx hn)
  go_enter Yba.func23, Yba.ntmps23
  go_wp2_with (go_at_call 25; refine halt ?_)
  refine unhalt ?_
  refine HU.out.mono ?_
  rintro e w1 ⟨v', rfl, h1, h2⟩
  go_wp2
  exact bodyPost_ret (v := v') (by simp [results, Yba.results23, go_sem]) rfl ⟨v', rfl, h1, h2⟩

/-- 'wire.AppendString'. -/
theorem app_string (base n : Nat) (v : Value) (xs : List Value) (s : ByteArray) (w : World) (hown : w.ownsRow base 5 1 v n xs) (hb : base ≤ w.heap.size) (hs : s.size < 128) (hn : n ≤ 10000) :
    Calls Yba.prog 22 #[v, .string s] w fun e w' => ∃ v', e = .returned v' ∧ w'.ownsRow base 5 1 v' (n + 1 + s.size) (xs ++ [.int .u8 s.size] ++ strCells s) ∧ Below base w w' := by
  obtain ⟨i0, hi, hz0, hz1, hz2⟩ := info_parts info5
  have HU := unhalt (uvarint base n v xs s.size w hown hb (by omega) (by omega) (by omega))
  go_enter Yba.func22, Yba.ntmps22
  go_wp2_with (go_at_call 25; refine halt ?_)
  refine unhalt ?_
  refine HU.out.mono ?_
  rintro e w1 ⟨v', rfl, h1, h2⟩
  have hb1 := Nat.le_trans hb h2.size
  go_wp2_with (at_builtin; refine halt ?_)
  refine unhalt ?_
  refine wpList_append_own_string _ rfl (.tmp 10) (.tmp 11) 46 9 rfl base 5 i0 Yba.underlying46 Yba.underlying9 hi hz0 hz1 hz2 v' (n + 1) _ rfl h1 s rfl (by unfold maxLen; omega) (by omega) hb1 ?_
  intro v2 w2 h3 hg _
  go_wp2
  exact bodyPost_ret (v := v2) (by simp [results, Yba.results22, go_sem]) rfl ⟨v2, rfl, h3, h2.trans (below_own h1 hg hb1)⟩

/-- 'wire.AppendBytes'. -/
theorem app_bytes (base n : Nat) (v : Value) (xs : List Value) (ad : Addr) (m c : Nat) (zs : List Value) (w : World) (hown : w.ownsRow base 5 1 v n xs) (hb : base ≤ w.heap.size) (hm : m < 128) (hn : n ≤ 10000)
    (hz : Rd w (some ad) zs) (lz : zs.length = m) (had : ad.block < base) (h1c : ∀ u ∈ zs, u.oneCell' = true) :
    Calls Yba.prog 24 #[v, .slice (some ad) m c] w fun e w' => ∃ v', e = .returned v' ∧ w'.ownsRow base 5 1 v' (n + 1 + m) (xs ++ [.int .u8 m] ++ zs) ∧ Below base w w' := by
  obtain ⟨i0, hi, hz0, hz1, hz2⟩ := info_parts info5
  have HU := unhalt (uvarint base n v xs m w hown hb (by omega) (by omega) (by omega))
  go_enter Yba.func24, Yba.ntmps24
  go_wp2_with (go_at_call 25; refine halt ?_)
  refine unhalt ?_
  refine HU.out.mono ?_
  rintro e w1 ⟨v', rfl, h1, h2⟩
  have hb1 := Nat.le_trans hb h2.size
  have hz1' : Rd w1 (some ad) zs := hz.of fun x hx _ => by cases hx; exact h2.block _ had
  go_wp2_with (at_builtin; refine halt ?_)
  refine unhalt ?_
  refine wpList_append_own _ rfl (.tmp 10) (.tmp 11) 46 rfl base 5 i0 (.int .u8 0) 1 1 Yba.underlying46 hi hz0 hz1 hz2 rfl (by decide) v' (n + 1) _ rfl h1 ad m c zs rfl (by omega) (hz1'.2 ad rfl) h1c (by unfold maxLen; omega) (by omega) hb1 ?_
  intro v2 w2 h3 hg _
  go_wp2
  exact bodyPost_ret (v := v2) (by simp [results, Yba.results24, go_sem]) rfl ⟨v2, rfl, h3, h2.trans (below_own h1 hg hb1)⟩

theorem owns_mono {w : World} {b b' : Nat} {e : TypeId} {k n : Nat} {v : Value} {xs : List Value} (h : w.ownsRow b e k v n xs) (hb : b' ≤ b) : w.ownsRow b' e k v n xs :=
  ⟨h.1, orR h.2 fun ⟨g, cap, cur, h1, h2, h3⟩ => ⟨g, cap, cur, h1, Nat.le_trans hb h2, h3⟩⟩

set_option maxHeartbeats 400000 in
/-- 'encodeForward'. -/
theorem encode (sender view : ByteArray) (seq : Int) (ad : Addr) (m c : Nat) (zs : List Value) (w : World) (hs : sender.size < 128) (hvw : view.size < 128) (h0 : 0 ≤ seq) (h1 : seq < 128) (hm : m < 128)
    (hz : Rd w (some ad) zs) (lz : zs.length = m) (had : ad.block < w.heap.size) (h1c : ∀ u ∈ zs, u.oneCell' = true) :
    Calls Yba.prog 19 #[.string sender, .agg #[.string view, .int .u64 seq, .slice (some ad) m c, .int .i64 0]] w fun e w' => ∃ v', e = .returned v' ∧
      w'.ownsRow w.heap.size 5 1 v' (1 + view.size + 1 + sender.size + 1 + 1 + m) ([.int .u8 view.size] ++ strCells view ++ [.int .u8 sender.size] ++ strCells sender ++ [.int .u8 seq] ++ [.int .u8 m] ++ zs) ∧ Below w.heap.size w w' := by
  go_enter Yba.func19, Yba.ntmps19
  go_wp2_with (go_at_call 22; refine halt ?_)
  refine unhalt ?_
  have hB0 := Blk.new w #[.string view, .int .u64 seq, .slice (some ad) m c, .int .i64 0] 62
  have b0 : Below w.heap.size w (w.alloc (.cells #[.string view, .int .u64 seq, .slice (some ad) m c, .int .i64 0] 62)) := (Below.refl _ w).alloc (Nat.le_refl _) _
  have z0 : w.heap.size < (w.alloc (.cells #[.string view, .int .u64 seq, .slice (some ad) m c, .int .i64 0] 62)).heap.size := by simp
  have hz0 := hz.alloc (.cells #[.string view, .int .u64 seq, .slice (some ad) m c, .int .i64 0] 62)
  generalize (w.alloc (.cells #[.string view, .int .u64 seq, .slice (some ad) m c, .int .i64 0] 62)) = w0 at hB0 b0 z0 hz0 ⊢
  refine (app_string w0.heap.size 0 (.slice none 0 0) [] view w0 (World.ownsRow_nil ..) (Nat.le_refl _) hvw (by omega)).mono ?_
  rintro e w1 ⟨v1, rfl, o1, b1⟩
  go_wp2_with (go_at_call 22; refine halt ?_)
  refine unhalt ?_
  refine (app_string w0.heap.size _ v1 _ sender w1 o1 b1.size hs (by omega)).mono ?_
  rintro e w2 ⟨v2, rfl, o2, b2⟩
  have b02 := b1.trans b2
  have c2 : w2.cell? ⟨w.heap.size, 1, none⟩ = some (.int .u64 seq) := (b02.cell (p := ⟨w.heap.size, 1, none⟩) z0).trans (hB0.cell 1)
  go_wp2_with (go_at_call 23; refine halt ?_)
  refine unhalt ?_
  refine (app_uint w0.heap.size _ v2 _ seq w2 o2 b02.size h0 h1 (by omega)).mono ?_
  rintro e w3 ⟨v3, rfl, o3, b3⟩
  have b03 := b02.trans b3
  have c3 : w3.cell? ⟨w.heap.size, 2, none⟩ = some (.slice (some ad) m c) := (b03.cell (p := ⟨w.heap.size, 2, none⟩) z0).trans (hB0.cell 2)
  have hz3 : Rd w3 (some ad) zs := hz0.of fun x hx _ => by cases hx; exact b03.block _ (by omega)
  go_wp2_with (go_at_call 24; refine halt ?_)
  refine unhalt ?_
  refine (app_bytes w0.heap.size _ v3 _ ad m c zs w3 o3 b03.size hm (by omega) hz3 lz (by omega) h1c).mono ?_
  rintro e w4 ⟨v4, rfl, o4, b4⟩
  go_wp2
  refine bodyPost_ret (v := v4) (by simp [results, Yba.results19, go_sem]) rfl ⟨v4, rfl, ?_, b0.trans ((b03.trans b4).mono (Nat.le_of_lt z0))⟩
  have o5 := owns_mono o4 (Nat.le_of_lt z0)
  simpa [Nat.add_assoc, List.append_assoc] using o5
end Go.Proofs.Ybulkdfze
