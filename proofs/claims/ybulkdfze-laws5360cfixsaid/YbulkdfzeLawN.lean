import Derived.Test.YbulkdfzeLawD
import Derived.Deep.CutBlock
namespace Go.Proofs.Ybulkdfze
open Go Go.RowKit Go.Lib Go.Shelf
set_option maxRecDepth 1000000 in
set_option maxHeartbeats 8000000 in
/-- The law, too long an input. -/
theorem law_long (om nm self : Int) (rp kn : Array Value) (hao : Option Addr) (n c : Nat) (w : World) (h : 1024 < n) :
    Calls Yba.prog 3 #[.int .u8 om, .int .u8 nm, .agg rp, .int .u8 self, .agg kn, .slice hao n c] w fun e w' => e = .returned (.bool true) ∧ Keep [] w w' := by
  have h1 : (1024 : Int) < (n : Int) := by omega
  have k := ((Keep.refl [] w).alloc (.cells rp 26)).alloc (.cells kn 23)
  go_enter Yba.func3, Yba.ntmps3
  go_wp2
  exact bodyPost_ret (v := .bool true) (by simp [results, Yba.results3, go_sem]) rfl ⟨rfl, k⟩
set_option maxRecDepth 1000000 in
set_option maxHeartbeats 8000000 in
/-- The law is entered. -/
theorem law_enter (D : LD) (H : D.Ok) (rp : Array Value) (hrp : rp.toList = D.rp)
    (next : ∀ a w RP KN, Keep [] D.w0 w → Blk w RP 26 D.rp → Blk w KN 23 [.int .u8 (D.kN 0), .int .u8 (D.kN 1), .int .u8 (D.kN 2), .int .u8 (D.kN 3)] → a.tmps.size = 796 → a.defers = [] → a.tmps[0]? = some (.int .u8 D.om) → a.tmps[1]? = some (.int .u8 D.nm) → a.tmps[3]? = some (.int .u8 D.self) → a.tmps[5]? = some (.slice D.hao D.held.length D.hcap) →
      a.tmps[8]? = some (.pointer (some ⟨RP, 0, none⟩)) → a.tmps[10]? = some (.pointer (some ⟨KN, 0, none⟩)) → Code.wp Yba.prog (C3 Yba.f3 2) (LQ D) a w) :
    Calls Yba.prog 3 #[.int .u8 D.om, .int .u8 D.nm, .agg rp, .int .u8 D.self, .agg #[.int .u8 (D.kN 0), .int .u8 (D.kN 1), .int .u8 (D.kN 2), .int .u8 (D.kN 3)], .slice D.hao D.held.length D.hcap] D.w0 fun e w' => e = .returned (.bool true) ∧ Keep [] D.w0 w' := by
  have hl := H.lheld
  obtain ⟨n, hn⟩ : ∃ n, n = D.held.length := ⟨_, rfl⟩
  rw [← hn] at hl ⊢
  have HNN := unhalt hn
  have HN := unhalt next
  clear hn next
  have h1 : ¬ (1024 : Int) < (n : Int) := by omega
  have k := ((Keep.refl [] D.w0).alloc (.cells rp 26)).alloc (.cells #[.int .u8 (D.kN 0), .int .u8 (D.kN 1), .int .u8 (D.kN 2), .int .u8 (D.kN 3)] 23)
  have b1 : Blk ((D.w0.alloc (.cells rp 26)).alloc (.cells #[.int .u8 (D.kN 0), .int .u8 (D.kN 1), .int .u8 (D.kN 2), .int .u8 (D.kN 3)] 23)) D.w0.heap.size 26 D.rp := ((Blk.new D.w0 rp 26).alloc _).cast hrp
  have b2 : Blk ((D.w0.alloc (.cells rp 26)).alloc (.cells #[.int .u8 (D.kN 0), .int .u8 (D.kN 1), .int .u8 (D.kN 2), .int .u8 (D.kN 3)] 23)) (D.w0.heap.size + 1) 23 [.int .u8 (D.kN 0), .int .u8 (D.kN 1), .int .u8 (D.kN 2), .int .u8 (D.kN 3)] := Blk.new' _ _ _ _ (by simp)
  go_enter Yba.func3, Yba.ntmps3
  go_upto_if 88 with fail
  generalize ((D.w0.alloc (.cells rp 26)).alloc (.cells #[.int .u8 (D.kN 0), .int .u8 (D.kN 1), .int .u8 (D.kN 2), .int .u8 (D.kN 3)] 23)) = wA at k b1 b2 ⊢
  go_cut [] from 86 to 88 (fun wx => wx = wA)
  case first =>
    go_wp2
    go_meet
    case rel => rfl
  case rest =>
    obtain rfl := hcut
    rename_i hK
    have hnn := HNN.out
    subst hnn
    exact hK _ _ (HN.out _ _ _ _ k b1 b2 rfl rfl rfl rfl rfl rfl rfl rfl)
end Go.Proofs.Ybulkdfze
