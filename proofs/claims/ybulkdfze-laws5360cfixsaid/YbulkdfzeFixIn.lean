import Derived.Test.YbulkdfzeSync
namespace Go.Proofs.Ybulkdfze
open Go Go.RowKit Go.Lib Go.Shelf

theorem guard33 : Yba.prog.eqGuardType Yba.prog.depth 33 = false := by kernel_rfl
theorem eqg33 (x y : Operand) (xs ys : Array Value) (w : World) : (eqGuard .neq 33 x y (.agg xs) (.agg ys)).run Yba.prog w = .ok () w := run_eqGuard_agg w .neq 33 x y xs ys guard33
theorem neq33 (s t : ByteArray) (w : World) : (binOp .neq 33 (.agg #[.string s, .int .u64 0, .int .u64 0]) (.agg #[.string t, .int .u64 0, .int .u64 0])).run Yba.prog w = .ok (.bool (!(s.toList == t.toList))) w := by
  rw [run_neq_struct]
  have := eq33 w 9998 s t 0 0 0 0
  simp only [beq_self_eq_true, Bool.and_true] at this
  rw [this]
  simp
theorem info34 : (Yba.prog.info? 34).map (fun i => i.size) = some 1 := by kernel_rfl
theorem field90 (a b : Nat) (w : World) : (Instr.field 90 (.agg #[.map (some a), .map (some b)]) 0).run Yba.prog w = .ok (.map (some a)) w := by
  obtain ⟨i, hi, hz⟩ := Option.map_eq_some_iff.1 info34
  simp [Instr.field, asAgg, part, run_underlying Yba.underlying90, run_underlying Yba.underlying34, isAgg]

/-- What 'fix' is called with. -/
structure FixD where
  (E N SB DB HR YB XB RB KM nn ncap on ocap n : Nat)
  (nao oao : Option Addr)
  (ec : List Value)
  (view self v2 v0 : ByteArray)
  (ns os : List ByteArray)
  (rkvs kkvs : List (ByteArray × Value))
  (pres gu old : ByteArray → Bool)
  (lasts : ByteArray → List (ByteArray × Int))
  (kc : ByteArray → Int)
  (kn : ByteArray → Nat)
  (hs : List Rcv)

def FixD.nc (D : FixD) (v m : Value) : List Value := [.string D.v2, .slice D.nao D.nn D.ncap, .string ⟨#[76]⟩, .int .u64 1, .int .u64 1, v, m]
def FixD.bad (D : FixD) (m : ByteArray) : Prop := m ∈ D.os ∧ (D.pres m = false ∨ D.gu m = true)
def FixD.trans (D : FixD) : List ByteArray := D.ns.filter fun m => D.pres m && D.old m
def FixD.lastv (D : FixD) (t s : ByteArray) : Int := (lookI s (D.lasts t)).getD 0
def FixD.ids (D : FixD) : List Nat := [D.N, D.E, D.SB, D.DB, D.HR]

structure FixIn (D : FixD) (w : World) : Prop where
  hE : Blk w D.E 109 D.ec
  hN : Blk w D.N 86 (D.nc (.slice none 0 0) (.map none))
  hSB : Blk w D.SB 65 [.slice none 0 0]
  hDB : Blk w D.DB 66 [.slice none 0 0]
  hHR : Blk w D.HR 64 (flat D.view D.hs)
  hY : w.heap[D.YB]? = some (.map #[{ key := chV, val := .agg #[.map (some D.RB), .map (some D.XB)], born := 0 }] 1)
  hR : Mp w D.RB D.rkvs
  hK : Mp w D.KM D.kkvs
  e0 : D.ec[0]? = some (.string D.self)
  e6 : D.ec[6]? = some (.func (.func 4) #[] #[.pointer (some ⟨D.SB, 0, none⟩)])
  e7 : D.ec[7]? = some (.func (.func 7) #[] #[.pointer (some ⟨D.DB, 0, none⟩)])
  e12 : D.ec[12]? = some (.string D.view)
  e13 : D.ec[13]? = some (.slice D.oao D.on D.ocap)
  e27 : D.ec[27]? = some (.map (some D.KM))
  e41 : D.ec[41]? = some (.map (some D.YB))
  e42 : D.ec[42]? = some (.slice (some ⟨D.HR, 0, none⟩) D.n D.n)
  e43 : D.ec[43]? = some (.pointer (some ⟨D.N, 0, none⟩))
  e49 : D.ec[49]? = some (.int .i64 0)
  e50 : D.ec[50]? = some (.slice none 0 0)
  hns : Rd w D.nao (D.ns.map Value.string)
  hos : Rd w D.oao (D.os.map Value.string)
  lns : D.ns.length = D.nn
  los : D.os.length = D.on
  nn4 : D.nn ≤ 4
  on4 : D.on ≤ 4
  nfar : ∀ x, D.nao = some x → x.block < w.heap.size ∧ x.block ∉ D.ids
  ofar : ∀ x, D.oao = some x → x.block < w.heap.size ∧ x.block ∉ D.ids
  hrep : ∀ m ∈ D.ns, (look m D.rkvs = none ∧ D.pres m = false) ∨
    (∃ LB, look m D.rkvs = some (repV (if D.gu m = true then ⟨#[103]⟩ else ⟨#[]⟩) (if D.old m = true then D.view else D.v0) LB) ∧ D.pres m = true ∧ Mp w LB (cutKvs (D.lasts m)))
  hv0 : D.v0 ≠ D.view
  lnd : ∀ m, ((D.lasts m).map (·.1)).Nodup
  lnn : ∀ m, ∀ p ∈ D.lasts m, 0 ≤ p.2 ∧ p.1.size < 10
  hkept : ∀ s, s ∈ D.os → (look s D.kkvs = none ∧ D.kn s = 0) ∨ ∃ K, look s D.kkvs = some (.pointer (some ⟨K, 0, none⟩)) ∧ Copies w K (D.kc s) (D.kn s)
  hkn : ∀ s, D.kn s ≤ 8
  hvw : D.view.size < 10
  hmsg : ∀ p ∈ D.hs, Rd w (some p.2.2.1) [.int .u8 p.2.2.2.1, .int .u8 p.2.2.2.2] ∧ p.2.2.1.block < w.heap.size ∧ p.2.2.1.block ∉ D.ids
  hn : D.hs.length = D.n
  hn2 : D.n ≤ 1024

/-- What 'fix' leaves where it answers true. -/
def FixOut (D : FixD) (w w' : World) : Prop :=
  ∃ (cs : List (ByteArray × Int)) (CB : Nat) (tao : Option Addr) (tc : Nat) (seen : List Nat) (bo : Option Nat) (bv : Value) (junk : List Value),
    Blk w' D.N 86 (D.nc (.slice tao D.trans.length tc) (.map (some CB))) ∧ Rd w' tao (D.trans.map Value.string) ∧ Mp w' CB (cutKvs cs) ∧ CutIs D.os (fun p => ∃ t ∈ D.trans, p ∈ D.lasts t) cs ∧
    seen.Nodup ∧ (∀ i, i ∈ seen ↔ i < cs.length) ∧
    Sends 0 w' D.SB (seen.flatMap fun i => match cs[i]? with | some p => fwdOf D.view D.self D.trans D.lastv D.kc D.kn p.1 p.2 | none => []) ∧
    Blk w' D.E 109 ((D.ec.set 50 bv).set 42 (.slice (some ⟨D.HR, 0, none⟩) (stay (fun s => (lookI s cs).getD 0) D.hs).length D.n)) ∧
    Blk w' D.HR 64 (flat D.view (stay (fun s => (lookI s cs).getD 0) D.hs) ++ junk) ∧
    Dels 0 w' D.DB bo ((gone (fun s => (lookI s cs).getD 0) D.hs).map (dcells D.view)) ∧ Keep D.ids w w'
end Go.Proofs.Ybulkdfze
