import Derived.Test.YbulkdfzeLawDF
namespace Go.Proofs.Ybulkdfze
open Go Go.RowKit Go.Lib Go.Shelf

theorem zero3 : (Yba.prog.info? 3).bind (fun i => i.zero.map (fun z => z.cells.size)) = some 1 := by kernel_rfl
/-- All but five kinds of rows stand as they stood. -/
structure UpT (w w1 : World) : Prop where
  blk : ∀ g e cs, e ≠ 86 → e ≠ 109 → e ≠ 65 → e ≠ 66 → e ≠ 64 → Blk w g e cs → Blk w1 g e cs
  mp : ∀ b kvs, Mp w b kvs → Mp w1 b kvs
theorem UpT.of (D : LD) (I : LI) (J : LB) (J2 : LC) (J3 : LH) (X : LX) {w w1 : World} (H : FixIn (mkFD D I J J2 J3 X) w) (k : Keep (mkFD D I J J2 J3 X).ids w w1) : UpT w w1 := by
  have hN := H.hN
  have hE := H.hE
  have hS := H.hSB
  have hD := H.hDB
  have hR := H.hHR
  refine ⟨fun g e cs h1 h2 h3 h4 h5 hb => k.blk hb ?_, fun b kvs hM => k.mp hM ?_⟩
  · simp only [FixD.ids, List.mem_cons, List.not_mem_nil, or_false, not_or]
    exact ⟨hb.ne hN h1, hb.ne hE h2, hb.ne hS h3, hb.ne hD h4, hb.ne hR h5⟩
  · have ne : ∀ {g e cs}, Blk w g e cs → b ≠ g := fun hb h => by subst h; have := hb.symm.trans hM; cases this
    simp only [FixD.ids, List.mem_cons, List.not_mem_nil, or_false, not_or]
    exact ⟨ne hN, ne hE, ne hS, ne hD, ne hR⟩
theorem owns_up {w w1 : World} {base : Nat} {n : Nat} {v : Value} {xs : List Value} (h : w.ownsRow base 9 1 v n xs) (U : UpT w w1) : w1.ownsRow base 9 1 v n xs := by
  refine ⟨h.1, orR h.2 fun ⟨g, cap, cur, a1, a2, a3, a4⟩ => ⟨g, cap, cur, a1, a2, ?_, a4⟩⟩
  have hb' : Blk w g 9 cur.toList := by unfold Blk; simpa using a3
  simpa [Blk] using U.blk _ _ _ (by decide) (by decide) (by decide) (by decide) (by decide) hb'
theorem FA.up {D : LD} {I : LI} {w w1 : World} (h : FA D I w) (U : UpT w w1) (k : Keep [] D.w0 w1) : FA D I w1 := by
  have b : ∀ {g e cs}, e ≠ 86 → e ≠ 109 → e ≠ 65 → e ≠ 66 → e ≠ 64 → Blk w g e cs → Blk w1 g e cs := fun h1 h2 h3 h4 h5 => U.blk _ _ _ h1 h2 h3 h4 h5
  exact ⟨k, b (by decide) (by decide) (by decide) (by decide) (by decide) h.hRP, b (by decide) (by decide) (by decide) (by decide) (by decide) h.hKN, b (by decide) (by decide) (by decide) (by decide) (by decide) h.hNM, b (by decide) (by decide) (by decide) (by decide) (by decide) h.hIO, b (by decide) (by decide) (by decide) (by decide) (by decide) h.hIN, owns_up h.hOM U, owns_up h.hNN U⟩

structure SX (X : LX) (got : Bool) (a : Act) : Prop where
  s42 : a.tmps[42]? = some (.pointer (some ⟨X.SB, 0, none⟩))
  s43 : a.tmps[43]? = some (.pointer (some ⟨X.DB, 0, none⟩))
  s45 : a.tmps[45]? = some (.pointer (some ⟨X.NB, 0, none⟩))
  s46 : a.tmps[46]? = some (.pointer (some ⟨X.E, 0, none⟩))
  s47 : a.tmps[47]? = some (.bool got)
/-- All slots. -/
structure SL (D : LD) (I : LI) (J : LB) (J2 : LC) (J3 : LH) (X : LX) (got : Bool) (a : Act) : Prop where
  sa : SA D I a
  sb : SB1 J a
  sc : SC J2 a
  sd : SD D J3 a
  sx : SX X got a
/-- The memory behind 'fix', whatever it answered. -/
structure FZ (D : LD) (I : LI) (J : LB) (J2 : LC) (J3 : LH) (w : World) : Prop where
  fa : FA D I w
  hSQ : Blk w J.SQ 36 (row16 fun n => D.sv (n / 4) (n % 4))
  hKC : Blk w J2.KC 44 (il D.kk)
  hHF : Blk w J3.HF 3 (fromsL D.held)
  hHQ : Blk w J3.HQ 31 (seqsL D.held)
theorem FZ.keep {D : LD} {I : LI} {J : LB} {J2 : LC} {J3 : LH} {w w1 : World} (h : FZ D I J J2 J3 w) (k : Keep [] w w1) : FZ D I J J2 J3 w1 :=
  ⟨h.fa.keep k, k.blk h.hSQ (by simp), k.blk h.hKC (by simp), k.blk h.hHF (by simp), k.blk h.hHQ (by simp)⟩
/-- 'fix' answered false: nothing has changed. -/
structure Fno (D : LD) (I : LI) (J3 : LH) (X : LX) (w : World) : Prop where
  hN : Blk w X.NB 86 [.string ⟨#[118, 50]⟩, .slice I.nao I.nn I.nc, .string ⟨#[76]⟩, .int .u64 1, .int .u64 1, .slice none 0 0, .map none]
  hS : Blk w X.SB 65 [.slice none 0 0]
  hD : Blk w X.DB 66 [.slice none 0 0]
  hE : Blk w X.E 109 X.ec
  e42 : X.ec[42]? = some (.slice (some ⟨J3.HR, 0, none⟩) D.held.length D.held.length)
  hR : Blk w J3.HR 64 (flat vone J3.hs)
/-- The messages' names and numbers, without memory. -/
def HsIs (D : LD) (hs : List Rcv) : Prop := hs.length = D.held.length ∧ ∀ (k : Nat) (p : Rcv) (q : Int × Int), hs[k]? = some p → D.held[k]? = some q → p.1 = nameB (fiOf q) ∧ p.2.1 = q.2 % 10 ∧ p.2.2.2.1 = q.2 % 10 ∧ p.2.2.2.2 = 97 + (fiOf q : Int)
theorem FD.is {D : LD} {J : LH} {w : World} (h : FD D J w) : HsIs D J.hs := ⟨h.lhs, fun k p q hp hq => by
  obtain ⟨h1, h2, h3, h4, _⟩ := h.hok k p q hp hq
  exact ⟨h1, h2, h3, h4⟩⟩
end Go.Proofs.Ybulkdfze
