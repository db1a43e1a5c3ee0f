import Derived.Test.YbulkadqmK30
import Derived.LaidEqlPtr
namespace Go.Proofs.Ybulkadqm.AK
open Go.RowKit
set_option linter.unusedSimpArgs false

/-- the parameter's numbers lie in their kinds -/
structure InOk (I : In) : Prop where
  v0 : 0 ≤ I.f0 ∧ I.f0 < 256
  v1 : 0 ≤ I.f1 ∧ I.f1 < 256
  v2 : 0 ≤ I.f2 ∧ I.f2 < 18446744073709551616
  v3 : 0 ≤ I.f3 ∧ I.f3 < 4294967296
  v4 : 0 ≤ I.f4 ∧ I.f4 < 256
  v6 : 0 ≤ I.f6 ∧ I.f6 < 4294967296
  v7 : 0 ≤ I.f7 ∧ I.f7 < 256
  v8 : 0 ≤ I.f8 ∧ I.f8 < 4294967296
  v9 : 0 ≤ I.f9 ∧ I.f9 < 4294967296
  v11 : 0 ≤ I.f11 ∧ I.f11 < 4294967296
  v12 : 0 ≤ I.f12 ∧ I.f12 < 256
  v14 : 0 ≤ I.f14 ∧ I.f14 < 4294967296
  v15 : 0 ≤ I.f15 ∧ I.f15 < 256
  v17 : 0 ≤ I.f17 ∧ I.f17 < 4294967296
  v18 : 0 ≤ I.f18 ∧ I.f18 < 256
  v20 : 0 ≤ I.f20 ∧ I.f20 < 4294967296
  v21 : 0 ≤ I.f21 ∧ I.f21 < 256
/-- a statement's zero cells -/
abbrev zst : List Value := [.int .u8 0, .int .u8 0, .int .u8 0, .int .u8 0, .int .u8 0, .int .u8 0, .int .u8 0, .int .u8 0, .int .u8 0, .int .u8 0, .int .u8 0, .int .u8 0, .int .u8 0, .int .u8 0, .int .u8 0, .int .u8 0, .int .u8 0, .int .u8 0, .int .u8 0, .int .u8 0, .int .u8 0, .int .u8 0, .int .u8 0, .int .u8 0, .int .u8 0, .int .u8 0, .int .u8 0, .int .u8 0, .int .u8 0, .int .u8 0, .int .u8 0, .int .u8 0, .int .u64 0, .int .u8 0, .int .u8 0, .int .u8 0, .int .u8 0, .int .u8 0, .int .u8 0, .int .u8 0, .int .u8 0, .int .u8 0, .int .u8 0, .int .u8 0, .int .u8 0, .int .u8 0, .int .u8 0, .int .u8 0, .int .u8 0, .int .u8 0, .int .u8 0, .int .u8 0, .int .u8 0, .int .u8 0, .int .u8 0, .int .u8 0, .int .u8 0, .int .u8 0, .int .u8 0, .int .u8 0, .int .u8 0, .int .u8 0, .int .u8 0, .int .u8 0, .int .u8 0, .nilIface]
def boxI (w : World) (I : In) : World := w.alloc (.cells I.cells.toArray 25)
theorem equal_self (p : Option Addr) (d : Nat) (w : World) : (Op.equalIn (d + 1) 39 (.pointer p) (.pointer p)).run Yba.prog w = .ok true w := by
  obtain ⟨j, hj, _, hs, _⟩ := info_parts info75
  cases p with
  | none => simp [Op.equalIn, run_underlying Yba.underlying39]
  | some a => simp [Op.equalIn, run_underlying Yba.underlying39, sizeOf, typeInfo, hj, hs, run_sameAddr_same]
theorem eql_self (p : Option Addr) (w : World) : (binOp .eql 39 (.pointer p) (.pointer p)).run Yba.prog w = .ok (.bool true) w := by
  simp only [binOp]
  simp [Op.equal, Op.maxDepth, equal_self p 9999]
theorem neq_self (p : Option Addr) (w : World) : (binOp .neq 39 (.pointer p) (.pointer p)).run Yba.prog w = .ok (.bool false) w := by
  simp only [binOp]
  simp [Op.equal, Op.maxDepth, equal_self p 9999]
theorem eql_new {w : World} {lo hb : Nat} {p : Option Addr} {C : Array Value} {t : TypeId} (ho : OAt w lo p) (hh : w.heap[hb]? = some (.cells C t (0, 0))) (hne : ∀ b, p = some ⟨b, 0, none⟩ → b ≠ hb) : (binOp .eql 39 (.pointer (some ⟨hb, 0, none⟩)) (.pointer p)).run Yba.prog w = .ok (.bool false) w := by
  obtain ⟨j, hj, _, hs, _⟩ := info_parts info75
  rcases ho with rfl | ⟨b, rfl, _, C', t', hb'⟩
  · have h : ∀ d : Nat, (Op.equalIn (d + 1) 39 (.pointer (some ⟨hb, 0, none⟩)) (.pointer none)).run Yba.prog w = .ok false w := fun d => by simp [Op.equalIn, run_underlying Yba.underlying39]
    simp only [binOp]
    simp [Op.equal, Op.maxDepth, h 9999]
  · exact run_eql_ptr_other w Yba.underlying39 hj (by rw [hs]; omega) (fun e => by injection e with e1; exact hne b rfl e1.symm) hh hb'
theorem OAt.fr {w w' : World} {sb eb lo : Nat} {p : Option Addr} (h : OAt w lo p) (hf : Fr sb eb w w') (h1 : sb < lo) (h2 : eb < lo) : OAt w' lo p := by
  rcases h with h | ⟨b, h3, h4, C, t, h5⟩
  · exact .inl h
  · exact .inr ⟨b, h3, h4, C, t, (hf.obj b (Array.getElem?_eq_some_iff.1 h5).1 (by omega) (by omega)).trans h5⟩
theorem Fr.range {w w' : World} {sb eb b : Nat} {cs : List Value} (hf : Fr sb eb w w') (h : w.rangeAt b 0 cs) (h1 : b ≠ sb) (h2 : b ≠ eb) : w'.rangeAt b 0 cs := fun j v hj =>
  hf.keep (by rintro (h | h | h | h) <;> (injection h with a b; first | exact h1 a | exact h2 a)) (h j v hj)
theorem acmp_at {w : World} {c c' : Int} {g n v g' n' v' : Nat} (h : VAt w g n v) (h' : VAt w g' n' v') (q : Nat) :
    Calls Yba.prog 9 #[.agg #[.int .u32 c, .slice (some ⟨g, 0, none⟩) n n], .agg #[.int .u32 c', .slice (some ⟨g', 0, none⟩) n' n']] (w.drewN q) fun e w' => e = .returned (.int .i64 (cmpB c v c' v')) ∧ Below w.heap.size w w' := by
  have hd := below_drewN (Below.refl w.heap.size w) q
  refine (acmp_walk c c' g n v g' n' v' (w.drewN q) (h.below hd) (h'.below hd)).mono ?_
  rintro e w' ⟨he, rfl⟩
  exact ⟨he, hd.trans ((boxed2_below ..).mono hd.size)⟩
theorem PlAt.fr {w w' : World} {sb eb lo : Nat} {I : In} {kind : Int} {pl : Value} (h : PlAt w lo I kind pl) (hf : Fr sb eb w w') : PlAt w' lo I kind pl := by
  rcases h with ⟨h0, sg, sn, pp, h1, h2, h3⟩ | ⟨h0, sg, sn, h1, h2⟩ | ⟨h0, sg, sn, h1, h2⟩
  · exact .inl ⟨h0, sg, sn, pp, h1, hf.val h2, h3.fr hf⟩
  · exact .inr (.inl ⟨h0, sg, sn, h1, hf.val h2⟩)
  · exact .inr (.inr ⟨h0, sg, sn, h1, hf.val h2⟩)
/-- what the law reads behind confirmPrepared -/
structure KF (w : World) (sb eb hb stb N lo bnd : Nat) (I : In) (pl : Value) (x : Bl) (pB pP pPP : Option Addr) : Prop where
  g0 : w.cell? ⟨sb, 0, none⟩ = some (.pointer (some ⟨eb, 0, none⟩))
  g5 : w.cell? ⟨sb, 5, none⟩ = some (.bool true)
  g2 : w.cell? ⟨N, 2, none⟩ = some (.int .u64 I.f2)
  g22 : w.cell? ⟨N, 22, none⟩ = some (.bool I.f22)
  xb : BAt w hb x.c x.g x.n x.v
  rs : w.rangeAt stb 0 (stL pl)
  pb : PAt w 0 I.f10 I.f11 (I.f12 % 3).toNat pB
  pp : PAt w 0 I.f13 I.f14 (I.f15 % 3).toNat pP
  ppp : PAt w 0 I.f16 I.f17 (I.f18 % 3).toNat pPP
  ob : OAt w lo pB
  b : (keepx I x = true ∧ w.cell? ⟨sb, 16, none⟩ = some (.pointer pB)) ∨ (keepx I x = false ∧ ∃ bb, w.cell? ⟨sb, 16, none⟩ = some (.pointer (some ⟨bb, 0, none⟩)) ∧ bnd ≤ bb ∧ BAt w bb x.c x.g x.n x.v ∧ w.heap[bb]? = some (.cells #[.int .u32 x.c, .slice (some ⟨x.g, 0, none⟩) x.n x.n] 75 (0, 0)))
  t : (I.f22 = true ∧ w.cell? ⟨eb, 79, none⟩ = some (.slice none 0 0)) ∨ (I.f22 = false ∧ ∃ tb cap, w.cell? ⟨eb, 79, none⟩ = some (.slice (some ⟨tb, 0, none⟩) 1 cap) ∧ w.rangeAt tb 0 (timL I.f2))
theorem KF.below {w w' : World} {sb eb hb stb N lo bnd : Nat} {I : In} {pl : Value} {x : Bl} {pB pP pPP : Option Addr} (h : KF w sb eb hb stb N lo bnd I pl x pB pP pPP) (hb' : Below w.heap.size w w') : KF w' sb eb hb stb N lo bnd I pl x pB pP pPP := by
  refine ⟨below_keep hb' h.g0, below_keep hb' h.g5, below_keep hb' h.g2, below_keep hb' h.g22, h.xb.below hb', below_range hb' h.rs, h.pb.below hb', h.pp.below hb', h.ppp.below hb', h.ob.below hb', ?_, ?_⟩
  · rcases h.b with ⟨h0, h1⟩ | ⟨h0, bb, h1, h2, h3, h4⟩
    · exact .inl ⟨h0, below_keep hb' h1⟩
    · exact .inr ⟨h0, bb, below_keep hb' h1, h2, h3.below hb', below_obj hb' h4⟩
  · rcases h.t with ⟨h0, h1⟩ | ⟨h0, tb, cap, h1, h2⟩
    · exact .inl ⟨h0, below_keep hb' h1⟩
    · exact .inr ⟨h0, tb, cap, below_keep hb' h1, below_range hb' h2⟩
theorem PlAt.below {w w' : World} {lo : Nat} {I : In} {kind : Int} {pl : Value} (h : PlAt w lo I kind pl) (hb : Below w.heap.size w w') : PlAt w' lo I kind pl := by
  rcases h with ⟨h0, sg, sn, pp, h1, h2, h3⟩ | ⟨h0, sg, sn, h1, h2⟩ | ⟨h0, sg, sn, h1, h2⟩
  · exact .inl ⟨h0, sg, sn, pp, h1, h2.below hb, h3.below hb⟩
  · exact .inr (.inl ⟨h0, sg, sn, h1, h2.below hb⟩)
  · exact .inr (.inr ⟨h0, sg, sn, h1, h2.below hb⟩)
theorem look31 {w : World} {b : Nat} {v : Value} (hb : w.heap[b]? = some (.map #[⟨k1, v, 0⟩] 1)) : (Instr.lookup 31 (.map (some b)) k1 false).run Yba.prog w = .ok v w := by
  simp only [Instr.lookup, Sem.run_bind, run_underlying Yba.underlying31, obj_map hb, Sem.run_pure, check47, find47, Result.andThen]
  rfl
theorem wp_store_new {P : Program} {op : Oper} {a : Act} {w : World} {K : Act → World → Prop} {Q : Exit → Act → World → Prop} (ty : TypeId) (x y : Operand) (ho : op.op = .store ty x y)
    (b : Nat) (c c' : Array Value) (hx : a.eval x = .pointer (some ⟨b, 0, none⟩)) (hb : b = w.heap.size) (hy : a.eval y = .agg c') (hi : (P.info? ty).map (·.size) = some c'.size) (hs : c.size = c'.size) (h1 : c'.all (·.oneCell') = true)
    (h : K (a.put op.dst undef) (w.alloc (.cells c' ty))) : op.wp P a (w.alloc (.cells c ty)) K Q := by
  subst hb
  have e := run_storeAt_new (P := P) w ty c c' hi hs h1
  unfold Oper.wp execOp
  simp only [ho, hx, hy, e, Sem.run_bind, Result.andThen_ok]
  exact h

end Go.Proofs.Ybulkadqm.AK
