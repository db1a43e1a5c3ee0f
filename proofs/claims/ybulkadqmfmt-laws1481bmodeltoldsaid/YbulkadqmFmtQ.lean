import Derived.Test.YbulkadqmFmtP
namespace Go.Proofs.YbulkadqmFmt.WB
open Go.RowKit Go.Extern.Stop Go.Stop Go.Extern

/-- a slice of pieces (Len uint32, Body []byte) that came in -/
structure InP (w : World) (a : Option Addr) (len : Nat) (T : Nat → Int) (A : Nat → Option Addr) (L C : Nat → Nat) (Z : Nat → List Int) : Prop where
  cells : ∀ i, i < len → ∃ b off, a = some ⟨b, off, none⟩ ∧ w.cell? ⟨b, off + i * 2, none⟩ = some (.int .u32 (T i)) ∧ w.cell? ⟨b, off + i * 2 + 1, none⟩ = some (.slice (A i) (L i) (C i))
  row : ∀ i, i < len → Row .u8 w (A i) (L i) (Z i)
  bytes : ∀ i, i < len → Bytes (Z i)
  nil : ∀ i, i < len → A i = none → L i = 0 ∧ C i = 0
  th : ∀ i, i < len → 0 ≤ T i ∧ T i < 4294967296
theorem InP.below {w w' : World} {a : Option Addr} {len : Nat} {T : Nat → Int} {A : Nat → Option Addr} {L C : Nat → Nat} {Z : Nat → List Int} (h : InP w a len T A L C Z) (hb : Below w.heap.size w w') : InP w' a len T A L C Z :=
  ⟨fun i hi => by obtain ⟨b, off, e, h1, h2⟩ := h.cells i hi; exact ⟨b, off, e, below_keep hb h1, below_keep hb h2⟩, fun i hi => (h.row i hi).below hb, h.bytes, h.nil, h.th⟩

/-- the bytes that the law builds -/
def rawTo (x : Int) (T : Nat → Int) (Z : Nat → List Int) : Nat → List Int
  | 0 => by4 x
  | i + 1 => rawTo x T Z i ++ (by4 (T i) ++ Z i)
theorem rawTo_bytes {x : Int} (h0 : 0 ≤ x) (h1 : x < 4294967296) (T : Nat → Int) (Z : Nat → List Int) : ∀ i, (∀ j, j < i → Bytes (Z j) ∧ 0 ≤ T j ∧ T j < 4294967296) → Bytes (rawTo x T Z i)
  | 0, _ => by4_bytes _ h0 h1
  | i + 1, h => (rawTo_bytes h0 h1 T Z i (fun j hj => h j (by omega))).append ((by4_bytes _ (h i (by omega)).2.1 (h i (by omega)).2.2).append (h i (by omega)).1)
theorem rawTo_len_le (x : Int) (T : Nat → Int) (Z : Nat → List Int) : ∀ i, (∀ j, j < i → (Z j).length ≤ 1024) → (rawTo x T Z i).length ≤ 4 + i * 1028
  | 0, _ => by simp [rawTo, by4_len]
  | i + 1, h => by
    have h1 := rawTo_len_le x T Z i (fun j hj => h j (by omega))
    have h2 := h i (by omega)
    show (rawTo x T Z i ++ (by4 (T i) ++ Z i)).length ≤ _
    rw [List.length_append, List.length_append, by4_len]; omega
theorem rawTo_len_ge (x : Int) (T : Nat → Int) (Z : Nat → List Int) : ∀ i, 4 ≤ (rawTo x T Z i).length
  | 0 => by simp [rawTo, by4_len]
  | i + 1 => by
    have h1 := rawTo_len_ge x T Z i
    show _ ≤ (rawTo x T Z i ++ (by4 (T i) ++ Z i)).length
    rw [List.length_append]; omega

theorem buf_mem {N : Nat} {w wr : World} {g n c : Nat} {D : List Int} (h : Buf N w wr g n c D) (hb : Bytes D) (hn : n ≤ 4294967295) : Mem wr g n c D := by
  have d := buf_dec h hb hn h.cap
  refine ⟨fun i hi => ?_, h.len, d.lb, hn, hb⟩
  have := d.row i hi
  rwa [World.cell?_alloc_past _ _ _ h.lt] at this

theorem Buf.later {N : Nat} {w wr w2 : World} {g n c : Nat} {D : List Int} (h : Buf N w wr g n c D) (hb : Below wr.heap.size wr w2) : Buf N w w2 g n c D := by
  refine ⟨⟨h.own.1, ?_⟩, h.bel.trans (hb.mono ?_), h.lo⟩
  · rcases h.own.2 with hn | ⟨g', cap, cur, hv, hg, hh, r⟩
    · exact .inl hn
    · exact .inr ⟨g', cap, cur, hv, hg, by rw [hb.block g' (Array.getElem?_eq_some_iff.1 hh).1]; exact hh, r⟩
  · have := h.lo; have := h.lt; omega

set_option maxRecDepth 100000 in
set_option maxHeartbeats 6400000 in
theorem mlaw_walk (F : Interp) (x : Int) (a : Option Addr) (len cap : Nat) (T : Nat → Int) (A : Nat → Option Addr) (L C : Nat → Nat) (Z : Nat → List Int) (w : World) (hF : F.answers w.tape) (hx0 : 0 ≤ x) (hx1 : x < 4294967296) (hin : InP w a len T A L C Z) :
    Calls Ybaf.prog 4 #[.int .u32 x, .slice a len cap] w fun e w' => e = .returned (.bool true) ∧ Below w.heap.size w w' := by
  by_cases hbig : 256 < len
  · clear hin
    go_enter Ybaf.func4, Ybaf.ntmps4
    go_wp2_with fail
    go_ret
    exact ⟨rfl, Below.refl _ _⟩
  have hlen : len ≤ 256 := by omega
  clear hbig
  have HF : Hid (F.answers w.tape) := hF
  clear hF
  go_enter Ybaf.func4, Ybaf.ntmps4
  go_wp2_with fail
  go_loop [5] (fun i => ∃ k : Nat, k ≤ len ∧ i = .int .i64 k ∧ ∀ j, j < k → L j ≤ 1024) (fun i => len - (intOf i).toNat)
  case atStart => exact ⟨0, Nat.zero_le _, rfl, by intro j hj; omega⟩
  case round =>
    obtain ⟨k, hk, rfl, hall⟩ := hrel
    have HA : Hid (∀ j, j < k → L j ≤ 1024) := hall
    clear hall
    by_cases hlt : k < len
    · obtain ⟨b, off, rfl, _, hcell⟩ := hin.cells k hlt
      by_cases hL : 1024 < L k
      · clear hin
        go_wp2_with fail
        go_ret
        exact ⟨rfl, Below.refl _ _⟩
      · have hL' : L k ≤ 1024 := by omega
        clear hL
        go_wp2_with fail
        go_round
        case rel =>
          refine ⟨k + 1, by omega, by go_num, ?_⟩
          intro j hj
          by_cases e : j = k
          · subst e; exact hL'
          · exact HA.out j (by omega)
        case measure => simp [intOf]; omega
    · have hk' : k = len := by omega
      subst hk'
      have hLs : ∀ j, j < k → L j ≤ 1024 := HA.out
      have HLs : Hid (∀ j, j < k → L j ≤ 1024) := hLs
      clear HA hLs hlt hk
      go_wp2_with fail
      refine (put_any w.heap.size none 0 0 [] x hx0 hx1 w (World.ownsRow_nil _ _ _ _) (by omega) (Nat.le_refl _)).mono ?_
      rintro e w1 ⟨g0, cap0, rfl, hown0, hgr0, hlo0, _⟩
      have hbuf0 : Buf w.heap.size w w1 g0 4 cap0 (rawTo x T Z 0) := ⟨hown0, (Below.refl _ _).grown hgr0 (Nat.le_refl _) (by intro j hj; cases hj), hlo0⟩
      clear hown0 hgr0 hlo0
      obtain ⟨i0, hi, hz0, hz1, hz2⟩ := info_parts info5
      go_wp2_with fail
      go_loopg [6, 7] k (fun gg bv i wr => ∃ (j g n c : Nat), j ≤ k ∧ gg = k - j ∧ i = .int .i64 j ∧ bv = .slice (some ⟨g, 0, none⟩) n c ∧ Buf w.heap.size w wr g n c (rawTo x T Z j))
      case atStart => exact ⟨0, g0, 4, cap0, Nat.zero_le _, rfl, rfl, rfl, hbuf0⟩
      case round =>
        obtain ⟨j, g, n, c, hj, rfl, rfl, rfl, hbuf⟩ := hrel
        clear hbuf0
        have hnl := hbuf.len
        have hble := rawTo_len_le x T Z j (fun q hq => by have h1 := HLs.out q (by omega); have := (hin.row q (by omega)).1; omega)
        have hn1 : n ≤ 300000 := by omega
        clear hnl hble
        by_cases hlt : j < k
        · obtain ⟨b, off, rfl, hcell0, hcell1⟩ := hin.cells j hlt
          have hcellT : wr.cell? ⟨b, off + j * 2, none⟩ = some (.int .u32 (T j)) := (hbuf.bel.cell (p := ⟨b, off + j * 2, none⟩) (World.block_lt_of_cell? w _ hcell0)).trans hcell0
          have hLj := HLs.out j hlt
          have hrow := hin.row j hlt
          have hnil := hin.nil j hlt
          obtain ⟨ht0, ht1⟩ := hin.th j hlt
          have HE : Hid (rawTo x T Z (j + 1) = rawTo x T Z j ++ (by4 (T j) ++ Z j)) := rfl
          clear hcell0 hin
          generalize A j = aj at *
          generalize hLL : L j = lj at *
          clear hLL
          generalize C j = cj at *
          generalize Z j = zj at *
          generalize T j = tj at *
          generalize rawTo x T Z j = Ej at *
          have hzl : lj = zj.length := hrow.1
          have HZ : Hid (lj = zj.length) := hzl
          clear hzl
          go_wp2_with fail
          refine (put_any w.heap.size (some ⟨g, 0, none⟩) n c Ej tj ht0 ht1 wr hbuf.own (by omega) hbuf.bel.size).mono ?_
          rintro e w2 ⟨g1, cap1, rfl, hown1, hgr1, _, _⟩
          have hbuf1 := hbuf.next hbuf.bel.size hown1 hgr1
          have hcellB : w2.cell? ⟨b, off + j * 2 + 1, none⟩ = some (.slice aj lj cj) := (hbuf1.bel.cell (p := ⟨b, off + j * 2 + 1, none⟩) (World.block_lt_of_cell? w _ hcell1)).trans hcell1
          clear hown1 hgr1 hbuf hcellT hcell1
          rcases aj with _ | ad
          · obtain ⟨rfl, rfl⟩ := hnil rfl
            have hz : zj = [] := List.eq_nil_of_length_eq_zero HZ.out.symm
            have HB : Hid (Buf w.heap.size w w2 g1 (n + 4) cap1 (Ej ++ (by4 tj ++ zj))) := by
              show Buf _ _ _ _ _ _ _
              rw [hz, List.append_nil]
              exact hbuf1
            go_wp2_with (at_builtin; refine wpList_append_own_none rfl (.tmp 45) (.tmp 50) 23 rfl w.heap.size 5 i0 1 Ybaf.underlying23 hi _ _ _ rfl hbuf1.own rfl ?_)
            clear hbuf1 hnil hz hrow
            go_roundg (k - (j + 1))
            case rel => exact ⟨j + 1, g1, n + 4, cap1, by omega, rfl, by go_num, rfl, by rw [HE.out]; exact HB.out⟩
            case measure => omega
          · have hrow2 : Row .u8 w2 (some ad) lj zj := hrow.below hbuf1.bel
            have hzm : (zj.map (Value.int .u8)).length = lj * 1 := by rw [List.length_map, HZ.out]; omega
            go_wp2_with (at_builtin; refine wpList_append_own _ rfl (.tmp 45) (.tmp 50) 23 rfl w.heap.size 5 i0 (.int .u8 0) 1 1 Ybaf.underlying23 hi hz0 hz1 hz2 rfl (by omega) _ (n + 4) _ rfl hbuf1.own ad lj cj (zj.map (Value.int .u8)) rfl hzm (row_news hrow2) (by simp [Value.oneCell']) (by unfold maxLen; omega) (by omega) hbuf1.bel.size ?_; intro v2 w3 hown2 hgr2 _)
            obtain ⟨g2, c2, rfl, _, _⟩ := hown2.form (by omega)
            have HB : Hid (Buf w.heap.size w w3 g2 (n + 4 + lj) c2 (Ej ++ (by4 tj ++ zj))) := hbuf1.next hbuf1.bel.size (by rw [← List.append_assoc, List.map_append]; exact hown2) hgr2
            clear hbuf1 hnil hrow hrow2 hzm hown2 hgr2
            go_roundg (k - (j + 1))
            case rel => exact ⟨j + 1, g2, n + 4 + lj, c2, by omega, rfl, by go_num, rfl, by rw [HE.out]; exact HB.out⟩
            case measure => omega
        · have hjk : j = k := by omega
          subst hjk
          clear hlt hj hi hz0 hz1 hz2
          have hbytes : Bytes (rawTo x T Z j) := rawTo_bytes hx0 hx1 T Z j (fun q hq => ⟨hin.bytes q hq, hin.th q hq⟩)
          have hge := rawTo_len_ge x T Z j
          have hnl := hbuf.len
          generalize rawTo x T Z j = D at *
          have hn4 : 4 ≤ n := by omega
          have HNL : Hid (n = D.length) := hnl
          clear hin hnl hge
          have bd := u32At_bd hbytes (p := 0) (by have := HNL.out; omega)
          obtain ⟨nn, hnn⟩ := Int.eq_ofNat_of_zero_le bd.1
          have HNN : Hid (u32At D 0 = (nn : Int)) := hnn
          have hnn2 : nn < 4294967296 := by omega
          clear bd hnn
          have hq28 := fun (x : World) (a : Option Addr) (n c n' c' : Nat) => Lib.run_eql_slice_nil (P := Ybaf.prog) x 28 34 a n c n' c' Ybaf.underlying28
          have hq22 := fun (x : World) (a : Option Addr) (n c n' c' : Nat) => Lib.run_eql_slice_nil (P := Ybaf.prog) x 22 23 a n c n' c' Ybaf.underlying22
          go_wp2_with fail
          refine (model_any (buf_mem hbuf hbytes (by omega)) hn4 HNN.out hnn2).mono ?_
          rintro e w2 hpost
          by_cases hb1 : n - 4 < nn * 4
          · obtain ⟨rfl, hbm⟩ := hpost.1 hb1
            clear hpost
            have hbuf2 := hbuf.later hbm
            have hdec := buf_dec hbuf2 hbytes (by omega) hbuf2.cap
            go_wp2_with (go_at_call 6; go_in)
            have hF2 : F.answers (w2.alloc (.cells #[.slice (some ⟨g, 0, none⟩) n c, .int .i64 0, .nilIface] 33)).tape := by show F.answers w2.tape; rw [hbuf2.bel.tape]; exact HF.out
            refine (decode_any hdec hF2 hn4 HNN.out hnn2).mono ?_
            rintro e w3 dpost
            obtain ⟨rfl, ⟨q, d3⟩, s3⟩ := dpost.1 hb1
            have hbel : Below w.heap.size w w3 := (hbuf2.bel.alloc hbuf2.bel.size _).trans ⟨s3.g.os, s3.g.tape, s3.g.output, s3.g.size, fun q hq => s3.g.block q (by have := hbuf2.bel.size; simp; omega) (fun e => by have := hbuf2.bel.size; cases e; omega)⟩
            have hc1 := d3.c1
            have hc2 := d3.c2
            clear dpost hdec hF2 d3 s3 hbuf2 hbuf hbm
            go_wp2_with fail
            refine wp_loop_rounds 1 ?_
            rw [rounds_succ]
            go_wp2_with fail
            go_ret
            exact ⟨rfl, hbel⟩
          · have hb2 : nn * 4 ≤ n - 4 := by omega
            clear hb1
            by_cases hn0 : nn = 0
            · subst hn0
              obtain ⟨rfl, hbm⟩ := hpost.2.1 hb2 rfl
              clear hpost
              have hbuf2 := hbuf.later hbm
              have hdec := buf_dec hbuf2 hbytes (by omega) hbuf2.cap
              go_wp2_with (go_at_call 6; go_in)
              have hF2 : F.answers (w2.alloc (.cells #[.slice (some ⟨g, 0, none⟩) n c, .int .i64 0, .nilIface] 33)).tape := by show F.answers w2.tape; rw [hbuf2.bel.tape]; exact HF.out
              refine (decode_any hdec hF2 hn4 HNN.out hnn2).mono ?_
              rintro e w3 dpost
              obtain ⟨rfl, d3, s3⟩ := dpost.2.1 hb2 rfl
              have hbel : Below w.heap.size w w3 := (hbuf2.bel.alloc hbuf2.bel.size _).trans ⟨s3.g.os, s3.g.tape, s3.g.output, s3.g.size, fun q hq => s3.g.block q (by have := hbuf2.bel.size; simp; omega) (fun e => by have := hbuf2.bel.size; cases e; omega)⟩
              have hc1 := d3.c1
              have hc2 := d3.c2
              clear dpost hdec hF2 d3 s3 hbuf2 hbuf hbm
              go_wp2_with fail
              refine wp_loop_rounds 1 ?_
              rw [rounds_succ]
              go_wp2_with fail
              go_ret
              exact ⟨rfl, hbel⟩
            · have hnpos : 0 < nn := by omega
              obtain ⟨vm, rfl, M⟩ := hpost.2.2 hb2 hnpos
              clear hpost hn0
              have hbm : Below wr.heap.size wr w2 := M.bel.mono M.vw
              have hbuf2 := hbuf.later hbm
              have hdec := buf_dec hbuf2 hbytes (by omega) hbuf2.cap
              go_wp2_with (go_at_call 6; go_in)
              have hF2 : F.answers (w2.alloc (.cells #[.slice (some ⟨g, 0, none⟩) n c, .int .i64 0, .nilIface] 33)).tape := by show F.answers w2.tape; rw [hbuf2.bel.tape]; exact HF.out
              refine (decode_any hdec hF2 hn4 HNN.out hnn2).mono ?_
              rintro e w3 dpost
              obtain ⟨vd, rfl, R⟩ := dpost.2.2 hb2 hnpos
              have s3 := R.step
              have hbel : Below w.heap.size w w3 := (hbuf2.bel.alloc hbuf2.bel.size _).trans ⟨s3.g.os, s3.g.tape, s3.g.output, s3.g.size, fun q hq => s3.g.block q (by have := hbuf2.bel.size; simp; omega) (fun e => by have := hbuf2.bel.size; cases e; omega)⟩
              have hkeep : ∀ q, q < w2.heap.size → w3.heap[q]? = w2.heap[q]? := fun q hq => (s3.g.block q (by simp; omega) (fun e => by cases e; omega)).trans (Below.heap_alloc _ _ _ hq)
              have hwant : ∀ i, i < nn → ∃ v, w3.cell? ⟨vm, i, none⟩ = some v ∧ ValIs w3 0 v (vAt D i) := by
                intro i hi
                obtain ⟨v, h1, h2⟩ := M.done i hi
                exact ⟨v, (World.cell?_of_block (w := w2) (a := ⟨vm, i, none⟩) (hkeep vm M.lt)).trans h1, h2.mono (Nat.zero_le _) fun q _ hql => hkeep q hql⟩
              have hgot : ∀ i, i < nn → ∃ v, w3.cell? ⟨vd, i, none⟩ = some v ∧ ValIs w3 0 v (vAt D i) := by
                intro i hi
                obtain ⟨v, h1, h2⟩ := R.done i hi
                exact ⟨v, h1, h2.mono (Nat.zero_le _) fun q _ _ => rfl⟩
              obtain ⟨ev, d3, hev⟩ := R.dec
              have hc1 := d3.c1
              have hc2 := d3.c2
              obtain ⟨⟨pp, ff⟩, hpf⟩ : ∃ st, st = stAt D nn := ⟨_, rfl⟩
              rw [← hpf] at hc1 hev ⊢
              clear dpost hdec hF2 d3 s3 hbuf2 hbuf hbm hkeep M R hpf
              have HG : Hid (∀ i, i < nn → ∃ v, w3.cell? ⟨vd, i, none⟩ = some v ∧ ValIs w3 0 v (vAt D i)) := hgot
              have HW : Hid (∀ i, i < nn → ∃ v, w3.cell? ⟨vm, i, none⟩ = some v ∧ ValIs w3 0 v (vAt D i)) := hwant
              clear hgot hwant
              cases ff
              case false =>
                obtain rfl : ev = .nilIface := hev
                go_wp2_with fail
                generalize w3 = wz at *
                have hq34 := fun (x : World) (a : Option Addr) (n c n' c' : Nat) => Lib.run_eql_slice_nil (P := Ybaf.prog) x 34 5 a n c n' c' Ybaf.underlying34
                have hq23 := fun (x : World) (a : Option Addr) (n c n' c' : Nat) => Lib.run_eql_slice_nil (P := Ybaf.prog) x 23 5 a n c n' c' Ybaf.underlying23
                go_loopg [13] nn (fun gg i wq => ∃ q : Nat, q ≤ nn ∧ gg = nn - q ∧ i = .int .i64 q ∧ ∃ m, wq = wz.drewN m)
                case atStart => exact ⟨0, Nat.zero_le _, rfl, rfl, 0, rfl⟩
                case round =>
                  obtain ⟨r, hr, rfl, rfl, m, hm⟩ := hrel
                  have HWR : Hid (wr = wz.drewN m) := hm
                  clear hm hc1 hc2
                  by_cases hlt : r < nn
                  · obtain ⟨v1, hv1', ho1⟩ := HG.out r hlt
                    obtain ⟨v2, hv2', ho2⟩ := HW.out r hlt
                    have hv1 : wr.cell? ⟨vd, r, none⟩ = some v1 := by rw [HWR.out]; exact hv1'
                    have hv2 : wr.cell? ⟨vm, r, none⟩ = some v2 := by rw [HWR.out]; exact hv2'
                    have hr0 : (0 : Int) ≤ (r : Int) := by omega
                    have hr1 : (r : Int) < (nn : Int) := by omega
                    clear hv1' hv2'
                    cases hva : vAt D r with
                    | none =>
                      rw [hva] at ho1 ho2
                      obtain rfl : v1 = .slice none 0 0 := ho1
                      obtain rfl : v2 = .slice none 0 0 := ho2
                      have HEQ : Hid (∀ x, Calls Ybaf.prog 8 #[.slice none 0 0, .slice none 0 0] (wr.drewN x) fun e w' => e = .returned (.bool true) ∧ w' = wr.drewN x) := by
                        intro x
                        exact (equal_any none none 0 0 0 0 [] [] (wr.drewN x) ⟨rfl, fun i hi => by omega⟩ ⟨rfl, fun i hi => by omega⟩ (fun i hi => by simp at hi) (fun i hi => by simp at hi)).mono fun e w' h => ⟨h.1.trans (by simp), h.2⟩
                      clear HG HW hva
                      go_wp2_with fail
                      go_quiet ((go_at_call 8; exact Calls.quiet_of_same (HEQ.out _)))
                      go_wp2_with fail
                      go_roundg (nn - (r + 1))
                      case rel => exact ⟨r + 1, by omega, rfl, by go_num, m + nq, by rw [HWR.out]; simp⟩
                      case measure => omega
                    | some bs =>
                      rw [hva] at ho1 ho2
                      obtain ⟨g1, rfl, _, hh1, hby⟩ := ho1
                      obtain ⟨g2, rfl, _, hh2, _⟩ := ho2
                      have HEQ : Hid (∀ x, Calls Ybaf.prog 8 #[.slice (some ⟨g1, 0, none⟩) bs.length bs.length, .slice (some ⟨g2, 0, none⟩) bs.length bs.length] (wr.drewN x) fun e w' => e = .returned (.bool true) ∧ w' = wr.drewN x) := by
                        intro x
                        refine (equal_any _ _ _ _ _ _ bs bs (wr.drewN x) ?_ ?_ hby hby).mono fun e w' h => ⟨h.1.trans (by simp), h.2⟩
                        · rw [HWR.out]; exact row_of_block hh1
                        · rw [HWR.out]; exact row_of_block hh2
                      clear HG HW hva hh1 hh2 hby
                      go_wp2_with fail
                      go_quiet ((go_at_call 8; exact Calls.quiet_of_same (HEQ.out _)))
                      go_wp2_with fail
                      go_roundg (nn - (r + 1))
                      case rel => exact ⟨r + 1, by omega, rfl, by go_num, m + nq, by rw [HWR.out]; simp⟩
                      case measure => omega
                  · go_wp2_with fail
                    go_ret
                    exact ⟨rfl, by rw [HWR.out]; exact below_drewN hbel _⟩
              case true =>
                obtain ⟨q, rfl⟩ := hev
                go_wp2_with fail
                generalize w3 = wz at *
                have hq34 := fun (x : World) (a : Option Addr) (n c n' c' : Nat) => Lib.run_eql_slice_nil (P := Ybaf.prog) x 34 5 a n c n' c' Ybaf.underlying34
                have hq23 := fun (x : World) (a : Option Addr) (n c n' c' : Nat) => Lib.run_eql_slice_nil (P := Ybaf.prog) x 23 5 a n c n' c' Ybaf.underlying23
                go_loopg [13] nn (fun gg i wq => ∃ q : Nat, q ≤ nn ∧ gg = nn - q ∧ i = .int .i64 q ∧ ∃ m, wq = wz.drewN m)
                case atStart => exact ⟨0, Nat.zero_le _, rfl, rfl, 0, rfl⟩
                case round =>
                  obtain ⟨r, hr, rfl, rfl, m, hm⟩ := hrel
                  have HWR : Hid (wr = wz.drewN m) := hm
                  clear hm hc1 hc2
                  by_cases hlt : r < nn
                  · obtain ⟨v1, hv1', ho1⟩ := HG.out r hlt
                    obtain ⟨v2, hv2', ho2⟩ := HW.out r hlt
                    have hv1 : wr.cell? ⟨vd, r, none⟩ = some v1 := by rw [HWR.out]; exact hv1'
                    have hv2 : wr.cell? ⟨vm, r, none⟩ = some v2 := by rw [HWR.out]; exact hv2'
                    have hr0 : (0 : Int) ≤ (r : Int) := by omega
                    have hr1 : (r : Int) < (nn : Int) := by omega
                    clear hv1' hv2'
                    cases hva : vAt D r with
                    | none =>
                      rw [hva] at ho1 ho2
                      obtain rfl : v1 = .slice none 0 0 := ho1
                      obtain rfl : v2 = .slice none 0 0 := ho2
                      have HEQ : Hid (∀ x, Calls Ybaf.prog 8 #[.slice none 0 0, .slice none 0 0] (wr.drewN x) fun e w' => e = .returned (.bool true) ∧ w' = wr.drewN x) := by
                        intro x
                        exact (equal_any none none 0 0 0 0 [] [] (wr.drewN x) ⟨rfl, fun i hi => by omega⟩ ⟨rfl, fun i hi => by omega⟩ (fun i hi => by simp at hi) (fun i hi => by simp at hi)).mono fun e w' h => ⟨h.1.trans (by simp), h.2⟩
                      clear HG HW hva
                      go_wp2_with fail
                      go_quiet ((go_at_call 8; exact Calls.quiet_of_same (HEQ.out _)))
                      go_wp2_with fail
                      go_roundg (nn - (r + 1))
                      case rel => exact ⟨r + 1, by omega, rfl, by go_num, m + nq, by rw [HWR.out]; simp⟩
                      case measure => omega
                    | some bs =>
                      rw [hva] at ho1 ho2
                      obtain ⟨g1, rfl, _, hh1, hby⟩ := ho1
                      obtain ⟨g2, rfl, _, hh2, _⟩ := ho2
                      have HEQ : Hid (∀ x, Calls Ybaf.prog 8 #[.slice (some ⟨g1, 0, none⟩) bs.length bs.length, .slice (some ⟨g2, 0, none⟩) bs.length bs.length] (wr.drewN x) fun e w' => e = .returned (.bool true) ∧ w' = wr.drewN x) := by
                        intro x
                        refine (equal_any _ _ _ _ _ _ bs bs (wr.drewN x) ?_ ?_ hby hby).mono fun e w' h => ⟨h.1.trans (by simp), h.2⟩
                        · rw [HWR.out]; exact row_of_block hh1
                        · rw [HWR.out]; exact row_of_block hh2
                      clear HG HW hva hh1 hh2 hby
                      go_wp2_with fail
                      go_quiet ((go_at_call 8; exact Calls.quiet_of_same (HEQ.out _)))
                      go_wp2_with fail
                      go_roundg (nn - (r + 1))
                      case rel => exact ⟨r + 1, by omega, rfl, by go_num, m + nq, by rw [HWR.out]; simp⟩
                      case measure => omega
                  · go_wp2_with fail
                    go_ret
                    exact ⟨rfl, by rw [HWR.out]; exact below_drewN hbel _⟩
end Go.Proofs.YbulkadqmFmt.WB
