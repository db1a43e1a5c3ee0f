import Derived.Test.YbulkadqmFmtM
import Derived.Laws.AppendOwnNone
import Derived.Lib.SliceRun
namespace Go.Proofs.YbulkadqmFmt.WB
open Go.RowKit Go.Extern.Stop Go.Stop Go.Extern

/-- a slice of slices of bytes that came in -/
structure InV (w : World) (a : Option Addr) (len : Nat) (A : Nat → Option Addr) (L C : Nat → Nat) (Z : Nat → List Int) : Prop where
  cells : ∀ i, i < len → ∃ b off, a = some ⟨b, off, none⟩ ∧ w.cell? ⟨b, off + i, none⟩ = some (.slice (A i) (L i) (C i))
  row : ∀ i, i < len → Row .u8 w (A i) (L i) (Z i)
  bytes : ∀ i, i < len → Bytes (Z i)
  nil : ∀ i, i < len → A i = none → L i = 0 ∧ C i = 0

theorem below_keep {w w' : World} (h : Below w.heap.size w w') {p : Addr} {v : Value} (hc : w.cell? p = some v) : w'.cell? p = some v :=
  (h.cell (World.block_lt_of_cell? w p hc)).trans hc
theorem Row.below {k : IntKind} {w w' : World} {a : Option Addr} {len : Nat} {zs : List Int} (h : Row k w a len zs) (hb : Below w.heap.size w w') : Row k w' a len zs :=
  ⟨h.1, fun i hi => by obtain ⟨b, off, e, hc⟩ := h.2 i hi; exact ⟨b, off, e, below_keep hb hc⟩⟩
theorem InV.below {w w' : World} {a : Option Addr} {len : Nat} {A : Nat → Option Addr} {L C : Nat → Nat} {Z : Nat → List Int} (h : InV w a len A L C Z) (hb : Below w.heap.size w w') : InV w' a len A L C Z :=
  ⟨fun i hi => by obtain ⟨b, off, e, hc⟩ := h.cells i hi; exact ⟨b, off, e, below_keep hb hc⟩, fun i hi => (h.row i hi).below hb, h.bytes, h.nil⟩

/-- the slice that the call builds: value, content -/
structure Buf (N : Nat) (w wr : World) (g n c : Nat) (D : List Int) : Prop where
  own : wr.ownsRow N 5 1 (.slice (some ⟨g, 0, none⟩) n c) n (D.map (Value.int .u8))
  bel : Below N w wr
  lo : N ≤ g
theorem Buf.len {N : Nat} {w wr : World} {g n c : Nat} {D : List Int} (h : Buf N w wr g n c D) : n = D.length := by have := h.own.1; simpa using this.symm
theorem Buf.lt {N : Nat} {w wr : World} {g n c : Nat} {D : List Int} (h : Buf N w wr g n c D) : g < wr.heap.size := (h.own.lt g rfl).2
theorem Buf.next {N : Nat} {w wr w1 : World} {g n c g' n' c' : Nat} {D D' : List Int} (h : Buf N w wr g n c D) (hN : N ≤ wr.heap.size) (hown : w1.ownsRow N 5 1 (.slice (some ⟨g', 0, none⟩) n' c') n' (D'.map (Value.int .u8)))
    (hg : wr.grownBy w1 (Value.slice (some ⟨g, 0, none⟩) n c).ownBlock) : Buf N w w1 g' n' c' D' :=
  ⟨hown, h.bel.grown hg hN (fun k hk => by cases hk; exact h.lo), (hown.lt g' rfl).1⟩

/-- the cells of a slice that came in, as append wants them -/
theorem row_news {w : World} {ad : Addr} {len : Nat} {zs : List Int} (h : Row .u8 w (some ad) len zs) (j : Nat) (u : Value) (hj : (zs.map (Value.int .u8))[j]? = some u) : w.cell? (ad.add j) = some u := by
  have hjl : j < zs.length := by
    rcases Nat.lt_or_ge j zs.length with h | h
    · exact h
    · rw [List.getElem?_eq_none (by simpa using h)] at hj; cases hj
  obtain ⟨b, off, e, hc⟩ := h.2 j (by have := h.1; omega)
  cases e
  have hadd : (⟨b, off, none⟩ : Addr).add j = ⟨b, off + j, none⟩ := by unfold Addr.add; split <;> simp_all
  rw [hadd, hc]
  rw [List.getElem?_map, List.getElem?_eq_getElem hjl] at hj
  simp at hj
  rw [← hj, List.getD_eq_getElem?_getD, List.getElem?_eq_getElem hjl]; rfl

theorem own_ne (g n c db : Nat) (h : g ≠ db) : (Value.slice (some ⟨g, 0, none⟩) n c).ownBlock ≠ some db := fun e => h (by simpa [Value.ownBlock] using e)

theorem buf_cell {w : World} {N g n c : Nat} {D : List Int} (h : w.ownsRow N 5 1 (.slice (some ⟨g, 0, none⟩) n c) n (D.map (Value.int .u8))) (r : Nat) (hr : r < n) : ∃ v, w.cell? ⟨g, r, none⟩ = some v := by
  rcases h.2 with ⟨h1, _⟩ | ⟨g', cap', cur, hv, _, hh, hn', hm, hs, ht⟩
  · cases h1
  · cases hv
    rw [cell_of_row w g r cur 5 (0, 0) hh]
    exact ⟨cur[r]'(by omega), Array.getElem?_eq_getElem (by omega)⟩
theorem buf_free {w : World} {N g n c : Nat} {D : List Int} (h : w.ownsRow N 5 1 (.slice (some ⟨g, 0, none⟩) n c) n (D.map (Value.int .u8))) (r : Nat) : w.frozen? ⟨g, r, none⟩ = false := by
  rcases h.2 with ⟨h1, _⟩ | ⟨g', cap', cur, hv, _, hh, hn', hm, hs, ht⟩
  · cases h1
  · cases hv
    simp [World.frozen?, hh]

theorem row_of_block {w : World} {g : Nat} {zs : List Int} (h : w.heap[g]? = some (.cells (zs.map (Value.int .u8)).toArray 5 (0, 0))) : Row .u8 w (some ⟨g, 0, none⟩) zs.length zs := by
  refine ⟨rfl, fun i hi => ⟨g, 0, rfl, ?_⟩⟩
  rw [Nat.zero_add, cell_of_row w g i _ 5 (0, 0) h]
  simp [hi, List.getD]

/-- the decoder over what was built -/
theorem buf_dec {N : Nat} {w wr : World} {g n c : Nat} {D : List Int} (h : Buf N w wr g n c D) (hb : Bytes D) (hn : n ≤ 4294967295) (hc : c ≤ 9223372036854775807) :
    Dec (wr.alloc (.cells #[.slice (some ⟨g, 0, none⟩) n c, .int .i64 0, .nilIface] 33)) wr.heap.size g n c D 0 .nilIface := by
  have hlt := h.lt
  have hrow : ∀ i, i < n → wr.cell? ⟨g, i, none⟩ = some (.int .u8 (D.getD i 0)) := by
    intro i hi
    rcases h.own.2 with ⟨h1, _⟩ | ⟨g', cap', cur, hv, _, hh, hn', _, hs, ht⟩
    · cases h1
    · cases hv
      rw [cell_of_row wr g i cur 5 (0, 0) hh]
      have hl := h.len
      have hx : (D.map (Value.int .u8))[i]? = some (.int .u8 (D.getD i 0)) := by
        rw [List.getElem?_map, List.getElem?_eq_getElem (by omega), List.getD_eq_getElem?_getD, List.getElem?_eq_getElem (by omega)]; rfl
      rw [← ht, List.getElem?_take, if_pos (by omega)] at hx
      simpa using hx
  have hcap : n ≤ c := by
    rcases h.own.2 with ⟨h1, _⟩ | ⟨g', cap', cur, hv, _, hh, hn', _, hs, ht⟩
    · cases h1
    · cases hv; exact hn'
  exact ⟨by simp, by simp, by simp, by simp, by simp, fun i hi => (World.cell?_alloc_past _ _ _ hlt).trans (hrow i hi), h.len, by omega, hcap, hc, hn, hb, Nat.zero_le _⟩
theorem Buf.cap {N : Nat} {w wr : World} {g n c : Nat} {D : List Int} (h : Buf N w wr g n c D) : c ≤ 9223372036854775807 := by
  rcases h.own.2 with ⟨h1, _⟩ | ⟨g', cap', cur, hv, _, hh, hn', hm, hs, ht⟩
  · cases h1
  · cases hv; unfold maxLen at hm; exact hm

set_option maxRecDepth 100000 in
set_option maxHeartbeats 3200000 in
theorem round_walk (F : Interp) (a : Option Addr) (len cap : Nat) (A : Nat → Option Addr) (L C : Nat → Nat) (Z : Nat → List Int) (w : World) (hF : F.answers w.tape) (hin : InV w a len A L C Z) :
    Calls Ybaf.prog 3 #[.slice a len cap] w fun e w' => e = .returned (.bool true) ∧ Below w.heap.size w w' := by
  by_cases hbig : 256 < len
  · clear hin
    go_enter Ybaf.func3, Ybaf.ntmps3
    go_wp2_with fail
    go_ret
    exact ⟨rfl, Below.refl _ _⟩
  have hlen : len ≤ 256 := by omega
  clear hbig
  have HF : Hid (F.answers w.tape) := hF
  clear hF
  go_enter Ybaf.func3, Ybaf.ntmps3
  go_wp2_with fail
  go_loop [3] (fun i => ∃ k : Nat, k ≤ len ∧ i = .int .i64 k ∧ ∀ j, j < k → L j ≤ 1024) (fun i => len - (intOf i).toNat)
  case atStart => exact ⟨0, Nat.zero_le _, rfl, by intro j hj; omega⟩
  case round =>
    obtain ⟨k, hk, rfl, hall⟩ := hrel
    have HA : Hid (∀ j, j < k → L j ≤ 1024) := hall
    clear hall
    by_cases hlt : k < len
    · obtain ⟨b, off, rfl, hcell⟩ := hin.cells k hlt
      by_cases hL : 1024 < L k
      · clear hin
        go_wp2_with fail
        go_ret
        exact ⟨rfl, Below.refl _ _⟩
      · have hL' : L k ≤ 1024 := by omega
        clear hL
        go_wp2_with fail
        go_round
        case rel =>
          refine ⟨k + 1, by omega, by go_num, ?_⟩
          intro j hj
          by_cases e : j = k
          · subst e; exact hL'
          · exact HA.out j (by omega)
        case measure => simp [intOf]; omega
    · have hk' : k = len := by omega
      subst hk'
      have hLs : ∀ j, j < k → L j ≤ 1024 := HA.out
      have HLs : Hid (∀ j, j < k → L j ≤ 1024) := hLs
      clear HA hLs hlt hk
      go_wp2_with fail
      refine (put_any w.heap.size none 0 0 [] k (by omega) (by omega) w (World.ownsRow_nil _ _ _ _) (by omega) (Nat.le_refl _)).mono ?_
      rintro e w1 ⟨g0, cap0, rfl, hown0, hgr0, hlo0, _⟩
      have hbuf0 : Buf w.heap.size w w1 g0 4 cap0 (encTo k Z 0) := ⟨hown0, (Below.refl _ _).grown hgr0 (Nat.le_refl _) (by intro j hj; cases hj), hlo0⟩
      clear hown0 hgr0 hlo0
      obtain ⟨i0, hi, hz0, hz1, hz2⟩ := info_parts info5
      go_wp2_with fail
      go_loopg [4, 5, 6, 7] k (fun gg bv i v kk wr => ∃ (j g n c : Nat), j ≤ k ∧ gg = k - j ∧ i = .int .i64 j ∧ bv = .slice (some ⟨g, 0, none⟩) n c ∧ Buf w.heap.size w wr g n c (encTo k Z j))
      case atStart => exact ⟨0, g0, 4, cap0, Nat.zero_le _, rfl, rfl, rfl, hbuf0⟩
      case round =>
        obtain ⟨j, g, n, c, hj, rfl, rfl, rfl, hbuf⟩ := hrel
        clear hbuf0
        have hnl := hbuf.len
        have hble := encTo_len_le k Z j (fun q hq => by have h1 := HLs.out q (by omega); have := (hin.row q (by omega)).1; omega)
        have hn1 : n ≤ 300000 := by omega
        clear hnl hble
        by_cases hlt : j < k
        · obtain ⟨b, off, rfl, hcell0⟩ := hin.cells j hlt
          have hcell : wr.cell? ⟨b, off + j, none⟩ = some (.slice (A j) (L j) (C j)) := (hbuf.bel.cell (p := ⟨b, off + j, none⟩) (World.block_lt_of_cell? w _ hcell0)).trans hcell0
          have hLj := HLs.out j hlt
          have hrow := hin.row j hlt
          have hnil := hin.nil j hlt
          have HE : Hid (encTo k Z (j + 1) = encTo k Z j ++ enc1 (Z j)) := rfl
          clear hcell0 hin
          generalize A j = aj at *
          generalize hLL : L j = lj at *
          clear hLL
          generalize C j = cj at *
          generalize Z j = zj at *
          generalize encTo k Z j = Ej at *
          have hzl : lj = zj.length := hrow.1
          have HZ : Hid (lj = zj.length) := hzl
          clear hzl
          go_wp2_with fail
          refine (put_any w.heap.size (some ⟨g, 0, none⟩) n c Ej lj (by omega) (by omega) wr hbuf.own (by omega) hbuf.bel.size).mono ?_
          rintro e w2 ⟨g1, cap1, rfl, hown1, hgr1, _, _⟩
          have hbuf1 := hbuf.next hbuf.bel.size hown1 hgr1
          clear hown1 hgr1 hbuf hcell
          rcases aj with _ | ad
          · obtain ⟨rfl, rfl⟩ := hnil rfl
            have hz : zj = [] := List.eq_nil_of_length_eq_zero HZ.out.symm
            go_wp2_with (at_builtin; refine wpList_append_own_none rfl (.tmp 46) (.tmp 47) 23 rfl w.heap.size 5 i0 1 Ybaf.underlying23 hi _ _ _ rfl hbuf1.own rfl ?_)
            obtain ⟨D2, HD⟩ : ∃ D2, Hid (D2 = Ej ++ by4 0 ++ zj) := ⟨_, rfl⟩
            have hbuf2 : Buf w.heap.size w w2 g1 (n + 4) cap1 D2 := by rw [HD.out, hz, List.append_nil]; exact hbuf1
            have HB : Hid (Buf w.heap.size w w2 g1 (n + 4) cap1 (Ej ++ enc1 zj)) := by
              show Buf _ _ _ _ _ _ _
              rw [hz]
              exact hbuf1
            clear hbuf1 hnil hz hrow hbuf2 HD
            refine wp_loop_rounds 1 ?_
            rw [rounds_succ]
            go_wp2_with fail
            go_roundg (k - (j + 1))
            case rel => exact ⟨j + 1, g1, n + 4, cap1, by omega, rfl, by go_num, rfl, by rw [HE.out]; exact HB.out⟩
            case measure => omega
          · have hrow2 : Row .u8 w2 (some ad) lj zj := hrow.below hbuf1.bel
            have hzm : (zj.map (Value.int .u8)).length = lj * 1 := by rw [List.length_map, HZ.out]; omega
            go_wp2_with (at_builtin; refine wpList_append_own _ rfl (.tmp 46) (.tmp 47) 23 rfl w.heap.size 5 i0 (.int .u8 0) 1 1 Ybaf.underlying23 hi hz0 hz1 hz2 rfl (by omega) _ (n + 4) _ rfl hbuf1.own ad lj cj (zj.map (Value.int .u8)) rfl hzm (row_news hrow2) (by simp [Value.oneCell']) (by unfold maxLen; omega) (by omega) hbuf1.bel.size ?_; intro v2 w3 hown2 hgr2 _)
            obtain ⟨g2, c2, rfl, _, _⟩ := hown2.form (by omega)
            obtain ⟨D2, HD⟩ : ∃ D2, Hid (D2 = Ej ++ by4 lj ++ zj) := ⟨_, rfl⟩
            obtain ⟨n2, hn2⟩ : ∃ n2, n2 = n + 4 + lj := ⟨_, rfl⟩
            rw [← hn2] at hown2 ⊢
            have hn2b : n2 ≤ 310000 := by omega
            clear hn2
            have hbuf2 : Buf w.heap.size w w3 g2 n2 c2 D2 := hbuf1.next hbuf1.bel.size (by rw [HD.out, List.map_append]; exact hown2) hgr2
            clear hbuf1 hnil hrow hrow2 hzm hown2 hgr2
            have hzr : zj.length = lj := HZ.out.symm
            have HD2 : Hid (Ej ++ enc1 zj = D2 ++ List.replicate (padN lj) 0) := by
              show _ = _
              rw [HD.out, enc1, hzr]; simp
            clear HD hzr
            have hp3 := padN_le lj
            have hpd : ((4 - (lj : Int) % 4) % 4) = ((padN lj : Nat) : Int) := by unfold padN; omega
            have HP : Hid (((4 - (lj : Int) % 4) % 4) = ((padN lj : Nat) : Int)) := hpd
            clear hpd
            go_loopg [4, 7] (padN lj) (fun gg bv kk wr => ∃ (q g n c : Nat), q ≤ padN lj ∧ gg = padN lj - q ∧ kk = .int .i64 q ∧ bv = .slice (some ⟨g, 0, none⟩) n c ∧ n ≤ 310000 + q ∧ Buf w.heap.size w wr g n c (D2 ++ List.replicate q 0))
            case atStart => exact ⟨0, g2, n2, c2, Nat.zero_le _, rfl, rfl, rfl, by omega, by simpa using hbuf2⟩
            case round =>
              clear hbuf2
              obtain ⟨q, g3, n3, c3, hq, rfl, rfl, rfl, hn3, hbuf3⟩ := hrel
              by_cases hqlt : q < padN lj
              · have hq1 : (q : Int) < (4 - (lj : Int) % 4) % 4 := by rw [HP.out]; omega
                go_wp2_with (at_builtin; refine wpList_append_lies _ rfl _ _ _ rfl w.heap.size 5 i0 (.int .u8 0) 1 1 Ybaf.underlying23 hi hz0 hz1 hz2 rfl (by omega) _ n3 _ rfl (hbuf3.own.alloc _) ⟨wr.heap.size, 0, none⟩ 1 1 [.int .u8 0] rfl rfl (World.news_of_block (cs := #[.int .u8 0]) (t := 5) (fr := (0, 0)) (heap_alloc_new wr _)) (by simp [Value.oneCell']) (by omega) (by unfold maxLen; omega) (by omega) (by have := hbuf3.bel.size; simp; omega) (wr.heap.size + 1) (by simp) ?_; intro g4 c4 w4 hown4 hgr4 _ _)
                have hbuf4 : Buf w.heap.size w w4 g4 (n3 + 1) c4 (D2 ++ List.replicate (q + 1) 0) := by
                  refine Buf.next (wr := wr.alloc (.cells #[.int .u8 0] 5)) ⟨hbuf3.own.alloc _, hbuf3.bel.alloc hbuf3.bel.size _, hbuf3.lo⟩ (by have := hbuf3.bel.size; simp; omega) ?_ hgr4
                  have e : (D2 ++ List.replicate (q + 1) 0).map (Value.int .u8) = (D2 ++ List.replicate q 0).map (Value.int .u8) ++ [.int .u8 0] := by rw [List.replicate_succ']; simp
                  rw [e]; exact hown4
                clear hown4 hgr4 hbuf3
                go_wp2_with fail
                go_roundg (padN lj - (q + 1))
                case rel => exact ⟨q + 1, g4, n3 + 1, c4, by omega, rfl, by go_num, rfl, by omega, hbuf4⟩
                case measure => omega
              · have hq1 : ¬ (q : Int) < (4 - (lj : Int) % 4) % 4 := by rw [HP.out]; omega
                have hqe : q = padN lj := by omega
                have HB : Hid (Buf w.heap.size w wr g3 n3 c3 (Ej ++ enc1 zj)) := by show Buf _ _ _ _ _ _ _; rw [HD2.out, ← hqe]; exact hbuf3
                clear hqe hbuf3
                go_wp2_with fail
                go_roundg (k - (j + 1))
                case rel => exact ⟨j + 1, g3, n3, c3, by omega, rfl, by go_num, rfl, by rw [HE.out]; exact HB.out⟩
                case measure => omega
        · have hjk : j = k := by omega
          subst hjk
          clear hlt hj hi hz0 hz1 hz2
          obtain ⟨hu0, hst, hvt⟩ := dec_enc j Z j
          have hbytes : Bytes (encTo j Z j) := encTo_bytes j (by omega) Z j (fun q hq => ⟨hin.bytes q hq, by have := HLs.out q hq; have := (hin.row q hq).1; omega⟩)
          have hge := encTo_len_ge j Z j
          have hdec := buf_dec hbuf hbytes (by omega) hbuf.cap
          have hnl := hbuf.len
          have hstj := hst j (Nat.le_refl _)
          clear hst
          generalize encTo j Z j = D at *
          have HU : Hid ((stAt D j = (D.length, false)) ∧ (∀ i, i < j → vAt D i = some (Z i)) ∧ n = D.length) := ⟨hstj, hvt, hnl⟩
          have hn4 : 4 + j * 4 ≤ n := by omega
          have HU0 : Hid (u32At D 0 = (j : Int)) := hu0
          clear hu0 hstj hvt hnl hge hbytes
          go_wp2_with (go_at_call 6; go_in)
          have hF2 : F.answers (wr.alloc (.cells #[.slice (some ⟨g, 0, none⟩) n c, .int .i64 0, .nilIface] 33)).tape := by show F.answers wr.tape; rw [hbuf.bel.tape]; exact HF.out
          refine (decode_any hdec hF2 (by omega) HU0.out (by omega)).mono ?_
          rintro e w3 hpost
          have hb1 : Below w.heap.size w (wr.alloc (.cells #[.slice (some ⟨g, 0, none⟩) n c, .int .i64 0, .nilIface] 33)) := hbuf.bel.alloc hbuf.bel.size _
          have hgw := hbuf.lo
          have hgl := hbuf.lt
          have hwr := hbuf.bel.size
          have hown : (wr.alloc (.cells #[.slice (some ⟨g, 0, none⟩) n c, .int .i64 0, .nilIface] 33)).ownsRow w.heap.size 5 1 (.slice (some ⟨g, 0, none⟩) n c) n (D.map (Value.int .u8)) := hbuf.own.alloc _
          generalize (wr.alloc (.cells #[.slice (some ⟨g, 0, none⟩) n c, .int .i64 0, .nilIface] 33)) = wd at *
          generalize wr.heap.size = db at *
          clear hdec hF2 hbuf
          rcases Nat.eq_zero_or_pos j with h0 | hpos
          · subst h0
            obtain ⟨rfl, d3, s3⟩ := hpost.2.1 (by omega) rfl
            clear hpost
            have hn : n = 4 := by
              have h1 := HU.out.1
              have h2 := HU.out.2.2
              have h3 : (4, false) = (D.length, false) := h1
              have h4 : 4 = D.length := congrArg Prod.fst h3
              omega
            subst hn
            have hc1 := d3.c1
            have hc2 := d3.c2
            have hbel : Below w.heap.size w w3 := hb1.trans ⟨s3.g.os, s3.g.tape, s3.g.output, s3.g.size, fun q hq => s3.g.block q (by have := hb1.size; omega) (fun e => by cases e; omega)⟩
            clear d3 s3 hb1 hown HU hin
            have hq28 := fun (x : World) (a : Option Addr) (n c n' c' : Nat) => Lib.run_eql_slice_nil (P := Ybaf.prog) x 28 34 a n c n' c' Ybaf.underlying28
            go_wp2_with fail
            go_ret
            exact ⟨rfl, hbel⟩
          · obtain ⟨vb, rfl, R⟩ := hpost.2.2 (by omega) hpos
            clear hpost
            have hst := HU.out.1
            have hvt := HU.out.2.1
            have hnl := HU.out.2.2
            obtain ⟨ev, d3, hev⟩ := R.dec
            rw [hst] at d3 hev
            obtain rfl : ev = .nilIface := hev
            have hc1 : w3.cell? ⟨db, 1, none⟩ = some (.int .i64 n) := by rw [hnl]; exact d3.c1
            have hc2 := d3.c2
            have hs3 := R.step
            have hbel : Below w.heap.size w w3 := hb1.trans ⟨hs3.g.os, hs3.g.tape, hs3.g.output, hs3.g.size, fun q hq => hs3.g.block q (by have := hb1.size; omega) (fun e => by cases e; omega)⟩
            have hown3 : w3.ownsRow w.heap.size 5 1 (.slice (some ⟨g, 0, none⟩) n c) n (D.map (Value.int .u8)) := hown.kept hs3.g (Or.inr (own_ne g n c db (by omega)))
            have hval : ∀ i, i < j → ∃ gi, w3.cell? ⟨vb, i, none⟩ = some (.slice (some ⟨gi, 0, none⟩) (Z i).length (Z i).length) ∧ vb + 1 ≤ gi ∧ w3.heap[gi]? = some (.cells ((Z i).map (Value.int .u8)).toArray 5 (0, 0)) := by
              intro i hi
              obtain ⟨v, h1, h2⟩ := R.done i hi
              rw [hvt i hi] at h2
              obtain ⟨gi, rfl, h3, h4, _⟩ := h2
              exact ⟨gi, h1, h3, h4⟩
            have hgvb : g < vb := R.bv
            have hvl : vb < w3.heap.size := R.lt
            have hne : ((j : Int) == 0) = false := beq_eq_false_iff_ne.2 (by omega)
            clear hst hvt hnl HU d3 R hs3 hown hb1
            go_wp2_with fail
            go_loopg [10] n (fun gg i wq => ∃ q : Nat, q ≤ n ∧ gg = n - q ∧ i = .int .i64 q ∧ Only g w3 wq ∧ (∀ r, r < n → ∃ v, wq.cell? ⟨g, r, none⟩ = some v) ∧ ∀ r, wq.frozen? ⟨g, r, none⟩ = false)
            case atStart =>
              refine ⟨0, Nat.zero_le _, rfl, rfl, Only.refl _ _, ?_, ?_⟩
              · intro r hr; exact buf_cell hown3 r hr
              · intro r; exact buf_free hown3 r
            case round =>
              obtain ⟨q, hq, rfl, rfl, on, hcs, hfs⟩ := hrel
              by_cases hlt : q < n
              · obtain ⟨v, hv⟩ := hcs q hlt
                have hf := hfs q
                have HCS : Hid ((∀ r, r < n → ∃ v, wr.cell? ⟨g, r, none⟩ = some v) ∧ ∀ r, wr.frozen? ⟨g, r, none⟩ = false) := ⟨hcs, hfs⟩
                clear hcs hfs
                go_wp2_with fail
                go_roundg (n - (q + 1))
                case rel =>
                  refine ⟨q + 1, by omega, rfl, by go_num, ?_, ?_, ?_⟩
                  · exact ⟨on.os, on.tape, on.output, by simpa using on.size, fun k hk => (Below.heap_setCell _ _ _ _ hk).trans (on.block k hk)⟩
                  · intro r hr
                    obtain ⟨v', h'⟩ := HCS.out.1 r hr
                    exact cell?_setCell_some h'
                  · intro r; rw [World.frozen?_setCell]; exact HCS.out.2 r
                case measure => omega
              · have hqe : q = n := by omega
                subst hqe
                clear hcs hfs hlt hq
                have hbel4 : Below w.heap.size w wr := hbel.trans ⟨on.os, on.tape, on.output, by rw [on.size]; exact Nat.le_refl _, fun k hk => on.block k (by omega)⟩
                have hin4 := hin.below hbel4
                have hval4 : ∀ i, i < j → ∃ gi, wr.cell? ⟨vb, i, none⟩ = some (.slice (some ⟨gi, 0, none⟩) (Z i).length (Z i).length) ∧ Row .u8 wr (some ⟨gi, 0, none⟩) (Z i).length (Z i) := by
                  intro i hi
                  obtain ⟨gi, h1, h2, h3⟩ := hval i hi
                  refine ⟨gi, (World.cell?_of_block (a := ⟨vb, i, none⟩) (on.block vb (by omega))).trans h1, row_of_block ((on.block gi (by omega)).trans h3)⟩
                clear hval hin hbel on hown3 hc1 hc2
                generalize wr = wz at *
                have hq34 := fun (x : World) (a : Option Addr) (n c n' c' : Nat) => Lib.run_eql_slice_nil (P := Ybaf.prog) x 34 5 a n c n' c' Ybaf.underlying34
                go_wp2_with fail
                go_loopg [11] j (fun gg i wq => ∃ q : Nat, q ≤ j ∧ gg = j - q ∧ i = .int .i64 q ∧ ∃ m, wq = wz.drewN m)
                case atStart => exact ⟨0, Nat.zero_le _, rfl, rfl, 0, rfl⟩
                case round =>
                  obtain ⟨r, hr, rfl, rfl, m, hm⟩ := hrel
                  have HW : Hid (wr = wz.drewN m) := hm
                  clear hm
                  by_cases hlt : r < j
                  · obtain ⟨gi, hg1', hg2⟩ := hval4 r hlt
                    obtain ⟨b, off, rfl, hcell'⟩ := hin4.cells r hlt
                    have hg1 : wr.cell? ⟨vb, r, none⟩ = some (.slice (some ⟨gi, 0, none⟩) (Z r).length (Z r).length) := by rw [HW.out]; exact hg1'
                    have hcell : wr.cell? ⟨b, off + r, none⟩ = some (.slice (A r) (L r) (C r)) := by rw [HW.out]; exact hcell'
                    have hrow := hin4.row r hlt
                    have hby := hin4.bytes r hlt
                    have hEQ : ∀ x, Calls Ybaf.prog 8 #[.slice (some ⟨gi, 0, none⟩) (Z r).length (Z r).length, .slice (A r) (L r) (C r)] (wr.drewN x) fun e w' => e = .returned (.bool true) ∧ w' = wr.drewN x := by
                      intro x
                      refine (equal_any _ _ _ _ _ _ (Z r) (Z r) (wr.drewN x) ?_ ?_ hby hby).mono fun e w' h => ⟨h.1.trans (by simp), h.2⟩
                      · rw [HW.out]; exact hg2
                      · rw [HW.out]; exact hrow
                    have HEQ : Hid (∀ x, Calls Ybaf.prog 8 #[.slice (some ⟨gi, 0, none⟩) (Z r).length (Z r).length, .slice (A r) (L r) (C r)] (wr.drewN x) fun e w' => e = .returned (.bool true) ∧ w' = wr.drewN x) := hEQ
                    clear hval4 hin4 hEQ hrow hby hg2 hg1' hcell'
                    have hr0 : (0 : Int) ≤ (r : Int) := by omega
                    have hr1 : (r : Int) < (j : Int) := by omega
                    go_wp2_with fail
                    go_quiet ((go_at_call 8; exact Calls.quiet_of_same (HEQ.out _)))
                    go_wp2_with fail
                    go_roundg (j - (r + 1))
                    case rel => exact ⟨r + 1, by omega, rfl, by go_num, m + nq, by rw [HW.out]; simp⟩
                    case measure => omega
                  · go_wp2_with fail
                    go_ret
                    exact ⟨rfl, by rw [HW.out]; exact below_drewN hbel4 _⟩
end Go.Proofs.YbulkadqmFmt.WB
