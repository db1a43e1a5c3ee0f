import Derived.Test.YbulkadqmFmtO
namespace Go.Proofs.YbulkadqmFmt.WB
open Go.RowKit Go.Extern.Stop Go.Stop Go.Extern

theorem opq_le {D : List Int} {p : Nat} (h : p ≤ D.length) : (opq D p).2.1 ≤ D.length := by
  unfold opq
  split
  · exact h
  · split
    · show p + 4 ≤ _; omega
    · split
      · show p + 4 + _ ≤ _; omega
      · split
        · show p + 4 + _ + _ ≤ _; omega
        · show p + 4 + _ + _ ≤ _; omega
theorem stAt_le {D : List Int} (h : 4 ≤ D.length) : ∀ i, (stAt D i).1 ≤ D.length
  | 0 => h
  | i + 1 => by
    show ((stp D (stAt D i)).2).1 ≤ _
    unfold stp
    split
    · exact stAt_le h i
    · exact opq_le (stAt_le h i)

/-- what the model hands back -/
def ModelPost (bb blen bcap n : Nat) (D : List Int) (w : World) (e : Ending) (w' : World) : Prop :=
  (blen - 4 < n * 4 → e = .returned (.tuple #[.slice none 0 0, .int .i64 4, .bool true]) ∧ Below w.heap.size w w') ∧
  (n * 4 ≤ blen - 4 → n = 0 → e = .returned (.tuple #[.slice none 0 0, .int .i64 4, .bool false]) ∧ Below w.heap.size w w') ∧
  (n * 4 ≤ blen - 4 → 0 < n → ∃ vb, e = .returned (.tuple #[.slice (some ⟨vb, 0, none⟩) n n, .int .i64 (stAt D n).1, .bool (stAt D n).2]) ∧ MRel bb blen bcap vb n D w w' n)

theorem ret3 {a a' : Value} {b b' : Int} {c c' : Bool} (h1 : a = a') (h2 : b = b') (h3 : c = c') : Ending.returned (.tuple #[a, .int .i64 b, .bool c]) = .returned (.tuple #[a', .int .i64 b', .bool c']) := by rw [h1, h2, h3]

theorem mem_cells {w : World} {bb blen bcap : Nat} {D : List Int} {p m : Nat} (d : Mem w bb blen bcap D) (h : p + m ≤ blen) (j : Nat) (v : Value) (hj : ((cut D p m).map (Value.int .u8))[j]? = some v) : w.cell? ((⟨bb, p, none⟩ : Addr).add j) = some v := by
  have hl := d.len
  have hcl : (cut D p m).length = m := cut_len (by omega)
  have hjm : j < m := by
    rcases Nat.lt_or_ge j m with h | h
    · exact h
    · rw [List.getElem?_eq_none (by simpa [hcl] using h)] at hj; cases hj
  have hadd : (⟨bb, p, none⟩ : Addr).add j = ⟨bb, p + j, none⟩ := by unfold Addr.add; split <;> simp_all
  rw [hadd, d.row (p + j) (by omega)]
  rw [List.getElem?_map, List.getElem?_eq_getElem (by omega)] at hj
  have e : (cut D p m).getD j 0 = (cut D p m)[j]'(by omega) := by rw [List.getD_eq_getElem?_getD, List.getElem?_eq_getElem (by omega)]; rfl
  rw [cut_getD hjm] at e
  simp at hj
  rw [← hj, e]

/-- is one of the r bytes from q on not zero? -/
def nzB (D : List Int) (q r : Nat) : Bool := decide (cut D q r ≠ List.replicate r 0)
theorem nz_zero (D : List Int) (q : Nat) : nzB D q 0 = false := by simp [nzB, cut]
theorem nz_succ {D : List Int} {q r : Nat} (h : q + r < D.length) : nzB D q (r + 1) = (nzB D q r || (D.getD (q + r) 0 != 0)) := by
  have e : cut D q (r + 1) = cut D q r ++ [D.getD (q + r) 0] := by
    unfold cut
    rw [List.take_succ_eq_append_getElem (by simp; omega)]
    congr 2
    rw [List.getElem_drop, List.getD_eq_getElem?_getD, List.getElem?_eq_getElem h]; rfl
  have hl : (cut D q r).length = r := cut_len (by omega)
  rw [Bool.eq_iff_iff]
  unfold nzB
  rw [e, List.replicate_succ', Bool.or_eq_true, decide_eq_true_iff, decide_eq_true_iff, bne_iff_ne]
  constructor
  · intro hne
    by_cases hc : cut D q r = List.replicate r 0
    · right
      intro hz
      exact hne (by rw [hc, hz])
    · exact Or.inl hc
  · intro h hc
    have := List.append_inj hc (by simp [hl])
    rcases h with h | h
    · exact h this.1
    · exact h (by simpa using this.2)

set_option maxRecDepth 100000 in
set_option maxHeartbeats 6400000 in
theorem model_any {bb blen bcap n : Nat} {D : List Int} {w : World} (d : Mem w bb blen bcap D) (h1 : 4 ≤ blen) (hn : u32At D 0 = (n : Int)) (hn2 : n < 4294967296) :
    Calls Ybaf.prog 9 #[.slice (some ⟨bb, 0, none⟩) blen bcap] w fun e w' => ModelPost bb blen bcap n D w e w' := by
  have hsm := d.small
  by_cases h2 : blen - 4 < n * 4
  · go_enter Ybaf.func9, Ybaf.ntmps9
    go_wp2_with fail
    refine (get_any d (p := 0) (by omega)).mono ?_
    rintro e w1 ⟨rfl, m, rfl⟩
    rw [hn]
    clear hn
    go_wp2_with fail
    go_ret3
    exact ⟨fun _ => ⟨rfl, below_drewN (Below.refl _ _) _⟩, fun h => by omega, fun h => by omega⟩
  have h3 : n * 4 ≤ blen - 4 := by omega
  clear h2
  by_cases h0 : n = 0
  · subst h0
    go_enter Ybaf.func9, Ybaf.ntmps9
    go_wp2_with fail
    refine (get_any d (p := 0) (by omega)).mono ?_
    rintro e w1 ⟨rfl, m, rfl⟩
    rw [hn]
    clear hn
    go_wp2_with fail
    go_ret3
    exact ⟨fun h => by omega, fun _ _ => ⟨rfl, below_drewN (Below.refl _ _) _⟩, fun _ h => by omega⟩
  have hne : ((n : Int) == 0) = false := beq_eq_false_iff_ne.2 (by omega)
  have hmk := run_make_row' (P := Ybaf.prog) 22 23 (.slice none 0 0) 24 Ybaf.underlying22 info23 rfl .i64 .i64 n (by omega) (by omega)
  go_enter Ybaf.func9, Ybaf.ntmps9
  go_wp2_with fail
  refine (get_any d (p := 0) (by omega)).mono ?_
  rintro e w1 ⟨rfl, m, rfl⟩
  rw [hn]
  clear hn
  go_wp2_with fail
  have hst : MRel bb blen bcap w.heap.size n D w ((w.drewN m).alloc (.cells (madeCells #[.slice none 0 0] n) 23)) 0 := by
    have hb : Below w.heap.size w ((w.drewN m).alloc (.cells (madeCells #[.slice none 0 0] n) 23)) := (below_drewN (Below.refl _ _) _).alloc (Nat.le_refl _) _
    exact ⟨d.below hb, fun j hj => by omega, fun j _ hj => by
            refine (World.cell?_alloc_at (w := w.drewN m) _ _ _ _ rfl).trans ?_
            have e : j % 1 = 0 := Nat.mod_one j
            simp [madeCells, hj, e], fun j => World.frozen?_alloc_at (w := w.drewN m) _ _ _ _ rfl, hb, by simp, Nat.le_refl _, World.block_lt_of_cell? w ⟨bb, 0, none⟩ (d.row 0 (by omega))⟩
  have hlen := d.len
  have HLN : Hid (blen = D.length) := hlen
  generalize ((w.drewN m).alloc (.cells (madeCells #[.slice none 0 0] n) 23)) = w2 at *
  obtain ⟨vb, hvb⟩ : ∃ vb, w.heap.size = vb := ⟨_, rfl⟩
  rw [hvb] at hst ⊢
  clear hvb hmk hlen
  go_loopg [7, 9, 10] n (fun gg pv fv i wr => ∃ k : Nat, k ≤ n ∧ gg = n - k ∧ i = .int .i64 k ∧ pv = .int .i64 (stAt D k).1 ∧ fv = .bool (stAt D k).2 ∧ MRel bb blen bcap vb n D w wr k)
  case atStart => exact ⟨0, Nat.zero_le _, rfl, rfl, rfl, rfl, hst⟩
  case round =>
    obtain ⟨k, hk, rfl, rfl, rfl, rfl, R⟩ := hrel
    clear hst
    by_cases hlt : k < n
    · have HS : Hid (stAt D (k + 1) = (stp D (stAt D k)).2 ∧ vAt D k = (stp D (stAt D k)).1) := ⟨rfl, rfl⟩
      have hple := stAt_le (D := D) (by have := HLN.out; omega) k
      obtain ⟨⟨p, f⟩, hpf⟩ : ∃ st, st = stAt D k := ⟨_, rfl⟩
      rw [← hpf] at HS hple ⊢
      clear hpf
      have hp : p ≤ blen := by have := HLN.out; have h : p ≤ D.length := hple; omega
      clear hple
      cases f
      case true =>
        obtain ⟨e1, e2⟩ := HS.out
        have E1 : Hid (stAt D (k + 1) = (p, true)) := e1
        have R2 := mrel_none R hlt e2 (Below.refl _ _)
        clear e1 e2 R HS
        go_wp2_with fail
        go_roundg (n - (k + 1))
        case rel => exact ⟨k + 1, by omega, rfl, by go_num, by rw [E1.out], by rw [E1.out], R2⟩
        case measure => omega
      case false =>
        have HS2 : Hid (stAt D (k + 1) = (opq D p).2 ∧ vAt D k = (opq D p).1) := HS.out
        clear HS
        by_cases hs4 : blen < p + 4
        · have e : opq D p = (none, p, true) := by unfold opq; rw [if_pos (by have := HLN.out; omega)]
          have E1 : Hid (stAt D (k + 1) = (p, true)) := by have h := HS2.out.1; rw [e] at h; exact h
          have R2 := mrel_none R hlt (by rw [HS2.out.2, e]) (Below.refl _ _)
          clear e R HS2
          go_wp2_with fail
          go_roundg (n - (k + 1))
          case rel => exact ⟨k + 1, by omega, rfl, by go_num, by rw [E1.out], by rw [E1.out], R2⟩
          case measure => omega
        have hp4 : p + 4 ≤ blen := by omega
        clear hs4
        have bd := u32At_bd R.mem.bytes (p := p) (by have := HLN.out; omega)
        obtain ⟨mm, hmm⟩ := Int.eq_ofNat_of_zero_le bd.1
        have hmb : mm < 4294967296 := by omega
        have hmt : (u32At D p).toNat = mm := by omega
        have HMT : Hid (u32At D p = (mm : Int) ∧ (u32At D p).toNat = mm) := ⟨hmm, hmt⟩
        clear bd hmm hmt
        by_cases hlong : blen < p + 4 + mm
        · have e : opq D p = (none, p + 4, true) := by unfold opq; rw [HMT.out.2, if_neg (by have := HLN.out; omega), if_pos (by have := HLN.out; omega)]
          have E1 : Hid (stAt D (k + 1) = (p + 4, true)) := by have h := HS2.out.1; rw [e] at h; exact h
          have hv : vAt D k = none := by rw [HS2.out.2, e]
          have HV : Hid (vAt D k = none) := hv
          clear e HS2 hv
          go_wp2_with fail
          refine (get_any R.mem hp4).mono ?_
          rintro e w3 ⟨rfl, m3, rfl⟩
          rw [HMT.out.1]
          have R2 := mrel_none R hlt HV.out (below_drewN (Below.refl _ _) m3)
          clear R
          go_wp2_with fail
          go_roundg (n - (k + 1))
          case rel => exact ⟨k + 1, by omega, rfl, by go_num, by rw [E1.out]; go_num, by rw [E1.out], R2⟩
          case measure => omega
        have hfit : p + 4 + mm ≤ blen := by omega
        clear hlong
        have hopq : opq D p = if D.length < p + 4 + mm + padN mm then (some (List.replicate mm 0), p + 4 + mm, true) else if cut D (p + 4 + mm) (padN mm) = List.replicate (padN mm) 0 then (some (cut D (p + 4) mm), p + 4 + mm + padN mm, false) else (some (List.replicate mm 0), p + 4 + mm + padN mm, true) := by
          unfold opq
          rw [HMT.out.2, if_neg (by have := HLN.out; omega), if_neg (by have := HLN.out; omega)]
        have HO : Hid (opq D p = if D.length < p + 4 + mm + padN mm then (some (List.replicate mm 0), p + 4 + mm, true) else if cut D (p + 4 + mm) (padN mm) = List.replicate (padN mm) 0 then (some (cut D (p + 4) mm), p + 4 + mm + padN mm, false) else (some (List.replicate mm 0), p + 4 + mm + padN mm, true)) := hopq
        clear hopq
        have hmk := run_make_row' (P := Ybaf.prog) 23 5 (.int .u8 0) 1 Ybaf.underlying23 info5 rfl .i64 .i64 mm (by omega) (by omega)
        have hp3 := padN_le mm
        have hpd : ((4 - (mm : Int) % 4) % 4) = ((padN mm : Nat) : Int) := by unfold padN; omega
        have HP : Hid (((4 - (mm : Int) % 4) % 4) = ((padN mm : Nat) : Int)) := hpd
        clear hpd
        go_wp2_with fail
        refine (get_any R.mem hp4).mono ?_
        rintro e w3 ⟨rfl, m3, rfl⟩
        rw [HMT.out.1]
        have hb3 : Below wr.heap.size wr ((wr.drewN m3).alloc (.cells (madeCells #[.int .u8 0] mm) 5)) := (below_drewN (Below.refl _ wr) _).alloc (Nat.le_refl _) _
        have hg3 : ((wr.drewN m3).alloc (.cells (madeCells #[.int .u8 0] mm) 5)).heap[wr.heap.size]? = some (.cells ((List.replicate mm (0 : Int)).map (Value.int .u8)).toArray 5 (0, 0)) := by
          rw [← made_zero]; exact heap_alloc_new (wr.drewN m3) _
        have hvc : ((wr.drewN m3).alloc (.cells (madeCells #[.int .u8 0] mm) 5)).cell? ⟨vb, k, none⟩ = some (.slice none 0 0) := (hb3.cell (p := ⟨vb, k, none⟩) R.lt).trans (R.rest k (Nat.le_refl _) hlt)
        have hvf : ((wr.drewN m3).alloc (.cells (madeCells #[.int .u8 0] mm) 5)).frozen? ⟨vb, k, none⟩ = false := (hb3.frozen (p := ⟨vb, k, none⟩) R.lt).trans (R.fz k)
        have hvz : ValIs ((wr.drewN m3).alloc (.cells (madeCells #[.int .u8 0] mm) 5)) wr.heap.size (.slice (some ⟨wr.heap.size, 0, none⟩) mm mm) (some (List.replicate mm 0)) := ⟨wr.heap.size, by simp, Nat.le_refl _, hg3, zeros_bytes mm⟩
        have hvl := R.lt
        have hbv := R.bv
        by_cases hsh : blen < p + 4 + mm + padN mm
        · have e : opq D p = (some (List.replicate mm 0), p + 4 + mm, true) := by have h := HO.out; rw [if_pos (by have := HLN.out; omega)] at h; exact h
          have E1 : Hid (stAt D (k + 1) = (p + 4 + mm, true)) := by have h := HS2.out.1; rw [e] at h; exact h
          have R2 := mrel_some R hlt (v := .slice (some ⟨wr.heap.size, 0, none⟩) mm mm) (by rw [HS2.out.2, e]; exact hvz) hb3
          have hsi : (blen : Int) - (p + 4 + mm) < (4 - (mm : Int) % 4) % 4 := by rw [HP.out]; omega
          clear e HS2 HO R hvz hg3 hb3
          go_wp2_with fail
          go_roundg (n - (k + 1))
          case rel => exact ⟨k + 1, by omega, rfl, by go_num, by rw [E1.out]; go_num, by rw [E1.out], R2⟩
          case measure => omega
        have hnsh : p + 4 + mm + padN mm ≤ blen := by omega
        clear hsh
        have hsi : ¬ (blen : Int) - (p + 4 + mm) < (4 - (mm : Int) % 4) % 4 := by rw [HP.out]; omega
        have HR : Hid (MRel bb blen bcap vb n D w wr k) := R
        have mem3 := R.mem.below hb3
        clear R
        go_wp2_with fail
        generalize ((wr.drewN m3).alloc (.cells (madeCells #[.int .u8 0] mm) 5)) = w3 at *
        obtain ⟨g, hgw⟩ : ∃ g, g = wr.heap.size := ⟨_, rfl⟩
        have HGW : Hid (g = wr.heap.size) := hgw
        rw [← hgw] at hg3 hvz ⊢
        have hvg : vb < g := by omega
        clear hgw hmk
        go_loopg [16, 17] (padN mm) (fun gg nz kk wx => ∃ r : Nat, r ≤ padN mm ∧ gg = padN mm - r ∧ kk = .int .i64 (((p + 4 + mm + r : Nat) : Int)) ∧ nz = .bool (nzB D (p + 4 + mm) r) ∧ wx = w3)
        case atStart => exact ⟨0, Nat.zero_le _, rfl, by go_num, by rw [nz_zero], rfl⟩
        case round =>
          obtain ⟨r, hr, rfl, rfl, rfl, rfl⟩ := hrel
          by_cases hrlt : r < padN mm
          · have hri : ((p + 4 + mm + r : Nat) : Int) < (p : Int) + 4 + mm + (4 - (mm : Int) % 4) % 4 := by rw [HP.out]; omega
            have hcell := mem3.row (p + 4 + mm + r) (by omega)
            have HN : Hid (nzB D (p + 4 + mm) (r + 1) = (nzB D (p + 4 + mm) r || (D.getD (p + 4 + mm + r) 0 != 0))) := nz_succ (by have := HLN.out; omega)
            generalize hX : D.getD (p + 4 + mm + r) 0 = x at *
            clear hX
            generalize hZ : nzB D (p + 4 + mm) r = z at *
            clear hZ
            by_cases hx : x = 0
            · have hx' : (x != 0) = false := by rw [hx]; rfl
              have HN2 : Hid (nzB D (p + 4 + mm) (r + 1) = z) := by show _ = _; rw [HN.out, hx', Bool.or_false]
              subst hx
              clear HN hx'
              go_wp2_with fail
              go_roundg (padN mm - (r + 1))
              case rel => exact ⟨r + 1, by omega, rfl, by go_num, by rw [HN2.out], rfl⟩
              case measure => omega
            · have hx' : (x != 0) = true := by rw [bne_iff_ne]; exact hx
              have HN2 : Hid (nzB D (p + 4 + mm) (r + 1) = true) := by show _ = _; rw [HN.out, hx', Bool.or_true]
              clear HN hx
              go_wp2_with fail
              go_roundg (padN mm - (r + 1))
              case rel => exact ⟨r + 1, by omega, rfl, by go_num, by rw [HN2.out], rfl⟩
              case measure => omega
          · have hre : r = padN mm := by omega
            have hri : ¬ ((p + 4 + mm + r : Nat) : Int) < (p : Int) + 4 + mm + (4 - (mm : Int) % 4) % 4 := by rw [HP.out]; omega
            have HRE : Hid (r = padN mm) := hre
            clear hre hrlt
            cases hnz : nzB D (p + 4 + mm) r
            case true =>
              have hc : cut D (p + 4 + mm) (padN mm) ≠ List.replicate (padN mm) 0 := by rw [← HRE.out]; exact of_decide_eq_true hnz
              have e : opq D p = (some (List.replicate mm 0), p + 4 + mm + padN mm, true) := by have h := HO.out; rw [if_neg (by have := HLN.out; omega), if_neg hc] at h; exact h
              have E1 : Hid (stAt D (k + 1) = (p + 4 + mm + padN mm, true)) := by have h := HS2.out.1; rw [e] at h; exact h
              have R2 := mrel_some HR.out hlt (v := .slice (some ⟨g, 0, none⟩) mm mm) (by rw [HS2.out.2, e, ← HGW.out]; exact hvz) hb3
              clear e HS2 HO hvz hg3 hb3 hnz hc HR
              go_wp2_with fail
              go_roundg (n - (k + 1))
              case rel => exact ⟨k + 1, by omega, rfl, by go_num, by rw [E1.out]; exact congrArg (Value.int .i64) (by have := HP.out; show _ = ((p + 4 + mm + padN mm : Nat) : Int); omega), by rw [E1.out], R2⟩
              case measure => omega
            case false =>
              have hc : cut D (p + 4 + mm) (padN mm) = List.replicate (padN mm) 0 := by rw [← HRE.out]; exact Decidable.of_not_not (of_decide_eq_false hnz)
              have e : opq D p = (some (cut D (p + 4) mm), p + 4 + mm + padN mm, false) := by have h := HO.out; rw [if_neg (by have := HLN.out; omega), if_pos hc] at h; exact h
              have E1 : Hid (stAt D (k + 1) = (p + 4 + mm + padN mm, false)) := by have h := HS2.out.1; rw [e] at h; exact h
              have E2 : Hid (vAt D k = some (cut D (p + 4) mm)) := by show _ = _; rw [HS2.out.2, e]
              clear e HS2 HO hvz hc hnz
              have hlb := mem3.lb
              obtain ⟨Ad, hA, hA2⟩ : ∃ A, (if bcap = p + 4 then some (⟨bb, 0, none⟩ : Addr) else some ⟨bb, p + 4, none⟩) = some A ∧ (0 < mm → A = ⟨bb, p + 4, none⟩) := by
                by_cases h : bcap = p + 4
                · exact ⟨_, if_pos h, fun hn => by omega⟩
                · exact ⟨_, if_neg h, fun _ => rfl⟩
              have hnn : p + 4 + mm - (p + 4) = mm := by omega
              have hcl : (cut D (p + 4) mm).length = mm := cut_len (by have := HLN.out; omega)
              have HCL : Hid ((cut D (p + 4) mm).length = mm) := hcl
              have hcb : Bytes (cut D (p + 4) mm) := cut_bytes mem3.bytes (by have := HLN.out; omega)
              clear hcl
              rcases Nat.eq_zero_or_pos mm with hm0 | hmp
              · subst hm0
                have hA2' : Hid (Ad = Ad) := rfl
                clear hA2
                go_wp2_with (refine wpList_copy_nothing rfl (.tmp 101) (.tmp 107) 23 23 rfl 5 Ybaf.underlying23 (by kernel_rfl) _ _ _ _ _ _ rfl rfl rfl ?_)
                have R2 := mrel_some HR.out hlt (v := .slice (some ⟨g, 0, none⟩) 0 0) (by rw [E2.out, ← HGW.out]; exact ⟨g, by simp [cut], Nat.le_refl _, by simpa [cut] using hg3, hcb⟩) hb3
                clear hg3 hb3 HR
                go_roundg (n - (k + 1))
                case rel => exact ⟨k + 1, by omega, rfl, by go_num, by rw [E1.out]; exact congrArg (Value.int .i64) (by show _ = ((p + 4 + 0 + padN 0 : Nat) : Int); have : padN 0 = 0 := rfl; omega), by rw [E1.out], R2⟩
                case measure => omega
              · obtain rfl := hA2 hmp
                clear hA2
                have hsc : ∀ cs, (wr.setRow g cs).cell? ⟨vb, k, none⟩ = some (.slice none 0 0) := fun cs => (World.cell?_of_block (w := wr) (a := ⟨vb, k, none⟩) (setRow_other wr g vb cs (by omega))).trans hvc
                have hsf : ∀ cs, (wr.setRow g cs).frozen? ⟨vb, k, none⟩ = false := fun cs => (World.frozen?_of_block (w := wr) (a := ⟨vb, k, none⟩) (setRow_other wr g vb cs (by omega))).trans hvf
                go_wp2_with (refine wpList_copy_own rfl (.tmp 101) (.tmp 107) 23 23 rfl 5 Ybaf.underlying23 (by kernel_rfl) g 0 mm mm ⟨bb, p + 4, none⟩ mm (bcap - (p + 4)) (by rfl) (by first | rfl | (simp [Act.eval, hnn])) _ 5 hg3 ((cut D (p + 4) mm).map (Value.int .u8)) (by simp [HCL.out]) (mem_cells mem3 hfit) (by simp [HCL.out]) (by simp [Value.oneCell']) ?_)
                have R2 : ∀ cs : Array Value, cs = ((cut D (p + 4) mm).map (Value.int .u8)).toArray → MRel bb blen bcap vb n D w ((wr.setRow g cs).setCell ⟨vb, k, none⟩ (.slice (some ⟨g, 0, none⟩) mm mm)) (k + 1) := by
                  intro cs hcs
                  refine mrel_some HR.out hlt (v := .slice (some ⟨g, 0, none⟩) mm mm) ?_ (below_setRow hb3 (by have := HGW.out; omega) _)
                  rw [E2.out, ← HGW.out]
                  refine ⟨g, by rw [HCL.out], Nat.le_refl _, ?_, hcb⟩
                  rw [setRow_heap wr g _ _ 5 (0, 0) hg3, hcs]
                clear hg3 hb3 HR hsc hsf
                go_roundg (n - (k + 1))
                case rel => exact ⟨k + 1, by omega, rfl, by go_num, by rw [E1.out]; exact congrArg (Value.int .i64) (by have := HP.out; show _ = ((p + 4 + mm + padN mm : Nat) : Int); omega), by rw [E1.out], R2 _ (by simp [HCL.out])⟩
                case measure => omega
    · have hke : k = n := by omega
      subst hke
      clear hlt hk
      go_wp2_with fail
      go_ret3
      exact ⟨fun h => by omega, fun _ h => by omega, fun _ _ => ⟨vb, rfl, R⟩⟩
end Go.Proofs.YbulkadqmFmt.WB
