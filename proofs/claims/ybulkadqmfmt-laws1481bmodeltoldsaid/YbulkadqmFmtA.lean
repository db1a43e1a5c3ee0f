import Derived.Test.YbulkadqmFmtProg
import Derived.WalkKit
import Derived.WalkSpells
import Derived.WalkLawsBesides
import Derived.Deep.QuietTactic
import Derived.BigQuiet
import Derived.Deep.LoopGhost
import Derived.Deep.AppendLies
import Derived.Lib.EndianBits
import Derived.Laws.BytesArg
import Derived.WideShapes
import Derived.KernelRfl
import Derived.Outline
namespace Go.Proofs.YbulkadqmFmt.WB
open Go.RowKit

/-- the elements of a slice of integers: they are zs, in w -/
def Row (k : IntKind) (w : World) (a : Option Addr) (len : Nat) (zs : List Int) : Prop :=
  len = zs.length ∧ ∀ i, i < len → ∃ b off, a = some ⟨b, off, none⟩ ∧ w.cell? ⟨b, off + i, none⟩ = some (.int k (zs.getD i 0))
/-- each is a byte -/
def Bytes (zs : List Int) : Prop := ∀ i, i < zs.length → 0 ≤ zs.getD i 0 ∧ zs.getD i 0 < 256

theorem ret_bool {a b : Bool} (h : a = b) : Ending.returned (.bool a) = .returned (.bool b) := by rw [h]
theorem ret_int {k : IntKind} {a b : Int} (h : a = b) : Ending.returned (.int k a) = .returned (.int k b) := by rw [h]

set_option maxHeartbeats 400000 in
theorem pad_any (n : Int) (h0 : 0 ≤ n) (h1 : n ≤ 4294967295) (w : World) :
    Calls Ybaf.prog 21 #[.int .i64 n] w fun e w' => e = .returned (.int .i64 ((4 - n % 4) % 4)) ∧ w' = w := by
  go_enter Ybaf.func21, Ybaf.ntmps21
  go_wp2
  go_ret
  exact ⟨rfl, rfl⟩

/-- four bytes, the greatest first -/
def be32 (x0 x1 x2 x3 : Int) : Int := x0 * 16777216 + x1 * 65536 + x2 * 256 + x3

theorem be32_bits (x0 x1 x2 x3 : Int) (b0 : 0 ≤ x0 ∧ x0 < 256) (b1 : 0 ≤ x1 ∧ x1 < 256) (b2 : 0 ≤ x2 ∧ x2 < 256) (b3 : 0 ≤ x3 ∧ x3 < 256) :
    bits BinOp.or IntKind.u32 (bits BinOp.or IntKind.u32 (bits BinOp.or IntKind.u32 x3 (x2 * 256)) (x1 * 65536)) (x0 * 16777216) = be32 x0 x1 x2 x3 := by
  rw [u32_or8 (y := x3) (x := x2 * 256) (by omega) (by omega) (by omega) (by omega) (by omega)]
  rw [u32_or16 (y := x3 + x2 * 256) (x := x1 * 65536) (by omega) (by omega) (by omega) (by omega) (by omega)]
  rw [u32_or24 (y := x3 + x2 * 256 + x1 * 65536) (x := x0 * 16777216) (by omega) (by omega) (by omega) (by omega) (by omega)]
  unfold be32; omega

set_option maxHeartbeats 400000 in
theorem be32_core (b off c : Nat) (x0 x1 x2 x3 : Int) (w : World) (h0 : w.cell? ⟨b, off, none⟩ = some (.int .u8 x0)) (h1 : w.cell? ⟨b, off + 1, none⟩ = some (.int .u8 x1)) (h2 : w.cell? ⟨b, off + 2, none⟩ = some (.int .u8 x2)) (h3 : w.cell? ⟨b, off + 3, none⟩ = some (.int .u8 x3))
    (b0 : 0 ≤ x0 ∧ x0 < 256) (b1 : 0 ≤ x1 ∧ x1 < 256) (b2 : 0 ≤ x2 ∧ x2 < 256) (b3 : 0 ≤ x3 ∧ x3 < 256) :
    Calls Ybaf.prog 18 #[.agg #[], .slice (some ⟨b, off, none⟩) 4 c] w fun e w' => e = .returned (.int .u32 (be32 x0 x1 x2 x3)) ∧ Below w.heap.size w w' := by
  have hb : b < w.heap.size := World.block_lt_of_cell? w _ h0
  have HB : Hid ((0 ≤ x0 ∧ x0 < 256) ∧ (0 ≤ x1 ∧ x1 < 256) ∧ (0 ≤ x2 ∧ x2 < 256) ∧ (0 ≤ x3 ∧ x3 < 256)) := ⟨b0, b1, b2, b3⟩
  obtain ⟨b00, b01⟩ := b0
  obtain ⟨b10, b11⟩ := b1
  obtain ⟨b20, b21⟩ := b2
  obtain ⟨b30, b31⟩ := b3
  go_enter Ybaf.func18, Ybaf.ntmps18
  go_wp2
  go_quiet (fail)
  go_wp2
  go_ret
  obtain ⟨c0, c1, c2, c3⟩ := HB.out
  exact ⟨ret_int (be32_bits x0 x1 x2 x3 c0 c1 c2 c3), below_drewN ((Below.refl _ _).alloc (Nat.le_refl _) _) _⟩

theorem info5 : (Ybaf.prog.info? 5).map (fun i => (i.zero, i.size, i.bytes)) = some (some (.int .u8 0), 1, 1) := by kernel_rfl

/-- the four bytes of a number -/
def by4 (x : Int) : List Int := [x / 16777216, x / 65536 % 256, x / 256 % 256, x % 256]

set_option maxHeartbeats 400000 in
/-- 'zzs1481bput' onto a slice that the call owns -/
theorem put_any (base : Nat) (a : Option Addr) (n c : Nat) (D : List Int) (x : Int) (hx0 : 0 ≤ x) (hx1 : x < 4294967296) (w : World) (hown : w.ownsRow base 5 1 (.slice a n c) n (D.map (Value.int .u8))) (hn : n ≤ 4294967296) (hb : base ≤ w.heap.size) :
    Calls Ybaf.prog 5 #[.slice a n c, .int .u32 x] w fun e w' => ∃ g cap, e = .returned (.slice (some ⟨g, 0, none⟩) (n + 4) cap) ∧ w'.ownsRow base 5 1 (.slice (some ⟨g, 0, none⟩) (n + 4) cap) (n + 4) ((D ++ by4 x).map (Value.int .u8)) ∧
      w.grownBy w' (Value.slice a n c).ownBlock ∧ base ≤ g ∧ w.heap.size < w'.heap.size := by
  obtain ⟨i0, hi, hz0, hz1, hz2⟩ := info_parts info5
  have e4 : (D ++ by4 x).map (Value.int .u8) = D.map (Value.int .u8) ++ [.int .u8 (x / 16777216), .int .u8 (x / 65536 % 256), .int .u8 (x / 256 % 256), .int .u8 (x % 256)] := by simp [by4]
  have E4 : Hid ((D ++ by4 x).map (Value.int .u8) = D.map (Value.int .u8) ++ [.int .u8 (x / 16777216), .int .u8 (x / 65536 % 256), .int .u8 (x / 256 % 256), .int .u8 (x % 256)]) := e4
  clear e4
  go_enter Ybaf.func5, Ybaf.ntmps5
  go_wp2_with (at_builtin; refine wpList_append_lies _ rfl _ _ _ rfl base 5 i0 (.int .u8 0) 1 1 Ybaf.underlying23 hi hz0 hz1 hz2 rfl (by omega) _ n _ rfl (hown.alloc _) ⟨w.heap.size, 0, none⟩ 4 4 [.int .u8 (x / 16777216), .int .u8 (x / 65536 % 256), .int .u8 (x / 256 % 256), .int .u8 (x % 256)] rfl rfl (World.news_of_block (cs := #[.int .u8 (x / 16777216), .int .u8 (x / 65536 % 256), .int .u8 (x / 256 % 256), .int .u8 (x % 256)]) (t := 5) (fr := (0, 0)) (heap_alloc_new w _)) (by simp [Value.oneCell']) (by omega) (by unfold maxLen; omega) (by omega) (by simp; omega) (w.heap.size + 1) (by simp) ?_; intro g cap w1 hown1 hgrow hat hlt)
  go_ret
  refine ⟨g, cap, rfl, ?_, ?_, ?_, ?_⟩
  · rw [E4.out]; exact hown1
  · exact ⟨hgrow.os, hgrow.tape, hgrow.output, by have := hgrow.size; simp at this; omega, fun k hk hne => (hgrow.block k (by simp; omega) hne).trans (Below.heap_alloc _ _ _ hk)⟩
  · rcases hat with h | h
    · exact (hown.lt g h).1
    · omega
  · have := hgrow.size; simp at this; omega

/-- 'string(b)' of a slice of bytes -/
theorem convert_row {w : World} {a : Option Addr} {len : Nat} {zs : List Int} (h : Row .u8 w a len zs) (c : Nat) : (convert 23 9 (.slice a len c)).run Ybaf.prog w = .ok (.string (strOfNums zs)) w := by
  rcases Nat.eq_zero_or_pos len with hn | hn
  · subst hn
    obtain rfl : zs = [] := List.eq_nil_of_length_eq_zero h.1.symm
    rw [run_convert_bytes_string w 23 9 5 a 0 c Ybaf.underlying23 Ybaf.underlying5 Ybaf.underlying9]
    cases a with
    | none => simp [Conv.bytesToString]; rfl
    | some ad => simp [Conv.bytesToString]; rfl
  · obtain ⟨b, off, rfl, _⟩ := h.2 0 hn
    refine run_convert_bytes_arg (P := Ybaf.prog) w 23 5 Ybaf.underlying23 Ybaf.underlying5 b off len c zs h.1.symm (fun i hi => ?_) 9 Ybaf.underlying9
    obtain ⟨b', off', e, hc⟩ := h.2 i hi
    cases e
    exact hc

theorem strOfNums_inj {xs ys : List Int} (hx : Bytes xs) (hy : Bytes ys) (h : strOfNums xs = strOfNums ys) : xs = ys := by
  have e := congrArg (fun b : ByteArray => b.data.toList) h
  simp only [strOfNums_data] at e
  have hl : xs.length = ys.length := by have := congrArg List.length e; simpa using this
  refine List.ext_getElem hl fun i h1 h2 => ?_
  have e2 : (xs.map fun n => UInt8.ofNat n.toNat)[i]'(by simpa using h1) = (ys.map fun n => UInt8.ofNat n.toNat)[i]'(by simpa using h2) := by simp only [e]
  simp only [List.getElem_map] at e2
  have bx := hx i h1
  have bY := hy i h2
  simp only [List.getD_eq_getElem?_getD, List.getElem?_eq_getElem h1, List.getElem?_eq_getElem h2, Option.getD_some] at bx bY
  have e3 := congrArg UInt8.toNat e2
  rw [UInt8.toNat_ofNat', UInt8.toNat_ofNat', Nat.mod_eq_of_lt (by omega), Nat.mod_eq_of_lt (by omega)] at e3
  omega

set_option maxHeartbeats 400000 in
theorem equal_core (a b : Option Addr) (n m c d : Nat) (s t : ByteArray) (w : World) (h1 : (convert 23 9 (.slice a n c)).run Ybaf.prog w = .ok (.string s) w) (h2 : (convert 23 9 (.slice b m d)).run Ybaf.prog w = .ok (.string t) w) :
    Calls Ybaf.prog 8 #[.slice a n c, .slice b m d] w fun e w' => e = .returned (.bool (s.toList == t.toList)) ∧ w' = w := by
  go_enter Ybaf.func8, Ybaf.ntmps8
  go_wp2
  go_ret
  exact ⟨rfl, rfl⟩

/-- 'bytes.Equal' -/
theorem equal_any (a b : Option Addr) (n m c d : Nat) (xs ys : List Int) (w : World) (h1 : Row .u8 w a n xs) (h2 : Row .u8 w b m ys) (hx : Bytes xs) (hy : Bytes ys) :
    Calls Ybaf.prog 8 #[.slice a n c, .slice b m d] w fun e w' => e = .returned (.bool (decide (xs = ys))) ∧ w' = w := by
  refine (equal_core a b n m c d _ _ w (convert_row h1 c) (convert_row h2 d)).mono fun e w' h => ⟨?_, h.2⟩
  rw [h.1]
  refine ret_bool ?_
  rw [Bool.eq_iff_iff]
  constructor
  · intro e
    refine decide_eq_true (strOfNums_inj hx hy (WideShapes.bytes_inj ?_))
    have e' := eq_of_beq e
    rwa [Go.ByteArray.toList_eq, Go.ByteArray.toList_eq] at e'
  · intro e
    rw [of_decide_eq_true e]; simp
end Go.Proofs.YbulkadqmFmt.WB
