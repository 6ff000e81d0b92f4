/-
  The law FnPattern, walked: it returns true for every number of 32 bits and every slice, and writes nothing that was there. No conditions beyond the readings of the arguments.
-/
import Derived.Test.YtafjijinhjgafaaProg
import Derived.Test.YtafjijinhjgafaaBits
import Derived.Test.YtafjijinhjgafaaPat
import Derived.Test.YtafjijinhjgafaaSign
import Derived.WalkKit
import Derived.WalkSpells
import Derived.WalkLawsBesides
import Derived.RegionTactic
import Derived.Lib.Hide
import Derived.Below
import Derived.OpenShut
namespace Go.Proofs.Ytafjijinhjgafaa
open Go Go.RowKit
set_option linter.unusedVariables false
set_option linter.unusedSimpArgs false

theorem bitPattern_row (n : Int) (l : List Int) (b off cap len : Nat) (w : World) (hn0 : 0 ≤ n) (hn1 : n < 4294967296) (hlen : l.length = len) (hl : len ≤ 32)
    (hb : ∀ k ∈ l, 0 ≤ k ∧ k < 32) (hc : ∀ i, (h : i < l.length) → w.cell? ⟨b, off + i, none⟩ = some (.int .i64 l[i])) :
    Calls Try.prog 9 #[.int .u32 n, .slice (some ⟨b, off, none⟩) len cap] w fun e w' => e = .returned (.int .u32 (pat n l)) ∧ w = w' := by
  subst hlen
  have H := Lib.hid (encodeBitPattern_row n l b off cap w hn0 hn1 hl hb hc)
  clear hc hb
  go_enter Try.func9, Try.ntmps9
  go_wp2_with (first | (go_at_call 23; refine (H.out).mono ?_; rintro e w' ⟨rfl, rfl⟩) | go_in)
  go_ret
  exact ⟨rfl, rfl⟩
theorem bitPattern_nil (n : Int) (a : Option Addr) (cap : Nat) (w : World) :
    Calls Try.prog 9 #[.int .u32 n, .slice a 0 cap] w fun e w' => e = .returned (.int .u32 0) ∧ w = w' := by
  go_enter Try.func9, Try.ntmps9
  go_wp2_with (first | (go_at_call 23; refine (encodeBitPattern_nil _ _ _ _).mono ?_; rintro e w' ⟨rfl, rfl⟩) | go_in)
  go_ret
  exact ⟨rfl, rfl⟩
theorem bitPattern_one (b : Nat) (w : World) (h : w.cell? ⟨b, 0, none⟩ = some (.int .i64 0)) :
    Calls Try.prog 9 #[.int .u32 1, .slice (some ⟨b, 0, none⟩) 1 1] w fun e w' => e = .returned (.int .u32 1) ∧ w = w' := by
  refine (bitPattern_row 1 [0] b 0 1 1 w (by decide) (by decide) rfl (by decide) (by decide) (fun i hi => ?_)).mono ?_
  · obtain rfl : i = 0 := by simp at hi; omega
    simpa using h
  · rintro e w' ⟨rfl, rfl⟩; exact ⟨rfl, rfl⟩

theorem fnPattern_empty (n : Int) (a : Option Addr) (cap : Nat) (w : World) :
    Calls Try.prog 4 #[.int .u32 n, .slice a 0 cap] w fun e w' => e = .returned (.bool true) ∧ Below w.heap.size w w' := by
  cases a
  all_goals
    go_enter Try.func4, Try.ntmps4
    go_wp2
    refine wp_loop_rounds 1 ?_
    rw [rounds_succ]
    go_wp2_with fail
    refine (bitPattern_nil _ _ _ _).mono ?_
    rintro e w' ⟨rfl, rfl⟩
    go_wp2_with fail
    refine wp_loop_rounds 1 ?_
    rw [rounds_succ]
    go_wp2_with fail
    refine (bitPattern_one _ _ (by go_simp)).mono ?_
    rintro e w' ⟨rfl, rfl⟩
    go_wp2_with fail
    go_ret
    exact ⟨rfl, (Below.refl _ _).alloc (Nat.le_refl _) _⟩

theorem info3 : (Try.prog.info? 3).map (fun i => (i.zero, i.size, i.bytes)) = some (some (.int .i64 0), 1, 8) := by kernel_rfl

def L (zs : List Int) (k : Nat) : List Int := (zs.take k).map (· % 32)
theorem L_succ (zs : List Int) (k : Nat) (h : k < zs.length) : L zs (k + 1) = L zs k ++ [zs.getD k 0 % 32] := by
  unfold L
  rw [List.take_succ_eq_append_getElem h, List.map_append]; simp [h]
theorem L_len (zs : List Int) (k : Nat) (h : k ≤ zs.length) : (L zs k).length = k := by simp [L]; omega
theorem L_mem (zs : List Int) (k : Nat) : ∀ x ∈ L zs k, 0 ≤ x ∧ x < 32 := by
  intro x hx; simp only [L, List.mem_map] at hx; obtain ⟨y, _, rfl⟩ := hx; omega

def Rel1 (w : World) (m : Nat) (zs : List Int) (v i : Value) (wr : World) : Prop :=
  ∃ k : Nat, k ≤ m ∧ i = .int .i64 k ∧ wr.ownsRow w.heap.size 3 1 v k ((L zs k).map (Value.int .i64)) ∧ Below w.heap.size w wr

theorem rel1_step {w wr w1 : World} {zs : List Int} {k : Nat} {v v' : Value} {o : Obj} (hk : k < zs.length) (hnx : Below w.heap.size w wr)
    (hown : wr.ownsRow w.heap.size 3 1 v k ((L zs k).map (Value.int .i64)))
    (hown' : w1.ownsRow w.heap.size 3 1 v' (k + 1) ((L zs k).map (Value.int .i64) ++ [.int .i64 (zs.getD k 0 % 32)])) (hgrow : (wr.alloc o).grownBy w1 v.ownBlock) :
    w1.ownsRow w.heap.size 3 1 v' (k + 1) ((L zs (k + 1)).map (Value.int .i64)) ∧ Below w.heap.size w w1 := by
  refine ⟨by rw [L_succ _ _ hk]; simpa using hown', (hnx.alloc (by have := hnx.size; omega) o).grown hgrow (by simp; have := hnx.size; omega) (fun j hj => by have := (hown.lt j hj).1; omega)⟩

theorem pat_same (n : Int) (l : List Int) (j k : Nat) (x : Int) (h0 : 0 ≤ n) (h1 : n < 4294967296) (hlen : l.length = k) (hk : k ≤ 32) (hj : j < k) (hj' : j < l.length) (hx : l[j] = x) :
    (bits BinOp.and IntKind.u32 (pat n l / 2 ^ (k - 1 - j)) 1 != bits BinOp.and IntKind.u32 (n / 2 ^ x.toNat) 1) = false := by
  obtain ⟨p0, p1⟩ := pat_bound n l
  have hp : (2 : Int) ^ l.length ≤ 4294967296 := pow_le_pow l.length 32 (by omega)
  obtain ⟨d0, d1⟩ := div_pow_u32 n x.toNat h0 h1
  obtain ⟨e0, e1⟩ := div_pow_u32 (pat n l) (k - 1 - j) p0 (by omega)
  rw [and_one_u32 _ d0 d1, and_one_u32 _ e0 e1, ← hx, ← pat_bit n l j hj', hlen]
  simp
theorem pat_top (n : Int) (l : List Int) (k : Nat) (hlen : l.length = k) (hk : k ≤ 32) : (IntKind.u64.wrap (pat n l) / 2 ^ k == 0) = true := by
  obtain ⟨p0, p1⟩ := pat_bound n l
  rw [hlen] at p1
  have hp : (2 : Int) ^ k ≤ 4294967296 := pow_le_pow k 32 (by omega)
  rw [IntKind.wrap_u64, Int.emod_eq_of_lt (by omega) (by omega)]
  rw [Int.ediv_eq_zero_of_lt p0 p1]; rfl

theorem own_row {w : World} {B k : Nat} {v : Value} {zs : List Int} (h1 : 1 ≤ k) (hk : k ≤ zs.length) (h : w.ownsRow B 3 1 v k ((L zs k).map (Value.int .i64))) :
    ∃ g cap, v = .slice (some ⟨g, 0, none⟩) k cap ∧ ∀ i, (hi : i < (L zs k).length) → w.cell? ⟨g, 0 + i, none⟩ = some (.int .i64 (L zs k)[i]) := by
  have hcs := fun g => @World.ownsRow.cells _ _ _ _ _ _ _ h g
  rcases h.2 with ⟨_, h0⟩ | ⟨g, cap, cur, rfl, _⟩
  · omega
  · refine ⟨g, cap, rfl, fun i hi => ?_⟩
    have := hcs g rfl i (.int .i64 (L zs k)[i]) (by simp [hi])
    by_cases h0 : i = 0
    · subst h0; simpa [Addr.add] using this
    · simpa [Addr.add, h0] using this

theorem fnPattern_row (n : Int) (b off len cap : Nat) (zs : List Int) (w : World) (hn0 : 0 ≤ n) (hn1 : n < 4294967296) (hl : 1 ≤ len) (hlz : len ≤ zs.length) (hlc : len ≤ cap) (hm : cap ≤ maxLen)
   (hlt : len ≤ 2147483647)
    (hc : ∀ i, (h : i < zs.length) → w.cell? ⟨b, off + i, none⟩ = some (.int .i64 (zs.getD i 0))) :
    Calls Try.prog 4 #[.int .u32 n, .slice (some ⟨b, off, none⟩) len cap] w fun e w' => e = .returned (.bool true) ∧ Below w.heap.size w w' := by
  unfold maxLen at hm
  obtain ⟨i0, hi, hz0, hz1, hz2⟩ := info_parts info3
  have hbw : b < w.heap.size := World.block_lt_of_cell? w _ (hc 0 (by omega))
  have HC := Lib.hid hc
  have HI := Lib.hid hi
  have HZ0 := Lib.hid hz0
  have HZ1 := Lib.hid hz1
  have HZ2 := Lib.hid hz2
  clear hc hi hz0 hz1 hz2
  have hd : decide (2147483647 < (len : Int)) = false := by simp; omega
  obtain ⟨m, hm1, hm2, hml, hmin⟩ : ∃ m : Nat, 1 ≤ m ∧ m ≤ 32 ∧ m ≤ len ∧ (if (32 : Int) < (len : Int) then (32 : Int) else (len : Int)) = (m : Int) := by
    by_cases h : 32 < len
    · exact ⟨32, by omega, by omega, by omega, by rw [if_pos (by omega)]; rfl⟩
    · exact ⟨len, by omega, by omega, by omega, by rw [if_neg (by omega)]⟩
  go_enter Try.func4, Try.ntmps4
  go_wp2
  clear hmin
  go_loopw [5, 20] (fun v i wr => Rel1 w m zs v i wr) (fun _ i _ => 32 - (intOf i).toNat)
  case atStart => exact ⟨0, by omega, rfl, World.ownsRow_nil _ _ _ _, Below.refl _ _⟩
  case round =>
    obtain ⟨k, hkm, rfl, hown, hnx⟩ := hrel
    by_cases hkl : k < m
    · have hcell := (hnx.cell (p := ⟨b, off + k, none⟩) hbw).trans (HC.out k (by omega))
      have hsz := hnx.size
      generalize hx : zs.getD k 0 = x at *
      have HX := Lib.hid hx
      clear hx
      go_wp2_with (first | (go_at_call 7; refine (place_any _ _ _ (by omega) (by omega)).mono ?_; rintro e w' ⟨rfl, rfl⟩) | (at_builtin; refine wpList_append_own _ rfl _ _ 26 rfl w.heap.size 3 i0 (.int .i64 0) 1 8 Try.underlying26 HI.out HZ0.out HZ1.out HZ2.out rfl (by decide) _ _ _ rfl (hown.alloc _) ⟨wr.heap.size, 0, none⟩ 1 1 [.int .i64 (x % 32)] rfl rfl ?c1 ?c2 ?c3 ?c4 ?c5 ?_))
      case c1 => exact cell_one_new _ _ _
      case c2 => simp [Value.oneCell']
      case c3 => unfold maxLen; omega
      case c4 => omega
      case c5 => simp; omega
      intro v' w1 hown' hgrow _
      obtain ⟨hown1, hb1⟩ := rel1_step (by omega) hnx hown (HX.out ▸ hown') hgrow
      clear hown hown' hgrow hnx hcell hsz
      go_wp2
      go_roundw
      case rel => exact ⟨k + 1, by omega, by go_num, hown1, hb1⟩
      case measure => simp [intOf]; omega
    · obtain rfl : k = m := by omega
      obtain ⟨g, cp, hv, hcl⟩ := own_row hm1 (by omega) hown
      have hsz := hnx.size
      clear hown
      have HL := Lib.hid hcl
      clear hcl
      rw [hv]
      clear hv
      have hlen := L_len zs k (by omega)
      have hmem := L_mem zs k
      generalize L zs k = l at *
      have HM := Lib.hid hmem
      have HN := Lib.hid hlen
      clear hmem hlen
      go_wp2_with fail
      refine (bitPattern_row n l g 0 cp k wr hn0 hn1 HN.out hm2 HM.out HL.out).mono ?_
      rintro e w' ⟨rfl, rfl⟩
      go_wp2_with fail
      go_loopw [35] (fun i wx => ∃ j q : Nat, j ≤ k ∧ i = .int .i64 j ∧ wx = wr.drewN q) (fun i _ => k - (intOf i).toNat)
      case atStart => exact ⟨0, 0, by omega, rfl, rfl⟩
      case round =>
        obtain ⟨j, q, hjk, rfl, rfl⟩ := hrel
        by_cases hjl : j < k
        · have hcell := HL.out j (by rw [HN.out]; exact hjl)
          rw [Nat.zero_add] at hcell
          have hjl' : j < l.length := by rw [HN.out]; exact hjl
          obtain ⟨hx0, hx1⟩ := HM.out l[j] (List.getElem_mem hjl')
          generalize hx : l[j] = x at *
          have HX := Lib.hid hx
          clear hx
          go_wp2_with fail
          go_region
          have hne := pat_same n l j k x hn0 hn1 HN.out hm2 hjl (by rw [HN.out]; exact hjl) HX.out
          go_wp2
          go_roundw
          case rel => exact ⟨j + 1, q + 1, by omega, by go_num, rfl⟩
          case measure => simp [intOf]; omega
        · obtain rfl : j = k := by omega
          have hz := pat_top n l j HN.out hm2
          go_wp2_with fail
          refine (bitPattern_one _ _ (by exact World.cell?_alloc_new (wr.drewN q) #[Value.int IntKind.i64 0] 3 0)).mono ?_
          rintro e w' ⟨rfl, rfl⟩
          go_wp2_with fail
          go_ret
          exact ⟨rfl, (below_drewN hnx _).alloc (by simp; omega) _⟩

theorem fnPattern_walk (a0 : Int) (a1 : Option Addr) (len1 cap1 : Nat) (z1 : List Int) (w : World) (w0 : (Lit.int .u32 a0).wf = true)
    (w1 : (a1 = none ∧ len1 = 0 ∧ cap1 = 0 ∧ z1 = []) ∨ ∃ x, a1 = some x ∧ len1 ≤ cap1 ∧ cap1 ≤ maxLen ∧ z1.length = cap1 ∧ (∀ i, i < z1.length → w.cell? (x.add i) = some (.int .i64 (z1.getD i 0))) ∧ ∀ n ∈ z1, (Lit.int .i64 n).wf = true) :
    Calls Try.prog 4 #[.int .u32 a0, .slice a1 len1 cap1] w fun e w' => e = .returned (.bool true) ∧ Below w.heap.size w w' := by
  obtain ⟨hn0, hn1⟩ := bounds_u32 w0
  rcases w1 with ⟨rfl, rfl, rfl, rfl⟩ | ⟨x, rfl, hl, hm, hz, hcell, _⟩
  · exact fnPattern_empty _ _ _ _
  · by_cases h0 : len1 = 0
    · subst h0
      exact fnPattern_empty _ _ _ _
    · obtain ⟨b, off, spot⟩ := x
      have hc := hcell 0 (by omega)
      have hspot : spot = none := by simpa [Addr.add] using World.cell?_spot hc
      subst hspot
      have hc' : ∀ i, i < z1.length → w.cell? ⟨b, off + i, none⟩ = some (.int .i64 (z1.getD i 0)) := fun i hi => by
        have := hcell i hi
        by_cases h : i = 0
        · subst h; simpa [Addr.add] using this
        · simpa [Addr.add, h] using this
      by_cases hlt : len1 ≤ 2147483647
      · exact fnPattern_row a0 b off len1 cap1 z1 w hn0 (by omega) (by omega) (by omega) hl hm hlt hc'
      · unfold maxLen at hm
        clear hcell hc hc'
        have hd : decide (2147483647 < (len1 : Int)) = true := by simp; omega
        go_enter Try.func4, Try.ntmps4
        go_wp2
        go_ret
        exact ⟨rfl, Below.refl _ _⟩
end Go.Proofs.Ytafjijinhjgafaa
