/-
  THE WALKS OF 'upMembers' AND WHAT IT CALLS.
-/
import Derived.Test.Qxb6605552aRows
import Derived.Test.Qxb6605552aUpPlain
import Derived.WalkKit
import Derived.Outline
import Derived.Deep.OwnRows
namespace Go.Proofs.Qxb6605552a.Up
open Go.RowKit

/-- A slice's value leads to n cells, the i-th holding 'f i'. -/
def Seen (w : World) (a : Option Addr) (n : Nat) (f : Nat → Value) : Prop :=
  n = 0 ∨ ∃ b off, a = some ⟨b, off, none⟩ ∧ b < w.heap.size ∧ ∀ i, i < n → w.cell? ⟨b, off + i, none⟩ = some (f i)

/-- The i-th number of a list, by a name that the walk leaves standing. -/
def el (ds : List Int) (i : Nat) : Int := ds.getD i 0
def ints (ds : List Int) (i : Nat) : Value := .int .i64 (el ds i)

theorem Seen.at {w : World} {a : Option Addr} {n : Nat} {f : Nat → Value} (h : Seen w a n f) {k : Nat} (hk : k < n) : ∃ b off, a = some ⟨b, off, none⟩ ∧ b < w.heap.size ∧ w.cell? ⟨b, off + k, none⟩ = some (f k) := by
  rcases h with rfl | ⟨b, off, rfl, hb, hc⟩
  · omega
  · exact ⟨b, off, rfl, hb, hc k hk⟩

theorem Seen.below {w w' : World} {a : Option Addr} {n : Nat} {f : Nat → Value} (h : Seen w a n f) (hb : Below w.heap.size w w') : Seen w' a n f := by
  rcases h with rfl | ⟨b, off, rfl, hlt, hc⟩
  · exact .inl rfl
  · exact .inr ⟨b, off, rfl, Nat.lt_of_lt_of_le hlt hb.size, fun i hi => (hb.cell (by exact hlt)).trans (hc i hi)⟩

theorem mem_snoc (ds : List Int) (k : Nat) (h : k < ds.length) (x : Int) : (x ∈ ds.take (k + 1)) ↔ (x ∈ ds.take k ∨ x = el ds k) := by
  rw [take_snoc ds k h]; simp [el]

theorem mem_el (ds : List Int) (k : Nat) (h : k < ds.length) : el ds k ∈ ds := by
  unfold el
  rw [List.getD_eq_getElem?_getD, List.getElem?_eq_getElem h]; exact List.getElem_mem h

set_option maxHeartbeats 400000 in
theorem index_any (a : Option Addr) (n cap : Nat) (ds : List Int) (x : Int) (w : World) (hn : n ≤ 4096) (hl : ds.length = n) (hs : Seen w a n (ints ds)) :
    Calls Try.prog 22 #[.slice a n cap, .int .i64 x] w fun e w' => (∃ r : Int, e = .returned (.int .i64 r) ∧ (0 ≤ r ↔ x ∈ ds)) ∧ w = w' := by
  have HL : Hid (ds.length = n) := hl
  clear hl
  go_enter Try.func22, Try.ntmps22
  go_wp2
  go_loop [8] (fun i => ∃ k : Nat, k ≤ n ∧ i = .int .i64 k ∧ ¬ x ∈ ds.take k) (fun i => n - (intOf i).toNat)
  case atStart => exact ⟨0, Nat.zero_le _, rfl, by simp⟩
  case round =>
    obtain ⟨k, hk, rfl, hno⟩ := hrel
    have HN : Hid (¬ x ∈ ds.take k) := hno
    clear hno
    by_cases hlt : k < n
    · obtain ⟨b, off, rfl, hb, hc⟩ := hs.at hlt
      unfold ints at hc
      by_cases hx : x = el ds k
      · have hx' : (x == el ds k) = true := by simpa using hx
        have HX : Hid (x = el ds k) := hx
        clear hx
        go_wp2
        go_ret
        refine ⟨⟨_, rfl, ?_⟩, rfl⟩
        have := mem_el ds k (by have := HL.out; omega)
        rw [← HX.out] at this
        exact ⟨fun _ => this, fun _ => by omega⟩
      · have hx' : (x == el ds k) = false := by simpa using hx
        have HX : Hid (¬ x = el ds k) := hx
        clear hx
        go_wp2
        go_round
        case rel =>
          refine ⟨k + 1, by omega, by go_num, ?_⟩
          rw [mem_snoc ds k (by have := HL.out; omega)]
          rintro (h | h)
          · exact HN.out h
          · exact HX.out h
        case measure => simp [intOf]; omega
    · go_wp2
      go_ret
      refine ⟨⟨_, rfl, ?_⟩, rfl⟩
      have e : ds.take k = ds := List.take_of_length_le (by have := HL.out; omega)
      have := HN.out
      rw [e] at this
      exact ⟨fun h => by omega, fun h => absurd h this⟩

theorem contains_any (a : Option Addr) (n cap : Nat) (ds : List Int) (x : Int) (w : World) (hn : n ≤ 4096) (hl : ds.length = n) (hs : Seen w a n (ints ds)) :
    Calls Try.prog 20 #[.slice a n cap, .int .i64 x] w fun e w' => e = .returned (.bool (decide (x ∈ ds))) ∧ w = w' := by
  go_enter Try.func20, Try.ntmps20
  go_wp2_with (go_at_call 22; refine (index_any a n cap ds x _ hn hl hs).mono ?_; rintro e w' ⟨⟨r, rfl, hr⟩, rfl⟩)
  go_ret
  exact ⟨rfl, rfl⟩

theorem Try.info3 : (Try.prog.info? 3).map (fun i => (i.zero, i.size, i.bytes)) = some (some (.int .i64 0), 1, 8) := by kernel_rfl

def upCells (ds : List Int) (n : Nat) : List Value := (ups ds n).map (Value.int .i64)
theorem upCells_in (ds : List Int) (k : Nat) (h : inB ds k = true) : upCells ds (k + 1) = upCells ds k := by
  unfold upCells; rw [ups_in ds k h]
theorem upCells_out (ds : List Int) (k : Nat) (h : inB ds k = false) : upCells ds (k + 1) = upCells ds k ++ [.int .i64 k] := by
  unfold upCells; rw [ups_out ds k h]; simp
def upLen (ds : List Int) (n : Nat) : Nat := (ups ds n).length

/-- What the loop of 'upMembers' has gathered behind k rounds. -/
def Gath (w wr : World) (ds : List Int) (v : Value) (k : Nat) : Prop :=
  wr.ownsRow w.heap.size 3 1 v (upLen ds k) (upCells ds k) ∧ Below w.heap.size w wr ∧ (upLen ds k = 0 → v = .slice none 0 0)

theorem upLen_le (ds : List Int) (k : Nat) : upLen ds k ≤ k := ups_le ds k

theorem gath_start (w : World) (ds : List Int) : Gath w w ds (.slice none 0 0) 0 := ⟨World.ownsRow_nil _ _ _ _, Below.refl _ _, fun _ => rfl⟩

theorem gath_in {w wr : World} {ds : List Int} {v : Value} {k : Nat} (h : Gath w wr ds v k) (hi : inB ds k = true) : Gath w wr ds v (k + 1) := by
  obtain ⟨h1, h2, h3⟩ := h
  have e : upLen ds (k + 1) = upLen ds k := by unfold upLen; rw [ups_in ds k hi]
  refine ⟨?_, h2, ?_⟩
  · rw [e, upCells_in ds k hi]; exact h1
  · rw [e]; exact h3

theorem gath_out {w wr w1 : World} {ds : List Int} {v v' : Value} {k : Nat} {o : Obj} (h : Gath w wr ds v k) (hi : inB ds k = false)
    (hown : w1.ownsRow w.heap.size 3 1 v' (upLen ds k + 1) (upCells ds k ++ [.int .i64 k])) (hg : (wr.alloc o).grownBy w1 v.ownBlock) : Gath w w1 ds v' (k + 1) := by
  obtain ⟨h1, h2, h3⟩ := h
  have e : upLen ds (k + 1) = upLen ds k + 1 := by unfold upLen; rw [ups_out ds k hi]; simp
  refine ⟨?_, ?_, ?_⟩
  · rw [e, upCells_out ds k hi]; exact hown
  · exact (h2.alloc h2.size o).grown hg (by have := h2.size; simp; omega) (fun g hg' => (h1.lt g hg').1)
  · rw [e]; intro h; omega

/-- What 'upMembers' hands back: the rest in order, nil where there is none. -/
def Rest (w w' : World) (ds : List Int) (N : Nat) (a : Option Addr) : Prop :=
  (upLen ds N = 0 → a = none) ∧ (0 < upLen ds N → a ≠ none) ∧ Seen w' a (upLen ds N) (ints (ups ds N)) ∧ Below w.heap.size w w'

theorem rest_of {w w' : World} {ds : List Int} {v : Value} {N : Nat} (h : Gath w w' ds v N) : ∃ a cap, v = .slice a (upLen ds N) cap ∧ Rest w w' ds N a := by
  obtain ⟨hown, hb, hnil⟩ := h
  by_cases h0 : upLen ds N = 0
  · refine ⟨none, 0, by rw [hnil h0, h0], fun _ => rfl, fun h => by omega, .inl h0, hb⟩
  · rcases hown.2 with ⟨rfl, hx⟩ | ⟨g, cap, cur, hv, hg, hh, hrest⟩
    · have := hown.1
      simp [hx] at this
      omega
    · refine ⟨some ⟨g, 0, none⟩, cap, hv, fun h => absurd h h0, fun _ => by simp, .inr ⟨g, 0, rfl, ?_, ?_⟩, hb⟩
      · exact (Array.getElem?_eq_some_iff.1 hh).1
      · intro i hi
        rw [hv] at hown
        have := hown.cellAt i (by omega)
        rw [Nat.zero_add, this]
        unfold upLen at hi
        simp [upCells, ints, el, hi]

/-- How 'upMembers' ends. -/
def Ends (w : World) (ds : List Int) (N : Nat) (e : Ending) (w' : World) : Prop := ∃ a cap, e = .returned (.slice a (upLen ds N) cap) ∧ Rest w w' ds N a

set_option maxHeartbeats 800000 in
theorem up_any (a : Option Addr) (len cap N : Nat) (n : Int) (ds : List Int) (w : World) (hn : N ≤ 65536) (h1 : n ≤ N) (h2 : (N : Int) ≤ n ∨ N = 0) (hlen : len ≤ 4096) (hl : ds.length = len) (hs : Seen w a len (ints ds)) :
    Calls Try.prog 18 #[.int .i64 n, .slice a len cap] w fun e w' => Ends w ds N e w' := by
  obtain ⟨i0, hi, hz0, hz1, hz2⟩ := info_parts Try.info3
  have HL : Hid (ds.length = len) := hl
  have H2 : Hid ((N : Int) ≤ n ∨ N = 0) := h2
  clear hl h2
  go_enter Try.func18, Try.ntmps18
  go_wp2
  go_loopw [5, 8] (fun v i wr => ∃ k : Nat, k ≤ N ∧ i = .int .i64 k ∧ Gath w wr ds v k) (fun _ i _ => N - (intOf i).toNat)
  case atStart => exact ⟨0, Nat.zero_le _, rfl, gath_start _ _⟩
  case round =>
    obtain ⟨k, hk, rfl, hG⟩ := hrel
    have hle := upLen_le ds k
    have hsr := hs.below hG.2.1
    by_cases hlt : k < N
    · have hlt' : (k : Int) < n := by have := H2.out; omega
      cases hib : inB ds k with
      | true =>
        have hmem : decide ((k : Int) ∈ ds) = true := hib
        go_wp2_with (first | (go_at_call 20; refine (contains_any _ _ _ ds _ _ hlen HL.out hsr).mono ?_; rintro e w' ⟨rfl, rfl⟩))
        go_roundw
        case rel => exact ⟨k + 1, by omega, by go_num, gath_in hG hib⟩
        case measure => simp [intOf]; omega
      | false =>
        have hmem : decide ((k : Int) ∈ ds) = false := hib
        have HI : Hid (inB ds k = false) := hib
        clear hib
        go_wp2_with (first | (go_at_call 20; refine (contains_any _ _ _ ds _ _ hlen HL.out hsr).mono ?_; rintro e w' ⟨rfl, rfl⟩) | (at_builtin; refine wpList_append_own _ rfl _ _ 22 rfl w.heap.size 3 i0 (.int .i64 0) 1 8 Try.underlying22 hi hz0 hz1 hz2 rfl (by decide) _ (upLen ds k) (upCells ds k) rfl (hG.1.alloc _) ⟨_, 0, none⟩ 1 1 [.int .i64 k] rfl rfl ?c1 ?c2 ?c3 ?c4 ?c5 ?_))
        case c1 =>
          intro j u hj
          match j, hj with
          | 0, hj => simp at hj; subst hj; simp [Addr.add]
        case c2 => intro u hu; simp at hu; subst hu; rfl
        case c3 => unfold maxLen; omega
        case c4 => omega
        case c5 => have := hG.2.1.size; simp; omega
        intro v' w1 hown' hgrow _
        have R := gath_out hG HI.out hown' hgrow
        clear hown' hgrow hG hsr
        go_wp2
        go_roundw
        case rel => exact ⟨k + 1, by omega, by go_num, R⟩
        case measure => simp [intOf]; omega
    · have hlt' : ¬ (k : Int) < n := by omega
      go_wp2
      go_ret
      obtain rfl : k = N := by omega
      obtain ⟨a', cap', rfl, R⟩ := rest_of hG
      exact ⟨a', cap', rfl, R⟩

theorem zzup_any (a : Option Addr) (len cap N : Nat) (n : Int) (ds : List Int) (w : World) (hn : N ≤ 65536) (h1 : n ≤ N) (h2 : (N : Int) ≤ n ∨ N = 0) (hlen : len ≤ 4096) (hl : ds.length = len) (hs : Seen w a len (ints ds)) :
    Calls Try.prog 7 #[.int .i64 n, .slice a len cap] w fun e w' => Ends w ds N e w' := by
  have HL : Hid (ds.length = len) := hl
  have H2 : Hid ((N : Int) ≤ n ∨ N = 0) := h2
  clear hl h2
  go_enter Try.func7, Try.ntmps7
  go_wp2_with (first | (go_at_call 18; refine (up_any a len cap N n ds _ hn h1 H2.out hlen HL.out hs).mono ?_; rintro e w' ⟨a', cap', rfl, R⟩))
  go_ret
  exact ⟨_, _, rfl, ‹_›⟩

theorem bytes_yes (n : Int) (a : Option Addr) (len cap : Nat) (w : World) (h : len ≤ 1048576) :
    Calls Try.prog 6 #[.int .i64 n, .slice a len cap] w fun e w' => e = .returned (.bool true) ∧ w = w' := by
  go_enter Try.func6, Try.ntmps6
  go_wp2
  go_ret
  exact ⟨rfl, rfl⟩
theorem bytes_no (n : Int) (a : Option Addr) (len cap : Nat) (w : World) (h : 1048576 < len) :
    Calls Try.prog 6 #[.int .i64 n, .slice a len cap] w fun e w' => e = .returned (.bool false) ∧ w = w' := by
  go_enter Try.func6, Try.ntmps6
  go_wp2
  go_ret
  exact ⟨rfl, rfl⟩
end Go.Proofs.Qxb6605552a.Up
