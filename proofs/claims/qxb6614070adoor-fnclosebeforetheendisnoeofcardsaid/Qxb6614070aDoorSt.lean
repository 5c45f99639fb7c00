/-
  THE STATE of a poolBody between two calls, and what Read and Close make of it.
-/
import Derived.Test.Qxb6614070aDoorClose
import Derived.Test.Qxb6614070aDoorSmall
namespace Go.Proofs.Qxb6614070aDoor
open Go.RowKit

def b01 (b : Bool) : Int := if b = true then 1 else 0

/-- WHAT STANDS STILL: where the five blocks lie; the reader's own slice and its bytes; io.EOF. -/
structure Lay (W : World) (PB EV EN RD PP : Nat) (s : Value) (xs : List Int) (a0 : Addr) (base : Nat) : Prop where
  o1 : EN < EV
  o2 : EV < RD
  o3 : RD < PB
  o4 : PB < PP
  be : base ≤ EN
  pz : 0 < base
  own : Own .u8 5 base W s xs
  win : Within base EN s
  eof : W.cell? ⟨0, 0, none⟩ = some (.iface 111 (.pointer (some a0)))
  len : xs.length ≤ 524288

/-- WHAT TURNS: has the exchange ended (d), with eof (e)? how far has the reader come? -/
def St (W : World) (PB EV EN RD PP : Nat) (s : Value) (wr : World) (pos : Nat) (d e : Bool) : Prop :=
  ∃ pr g, wr.rowIs PB 82 5 (pbf RD EV (b01 d) 0) ∧ wr.rowIs EV 40 1 (evf EN) ∧ wr.rowIs EN 49 2 (enf (b01 d) e) ∧ wr.rowIs RD 85 3 (rdf s pos pr) ∧ wr.rowIs PP 5 65536 g ∧ Chg [RD, PP, PB, EN] W wr

theorem St.chg {W : World} {PB EV EN RD PP : Nat} {s : Value} {wr w' : World} {pos : Nat} {d e : Bool} (h : St W PB EV EN RD PP s wr pos d e) (hc : Chg [] wr w') : St W PB EV EN RD PP s w' pos d e := by
  obtain ⟨pr, g, h1, h2, h3, h4, h5, h6⟩ := h
  exact ⟨pr, g, hc.row h1 (by simp), hc.row h2 (by simp), hc.row h3 (by simp), hc.row h4 (by simp), hc.row h5 (by simp), h6.trans (hc.mono (by simp))⟩
theorem St.frame {W : World} {PB EV EN RD PP : Nat} {s : Value} {wr : World} {pos : Nat} {d e : Bool} (h : St W PB EV EN RD PP s wr pos d e) : Chg [RD, PP, PB, EN] W wr := by
  obtain ⟨pr, g, h1, h2, h3, h4, h5, h6⟩ := h
  exact h6

theorem st_read_some {W : World} {PB EV EN RD PP : Nat} {s : Value} {xs : List Int} {a0 : Addr} {base : Nat} (L : Lay W PB EV EN RD PP s xs a0 base) (wr : World) (pos k m : Nat) (d e : Bool) (h : St W PB EV EN RD PP s wr pos d e)
    (hpos : pos < xs.length) (hk : k ≤ 65536) (hm : m = Nat.min (xs.length - pos) k) :
    Calls Tryd.prog 16 #[.pointer (some ⟨PB, 0, none⟩), .slice (some ⟨PP, 0, none⟩) k 65536] wr fun r w' => r = .returned (.tuple #[.int .i64 (m : Int), .nilIface]) ∧ St W PB EV EN RD PP s w' (pos + m) d e ∧ Reads .u8 w' (.slice (some ⟨PP, 0, none⟩) m 65536) ((xs.drop pos).take m) := by
  obtain ⟨pr, g, h1, h2, h3, h4, h5, h6⟩ := h
  have o1 := L.o1
  have o2 := L.o2
  have o3 := L.o3
  have o4 := L.o4
  obtain ⟨DB, cap, cur, hs, hb, hg, hn, _, _, _⟩ : ∃ g cap cur, s = .slice (some ⟨g, 0, none⟩) xs.length cap ∧ base ≤ g ∧ W.heap[g]? = some (.cells cur 5 (0, 0)) ∧ xs.length ≤ cap ∧ cap ≤ maxLen ∧ cur.size = cap * 1 ∧ cur.toList.take (xs.length * 1) = xs.map (Value.int .u8) := by
    rcases L.own.2 with ⟨_, h0⟩ | h
    · omega
    · exact h
  have hw := L.win DB (by rw [hs]; rfl)
  subst hs
  have hcell : ∀ j, j < xs.length → wr.cell? ⟨DB, j, none⟩ = some (.int .u8 (xs.getD j 0)) := fun j hj => by
    have := World.ownsRow.cellAt (w := W) L.own j (by omega)
    rw [getD_map .u8 xs j hj] at this
    exact h6.cell this (by simp; omega)
  have hml : m ≤ xs.length - pos := by rw [hm]; exact Nat.min_le_left _ _
  have hmk : m ≤ k := by rw [hm]; exact Nat.min_le_right _ _
  refine (read_some PB EV RD DB PP cap k 65536 pos m (b01 d) pr xs g wr h1 h4 h5 hcell (by omega) (by omega) (by omega) hn (by have := L.len; omega) hpos hk hm).mono ?_
  rintro r w' ⟨rfl, k1, k2, k3⟩
  refine ⟨rfl, ⟨-1, _, k3.row h1 (by simp; omega), k3.row h2 (by simp; omega), k3.row h3 (by simp; omega), k1, k2, h6.trans (k3.mono (by simp))⟩, ?_⟩
  have el : ((xs.drop pos).take m).length = m := by rw [List.length_take, List.length_drop]; omega
  refine .inr ⟨⟨PP, 0, none⟩, 65536, by rw [el], by rw [el]; omega, fun i hi => ?_⟩
  rw [el] at hi
  rw [Go.WideShapes.add_plain, Nat.zero_add, k2.cell (by omega), if_pos hi]
  simp [List.getD, List.getElem?_drop, hi]

theorem st_read_end {W : World} {PB EV EN RD PP : Nat} {s : Value} {xs : List Int} {a0 : Addr} {base : Nat} (L : Lay W PB EV EN RD PP s xs a0 base) (wr : World) (pos : Nat) (d e : Bool) (p : Value) (h : St W PB EV EN RD PP s wr pos d e)
    (hpos : xs.length ≤ pos) :
    Calls Tryd.prog 16 #[.pointer (some ⟨PB, 0, none⟩), p] wr fun r w' => r = .returned (.tuple #[.int .i64 0, .iface 111 (.pointer (some a0))]) ∧ St W PB EV EN RD PP s w' pos true (if d = true then e else true) := by
  have hst := h
  obtain ⟨pr, g, h1, h2, h3, h4, h5, h6⟩ := h
  have o1 := L.o1
  have o2 := L.o2
  have o3 := L.o3
  have o4 := L.o4
  have oz := L.pz
  have ob := L.be
  obtain ⟨a, c, hs⟩ := (L.own.reads).len
  subst hs
  have hG := h6.cell L.eof (by simp; omega)
  cases d with
  | true =>
    refine (read_end_again PB EV RD xs.length c pos a a0 pr p wr h1 h4 hG hpos).mono ?_
    rintro r w' ⟨rfl, k1⟩
    exact ⟨rfl, hst.chg k1⟩
  | false =>
    refine (read_end_first PB EV EN RD xs.length c pos a a0 0 pr e p wr h1 h2 h3 h4 hG (by omega) (by omega) (by omega) (by omega) (by omega) (by decide) (by decide) hpos).mono ?_
    rintro r w' ⟨rfl, k1, k2, k3⟩
    exact ⟨rfl, pr, g, k1, k3.row h2 (by simp; omega), k2, k3.row h4 (by simp; omega), k3.row h5 (by simp; omega), h6.trans (k3.mono (by simp))⟩

theorem st_close {W : World} {PB EV EN RD PP : Nat} {s : Value} {xs : List Int} {a0 : Addr} {base : Nat} (L : Lay W PB EV EN RD PP s xs a0 base) (wr : World) (pos : Nat) (d e : Bool) (h : St W PB EV EN RD PP s wr pos d e) :
    Calls Tryd.prog 18 #[.pointer (some ⟨PB, 0, none⟩)] wr fun r w' => r = .returned .nilIface ∧ St W PB EV EN RD PP s w' pos true (if d = true then e else false) := by
  have hst := h
  obtain ⟨pr, g, h1, h2, h3, h4, h5, h6⟩ := h
  have o1 := L.o1
  have o2 := L.o2
  have o3 := L.o3
  have o4 := L.o4
  cases d with
  | true =>
    refine (close_again PB EV RD wr h1).mono ?_
    rintro r w' ⟨rfl, k1⟩
    exact ⟨rfl, hst.chg k1⟩
  | false =>
    refine (close_first PB EV EN RD 0 e wr h1 h2 h3 (by omega) (by omega) (by omega) (by decide) (by decide)).mono ?_
    rintro r w' ⟨rfl, k1, k2, k3⟩
    exact ⟨rfl, pr, g, k1, k3.row h2 (by simp; omega), k2, k3.row h4 (by simp; omega), k3.row h5 (by simp; omega), h6.trans (k3.mono (by simp))⟩
end Go.Proofs.Qxb6614070aDoor
