/-
  THE WALKS of net/url.PathEscape (18), api.HostPath (8), api.hostPath (21), api.UpdatePath (15), and what their strings are.
-/
import Derived.Test.Qxb6608690aDoorEsc
import Derived.Test.Qxb6608690aDoorCanon
import Derived.Lib.Strings
namespace Go.Proofs.Qxb6608690aDoor
open Go.RowKit Pl

def escS (s : ByteArray) : ByteArray := ⟨(esc s.data.toList).toArray⟩
def pfxS : ByteArray := ⟨#[47, 97, 112, 105, 47, 118, 49, 47, 104, 111, 115, 116, 115, 47]⟩
def hostS (s : ByteArray) : ByteArray := pfxS ++ escS s
def updS (s : ByteArray) : ByteArray := hostS s ++ ⟨#[47]⟩ ++ ⟨#[117, 112, 100, 97, 116, 101]⟩
def pfxL : List UInt8 := [47, 97, 112, 105, 47, 118, 49, 47, 104, 111, 115, 116, 115, 47]
def updL : List UInt8 := [47, 117, 112, 100, 97, 116, 101]

theorem escS_data (s : ByteArray) : (escS s).data.toList = esc s.data.toList := by simp [escS]
theorem escS_size (s : ByteArray) : (escS s).size = (esc s.data.toList).length := by rw [← len_data, escS_data]
theorem escS_le (s : ByteArray) : (escS s).size ≤ 3 * s.size := by rw [escS_size, ← len_data]; exact esc_le3 _
theorem hostS_data (s : ByteArray) : (hostS s).data.toList = pfxL ++ esc s.data.toList := by
  unfold hostS; rw [ByteArray.data_append, Array.toList_append, escS_data]; rfl
theorem hostS_size (s : ByteArray) : (hostS s).size = 14 + (escS s).size := by rw [← len_data, hostS_data, escS_size, List.length_append]; rfl
theorem updS_data (s : ByteArray) : (updS s).data.toList = pfxL ++ esc s.data.toList ++ updL := by
  unfold updS
  rw [ByteArray.data_append, Array.toList_append, ByteArray.data_append, Array.toList_append, hostS_data, List.append_assoc (pfxL ++ esc s.data.toList)]; rfl
theorem updS_size (s : ByteArray) : (updS s).size = 21 + (escS s).size := by
  rw [← len_data, updS_data, escS_size, List.length_append, List.length_append]
  show 14 + _ + 7 = _
  omega

theorem pathEscape_any (s : ByteArray) (w : World) (hs : s.size ≤ 1048576) (hT : Tab w) (hB : 0 < w.heap.size) :
    Calls Tryd.prog 18 #[.string s] w fun e w' => e = .returned (.string (escS s)) ∧ Below w.heap.size w w' := by
  have HT : Hid (Tab w) := hT
  clear hT
  go_enter Tryd.func18, Tryd.ntmps18
  go_wp2_with (go_at_call 22; refine (escape_any _ _ hs HT.out hB).mono ?_; rintro e w' ⟨rfl, hb⟩)
  go_ret
  exact ⟨rfl, hb⟩

theorem hostPath_any (s : ByteArray) (w : World) (hs : s.size ≤ 1048576) (hT : Tab w) (hB : 0 < w.heap.size) :
    Calls Tryd.prog 8 #[.string s] w fun e w' => e = .returned (.string (hostS s)) ∧ Below w.heap.size w w' := by
  have HT : Hid (Tab w) := hT
  have hz := escS_le s
  clear hT
  go_enter Tryd.func8, Tryd.ntmps8
  go_wp2_with (go_at_call 18; refine (pathEscape_any _ _ hs HT.out hB).mono ?_; rintro e w' ⟨rfl, hb⟩)
  go_ret
  exact ⟨rfl, hb⟩

theorem hostPath2_any (s : ByteArray) (w : World) (hs : s.size ≤ 1048576) (hT : Tab w) (hB : 0 < w.heap.size) :
    Calls Tryd.prog 21 #[.string s, .string ⟨#[117, 112, 100, 97, 116, 101]⟩] w fun e w' => e = .returned (.string (updS s)) ∧ Below w.heap.size w w' := by
  have HT : Hid (Tab w) := hT
  have hz := escS_le s
  have hz2 : (hostS s).size ≤ 3145742 := by rw [hostS_size]; omega
  clear hT
  go_enter Tryd.func21, Tryd.ntmps21
  go_wp2_with (go_at_call 8; refine (hostPath_any _ _ hs HT.out hB).mono ?_; rintro e w' ⟨rfl, hb⟩)
  go_ret
  exact ⟨rfl, hb⟩

theorem updPath_any (s : ByteArray) (w : World) (hs : s.size ≤ 1048576) (hT : Tab w) (hB : 0 < w.heap.size) :
    Calls Tryd.prog 15 #[.string s] w fun e w' => e = .returned (.string (updS s)) ∧ Below w.heap.size w w' := by
  have HT : Hid (Tab w) := hT
  clear hT
  go_enter Tryd.func15, Tryd.ntmps15
  go_wp2_with (go_at_call 21; refine (hostPath2_any _ _ hs HT.out hB).mono ?_; rintro e w' ⟨rfl, hb⟩)
  go_ret
  exact ⟨rfl, hb⟩
end Go.Proofs.Qxb6608690aDoor
