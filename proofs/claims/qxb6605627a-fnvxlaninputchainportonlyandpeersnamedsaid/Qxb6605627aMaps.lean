/-
  MAPS OF THE CALL's OWN, map[string]bool, THAT DO NOT HAVE THE KEY vxlan-peers: made, entries laid, copied (maps.Copy), asked.
-/
import Derived.Test.Qxb6605627aRows
import Derived.Test.Qxb6605627aShelf
import Derived.WalkKit
import Derived.Below
import Derived.Maps.Own
import Derived.Maps.OwnSet
import Derived.StringKeys
import Derived.Shelf.SlMaps.Copy
import Derived.Laws.Rows
import Derived.Laws.Tables
namespace Go.Proofs.Qxb6605627a
open Go.RowKit Go.Maps
set_option linter.unusedVariables false

def peers : Lit := .string [118, 120, 108, 97, 110, 45, 112, 101, 101, 114, 115]
theorem keyed9 : Keyed Try.prog 9 := string_keyed Try.underlying9

/-- The reading is a map without the key vxlan-peers. -/
def Absent (D : DataW Unit) : Prop := ∃ es, D = .map es ∧ ∀ p ∈ es, p.1 ≠ peers
theorem absent_nil : Absent (.map []) := ⟨[], rfl, by simp⟩
theorem absent_put {D : DataW Unit} (h : Absent D) (k : Lit) (d : DataW Unit) (hk : k ≠ peers) : Absent (D.put k d) := by
  obtain ⟨es, rfl, he⟩ := h
  refine ⟨_, rfl, ?_⟩
  intro p hp
  rcases ChangeMaps.mem_insert_iff.1 hp with rfl | hp
  · exact hk
  · exact he p (List.mem_filter.1 hp).1
theorem absent_fold : ∀ (es : List (Lit × DataW Unit)) (D : DataW Unit), Absent D → (∀ p ∈ es, p.1 ≠ peers) → Absent (es.foldl (fun D p => D.put p.1 p.2) D)
  | [], D, h, _ => h
  | p :: r, D, h, hk => absent_fold r _ (absent_put h p.1 p.2 (hk p (by simp))) (fun q hq => hk q (by simp [hq]))
theorem absent_merge {Dd Ds : DataW Unit} (h : Absent Dd) (k : Absent Ds) : Absent (Lib.mergeD Dd Ds) := by
  obtain ⟨es, rfl, he⟩ := k
  exact absent_fold es Dd h he
theorem sameKey_peers {l : Lit} (h : l.sameKey peers = true) : l = peers := by
  cases l <;> simp_all [peers, Lit.sameKey]
theorem absent_at {D : DataW Unit} (h : Absent D) (z : DataW Unit) : D.atKey peers z = z := by
  obtain ⟨es, rfl, he⟩ := h
  have : es.find? (fun p => p.1.sameKey peers) = none := by
    rw [List.find?_eq_none]
    intro p hp hs
    exact he p hp (sameKey_peers hs)
  simp [DataW.atKey, this]

/-- Block b is a map of at most n entries, without the key. -/
def Lacks (w : World) (b n : Nat) : Prop := ∃ D, w.ownsMap Try.prog 9 (plainElem (H := Unit) Try.prog 4) b n D ∧ Absent D
theorem Lacks.lt {w : World} {b n : Nat} (h : Lacks w b n) : b < w.heap.size := by obtain ⟨D, h, _⟩ := h; exact h.lt
theorem Lacks.mono {w : World} {b n m : Nat} (h : Lacks w b n) (hn : n ≤ m) : Lacks w b m := by obtain ⟨D, h, k⟩ := h; exact ⟨D, h.mono hn, k⟩
theorem Lacks.kept {w w' : World} {b n : Nat} {row : Option Nat} (h : Lacks w b n) (hg : w.grownBy w' row) (hne : some b ≠ row) : Lacks w' b n := by
  obtain ⟨D, h, k⟩ := h; exact ⟨D, h.kept hg hne, k⟩
theorem Lacks.same {w w' : World} {b n : Nat} (h : Lacks w b n) (e : w'.heap[b]? = w.heap[b]?) : Lacks w' b n := by
  obtain ⟨D, ⟨es, clock, hb, r⟩, k⟩ := h; exact ⟨D, ⟨es, clock, e.trans hb, r⟩, k⟩
theorem Lacks.alloc {w : World} {b n : Nat} (h : Lacks w b n) (o : Obj) : Lacks (w.alloc o) b n := h.same (Below.heap_alloc _ _ _ h.lt)
theorem Lacks.below {w w' : World} {b n B : Nat} (h : Lacks w b n) (hb : Below B w w') (hl : b < B) : Lacks w' b n := h.same (hb.block b hl)
theorem lacks_made (w : World) : Lacks (w.alloc (.map #[] 0)) w.heap.size 0 := ⟨_, World.ownsMap_made w _ _ _, absent_nil⟩

/-- An entry of a map's literal. -/
theorem insert_run (w : World) (b n : Nat) (s : ByteArray) (hown : Lacks w b n) (hn : n < 100) (hs : s.size ≤ 100) (hk : s.data.toList ≠ [118, 120, 108, 97, 110, 45, 112, 101, 101, 114, 115]) :
    ∃ w', (Instr.mapUpdate 22 (.map (some b)) (.string s) (.bool true)).run Try.prog w = .ok () w' ∧ Lacks w' b (n + 1) ∧ w.grownBy w' (some b) := by
  obtain ⟨D, hD, hA⟩ := hown
  have hl : (100 : Nat) ≤ maxLen := by decide
  have hkey := WideMaps.keyOf_string_mk (P := Try.prog) (k := 9) Try.underlying9 (s := s) (by omega)
  obtain ⟨w', hrun, r1, r2⟩ := hD.update keyed9 Try.underlying22 (by omega) hkey (plainElem_bool (H := Unit) Try.underlying4 true)
  have hk' : Lit.string s.data.toList ≠ peers := fun h => hk (by simpa [peers] using h)
  exact ⟨w', hrun, ⟨_, r1, absent_put hA _ _ hk'⟩, r2⟩

/-- 't.Chains[zzPeers]' -/
theorem look_peers (w : World) (b n : Nat) (h : Lacks w b n) : (Instr.lookup 22 (.map (some b)) (.string { data := #[118, 120, 108, 97, 110, 45, 112, 101, 101, 114, 115] }) false).run Try.prog w = .ok (.bool false) w := by
  obtain ⟨D, hD, hA⟩ := h
  have hkey : keyOf Try.prog 9 (.string { data := #[118, 120, 108, 97, 110, 45, 112, 101, 101, 114, 115] }) = some peers := WideMaps.keyOf_string_mk (P := Try.prog) (k := 9) Try.underlying9 (by decide)
  obtain ⟨v, ps, hrun, hv⟩ := hD.lookup keyed9 Try.underlying22 (z := .bool false) (by kernel_rfl) (plainElem_bool (H := Unit) Try.underlying4 false) hkey
  rw [absent_at hA] at hv
  have : v = .bool false := by
    unfold plainElem at hv
    rw [Try.underlying4] at hv
    cases v <;> simp at hv
    rw [hv.1]
  rw [hrun, this]

/-- 'maps.Copy(dst, src)', both without the key. -/
theorem copy_lacks (w : World) (bd bs nd ns : Nat) (hd : Lacks w bd nd) (hs : Lacks w bs ns) (hne : bd ≠ bs) (h1 : nd ≤ 100) (h2 : ns ≤ 100) :
    Calls Try.prog 16 #[.map (some bd), .map (some bs)] w fun e w' => e = .returned (.tuple #[]) ∧ Lacks w' bd (nd + ns) ∧ w.grownBy w' (some bd) := by
  obtain ⟨Dd, hd, ad⟩ := hd
  obtain ⟨Ds, hs, qs⟩ := hs
  have hz := hs.size_le
  have hl : (200 : Nat) ≤ maxLen := by decide
  have C := AnyX.maps_Copy Try.lcopy keyed9 (plainElem (H := Unit) Try.prog 4) bd bs nd ns Dd Ds w hd hs hne (by omega)
  refine Calls.mono C ?_
  rintro e w' ⟨rfl, r1, _, r3⟩
  exact ⟨rfl, ⟨_, r1.mono (by omega), absent_merge ad qs⟩, r3⟩
end Go.Proofs.Qxb6605627a
