import Derived.Test.Qxb6609009aRows
import Derived.WalkKit
import Derived.WalkSpells
import Derived.WalkLawsBesides
import Derived.Deep.QuietTactic
import Derived.BigQuiet
import Derived.RegionTactic
namespace Go.Proofs.Qxb6609009a
open Go.RowKit

/-- What a slice of pairs of strings holds: the elements xs lie, two cells each, behind the address. -/
def Lies (w : World) (ao : Option Addr) (xs : List (ByteArray × ByteArray)) : Prop :=
  ∀ k p, xs[k]? = some p → ∃ b off, ao = some ⟨b, off, none⟩ ∧ b < w.heap.size ∧ w.cell? ⟨b, off + k * 2, none⟩ = some (.string p.1) ∧ w.cell? ⟨b, off + k * 2 + 1, none⟩ = some (.string p.2)

theorem Lies.below {w w' : World} {ao : Option Addr} {xs : List (ByteArray × ByteArray)} (h : Lies w ao xs) (hb : Below w.heap.size w w') : Lies w' ao xs := by
  intro k p hp
  obtain ⟨b, off, h1, h2, h3, h4⟩ := h k p hp
  exact ⟨b, off, h1, Nat.lt_of_lt_of_le h2 hb.size, (hb.cell (p := ⟨b, _, none⟩) h2).trans h3, (hb.cell (p := ⟨b, _, none⟩) h2).trans h4⟩

def look (xs : List (ByteArray × ByteArray)) (nm : ByteArray) : Option (ByteArray × ByteArray) := xs.find? fun p => p.1.toList == nm.toList
def res (o : Option (ByteArray × ByteArray)) : ByteArray × ByteArray := o.getD (⟨#[]⟩, ⟨#[]⟩)

theorem look_append (xs ys : List (ByteArray × ByteArray)) (nm : ByteArray) : look (xs ++ ys) nm = (look xs nm).or (look ys nm) := by
  simp [look, List.find?_append]
theorem take_snoc {α : Type} {xs : List α} {k : Nat} {p : α} (h : xs[k]? = some p) : xs.take (k + 1) = xs.take k ++ [p] := by
  obtain ⟨hk, he⟩ := List.getElem?_eq_some_iff.1 h
  rw [List.take_succ_eq_append_getElem hk, he]
theorem look_hit {xs : List (ByteArray × ByteArray)} {nm s0 s1 : ByteArray} {k : Nat} (hp : xs[k]? = some (s0, s1)) (hn : look (xs.take k) nm = none) (h : (s0.toList == nm.toList) = true) : look xs nm = some (s0, s1) := by
  obtain ⟨hk, he⟩ := List.getElem?_eq_some_iff.1 hp
  have e : xs = xs.take k ++ ((s0, s1) :: xs.drop (k + 1)) := by rw [← he, List.getElem_cons_drop, List.take_append_drop]
  rw [e, look_append, hn]
  simp [look, h]
theorem look_miss {xs : List (ByteArray × ByteArray)} {nm s0 s1 : ByteArray} {k : Nat} (hp : xs[k]? = some (s0, s1)) (hn : look (xs.take k) nm = none) (h : (s0.toList == nm.toList) = false) : look (xs.take (k + 1)) nm = none := by
  rw [take_snoc hp, look_append, hn]
  simp [look, h]

set_option maxHeartbeats 400000 in
theorem lookup_any (bt : Nat) (ao : Option Addr) (n cap : Nat) (nm : ByteArray) (xs : List (ByteArray × ByteArray)) (hn : xs.length = n) (hn2 : n ≤ 100000) (w : World) (hl : Lies w ao xs)
    (hc : w.cell? ⟨bt, 3, none⟩ = some (.slice ao n cap)) :
    Calls Try.prog 10 #[.pointer (some ⟨bt, 0, none⟩), .string nm] w fun e w' =>
      e = .returned (.tuple #[.agg #[.string (res (look xs nm)).1, .string (res (look xs nm)).2], .bool (look xs nm).isSome]) ∧ Below w.heap.size w w' := by
  have hbt : bt < w.heap.size := World.block_lt_of_cell? w _ hc
  go_enter Try.func10, Try.ntmps10
  go_wp2
  go_loopw [13] (fun i wr => ∃ k : Nat, k ≤ n ∧ i = .int .i64 k ∧ Below w.heap.size w wr ∧ w.heap.size < wr.heap.size ∧ wr.cell? ⟨w.heap.size, 0, none⟩ = some (.string ⟨#[]⟩) ∧ wr.cell? ⟨w.heap.size, 1, none⟩ = some (.string ⟨#[]⟩) ∧
      wr.frozen? ⟨w.heap.size, 0, none⟩ = false ∧ wr.frozen? ⟨w.heap.size, 1, none⟩ = false ∧ look (xs.take k) nm = none) (fun i _ => n - (intOf i).toNat)
  case atStart => exact ⟨0, Nat.zero_le _, rfl, (Below.refl _ _).alloc (Nat.le_refl _) _, by simp, by simp, by simp, by simp, by simp, rfl⟩
  case round =>
    obtain ⟨k, hk, rfl, hb, hsz, c0, c1, f0, f1, hlk⟩ := hrel
    have HLK : Hid (look (xs.take k) nm = none) := hlk
    clear hlk
    by_cases hlt : k < n
    · obtain ⟨⟨s0, s1⟩, hp⟩ : ∃ p, xs[k]? = some p := ⟨xs[k], by simp [hn, hlt]⟩
      obtain ⟨b, off, hao, hbs, e0, e1⟩ := hl k _ hp
      have HP : Hid (xs[k]? = some (s0, s1)) := hp
      clear hp
      subst hao
      have e0' : wr.cell? ⟨b, off + k * 2, none⟩ = some (.string s0) := (hb.cell (p := ⟨b, _, none⟩) hbs).trans e0
      have e1' : wr.cell? ⟨b, off + k * 2 + 1, none⟩ = some (.string s1) := (hb.cell (p := ⟨b, _, none⟩) hbs).trans e1
      clear e0 e1
      go_wp2
      · have hh : (s0.toList == nm.toList) = true := by assumption
        have e := look_hit HP.out HLK.out hh
        refine bodyPost_ret (v := .tuple #[.agg #[.string s0, .string s1], .bool true]) (by simp [results, Try.results10, go_sem, hsz, c0, c1]) rfl ⟨by rw [e]; rfl, ?_⟩
        exact ((hb.setCell (Nat.le_refl _) _).setCell (Nat.le_refl _) _).alloc (by simp; omega) _
      · have hh : (s0.toList == nm.toList) = false := by assumption
        go_roundw
        case rel => exact ⟨k + 1, by omega, by go_num, hb.alloc (by omega) _, by simp; omega, (World.cell?_alloc_past _ _ _ hsz).trans c0, (World.cell?_alloc_past _ _ _ hsz).trans c1, (World.frozen?_alloc_past _ _ _ hsz).trans f0, (World.frozen?_alloc_past _ _ _ hsz).trans f1, look_miss HP.out HLK.out hh⟩
        case measure => simp [intOf]; omega
    · have hkn : k = n := by omega
      have e : look xs nm = none := by have := HLK.out; rwa [List.take_of_length_le (by omega)] at this
      have HE : Hid (look xs nm = none) := e
      clear e hkn
      go_wp2
      refine bodyPost_ret (v := .tuple #[.agg #[.string ⟨#[]⟩, .string ⟨#[]⟩], .bool false]) (by simp [results, Try.results10, go_sem, c0, c1]) rfl ⟨by rw [HE.out]; rfl, ?_⟩
      exact (hb.setCell (Nat.le_refl _) _).setCell (Nat.le_refl _) _
end Go.Proofs.Qxb6609009a
