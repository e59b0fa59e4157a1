import Derived.Test.Qxb6609009aRows
import Derived.RangeFuncNested
import Derived.RangeFuncBound
import Derived.RangeFuncCalls
import Derived.RangeFuncLeaves
import Derived.RangeFuncBox
import Derived.Shelf.Abstract
import Derived.Shelf.RegionOpen
import Derived.WalkKit
import Derived.OwnWalkIn
import Derived.TacticsInMore
import Derived.LoopNIn
import Derived.LoopIn
import Derived.Maps.AppendAt
namespace Go.Proofs.Qxb6609009a
open Go.RowKit Go.Shelf
attribute [local go_sem] Oper.semAt_some

/-- the value that points to node b -/
def ptr (b : Nat) : Value := .pointer (some ⟨b, 0, none⟩)

/-- a chain of tags in memory: the blocks bs, each carrying the next as its Payload, from address p on, all below n₀ -/
def IsChain (n₀ : Nat) (W : World) : Option Addr → List Nat → Prop
  | p, [] => p = none
  | p, b :: bs => ∃ q : Option Addr, p = some ⟨b, 0, none⟩ ∧ b < n₀ ∧ W.cell? ⟨b, 5, none⟩ = some (.pointer q) ∧ IsChain n₀ W q bs

theorem IsChain.below {n₀ : Nat} {A B : World} (h : Below n₀ A B) : ∀ {p : Option Addr} {bs : List Nat}, IsChain n₀ A p bs → IsChain n₀ B p bs
  | _, [], hl => hl
  | _, _ :: _, ⟨q, hp, hb, hq, hr⟩ => ⟨q, hp, hb, (h.cell (p := ⟨_, 5, none⟩) hb).trans hq, IsChain.below h hr⟩

/-- how many links are to come from v on, read off the world, counting at most f -/
def chainLen (W : World) : Nat → Value → Nat
  | 0, _ => 0
  | f + 1, .pointer (some a) => match W.cell? ⟨a.block, 5, none⟩ with
    | some v => 1 + chainLen W f v
    | none => 1
  | _ + 1, _ => 0

theorem chainLen_eq {n₀ : Nat} {W : World} : ∀ (bs : List Nat) (f : Nat) (p : Option Addr), IsChain n₀ W p bs → bs.length ≤ f → chainLen W f (.pointer p) = bs.length
  | [], 0, _, _, _ => rfl
  | [], f + 1, p, h, _ => by obtain rfl : p = none := h; rfl
  | b :: bs, 0, _, _, hf => by simp at hf
  | b :: bs, f + 1, p, ⟨q, hp, hb, hq, hr⟩, hf => by
    subst hp
    have e := chainLen_eq bs f q hr (by simpa using hf)
    simp only [chainLen, hq, e, List.length_cons]
    omega

/-- the measure of the iterator's loop -/
def toCome (n Bt : Nat) (W : World) : Nat := chainLen W n ((W.cell? ⟨Bt, 0, none⟩).getD undef)

set_option maxRecDepth 100000 in
set_option maxHeartbeats 1000000 in
/-- Chain$1: it hands the links out in order, keeping its place in the captured variable's box Bt, which no round writes; the caller's invariant abides a store into that box. -/
theorem chain1_in (F : Fence) (n : Nat) (h20 : F.fn 20) (hro : F.round = none) (hn : 1 ≤ n) (l Bt n₀ : Nat) (p0 : Option Addr) (bs : List Nat) (J Jx : List Nat → World → Prop) (hn₀ : n₀ ≤ Bt)
    (hJt : ∀ pre W v, J pre W → J pre (W.setCell ⟨Bt, 0, none⟩ v))
    (hY : ∀ pre b W, J pre W → pre ++ [b] <+: bs → YieldAt F (n - 1) Try.prog l #[ptr b] W fun e W' =>
      (e = .returned (.bool true) ∧ J (pre ++ [b]) W' ∧ Below n₀ W W' ∧ (∀ v, Boxed W Bt 26 v → Boxed W' Bt 26 v)) ∨ (e = .returned (.bool false) ∧ Jx (pre ++ [b]) W'))
    (W : World) (hBt : Boxed W Bt 26 (.pointer p0)) (hL : IsChain n₀ W p0 bs) (h0 : J [] W) :
    CallsIn F n Try.prog 20 #[.func (.yield l) #[] #[], .pointer (some ⟨Bt, 0, none⟩)] W fun e W' => (∃ v, e = .returned v) ∧
      (J bs W' ∨ (∃ pre, pre <+: bs ∧ Jx pre W')) := by
  refine callsIn_of_wp Try.func20 rfl h20 ?_ hro
  simp only [Try.ntmps20, List.size_toArray, List.length_cons, List.length_nil, Nat.reduceAdd, Nat.reduceSub, Array.replicate_succ, Array.replicate_zero, List.push_toArray, List.append_toArray, List.nil_append, List.cons_append]
  gi_wp2
  gi_loopw [3] (fun _ wr => ∃ (pre rest : List Nat) (q : Option Addr), Boxed wr Bt 26 (.pointer q) ∧ bs = pre ++ rest ∧ IsChain n₀ wr q rest ∧ J pre wr)
    (fun _ wr => toCome bs.length Bt wr)
  case atStart => exact ⟨[], bs, p0, hBt, rfl, hL, h0⟩
  case round =>
    obtain ⟨pre, rest, q, hbx, hx, hl, hJs⟩ := hrel
    have hc := hbx.cell
    have hf := hbx.frozen
    cases rest with
    | nil =>
      obtain rfl : q = none := hl
      gi_wp2
      go_end0
      exact ⟨⟨_, rfl⟩, .inl (by rw [hx, List.append_nil]; exact hJs)⟩
    | cons b rest =>
      have hl' := hl
      obtain ⟨q', rfl, hb, hq, hr⟩ := hl
      obtain ⟨fn, tmps, assign, body, hy, hR⟩ := hY pre b wr hJs (by rw [hx]; exact ⟨rest, by simp⟩)
      dsimp only [ptr] at hy
      gi_wp2
      refine hR.mono ?_
      rintro e W3 (⟨rfl, hJ3, hk3, hb3⟩ | ⟨rfl, hJx3⟩)
      · have hbx3 := hb3 _ hbx
        have hc3 := hbx3.cell
        have hf3 := hbx3.frozen
        have hq3 : W3.cell? ⟨b, 5, none⟩ = some (.pointer q') := (hk3.cell (p := ⟨b, 5, none⟩) hb).trans hq
        have hk4 : Below n₀ wr (W3.setCell ⟨Bt, 0, none⟩ (.pointer q')) := hk3.setCell (p := ⟨Bt, 0, none⟩) hn₀ _
        have hbx4 := hbx3.set (.pointer q')
        gi_wp2
        go_roundw
        case rel => exact ⟨pre ++ [b], rest, q', hbx4, by simp [hx], hr.below hk4, hJt _ _ _ hJ3⟩
        case measure =>
          have hlen : pre.length + (b :: rest).length = bs.length := by rw [hx, List.length_append]
          simp only [List.length_cons] at hlen
          unfold toCome
          rw [hbx4.cell, hc]
          simp only [Option.getD_some]
          rw [chainLen_eq rest _ _ (hr.below hk4) (by omega), chainLen_eq (b :: rest) _ _ hl' (by simp; omega)]
          simp
      · gi_wp2
        refine bodyPost_ret (results_none rfl _ _ _) rfl ?_
        exact ⟨⟨_, rfl⟩, .inr ⟨pre ++ [b], ⟨rest, by simp [hx]⟩, hJx3⟩⟩

set_option maxHeartbeats 1000000 in
/-- t.Chain(): the receiver is boxed; the function value captures the box. -/
theorem chain_in (F : Fence) (n : Nat) (h19 : F.fn 19) (hro : F.round = none) (p0 : Option Addr) (w : World) :
    CallsIn F n Try.prog 19 #[.pointer p0] w fun e w' => e = .returned (.func (.func 20) #[] #[.pointer (some ⟨w.heap.size, 0, none⟩)]) ∧ w' = w.alloc (.cells #[.pointer p0] 26) := by
  refine callsIn_of_wp Try.func19 rfl h19 ?_ hro
  simp only [Try.ntmps19, List.size_toArray, List.length_cons, List.length_nil, Nat.reduceAdd, Nat.reduceSub, Array.replicate_succ, Array.replicate_zero, List.push_toArray, List.append_toArray, List.nil_append, List.cons_append]
  gi_wp2
  go_ret
  exact ⟨rfl, rfl⟩
end Go.Proofs.Qxb6609009a
