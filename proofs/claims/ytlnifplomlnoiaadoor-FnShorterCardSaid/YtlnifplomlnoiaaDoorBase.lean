/- Words of our own for memory: a slice that reads as a list of bytes; bytes as values; carrying both over draws, new blocks, and calls that leave old blocks alone. No condition. -/
import Derived.WalkKit
import Derived.WalkSpells
import Derived.Deep.LoopGhost
import Derived.Deep.AppendLies
import Derived.Maps.AppendAt
import Derived.BigQuiet
import Derived.Deep.QuietTactic
import Derived.Lib.Hide
namespace Go.Proofs.YtlnifplomlnoiaaDoor
open Go.RowKit

/-- A byte as the model holds it. -/
def bval (b : UInt8) : Value := .int .u8 (b.toNat : Int)
def bvals (l : List UInt8) : List Value := l.map bval

theorem bvals_length (l : List UInt8) : (bvals l).length = l.length := by simp [bvals]
theorem bvals_get {l : List UInt8} {i : Nat} (h : i < l.length) : (bvals l)[i]? = some (.int .u8 ((l[i]).toNat : Int)) := by
  simp [bvals, bval, List.getElem?_eq_getElem h]
theorem bvals_get? {l : List UInt8} {i : Nat} {x : UInt8} (h : l[i]? = some x) : (bvals l)[i]? = some (.int .u8 (x.toNat : Int)) := by
  simp [bvals, bval, h]
theorem bvals_append (l m : List UInt8) : bvals (l ++ m) = bvals l ++ bvals m := by simp [bvals]
theorem bvals_one {l : List UInt8} : ∀ u ∈ bvals l, u.oneCell' = true := by
  intro u hu
  simp only [bvals, List.mem_map] at hu
  obtain ⟨b, _, rfl⟩ := hu
  rfl

/-- The slice of address A and length n holds the cells xs, all in one block below B. -/
def Rd (w : World) (B : Nat) (A : Option Addr) (n : Nat) (xs : List Value) : Prop :=
  xs.length = n ∧ (0 < n → ∃ g o, A = some ⟨g, o, none⟩ ∧ g < B ∧ ∀ j u, xs[j]? = some u → w.cell? ⟨g, o + j, none⟩ = some u)

section
variable {w w' : World} {B B' n : Nat} {A : Option Addr} {xs : List Value}
theorem Rd.nil : Rd w B A 0 [] := ⟨rfl, fun h => absurd h (by omega)⟩
theorem Rd.keep (h : Rd w B A n xs) (hk : ∀ p : Addr, p.block < B → w'.cell? p = w.cell? p) : Rd w' B A n xs :=
  ⟨h.1, fun hn => by
    obtain ⟨g, o, e, hb, hc⟩ := h.2 hn
    exact ⟨g, o, e, hb, fun j u hu => (hk ⟨g, o + j, none⟩ hb).trans (hc j u hu)⟩⟩
theorem Rd.more (h : Rd w B A n xs) (hB : B ≤ B') : Rd w B' A n xs :=
  ⟨h.1, fun hn => by
    obtain ⟨g, o, e, hb, hc⟩ := h.2 hn
    exact ⟨g, o, e, by omega, hc⟩⟩
theorem Rd.below (h : Rd w B A n xs) (hb : Below B w w') : Rd w' B A n xs := h.keep fun _ hp => hb.cell hp
theorem Rd.drewN (h : Rd w B A n xs) (k : Nat) : Rd (w.drewN k) B A n xs := h
theorem Rd.alloc (h : Rd w B A n xs) (hB : B ≤ w.heap.size) (o : Obj) : Rd (w.alloc o) B A n xs :=
  h.keep fun p hp => World.cell?_alloc_lt w o p (by omega)
theorem Rd.at_ {k : Nat} (h : Rd w B A n xs) (hk : k < n) : ∃ g o, A = some ⟨g, o, none⟩ ∧ g < B ∧ ∀ j u, xs[j]? = some u → w.cell? ⟨g, o + j, none⟩ = some u :=
  h.2 (by omega)
theorem Rd.of_own {base : Nat} {e : TypeId} {c : Nat} (h : w.ownsRow base e 1 (.slice A n c) n xs) : Rd w w.heap.size A n xs := by
  refine ⟨by have := h.1; omega, fun hn => ?_⟩
  rcases h.2 with ⟨_, h0⟩ | ⟨g, cap, cur, hv, _, hh, _⟩
  · omega
  · injection hv with hA
    subst hA
    refine ⟨g, 0, rfl, (Array.getElem?_eq_some_iff.1 hh).1, fun j u hu => ?_⟩
    have := h.cells (g := g) rfl j u hu
    have e : (⟨g, 0, none⟩ : Addr).add j = ⟨g, 0 + j, none⟩ := by unfold Addr.add; split <;> simp_all
    rwa [e] at this
/-- An owned slice, whatever its form: its address, its capacity. -/
theorem own_form {base : Nat} {e : TypeId} {v : Value} (h : w.ownsRow base e 1 v n xs) : ∃ A c, v = .slice A n c ∧ Rd w w.heap.size A n xs := by
  have h' := h
  rcases h.2 with ⟨rfl, rfl⟩ | ⟨g, cap, cur, rfl, _⟩
  · exact ⟨none, 0, rfl, Rd.of_own h'⟩
  · exact ⟨_, cap, rfl, Rd.of_own h'⟩
end

theorem below_drewN {B : Nat} {a w : World} (h : Below B a w) (n : Nat) : Below B a (w.drewN n) := ⟨h.os, h.tape, h.output, h.size, h.block⟩

end Go.Proofs.YtlnifplomlnoiaaDoor
