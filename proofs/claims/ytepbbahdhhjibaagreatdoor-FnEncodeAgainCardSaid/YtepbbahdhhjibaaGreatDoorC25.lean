/- own text -/
import Derived.Test.YtepbbahdhhjibaaGreatDoorC24
namespace Go.Proofs.YtepbbahdhhjibaaGreatDoor
set_option linter.unusedSimpArgs false
set_option linter.unusedVariables false
set_option maxHeartbeats 200000
set_option maxRecDepth 512
set_option linter.unusedSectionVars false
open Go.RowKit
structure At2 (X : Px) (w : World) (v : Pv) (S : Nat -> Prop) (o : List UInt8) (tags : List ByteArray) (w1 : World) : Prop where
 ex : ∃ v', PSt X w v w1 v' /\ Pr X w1 v' false o tags /\ ∀ x, S x -> ¬ X.own v' x /\ x < w1.heap.size
theorem At2.step {X : Px} {w w1 w2 : World} {v v' : Pv} {S : Nat -> Prop} {o l : List UInt8} {tags : List ByteArray} (s : PSt X w v w1 v') (hS : ∀ x, S x -> ¬ X.own v' x /\ x < w1.heap.size) (k : Prints X w1 v' o tags l w2) : At2 X w v S (o ++ l) tags w2 /\ ∀ x, S x -> w2.heap[x]? = w1.heap[x]? := by
 obtain ⟨va', k1, k2⟩ := k
 exact ⟨⟨_, s.trans k1, k2, fun x hx => ⟨fun hh => (k1.nw x hh).elim (hS x hx).1 (fun h => by have := (hS x hx).2; omega), Nat.lt_of_lt_of_le (hS x hx).2 k1.fr.size⟩⟩, fun x hx => k1.fr.block x (hS x hx).2 (hS x hx).1⟩
theorem At2.call {X : Px} {w w1 : World} {v : Pv} {S : Nat -> Prop} {o l : List UInt8} {tags : List ByteArray} {f : Nat} {args : Array Value} {R : Ending -> Prop} (h : At2 X w v S o tags w1)
  (hc : ∀ v', Pr X w1 v' false o tags -> PSt X w v w1 v' -> Calls Tryz.prog f args w1 fun e w2 => R e /\ Prints X w1 v' o tags l w2) :
  Calls Tryz.prog f args w1 fun e w2 => R e /\ At2 X w v S (o ++ l) tags w2 /\ ∀ x, S x -> w2.heap[x]? = w1.heap[x]? := by
 obtain ⟨v', s, p, hS⟩ := h
 refine (hc v' p s).mono ?_
 rintro e w2 ⟨h1, h2⟩
 exact ⟨h1, At2.step s hS h2⟩
theorem At2.old {X : Px} {w w1 w2 : World} {v : Pv} {S : Nat -> Prop} {o : List UInt8} {tags : List ByteArray} (h : At2 X w v S o tags w1) (f : Old w1 w2) : At2 X w v S o tags w2 := by
 obtain ⟨v', s, p, hS⟩ := h
 exact ⟨v', s.old f, p.old f, fun x hx => ⟨(hS x hx).1, Nat.lt_of_lt_of_le (hS x hx).2 f.size⟩⟩
theorem At2.aside {X : Px} {w w1 w2 : World} {v : Pv} {S S' : Nat -> Prop} {o : List UInt8} {tags : List ByteArray} (h : At2 X w v S o tags w1) (f : Old w1 w2) (hS' : ∀ x, S' x -> S x \/ w1.heap.size <= x /\ x < w2.heap.size) : At2 X w v S' o tags w2 := by
 obtain ⟨v', s, p, hS⟩ := h
 refine ⟨v', s.old f, p.old f, fun x hx => ?_⟩
 rcases hS' x hx with h | h
 ·exact ⟨(hS x h).1, Nat.lt_of_lt_of_le (hS x h).2 f.size⟩
 ·exact ⟨fun hh => by have := p.lt x hh; omega, h.2⟩
theorem At2.start {X : Px} {w : World} {v : Pv} {S : Nat -> Prop} {o : List UInt8} {tags : List ByteArray} (h : Pr X w v false o tags) (hS : ∀ x, S x -> ¬ X.own v x /\ x < w.heap.size) : At2 X w v S o tags w := ⟨v, PSt.refl X w v, h, hS⟩
section
variable {X : Px} {w w1 : World} {v : Pv} {S : Nat -> Prop} {o : List UInt8} {tags : List ByteArray} (h : At2 X w v S o tags w1)
include h
theorem At2.byte (c : UInt8) (i : Int) (hi : i = c.toNat) (hl : o.length <= 1099511627776) : Calls Tryz.prog 61 #[.pointer (some ⟨X.P, 0, none⟩), .int .u8 i] w1 fun e w2 => e = .returned .nilIface /\ At2 X w v S (o ++ [c]) tags w2 /\ ∀ x, S x -> w2.heap[x]? = w1.heap[x]? := by
 subst hi
 exact h.call (R := fun e => e = .returned .nilIface) (fun v' p _ => pbyte X v' o tags w1 p c hl)
theorem At2.str (s : ByteArray) (hl : o.length + s.size <= 1099511627776) : Calls Tryz.prog 56 #[.pointer (some ⟨X.P, 0, none⟩), .string s] w1 fun e w2 => (∃ q, e = .returned (.tuple #[q, .nilIface])) /\ At2 X w v S (o ++ s.data.toList) tags w2 /\ ∀ x, S x -> w2.heap[x]? = w1.heap[x]? :=
 h.call (R := fun e => ∃ q, e = .returned (.tuple #[q, .nilIface])) (fun v' p _ => (pstr X v' o tags w1 p s hl).mono (fun e w2 h => ⟨⟨_, h.1⟩, h.2⟩))
theorem At2.strl (l : List UInt8) (hl : o.length + l.length <= 1099511627776) : Calls Tryz.prog 56 #[.pointer (some ⟨X.P, 0, none⟩), .string ⟨l.toArray⟩] w1 fun e w2 => (∃ q, e = .returned (.tuple #[q, .nilIface])) /\ At2 X w v S (o ++ l) tags w2 /\ ∀ x, S x -> w2.heap[x]? = w1.heap[x]? :=
 h.str ⟨l.toArray⟩ (by rw [Lib.size_eq]; exact hl)
theorem At2.wr (l : List UInt8) (g f m cap : Nat) (hm : m = l.length) (hmc : m <= cap) (hL : Lies w1 g f l) (hg : S g) (hl : o.length + m <= 1099511627776) : Calls Tryz.prog 57 #[.pointer (some ⟨X.P, 0, none⟩), .slice (some ⟨g, f, none⟩) m cap] w1 fun e w2 => (∃ q, e = .returned (.tuple #[q, .nilIface])) /\ At2 X w v S (o ++ l) tags w2 /\ ∀ x, S x -> w2.heap[x]? = w1.heap[x]? := by
 obtain ⟨v', s, p, hS⟩ := h
 refine (pwrite X v' o tags w1 p l g f m cap hm hmc hL (fun hh => (hS g hg).1 (.inr (.inl hh))) (hS g hg).2 hl).mono ?_
 rintro e w2 ⟨rfl, k⟩
 exact ⟨⟨_, rfl⟩, At2.step s hS k⟩
theorem At2.indent (d : Int) : Calls Tryz.prog 96 #[.pointer (some ⟨X.P, 0, none⟩), .int .i64 d] w1 fun e w2 => e = .returned (.tuple #[]) /\ w2 = w1 := by
 obtain ⟨v', s, p, hS⟩ := h
 exact pindent X v' o tags w1 p d
theorem At2.cached : Calls Tryz.prog 58 #[.pointer (some ⟨X.P, 0, none⟩)] w1 fun e w2 => e = .returned .nilIface /\ At2 X w v S (o ++ []) tags w2 /\ ∀ x, S x -> w2.heap[x]? = w1.heap[x]? :=
 h.call (R := fun e => e = .returned .nilIface) (fun v' p _ => pcached X v' o tags w1 p)
theorem At2.esc (rs : List Nat) (hrs : ∀ r ∈ rs, isCh r = true) (hlen : (nb rs).length <= 1000000000) (hU : UT w) (h5 : ∀ x, X.own v x -> 5 <= x) (h5w : 5 <= w.heap.size) (hl : o.length + 6 * (nb rs).length + 10 <= 1099511627776) :
  Calls Tryz.prog 97 #[.pointer (some ⟨X.P, 0, none⟩), .string ⟨(nb rs).toArray⟩] w1 fun e w2 => e = .returned (.tuple #[]) /\ At2 X w v S (o ++ escL true rs) tags w2 /\ ∀ x, S x -> w2.heap[x]? = w1.heap[x]? :=
 h.call (R := fun e => e = .returned (.tuple #[])) (fun v' p s => pescape X v' o tags rs w1 hrs hlen (hU.fr s.fr (fun h => absurd (h5 _ h) (by omega)) (fun h => absurd (h5 _ h) (by omega))) (fun x hx => (s.nw x hx).elim (h5 x) (fun h => by omega)) (by have := s.fr.size; omega) p hl)
end
end Go.Proofs.YtepbbahdhhjibaaGreatDoor
