/-
  THE BRANCHES AND THE REASONS AS THE ROW HANDS THEM IN, opened into what the walks ask.
-/
import Derived.Test.Qxb6614651aModsSizes
import Derived.Deep.Slices
import Derived.ProofKit
import Derived.OpenShut
namespace Go.Proofs.Qxb6614651aMods.sag
open Go.ChangeShapes Go.WideShapes Go.ChangeAt Go.RowKit Go.Deep
set_option linter.unusedVariables false

theorem cells34 : Trym.prog.cellsOf 34 = 6 := by kernel_rfl
theorem cells3 : Trym.prog.cellsOf 3 = 1 := by kernel_rfl
theorem cells9 : Trym.prog.cellsOf 9 = 1 := by kernel_rfl
theorem cells23 : Trym.prog.cellsOf 23 = 1 := by kernel_rfl
theorem cells5 : Trym.prog.cellsOf 5 = 1 := by kernel_rfl

section
variable {H : Type} {enc : TypeId × Value → H} {w : World} {fuel : Nat}

/-- a slice of bytes: nil, or bytes at an address -/
theorem open_bytes {v : Value} {x : DataW H × List MemPlace} (h : DataW.trod enc Trym.prog w 0 (fun _ => true) true fuel 23 [v] = some x) :
    ∃ (ao : Option Addr) (pl pc : Nat) (z : Nat → Int), v = .slice ao pl pc ∧ pl ≤ maxLen ∧ (ao = none → pl = 0 ∧ pc = 0) ∧ BytesAt w ao pl z := by
  rcases open_ints Trym.underlying23 Trym.underlying5 cells5 h with ⟨hcs, _⟩ | ⟨a, l, c, zs, hcs, _, hl, hm, hz, _, hcell, hwz⟩
  · simp at hcs
    exact ⟨none, 0, 0, fun _ => 0, hcs, Nat.zero_le _, fun _ => ⟨rfl, rfl⟩, fun h0 => absurd h0 (by omega)⟩
  · simp at hcs
    simp only [if_true] at hz
    refine ⟨some a, l, c, fun j => zs.getD j 0, hcs, by omega, (fun e => by cases e), fun h0 => ?_⟩
    obtain ⟨b, off, spot⟩ := a
    have hspot : spot = none := by simpa [Addr.add] using World.cell?_spot (hcell 0 (by omega))
    subst hspot
    exact ⟨b, off, rfl, fun j hj => by rw [← add_plain]; exact hcell j (by omega)⟩

/-- one branch -/
structure One where
  br : Int
  ac : ByteArray
  st : ByteArray
  at_ : Int
  le : ByteArray
  pa : Option Addr
  pl : Nat
  pc : Nat
  pz : Nat → Int
def one0 : One := ⟨0, ⟨#[]⟩, ⟨#[]⟩, 0, ⟨#[]⟩, none, 0, 0, fun _ => 0⟩

def OneAt (w : World) (a : Addr) (o : One) : Prop :=
  w.cell? a = some (.int .i64 o.br) ∧ w.cell? (a.add 1) = some (.string o.ac) ∧ w.cell? (a.add 2) = some (.slice o.pa o.pl o.pc) ∧ w.cell? (a.add 3) = some (.string o.st) ∧ w.cell? (a.add 4) = some (.int .i64 o.at_) ∧ w.cell? (a.add 5) = some (.string o.le) ∧
  BytesAt w o.pa o.pl o.pz ∧ (o.pa = none → o.pl = 0 ∧ o.pc = 0) ∧ o.pl ≤ maxLen ∧ o.ac.size ≤ maxLen ∧ o.st.size ≤ maxLen ∧ o.le.size ≤ maxLen

theorem open_one {a : Addr} {cs : List Value} {x : DataW H × List MemPlace} (h1 : w.cells? 0 a 6 = some cs) (h2 : DataW.trod enc Trym.prog w 0 (fun _ => true) true fuel 34 cs = some x) : ∃ o, OneAt w a o := by
  obtain ⟨_, hlen, hcell⟩ := World.cells?_some h1
  obtain ⟨xs, k, hk, hxy, _, hxl, hf⟩ := DataW.trod_struct Trym.underlying34 h2
  match xs, hxl, cs, hlen with
  | [y0, y1, y2, y3, y4, y5], _, [v0, v1, v2, v3, v4, v5], _ =>
    have g0 := hf 0 _ rfl
    have g1 := hf 1 _ rfl
    have g2 := hf 2 _ rfl
    have g3 := hf 3 _ rfl
    have g4 := hf 4 _ rfl
    have g5 := hf 5 _ rfl
    simp [cells3, cells9, cells23] at g0 g1 g2 g3 g4 g5
    obtain ⟨n0, e0, _, _⟩ := DataW.trod_int Trym.underlying3 g0
    obtain ⟨n1, e1, _, s1⟩ := DataW.trod_string Trym.underlying9 g1
    obtain ⟨ao, pl, pc, z, e2, l2, nil2, b2⟩ := open_bytes g2
    obtain ⟨n3, e3, _, s3⟩ := DataW.trod_string Trym.underlying9 g3
    obtain ⟨n4, e4, _, _⟩ := DataW.trod_int Trym.underlying3 g4
    obtain ⟨n5, e5, _, s5⟩ := DataW.trod_string Trym.underlying9 g5
    simp at e0 e1 e3 e4 e5
    subst e0 e1 e2 e3 e4 e5
    have c0 := hcell 0 (by omega)
    have c1 := hcell 1 (by omega)
    have c2 := hcell 2 (by omega)
    have c3 := hcell 3 (by omega)
    have c4 := hcell 4 (by omega)
    have c5 := hcell 5 (by omega)
    simp at c0 c1 c2 c3 c4 c5
    exact ⟨⟨n0, n1, n3, n4, n5, ao, pl, pc, z⟩, by simpa [Addr.add] using c0, c1, c2, c3, c4, c5, b2, nil2, l2, s1, s3, s5⟩

/-- the slice of branches: nil, or what 'Came' says -/
theorem open_branches {ao : Option Addr} {n bc : Nat} {d : DataW H} {p : List MemPlace} (h : DataW.Trod enc Trym.prog w 0 (fun _ => true) true 22 (.slice ao n bc) d p) :
    ∃ B : Bs, Came w ao n B ∧ ∀ k, k < n → B.pa k = none → B.pl k = 0 ∧ B.pc k = 0 := by
  obtain ⟨fuel, hf⟩ := h
  rcases open_slice Trym.underlying22 hf with ⟨hcs, _⟩ | ⟨a, len, cap, m, k0, D, Pl, hcs, _, hl, hm, hmm, _, hx⟩
  · simp [Value.cells] at hcs
    obtain ⟨rfl, rfl, rfl⟩ := hcs
    exact ⟨⟨fun _ => 0, fun _ => ⟨#[]⟩, fun _ => ⟨#[]⟩, fun _ => 0, fun _ => ⟨#[]⟩, fun _ => none, fun _ => 0, fun _ => 0, fun _ _ => 0⟩, ⟨fun h => absurd h (by omega), Nat.zero_le _, fun k hk => absurd hk (by omega), fun k hk => absurd hk (by omega), fun k hk => absurd hk (by omega), fun k hk => absurd hk (by omega)⟩, fun k hk => absurd hk (by omega)⟩
  · simp [Value.cells] at hcs
    obtain ⟨rfl, rfl, rfl⟩ := hcs
    simp only [if_true] at hmm
    have each : ∀ i, i < n → ∃ o, OneAt w (a.add (i * 6)) o := by
      intro i hi
      obtain ⟨cs', h1, h2⟩ := hx i (by omega)
      rw [cells34] at h1
      exact open_one h1 h2
    have pick : ∃ q : Nat → One, ∀ i, i < n → OneAt w (a.add (i * 6)) (q i) := by
      exact ⟨fun i => if hi : i < n then (each i hi).choose else one0, fun i hi => by simp only [dif_pos hi]; exact (each i hi).choose_spec⟩
    obtain ⟨q, hq⟩ := pick
    refine ⟨⟨fun i => (q i).br, fun i => (q i).ac, fun i => (q i).st, fun i => (q i).at_, fun i => (q i).le, fun i => (q i).pa, fun i => (q i).pl, fun i => (q i).pc, fun i => (q i).pz⟩, ⟨fun h0 => ?_, by omega, ?_, ?_, ?_, ?_⟩, ?_⟩
    · obtain ⟨b, off, spot⟩ := a
      have hspot : spot = none := by simpa [Addr.add] using World.cell?_spot (hq 0 h0).1
      subst hspot
      refine ⟨b, off, rfl, ⟨fun k hk => ?_, fun k hk => ?_, fun k hk => ?_, fun k hk => ?_, fun k hk => ?_, fun k hk => ?_, fun k hk => (hq k hk).2.2.2.2.2.2.1⟩⟩
      · have := (hq k hk).1; rw [add_plain] at this; exact this
      · have := (hq k hk).2.1; rw [add_plain, add_plain] at this; exact this
      · have := (hq k hk).2.2.1; rw [add_plain, add_plain] at this; exact this
      · have := (hq k hk).2.2.2.1; rw [add_plain, add_plain] at this; exact this
      · have := (hq k hk).2.2.2.2.1; rw [add_plain, add_plain] at this; exact this
      · have := (hq k hk).2.2.2.2.2.1; rw [add_plain, add_plain] at this; exact this
    · exact fun k hk => (hq k hk).2.2.2.2.2.2.2.2.2.1
    · exact fun k hk => (hq k hk).2.2.2.2.2.2.2.2.1
    · exact fun k hk => (hq k hk).2.2.2.2.2.2.2.2.2.2.1
    · exact fun k hk => (hq k hk).2.2.2.2.2.2.2.2.2.2.2
    · exact fun k hk => (hq k hk).2.2.2.2.2.2.2.1

theorem open_reason {ao : Option Addr} {l c : Nat} {d : DataW H} {p : List MemPlace} (h : DataW.Trod enc Trym.prog w 0 (fun _ => true) true 23 (.slice ao l c) d p) :
    ∃ z : Nat → Int, l ≤ maxLen ∧ (ao = none → l = 0 ∧ c = 0) ∧ BytesAt w ao l z := by
  obtain ⟨fuel, hf⟩ := h
  obtain ⟨ao', pl, pc, z, e, h1, h2, h3⟩ := open_bytes (v := .slice ao l c) (by simpa [Value.cells] using hf)
  cases e
  exact ⟨z, h1, h2, h3⟩
end
end Go.Proofs.Qxb6614651aMods.sag
