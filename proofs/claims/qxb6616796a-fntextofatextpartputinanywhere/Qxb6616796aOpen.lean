/-
  THE ARGUMENT THAT CAME IN, OPENED: from its reading as data to what the walks are told of it.
-/
import Derived.Test.Qxb6616796aProg
import Derived.Test.Qxb6616796aMem
import Derived.Deep.Slices
import Derived.Deep.Fields23
import Derived.ChangeArms
import Derived.DataReads
namespace Go.Proofs.Qxb6616796a
open Go.RowKit Go.ChangeShapes Go.WideShapes Go.Deep

section
variable {H : Type} {enc : TypeId × Value → H} {w : World} {base : Nat} {spare : Nat → Bool} {held : Bool}

theorem cells5 : Try.prog.cellsOf 5 = 1 := by kernel_rfl
theorem cells4 : Try.prog.cellsOf 4 = 1 := by kernel_rfl
theorem cells53 : Try.prog.cellsOf 53 = 9 := by kernel_rfl
theorem cells9 : Try.prog.cellsOf 9 = 1 := by kernel_rfl
theorem cells28 : Try.prog.cellsOf 28 = 1 := by kernel_rfl
theorem cells51 : Try.prog.cellsOf 51 = 1 := by kernel_rfl

theorem bytes_of {fuel : Nat} {c : Value} {x : DataW H × List MemPlace} (h : DataW.trod enc Try.prog w base spare held fuel 28 [c] = some x) : ∃ a n k, c = .slice a n k ∧ BytesAt w a n k := by
  rcases open_ints Try.underlying28 Try.underlying5 cells5 h with ⟨h1, _⟩ | ⟨a, len, cap, zs, h1, _, hl, hm, hz, _, hc, _⟩
  · simp at h1
    exact ⟨none, 0, 0, h1, .inl ⟨rfl, rfl, rfl⟩⟩
  · simp at h1
    refine ⟨some a, len, cap, h1, .inr ⟨a, rfl, hl, fun j hj => ⟨_, hc j ?_⟩⟩⟩
    rw [hz]; split <;> omega

theorem appr_of {fuel : Nat} {c : Value} {x : DataW H × List MemPlace} (h : DataW.trod enc Try.prog w base spare held fuel 51 [c] = some x) : ∃ q, c = .pointer q ∧ ApprAt w q := by
  rcases open_ptr_fields3 Try.underlying51 Try.underlying56 (by kernel_rfl) (by kernel_rfl) h with ⟨h1, _⟩ | ⟨b, o, n, v0, v1, v2, y0, y1, y2, h1, _, _, c0, c1, c2, t0, t1, t2⟩
  · simp at h1
    exact ⟨none, h1, .inl rfl⟩
  · simp at h1
    obtain ⟨s0, e0, _, z0⟩ := DataW.trod_string Try.underlying9 t0
    obtain ⟨s2, e2, _, z2⟩ := DataW.trod_string Try.underlying9 t2
    simp at e0 e2
    subst e0 e2
    rcases DataW.trod_pointer Try.underlying54 t1 with ⟨e1, _⟩ | ⟨a, cs', y, m, _, e1, _, hcs, ty⟩
    · simp at e1
      subst e1
      exact ⟨_, h1, .inr ⟨b, o, s0, s2, none, rfl, c0, c1, c2, z0, z2, .inl rfl⟩⟩
    · simp at e1
      subst e1
      obtain ⟨v, ev, _⟩ := DataW.trod_bool Try.underlying4 ty
      subst ev
      rw [cells4] at hcs
      have hcell := cell_of_cells?_one hcs
      obtain ⟨qb, qo, qs⟩ := a
      have hsp : qs = none := by simpa using World.cell?_spot hcell
      subst hsp
      exact ⟨_, h1, .inr ⟨b, o, s0, s2, some ⟨qb, qo, none⟩, rfl, c0, c1, c2, z0, z2, .inr ⟨qb, qo, v, rfl, hcell⟩⟩⟩

theorem add_none' (b o k : Nat) : (⟨b, o, none⟩ : Addr).add k = ⟨b, o + k, none⟩ := by unfold Addr.add; split <;> simp_all

theorem nine {α : Type} {l : List α} (h : l.length = 9) : ∃ a b c d e f g i j, l = [a, b, c, d, e, f, g, i, j] := by
  match l, h with
  | [a, b, c, d, e, f, g, i, j], _ => exact ⟨a, b, c, d, e, f, g, i, j, rfl⟩

theorem part_of {fuel : Nat} {cs : List Value} {x : DataW H × List MemPlace} {b o : Nat} (h : DataW.trod enc Try.prog w base spare held fuel 53 cs = some x) (hc : ∀ i, i < 9 → w.cell? ⟨b, o + i, none⟩ = cs[i]?) : ∃ p, PartAt w b o p := by
  obtain ⟨xs, n, _, _, hl, hxl, hf⟩ := DataW.trod_struct Try.underlying53 h
  rw [cells53] at hl
  obtain ⟨v0, v1, v2, v3, v4, v5, v6, v7, v8, rfl⟩ := nine hl
  obtain ⟨y0, y1, y2, y3, y4, y5, y6, y7, y8, rfl⟩ := nine (by simpa using hxl : xs.length = 9)
  have f0 := hf 0 _ rfl
  have f1 := hf 1 _ rfl
  have f2 := hf 2 _ rfl
  have f3 := hf 3 _ rfl
  have f4 := hf 4 _ rfl
  have f5 := hf 5 _ rfl
  have f6 := hf 6 _ rfl
  have f7 := hf 7 _ rfl
  have f8 := hf 8 _ rfl
  simp [cells9, cells28, cells51] at f0 f1 f2 f3 f4 f5 f6 f7 f8
  obtain ⟨s0, e0, _, z0⟩ := DataW.trod_string Try.underlying9 f0
  obtain ⟨s1, e1, _, z1⟩ := DataW.trod_string Try.underlying9 f1
  obtain ⟨s2, e2, _, z2⟩ := DataW.trod_string Try.underlying9 f2
  obtain ⟨s3, e3, _, z3⟩ := DataW.trod_string Try.underlying9 f3
  obtain ⟨s4, e4, _, z4⟩ := DataW.trod_string Try.underlying9 f4
  obtain ⟨s7, e7, _, z7⟩ := DataW.trod_string Try.underlying9 f7
  obtain ⟨a5, n5, k5, e5, b5⟩ := bytes_of f5
  obtain ⟨a6, n6, k6, e6, b6⟩ := bytes_of f6
  obtain ⟨q, e8, b8⟩ := appr_of f8
  simp at e0 e1 e2 e3 e4 e7
  subst e0 e1 e2 e3 e4 e5 e6 e7 e8
  exact ⟨⟨s0, s1, s2, s3, s4, a5, n5, k5, a6, n6, k6, s7, q⟩, hc 0 (by omega), hc 1 (by omega), hc 2 (by omega), hc 3 (by omega), hc 4 (by omega), hc 5 (by omega), hc 6 (by omega), hc 7 (by omega), hc 8 (by omega), z0, z1, z2, z3, z4, z7, b5, b6, b8⟩

theorem parts_of {fuel : Nat} {a : Option Addr} {n cap : Nat} {x : DataW H × List MemPlace} (h : DataW.trod enc Try.prog w base spare held fuel 22 [.slice a n cap] = some x) : n ≤ cap ∧ cap ≤ maxLen ∧ ∃ ps, PartsAt w a n ps := by
  rcases open_slice Try.underlying22 h with ⟨h1, _⟩ | ⟨ad, len, cp, m, k, D, Pl, h1, _, hl, hm, hmm, _, hx⟩
  · simp at h1
    obtain ⟨rfl, rfl, rfl⟩ := h1
    exact ⟨Nat.le_refl _, Nat.zero_le _, fun _ => ⟨⟨#[]⟩, ⟨#[]⟩, ⟨#[]⟩, ⟨#[]⟩, ⟨#[]⟩, none, 0, 0, none, 0, 0, ⟨#[]⟩, none⟩, .inl rfl⟩
  · simp at h1
    obtain ⟨rfl, rfl, rfl⟩ := h1
    refine ⟨hl, hm, ?_⟩
    rw [cells53] at hx
    by_cases h0 : n = 0
    · exact ⟨fun _ => ⟨⟨#[]⟩, ⟨#[]⟩, ⟨#[]⟩, ⟨#[]⟩, ⟨#[]⟩, none, 0, 0, none, 0, 0, ⟨#[]⟩, none⟩, .inl h0⟩
    · have hnm : n ≤ m := by rw [hmm]; split <;> omega
      obtain ⟨b, o, sp⟩ := ad
      have hsp : sp = none := by
        obtain ⟨cs', hc, _⟩ := hx 0 (by omega)
        obtain ⟨_, hl9, h3⟩ := World.cells?_some hc
        have h4 := h3 0 (by omega)
        rw [List.getElem?_eq_getElem (by omega)] at h4
        simpa [Addr.add] using World.cell?_spot h4
      subst hsp
      have each : ∀ j, j < n → ∃ p, PartAt w b (o + j * 9) p := by
        intro j hj
        obtain ⟨cs', hc, ht⟩ := hx j (by omega)
        refine part_of ht (fun i hi => ?_)
        have h3 := (World.cells?_some hc).2.2 i hi
        rw [add_none', add_none'] at h3
        exact h3
      obtain ⟨f, hf⟩ := @choose_lt LP ⟨⟨⟨#[]⟩, ⟨#[]⟩, ⟨#[]⟩, ⟨#[]⟩, ⟨#[]⟩, none, 0, 0, none, 0, 0, ⟨#[]⟩, none⟩⟩ n _ each
      exact ⟨f, .inr ⟨b, o, rfl, hf⟩⟩
end
end Go.Proofs.Qxb6616796a
