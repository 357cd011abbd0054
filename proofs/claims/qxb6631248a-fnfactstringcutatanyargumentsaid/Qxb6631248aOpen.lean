/-
  THE TERMS THAT CAME IN, FROM THEIR READING.
-/
import Derived.Test.Qxb6631248aReads
import Derived.Deep.Slices
namespace Go.Proofs.Qxb6631248a
open Go.RowKit Go.ChangeShapes Go.WideShapes
open Plain

theorem cells38 : Try.prog.cellsOf 38 = 2 := by kernel_rfl
theorem cells9 : Try.prog.cellsOf 9 = 1 := by kernel_rfl
theorem cells22 : Try.prog.cellsOf 22 = 1 := by kernel_rfl
theorem under38 : ∃ fs : Array Field, Try.prog.underlying 38 = some (.struct fs) ∧ fs.toList.map (fun f => (f.type, f.offset)) = [(9, 0), (22, 1)] := ⟨_, Try.underlying38, rfl⟩

theorem spot_none {w : World} {a : Addr} {v : Value} (h : w.cell? a = some v) : a = ⟨a.block, a.off, none⟩ := by
  obtain ⟨b, off, sp⟩ := a
  unfold World.cell? at h
  split at h
  · split at h
    · cases h
    · rename_i hs
      simp at hs
      rw [hs]
  · cases h

theorem add_none {a : Addr} (h : a.spot = none) (j : Nat) : a.add j = ⟨a.block, a.off + j, none⟩ := by
  obtain ⟨b, off, sp⟩ := a
  unfold Addr.add
  split
  · rename_i hj
    subst hj
    simp only at h
    subst h
    rfl
  · rfl
theorem listed {n : Nat} (q : Nat → ByteArray × Option (List (Tm n))) (len : Nat) : ∃ l : List (Tm (n + 1)), l.length = len ∧ ∀ i, (hi : i < l.length) → nm l[i] = (q i).1 ∧ ar l[i] = (q i).2 := by
  obtain ⟨q', hq'⟩ : ∃ q' : Nat → Tm (n + 1), ∀ i, nm (q' i) = (q i).1 ∧ ar (q' i) = (q i).2 := ⟨q, fun i => ⟨rfl, rfl⟩⟩
  refine ⟨(List.range len).map q', by simp, fun i hi => ?_⟩
  have : ((List.range len).map q')[i] = q' i := by simp
  rw [this]
  exact hq' i

section
variable {H : Type} {enc : TypeId × Value → H} {w : World} {base : Nat} {spare : Nat → Bool} {held : Bool}

theorem open_term {n : Nat} {a : Addr} {i : Nat} {y : DataW H × List MemPlace} (h : (w.cells? base (a.add (i * Try.prog.cellsOf 38)) (Try.prog.cellsOf 38)).bind (DataW.trod enc Try.prog w base spare held n 38) = some y) :
    ∃ (s : ByteArray) (u : Value) (x : DataW H × List MemPlace), w.cell? (a.add (i * 2)) = some (.string s) ∧ w.cell? (a.add (i * 2 + 1)) = some u ∧ s.size ≤ maxLen ∧ DataW.trod enc Try.prog w base spare held n 22 [u] = some x := by
  rw [cells38] at h
  obtain ⟨cs', h1, h2⟩ := Option.bind_eq_some_iff.1 h
  obtain ⟨_, hlen, hcell⟩ := World.cells?_some h1
  obtain ⟨fs, hu, hfs⟩ := under38
  obtain ⟨xs, m, rfl, hxy, hcl, hxl, hf⟩ := DataW.trod_struct hu h2
  match fs, hfs with
  | ⟨[f0, f1]⟩, hfs =>
    simp only [List.map_cons, List.map_nil, List.cons.injEq, Prod.mk.injEq, and_true] at hfs
    obtain ⟨⟨t0, o0⟩, t1, o1⟩ := hfs
    match xs, hxl, cs', hlen with
    | [y0, y1], _, [v0, v1], _ =>
      have g0 := hf 0 f0 rfl
      have g1 := hf 1 f1 rfl
      simp [t0, o0, t1, o1, cells9, cells22] at g0 g1
      obtain ⟨s, hs, _, hsl⟩ := DataW.trod_string Try.underlying9 g0
      simp only [List.cons.injEq, and_true] at hs
      subst hs
      have e0 := hcell 0 (by omega)
      have e1 := hcell 1 (by omega)
      rw [Deep.add_add] at e0 e1
      exact ⟨s, v1, y1, by simpa using e0, by simpa using e1, hsl, DataW.trod_le (Nat.le_succ _) g1⟩

theorem irel_of : ∀ (n : Nat) (v : Value) (x : DataW H × List MemPlace), DataW.trod enc Try.prog w base spare held n 22 [v] = some x → ∃ o : Option (List (Tm n)), IRel w n v o
  | 0, v, x, h => by simp [DataW.trod] at h
  | n + 1, v, x, h => by
    rcases DataW.trod_slice Try.underlying22 h with ⟨h0, _⟩ | ⟨a, len, cap, elems, rest, m, hm, hcs, _, hb, hl, hmx, hlen, hel, _, _⟩
    · simp only [List.cons.injEq, and_true] at h0
      exact ⟨none, .inl ⟨rfl, h0⟩⟩
    · obtain rfl : n = m := by omega
      simp only [List.cons.injEq, and_true] at hcs
      subst hcs
      have each : ∀ i, i < len → ∃ q : ByteArray × Option (List (Tm n)), q.1.size ≤ maxLen ∧ w.cell? (a.add (i * 2)) = some (.string q.1) ∧ ∃ u, w.cell? (a.add (i * 2 + 1)) = some u ∧ IRel w n u q.2 := by
        intro i hi
        have h1 := hel i hi
        rw [List.getElem?_eq_getElem (by omega)] at h1
        obtain ⟨s, u, x', q0, q1, hs, hu⟩ := open_term h1
        obtain ⟨o, ho⟩ := irel_of n u x' hu
        exact ⟨(s, o), hs, q0, u, q1, ho⟩
      obtain ⟨q, hq⟩ := Deep.choose_lt each
      obtain ⟨l, hle, hlg⟩ : ∃ l : List (Tm (n + 1)), l.length = len ∧ ∀ i, (hi : i < l.length) → nm l[i] = (q i).1 ∧ ar l[i] = (q i).2 := listed q len
      refine ⟨some l, .inr ⟨a, a.block, a.off, cap, l, rfl, by rw [hle], by omega, ?_, ?_⟩⟩
      · intro hpos
        have := (hq 0 (by omega)).2.1
        simp [Addr.add] at this
        exact spot_none this
      · intro i hi
        have ha : a = ⟨a.block, a.off, none⟩ := by
          have := (hq 0 (by omega)).2.1
          simp [Addr.add] at this
          exact spot_none this
        have hadd : ∀ j, a.add j = ⟨a.block, a.off + j, none⟩ := fun j => add_none (by rw [ha]) j
        obtain ⟨r1, r2, u, r3, r4⟩ := hq i (by omega)
        rw [(hlg i hi).1, (hlg i hi).2]
        rw [hadd] at r2 r3
        exact ⟨r1, r2, u, r3, r4⟩
end
end Go.Proofs.Qxb6631248a
