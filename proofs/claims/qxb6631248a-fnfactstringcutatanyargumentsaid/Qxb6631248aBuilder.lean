/-
  strings.Builder AT THIS PROGRAM: copyCheck (17), WriteString (14), WriteByte (16), String (15). 'Bld w b B l': the builder in block b holds the bytes l; its buffer's row lies among the blocks from B on.
  String goes by the shelf's contract, laid at this dump by the guide's tool ('lays169': that text is the tool's); the shelf's layings of the three others do not lie here (this dump's copyCheck has another closure: 'the structure names number 9, which no body of the closure names'), so they are walked anew over the library's laws.
-/
import Derived.Shelf.Strings.BuilderK
import Derived.Test.Qxb6631248aProg
import Derived.WalkKit
import Derived.WalkSpells
namespace Go.Proofs.Qxb6631248a
open Go.Shelf Go.RowKit

def lays169_ren : Go.Shelf.Ren := ⟨fun | 169 => 15 | n => n, fun | 70 => 39 | 9 => 9 | 0 => 0 | 72 => 41 | 37 => 32 | 127 => 48 | 3 => 3 | 5 => 5 | n => n, fun | n => n⟩
theorem lays169 : Go.Proofs.Lays.n169 Try.prog lays169_ren := {
  mixed := by kernel_rfl
  f169 := Try.func15.trans (congrArg some (by kernel_rfl))
  t0 := Try.underlying0
  a0 := Try.isAgg0
  z0 := Try.sizeOf0
  v0 := Try.zeroValue0
  t3 := Try.underlying3
  a3 := Try.isAgg3
  z3 := Try.sizeOf3
  v3 := Try.zeroValue3
  t9 := Try.underlying9
  a9 := Try.isAgg9
  z9 := Try.sizeOf9
  v9 := Try.zeroValue9
  t37 := Try.underlying32
  a37 := Try.isAgg32
  z37 := Try.sizeOf32
  v37 := Try.zeroValue32
  t70 := Try.underlying39
  a70 := Try.isAgg39
  z70 := Try.sizeOf39
  v70 := Try.zeroValue39
  t72 := Try.underlying41
  a72 := Try.isAgg41
  z72 := Try.sizeOf41
  v72 := Try.zeroValue41
  t127 := Try.underlying48
  a127 := Try.isAgg48
  z127 := Try.sizeOf48
  v127 := Try.zeroValue48 }
theorem extra169 : Builder.Extra Try.prog lays169_ren := {
  sizeBuilder := by kernel_rfl
  liesBuilder := by kernel_rfl
  t5 := Try.underlying5
  a5 := Try.isAgg5
  z5 := Try.sizeOf5
  v5 := Try.zeroValue5
  infoByte := by kernel_rfl
  cellsByte := by kernel_rfl
  sizeByte := by kernel_rfl
  neB5 := by decide }

/-- The builder in block b holds the bytes l; its buffer's row is one of the blocks from B on. -/
def Bld (w : World) (b B : Nat) (l : List UInt8) : Prop := Lib.IsBuilderF 41 5 B b (Lib.byteCells l) w
/-- All but the builder and the rows of bytes stands as it stood. -/
def Kept (b : Nat) (w w' : World) : Prop := Lib.OthersKept 5 (some b) w w'

theorem string_any (B b : Nat) (l : List UInt8) (w : World) (h : Bld w b B l) (hBw : B ≤ w.heap.size) :
    Calls Try.prog 15 #[.pointer (some ⟨b, 0, none⟩)] w fun e w' => e = .returned (.string ⟨l.toArray⟩) ∧ Below B w w' ∧ Kept b w w' :=
  (Any.Builder_String_any_k lays169 extra169 B b l w h hBw).mono fun _ _ ⟨he, _, hb, hk⟩ => ⟨he, hb, hk⟩

theorem size41 : (Try.prog.info? 41).map (·.size) = some 2 := by kernel_rfl
theorem lies41 : liesAt Try.prog Try.prog.depth 41 (2 / Try.prog.cellsOf 41) 0 41 1 = true := by kernel_rfl
theorem info5 : (Try.prog.info? 5).map (fun i => (i.zero, i.size, i.bytes)) = some (some (.int .u8 0), 1, 1) := by kernel_rfl

set_option maxHeartbeats 800000 in
theorem check_used (b : Nat) (w : World) (h0 : w.cell? ⟨b, 0, none⟩ = some (.pointer (some ⟨b, 0, none⟩))) :
    Calls Try.prog 17 #[.pointer (some ⟨b, 0, none⟩)] w fun e w' => e = .returned (.tuple #[]) ∧ w' = w := by
  obtain ⟨j, hj, _⟩ := Option.map_eq_some_iff.1 size41
  have hne := Lib.run_neq_ptr_same (P := Try.prog) w (a := ⟨b, 0, none⟩) Try.underlying39 hj
  go_enter Try.func17, Try.ntmps17
  go_wp2
  go_end0
  exact ⟨rfl, rfl⟩

/-- The builder's address as a raw pointer, and back: as it is. -/
theorem to_raw (b : Nat) (w : World) {j : TypeInfo} (hj : Try.prog.info? 41 = some j) (hjs : j.size = 2) (hsh : w.shape? b = some (41, 2)) :
    (convert 39 49 (.pointer (some ⟨b, 0, none⟩))).run Try.prog w = .ok (.pointer (some ⟨b, 0, none⟩)) w := by
  simp only [convert, run_underlying Try.underlying39, run_underlying Try.underlying49, Sem.run_bind, Result.andThen_ok]
  change Sem.run Try.prog (Bind.bind (underlying 39) _) w = _
  simp [run_underlying Try.underlying39, run_underlying Try.underlying49, Conv.seenAt, viewAt, cellsIn, hsh, sizeOf, typeInfo, hj, hjs]
theorem from_raw (b : Nat) (w : World) {j : TypeInfo} (hj : Try.prog.info? 41 = some j) (hsh : w.shape? b = some (41, 2)) :
    (convert 49 39 (.pointer (some ⟨b, 0, none⟩))).run Try.prog w = .ok (.pointer (some ⟨b, 0, none⟩)) w := by
  simp only [convert, run_underlying Try.underlying39, run_underlying Try.underlying49, Sem.run_bind, Result.andThen_ok]
  change Sem.run Try.prog (Bind.bind (underlying 49) _) w = _
  simp [run_underlying Try.underlying39, run_underlying Try.underlying49, Conv.seenAt, viewAt, hsh, variablesAt, lies41, sizeOf, typeInfo, hj]

set_option maxHeartbeats 800000 in
theorem check_fresh (b : Nat) (w : World) (h0 : w.cell? ⟨b, 0, none⟩ = some (.pointer none)) (hsh : w.shape? b = some (41, 2)) (hfz : w.frozen? ⟨b, 0, none⟩ = false) :
    Calls Try.prog 17 #[.pointer (some ⟨b, 0, none⟩)] w fun e w' => e = .returned (.tuple #[]) ∧ w' = w.setCell ⟨b, 0, none⟩ (.pointer (some ⟨b, 0, none⟩)) := by
  obtain ⟨j, hj, hjs⟩ := Option.map_eq_some_iff.1 size41
  have h1 := to_raw b w hj hjs hsh
  have h2 : ∀ args w, (callFunc 18 args).run Try.prog w = _ := run_callFunc_extern (P := Try.prog) Try.func18 (by kernel_rfl) (by kernel_rfl) (by kernel_rfl) (e := Extern.AbiNoEscape.same) (by kernel_rfl)
  have h3 := Lib.run_noEscape (P := Try.prog) w (.pointer (some ⟨b, 0, none⟩))
  have h4 := from_raw b w hj hsh
  go_enter Try.func17, Try.ntmps17
  go_wp2
  go_end0
  exact ⟨rfl, rfl⟩

/-- copyCheck, whatever the builder: behind it the builder is 'used'. -/
theorem check_any (B b : Nat) (bs : List Value) (w : World) (h : Lib.IsBuilderF 41 5 B b bs w) :
    Calls Try.prog 17 #[.pointer (some ⟨b, 0, none⟩)] w fun e w' => e = .returned (.tuple #[]) ∧ Lib.BuilderAtF 41 5 B b (.pointer (some ⟨b, 0, none⟩)) bs w' ∧ Below B w w' ∧ Kept b w w' := by
  rcases h with h | h
  · refine (check_fresh b w h.cell0 h.shape h.frozen0).mono ?_
    rintro e w' ⟨rfl, rfl⟩
    exact ⟨rfl, h.used _, (Below.refl B w).setCell (p := ⟨b, 0, none⟩) h.1 _, (Lib.OthersKept.refl _ _ w).setCell ⟨b, 0, none⟩ rfl _⟩
  · refine (check_used b w h.cell0).mono ?_
    rintro e w' ⟨rfl, rfl⟩
    exact ⟨rfl, h, Below.refl B _, Lib.OthersKept.refl _ _ _⟩

theorem lt_of_heap {w : World} {b : Nat} {o : Obj} (h : w.heap[b]? = some o) : b < w.heap.size := by
  rcases Nat.lt_or_ge b w.heap.size with h' | h'
  · exact h'
  · rw [Array.getElem?_eq_none h'] at h; cases h

set_option maxHeartbeats 800000 in
theorem writeString_any (B b : Nat) (l : List UInt8) (s : ByteArray) (w : World) (h : Bld w b B l) (hlen : l.length + s.size ≤ 140737488355328) (hBw : B ≤ w.heap.size) :
    Calls Try.prog 14 #[.pointer (some ⟨b, 0, none⟩), .string s] w fun e w' => e = .returned (.tuple #[.int .i64 s.size, .nilIface]) ∧ Bld w' b B (l ++ s.data.toList) ∧ Below B w w' ∧ Kept b w w' := by
  obtain ⟨i0, hi, hz0, hz1, hz2⟩ := info_parts info5
  go_enter Try.func14, Try.ntmps14
  go_wp2_with (go_at_call 17; refine (check_any B b _ _ h).mono ?_)
  rintro e w1 ⟨rfl, ⟨hB, v, hbk, hown, hne⟩, hb1, hk1⟩
  rw [Lib.byteCells_length] at hown
  have c1 : w1.cell? ⟨b, 1, none⟩ = some v := by rw [Lib.cell_of_heap hbk]; rfl
  go_wp2_with (at_builtin; refine Lib.wpList_append_own_stringF _ rfl _ _ 32 9 rfl B 5 i0 Try.underlying32 Try.underlying9 hi hz0 hz1 hz2 _ _ _ rfl hown s rfl ?c3 ?c4 ?c5 ?_)
  case c3 => unfold maxLen; omega
  case c4 => omega
  case c5 => have := hb1.size; omega
  intro v' w2 hown' hgrow _
  have hb2 : w2.heap[b]? = some (.cells #[.pointer (some ⟨b, 0, none⟩), v] 41 (0, 0)) := by
    rw [hgrow.block b (lt_of_heap hbk) (fun e => hne e.symm)]; exact hbk
  have d1 : w2.cell? ⟨b, 1, none⟩ = some v := by rw [Lib.cell_of_heap hb2]; rfl
  have f1 : w2.frozen? ⟨b, 1, none⟩ = false := Lib.frozen_of_heap hb2 1
  obtain ⟨ao, n', cap, rfl⟩ : ∃ ao n' cap, v' = .slice ao n' cap := by
    rcases hown'.2 with ⟨hv, _⟩ | ⟨g, cap, cur, fz, hv, _⟩
    · exact ⟨_, _, _, hv⟩
    · exact ⟨_, _, _, hv⟩
  go_wp2
  go_ret2
  refine ⟨rfl, .inr ?_, ?_, (hk1.grown hgrow (Lib.ownsRowF_kind hown)).setCell ⟨b, 1, none⟩ rfl _⟩
  · refine Lib.BuilderAtF.put hB hb2 ?_ (by decide)
    rw [Lib.byteCells_append, ← Lib.strCells_eq]
    simpa [Lib.strCells_length, Lib.byteCells_length] using hown'
  · exact (hb1.grown hgrow (by have := hb1.size; omega) (fun k hk => (hown.lt k hk).1)).setCell (p := ⟨b, 1, none⟩) hB _

set_option maxHeartbeats 800000 in
theorem writeByte_any (B b : Nat) (l : List UInt8) (c : UInt8) (w : World) (h : Bld w b B l) (hlen : l.length + 1 ≤ 140737488355328) (hBw : B ≤ w.heap.size) (n : Int) (hn : n = c.toNat) :
    Calls Try.prog 16 #[.pointer (some ⟨b, 0, none⟩), .int .u8 n] w fun e w' => e = .returned .nilIface ∧ Bld w' b B (l ++ [c]) ∧ Below B w w' ∧ Kept b w w' := by
  obtain ⟨i0, hi, hz0, hz1, hz2⟩ := info_parts info5
  have HN : Hid (n = c.toNat) := hn
  clear hn
  go_enter Try.func16, Try.ntmps16
  go_wp2_with (go_at_call 17; refine (check_any B b _ _ h).mono ?_)
  rintro e w1 ⟨rfl, ⟨hB, v, hbk, hown, hne⟩, hb1, hk1⟩
  rw [Lib.byteCells_length] at hown
  have c1 : w1.cell? ⟨b, 1, none⟩ = some v := by rw [Lib.cell_of_heap hbk]; rfl
  go_wp2_with (at_builtin; refine wpList_append_ownF _ rfl _ _ 32 rfl B 5 i0 (.int .u8 0) 1 1 Try.underlying32 hi hz0 hz1 hz2 rfl (by decide) _ _ _ rfl (hown.alloc _) ⟨w1.heap.size, 0, none⟩ 1 1 [.int .u8 n] rfl rfl ?c1 ?c2 ?c3 ?c4 ?c5 ?_)
  case c1 =>
    intro j u hj
    match j, hj with
    | 0, hj => simp at hj; subst hj; simp [Addr.add]
  case c2 => intro u hu; simp at hu; subst hu; rfl
  case c3 => unfold maxLen; omega
  case c4 => omega
  case c5 => have := hb1.size; simp; omega
  intro v' w2 hown' hgrow _
  have hlt := lt_of_heap hbk
  have hb2 : w2.heap[b]? = some (.cells #[.pointer (some ⟨b, 0, none⟩), v] 41 (0, 0)) := by
    rw [hgrow.block b (by simp; omega) (fun e => hne e.symm), Lib.alloc_old w1 _ b hlt]; exact hbk
  have d1 : w2.cell? ⟨b, 1, none⟩ = some v := by rw [Lib.cell_of_heap hb2]; rfl
  have f1 : w2.frozen? ⟨b, 1, none⟩ = false := Lib.frozen_of_heap hb2 1
  obtain ⟨ao, n', cap, rfl⟩ : ∃ ao n' cap, v' = .slice ao n' cap := by
    rcases hown'.2 with ⟨hv, _⟩ | ⟨g, cap, cur, fz, hv, _⟩
    · exact ⟨_, _, _, hv⟩
    · exact ⟨_, _, _, hv⟩
  go_wp2
  go_ret
  refine ⟨rfl, .inr ?_, ?_, ((hk1.alloc _).grown hgrow (Lib.ownsRowF_kind (hown.alloc _))).setCell ⟨b, 1, none⟩ rfl _⟩
  · refine Lib.BuilderAtF.put hB hb2 ?_ (by decide)
    rw [Lib.byteCells_append]
    have e1 : Lib.byteCells [c] = [.int .u8 n] := by rw [HN.out]; rfl
    rw [e1]
    simpa [Lib.byteCells_length] using hown'
  · exact ((hb1.alloc (by have := hb1.size; omega) _).grown hgrow (by have := hb1.size; simp; omega) (fun k hk => (hown.lt k hk).1)).setCell (p := ⟨b, 1, none⟩) hB _
end Go.Proofs.Qxb6631248a
