/-
  THE WALK OF FnDigitsConcat (function 4).
-/
import Derived.Test.Qxb6630472aLawA
import Derived.Deep.DeepCutAuto
namespace Go.Proofs.Qxb6630472a
open Go.RowKit
open Plain

/-- A slice of the call's own (or nil) whose elements are the bytes 'xs'. -/
def RowO (w : World) (sa : Option Addr) (xs : List Int) : Prop := (sa = none ∧ xs = []) ∨ ∃ b, sa = some ⟨b, 0, none⟩ ∧ Row w b 0 xs

theorem Row.later {w w' : World} {b off : Nat} {xs : List Int} (hb : Below w.heap.size w w') (h : Row w b off xs) : Row w' b off xs :=
  fun j hj => ⟨cell_later hb (h j hj).1, (h j hj).2⟩
theorem RowO.later {w w' : World} {sa : Option Addr} {xs : List Int} (hb : Below w.heap.size w w') (h : RowO w sa xs) : RowO w' sa xs := by
  rcases h with h | ⟨b, e, r⟩
  · exact .inl h
  · exact .inr ⟨b, e, r.later hb⟩
theorem RowO.cells {w : World} {sa : Option Addr} {xs : List Int} (h : RowO w sa xs) : ∀ ad, sa = some ad → ∀ j u, (xs.map (Value.int .u8))[j]? = some u → w.cell? (ad.add j) = some u := by
  rcases h with ⟨rfl, _⟩ | ⟨b, rfl, r⟩
  · intro ad h; cases h
  · intro ad e j u hu
    obtain rfl := Option.some.inj e
    obtain ⟨hj, rfl⟩ := List.getElem?_eq_some_iff.1 hu
    have := (r j (by simpa using hj)).1
    rw [Addr.add_lit]; simpa using this
theorem RowO.digits {w : World} {sa : Option Addr} {xs : List Int} (h : RowO w sa xs) (n cap : Nat) (hn : xs.length = n) (hb : n ≤ 1048576) :
    Calls Try.prog 6 #[.slice sa n cap] w fun e w' => e = .returned (.tuple #[.int .i64 (dN xs), .bool (dOk xs)]) ∧ w' = w := by
  rcases h with ⟨rfl, rfl⟩ | ⟨b, rfl, r⟩
  · obtain rfl : n = 0 := hn.symm
    exact digits_len none 0 cap w (.inl rfl) hb
  · exact digits_any b 0 cap n xs w r hn hb
theorem eq_false_of_ne_true {b : Bool} (h : ¬ b = true) : b = false := by cases b <;> simp_all
theorem RowO.some {w : World} {sa : Option Addr} {xs : List Int} (h : RowO w sa xs) (hl : 1 ≤ xs.length) : ∃ b, sa = .some ⟨b, 0, none⟩ ∧ Row w b 0 xs := by
  rcases h with ⟨_, rfl⟩ | h
  · simp at hl
  · exact h

/-- WHAT 'make' AND 'copy' LEAVE OF A ROW THAT CAME IN, laid ahead of the walk. -/
theorem copy_parts (x : Addr) (n : Nat) (xs : List Int) (hn : xs.length = n) (hlen : n ≤ 1048576) (hb : ∀ c ∈ xs, 0 ≤ c ∧ c ≤ 255) (w : World)
    (hcell : ∀ j v, (xs.map (Value.int .u8))[j]? = some v → w.cell? (x.add j) = some v) :
    ∃ (Z cs : List Value), (∀ wx : World, (Instr.makeSlice 22 (.int .i64 n) (.int .i64 n)).run Try.prog wx = .ok (.slice (some ⟨wx.heap.size, 0, none⟩) n n) (wx.alloc (.cells Z.toArray 5))) ∧
      Hid ((w.alloc (.cells Z.toArray 5)).heap[w.heap.size]? = some (.cells Z.toArray 5 (0, 0))) ∧ Hid (cs.length = Nat.min n n) ∧
      Hid (∀ j v, cs[j]? = some v → (w.alloc (.cells Z.toArray 5)).cell? (x.add j) = some v) ∧ Hid (0 + cs.length ≤ Z.length) ∧ Hid (∀ v ∈ cs, v.oneCell' = true) ∧
      Below w.heap.size w (w.alloc (.cells Z.toArray 5)) ∧
      Hid (∀ w2 : World, w2.heap[w.heap.size]? = some (.cells (splice Z 0 cs).toArray 5 (0, 0)) → Row w2 w.heap.size 0 xs) := by
  obtain ⟨Z, hZ, hmk⟩ := make_bytes n hlen
  have hbel : Below w.heap.size w (w.alloc (.cells Z.toArray 5)) := (Below.refl _ _).alloc (Nat.le_refl _) _
  refine ⟨Z, xs.map (Value.int .u8), hmk, heap_alloc_new w _, ?_, fun j v h => cell_later hbel (hcell j v h), ?_, ints_oneCell _ _, hbel, fun w2 h => row_of_splice (by rw [hZ, hn]) hb h⟩
  · show (xs.map (Value.int .u8)).length = _; simp [hn]
  · show 0 + (xs.map (Value.int .u8)).length ≤ _; simp [hn, hZ]

set_option maxRecDepth 100000 in
set_option maxHeartbeats 3000000 in
theorem law_b_in (ao bo : Option Addr) (la ca lb cb : Nat) (xs ys : List Int) (w : World) (hna : Hid (xs.length = la)) (hnb : Hid (ys.length = lb)) (hla : la ≤ 65536) (hlb : lb ≤ 65536)
    (hba : Hid (∀ n ∈ xs, 0 ≤ n ∧ n ≤ 255)) (hbb : Hid (∀ n ∈ ys, 0 ≤ n ∧ n ≤ 255)) (hao : Hid (ao = none → la = 0 ∧ ca = 0)) (hbo : Hid (bo = none → lb = 0 ∧ cb = 0))
    (hca : Hid (∀ x, ao = some x → ∀ j v, (xs.map (Value.int .u8))[j]? = some v → w.cell? (x.add j) = some v))
    (hcb : Hid (∀ x, bo = some x → ∀ j v, (ys.map (Value.int .u8))[j]? = some v → w.cell? (x.add j) = some v)) :
    Calls Try.prog 4 #[.slice ao la ca, .slice bo lb cb] w fun e w' => e = .returned (.bool true) ∧ Below w.heap.size w w' := by
  have hne := fun wx => run_neq_slice_nil_any (P := Try.prog) wx 22 5 ao la ca 0 0 Try.underlying22
  have hneb := fun wx => run_neq_slice_nil_any (P := Try.prog) wx 22 5 bo lb cb 0 0 Try.underlying22
  go_enter Try.func4, Try.ntmps4
  go_upto_if 25 with (go_at_call 9; refine (bytes2_yes _ _ _ _ _ _ _ (by omega)).mono ?_; rintro e w' ⟨rfl, hw'⟩; subst w')
  go_cut [0] (fun v wx => ∃ sa, v = .slice sa la la ∧ RowO wx sa xs ∧ Below w.heap.size w wx)
  case first =>
    cases ao with
    | none =>
      obtain ⟨rfl, rfl⟩ := hao.out rfl
      go_wp2
      go_meet
      case rel => exact ⟨none, rfl, .inl ⟨rfl, List.eq_nil_of_length_eq_zero hna.out⟩, Below.refl _ _⟩
    | some x =>
      obtain ⟨Z, cs, hmk, hg, hmin, hsrc, hfit, h1c, hbel, hrow⟩ := copy_parts x la xs hna.out (by omega) hba.out w (hca.out x rfl)
      go_wp2_with (refine wpList_copy_splice rfl (.tmp 29) (.tmp 30) 22 22 rfl 5 Try.underlying22 Try.size5 _ _ _ _ _ _ rfl rfl w.heap.size 0 Z 5 hg.out cs hmin.out (fun _ => ⟨rfl, x, rfl, hsrc.out⟩) hfit.out h1c.out w.heap.size w hbel (Nat.le_refl _) ?_; intro w2 HG2 hB2)
      go_meet
      case rel => exact ⟨_, rfl, .inr ⟨_, rfl, hrow.out _ HG2.out⟩, hB2⟩
  case rest =>
    obtain ⟨sa, rfl, ra, hb1⟩ := hcut
    clear hne
    go_upto_if 34 with fail
    go_cut [1] (fun v wx => ∃ sb, v = .slice sb lb lb ∧ RowO wx sa xs ∧ RowO wx sb ys ∧ Below w.heap.size w wx)
    case first =>
      cases bo with
      | none =>
        obtain ⟨rfl, rfl⟩ := hbo.out rfl
        go_wp2
        go_meet
        case rel => exact ⟨none, rfl, ra, .inl ⟨rfl, List.eq_nil_of_length_eq_zero hnb.out⟩, hb1⟩
      | some x =>
        obtain ⟨Z, cs, hmk, hg, hmin, hsrc, hfit, h1c, hbel, hrow⟩ := copy_parts x lb ys hnb.out (by omega) hbb.out wc (fun j v h => cell_later hb1 (hcb.out x rfl j v h))
        go_wp2_with (refine wpList_copy_splice rfl (.tmp 38) (.tmp 39) 22 22 rfl 5 Try.underlying22 Try.size5 _ _ _ _ _ _ rfl rfl wc.heap.size 0 Z 5 hg.out cs hmin.out (fun _ => ⟨rfl, x, rfl, hsrc.out⟩) hfit.out h1c.out wc.heap.size wc hbel (Nat.le_refl _) ?_; intro w2 HG2 hB2)
        go_meet
        case rel => exact ⟨_, rfl, ra.later hB2, .inr ⟨_, rfl, hrow.out _ HG2.out⟩, hb1.trans (hB2.mono hb1.size)⟩
    case rest =>
      obtain ⟨sb, rfl, ra', rb, hb2⟩ := hcut
      clear hneb hb1 ra hca hcb hao hbo
      obtain ⟨i0, hi, hz0, hz1, hz2⟩ := info_parts Try.info5
      obtain ⟨cs, hcs⟩ : ∃ cs, cs = xs.map (Value.int .u8) := ⟨_, rfl⟩
      obtain ⟨ds, hds⟩ : ∃ ds, ds = ys.map (Value.int .u8) := ⟨_, rfl⟩
      have HCS : Hid (cs = xs.map (Value.int .u8)) := hcs
      have HDS : Hid (ds = ys.map (Value.int .u8)) := hds
      have hcl : Hid (cs.length = la * 1) := by show cs.length = la * 1; have := hna.out; rw [hcs]; simp; omega
      have hdl : Hid (ds.length = lb * 1) := by show ds.length = lb * 1; have := hnb.out; rw [hds]; simp; omega
      have hc1 : Hid (∀ u ∈ cs, u.oneCell' = true) := by show ∀ u ∈ cs, u.oneCell' = true; rw [hcs]; exact ints_oneCell _ _
      have hd1 : Hid (∀ u ∈ ds, u.oneCell' = true) := by show ∀ u ∈ ds, u.oneCell' = true; rw [hds]; exact ints_oneCell _ _
      have hsa : Hid (sa = none → la = 0 ∧ la = 0) := fun h => by rcases ra' with ⟨_, rfl⟩ | ⟨b, e, _⟩; exact ⟨hna.out.symm, hna.out.symm⟩; rw [h] at e; cases e
      have hsb : Hid (sb = none → lb = 0 ∧ lb = 0) := fun h => by rcases rb with ⟨_, rfl⟩ | ⟨b, e, _⟩; exact ⟨hnb.out.symm, hnb.out.symm⟩; rw [h] at e; cases e
      have RA : Hid (∀ wx, Below wc.heap.size wc wx → RowO wx sa xs) := fun wx h => ra'.later h
      have RB : Hid (∀ wx, Below wc.heap.size wc wx → RowO wx sb ys) := fun wx h => rb.later h
      have RAc : Hid (∀ wx, Below wc.heap.size wc wx → ∀ ad, sa = some ad → ∀ j u, cs[j]? = some u → wx.cell? (ad.add j) = some u) := by
        intro wx h; rw [hcs]; exact (ra'.later h).cells
      have RBc : Hid (∀ wx, Below wc.heap.size wc wx → ∀ ad, sb = some ad → ∀ j u, ds[j]? = some u → wx.cell? (ad.add j) = some u) := by
        intro wx h; rw [hds]; exact (rb.later h).cells
      clear hcs hds ra' rb
      go_wp2_with (first
        | (at_make; refine wpList_make_own _ rfl _ _ 22 rfl wc.heap.size 5 i0 (.int .u8 0) 1 Try.underlying22 hi hz0 hz1 .i64 .i64 _ (la + lb) rfl rfl (by omega) (by rw [hz2]; omega) (by unfold maxLen; omega) (Nat.le_refl _) ?_; intro w3 hown3 hgrow3; have b3 := (Below.refl wc.heap.size wc).grown hgrow3 (Nat.le_refl _) (by intro k h; cases h))
        | (at_builtin; refine wpList_append_fits_any _ rfl (.tmp 48) (.tmp 49) 22 rfl wc.heap.size 5 i0 1 Try.underlying22 hi hz1 wc.heap.size 0 (la + lb) [] rfl hown3 sa la la cs rfl hcl.out hsa.out (RAc.out _ b3) hc1.out (by omega) ?_; intro w4 hown4 hgrow4; have b4 := b3.grown hgrow4 b3.size (by intro k h; cases h; exact Nat.le_refl _); simp only [Nat.zero_add, List.nil_append] at hown4)
        | (at_builtin; refine wpList_append_fits_any _ rfl (.tmp 51) (.tmp 52) 22 rfl wc.heap.size 5 i0 1 Try.underlying22 hi hz1 wc.heap.size la (la + lb) cs rfl hown4 sb lb lb ds rfl hdl.out hsb.out (RBc.out _ b4) hd1.out (by omega) ?_; intro w5 hown5 hgrow5; have b5 := b4.grown hgrow5 b4.size (by intro k h; cases h; exact Nat.le_refl _)))
      have hrc : Row w5 wc.heap.size 0 (xs ++ ys) := by
        intro j hj
        have hx := hna.out; have hy := hnb.out
        have hc := hown5.cellAt j (by rw [List.length_append] at hj; omega)
        rw [Nat.zero_add, hc, HCS.out, HDS.out, ← List.map_append, List.getElem?_map, List.getElem?_eq_getElem hj]
        refine ⟨rfl, ?_⟩
        rcases List.mem_append.1 (List.getElem_mem hj) with h | h
        · exact hba.out _ h
        · exact hbb.out _ h
      have ra5 := RA.out _ b5
      have rb5 := RB.out _ b5
      have hbelow : Below w.heap.size w w5 := hb2.trans (b5.mono hb2.size)
      have hlx := hna.out
      have hly := hnb.out
      obtain ⟨na, hna'⟩ : ∃ n, n = dN xs := ⟨_, rfl⟩
      obtain ⟨nb, hnb'⟩ : ∃ n, n = dN ys := ⟨_, rfl⟩
      obtain ⟨nc, hnc'⟩ : ∃ n, n = dN (xs ++ ys) := ⟨_, rfl⟩
      have DA : ∀ o, o = dOk xs → Hid (Calls Try.prog 6 #[.slice sa la la] w5 fun e w' => e = .returned (.tuple #[.int .i64 na, .bool o]) ∧ w' = w5) := by
        intro o h; subst h; subst hna'; exact ra5.digits la la hlx (by omega)
      have DB : ∀ o, o = dOk ys → Hid (Calls Try.prog 6 #[.slice sb lb lb] w5 fun e w' => e = .returned (.tuple #[.int .i64 nb, .bool o]) ∧ w' = w5) := by
        intro o h; subst h; subst hnb'; exact rb5.digits lb lb hly (by omega)
      have DC : ∀ o, o = dOk (xs ++ ys) → Hid (Calls Try.prog 6 #[.slice (some ⟨wc.heap.size, 0, none⟩) (la + lb) (la + lb)] w5 fun e w' => e = .returned (.tuple #[.int .i64 nc, .bool o]) ∧ w' = w5) := by
        intro o h; subst h; subst hnc'; exact digits_any wc.heap.size 0 (la + lb) (la + lb) (xs ++ ys) w5 hrc (by show (xs ++ ys).length = _; simp; omega) (by omega)
      have ba := dN_rng xs; rw [← hna'] at ba
      have bb := dN_rng ys; rw [← hnb'] at bb
      have bc := dN_rng (xs ++ ys); rw [← hnc'] at bc
      obtain ⟨ba0, ba1⟩ := ba
      obtain ⟨bb0, bb1⟩ := bb
      obtain ⟨bc0, bc1⟩ := bc
      have HNA : Hid (na = dN xs) := hna'
      have HNB : Hid (nb = dN ys) := hnb'
      have HNC : Hid (nc = dN (xs ++ ys)) := hnc'
      have HLX : Hid (xs.length = la) := hlx
      have HLY : Hid (ys.length = lb) := hly
      have HRB : Hid (RowO w5 sb ys) := rb5
      clear hna' hnb' hnc' hlx hly hown3 hown4 hown5 hgrow3 hgrow4 hgrow5 b3 b4 b5 RAc RBc RA RB hsa hsb hc1 hd1 hcl hdl HCS HDS hi hz0 hz1 hz2 hba hbb hrc ra5 rb5 hb2
      by_cases hob : dOk ys = true
      · obtain ⟨g1, g2, g3⟩ := dOk_parts hob
        rw [HLY.out] at g1 g2
        obtain ⟨b, rfl, rb⟩ := HRB.out.some (by rw [HLY.out]; exact g1)
        have A1 : Hid (Calls Try.prog 7 #[.slice (some ⟨b, 0, none⟩) lb lb] w5 fun e w' => e = .returned (.bool true) ∧ w' = w5) := by
          have := all_any b 0 lb lb ys w5 rb HLY (by omega)
          rw [g3] at this; exact this
        have hlt : lb - 1 < ys.length := by rw [HLY.out]; omega
        obtain ⟨hcell, hc0, hc1⟩ := rb (lb - 1) hlt
        have hmod := dN_mod hob (by rw [HLY.out]; omega)
        have hdg := dig_true (dig_at g3 (lb - 1) hlt)
        have hmod' : nb % 10 = ys[lb - 1] - 48 := by rw [HNB.out, hmod]; congr 2; rw [HLY.out]
        obtain ⟨c, hc⟩ : ∃ c, c = ys[lb - 1] := ⟨_, rfl⟩
        rw [← hc] at hcell hc0 hc1 hdg hmod'
        rw [Nat.zero_add] at hcell
        obtain ⟨hdg1, hdg2⟩ := hdg
        have hd1 : decide ((1 : Int) ≤ (lb : Int)) = true := decide_eq_true (by omega)
        have hd2 : decide ((lb : Int) ≤ 18) = true := decide_eq_true (by omega)
        have hm0 : ((lb : Int) - 1).toNat = lb - 1 := by omega
        clear hmod hc
        have HOB : Hid (dOk ys = true) := hob
        clear hob g3 rb hlt HRB
        by_cases hz : la = 0
        · have exs : xs = [] := List.eq_nil_of_length_eq_zero (by rw [HLX.out]; exact hz)
          have HCB : Hid (dOk (xs ++ ys) = dOk ys) := by show dOk (xs ++ ys) = dOk ys; rw [exs]; rfl
          obtain rfl : nc = nb := by rw [HNC.out, HNB.out, exs]; rfl
          have hzb : ((la : Int) == 0) = true := by simp [hz]
          have HZ : Hid (la = 0) := hz
          obtain ⟨oa, hoa⟩ : ∃ o, o = dOk xs := ⟨_, rfl⟩
          clear hz exs
          have D1 := DA oa hoa
          have D2 := DB true HOB.out.symm
          have D3 := DC true (by rw [HCB.out, HOB.out])
          clear DA DB DC
          refine D1.out.mono ?_
          rintro e w' ⟨rfl, hw'⟩
          subst w'
          go_wp2_with fail
          refine D2.out.mono ?_
          rintro e w' ⟨rfl, hw'⟩
          subst w'
          go_wp2_with fail
          refine D3.out.mono ?_
          rintro e w' ⟨rfl, hw'⟩
          subst w'
          go_wp2_with (first | (go_at_call 7; refine A1.out.mono ?_; rintro e w' ⟨rfl, hw'⟩; subst w'))
          go_ret
          exact ⟨rfl, hbelow⟩
        · have hzb : ((la : Int) == 0) = false := by simp; omega
          have hzc : ((lb : Int) == 0) = false := by simp; omega
          have hap := dOk_append xs ys (by rw [HLX.out]; omega) (by rw [HLY.out]; omega)
          by_cases hoc : dOk (xs ++ ys) = true
          · have hoc' := hoc
            rw [hap, Bool.and_eq_true, Bool.and_eq_true, decide_eq_true_eq, List.length_append, HLX.out, HLY.out] at hoc'
            obtain ⟨⟨hoa, _⟩, h18⟩ := hoc'
            have hval := dN_append xs ys (by rw [HLX.out]; omega) (by rw [HLY.out]; omega) hoc
            have hprod := prod_bd xs ys (by rw [HLX.out]; omega) (by rw [HLY.out]; omega) hoc
            rw [← HNC.out, ← HNA.out, ← HNB.out, HLY.out] at hval
            rw [← HNA.out, HLY.out] at hprod
            obtain ⟨p0, hp0⟩ : ∃ p, p = pow lb := ⟨_, rfl⟩
            have P1 : Hid (Calls Try.prog 8 #[.int .i64 lb] w5 fun e w' => e = .returned (.int .i64 p0) ∧ w' = w5) := by subst hp0; exact pow_any lb w5 (by omega)
            rw [← hp0] at hval hprod
            obtain ⟨hpr0, hpr1⟩ := hprod
            have hd3 : decide ((la : Int) + (lb : Int) ≤ 18) = true := decide_eq_true (by omega)
            have hfin : (nc == na * p0 + nb) = true := by rw [hval]; simp
            have HOA : Hid (dOk xs = true) := hoa
            have HOC : Hid (dOk (xs ++ ys) = true) := hoc
            clear hap hoc hoa hval hp0
            have D1 := DA true HOA.out.symm
            have D2 := DB true HOB.out.symm
            have D3 := DC true HOC.out.symm
            clear DA DB DC
            refine D1.out.mono ?_
            rintro e w' ⟨rfl, hw'⟩
            subst w'
            go_wp2_with fail
            refine D2.out.mono ?_
            rintro e w' ⟨rfl, hw'⟩
            subst w'
            go_wp2_with fail
            refine D3.out.mono ?_
            rintro e w' ⟨rfl, hw'⟩
            subst w'
            go_wp2_with (first | (go_at_call 7; refine A1.out.mono ?_; rintro e w' ⟨rfl, hw'⟩; subst w') | (go_at_call 8; refine P1.out.mono ?_; rintro e w' ⟨rfl, hw'⟩; subst w'))
            go_ret
            exact ⟨rfl, hbelow⟩
          · have hoc' : dOk (xs ++ ys) = false := by simpa using hoc
            have HOC : Hid (dOk (xs ++ ys) = false) := hoc'
            rw [HOB.out, hoc'] at hap
            by_cases hoa : dOk xs = true
            · have h18 : ¬ la + lb ≤ 18 := by
                intro h
                rw [hoa, List.length_append, HLX.out, HLY.out] at hap
                simp [h] at hap
              have hd3 : decide ((la : Int) + (lb : Int) ≤ 18) = false := decide_eq_false (by omega)
              have HOA : Hid (dOk xs = true) := hoa
              clear hap hoc hoc' hoa
              have D1 := DA true HOA.out.symm
              have D2 := DB true HOB.out.symm
              have D3 := DC false HOC.out.symm
              clear DA DB DC
              refine D1.out.mono ?_
              rintro e w' ⟨rfl, hw'⟩
              subst w'
              go_wp2_with fail
              refine D2.out.mono ?_
              rintro e w' ⟨rfl, hw'⟩
              subst w'
              go_wp2_with fail
              refine D3.out.mono ?_
              rintro e w' ⟨rfl, hw'⟩
              subst w'
              go_wp2_with (first | (go_at_call 7; refine A1.out.mono ?_; rintro e w' ⟨rfl, hw'⟩; subst w'))
              go_ret
              exact ⟨rfl, hbelow⟩
            · have HOA : Hid (dOk xs = false) := eq_false_of_ne_true hoa
              clear hap hoc hoc' hoa
              have D1 := DA false HOA.out.symm
              have D2 := DB true HOB.out.symm
              have D3 := DC false HOC.out.symm
              clear DA DB DC
              refine D1.out.mono ?_
              rintro e w' ⟨rfl, hw'⟩
              subst w'
              go_wp2_with fail
              refine D2.out.mono ?_
              rintro e w' ⟨rfl, hw'⟩
              subst w'
              go_wp2_with fail
              refine D3.out.mono ?_
              rintro e w' ⟨rfl, hw'⟩
              subst w'
              go_wp2_with (first | (go_at_call 7; refine A1.out.mono ?_; rintro e w' ⟨rfl, hw'⟩; subst w'))
              go_ret
              exact ⟨rfl, hbelow⟩
      · have HOB : Hid (dOk ys = false) := eq_false_of_ne_true hob
        have enb : nb = 0 := by rw [HNB.out, dN_no HOB.out]
        clear hob
        by_cases hz : la = 0
        · have exs : xs = [] := List.eq_nil_of_length_eq_zero (by rw [HLX.out]; exact hz)
          have HCB : Hid (dOk (xs ++ ys) = false) := by show dOk (xs ++ ys) = false; rw [exs]; exact HOB.out
          have HOA : Hid (dOk xs = false) := by rw [exs]; rfl
          obtain rfl : nc = nb := by rw [HNC.out, HNB.out, exs]; rfl
          have hzb : ((la : Int) == 0) = true := by simp [hz]
          clear hz exs enb
          by_cases l1 : lb = 0
          · have hd1 : decide ((1 : Int) ≤ (lb : Int)) = false := decide_eq_false (by omega)
            clear l1
            have D1 := DA false HOA.out.symm
            have D2 := DB false HOB.out.symm
            have D3 := DC false HCB.out.symm
            clear DA DB DC
            refine D1.out.mono ?_
            rintro e w' ⟨rfl, hw'⟩
            subst w'
            go_wp2_with fail
            refine D2.out.mono ?_
            rintro e w' ⟨rfl, hw'⟩
            subst w'
            go_wp2_with fail
            refine D3.out.mono ?_
            rintro e w' ⟨rfl, hw'⟩
            subst w'
            go_wp2_with (fail)
            go_ret
            exact ⟨rfl, hbelow⟩
          · by_cases l2 : 18 < lb
            · have hd1 : decide ((1 : Int) ≤ (lb : Int)) = true := decide_eq_true (by omega)
              have hd2 : decide ((lb : Int) ≤ 18) = false := decide_eq_false (by omega)
              have D1 := DA false HOA.out.symm
              have D2 := DB false HOB.out.symm
              have D3 := DC false HCB.out.symm
              clear DA DB DC
              refine D1.out.mono ?_
              rintro e w' ⟨rfl, hw'⟩
              subst w'
              go_wp2_with fail
              refine D2.out.mono ?_
              rintro e w' ⟨rfl, hw'⟩
              subst w'
              go_wp2_with fail
              refine D3.out.mono ?_
              rintro e w' ⟨rfl, hw'⟩
              subst w'
              go_wp2_with (fail)
              go_ret
              exact ⟨rfl, hbelow⟩
            · have hd1 : decide ((1 : Int) ≤ (lb : Int)) = true := decide_eq_true (by omega)
              have hd2 : decide ((lb : Int) ≤ 18) = true := decide_eq_true (by omega)
              obtain ⟨b, rfl, rb⟩ := HRB.out.some (by rw [HLY.out]; omega)
              have A1 : Hid (Calls Try.prog 7 #[.slice (some ⟨b, 0, none⟩) lb lb] w5 fun e w' => e = .returned (.bool false) ∧ w' = w5) := by
                have := all_any b 0 lb lb ys w5 rb HLY (by omega)
                rw [← dOk_want ys (by rw [HLY.out]; omega) (by rw [HLY.out]; omega), HOB.out] at this; exact this
              clear rb HRB
              have D1 := DA false HOA.out.symm
              have D2 := DB false HOB.out.symm
              have D3 := DC false HCB.out.symm
              clear DA DB DC
              refine D1.out.mono ?_
              rintro e w' ⟨rfl, hw'⟩
              subst w'
              go_wp2_with fail
              refine D2.out.mono ?_
              rintro e w' ⟨rfl, hw'⟩
              subst w'
              go_wp2_with fail
              refine D3.out.mono ?_
              rintro e w' ⟨rfl, hw'⟩
              subst w'
              go_wp2_with (first | (go_at_call 7; refine A1.out.mono ?_; rintro e w' ⟨rfl, hw'⟩; subst w'))
              go_ret
              exact ⟨rfl, hbelow⟩
        · have hzb : ((la : Int) == 0) = false := by simp; omega
          clear enb
          by_cases l1 : lb = 0
          · have hd1 : decide ((1 : Int) ≤ (lb : Int)) = false := decide_eq_false (by omega)
            have hzc : ((lb : Int) == 0) = true := by simp [l1]
            have eys : ys = [] := List.eq_nil_of_length_eq_zero (by rw [HLY.out]; exact l1)
            obtain rfl : nc = na := by rw [HNC.out, HNA.out, eys, List.append_nil]
            have HCA : Hid (dOk (xs ++ ys) = dOk xs) := by show dOk (xs ++ ys) = dOk xs; rw [eys, List.append_nil]
            clear l1 eys
            by_cases hoa : dOk xs = true
            · have HOA : Hid (dOk xs = true) := hoa
              clear hoa
              have D1 := DA true HOA.out.symm
              have D2 := DB false HOB.out.symm
              have D3 := DC true (by rw [HCA.out, HOA.out])
              clear DA DB DC
              refine D1.out.mono ?_
              rintro e w' ⟨rfl, hw'⟩
              subst w'
              go_wp2_with fail
              refine D2.out.mono ?_
              rintro e w' ⟨rfl, hw'⟩
              subst w'
              go_wp2_with fail
              refine D3.out.mono ?_
              rintro e w' ⟨rfl, hw'⟩
              subst w'
              go_wp2_with (fail)
              go_ret
              exact ⟨rfl, hbelow⟩
            · have HOA : Hid (dOk xs = false) := eq_false_of_ne_true hoa
              clear hoa
              have D1 := DA false HOA.out.symm
              have D2 := DB false HOB.out.symm
              have D3 := DC false (by rw [HCA.out, HOA.out])
              clear DA DB DC
              refine D1.out.mono ?_
              rintro e w' ⟨rfl, hw'⟩
              subst w'
              go_wp2_with fail
              refine D2.out.mono ?_
              rintro e w' ⟨rfl, hw'⟩
              subst w'
              go_wp2_with fail
              refine D3.out.mono ?_
              rintro e w' ⟨rfl, hw'⟩
              subst w'
              go_wp2_with (fail)
              go_ret
              exact ⟨rfl, hbelow⟩
          · have hzc : ((lb : Int) == 0) = false := by simp; omega
            have HOC : Hid (dOk (xs ++ ys) = false) := by
              show dOk (xs ++ ys) = false
              rw [dOk_append xs ys (by rw [HLX.out]; omega) (by rw [HLY.out]; omega), HOB.out]; simp
            by_cases l2 : 18 < lb
            · have hd1 : decide ((1 : Int) ≤ (lb : Int)) = true := decide_eq_true (by omega)
              have hd2 : decide ((lb : Int) ≤ 18) = false := decide_eq_false (by omega)
              by_cases hoa : dOk xs = true
              · have HOA : Hid (dOk xs = true) := hoa
                clear hoa
                have D1 := DA true HOA.out.symm
                have D2 := DB false HOB.out.symm
                have D3 := DC false HOC.out.symm
                clear DA DB DC
                refine D1.out.mono ?_
                rintro e w' ⟨rfl, hw'⟩
                subst w'
                go_wp2_with fail
                refine D2.out.mono ?_
                rintro e w' ⟨rfl, hw'⟩
                subst w'
                go_wp2_with fail
                refine D3.out.mono ?_
                rintro e w' ⟨rfl, hw'⟩
                subst w'
                go_wp2_with (fail)
                go_ret
                exact ⟨rfl, hbelow⟩
              · have HOA : Hid (dOk xs = false) := eq_false_of_ne_true hoa
                clear hoa
                have D1 := DA false HOA.out.symm
                have D2 := DB false HOB.out.symm
                have D3 := DC false HOC.out.symm
                clear DA DB DC
                refine D1.out.mono ?_
                rintro e w' ⟨rfl, hw'⟩
                subst w'
                go_wp2_with fail
                refine D2.out.mono ?_
                rintro e w' ⟨rfl, hw'⟩
                subst w'
                go_wp2_with fail
                refine D3.out.mono ?_
                rintro e w' ⟨rfl, hw'⟩
                subst w'
                go_wp2_with (fail)
                go_ret
                exact ⟨rfl, hbelow⟩
            · have hd1 : decide ((1 : Int) ≤ (lb : Int)) = true := decide_eq_true (by omega)
              have hd2 : decide ((lb : Int) ≤ 18) = true := decide_eq_true (by omega)
              obtain ⟨b, rfl, rb⟩ := HRB.out.some (by rw [HLY.out]; omega)
              have A1 : Hid (Calls Try.prog 7 #[.slice (some ⟨b, 0, none⟩) lb lb] w5 fun e w' => e = .returned (.bool false) ∧ w' = w5) := by
                have := all_any b 0 lb lb ys w5 rb HLY (by omega)
                rw [← dOk_want ys (by rw [HLY.out]; omega) (by rw [HLY.out]; omega), HOB.out] at this; exact this
              clear rb HRB
              by_cases hoa : dOk xs = true
              · have HOA : Hid (dOk xs = true) := hoa
                clear hoa
                have D1 := DA true HOA.out.symm
                have D2 := DB false HOB.out.symm
                have D3 := DC false HOC.out.symm
                clear DA DB DC
                refine D1.out.mono ?_
                rintro e w' ⟨rfl, hw'⟩
                subst w'
                go_wp2_with fail
                refine D2.out.mono ?_
                rintro e w' ⟨rfl, hw'⟩
                subst w'
                go_wp2_with fail
                refine D3.out.mono ?_
                rintro e w' ⟨rfl, hw'⟩
                subst w'
                go_wp2_with (first | (go_at_call 7; refine A1.out.mono ?_; rintro e w' ⟨rfl, hw'⟩; subst w'))
                go_ret
                exact ⟨rfl, hbelow⟩
              · have HOA : Hid (dOk xs = false) := eq_false_of_ne_true hoa
                clear hoa
                have D1 := DA false HOA.out.symm
                have D2 := DB false HOB.out.symm
                have D3 := DC false HOC.out.symm
                clear DA DB DC
                refine D1.out.mono ?_
                rintro e w' ⟨rfl, hw'⟩
                subst w'
                go_wp2_with fail
                refine D2.out.mono ?_
                rintro e w' ⟨rfl, hw'⟩
                subst w'
                go_wp2_with fail
                refine D3.out.mono ?_
                rintro e w' ⟨rfl, hw'⟩
                subst w'
                go_wp2_with (first | (go_at_call 7; refine A1.out.mono ?_; rintro e w' ⟨rfl, hw'⟩; subst w'))
                go_ret
                exact ⟨rfl, hbelow⟩

set_option maxHeartbeats 800000 in
theorem law_b_far (ao bo : Option Addr) (la ca lb cb : Nat) (w : World) (h : 65536 < la ∨ 65536 < lb) (hm : la ≤ maxLen) (hm' : lb ≤ maxLen) :
    Calls Try.prog 4 #[.slice ao la ca, .slice bo lb cb] w fun e w' => e = .returned (.bool true) ∧ Below w.heap.size w w' := by
  by_cases h2 : la + lb ≤ 1048576
  · by_cases h3 : 65536 < la
    · clear h
      unfold maxLen at hm hm'
      go_enter Try.func4, Try.ntmps4
      go_wp2_with (go_at_call 9; refine (bytes2_yes _ _ _ _ _ _ _ h2).mono ?_; rintro e w' ⟨rfl, hw'⟩; subst w')
      go_ret
      exact ⟨rfl, Below.refl _ _⟩
    · have h4 : 65536 < lb := by omega
      clear h
      unfold maxLen at hm hm'
      go_enter Try.func4, Try.ntmps4
      go_wp2_with (go_at_call 9; refine (bytes2_yes _ _ _ _ _ _ _ h2).mono ?_; rintro e w' ⟨rfl, hw'⟩; subst w')
      go_ret
      exact ⟨rfl, Below.refl _ _⟩
  · have h5 : 1048576 < la ∨ 1048576 < lb ∨ 1048576 < la + lb := by omega
    have B1 : Hid (Calls Try.prog 9 #[.slice ao la ca, .slice bo lb cb] w fun e w' => e = .returned (.bool false) ∧ w' = w) := bytes2_no _ _ _ _ _ _ _ h5 hm hm'
    clear h h5 h2 hm hm'
    go_enter Try.func4, Try.ntmps4
    go_wp2_with (go_at_call 9; refine B1.out.mono ?_; rintro e w' ⟨rfl, hw'⟩; subst w')
    go_ret
    exact ⟨rfl, Below.refl _ _⟩
end Go.Proofs.Qxb6630472a
