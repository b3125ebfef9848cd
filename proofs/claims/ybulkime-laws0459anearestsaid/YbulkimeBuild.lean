/-
  THE WALK OF zzs0459abuild.
-/
import Derived.Test.YbulkimeLaid
namespace Go.Proofs.Ybulkime
open Go.RowKit
open Go.ChangeMaps (setBlock)

theorem mkmap (n : Nat) (w : World) : (Instr.makeMap 48 (some (.int .i64 (n : Int)))).run Yba.prog w = .ok (.map (some w.heap.size)) (w.alloc (.map #[] 0)) := by
  simp [Instr.makeMap, run_underlying Yba.underlying48, asInt, asIntOf]

set_option maxHeartbeats 2000000 in
set_option maxRecDepth 100000 in
theorem build_any (w : World) (fl vl : Nat → Int) (fp : Option Addr) (n fc : Nat) (FS : List Fr) (hn : FS.length = n) (hs : small FS) (hF : Frames w.heap.size w fp FS) :
    Calls Yba.prog 6 #[flagsV fl, valsV vl, .slice fp n fc] w fun e w' => ∃ b, e = .returned (.tuple #[.slice (some ⟨w.heap.size + 1 + 1, 0, none⟩) 4 4, .pointer (some ⟨b, 0, none⟩)]) ∧ Built w w.heap.size fl vl FS w' n b := by
  unfold flagsV valsV
  have hmk := mk4
  have hmm := mkmap
  have hn256 : n ≤ 256 := by have := hs.1; omega
  go_enter Yba.func6, Yba.ntmps6
  go_wp2
  go_loopg [9] 4 (fun t p wr => ∃ k : Nat, k ≤ 4 ∧ t = 4 - k ∧ p = .int .i64 (k : Int) ∧ Laid w w.heap.size fl vl wr k)
  case atStart =>
    refine ⟨0, by omega, rfl, rfl, ?_, ?_, ?_, ?_, ?_, fun i hi => by omega⟩
    · exact (((Below.refl _ _).alloc (Nat.le_refl _) _).alloc (by simp) _).alloc (by simp; omega) _
    · rw [alloc_size, alloc_size, alloc_size]
    · exact alloc_old (alloc_old (alloc_new w _) _) _
    · have := alloc_new (w.alloc (.cells #[.int .u8 (fl 0), .int .u8 (fl 1), .int .u8 (fl 2), .int .u8 (fl 3)] 22)) (.cells #[.int .i64 (vl 0), .int .i64 (vl 1), .int .i64 (vl 2), .int .i64 (vl 3)] 23)
      rw [alloc_size] at this
      exact alloc_old this _
    · refine ⟨#[.pointer none, .pointer none, .pointer none, .pointer none], ?_, rfl, fun i hi => by omega⟩
      have := alloc_new ((w.alloc (.cells #[.int .u8 (fl 0), .int .u8 (fl 1), .int .u8 (fl 2), .int .u8 (fl 3)] 22)).alloc (.cells #[.int .i64 (vl 0), .int .i64 (vl 1), .int .i64 (vl 2), .int .i64 (vl 3)] 23)) (.cells #[.pointer none, .pointer none, .pointer none, .pointer none] 35)
      rw [alloc_size, alloc_size] at this
      exact this
  case round =>
    obtain ⟨k, hk, hgk, rfl, hL⟩ := hrel
    by_cases hlt : k < 4
    · have c0 := hL.c0 k hlt
      have c1 := hL.c1 k hlt
      obtain ⟨⟨x, c2⟩, f2⟩ := hL.row.there k hlt
      have l2 : w.heap.size + 1 + 1 < wr.heap.size := by rw [hL.sz]; omega
      have l1 : w.heap.size + 1 < wr.heap.size := by rw [hL.sz]; omega
      have l0 : w.heap.size < wr.heap.size := by rw [hL.sz]; omega
      have HL : Hid (Laid w w.heap.size fl vl wr k) := hL
      clear hL
      have hk4 : (k : Int) < 4 := by omega
      go_wp2
      go_region
      all_goals
        go_wp2
        go_roundg (4 - (k + 1))
        case measure => omega
        case rel => exact ⟨k + 1, by omega, rfl, by go_num, HL.out.next hlt⟩
    · have hk4 : k = 4 := by omega
      subst hk4
      clear hgk hk hlt
      go_wp2
      go_loopg [10, 11] n (fun t pb p wq => ∃ j b : Nat, j ≤ n ∧ t = n - j ∧ pb = .pointer (some ⟨b, 0, none⟩) ∧ p = .int .i64 (j : Int) ∧ Built w w.heap.size fl vl FS wq j b)
      case atStart => 
        exact ⟨0, wr.heap.size, by omega, rfl, rfl, rfl, hL.built FS⟩
      case round =>
        obtain ⟨j, b, hj, hgk, rfl, rfl, hB⟩ := hrel
        obtain ⟨wr0, hwr0⟩ : ∃ x, x = wr := ⟨_, rfl⟩
        subst hwr0
        by_cases hlt : j < n
        · have hjl : j < FS.length := by omega
          have hjn : (j : Int) < (n : Int) := by omega
          have hFq := hF.on hB.bel
          rcases hFq.row with h0 | ⟨fb, fo, rfl, hfb, hc⟩
          · omega
          obtain ⟨c0, c1, c2⟩ := hc j hjl
          have hok := hFq.each FS[j] (List.getElem_mem hjl)
          have hnn : FS[j].nn ≤ 256 := hs.2 _ (List.getElem_mem hjl)
          generalize hfj : FS[j] = f at c0 c1 c2 hok hnn
          obtain ⟨csn, hcsn, hmn⟩ := mk26 f.nn hnn
          obtain ⟨csv, hcsv, hmv⟩ := mk47 f.nn hnn
          have HB : Hid (Built w w.heap.size fl vl FS wr0 j b) := hB
          have HOK : Hid (FrOk w.heap.size wr0 f) := hok
          have HFJ : Hid (FS[j] = f) := hfj
          clear hc hok hfj hFq
          have hwsz : w.heap.size < wr0.heap.size := by have := hB.big; omega
          clear hB
          go_wp2
          go_loopg [15] f.nn (fun t p wq => ∃ i : Nat, i ≤ f.nn ∧ t = f.nn - i ∧ p = .int .i64 (i : Int) ∧ Mid wr0 (w.heap.size + 1 + 1 + 1) f b wq i)
          case atStart =>
            exact ⟨0, by omega, rfl, rfl, Mid.start _ _ _ _ _ _ hcsn hcsv⟩
          case round =>
            obtain ⟨i, hi, hgi, rfl, hM⟩ := hrel
            by_cases hin : i < f.nn
            · have hini : (i : Int) < (f.nn : Int) := by omega
              obtain ⟨m0, m1, m2, m3, m4, m5, m6⟩ := hM.cells
              have hokq := HOK.out.on (hM.bel.mono (Nat.le_of_lt hwsz))
              rcases hokq.ns with h0 | ⟨nb, no, hnp, hnb, hnc⟩
              · omega
              have n0 := hnc i hin
              rw [hnp] at m0
              obtain ⟨m, hm⟩ : ∃ m : Nat, f.names.getD i 0 = (m : Int) := ⟨(f.names.getD i 0).toNat, by have := hokq.nb i; omega⟩
              have hm255 : m ≤ 255 := by have := hokq.nb i; omega
              rw [hm] at n0
              obtain ⟨s, hsm⟩ : ∃ s, s = f.sym i := ⟨_, rfl⟩
              have hs4 : s < 4 := by rw [hsm]; exact sym_lt f i
              have hs4i : (s : Int) < 4 := by omega
              have hti : (m : Int).tmod 4 = (s : Int) := by
                rw [hsm]
                unfold Fr.sym
                rw [hm, Int.tmod_eq_emod_of_nonneg (by omega)]
                omega
              have hry : wr.cell? ⟨w.heap.size + 1 + 1, s, none⟩ = some (.pointer (some ⟨w.heap.size + 1 + 1 + 1 + s, 0, none⟩)) := by
                obtain ⟨cs, r1, _, r3⟩ := HB.out.row
                rw [cell_row (heap_on hM.bel r1)]
                exact r3 s hs4
              have HSM : Hid (s = f.sym i) := hsm
              obtain ⟨⟨x1, n1⟩, f1⟩ := hM.name i hin
              obtain ⟨⟨x2, n2⟩, f2⟩ := hM.value (i * 3) (by omega)
              obtain ⟨⟨x3, n3⟩, f3⟩ := hM.value (i * 3 + 1) (by omega)
              obtain ⟨⟨x4, n4⟩, f4⟩ := hM.value (i * 3 + 2) (by omega)
              have HM : Hid (Mid wr0 (w.heap.size + 1 + 1 + 1) f b wr i) := hM
              by_cases hiv : i < f.vn
              · rcases hokq.vs with h0 | ⟨vb, vo, hvp, hvb, hvc⟩
                · omega
                have v0 := hvc i hiv
                rw [hvp] at m1
                have hivi : (i : Int) < (f.vn : Int) := by omega
                have HX : Hid (f.vals.getD i 0 = f.val i) := by
                  show _ = _
                  unfold Fr.val
                  rw [if_pos hiv]
                generalize f.vals.getD i 0 = x0 at v0 HX
                have lvb : vb ≠ wr0.heap.size + 1 + 1 := by omega
                clear hM hokq hnc hnp hm hsm hvc hvp
                go_wp2
                go_region
                all_goals
                  go_wp2
                  go_roundg (f.nn - (i + 1))
                  case measure => omega
                  case rel => exact ⟨i + 1, by omega, rfl, by go_num, HM.out.next hin HSM.out HX.out⟩
              · have hivi : ¬ (i : Int) < (f.vn : Int) := by omega
                have HX : Hid ((0 : Int) = f.val i) := by
                  show _ = _
                  unfold Fr.val
                  rw [if_neg hiv]
                clear hM hokq hnc hnp hm hsm
                go_wp2
                go_region
                all_goals
                  go_wp2
                  go_roundg (f.nn - (i + 1))
                  case measure => omega
                  case rel => exact ⟨i + 1, by omega, rfl, by go_num, HM.out.next hin HSM.out HX.out⟩
            · have hin2 : i = f.nn := by omega
              subst hin2
              obtain ⟨m0, m1, m2, m3, m4, m5, m6⟩ := hM.cells
              have l0 : wr0.heap.size + 1 < wr.heap.size := by rw [hM.sz]; omega
              have HM : Hid (Mid wr0 (w.heap.size + 1 + 1 + 1) f b wr f.nn) := hM
              clear hM hgi hi hin
              cases hix : f.ix with
              | false =>
                rw [hix] at m2
                have HIX : Hid (f.ix = false) := hix
                clear hix
                go_wp2
                go_roundg (n - (j + 1))
                case measure => omega
                case rel => exact ⟨j + 1, _, by omega, rfl, rfl, by go_num, Mid.plain HB.out HM.out hjl HFJ.out HIX.out⟩
              | true =>
                rw [hix] at m2
                have HIX : Hid (f.ix = true) := hix
                clear hix
                go_wp2
                go_loopg [17] f.nn (fun t p wq => ∃ i : Nat, i ≤ f.nn ∧ t = f.nn - i ∧ p = .int .i64 (i : Int) ∧ Ixd wr0 (w.heap.size + 1 + 1 + 1) f b wq i)
                case atStart => exact ⟨0, by omega, rfl, rfl, Ixd.start HM.out⟩
                case round =>
                  obtain ⟨i, hi, hgi, rfl, hI⟩ := hrel
                  by_cases hin : i < f.nn
                  · have hini : (i : Int) < (f.nn : Int) := by omega
                    have q1 : wr.cell? ⟨wr0.heap.size + 1, 1, none⟩ = some (.slice (some ⟨wr0.heap.size + 1 + 1, 0, none⟩) f.nn f.nn) := by rw [cell_row hI.cb]; rfl
                    have q3 : wr.cell? ⟨wr0.heap.size + 1, 3, none⟩ = some (.map (some (wr0.heap.size + 1 + 1 + 1 + 1))) := by rw [cell_row hI.cb]; rfl
                    have q4 := hI.nr.cell i hin
                    obtain ⟨o, hrun, hI2⟩ := hI.next HB.out.syms.inn
                    have HI : Hid (Ixd wr0 (w.heap.size + 1 + 1 + 1) f b (setBlock wr.drew (wr0.heap.size + 1 + 1 + 1 + 1) o) (i + 1)) := hI2
                    clear hI hI2 m0 m1 m2 m3 m4 m5 m6
                    go_wp2
                    go_region
                    all_goals
                      go_wp2
                      go_roundg (f.nn - (i + 1))
                      case measure => omega
                      case rel => exact ⟨i + 1, by omega, rfl, by go_num, HI.out⟩
                  · have hin2 : i = f.nn := by omega
                    subst hin2
                    have HI : Hid (Ixd wr0 (w.heap.size + 1 + 1 + 1) f b wr f.nn) := hI
                    clear hI m0 m1 m2 m3 m4 m5 m6
                    go_wp2
                    go_roundg (n - (j + 1))
                    case measure => omega
                    case rel => exact ⟨j + 1, _, by omega, rfl, rfl, by go_num, Ixd.built HB.out HI.out hjl HFJ.out HIX.out⟩
        · have HB : Hid (Built w w.heap.size fl vl FS wr0 n b) := by
            have hjn : n = j := by omega
            rw [hjn]
            exact hB
          have hjn : ¬ (j : Int) < (n : Int) := by omega
          clear hB
          go_wp2
          refine bodyPost_ret (v := .tuple #[.slice (some ⟨w.heap.size + 1 + 1, 0, none⟩) 4 4, .pointer (some ⟨b, 0, none⟩)]) (by simp [results, Yba.results6, go_sem]) rfl ?_
          exact ⟨b, rfl, HB.out⟩

end Go.Proofs.Ybulkime
