/-
  The walk of FnSymbolsNumberFirstAppearance (function 3).
-/
import Derived.Test.Qxb6617708aAids
import Derived.Deep.Cut
import Derived.Deep.CutRange
import Derived.Deep.DeepCutAuto
import Derived.Deep.LoopGhost
namespace Go.Proofs.Qxb6617708a
open Go.RowKit Go.Maps
set_option linter.unusedVariables false

set_option maxHeartbeats 1000000 in
set_option maxRecDepth 100000 in
theorem main_any (mo : Option Nat) (sz : Nat) (ao bo : Option Addr) (ncap scap : Nat) (nm sc : List ByteArray) (w : World) (hm : Looks w mo sz) (hn : Strs w ao nm) (hs : Strs w bo sc)
    (h1 : sz ≤ 4096) (h2 : nm.length ≤ 4096) (h3 : sc.length ≤ 4096) :
    Calls Try.prog 3 #[.map mo, .slice ao nm.length ncap, .slice bo sc.length scap] w fun e w' => e = .returned (.bool true) ∧ Below w.heap.size w w' := by
  have hlen := hm.len
  have hnm := fun w r => run_neq_map_nil (P := Try.prog) w 22 9 3 r Try.underlying22
  have hmh := fun n w => run_makeMap_hint (P := Try.prog) Try.underlying22 n w
  go_enter Try.func3, Try.ntmps3
  go_wp2
  go_loop [7, 8] (fun tot i => ∃ (k : Nat) (t : Int), k ≤ nm.length ∧ i = .int .i64 k ∧ tot = .int .i64 t) (fun _ i => nm.length - (intOf i).toNat)
  case atStart => exact ⟨0, 0, Nat.zero_le _, rfl, rfl⟩
  case round =>
    obtain ⟨k, t, hk, rfl, rfl⟩ := hrel
    by_cases hlt : k < nm.length
    · obtain ⟨b, off, rfl, hb, hc⟩ := hn.cell k hlt
      go_wp2
      · go_ret
        exact ⟨rfl, Below.refl _ _⟩
      · go_round
        case rel => exact ⟨k + 1, _, by omega, by go_num, rfl⟩
        case measure => simp [intOf]; omega
    · go_wp2
      clear hlt hk
      go_loop [7, 9] (fun tot i => ∃ (k : Nat) (t : Int), k ≤ sc.length ∧ i = .int .i64 k ∧ tot = .int .i64 t) (fun _ i => sc.length - (intOf i).toNat)
      case atStart => exact ⟨0, t, Nat.zero_le _, rfl, rfl⟩
      case round =>
        obtain ⟨k, t, hk, rfl, rfl⟩ := hrel
        by_cases hlt : k < sc.length
        · obtain ⟨b, off, rfl, hb, hc⟩ := hs.cell k hlt
          go_wp2
          · go_ret
            exact ⟨rfl, Below.refl _ _⟩
          · go_round
            case rel => exact ⟨k + 1, _, by omega, by go_num, rfl⟩
            case measure => simp [intOf]; omega
        · by_cases hsn : sz = nm.length
          · subst hsn
            go_wp2
            clear hlt hk
            go_loop [10, 11, 12] (fun i _ _ => ∃ (k : Nat), k ≤ nm.length ∧ i = .int .i64 k ∧ ∀ j, j < k → (Instr.lookup 22 (.map mo) (.string (nm.getD j ByteArray.empty)) true).run Try.prog w = .ok (.tuple #[.int .i64 j, .bool true]) w) (fun i _ _ => nm.length - (intOf i).toNat)
            case atStart => exact ⟨0, Nat.zero_le _, rfl, fun j hj => by omega⟩
            case round =>
              obtain ⟨k, hk, rfl, hlk⟩ := hrel
              have HL : Hid (∀ j, j < k → (Instr.lookup 22 (.map mo) (.string (nm.getD j ByteArray.empty)) true).run Try.prog w = .ok (.tuple #[.int .i64 j, .bool true]) w) := hlk
              clear hlk
              by_cases hlt : k < nm.length
              · obtain ⟨b, off, rfl, hb, hc⟩ := hn.cell k hlt
                have eL : nm.getD k ByteArray.empty = nm[k] := by simp [List.getD, hlt]
                rw [eL] at hc
                obtain ⟨c, h, hl⟩ := hm.look nm[k] (hn.size _ (List.getElem_mem hlt))
                have HE : Hid (nm.getD k ByteArray.empty = nm[k]) := eL
                have HC : Hid ((Instr.lookup 22 (.map mo) (.string nm[k]) true).run Try.prog w = .ok (.tuple #[.int .i64 c, .bool h]) w) := hl
                clear eL
                go_wp2
                · go_ret
                  exact ⟨rfl, Below.refl _ _⟩
                · have hh : h = true := by assumption
                  have hck : (c != (k : Int)) = false := by assumption
                  go_round
                  case rel =>
                    refine ⟨k + 1, by omega, by go_num, fun j hj => ?_⟩
                    by_cases e : j = k
                    · subst e
                      have hcj : c = (j : Int) := by simpa using hck
                      rw [HE.out, HC.out, hh, hcj]
                    · exact HL.out j (by omega)
                  case measure => simp [intOf]; omega
                · go_ret
                  exact ⟨rfl, Below.refl _ _⟩
              · obtain rfl : k = nm.length := by omega
                have hd : Hid (Dist nm) := dist_of_looks HL.out
                have hnil : Hid (mo = none → nm = []) := fun e => List.eq_nil_of_length_eq_zero (hm.nil e)
                clear HL hk hlt
                obtain ⟨i0, hi, hz0, hz1, hz2⟩ := info_parts info9
                go_wp2_with (first
                  | (at_make; refine wpList_make_own _ rfl _ _ 23 rfl w.heap.size 9 i0 (.string ByteArray.empty) 1 Try.underlying23 hi hz0 hz1 _ _ _ (nm.length + sc.length) rfl rfl (by omega) (by rw [hz2]; omega) (by unfold maxLen; omega) (Nat.le_refl _) ?_)
                  | go_in)
                intro w0 hrow0 hgr0
                have hbel0 : Below w.heap.size w w0 := (Below.refl _ _).grown hgr0 (Nat.le_refl _) (fun k hk => by cases hk)
                clear hgr0
                go_wp2
                go_loopw [13, 14] (fun ord i wr => ∃ k : Nat, k ≤ nm.length ∧ i = .int .i64 k ∧ ord = .slice (some ⟨w.heap.size, 0, none⟩) k (nm.length + sc.length) ∧
                    wr.ownsRow w.heap.size 9 1 (.slice (some ⟨w.heap.size, 0, none⟩) k (nm.length + sc.length)) k ((nm.take k).map Value.string) ∧ Below w.heap.size w wr)
                  (fun _ i _ => nm.length - (intOf i).toNat)
                case atStart => exact ⟨0, Nat.zero_le _, rfl, rfl, by simpa using hrow0, hbel0⟩
                case round =>
                  obtain ⟨k, hk, rfl, rfl, hrow, hbel⟩ := hrel
                  by_cases hlt : k < nm.length
                  · obtain ⟨b, off, rfl, hb, hc0⟩ := hn.cell k hlt
                    have hc : wr.cell? ⟨b, off + k, none⟩ = some (.string nm[k]) := by
                      rw [hbel.cell hb, hc0]; simp [List.getD, hlt]
                    clear hc0
                    go_wp2_with (first
                      | (at_builtin; refine wpList_append_fits _ rfl _ _ 23 rfl w.heap.size 9 i0 1 Try.underlying23 hi hz1 w.heap.size k (nm.length + sc.length) _ rfl (hrow.alloc _) ⟨wr.heap.size, 0, none⟩ 1 1 [.string nm[k]] rfl rfl (cell_one_new _ _ _) (one_string _) (by omega) ?_)
                      | go_in)
                    intro w1 hrow1 hgr1
                    have R1 : w1.ownsRow w.heap.size 9 1 (.slice (some ⟨w.heap.size, 0, none⟩) (k + 1) (nm.length + sc.length)) (k + 1) ((nm.take (k + 1)).map Value.string) := by
                      rw [take_snoc hlt, List.map_append, List.map_take]; exact hrow1
                    have R2 : Below w.heap.size w w1 := (hbel.alloc hbel.size _).grown hgr1 (Nat.le_trans hbel.size (by simp)) (fun k hk => by cases hk; exact Nat.le_refl _)
                    clear hrow1 hgr1 hrow hbel hc
                    go_wp2
                    go_roundw
                    case rel => exact ⟨k + 1, by omega, by go_num, rfl, R1, R2⟩
                    case measure => simp [intOf]; omega
                  · obtain rfl : k = nm.length := by omega
                    have hord : Ord w.heap.size (nm.length + sc.length) w wr nm := ⟨by simpa using hrow, hbel⟩
                    clear hrow hbel hk hbel0 hrow0
                    go_upto_if 121 with fail
                    go_cut [15] (fun m wx => ∃ mo', m = .map mo' ∧ StM (w.heap.size + 1) wx mo' nm ∧ Ord w.heap.size (nm.length + sc.length) w wx nm)
                    case first => as_aux_lemma =>
                      rcases mo with _ | bm
                      · have HM : nm = [] := hnil.out rfl
                        have HM' : Hid (nm = []) := HM
                        clear HM
                        go_wp2
                        go_meet
                        case rel => exact ⟨none, rfl, .inl ⟨rfl, HM'.out⟩, hord⟩
                      · have hwl := hord.lt
                        obtain ⟨wo, rfl⟩ : ∃ wo : World, wo = wr := ⟨_, rfl⟩
                        go_wp2
                        go_loopw [16] (fun i wx => ∃ (k : Nat) (D : DataW Unit), k ≤ nm.length ∧ i = .int .i64 k ∧ wx.ownsMap Try.prog 9 (plainElem Try.prog 3) wo.heap.size k D ∧ Num D (nm.take k) ∧ Ord w.heap.size (nm.length + sc.length) w wx nm)
                          (fun i _ => nm.length - (intOf i).toNat)
                        case atStart => exact ⟨0, .map [], Nat.zero_le _, rfl, World.ownsMap_made _ _ _ _, by simpa using Num.empty, hord.later ((Below.refl _ _).alloc hwl _)⟩
                        case round =>
                          obtain ⟨k, D, hk, rfl, hown, hnum, hord2⟩ := hrel
                          by_cases hlt : k < nm.length
                          · obtain ⟨b, off, rfl, hb, hc0⟩ := hn.cell k hlt
                            have hc : wr.cell? ⟨b, off + k, none⟩ = some (.string nm[k]) := by
                              rw [hord2.bel.cell hb, hc0]; simp [List.getD, hlt]
                            have hkey := keyOf_key (hn.size _ (List.getElem_mem hlt))
                            have HN := show Hid _ from hnum
                            have HO := show Hid _ from hord2
                            clear hc0 hnum hord2
                            go_wp2_with (first
                              | (at_mapUpdate; refine wpList_mapUpdate_own _ rfl _ _ _ 22 rfl 9 3 law Try.underlying22 _ wo.heap.size k D rfl hown (by unfold maxLen; omega) _ _ _ rfl rfl hkey _ [] (plainElem_int Try.underlying3 (WalkArith.wf_i64 (by omega))) ?_)
                              | go_in)
                            intro w1 hown1 hgr1
                            have R2 : Ord w.heap.size (nm.length + sc.length) w w1 nm := HO.out.later ((Below.refl _ _).grown hgr1 HO.out.lt (fun k hk => by cases hk; exact hwl))
                            have R3 := num_take HN.out hlt hd.out
                            clear hgr1 hown hc
                            go_wp2
                            go_roundw
                            case rel => (repeat apply Exists.intro); exact ⟨⟨k + 1, _, by omega, by go_num, hown1, R3, R2⟩, rfl⟩
                            case measure => simp [intOf]; omega
                          · obtain rfl : k = nm.length := by omega
                            rw [List.take_length] at hnum
                            go_wp2
                            go_meet
                            case rel => exact ⟨some wo.heap.size, rfl, .inr ⟨_, D, rfl, hwl, hown, hnum⟩, hord2⟩
                    case rest =>
                      obtain ⟨mo', rfl, hstm, hord⟩ := hcut
                      go_upto_if 138 with fail
                      go_cut [17] (fun nv wx => ∃ ao' cap', nv = .slice ao' nm.length cap' ∧ St (w.heap.size + 1) wx mo' ao' cap' nm ∧ Ord w.heap.size (nm.length + sc.length) w wx nm)
                      case first => as_aux_lemma =>
                        rcases ao with _ | ad
                        · have HM : nm = [] := by
                            rcases nm with _ | ⟨x, r⟩
                            · rfl
                            · obtain ⟨b, off, h, _⟩ := hn.cell 0 (by simp)
                              cases h
                          have HM' : Hid (nm = []) := HM
                          clear HM
                          go_wp2
                          go_meet
                          case rel => exact ⟨none, 0, by rw [HM'.out]; rfl, ⟨by rw [HM'.out]; exact World.ownsRow_nil _ _ _ _, hstm⟩, hord⟩
                        · have hwl := hord.lt
                          obtain ⟨wo, rfl⟩ : ∃ wo : World, wo = wc := ⟨_, rfl⟩
                          go_wp2_with (first
                            | (at_make; refine wpList_make_full _ rfl _ _ 23 rfl (w.heap.size + 1) 9 i0 (.string ByteArray.empty) 1 Try.underlying23 hi hz0 hz1 _ _ _ _ nm.length rfl rfl rfl rfl (by rw [hz2]; omega) (by unfold maxLen; omega) hwl ?_)
                            | go_in)
                          intro w1 hrow1 hgr1
                          have hord1 : Ord w.heap.size (nm.length + sc.length) w w1 nm := hord.later ((Below.refl _ _).grown hgr1 hwl (fun k hk => by cases hk))
                          have hstm1 := hstm.grown hgr1 (fun k hk => by cases hk)
                          clear hgr1
                          go_wp2
                          go_loopw [18] (fun i wx => ∃ (k : Nat), k ≤ nm.length ∧ i = .int .i64 k ∧ wx.ownsRow (w.heap.size + 1) 9 1 (.slice (some ⟨wo.heap.size, 0, none⟩) nm.length nm.length) nm.length ((nm.take k).map Value.string ++ List.replicate (nm.length - k) (.string ByteArray.empty)) ∧
                              StM (w.heap.size + 1) wx mo' nm ∧ Ord w.heap.size (nm.length + sc.length) w wx nm)
                            (fun i _ => nm.length - (intOf i).toNat)
                          case atStart =>
                            refine ⟨0, Nat.zero_le _, rfl, ?_, hstm1, hord1⟩
                            rw [toList_madeCells_one] at hrow1
                            simpa using hrow1
                          case round =>
                            obtain ⟨k, hk, rfl, hrow, hstm2, hord2⟩ := hrel
                            by_cases hlt : k < nm.length
                            · obtain ⟨b, off, e, hb, hc0⟩ := hn.cell k hlt
                              obtain rfl : ad = ⟨b, off, none⟩ := by simpa using e
                              have hc : wr.cell? ⟨b, off + k, none⟩ = some (.string nm[k]) := by
                                rw [hord2.bel.cell hb, hc0]; simp [List.getD, hlt]
                              have hold : wr.cell? ⟨wo.heap.size, k, none⟩ = some (.string ByteArray.empty) := by
                                exact ownsRow_get hrow (fill_at hlt)
                              have hfz := hrow.frozenAt k
                              obtain ⟨hrow3, hgr3⟩ := hrow.stored k (.string nm[k])
                              have R1 : (wr.setCell ⟨wo.heap.size, k, none⟩ (.string nm[k])).ownsRow (w.heap.size + 1) 9 1 (.slice (some ⟨wo.heap.size, 0, none⟩) nm.length nm.length) nm.length ((nm.take (k + 1)).map Value.string ++ List.replicate (nm.length - (k + 1)) (.string ByteArray.empty)) := by
                                rw [fill_step hlt] at hrow3; exact hrow3
                              have R2 := hstm2.grown hgr3 (fun j hj => by cases hj; exact ⟨_, ownsRow_get hrow (j := 0) (fill_zero (by omega))⟩)
                              have R3 := hord2.later ((Below.refl _ _).grown hgr3 hord2.lt (fun k hk => by cases hk; exact hwl))
                              have R1' := show Hid _ from R1
                              have R2' := show Hid _ from R2
                              have R3' := show Hid _ from R3
                              clear hc0 hrow hrow3 hgr3 hstm2 hord2 R1 R2 R3 e
                              go_wp2
                              go_roundw
                              case rel => first | exact ⟨k + 1, by omega, by go_num, R1'.out, R2'.out, R3'.out⟩ | ((repeat apply Exists.intro); exact ⟨⟨k + 1, by omega, by go_num, R1'.out, R2'.out, R3'.out⟩, rfl⟩)
                              case measure => simp [intOf]; omega
                            · obtain rfl : k = nm.length := by omega
                              have hrow' : wr.ownsRow (w.heap.size + 1) 9 1 (.slice (some ⟨wo.heap.size, 0, none⟩) nm.length nm.length) nm.length (nm.map Value.string) := by simpa using hrow
                              clear hrow
                              go_wp2
                              go_meet
                              case rel => exact ⟨some ⟨wo.heap.size, 0, none⟩, nm.length, rfl, ⟨hrow', hstm2⟩, hord2⟩
                      case rest =>
                        obtain ⟨ao', cap', rfl, hst, hord⟩ := hcut
                        clear hm hlen hnm hmh hstm
                        go_wp2
                        go_loopw [13, 15, 17, 19] (fun ord m nv i wr => ∃ (k : Nat) (L : List ByteArray) (mo2 : Option Nat) (ao2 : Option Addr) (cap2 : Nat), k ≤ sc.length ∧ i = .int .i64 k ∧ L.length ≤ nm.length + k ∧ Hid (Dist L) ∧ Hid (∀ s ∈ L, s.size ≤ maxLen) ∧
                            ord = .slice (some ⟨w.heap.size, 0, none⟩) L.length (nm.length + sc.length) ∧ m = .map mo2 ∧ nv = .slice ao2 L.length cap2 ∧ St (w.heap.size + 1) wr mo2 ao2 cap2 L ∧ Ord w.heap.size (nm.length + sc.length) w wr L)
                          (fun _ _ _ i _ => sc.length - (intOf i).toNat)
                        case atStart => exact ⟨0, nm, mo', ao', cap', Nat.zero_le _, rfl, by omega, hd, hn.size, rfl, rfl, rfl, hst, hord⟩
                        case round =>
                          obtain ⟨k, L, mo2, ao2, cap2, hk, rfl, hLl, hdL, hsL, rfl, rfl, rfl, hst2, hord2⟩ := hrel
                          by_cases hlt : k < sc.length
                          · as_aux_lemma =>
                            obtain ⟨b, off, rfl, hb, hc0⟩ := hs.cell k hlt
                            have hc : wr.cell? ⟨b, off + k, none⟩ = some (.string sc[k]) := by
                              rw [hord2.bel.cell hb, hc0]; simp [List.getD, hlt]
                            have hsk : sc[k].size ≤ maxLen := hs.size _ (List.getElem_mem hlt)
                            have HC : Hid (∀ j, j < L.length → wr.cell? ⟨w.heap.size, j, none⟩ = some (.string (L.getD j ByteArray.empty))) := fun j hj => hord2.cell hj
                            have HS := show Hid _ from hst2
                            have HO := show Hid _ from hord2
                            have hLb : L.length ≤ 10000 := by omega
                            clear hc0 hst2 hord2 hst hord
                            go_wp2_with (first
                              | (go_at_call 4; refine (sym_any w.heap.size (nm.length + sc.length) L sc[k] _ hLb HC.out).mono ?_)
                              | fail)
                            rintro e w' ⟨⟨n, rfl, hw⟩, rfl⟩
                            rcases hw with ⟨rfl, hnm⟩ | ⟨j, rfl, hj, ej⟩
                            · go_wp2_with (first
                                | (at_builtin; refine wpList_append_fits _ rfl _ _ 23 rfl w.heap.size 9 i0 1 Try.underlying23 hi hz1 w.heap.size L.length (nm.length + sc.length) _ rfl (HO.out.row.alloc _) ⟨wr.heap.size, 0, none⟩ 1 1 [.string sc[k]] rfl rfl (cell_one_new _ _ _) (one_string _) (by omega) ?_)
                                | fail)
                              intro w1 hrow1 hgr1
                              have hgr : wr.grownBy w1 (some w.heap.size) := (World.grownBy_alloc wr _ _).trans hgr1
                              have HO1 : Hid (Ord w.heap.size (nm.length + sc.length) w w1 (L ++ [sc[k]])) := HO.out.append (Nat.le_refl _) hrow1 hgr
                              have HS1 : Hid (St (w.heap.size + 1) w1 mo2 ao2 cap2 L) := HS.out.grownAt hgr
                              clear hrow1 hgr1 hgr HO HS HC hc
                              go_wp2_with (first
                                | (go_at_call 5; refine (zz_any (w.heap.size + 1) cap2 mo2 ao2 L sc[k] _ hsk HS1.out HO1.out.lt hLb).mono ?_)
                                | fail)
                              rintro e w2 ⟨k', L', mo3, ao3, cap3, rfl, hbh⟩
                              obtain ⟨rfl, rfl⟩ := behind_new hbh hnm
                              obtain ⟨hadd, _, _, hst3, hbel3⟩ := hbh
                              have R1 : Hid (Dist (L ++ [sc[k]])) := hadd.dist hdL.out
                              have R2 : Hid (∀ s ∈ L ++ [sc[k]], s.size ≤ maxLen) := hadd.all hsL.out hsk
                              have R3 := show Hid _ from hst3
                              have R4 : Hid (Ord w.heap.size (nm.length + sc.length) w w2 (L ++ [sc[k]])) := HO1.out.later hbel3
                              clear hadd hst3 hbel3 HO1 HS1
                              go_wp2
                              go_roundw
                              case rel => first | exact ⟨k + 1, L ++ [sc[k]], mo3, ao3, cap3, by omega, by go_num, by simp; omega, R1, R2, by simp, rfl, by simp, R3.out, R4.out⟩ | ((repeat apply Exists.intro); exact ⟨⟨k + 1, L ++ [sc[k]], mo3, ao3, cap3, by omega, by go_num, by simp; omega, R1, R2, by simp, rfl, by simp, R3.out, R4.out⟩, rfl⟩)
                              case measure => simp [intOf]; omega
                            · go_wp2_with (first
                                | (go_at_call 5; refine (zz_any (w.heap.size + 1) cap2 mo2 ao2 L sc[k] _ hsk HS.out HO.out.lt hLb).mono ?_)
                                | fail)
                              rintro e w2 ⟨k', L', mo3, ao3, cap3, rfl, hbh⟩
                              obtain ⟨rfl, rfl⟩ := behind_there hbh hdL.out hj ej
                              obtain ⟨hadd, _, _, hst3, hbel3⟩ := hbh
                              have R3 := show Hid _ from hst3
                              have R4 : Hid (Ord w.heap.size (nm.length + sc.length) w w2 L') := HO.out.later hbel3
                              clear hadd hst3 hbel3 HO HS HC hc ej
                              go_wp2
                              go_roundw
                              case rel => first | exact ⟨k + 1, L', mo3, ao3, cap3, by omega, by go_num, by omega, hdL, hsL, rfl, rfl, rfl, R3.out, R4.out⟩ | ((repeat apply Exists.intro); exact ⟨⟨k + 1, L', mo3, ao3, cap3, by omega, by go_num, by omega, hdL, hsL, rfl, rfl, rfl, R3.out, R4.out⟩, rfl⟩)
                              case measure => simp [intOf]; omega
                          · as_aux_lemma =>
                            have hlenm := fun ty => stm_len (w := wr) hst2.map ty
                            go_wp2
                            obtain ⟨wl, rfl⟩ : ∃ wl : World, wl = wr := ⟨_, rfl⟩
                            clear hlenm hst hord
                            go_loopw [26, 27, 28] (fun i _ _ wx => ∃ (k m : Nat), k ≤ L.length ∧ i = .int .i64 k ∧ wx = wl.drewN m) (fun i _ _ _ => L.length - (intOf i).toNat)
                            case atStart => exact ⟨0, 0, Nat.zero_le _, rfl, rfl⟩
                            case round =>
                              obtain ⟨q, m, hq, rfl, rfl⟩ := hrel
                              by_cases hql : q < L.length
                              · obtain ⟨g, rfl, hcn⟩ := hst2.names hql
                                obtain ⟨b, D, rfl, hown, hh, hat⟩ := hst2.numbers hql
                                have hco : wl.cell? ⟨w.heap.size, q, none⟩ = some (.string L[q]) := by
                                  rw [hord2.cell hql]; simp [List.getD, hql]
                                have hkey := keyOf_key (hsL.out _ (List.getElem_mem hql))
                                have HA := show Hid _ from hat
                                have HS := show Hid _ from hst2
                                have HO := show Hid _ from hord2
                                clear hat hst2 hord2
                                have hqi : (q : Int) < (L.length : Int) := by omega
                                go_wp2
                                go_quiet (fail)
                                go_wp2_with (first
                                  | (at_lookup; refine wpList_lookup_own_ok_int _ rfl _ _ 22 rfl 9 3 .i64 law Try.underlying22 Try.underlying3 (zero3 _) b L.length D rfl (ownsMap_drewN hown _) _ _ rfl hkey ?_)
                                  | go_in)
                                intro c hatc hwc
                                obtain rfl : c = (q : Int) := by
                                  have h := HA.out
                                  rw [hatc] at h
                                  simpa using h
                                clear hatc hwc
                                go_wp2
                                go_roundw
                                case rel => first | exact ⟨q + 1, _, by omega, by go_num, rfl⟩ | ((repeat apply Exists.intro); exact ⟨⟨q + 1, _, by omega, by go_num, rfl⟩, rfl⟩)
                                case measure => simp [intOf]; omega
                              · go_wp2
                                go_ret
                                exact ⟨rfl, below_drewN hord2.bel _⟩
          · have hne : ((sz : Int) != (nm.length : Int)) = true := by simpa using (by omega : (sz : Int) ≠ nm.length)
            go_wp2
            go_ret
            exact ⟨rfl, Below.refl _ _⟩

set_option maxHeartbeats 1000000 in
set_option maxRecDepth 100000 in
theorem main_big (mo : Option Nat) (sz : Nat) (ao bo : Option Addr) (n ncap m scap : Nat) (w : World) (hm : Looks w mo sz) (h : 4096 < sz ∨ 4096 < n ∨ 4096 < m) :
    Calls Try.prog 3 #[.map mo, .slice ao n ncap, .slice bo m scap] w fun e w' => e = .returned (.bool true) ∧ Below w.heap.size w w' := by
  have hlen := hm.len
  by_cases h1 : 4096 < sz
  · clear h
    go_enter Try.func3, Try.ntmps3
    go_wp2
    go_ret
    exact ⟨rfl, Below.refl _ _⟩
  · by_cases h2 : 4096 < n
    · clear h
      go_enter Try.func3, Try.ntmps3
      go_wp2
      go_ret
      exact ⟨rfl, Below.refl _ _⟩
    · have h3 : 4096 < m := by omega
      clear h
      go_enter Try.func3, Try.ntmps3
      go_wp2
      go_ret
      exact ⟨rfl, Below.refl _ _⟩
end Go.Proofs.Qxb6617708a
