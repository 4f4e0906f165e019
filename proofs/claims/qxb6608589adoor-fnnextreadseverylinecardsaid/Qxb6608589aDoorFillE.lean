import Derived.Test.Qxb6608589aDoorFill
namespace Go.Proofs.Qxb6608589aDoor
open Go.RowKit Go.Joins
set_option linter.unusedVariables false

set_option maxHeartbeats 1000000 in
/-- fill, at the data's end -/
theorem fill_eof (br bs bb S n r wr i : Nat) (dp : Option Addr) (te : TypeId) (aE : Addr) (lb lr pr : Int) (buf : List Int) (w : World)
    (hr : r ≤ wr) (hwr : wr ≤ S) (hlt : wr - r < S) (hi : n ≤ i) (hS : S ≤ 1099511627776) (hb : buf.length = S) (hE : w.cell? ⟨2, 0, none⟩ = some (.iface te (.pointer (some aE))))
    (hbr : w.heap[br]? = some (.cells (rdr bb S bs r wr .nilIface lb lr) 55 (0, 0)))
    (hbs : w.heap[bs]? = some (.cells #[.slice dp n n, .int .i64 i, .int .i64 pr] 58 (0, 0)))
    (hbb : w.heap[bb]? = some (.cells (cellsB buf) 5 (0, 0)))
    (h1 : 2 < bs) (h2 : bs < br) (h3 : br < bb) :
    Calls Tryd.prog 27 #[.pointer (some ⟨br, 0, none⟩)] w fun e w' => e = .returned (.tuple #[]) ∧ Touch [br, bs, bb] w w' ∧
      ∃ buf', buf'.length = S ∧ buf'.take (wr - r) = (buf.drop r).take (wr - r) ∧
      w'.heap[br]? = some (.cells (rdr bb S bs 0 (wr - r) (.iface te (.pointer (some aE))) lb lr) 55 (0, 0)) ∧
      w'.heap[bs]? = some (.cells #[.slice dp n n, .int .i64 i, .int .i64 pr] 58 (0, 0)) ∧
      w'.heap[bb]? = some (.cells (cellsB buf') 5 (0, 0)) := by
  have c0 : w.cell? ⟨br, 0, none⟩ = some (.slice (some ⟨bb, 0, none⟩) S S) := by rw [cell_of_block hbr]; rfl
  have c2 : w.cell? ⟨br, 2, none⟩ = some (.int .i64 r) := by rw [cell_of_block hbr]; rfl
  have c3 : w.cell? ⟨br, 3, none⟩ = some (.int .i64 wr) := by rw [cell_of_block hbr]; rfl
  have f2 : w.frozen? ⟨br, 2, none⟩ = false := unfrozen_of_block hbr 2
  have f3 : w.frozen? ⟨br, 3, none⟩ = false := unfrozen_of_block hbr 3
  have HBR := (show Hid _ from hbr)
  have HBS := (show Hid _ from hbs)
  have HBB := (show Hid _ from hbb)
  have HEE := (show Hid _ from hE)
  have HB := (show Hid _ from hb)
  clear hbr hbs hbb hE hb
  have hz : (0 : Int) ≤ (r : Int) := by omega
  have hrw : (r : Int) ≤ (wr : Int) := by omega
  have hws : (wr : Int) ≤ (S : Int) := by omega
  by_cases h0 : 0 < r
  case pos =>
    obtain ⟨CS, hCS⟩ : ∃ CS, CS = ((buf.drop r).take (wr - r)).map (Value.int .u8) := ⟨_, rfl⟩
    have hl : CS.length = wr - r := by rw [hCS]; simp [HB.out]; omega
    have HL : Hid (CS.length = Nat.min (wr - r) S) := by
      rw [Hid, hl, show Nat.min (wr - r) S = min (wr - r) S from rfl]; omega
    have HS : Hid (∀ j v, CS[j]? = some v → w.cell? ((⟨bb, r, none⟩ : Addr).add j) = some v) := by
      rw [Hid, hCS]; exact cellsB_src HBB.out r _
    have HO : Hid (∀ v ∈ CS, v.oneCell' = true) := by rw [Hid, hCS]; exact oneB _
    have HC := (show Hid _ from hCS)
    have HL2 := (show Hid _ from hl)
    clear hCS hl
    go_enter Tryd.func27, Tryd.ntmps27
    go_wp2
    go_region_held3 (fun w' => w'.cell? ⟨br, 0, none⟩ = some (.slice (some ⟨bb, 0, none⟩) S S) ∧ w'.cell? ⟨br, 2, none⟩ = some (.int .i64 r) ∧ w'.cell? ⟨br, 3, none⟩ = some (.int .i64 wr)) (first | go_keep | exact ⟨hT2.cell (by simp; omega) c0, hT2.cell (by simp; omega) c2, hT2.cell (by simp; omega) c3⟩)
      ((refine step_copy_touch rfl (.tmp 13) (.tmp 26) 25 25 (by rfl) 5 Tryd.underlying25 Tryd.size5 _ _ S S _ _ (by rfl) (by rfl) bb 0 (buf.map (Value.int .u8)) 5 (by exact HBB.out) CS (by exact HL.out) (by exact fun hp => ⟨rfl, ⟨bb, r, none⟩, by have := HL2.out; simp; omega, HS.out⟩) (by have := HL2.out; have := HB.out; simp; omega) (by exact HO.out) ?_; intro w2 HG2 hT2))
    rename_i hH
    obtain ⟨_, g2, g3⟩ := hH
    have HT2 : Hid (Touch [br, bs, bb] w w2) := (Touch.refl _ w).drew.trans (hT2.mono (by simp))
    have HBR2 : Hid (w2.heap[br]? = some (.cells (rdr bb S bs r wr .nilIface lb lr) 55 (0, 0))) := hT2.row (by simp; omega) HBR.out
    have HBS2 : Hid (w2.heap[bs]? = some (.cells #[.slice dp n n, .int .i64 i, .int .i64 pr] 58 (0, 0))) := hT2.row (by simp; omega) HBS.out
    have HE2' : Hid (w2.cell? ⟨2, 0, none⟩ = some (.iface te (.pointer (some aE)))) := hT2.cell (by simp; omega) HEE.out
    have k2 : w2.frozen? ⟨br, 2, none⟩ = false := unfrozen_of_block HBR2.out 2
    have k3 : w2.frozen? ⟨br, 3, none⟩ = false := unfrozen_of_block HBR2.out 3
    clear hT2 c0 c2 c3 f2 f3 HBR HBS HBB HEE
    generalize (if S = r then some (⟨bb, 0, none⟩ : Addr) else some ⟨bb, r, none⟩) = zz
    go_wp2
    go_region
    go_wp2
    have e : (wr : Int) - (r : Int) = ((wr - r : Nat) : Int) := by omega
    have HT3 : Hid (Touch [br, bs, bb] w ((w2.setCell ⟨br, 3, none⟩ (.int .i64 (wr - r))).setCell ⟨br, 2, none⟩ (.int .i64 0)).drew) := ((HT2.out.setCell (by simp) _).setCell (by simp) _).drew
    have HBR3 : Hid (((w2.setCell ⟨br, 3, none⟩ (.int .i64 (wr - r))).setCell ⟨br, 2, none⟩ (.int .i64 0)).drew.heap[br]? = some (.cells (rdr bb S bs 0 (wr - r) .nilIface lb lr) 55 (0, 0))) := by
      have h := block_setCell (i := 2) (block_setCell (i := 3) HBR2.out (.int .i64 (wr - r))) (.int .i64 0)
      rw [e] at h
      rw [e]
      exact h
    have HBS3 : Hid (((w2.setCell ⟨br, 3, none⟩ (.int .i64 (wr - r))).setCell ⟨br, 2, none⟩ (.int .i64 0)).drew.heap[bs]? = some (.cells #[.slice dp n n, .int .i64 i, .int .i64 pr] 58 (0, 0))) :=
      (Below.heap_setCell _ _ _ bs (by simp; omega)).trans ((Below.heap_setCell _ _ _ bs (by simp; omega)).trans HBS2.out)
    have HE3 : Hid (((w2.setCell ⟨br, 3, none⟩ (.int .i64 (wr - r))).setCell ⟨br, 2, none⟩ (.int .i64 0)).drew.cell? ⟨2, 0, none⟩ = some (.iface te (.pointer (some aE)))) := by
      show World.cell? _ _ = _
      rw [World.cell?_drew, World.cell?_setCell_other _ _ _ _ (by intro h; injection h; omega), World.cell?_setCell_other _ _ _ _ (by intro h; injection h; omega)]
      exact HE2'.out
    have HBB3 : Hid (((w2.setCell ⟨br, 3, none⟩ (.int .i64 (wr - r))).setCell ⟨br, 2, none⟩ (.int .i64 0)).drew.heap[bb]? = some (.cells (cellsB (splice buf 0 ((buf.drop r).take (wr - r)))) 5 (0, 0))) := by
      refine (Below.heap_setCell _ _ _ bb (by simp; omega)).trans ((Below.heap_setCell _ _ _ bb (by simp; omega)).trans ?_)
      rw [HG2.out, HC.out, splice_map]; rfl
    have hl : ((buf.drop r).take (wr - r)).length = wr - r := by have := HB.out; simp; omega
    have HB3 : Hid ((splice buf 0 ((buf.drop r).take (wr - r))).length = S) := by rw [Hid, length_splice _ _ _ (by have := HB.out; omega), HB.out]
    have HW3 : Hid ((splice buf 0 ((buf.drop r).take (wr - r))).take (wr - r) = (buf.drop r).take (wr - r)) := by
      have h := splice_zero_take buf ((buf.drop r).take (wr - r))
      rw [hl] at h; exact h
    clear HBR2 HBS2 HE2' HG2 HT2 g2 g3 k2 k3 e hl HL HS HO HC HL2
    generalize ((w2.setCell ⟨br, 3, none⟩ (.int .i64 (wr - r))).setCell ⟨br, 2, none⟩ (.int .i64 0)).drew = w3 at *
    generalize splice buf 0 ((buf.drop r).take (wr - r)) = buf3 at *
    generalize hE1 : (buf.drop r).take (wr - r) = win at *
    generalize hE2 : wr - r = wr3 at *
    have HE1 := (show Hid _ from hE1)
    have HE2 := (show Hid _ from hE2)
    clear hE1 hE2
    have c0 : w3.cell? ⟨br, 0, none⟩ = some (.slice (some ⟨bb, 0, none⟩) S S) := by rw [cell_of_block HBR3.out]; rfl
    have c1 : w3.cell? ⟨br, 1, none⟩ = some (.iface 46 (.pointer (some ⟨bs, 0, none⟩))) := by rw [cell_of_block HBR3.out]; rfl
    have c3 : w3.cell? ⟨br, 3, none⟩ = some (.int .i64 wr3) := by rw [cell_of_block HBR3.out]; rfl
    have d0 : w3.cell? ⟨bs, 0, none⟩ = some (.slice dp n n) := by rw [cell_of_block HBS3.out]; rfl
    have d1 : w3.cell? ⟨bs, 1, none⟩ = some (.int .i64 i) := by rw [cell_of_block HBS3.out]; rfl
    have c4 : w3.cell? ⟨br, 4, none⟩ = some .nilIface := by rw [cell_of_block HBR3.out]; rfl
    have f3 : w3.frozen? ⟨br, 3, none⟩ = false := unfrozen_of_block HBR3.out 3
    have f4 : w3.frozen? ⟨br, 4, none⟩ = false := unfrozen_of_block HBR3.out 4
    have hwr' : ¬ (S : Int) ≤ (wr3 : Int) := by omega
    have hz3 : (0 : Int) ≤ (wr3 : Int) := by omega
    have hws3 : (wr3 : Int) ≤ (S : Int) := by omega
    have hne : ¬ S = wr3 := by omega
    go_quiet (fail)
    go_wp2
    refine wp_loop_rounds 1 ?_
    rw [rounds_succ]
    go_wp2
    go_region_held3 (fun w' => w'.cell? ⟨br, 0, none⟩ = some (.slice (some ⟨bb, 0, none⟩) S S) ∧ w'.cell? ⟨br, 1, none⟩ = some (.iface 46 (.pointer (some ⟨bs, 0, none⟩))) ∧ w'.cell? ⟨br, 3, none⟩ = some (.int .i64 wr3)) (first | go_keep | exact ⟨hT4.cell (by simp; omega) c0, hT4.cell (by simp; omega) c1, hT4.cell (by simp; omega) c3⟩)
      (first | (go_at_call 49; refine (read_eof bs n i dp _ te aE _ hi (by exact d0) (by exact d1) (by exact HE3.out)).mono ?_; rintro e w4 ⟨rfl, q4, rfl⟩))
    clear HE3 d0 d1
    go_wp2
    go_returns
    rw [HE2.out, HE1.out]
    refine ⟨rfl, ((HT3.out.drewN _).setCell (by simp) _).setCell (by simp) _, buf3, HB3.out, HW3.out, ?_, ?_, ?_⟩
    · have h := block_setCell (i := 4) (block_setCell (w := w3.drewN (nq + 1 + q4)) (i := 3) HBR3.out (.int .i64 wr3)) (.iface te (.pointer (some aE)))
      exact h
    · exact (Below.heap_setCell _ _ _ bs (by simp; omega)).trans ((Below.heap_setCell _ _ _ bs (by simp; omega)).trans HBS3.out)
    · exact (Below.heap_setCell _ _ _ bb (by simp; omega)).trans ((Below.heap_setCell _ _ _ bb (by simp; omega)).trans HBB3.out)
  case neg =>
    obtain rfl : r = 0 := by omega
    go_enter Tryd.func27, Tryd.ntmps27
    go_wp2
    generalize hw : w = w3
    have HT3 : Hid (Touch [br, bs, bb] w w3) := by subst hw; exact Touch.refl _ _
    have HBR3 : Hid (w3.heap[br]? = some (.cells (rdr bb S bs 0 (wr - 0) .nilIface lb lr) 55 (0, 0))) := by subst hw; exact HBR.out
    have HBS3 : Hid (w3.heap[bs]? = some (.cells #[.slice dp n n, .int .i64 i, .int .i64 pr] 58 (0, 0))) := by subst hw; exact HBS.out
    have HBB3 : Hid (w3.heap[bb]? = some (.cells (cellsB buf) 5 (0, 0))) := by subst hw; exact HBB.out
    have HE3 : Hid (w3.cell? ⟨2, 0, none⟩ = some (.iface te (.pointer (some aE)))) := by subst hw; exact HEE.out
    have HB3 : Hid (buf.length = S) := HB.out
    have HW3 : Hid (buf.take (wr - 0) = (buf.drop 0).take (wr - 0)) := rfl
    clear hw c0 c2 c3 f2 f3 HBR HBS HBB HEE hr hwr hrw hws hz
    generalize hE1 : (buf.drop 0).take (wr - 0) = win at *
    generalize hE2 : wr - 0 = wr3 at *
    have HE1 := (show Hid _ from hE1)
    have HE2 := (show Hid _ from hE2)
    clear hE1 hE2
    generalize hE3 : buf = buf3 at HBB3 HB3 HW3
    clear hE3
    have c0 : w3.cell? ⟨br, 0, none⟩ = some (.slice (some ⟨bb, 0, none⟩) S S) := by rw [cell_of_block HBR3.out]; rfl
    have c1 : w3.cell? ⟨br, 1, none⟩ = some (.iface 46 (.pointer (some ⟨bs, 0, none⟩))) := by rw [cell_of_block HBR3.out]; rfl
    have c3 : w3.cell? ⟨br, 3, none⟩ = some (.int .i64 wr3) := by rw [cell_of_block HBR3.out]; rfl
    have d0 : w3.cell? ⟨bs, 0, none⟩ = some (.slice dp n n) := by rw [cell_of_block HBS3.out]; rfl
    have d1 : w3.cell? ⟨bs, 1, none⟩ = some (.int .i64 i) := by rw [cell_of_block HBS3.out]; rfl
    have c4 : w3.cell? ⟨br, 4, none⟩ = some .nilIface := by rw [cell_of_block HBR3.out]; rfl
    have f3 : w3.frozen? ⟨br, 3, none⟩ = false := unfrozen_of_block HBR3.out 3
    have f4 : w3.frozen? ⟨br, 4, none⟩ = false := unfrozen_of_block HBR3.out 4
    have hwr' : ¬ (S : Int) ≤ (wr3 : Int) := by omega
    have hz3 : (0 : Int) ≤ (wr3 : Int) := by omega
    have hws3 : (wr3 : Int) ≤ (S : Int) := by omega
    have hne : ¬ S = wr3 := by omega
    go_quiet (fail)
    go_wp2
    refine wp_loop_rounds 1 ?_
    rw [rounds_succ]
    go_wp2
    go_region_held3 (fun w' => w'.cell? ⟨br, 0, none⟩ = some (.slice (some ⟨bb, 0, none⟩) S S) ∧ w'.cell? ⟨br, 1, none⟩ = some (.iface 46 (.pointer (some ⟨bs, 0, none⟩))) ∧ w'.cell? ⟨br, 3, none⟩ = some (.int .i64 wr3)) (first | go_keep | exact ⟨hT4.cell (by simp; omega) c0, hT4.cell (by simp; omega) c1, hT4.cell (by simp; omega) c3⟩)
      (first | (go_at_call 49; refine (read_eof bs n i dp _ te aE _ hi (by exact d0) (by exact d1) (by exact HE3.out)).mono ?_; rintro e w4 ⟨rfl, q4, rfl⟩))
    clear HE3 d0 d1
    go_wp2
    go_returns
    rw [HE2.out, HE1.out]
    refine ⟨rfl, ((HT3.out.drewN _).setCell (by simp) _).setCell (by simp) _, buf3, HB3.out, HW3.out, ?_, ?_, ?_⟩
    · have h := block_setCell (i := 4) (block_setCell (w := w3.drewN (nq + 1 + q4)) (i := 3) HBR3.out (.int .i64 wr3)) (.iface te (.pointer (some aE)))
      exact h
    · exact (Below.heap_setCell _ _ _ bs (by simp; omega)).trans ((Below.heap_setCell _ _ _ bs (by simp; omega)).trans HBS3.out)
    · exact (Below.heap_setCell _ _ _ bb (by simp; omega)).trans ((Below.heap_setCell _ _ _ bb (by simp; omega)).trans HBB3.out)
end Go.Proofs.Qxb6608589aDoor
