import Derived.Test.Qxb6608589aDoorFillE
import Derived.Deep.LoopGhost
import Derived.Lib.IndexLaws
namespace Go.Proofs.Qxb6608589aDoor
open Go.RowKit Go.Joins
set_option linter.unusedVariables false

theorem readErr_any (br : Nat) (te : TypeId) (aE : Addr) (w : World) (h4 : w.cell? ⟨br, 4, none⟩ = some (.iface te (.pointer (some aE)))) (f4 : w.frozen? ⟨br, 4, none⟩ = false) :
    Calls Tryd.prog 25 #[.pointer (some ⟨br, 0, none⟩)] w fun e w' => e = .returned (.iface te (.pointer (some aE))) ∧ w' = w.setCell ⟨br, 4, none⟩ .nilIface := by
  go_enter Tryd.func25, Tryd.ntmps25
  go_wp2
  go_ret
  exact ⟨rfl, rfl⟩

theorem buffered_any (br r wr : Nat) (w : World) (hr : r ≤ wr) (hw : wr ≤ 1099511627776) (h2 : w.cell? ⟨br, 2, none⟩ = some (.int .i64 r)) (h3 : w.cell? ⟨br, 3, none⟩ = some (.int .i64 wr)) :
    Calls Tryd.prog 26 #[.pointer (some ⟨br, 0, none⟩)] w fun e w' => e = .returned (.int .i64 (wr - r : Nat)) ∧ ∃ q, w' = w.drewN q := by
  go_enter Tryd.func26, Tryd.ntmps26
  go_wp2
  go_quiet (fail)
  go_wp2
  go_ret
  exact ⟨ret_int (by omega), _, rfl⟩

/-- the reader's place in its data: what is still to be read is P -/
def Rd (w : World) (br bs bb S : Nat) (dp : Option Addr) (data P : List Int) (err : Value) : Prop :=
  ∃ (r wr i : Nat) (lb lr pr : Int) (buf : List Int), r ≤ wr ∧ wr ≤ S ∧ buf.length = S ∧ i ≤ data.length ∧ (buf.drop r).take (wr - r) ++ data.drop i = P ∧
    w.heap[br]? = some (.cells (rdr bb S bs r wr err lb lr) 55 (0, 0)) ∧
    w.heap[bs]? = some (.cells #[.slice dp data.length data.length, .int .i64 i, .int .i64 pr] 58 (0, 0)) ∧
    w.heap[bb]? = some (.cells (cellsB buf) 5 (0, 0))

/-- what does not turn while the reader reads -/
structure Env (w : World) (br bs bb bd S : Nat) (dp : Option Addr) (data : List Int) (te : TypeId) (aE aF : Addr) : Prop where
  h0 : 4 ≤ bd
  h1 : bd < bs
  h2 : bs < br
  h3 : br < bb
  hS : 0 < S
  hS2 : S ≤ 1099511627776
  hn : data.length ≤ 1099511627776
  hd : 0 < data.length → dp = some ⟨bd, 0, none⟩ ∧ w.heap[bd]? = some (.cells (cellsB data) 5 (0, 0))
  hE : w.cell? ⟨2, 0, none⟩ = some (.iface te (.pointer (some aE)))
  hF : w.cell? ⟨1, 0, none⟩ = some (.iface te (.pointer (some aF)))
  hne : aE ≠ aF
  hEb : aE.block ≤ bd ∧ ∃ c t, w.heap[aE.block]? = some (.cells c t (0, 0))
  hFb : aF.block ≤ bd ∧ ∃ c t, w.heap[aF.block]? = some (.cells c t (0, 0))

theorem Env.touch {w w' : World} {br bs bb bd S : Nat} {dp : Option Addr} {data : List Int} {te : TypeId} {aE aF : Addr} (h : Env w br bs bb bd S dp data te aE aF) {L : List Nat} (hT : Touch L w w') (hL : ∀ k ∈ L, bd < k) : Env w' br bs bb bd S dp data te aE aF :=
  have hb := h.h0
  ⟨h.h0, h.h1, h.h2, h.h3, h.hS, h.hS2, h.hn, fun hp => ⟨(h.hd hp).1, hT.row (fun hm => by have := hL _ hm; omega) (h.hd hp).2⟩,
    hT.cell (fun hm => by have := hL _ hm; simp at this; omega) h.hE, hT.cell (fun hm => by have := hL _ hm; simp at this; omega) h.hF, h.hne,
    ⟨h.hEb.1, by obtain ⟨c, t, hc⟩ := h.hEb.2; exact ⟨c, t, hT.row (fun hm => by have := hL _ hm; have := h.hEb.1; omega) hc⟩⟩, ⟨h.hFb.1, by obtain ⟨c, t, hc⟩ := h.hFb.2; exact ⟨c, t, hT.row (fun hm => by have := hL _ hm; have := h.hFb.1; omega) hc⟩⟩⟩

/-- fill, in the words of Rd -/
theorem fill_rd (br bs bb bd S : Nat) (dp : Option Addr) (data P : List Int) (te : TypeId) (aE aF : Addr) (r wr i : Nat) (lb lr pr : Int) (buf : List Int) (w : World)
    (he : Env w br bs bb bd S dp data te aE aF) (hr : r ≤ wr) (hw : wr ≤ S) (hlt : wr - r < S) (hb : buf.length = S) (hi : i ≤ data.length)
    (hP : (buf.drop r).take (wr - r) ++ data.drop i = P)
    (hbr : w.heap[br]? = some (.cells (rdr bb S bs r wr .nilIface lb lr) 55 (0, 0)))
    (hbs : w.heap[bs]? = some (.cells #[.slice dp data.length data.length, .int .i64 i, .int .i64 pr] 58 (0, 0)))
    (hbb : w.heap[bb]? = some (.cells (cellsB buf) 5 (0, 0))) :
    Calls Tryd.prog 27 #[.pointer (some ⟨br, 0, none⟩)] w fun e w' => e = .returned (.tuple #[]) ∧ Touch [br, bs, bb] w w' ∧
      ∃ (wr' i' : Nat) (lb lr pr : Int) (buf' : List Int) (err : Value), wr - r ≤ wr' ∧ wr' ≤ S ∧ buf'.length = S ∧ i' ≤ data.length ∧ buf'.take wr' ++ data.drop i' = P ∧ ((err = .nilIface ∧ i < i') ∨ (err = .iface te (.pointer (some aE)) ∧ data.length ≤ i' ∧ i' = i ∧ wr' ≤ wr - r)) ∧
        (buf'.take (wr - r) = (buf.drop r).take (wr - r)) ∧
        w'.heap[br]? = some (.cells (rdr bb S bs 0 wr' err lb lr) 55 (0, 0)) ∧
        w'.heap[bs]? = some (.cells #[.slice dp data.length data.length, .int .i64 i', .int .i64 pr] 58 (0, 0)) ∧
        w'.heap[bb]? = some (.cells (cellsB buf') 5 (0, 0)) := by
  have hl : ((buf.drop r).take (wr - r)).length = wr - r := by simp; omega
  by_cases hc : i < data.length
  · obtain ⟨hdp, hbd⟩ := he.hd (by omega)
    subst hdp
    refine (fill_data br bs bb bd S data.length r wr i lb lr pr data buf w hr hw hlt hc he.hS2 he.hn rfl hb hbr hbs hbb hbd he.h1 he.h2 he.h3).mono ?_
    rintro e w' ⟨rfl, hT, k, buf', hk0, hk1, hk2, hb', htk, hbr', hbs', hbb'⟩
    refine ⟨rfl, hT, wr - r + k, i + k, lb, lr, -1, buf', .nilIface, by omega, hk2, hb', by omega, ?_, Or.inl ⟨rfl, by omega⟩, ?_, hbr', hbs', hbb'⟩
    · rw [htk, ← hP, List.append_assoc, ← List.drop_drop, List.take_append_drop]
    · have h := congrArg (List.take (wr - r)) htk
      rw [List.take_take, Nat.min_eq_left (by omega), List.take_left' hl] at h
      exact h
  · refine (fill_eof br bs bb S data.length r wr i dp te aE lb lr pr buf w hr hw hlt (by omega) he.hS2 hb he.hE hbr hbs hbb (by have := he.h0; have := he.h1; omega) he.h2 he.h3).mono ?_
    rintro e w' ⟨rfl, hT, buf', hb', htk, hbr', hbs', hbb'⟩
    refine ⟨rfl, hT, wr - r, i, lb, lr, pr, buf', _, by omega, by omega, hb', by omega, ?_, Or.inr ⟨rfl, by omega, rfl, by omega⟩, htk, hbr', hbs', hbb'⟩
    rw [htk, ← hP]

/-- numbers of bytes -/
def Byt (xs : List Int) : Prop := ∀ x ∈ xs, 0 ≤ x ∧ x < 256
theorem ofNat_byte (x : Int) (h0 : 0 ≤ x) (h1 : x < 256) (h : UInt8.ofNat x.toNat = 10) : x = 10 := by
  have h2 := congrArg UInt8.toNat h
  simp at h2
  omega

theorem getElem_bytesOf (xs : List Int) (k : Nat) : (Lib.bytesOf xs)[k]? = xs[k]?.map fun n => UInt8.ofNat n.toNat := by simp [Lib.bytesOf]
/-- bytes.IndexByte at '\n', as the walk hands it on -/
def idx10 (xs : List Int) : Int := Lib.indexByte (Lib.bytesOf xs) (10 : Int).toNat.toUInt8
theorem idx10_none (xs : List Int) (hb : Byt xs) (h : idx10 xs = -1) : 10 ∉ xs := by
  intro hm
  obtain ⟨k, hk⟩ := List.mem_iff_getElem?.1 hm
  have h2 := Lib.indexByte_none (l := Lib.bytesOf xs) h k
  rw [getElem_bytesOf, hk] at h2
  exact h2 rfl
theorem idx10_some (xs : List Int) (hb : Byt xs) (j : Nat) (h : idx10 xs = (j : Int)) : xs[j]? = some 10 ∧ 10 ∉ xs.take j := by
  have h2 := Lib.indexByte_some (l := Lib.bytesOf xs) (o := j) h
  refine ⟨?_, ?_⟩
  · have h3 := h2.1
    rw [getElem_bytesOf] at h3
    cases hx : xs[j]? with
    | none => rw [hx] at h3; simp at h3
    | some x =>
      rw [hx] at h3
      have hm : x ∈ xs := List.mem_of_getElem? hx
      have := ofNat_byte x (hb x hm).1 (hb x hm).2 (by simpa using h3)
      rw [this]
  · intro hm
    obtain ⟨k, hk⟩ := List.mem_iff_getElem?.1 hm
    rw [List.getElem?_take] at hk
    split at hk
    · have h4 := h2.2 k (by assumption)
      rw [getElem_bytesOf, hk] at h4
      exact h4 rfl
    · cases hk
theorem idx10_ge (xs : List Int) : -1 ≤ idx10 xs := Lib.indexByte_ge _ _
theorem idx10_lt (xs : List Int) (hb : Byt xs) : idx10 xs < xs.length ∨ idx10 xs = -1 := by
  rcases Int.lt_or_le (idx10 xs) 0 with h | h
  · right; have := idx10_ge xs; omega
  · left
    obtain ⟨j, hj⟩ := Int.eq_ofNat_of_zero_le h
    have h2 := (idx10_some xs hb j hj).1
    have := (List.getElem?_eq_some_iff.1 h2).1
    omega

/-- bytes.IndexByte over a part of the buffer -/
theorem index_any (p : Option Addr) (b o n c : Nat) (xs : List Int) (w : World) (hx : xs.length = n) (hp : ∃ a, p = some a ∧ (0 < n → a = ⟨b, o, none⟩)) (hc : ∀ i, i < n → w.cell? ⟨b, o + i, none⟩ = some (.int .u8 (xs.getD i 0))) :
    Calls Tryd.prog 24 #[.slice p n c, .int .u8 10] w fun e w' => e = .returned (.int .i64 (idx10 xs)) ∧ w' = w := by
  obtain ⟨a, rfl, ha⟩ := hp
  refine Tryd.bytes_IndexByte_at a n c xs 10 w hx ?_
  intro i hi
  rw [ha (by omega), Addr.add_lit]
  exact hc i hi

end Go.Proofs.Qxb6608589aDoor
