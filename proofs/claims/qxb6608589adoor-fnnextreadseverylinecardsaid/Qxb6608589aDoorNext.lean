import Derived.Test.Qxb6608589aDoorTrim
import Derived.Deep.DeepCutAuto
import Derived.Maps.AppendAt
import Derived.Deep.DeepMust
namespace Go.Proofs.Qxb6608589aDoor
open Go.RowKit Go.Joins
set_option linter.unusedVariables false

theorem Tryd.comp66 : (Tryd.prog.info? 66).map (·.comparable) = some true := by kernel_rfl
theorem Tryd.size85 : (Tryd.prog.info? 85).map (·.size) = some 1 := by kernel_rfl

theorem eql_same (w : World) (a : Addr) : (binOp .eql 33 (.iface 66 (.pointer (some a))) (.iface 66 (.pointer (some a)))).run Tryd.prog w = .ok (.bool true) w := by
  have h1 := Tryd.comp66
  have h2 := Tryd.size85
  cases hi : Tryd.prog.info? 66 with
  | none => rw [hi] at h1; simp at h1
  | some i =>
    cases hj : Tryd.prog.info? 85 with
    | none => rw [hj] at h2; simp at h2
    | some j =>
      rw [hi] at h1
      exact run_eql_iface_ptr_same (P := Tryd.prog) w a Tryd.underlying33 Tryd.underlying66 hi (by simpa using h1) hj
theorem eql_other (w : World) (a b : Addr) (hne : a ≠ b) (ha : ∃ c t, w.heap[a.block]? = some (.cells c t (0, 0))) (hb : ∃ c t, w.heap[b.block]? = some (.cells c t (0, 0))) :
    (binOp .eql 33 (.iface 66 (.pointer (some a))) (.iface 66 (.pointer (some b)))).run Tryd.prog w = .ok (.bool false) w := by
  have h1 := Tryd.comp66
  have h2 := Tryd.size85
  obtain ⟨c, t, ha⟩ := ha
  obtain ⟨c', t', hb⟩ := hb
  cases hi : Tryd.prog.info? 66 with
  | none => rw [hi] at h1; simp at h1
  | some i =>
    cases hj : Tryd.prog.info? 85 with
    | none => rw [hj] at h2; simp at h2
    | some j =>
      rw [hi] at h1
      rw [hj] at h2
      exact run_eql_iface_ptr_other (P := Tryd.prog) w Tryd.underlying33 Tryd.underlying66 hi (by simpa using h1) hj (by simp at h2; omega) hne ha hb
theorem eql_nil (w : World) (v : Value) : (binOp .eql 33 .nilIface (.iface 66 v)).run Tryd.prog w = .ok (.bool false) w :=
  run_eql_iface_nil_left (P := Tryd.prog) w 66 v Tryd.underlying33

/-- the cells of a hostFirstLines -/
def hfl (br cnt : Nat) (lv : Value) : Array Value := #[.pointer (some ⟨br, 0, none⟩), .int .i64 cnt, lv, .slice none 0 0]

/-- a piece of the text: up to a line feed, or the rest -/
def Piece (X P' : List Int) : Prop := (∃ X0, X = X0 ++ [10] ∧ 10 ∉ X0) ∨ (10 ∉ X ∧ P' = [] ∧ X ≠ [])

/-- where the loop and the branch meet: the line is read, but for its end -/
def Met (w : World) (bl br bs bb bd S : Nat) (dp : Option Addr) (data P : List Int) (aE aF : Addr) (cnt : Nat) (lv : Value) (line ev : Value) (w' : World) : Prop :=
  ∃ (X P' : List Int) (a : Addr) (c : Nat) (lv' : Value) (xs : List Value) (m : Nat), line = .slice (some a) X.length c ∧ X.length ≤ c ∧ (0 < X.length → a.block ≠ bl) ∧ Lib.BytesIn w' (some a) X.length X ∧ P = X ++ P' ∧ Rd w' br bs bb S dp data P' .nilIface ∧
    w'.heap[bl]? = some (.cells (hfl br cnt lv') 49 (0, 0)) ∧ w'.ownsRow (bl + 1) 5 1 lv' m xs ∧ Touch ([bl, br, bs, bb] ++ lv.ownBlock.toList) w w' ∧
    (lv'.ownBlock = lv.ownBlock ∨ ∃ g, lv'.ownBlock = some g ∧ w.heap.size ≤ g) ∧
    ((ev = .nilIface ∧ ∃ X0, X = X0 ++ [10] ∧ 10 ∉ X0) ∨ (ev = .iface 66 (.pointer (some aE)) ∧ 10 ∉ X ∧ P' = []))

theorem bytesIn_touch {w w' : World} {S : List Nat} {a : Addr} {n : Nat} {xs : List Int} (h : Lib.BytesIn w (some a) n xs) (hT : Touch S w w') (hne : 0 < n → a.block ∉ S) : Lib.BytesIn w' (some a) n xs := by
  intro h0
  obtain ⟨b, o, hp, hc⟩ := h h0
  refine ⟨b, o, hp, fun i hi => hT.cell ?_ (hc i hi)⟩
  injection hp with hp
  have := hne h0
  rw [hp] at this
  exact this

theorem bytesIn_tr {w : World} {p : Option Addr} {xs : List Int} (x : Int) (h : Lib.BytesIn w p xs.length xs) : Lib.BytesIn w p (tr x xs).length (tr x xs) := by
  have h2 := bytesIn_take h (tr x xs).length (tr_length x xs)
  rw [← tr_take] at h2
  exact h2
theorem byt_tr {xs : List Int} (x : Int) (h : Byt xs) : Byt (tr x xs) := fun y hy => h y (by rw [tr_take] at hy; exact List.mem_of_mem_take hy)
theorem Rd.touch {w w' : World} {br bs bb S : Nat} {dp : Option Addr} {data P : List Int} {err : Value} {T : List Nat} (h : Rd w br bs bb S dp data P err) (hT : Touch T w w') (h1 : br ∉ T) (h2 : bs ∉ T) (h3 : bb ∉ T) : Rd w' br bs bb S dp data P err := by
  obtain ⟨r, wr, i, lb, lr, pr, buf, q1, q2, q3, q4, q5, q6, q7, q8⟩ := h
  exact ⟨r, wr, i, lb, lr, pr, buf, q1, q2, q3, q4, q5, hT.row h1 q6, hT.row h2 q7, hT.row h3 q8⟩

theorem own_touch {w w' : World} {base e size n : Nat} {v : Value} {xs : List Value} {S : List Nat} (h : w.ownsRow base e size v n xs) (hT : Touch S w w') (hS : ∀ k ∈ S, k < base) : w'.ownsRow base e size v n xs := by
  refine ⟨h.1, ?_⟩
  rcases h.2 with h2 | ⟨g, cap, cur, hv, hg, hh, r⟩
  · exact Or.inl h2
  · exact Or.inr ⟨g, cap, cur, hv, hg, hT.row (fun hm => by have := hS g hm; omega) hh, r⟩

theorem own_zero {w : World} {base e size n g cap : Nat} {xs : List Value} (h : w.ownsRow base e size (.slice (some ⟨g, 0, none⟩) n cap) n xs) : w.ownsRow base e size (.slice (some ⟨g, 0, none⟩) 0 cap) 0 [] := by
  refine ⟨by simp, ?_⟩
  rcases h.2 with ⟨h2, _⟩ | ⟨g', cap', cur, hv, hg, hh, h3, h4, h5, h6⟩
  · cases h2
  · cases hv
    exact Or.inr ⟨g, cap, cur, rfl, hg, hh, Nat.zero_le _, h4, h5, by simp⟩

theorem news_cells {w : World} {a : Addr} {bb o : Nat} {L : List Int} (hp : 0 < L.length → a = ⟨bb, o, none⟩) (hc : ∀ i, i < L.length → w.cell? ⟨bb, o + i, none⟩ = some (.int .u8 (L.getD i 0))) :
    ∀ j u, (L.map (Value.int .u8))[j]? = some u → w.cell? (a.add j) = some u := by
  intro j u hu
  rw [List.getElem?_map] at hu
  cases hL : L[j]? with
  | none => rw [hL] at hu; simp at hu
  | some x =>
    rw [hL] at hu
    have hj := (List.getElem?_eq_some_iff.1 hL).1
    rw [hp (by omega), Addr.add_lit, hc j hj, List.getD_eq_getElem?_getD, hL]
    simpa using hu

theorem grown_row {w w' : World} {row : Option Nat} {g : Nat} {o : Obj} (h : w.grownBy w' row) (hg : w.heap[g]? = some o) (hne : some g ≠ row) : w'.heap[g]? = some o :=
  (h.block g (Array.getElem?_eq_some_iff.1 hg).1 hne).trans hg

theorem own_bytesIn {w : World} {base g cap : Nat} {X : List Int} (h : w.ownsRow base 5 1 (.slice (some ⟨g, 0, none⟩) X.length cap) X.length (X.map (Value.int .u8))) : Lib.BytesIn w (some ⟨g, 0, none⟩) X.length X := by
  intro h0
  refine ⟨g, 0, rfl, fun i hi => ?_⟩
  have h2 := h.cells (g := g) rfl i (.int .u8 (X.getD i 0)) (by simp [hi])
  rw [Addr.add_lit] at h2
  exact h2
theorem own_cap {w : World} {base e size n g cap : Nat} {xs : List Value} (h : w.ownsRow base e size (.slice (some ⟨g, 0, none⟩) n cap) n xs) : n ≤ cap ∧ base ≤ g ∧ g < w.heap.size := by
  rcases h.2 with ⟨h2, _⟩ | ⟨g', cap', cur, hv, hg, hh, h3, _⟩
  · cases h2
  · cases hv; exact ⟨h3, hg, (Array.getElem?_eq_some_iff.1 hh).1⟩

theorem hide {p : Prop} (h : p) : Hid p := h
theorem unhide {p : Prop} (h : Hid p) : p := h

theorem none_ne (a : Nat) : some a ≠ Value.ownBlock (.slice none 0 0) := fun e => by cases e
theorem own_lt {bl g n c k : Nat} (h : bl + 1 ≤ g) (hk : Value.ownBlock (.slice (some ⟨g, 0, none⟩) n c) = some k) : bl < k := by
  have : g = k := by simpa [Value.ownBlock] using hk
  omega
theorem some_ne {a g n c : Nat} (h : a ≠ g) : some a ≠ Value.ownBlock (.slice (some ⟨g, 0, none⟩) n c) := fun e => h (by simpa [Value.ownBlock] using e)

/-- the relation of next's loop -/
def LpN (w : World) (bl br bs bb bd S : Nat) (dp : Option Addr) (data P : List Int) (aE aF : Addr) (cnt : Nat) (lv : Value) (k : Nat) (ev : Value) (wx : World) : Prop :=
  ∃ (X P' : List Int) (g cap : Nat), P = X ++ P' ∧ 0 < X.length ∧ wx.heap[bl]? = some (.cells (hfl br cnt (.slice (some ⟨g, 0, none⟩) X.length cap)) 49 (0, 0)) ∧
    wx.ownsRow (bl + 1) 5 1 (.slice (some ⟨g, 0, none⟩) X.length cap) X.length (X.map (Value.int .u8)) ∧ (some g = lv.ownBlock ∨ w.heap.size ≤ g) ∧ Rd wx br bs bb S dp data P' .nilIface ∧ Touch ([bl, br, bs, bb] ++ lv.ownBlock.toList) w wx ∧
    ((ev = .iface 66 (.pointer (some aF)) ∧ 10 ∉ X ∧ P'.length + 1 ≤ k) ∨ (ev = .nilIface ∧ ∃ X0, X = X0 ++ [10] ∧ 10 ∉ X0) ∨ (ev = .iface 66 (.pointer (some aE)) ∧ 10 ∉ X ∧ P' = []))

theorem Touch.grown2 {S : List Nat} {a w w' : World} {row : Option Nat} (h : Touch S a w) (hg : w.grownBy w' row) (hr : ∀ k, row = some k → k ∈ S ∨ a.heap.size ≤ k) : Touch S a w' :=
  ⟨hg.os.trans h.os, hg.tape.trans h.tape, hg.output.trans h.output, Nat.le_trans h.size hg.size, fun k hk hs => (hg.block k (Nat.lt_of_lt_of_le hk h.size) (fun e => by
    rcases hr k e.symm with h1 | h1
    · exact hs h1
    · omega)).trans (h.block k hk hs)⟩

/-- append and store: the relation anew -/
theorem lp_mk {w w1 w2 : World} {bl br bs bb bd S : Nat} {dp : Option Addr} {data P : List Int} {aE aF : Addr} {cnt : Nat} {lv lvx : Value} {k : Nat} {ev : Value} {Y P2 : List Int} {g2 cap2 : Nat} {row : Option Nat}
    (hb2 : bs < br) (hb3 : br < bb) (hbl : bb < bl)
    (hT1 : Touch ([bl, br, bs, bb] ++ lv.ownBlock.toList) w w1) (hh1 : w1.heap[bl]? = some (.cells (hfl br cnt lvx) 49 (0, 0))) (hP : P = Y ++ P2) (hY : 0 < Y.length) (hrd : Rd w1 br bs bb S dp data P2 .nilIface)
    (hown2 : w2.ownsRow (bl + 1) 5 1 (.slice (some ⟨g2, 0, none⟩) Y.length cap2) Y.length (Y.map (Value.int .u8))) (hgr : w1.grownBy w2 row)
    (hrow : row = lv.ownBlock ∨ ∃ g, row = some g ∧ w.heap.size ≤ g) (hrow2 : ∀ k, row = some k → bl < k) (hat : some g2 = row ∨ some g2 = some w1.heap.size)
    (hk : (ev = .iface 66 (.pointer (some aF)) ∧ 10 ∉ Y ∧ P2.length + 1 ≤ k) ∨ (ev = .nilIface ∧ ∃ X0, Y = X0 ++ [10] ∧ 10 ∉ X0) ∨ (ev = .iface 66 (.pointer (some aE)) ∧ 10 ∉ Y ∧ P2 = [])) :
    LpN w bl br bs bb bd S dp data P aE aF cnt lv k ev (w2.setCell ⟨bl, 2, none⟩ (.slice (some ⟨g2, 0, none⟩) Y.length cap2)) := by
  have hne : some bl ≠ row := fun e => by have := hrow2 bl e.symm; omega
  have hT2 : Touch ([bl] ++ row.toList) w1 (w2.setCell ⟨bl, 2, none⟩ (.slice (some ⟨g2, 0, none⟩) Y.length cap2)) :=
    ((Touch.refl _ w1).grown2 hgr (fun k hk => Or.inl (by simp [hk]))).setCell (by simp) _
  have hmem : ∀ k, k < bl → k ∉ [bl] ++ row.toList := by
    intro k hk hm
    rcases List.mem_append.1 hm with hm | hm
    · simp at hm; omega
    · have := hrow2 k (by simpa using hm); omega
  refine ⟨Y, P2, g2, cap2, hP, hY, ?_, ownsRow_setCell_below hown2 (by simp) _, ?_, Rd.touch hrd hT2 (hmem _ (by omega)) (hmem _ (by omega)) (hmem _ (by omega)), ?_, hk⟩
  · exact block_setCell (i := 2) (grown_row hgr hh1 hne) _
  · rcases hat with h | h
    · rcases hrow with h2 | ⟨g, h2, h3⟩
      · exact Or.inl (h.trans h2)
      · rw [h2] at h; injection h with h; right; omega
    · injection h with h; right; have := hT1.size; omega
  · refine (hT1.grown2 hgr (fun k hk => ?_)).setCell (by simp) _
    rcases hrow with h2 | ⟨g, h2, h3⟩
    · left; rw [h2] at hk; simp [hk]
    · right; rw [h2] at hk; injection hk with hk; omega

def KN (X P2 : List Int) (ev : Value) (aE : Addr) : Prop := (ev = .nilIface ∧ ∃ X0, X = X0 ++ [10] ∧ 10 ∉ X0) ∨ (ev = .iface 66 (.pointer (some aE)) ∧ 10 ∉ X ∧ P2 = [])
theorem met_loop {w wr : World} {bl br bs bb bd S : Nat} {dp : Option Addr} {data P : List Int} {aE aF : Addr} {cnt : Nat} {lv : Value} {ev : Value} {X P2 : List Int} {g cap : Nat} (hP : P = X ++ P2)
    (hhx : wr.heap[bl]? = some (.cells (hfl br cnt (.slice (some ⟨g, 0, none⟩) X.length cap)) 49 (0, 0))) (hox : wr.ownsRow (bl + 1) 5 1 (.slice (some ⟨g, 0, none⟩) X.length cap) X.length (X.map (Value.int .u8)))
    (hgx : some g = lv.ownBlock ∨ w.heap.size ≤ g) (hrx : Rd wr br bs bb S dp data P2 .nilIface) (hTx : Touch ([bl, br, bs, bb] ++ lv.ownBlock.toList) w wr)
    (hk : KN X P2 ev aE) :
    Met w bl br bs bb bd S dp data P aE aF cnt lv (.slice (some ⟨g, 0, none⟩) X.length cap) ev wr := by
  have hc := own_cap hox
  refine ⟨X, P2, ⟨g, 0, none⟩, cap, _, _, _, rfl, hc.1, fun _ => by show g ≠ bl; omega, own_bytesIn hox, hP, hrx, hhx, hox, hTx, ?_, hk⟩
  rcases hgx with h | h
  · exact Or.inl h
  · exact Or.inr ⟨g, rfl, h⟩

theorem kind_more {X L P3 : List Int} {ev : Value} {aE aF : Addr} {k : Nat} {P2 : List Int} (hn : 10 ∉ X) (hP : P2 = L ++ P3) (hk : Kind L P3 ev 66 aE aF) (hkk : P2.length + 1 ≤ k) :
    (ev = .iface 66 (.pointer (some aF)) ∧ 10 ∉ X ++ L ∧ P3.length + 1 ≤ k - 1) ∨ (ev = .nilIface ∧ ∃ X0, X ++ L = X0 ++ [10] ∧ 10 ∉ X0) ∨ (ev = .iface 66 (.pointer (some aE)) ∧ 10 ∉ X ++ L ∧ P3 = []) := by
  rcases hk with ⟨h1, L0, h2, h3⟩ | ⟨h1, h2, h3⟩ | ⟨h1, h2, h3⟩
  · exact Or.inr (Or.inl ⟨h1, X ++ L0, by rw [h2, List.append_assoc], by simp [hn, h3]⟩)
  · refine Or.inl ⟨h1, by simp [hn, h2], ?_⟩
    rw [hP] at hkk; simp at hkk; omega
  · exact Or.inr (Or.inr ⟨h1, by simp [hn, h2], h3⟩)

set_option maxRecDepth 100000 in
set_option maxHeartbeats 2000000 in
theorem next_any (bl br bs bb bd S : Nat) (dp : Option Addr) (data P : List Int) (aE aF : Addr) (cnt : Nat) (lv : Value) (m0 : Nat) (xs0 : List Value) (w : World)
    (he : Env w br bs bb bd S dp data 66 aE aF) (hbl : bb < bl) (hP : Byt P) (hrd : Rd w br bs bb S dp data P .nilIface) (hcnt : cnt ≤ 1099511627776)
    (hh : w.heap[bl]? = some (.cells (hfl br cnt lv) 49 (0, 0))) (hown : w.ownsRow (bl + 1) 5 1 lv m0 xs0) :
    Calls Tryd.prog 20 #[.pointer (some ⟨bl, 0, none⟩)] w fun e w' => ∃ (lv' : Value) (m : Nat) (xs : List Value), w'.ownsRow (bl + 1) 5 1 lv' m xs ∧
      (lv'.ownBlock = lv.ownBlock ∨ ∃ g, lv'.ownBlock = some g ∧ w.heap.size ≤ g) ∧ Touch ([bl, br, bs, bb] ++ lv.ownBlock.toList) w w' ∧
      ((P = [] ∧ e = .returned (.tuple #[.slice none 0 0, .iface 66 (.pointer (some aE))]) ∧ Rd w' br bs bb S dp data [] .nilIface ∧ w'.heap[bl]? = some (.cells (hfl br cnt lv') 49 (0, 0))) ∨
        ∃ (X P' : List Int) (a : Addr) (c : Nat), P = X ++ P' ∧ Piece X P' ∧ e = .returned (.tuple #[.slice (some a) (trimL X).length c, .nilIface]) ∧ Rd w' br bs bb S dp data P' .nilIface ∧
          w'.heap[bl]? = some (.cells (hfl br (cnt + 1) lv') 49 (0, 0)) ∧ Lib.BytesIn w' (some a) (trimL X).length (trimL X)) := by
  have c0 : w.cell? ⟨bl, 0, none⟩ = some (.pointer (some ⟨br, 0, none⟩)) := by rw [cell_of_block hh]; rfl
  have HE := (show Hid _ from he)
  have HP := (show Hid _ from hP)
  have HRD := (show Hid _ from hrd)
  have HH := (show Hid _ from hh)
  have HO := (show Hid _ from hown)
  have HLB : Hid (∀ k ∈ [bl, br, bs, bb] ++ lv.ownBlock.toList, bd < k) := by
    intro k hk
    have h1 := he.h1; have h2 := he.h2; have h3 := he.h3
    rcases List.mem_append.1 hk with hk | hk
    · simp at hk; omega
    · have := (hown.lt k (by simpa using hk)).1; omega
  have HPL : Hid (P.length ≤ 2199023255552) := by
    obtain ⟨r, wr, i, lb, lr, pr, buf, q1, q2, q3, q4, q5, _⟩ := hrd
    have h1 := he.hS2; have h2 := he.hn
    rw [Hid, ← q5]; simp; omega
  have HEW := (show Hid _ from he)
  clear he hP hrd hh hown
  go_enter Tryd.func20, Tryd.ntmps20
  go_upto_region 2 with (go_at_call 22; refine (readSlice_any br bs bb bd S dp data P 66 aE aF _ (by exact HE.out) (by exact HP.out) (by exact HRD.out)).mono ?_; rintro e w1 ⟨hT1, L, P1, p, o, c, ev, rfl, hPP, hrd1, hLc, hLS, ⟨a, rfl, hp⟩, hcl, hk⟩)
  have he1 := HE.out.touch hT1 (by have := HE.out.h1; have := HE.out.h2; have := HE.out.h3; simp; omega)
  have cF : w1.cell? ⟨1, 0, none⟩ = some (.iface 66 (.pointer (some aF))) := he1.hF
  have hb1 := he1.h1
  have hb2 := he1.h2
  have hb3 := he1.h3
  have HH1 : Hid (w1.heap[bl]? = some (.cells (hfl br cnt lv) 49 (0, 0))) := hT1.row (by simp; omega) HH.out
  have HO1 : Hid (w1.ownsRow (bl + 1) 5 1 lv m0 xs0) := own_touch HO.out hT1 (by simp; omega)
  have HK : Hid (∃ fl, (binOp .eql 33 ev (.iface 66 (.pointer (some aF)))).run Tryd.prog w1 = .ok (.bool fl) w1 ∧ ((fl = true ∧ ev = .iface 66 (.pointer (some aF)) ∧ 10 ∉ L ∧ 0 < L.length) ∨
      (fl = false ∧ ((ev = .nilIface ∧ ∃ X0, L = X0 ++ [10] ∧ 10 ∉ X0) ∨ (ev = .iface 66 (.pointer (some aE)) ∧ 10 ∉ L ∧ P1 = []))))) := by
    rcases hk with ⟨rfl, h⟩ | ⟨rfl, h⟩ | ⟨rfl, h⟩
    · exact ⟨false, eql_nil _ _, Or.inr ⟨rfl, Or.inl ⟨rfl, h⟩⟩⟩
    · exact ⟨true, eql_same _ _, Or.inl ⟨rfl, rfl, h⟩⟩
    · exact ⟨false, eql_other _ _ _ he1.hne he1.hEb.2 he1.hFb.2, Or.inr ⟨rfl, Or.inr ⟨rfl, h⟩⟩⟩
  have hgd : ∀ x y, eqGuard .eql 33 x y ev (.iface 66 (.pointer (some aF))) = pure () := by
    intro x y
    rcases hk with ⟨rfl, h⟩ | ⟨rfl, h⟩ | ⟨rfl, h⟩ <;> rfl
  obtain ⟨fl, hfl, hkd⟩ := HK.out
  have HKD := (show Hid _ from hkd)
  have HT1 := (show Hid _ from hT1)
  have HPP := (show Hid _ from hPP)
  have HRD1 := (show Hid _ from hrd1)
  have HE1 := (show Hid _ from he1)
  have HCL := (show Hid _ from hcl)
  have HPA := (show Hid _ from hp)
  clear hk hkd hT1 hPP hrd1 he1 HK hcl hp HO HH HRD HE
  go_upto_if 16 with fail
  clear hfl cF hgd
  go_cut [4, 5] (fun line ev w' => Met w bl br bs bb bd S dp data P aE aF cnt lv line ev w')
  case first =>
    rcases HKD.out with ⟨rfl, rfl, hn10, hL0⟩ | ⟨rfl, hkind⟩
    · have HN10 := (show Hid _ from hn10)
      have HPL1 : Hid (L.length ≤ 2199023255552) := by
        have h1 := HPL.out
        rw [HPP.out] at h1
        simp at h1
        rw [Hid]; omega
      have hLl := HPL1.out
      have c2 : w1.cell? ⟨bl, 2, none⟩ = some lv := by rw [cell_of_block HH1.out]; rfl
      have f2 : w1.frozen? ⟨bl, 2, none⟩ = false := unfrozen_of_block HH1.out 2
      obtain rfl : a = ⟨bb, o, none⟩ := HPA.out hL0
      obtain ⟨i0, hi, hz0, hz1, hz2⟩ := info_parts Tryd.info5
      clear hn10 HKD
      have hblt : bl < w1.heap.size := (Array.getElem?_eq_some_iff.1 HH1.out).1
      rcases ownsRow_forms HO1.out with ⟨rfl, _⟩ | ⟨g0, cap0, rfl⟩
      · go_wp2_with (at_builtin; go_must (refine wpList_append_own_at _ rfl _ _ 25 rfl (bl + 1) 5 i0 (.int .u8 0) 1 1 Tryd.underlying25 hi hz0 hz1 hz2 rfl (by decide) _ 0 [] rfl (World.ownsRow_nil _ _ _ _) ⟨bb, o, none⟩ L.length c (L.map (Value.int .u8)) rfl (by simp) (by exact news_cells (fun _ => rfl) HCL.out) (by exact oneB _) (by unfold maxLen; omega) (by omega) (by omega) ?_; intro v2 w2 hown2 hgr2 _ hat2; simp only [Nat.zero_add, List.nil_append] at hown2; obtain ⟨g2, cap2, rfl⟩ := ownsRow_form hown2 hL0; have HH2 := hide (grown_row hgr2 HH1.out (none_ne _)); have c2' : w2.cell? ⟨bl, 2, none⟩ = some (.slice none 0 0) := (by rw [cell_of_block (unhide HH2)]; rfl); have f2' : w2.frozen? ⟨bl, 2, none⟩ = false := unfrozen_of_block (unhide HH2) 2; have HO2' := hide hown2; have HG2 := hide hgr2; have HA2 := hide hat2; clear hown2 hgr2 hat2))
        have HLP : Hid (LpN w bl br bs bb bd S dp data P aE aF cnt (.slice none 0 0) (P1.length + 1) (.iface 66 (.pointer (some aF))) (w2.setCell ⟨bl, 2, none⟩ (.slice (some ⟨g2, 0, none⟩) L.length cap2))) :=
          lp_mk hb2 hb3 hbl (HT1.out.mono (by simp)) HH1.out HPP.out hL0 HRD1.out HO2'.out HG2.out (Or.inl rfl) (fun k hk => absurd hk.symm (none_ne k)) HA2.out (Or.inl ⟨rfl, HN10.out, Nat.le_refl _⟩)
        clear HH2 c2' f2' HO2' HG2 HA2 HH1 HT1 HO1 HRD1 HCL HPA c2 f2
        generalize w2.setCell ⟨bl, 2, none⟩ (.slice (some ⟨g2, 0, none⟩) L.length cap2) = w3 at *
        go_loopg [5] (P1.length + 1) (fun k ev wx => LpN w bl br bs bb bd S dp data P aE aF cnt (.slice none 0 0) k ev wx)
        case atStart => exact HLP.out
        case round =>
          obtain ⟨X, P2, g, cap, hPX, hX0, hhx, hox, hgx, hrx, hTx, hkx⟩ := hrel
          have hEx := HEW.out.touch hTx HLB.out
          have cFx : wr.cell? ⟨1, 0, none⟩ = some (.iface 66 (.pointer (some aF))) := hEx.hF
          have x0 : wr.cell? ⟨bl, 0, none⟩ = some (.pointer (some ⟨br, 0, none⟩)) := by rw [cell_of_block hhx]; rfl
          have x2 : wr.cell? ⟨bl, 2, none⟩ = some (.slice (some ⟨g, 0, none⟩) X.length cap) := by rw [cell_of_block hhx]; rfl
          have hXc := own_cap hox
          have HPX := hide hPX
          have HHX := hide hhx
          have HOX := hide hox
          have HGX := hide hgx
          have HRX : Hid (Rd wr br bs bb S dp data P2 .nilIface) := hrx
          have HTX := hide hTx
          have HEX := hide hEx
          clear hPX hhx hox hgx hrx hTx hEx
          have k1 := eql_nil wr
          have k2 := eql_same wr
          have k3 := eql_other wr aE aF HEX.out.hne HEX.out.hEb.2 HEX.out.hFb.2
          by_cases hfull : u5 = .iface 66 (.pointer (some aF))
          · subst hfull
            have hkx1 : 10 ∉ X ∧ P2.length + 1 ≤ gk := by
              rcases hkx with h | h | h
              · exact h.2
              · exact absurd h.1 (by intro h2; cases h2)
              · exact absurd h.1 (by intro h2; injection h2 with _ h2; injection h2 with h2; injection h2 with h2; exact HEX.out.hne h2.symm)
            have HKX := hide hkx1
            have HBP : Hid (Byt P2) := fun x hx => HP.out x (by rw [HPX.out]; exact List.mem_append_right _ hx)
            clear hkx hkx1 k1 k3
            go_upto_region 6 with (go_at_call 22; refine (readSlice_any br bs bb bd S dp data P2 66 aE aF _ (by exact HEX.out) (by exact HBP.out) (by exact HRX.out)).mono ?_; rintro e w4 ⟨hT4, L2, P3, p2, o2, c3, ev2, rfl, hPP2, hrd2, hLc2, hLS2, ⟨a2, rfl, hp2⟩, hcl2, hk2⟩)
            have HH4 : Hid (w4.heap[bl]? = some (.cells (hfl br cnt (.slice (some ⟨g, 0, none⟩) X.length cap)) 49 (0, 0))) := hT4.row (by simp; omega) HHX.out
            have HO4 : Hid (w4.ownsRow (bl + 1) 5 1 (.slice (some ⟨g, 0, none⟩) X.length cap) X.length (X.map (Value.int .u8))) := own_touch HOX.out hT4 (by simp; omega)
            have HT4 : Hid (Touch ([bl, br, bs, bb] ++ (Value.ownBlock (.slice none 0 0)).toList) w w4) := HTX.out.trans (hT4.mono (by simp))
            have y2 : w4.cell? ⟨bl, 2, none⟩ = some (.slice (some ⟨g, 0, none⟩) X.length cap) := by rw [cell_of_block HH4.out]; rfl
            have hXL : X.length + L2.length ≤ 2199023255552 := by
              have h1 := HPL.out
              rw [HPX.out, hPP2] at h1
              simp at h1
              omega
            have hgne : bl ≠ g := by omega
            have hw4 : bl < w4.heap.size := (Array.getElem?_eq_some_iff.1 HH4.out).1
            have HKM := hide (kind_more HKX.out.1 hPP2 hk2 HKX.out.2)
            have HPP2 := hide hPP2
            have HRD2 : Hid (Rd w4 br bs bb S dp data P3 .nilIface) := hrd2
            have HCL2 := hide (news_cells hp2 hcl2)
            have hgk := HKX.out.2
            clear hT4 hk2 hPP2 hrd2 hcl2 hp2 HHX HOX HTX x2 x0 cFx HRX
            go_wp2_with (at_builtin; go_must (refine wpList_append_own_at _ rfl _ _ 25 rfl (bl + 1) 5 i0 (.int .u8 0) 1 1 Tryd.underlying25 hi hz0 hz1 hz2 rfl (by decide) _ X.length (X.map (Value.int .u8)) rfl HO4.out a2 L2.length c3 (L2.map (Value.int .u8)) rfl (by simp) (by exact HCL2.out) (by exact oneB _) (by unfold maxLen; omega) (by omega) (by omega) ?_; intro v5 w5 hown5 hgr5 _ hat5; obtain ⟨g5, cap5, rfl⟩ := ownsRow_form hown5 (by omega); have HH5 := hide (grown_row hgr5 HH4.out (some_ne hgne)); have z2 : w5.cell? ⟨bl, 2, none⟩ = some (.slice (some ⟨g, 0, none⟩) X.length cap) := (by rw [cell_of_block (unhide HH5)]; rfl); have fz2 : w5.frozen? ⟨bl, 2, none⟩ = false := unfrozen_of_block (unhide HH5) 2; have HO5 := hide hown5; have HG5 := hide hgr5; have HA5 := hide hat5; clear hown5 hgr5 hat5))
            go_roundg (gk - 1)
            case measure => omega
            case rel =>
              have hl : (X ++ L2).length = X.length + L2.length := List.length_append
              have ho := HO5.out
              rw [← hl, ← List.map_append] at ho
              rw [← hl]
              exact lp_mk hb2 hb3 hbl HT4.out HH4.out (by rw [HPX.out, HPP2.out, List.append_assoc]) (by omega) HRD2.out ho HG5.out (HGX.out.imp id (fun h => ⟨g, rfl, h⟩)) (fun k hk => own_lt hXc.2.1 hk) HA5.out HKM.out
          · have hkx2 : (u5 = .nilIface ∧ ∃ X0, X = X0 ++ [10] ∧ 10 ∉ X0) ∨ (u5 = .iface 66 (.pointer (some aE)) ∧ 10 ∉ X ∧ P2 = []) := by
              rcases hkx with h | h
              · exact absurd h.1 hfull
              · exact h
            have HK2 : Hid (KN X P2 u5 aE) := hkx2
            clear hfull hkx
            rcases hkx2 with ⟨rfl, _⟩ | ⟨rfl, _, _⟩
            all_goals
              go_wp2
              go_meet
              case rel => exact met_loop HPX.out HHX.out HOX.out HGX.out HRX.out HTX.out HK2.out
      · have HO2 : Hid (w1.ownsRow (bl + 1) 5 1 (.slice (some ⟨g0, 0, none⟩) 0 cap0) 0 []) := own_zero HO1.out
        have hgg := own_cap HO1.out
        have hgne : bl ≠ g0 := by omega
        have hcz : (0 : Int) ≤ (cap0 : Int) := by omega
        go_wp2_with (at_builtin; go_must (refine wpList_append_own_at _ rfl _ _ 25 rfl (bl + 1) 5 i0 (.int .u8 0) 1 1 Tryd.underlying25 hi hz0 hz1 hz2 rfl (by decide) _ 0 [] rfl HO2.out ⟨bb, o, none⟩ L.length c (L.map (Value.int .u8)) rfl (by simp) (by exact news_cells (fun _ => rfl) HCL.out) (by exact oneB _) (by unfold maxLen; omega) (by omega) (by omega) ?_; intro v2 w2 hown2 hgr2 _ hat2; simp only [Nat.zero_add, List.nil_append] at hown2; obtain ⟨g2, cap2, rfl⟩ := ownsRow_form hown2 hL0; have HH2 := hide (grown_row hgr2 HH1.out (some_ne hgne)); have c2' : w2.cell? ⟨bl, 2, none⟩ = some (.slice (some ⟨g0, 0, none⟩) m0 cap0) := (by rw [cell_of_block (unhide HH2)]; rfl); have f2' : w2.frozen? ⟨bl, 2, none⟩ = false := unfrozen_of_block (unhide HH2) 2; have HO2' := hide hown2; have HG2 := hide hgr2; have HA2 := hide hat2; clear hown2 hgr2 hat2))
        have HLP : Hid (LpN w bl br bs bb bd S dp data P aE aF cnt (.slice (some ⟨g0, 0, none⟩) m0 cap0) (P1.length + 1) (.iface 66 (.pointer (some aF))) (w2.setCell ⟨bl, 2, none⟩ (.slice (some ⟨g2, 0, none⟩) L.length cap2))) :=
          lp_mk hb2 hb3 hbl (HT1.out.mono (by simp)) HH1.out HPP.out hL0 HRD1.out HO2'.out HG2.out (Or.inl rfl) (fun k hk => own_lt hgg.2.1 hk) HA2.out (Or.inl ⟨rfl, HN10.out, Nat.le_refl _⟩)
        clear HH2 c2' f2' HO2' HG2 HA2 HH1 HT1 HO1 HRD1 HCL HPA c2 f2
        generalize w2.setCell ⟨bl, 2, none⟩ (.slice (some ⟨g2, 0, none⟩) L.length cap2) = w3 at *
        go_loopg [5] (P1.length + 1) (fun k ev wx => LpN w bl br bs bb bd S dp data P aE aF cnt (.slice (some ⟨g0, 0, none⟩) m0 cap0) k ev wx)
        case atStart => exact HLP.out
        case round =>
          obtain ⟨X, P2, g, cap, hPX, hX0, hhx, hox, hgx, hrx, hTx, hkx⟩ := hrel
          have hEx := HEW.out.touch hTx HLB.out
          have cFx : wr.cell? ⟨1, 0, none⟩ = some (.iface 66 (.pointer (some aF))) := hEx.hF
          have x0 : wr.cell? ⟨bl, 0, none⟩ = some (.pointer (some ⟨br, 0, none⟩)) := by rw [cell_of_block hhx]; rfl
          have x2 : wr.cell? ⟨bl, 2, none⟩ = some (.slice (some ⟨g, 0, none⟩) X.length cap) := by rw [cell_of_block hhx]; rfl
          have hXc := own_cap hox
          have HPX := hide hPX
          have HHX := hide hhx
          have HOX := hide hox
          have HGX := hide hgx
          have HRX : Hid (Rd wr br bs bb S dp data P2 .nilIface) := hrx
          have HTX := hide hTx
          have HEX := hide hEx
          clear hPX hhx hox hgx hrx hTx hEx
          have k1 := eql_nil wr
          have k2 := eql_same wr
          have k3 := eql_other wr aE aF HEX.out.hne HEX.out.hEb.2 HEX.out.hFb.2
          by_cases hfull : u5 = .iface 66 (.pointer (some aF))
          · subst hfull
            have hkx1 : 10 ∉ X ∧ P2.length + 1 ≤ gk := by
              rcases hkx with h | h | h
              · exact h.2
              · exact absurd h.1 (by intro h2; cases h2)
              · exact absurd h.1 (by intro h2; injection h2 with _ h2; injection h2 with h2; injection h2 with h2; exact HEX.out.hne h2.symm)
            have HKX := hide hkx1
            have HBP : Hid (Byt P2) := fun x hx => HP.out x (by rw [HPX.out]; exact List.mem_append_right _ hx)
            clear hkx hkx1 k1 k3
            go_upto_region 6 with (go_at_call 22; refine (readSlice_any br bs bb bd S dp data P2 66 aE aF _ (by exact HEX.out) (by exact HBP.out) (by exact HRX.out)).mono ?_; rintro e w4 ⟨hT4, L2, P3, p2, o2, c3, ev2, rfl, hPP2, hrd2, hLc2, hLS2, ⟨a2, rfl, hp2⟩, hcl2, hk2⟩)
            have HH4 : Hid (w4.heap[bl]? = some (.cells (hfl br cnt (.slice (some ⟨g, 0, none⟩) X.length cap)) 49 (0, 0))) := hT4.row (by simp; omega) HHX.out
            have HO4 : Hid (w4.ownsRow (bl + 1) 5 1 (.slice (some ⟨g, 0, none⟩) X.length cap) X.length (X.map (Value.int .u8))) := own_touch HOX.out hT4 (by simp; omega)
            have HT4 : Hid (Touch ([bl, br, bs, bb] ++ (Value.ownBlock (.slice (some ⟨g0, 0, none⟩) m0 cap0)).toList) w w4) := HTX.out.trans (hT4.mono (by simp))
            have y2 : w4.cell? ⟨bl, 2, none⟩ = some (.slice (some ⟨g, 0, none⟩) X.length cap) := by rw [cell_of_block HH4.out]; rfl
            have hXL : X.length + L2.length ≤ 2199023255552 := by
              have h1 := HPL.out
              rw [HPX.out, hPP2] at h1
              simp at h1
              omega
            have hgne : bl ≠ g := by omega
            have hw4 : bl < w4.heap.size := (Array.getElem?_eq_some_iff.1 HH4.out).1
            have HKM := hide (kind_more HKX.out.1 hPP2 hk2 HKX.out.2)
            have HPP2 := hide hPP2
            have HRD2 : Hid (Rd w4 br bs bb S dp data P3 .nilIface) := hrd2
            have HCL2 := hide (news_cells hp2 hcl2)
            have hgk := HKX.out.2
            clear hT4 hk2 hPP2 hrd2 hcl2 hp2 HHX HOX HTX x2 x0 cFx HRX
            go_wp2_with (at_builtin; go_must (refine wpList_append_own_at _ rfl _ _ 25 rfl (bl + 1) 5 i0 (.int .u8 0) 1 1 Tryd.underlying25 hi hz0 hz1 hz2 rfl (by decide) _ X.length (X.map (Value.int .u8)) rfl HO4.out a2 L2.length c3 (L2.map (Value.int .u8)) rfl (by simp) (by exact HCL2.out) (by exact oneB _) (by unfold maxLen; omega) (by omega) (by omega) ?_; intro v5 w5 hown5 hgr5 _ hat5; obtain ⟨g5, cap5, rfl⟩ := ownsRow_form hown5 (by omega); have HH5 := hide (grown_row hgr5 HH4.out (some_ne hgne)); have z2 : w5.cell? ⟨bl, 2, none⟩ = some (.slice (some ⟨g, 0, none⟩) X.length cap) := (by rw [cell_of_block (unhide HH5)]; rfl); have fz2 : w5.frozen? ⟨bl, 2, none⟩ = false := unfrozen_of_block (unhide HH5) 2; have HO5 := hide hown5; have HG5 := hide hgr5; have HA5 := hide hat5; clear hown5 hgr5 hat5))
            go_roundg (gk - 1)
            case measure => omega
            case rel =>
              have hl : (X ++ L2).length = X.length + L2.length := List.length_append
              have ho := HO5.out
              rw [← hl, ← List.map_append] at ho
              rw [← hl]
              exact lp_mk hb2 hb3 hbl HT4.out HH4.out (by rw [HPX.out, HPP2.out, List.append_assoc]) (by omega) HRD2.out ho HG5.out (HGX.out.imp id (fun h => ⟨g, rfl, h⟩)) (fun k hk => own_lt hXc.2.1 hk) HA5.out HKM.out
          · have hkx2 : (u5 = .nilIface ∧ ∃ X0, X = X0 ++ [10] ∧ 10 ∉ X0) ∨ (u5 = .iface 66 (.pointer (some aE)) ∧ 10 ∉ X ∧ P2 = []) := by
              rcases hkx with h | h
              · exact absurd h.1 hfull
              · exact h
            have HK2 : Hid (KN X P2 u5 aE) := hkx2
            clear hfull hkx
            rcases hkx2 with ⟨rfl, _⟩ | ⟨rfl, _, _⟩
            all_goals
              go_wp2
              go_meet
              case rel => exact met_loop HPX.out HHX.out HOX.out HGX.out HRX.out HTX.out HK2.out
    · go_wp2
      go_meet
      case rel =>
        refine ⟨L, P1, a, c, lv, xs0, m0, rfl, hLc, fun h => by rw [HPA.out h]; show bb ≠ bl; omega, ?_, HPP.out, HRD1.out, HH1.out, HO1.out, HT1.out.mono (by simp), Or.inl rfl, hkind⟩
        intro h0
        exact ⟨bb, o, by rw [HPA.out h0], HCL.out⟩
  case rest =>
    clear HKD HT1 HPP HRD1 HCL HPA HH1 HO1
    obtain ⟨X, P', a, c, lv', xs, m, rfl, hXc, hab, hXb, hPX, hrdX, hhX, howX, hTX, hlv, hev⟩ := hcut
    have cE : wc.cell? ⟨2, 0, none⟩ = some (.iface 66 (.pointer (some aE))) := (HEW.out.touch hTX HLB.out).hE
    have c1 : wc.cell? ⟨bl, 1, none⟩ = some (.int .i64 cnt) := by rw [cell_of_block hhX]; rfl
    have f1 : wc.frozen? ⟨bl, 1, none⟩ = false := unfrozen_of_block hhX 1
    have hXl : X.length ≤ 2199023255552 := by
      have h1 := HPL.out
      rw [hPX] at h1
      simp at h1
      omega
    have HBX : Hid (Byt X) := fun x hx => HP.out x (by rw [hPX]; exact List.mem_append_left _ hx)
    have hblt : bl < wc.heap.size := (Array.getElem?_eq_some_iff.1 hhX).1
    have HXB := (show Hid _ from hXb)
    have HPX := (show Hid _ from hPX)
    have HRX := (show Hid _ from hrdX)
    have HHX := (show Hid _ from hhX)
    have HOX := (show Hid _ from howX)
    have HTX := (show Hid _ from hTX)
    have HLV := (show Hid _ from hlv)
    have HAB := (show Hid _ from hab)
    clear hXb hPX hrdX hhX howX hTX hlv hab
    have kc1 := fun v C => run_convert_bytes_const_at (P := Tryd.prog) (wc.setCell ⟨bl, 1, none⟩ v) 25 5 C 1 1 wc.heap.size (by simp) Tryd.underlying25 Tryd.underlying5
    have kc2 := fun v O C => run_convert_bytes_const_at (P := Tryd.prog) ((wc.setCell ⟨bl, 1, none⟩ v).alloc O) 25 5 C 1 1 (wc.heap.size + 1) (by simp) Tryd.underlying25 Tryd.underlying5
    have k1 := eql_nil
    have k2 := eql_same
    by_cases hX0 : X.length = 0
    · rcases hev with ⟨rfl, X0, hX, _⟩ | ⟨rfl, h10, hP'⟩
      · rw [hX] at hX0; simp at hX0
      · have hX : X = [] := List.eq_nil_of_length_eq_zero hX0
        subst hX
        clear hX0
        go_wp2
        go_ret2
        refine ⟨lv', m, xs, HOX.out, HLV.out, HTX.out, Or.inl ⟨?_, rfl, ?_, HHX.out⟩⟩
        · have := HPX.out; rw [this, hP']; rfl
        · have := HRX.out; rw [hP'] at this; exact this
    · have hX1 : 0 < X.length := by omega
      clear hX0
      have HPC : Hid (Piece X P') := by
        rcases hev with ⟨_, h⟩ | ⟨_, h10, hP'⟩
        · exact Or.inl h
        · exact Or.inr ⟨h10, hP', fun h => by rw [h] at hX1; simp at hX1⟩
      rcases hev with ⟨rfl, _⟩ | ⟨rfl, _⟩
      all_goals
        go_wp2_with fail
        have hT2 : Touch [bl] wc ((wc.setCell ⟨bl, 1, none⟩ (.int .i64 (↑cnt + 1))).alloc (.cells #[.int .u8 10] 5 (1, 2))) := ((Touch.refl _ wc).setCell (by simp) _).alloc _
        refine (trim_any (some a) c wc.heap.size 1 X 10 _ HBX.out (by omega) hXc (by omega) (by exact bytesIn_touch HXB.out hT2 (by simpa using HAB.out)) (by exact cell_alloc_mark_at _ _ _ _ _ 0 (by simp))).mono ?_
        rintro e w2 ⟨rfl, rfl⟩
        go_wp2_with fail
        have htl := tr_length 10 X
        have hT3 := hT2.alloc (.cells #[.int .u8 13] 5 (1, 2))
        refine (trim_any (some a) c (wc.heap.size + 1) 1 (tr 10 X) 13 _ (byt_tr 10 HBX.out) (by omega) (by omega) (by omega) (by exact bytesIn_tr 10 (bytesIn_touch HXB.out hT3 (by simpa using HAB.out))) (by exact cell_alloc_mark_at _ _ _ _ _ 0 (by simp))).mono ?_
        rintro e w2 ⟨rfl, rfl⟩
        have HT3 := (show Hid _ from hT3)
        clear hT2 hT3 kc1 kc2 k1 k2
        go_wp2_with fail
        go_ret2
        have hT3 := HT3.out
        refine ⟨lv', m, xs, own_touch HOX.out hT3 (by simp), HLV.out, HTX.out.trans (hT3.mono (by simp)), Or.inr ⟨X, P', a, c, HPX.out, HPC.out, rfl, Rd.touch HRX.out hT3 (by simp; omega) (by simp; omega) (by simp; omega), ?_, bytesIn_tr 13 (bytesIn_tr 10 (bytesIn_touch HXB.out hT3 (by simpa using HAB.out)))⟩⟩
        rw [Below.heap_alloc _ _ _ (by simp; omega), Below.heap_alloc _ _ _ (by simp; omega)]
        exact block_setCell (i := 1) HHX.out _
end Go.Proofs.Qxb6608589aDoor
