import Derived.Test.Qxb6608589aDoorAll
namespace Go.Proofs.Qxb6608589aDoor
open Go.RowKit Go.Joins
set_option linter.unusedVariables false

theorem own_keep {w w' : World} {base e size n : Nat} {v : Value} {xs : List Value} {S : List Nat} (h : w.ownsRow base e size v n xs) (hT : Touch S w w') (hne : ∀ g, v.ownBlock = some g → g ∉ S) : w'.ownsRow base e size v n xs := by
  refine ⟨h.1, ?_⟩
  rcases h.2 with h2 | ⟨g, cap, cur, hv, hg, hh, r⟩
  · exact Or.inl h2
  · exact Or.inr ⟨g, cap, cur, hv, hg, hT.row (hne g (by rw [hv]; rfl)) hh, r⟩
theorem Rows1.step2 {w w' : World} {B : Nat} {F F' : Nat → Prop} {vs : List Value} {Ls : List (List Int)} (h : Rows1 w B F vs Ls)
    (hk : ∀ g, B ≤ g → g < w.heap.size → ¬ F g → w'.heap[g]? = w.heap[g]?) (hF : ∀ g, g < w.heap.size → F' g → F g) : Rows1 w' B F' vs Ls := by
  refine ⟨h.1, fun i L hL => ?_⟩
  obtain ⟨g, h1, h2, h3, h4⟩ := h.2 i L hL
  have hlt := (Array.getElem?_eq_some_iff.1 h4).1
  exact ⟨g, h1, h2, fun hf => h3 (hF g hlt hf), (hk g h2 hlt h3).trans h4⟩

/-- the reader is made: the loop's first state -/
theorem lpA_start {w w1 w2 : World} {dp p : Option Addr} {data : List Int} {aE aF : Addr} {S : Nat} (hs : Sent w aE aF) (hB : Byt data) (hn : data.length ≤ 1048576) (hS1 : 16 ≤ S) (hS2 : S ≤ 65536)
    (hb : Below w.heap.size w w1) (hz : w1.heap.size ≤ w.heap.size + 1) (hdp : dp ≠ none → dp = some ⟨w.heap.size, 0, none⟩ ∧ w1.heap[w.heap.size]? = some (.cells (cellsB data) 5 (0, 0))) (hd0 : dp = none → data.length = 0)
    (hw2 : w2 = (((w1.alloc (.cells #[.slice dp data.length data.length, .int .i64 0, .int .i64 (-1)] 58)).alloc (.cells (rdr (w1.heap.size + 2) S w1.heap.size 0 0 .nilIface (-1) (-1)) 55)).alloc (.cells (cellsB (List.replicate S 0)) 5)).alloc (.cells (hfl (w1.heap.size + 1) 0 (.slice none 0 0)) 49)) :
    LpA w (w1.heap.size + 3) (w1.heap.size + 1) w1.heap.size (w1.heap.size + 2) (w1.heap.size - 1) S dp data aE aF 0 (.slice none 0 0) w2 := by
  have hsz := hs.hsz
  have hle := hb.size
  have b12 : Below w1.heap.size w1 w2 := by
    rw [hw2]
    exact ((((Below.refl _ w1).alloc (Nat.le_refl _) _).alloc (by simp) _).alloc (by simp; omega) _).alloc (by simp; omega) _
  have b02 : Below w.heap.size w w2 := hb.trans (b12.mono hle)
  have hs2 := hs.below b02
  obtain ⟨cE, tE, hE⟩ := hs.hEb
  obtain ⟨cF, tF, hF⟩ := hs.hFb
  have lE := (Array.getElem?_eq_some_iff.1 hE).1
  have lF := (Array.getElem?_eq_some_iff.1 hF).1
  have g0 : w2.heap[w1.heap.size]? = some (.cells #[.slice dp data.length data.length, .int .i64 0, .int .i64 (-1)] 58 (0, 0)) := by
    rw [hw2, Below.heap_alloc _ _ _ (by simp <;> omega), Below.heap_alloc _ _ _ (by simp <;> omega), Below.heap_alloc _ _ _ (by simp <;> omega)]
    exact heap_alloc_new w1 _
  have g1 : w2.heap[w1.heap.size + 1]? = some (.cells (rdr (w1.heap.size + 2) S w1.heap.size 0 0 .nilIface (-1) (-1)) 55 (0, 0)) := by
    rw [hw2, Below.heap_alloc _ _ _ (by simp <;> omega), Below.heap_alloc _ _ _ (by simp <;> omega)]
    have h := heap_alloc_new (w1.alloc (.cells #[.slice dp data.length data.length, .int .i64 0, .int .i64 (-1)] 58)) (.cells (rdr (w1.heap.size + 2) S w1.heap.size 0 0 .nilIface (-1) (-1)) 55)
    simpa using h
  have g2 : w2.heap[w1.heap.size + 2]? = some (.cells (cellsB (List.replicate S 0)) 5 (0, 0)) := by
    rw [hw2, Below.heap_alloc _ _ _ (by simp <;> omega)]
    have h := heap_alloc_new ((w1.alloc (.cells #[.slice dp data.length data.length, .int .i64 0, .int .i64 (-1)] 58)).alloc (.cells (rdr (w1.heap.size + 2) S w1.heap.size 0 0 .nilIface (-1) (-1)) 55)) (.cells (cellsB (List.replicate S 0)) 5)
    simpa using h
  have g3 : w2.heap[w1.heap.size + 3]? = some (.cells (hfl (w1.heap.size + 1) 0 (.slice none 0 0)) 49 (0, 0)) := by
    rw [hw2]
    have h := heap_alloc_new (((w1.alloc (.cells #[.slice dp data.length data.length, .int .i64 0, .int .i64 (-1)] 58)).alloc (.cells (rdr (w1.heap.size + 2) S w1.heap.size 0 0 .nilIface (-1) (-1)) 55)).alloc (.cells (cellsB (List.replicate S 0)) 5)) (.cells (hfl (w1.heap.size + 1) 0 (.slice none 0 0)) 49)
    simpa using h
  refine ⟨data, .slice none 0 0, 0, [], [], [], hB, by simp, fun Ms h => h, rfl, ?_, ?_, g3, World.ownsRow_nil _ _ _ _, World.ownsRow_nil _ _ _ _, ?_, ⟨rfl, fun i L h => ?_⟩, b02⟩
  rotate_left 2
  · intro g h; cases h
  · simp at h
  · refine ⟨by omega, by omega, by omega, by omega, by omega, by omega, by omega, ?_, hs2.hE, hs2.hF, hs.hne, ⟨by omega, hs2.hEb⟩, ⟨by omega, hs2.hFb⟩⟩
    intro h0
    have hne : dp ≠ none := fun h => by have := hd0 h; omega
    obtain ⟨h1, h2⟩ := hdp hne
    have hlt := (Array.getElem?_eq_some_iff.1 h2).1
    have e : w1.heap.size - 1 = w.heap.size := by omega
    rw [e]
    exact ⟨h1, (b12.block _ hlt).trans h2⟩
  · refine ⟨0, 0, 0, -1, -1, -1, List.replicate S 0, by omega, by omega, by simp, by omega, by simp, g1, g0, g2⟩

/-- one round of zzReadAll -/
theorem lpA_step {w wx w1 w4 : World} {bl br bs bb bd S : Nat} {dp : Option Addr} {data P : List Int} {aE aF : Addr} {k : Nat} {lines lines' lv lv' : Value} {m m' : Nat} {xs xs' vs : List Value} {Ls : List (List Int)} {X P' : List Int}
    (hlo : w.heap.size ≤ bs) (hbl : bb < bl)
    (hB : Byt P) (hlen : Ls.length + P.length ≤ data.length) (hlin : ∀ Ms, IsLines Ms P → IsLines (Ls ++ Ms) data) (hk : Ls.length = k)
    (he : Env wx br bs bb bd S dp data 66 aE aF) (hown : wx.ownsRow (bl + 1) 5 1 lv m xs)
    (holn : wx.ownsRow (bl + 1) 25 1 lines k vs) (hdis : ∀ g, lines.ownBlock = some g → lv.ownBlock ≠ some g)
    (hrows : Rows1 wx (bl + 1) (fun g => lv.ownBlock = some g ∨ lines.ownBlock = some g) vs Ls) (hbel : Below w.heap.size w wx)
    (hown1 : w1.ownsRow (bl + 1) 5 1 lv' m' xs') (hlv : lv'.ownBlock = lv.ownBlock ∨ ∃ g, lv'.ownBlock = some g ∧ wx.heap.size ≤ g) (hT : Touch ([bl, br, bs, bb] ++ lv.ownBlock.toList) wx w1)
    (hP : P = X ++ P') (hpc : Piece X P') (hrd1 : Rd w1 br bs bb S dp data P' .nilIface) (hh1 : w1.heap[bl]? = some (.cells (hfl br (k + 1) lv') 49 (0, 0)))
    (hown4 : w4.ownsRow (bl + 1) 25 1 lines' (k + 1) (vs ++ [Value.slice (some ⟨w1.heap.size, 0, none⟩) (trimL X).length (trimL X).length]))
    (hgr : ((w1.alloc (.cells (cellsB (trimL X)) 5)).alloc (.cells #[Value.slice (some ⟨w1.heap.size, 0, none⟩) (trimL X).length (trimL X).length] 25)).grownBy w4 lines.ownBlock)
    (hat : lines'.ownBlock = lines.ownBlock ∨ lines'.ownBlock = some (w1.heap.size + 2)) :
    LpA w bl br bs bb bd S dp data aE aF (k + 1) lines' w4 := by
  have q1 := he.h1; have q2 := he.h2; have q3 := he.h3
  have hs1 := hT.size
  have hlvlt : ∀ g, lv.ownBlock = some g → bl + 1 ≤ g ∧ g < wx.heap.size := fun g h => hown.lt g h
  have hlnlt : ∀ g, lines.ownBlock = some g → bl + 1 ≤ g ∧ g < wx.heap.size := fun g h => holn.lt g h
  have hlvlt' : ∀ g, lv'.ownBlock = some g → bl + 1 ≤ g ∧ g < w1.heap.size := fun g h => hown1.lt g h
  have hT4 : Touch lines.ownBlock.toList w1 w4 :=
    (((Touch.refl _ w1).alloc (.cells (cellsB (trimL X)) 5)).alloc (.cells #[Value.slice (some ⟨w1.heap.size, 0, none⟩) (trimL X).length (trimL X).length] 25)).grown2 hgr (fun g h => Or.inl (by simp [h]))
  have hbd : ∀ g ∈ [bl, br, bs, bb] ++ lv.ownBlock.toList, bs ≤ g := by
    intro g hg
    rcases List.mem_append.1 hg with hg | hg
    · simp at hg; omega
    · have := (hlvlt g (by simpa using hg)).1; omega
  have hln : ∀ g ∈ lines.ownBlock.toList, bl + 1 ≤ g ∧ g < wx.heap.size := fun g hg => hlnlt g (by simpa using hg)
  have hbl1 : bl < w1.heap.size := (Array.getElem?_eq_some_iff.1 hh1).1
  have hdis' : ∀ g, lv'.ownBlock = some g → lines.ownBlock ≠ some g := by
    intro g hg hg2
    rcases hlv with h | ⟨g', h, h'⟩
    · exact hdis g hg2 (h ▸ hg)
    · rw [h] at hg; injection hg with hg; have := (hlnlt g hg2).2; omega
  refine ⟨P', lv', m', xs', vs ++ [_], Ls ++ [trimL X], fun x hx => hB x (by rw [hP]; exact List.mem_append_right _ hx), ?_, ?_, by simp [hk], ?_, ?_, ?_, ?_, hown4, ?_, ?_, ?_⟩
  · have := hpc.pos
    rw [hP] at hlen
    simp at hlen ⊢
    omega
  · intro Ms hMs
    rw [List.append_assoc]
    exact hlin (trimL X :: Ms) ⟨X, P', hP, hpc, rfl, hMs⟩
  · exact (he.touch hT (fun g hg => by have := hbd g hg; omega)).touch hT4 (fun g hg => by have := (hln g hg).1; omega)
  · exact Rd.touch hrd1 hT4 (fun h => by have := (hln _ h).1; omega) (fun h => by have := (hln _ h).1; omega) (fun h => by have := (hln _ h).1; omega)
  · exact hT4.row (fun h => by have := (hln _ h).1; omega) hh1
  · exact own_keep hown1 hT4 (fun g hg hm => hdis' g hg (by simpa using hm))
  · intro g hg hg2
    rcases hat with h | h
    · exact hdis' g hg2 (h ▸ hg)
    · rw [h] at hg; injection hg with hg; have := (hlvlt' g hg2).2; omega
  · refine Rows1.snoc (hrows.step2 ?_ ?_) (by omega) ?_ ?_
    · intro g hg1 hg2 hg3
      have e1 : w4.heap[g]? = w1.heap[g]? := hT4.block g (by omega) (fun hm => hg3 (Or.inr (by simpa using hm)))
      have e2 : w1.heap[g]? = wx.heap[g]? := hT.block g hg2 (fun hm => by
        rcases List.mem_append.1 hm with hm | hm
        · simp at hm; omega
        · exact hg3 (Or.inl (by simpa using hm)))
      rw [e1, e2]
    · intro g hg hF
      rcases hF with h | h
      · rcases hlv with h2 | ⟨g', h2, h3⟩
        · left; rw [← h2]; exact h
        · rw [h2] at h; injection h with h; omega
      · rcases hat with h2 | h2
        · right; rw [← h2]; exact h
        · rw [h2] at h; injection h with h; omega
    · intro hF
      rcases hF with h | h
      · have := (hlvlt' _ h).2; omega
      · rcases hat with h2 | h2
        · rw [h2] at h; have := (hlnlt _ h).2; omega
        · rw [h2] at h; injection h with h; omega
    · have e : w4.heap[w1.heap.size]? = _ := hgr.block w1.heap.size (by simp; omega) (fun h => by have := (hlnlt _ h.symm).2; omega)
      rw [e, Below.heap_alloc _ _ _ (by simp)]
      exact heap_alloc_new w1 _
  · refine hbel.trans ((hT.below hbel.size (fun g hg => by have := hbd g hg; omega)).trans (hT4.below (by have := hbel.size; omega) (fun g hg => by have := (hln g hg).1; omega)))

theorem clone_at (a : Addr) (n c : Nat) (xs : List Int) (w : World) (hx : xs.length = n) (hn : n ≤ 1099511627776) (h : Lib.BytesIn w (some a) n xs) :
    Calls Tryd.prog 8 #[.slice (some a) n c] w fun e w' => e = .returned (.slice (some ⟨w.heap.size, 0, none⟩) n n) ∧ w' = w.alloc (.cells (cellsB xs) 5) := by
  rcases Nat.eq_zero_or_pos n with h0 | h0
  · subst h0
    obtain rfl : xs = [] := List.eq_nil_of_length_eq_zero hx
    exact clone_empty a c w
  · obtain ⟨b, o, hp, hc⟩ := h.at h0
    injection hp with hp
    subst hp
    exact clone_some b o n c xs w hx hn hc

theorem Rows1.weaken {w : World} {B B' : Nat} {F : Nat → Prop} {vs : List Value} {Ls : List (List Int)} (h : Rows1 w B F vs Ls) (hB : B' ≤ B) : Rows1 w B' F vs Ls :=
  ⟨h.1, fun i L hL => by obtain ⟨g, h1, h2, h3⟩ := h.2 i L hL; exact ⟨g, h1, by omega, h3⟩⟩
theorem one_new (w : World) (v : Value) (t g : Nat) (hg : g = w.heap.size) : ∀ (j : Nat) (u : Value), [v][j]? = some u → (w.alloc (.cells #[v] t)).cell? ((⟨g, 0, none⟩ : Addr).add j) = some u := by
  intro j u hj
  have hj0 : j = 0 := by
    have := (List.getElem?_eq_some_iff.1 hj).1
    simp at this; omega
  subst hj0
  subst hg
  simp at hj
  subst hj
  simp [Addr.add]

/-- what zzReadAll leaves -/
def AllPost (w : World) (data : List Int) (e : Ending) (w' : World) : Prop :=
  ∃ (lines : Value) (vs : List Value) (Ls : List (List Int)), e = .returned (.tuple #[lines, .bool true]) ∧ IsLines Ls data ∧ w'.ownsRow w.heap.size 25 1 lines Ls.length vs ∧ Rows1 w' w.heap.size (fun _ => False) vs Ls ∧ Below w.heap.size w w'

set_option maxRecDepth 100000 in
set_option maxHeartbeats 1000000 in
theorem readAll_any (p : Option Addr) (n c : Nat) (size : Int) (data : List Int) (aE aF : Addr) (w : World) (hx : data.length = n) (hn : n ≤ 1048576) (hsize : size ≤ 65536)
    (hp : p = none → n = 0 ∧ c = 0) (hd : Lib.BytesIn w p n data) (hB : Byt data) (hs : Sent w aE aF) :
    Calls Tryd.prog 15 #[.slice p n c, .int .i64 size] w (AllPost w data) := by
  obtain ⟨S, hS⟩ : ∃ S : Nat, (S : Int) = max size 16 := ⟨(max size 16).toNat, by omega⟩
  have HS := hide hS
  have HX := hide hx
  have HP := hide hp
  have HD := hide hd
  have HB := hide hB
  have HSE := hide hs
  clear hS hx hp hd hB hs
  go_enter Tryd.func15, Tryd.ntmps15
  go_wp2_with (first
    | (go_at_call 8; go_must (refine (clone_any p n c data _ HX.out (by omega) HP.out (by exact HD.out)).mono ?_; rintro e w1 ⟨dp, rfl, hdp1, hb1, hz1, hr1⟩; have HR1 := hide hr1; have HDP := hide hdp1; clear hr1 hdp1))
    | (go_at_call 10; go_must (refine (new_any dp n size _ hsize S HS.out).mono ?_; rintro e w2 ⟨rfl, hw2⟩; have HW2 := hide hw2; clear hw2)))
  have HLP : Hid (LpA w (w1.heap.size + 3) (w1.heap.size + 1) w1.heap.size (w1.heap.size + 2) (w1.heap.size - 1) S dp data aE aF 0 (.slice none 0 0) w2) :=
    lpA_start (p := p) HSE.out HB.out (by rw [HX.out]; exact hn) (by have := HS.out; omega) (by have := HS.out; omega) hb1 hz1 HR1.out (fun h => by rw [HX.out]; exact (HP.out (HDP.out.1 h)).1) (by rw [HX.out]; exact HW2.out)
  have hsz1 : w.heap.size ≤ w1.heap.size := hb1.size
  clear HDP hb1 hz1 HR1 HW2
  generalize w1.heap.size = H at *
  go_loopg [7, 8] (n + 1) (fun g lines kv wx => ∃ k : Nat, kv = .int .i64 k ∧ k ≤ n ∧ n + 1 ≤ g + k ∧ LpA w (H + 3) (H + 1) H (H + 2) (H - 1) S dp data aE aF k lines wx)
  case atStart => exact ⟨0, rfl, by omega, by omega, HLP.out⟩
  case round =>
    obtain ⟨k, rfl, hk, hg, ⟨P, lv, m, xs, vs, Ls, a1, a2, a3, a4, a5, a6, a7, a8, a9, a10, a11, a12⟩⟩ := hrel
    have hkl := a4
    have HA := hide (show _ ∧ _ ∧ _ ∧ _ ∧ _ ∧ _ ∧ _ ∧ _ ∧ _ from ⟨a1, a2, a3, a5, a8, a9, a10, a11, a12⟩)
    have HK := hide a4
    have H6 : Hid (Rd wr (H + 1) H (H + 2) S dp data P .nilIface) := a6
    have H7 := hide a7
    have hPl : k + P.length ≤ n := by rw [a4, HX.out] at a2; exact a2
    clear a1 a2 a3 a4 a5 a6 a7 a8 a9 a10 a11 a12 hkl HLP
    have hnn := run_nil25
    go_wp2_with fail
    refine (zznext_any (H + 3) (H + 1) H (H + 2) (H - 1) S dp data P aE aF k lv m xs _ (by exact HA.out.2.2.2.1) (by omega) (by exact HA.out.1) (by exact H6.out) (by omega) (by exact H7.out) (by exact HA.out.2.2.2.2.1)).mono ?_
    rintro e w3 ⟨lv', m', xs', b1, b2, b3, b4⟩
    rcases b4 with ⟨rfl, rfl, b5, b6⟩ | ⟨X, P', a, c4, b5, b6, rfl, b7, b8, b9⟩
    · have HT := hide b3
      clear b1 b2 b3 b5 b6
      go_wp2
      go_ret2
      obtain ⟨a1, a2, a3, a5, a8, a9, a10, a11, a12⟩ := HA.out
      have hbd : ∀ g ∈ [H + 3, H + 1, H, H + 2] ++ lv.ownBlock.toList, H ≤ g := by
        intro g hg
        rcases List.mem_append.1 hg with hg | hg
        · simp at hg; omega
        · have := (a8.lt g (by simpa using hg)).1; omega
      refine ⟨u7, vs, Ls, rfl, by simpa using a3 [] rfl, ?_, ?_, a12.trans (HT.out.below a12.size (fun g hg => by have := hbd g hg; omega))⟩
      · rw [HK.out]
        refine ownsRow_le (own_keep a9 HT.out (fun g hg hm => ?_)) (by omega)
        have := (a9.lt g hg).1
        rcases List.mem_append.1 hm with hm | hm
        · simp at hm; omega
        · exact a10 g hg (by simpa using hm)
      · refine Rows1.weaken (a11.step2 (F' := fun _ => False) (fun g hg1 hg2 hg3 => HT.out.block g hg2 (fun hm => ?_)) (fun g _ h => h.elim)) (by omega)
        rcases List.mem_append.1 hm with hm | hm
        · simp at hm; omega
        · exact hg3 (Or.inl (by simpa using hm))
    · have HB := hide (show _ ∧ _ ∧ _ ∧ _ ∧ _ ∧ _ ∧ _ from ⟨b1, b2, b3, b5, b6, b7, b8⟩)
      have HB9 := hide b9
      clear b1 b2 b3 b5 b6 b7 b8 b9
      have hXl : (trimL X).length ≤ n := by
        obtain ⟨b1, b2, b3, b5, _⟩ := HB.out
        have h1 := tr_length 10 X
        have h2 := tr_length 13 (tr 10 X)
        have h3 : (trimL X).length ≤ X.length := Nat.le_trans h2 h1
        rw [b5] at hPl
        simp at hPl
        omega
      obtain ⟨i0, hi, hz0, hz1, hz2⟩ := info_parts Tryd.info25
      have HOW : Hid (w3.ownsRow (H + 3 + 1) 25 1 u7 k vs) := by
        obtain ⟨a1, a2, a3, a5, a8, a9, a10, a11, a12⟩ := HA.out
        refine own_keep a9 HB.out.2.2.1 (fun g hg hm => ?_)
        have := (a9.lt g hg).1
        rcases List.mem_append.1 hm with hm | hm
        · simp at hm; omega
        · exact a10 g hg (by simpa using hm)
      have hH3 : H + 3 < w3.heap.size := (Array.getElem?_eq_some_iff.1 HB.out.2.2.2.2.2.2).1
      go_wp2_with (first
        | (go_at_call 8; go_must (refine (clone_at a (trimL X).length c4 (trimL X) _ rfl (by omega) (by exact HB9.out)).mono ?_; rintro e w5 ⟨rfl, rfl⟩))
        | (at_builtin; go_must (refine wpList_append_own_at _ rfl _ _ 28 rfl (H + 3 + 1) 25 i0 (.slice none 0 0) 1 24 Tryd.underlying28 hi hz0 hz1 hz2 rfl (by decide) u7 k vs rfl ((HOW.out.alloc _).alloc _) ⟨w3.heap.size + 1, 0, none⟩ 1 1 [Value.slice (some ⟨w3.heap.size, 0, none⟩) (trimL X).length (trimL X).length] rfl rfl (by exact one_new _ _ _ _ (by simp)) (by intro u hu; simp at hu; subst hu; rfl) (by unfold maxLen; omega) (by omega) (by simp; omega) ?_; intro v6 w6 hown6 hgr6 _ hat6; have HO6 := hide hown6; have HG6 := hide hgr6; have HA6 := hide hat6; clear hown6 hgr6 hat6)))
      obtain ⟨a1, a2, a3, a5, a8, a9, a10, a11, a12⟩ := HA.out
      obtain ⟨b1, b2, b3, b5, b6, b7, b8⟩ := HB.out
      have hX1 := b6.pos
      have hk1 : k + 1 ≤ n := by
        rw [b5] at hPl; simp at hPl; omega
      go_roundg (gk - 1)
      case measure => omega
      case rel =>
        exact ⟨k + 1, by go_num, hk1, by omega, lpA_step hsz1 (by omega) a1 a2 a3 HK.out a5 a8 a9 a10 a11 a12 b1 b2 b3 b5 b6 b7 b8 HO6.out HG6.out (HA6.out.imp id (fun h => by simpa using h))⟩
end Go.Proofs.Qxb6608589aDoor
