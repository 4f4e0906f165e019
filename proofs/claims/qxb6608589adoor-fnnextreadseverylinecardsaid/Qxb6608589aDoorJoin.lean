import Derived.Test.Qxb6608589aDoorReadAll
namespace Go.Proofs.Qxb6608589aDoor
open Go.RowKit Go.Joins
set_option linter.unusedVariables false

set_option maxRecDepth 100000 in
set_option maxHeartbeats 1000000 in
theorem join_big (pa pb : Option Addr) (na ca nb cb : Nat) (size : Int) (w : World) (h1 : na ≤ 9223372036854775807) (h2 : nb ≤ 9223372036854775807) (h : 1048576 < na + nb) :
    Calls Tryd.prog 5 #[.slice pa na ca, .slice pb nb cb, .int .i64 size] w fun e w' => e = .returned (.bool true) ∧ w' = w := by
  by_cases ha : 1048576 < na
  · go_enter Tryd.func5, Tryd.ntmps5
    go_wp2
    go_ret
    exact ⟨rfl, rfl⟩
  · by_cases hb : 1048576 < nb
    · go_enter Tryd.func5, Tryd.ntmps5
      go_wp2
      go_ret
      exact ⟨rfl, rfl⟩
    · go_enter Tryd.func5, Tryd.ntmps5
      go_wp2
      go_ret
      exact ⟨rfl, rfl⟩

set_option maxRecDepth 100000 in
set_option maxHeartbeats 1000000 in
theorem join_size (pa pb : Option Addr) (na ca nb cb : Nat) (size : Int) (w : World) (h : na + nb ≤ 1048576) (hs : 65536 < size) :
    Calls Tryd.prog 5 #[.slice pa na ca, .slice pb nb cb, .int .i64 size] w fun e w' => e = .returned (.bool true) ∧ w' = w := by
  go_enter Tryd.func5, Tryd.ntmps5
  go_wp2
  go_ret
  exact ⟨rfl, rfl⟩

set_option maxRecDepth 100000 in
set_option maxHeartbeats 1000000 in
theorem join_open (b o : Nat) (pb : Option Addr) (na ca nb cb : Nat) (x : Int) (size : Int) (w : World) (h : na + nb ≤ 1048576) (hs : ¬ 65536 < size) (h0 : 0 < na)
    (hc : w.cell? ⟨b, o + (na - 1), none⟩ = some (.int .u8 x)) (hx : (x != 10) = true) :
    Calls Tryd.prog 5 #[.slice (some ⟨b, o, none⟩) na ca, .slice pb nb cb, .int .i64 size] w fun e w' => e = .returned (.bool true) ∧ w' = w := by
  go_enter Tryd.func5, Tryd.ntmps5
  go_wp2
  go_ret
  exact ⟨rfl, rfl⟩

theorem bytes_yes (pa pb : Option Addr) (na ca nb cb : Nat) (size : Int) (w : World) (h : na + nb ≤ 1048576) :
    Calls Tryd.prog 14 #[.slice pa na ca, .slice pb nb cb, .int .i64 size] w fun e w' => e = .returned (.bool true) ∧ w' = w := by
  go_enter Tryd.func14, Tryd.ntmps14
  go_wp2
  go_ret
  exact ⟨rfl, rfl⟩

/-- the form of a slice that is owned -/
theorem own_at {w : World} {base e size n : Nat} {v : Value} {xs : List Value} (h : w.ownsRow base e size v n xs) : ∃ p cap, v = .slice p n cap ∧ (0 < n → ∃ g, p = some ⟨g, 0, none⟩ ∧ ∀ j u, xs[j]? = some u → w.cell? ⟨g, j, none⟩ = some u) := by
  rcases ownsRow_forms h with ⟨rfl, rfl⟩ | ⟨g, cap, rfl⟩
  · exact ⟨none, 0, rfl, fun h => absurd h (Nat.lt_irrefl 0)⟩
  · refine ⟨_, cap, rfl, fun _ => ⟨g, rfl, fun j u hu => ?_⟩⟩
    have := h.cells (g := g) rfl j u hu
    rwa [Addr.add_lit, Nat.zero_add] at this

theorem own_below {w w' : World} {base e size n : Nat} {v : Value} {xs : List Value} (h : w.ownsRow base e size v n xs) (hb : Below w.heap.size w w') : w'.ownsRow base e size v n xs :=
  own_keep h (Touch.of_below (S := []) hb) (by simp)
theorem Rows1.below {w w' : World} {B : Nat} {F : Nat → Prop} {vs : List Value} {Ls : List (List Int)} (h : Rows1 w B F vs Ls) (hb : Below w.heap.size w w') : Rows1 w' B F vs Ls :=
  h.step2 (fun g _ hg _ => hb.block g hg) (fun g _ h => h)
theorem bytesIn_below {w w' : World} {p : Option Addr} {n : Nat} {xs : List Int} (h : Lib.BytesIn w p n xs) (hb : Below w.heap.size w w') : Lib.BytesIn w' p n xs := by
  intro h0
  obtain ⟨b, o, hp, hc⟩ := h h0
  exact ⟨b, o, hp, fun i hi => (hb.cell (World.block_lt_of_cell? w _ (hc i hi))).trans (hc i hi)⟩
theorem clone_in {w : World} {dp : Option Addr} {g : Nat} {xs : List Int} (h : dp ≠ none → dp = some ⟨g, 0, none⟩ ∧ w.heap[g]? = some (.cells (cellsB xs) 5 (0, 0))) (h0 : dp = none → xs.length = 0) : Lib.BytesIn w dp xs.length xs := by
  intro hl
  have hne : dp ≠ none := fun e => by have := h0 e; omega
  obtain ⟨h1, h2⟩ := h hne
  exact ⟨g, 0, h1, fun i hi => by rw [Nat.zero_add]; exact cellsB_cell h2 i hi⟩
theorem src_in {w : World} {p : Option Addr} {xs : List Int} (h : Lib.BytesIn w p xs.length xs) : ∀ ad, p = some ad → ∀ j u, (xs.map (Value.int .u8))[j]? = some u → w.cell? (ad.add j) = some u := by
  intro ad hp j u hu
  have hlt : j < xs.length := by
    have := (List.getElem?_eq_some_iff.1 hu).1
    simpa using this
  obtain ⟨b, o, hp2, hc⟩ := h (by omega)
  rw [hp] at hp2
  injection hp2 with hp2
  rw [hp2, Addr.add_lit, hc j hlt]
  rw [List.getElem?_map] at hu
  simp [hlt] at hu ⊢
  exact hu

theorem IsLines.len : ∀ {Ls : List (List Int)} {P : List Int}, IsLines Ls P → Ls.length ≤ P.length
  | [], P, h => by simp
  | L :: Ls, P, h => by
    obtain ⟨X, P', hP, hp, hL, hr⟩ := h
    have := hr.len
    have := hp.pos
    rw [hP]; simp; omega
theorem IsLines.each : ∀ {Ls : List (List Int)} {P : List Int}, IsLines Ls P → ∀ L ∈ Ls, L.length ≤ P.length
  | [], P, h => by simp
  | L :: Ls, P, h => by
    obtain ⟨X, P', hP, hp, hL, hr⟩ := h
    intro M hM
    rw [hP, List.length_append]
    rcases List.mem_cons.1 hM with rfl | hM
    · have h1 := tr_length 10 X
      have h2 := tr_length 13 (tr 10 X)
      have h3 : (trimL X).length ≤ X.length := Nat.le_trans h2 h1
      rw [hL]; omega
    · have := hr.each M hM; omega
theorem cells_in {w : World} {b o n : Nat} {xs : List Int} (h : Lib.BytesIn w (some ⟨b, o, none⟩) n xs) : ∀ i, i < n → w.cell? ⟨b, o + i, none⟩ = some (.int .u8 (xs.getD i 0)) := by
  intro i hi
  obtain ⟨b', o', hp, hc⟩ := h (by omega)
  injection hp with hp
  injection hp with h1 h2
  subst h1; subst h2
  exact hc i hi
/-- a line among the lines -/
theorem row_at {w : World} {base B : Nat} {F : Nat → Prop} {p : Option Addr} {n cap : Nat} {vs : List Value} {Ls : List (List Int)} (ho : w.ownsRow base 25 1 (.slice p n cap) n vs) (hr : Rows1 w B F vs Ls) {k : Nat} {L : List Int} (hk : k < n) (hL : Ls[k]? = some L) :
    ∃ G g, p = some ⟨G, 0, none⟩ ∧ w.cell? ⟨G, k, none⟩ = some (.slice (some ⟨g, 0, none⟩) L.length L.length) ∧ ∀ i, i < L.length → w.cell? ⟨g, 0 + i, none⟩ = some (.int .u8 (L.getD i 0)) := by
  obtain ⟨p', cap', hv, hg⟩ := own_at ho
  injection hv with h1 h2 h3
  subst h1
  obtain ⟨G, hG, hc⟩ := hg (by omega)
  obtain ⟨g, g1, g2, g3, g4⟩ := hr.2 k L hL
  exact ⟨G, g, hG, hc k _ g1, fun i hi => by rw [Nat.zero_add]; exact cellsB_cell g4 i hi⟩
theorem same_tt (b1 c b2 d : Nat) (xs : List Int) (w : World) (hn : xs.length ≤ 1048576)
    (hc1 : ∀ i, i < xs.length → w.cell? ⟨b1, 0 + i, none⟩ = some (.int .u8 (xs.getD i 0))) (hc2 : ∀ i, i < xs.length → w.cell? ⟨b2, 0 + i, none⟩ = some (.int .u8 (xs.getD i 0))) :
    Calls Tryd.prog 12 #[.slice (some ⟨b1, 0, none⟩) xs.length c, .slice (some ⟨b2, 0, none⟩) xs.length d] w fun e w' => e = .returned (.bool true) ∧ ∃ q, w' = w.drewN q :=
  (same_any b1 0 xs.length c b2 0 xs.length d xs xs w rfl rfl (by omega) (by omega) hc1 hc2).mono fun e w' h => ⟨h.1.trans (by simp [sameB]), h.2⟩
theorem below_made {w w' : World} {o : Obj} (h : (w.alloc o).grownBy w' (some w.heap.size)) : Below w.heap.size w w' :=
  ((Below.refl w.heap.size w).alloc (Nat.le_refl _) o).grown h (by simp) (fun k e => by injection e with e; omega)
theorem below_more {w w1 w' : World} (hb : Below w.heap.size w w1) (h : w1.grownBy w' (some w.heap.size)) : Below w.heap.size w w' :=
  hb.grown h hb.size (fun k e => by injection e with e; omega)

set_option maxRecDepth 100000 in
set_option maxHeartbeats 2000000 in
theorem join_main (pa pb : Option Addr) (na ca nb cb : Nat) (xs ys : List Int) (size : Int) (aE aF : Addr) (w : World) (h : na + nb ≤ 1048576) (hs : ¬ 65536 < size)
    (hxl : xs.length = na) (hyl : ys.length = nb) (hpa : pa = none → na = 0 ∧ ca = 0) (hpb : pb = none → nb = 0 ∧ cb = 0) (hx : Lib.BytesIn w pa na xs) (hy : Lib.BytesIn w pb nb ys) (hbx : Byt xs) (hby : Byt ys) (hse : Sent w aE aF)
    (hend : na = 0 ∨ ∃ b o, pa = some ⟨b, o, none⟩ ∧ 0 < na ∧ w.cell? ⟨b, o + (na - 1), none⟩ = some (.int .u8 10)) (hends : Ends xs) :
    Calls Tryd.prog 5 #[.slice pa na ca, .slice pb nb cb, .int .i64 size] w fun e w' => e = .returned (.bool true) ∧ Below w.heap.size w w' := by
  have HXL := hide hxl
  have HYL := hide hyl
  have HPA := hide hpa
  have HPB := hide hpb
  have HX := hide hx
  have HY := hide hy
  have HBX := hide hbx
  have HBY := hide hby
  have HSE := hide hse
  have HEN := hide hends
  clear hxl hyl hpa hpb hx hy hbx hby hse hends
  have hs' : size ≤ 65536 := by omega
  obtain ⟨i0, hi, hz0, hz1, hz2⟩ := info_parts Tryd.info5
  have hmk := fun w => run_make5 w 0 (na + nb) (by omega) (by omega)
  rw [Int.natCast_zero, Int.natCast_add] at hmk
  rcases hend with hna | ⟨b, o, rfl, h0, hc⟩
  case' inl =>
    have h0 : na ≤ 0 := by omega
    have h0' : ¬ (0 : Int) < (na : Int) := by omega
    clear hna
    go_enter Tryd.func5, Tryd.ntmps5
    go_upto_region 11 with (first
      | (go_at_call 14; go_must (refine (bytes_yes _ _ na ca nb cb size _ h).mono ?_; rintro e w' ⟨rfl, hw⟩; rw [hw]; clear hw w'))
      | (go_at_call_of 8 na; go_must (refine (clone_any pa na ca xs _ HXL.out (by omega) HPA.out (by exact HX.out)).mono ?_; rintro e w1 ⟨da, rfl, k1, k2, k3, k4⟩; have K1 := hide k1; have K2 := hide k2; have K3 := hide k3; have K4 := hide k4; clear k1 k2 k3 k4))
      | (go_at_call_of 8 nb; go_must (refine (clone_any pb nb cb ys _ HYL.out (by omega) HPB.out (by exact bytesIn_below HY.out K2.out)).mono ?_; rintro e w2 ⟨db, rfl, k1, k2, k3, k4⟩; have L1 := hide k1; have L2 := hide k2; have L3 := hide k3; have L4 := hide k4; clear k1 k2 k3 k4)))
  case' inr =>
    go_enter Tryd.func5, Tryd.ntmps5
    go_upto_region 11 with (first
      | (go_at_call 14; go_must (refine (bytes_yes _ _ na ca nb cb size _ h).mono ?_; rintro e w' ⟨rfl, hw⟩; rw [hw]; clear hw w'))
      | (go_at_call_of 8 na; go_must (refine (clone_any (some ⟨b, o, none⟩) na ca xs _ HXL.out (by omega) HPA.out (by exact HX.out)).mono ?_; rintro e w1 ⟨da, rfl, k1, k2, k3, k4⟩; have K1 := hide k1; have K2 := hide k2; have K3 := hide k3; have K4 := hide k4; clear k1 k2 k3 k4))
      | (go_at_call_of 8 nb; go_must (refine (clone_any pb nb cb ys _ HYL.out (by omega) HPB.out (by exact bytesIn_below HY.out K2.out)).mono ?_; rintro e w2 ⟨db, rfl, k1, k2, k3, k4⟩; have L1 := hide k1; have L2 := hide k2; have L3 := hide k3; have L4 := hide k4; clear k1 k2 k3 k4)))
  all_goals
    have hb2 : w1.heap.size ≤ w2.heap.size := L2.out.size
    have hb1 : w.heap.size ≤ w1.heap.size := K2.out.size
    have hda : da = none → na = 0 := fun h => (HPA.out (K1.out.1 h)).1
    have hdb : db = none → nb = 0 := fun h => (HPB.out (L1.out.1 h)).1
    have INA : Hid (Lib.BytesIn w2 da na xs) := by
      have h1 := clone_in K4.out (fun h => by rw [HXL.out]; exact hda h)
      rw [HXL.out] at h1
      exact bytesIn_below h1 L2.out
    have INB : Hid (Lib.BytesIn w2 db nb ys) := by
      have h1 := clone_in L4.out (fun h => by rw [HYL.out]; exact hdb h)
      rw [HYL.out] at h1
      exact h1
    have BW2 : Hid (Below w.heap.size w w2) := K2.out.trans (L2.out.mono hb1)
    have HDA := hide hda
    have HDB := hide hdb
    clear K1 K2 K3 K4 L1 L2 L3 L4 hda hdb HPA HPB HX HY
    have HOM : Hid ((w2.alloc (.cells (cellsB (List.replicate (na + nb) 0)) 5)).ownsRow w2.heap.size 5 1 (.slice (some ⟨w2.heap.size, 0, none⟩) 0 (na + nb)) 0 []) :=
      World.ownsRow_made w2 _ (na + nb) (Nat.le_refl _) (by unfold maxLen; omega) (by simp [cellsB])
    have ina0 : Lib.BytesIn (w2.alloc (.cells (cellsB (List.replicate (na + nb) 0)) 5)) da na xs := bytesIn_below INA.out ((Below.refl _ _).alloc (Nat.le_refl _) _)
    have INA0 := hide ina0
    clear ina0
    go_upto_region 14 with (first
      | (at_builtin; refine wpList_append_fits_any _ rfl (.tmp 61) (.tmp 62) 25 rfl w2.heap.size 5 i0 1 Tryd.underlying25 hi hz1 w2.heap.size 0 (na + nb) [] rfl HOM.out da na na (xs.map (Value.int .u8)) rfl (by rw [List.length_map, HXL.out]; simp) (by exact fun h => ⟨HDA.out h, HDA.out h⟩) (by exact src_in (by rw [HXL.out]; exact INA0.out)) (by exact oneB _) (by omega) ?_; intro wA hoA hgA; simp only [List.nil_append, Nat.zero_add] at hoA; have HOA := hide hoA; have HGA := hide hgA; have INBA := hide (bytesIn_below INB.out (below_made hgA)); have BWA := hide (below_made hgA); clear hoA hgA)
      | (at_builtin; go_must (refine wpList_append_fits_any _ rfl (.tmp 64) (.tmp 65) 25 rfl w2.heap.size 5 i0 1 Tryd.underlying25 hi hz1 w2.heap.size na (na + nb) (xs.map (Value.int .u8)) rfl HOA.out db nb nb (ys.map (Value.int .u8)) rfl (by rw [List.length_map, HYL.out]; simp) (by exact fun h => ⟨HDB.out h, HDB.out h⟩) (by exact src_in (by rw [HYL.out]; exact INBA.out)) (by exact oneB _) (by omega) ?_; intro wB hoB hgB; have HOB := hide hoB; have HGB := hide hgB; clear hoB hgB)))
    have BWB : Hid (Below w2.heap.size w2 wB) := below_more BWA.out HGB.out
    have SB : Hid (Sent wB aE aF) := (HSE.out.below BW2.out).below BWB.out
    have IA : Hid (Lib.BytesIn wB da na xs) := bytesIn_below INA.out BWB.out
    have IB : Hid (Lib.BytesIn wB db nb ys) := bytesIn_below INB.out BWB.out
    have hL : (xs ++ ys).length = na + nb := by rw [List.length_append, HXL.out, HYL.out]
    have IAB : Hid (Lib.BytesIn wB (some ⟨w2.heap.size, 0, none⟩) (na + nb) (xs ++ ys)) := by
      have ho := HOB.out
      rw [← List.map_append, ← hL] at ho
      have := own_bytesIn ho
      rw [hL] at this
      exact this
    have HLX := hide hL
    have HBXY : Hid (Byt (xs ++ ys)) := fun x hx => (List.mem_append.1 hx).elim (HBX.out x) (HBY.out x)
    have BB : Hid (Below w.heap.size w wB) := BW2.out.trans (BWB.out.mono BW2.out.size)
    clear BWB BWA HGB HGA HOA HOB INA INB INA0 INBA HOM hmk hL HSE
    have hp0 : (some (⟨w2.heap.size, 0, none⟩ : Addr) = none → na + nb = 0 ∧ na + nb = 0) := fun h => by cases h
    have HP0 := hide hp0
    clear hp0
    go_upto_region 19 with (first
      | (go_at_call_of 15 da; go_must (refine (readAll_any da na na size xs aE aF _ HXL.out (by omega) hs' (by exact fun h => ⟨HDA.out h, HDA.out h⟩) (by exact IA.out) HBX.out (by exact SB.out)).mono ?_; rintro e wC ⟨va, vsa, La, rfl, k1, k2, k3, k4⟩; obtain ⟨pla, cla, rfl, k5⟩ := own_at k2; have A1 := hide k1; have A2 := hide k2; have A3 := hide k3; have A4 := hide k4; clear k1 k2 k3 k4 k5))
      | (go_at_call_of 15 db; go_must (refine (readAll_any db nb nb size ys aE aF _ HYL.out (by omega) hs' (by exact fun h => ⟨HDB.out h, HDB.out h⟩) (by exact bytesIn_below IB.out A4.out) HBY.out (by exact SB.out.below A4.out)).mono ?_; rintro e wD ⟨vb, vsb, Lb, rfl, k1, k2, k3, k4⟩; obtain ⟨plb, clb, rfl, k5⟩ := own_at k2; have B1 := hide k1; have B2 := hide k2; have B3 := hide k3; have B4 := hide k4; clear k1 k2 k3 k4 k5))
      | (go_at_call_of 15 (na + nb); go_must (refine (readAll_any (some ⟨w2.heap.size, 0, none⟩) (na + nb) (na + nb) size (xs ++ ys) aE aF _ HLX.out (by omega) hs' (by exact HP0.out) (by exact bytesIn_below (bytesIn_below IAB.out A4.out) B4.out) HBXY.out (by exact (SB.out.below A4.out).below B4.out)).mono ?_; rintro e wE ⟨vc, vsc, Lc, rfl, k1, k2, k3, k4⟩; obtain ⟨plc, clc, rfl, k5⟩ := own_at k2; have C1 := hide k1; have C2 := hide k2; have C3 := hide k3; have C4 := hide k4; clear k1 k2 k3 k4 k5)))
    have HLC : Hid (Lc = La ++ Lb) := C1.out.unique (A1.out.join HEN.out B1.out)
    have hla := A1.out.len
    have hlb := B1.out.len
    rw [HXL.out] at hla
    rw [HYL.out] at hlb
    have hlc : Lc.length = La.length + Lb.length := by rw [HLC.out, List.length_append]
    have hq1 : ((Lc.length : Int) != (countLn (xs ++ ys) : Int)) = false := by rw [C1.out.count]; simp
    have hq2 : ((Lc.length : Int) != (La.length : Int) + (Lb.length : Int)) = false := by rw [hlc]; simp
    have hlc2 : Lc.length ≤ na + nb := by omega
    have hlc3 : La.length + Lb.length ≤ Lc.length := by omega
    have HLCN := hide hlc
    have HLA : Hid (∀ L ∈ La, L.length ≤ na) := fun L hL => by have := A1.out.each L hL; rw [HXL.out] at this; exact this
    have HLB : Hid (∀ L ∈ Lb, L.length ≤ nb) := fun L hL => by have := B1.out.each L hL; rw [HYL.out] at this; exact this
    have HIC : Hid (∀ i, i < na + nb → wE.cell? ⟨w2.heap.size, 0 + i, none⟩ = some (.int .u8 ((xs ++ ys).getD i 0))) := cells_in (bytesIn_below (bytesIn_below (bytesIn_below IAB.out A4.out) B4.out) C4.out)
    have OA : Hid (wE.ownsRow wB.heap.size 25 1 (.slice pla La.length cla) La.length vsa) := own_below (own_below A2.out B4.out) C4.out
    have RA : Hid (Rows1 wE wB.heap.size (fun _ => False) vsa La) := (A3.out.below B4.out).below C4.out
    have OB : Hid (wE.ownsRow wC.heap.size 25 1 (.slice plb Lb.length clb) Lb.length vsb) := own_below B2.out C4.out
    have RB : Hid (Rows1 wE wC.heap.size (fun _ => False) vsb Lb) := B3.out.below C4.out
    have OC := C2
    have RC := C3
    have BE : Hid (Below w.heap.size w wE) := BB.out.trans ((A4.out.mono BB.out.size).trans ((B4.out.mono (Nat.le_trans BB.out.size A4.out.size)).trans (C4.out.mono (Nat.le_trans BB.out.size (Nat.le_trans A4.out.size B4.out.size)))))
    clear A1 A2 A3 A4 B1 B2 B3 B4 C1 C2 C3 C4 BB hlc IA IB IAB SB
    go_wp2_with (go_at_call 16; go_must (refine (count_any w2.heap.size 0 (na + nb) (na + nb) (xs ++ ys) _ HLX.out (by omega) (by exact HIC.out)).mono ?_; rintro e w' ⟨rfl, hw⟩; rw [hw]; clear hw w'))
    clear HIC hq1 hq2
    go_loopw [14] (fun i wx => ∃ k : Nat, k ≤ La.length ∧ i = .int .i64 k ∧ ∃ q, wx = wE.drewN q) (fun i _ => La.length - (intOf i).toNat)
    case atStart => exact ⟨0, Nat.zero_le _, rfl, 0, rfl⟩
    case round =>
      obtain ⟨k, hk, rfl, q, rfl⟩ := hrel
      by_cases hlt : k < La.length
      · obtain ⟨L, hL⟩ : ∃ L, La[k]? = some L := ⟨_, List.getElem?_eq_getElem hlt⟩
        have hLc : Lc[k]? = some L := by rw [HLC.out, List.getElem?_append_left hlt]; exact hL
        have hLl : L.length ≤ 1048576 := Nat.le_trans (HLA.out L (List.mem_of_getElem? hL)) (by omega)
        obtain ⟨GA, ga, e1, e2, e3⟩ := row_at OA.out RA.out hlt hL
        obtain ⟨GC, gc, d1, d2, d3⟩ := row_at OC.out RC.out (by omega) hLc
        subst e1
        subst d1
        have E3 := hide e3
        have D3 := hide d3
        clear e3 d3 hL hLc
        have hkc : (k : Int) < (Lc.length : Int) := by omega
        have hsame : sameB L L = true := by simp [sameB]
        go_wp2
        go_quiet ((go_at_call 12; exact quiet_of2 (same_tt gc L.length ga L.length L _ hLl (by exact D3.out) (by exact E3.out))))
        go_wp2
        go_roundw
        case rel => exact ⟨k + 1, by omega, by go_num, _, rfl⟩
        case measure => simp [intOf]; omega
      · go_wp2
        clear hk hlt
        go_loopw [15] (fun i wx => ∃ k : Nat, k ≤ Lb.length ∧ i = .int .i64 k ∧ ∃ q, wx = wE.drewN q) (fun i _ => Lb.length - (intOf i).toNat)
        case atStart => exact ⟨0, Nat.zero_le _, rfl, q, rfl⟩
        case round =>
          obtain ⟨k2, hk, rfl, q2, rfl⟩ := hrel
          by_cases hlt : k2 < Lb.length
          · obtain ⟨L, hL⟩ : ∃ L, Lb[k2]? = some L := ⟨_, List.getElem?_eq_getElem hlt⟩
            have hLc : Lc[La.length + k2]? = some L := by rw [HLC.out, List.getElem?_append_right (by omega), Nat.add_sub_cancel_left]; exact hL
            have hLl : L.length ≤ 1048576 := Nat.le_trans (HLB.out L (List.mem_of_getElem? hL)) (by omega)
            obtain ⟨GB, gb, e1, e2, e3⟩ := row_at OB.out RB.out hlt hL
            obtain ⟨GC, gc, d1, d2, d3⟩ := row_at OC.out RC.out (by omega) hLc
            subst e1
            subst d1
            have E3 := hide e3
            have D3 := hide d3
            clear e3 d3 hL hLc
            have hkc : (La.length : Int) + (k2 : Int) < (Lc.length : Int) := by omega
            go_wp2
            go_quiet ((go_at_call 12; exact quiet_of2 (same_tt gc L.length gb L.length L _ hLl (by exact D3.out) (by exact E3.out))))
            go_wp2
            go_roundw
            case rel => exact ⟨k2 + 1, by omega, by go_num, _, rfl⟩
            case measure => simp [intOf]; omega
          · go_wp2
            go_ret
            exact ⟨rfl, BE.out.trans (below_draws _ _ _)⟩
end Go.Proofs.Qxb6608589aDoor
