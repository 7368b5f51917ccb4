/-
  FnRunHeapLessReadsOnlyKeysAndOrders: the walk, where the inputs fit.
-/
import Derived.Test.Qxb6613250aSame
import Derived.Deep.RegionHeld3
namespace Go.Proofs.Qxb6613250a
open Go.RowKit Go.Deep

set_option maxHeartbeats 8000000 in
theorem law4_fit (w : World) (la ka oa : Addr) (n lc kc oc i j : Nat) (A : Nat → Option Addr) (L C : Nat → Nat) (Z : Nat → Nat → Int) (K : Nat → Nat) (O : Nat → Int) (hn : n ≤ 65536) (hi : i < n) (hj : j < n)
    (hL : ∀ r, r < n → L r ≤ 1048576) (hK : ∀ r, r < n → K r ≤ L r) (hZ : ∀ r, r < n → ∀ c, c < L r → 0 ≤ Z r c ∧ Z r c ≤ 255) (G : Given w n la ka oa A L C Z (fun r => (K r : Int)) O) :
    Calls Try.prog 4 #[.slice (some la) n lc, .slice (some ka) n kc, .slice (some oa) n oc, .int .i64 i, .int .i64 j] w fun e w' => e = .returned (.bool true) ∧ Below w.heap.size w w' := by
  have H5 := fun W : World => fun hW : Given W n la ka oa A L C Z (fun r => (K r : Int)) O => zzbytes9 W (some la) (some ka) (some oa) n lc n kc n oc i j A L C (by omega) (by omega) (by omega) (fun r hr => ⟨la, rfl, hW.lines r hr⟩) (fun r hr => by have := hL r hr; omega)
  have H6 := fun W : World => fun hW : Given W n la ka oa A L C Z (fun r => (K r : Int)) O => fit_any W (some la) (some ka) (some oa) n lc n kc n oc i j A L C (fun r => (K r : Int)) (by omega) (by omega) (by omega) (fun r hr => ⟨la, rfl, hW.lines r hr⟩) hL (fun r hr => ⟨ka, rfl, hW.keys r hr⟩)
  have H7 := fun t : Nat => build_any n lc kc oc la ka oa A L C Z (fun r => (K r : Int)) O (w.drewN t) hn hL (G.drewN t)
  have HG : Hid (Given w n la ka oa A L C Z (fun r => (K r : Int)) O ∧ (∀ r, r < n → L r ≤ 1048576) ∧ (∀ r, r < n → K r ≤ L r) ∧ ∀ r, r < n → ∀ c, c < L r → 0 ≤ Z r c ∧ Z r c ≤ 255) := ⟨G, hL, hK, hZ⟩
  have H567 : Hid (_ ∧ _ ∧ _) := ⟨H5, H6, H7⟩
  clear H5 H6 H7 G hL hK hZ
  go_enter Try.func4, Try.ntmps4
  go_wp2_with fail
  refine (H567.out.1 w HG.out.1).mono ?_
  rintro e w1 ⟨b1, rfl, _, rfl⟩
  cases b1 with
  | false =>
    go_wp2
    go_ret
    exact ⟨rfl, Below.refl _ _⟩
  | true =>
    go_wp2_with fail
    refine (H567.out.2.1 _ HG.out.1).mono ?_
    rintro e w2 ⟨b2, rfl, _, t0, rfl⟩
    cases b2 with
    | false =>
      go_wp2
      go_ret
      exact ⟨rfl, below_drewN (Below.refl _ _) _⟩
    | true =>
      go_wp2_with fail
      refine (H567.out.2.2 t0).mono ?_
      rintro e w3 ⟨rfl, hbel, f, hrow, hruns⟩
      have hbel' : Below w1.heap.size w1 w3 := below_of_drewN hbel
      have G3 := HG.out.1.below hbel'
      have hrow' : w3.rowIs w1.heap.size 29 n (fun r => .pointer (some ⟨f r, 0, none⟩)) := hrow
      have hruns' : ∀ r, r < n → RunAt w1.heap.size w3 (f r) (O r) (K r) (L r) (Z r) := hruns
      have h81 : Calls Try.prog 8 #[.slice (some ⟨w1.heap.size, 0, none⟩) n n, .int .i64 i, .int .i64 j] w3 fun e w' => e = .returned (.bool (lessF (K i) (Z i) (K j) (Z j) (O i) (O j))) ∧ ∃ t', w' = w3.drewN t' :=
        built_less hrow' hruns' HG.out.2.2.1 HG.out.2.2.2 i j hi hj 0
      have H8 : Hid (w3.rowIs w1.heap.size 29 n (fun r => .pointer (some ⟨f r, 0, none⟩)) ∧ ∀ r, r < n → RunAt w1.heap.size w3 (f r) (O r) (K r) (L r) (Z r)) := ⟨hrow', hruns'⟩
      have H81 : Hid (_ ∧ True) := ⟨h81, trivial⟩
      have HB : Hid (Below w1.heap.size w1 w3) := hbel'
      have cI := G3.lines i hi
      have cJ := G3.lines j hj
      have kI := G3.keys i hi
      have kJ := G3.keys j hj
      have oI := G3.orders i hi
      have oJ := G3.orders j hj
      have HR : Hid (Given w3 n la ka oa A L C Z (fun r => (K r : Int)) O) := G3
      clear h81 hrow hruns hrow' hruns' hbel hbel' G3 H567
      have i1 : (0 : Int) ≤ (i : Int) := by omega
      have i2 : (i : Int) < (n : Int) := by omega
      have j1 : (0 : Int) ≤ (j : Int) := by omega
      have j2 : (j : Int) < (n : Int) := by omega
      have eI := HG.out.2.2.1 i hi
      have eJ := HG.out.2.2.1 j hj
      have lI := HG.out.2.1 i hi
      have lJ := HG.out.2.1 j hj
      have fI := HG.out.1.cap i hi
      have fJ := HG.out.1.cap j hj
      go_wp2_with fail
      refine H81.out.1.mono ?_
      rintro e w4 ⟨rfl, t1, rfl⟩
      generalize hbij : lessF (K i) (Z i) (K j) (Z j) (O i) (O j) = bij
      have HIJ : Hid (lessF (K i) (Z i) (K j) (Z j) (O i) (O j) = bij) := hbij
      clear hbij H81
      go_wp2
      go_quiet (fail)
      go_wp2
      go_quiet (fail)
      go_wp2
      rw [World.drewN_drewN, World.drewN_drewN]
      generalize t1 + _ + _ = t9
      have hKj : K j ≤ 1048576 := by omega
      have hKi : K i ≤ 1048576 := by omega
      have HN : Hid ((A j = none → K j = 0 ∧ C j = 0) ∧ (A i = none → K i = 0 ∧ C i = 0)) :=
        ⟨fun h => by have := HR.out.nil j hj h; omega, fun h => by have := HR.out.nil i hi h; omega⟩
      have HY : Hid ((∀ a, A j = some a → ∀ c, c < K j → w3.cell? (a.add c) = some (.int .u8 (Z j c))) ∧ (∀ a, A i = some a → ∀ c, c < K i → w3.cell? (a.add c) = some (.int .u8 (Z i c)))) :=
        ⟨fun a ha c hc => HR.out.bytes j hj a ha c (by omega), fun a ha c hc => HR.out.bytes i hi a ha c (by omega)⟩
      go_region_held3 (fun w' => w'.cell? (oa.add j) = some (.int .i64 (O j)) ∧ w'.cell? (ka.add j) = some (.int .i64 (K j)) ∧ w'.cell? (oa.add i) = some (.int .i64 (O i)) ∧ w'.cell? (ka.add i) = some (.int .i64 (K i)))
        (first
          | exact ⟨q1, q2, q3, q4⟩
          | exact ⟨Lib.cell?_alloc_some _ q1, Lib.cell?_alloc_some _ q2, Lib.cell?_alloc_some _ q3, Lib.cell?_alloc_some _ q4⟩
          | exact ⟨Lib.cell?_alloc_some _ (Lib.cell?_alloc_some _ q1), Lib.cell?_alloc_some _ (Lib.cell?_alloc_some _ q2), Lib.cell?_alloc_some _ (Lib.cell?_alloc_some _ q3), Lib.cell?_alloc_some _ (Lib.cell?_alloc_some _ q4)⟩
          | (simp [*]; done))
        (first
          | (go_at_call_of 11 (A j); refine (clone_any (A j) (K j) (C j) (Z j) _ hKj HN.out.1 (by exact HY.out.1)).mono ?_; rintro e wa ⟨aj, rfl, hb1, hc1⟩; have ba : Below w3.heap.size w3 wa := ⟨hb1.os, hb1.tape, hb1.output, hb1.size, hb1.block⟩; have q1 := (ba.cell (lt_of_cell oJ)).trans oJ; have q2 := (ba.cell (lt_of_cell kJ)).trans kJ; have q3 := (ba.cell (lt_of_cell oI)).trans oI; have q4 := (ba.cell (lt_of_cell kI)).trans kI)
          | (go_at_call_of 11 (A i); refine (clone_any (A i) (K i) (C i) (Z i) _ hKi HN.out.2 (by exact fun a ha c hc => Lib.cell?_alloc_some _ ((ba.cell (lt_of_cell (HY.out.2 a ha c hc))).trans (HY.out.2 a ha c hc)))).mono ?_; rintro e wc ⟨ai, rfl, hb2, hc2⟩; have q1 := (hb2.cell (lt_of_cell (Lib.cell?_alloc_some _ q1))).trans (Lib.cell?_alloc_some _ q1); have q2 := (hb2.cell (lt_of_cell (Lib.cell?_alloc_some _ q2))).trans (Lib.cell?_alloc_some _ q2); have q3 := (hb2.cell (lt_of_cell (Lib.cell?_alloc_some _ q3))).trans (Lib.cell?_alloc_some _ q3); have q4 := (hb2.cell (lt_of_cell (Lib.cell?_alloc_some _ q4))).trans (Lib.cell?_alloc_some _ q4))
          | (go_at_call 10; refine (newRun_any _ _ _ _ _ _).mono ?_; rintro e w2 ⟨rfl, rfl⟩))
      have hsa : (wa.alloc (.cells #[.int .i64 (O j), .nilFunc, .slice aj (K j) (K j), .int .i64 (K j)] 37)).heap.size = wa.heap.size + 1 := by simp
      rw [hsa] at hb2 hc2
      have hba := ba.size
      have hbc := hb2.size
      rw [hsa] at hbc
      have hP := pair_less (oi := O i) (fun c hc => HG.out.2.2.2 j hj c (by omega)) (fun c hc => HG.out.2.2.2 i hi c (by omega)) hc1 hb2 hc2 0
      have b9 : Below w3.heap.size w3 ((wc.alloc (.cells #[.int .i64 (O i), .nilFunc, .slice ai (K i) (K i), .int .i64 (K i)] 37)).alloc (.cells #[.pointer (some ⟨wa.heap.size, 0, none⟩), .pointer (some ⟨wc.heap.size, 0, none⟩)] 29)) :=
        (((ba.alloc hba _).trans (hb2.mono (by omega))).alloc (by omega) _).alloc (by simp; omega) _
      rw [HIJ.out] at hP
      have HP : Hid (Calls Try.prog 8 #[.slice (some ⟨wc.heap.size + 1, 0, none⟩) 2 2, .int .i64 1, .int .i64 0] ((wc.alloc (.cells #[.int .i64 (O i), .nilFunc, .slice ai (K i) (K i), .int .i64 (K i)] 37)).alloc (.cells #[.pointer (some ⟨wa.heap.size, 0, none⟩), .pointer (some ⟨wc.heap.size, 0, none⟩)] 29)) fun e w' =>
        e = .returned (.bool bij) ∧ ∃ t', w' = ((wc.alloc (.cells #[.int .i64 (O i), .nilFunc, .slice ai (K i) (K i), .int .i64 (K i)] 37)).alloc (.cells #[.pointer (some ⟨wa.heap.size, 0, none⟩), .pointer (some ⟨wc.heap.size, 0, none⟩)] 29)).drewN t') := hP
      clear hP hb1 hb2 hc1 hc2 ba q1 q2 q3 q4 hsa hba hbc cI cJ kI kJ oI oJ
      generalize (wc.alloc (.cells #[.int .i64 (O i), .nilFunc, .slice ai (K i) (K i), .int .i64 (K i)] 37)).alloc (.cells #[.pointer (some ⟨wa.heap.size, 0, none⟩), .pointer (some ⟨wc.heap.size, 0, none⟩)] 29) = W9 at *
      have G9 := HR.out.below b9
      have oI := G9.orders i hi
      have oJ := G9.orders j hj
      have HoI : Hid (Holding W9 (A i) (K i) (Z i)) := ⟨fun h => (HN.out.2 h).1, fun a ha c hc => G9.bytes i hi a ha c (by omega), fun c hc => HG.out.2.2.2 i hi c (by omega)⟩
      have HoJ : Hid (Holding W9 (A j) (K j) (Z j)) := ⟨fun h => (HN.out.1 h).1, fun a ha c hc => G9.bytes j hj a ha c (by omega), fun c hc => HG.out.2.2.2 j hj c (by omega)⟩
      have hrow9 : W9.rowIs w1.heap.size 29 n (fun r => .pointer (some ⟨f r, 0, none⟩)) := H8.out.1.of_block (b9.block _ H8.out.1.lt)
      have hruns9 : ∀ r, r < n → RunAt w1.heap.size W9 (f r) (O r) (K r) (L r) (Z r) := fun r hr => (H8.out.2 r hr).below b9
      have H9 : Hid (W9.rowIs w1.heap.size 29 n (fun r => .pointer (some ⟨f r, 0, none⟩)) ∧ ∀ r, r < n → RunAt w1.heap.size W9 (f r) (O r) (K r) (L r) (Z r)) := ⟨hrow9, hruns9⟩
      have HB9 : Hid (Below w1.heap.size w1 W9) := HB.out.trans (b9.mono HB.out.size)
      clear G9 hrow9 hruns9 b9 HR HN HY H8 HB
      go_wp2_with fail
      refine HP.out.mono ?_
      rintro e w6 ⟨rfl, t6, rfl⟩
      go_wp2_with fail
      refine (same_any (W9.drewN t6) (A i) (A j) (K i) (C i) (K j) (C j) (Z i) (Z j) hKi hKj HoI.out HoJ.out).mono ?_
      rintro e w7 ⟨rfl, t7, rfl⟩
      cases hs : sameF (K i) (Z i) (K j) (Z j) with
      | true =>
        have hij : bij = decide (O i < O j) := HIJ.out.symm.trans (lessF_same (O i) (O j) hs)
        clear HIJ hs HP
        subst hij
        go_wp2
        go_quiet (fail)
        go_wp2
        go_ret
        exact ⟨rfl, by repeat (first | exact HB9.out | apply below_drewN)⟩
      | false =>
        have hij := HIJ.out.symm.trans (lessF_differ (O i) (O j) hs)
        clear HIJ hs HP
        go_wp2_with fail
        refine (built_less H9.out.1 H9.out.2 HG.out.2.2.1 HG.out.2.2.2 j i hj hi _).mono ?_
        rintro e w8 ⟨rfl, t8, rfl⟩
        subst hij
        generalize lessF (K j) (Z j) (K i) (Z i) (O j) (O i) = s
        cases s
        all_goals
          go_wp2
          go_ret
          exact ⟨rfl, by repeat (first | exact HB9.out | apply below_drewN)⟩
end Go.Proofs.Qxb6613250a
