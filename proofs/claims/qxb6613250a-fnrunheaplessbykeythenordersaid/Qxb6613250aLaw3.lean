/-
  FnRunHeapLessByKeyThenOrder: the walk, where the inputs fit.
-/
import Derived.Test.Qxb6613250aTwo
namespace Go.Proofs.Qxb6613250a
open Go.RowKit Go.Deep

set_option maxHeartbeats 8000000 in
theorem law3_fit (w : World) (la ka oa : Addr) (n lc kc oc i j : Nat) (A : Nat → Option Addr) (L C : Nat → Nat) (Z : Nat → Nat → Int) (K : Nat → Nat) (O : Nat → Int) (hn : n ≤ 65536) (hi : i < n) (hj : j < n)
    (hL : ∀ r, r < n → L r ≤ 1048576) (hK : ∀ r, r < n → K r ≤ L r) (hZ : ∀ r, r < n → ∀ c, c < L r → 0 ≤ Z r c ∧ Z r c ≤ 255) (G : Given w n la ka oa A L C Z (fun r => (K r : Int)) O) :
    Calls Try.prog 3 #[.slice (some la) n lc, .slice (some ka) n kc, .slice (some oa) n oc, .int .i64 i, .int .i64 j] w fun e w' => e = .returned (.bool true) ∧ Below w.heap.size w w' := by
  have H5 := fun W : World => fun hW : Given W n la ka oa A L C Z (fun r => (K r : Int)) O => zzbytes5 W (some la) (some ka) (some oa) n lc n kc n oc i j A L C (by omega) (by omega) (by omega) (fun r hr => ⟨la, rfl, hW.lines r hr⟩) (fun r hr => by have := hL r hr; omega)
  have H6 := fun W : World => fun hW : Given W n la ka oa A L C Z (fun r => (K r : Int)) O => fit_any W (some la) (some ka) (some oa) n lc n kc n oc i j A L C (fun r => (K r : Int)) (by omega) (by omega) (by omega) (fun r hr => ⟨la, rfl, hW.lines r hr⟩) hL (fun r hr => ⟨ka, rfl, hW.keys r hr⟩)
  have H7 := fun t : Nat => build_any n lc kc oc la ka oa A L C Z (fun r => (K r : Int)) O (w.drewN t) hn hL (G.drewN t)
  have HG : Hid (Given w n la ka oa A L C Z (fun r => (K r : Int)) O ∧ (∀ r, r < n → L r ≤ 1048576) ∧ (∀ r, r < n → K r ≤ L r) ∧ ∀ r, r < n → ∀ c, c < L r → 0 ≤ Z r c ∧ Z r c ≤ 255) := ⟨G, hL, hK, hZ⟩
  have H567 : Hid (_ ∧ _ ∧ _) := ⟨H5, H6, H7⟩
  clear H5 H6 H7 G hL hK hZ
  go_enter Try.func3, Try.ntmps3
  go_wp2_with fail
  refine (H567.out.1 w HG.out.1).mono ?_
  rintro e w1 ⟨b1, rfl, _, rfl⟩
  cases b1 with
  | false =>
    go_wp2
    go_ret
    exact ⟨rfl, Below.refl _ _⟩
  | true =>
    go_wp2_with fail
    refine (H567.out.2.1 _ HG.out.1).mono ?_
    rintro e w2 ⟨b2, rfl, _, t0, rfl⟩
    cases b2 with
    | false =>
      go_wp2
      go_ret
      exact ⟨rfl, below_drewN (Below.refl _ _) _⟩
    | true =>
      go_wp2_with fail
      refine (H567.out.2.2 t0).mono ?_
      rintro e w3 ⟨rfl, hbel, f, hrow, hruns⟩
      have hbel' : Below w1.heap.size w1 w3 := below_of_drewN hbel
      have G3 := HG.out.1.below hbel'
      have hrow' : w3.rowIs w1.heap.size 29 n (fun r => .pointer (some ⟨f r, 0, none⟩)) := hrow
      have hruns' : ∀ r, r < n → RunAt w1.heap.size w3 (f r) (O r) (K r) (L r) (Z r) := hruns
      have h81 : Calls Try.prog 8 #[.slice (some ⟨w1.heap.size, 0, none⟩) n n, .int .i64 i, .int .i64 j] w3 fun e w' => e = .returned (.bool (lessF (K i) (Z i) (K j) (Z j) (O i) (O j))) ∧ ∃ t', w' = w3.drewN t' :=
        built_less hrow' hruns' HG.out.2.2.1 HG.out.2.2.2 i j hi hj 0
      have h82 := fun t => built_less hrow' hruns' HG.out.2.2.1 HG.out.2.2.2 j i hj hi t
      have H8 : Hid (_ ∧ _) := ⟨h81, h82⟩
      have HB : Hid (Below w1.heap.size w1 w3) := hbel'
      have cI := G3.lines i hi
      have cJ := G3.lines j hj
      have kI := G3.keys i hi
      have kJ := G3.keys j hj
      have oI := G3.orders i hi
      have oJ := G3.orders j hj
      have HR : Hid (Given w3 n la ka oa A L C Z (fun r => (K r : Int)) O) := G3
      clear h81 h82 hrow hruns hrow' hruns' hbel hbel' G3 H567
      have i1 : (0 : Int) ≤ (i : Int) := by omega
      have i2 : (i : Int) < (n : Int) := by omega
      have j1 : (0 : Int) ≤ (j : Int) := by omega
      have j2 : (j : Int) < (n : Int) := by omega
      have eI := HG.out.2.2.1 i hi
      have eJ := HG.out.2.2.1 j hj
      have lI := HG.out.2.1 i hi
      have lJ := HG.out.2.1 j hj
      have fI := HG.out.1.cap i hi
      have fJ := HG.out.1.cap j hj
      go_wp2_with fail
      refine H8.out.1.mono ?_
      rintro e w4 ⟨rfl, t1, rfl⟩
      go_wp2_with fail
      refine (H8.out.2 t1).mono ?_
      rintro e w5 ⟨rfl, t2, rfl⟩
      generalize hbij : lessF (K i) (Z i) (K j) (Z j) (O i) (O j) = bij
      generalize hbji : lessF (K j) (Z j) (K i) (Z i) (O j) (O i) = bji
      have HIJ : Hid (lessF (K i) (Z i) (K j) (Z j) (O i) (O j) = bij) := hbij
      have HJI : Hid (lessF (K j) (Z j) (K i) (Z i) (O j) (O i) = bji) := hbji
      clear hbij hbji H8
      go_wp2
      go_quiet (fail)
      go_wp2
      go_quiet (fail)
      go_wp2
      have XI : Hid ((∀ x, A i = some x → ∀ c, c < K i → w3.cell? (x.add c) = some (.int .u8 (Z i c))) ∧ (A i = none → K i = 0)) :=
        ⟨fun x hx c hc => HR.out.bytes i hi x hx c (by omega), fun h => by have := HR.out.nil i hi h; omega⟩
      have XJ : Hid ((∀ x, A j = some x → ∀ c, c < K j → w3.cell? (x.add c) = some (.int .u8 (Z j c))) ∧ (A j = none → K j = 0)) :=
        ⟨fun x hx c hc => HR.out.bytes j hj x hx c (by omega), fun h => by have := HR.out.nil j hj h; omega⟩
      clear HR HG cI cJ kI kJ
      generalize A i = ai at *
      generalize A j = aj at *
      go_loopw [16] (fun v wr => ∃ p : Nat, p ≤ K i ∧ p ≤ K j ∧ v = .int .i64 p ∧ Hid (∀ r, r < p → Z i r = Z j r) ∧ ∃ t, wr = w3.drewN t) (fun v _ => K i - (intOf v).toNat)
      case atStart => exact ⟨0, Nat.zero_le _, Nat.zero_le _, rfl, (fun r hr => absurd hr (Nat.not_lt_zero _)), _, by rw [World.drewN_drewN, World.drewN_drewN]⟩
      case round =>
        obtain ⟨p, hp1, hp2, rfl, HE, t3, rfl⟩ := hrel
        by_cases g1 : p < K i
        · have d1 : decide ((p : Int) < (K i : Int)) = true := by simpa using g1
          by_cases g2 : p < K j
          · have d2 : decide ((p : Int) < (K j : Int)) = true := by simpa using g2
            obtain ⟨x, hx⟩ : ∃ x, ai = some x := by
              cases ai with
              | none => exact absurd (XI.out.2 rfl) (by omega)
              | some x => exact ⟨x, rfl⟩
            obtain ⟨y, hy⟩ : ∃ y, aj = some y := by
              cases aj with
              | none => exact absurd (XJ.out.2 rfl) (by omega)
              | some y => exact ⟨y, rfl⟩
            subst hx hy
            have c1 := XI.out.1 x rfl p g1
            have c2 := XJ.out.1 y rfl p g2
            have p0 : (0 : Int) ≤ (p : Int) := by omega
            have pI : (p : Int) < (K i : Int) := by omega
            have pJ : (p : Int) < (K j : Int) := by omega
            by_cases g3 : Z i p = Z j p
            · have d3 : (Z i p == Z j p) = true := by simpa using g3
              have H3 : Hid (Z i p = Z j p) := g3
              clear g3
              go_wp2
              go_quiet (fail)
              go_wp2
              go_roundw
              case rel =>
                refine ⟨p + 1, by omega, by omega, by go_num, fun r hr => ?_, _, rfl⟩
                by_cases e : r = p
                · subst e; exact H3.out
                · exact HE.out r (by omega)
              case measure => simp [intOf]; omega
            · have d3 : (Z i p == Z j p) = false := by simpa using g3
              have hij : bij = decide (Z i p < Z j p) := by rw [← HIJ.out]; exact lessF_at _ _ g1 g2 HE.out g3
              have hji : bji = decide (Z j p < Z i p) := by rw [← HJI.out]; exact lessF_at _ _ g2 g1 (fun r hr => (HE.out r hr).symm) (Ne.symm g3)
              clear HIJ HJI g3
              subst hij hji
              go_wp2
              go_quiet (fail)
              go_wp2
              go_quiet (fail)
              go_wp2
              go_ret
              exact ⟨rfl, by repeat (first | exact HB.out | apply below_drewN)⟩
          · have d2 : decide ((p : Int) < (K j : Int)) = false := by simpa using g2
            have he : ∀ r, r < min (K i) (K j) → Z i r = Z j r := fun r hr => HE.out r (by omega)
            have he' : ∀ r, r < min (K j) (K i) → Z j r = Z i r := fun r hr => (HE.out r (by omega)).symm
            have hij := HIJ.out.symm.trans (lessF_end (O i) (O j) he)
            have hji := HJI.out.symm.trans (lessF_end (O j) (O i) he')
            clear he he' HIJ HJI HE
            by_cases m1 : K i < K j
            · have m2 : ¬ K j < K i := by omega
              rw [if_pos m1] at hij
              rw [if_neg m2, if_pos m1] at hji
              subst hij hji
              go_wp2
              go_quiet (fail)
              go_wp2
              go_ret
              exact ⟨rfl, by repeat (first | exact HB.out | apply below_drewN)⟩
            · by_cases m2 : K j < K i
              · rw [if_neg m1, if_pos m2] at hij
                rw [if_pos m2] at hji
                subst hij hji
                go_wp2
                go_quiet (fail)
                go_wp2
                go_ret
                exact ⟨rfl, by repeat (first | exact HB.out | apply below_drewN)⟩
              · rw [if_neg m1, if_neg m2] at hij
                rw [if_neg m2, if_neg m1] at hji
                subst hij hji
                go_wp2
                go_quiet (fail)
                go_wp2
                go_quiet (fail)
                go_wp2
                go_ret
                exact ⟨rfl, by repeat (first | exact HB.out | apply below_drewN)⟩
        · have d1 : decide ((p : Int) < (K i : Int)) = false := by simpa using g1
          have he : ∀ r, r < min (K i) (K j) → Z i r = Z j r := fun r hr => HE.out r (by omega)
          have he' : ∀ r, r < min (K j) (K i) → Z j r = Z i r := fun r hr => (HE.out r (by omega)).symm
          have hij := HIJ.out.symm.trans (lessF_end (O i) (O j) he)
          have hji := HJI.out.symm.trans (lessF_end (O j) (O i) he')
          clear he he' HIJ HJI HE
          by_cases m1 : K i < K j
          · have m2 : ¬ K j < K i := by omega
            rw [if_pos m1] at hij
            rw [if_neg m2, if_pos m1] at hji
            subst hij hji
            go_wp2
            go_quiet (fail)
            go_wp2
            go_ret
            exact ⟨rfl, by repeat (first | exact HB.out | apply below_drewN)⟩
          · by_cases m2 : K j < K i
            · rw [if_neg m1, if_pos m2] at hij
              rw [if_pos m2] at hji
              subst hij hji
              go_wp2
              go_quiet (fail)
              go_wp2
              go_ret
              exact ⟨rfl, by repeat (first | exact HB.out | apply below_drewN)⟩
            · rw [if_neg m1, if_neg m2] at hij
              rw [if_neg m2, if_neg m1] at hji
              subst hij hji
              go_wp2
              go_quiet (fail)
              go_wp2
              go_quiet (fail)
              go_wp2
              go_ret
              exact ⟨rfl, by repeat (first | exact HB.out | apply below_drewN)⟩
end Go.Proofs.Qxb6613250a
