import Derived.Test.Qxb6630199aNum
import Derived.WalkSmall
namespace Go.Proofs.Qxb6630199a
open Go.RowKit

/-- The last run of digits, as number() finds it: it ends at E, and i is where the reading stops (at most 20 digits back). -/
structure Ends (k : ByteArray) (E i : Nat) : Prop where
  le : E ≤ k.size
  none : ∀ j, E ≤ j → j < k.size → dg k j = false
  last : E = 0 ∨ dg k (E - 1) = true
  ie : i ≤ E
  all : ∀ j, i ≤ j → j < E → dg k j = true
  most : E ≤ i + 20
  stop : i = 0 ∨ E = i + 20 ∨ dg k (i - 1) = false

/-- The number of the j digits from i on. -/
def val (k : ByteArray) (i : Nat) : Nat → Nat
  | 0 => 0
  | j + 1 => 10 * val k i j + (byteAt k (i + j) - 48).toNat

def NumAns (k : ByteArray) (w : World) (e : Ending) (w' : World) : Prop :=
  ∃ E i, Ends k E i ∧ Below w.heap.size w w' ∧
    (((E ≤ i ∨ i + 19 < E) ∧ e = .returned (.tuple #[.agg #[.int .i64 0, .string ⟨#[]⟩, .string ⟨#[]⟩, .int .u64 0], .bool false]))
    ∨ ((i < E ∧ E ≤ i + 19) ∧ e = .returned (.tuple #[.agg #[.int .i64 ((E : Int) - (i : Int)), .string (k.extract 0 i), .string (k.extract E k.size), .int .u64 (val k i (E - i) : Nat)], .bool true])))

theorem val_lt (k : ByteArray) (i m : Nat) (h : ∀ j, i ≤ j → j < i + m → dg k j = true) : ∀ p, p ≤ m → val k i p < 10 ^ p
  | 0, _ => by simp [val]
  | p + 1, hp => by
    have ih := val_lt k i m h p (by omega)
    have hd := h (i + p) (by omega) (by omega)
    simp [dg, dgI] at hd
    have : val k i (p + 1) = 10 * val k i p + (byteAt k (i + p) - 48).toNat := rfl
    rw [this, Nat.pow_succ]
    omega

/-- THE WORLD IN THE LAST LOOP: the answer in block R, the iterator behind it. -/
structure Rd (w0 : World) (d : Int) (pr su : ByteArray) (s : ByteArray) (V : Int) (p : Nat) (w : World) : Prop where
  it : w.heap[w0.heap.size + 1]? = some (.stringIter s p)
  c0 : w.cell? ⟨w0.heap.size, 0, none⟩ = some (.int .i64 d)
  c1 : w.cell? ⟨w0.heap.size, 1, none⟩ = some (.string pr)
  c2 : w.cell? ⟨w0.heap.size, 2, none⟩ = some (.string su)
  c3 : w.cell? ⟨w0.heap.size, 3, none⟩ = some (.int .u64 V)
  fz : ∀ j, w.frozen? ⟨w0.heap.size, j, none⟩ = false
  bel : Below w0.heap.size w0 w
theorem Rd.step {w0 : World} {d : Int} {pr su s : ByteArray} {V : Int} {p : Nat} {w : World} (h : Rd w0 d pr su s V p w) (p' : Nat) : Rd w0 d pr su s V p' (w.iterAt (w0.heap.size + 1) s p') := by
  have e : (w.iterAt (w0.heap.size + 1) s p').heap[w0.heap.size]? = w.heap[w0.heap.size]? := Lib.iterAt_other _ _ _ _ _ (by omega)
  have ec : ∀ j, (w.iterAt (w0.heap.size + 1) s p').cell? ⟨w0.heap.size, j, none⟩ = w.cell? ⟨w0.heap.size, j, none⟩ := fun j => by simp only [World.cell?, e]
  have ef : ∀ j, (w.iterAt (w0.heap.size + 1) s p').frozen? ⟨w0.heap.size, j, none⟩ = w.frozen? ⟨w0.heap.size, j, none⟩ := fun j => by simp only [World.frozen?, e]
  exact ⟨Lib.iterAt_heap _ _ _ _ _ h.it, (ec 0).trans h.c0, (ec 1).trans h.c1, (ec 2).trans h.c2, (ec 3).trans h.c3, fun j => (ef j).trans (h.fz j), Lib.below_iterAt h.bel (by omega) _ _⟩
theorem Rd.store {w0 : World} {d : Int} {pr su s : ByteArray} {V : Int} {p : Nat} {w : World} (h : Rd w0 d pr su s V p w) (V' : Int) : Rd w0 d pr su s V' p (w.setCell ⟨w0.heap.size, 3, none⟩ (.int .u64 V')) := by
  refine ⟨?_, ?_, ?_, ?_, World.cell?_setCell_same' _ _ _ (by rw [h.c3]; rfl), fun j => ?_, h.bel.setCell (Nat.le_refl _) _⟩
  · rw [Below.heap_setCell _ _ _ _ (by simp)]; exact h.it
  · rw [World.cell?_setCell_other (h := by simp)]; exact h.c0
  · rw [World.cell?_setCell_other (h := by simp)]; exact h.c1
  · rw [World.cell?_setCell_other (h := by simp)]; exact h.c2
  · rw [World.frozen?_setCell]; exact h.fz j

theorem Rd.start (w : World) (d : Int) (pr su s : ByteArray) : Rd w d pr su s 0 0 ((w.alloc (.cells #[.int .i64 d, .string pr, .string su, .int .u64 0] 33)).drew.iter s 0) := by
  have hz : (w.alloc (.cells #[.int .i64 d, .string pr, .string su, .int .u64 0] 33)).drew.heap.size = w.heap.size + 1 := World.size_alloc ..
  have hi := World.iter_heap (w.alloc (.cells #[.int .i64 d, .string pr, .string su, .int .u64 0] 33)).drew s 0
  rw [hz] at hi
  have ec : ∀ j, ((w.alloc (.cells #[.int .i64 d, .string pr, .string su, .int .u64 0] 33)).drew.iter s 0).cell? ⟨w.heap.size, j, none⟩ = (#[.int .i64 d, .string pr, .string su, .int .u64 0] : Array Value)[j]? := fun j => by
    refine (World.cell?_alloc_past (hn := by rw [hz]; omega) ..).trans ?_
    exact World.cell?_alloc_at (hn := rfl) ..
  refine ⟨hi, (ec 0).trans rfl, (ec 1).trans rfl, (ec 2).trans rfl, (ec 3).trans rfl, fun j => ?_, ?_⟩
  · have e : ((w.alloc (.cells #[.int .i64 d, .string pr, .string su, .int .u64 0] 33)).drew.iter s 0).heap[w.heap.size]? = some (.cells #[.int .i64 d, .string pr, .string su, .int .u64 0] 33) := by
      show ((w.heap.push _).push _)[w.heap.size]? = _
      simp [Array.getElem?_push]
    simp [World.frozen?, e]
  · have hb : Below w.heap.size w (w.alloc (.cells #[.int .i64 d, .string pr, .string su, .int .u64 0] 33)) := (Below.refl _ _).alloc (Nat.le_refl _) _
    have hb2 : Below w.heap.size w (w.alloc (.cells #[.int .i64 d, .string pr, .string su, .int .u64 0] 33)).drew := hb.drew
    exact hb2.alloc (by rw [hz]; omega) _

set_option maxHeartbeats 1000000 in
theorem number_any (k : ByteArray) (w : World) (hk : k.size ≤ 1048576) : Calls Try.prog 12 #[.string k] w (NumAns k w) := by
  go_enter Try.func12, Try.ntmps12
  go_wp2
  go_loop [4] (fun e => ∃ E : Nat, E ≤ k.size ∧ e = .int .i64 E ∧ ∀ j, E ≤ j → j < k.size → dg k j = false) (fun e => (intOf e).toNat)
  case atStart => exact ⟨k.size, Nat.le_refl _, rfl, fun j h1 h2 => absurd h2 (by omega)⟩
  case round =>
    obtain ⟨E, hE, rfl, hno⟩ := hrel
    have HN : Hid (∀ j, E ≤ j → j < k.size → dg k j = false) := ⟨hno⟩
    clear hno
    by_cases h0 : 0 < E
    · obtain ⟨F, hF⟩ : ∃ F, E = F + 1 := ⟨E - 1, by omega⟩
      have hlt : F < k.size := by omega
      have hEF : (E : Int) - 1 = (F : Int) := by omega
      have hli : (F : Int) < (k.size : Int) := by omega
      have hd := dg_eq k F hlt
      have HF : Hid (E = F + 1) := ⟨hF⟩
      clear hF
      cases hdp : dg k F with
      | false => as_aux_lemma =>
        rw [hdp] at hd
        have HD : Hid (dg k F = false) := ⟨hdp⟩
        clear hdp
        go_wp2_with (go_at_call 13; refine (isdig13 _ _).mono ?_; rintro e' w1 ⟨rfl, hw⟩; obtain rfl := hw)
        go_round
        case rel =>
          have := HF.out
          refine ⟨F, by omega, by go_num, fun j h1 h2 => ?_⟩
          by_cases e : j = F
          · subst e; exact HD.out
          · exact HN.out j (by omega) h2
        case measure => have := HF.out; simp [intOf]; omega
      | true =>
        rw [hdp] at hd
        have HL : Hid (E = 0 ∨ dg k (E - 1) = true) := ⟨Or.inr (by rw [HF.out]; exact hdp)⟩
        clear hdp
        go_wp2_with (go_at_call 13; refine (isdig13 _ _).mono ?_; rintro e' w1 ⟨rfl, hw⟩; obtain rfl := hw)
        clear hd hEF
        go_loop [5] (fun e => ∃ i : Nat, i ≤ E ∧ E ≤ i + 20 ∧ e = .int .i64 i ∧ ∀ j, i ≤ j → j < E → dg k j = true) (fun e => (intOf e).toNat)
        case atStart => exact ⟨E, Nat.le_refl _, by omega, rfl, fun j h1 h2 => absurd h2 (by omega)⟩
        case round =>
          obtain ⟨i, hi, hi20, rfl, hal⟩ := hrel
          have HA : Hid (∀ j, i ≤ j → j < E → dg k j = true) := ⟨hal⟩
          clear hal
          have hfin : (i = 0 ∨ E = i + 20 ∨ dg k (i - 1) = false) → Hid (Ends k E i) := fun h => ⟨⟨hE, HN.out, HL.out, hi, HA.out, hi20, h⟩⟩
          by_cases hi0 : 0 < i
          · obtain ⟨G, hG⟩ : ∃ G, i = G + 1 := ⟨i - 1, by omega⟩
            have hGi : (i : Int) - 1 = (G : Int) := by omega
            have hlG : G < k.size := by omega
            have hGk : (G : Int) < (k.size : Int) := by omega
            have HG : Hid (i = G + 1) := ⟨hG⟩
            clear hG
            by_cases h19 : (E : Int) - (i : Int) ≤ 19
            · have hdG := dg_eq k G hlG
              cases hdp : dg k G with
              | true => as_aux_lemma =>
                rw [hdp] at hdG
                have HD : Hid (dg k G = true) := ⟨hdp⟩
                clear hdp hfin
                go_wp2_with (go_at_call 13; refine (isdig13 _ _).mono ?_; rintro e' w1 ⟨rfl, hw⟩; obtain rfl := hw)
                go_round
                case rel =>
                  have := HG.out
                  refine ⟨G, by omega, by omega, by go_num, fun j h1 h2 => ?_⟩
                  by_cases e : j = G
                  · subst e; exact HD.out
                  · exact HA.out j (by omega) h2
                case measure => have := HG.out; simp [intOf]; omega
              | false => 
                rw [hdp] at hdG
                have HE := hfin (Or.inr (Or.inr (by rw [HG.out]; exact hdp)))
                clear hdp hfin
                by_cases hie : i < E
                · have hz : ((E : Int) - (i : Int) == 0) = false := by simp; omega
                  go_wp2_with (go_at_call 13; refine (isdig13 _ _).mono ?_; rintro e' w1 ⟨rfl, hw⟩; obtain rfl := hw)
                  go_region
                  go_wp2_with fail
                  have hES := HE.out
                  have hsz : (k.extract i E).size = E - i := by rw [ByteArray.size_extract]; omega
                  have HB : Hid (∀ p (h : p < (k.extract i E).size), ((k.extract i E)[p].toNat : Int) = byteAt k (i + p)) := ⟨fun p h => by
                    rw [byteAt_eq k (i + p) (by omega), ByteArray.getElem_extract]⟩
                  have HVL : Hid (∀ p, p ≤ E - i → val k i p < 10 ^ p) := ⟨val_lt k i (E - i) (fun j h1 h2 => hES.all j h1 (by omega))⟩
                  have HDG : Hid (∀ p, p < E - i → 48 ≤ byteAt k (i + p) ∧ byteAt k (i + p) ≤ 57) := ⟨fun p h => by have := hES.all (i + p) (by omega) (by omega); simpa [dg, dgI] using this⟩
                  have HV : Hid (∀ p, val k i (p + 1) = 10 * val k i p + (byteAt k (i + p) - 48).toNat) := ⟨fun _ => rfl⟩
                  have hR0 := Rd.start w ((E : Int) - (i : Int)) (k.extract 0 i) (k.extract E k.size) (k.extract i E)
                  have HPR : Hid (∀ e w', (e = .returned (.tuple #[.agg #[.int .i64 ((E : Int) - (i : Int)), .string (k.extract 0 i), .string (k.extract E k.size), .int .u64 (val k i (E - i) : Nat)], .bool true])) → Below w.heap.size w w' → NumAns k w e w') := ⟨fun e w' h1 h2 => ⟨E, i, HE.out, h2, Or.inr ⟨by omega, h1⟩⟩⟩
                  generalize ((w.alloc (.cells #[.int .i64 ((E : Int) - (i : Int)), .string (k.extract 0 i), .string (k.extract E k.size), .int .u64 0] 33)).drew.iter (k.extract i E) 0) = wI at *
                  generalize k.extract 0 i = pr at *
                  generalize k.extract E k.size = su at *
                  generalize k.extract i E = s at *
                  clear hES
                  go_loopw [8] (fun _ wr => ∃ p : Nat, p ≤ E - i ∧ Rd w ((E : Int) - (i : Int)) pr su s (val k i p : Nat) p wr) (fun _ wr => s.size - wr.iterPos (w.heap.size + 1))
                  case atStart => exact ⟨0, Nat.zero_le _, hR0⟩
                  case round =>
                    clear hR0
                    obtain ⟨p, hp, hR⟩ := hrel
                    have hpos := iterPos_of hR.it
                    by_cases hlt : p < E - i
                    · have hps : p < s.size := by omega
                      have hx := HB.out p hps
                      obtain ⟨hx1, hx2⟩ := HDG.out p hlt
                      have hnx : ∀ ty, (Instr.next (.pointer (some ⟨w.heap.size + 1, 0, none⟩)) true ty).run Try.prog wr = _ := fun ty => Lib.run_next_ascii_at wr (w.heap.size + 1) s p ty hR.it hps (by omega)
                      have hR1 := hR.step (p + 1)
                      have hvl := HVL.out p hp
                      have hpw : 10 ^ p ≤ 10 ^ 18 := Nat.pow_le_pow_right (by omega) (by omega)
                      have HV1 := HV.out p
                      have HV2 : Hid ((val k i (p + 1) : Int) = 10 * (val k i p : Int) + (byteAt k (i + p) - 48)) := ⟨by rw [HV1]; omega⟩
                      generalize val k i p = V at *
                      have hVb : V < 1000000000000000000 := by omega
                      rw [hx] at hnx
                      generalize byteAt k (i + p) = x at *
                      have m1 : IntKind.u64.wrap (10 * (V : Int)) = 10 * (V : Int) := IntWalk.u64_in _ (by omega)
                      have m2 : IntKind.i32.wrap (x - 48) = x - 48 := by rw [IntKind.wrap_i32]; omega
                      have m3 : IntKind.u64.wrap (x - 48) = x - 48 := IntWalk.u64_in _ (by omega)
                      have m4 : IntKind.u64.wrap (10 * (V : Int) + (x - 48)) = 10 * (V : Int) + (x - 48) := IntWalk.u64_in _ (by omega)
                      obtain ⟨W1, hW1⟩ : ∃ W1, W1 = wr.iterAt (w.heap.size + 1) s (p + 1) := ⟨_, rfl⟩
                      rw [← hW1] at hnx hR1
                      clear hW1 hR hpw hvl HV1 hx hVb
                      have c3 := hR1.c3
                      have f3 := hR1.fz 3
                      go_wp2_with fail
                      go_roundw
                      case rel =>
                        refine ⟨p + 1, by omega, ?_⟩
                        rw [HV2.out]
                        exact hR1.store _
                      case measure =>
                        rw [iterPos_of (hR1.store _).it, hpos]
                        omega
                    · obtain rfl : p = E - i := by omega
                      have hnx : ∀ ty, (Instr.next (.pointer (some ⟨w.heap.size + 1, 0, none⟩)) true ty).run Try.prog wr = _ := fun ty => Lib.run_next_end_at wr (w.heap.size + 1) s (E - i) ty hR.it (by omega)
                      obtain ⟨_, c0, c1, c2, c3, hfz, hbel⟩ := hR
                      have f0 := hfz 0
                      have f1 := hfz 1
                      have f2 := hfz 2
                      have f3 := hfz 3
                      generalize val k i (E - i) = V at *
                      go_wp2_with fail
                      refine bodyPost_ret (v := .tuple #[.agg #[.int .i64 ((E : Int) - (i : Int)), .string pr, .string su, .int .u64 (V : Nat)], .bool true]) (by simp [results, Try.results12, go_sem, c0, c1, c2, c3]) rfl (HPR.out _ _ rfl ?_)
                      exact (((hbel.setCell (Nat.le_refl _) _).setCell (Nat.le_refl _) _).setCell (Nat.le_refl _) _).setCell (Nat.le_refl _) _
                · have hz : ((E : Int) - (i : Int) == 0) = true := by simp; omega
                  go_wp2_with (go_at_call 13; refine (isdig13 _ _).mono ?_; rintro e' w1 ⟨rfl, hw⟩; obtain rfl := hw)
                  refine bodyPost_ret (v := .tuple #[.agg #[.int .i64 0, .string ⟨#[]⟩, .string ⟨#[]⟩, .int .u64 0], .bool false]) (by simp [results, Try.results12, go_sem]) rfl ⟨E, i, HE.out, ?_, Or.inl ⟨Or.inl (by omega), rfl⟩⟩
                  exact (Below.refl _ _).alloc (Nat.le_refl _) _
            · have HE := hfin (Or.inr (Or.inl (by omega)))
              clear hfin
              go_wp2
              refine bodyPost_ret (v := .tuple #[.agg #[.int .i64 0, .string ⟨#[]⟩, .string ⟨#[]⟩, .int .u64 0], .bool false]) (by simp [results, Try.results12, go_sem]) rfl ⟨E, i, HE.out, ?_, Or.inl ⟨Or.inr (by omega), rfl⟩⟩
              exact (Below.refl _ _).alloc (Nat.le_refl _) _
          · have HE := hfin (Or.inl (by omega))
            clear hfin
            have hz : ((E : Int) - (i : Int) == 0) = false := by simp; omega
            have hie : i < E := by omega
            by_cases h19 : (E : Int) - (i : Int) ≤ 19
            · go_wp2
              go_region
              go_wp2_with fail
              have hES := HE.out
              have hsz : (k.extract i E).size = E - i := by rw [ByteArray.size_extract]; omega
              have HB : Hid (∀ p (h : p < (k.extract i E).size), ((k.extract i E)[p].toNat : Int) = byteAt k (i + p)) := ⟨fun p h => by
                rw [byteAt_eq k (i + p) (by omega), ByteArray.getElem_extract]⟩
              have HVL : Hid (∀ p, p ≤ E - i → val k i p < 10 ^ p) := ⟨val_lt k i (E - i) (fun j h1 h2 => hES.all j h1 (by omega))⟩
              have HDG : Hid (∀ p, p < E - i → 48 ≤ byteAt k (i + p) ∧ byteAt k (i + p) ≤ 57) := ⟨fun p h => by have := hES.all (i + p) (by omega) (by omega); simpa [dg, dgI] using this⟩
              have HV : Hid (∀ p, val k i (p + 1) = 10 * val k i p + (byteAt k (i + p) - 48).toNat) := ⟨fun _ => rfl⟩
              have hR0 := Rd.start w ((E : Int) - (i : Int)) (k.extract 0 i) (k.extract E k.size) (k.extract i E)
              have HPR : Hid (∀ e w', (e = .returned (.tuple #[.agg #[.int .i64 ((E : Int) - (i : Int)), .string (k.extract 0 i), .string (k.extract E k.size), .int .u64 (val k i (E - i) : Nat)], .bool true])) → Below w.heap.size w w' → NumAns k w e w') := ⟨fun e w' h1 h2 => ⟨E, i, HE.out, h2, Or.inr ⟨by omega, h1⟩⟩⟩
              generalize ((w.alloc (.cells #[.int .i64 ((E : Int) - (i : Int)), .string (k.extract 0 i), .string (k.extract E k.size), .int .u64 0] 33)).drew.iter (k.extract i E) 0) = wI at *
              generalize k.extract 0 i = pr at *
              generalize k.extract E k.size = su at *
              generalize k.extract i E = s at *
              clear hES
              go_loopw [8] (fun _ wr => ∃ p : Nat, p ≤ E - i ∧ Rd w ((E : Int) - (i : Int)) pr su s (val k i p : Nat) p wr) (fun _ wr => s.size - wr.iterPos (w.heap.size + 1))
              case atStart => exact ⟨0, Nat.zero_le _, hR0⟩
              case round =>
                clear hR0
                obtain ⟨p, hp, hR⟩ := hrel
                have hpos := iterPos_of hR.it
                by_cases hlt : p < E - i
                · have hps : p < s.size := by omega
                  have hx := HB.out p hps
                  obtain ⟨hx1, hx2⟩ := HDG.out p hlt
                  have hnx : ∀ ty, (Instr.next (.pointer (some ⟨w.heap.size + 1, 0, none⟩)) true ty).run Try.prog wr = _ := fun ty => Lib.run_next_ascii_at wr (w.heap.size + 1) s p ty hR.it hps (by omega)
                  have hR1 := hR.step (p + 1)
                  have hvl := HVL.out p hp
                  have hpw : 10 ^ p ≤ 10 ^ 18 := Nat.pow_le_pow_right (by omega) (by omega)
                  have HV1 := HV.out p
                  have HV2 : Hid ((val k i (p + 1) : Int) = 10 * (val k i p : Int) + (byteAt k (i + p) - 48)) := ⟨by rw [HV1]; omega⟩
                  generalize val k i p = V at *
                  have hVb : V < 1000000000000000000 := by omega
                  rw [hx] at hnx
                  generalize byteAt k (i + p) = x at *
                  have m1 : IntKind.u64.wrap (10 * (V : Int)) = 10 * (V : Int) := IntWalk.u64_in _ (by omega)
                  have m2 : IntKind.i32.wrap (x - 48) = x - 48 := by rw [IntKind.wrap_i32]; omega
                  have m3 : IntKind.u64.wrap (x - 48) = x - 48 := IntWalk.u64_in _ (by omega)
                  have m4 : IntKind.u64.wrap (10 * (V : Int) + (x - 48)) = 10 * (V : Int) + (x - 48) := IntWalk.u64_in _ (by omega)
                  obtain ⟨W1, hW1⟩ : ∃ W1, W1 = wr.iterAt (w.heap.size + 1) s (p + 1) := ⟨_, rfl⟩
                  rw [← hW1] at hnx hR1
                  clear hW1 hR hpw hvl HV1 hx hVb
                  have c3 := hR1.c3
                  have f3 := hR1.fz 3
                  go_wp2_with fail
                  go_roundw
                  case rel =>
                    refine ⟨p + 1, by omega, ?_⟩
                    rw [HV2.out]
                    exact hR1.store _
                  case measure =>
                    rw [iterPos_of (hR1.store _).it, hpos]
                    omega
                · obtain rfl : p = E - i := by omega
                  have hnx : ∀ ty, (Instr.next (.pointer (some ⟨w.heap.size + 1, 0, none⟩)) true ty).run Try.prog wr = _ := fun ty => Lib.run_next_end_at wr (w.heap.size + 1) s (E - i) ty hR.it (by omega)
                  obtain ⟨_, c0, c1, c2, c3, hfz, hbel⟩ := hR
                  have f0 := hfz 0
                  have f1 := hfz 1
                  have f2 := hfz 2
                  have f3 := hfz 3
                  generalize val k i (E - i) = V at *
                  go_wp2_with fail
                  refine bodyPost_ret (v := .tuple #[.agg #[.int .i64 ((E : Int) - (i : Int)), .string pr, .string su, .int .u64 (V : Nat)], .bool true]) (by simp [results, Try.results12, go_sem, c0, c1, c2, c3]) rfl (HPR.out _ _ rfl ?_)
                  exact (((hbel.setCell (Nat.le_refl _) _).setCell (Nat.le_refl _) _).setCell (Nat.le_refl _) _).setCell (Nat.le_refl _) _
            · go_wp2
              refine bodyPost_ret (v := .tuple #[.agg #[.int .i64 0, .string ⟨#[]⟩, .string ⟨#[]⟩, .int .u64 0], .bool false]) (by simp [results, Try.results12, go_sem]) rfl ⟨E, i, HE.out, ?_, Or.inl ⟨Or.inr (by omega), rfl⟩⟩
              exact (Below.refl _ _).alloc (Nat.le_refl _) _
    · obtain rfl : E = 0 := by omega
      go_wp2
      refine wp_loop_rounds 1 ?_
      rw [rounds_succ]
      go_wp2
      refine bodyPost_ret (v := .tuple #[.agg #[.int .i64 0, .string ⟨#[]⟩, .string ⟨#[]⟩, .int .u64 0], .bool false]) (by simp [results, Try.results12, go_sem]) rfl ⟨0, 0, ⟨Nat.zero_le _, HN.out, Or.inl rfl, Nat.le_refl _, fun j h1 h2 => absurd h2 (by omega), by omega, Or.inl rfl⟩, ?_, Or.inl ⟨Or.inl (Nat.le_refl _), rfl⟩⟩
      exact (Below.refl _ _).alloc (Nat.le_refl _) _
end Go.Proofs.Qxb6630199a
