import Derived.Test.Qxb6630155aToks
namespace Go.Proofs.Qxb6630155a
open Go.RowKit

def opB (tx : Nat → ByteArray) (i : Nat) : Bool := (tx i).toList == [40]
def clB (tx : Nat → ByteArray) (i : Nat) : Bool := (tx i).toList == [41]
/-- One token more: how many parentheses are open (a ')' outside closes none). -/
def stepD (d : Nat) (o c : Bool) : Nat := if d = 0 then (if o then 1 else 0) else if o then d + 1 else if c then d - 1 else d
/-- D tells the depth ahead of each token from i on. -/
def Depths (tx : Nat → ByteArray) (n i : Nat) (D : Nat → Nat) : Prop := ∀ t, i ≤ t → t < n → D (t + 1) = stepD (D t) (opB tx t) (clB tx t)

def CloseAns (D : Nat → Nat) (n i : Nat) (e : Ending) : Prop := ∃ j : Nat, e = .returned (.int .i64 j) ∧ i ≤ j ∧ j < n ∧ (∀ u, i < u → u ≤ j → D u ≠ 0) ∧ (D (j + 1) = 0 ∨ j + 1 = n)
def SkipAns (D : Nat → Nat) (n i : Nat) (e : Ending) : Prop := ∃ j : Nat, e = .returned (.int .i64 j) ∧ i < j ∧ j ≤ n ∧ (∀ u, i < u → u < j → D u ≠ 0) ∧ (D j = 0 ∨ j = n)

theorem closing_any (b n cap : Nat) (i : Nat) (kd : Nat → Int) (tx : Nat → ByteArray) (ps : Nat → Int) (D : Nat → Nat) (w : World) (hn : n ≤ 32768) (hi : i < n) (hT : IsToks w (some ⟨b, 0, none⟩) n kd tx ps)
    (hD : Depths tx n i D) (h0 : D i = 0) (ho : opB tx i = true) :
    Calls Try.prog 14 #[.slice (some ⟨b, 0, none⟩) n cap, .int .i64 i] w fun e w' => CloseAns D n i e ∧ w' = w := by
  go_enter Try.func14, Try.ntmps14
  go_wp2_with fail
  go_loop [1, 5] (fun j d => ∃ t : Nat, i ≤ t ∧ t ≤ n ∧ j = .int .i64 t ∧ d = .int .i64 (D t) ∧ D t ≤ t - i ∧ (∀ u, i < u → u ≤ t → D u ≠ 0)) (fun j _ => n - (intOf j).toNat)
  case atStart => exact ⟨i, Nat.le_refl _, by omega, rfl, by rw [h0]; rfl, by omega, fun u h1 h2 => absurd h1 (by omega)⟩
  case round =>
    obtain ⟨t, ht0, ht, rfl, rfl, hle, hnz⟩ := hrel
    have HZ : Hid (∀ u, i < u → u ≤ t → D u ≠ 0) := hnz
    clear hnz
    by_cases hlt : t < n
    · obtain ⟨b', off', e, hbl, _, h1, _⟩ := hT t hlt
      cases e
      simp only [Nat.zero_add] at h1
      have hstep := hD t ht0 hlt
      have HD1 : Hid (D (t + 1) = stepD (D t) (opB tx t) (clB tx t)) := hstep
      have HO : Hid (t = i → opB tx t = true) := fun e => by rw [e]; exact ho
      have hti : D t = 0 → t = i := fun h => by
        rcases Nat.lt_or_ge i t with h2 | h2
        · exact absurd h (HZ.out t h2 (Nat.le_refl _))
        · omega
      have HTI : Hid (D t = 0 → t = i) := hti
      clear hT hD hstep hti h0 ho
      cases hop : opB tx t with
      | true =>
        have hop' : ((tx t).toList == [40]) = true := hop
        have e1 : Hid (D (t + 1) = D t + 1) := by
          show _ = _
          rw [HD1.out]; simp only [stepD, hop, if_true]; split <;> omega
        clear hop HD1 HO HTI
        go_wp2
        go_round
        case rel =>
          refine ⟨t + 1, by omega, by omega, by go_num, ?_, ?_, ?_⟩
          · rw [e1.out]; go_num
          · have := e1.out; omega
          · intro u h1 h2
            by_cases e : u = t + 1
            · subst e; have := e1.out; omega
            · exact HZ.out u h1 (by omega)
        case measure => simp [intOf]; omega
      | false =>
        have hop' : ((tx t).toList == [40]) = false := hop
        have hpos : D t ≠ 0 := fun h => by have := HO.out (HTI.out h); rw [hop] at this; cases this
        cases hcl : clB tx t with
        | true =>
          have hcl' : ((tx t).toList == [41]) = true := hcl
          have e1 : Hid (D (t + 1) = D t - 1) := by
            show _ = _
            rw [HD1.out]; simp only [stepD, hop, hcl, if_true]; rw [if_neg hpos]; simp
          clear hop hcl HD1 HO HTI
          by_cases h1d : D t = 1
          · have hb0 : (((D t : Int) - 1) == 0) = true := by simp; omega
            have hz : D (t + 1) = 0 := by have := e1.out; omega
            have HZ1 : Hid (D (t + 1) = 0) := hz
            clear h1d hz
            go_wp2
            go_ret
            exact ⟨⟨t, rfl, ht0, hlt, HZ.out, .inl HZ1.out⟩, rfl⟩
          · have hb0 : (((D t : Int) - 1) == 0) = false := by simp; omega
            go_wp2
            go_round
            case rel =>
              refine ⟨t + 1, by omega, by omega, by go_num, ?_, ?_, ?_⟩
              · rw [e1.out]; go_num
              · have := e1.out; omega
              · intro u h1 h2
                by_cases e : u = t + 1
                · subst e; have := e1.out; omega
                · exact HZ.out u h1 (by omega)
            case measure => simp [intOf]; omega
        | false =>
          have hcl' : ((tx t).toList == [41]) = false := hcl
          have e1 : Hid (D (t + 1) = D t) := by
            show _ = _
            rw [HD1.out]; simp only [stepD, hop, hcl]; rw [if_neg hpos]; simp
          clear hop hcl HD1 HO HTI
          go_wp2
          go_round
          case rel =>
            refine ⟨t + 1, by omega, by omega, by go_num, ?_, ?_, ?_⟩
            · rw [e1.out]
            · have := e1.out; omega
            · intro u h1 h2
              by_cases e : u = t + 1
              · subst e; have := e1.out; omega
              · exact HZ.out u h1 (by omega)
          case measure => simp [intOf]; omega
    · obtain rfl : n = t := by omega
      clear hT hD h0 ho
      go_wp2
      go_ret
      refine ⟨⟨n - 1, ?_, by omega, by omega, fun u h1 h2 => HZ.out u h1 (by omega), .inr (by omega)⟩, rfl⟩
      show Ending.returned (.int .i64 ((n : Int) - 1)) = _
      rw [show ((n - 1 : Nat) : Int) = (n : Int) - 1 by omega]

theorem skip_any (b n cap : Nat) (i : Nat) (kd : Nat → Int) (tx : Nat → ByteArray) (ps : Nat → Int) (D : Nat → Nat) (w : World) (hn : n ≤ 32768) (hi : i < n) (hT : IsToks w (some ⟨b, 0, none⟩) n kd tx ps)
    (hD : Depths tx n i D) (h0 : D i = 0) :
    Calls Try.prog 11 #[.slice (some ⟨b, 0, none⟩) n cap, .int .i64 i] w fun e w' => SkipAns D n i e ∧ w' = w := by
  obtain ⟨b', off', e, hbl, _, h1, _⟩ := hT i hi
  cases e
  simp only [Nat.zero_add] at h1
  cases ho : opB tx i with
  | true =>
    have cC := closing_any b n cap i kd tx ps D w hn hi hT hD h0 ho
    have ho' : ((tx i).toList == [40]) = true := ho
    clear hT hD ho h0
    go_enter Try.func11, Try.ntmps11
    go_wp2_with (go_at_call 14; refine cC.mono ?_; rintro e w' ⟨⟨j, rfl, hj1, hj2, hj3, hj4⟩, rfl⟩)
    go_ret
    refine ⟨⟨j + 1, ?_, by omega, by omega, fun u a b => hj3 u a (by omega), hj4⟩, rfl⟩
    show Ending.returned (.int .i64 ((j : Int) + 1)) = _
    rw [show ((j + 1 : Nat) : Int) = (j : Int) + 1 by omega]
  | false =>
    have hz : D (i + 1) = 0 := by rw [hD i (Nat.le_refl _) hi]; simp [stepD, h0, ho]
    have HZ : Hid (D (i + 1) = 0) := hz
    have ho' : ((tx i).toList == [40]) = false := ho
    clear hT hD ho h0 hz
    go_enter Try.func11, Try.ntmps11
    go_wp2_with fail
    go_ret
    refine ⟨⟨i + 1, ?_, by omega, by omega, fun u a b => absurd a (by omega), .inl HZ.out⟩, rfl⟩
    show Ending.returned (.int .i64 ((i : Int) + 1)) = _
    rw [show ((i + 1 : Nat) : Int) = (i : Int) + 1 by omega]
end Go.Proofs.Qxb6630155a
