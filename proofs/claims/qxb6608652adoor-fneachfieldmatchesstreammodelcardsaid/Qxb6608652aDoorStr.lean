import Derived.Test.Qxb6608652aDoorKit
namespace Go.Proofs.Qxb6608652aDoor
set_option linter.unusedVariables false
set_option linter.unusedSimpArgs false
open Go.ChangeShapes Go.WideShapes Go.ChangeAt Go.RowKit

set_option maxHeartbeats 1000000 in
set_option maxRecDepth 100000 in
/-- bytes.IndexByte at an address. -/
theorem ib_at (b o n c : Nat) (xs : List Int) (cv : Int) (w : World) (hx : xs.length = n) (hc : ∀ i, i < n → w.cell? ⟨b, o + i, none⟩ = some (.int .u8 (xs.getD i 0))) :
    Calls Tryd.prog 17 #[.slice (some ⟨b, o, none⟩) n c, .int .u8 cv] w fun e w' => e = .returned (.int .i64 (Lib.indexByte (Lib.bytesOf xs) (UInt8.ofNat cv.toNat))) ∧ w' = w := by
  go_enter Tryd.func17, Tryd.ntmps17
  go_wp2
  rw [run_callFunc_extern Tryd.func19 (by kernel_rfl) (by kernel_rfl) (by kernel_rfl) (e := Extern.BytealgIndexByte.indexByte) (by kernel_rfl), Lib.run_indexByteSlice w b o n c xs hx hc cv]
  simp only [Result.andThen]
  rw [Oper.upon_value]
  go_wp2
  go_ret
  exact ⟨rfl, rfl⟩

theorem bytesOf_get (xs : List Int) (k : Nat) : (Lib.bytesOf xs)[k]? = (xs[k]?).map fun n => UInt8.ofNat n.toNat := by simp [Lib.bytesOf]
theorem u8_eq {a b : Int} (ha : 0 ≤ a ∧ a < 256) (hb : 0 ≤ b ∧ b < 256) : UInt8.ofNat a.toNat = UInt8.ofNat b.toNat ↔ a = b := by
  constructor
  · intro h
    have := congrArg UInt8.toNat h
    simp at this
    omega
  · rintro rfl; rfl
theorem getD_mem {xs : List Int} {i : Nat} (h : i < xs.length) : xs.getD i 0 ∈ xs := by simp [List.getD, h]
theorem ib_none {xs : List Int} {d : Int} (h : Lib.indexByte (Lib.bytesOf xs) (UInt8.ofNat d.toNat) = -1) : ∀ i, i < xs.length → xs.getD i 0 ≠ d := by
  intro i hi e
  refine Lib.indexByte_none h i ?_
  rw [bytesOf_get]
  have : xs[i]? = some d := by rw [← e]; simp [List.getD, hi]
  rw [this]; rfl
theorem ib_some {xs : List Int} {d : Int} {j : Nat} (hr : ∀ x ∈ xs, 0 ≤ x ∧ x < 256) (hd : 0 ≤ d ∧ d < 256) (h : Lib.indexByte (Lib.bytesOf xs) (UInt8.ofNat d.toNat) = (j : Int)) :
    j < xs.length ∧ xs.getD j 0 = d ∧ ∀ i, i < j → xs.getD i 0 ≠ d := by
  obtain ⟨h1, h2⟩ := Lib.indexByte_some h
  rw [bytesOf_get] at h1
  have hj : j < xs.length := by
    by_cases hj : j < xs.length
    · exact hj
    · rw [List.getElem?_eq_none (by omega)] at h1; simp at h1
  refine ⟨hj, ?_, fun i hi e => ?_⟩
  · have hg : xs[j]? = some (xs.getD j 0) := by simp [List.getD, hj]
    rw [hg] at h1
    simp only [Option.map_some, Option.some.injEq] at h1
    exact (u8_eq (hr _ (getD_mem hj)) hd).1 h1
  · refine h2 i hi ?_
    rw [bytesOf_get]
    have : xs[i]? = some d := by rw [← e]; simp [List.getD, show i < xs.length by omega]
    rw [this]; rfl
theorem ib_cases (xs : List Int) (d : Int) : Lib.indexByte (Lib.bytesOf xs) (UInt8.ofNat d.toNat) = -1 ∨ ∃ j : Nat, Lib.indexByte (Lib.bytesOf xs) (UInt8.ofNat d.toNat) = (j : Int) := by
  have := Lib.indexByte_ge (Lib.bytesOf xs) (UInt8.ofNat d.toNat)
  by_cases h : Lib.indexByte (Lib.bytesOf xs) (UInt8.ofNat d.toNat) = -1
  · exact .inl h
  · exact .inr ⟨(Lib.indexByte (Lib.bytesOf xs) (UInt8.ofNat d.toNat)).toNat, by omega⟩
theorem getD_drop {xs : List Int} {i j : Nat} : (xs.drop j).getD i 0 = xs.getD (j + i) 0 := by simp [List.getD]

/-- Where the quote next stands from k on: nowhere, or at q. -/
theorem quote_from {b n k : Nat} {xs : List Int} {w : World} (hn : xs.length = n) (hk : k < n) (ht : Txt w b xs) :
    (Calls Tryd.prog 17 #[.slice (some ⟨b, k, none⟩) (n - k) (n - k), .int .u8 34] w (fun e w' => e = .returned (.int .i64 (-1)) ∧ w' = w) ∧ ∀ j, k ≤ j → j < n → xs.getD j 0 ≠ 34) ∨
    ∃ q, k + q < n ∧ Calls Tryd.prog 17 #[.slice (some ⟨b, k, none⟩) (n - k) (n - k), .int .u8 34] w (fun e w' => e = .returned (.int .i64 (q : Int)) ∧ w' = w) ∧ xs.getD (k + q) 0 = 34 ∧ ∀ j, k ≤ j → j < k + q → xs.getD j 0 ≠ 34 := by
  have hlen : (xs.drop k).length = n - k := by simp [hn]
  have hcell : ∀ i, i < n - k → w.cell? ⟨b, k + i, none⟩ = some (.int .u8 ((xs.drop k).getD i 0)) := fun i hi => by rw [getD_drop]; exact ht.cell (k + i) (by omega)
  have hI := ib_at b k (n - k) (n - k) (xs.drop k) 34 w hlen hcell
  rcases ib_cases (xs.drop k) 34 with h | ⟨q, h⟩
  · left
    rw [h] at hI
    refine ⟨hI, fun j h1 h2 => ?_⟩
    have := ib_none h (j - k) (by omega)
    rwa [getD_drop, show k + (j - k) = j by omega] at this
  · right
    rw [h] at hI
    obtain ⟨g1, g2, g3⟩ := ib_some (fun x hx => ht.rng x (List.mem_of_mem_drop hx)) (by omega) h
    rw [getD_drop] at g2
    refine ⟨q, by omega, hI, g2, fun j h1 h2 => ?_⟩
    have := g3 (j - k) (by omega)
    rwa [getD_drop, show k + (j - k) = j by omega] at this

/-- A byte that is no quote shuts nothing. -/
theorem shuts_no {xs : List Int} {i d : Nat} (h : xs.getD (i + 1 + d) 0 ≠ 34) : shuts xs i d = false := by
  have : (xs.getD (i + 1 + d) 0 == 34) = false := by simpa using h
  rw [shuts, this]; rfl

/-- The parity of the backslashes right before a quote tells whether it shuts the string. -/
theorem shuts_parity {xs : List Int} {i q es : Nat} (h34 : xs.getD q 0 = 34) (hlo : i + 1 ≤ es) (hhi : es ≤ q) (hall : ∀ j, es ≤ j → j < q → xs.getD j 0 = 92) (hst : es = i + 1 ∨ xs.getD (es - 1) 0 ≠ 92) :
    shuts xs i (q - (i + 1)) = ((q - es) % 2 == 0) := by
  have e0 : esc xs i (es - (i + 1)) = false := by
    rcases hst with rfl | hst
    · rw [Nat.sub_self]; rfl
    · by_cases he : es = i + 1
      · rw [he, Nat.sub_self]; rfl
      · have e1 : es - (i + 1) = (es - (i + 2)) + 1 := by omega
        rw [e1]
        refine esc_not ?_
        rwa [show i + 1 + (es - (i + 2)) = es - 1 by omega]
  have e2 := esc_run e0 (q - es) (fun j hj => by rw [show i + 1 + (es - (i + 1) + j) = es + j by omega]; exact hall _ (by omega) (by omega))
  rw [show es - (i + 1) + (q - es) = q - (i + 1) by omega] at e2
  rw [shuts, e2, show i + 1 + (q - (i + 1)) = q by omega, h34]
  rcases Nat.mod_two_eq_zero_or_one (q - es) with h | h <;> simp [h]

/-- The value of the package's sentinel. -/
abbrev EM (ea : Addr) : Value := .iface 42 (.pointer (some ea))

set_option maxHeartbeats 2000000 in
set_option maxRecDepth 100000 in
/-- stringEnd. -/
theorem send_any (b n k : Nat) (xs : List Int) (w : World) (ea : Addr) (hE : w.cell? ⟨0, 0, none⟩ = some (EM ea)) (hn : xs.length = n) (hk : k < n) (ht : Txt w b xs) :
    Calls Tryd.prog 15 #[.slice (some ⟨b, 0, none⟩) n n, .int .i64 (k : Int)] w fun e w' => ((∃ r : Nat, e = .returned (.tuple #[.int .i64 (r : Int), .nilIface]) ∧ SEnd xs k r) ∨ (e = .returned (.tuple #[.int .i64 0, EM ea]) ∧ SNo xs k)) ∧ Below w.heap.size w w' := by
  have hle := ht.len
  rw [hn] at hle
  have HN : Hid (xs.length = n) := hn
  clear hn
  go_enter Tryd.func15, Tryd.ntmps15
  go_wp2_with fail
  go_loop [6] (fun i => ∃ d : Nat, i = .int .i64 (k + 1 + d : Nat) ∧ k + 1 + d ≤ n ∧ Hid (∀ j, j < d → shuts xs k j = false)) (fun i => n - (intOf i).toNat)
  case atStart => exact ⟨0, by go_num, by omega, fun j h => absurd h (Nat.not_lt_zero _)⟩
  case round =>
    obtain ⟨d, rfl, hd, HS⟩ := hrel
    by_cases hlt : k + 1 + d < n
    · rcases quote_from HN.out hlt ht with ⟨hI, hno⟩ | ⟨q, hq, hI, h34, hno⟩
      · have HNO : Hid (SNo xs k) := fun j hj => by
          by_cases hjd : j < d
          · exact HS.out j hjd
          · exact shuts_no (hno _ (by omega) (by rw [← HN.out]; exact hj))
        clear hno HS ht
        have hcap : ¬ (n = k + 1 + d) := by omega
        go_wp2_with fail
        refine hI.mono ?_
        rintro e w' ⟨rfl, hw⟩
        have hw2 := hw.symm
        subst hw2
        clear hw hI
        go_wp2_with fail
        go_quiet (fail)
        go_wp2
        go_ret2
        exact ⟨.inr ⟨rfl, HNO.out⟩, below_draws (Below.refl _ _) _⟩
      · have hcap : ¬ (n = k + 1 + d) := by omega
        have HQ : Hid (∀ j, j < d + q → shuts xs k j = false) := fun j hj => by
          by_cases hjd : j < d
          · exact HS.out j hjd
          · exact shuts_no (hno _ (by omega) (by omega))
        have H34 : Hid (xs.getD (k + 1 + d + q) 0 = 34) := h34
        clear hno h34 HS
        go_wp2_with fail
        refine hI.mono ?_
        rintro e w' ⟨rfl, hw⟩
        have hw2 := hw.symm
        subst hw2
        clear hw hI
        go_wp2_with fail
        go_loop [9] (fun i => ∃ es : Nat, i = .int .i64 (es : Nat) ∧ k + 1 ≤ es ∧ es ≤ k + 1 + d + q ∧ Hid (∀ j, es ≤ j → j < k + 1 + d + q → xs.getD j 0 = 92)) (fun i => (intOf i).toNat)
        case atStart => exact ⟨k + 1 + d + q, by go_num, by omega, Nat.le_refl _, fun j h1 h2 => absurd h2 (by omega)⟩
        case round =>
          obtain ⟨es, rfl, he1, he2, HA⟩ := hrel
          by_cases hgt : k + 1 < es
          · have hce := ht.cell (es - 1) (by rw [HN.out]; omega)
            by_cases h92 : xs.getD (es - 1) 0 = 92
            · have e92 : (xs.getD (es - 1) 0 == 92) = true := by simpa using h92
              have HA' : Hid (∀ j, es - 1 ≤ j → j < k + 1 + d + q → xs.getD j 0 = 92) := fun j h1 h2 => by
                by_cases hj : es ≤ j
                · exact HA.out j hj h2
                · rw [show j = es - 1 by omega]; exact h92
              clear h92 ht HA
              generalize xs.getD (es - 1) 0 = z at *
              go_wp2
              go_round
              case rel => exact ⟨es - 1, by go_num, by omega, by omega, HA'⟩
              case measure => simp [intOf]; omega
            · have e92 : (xs.getD (es - 1) 0 == 92) = false := by simpa using h92
              have HP := shuts_parity (i := k) H34.out he1 he2 HA.out (.inr h92)
              rw [show k + 1 + d + q - (k + 1) = d + q by omega] at HP
              by_cases hpar : (k + 1 + d + q - es) % 2 = 0
              · have ep : ((((k : Int) + 1 + d + q) - es) % 2 == 0) = true := by simp; omega
                have HEND : Hid (SEnd xs k (k + 1 + d + q + 1)) := ⟨d + q, by omega, by rw [HN.out]; omega, by rw [HP, hpar]; rfl, HQ.out⟩
                clear HP hpar ht HA h92
                generalize xs.getD (es - 1) 0 = z at *
                go_wp2
                go_ret2
                exact ⟨.inl ⟨k + 1 + d + q + 1, by go_num, HEND.out⟩, Below.refl _ _⟩
              · have ep : ((((k : Int) + 1 + d + q) - es) % 2 == 0) = false := by simp; omega
                have HQ' : Hid (∀ j, j < d + q + 1 → shuts xs k j = false) := fun j hj => by
                  by_cases hj2 : j < d + q
                  · exact HQ.out j hj2
                  · rw [show j = d + q by omega, HP]; simpa using hpar
                clear HP hpar ht HA h92
                generalize xs.getD (es - 1) 0 = z at *
                go_wp2
                go_round
                case rel => exact ⟨d + q + 1, by go_num, by omega, HQ'⟩
                case measure => simp [intOf]; omega
          · have hge : decide ((k : Int) + 1 < (es : Int)) = false := by simp; omega
            have HP := shuts_parity (i := k) H34.out he1 he2 HA.out (.inl (by omega))
            rw [show k + 1 + d + q - (k + 1) = d + q by omega] at HP
            by_cases hpar : (k + 1 + d + q - es) % 2 = 0
            · have ep : ((((k : Int) + 1 + d + q) - es) % 2 == 0) = true := by simp; omega
              have HEND : Hid (SEnd xs k (k + 1 + d + q + 1)) := ⟨d + q, by omega, by rw [HN.out]; omega, by rw [HP, hpar]; rfl, HQ.out⟩
              clear HP hpar ht HA
              go_wp2
              go_ret2
              exact ⟨.inl ⟨k + 1 + d + q + 1, by go_num, HEND.out⟩, Below.refl _ _⟩
            · have ep : ((((k : Int) + 1 + d + q) - es) % 2 == 0) = false := by simp; omega
              have HQ' : Hid (∀ j, j < d + q + 1 → shuts xs k j = false) := fun j hj => by
                by_cases hj2 : j < d + q
                · exact HQ.out j hj2
                · rw [show j = d + q by omega, HP]; simpa using hpar
              clear HP hpar ht HA
              go_wp2
              go_round
              case rel => exact ⟨d + q + 1, by go_num, by omega, HQ'⟩
              case measure => simp [intOf]; omega
    · have HNO : Hid (SNo xs k) := fun j hj => HS.out j (by have := HN.out; omega)
      clear HS ht
      go_wp2_with fail
      go_quiet (fail)
      go_wp2
      go_ret2
      exact ⟨.inr ⟨rfl, HNO.out⟩, below_draws (Below.refl _ _) _⟩

end Go.Proofs.Qxb6608652aDoor
