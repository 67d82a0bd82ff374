/- Whether someone may be written: what the spec's tests compute. -/
import Derived.Test.YtmhcbgmnhcfhfaaDoorZone
import Derived.WalkLawsBesides
import Derived.WalkSpells
set_option linter.unusedVariables false
namespace Go.Proofs.YtmhcbgmnhcfhfaaDoor.who
open Go.RowKit Lib text

def Told (w : World) (F : Bool → Prop) (e : Ending) (w' : World) : Prop := w' = w ∧ ∃ b, e = .returned (.bool b) ∧ F b
def Any (b : Bool) : Prop := True
set_option maxRecDepth 100000 in
theorem has_calls (S : ByteArray) (c : Nat) (w : World) (hs : S.size ≤ 140737488351232) :
    Calls Tryd.prog 29 #[.string S, .int .u8 c] w (Told w Any) := by
  go_enter Tryd.func29, Tryd.ntmps29
  go_wp2_with fail
  go_loop [8] (fun iv => ∃ k : Nat, k ≤ S.size ∧ iv = .int .i64 k) (fun iv => S.size - (RowKit.intOf iv).toNat)
  case atStart => exact ⟨0, by omega, rfl⟩
  case round =>
    obtain ⟨k, hk, rfl⟩ := hrel
    by_cases hlt : k < S.size
    · by_cases hx : S[k].toNat = c
      · have q : (S[k].toNat : Int) = (c : Int) := by omega
        go_wp2_with fail
        go_ret
        exact ⟨rfl, true, rfl, trivial⟩
      · have q : ((S[k].toNat : Int) == (c : Int)) = false := by rw [beq_eq_false_iff_ne]; omega
        clear hx
        go_wp2_with fail
        go_round
        case rel => exact ⟨k + 1, by omega, by go_num⟩
        case measure => simp [RowKit.intOf]; omega
    · go_wp2_with fail
      go_ret
      exact ⟨rfl, false, rfl, trivial⟩
def Plain (S : ByteArray) (b : Bool) : Prop := b = true → S.size ≤ 4096
theorem empty_toList {c : ByteArray} : c.toList.isEmpty = decide (c.size = 0) := by
  rw [ByteArray.toList_eq]
  have : c.data.toList.length = c.size := by simp
  cases h : c.data.toList with
  | nil => rw [h] at this; simp at this; simp [← this]
  | cons a l => rw [h] at this; simp only [List.length_cons] at this; exact (decide_eq_false (by omega)).symm
set_option maxRecDepth 100000 in
set_option maxHeartbeats 4000000 in
theorem plain_calls (S : ByteArray) (w : World) (hs : S.size ≤ 140737488351232) : Calls Tryd.prog 13 #[.string S] w (Told w (Plain S)) := by
  have no : ∀ w, Told w (Plain S) (.returned (.bool false)) w := fun w => ⟨rfl, false, rfl, nofun⟩
  by_cases hz : 4096 < S.size
  · have e0 : (4096 : Int) < S.size := by omega
    go_enter Tryd.func13, Tryd.ntmps13
    go_wp2_with fail
    go_ret
    exact no _
  · have e0 : ¬ (4096 : Int) < S.size := by omega
    have h4 : Hid (S.size ≤ 4096) := hid (by omega)
    have hh : Hid (∀ (c : Nat) w, Calls Tryd.prog 29 #[.string S, .int .u8 c] w (Told w Any)) := hid (fun c w => has_calls S c w hs)
    have yes : ∀ b w, Told w (Plain S) (.returned (.bool b)) w := fun b w => ⟨rfl, b, rfl, fun _ => h4.out⟩
    by_cases h0 : S.size = 0
    · have em : S.toList.isEmpty = true := by rw [empty_toList]; exact decide_eq_true h0
      go_enter Tryd.func13, Tryd.ntmps13
      go_wp2_with fail
      refine (hh.out 60 _).mono ?_
      rintro e x1 ⟨rfl, b, rfl, _⟩
      cases b with
      | true =>
        go_wp2_with fail
        go_ret
        exact yes _ _
      | false =>
        go_wp2_with fail
        refine (hh.out 62 _).mono ?_
        rintro e x2 ⟨rfl, b, rfl, _⟩
        cases b with
        | true =>
          go_wp2_with fail
          go_ret
          exact yes _ _
        | false =>
          go_wp2_with fail
          refine (hh.out 10 _).mono ?_
          rintro e x3 ⟨rfl, b, rfl, _⟩
          cases b with
          | true =>
            go_wp2_with fail
            go_ret
            exact yes _ _
          | false =>
            go_wp2_with fail
            refine (hh.out 0 _).mono ?_
            rintro e x4 ⟨rfl, b, rfl, _⟩
            cases b with
            | true =>
              go_wp2_with fail
              go_ret
              exact yes _ _
            | false =>
              go_wp2_with fail
              go_ret
              exact yes _ _
    · have em : S.toList.isEmpty = false := by rw [empty_toList]; exact decide_eq_false h0
      have hp : 0 < S.size := by omega
      obtain ⟨m, hm1, hm2⟩ : ∃ m : Nat, (S.size : Int) - 1 = m ∧ m < S.size := ⟨S.size - 1, by omega, by omega⟩
      by_cases h32 : S[0].toNat = 32
      · have q : (S[0].toNat : Int) = 32 := by omega
        clear h32
        go_enter Tryd.func13, Tryd.ntmps13
        go_wp2_with fail
        go_ret
        exact no _
      · have q : ((S[0].toNat : Int) == 32) = false := by rw [beq_eq_false_iff_ne]; omega
        by_cases hl : S[m].toNat = 32
        · have ql : (S[m].toNat : Int) = 32 := by omega
          clear h32 hl
          go_enter Tryd.func13, Tryd.ntmps13
          go_wp2_with fail
          go_ret
          exact no _
        · have ql : ((S[m].toNat : Int) == 32) = false := by rw [beq_eq_false_iff_ne]; omega
          clear h32 hl
          go_enter Tryd.func13, Tryd.ntmps13
          go_wp2_with fail
          refine (hh.out 60 _).mono ?_
          rintro e x1 ⟨rfl, b, rfl, _⟩
          cases b with
          | true =>
            go_wp2_with fail
            go_ret
            exact yes _ _
          | false =>
            go_wp2_with fail
            refine (hh.out 62 _).mono ?_
            rintro e x2 ⟨rfl, b, rfl, _⟩
            cases b with
            | true =>
              go_wp2_with fail
              go_ret
              exact yes _ _
            | false =>
              go_wp2_with fail
              refine (hh.out 10 _).mono ?_
              rintro e x3 ⟨rfl, b, rfl, _⟩
              cases b with
              | true =>
                go_wp2_with fail
                go_ret
                exact yes _ _
              | false =>
                go_wp2_with fail
                refine (hh.out 0 _).mono ?_
                rintro e x4 ⟨rfl, b, rfl, _⟩
                cases b with
                | true =>
                  go_wp2_with fail
                  go_ret
                  exact yes _ _
                | false =>
                  go_wp2_with fail
                  go_ret
                  exact yes _ _
/-- someone who may be written -/
structure Who (s m : ByteArray) (t z : Int) : Prop where
  name : s.size ≤ 4096
  mail : m.size ≤ 4096
  t0 : 0 ≤ t
  t1 : t < 1099511627776
  z0 : -360000 < z
  z1 : z < 360000
  west : 0 ≤ z ∨ z ≤ -3600
def IsWho (s m : ByteArray) (t z : Int) (b : Bool) : Prop := b = true → Who s m t z
def Says (w : World) (F : Bool → Prop) (e : Ending) (w' : World) : Prop := Below w.heap.size w w' ∧ ∃ b, e = .returned (.bool b) ∧ F b
set_option maxRecDepth 100000 in
set_option maxHeartbeats 4000000 in
theorem isWho_calls (s m : ByteArray) (t z : Int) (w : World) (hs : s.size ≤ 140737488351232) (hm : m.size ≤ 140737488351232) :
    Calls Tryd.prog 6 #[.agg #[.string s, .string m, .int .i64 t, .int .i64 z]] w (Says w (IsWho s m t z)) := by
  have hb : ∀ o, Below w.heap.size w (w.alloc o) := fun o => (Below.refl _ _).alloc (Nat.le_refl _) o
  have no : ∀ o, Says w (IsWho s m t z) (.returned (.bool false)) (w.alloc o) := fun o => ⟨hb o, false, rfl, nofun⟩
  have HN := hid no
  have HB := hid hb
  have p1 := hid (fun w => plain_calls s w hs)
  have p2 := hid (fun w => plain_calls m w hm)
  clear no hb
  go_enter Tryd.func6, Tryd.ntmps6
  go_wp2_with fail
  refine (p1.out _).mono ?_
  rintro e x1 ⟨rfl, b, rfl, hb1⟩
  cases b with
  | false =>
    go_wp2_with fail
    go_ret
    exact HN.out _
  | true =>
    have H1 := hid (hb1 rfl)
    clear hb1
    go_wp2_with fail
    refine (p2.out _).mono ?_
    rintro e x2 ⟨rfl, b, rfl, hb2⟩
    cases b with
    | false =>
      go_wp2_with fail
      go_ret
      exact HN.out _
    | true =>
      have H2 := hid (hb2 rfl)
      clear hb2
      by_cases t0 : t < 0
      · go_wp2_with fail
        go_ret
        exact HN.out _
      · by_cases t1 : (1099511627776 : Int) ≤ t
        · go_wp2_with fail
          go_ret
          exact HN.out _
        · go_wp2_with fail
          all_goals go_ret
          all_goals first
            | exact HN.out _
            | exact ⟨HB.out _, _, rfl, fun _ => ⟨H1.out, H2.out, by omega, by omega, by omega, by omega, by omega⟩⟩
            | exact ⟨HB.out _, _, rfl, fun hb => ⟨H1.out, H2.out, by omega, by omega, by omega, by omega, by simpa using hb⟩⟩
end Go.Proofs.YtmhcbgmnhcfhfaaDoor.who
