import Derived.Test.Qxb6617055aFmtA2
namespace Go.Proofs.Qxb6617055aFmt
open Go.RowKit

def never : ByteArray := ⟨#[110, 101, 118, 101, 114]⟩
def always : ByteArray := ⟨#[97, 108, 119, 97, 121, 115]⟩

theorem toList_ne {s : ByteArray} {l : List UInt8} (h : s ≠ ⟨l.toArray⟩) : (s.toList == l) = false := by
  rw [ByteArray.toList_eq]
  cases hb : s.data.toList == l
  · rfl
  · exfalso
    apply h
    have : s.data.toList = l := by simpa using hb
    rw [← this]

theorem len_eq (t : ByteArray) : t.data.toList.length = t.size := by rw [Array.length_toList]; rfl
theorem of_list {s : ByteArray} {l : List UInt8} (h : s.data.toList = l) : s = ⟨l.toArray⟩ := by rw [← h]

set_option maxHeartbeats 400000 in
theorem setting_yes5 (w : World) : Calls Tryf.prog 9 #[.string ⟨#[110, 101, 118, 101, 114]⟩] w fun e w' => e = .returned (.bool true) ∧ w = w' := by
  go_enter Tryf.func9, Tryf.ntmps9
  go_wp2
  go_ret
  exact ⟨rfl, rfl⟩

set_option maxHeartbeats 400000 in
theorem setting_yes6 (w : World) : Calls Tryf.prog 9 #[.string ⟨#[97, 108, 119, 97, 121, 115]⟩] w fun e w' => e = .returned (.bool true) ∧ w = w' := by
  go_enter Tryf.func9, Tryf.ntmps9
  go_wp2
  go_ret
  exact ⟨rfl, rfl⟩

set_option maxRecDepth 100000 in
set_option maxHeartbeats 1000000 in
theorem setting_five (s : ByteArray) (w : World) (hsz : s.size = 5) (hno : ¬ ((s[0]'(by omega)).toNat = 110 ∧ (s[1]'(by omega)).toNat = 101 ∧ (s[2]'(by omega)).toNat = 118 ∧ (s[3]'(by omega)).toNat = 101 ∧ (s[4]'(by omega)).toNat = 114)) :
    Calls Tryf.prog 9 #[.string s] w fun e w' => e = .returned (.bool false) ∧ w = w' := by
  have b5 : ((s.size : Int) == 5) = true := by simp; omega
  have b6 : ((s.size : Int) == 6) = false := by simp; omega
  have HS : Hid (s.size = 5) := hsz
  have l0 : 0 < s.size := by omega
  have m0 : (0 : Int) < (s.size : Int) := by omega
  have l1 : 1 < s.size := by omega
  have m1 : (1 : Int) < (s.size : Int) := by omega
  have l2 : 2 < s.size := by omega
  have m2 : (2 : Int) < (s.size : Int) := by omega
  have l3 : 3 < s.size := by omega
  have m3 : (3 : Int) < (s.size : Int) := by omega
  have l4 : 4 < s.size := by omega
  have m4 : (4 : Int) < (s.size : Int) := by omega
  have hno' : ¬ (s[0].toNat = 110 ∧ s[1].toNat = 101 ∧ s[2].toNat = 118 ∧ s[3].toNat = 101 ∧ s[4].toNat = 114) := hno
  clear hno hsz
  by_cases h0 : s[0].toNat = 110
  case neg =>
    have e0 : ((s[0].toNat : Int) == 110) = false := by simp; omega
    clear hno'
    go_enter Tryf.func9, Tryf.ntmps9
    go_wp2
    go_ret
    exact ⟨rfl, rfl⟩
  have e0 : ((s[0].toNat : Int) == 110) = true := by simp; omega
  have H0 : Hid (s[0].toNat = 110) := h0
  clear h0
  by_cases h1 : s[1].toNat = 101
  case neg =>
    have e1 : ((s[1].toNat : Int) == 101) = false := by simp; omega
    clear hno'
    go_enter Tryf.func9, Tryf.ntmps9
    go_wp2
    go_ret
    exact ⟨rfl, rfl⟩
  have e1 : ((s[1].toNat : Int) == 101) = true := by simp; omega
  have H1 : Hid (s[1].toNat = 101) := h1
  clear h1
  by_cases h2 : s[2].toNat = 118
  case neg =>
    have e2 : ((s[2].toNat : Int) == 118) = false := by simp; omega
    clear hno'
    go_enter Tryf.func9, Tryf.ntmps9
    go_wp2
    go_ret
    exact ⟨rfl, rfl⟩
  have e2 : ((s[2].toNat : Int) == 118) = true := by simp; omega
  have H2 : Hid (s[2].toNat = 118) := h2
  clear h2
  by_cases h3 : s[3].toNat = 101
  case neg =>
    have e3 : ((s[3].toNat : Int) == 101) = false := by simp; omega
    clear hno'
    go_enter Tryf.func9, Tryf.ntmps9
    go_wp2
    go_ret
    exact ⟨rfl, rfl⟩
  have e3 : ((s[3].toNat : Int) == 101) = true := by simp; omega
  have H3 : Hid (s[3].toNat = 101) := h3
  clear h3
  by_cases h4 : s[4].toNat = 114
  case neg =>
    have e4 : ((s[4].toNat : Int) == 114) = false := by simp; omega
    clear hno'
    go_enter Tryf.func9, Tryf.ntmps9
    go_wp2
    go_ret
    exact ⟨rfl, rfl⟩
  have e4 : ((s[4].toNat : Int) == 114) = true := by simp; omega
  have H4 : Hid (s[4].toNat = 114) := h4
  clear h4
  exact absurd ⟨H0.out, H1.out, H2.out, H3.out, H4.out⟩ hno'

set_option maxRecDepth 100000 in
set_option maxHeartbeats 1000000 in
theorem setting_six (s : ByteArray) (w : World) (hsz : s.size = 6) (hno : ¬ ((s[0]'(by omega)).toNat = 97 ∧ (s[1]'(by omega)).toNat = 108 ∧ (s[2]'(by omega)).toNat = 119 ∧ (s[3]'(by omega)).toNat = 97 ∧ (s[4]'(by omega)).toNat = 121 ∧ (s[5]'(by omega)).toNat = 115)) :
    Calls Tryf.prog 9 #[.string s] w fun e w' => e = .returned (.bool false) ∧ w = w' := by
  have b5 : ((s.size : Int) == 5) = false := by simp; omega
  have b6 : ((s.size : Int) == 6) = true := by simp; omega
  have HS : Hid (s.size = 6) := hsz
  have l0 : 0 < s.size := by omega
  have m0 : (0 : Int) < (s.size : Int) := by omega
  have l1 : 1 < s.size := by omega
  have m1 : (1 : Int) < (s.size : Int) := by omega
  have l2 : 2 < s.size := by omega
  have m2 : (2 : Int) < (s.size : Int) := by omega
  have l3 : 3 < s.size := by omega
  have m3 : (3 : Int) < (s.size : Int) := by omega
  have l4 : 4 < s.size := by omega
  have m4 : (4 : Int) < (s.size : Int) := by omega
  have l5 : 5 < s.size := by omega
  have m5 : (5 : Int) < (s.size : Int) := by omega
  have hno' : ¬ (s[0].toNat = 97 ∧ s[1].toNat = 108 ∧ s[2].toNat = 119 ∧ s[3].toNat = 97 ∧ s[4].toNat = 121 ∧ s[5].toNat = 115) := hno
  clear hno hsz
  by_cases h0 : s[0].toNat = 97
  case neg =>
    have e0 : ((s[0].toNat : Int) == 97) = false := by simp; omega
    clear hno'
    go_enter Tryf.func9, Tryf.ntmps9
    go_wp2
    go_ret
    exact ⟨rfl, rfl⟩
  have e0 : ((s[0].toNat : Int) == 97) = true := by simp; omega
  have H0 : Hid (s[0].toNat = 97) := h0
  clear h0
  by_cases h1 : s[1].toNat = 108
  case neg =>
    have e1 : ((s[1].toNat : Int) == 108) = false := by simp; omega
    clear hno'
    go_enter Tryf.func9, Tryf.ntmps9
    go_wp2
    go_ret
    exact ⟨rfl, rfl⟩
  have e1 : ((s[1].toNat : Int) == 108) = true := by simp; omega
  have H1 : Hid (s[1].toNat = 108) := h1
  clear h1
  by_cases h2 : s[2].toNat = 119
  case neg =>
    have e2 : ((s[2].toNat : Int) == 119) = false := by simp; omega
    clear hno'
    go_enter Tryf.func9, Tryf.ntmps9
    go_wp2
    go_ret
    exact ⟨rfl, rfl⟩
  have e2 : ((s[2].toNat : Int) == 119) = true := by simp; omega
  have H2 : Hid (s[2].toNat = 119) := h2
  clear h2
  by_cases h3 : s[3].toNat = 97
  case neg =>
    have e3 : ((s[3].toNat : Int) == 97) = false := by simp; omega
    clear hno'
    go_enter Tryf.func9, Tryf.ntmps9
    go_wp2
    go_ret
    exact ⟨rfl, rfl⟩
  have e3 : ((s[3].toNat : Int) == 97) = true := by simp; omega
  have H3 : Hid (s[3].toNat = 97) := h3
  clear h3
  by_cases h4 : s[4].toNat = 121
  case neg =>
    have e4 : ((s[4].toNat : Int) == 121) = false := by simp; omega
    clear hno'
    go_enter Tryf.func9, Tryf.ntmps9
    go_wp2
    go_ret
    exact ⟨rfl, rfl⟩
  have e4 : ((s[4].toNat : Int) == 121) = true := by simp; omega
  have H4 : Hid (s[4].toNat = 121) := h4
  clear h4
  by_cases h5 : s[5].toNat = 115
  case neg =>
    have e5 : ((s[5].toNat : Int) == 115) = false := by simp; omega
    clear hno'
    go_enter Tryf.func9, Tryf.ntmps9
    go_wp2
    go_ret
    exact ⟨rfl, rfl⟩
  have e5 : ((s[5].toNat : Int) == 115) = true := by simp; omega
  have H5 : Hid (s[5].toNat = 115) := h5
  clear h5
  exact absurd ⟨H0.out, H1.out, H2.out, H3.out, H4.out, H5.out⟩ hno'

set_option maxHeartbeats 400000 in
theorem setting_len (s : ByteArray) (w : World) (h5 : s.size ≠ 5) (h6 : s.size ≠ 6) : Calls Tryf.prog 9 #[.string s] w fun e w' => e = .returned (.bool false) ∧ w = w' := by
  have e5 : ((s.size : Int) == 5) = false := by simp; omega
  have e6 : ((s.size : Int) == 6) = false := by simp; omega
  go_enter Tryf.func9, Tryf.ntmps9
  go_wp2
  go_ret
  exact ⟨rfl, rfl⟩

theorem setting_other (s : ByteArray) (w : World) (hn : s ≠ never) (ha : s ≠ always) : Calls Tryf.prog 9 #[.string s] w fun e w' => e = .returned (.bool false) ∧ w = w' := by
  by_cases h5 : s.size = 5
  · have hl := len_eq s
    rw [h5] at hl
    match hd : s.data.toList, hl with
    | [a, b, c, d, e], _ =>
      obtain rfl := of_list hd
      refine setting_five _ w rfl (fun ⟨h0, h1, h2, h3, h4⟩ => hn ?_)
      have g0 : a = 110 := UInt8.toNat_inj.1 h0
      have g1 : b = 101 := UInt8.toNat_inj.1 h1
      have g2 : c = 118 := UInt8.toNat_inj.1 h2
      have g3 : d = 101 := UInt8.toNat_inj.1 h3
      have g4 : e = 114 := UInt8.toNat_inj.1 h4
      subst g0; subst g1; subst g2; subst g3; subst g4; rfl
  · by_cases h6 : s.size = 6
    · have hl := len_eq s
      rw [h6] at hl
      match hd : s.data.toList, hl with
      | [a, b, c, d, e, f], _ =>
        obtain rfl := of_list hd
        refine setting_six _ w rfl (fun ⟨h0, h1, h2, h3, h4, h5⟩ => ha ?_)
        have g0 : a = 97 := UInt8.toNat_inj.1 h0
        have g1 : b = 108 := UInt8.toNat_inj.1 h1
        have g2 : c = 119 := UInt8.toNat_inj.1 h2
        have g3 : d = 97 := UInt8.toNat_inj.1 h3
        have g4 : e = 121 := UInt8.toNat_inj.1 h4
        have g5 : f = 115 := UInt8.toNat_inj.1 h5
        subst g0; subst g1; subst g2; subst g3; subst g4; subst g5; rfl
    · exact setting_len s w h5 h6
end Go.Proofs.Qxb6617055aFmt
