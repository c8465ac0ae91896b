import Derived.Test.Qxb6601397aUkn
namespace Go.Proofs.Qxb6601397a
open Go.RowKit

def has (key p : ByteArray) : Bool := Lib.hasPrefix key.data.toList p.data.toList
def tail1 (key p : ByteArray) : ByteArray := ⟨(Lib.trimPrefix key.data.toList p.data.toList).toArray⟩
def same (a b : ByteArray) : Bool := (canon a).toList == (canon b).toList
def ukn (key host : ByteArray) : Bool :=
  if has key sHttps = true then same (bef (tail1 key sHttps)) host else if has key sHttp = true then same (bef (tail1 key sHttp)) host else false

theorem tail1_size (key p : ByteArray) : (tail1 key p).size ≤ key.size := by
  show (Lib.trimPrefix key.data.toList p.data.toList).toArray.size ≤ key.data.size
  unfold Lib.trimPrefix
  split <;> simp

theorem cutps_is (key : ByteArray) (v : Bool) (h : has key sHttps = v) (w : World) :
    Calls Try.prog 15 #[.string key, .string ⟨#[104, 116, 116, 112, 115, 58, 47, 47]⟩] w fun e w' => e = .returned (.tuple #[.string (tail1 key sHttps), .bool v]) ∧ w' = w := by
  subst h; exact Try.strings_CutPrefix key sHttps w
theorem cutp_is (key : ByteArray) (v : Bool) (h : has key sHttp = v) (w : World) :
    Calls Try.prog 15 #[.string key, .string ⟨#[104, 116, 116, 112, 58, 47, 47]⟩] w fun e w' => e = .returned (.tuple #[.string (tail1 key sHttp), .bool v]) ∧ w' = w := by
  subst h; exact Try.strings_CutPrefix key sHttp w

theorem ret_bool {a b : Bool} (h : a = b) : Ending.returned (.bool a) = .returned (.bool b) := by rw [h]

def Ans (v : Bool) (w : World) (e : Ending) (w' : World) : Prop := e = .returned (.bool v) ∧ ∃ n, w' = w.drewN n

set_option maxRecDepth 100000 in
set_option maxHeartbeats 800000 in
theorem ukn_any (key host : ByteArray) (w : World) (hs : key.size ≤ 4000000) :
    Calls Try.prog 12 #[.string key, .string host] w (Ans (ukn key host) w) := by
  cases h1 : has key sHttps
  · cases h2 : has key sHttp
    · have hu : ukn key host = false := by simp [ukn, h1, h2]
      rw [hu]
      go_enter Try.func12, Try.ntmps12
      go_wp2_with fail
      refine (cutps_is key false h1 w).mono ?_
      rintro e w' ⟨rfl, hw⟩; replace hw := hw.symm; subst hw
      go_wp2_with fail
      refine (cutp_is key false h2 w).mono ?_
      rintro e w' ⟨rfl, hw⟩; replace hw := hw.symm; subst hw
      go_wp2_with fail
      go_ret
      exact ⟨rfl, 0, rfl⟩
    · have hu : ukn key host = same (bef (tail1 key sHttp)) host := by simp [ukn, h1, h2]
      rw [hu]
      have HT := tail1_size key sHttp
      go_enter Try.func12, Try.ntmps12
      go_wp2_with fail
      refine (cutps_is key false h1 w).mono ?_
      rintro e w' ⟨rfl, hw⟩; replace hw := hw.symm; subst hw
      go_wp2_with fail
      refine (cutp_is key true h2 w).mono ?_
      rintro e w' ⟨rfl, hw⟩; replace hw := hw.symm; subst hw
      go_wp2_with fail
      refine (cut_any (tail1 key sHttp) w (by omega)).mono ?_
      rintro e w1 ⟨y, b, n, rfl, hw⟩
      have HW : Hid (w1 = w.drewN n) := hw
      clear hw
      go_wp2_with (go_at_call 17; refine (canon_any _ _).mono ?_; rintro e w' ⟨rfl, hw⟩; replace hw := hw.symm; subst hw)
      go_ret
      exact ⟨rfl, n, HW.out⟩
  · have hu : ukn key host = same (bef (tail1 key sHttps)) host := by simp [ukn, h1]
    rw [hu]
    have HT := tail1_size key sHttps
    go_enter Try.func12, Try.ntmps12
    go_wp2_with fail
    refine (cutps_is key true h1 w).mono ?_
    rintro e w' ⟨rfl, hw⟩; replace hw := hw.symm; subst hw
    go_wp2_with fail
    refine (cut_any (tail1 key sHttps) w (by omega)).mono ?_
    rintro e w1 ⟨y, b, n, rfl, hw⟩
    have HW : Hid (w1 = w.drewN n) := hw
    clear hw
    go_wp2_with (go_at_call 17; refine (canon_any _ _).mono ?_; rintro e w' ⟨rfl, hw⟩; replace hw := hw.symm; subst hw)
    go_ret
    exact ⟨rfl, n, HW.out⟩

set_option maxHeartbeats 400000 in
theorem zz_any (key host : ByteArray) (w : World) (hs : key.size ≤ 4000000) :
    Calls Try.prog 7 #[.string key, .string host] w (Ans (ukn key host) w) := by
  go_enter Try.func7, Try.ntmps7
  go_wp2_with fail
  refine (ukn_any key host w hs).mono ?_
  rintro e w' ⟨rfl, n, hw⟩
  have HW : Hid (w' = w.drewN n) := hw
  clear hw
  go_wp2_with fail
  go_ret
  exact ⟨rfl, n, HW.out⟩

end Go.Proofs.Qxb6601397a
