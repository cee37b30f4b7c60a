/-
  Walks: ZZParseMailbox, impl.Mailbox. Texts of at most 2^30 bytes.
-/
import Derived.Test.YtdnbbodolpgphaaM5
namespace Go.Proofs.Ytdnbbodolpgphaa
open Go.RowKit

/-- A mailbox's two parts, and whether it is one. -/
def mail3 : Option (List UInt8 × List UInt8) → Value
  | none => .tuple #[.string ⟨#[]⟩, .string ⟨#[]⟩, .bool false]
  | some p => .tuple #[.string (ofBytes p.1), .string (ofBytes p.2), .bool true]
set_option maxHeartbeats 1000000 in
theorem zzMail_any (s : ByteArray) (hs : s.size ≤ 1073741824) (w : World) :
    Calls Try.prog 60 #[.string s] w (Ret (mail3 (parseM (bytes s))) w) := by
  have HP := fun W => parse_any s hs W
  generalize parseM (bytes s) = R at *
  cases R with
  | none =>
    have H := Lib.hid HP
    clear HP
    unfold mailV at H
    unfold mail3
    go_enter Try.func60, Try.ntmps60
    go_wp2_with ((with_reducible refine (H.out _).mono ?_); rintro e w1 ⟨rfl, hb1⟩)
    go_quiet (fail)
    go_wp2
    go_ret3
    exact ⟨rfl, below_drewN (hb1.alloc hb1.size _) _⟩
  | some p =>
    obtain ⟨x, y⟩ := p
    have H := Lib.hid HP
    clear HP
    unfold mailV at H
    unfold mail3
    go_enter Try.func60, Try.ntmps60
    go_wp2_with ((with_reducible refine (H.out _).mono ?_); rintro e w1 ⟨rfl, hb1⟩)
    go_quiet (fail)
    go_wp2
    go_ret3
    exact ⟨rfl, below_drewN (hb1.alloc hb1.size _) _⟩
set_option maxHeartbeats 1000000 in
theorem implMail_any (s : ByteArray) (hs : s.size ≤ 1073741824) (w : World) :
    Calls Try.prog 44 #[.string s] w (Ret (mail3 (parseM (bytes s))) w) := by
  have HP := fun W => zzMail_any s hs W
  generalize parseM (bytes s) = R at *
  cases R with
  | none =>
    have H := Lib.hid HP
    clear HP
    unfold mail3 at *
    go_enter Try.func44, Try.ntmps44
    go_wp2_with ((with_reducible refine (H.out _).mono ?_); rintro e w1 ⟨rfl, hb1⟩)
    go_ret3
    exact ⟨rfl, hb1⟩
  | some p =>
    obtain ⟨x, y⟩ := p
    have H := Lib.hid HP
    clear HP
    unfold mail3 at *
    go_enter Try.func44, Try.ntmps44
    go_wp2_with ((with_reducible refine (H.out _).mono ?_); rintro e w1 ⟨rfl, hb1⟩)
    go_ret3
    exact ⟨rfl, hb1⟩
end Go.Proofs.Ytdnbbodolpgphaa
