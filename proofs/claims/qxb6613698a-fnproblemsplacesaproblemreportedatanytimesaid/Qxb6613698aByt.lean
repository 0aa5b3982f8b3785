/-
  zzBytes: it answers, whatever it answers.
-/
import Derived.Test.Qxb6613698aRnk
namespace Go.Proofs.Qxb6613698a.srt
open Go.RowKit Go.Proofs.Qxb6613698a.lst
set_option linter.unusedSimpArgs false

def BPost (w : World) (e : Ending) (w' : World) : Prop := (∃ b, e = .returned (.bool b)) ∧ w' = w
theorem BPost.f {w : World} (b : Bool) : BPost w (.returned (.bool b)) w := ⟨⟨b, rfl⟩, rfl⟩

set_option maxHeartbeats 4000000 in
set_option maxRecDepth 20000 in
theorem bytes5_any (file : ByteArray) (ao : Option Addr) (s o n cap : Nat) (f : Nat → El) (w : World) (hS : Src w s o n f) (hao : 0 < n → ao = some ⟨s, o, none⟩) :
    Calls Try.prog 5 #[.string file, .slice ao n cap] w (BPost w) := by
  obtain ⟨z, hz⟩ : ∃ z, z = file.size := ⟨_, rfl⟩
  have ez : (file.size : Int) = (z : Int) := by rw [hz]
  clear hz
  by_cases h1 : z ≤ 1048576
  · by_cases h2 : n ≤ 1048576
    · obtain ⟨c1, hc1⟩ : ∃ c1, c1 = z + n := ⟨_, rfl⟩
      have e1 : (z : Int) + (n : Int) = (c1 : Int) := by omega
      have hc1' : c1 ≤ 2097152 := by omega
      clear hc1
      by_cases h3 : c1 ≤ 1048576
      · go_enter Try.func5, Try.ntmps5
        go_wp2
        go_loopw [5, 6] (fun y x wr => ∃ c j : Nat, j ≤ n ∧ c ≤ 1048576 ∧ y = .int .i64 (c : Int) ∧ x = .int .i64 (j : Int) ∧ wr = w) (fun _ x _ => n - (intOf x).toNat)
        case atStart => exact ⟨c1, 0, Nat.zero_le _, h3, rfl, rfl, rfl⟩
        case round =>
          obtain ⟨c, j, hj, hc, rfl, rfl, hwr⟩ := hrel
          subst wr
          clear ez e1 h1 h3 hc1'
          by_cases hlt : j < n
          · obtain rfl := hao (by omega)
            obtain ⟨c0, c1, c2, c3, c4⟩ := hS j hlt
            have hi1 : (j : Int) < (n : Int) := by omega
            obtain ⟨x1, hx1⟩ : ∃ x1, x1 = (f j).entry.size := ⟨_, rfl⟩
            have ex1 : ((f j).entry.size : Int) = (x1 : Int) := by rw [hx1]
            obtain ⟨x2, hx2⟩ : ∃ x2, x2 = (f j).rule.size := ⟨_, rfl⟩
            have ex2 : ((f j).rule.size : Int) = (x2 : Int) := by rw [hx2]
            obtain ⟨x3, hx3⟩ : ∃ x3, x3 = (f j).msg.size := ⟨_, rfl⟩
            have ex3 : ((f j).msg.size : Int) = (x3 : Int) := by rw [hx3]
            clear hx1 hx2 hx3 hS hao
            obtain ⟨s1, hs1⟩ : ∃ s1, s1 = c + x1 := ⟨_, rfl⟩
            have es1 : (c : Int) + (x1 : Int) = (s1 : Int) := by omega
            obtain ⟨s2, hs2⟩ : ∃ s2, s2 = s1 + x2 := ⟨_, rfl⟩
            have es2 : (s1 : Int) + (x2 : Int) = (s2 : Int) := by omega
            obtain ⟨s3, hs3⟩ : ∃ s3, s3 = s2 + x3 := ⟨_, rfl⟩
            have es3 : (s2 : Int) + (x3 : Int) = (s3 : Int) := by omega
            have b1 : x1 ≤ 1048576 → s1 ≤ 2097152 := by omega
            have b2 : s1 ≤ 1048576 → x2 ≤ 1048576 → s2 ≤ 2097152 := by omega
            have b3 : s2 ≤ 1048576 → x3 ≤ 1048576 → s3 ≤ 2097152 := by omega
            clear hs1 hs2 hs3
            by_cases g1 : x1 ≤ 1048576
            · have b1' := b1 g1
              by_cases g2 : s1 ≤ 1048576
              · by_cases g3 : x2 ≤ 1048576
                · have b2' := b2 g2 g3
                  by_cases g4 : s2 ≤ 1048576
                  · by_cases g5 : x3 ≤ 1048576
                    · have b3' := b3 g4 g5
                      clear b1 b2 b3
                      by_cases g6 : s3 ≤ 1048576
                      · go_wp2
                        go_roundw
                        case rel => exact ⟨s3, j + 1, by omega, g6, rfl, by go_num, trivial⟩
                        case measure => simp [intOf]; omega
                      · go_wp2
                        go_ret
                        exact BPost.f _
                    · clear b1 b2 b3
                      go_wp2
                      go_ret
                      exact BPost.f _
                  · clear b1 b2 b3
                    go_wp2
                    go_ret
                    exact BPost.f _
                · clear b1 b2 b3
                  go_wp2
                  go_ret
                  exact BPost.f _
              · clear b1 b2 b3
                go_wp2
                go_ret
                exact BPost.f _
            · clear b1 b2 b3
              go_wp2
              go_ret
              exact BPost.f _
          · obtain rfl : j = n := by omega
            go_wp2
            go_ret
            exact BPost.f _
      · go_enter Try.func5, Try.ntmps5
        go_wp2
        go_ret
        exact BPost.f _
    · go_enter Try.func5, Try.ntmps5
      go_wp2
      go_ret
      exact BPost.f _
  · go_enter Try.func5, Try.ntmps5
    go_wp2
    go_ret
    exact BPost.f _
end Go.Proofs.Qxb6613698a.srt
