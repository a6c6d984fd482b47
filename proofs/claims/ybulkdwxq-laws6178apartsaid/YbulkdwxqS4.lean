/-
  6178A: the stable sort at equal orders: nothing turns.
-/
import Derived.Test.YbulkdwxqS3
namespace Go.Proofs.Ybulkdwxq
open Go.RowKit Go.Sort

set_option maxRecDepth 100000 in
theorem insertion_nil (w : World) : Calls Yba.prog 15 #[.slice none 0 0, .int .i64 0, .int .i64 0, .func (.func 9) #[] #[]] w fun e w' => e = .returned (.tuple #[]) ∧ w' = w := by
  go_enter Yba.func15, Yba.ntmps15
  go_wp2_with fail
  go_loopg [8] 0 (fun _ s wx => s = .int .i64 1 ∧ wx = w)
  case atStart => exact ⟨rfl, rfl⟩
  case round =>
    obtain ⟨rfl, rfl⟩ := hrel
    go_wp2_with fail
    exact bodyPost_end (v := .tuple #[]) (by simp [results, Yba.results15, go_sem]) rfl ⟨rfl, rfl⟩

set_option maxRecDepth 100000 in
theorem stable_nil (w : World) : Calls Yba.prog 8 #[.slice none 0 0, .func (.func 9) #[] #[]] w fun e w' => e = .returned (.tuple #[]) ∧ Below w.heap.size w w' := by
  have ST : ∀ w, Calls Yba.prog 13 #[.slice none 0 0, .int .i64 0, .func (.func 9) #[] #[]] w fun e w' => e = .returned (.tuple #[]) ∧ Below w.heap.size w w' := by
    intro w
    go_enter Yba.func13, Yba.ntmps13
    go_wp2_with fail
    go_loopg [7, 8] 0 (fun _ s t wr => s = .int .i64 0 ∧ t = .int .i64 20 ∧ Hid (Below w.heap.size w wr))
    case atStart => exact ⟨rfl, rfl, Below.refl _ _⟩
    case round =>
      obtain ⟨rfl, rfl, HB⟩ := hrel
      go_wp2_with (go_at_call 15; refine (insertion_nil _).mono ?_; rintro e w2 ⟨rfl, hw⟩; (replace HB : Hid (Below w.heap.size w w2) := hw ▸ HB.out); clear hw)
      go_loopg [6] 0 (fun _ s wr => s = .int .i64 20 ∧ Hid (Below w.heap.size w wr))
      case atStart => exact ⟨rfl, HB⟩
      case round =>
        clear HB
        obtain ⟨rfl, HB⟩ := hrel
        go_wp2_with fail
        exact bodyPost_end (v := .tuple #[]) (by simp [results, Yba.results13, go_sem]) rfl ⟨rfl, HB.out⟩
  go_enter Yba.func8, Yba.ntmps8
  go_wp2_with (go_at_call 13; refine (ST _).mono ?_; rintro e w2 ⟨rfl, hb⟩)
  exact bodyPost_end (v := .tuple #[]) (by simp [results, Yba.results8, go_sem]) rfl ⟨rfl, hb⟩

set_option maxRecDepth 100000 in
set_option maxHeartbeats 4000000 in
theorem stableCmp_any (g n cap : Nat) (V : Nat → Int) (ra : Nat → Option Addr) (rl rc : Nat → Nat) (hn : n ≤ 1048576) (w : World) (h : Sus w g n V ra rl rc) :
    Calls Yba.prog 13 #[.slice (some ⟨g, 0, none⟩) n cap, .int .i64 n, .func (.func 9) #[] #[]] w fun e w' => e = .returned (.tuple #[]) ∧ Below w.heap.size w w' := by
  have IN : Hid (∀ wr a b, Below w.heap.size w wr → b ≤ n → a ≤ 1048576 → Calls Yba.prog 15 #[.slice (some ⟨g, 0, none⟩) n cap, .int .i64 (a : Nat), .int .i64 (b : Nat), .func (.func 9) #[] #[]] wr fun e w' => e = .returned (.tuple #[]) ∧ Below wr.heap.size wr w') :=
    fun wr a b hb h1 h2 => insertion_any g n cap a b V ra rl rc h1 hn h2 wr (h.below hb)
  have ME : Hid (∀ wr a m b, Below w.heap.size w wr → a < m → m < b → b ≤ n → Calls Yba.prog 16 #[.slice (some ⟨g, 0, none⟩) n cap, .int .i64 (a : Nat), .int .i64 (m : Nat), .int .i64 (b : Nat), .func (.func 9) #[] #[]] wr fun e w' => e = .returned (.tuple #[]) ∧ Below wr.heap.size wr w') :=
    fun wr a m b hb h1 h2 h3 => merge_any g n cap V ra rl rc hn (b - a) a m b (Nat.le_refl _) h1 h2 h3 wr (h.below hb)
  clear h
  go_enter Yba.func13, Yba.ntmps13
  go_upto_block 0 with fail
  go_cut [7, 8] from 11 to 22 (fun s _ wx => ∃ a : Nat, a ≤ n ∧ s = .int .i64 a ∧ Hid (Below w.heap.size w wx))
  case first =>
    go_wp2_with fail
    go_loopg [7, 8] n (fun k s t wr => ∃ a b : Nat, b = a + 20 ∧ a ≤ n ∧ k = n + 20 - b ∧ s = .int .i64 a ∧ t = .int .i64 b ∧ Hid (Below w.heap.size w wr))
    case atStart => exact ⟨0, 20, rfl, Nat.zero_le _, by omega, rfl, rfl, Below.refl _ _⟩
    case round =>
      obtain ⟨a, b, hab, han, rfl, rfl, rfl, HB⟩ := hrel
      have HAB : Hid _ := hab
      by_cases hlt : b ≤ n
      · have hlt' : (b : Int) ≤ (n : Int) := by omega
        have IC := IN.out wr a b HB.out hlt (by omega)
        clear hab
        go_wp2_with (go_at_call 15; refine IC.mono ?_; rintro e w2 ⟨rfl, hb2⟩; (replace HB : Hid _ := below_more HB.out (Nat.le_refl _) hb2); clear IC hb2)
        go_roundg (n + 20 - (b + 20))
        case measure => have := HAB.out; omega
        case rel => exact ⟨b, b + 20, rfl, hlt, rfl, rfl, by go_num, HB⟩
      · have hlt' : ¬ (b : Int) ≤ (n : Int) := by omega
        clear hab
        go_wp2_with fail
        go_meet
        exact ⟨a, han, rfl, HB⟩
  case rest =>
    obtain ⟨a, han, rfl, HB⟩ := hcut
    have IC := IN.out wc a n HB.out (Nat.le_refl _) (by omega)
    go_upto_block 2 with (go_at_call 15; refine IC.mono ?_; rintro e w2 ⟨rfl, hb2⟩; (replace HB : Hid _ := below_more HB.out (Nat.le_refl _) hb2); clear IC hb2)
    go_wp2_with fail
    go_loopg [6, 7, 8, 9] n (fun k s _ _ _ wr => ∃ z : Nat, 1 ≤ z ∧ z ≤ 4194304 ∧ k = n + 20 - z ∧ s = .int .i64 z ∧ Hid (Below w.heap.size w wr))
    case atStart => exact ⟨20, by omega, by omega, by omega, rfl, HB⟩
    case round =>
      clear HB
      obtain ⟨z, hz1, hz2, rfl, rfl, HB⟩ := hrel
      by_cases hzn : z < n
      · have hzn' : (z : Int) < (n : Int) := by omega
        go_upto_block 4 with fail
        go_cut [7, 8] from 33 to 48 (fun s _ wx => ∃ a : Nat, a ≤ n ∧ s = .int .i64 a ∧ Hid (Below w.heap.size w wx))
        case first =>
          go_wp2_with fail
          go_loopg [7, 8] n (fun k s t wr => ∃ a b : Nat, b = a + 2 * z ∧ a ≤ n ∧ k = n + 2 * z - b ∧ s = .int .i64 a ∧ t = .int .i64 b ∧ Hid (Below w.heap.size w wr))
          case atStart => exact ⟨0, 2 * z, by omega, Nat.zero_le _, by omega, rfl, by go_num, HB⟩
          case round =>
            clear HB
            obtain ⟨a, b, hab, han, rfl, rfl, rfl, HB⟩ := hrel
            have HAB : Hid _ := hab
            by_cases hlt : b ≤ n
            · have hlt' : (b : Int) ≤ (n : Int) := by omega
              obtain ⟨m, hm⟩ : ∃ m : Nat, (a : Int) + (z : Int) = (m : Int) := ⟨a + z, by omega⟩
              have IC := ME.out wr a m b HB.out (by omega) (by omega) hlt
              clear hab
              go_wp2_with (go_at_call 16; refine IC.mono ?_; rintro e w2 ⟨rfl, hb2⟩; (replace HB : Hid _ := below_more HB.out (Nat.le_refl _) hb2); clear IC hb2)
              go_roundg (n + 2 * z - (b + 2 * z))
              case measure => have := HAB.out; omega
              case rel => exact ⟨b, b + 2 * z, rfl, hlt, rfl, rfl, by go_num, HB⟩
            · have hlt' : ¬ (b : Int) ≤ (n : Int) := by omega
              clear hab
              go_wp2_with fail
              go_meet
              exact ⟨a, han, rfl, HB⟩
        case rest =>
          clear HB
          obtain ⟨a, han, rfl, HB⟩ := hcut
          obtain ⟨m, hm⟩ : ∃ m : Nat, (a : Int) + (z : Int) = (m : Int) := ⟨a + z, by omega⟩
          by_cases hmn : m < n
          · have hmn' : (m : Int) < (n : Int) := by omega
            have IC := ME.out wc a m n HB.out (by omega) hmn (Nat.le_refl _)
            go_wp2_with (go_at_call 16; refine IC.mono ?_; rintro e w2 ⟨rfl, hb2⟩; (replace HB : Hid _ := below_more HB.out (Nat.le_refl _) hb2); clear IC hb2)
            go_roundg (n + 20 - z * 2)
            case measure => omega
            case rel => exact ⟨z * 2, by omega, by omega, rfl, by go_num, HB⟩
          · have hmn' : ¬ (m : Int) < (n : Int) := by omega
            go_wp2_with fail
            go_roundg (n + 20 - z * 2)
            case measure => omega
            case rel => exact ⟨z * 2, by omega, by omega, rfl, by go_num, HB⟩
      · have hzn' : ¬ (z : Int) < (n : Int) := by omega
        go_wp2_with fail
        exact bodyPost_end (v := .tuple #[]) (by simp [results, Yba.results13, go_sem]) rfl ⟨rfl, HB.out⟩

set_option maxRecDepth 100000 in
theorem stable_any (g n cap : Nat) (V : Nat → Int) (ra : Nat → Option Addr) (rl rc : Nat → Nat) (hn : n ≤ 1048576) (w : World) (h : Sus w g n V ra rl rc) :
    Calls Yba.prog 8 #[.slice (some ⟨g, 0, none⟩) n cap, .func (.func 9) #[] #[]] w fun e w' => e = .returned (.tuple #[]) ∧ Below w.heap.size w w' := by
  have ST := stableCmp_any g n cap V ra rl rc hn w h
  go_enter Yba.func8, Yba.ntmps8
  go_wp2_with (go_at_call 13; refine ST.mono ?_; rintro e w2 ⟨rfl, hb⟩)
  exact bodyPost_end (v := .tuple #[]) (by simp [results, Yba.results8, go_sem]) rfl ⟨rfl, hb⟩
end Go.Proofs.Ybulkdwxq
