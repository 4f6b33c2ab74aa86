import Derived.Test.Qxb6001457aBase
namespace Go.Proofs.Qxb6001457a
open Go.RowKit

/-- The call answers a bool; where it is true, 'Q' holds. -/
def TrueIf (Q : Prop) (e : Ending) : Prop := ∃ r : Bool, e = .returned (.bool r) ∧ (r = true → Q)
theorem TrueIf.no {Q : Prop} : TrueIf Q (.returned (.bool false)) := ⟨false, rfl, fun h => by cases h⟩
theorem TrueIf.yes {Q : Prop} (h : Q) : TrueIf Q (.returned (.bool true)) := ⟨true, rfl, fun _ => h⟩
def Short (n : Nat) (L : Nat → Nat) : Prop := ∀ i, i < n → L i ≤ 131072
def InRange (n : Nat) (L : Nat → Nat) (Z : Nat → Nat → Int) (s : Int) : Prop := (0 ≤ s ∧ s < n) ∧ ∀ i t, i < n → t < L i → 0 ≤ Z i t ∧ Z i t < n

set_option maxHeartbeats 400000 in
theorem zzBytes_any (a : Option Addr) (n cap b o : Nat) (A : Nat → Option Addr) (L C Ab Ao : Nat → Nat) (Z : Nat → Nat → Int) (s : Int) (w : World) (h : RowsAt w a n b o A L C Ab Ao Z)
    (hn : n ≤ maxLen) (hL : ∀ i, i < n → L i ≤ maxLen) :
    Calls Try.prog 13 #[.slice a n cap, .int .i64 s] w fun e w' => TrueIf True e ∧ w' = w := by
  unfold maxLen at hn hL
  have hrow := h.row
  have htop := h.top
  clear h
  go_enter Try.func13, Try.ntmps13
  go_wp2
  · go_ret
    exact ⟨⟨_, rfl, fun _ => trivial⟩, rfl⟩
  · go_loopg [5, 6] n (fun g z i wr => wr = w ∧ ∃ k : Nat, k ≤ n ∧ g = n - k ∧ i = .int .i64 k ∧ ∃ q : Int, 0 ≤ q ∧ q ≤ 1048576 ∧ z = .int .i64 q)
    case atStart => exact ⟨rfl, 0, Nat.zero_le _, rfl, rfl, _, by omega, by omega, rfl⟩
    case round =>
      obtain ⟨rfl, k, hk, rfl, rfl, q, hq0, hq1, rfl⟩ := hrel
      have hix : k < n → ∀ W, (Instr.indexAt 22 (.slice a n cap) (.int .i64 (k : Int))).run Try.prog W = .ok (.pointer (some ⟨b, o + k, none⟩)) W := fun hk W => index22 (htop (by omega)) hk W
      have hLk := hL k
      have hc := hrow k
      clear hrow htop hL
      go_wp2
      · go_ret
        exact ⟨⟨_, rfl, fun _ => trivial⟩, rfl⟩
      · go_ret
        exact ⟨⟨_, rfl, fun _ => trivial⟩, rfl⟩
      · have hlt : k < n := by assumption
        go_roundg (n - (k + 1))
        case measure => omega
        case rel => exact ⟨rfl, k + 1, by omega, rfl, by go_num, _, by omega, by omega, rfl⟩
      · go_ret
        exact ⟨⟨_, rfl, fun _ => trivial⟩, rfl⟩

set_option maxHeartbeats 400000 in
theorem depsBytesFit_any (a : Option Addr) (n cap b o : Nat) (A : Nat → Option Addr) (L C Ab Ao : Nat → Nat) (Z : Nat → Nat → Int) (w : World) (h : RowsAt w a n b o A L C Ab Ao Z)
    (hn : n ≤ maxLen) (hL : ∀ i, i < n → L i ≤ maxLen) :
    Calls Try.prog 8 #[.slice a n cap] w fun e w' => TrueIf (Short n L) e ∧ w' = w := by
  unfold maxLen at hn hL
  have hrow := h.row
  have htop := h.top
  clear h
  go_enter Try.func8, Try.ntmps8
  go_wp2
  · go_ret
    exact ⟨.no, rfl⟩
  · go_ret
    exact ⟨.no, rfl⟩
  · go_loopg [3, 4] n (fun g z i wr => wr = w ∧ ∃ k : Nat, k ≤ n ∧ g = n - k ∧ i = .int .i64 k ∧ (∀ j, j < k → L j ≤ 131072) ∧ ∃ q : Int, 0 ≤ q ∧ q ≤ 1048576 ∧ z = .int .i64 q)
    case atStart => exact ⟨rfl, 0, Nat.zero_le _, rfl, rfl, by omega, _, by omega, by omega, rfl⟩
    case round =>
      obtain ⟨rfl, k, hk, rfl, rfl, hall, q, hq0, hq1, rfl⟩ := hrel
      have hix : k < n → ∀ W, (Instr.indexAt 22 (.slice a n cap) (.int .i64 (k : Int))).run Try.prog W = .ok (.pointer (some ⟨b, o + k, none⟩)) W := fun hk W => index22 (htop (by omega)) hk W
      have hLk := hL k
      have hc := hrow k
      have HA : Hid (∀ j, j < k → L j ≤ 131072) := hall
      clear hrow htop hL hall
      go_wp2
      · go_ret
        exact ⟨.no, rfl⟩
      · go_ret
        exact ⟨.no, rfl⟩
      · have hlt : k < n := by assumption
        have hl2 : (L k : Int) ≤ 131072 := by assumption
        go_roundg (n - (k + 1))
        case measure => omega
        case rel => exact ⟨rfl, k + 1, by omega, rfl, by go_num, fun j hj => if e : j < k then HA.out j e else by (obtain rfl : j = k := by omega); omega, _, by omega, by omega, rfl⟩
      · have hge : ¬ k < n := by assumption
        go_ret
        exact ⟨.yes fun i hi => HA.out i (by omega), rfl⟩

set_option maxHeartbeats 400000 in
theorem depsInRange_any (a : Option Addr) (n cap b o : Nat) (A : Nat → Option Addr) (L C Ab Ao : Nat → Nat) (Z : Nat → Nat → Int) (s : Int) (w : World) (h : RowsAt w a n b o A L C Ab Ao Z)
    (hn : n ≤ 1024) (hL : ∀ i, i < n → L i ≤ 131072) :
    Calls Try.prog 9 #[.slice a n cap, .int .i64 s] w fun e w' => TrueIf (InRange n L Z s) e ∧ w' = w := by
  by_cases hs0 : s < 0
  · go_enter Try.func9, Try.ntmps9
    go_wp2
    go_ret
    exact ⟨.no, rfl⟩
  by_cases hs1 : (n : Int) ≤ s
  · have hd : decide (s < 0) = false := by simp; omega
    go_enter Try.func9, Try.ntmps9
    go_wp2
    go_ret
    exact ⟨.no, rfl⟩
  have hd : decide (s < 0) = false := by simp; omega
  have hd1 : decide ((n : Int) ≤ s) = false := by simp; omega
  have hs2 : s < n := by omega
  have hs3 : 0 ≤ s := by omega
  have HR : Hid (RowsAt w a n b o A L C Ab Ao Z) := h
  clear h hs0 hs1
  go_enter Try.func9, Try.ntmps9
  go_wp2
  go_loopg [6] n (fun g i wr => wr = w ∧ ∃ k : Nat, k ≤ n ∧ g = n - k ∧ i = .int .i64 k ∧ (∀ j t, j < k → t < L j → 0 ≤ Z j t ∧ Z j t < n))
  case atStart => exact ⟨rfl, 0, Nat.zero_le _, rfl, rfl, by omega⟩
  case round =>
    obtain ⟨rfl, k, hk, rfl, rfl, hall⟩ := hrel
    have HA : Hid (∀ j t, j < k → t < L j → 0 ≤ Z j t ∧ Z j t < n) := hall
    clear hall
    by_cases hlt : k < n
    · have hix := index22 (cap := cap) (HR.out.top (by omega)) hlt
      have hc := HR.out.row k hlt
      have hLk := hL k hlt
      go_wp2
      go_loopg [8] (L k) (fun g i wx => wx = wr ∧ ∃ t : Nat, t ≤ L k ∧ g = L k - t ∧ i = .int .i64 t ∧ (∀ j, j < t → 0 ≤ Z k j ∧ Z k j < n))
      case atStart => exact ⟨rfl, 0, Nat.zero_le _, rfl, rfl, by omega⟩
      case round =>
        clear hix hc
        obtain ⟨rfl, t, ht, rfl, rfl, hall⟩ := hrel
        have HB : Hid (∀ j, j < t → 0 ≤ Z k j ∧ Z k j < n) := hall
        clear hall
        by_cases htl : t < L k
        · have hix := index26 (cap := C k) (HR.out.spot k hlt (by omega)) htl
          have hc := HR.out.cell k t hlt htl
          by_cases hz0 : Z k t < 0
          · have hdz : decide (Z k t < 0) = true := by simpa using hz0
            go_wp2
            go_ret
            exact ⟨.no, rfl⟩
          have hdz : decide (Z k t < 0) = false := by simpa using hz0
          by_cases hz1 : (n : Int) ≤ Z k t
          · go_wp2
            go_ret
            exact ⟨.no, rfl⟩
          · go_wp2
            go_roundg (L k - (t + 1))
            case measure => omega
            case rel => exact ⟨rfl, t + 1, by omega, rfl, by go_num, fun j hj => if e : j < t then HB.out j e else by (obtain rfl : j = t := by omega); omega⟩
        · go_wp2
          go_roundg (n - (k + 1))
          case measure => omega
          case rel => exact ⟨rfl, k + 1, by omega, rfl, by go_num, fun j x hj hx => if e : j < k then HA.out j x e hx else by (obtain rfl : j = k := by omega); exact HB.out x (by omega)⟩
    · go_wp2
      go_ret
      exact ⟨.yes ⟨⟨hs3, hs2⟩, fun i t hi ht => HA.out i t (by omega) ht⟩, rfl⟩

end Go.Proofs.Qxb6001457a
