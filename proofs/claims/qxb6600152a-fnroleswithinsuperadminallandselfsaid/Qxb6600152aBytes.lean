import Derived.Test.Qxb6600152aInv
namespace Go.Proofs.Qxb6600152a
open Go.RowKit

/-- 'perms' as it came in, by functions of the index -/
def PermsF (w : World) (pa : Option Addr) (pn : Nat) (fa : Nat → Option Addr) (fn fc : Nat → Nat) (fx : Nat → List ByteArray) : Prop :=
  ∀ i, i < pn → ∃ b off, pa = some ⟨b, off, none⟩ ∧ w.cell? ⟨b, off + i, none⟩ = some (.slice (fa i) (fn i) (fc i)) ∧ (fx i).length = fn i ∧ fn i ≤ 9223372036854775807 ∧ Strs w (fa i) (fx i)

def P13 (pn : Nat) (fn : Nat → Nat) (w : World) (e : Ending) (w' : World) : Prop := ∃ b : Bool, e = .returned (.bool b) ∧ (b = true → ∀ i, i < pn → fn i ≤ 1048576) ∧ w = w'
theorem P13.no (pn : Nat) (fn : Nat → Nat) (w : World) : P13 pn fn w (.returned (.bool false)) w := ⟨false, rfl, (fun h => by cases h), rfl⟩
theorem P13.yes {pn : Nat} {fn : Nat → Nat} (w : World) (h : ∀ i, i < pn → fn i ≤ 1048576) : P13 pn fn w (.returned (.bool true)) w := ⟨true, rfl, fun _ => h, rfl⟩

set_option maxHeartbeats 4000000 in
theorem bytes13_any (a : Option Addr) (cap n : Nat) (ns : List ByteArray) (hn : ns.length = n) (hl : n ≤ 9223372036854775807) (pa : Option Addr) (pn pc : Nat) (hpl : pn ≤ 9223372036854775807)
    (fa : Nat → Option Addr) (fn fc : Nat → Nat) (fx : Nat → List ByteArray) (role : ByteArray) (w : World) (hx : Strs w a ns) (hp : PermsF w pa pn fa fn fc fx) :
    Calls Try.prog 13 #[.slice a n cap, .slice pa pn pc, .string role] w (P13 pn fn w) := by
  have HX : Hid (Strs w a ns) := hx
  have HN : Hid (ns.length = n) := hn
  have HP : Hid (PermsF w pa pn fa fn fc fx) := hp
  clear hx hn hp
  go_enter Try.func13, Try.ntmps13
  go_wp2
  · go_ret
    exact P13.no _ _ _
  go_loop [7, 8] (fun z i => ∃ (q : Int) (k : Nat), 0 ≤ q ∧ q ≤ 1048576 ∧ k ≤ n ∧ z = .int .i64 q ∧ i = .int .i64 k) (fun _ i => n - (intOf i).toNat)
  case atStart => exact ⟨_, 0, by omega, by omega, Nat.zero_le _, rfl, rfl⟩
  case round =>
    obtain ⟨q, k, hq0, hq1, hk, rfl, rfl⟩ := hrel
    by_cases hlt : k < n
    · obtain ⟨b, off, rfl, hc⟩ := HX.out k (by rw [HN.out]; exact hlt)
      go_wp2
      · go_ret
        exact P13.no _ _ _
      · go_ret
        exact P13.no _ _ _
      · go_round
        case rel => exact ⟨_, k + 1, by omega, by omega, by omega, rfl, by go_num⟩
        case measure => simp [intOf]; omega
    · go_wp2
      · go_ret
        exact P13.no _ _ _
      · go_ret
        exact P13.no _ _ _
      go_loop [7, 9] (fun z i => ∃ (q : Int) (k : Nat), 0 ≤ q ∧ q ≤ 1048576 ∧ k ≤ pn ∧ z = .int .i64 q ∧ i = .int .i64 k ∧ Hid (∀ j, j < k → fn j ≤ 1048576)) (fun _ i => pn - (intOf i).toNat)
      case atStart => exact ⟨_, 0, by omega, by omega, Nat.zero_le _, rfl, rfl, (fun j hj => absurd hj (Nat.not_lt_zero _))⟩
      case round =>
        obtain ⟨q, k, hq0, hq1, hk, rfl, rfl, hall⟩ := hrel
        by_cases hlt : k < pn
        · obtain ⟨b, off, rfl, hc, hpx, hpm, hps⟩ := HP.out k hlt
          have HPX : Hid ((fx k).length = fn k) := hpx
          clear hpx
          go_wp2
          · go_ret
            exact P13.no _ _ _
          · go_ret
            exact P13.no _ _ _
          have hfk : fn k ≤ 1048576 := by omega
          go_loop [7, 10] (fun z i => ∃ (q : Int) (j : Nat), 0 ≤ q ∧ q ≤ 1048576 ∧ j ≤ fn k ∧ z = .int .i64 q ∧ i = .int .i64 j) (fun _ i => fn k - (intOf i).toNat)
          case atStart => exact ⟨_, 0, by omega, by omega, Nat.zero_le _, rfl, rfl⟩
          case round =>
            obtain ⟨q, j, hq0, hq1, hj, rfl, rfl⟩ := hrel
            by_cases hlj : j < fn k
            · obtain ⟨b2, off2, he2, hc2⟩ := hps j (by rw [HPX.out]; exact hlj)
              rw [he2] at hc
              go_wp2
              · go_ret
                exact P13.no _ _ _
              · go_ret
                exact P13.no _ _ _
              · go_round
                case rel => exact ⟨_, j + 1, by omega, by omega, by omega, rfl, by go_num⟩
                case measure => simp [intOf]; omega
            · go_wp2
              go_round
              case rel => exact ⟨q, k + 1, hq0, hq1, by omega, rfl, by go_num, (fun i hi => by
                by_cases e : i = k
                · subst e; exact hfk
                · exact hall.out i (by omega))⟩
              case measure => simp [intOf]; omega
        · go_wp2
          · go_ret
            exact P13.no _ _ _
          · go_ret
            exact P13.no _ _ _
          · go_ret
            exact P13.yes _ (fun i hi => hall.out i (by omega))

def P7 (w : World) (e : Ending) (w' : World) : Prop := ∃ r : Int, e = .returned (.int .i64 r) ∧ w = w'
theorem P7.mk (w : World) (r : Int) : P7 w (.returned (.int .i64 r)) w := ⟨r, rfl, rfl⟩

set_option maxHeartbeats 4000000 in
set_option maxRecDepth 100000 in
theorem bytes7_any (a : Option Addr) (cap n : Nat) (ns : List ByteArray) (hn : ns.length = n) (hl : n ≤ 4096) (pa : Option Addr) (pn pc : Nat) (hpl : pn ≤ 4096)
    (fa : Nat → Option Addr) (fn fc : Nat → Nat) (fx : Nat → List ByteArray) (hfn : ∀ i, i < pn → fn i ≤ 1048576) (role : ByteArray) (w : World) (hx : Strs w a ns) (hp : PermsF w pa pn fa fn fc fx) :
    Calls Try.prog 7 #[.slice a n cap, .slice pa pn pc, .string role, .string ⟨#[]⟩] w (P7 w) := by
  have HX : Hid (Strs w a ns) := hx
  have HN : Hid (ns.length = n) := hn
  have HP : Hid (PermsF w pa pn fa fn fc fx) := hp
  have HF : Hid (∀ i, i < pn → fn i ≤ 1048576) := hfn
  clear hx hn hp hfn
  have d1 : decide ((1048576 : Int) < (n : Int)) = false := decide_eq_false (by omega)
  have d2 : decide ((1048576 : Int) < (pn : Int)) = false := decide_eq_false (by omega)
  by_cases hr : 1048576 < role.size
  · have d3 : decide ((1048576 : Int) < (role.size : Int)) = true := decide_eq_true (by omega)
    go_enter Try.func7, Try.ntmps7
    go_wp2
    go_ret
    exact P7.mk _ _
  have d3 : decide ((1048576 : Int) < (role.size : Int)) = false := decide_eq_false (by omega)
  go_enter Try.func7, Try.ntmps7
  go_wp2
  go_loop [9, 10] (fun z i => ∃ (q : Int) (k : Nat), 0 ≤ q ∧ q ≤ 100000000 ∧ k ≤ n ∧ z = .int .i64 q ∧ i = .int .i64 k) (fun _ i => n - (intOf i).toNat)
  case atStart => exact ⟨_, 0, by omega, by omega, Nat.zero_le _, rfl, rfl⟩
  case round =>
    obtain ⟨q, k, hq0, hq1, hk, rfl, rfl⟩ := hrel
    by_cases hlt : k < n
    · obtain ⟨b, off, rfl, hc⟩ := HX.out k (by rw [HN.out]; exact hlt)
      by_cases hqb : 1048576 < q
      · go_wp2
        go_ret
        exact P7.mk _ _
      by_cases hsb : 1048576 < (nth ns k).size
      · go_wp2
        go_ret
        exact P7.mk _ _
      · go_wp2
        go_round
        case rel => exact ⟨_, k + 1, by omega, by omega, by omega, rfl, by go_num⟩
        case measure => simp [intOf]; omega
    · go_wp2
      go_loop [9, 11] (fun z i => ∃ (q : Int) (k : Nat), 0 ≤ q ∧ q ≤ 100000000 ∧ k ≤ pn ∧ z = .int .i64 q ∧ i = .int .i64 k) (fun _ i => pn - (intOf i).toNat)
      case atStart => exact ⟨_, 0, by omega, by omega, Nat.zero_le _, rfl, rfl⟩
      case round =>
        obtain ⟨q, k, hq0, hq1, hk, rfl, rfl⟩ := hrel
        by_cases hlt : k < pn
        · obtain ⟨b, off, rfl, hc, hpx, hpm, hps⟩ := HP.out k hlt
          have HPX : Hid ((fx k).length = fn k) := hpx
          have hfk := HF.out k hlt
          clear hpx
          by_cases hqb : 1048576 < q
          · go_wp2
            go_ret
            exact P7.mk _ _
          go_wp2
          go_loop [9, 12] (fun z i => ∃ (q : Int) (j : Nat), 0 ≤ q ∧ q ≤ 100000000 ∧ j ≤ fn k ∧ z = .int .i64 q ∧ i = .int .i64 j) (fun _ i => fn k - (intOf i).toNat)
          case atStart => exact ⟨_, 0, by omega, by omega, Nat.zero_le _, rfl, rfl⟩
          case round =>
            obtain ⟨q, j, hq0, hq1, hj, rfl, rfl⟩ := hrel
            by_cases hlj : j < fn k
            · obtain ⟨b2, off2, he2, hc2⟩ := hps j (by rw [HPX.out]; exact hlj)
              rw [he2] at hc
              by_cases hqb2 : 1048576 < q
              · go_wp2
                go_ret
                exact P7.mk _ _
              by_cases hsb : 1048576 < (nth (fx k) j).size
              · go_wp2
                go_ret
                exact P7.mk _ _
              · go_wp2
                go_round
                case rel => exact ⟨_, j + 1, by omega, by omega, by omega, rfl, by go_num⟩
                case measure => simp [intOf]; omega
            · go_wp2
              go_round
              case rel => exact ⟨q, k + 1, hq0, hq1, by omega, rfl, by go_num⟩
              case measure => simp [intOf]; omega
        · go_wp2
          go_ret
          exact P7.mk _ _
end Go.Proofs.Qxb6600152a
