import Derived.Test.Qxb6600152aWithin
import Derived.Test.Qxb6600152aBytes
import Derived.Test.Qxb6600152aCmp
import Derived.Lib.SliceRun
namespace Go.Proofs.Qxb6600152a
open Go.RowKit

theorem permsF_perms {w : World} {pa : Option Addr} {pn : Nat} {fa : Nat → Option Addr} {fn fc : Nat → Nat} {fx : Nat → List ByteArray} (h : PermsF w pa pn fa fn fc fx) (hf : ∀ i, i < pn → fn i ≤ 1048576) : Perms w pa pn := by
  intro i hi
  obtain ⟨b, off, h1, h2, h3, _, h5⟩ := h i hi
  exact ⟨b, off, fa i, fn i, fc i, fx i, h1, h2, h3, hf i hi, h5⟩

theorem eql_nil (wx : World) (x : Addr) (n c : Nat) : (binOp .eql 22 (.slice (some x) n c) (.slice none 0 0)).run Try.prog wx = .ok (.bool false) wx :=
  Lib.run_eql_slice_nil wx 22 9 (some x) n c 0 0 Try.underlying22

def PL (w : World) (e : Ending) (w' : World) : Prop := e = .returned (.bool true) ∧ Below w.heap.size w w'

set_option maxHeartbeats 4000000 in
theorem law_any (a : Option Addr) (cap n : Nat) (ns : List ByteArray) (hn : ns.length = n) (hl : n ≤ 9223372036854775807) (pa : Option Addr) (pn pc : Nat) (hpl : pn ≤ 9223372036854775807)
    (fa : Nat → Option Addr) (fn fc : Nat → Nat) (fx : Nat → List ByteArray) (role : ByteArray) (w : World) (hx : Strs w a ns) (hp : PermsF w pa pn fa fn fc fx) :
    Calls Try.prog 4 #[.slice a n cap, .slice pa pn pc, .string role] w (PL w) := by
  have HX : Hid (Strs w a ns) := hx
  have HN : Hid (ns.length = n) := hn
  have HP : Hid (PermsF w pa pn fa fn fc fx) := hp
  clear hx hn hp
  have hnil := eql_nil
  go_enter Try.func4, Try.ntmps4
  go_wp2_with fail
  refine (bytes13_any a cap n ns HN.out hl pa pn pc hpl fa fn fc fx role _ HX.out HP.out).mono ?_
  rintro e w' ⟨b, rfl, hb, rfl⟩
  cases b with
  | false =>
    go_wp2
    go_ret
    exact ⟨rfl, Below.refl _ _⟩
  | true =>
    have HF : Hid (∀ i, i < pn → fn i ≤ 1048576) := hb rfl
    clear hb
    by_cases h1 : 4096 < n
    · have d1 : decide ((4096 : Int) < (n : Int)) = true := decide_eq_true (by omega)
      go_wp2
      go_ret
      exact ⟨rfl, Below.refl _ _⟩
    have d1 : decide ((4096 : Int) < (n : Int)) = false := decide_eq_false (by omega)
    by_cases h2 : 4096 < pn
    · have d2 : decide ((4096 : Int) < (pn : Int)) = true := decide_eq_true (by omega)
      go_wp2
      go_ret
      exact ⟨rfl, Below.refl _ _⟩
    have d2 : decide ((4096 : Int) < (pn : Int)) = false := decide_eq_false (by omega)
    go_wp2_with fail
    refine (bytes7_any a cap n ns HN.out (by omega) pa pn pc (by omega) fa fn fc fx HF.out role _ HX.out HP.out).mono ?_
    rintro e w' ⟨r, rfl, rfl⟩
    by_cases h3 : 1048576 < r
    · have d3 : decide (1048576 < r) = true := decide_eq_true h3
      go_wp2_with fail
      go_ret
      exact ⟨rfl, Below.refl _ _⟩
    have d3 : decide (1048576 < r) = false := decide_eq_false h3
    go_wp2_with fail
    refine (build_any a cap n ns HN.out (by omega) pa pn pc (by omega) _ HX.out (permsF_perms HP.out HF.out)).mono ?_
    rintro e w1 ⟨g1, c1, R, g2, c2, Q, g4, c4, A, rfl, ht, hb1⟩
    have HT1 : Hid (Table w1 g1 R g2 Q g4 A) := ht
    clear ht
    go_wp2_with fail
    refine (roleSet_any g1 c1 g2 c2 g4 c4 R Q A _ HT1.out).mono ?_
    rintro e w2 ⟨S, rb, rfl, hrs, hb2⟩
    have HT2 : Hid (Table w2 g1 R g2 Q g4 A) := HT1.out.below hb2
    have HS2 : Hid (RS w2 S rb g4 c4 R Q A) := hrs
    have hB2 : Below w.heap.size w w2 := hb1.trans (hb2.mono hb1.size)
    clear hrs HT1 hb1 hb2
    go_wp2_with fail
    refine (within_any S rb g4 c4 R Q A ⟨#[83, 85, 80, 69, 82, 95, 65, 68, 77, 73, 78]⟩ _ HS2.out).mono ?_
    rintro e w3 ⟨g5, c5, N, rfl, hN, -, hNR, -, hb3⟩
    have hNeq : N = R := hNR rfl
    subst hNeq
    have HT3 : Hid (Table w3 g1 N g2 Q g4 A) := HT2.out.below hb3
    have HS3 : Hid (RS w3 S rb g4 c4 N Q A) := HS2.out.below hb3
    have HN5 : Hid (Strs w3 (some ⟨g5, 0, none⟩) N) := hN
    have hB3 : Below w.heap.size w w3 := hB2.trans (hb3.mono hB2.size)
    have hle : N.length ≤ 4096 := HT3.out.le
    clear hN hNR hb3 HT2 HS2 hB2
    go_wp2_with fail
    refine (zzEqual_same (some ⟨g5, 0, none⟩) (some ⟨g1, 0, none⟩) c5 c1 N.length N rfl (by omega) _ HN5.out HT3.out.r).mono ?_
    rintro e w4 ⟨rfl, hb4⟩
    have HT4 : Hid (Table w4 g1 N g2 Q g4 A) := HT3.out.below hb4
    have HS4 : Hid (RS w4 S rb g4 c4 N Q A) := HS3.out.below hb4
    have hB4 : Below w.heap.size w w4 := hB3.trans (hb4.mono hB3.size)
    clear hb4 HT3 HS3 hB3 HN5
    go_wp2_with fail
    refine (within_any S rb g4 c4 N Q A role _ HS4.out).mono ?_
    rintro e w5 ⟨g6, c6, M, rfl, hM, hsubl, -, hself, hb5⟩
    have HT5 : Hid (Table w5 g1 N g2 Q g4 A) := HT4.out.below hb5
    have hB5 : Below w.heap.size w w5 := hB4.trans (hb5.mono hB4.size)
    have HM5 : Hid (Strs w5 (some ⟨g6, 0, none⟩) M) := hM
    have HSB : Hid (List.Sublist M N) := hsubl
    have hMle : M.length ≤ 4096 := Nat.le_trans hsubl.length_le hle
    have HSELF : Hid (∀ k, k < N.length → nth N k = role → (∀ j, j < k → nth N j ≠ role) → role ∈ M) := hself
    clear hM hsubl hself hb5 HT4 HS4 hB4
    go_wp2_with fail
    refine (zzSubsequence_yes (some ⟨g6, 0, none⟩) (some ⟨g1, 0, none⟩) c6 c1 M.length N.length M N rfl rfl (by omega) (by omega) HSB.out _ HM5.out HT5.out.r).mono ?_
    rintro e w6 ⟨rfl, hb6⟩
    have HT6 : Hid (Table w6 g1 N g2 Q g4 A) := HT5.out.below hb6
    have HM6 : Hid (Strs w6 (some ⟨g6, 0, none⟩) M) := HM5.out.below hb6
    have hB6 : Below w.heap.size w w6 := hB5.trans (hb6.mono hB5.size)
    clear hb6 HT5 HM5 hB5
    go_wp2_with fail
    refine (zzIndex_any (some ⟨g1, 0, none⟩) c1 N.length N role rfl (by omega) _ HT6.out.r).mono ?_
    rintro e w7 ⟨r1, rfl, hr1, rfl⟩
    by_cases h0 : 0 ≤ r1
    · have d4 : decide (0 ≤ r1) = true := decide_eq_true h0
      have hmem : role ∈ M := by
        rcases hr1 with ⟨e, _⟩ | ⟨k, hk, _, h1, h2⟩
        · omega
        · exact HSELF.out k hk h1 h2
      have HMEM : Hid (role ∈ M) := hmem
      clear hmem hr1
      go_wp2_with fail
      refine (zzIndex_any (some ⟨g6, 0, none⟩) c6 M.length M role rfl (by omega) _ HM6.out).mono ?_
      rintro e w8 ⟨r2, rfl, hr2, rfl⟩
      have h5 : 0 ≤ r2 := by
        rcases hr2 with ⟨_, hno⟩ | ⟨k, _, e, _⟩
        · exact absurd HMEM.out hno
        · omega
      have d5 : decide (r2 < 0) = false := decide_eq_false (by omega)
      clear hr2
      go_wp2
      go_ret
      exact ⟨rfl, hB6⟩
    · have d4 : decide (0 ≤ r1) = false := decide_eq_false h0
      clear hr1
      go_wp2
      go_ret
      exact ⟨rfl, hB6⟩
end Go.Proofs.Qxb6600152a
