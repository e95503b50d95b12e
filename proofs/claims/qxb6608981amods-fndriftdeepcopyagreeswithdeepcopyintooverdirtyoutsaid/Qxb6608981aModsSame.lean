/-
  CONTRACT of zzSameDrift: of what is the same it says so.
-/
import Derived.Test.Qxb6608981aModsDeep
import Derived.Lib.SliceRun
namespace Go.Proofs.Qxb6608981aMods
open Go.RowKit

theorem eql40 (w : World) (a : Option Addr) (n c n' c' : Nat) : (binOp .eql 40 (.slice a n c) (.slice none n' c')).run Trym.prog w = .ok (.bool a.isNone) w := Lib.run_eql_slice_nil w _ _ a n c n' c' Trym.underlying40
theorem eql43 (w : World) (a : Option Addr) (n c n' c' : Nat) : (binOp .eql 43 (.slice a n c) (.slice none n' c')).run Trym.prog w = .ok (.bool a.isNone) w := Lib.run_eql_slice_nil w _ _ a n c n' c' Trym.underlying43
theorem eql46 (w : World) (a : Option Addr) (n c n' c' : Nat) : (binOp .eql 46 (.slice a n c) (.slice none n' c')).run Trym.prog w = .ok (.bool a.isNone) w := Lib.run_eql_slice_nil w _ _ a n c n' c' Trym.underlying46

/-- Two rows of strings, one here and one there, the same. -/
theorem pair_paths {w : World} {a c : Nat} {v u : Value} {P : Pth} (x : PIn w a c v P) (z : ZP w u P) :
    ∃ (ax az : Option Addr) (n cx cz : Nat) (f : Nat → ByteArray), v = .slice ax n cx ∧ u = .slice az n cz ∧ n ≤ maxLen ∧ (!(ax.isNone == az.isNone)) = false ∧
      (0 < n → ∃ gp bz oz, ax = some ⟨gp, 0, none⟩ ∧ az = some ⟨bz, oz, none⟩ ∧ ∀ j, j < n → w.cell? ⟨gp, j, none⟩ = some (.string (f j)) ∧ w.cell? ⟨bz, oz + j, none⟩ = some (.string (f j))) := by
  cases P with
  | none =>
    obtain rfl : v = .slice none 0 0 := x
    obtain rfl : u = .slice none 0 0 := z
    exact ⟨none, none, 0, 0, 0, fun _ => ByteArray.empty, rfl, rfl, Nat.zero_le _, rfl, fun h => absurd h (Nat.lt_irrefl _)⟩
  | some p =>
    obtain ⟨n, f⟩ := p
    obtain ⟨g, rfl, _, _, hn, ho⟩ := x
    obtain ⟨az, cz, rfl, hn', hz⟩ := z
    refine ⟨_, _, n, n, cz, f, rfl, rfl, hn, rfl, fun hp => ?_⟩
    obtain ⟨bz, oz, ha, _, hc⟩ := hz hp
    exact ⟨g, bz, oz, rfl, by rw [ha], fun j hj => ⟨ho.cell j hj, (hc j hj).1⟩⟩

theorem drew_more {w v : World} {m : Nat} (h : v = w.drewN m) (n : Nat) : v.drewN n = w.drewN (m + n) := by rw [h, World.drewN_drewN]

theorem drew_next {w v : World} (h : ∃ m, v = w.drewN m) (n : Nat) : ∃ m, v.drewN n = w.drewN m := by
  obtain ⟨m, hm⟩ := h
  exact ⟨m + n, drew_more hm n⟩
theorem drew_agree {w v : World} (h : ∃ m, v = w.drewN m) (a b : Nat) : Agree a b w v := by
  obtain ⟨m, rfl⟩ := h
  exact Agree.drewN _ _ _ _
theorem drew_below {w v : World} (h : ∃ m, v = w.drewN m) (B : Nat) : Below B w v := by
  obtain ⟨m, rfl⟩ := h
  exact ⟨rfl, rfl, rfl, Nat.le_refl _, fun _ _ => rfl⟩

set_option maxHeartbeats 1600000 in
theorem same_none (gx b o : Nat) (md : ByteArray) (w : World) (c0 : w.cell? ⟨gx, 0, none⟩ = some (.string md)) (c1 : w.cell? ⟨gx, 1, none⟩ = some (.slice none 0 0)) (d0 : w.cell? ⟨b, o, none⟩ = some (.string md)) (d1 : w.cell? ⟨b, o + 1, none⟩ = some (.slice none 0 0)) :
    Calls Trym.prog 16 #[.pointer (some ⟨gx, 0, none⟩), .pointer (some ⟨b, o, none⟩)] w fun e w' => e = .returned (.bool true) ∧ ∃ n, w' = w.drewN n := by
  have k0 := eql40
  have k3 := eql43
  go_enter Trym.func16, Trym.ntmps16
  go_wp2_with fail
  go_quiet (fail)
  go_wp2_with fail
  go_quiet (fail)
  go_wp2_with fail
  go_quiet (fail)
  go_wp2_with fail
  go_loopw [5] (fun i wr => i = .int .i64 0 ∧ Hid (∃ m, wr = w.drewN m)) (fun _ _ => 0)
  case atStart => exact ⟨rfl, ⟨_, by simp only [World.drewN_drewN]; rfl⟩⟩
  case round =>
  obtain ⟨rfl, HW⟩ := hrel
  have hcell : ∀ a, wr.cell? a = w.cell? a := by obtain ⟨m, hm⟩ := HW.out; rw [hm]; intro _; rfl
  have x1 := (hcell _).trans c1
  clear hcell k0 k3
  go_wp2
  go_ret
  exact ⟨rfl, HW.out⟩

set_option maxHeartbeats 3200000 in
set_option maxRecDepth 4000 in
theorem same_some (gx b o g n cz : Nat) (md : ByteArray) (az : Addr) (P : Nat → Pth) (T : Nat → Tgt) (m : Nat → Nat) (vP vT : Nat → Value) (w : World) (hn : n ≤ maxLen) (c0 : w.cell? ⟨gx, 0, none⟩ = some (.string md)) (c1 : w.cell? ⟨gx, 1, none⟩ = some (.slice (some ⟨g, 0, none⟩) n n)) (d0 : w.cell? ⟨b, o, none⟩ = some (.string md)) (d1 : w.cell? ⟨b, o + 1, none⟩ = some (.slice (some az) n cz))
    (hx : ∀ k, k < n → RAt w g k (m k) (m (k + 1)) (vP k) (vT k) (P k) (T k))
    (hz : 0 < n → ∃ (b o : Nat) (vP vT : Nat → Value), az = ⟨b, o, none⟩ ∧ b < w.heap.size ∧ ∀ k, k < n → w.cell? ⟨b, o + k * 2, none⟩ = some (vP k) ∧ w.cell? ⟨b, o + k * 2 + 1, none⟩ = some (vT k) ∧ ZP w (vP k) (P k) ∧ ZT w (vT k) (T k)) :
    Calls Trym.prog 16 #[.pointer (some ⟨gx, 0, none⟩), .pointer (some ⟨b, o, none⟩)] w fun e w' => e = .returned (.bool true) ∧ ∃ n, w' = w.drewN n := by
  have k0 := eql40
  have k3 := eql43
  go_enter Trym.func16, Trym.ntmps16
  go_wp2_with fail
  go_quiet (fail)
  go_wp2_with fail
  go_quiet (fail)
  go_wp2_with fail
  go_quiet (fail)
  go_wp2_with fail
  go_loopw [5] (fun i wr => ∃ k : Nat, k ≤ n ∧ i = .int .i64 k ∧ Hid (∃ m, wr = w.drewN m)) (fun i _ => n - (intOf i).toNat)
  case atStart => exact ⟨0, Nat.zero_le _, rfl, ⟨_, by simp only [World.drewN_drewN]; rfl⟩⟩
  case round =>
  obtain ⟨k, hk, rfl, HW⟩ := hrel
  have hcell : ∀ a, wr.cell? a = w.cell? a := by obtain ⟨m, hm⟩ := HW.out; rw [hm]; intro _; rfl
  have x1 := (hcell _).trans c1
  have z1 := (hcell _).trans d1
  clear k0 k3
  by_cases hin : k < n
  · obtain ⟨b2, o2, uP, uT, rfl, hb2, hzk⟩ := hz (by omega)
    obtain ⟨u0, u1, zP, zT⟩ := hzk k hin
    obtain ⟨r0, r1, -, -, c, -, -, xP, xT⟩ := hx k hin
    obtain ⟨ax, az2, n2, cx, cz2, f, hvP, huP, hn2, hnil, hcells⟩ := pair_paths xP zP
    have R0 := (hcell _).trans r0
    have R1 := (hcell _).trans r1
    have U0 := (hcell _).trans u0
    have U1 := (hcell _).trans u1
    obtain ⟨yx, hyx⟩ := xT.form
    obtain ⟨yz, hyz⟩ := zT.form
    rw [hvP] at R0
    rw [huP] at U0
    rw [hyx] at R1 xT
    rw [hyz] at U1 zT
    have HT := hide (And.intro xT zT)
    have HC := hide hcells
    have HF : Hid (wr.cell? ⟨g, k * 2 + 1, none⟩ = some (.pointer yx) ∧ wr.cell? ⟨b2, o2 + k * 2 + 1, none⟩ = some (.pointer yz) ∧ wr.cell? ⟨gx, 1, none⟩ = some (.slice (some ⟨g, 0, none⟩) n n) ∧ wr.cell? ⟨b, o + 1, none⟩ = some (.slice (some ⟨b2, o2, none⟩) n cz)) := ⟨R1, U1, x1, z1⟩
    have HCE := hide hcell
    have k6 := eql46
    unfold maxLen at hn2 hn
    clear hx hz hzk u0 u1 r0 r1 xP zP xT zT hvP huP hcells hcell R1 U1 c0 d0
    go_wp2_with fail
    clear k6 R0 U0 x1 z1
    go_loopw [8] (fun i wr' => ∃ j : Nat, j ≤ n2 ∧ i = .int .i64 j ∧ Hid (∃ m, wr' = w.drewN m)) (fun i _ => n2 - (intOf i).toNat)
    case atStart => exact ⟨0, Nat.zero_le _, rfl, HW⟩
    case round =>
    rename_i wr1 _ _ _
    obtain ⟨j, hj, rfl, HW2⟩ := hrel
    have hcell2 : ∀ a, wr.cell? a = w.cell? a := by obtain ⟨m, hm⟩ := HW2.out; rw [hm]; intro _; rfl
    by_cases hjn : j < n2
    · obtain ⟨gp, bz, oz, rfl, rfl, hcj⟩ := HC.out (by omega)
      have s0 := (hcell2 _).trans (hcj j hjn).1
      have s1 := (hcell2 _).trans (hcj j hjn).2
      clear hcj hcell2
      generalize f j = sj at s0 s1
      go_wp2_with fail
      go_quiet (fail)
      go_wp2
      go_roundw
      case rel => exact ⟨j + 1, by omega, by go_num, drew_next HW2.out _⟩
      case measure => simp [intOf]; omega
    obtain rfl : j = n2 := by omega
    have R1 := (hcell2 _).trans ((HCE.out _).symm.trans HF.out.1)
    have U1 := (hcell2 _).trans ((HCE.out _).symm.trans HF.out.2.1)
    have x1 := (hcell2 _).trans ((HCE.out _).symm.trans HF.out.2.2.1)
    have z1 := (hcell2 _).trans ((HCE.out _).symm.trans HF.out.2.2.2)
    have HXT := hide (fun nn => HT.out.1.keep ((drew_agree HW2.out c (m (k + 1))).trans (Agree.drewN _ _ wr nn)))
    have HZT := hide (fun nn => HT.out.2.later ((drew_below HW2.out w.heap.size).trans (drew_below (v := wr.drewN nn) ⟨nn, rfl⟩ w.heap.size)))
    clear HT HF HCE HC hcell2 HW hyx hyz hnil
    go_wp2_with fail
    go_quiet (first | (go_at_call 23; exact Calls.quiet_of (sameSel_calls _ _ (T k) _ _ _ (HXT.out _) (HZT.out _))))
    go_wp2
    go_roundw
    case rel => exact ⟨k + 1, by omega, by go_num, drew_next HW2.out _⟩
    case measure => simp [intOf]; omega
  obtain rfl : k = n := by omega
  go_wp2_with fail
  go_ret
  exact ⟨rfl, HW.out⟩

/-- ZZSAMEDRIFT: of what is the same it says so. -/
theorem same_calls (gx a c b o : Nat) (md : ByteArray) (ig : Igs) (w : World) (x : DIn w a c gx md ig) (z : ZD w b o md ig) :
    Calls Trym.prog 16 #[.pointer (some ⟨gx, 0, none⟩), .pointer (some ⟨b, o, none⟩)] w fun e w' => e = .returned (.bool true) ∧ ∃ n, w' = w.drewN n := by
  obtain ⟨-, c0, -, -, ⟨v, hv, hi⟩, -⟩ := x
  obtain ⟨-, -, d0, u, hu, hz⟩ := z
  cases ig with
  | none =>
    obtain rfl : v = .slice none 0 0 := hi
    obtain rfl : u = .slice none 0 0 := hz
    exact same_none gx b o md w c0 hv d0 hu
  | some p =>
    obtain ⟨n, P, T⟩ := p
    obtain ⟨g, m, vP, vT, rfl, -, hn, -, -, hk⟩ := hi
    obtain ⟨az, cz, rfl, -, hq⟩ := hz
    exact same_some gx b o g n cz md az P T m vP vT w hn c0 hv d0 hu hk hq
end Go.Proofs.Qxb6608981aMods
