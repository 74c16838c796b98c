/-
  upperASCII (31), pfb1Lower (22), pfb1IsUpper (16), markPair (29).
-/
import Derived.Test.Qxb6619318aSet
import Derived.Test.Qxb6619318aBits
import Derived.WalkSmall
import Derived.WalkSpells
import Derived.Deep.LoopGhost
import Derived.Deep.RegionHeld3
namespace Go.Proofs.Qxb6619318a
open Go.RowKit

set_option maxHeartbeats 400000 in
theorem upper_any (c : Int) (w : World) (h0 : 0 ≤ c) (h1 : c ≤ 255) :
    Calls Try.prog 31 #[.int .u8 c] w fun e w' => e = .returned (.int .u8 (up c)) ∧ w' = w := by
  by_cases h2 : 97 ≤ c
  · by_cases h3 : c ≤ 122
    · have e : up c = c - 97 + 65 := by unfold up; rw [if_pos ⟨h2, h3⟩]
      rw [e]
      clear e
      go_enter Try.func31, Try.ntmps31
      go_wp2
      go_ret
      exact ⟨rfl, rfl⟩
    · have e : up c = c := by unfold up; rw [if_neg (by omega)]
      rw [e]
      clear e
      go_enter Try.func31, Try.ntmps31
      go_wp2
      go_ret
      exact ⟨rfl, rfl⟩
  · have e : up c = c := by unfold up; rw [if_neg (by omega)]
    rw [e]
    clear e
    have hd : decide (97 ≤ c) = false := by simpa using h2
    go_enter Try.func31, Try.ntmps31
    go_wp2
    go_ret
    exact ⟨rfl, rfl⟩

set_option maxHeartbeats 400000 in
theorem lower_any (c : Int) (w : World) (h0 : 0 ≤ c) (h1 : c ≤ 255) :
    Calls Try.prog 22 #[.int .u8 c] w fun e w' => e = .returned (.int .u8 (lo c)) ∧ w' = w := by
  by_cases h2 : 65 ≤ c
  · by_cases h3 : c ≤ 90
    · have e : lo c = c - 65 + 97 := by unfold lo; rw [if_pos ⟨h2, h3⟩]
      rw [e]
      clear e
      go_enter Try.func22, Try.ntmps22
      go_wp2
      go_ret
      exact ⟨rfl, rfl⟩
    · have e : lo c = c := by unfold lo; rw [if_neg (by omega)]
      rw [e]
      clear e
      go_enter Try.func22, Try.ntmps22
      go_wp2
      go_ret
      exact ⟨rfl, rfl⟩
  · have e : lo c = c := by unfold lo; rw [if_neg (by omega)]
    rw [e]
    clear e
    have hd : decide (65 ≤ c) = false := by simpa using h2
    go_enter Try.func22, Try.ntmps22
    go_wp2
    go_ret
    exact ⟨rfl, rfl⟩

def isUp (c : Int) : Bool := decide (65 ≤ c) && decide (c ≤ 90)
theorem isUp_true {c : Int} (h : isUp c = true) : 65 ≤ c ∧ c ≤ 90 := by unfold isUp at h; simpa using h
theorem isUp_false {c : Int} (h : isUp c = false) : ¬ (65 ≤ c ∧ c ≤ 90) := by unfold isUp at h; simp at h; omega

set_option maxHeartbeats 400000 in
theorem isUpper_any (c : Int) (w : World) (h0 : 0 ≤ c) (h1 : c ≤ 255) :
    Calls Try.prog 16 #[.int .u8 c] w fun e w' => e = .returned (.bool (isUp c)) ∧ w' = w := by
  by_cases h2 : 65 ≤ c
  · by_cases h3 : c ≤ 90
    · have e : isUp c = true := by unfold isUp; simp; omega
      rw [e]
      clear e
      go_enter Try.func16, Try.ntmps16
      go_wp2
      go_ret
      exact ⟨by simp, rfl⟩
    · have e : isUp c = false := by unfold isUp; simp; omega
      rw [e]
      clear e
      go_enter Try.func16, Try.ntmps16
      go_wp2
      go_ret
      exact ⟨by simp, rfl⟩
  · have e : isUp c = false := by unfold isUp; simp; omega
    rw [e]
    clear e
    have hd : decide (65 ≤ c) = false := by simpa using h2
    go_enter Try.func16, Try.ntmps16
    go_wp2
    go_ret
    exact ⟨rfl, rfl⟩

/-- The pair set in block g. -/
structure PS (w : World) (g : Nat) (s : List Int × Int) : Prop where
  tb : Tb s.1
  cell : ∀ j, j < 1024 → w.cell? ⟨g, 6 + j, none⟩ = some (.int .u64 (s.1.getD j 0))
  num : w.cell? ⟨g, 1030, none⟩ = some (.int .i64 s.2)
  free : ∀ j, w.frozen? ⟨g, j, none⟩ = false
  bd : -9223372036854775808 ≤ s.2 ∧ s.2 ≤ 9223372036854775807

theorem or_u16i (f l : Int) (f0 : 0 ≤ f) (f1 : f ≤ 255) (l0 : 0 ≤ l) (l1 : l ≤ 255) : bits .or .u16 f (l * 256) = (pp f l : Int) := by
  obtain ⟨x, rfl⟩ := Int.eq_ofNat_of_zero_le f0
  obtain ⟨y, rfl⟩ := Int.eq_ofNat_of_zero_le l0
  rw [or_u16 x y (by omega) (by omega)]
  unfold pp; omega

/-- The first, then the second. -/
def two (a b : Int) (m : Nat) : Int := if m = 0 then a else b

theorem next_two (q n : Nat) (V : Prop) (P : Nat → Nat) : ((V ∨ ∃ b, b < n ∧ q = P b) ∨ q = P n) ↔ (V ∨ ∃ b, b < n + 1 ∧ q = P b) := by
  constructor
  · rintro ((h | ⟨b, hb, h⟩) | h)
    · exact .inl h
    · exact .inr ⟨b, by omega, h⟩
    · exact .inr ⟨n, by omega, h⟩
  · rintro (h | ⟨b, hb, h⟩)
    · exact .inl (.inl h)
    · by_cases e : b = n
      · subst e; exact .inr h
      · exact .inl (.inr ⟨b, by omega, h⟩)

theorem next_out (q m : Nat) (f uf l ul : Int) : ((∃ a, a < m ∧ (q = pp (two f uf a) l ∨ q = pp (two f uf a) ul)) ∨ ∃ b, b < 2 ∧ q = pp (two f uf m) (two l ul b)) ↔ ∃ a, a < m + 1 ∧ (q = pp (two f uf a) l ∨ q = pp (two f uf a) ul) := by
  constructor
  · rintro (⟨a, ha, h⟩ | ⟨b, hb, h⟩)
    · exact ⟨a, by omega, h⟩
    · refine ⟨m, by omega, ?_⟩
      rcases (show b = 0 ∨ b = 1 from by omega) with rfl | rfl
      · exact .inl h
      · exact .inr h
  · rintro ⟨a, ha, h⟩
    by_cases e : a = m
    · subst e
      rcases h with h | h
      · exact .inr ⟨0, by omega, h⟩
      · exact .inr ⟨1, by omega, h⟩
    · exact .inl ⟨a, by omega, h⟩
theorem all_four (q : Nat) (f l : Int) : (∃ a, a < 2 ∧ (q = pp (two f (up f) a) l ∨ q = pp (two f (up f) a) (up l))) ↔ Vr f l q := by
  unfold Vr
  constructor
  · rintro ⟨a, ha, h⟩
    rcases (show a = 0 ∨ a = 1 from by omega) with rfl | rfl
    · rcases h with h | h
      · exact .inl h
      · exact .inr (.inl h)
    · rcases h with h | h
      · exact .inr (.inr (.inl h))
      · exact .inr (.inr (.inr h))
  · rintro (h | h | h | h)
    · exact ⟨0, by omega, .inl h⟩
    · exact ⟨0, by omega, .inr h⟩
    · exact ⟨1, by omega, .inl h⟩
    · exact ⟨1, by omega, .inr h⟩

theorem mark_grown (w : World) (g a b : Nat) (x y : Value) : w.grownBy (((w.setCell ⟨g, a, none⟩ x).setCell ⟨g, b, none⟩ y).drew) (some g) :=
  ⟨rfl, rfl, rfl, by simp, fun k _ hk => by
    show ((w.setCell ⟨g, a, none⟩ x).setCell ⟨g, b, none⟩ y).heap[k]? = _
    rw [Below.heap_setCell _ _ _ _ (fun e => hk (by rw [e])), Below.heap_setCell _ _ _ _ (fun e => hk (by rw [e]))]⟩

theorem PS.mark {w : World} {g p : Nat} {s : List Int × Int} (h : PS w g s) (hp : p < 65536) :
    PS (((w.setCell ⟨g, 6 + p / 64, none⟩ (.int .u64 (orB (s.1.getD (p / 64) 0) (p % 64)))).setCell ⟨g, 1030, none⟩ (.int .i64 (wrap64 (s.2 + 1)))).drew) g (setb s.1 p, wrap64 (s.2 + 1)) := by
  have hK : p / 64 < 1024 := by omega
  have c0 := h.cell _ hK
  have c1 : (w.setCell ⟨g, 6 + p / 64, none⟩ (.int .u64 (orB (s.1.getD (p / 64) 0) (p % 64)))).cell? ⟨g, 1030, none⟩ = some (.int .i64 s.2) := by
    rw [World.cell?_setCell_other _ _ _ _ (by intro e; have := congrArg Addr.off e; simp at this; omega)]; exact h.num
  refine ⟨setb_tb h.tb hp, fun j hj => ?_, ?_, fun j => ?_, ?_⟩
  · show (((w.setCell ⟨g, 6 + p / 64, none⟩ _).setCell ⟨g, 1030, none⟩ _)).cell? ⟨g, 6 + j, none⟩ = _
    rw [World.cell?_setCell_other _ _ _ _ (by intro e; have := congrArg Addr.off e; simp at this; omega)]
    have e : (setb s.1 p).getD j 0 = if p / 64 = j then orB (s.1.getD (p / 64) 0) (p % 64) else s.1.getD j 0 := by
      unfold setb
      simp only [List.getD, List.getElem?_set]
      have : p / 64 < s.1.length := by rw [h.tb.1]; omega
      split <;> simp_all
    rw [e]
    by_cases hj2 : p / 64 = j
    · subst hj2
      rw [if_pos rfl, World.cell?_setCell_same _ _ _ c0]
    · rw [if_neg hj2, World.cell?_setCell_other _ _ _ _ (by intro e; have := congrArg Addr.off e; simp at this; omega)]
      exact h.cell j hj
  · show (((w.setCell ⟨g, 6 + p / 64, none⟩ _).setCell ⟨g, 1030, none⟩ _)).cell? ⟨g, 1030, none⟩ = _
    rw [World.cell?_setCell_same _ _ _ c1]
  · show (((w.setCell ⟨g, 6 + p / 64, none⟩ _).setCell ⟨g, 1030, none⟩ _)).frozen? ⟨g, j, none⟩ = _
    rw [World.frozen?_setCell, World.frozen?_setCell]
    exact h.free j
  · show -9223372036854775808 ≤ wrap64 (s.2 + 1) ∧ wrap64 (s.2 + 1) ≤ 9223372036854775807
    unfold wrap64; omega

set_option maxHeartbeats 1000000 in
theorem mark_any (g : Nat) (f l : Int) (s : List Int × Int) (w : World) (f0 : 0 ≤ f) (f1 : f ≤ 255) (l0 : 0 ≤ l) (l1 : l ≤ 255) (h : PS w g s) :
    Calls Try.prog 29 #[.pointer (some ⟨g, 0, none⟩), .int .u8 f, .int .u8 l] w fun e w' => e = .returned (.tuple #[]) ∧ (∃ s', PS w' g s' ∧ Mk s s' (Vr f l)) ∧ w.grownBy w' (some g) := by
  obtain ⟨uf, huf⟩ : ∃ uf, uf = up f := ⟨_, rfl⟩
  obtain ⟨ul, hul⟩ : ∃ ul, ul = up l := ⟨_, rfl⟩
  have bu := up_bd f f0 f1
  have bl := up_bd l l0 l1
  have HU : Hid (uf = up f) := huf
  have HL : Hid (ul = up l) := hul
  rw [← huf] at bu
  rw [← hul] at bl
  obtain ⟨u0, u1⟩ := bu
  obtain ⟨v0, v1⟩ := bl
  have HP : Hid (PS w g s) := h
  clear huf hul h
  go_enter Try.func29, Try.ntmps29
  go_wp2_with (go_at_call 31; refine (upper_any f _ f0 f1).mono ?_; rintro e w' ⟨rfl, hw'⟩; obtain rfl := hw'.symm; rw [← HU.out])
  go_loopg [15] 2 (fun k i wr => ∃ (m : Nat) (s' : List Int × Int), m ≤ 2 ∧ k = 2 - m ∧ i = .int .i64 m ∧ PS wr g s' ∧ Mk s s' (fun q => ∃ a, a < m ∧ (q = pp (two f uf a) l ∨ q = pp (two f uf a) ul)) ∧ w.grownBy wr (some g))
  case atStart => exact ⟨0, s, by omega, rfl, rfl, HP.out, (Mk.refl HP.out.tb (IntWalk.wrap64_in _ HP.out.bd)).congr (fun q => by simp), World.grownBy.refl _ _⟩
  case round =>
    obtain ⟨m, s1, hm, hk, rfl, hps, hmk, hgr⟩ := hrel
    have HPS : Hid (PS wr g s1) := hps
    have HMK : Hid (Mk s s1 (fun q => ∃ a, a < m ∧ (q = pp (two f uf a) l ∨ q = pp (two f uf a) ul))) := hmk
    have HGR : Hid (w.grownBy wr (some g)) := hgr
    have HK : Hid (gk = 2 - m) := hk
    clear hps hmk hgr hk
    by_cases hlt : m < 2
    · obtain ⟨fi, hfi⟩ : ∃ fi, fi = two f uf m := ⟨_, rfl⟩
      have HF : Hid (fi = two f uf m) := hfi
      have bf : 0 ≤ fi ∧ fi ≤ 255 := by rw [hfi]; unfold two; split <;> omega
      obtain ⟨bf0, bf1⟩ := bf
      have hidx : ∀ W : World, (Instr.index 55 (.agg #[.int .u8 f, .int .u8 uf]) (.int .i64 m)).run Try.prog W = .ok (.int .u8 fi) W := by
        intro W
        rw [hfi]
        rcases (show m = 0 ∨ m = 1 from by omega) with rfl | rfl
        · kernel_rfl
        · kernel_rfl
      clear hfi
      obtain ⟨wo, rfl⟩ : ∃ wo : World, wo = wr := ⟨_, rfl⟩
      obtain ⟨go, rfl⟩ : ∃ go : Nat, go = gk := ⟨_, rfl⟩
      go_wp2_with (go_at_call 31; refine (upper_any l _ l0 l1).mono ?_; rintro e w' ⟨rfl, hw'⟩; obtain rfl := hw'.symm; rw [← HL.out])
      go_loopg [22] 2 (fun k i wr => ∃ (n : Nat) (s' : List Int × Int), n ≤ 2 ∧ k = 2 - n ∧ i = .int .i64 n ∧ PS wr g s' ∧ Mk s s' (fun q => (∃ a, a < m ∧ (q = pp (two f uf a) l ∨ q = pp (two f uf a) ul)) ∨ ∃ b, b < n ∧ q = pp fi (two l ul b)) ∧ w.grownBy wr (some g))
      case atStart => exact ⟨0, s1, by omega, rfl, rfl, HPS.out, HMK.out.congr (fun q => by simp), HGR.out⟩
      case round =>
        obtain ⟨n, s2, hn, hk, rfl, hps, hmk, hgr⟩ := hrel
        have KPS : Hid (PS wr g s2) := hps
        have KMK : Hid (Mk s s2 (fun q => (∃ a, a < m ∧ (q = pp (two f uf a) l ∨ q = pp (two f uf a) ul)) ∨ ∃ b, b < n ∧ q = pp fi (two l ul b))) := hmk
        have KGR : Hid (w.grownBy wr (some g)) := hgr
        have KK : Hid (gk = 2 - n) := hk
        clear hps hmk hgr hk
        by_cases hlt2 : n < 2
        · obtain ⟨lj, hlj⟩ : ∃ lj, lj = two l ul n := ⟨_, rfl⟩
          have HJ : Hid (lj = two l ul n) := hlj
          have bj : 0 ≤ lj ∧ lj ≤ 255 := by rw [hlj]; unfold two; split <;> omega
          obtain ⟨bj0, bj1⟩ := bj
          have hidy : ∀ W : World, (Instr.index 55 (.agg #[.int .u8 l, .int .u8 ul]) (.int .i64 n)).run Try.prog W = .ok (.int .u8 lj) W := by
            intro W
            rw [hlj]
            rcases (show n = 0 ∨ n = 1 from by omega) with rfl | rfl
            · kernel_rfl
            · kernel_rfl
          clear hlj
          obtain ⟨p, hp⟩ : ∃ p, p = pp fi lj := ⟨_, rfl⟩
          have e8 : bits .or .u16 fi (lj * 256) = (p : Int) := by rw [hp]; exact or_u16i fi lj bf0 bf1 bj0 bj1
          have hp1 : p < 65536 := by rw [hp]; exact pp_lt fi lj bf0 bf1 bj0 bj1
          have HPP : Hid (p = pp fi lj) := hp
          clear hp
          obtain ⟨z, hz⟩ : ∃ z, z = s2.1.getD (p / 64) 0 := ⟨_, rfl⟩
          have zc : wr.cell? ⟨g, 6 + p / 64, none⟩ = some (.int .u64 z) := by rw [hz]; exact KPS.out.cell _ (by omega)
          have zf : wr.frozen? ⟨g, 6 + p / 64, none⟩ = false := KPS.out.free _
          have zb : 0 ≤ z ∧ z ≤ 18446744073709551615 := by rw [hz]; exact KPS.out.tb.2 _
          obtain ⟨zb0, zb1⟩ := zb
          have HZ : Hid (z = s2.1.getD (p / 64) 0) := hz
          have HB : Hid ((bits BinOp.and IntKind.u64 z (IntKind.u64.wrap (2 ^ (p % 64))) != 0) = tb s2.1 p) := by
            show _ = _
            rw [bit_and z _ (by omega) zb0 zb1]; unfold tb; rw [hz]
          clear hz
          have HNX := show Hid _ from KMK.out.st hp1
          by_cases hb : tb s2.1 p = true
          · have ht : (bits BinOp.and IntKind.u64 z (IntKind.u64.wrap (2 ^ (p % 64))) == 0) = false := by
              have := HB.out; rw [hb] at this; simpa using this
            have HS : Hid (st s2 p = s2) := by show _ = _; unfold st; rw [if_pos hb]
            clear hb
            go_wp2
            go_roundg (2 - (n + 1))
            case measure => rw [KK.out]; omega
            case rel =>
              refine ⟨n + 1, s2, by omega, rfl, by go_num, KPS.out, ?_, KGR.out⟩
              have h := HNX.out
              rw [HS.out] at h
              have e := HPP.out
              rw [HJ.out] at e
              refine h.congr (fun q => ?_)
              rw [e]
              exact next_two q n _ _
          · have ht : (bits BinOp.and IntKind.u64 z (IntKind.u64.wrap (2 ^ (p % 64))) == 0) = true := by
              have := HB.out; rw [show tb s2.1 p = false from by simpa using hb] at this; simpa using this
            have HS : Hid (st s2 p = (setb s2.1 p, wrap64 (s2.2 + 1))) := by show _ = _; unfold st; rw [if_neg hb]
            have e9 : bits BinOp.or IntKind.u64 z (IntKind.u64.wrap (2 ^ (p % 64))) = orB z (p % 64) := or_word z _ (by omega) zb0 zb1
            have c30 : wr.cell? ⟨g, 1030, none⟩ = some (.int .i64 s2.2) := KPS.out.num
            have f30 : wr.frozen? ⟨g, 1030, none⟩ = false := KPS.out.free _
            obtain ⟨N, hN⟩ : ∃ N, N = s2.2 := ⟨_, rfl⟩
            rw [← hN] at c30
            have HN : Hid (N = s2.2) := hN
            clear hN hb
            go_wp2
            go_region
            go_wp2
            go_roundg (2 - (n + 1))
            case measure => rw [KK.out]; omega
            case rel =>
              refine ⟨n + 1, st s2 p, by omega, rfl, by go_num, ?_, ?_, KGR.out.trans (mark_grown _ _ _ _ _ _)⟩
              · rw [HS.out, HN.out, HZ.out]; exact KPS.out.mark hp1
              · have h := HNX.out
                have e := HPP.out
                rw [HJ.out] at e
                refine h.congr (fun q => ?_)
                rw [e]
                exact next_two q n _ _
        · have hn2 : n = 2 := by omega
          subst hn2
          go_wp2
          go_roundg (2 - (m + 1))
          case measure => rw [HK.out]; omega
          case rel =>
            refine ⟨m + 1, s2, by omega, rfl, by go_num, KPS.out, KMK.out.congr (fun q => ?_), KGR.out⟩
            have e := HF.out
            rw [e]
            exact next_out q m f uf l ul
    · have hm2 : m = 2 := by omega
      subst hm2
      go_wp2
      go_end0
      refine ⟨rfl, ⟨s1, HPS.out, HMK.out.congr (fun q => ?_)⟩, HGR.out⟩
      rw [HU.out, HL.out]
      exact all_four q f l
end Go.Proofs.Qxb6619318a
