import Derived.Test.Qxb6628366aW1
namespace Go.Proofs.Qxb6628366a
open Go.RowKit

/-- The greatest k below n with p. -/
def lastVis (p : Nat → Bool) : Nat → Option Nat
  | 0 => none
  | n + 1 => if p n then some n else lastVis p n
theorem lastVis_lt {p : Nat → Bool} {n j : Nat} (h : lastVis p n = some j) : j < n := by
  induction n with
  | zero => simp [lastVis] at h
  | succ n ih =>
    unfold lastVis at h
    split at h
    · cases h; omega
    · have := ih h; omega
theorem lastVis_p {p : Nat → Bool} {n j : Nat} (h : lastVis p n = some j) : p j = true := by
  induction n with
  | zero => simp [lastVis] at h
  | succ n ih =>
    unfold lastVis at h
    split at h
    · cases h; assumption
    · exact ih h
def enc (o : Option Nat) : Int := match o with | none => -2 | some k => k

/-- Does the reader (an own one, or none) see a committed version of this number? -/
def vis (rd n snap c : Int) : Bool := !own rd n || decide (c ≤ snap)

/-- Is the latest version, being open, seen by the reader? -/
def openSeen (h : LVer) (S : Nat → Bool) (n rd snap : Int) : Bool := (own rd n && h.writer == rd) || (snap == 18446744073709551615 && S h.writer.toNat)

/-- What the model of the law answers. -/
def model (h : LVer) (on : Nat) (V : Nat → LVer) (S : Nat → Bool) (n rd snap : Int) : Int :=
  if own h.writer n then (if openSeen h S n rd snap then -1 else enc (lastVis (fun k => vis rd n snap (V k).com) on))
  else if vis rd n snap h.com then -1 else enc (lastVis (fun k => vis rd n snap (V k).com) on)

theorem enc_none_or (o : Option Nat) : (o = none ∧ (enc o == -2) = true) ∨ (∃ j, o = some j ∧ (enc o == -2) = false) := by
  cases o with
  | none => exact .inl ⟨rfl, rfl⟩
  | some j => exact .inr ⟨j, rfl, by simp [enc]⟩

set_option maxRecDepth 100000 in
set_option maxHeartbeats 4000000 in
theorem seenModel (h : LVer) (oa : Option Addr) (on oc : Nat) (V : Nat → LVer) (sa : Option Addr) (sn sc : Nat) (S : Nat → Bool) (rd snap : Int) (w : World)
    (ho : VersIn w oa on V) (hs : BoolsIn w sa sn S) (bo : on ≤ maxLen) (sh : Shape h on V sn) :
    Calls Try.prog 11 #[.agg #[.slice h.ra h.rn h.rc, .bool h.ghost, .int .i64 h.writer, .int .u64 h.com], .slice oa on oc, .slice sa sn sc, .int .i64 rd, .int .u64 snap] w (Ret1 w (.int .i64 (model h on V S sn rd snap))) := by
  unfold maxLen at bo
  have HO : Hid (VersIn w oa on V) := ho
  have HS : Hid (BoolsIn w sa sn S) := hs
  have SH : Hid (Shape h on V sn) := sh
  clear ho hs sh
  cases g1 : own rd sn
  · cases g2 : own h.writer sn
    · have HM : Hid (model h on V S sn rd snap = -1) := by simp [Hid, model, g2, vis, g1]
      go_enter Try.func11, Try.ntmps11
      go_wp2_with (go_at_call 9; refine (isOwner _ _ _).mono ?_; rintro e w' ⟨rfl, rfl⟩)
      go_loop [14, 15, 16, 17] (fun b q i _ => ∃ k : Nat, k ≤ on ∧ i = .int .i64 k ∧ b = .int .i64 (-1) ∧ q = .int .u64 h.com) (fun _ _ i _ => on - (intOf i).toNat)
      case atStart => exact ⟨0, Nat.zero_le _, rfl, rfl, rfl⟩
      case round =>
        obtain ⟨k, hk, rfl, rfl, rfl⟩ := hrel
        by_cases hlt : k < on
        · have hidx := fun w => run_index_at (P := Try.prog) (c := oc) Try.underlying26 size25 HO.out.pl hlt w
          have hc3 := HO.out.c3 k hlt
          have hl := HO.out.lt k hlt
          have ht := SH.out.top g2 k hlt
          go_wp2
          go_round
          case rel => exact ⟨k + 1, by omega, by go_num, rfl, rfl⟩
          case measure => simp [intOf]; omega
        · go_wp2
          go_ret
          exact ⟨by rw [HM.out]; rfl, below1 _ _⟩
    · have hb : 0 ≤ h.writer ∧ h.writer < sn := by simpa [own] using g2
      obtain ⟨hb0, hb1⟩ := hb
      have hn1 : (h.writer == -1) = false := by simp; omega
      have hidxs := fun w => run_index_int (P := Try.prog) (c := sc) Try.underlying27 size4 HS.out.pl hb0 hb1 w
      have hcs := HS.out.c0 h.writer.toNat (by omega)
      have hls := HS.out.lt h.writer.toNat (by omega)
      cases g3 : snap == 18446744073709551615
      · have HM : Hid (model h on V S sn rd snap = enc (lastVis (fun k => vis rd sn snap (V k).com) on)) := by simp [Hid, model, g2, openSeen, g1, g3]
        go_enter Try.func11, Try.ntmps11
        go_wp2_with (go_at_call 9; refine (isOwner _ _ _).mono ?_; rintro e w' ⟨rfl, rfl⟩)
        go_loop [14, 15, 16, 17] (fun b u i _ => ∃ (k : Nat) (z : Int), k ≤ on ∧ i = .int .i64 k ∧ b = .int .i64 z ∧ z = enc (lastVis (fun k => vis rd sn snap (V k).com) k) ∧ ∃ q, u = .int .u64 q ∧ ∀ j, lastVis (fun k => vis rd sn snap (V k).com) k = some j → q = (V j).com) (fun _ _ i _ => on - (intOf i).toNat)
        case atStart => exact ⟨0, -2, Nat.zero_le _, rfl, rfl, rfl, 0, rfl, fun j hj => by simp [lastVis] at hj⟩
        case round =>
          obtain ⟨k, z, hk, rfl, rfl, hz, q, rfl, hq⟩ := hrel
          have HZ : Hid (z = enc (lastVis (fun k => vis rd sn snap (V k).com) k)) := hz
          have HQ : Hid (∀ j, lastVis (fun k => vis rd sn snap (V k).com) k = some j → q = (V j).com) := hq
          clear hz hq
          by_cases hlt : k < on
          · have hidx := fun w => run_index_at (P := Try.prog) (c := oc) Try.underlying26 size25 HO.out.pl hlt w
            have hc3 := HO.out.c3 k hlt
            have hl := HO.out.lt k hlt
            · have HP : Hid (vis rd sn snap (V k).com = true) := by simp [Hid, vis, g1]
              rcases enc_none_or (lastVis (fun k => vis rd sn snap (V k).com) k) with ⟨e1, e2⟩ | ⟨j, e1, e2⟩
              · rw [← HZ.out] at e2
                clear e1
                go_wp2
                go_round
                case rel => exact ⟨k + 1, k, by omega, by go_num, rfl, by simp [lastVis, HP.out, enc], (V k).com, rfl, fun j hj => by simp [lastVis, HP.out] at hj; rw [hj]⟩
                case measure => simp [intOf]; omega
              · rw [← HZ.out] at e2
                have hqj := HQ.out j e1
                have hjk := SH.out.inc k hlt j (lastVis_lt e1)
                have hqk : q < (V k).com := by omega
                clear e1 hqj hjk
                go_wp2
                go_round
                case rel => exact ⟨k + 1, k, by omega, by go_num, rfl, by simp [lastVis, HP.out, enc], (V k).com, rfl, fun j hj => by simp [lastVis, HP.out] at hj; rw [hj]⟩
                case measure => simp [intOf]; omega
          · obtain rfl : k = on := by omega
            have HM2 : Hid (model h k V S sn rd snap = z) := by rw [HZ.out]; exact HM.out
            go_wp2
            go_ret
            exact ⟨by rw [HM2.out]; rfl, below1 _ _⟩
      · cases g4 : S h.writer.toNat
        · have HM : Hid (model h on V S sn rd snap = enc (lastVis (fun k => vis rd sn snap (V k).com) on)) := by simp [Hid, model, g2, openSeen, g1, g3, g4]
          go_enter Try.func11, Try.ntmps11
          go_wp2_with (go_at_call 9; refine (isOwner _ _ _).mono ?_; rintro e w' ⟨rfl, rfl⟩)
          go_loop [14, 15, 16, 17] (fun b u i _ => ∃ (k : Nat) (z : Int), k ≤ on ∧ i = .int .i64 k ∧ b = .int .i64 z ∧ z = enc (lastVis (fun k => vis rd sn snap (V k).com) k) ∧ ∃ q, u = .int .u64 q ∧ ∀ j, lastVis (fun k => vis rd sn snap (V k).com) k = some j → q = (V j).com) (fun _ _ i _ => on - (intOf i).toNat)
          case atStart => exact ⟨0, -2, Nat.zero_le _, rfl, rfl, rfl, 0, rfl, fun j hj => by simp [lastVis] at hj⟩
          case round =>
            obtain ⟨k, z, hk, rfl, rfl, hz, q, rfl, hq⟩ := hrel
            have HZ : Hid (z = enc (lastVis (fun k => vis rd sn snap (V k).com) k)) := hz
            have HQ : Hid (∀ j, lastVis (fun k => vis rd sn snap (V k).com) k = some j → q = (V j).com) := hq
            clear hz hq
            by_cases hlt : k < on
            · have hidx := fun w => run_index_at (P := Try.prog) (c := oc) Try.underlying26 size25 HO.out.pl hlt w
              have hc3 := HO.out.c3 k hlt
              have hl := HO.out.lt k hlt
              · have HP : Hid (vis rd sn snap (V k).com = true) := by simp [Hid, vis, g1]
                rcases enc_none_or (lastVis (fun k => vis rd sn snap (V k).com) k) with ⟨e1, e2⟩ | ⟨j, e1, e2⟩
                · rw [← HZ.out] at e2
                  clear e1
                  go_wp2
                  go_round
                  case rel => exact ⟨k + 1, k, by omega, by go_num, rfl, by simp [lastVis, HP.out, enc], (V k).com, rfl, fun j hj => by simp [lastVis, HP.out] at hj; rw [hj]⟩
                  case measure => simp [intOf]; omega
                · rw [← HZ.out] at e2
                  have hqj := HQ.out j e1
                  have hjk := SH.out.inc k hlt j (lastVis_lt e1)
                  have hqk : q < (V k).com := by omega
                  clear e1 hqj hjk
                  go_wp2
                  go_round
                  case rel => exact ⟨k + 1, k, by omega, by go_num, rfl, by simp [lastVis, HP.out, enc], (V k).com, rfl, fun j hj => by simp [lastVis, HP.out] at hj; rw [hj]⟩
                  case measure => simp [intOf]; omega
            · obtain rfl : k = on := by omega
              have HM2 : Hid (model h k V S sn rd snap = z) := by rw [HZ.out]; exact HM.out
              go_wp2
              go_ret
              exact ⟨by rw [HM2.out]; rfl, below1 _ _⟩
        · have HM : Hid (model h on V S sn rd snap = -1) := by simp [Hid, model, g2, openSeen, g1, g3, g4]
          go_enter Try.func11, Try.ntmps11
          go_wp2_with (go_at_call 9; refine (isOwner _ _ _).mono ?_; rintro e w' ⟨rfl, rfl⟩)
          go_ret
          exact ⟨by rw [HM.out]; rfl, below1 _ _⟩
  · have hr : 0 ≤ rd ∧ rd < sn := by simpa [own] using g1
    obtain ⟨hr0, hr1⟩ := hr
    cases g2 : own h.writer sn
    · by_cases g5 : h.com ≤ snap
      · have HM : Hid (model h on V S sn rd snap = -1) := by simp [Hid, model, g2, vis, g5]
        go_enter Try.func11, Try.ntmps11
        go_wp2_with (go_at_call 9; refine (isOwner _ _ _).mono ?_; rintro e w' ⟨rfl, rfl⟩)
        go_loop [14, 15, 16, 17] (fun b q i _ => ∃ k : Nat, k ≤ on ∧ i = .int .i64 k ∧ b = .int .i64 (-1) ∧ q = .int .u64 h.com) (fun _ _ i _ => on - (intOf i).toNat)
        case atStart => exact ⟨0, Nat.zero_le _, rfl, rfl, rfl⟩
        case round =>
          obtain ⟨k, hk, rfl, rfl, rfl⟩ := hrel
          by_cases hlt : k < on
          · have hidx := fun w => run_index_at (P := Try.prog) (c := oc) Try.underlying26 size25 HO.out.pl hlt w
            have hc3 := HO.out.c3 k hlt
            have hl := HO.out.lt k hlt
            have ht := SH.out.top g2 k hlt
            go_wp2
            go_round
            case rel => exact ⟨k + 1, by omega, by go_num, rfl, rfl⟩
            case measure => simp [intOf]; omega
          · go_wp2
            go_ret
            exact ⟨by rw [HM.out]; rfl, below1 _ _⟩
      · have HM : Hid (model h on V S sn rd snap = enc (lastVis (fun k => vis rd sn snap (V k).com) on)) := by simp [Hid, model, g2, vis, g5, g1]
        go_enter Try.func11, Try.ntmps11
        go_wp2_with (go_at_call 9; refine (isOwner _ _ _).mono ?_; rintro e w' ⟨rfl, rfl⟩)
        go_loop [14, 15, 16, 17] (fun b u i _ => ∃ (k : Nat) (z : Int), k ≤ on ∧ i = .int .i64 k ∧ b = .int .i64 z ∧ z = enc (lastVis (fun k => vis rd sn snap (V k).com) k) ∧ ∃ q, u = .int .u64 q ∧ ∀ j, lastVis (fun k => vis rd sn snap (V k).com) k = some j → q = (V j).com) (fun _ _ i _ => on - (intOf i).toNat)
        case atStart => exact ⟨0, -2, Nat.zero_le _, rfl, rfl, rfl, 0, rfl, fun j hj => by simp [lastVis] at hj⟩
        case round =>
          obtain ⟨k, z, hk, rfl, rfl, hz, q, rfl, hq⟩ := hrel
          have HZ : Hid (z = enc (lastVis (fun k => vis rd sn snap (V k).com) k)) := hz
          have HQ : Hid (∀ j, lastVis (fun k => vis rd sn snap (V k).com) k = some j → q = (V j).com) := hq
          clear hz hq
          by_cases hlt : k < on
          · have hidx := fun w => run_index_at (P := Try.prog) (c := oc) Try.underlying26 size25 HO.out.pl hlt w
            have hc3 := HO.out.c3 k hlt
            have hl := HO.out.lt k hlt
            cases hp : vis rd sn snap (V k).com
            · have hgt : snap < (V k).com := by simpa [vis, g1] using hp
              have HP : Hid (vis rd sn snap (V k).com = false) := hp
              clear hp
              go_wp2
              go_round
              case rel => exact ⟨k + 1, z, by omega, by go_num, rfl, by rw [HZ.out]; simp [lastVis, HP.out], q, rfl, fun j hj => HQ.out j (by simpa [lastVis, HP.out] using hj)⟩
              case measure => simp [intOf]; omega
            · have hle : (V k).com ≤ snap := by simpa [vis, g1] using hp
              have HP : Hid (vis rd sn snap (V k).com = true) := hp
              clear hp
              rcases enc_none_or (lastVis (fun k => vis rd sn snap (V k).com) k) with ⟨e1, e2⟩ | ⟨j, e1, e2⟩
              · rw [← HZ.out] at e2
                clear e1
                go_wp2
                go_round
                case rel => exact ⟨k + 1, k, by omega, by go_num, rfl, by simp [lastVis, HP.out, enc], (V k).com, rfl, fun j hj => by simp [lastVis, HP.out] at hj; rw [hj]⟩
                case measure => simp [intOf]; omega
              · rw [← HZ.out] at e2
                have hqj := HQ.out j e1
                have hjk := SH.out.inc k hlt j (lastVis_lt e1)
                have hqk : q < (V k).com := by omega
                clear e1 hqj hjk
                go_wp2
                go_round
                case rel => exact ⟨k + 1, k, by omega, by go_num, rfl, by simp [lastVis, HP.out, enc], (V k).com, rfl, fun j hj => by simp [lastVis, HP.out] at hj; rw [hj]⟩
                case measure => simp [intOf]; omega
          · obtain rfl : k = on := by omega
            have HM2 : Hid (model h k V S sn rd snap = z) := by rw [HZ.out]; exact HM.out
            go_wp2
            go_ret
            exact ⟨by rw [HM2.out]; rfl, below1 _ _⟩
    · have hb : 0 ≤ h.writer ∧ h.writer < sn := by simpa [own] using g2
      obtain ⟨hb0, hb1⟩ := hb
      have hidxs := fun w => run_index_int (P := Try.prog) (c := sc) Try.underlying27 size4 HS.out.pl hb0 hb1 w
      have hcs := HS.out.c0 h.writer.toNat (by omega)
      have hls := HS.out.lt h.writer.toNat (by omega)
      cases g6 : h.writer == rd
      · cases g3 : snap == 18446744073709551615
        · have HM : Hid (model h on V S sn rd snap = enc (lastVis (fun k => vis rd sn snap (V k).com) on)) := by simp [Hid, model, g2, openSeen, g6, g3]
          go_enter Try.func11, Try.ntmps11
          go_wp2_with (go_at_call 9; refine (isOwner _ _ _).mono ?_; rintro e w' ⟨rfl, rfl⟩)
          go_loop [14, 15, 16, 17] (fun b u i _ => ∃ (k : Nat) (z : Int), k ≤ on ∧ i = .int .i64 k ∧ b = .int .i64 z ∧ z = enc (lastVis (fun k => vis rd sn snap (V k).com) k) ∧ ∃ q, u = .int .u64 q ∧ ∀ j, lastVis (fun k => vis rd sn snap (V k).com) k = some j → q = (V j).com) (fun _ _ i _ => on - (intOf i).toNat)
          case atStart => exact ⟨0, -2, Nat.zero_le _, rfl, rfl, rfl, 0, rfl, fun j hj => by simp [lastVis] at hj⟩
          case round =>
            obtain ⟨k, z, hk, rfl, rfl, hz, q, rfl, hq⟩ := hrel
            have HZ : Hid (z = enc (lastVis (fun k => vis rd sn snap (V k).com) k)) := hz
            have HQ : Hid (∀ j, lastVis (fun k => vis rd sn snap (V k).com) k = some j → q = (V j).com) := hq
            clear hz hq
            by_cases hlt : k < on
            · have hidx := fun w => run_index_at (P := Try.prog) (c := oc) Try.underlying26 size25 HO.out.pl hlt w
              have hc3 := HO.out.c3 k hlt
              have hl := HO.out.lt k hlt
              cases hp : vis rd sn snap (V k).com
              · have hgt : snap < (V k).com := by simpa [vis, g1] using hp
                have HP : Hid (vis rd sn snap (V k).com = false) := hp
                clear hp
                go_wp2
                go_round
                case rel => exact ⟨k + 1, z, by omega, by go_num, rfl, by rw [HZ.out]; simp [lastVis, HP.out], q, rfl, fun j hj => HQ.out j (by simpa [lastVis, HP.out] using hj)⟩
                case measure => simp [intOf]; omega
              · have hle : (V k).com ≤ snap := by simpa [vis, g1] using hp
                have HP : Hid (vis rd sn snap (V k).com = true) := hp
                clear hp
                rcases enc_none_or (lastVis (fun k => vis rd sn snap (V k).com) k) with ⟨e1, e2⟩ | ⟨j, e1, e2⟩
                · rw [← HZ.out] at e2
                  clear e1
                  go_wp2
                  go_round
                  case rel => exact ⟨k + 1, k, by omega, by go_num, rfl, by simp [lastVis, HP.out, enc], (V k).com, rfl, fun j hj => by simp [lastVis, HP.out] at hj; rw [hj]⟩
                  case measure => simp [intOf]; omega
                · rw [← HZ.out] at e2
                  have hqj := HQ.out j e1
                  have hjk := SH.out.inc k hlt j (lastVis_lt e1)
                  have hqk : q < (V k).com := by omega
                  clear e1 hqj hjk
                  go_wp2
                  go_round
                  case rel => exact ⟨k + 1, k, by omega, by go_num, rfl, by simp [lastVis, HP.out, enc], (V k).com, rfl, fun j hj => by simp [lastVis, HP.out] at hj; rw [hj]⟩
                  case measure => simp [intOf]; omega
            · obtain rfl : k = on := by omega
              have HM2 : Hid (model h k V S sn rd snap = z) := by rw [HZ.out]; exact HM.out
              go_wp2
              go_ret
              exact ⟨by rw [HM2.out]; rfl, below1 _ _⟩
        · cases g4 : S h.writer.toNat
          · have HM : Hid (model h on V S sn rd snap = enc (lastVis (fun k => vis rd sn snap (V k).com) on)) := by simp [Hid, model, g2, openSeen, g6, g3, g4]
            go_enter Try.func11, Try.ntmps11
            go_wp2_with (go_at_call 9; refine (isOwner _ _ _).mono ?_; rintro e w' ⟨rfl, rfl⟩)
            go_loop [14, 15, 16, 17] (fun b u i _ => ∃ (k : Nat) (z : Int), k ≤ on ∧ i = .int .i64 k ∧ b = .int .i64 z ∧ z = enc (lastVis (fun k => vis rd sn snap (V k).com) k) ∧ ∃ q, u = .int .u64 q ∧ ∀ j, lastVis (fun k => vis rd sn snap (V k).com) k = some j → q = (V j).com) (fun _ _ i _ => on - (intOf i).toNat)
            case atStart => exact ⟨0, -2, Nat.zero_le _, rfl, rfl, rfl, 0, rfl, fun j hj => by simp [lastVis] at hj⟩
            case round =>
              obtain ⟨k, z, hk, rfl, rfl, hz, q, rfl, hq⟩ := hrel
              have HZ : Hid (z = enc (lastVis (fun k => vis rd sn snap (V k).com) k)) := hz
              have HQ : Hid (∀ j, lastVis (fun k => vis rd sn snap (V k).com) k = some j → q = (V j).com) := hq
              clear hz hq
              by_cases hlt : k < on
              · have hidx := fun w => run_index_at (P := Try.prog) (c := oc) Try.underlying26 size25 HO.out.pl hlt w
                have hc3 := HO.out.c3 k hlt
                have hl := HO.out.lt k hlt
                cases hp : vis rd sn snap (V k).com
                · have hgt : snap < (V k).com := by simpa [vis, g1] using hp
                  have HP : Hid (vis rd sn snap (V k).com = false) := hp
                  clear hp
                  go_wp2
                  go_round
                  case rel => exact ⟨k + 1, z, by omega, by go_num, rfl, by rw [HZ.out]; simp [lastVis, HP.out], q, rfl, fun j hj => HQ.out j (by simpa [lastVis, HP.out] using hj)⟩
                  case measure => simp [intOf]; omega
                · have hle : (V k).com ≤ snap := by simpa [vis, g1] using hp
                  have HP : Hid (vis rd sn snap (V k).com = true) := hp
                  clear hp
                  rcases enc_none_or (lastVis (fun k => vis rd sn snap (V k).com) k) with ⟨e1, e2⟩ | ⟨j, e1, e2⟩
                  · rw [← HZ.out] at e2
                    clear e1
                    go_wp2
                    go_round
                    case rel => exact ⟨k + 1, k, by omega, by go_num, rfl, by simp [lastVis, HP.out, enc], (V k).com, rfl, fun j hj => by simp [lastVis, HP.out] at hj; rw [hj]⟩
                    case measure => simp [intOf]; omega
                  · rw [← HZ.out] at e2
                    have hqj := HQ.out j e1
                    have hjk := SH.out.inc k hlt j (lastVis_lt e1)
                    have hqk : q < (V k).com := by omega
                    clear e1 hqj hjk
                    go_wp2
                    go_round
                    case rel => exact ⟨k + 1, k, by omega, by go_num, rfl, by simp [lastVis, HP.out, enc], (V k).com, rfl, fun j hj => by simp [lastVis, HP.out] at hj; rw [hj]⟩
                    case measure => simp [intOf]; omega
              · obtain rfl : k = on := by omega
                have HM2 : Hid (model h k V S sn rd snap = z) := by rw [HZ.out]; exact HM.out
                go_wp2
                go_ret
                exact ⟨by rw [HM2.out]; rfl, below1 _ _⟩
          · have HM : Hid (model h on V S sn rd snap = -1) := by simp [Hid, model, g2, openSeen, g3, g4]
            go_enter Try.func11, Try.ntmps11
            go_wp2_with (go_at_call 9; refine (isOwner _ _ _).mono ?_; rintro e w' ⟨rfl, rfl⟩)
            go_ret
            exact ⟨by rw [HM.out]; rfl, below1 _ _⟩
      · have HM : Hid (model h on V S sn rd snap = -1) := by simp [Hid, model, g2, openSeen, g1, g6]
        go_enter Try.func11, Try.ntmps11
        go_wp2_with (go_at_call 9; refine (isOwner _ _ _).mono ?_; rintro e w' ⟨rfl, rfl⟩)
        go_ret
        exact ⟨by rw [HM.out]; rfl, below1 _ _⟩
end Go.Proofs.Qxb6628366a
