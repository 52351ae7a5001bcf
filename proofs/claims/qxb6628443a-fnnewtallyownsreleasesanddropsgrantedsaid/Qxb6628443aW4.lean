import Derived.Test.Qxb6628443aMem
namespace Go.Proofs.Qxb6628443a
open Go.RowKit

theorem bytes_ext {a b : ByteArray} (h : a.toList = b.toList) : a = b := by
  rw [ByteArray.toList_eq, ByteArray.toList_eq] at h
  cases a with | mk x => cases b with | mk y =>
    simp at h
    rw [h]
/-- Does a later place bear the same key? -/
def laterB {α : Type} [DecidableEq α] (ks : Nat → α) (n i : Nat) : Bool := (List.range n).any (fun j => decide (i < j) && decide (ks j = ks i))
theorem laterB_yes {α : Type} [DecidableEq α] {ks : Nat → α} {n i j : Nat} (h1 : i < j) (h2 : j < n) (h : ks j = ks i) : laterB ks n i = true := by
  rw [laterB, List.any_eq_true]
  exact ⟨j, List.mem_range.2 h2, by simp [h1, h]⟩
theorem laterB_no {α : Type} [DecidableEq α] {ks : Nat → α} {n i : Nat} (h : ∀ j, i < j → j < n → ks j ≠ ks i) : laterB ks n i = false := by
  cases g : laterB ks n i
  · rfl
  · rw [laterB, List.any_eq_true] at g
    obtain ⟨j, hj, e⟩ := g
    simp only [Bool.and_eq_true, decide_eq_true_eq] at e
    exact absurd e.2 (h j e.1 (List.mem_range.1 hj))

set_option maxHeartbeats 1000000 in
theorem laterLease (la : Option Addr) (ln lc : Nat) (L : Nat → LI) (i : Nat) (w : World) (hr : Recs w la 6 ln (fun i => (L i).c)) (hn : ln ≤ 1048576) (hi : i < ln) :
    Calls Try.prog 14 #[.slice la ln lc, .int .i64 (i : Int)] w (Ret1 w (.bool (laterB (fun j => (L j).name) ln i))) := by
  have HR := hide hr
  clear hr
  go_enter Try.func14, Try.ntmps14
  go_wp2
  go_loopw [5] (fun j wr => ∃ k : Nat, i < k ∧ k ≤ ln ∧ j = .int .i64 k ∧ Below w.heap.size w wr ∧ ∀ j, i < j → j < k → (L j).name ≠ (L i).name) (fun j _ => ln - (intOf j).toNat)
  case atStart => exact ⟨i + 1, by omega, by omega, by go_num, Below.refl _ _, fun j h1 h2 => by omega⟩
  case round =>
    obtain ⟨k, hik, hk, rfl, hb, hall⟩ := hrel
    have HB := hide hb
    have HA := hide hall
    clear hb hall
    by_cases hlt : k < ln
    · have hidx := fun w => run_index_at (P := Try.prog) (c := lc) Try.underlying22 size50 HR.out.pl hlt w
      have hidi := fun w => run_index_at (P := Try.prog) (c := lc) Try.underlying22 size50 HR.out.pl hi w
      have h1 : w.cell? ⟨blk la, ofs la + k * 6, none⟩ = some (.string (L k).name) := HR.out.c k hlt 0 (by omega)
      have h2 : w.cell? ⟨blk la, ofs la + i * 6, none⟩ = some (.string (L i).name) := HR.out.c i hi 0 (by omega)
      have h1 := cell_below HB.out h1 (HR.out.lt k hlt (by omega))
      have h2 := cell_below HB.out h2 (HR.out.lt k hlt (by omega))
      by_cases g : (L k).name = (L i).name
      · have g' : ((L k).name.toList == (L i).name.toList) = true := by rw [g]; simp
        have G := hide g
        clear g
        go_wp2
        go_quiet (fail)
        go_wp2
        go_ret
        exact ⟨by rw [laterB_yes hik hlt G.out]; rfl, drewN_below HB.out _⟩
      · have g' : ((L k).name.toList == (L i).name.toList) = false := by
          rw [beq_eq_false_iff_ne]; exact fun h => g (bytes_ext h)
        have G := hide g
        clear g
        go_wp2
        go_quiet (fail)
        go_wp2
        go_roundw
        case rel => exact ⟨k + 1, by omega, by omega, by go_num, drewN_below HB.out _, fun j h1 h2 => by
          by_cases e : j = k
          · rw [e]; exact G.out
          · exact HA.out j h1 (by omega)⟩
        case measure => simp [intOf]; omega
    · go_wp2
      go_ret
      exact ⟨by rw [laterB_no fun j h1 h2 => HA.out j h1 (by omega)]; rfl, HB.out⟩
set_option maxHeartbeats 1000000 in
theorem laterBudget (ba : Option Addr) (bn bc : Nat) (B : Nat → BI) (i : Nat) (w : World) (hr : Recs w ba 3 bn (fun i => (B i).c)) (hn : bn ≤ 1048576) (hi : i < bn) :
    Calls Try.prog 17 #[.slice ba bn bc, .int .i64 (i : Int)] w (Ret1 w (.bool (laterB (fun j => (B j).name) bn i))) := by
  have HR := hide hr
  clear hr
  go_enter Try.func17, Try.ntmps17
  go_wp2
  go_loopw [5] (fun j wr => ∃ k : Nat, i < k ∧ k ≤ bn ∧ j = .int .i64 k ∧ Below w.heap.size w wr ∧ ∀ j, i < j → j < k → (B j).name ≠ (B i).name) (fun j _ => bn - (intOf j).toNat)
  case atStart => exact ⟨i + 1, by omega, by omega, by go_num, Below.refl _ _, fun j h1 h2 => by omega⟩
  case round =>
    obtain ⟨k, hik, hk, rfl, hb, hall⟩ := hrel
    have HB := hide hb
    have HA := hide hall
    clear hb hall
    by_cases hlt : k < bn
    · have hidx := fun w => run_index_at (P := Try.prog) (c := bc) Try.underlying25 size58 HR.out.pl hlt w
      have hidi := fun w => run_index_at (P := Try.prog) (c := bc) Try.underlying25 size58 HR.out.pl hi w
      have h1 : w.cell? ⟨blk ba, ofs ba + k * 3, none⟩ = some (.string (B k).name) := HR.out.c k hlt 0 (by omega)
      have h2 : w.cell? ⟨blk ba, ofs ba + i * 3, none⟩ = some (.string (B i).name) := HR.out.c i hi 0 (by omega)
      have h1 := cell_below HB.out h1 (HR.out.lt k hlt (by omega))
      have h2 := cell_below HB.out h2 (HR.out.lt k hlt (by omega))
      by_cases g : (B k).name = (B i).name
      · have g' : ((B k).name.toList == (B i).name.toList) = true := by rw [g]; simp
        have G := hide g
        clear g
        go_wp2
        go_quiet (fail)
        go_wp2
        go_ret
        exact ⟨by rw [laterB_yes hik hlt G.out]; rfl, drewN_below HB.out _⟩
      · have g' : ((B k).name.toList == (B i).name.toList) = false := by
          rw [beq_eq_false_iff_ne]; exact fun h => g (bytes_ext h)
        have G := hide g
        clear g
        go_wp2
        go_quiet (fail)
        go_wp2
        go_roundw
        case rel => exact ⟨k + 1, by omega, by omega, by go_num, drewN_below HB.out _, fun j h1 h2 => by
          by_cases e : j = k
          · rw [e]; exact G.out
          · exact HA.out j h1 (by omega)⟩
        case measure => simp [intOf]; omega
    · go_wp2
      go_ret
      exact ⟨by rw [laterB_no fun j h1 h2 => HA.out j h1 (by omega)]; rfl, HB.out⟩
set_option maxHeartbeats 1000000 in
theorem laterGrant (ga : Option Addr) (gn gc : Nat) (G : Nat → GI) (i : Nat) (w : World) (hr : Recs w ga 7 gn (fun i => (G i).c)) (hn : gn ≤ 1048576) (hi : i < gn) :
    Calls Try.prog 19 #[.slice ga gn gc, .int .i64 (i : Int)] w (Ret1 w (.bool (laterB (fun j => (G j).token) gn i))) := by
  have HR := hide hr
  clear hr
  go_enter Try.func19, Try.ntmps19
  go_wp2
  go_loopw [5] (fun j wr => ∃ k : Nat, i < k ∧ k ≤ gn ∧ j = .int .i64 k ∧ Below w.heap.size w wr ∧ ∀ j, i < j → j < k → (G j).token ≠ (G i).token) (fun j _ => gn - (intOf j).toNat)
  case atStart => exact ⟨i + 1, by omega, by omega, by go_num, Below.refl _ _, fun j h1 h2 => by omega⟩
  case round =>
    obtain ⟨k, hik, hk, rfl, hb, hall⟩ := hrel
    have HB := hide hb
    have HA := hide hall
    clear hb hall
    by_cases hlt : k < gn
    · have hidx := fun w => run_index_at (P := Try.prog) (c := gc) Try.underlying26 size66 HR.out.pl hlt w
      have hidi := fun w => run_index_at (P := Try.prog) (c := gc) Try.underlying26 size66 HR.out.pl hi w
      have h1 : w.cell? ⟨blk ga, ofs ga + k * 7 + 2, none⟩ = some (.int .u64 (G k).token) := HR.out.c k hlt 2 (by omega)
      have h2 : w.cell? ⟨blk ga, ofs ga + i * 7 + 2, none⟩ = some (.int .u64 (G i).token) := HR.out.c i hi 2 (by omega)
      have h1 := cell_below HB.out h1 (HR.out.lt k hlt (by omega))
      have h2 := cell_below HB.out h2 (HR.out.lt k hlt (by omega))
      by_cases g : (G k).token = (G i).token
      · have g' : ((G k).token == (G i).token) = true := by rw [g]; simp
        have G := hide g
        clear g
        go_wp2
        go_quiet (fail)
        go_wp2
        go_ret
        exact ⟨by rw [laterB_yes hik hlt G.out]; rfl, drewN_below HB.out _⟩
      · have g' : ((G k).token == (G i).token) = false := by
          rw [beq_eq_false_iff_ne]; exact g
        have G := hide g
        clear g
        go_wp2
        go_quiet (fail)
        go_wp2
        go_roundw
        case rel => exact ⟨k + 1, by omega, by omega, by go_num, drewN_below HB.out _, fun j h1 h2 => by
          by_cases e : j = k
          · rw [e]; exact G.out
          · exact HA.out j h1 (by omega)⟩
        case measure => simp [intOf]; omega
    · go_wp2
      go_ret
      exact ⟨by rw [laterB_no fun j h1 h2 => HA.out j h1 (by omega)]; rfl, HB.out⟩
theorem acc9 (tb : Nat) (x : Int) (w : World) (h : w.cell? ⟨tb, 1, none⟩ = some (.int .u64 x)) : Calls Try.prog 9 #[.pointer (some ⟨tb, 0, none⟩)] w fun e w' => e = .returned (.int .u64 x) ∧ w' = w := by
  go_enter Try.func9, Try.ntmps9
  go_wp2
  go_ret
  exact ⟨rfl, rfl⟩
theorem acc10 (tb : Nat) (x : Int) (w : World) (h : w.cell? ⟨tb, 3, none⟩ = some (.int .i64 x)) : Calls Try.prog 10 #[.pointer (some ⟨tb, 0, none⟩)] w fun e w' => e = .returned (.int .i64 x) ∧ w' = w := by
  go_enter Try.func10, Try.ntmps10
  go_wp2
  go_ret
  exact ⟨rfl, rfl⟩
theorem acc13 (tb b : Nat) (w : World) (h : w.cell? ⟨tb, 0, none⟩ = some (.map (some b))) : Calls Try.prog 13 #[.pointer (some ⟨tb, 0, none⟩)] w fun e w' => e = .returned (.map (some b)) ∧ w' = w := by
  go_enter Try.func13, Try.ntmps13
  go_wp2
  go_ret
  exact ⟨rfl, rfl⟩
theorem acc16 (tb b : Nat) (w : World) (h : w.cell? ⟨tb, 4, none⟩ = some (.map (some b))) : Calls Try.prog 16 #[.pointer (some ⟨tb, 0, none⟩)] w fun e w' => e = .returned (.map (some b)) ∧ w' = w := by
  go_enter Try.func16, Try.ntmps16
  go_wp2
  go_ret
  exact ⟨rfl, rfl⟩
theorem acc18 (tb b : Nat) (w : World) (h : w.cell? ⟨tb, 5, none⟩ = some (.map (some b))) : Calls Try.prog 18 #[.pointer (some ⟨tb, 0, none⟩)] w fun e w' => e = .returned (.map (some b)) ∧ w' = w := by
  go_enter Try.func18, Try.ntmps18
  go_wp2
  go_ret
  exact ⟨rfl, rfl⟩
theorem acc12 (tb : Nat) (a : Option Addr) (n c : Nat) (w : World) (h : w.cell? ⟨tb, 2, none⟩ = some (.slice a n c)) : Calls Try.prog 12 #[.pointer (some ⟨tb, 0, none⟩)] w fun e w' => e = .returned (.slice a n c) ∧ w' = w := by
  go_enter Try.func12, Try.ntmps12
  go_wp2
  go_ret
  exact ⟨rfl, rfl⟩
set_option maxHeartbeats 1000000 in
theorem leaseIs (r : LI) (w : World) : Calls Try.prog 15 #[.agg #[.string r.name, .string r.holder, .int .u64 r.token, .int .i64 r.ttl, .int .i64 r.rem, .string r.key], .agg #[.string r.name, .string r.holder, .int .u64 r.token, .int .i64 r.ttl, .int .i64 r.rem, .string r.key]] w (Ret1 w (.bool true)) := by
  go_enter Try.func15, Try.ntmps15
  go_wp2
  go_ret
  exact ⟨rfl, below2 w _ _⟩
set_option maxHeartbeats 1000000 in
theorem grantIs (r : GI) (w : World) : Calls Try.prog 20 #[.agg #[.string r.budget, .string r.holder, .int .u64 r.token, .int .u64 r.units, .int .i64 r.ttl, .int .i64 r.rem, .string r.key], .agg #[.string r.budget, .string r.holder, .int .u64 r.token, .int .u64 r.units, .int .i64 r.ttl, .int .i64 r.rem, .string r.key]] w (Ret1 w (.bool true)) := by
  go_enter Try.func20, Try.ntmps20
  go_wp2
  go_ret
  exact ⟨rfl, below2 w _ _⟩
end Go.Proofs.Qxb6628443a
