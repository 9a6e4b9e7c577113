/-
  SEAT b6609139a: the walk of FnMatchIsLongestAreaPathPrefix.
-/
import Derived.Test.Qxb6609139aMatch
import Derived.Laws.CopyOwn
import Derived.Deep.DeepCutAuto
namespace Go.Proofs.Qxb6609139a
open Go.RowKit

/-- Some bool comes back. -/
def SomeBool (e : Ending) : Prop := ∃ b, e = .returned (.bool b)

theorem Try.info9 : (Try.prog.info? 9).map (fun i => (i.zero, i.size, i.bytes)) = some (some (.string ⟨#[]⟩), 1, 16) := by kernel_rfl
theorem Try.size9 : (Try.prog.info? 9).map (·.size) = some 1 := by kernel_rfl
theorem qn22 (w : World) (a : Option Addr) (n c n' c' : Nat) : (binOp .neq 22 (.slice a n c) (.slice none n' c')).run Try.prog w = .ok (.bool (!a.isNone)) w :=
  run_neq_slice_nil_any w _ _ a n c n' c' Try.underlying22

set_option maxHeartbeats 400000 in
theorem guard6_big (a : Option Addr) (n c : Nat) (path : ByteArray) (w : World) (hn : (1048576 : Int) < (n : Int)) :
    Calls Try.prog 6 #[.slice a n c, .string path] w fun e w' => e = .returned (.bool false) ∧ w' = w := by
  go_enter Try.func6, Try.ntmps6
  go_wp2
  go_ret
  exact ⟨rfl, rfl⟩

set_option maxHeartbeats 1000000 in
theorem guard6 (a : Option Addr) (n c : Nat) (path : ByteArray) (S : Nat → ByteArray) (w : World) (hn : n ≤ 1048576) (hcell : ∀ x, a = some x → ∀ i, i < n → w.cell? (x.add i) = some (.string (S i))) (hnil : a = none → n = 0 ∧ c = 0) :
    Calls Try.prog 6 #[.slice a n c, .string path] w fun e w' => SomeBool e ∧ w' = w := by
  have HC : Hid (∀ x, a = some x → ∀ i, i < n → w.cell? (x.add i) = some (.string (S i))) := hcell
  have HN : Hid (a = none → n = 0 ∧ c = 0) := hnil
  clear hcell hnil
  go_enter Try.func6, Try.ntmps6
  go_wp2
  go_loop [5, 6] (fun t i => (∃ x, t = .int .i64 x) ∧ ∃ k : Nat, k ≤ n ∧ i = .int .i64 k) (fun _ i => n - (intOf i).toNat)
  case atStart => exact ⟨⟨_, rfl⟩, 0, Nat.zero_le _, rfl⟩
  case round =>
    obtain ⟨⟨x1, rfl⟩, k, hk, rfl⟩ := hrel
    by_cases hlt : k < n
    · cases ha : a with
      | none => have := (HN.out ha).1; omega
      | some x =>
        subst ha
        have hc := HC.out x rfl k hlt
        clear HC HN
        go_wp2
        · go_ret
          exact ⟨⟨_, rfl⟩, rfl⟩
        · go_ret
          exact ⟨⟨_, rfl⟩, rfl⟩
        · go_round
          case rel => exact ⟨⟨_, rfl⟩, k + 1, by omega, by go_num⟩
          case measure => simp [intOf]; omega
    · go_wp2
      all_goals (go_ret; exact ⟨⟨_, rfl⟩, rfl⟩)

/-! ### The plain law -/
/-- What the search for the longest has found in the first k. -/
def best (p : Nat → Bool) (S : Nat → ByteArray) (k : Nat) : Int := match fm p k with
  | none => -1
  | some j => (S j).size

theorem best_none {p : Nat → Bool} {S : Nat → ByteArray} {k : Nat} (h : fm p k = none) : best p S k = -1 := by simp [best, h]
theorem best_some {p : Nat → Bool} {S : Nat → ByteArray} {k j : Nat} (h : fm p k = some j) : best p S k = (S j).size := by simp [best, h]
theorem fm_step_no {p : Nat → Bool} {k : Nat} (h : fm p k = none) (hp : p k = false) : fm p (k + 1) = none := by simp [fm, h, hp]
theorem fm_step_yes {p : Nat → Bool} {k : Nat} (h : fm p k = none) (hp : p k = true) : fm p (k + 1) = some k := by simp [fm, h, hp]
theorem falls {S : Nat → ByteArray} {n : Nat} (h : ∀ j, 1 ≤ j → j < n → (S j).size ≤ (S (j - 1)).size) (i : Nat) : ∀ d, i + d < n → (S (i + d)).size ≤ (S i).size
  | 0, _ => Nat.le_refl _
  | d + 1, hd => Nat.le_trans (h (i + (d + 1)) (by omega) hd) (falls h i d (by omega))

/-- 'zzc := make([]T, n); copy(zzc, xs)': the copy's run: the new row holds what xs holds; nothing old turns. -/
theorem copy_fresh {P : Program} (w : World) (T E ty : TypeId) (z : Value) (n c : Nat) (x : Addr) (V : Nat → Value) (hu : P.underlying T = some (.slice E)) (hs : (P.info? E).map (·.size) = some 1)
    (hsrc : ∀ i, i < n → w.cell? (x.add i) = some (V i)) (h1 : ∀ i, (V i).oneCell' = true) :
    ∃ w2, (Builtin.copy_ #[T, T] ty #[.slice (some ⟨w.heap.size, 0, none⟩) n n, .slice (some x) n c]).run P (w.alloc (.cells (madeCells #[z] n) E)) = .ok (goInt n) w2 ∧ w2.rowIs w.heap.size E n V ∧ Below w.heap.size w w2 := by
  have hl : ((List.range n).map V).length = n := by simp
  have hg : (w.alloc (.cells (madeCells #[z] n) E)).heap[w.heap.size]? = some (.cells (madeCells #[z] n) E (0, 0)) := heap_alloc_new w _
  have hz : (madeCells #[z] n).size = n := by simpa using size_madeCells #[z] n
  have hr := run_copy_row (P := P) (w.alloc (.cells (madeCells #[z] n) E)) T T ty E w.heap.size 0 n n x n c (madeCells #[z] n) E ((List.range n).map V) hu hs hg (by rw [hl]; exact (Nat.min_self n).symm)
    (fun j v hj => by
      have hj' : j < n := by have := (List.getElem?_eq_some_iff.1 hj).1; simpa using this
      rw [List.getElem?_map, List.getElem?_range hj'] at hj
      cases hj
      have h0 := hsrc j hj'
      exact (World.cell?_alloc_lt _ _ _ (World.block_lt_of_cell? _ _ h0)).trans h0)
    (by rw [hl]; omega) (fun v hv => by obtain ⟨i, _, rfl⟩ := List.mem_map.1 hv; exact h1 i)
  rw [hl] at hr
  refine ⟨_, hr, ?_, below_setRow ((Below.refl _ _).alloc (Nat.le_refl _) _) (Nat.le_refl _) _⟩
  have e : ((madeCells #[z] n).toList.take 0 ++ (List.range n).map V ++ (madeCells #[z] n).toList.drop (0 + n)).toArray = ((List.range n).map V).toArray := by
    rw [List.take_zero, List.nil_append, List.drop_eq_nil_of_le (by simp [hz]), List.append_nil]
  rw [e]
  exact ⟨_, setRow_heap _ _ _ _ _ _ hg, by simp, fun i hi => by simp [hi]⟩

/-- WHAT IS KNOWN OF THE COPY: each cell. -/
def Strs (w : World) (a : Option Addr) (n : Nat) (S : Nat → ByteArray) : Prop := ∀ i, i < n → ∃ g, a = some ⟨g, 0, none⟩ ∧ w.cell? ⟨g, i, none⟩ = some (.string (S i))
theorem Strs.below {w w' : World} {a : Option Addr} {n : Nat} {S : Nat → ByteArray} (h : Strs w a n S) (hb : Below w.heap.size w w') : Strs w' a n S := fun i hi => by
  obtain ⟨g, e, hc⟩ := h i hi
  exact ⟨g, e, (hb.cell (p := ⟨g, i, none⟩) (World.block_lt_of_cell? w _ hc)).trans hc⟩
theorem Strs.drewN {w : World} {a : Option Addr} {n : Nat} {S : Nat → ByteArray} (h : Strs w a n S) (m : Nat) : Strs (w.drewN m) a n S := h.below ⟨rfl, rfl, rfl, Nat.le_refl _, fun _ _ => rfl⟩
theorem below_drawn {B : Nat} {w w' : World} (h : Below B w w') (m : Nat) : Below B w (w'.drewN m) := h.trans ⟨rfl, rfl, rfl, Nat.le_refl _, fun _ _ => rfl⟩

set_option maxHeartbeats 400000 in
theorem law3_big (a : Option Addr) (n c : Nat) (path : ByteArray) (w : World) (hn : (1048576 : Int) < (n : Int)) :
    Calls Try.prog 3 #[.slice a n c, .string path] w fun e w' => e = .returned (.bool true) ∧ Below w.heap.size w w' := by
  go_enter Try.func3, Try.ntmps3
  go_wp2_with (go_at_call 6; refine (guard6_big _ _ _ _ _ hn).mono ?_; rintro e w1 ⟨rfl, hw1⟩; subst w1)
  go_ret
  exact ⟨rfl, Below.refl _ _⟩

set_option maxRecDepth 100000 in
set_option maxHeartbeats 4000000 in
theorem law3 (a : Option Addr) (n c : Nat) (path : ByteArray) (S : Nat → ByteArray) (w : World) (hn : n ≤ 1048576) (hp : path.size ≤ maxLen)
    (hcell : ∀ x, a = some x → ∀ i, i < n → w.cell? (x.add i) = some (.string (S i))) (hnil : a = none → n = 0 ∧ c = 0) :
    Calls Try.prog 3 #[.slice a n c, .string path] w fun e w' => e = .returned (.bool true) ∧ Below w.heap.size w w' := by
  have HC : Hid (∀ x, a = some x → ∀ i, i < n → w.cell? (x.add i) = some (.string (S i))) := hcell
  have HN : Hid (a = none → n = 0 ∧ c = 0) := hnil
  have HP : Hid (path.size ≤ maxLen) := hp
  clear hcell hnil hp
  have q := qn22
  have hmk := run_make_row' (P := Try.prog) 22 9 (.string ⟨#[]⟩) 16 Try.underlying22 Try.info9 rfl .i64 .i64 n (by omega) (by omega)
  go_enter Try.func3, Try.ntmps3
  go_wp2_with fail
  refine (guard6 a n c path S _ hn HC.out HN.out).mono ?_
  rintro e w1 ⟨⟨b, rfl⟩, hw1⟩
  subst w1
  cases b
  · go_wp2
    go_ret
    exact ⟨rfl, Below.refl _ _⟩
  by_cases gp : (524288 : Int) < (path.size : Int)
  · go_wp2
    go_ret
    exact ⟨rfl, Below.refl _ _⟩
  go_upto_if 21 with fail
  go_cut [0] (fun t wx => ∃ a' cp', t = .slice a' n cp' ∧ Strs wx a' n S ∧ Below w.heap.size w wx)
  case first =>
    cases a with
    | none =>
      have hn0 : n ≤ 0 := by have := (HN.out rfl).1; omega
      go_wp2
      go_meet
      exact ⟨none, c, rfl, fun i hi => absurd hi (by omega), Below.refl _ _⟩
    | some x =>
      obtain ⟨w2, hcp, hrow, hbel⟩ := copy_fresh (P := Try.prog) w 22 9 3 (.string ⟨#[]⟩) n c x (fun i => .string (S i)) Try.underlying22 Try.size9 (HC.out x rfl) (fun _ => rfl)
      have HR : Hid (w2.rowIs w.heap.size 9 n (fun i => .string (S i))) := hrow
      clear hrow
      go_wp2
      go_meet
      exact ⟨some ⟨w.heap.size, 0, none⟩, n, rfl, fun i hi => ⟨w.heap.size, rfl, HR.out.cell hi⟩, hbel⟩
  case rest =>
  obtain ⟨a', cp', rfl, hS, hB⟩ := hcut
  have HS : Hid (Strs wc a' n S) := hS
  have HB : Hid (Below w.heap.size w wc) := hB
  clear hS hB HC HN hmk q
  go_wp2
  go_loop [6, 7] (fun t i => (∃ x, t = .int .i64 x) ∧ ∃ k : Nat, k ≤ n ∧ i = .int .i64 k) (fun _ i => n - (intOf i).toNat)
  case atStart => exact ⟨⟨_, rfl⟩, 0, Nat.zero_le _, rfl⟩
  case round =>
    obtain ⟨⟨t1, rfl⟩, k, hk, rfl⟩ := hrel
    by_cases hlt : k < n
    · obtain ⟨g, rfl, hc⟩ := HS.out k hlt
      clear HS
      go_wp2
      · go_ret
        exact ⟨rfl, HB.out⟩
      · go_round
        case rel => exact ⟨⟨_, rfl⟩, k + 1, by omega, by go_num⟩
        case measure => simp [intOf]; omega
    · go_wp2
      clear hk hlt
      go_loopw [8] (fun i wr => ∃ k : Nat, 1 ≤ k ∧ (k ≤ n ∨ k = 1) ∧ i = .int .i64 k ∧ (∃ m, wr = wc.drewN m) ∧ ∀ j, 1 ≤ j → j < k → (S j).size ≤ (S (j - 1)).size) (fun i _ => n - (intOf i).toNat)
      case atStart => exact ⟨1, Nat.le_refl _, .inr rfl, rfl, ⟨0, rfl⟩, fun j h1 h2 => by omega⟩
      case round =>
        obtain ⟨k2, hk1, hk2, rfl, ⟨m, rfl⟩, hord⟩ := hrel
        have HO : Hid (∀ j, 1 ≤ j → j < k2 → (S j).size ≤ (S (j - 1)).size) := hord
        clear hord
        by_cases hlt : k2 < n
        · obtain ⟨g, rfl, hc⟩ := HS.out k2 hlt
          obtain ⟨g', e', hc'⟩ := HS.out (k2 - 1) (by omega)
          cases e'
          have i1 : (k2 : Int) < (n : Int) := by omega
          have i2 : (k2 : Int) - 1 < (n : Int) := by omega
          have i3 : (0 : Int) ≤ (k2 : Int) - 1 := by omega
          have i4 : ((k2 : Int) - 1).toNat = k2 - 1 := by omega
          go_wp2
          go_quiet (fail)
          go_wp2
          · go_ret
            exact ⟨rfl, below_drawn (below_drawn HB.out _) _⟩
          · have hle : ¬ (S (k2 - 1)).size < (S k2).size := by assumption
            go_roundw
            case rel =>
              refine ⟨k2 + 1, by omega, .inl (by omega), by go_num, ⟨m + nq, by simp⟩, fun j h1 h2 => ?_⟩
              by_cases e : j = k2
              · subst e; omega
              · exact HO.out j h1 (by omega)
            case measure => simp [intOf]; omega
        · have HORD : Hid (∀ j, 1 ≤ j → j < n → (S j).size ≤ (S (j - 1)).size) := fun j h1 h2 => HO.out j h1 (by omega)
          clear HO
          cases hL : pre path latch
          · have hFE : found path S n = fm (fun i => pre path (S i)) n := by simp [found, hL]
            go_wp2_with fail
            refine (zmp7 a' n cp' path S _ hn (HS.out.drewN m)).mono ?_
            rintro e w5 ⟨hres, hb5⟩
            have HB5 : Hid (Below w.heap.size w w5) := (below_drawn HB.out m).trans (hb5.mono (below_drawn HB.out m).size)
            have HS5 : Hid (Strs w5 a' n S) := (HS.out.drewN m).below hb5
            clear hb5 HS HB
            rcases hres with ⟨hF, rfl⟩ | ⟨j, hF, rfl⟩
            · have HFN : Hid (fm (fun i => pre path (S i)) n = none) := hFE.symm.trans hF
              clear hF
              clear hFE
              go_wp2_with (go_at_call 8; refine (zhp8 _ _ HP.out _).mono ?_; rintro e w' ⟨rfl, m5, hw⟩; subst w')
              go_loopw [11, 12] (fun bst i wr => ∃ k : Nat, k ≤ n ∧ i = .int .i64 k ∧ bst = .int .i64 (best (fun i => pre path (S i)) S k) ∧ ∃ m, wr = w5.drewN m) (fun _ i _ => n - (intOf i).toNat)
              case atStart => exact ⟨0, Nat.zero_le _, rfl, rfl, _, rfl⟩
              case round =>
                obtain ⟨k3, hk3, rfl, rfl, m6, rfl⟩ := hrel
                by_cases hlt3 : k3 < n
                · obtain ⟨g, rfl, hc⟩ := HS5.out k3 hlt3
                  clear HS5
                  cases hf : fm (fun i => pre path (S i)) k3 with
                  | none =>
                    have hb : best (fun i => pre path (S i)) S k3 = -1 := best_none hf
                    have HF : Hid (fm (fun i => pre path (S i)) k3 = none) := hf
                    clear hf
                    rw [hb]
                    clear hb
                    cases hP : pre path (S k3)
                    · go_wp2_with (go_at_call 8; refine (zhp8 _ _ HP.out _).mono ?_; rintro e w' ⟨rfl, m7, hw⟩; subst w')
                      go_roundw
                      case rel => exact ⟨k3 + 1, by omega, by go_num, by rw [best_none (fm_step_no HF.out hP)], m6 + m7, by simp⟩
                      case measure => simp [intOf]; omega
                    · go_wp2_with (go_at_call 8; refine (zhp8 _ _ HP.out _).mono ?_; rintro e w' ⟨rfl, m7, hw⟩; subst w')
                      go_roundw
                      case rel => exact ⟨k3 + 1, by omega, by go_num, by rw [best_some (fm_step_yes HF.out hP)], m6 + m7, by simp⟩
                      case measure => simp [intOf]; omega
                  | some j3 =>
                    have hb : best (fun i => pre path (S i)) S k3 = (S j3).size := best_some hf
                    have hjk : j3 < k3 := fm_lt hf
                    have hle : (S k3).size ≤ (S j3).size := by
                      have := falls HORD.out j3 (k3 - j3) (by omega)
                      rwa [show j3 + (k3 - j3) = k3 by omega] at this
                    have hd : decide (((S j3).size : Int) < ((S k3).size : Int)) = false := decide_eq_false (by omega)
                    have HF : Hid (fm (fun i => pre path (S i)) k3 = some j3) := hf
                    clear hf
                    rw [hb]
                    clear hb
                    go_wp2
                    go_roundw
                    case rel => exact ⟨k3 + 1, by omega, by go_num, by rw [best_some (fm_keep HF.out (Nat.le_succ k3))], m6, rfl⟩
                    case measure => simp [intOf]; omega
                · have e3 : k3 = n := by omega
                  subst e3
                  rw [best_none HFN.out]
                  go_wp2
                  go_ret
                  exact ⟨rfl, below_drawn HB5.out _⟩
            · have HFN : Hid (fm (fun i => pre path (S i)) n = some j) := hFE.symm.trans hF
              clear hF
              clear hFE
              go_wp2_with (go_at_call 8; refine (zhp8 _ _ HP.out _).mono ?_; rintro e w' ⟨rfl, m5, hw⟩; subst w')
              go_loopw [11, 12] (fun bst i wr => ∃ k : Nat, k ≤ n ∧ i = .int .i64 k ∧ bst = .int .i64 (best (fun i => pre path (S i)) S k) ∧ ∃ m, wr = w5.drewN m) (fun _ i _ => n - (intOf i).toNat)
              case atStart => exact ⟨0, Nat.zero_le _, rfl, rfl, _, rfl⟩
              case round =>
                obtain ⟨k3, hk3, rfl, rfl, m6, rfl⟩ := hrel
                by_cases hlt3 : k3 < n
                · obtain ⟨g, rfl, hc⟩ := HS5.out k3 hlt3
                  clear HS5
                  cases hf : fm (fun i => pre path (S i)) k3 with
                  | none =>
                    have hb : best (fun i => pre path (S i)) S k3 = -1 := best_none hf
                    have HF : Hid (fm (fun i => pre path (S i)) k3 = none) := hf
                    clear hf
                    rw [hb]
                    clear hb
                    cases hP : pre path (S k3)
                    · go_wp2_with (go_at_call 8; refine (zhp8 _ _ HP.out _).mono ?_; rintro e w' ⟨rfl, m7, hw⟩; subst w')
                      go_roundw
                      case rel => exact ⟨k3 + 1, by omega, by go_num, by rw [best_none (fm_step_no HF.out hP)], m6 + m7, by simp⟩
                      case measure => simp [intOf]; omega
                    · go_wp2_with (go_at_call 8; refine (zhp8 _ _ HP.out _).mono ?_; rintro e w' ⟨rfl, m7, hw⟩; subst w')
                      go_roundw
                      case rel => exact ⟨k3 + 1, by omega, by go_num, by rw [best_some (fm_step_yes HF.out hP)], m6 + m7, by simp⟩
                      case measure => simp [intOf]; omega
                  | some j3 =>
                    have hb : best (fun i => pre path (S i)) S k3 = (S j3).size := best_some hf
                    have hjk : j3 < k3 := fm_lt hf
                    have hle : (S k3).size ≤ (S j3).size := by
                      have := falls HORD.out j3 (k3 - j3) (by omega)
                      rwa [show j3 + (k3 - j3) = k3 by omega] at this
                    have hd : decide (((S j3).size : Int) < ((S k3).size : Int)) = false := decide_eq_false (by omega)
                    have HF : Hid (fm (fun i => pre path (S i)) k3 = some j3) := hf
                    clear hf
                    rw [hb]
                    clear hb
                    go_wp2
                    go_roundw
                    case rel => exact ⟨k3 + 1, by omega, by go_num, by rw [best_some (fm_keep HF.out (Nat.le_succ k3))], m6, rfl⟩
                    case measure => simp [intOf]; omega
                · have e3 : k3 = n := by omega
                  subst e3
                  rw [best_some HFN.out]
                  have hpj := (pre_iff path (S j)).1 (fm_yes HFN.out)
                  have hsz : ((S j).size : Int) ≤ (path.size : Int) := by have := hpj.1; omega
                  have hsz' : (S j).size ≤ path.size := hpj.1
                  have heq : ((S j).toList == (path.extract 0 (S j).size).toList) = true := by
                    have := fm_yes HFN.out
                    unfold pre at this
                    rw [Bool.and_eq_true, beq_iff_eq] at this
                    rw [this.2]
                    simp
                  clear hpj
                  go_wp2
                  go_ret
                  exact ⟨rfl, below_drawn HB5.out _⟩
          · have hFE : found path S n = none := by simp [found, hL]
            go_wp2_with fail
            refine (zmp7 a' n cp' path S _ hn (HS.out.drewN m)).mono ?_
            rintro e w5 ⟨hres, hb5⟩
            have HB5 : Hid (Below w.heap.size w w5) := (below_drawn HB.out m).trans (hb5.mono (below_drawn HB.out m).size)
            rcases hres with ⟨_, rfl⟩ | ⟨j, hj, _⟩
            · clear hb5 HS HB hFE
              go_wp2_with (go_at_call 8; refine (zhp8 _ _ HP.out _).mono ?_; rintro e w' ⟨rfl, m5, hw⟩; subst w')
              go_ret
              exact ⟨rfl, below_drawn HB5.out _⟩
            · rw [hFE] at hj
              cases hj
end Go.Proofs.Qxb6609139a
