/-
  What the three laws on Depth and skipValue share: ZZskipValue (18) at every value; copies; rows that are built; the length checks (16, 17, 19).
-/
import Derived.Test.Qxb6600463aParse
import Derived.Test.Qxb6600463aRow
import Derived.Laws.CopyOwn
namespace Go.Proofs.Qxb6600463a
open Go.RowKit
set_option linter.unusedSimpArgs false
set_option linter.unusedVariables false

theorem delim_iff {x : Int} : delim x ↔ EntsL.delimP x := Iff.rfl

/-- skipValue at every value -/
theorem skip_val (b off n cap i e d : Nat) (c : Nat → Int) (w : World) (ht : Hid (Txt w b off n c)) (hn : n ≤ 1000000) (hcap : n ≤ cap) (hv : ValSeg c i e d) (hen : e ≤ n) (hd : e < n → delim (c e)) :
    Calls Try.prog 25 #[.slice (some ⟨b, off, none⟩) n cap, .int .i64 (i : Int)] w fun r w' => r = .returned (.int .i64 (e : Int)) ∧ w = w' := by
  have hie := hv.1
  have hl : (seg c i (e - i)).length = e - i := seg_len c _ _
  have hg : ∀ (v : List Int) (k : Nat), seg c i (e - i) = v → k < e - i → c (i + k) = v.getD k 0 := fun v k hv hk => by rw [← hv, seg_get c _ i k hk]
  rcases hv.2.kind with ⟨p, hp, hok⟩ | ⟨o, p, x, d', hp, ho, hx, hb⟩ | ⟨_, hs⟩
  · rw [hp] at hl
    simp at hl
    have ht2 := tok_of_seg (c := c) (i := i) (p := p) (n := e - i) (by omega) hp hok
    have := skip_str b off n cap i p.length c w ht hn hcap (by omega) ht2
    rwa [show i + p.length + 2 = e by omega] at this
  · rw [hp] at hl
    simp at hl
    have h0 := hg _ 0 hp (by omega)
    have h1 := hg _ (1 + p.length) hp (by omega)
    rw [show 1 + p.length = p.length + 1 by omega, List.cons_append, List.getD_cons_succ] at h1
    simp at h0 h1
    have e1 : c (i + 1 + p.length) = x := by rw [← h1]; congr 1; omega
    have hseg : seg c (i + 1) p.length = p := by
      rw [show e - i = ((p.length) + 1) + 1 by omega, seg_add] at hp
      have e2 : seg c i (p.length + 1) = c i :: seg c (i + 1) p.length := rfl
      have := (List.append_inj hp (by simp [seg_len])).1
      rw [e2] at this
      exact (List.cons.inj this).2
    have := skip_cont b off n cap i p.length d' c w ht hn hcap (by omega) (by rw [h0]; exact ho) (by rw [e1]; exact hx) (by show Bal _ _; rw [hseg]; exact hb)
    rwa [show i + p.length + 2 = e by omega] at this
  · refine skip_scal b off n cap i e c w ht hn hcap hie hen (fun k h1 h2 => hs _ ?_) hd
    have hk : seg c i (e - i) = seg c i (k - i) ++ (c k :: seg c (k + 1) (e - k - 1)) := by
      rw [show e - i = (k - i) + ((e - k - 1) + 1) by omega, seg_add, show i + (k - i) = k by omega]
      rfl
    rw [hk]
    exact List.mem_append_right _ List.mem_cons_self

set_option maxHeartbeats 1000000 in
theorem skipZ (b off n cap i e d : Nat) (c : Nat → Int) (w : World) (ht : Hid (Txt w b off n c)) (hn : n ≤ 1000000) (hcap : n ≤ cap) (hv : Hid (ValSeg c i e d)) (hen : e ≤ n) (hd : Hid (e < n → delim (c e))) (x : Int) (hx : x = (i : Int)) :
    Calls Try.prog 18 #[.slice (some ⟨b, off, none⟩) n cap, .int .i64 x] w fun r w' => r = .returned (.int .i64 (e : Int)) ∧ w = w' := by
  subst hx
  go_enter Try.func18, Try.ntmps18
  go_wp2_with (go_at_call 25; refine (skip_val b off n cap i e d c _ ht hn hcap hv.out hen hd.out).mono ?_; rintro e w' ⟨rfl, rfl⟩)
  go_ret
  exact ⟨rfl, rfl⟩

theorem bytesL_seg (c : Nat → Int) : ∀ (n i : Nat), seg c i n = bytesL (fun j => c (i + j)) n
  | 0, i => rfl
  | n + 1, i => by
    show c i :: seg c (i + 1) n = _
    rw [bytesL_seg c n (i + 1)]
    unfold bytesL
    rw [List.range_succ_eq_map, List.map_cons, List.map_map]
    congr 1
    apply List.map_congr_left
    intro j _
    show c (i + 1 + j) = c (i + (j + 1))
    congr 1; omega

theorem bytesL_eq (c : Nat → Int) (n : Nat) : bytesL c n = seg c 0 n := by
  rw [bytesL_seg c n 0]
  congr 1
  funext j
  rw [Nat.zero_add]

theorem seg_getD (N : List Int) : seg (fun j => N.getD j 0) 0 N.length = N := by
  rw [← bytesL_eq]
  unfold bytesL
  apply List.ext_getElem
  · simp
  · intro k h1 h2
    simp [List.getD, List.getElem?_eq_getElem h2]

theorem doc_bal {c : Nat → Int} {n j e d : Nat} (h : Doc c n j e d) : Bal (seg c 0 n) d := by
  have h1 := balSeg_trans (balSeg_trans (blank_bal h.1) h.2.1.bal) (blank_bal h.2.2.2)
  have h2 := h1.2
  rw [Nat.sub_zero] at h2
  have e1 : max (max 0 d) 0 = d := by omega
  rwa [e1] at h2

/-- a text's cells, as append and copy ask for them -/
theorem Txt.news {w : World} {b off n : Nat} {c : Nat → Int} (h : Txt w b off n c) : ∀ (j : Nat) u, ((bytesL c n).map V)[j]? = some u → w.cell? ((⟨b, off, none⟩ : Addr).add j) = some u := by
  intro j u hu
  have hj : j < n := by
    have := (List.getElem?_eq_some_iff.1 hu).1
    simpa [bytesL] using this
  rw [show (⟨b, off, none⟩ : Addr).add j = ⟨b, off + j, none⟩ from by unfold Addr.add; split <;> simp_all, h.1 j hj]
  have : ((bytesL c n).map V)[j]? = some (V (c j)) := by simp [bytesL, hj]
  rw [this] at hu
  exact hu

/-- a block that holds the bytes is a text -/
theorem txt_of_block {w : World} {g n : Nat} {c : Nat → Int} (h : w.heap[g]? = some (.cells ((bytesL c n).map V).toArray 5 (0, 0))) (hc : ∀ j, 0 ≤ c j ∧ c j < 256) : Txt w g 0 n c := by
  refine ⟨fun j hj => ?_, hc⟩
  have hl : j < (bytesL c n).length := by rw [bytesL_len]; exact hj
  have e1 : ((bytesL c n).map V)[j]? = some (V (c j)) := by simp [bytesL, hj]
  simp only [World.cell?, h, Nat.zero_add]
  simp [bytesL, hj, V]

theorem made_block {w : World} {base g n cap : Nat} {xs : List Value} (h : w.ownsRow base 5 1 (.slice (some ⟨g, 0, none⟩) n cap) n xs) : ∃ cur : List Value, w.heap[g]? = some (.cells cur.toArray 5 (0, 0)) ∧ cur.length = cap := by
  rcases h.2 with ⟨h1, _⟩ | ⟨g', cap', cur, h1, h2, h3, h4, h5, h6, h7⟩
  · cases h1
  · cases h1
    exact ⟨cur.toList, by simpa using h3, by simpa using h6⟩

theorem splice_all {α : Type} (cur cs : List α) (h : cur.length = cs.length) : splice cur 0 cs = cs := by
  unfold splice
  rw [List.take_zero, List.nil_append, Nat.zero_add, ← h, List.drop_length, List.append_nil]

/-- the text of a slice that came in, behind its copy -/
theorem copied {w : World} {g n : Nat} {c : Nat → Int} {cur : List Value} (h : w.heap[g]? = some (.cells (splice cur 0 ((bytesL c n).map V)).toArray 5 (0, 0))) (hl : cur.length = n) (hc : ∀ j, 0 ≤ c j ∧ c j < 256) : Txt w g 0 n c := by
  rw [splice_all cur _ (by rw [List.length_map, bytesL_len]; exact hl)] at h
  exact txt_of_block h hc

theorem own_app {w : World} {base g k cap : Nat} {N P N' : List Int} (h : w.ownsRow base 5 1 (.slice (some ⟨g, 0, none⟩) k cap) k (N.map V ++ P.map V)) (hN : N' = N ++ P) : w.ownsRow base 5 1 (.slice (some ⟨g, 0, none⟩) k cap) k (N'.map V) := by
  rw [hN, List.map_append]; exact h

theorem txt_of_own' {w : World} {base g k cap : Nat} {N : List Int} (h : w.ownsRow base 5 1 (.slice (some ⟨g, 0, none⟩) k cap) k (N.map V)) (hk : N.length = k) (hN : ∀ x ∈ N, 0 ≤ x ∧ x < 256) : Txt w g 0 k (fun j => N.getD j 0) := by
  subst hk; exact txt_of_own h hN

set_option maxHeartbeats 1000000 in
theorem bytes17_big (a0 : Option Addr) (len0 cap0 : Nat) (w : World) (l0 : len0 ≤ maxLen) (h : ¬ len0 ≤ 1048576) :
    Calls Try.prog 17 #[.slice a0 len0 cap0] w fun e w' => e = .returned (.bool false) ∧ w = w' := by
  unfold maxLen at l0
  go_enter Try.func17, Try.ntmps17
  go_wp2
  all_goals
    go_ret
    exact ⟨rfl, rfl⟩
set_option maxHeartbeats 1000000 in
theorem bytes17_small (a0 : Option Addr) (len0 cap0 : Nat) (w : World) (h : len0 ≤ 1048576) :
    Calls Try.prog 17 #[.slice a0 len0 cap0] w fun e w' => e = .returned (.bool true) ∧ w = w' := by
  go_enter Try.func17, Try.ntmps17
  go_wp2
  go_ret
  exact ⟨rfl, rfl⟩
set_option maxHeartbeats 1000000 in
theorem bytes16_big (a0 : Option Addr) (len0 cap0 : Nat) (a1 : Option Addr) (len1 cap1 : Nat) (w : World) (l0 : len0 ≤ maxLen) (l1 : len1 ≤ maxLen) (h : ¬ len0 + len1 ≤ 1048576) :
    Calls Try.prog 16 #[.slice a0 len0 cap0, .slice a1 len1 cap1] w fun e w' => e = .returned (.bool false) ∧ w = w' := by
  unfold maxLen at l0 l1
  go_enter Try.func16, Try.ntmps16
  go_wp2
  all_goals
    go_ret
    exact ⟨rfl, rfl⟩
set_option maxHeartbeats 1000000 in
theorem bytes16_small (a0 : Option Addr) (len0 cap0 : Nat) (a1 : Option Addr) (len1 cap1 : Nat) (w : World) (h : len0 + len1 ≤ 1048576) :
    Calls Try.prog 16 #[.slice a0 len0 cap0, .slice a1 len1 cap1] w fun e w' => e = .returned (.bool true) ∧ w = w' := by
  go_enter Try.func16, Try.ntmps16
  go_wp2
  go_ret
  exact ⟨rfl, rfl⟩
set_option maxHeartbeats 1000000 in
theorem bytes19_big (a0 : Option Addr) (len0 cap0 : Nat) (a1 : Option Addr) (len1 cap1 : Nat) (w : World) (l0 : len0 ≤ maxLen) (l1 : len1 ≤ maxLen) (h : ¬ len0 + len1 ≤ 1048576) :
    Calls Try.prog 19 #[.slice a0 len0 cap0, .slice a1 len1 cap1] w fun e w' => e = .returned (.bool false) ∧ w = w' := by
  unfold maxLen at l0 l1
  go_enter Try.func19, Try.ntmps19
  go_wp2
  all_goals
    go_ret
    exact ⟨rfl, rfl⟩
set_option maxHeartbeats 1000000 in
theorem bytes19_small (a0 : Option Addr) (len0 cap0 : Nat) (a1 : Option Addr) (len1 cap1 : Nat) (w : World) (h : len0 + len1 ≤ 1048576) :
    Calls Try.prog 19 #[.slice a0 len0 cap0, .slice a1 len1 cap1] w fun e w' => e = .returned (.bool true) ∧ w = w' := by
  go_enter Try.func19, Try.ntmps19
  go_wp2
  go_ret
  exact ⟨rfl, rfl⟩

end Go.Proofs.Qxb6600463a
