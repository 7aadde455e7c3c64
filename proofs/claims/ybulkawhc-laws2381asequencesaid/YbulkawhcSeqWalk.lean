import Derived.Test.YbulkawhcKeep
import Derived.WalkSpells
namespace Go.Proofs.Ybulkawhc.Seq
open Go.ChangeShapes Go.WideShapes Go.ChangeAt Go.RowKit Go.Proofs.Ybulkawhc.Lw Go.Proofs.Ybulkawhc.Kee

theorem info23 : (Yba.prog.info? 23).map (fun i => (i.zero, i.size, i.bytes)) = some (some (.int .u32 0), 1, 4) := by kernel_rfl

/-- WHAT HOLDS AT EVERY ROUND's HEAD: the settler has kept ws, each class once; a class bears the mark 1 just where it is among ws; 'want' owns ws too, in a row of its own. -/
structure Rel (w wr : World) (n : Nat) (S M : Nat) (u v : Value) (ms ws : List Int) (d : Bool) (k : Nat) : Prop where
  own : Own w.heap.size wr S M v ms 1 ws (!d)
  wnt : wr.ownsRow w.heap.size 3 1 u ws.length (ws.map (Value.int .i64))
  us : u.ownBlock ≠ some S
  um : u.ownBlock ≠ some M
  uv : ∀ g, u.ownBlock = some g → v.ownBlock ≠ some g
  bel : Below w.heap.size w wr
  len : ms.length = n
  mrk : ∀ i, i < n → ms.getD i 0 = if (i : Int) ∈ ws then 1 else 0
  bnd : ws.length ≤ k

/-- Is c among the first j of ws? -/
def fnd (ws : List Int) (c : Int) (j : Nat) : Bool := decide (c ∈ ws.take j)
theorem fnd_zero (ws : List Int) (c : Int) : fnd ws c 0 = false := by simp [fnd]
theorem fnd_hit (ws : List Int) (c : Int) (j : Nat) (hj : j < ws.length) (h : ws.getD j 0 = c) : fnd ws c (j + 1) = true := by
  simp only [fnd, decide_eq_true_eq]
  rw [List.take_succ_eq_append_getElem hj]
  simp [List.getD, hj] at h
  simp [h]
theorem fnd_miss (ws : List Int) (c : Int) (j : Nat) (hj : j < ws.length) (h : ws.getD j 0 ≠ c) : fnd ws c (j + 1) = fnd ws c j := by
  simp only [fnd]
  apply decide_eq_decide.2
  rw [List.take_succ_eq_append_getElem hj, List.mem_append, List.mem_singleton]
  simp [List.getD, hj] at h
  exact ⟨fun h' => h'.resolve_right (fun e => h e.symm), Or.inl⟩
theorem fnd_all (ws : List Int) (c : Int) : fnd ws c ws.length = decide (c ∈ ws) := by simp [fnd]

theorem own_form {w : World} {base : Nat} {e : TypeId} {k : IntKind} {v : Value} {zs : List Int} (h : w.ownsRow base e 1 v zs.length (zs.map (Value.int k))) :
    ∃ ua ucap, v = .slice ua zs.length ucap ∧ ∀ j, j < zs.length → ∃ g, ua = some ⟨g, 0, none⟩ ∧ w.cell? ⟨g, j, none⟩ = some (.int k (zs.getD j 0)) := by
  rcases own_shape h with ⟨rfl, rfl⟩ | ⟨g, cap, rfl, _, _, _, hc, _⟩
  · exact ⟨none, 0, rfl, fun j hj => absurd hj (by simp)⟩
  · exact ⟨_, cap, rfl, fun j hj => ⟨g, rfl, hc j hj⟩⟩

theorem rel_seen {w wr w2 : World} {n S M : Nat} {u v : Value} {ms ws : List Int} {d : Bool} {k : Nat} (h : Rel w wr n S M u v ms ws d k)
    (ho : Own w.heap.size w2 S M v ms 1 ws false) (hk : Kp (fun k => k ≠ S) wr w2) : Rel w w2 n S M u v ms ws true (k + 1) := by
  have hs := h.own.bs
  have hb : Below w.heap.size wr w2 := hk.below h.bel.size (fun k hk => by omega)
  exact ⟨ho, own_kp h.wnt hk (fun g hg e => h.us (by rw [hg, e])), h.us, h.um, h.uv, h.bel.trans hb, h.len, h.mrk, by have := h.bnd; omega⟩

theorem rel_mid {w wr w1 : World} {n S M : Nat} {u v : Value} {ms ws : List Int} {d : Bool} {k : Nat} (h : Rel w wr n S M u v ms ws d k) (o : Obj) (hg : (wr.alloc o).grownBy w1 u.ownBlock) :
    Own w.heap.size w1 S M v ms 1 ws (!d) := by
  have k1 : Kp (fun k => some k ≠ u.ownBlock) wr w1 := ((Kp.refl _ _).alloc o).trans (Kp.ofGrown hg)
  exact ⟨k1.row h.own.st (fun e => h.us e.symm), k1.row h.own.mrk (fun e => h.um e.symm), own_kp h.own.kp k1 (fun g hg e => h.uv g e.symm hg), h.own.ne, h.own.ns, h.own.nm, h.own.bs, h.own.bm⟩

theorem rel_new {w wr w1 w2 : World} {n S M c g cap : Nat} {u v v' : Value} {ms ws : List Int} {d : Bool} {k : Nat} (h : Rel w wr n S M u v ms ws d k) (o : Obj) (hg : (wr.alloc o).grownBy w1 u.ownBlock)
    (hown : w1.ownsRow w.heap.size 3 1 (.slice (some ⟨g, 0, none⟩) (ws.length + 1) cap) (ws.length + 1) (ws.map (Value.int .i64) ++ [.int .i64 (c : Int)])) (hat : u.ownBlock = some g ∨ g = wr.heap.size + 1) (hlt : g < w1.heap.size)
    (ho : Own w.heap.size w2 S M v' (ms.set c 1) 1 (ws ++ [(c : Int)]) (!d)) (hk : Kp (fun k => k ≠ S ∧ k ≠ M ∧ some k ≠ v.ownBlock) w1 w2) (hat2 : ∀ g, v'.ownBlock = some g → v.ownBlock = some g ∨ g = w1.heap.size + 1) :
    Rel w w2 n S M (.slice (some ⟨g, 0, none⟩) (ws.length + 1) cap) v' (ms.set c 1) (ws ++ [(c : Int)]) d (k + 1) := by
  have lS := lt_of_row h.own.st
  have lM := lt_of_row h.own.mrk
  have gS : g ≠ S := by
    rcases hat with hat | hat
    · intro e; exact h.us (by rw [hat, e])
    · omega
  have gM : g ≠ M := by
    rcases hat with hat | hat
    · intro e; exact h.um (by rw [hat, e])
    · omega
  have gv : v.ownBlock ≠ some g := by
    rcases hat with hat | hat
    · exact h.uv g hat
    · intro e; have := own_lt h.own.kp e; omega
  have hB : w.heap.size ≤ wr.heap.size := h.bel.size
  have b1 : Below w.heap.size wr w1 := (((Kp.refl (fun k => some k ≠ u.ownBlock) _).alloc o).trans (Kp.ofGrown hg)).below hB (fun k hk e => by have := (own_lt h.wnt e.symm).1; omega)
  have b2 : Below w.heap.size w1 w2 := hk.below (by have := b1.size; omega) (fun k hk => ⟨by have := h.own.bs; omega, by have := h.own.bm; omega, fun e => by have := (own_lt h.own.kp e.symm).1; omega⟩)
  refine ⟨ho, ?_, by simpa [Value.ownBlock] using gS, by simpa [Value.ownBlock] using gM, ?_, (h.bel.trans b1).trans b2, by simpa using h.len, ?_, by have := h.bnd; simp; omega⟩
  · have := own_kp hown hk (fun g' hg' => by
      simp [Value.ownBlock] at hg'
      subst hg'
      exact ⟨gS, gM, fun e => gv e.symm⟩)
    simpa using this
  · intro g' hg' e
    simp [Value.ownBlock] at hg'
    subst hg'
    rcases hat2 _ e with e | e
    · exact gv e
    · omega
  · intro i hi
    have := h.mrk i hi
    by_cases hic : i = c
    · subst hic
      have hl := h.len
      simp [List.getD, show i < ms.length by omega]
    · have : (ms.set c 1).getD i 0 = ms.getD i 0 := by simp [List.getD, List.getElem?_set_ne (Ne.symm hic)]
      rw [this, h.mrk i hi]
      simp only [List.mem_append, List.mem_singleton]
      have : ¬ (i : Int) = (c : Int) := by omega
      simp [this]

set_option maxRecDepth 100000 in
theorem law_out (a0 : Int) (a1 : Option Addr) (len1 cap1 : Nat) (w : World) (h : 1024 < len1) :
    Calls Yba.prog 4 #[.int .u8 a0, .slice a1 len1 cap1] w fun e w' => e = .returned (.bool true) ∧ Below w.heap.size w w' := by
  have b1 : (1024 : Int) < (len1 : Int) := by omega
  go_enter Yba.func4, Yba.ntmps4
  go_wp2
  go_ret
  exact ⟨rfl, Below.refl _ _⟩

set_option maxRecDepth 100000 in
set_option maxHeartbeats 2000000 in
theorem law_in (a0 : Int) (ao : Option Addr) (cap1 : Nat) (ps : List Int) (w : World) (m : Nat) (hm : a0 % 16 = (m : Int)) (_hm16 : m < 16) (hz : 0 ≤ a0) (h1 : ps.length ≤ 1024)
    (hao : 0 < ps.length → ∃ b off, ao = some ⟨b, off, none⟩ ∧ ∀ i, i < ps.length → w.cell? ⟨b, off + i, none⟩ = some (.int .u64 (ps.getD i 0))) (hp : ∀ i, 0 ≤ ps.getD i 0) :
    Calls Yba.prog 4 #[.int .u8 a0, .slice ao ps.length cap1] w fun e w' => e = .returned (.bool true) ∧ Below w.heap.size w w' := by
  have b1 : ¬ (1024 : Int) < (ps.length : Int) := by omega
  have HP : Hid (∀ i, 0 ≤ ps.getD i 0) := hp
  have HAO : Hid (0 < ps.length → ∃ b off, ao = some ⟨b, off, none⟩ ∧ ∀ i, i < ps.length → w.cell? ⟨b, off + i, none⟩ = some (.int .u64 (ps.getD i 0))) := hao
  clear hp hao
  obtain ⟨i23, hi, hz0, hz1, hz2⟩ := info_parts info23
  obtain ⟨i3, ki, kz0, kz1, kz2⟩ := info_parts Yba.info3
  go_enter Yba.func4, Yba.ntmps4
  go_wp2_with (first
    | (at_make; refine wpList_make_row _ rfl _ _ 22 rfl 23 i23 (.int .u32 0) 4 Yba.underlying22 hi hz0 hz1 hz2 rfl _ _ _ _ (m + 1) rfl rfl (by omega) (by omega) ?c1 ?c2 ?_))
  case c1 => omega
  case c2 => unfold maxLen; omega
  intro w1 hr hk hs
  have R0 : Hid (Rel w (w1.alloc (.cells (stc (.slice none 0 0) w.heap.size (m + 1) 1 true).toArray 35)) (m + 1) (w.heap.size + 1) w.heap.size (.slice none 0 0) (.slice none 0 0) (List.replicate (m + 1) 0) [] false 0) := by
    have hr' : w1.heap[w.heap.size]? = some (.cells ((List.replicate (m + 1) (0 : Int)).map (Value.int .u32)).toArray 23 (0, 0)) := by rw [hr, List.map_replicate]; simp
    refine ⟨⟨?_, ((Kp.refl (fun _ => True) w1).alloc _).row hr' trivial, World.ownsRow_nil _ _ _ _, by omega, by simp [Value.ownBlock], by simp [Value.ownBlock], by omega, by omega⟩, World.ownsRow_nil _ _ _ _, by simp [Value.ownBlock], by simp [Value.ownBlock], by simp [Value.ownBlock], ?_, by simp, ?_, by simp⟩
    · rw [← hs, List.length_replicate]; exact heap_alloc_new w1 _
    · exact (hk.alloc _).below (Nat.le_refl _) (fun _ _ => trivial)
    · intro i hi
      simp [List.getD, hi]
  clear hr hk
  go_wp2
  go_loopw [7, 8, 30] (fun wt dp i wr => ∃ (k : Nat) (ws ms : List Int) (d : Bool) (v : Value), k ≤ ps.length ∧ i = .int .i64 k ∧ dp = .bool d ∧ Rel w wr (m + 1) (w.heap.size + 1) w.heap.size wt v ms ws d k) (fun _ _ i _ => ps.length - (intOf i).toNat)
  case atStart => exact ⟨0, [], _, false, _, Nat.zero_le _, rfl, rfl, R0.out⟩
  case round =>
    obtain ⟨k, ws, ms, d, v, hk, rfl, rfl, R⟩ := hrel
    obtain ⟨ua, ucap, rfl, hu⟩ := own_form R.wnt
    have HU : Hid (∀ j, j < ws.length → ∃ g, ua = some ⟨g, 0, none⟩ ∧ wr.cell? ⟨g, j, none⟩ = some (.int .i64 (ws.getD j 0))) := hu
    have HR : Hid (Rel w wr (m + 1) (w.heap.size + 1) w.heap.size (.slice ua ws.length ucap) v ms ws d k) := R
    have hwl : ws.length ≤ 1024 := by have := R.bnd; omega
    clear R hu
    by_cases hlt : k < ps.length
    · obtain ⟨b, off, rfl, hcl⟩ := HAO.out (by omega)
      have hck : wr.cell? ⟨b, off + k, none⟩ = some (.int .u64 (ps.getD k 0)) := (HR.out.bel.cell (p := ⟨b, off + k, none⟩) (World.block_lt_of_cell? w _ (hcl k hlt))).trans (hcl k hlt)
      clear hcl
      have hpk := HP.out k
      generalize ps.getD k 0 = x at hck hpk
      obtain ⟨c, hc4⟩ := Int.eq_ofNat_of_zero_le (Int.emod_nonneg x (show ((m : Int) + 1) ≠ 0 by omega))
      have hclt : c < m + 1 := by have := Int.emod_lt_of_pos x (show (0 : Int) < (m : Int) + 1 by omega); omega
      go_wp2
      go_loop [12, 41] (fun f j => ∃ jj : Nat, jj ≤ ws.length ∧ j = .int .i64 jj ∧ f = .bool (fnd ws c jj)) (fun _ j => ws.length - (intOf j).toNat)
      case atStart => exact ⟨0, Nat.zero_le _, rfl, by rw [fnd_zero]⟩
      case round =>
        obtain ⟨jj, hjj, rfl, rfl⟩ := hrel
        by_cases hjl : jj < ws.length
        · obtain ⟨g, rfl, hg⟩ := HU.out jj hjl
          have hhit := fnd_hit ws c jj hjl
          have hmiss := fnd_miss ws c jj hjl
          have HH : Hid (ws.getD jj 0 = c → fnd ws c (jj + 1) = true) := hhit
          have HM : Hid (ws.getD jj 0 ≠ c → fnd ws c (jj + 1) = fnd ws c jj) := hmiss
          clear hhit hmiss
          generalize ws.getD jj 0 = y at hg HH HM
          by_cases hyc : y = c
          · subst hyc
            go_wp2
            go_round
            case rel => exact ⟨jj + 1, by omega, by go_num, by rw [HH.out rfl]⟩
            case measure => simp [intOf]; omega
          · have hyb : (y == (c : Int)) = false := by simpa using hyc
            go_wp2
            go_round
            case rel => exact ⟨jj + 1, by omega, by go_num, by rw [HM.out hyc]⟩
            case measure => simp [intOf]; omega
        · have hje : jj = ws.length := by omega
          subst hje
          rw [fnd_all]
          by_cases hin : (c : Int) ∈ ws
          · rw [decide_eq_true hin]
            go_wp2_with fail
            refine (keep_seen w.heap.size (w.heap.size + 1) w.heap.size c v ms 1 ws (!d) _ HR.out.own (by rw [HR.out.len]; exact hclt) (by rw [HR.out.mrk c hclt, if_pos hin])).mono ?_
            rintro e w2 ⟨rfl, ho2, hk2⟩
            have H2 := rel_seen HR.out ho2 hk2
            have HR2 : Hid (Rel w w2 (m + 1) (w.heap.size + 1) w.heap.size (.slice ua ws.length ucap) v ms ws true (k + 1)) := H2
            clear H2 ho2 hk2
            go_wp2
            go_roundw
            case rel => exact ⟨k + 1, ws, ms, true, v, by omega, by go_num, rfl, HR2.out⟩
            case measure => simp [intOf]; omega
          · rw [decide_eq_false hin]
            go_wp2_with (first
              | (at_builtin; refine wpList_append_lies _ rfl _ _ 24 rfl w.heap.size 3 i3 (.int .i64 0) 1 8 Yba.underlying24 ki kz0 kz1 kz2 rfl (by decide) _ ws.length (ws.map (Value.int .i64)) rfl (HR.out.wnt.alloc _) ⟨wr.heap.size, 0, none⟩ 1 1 [.int .i64 (c : Int)] rfl rfl ?c1 ?c2 (by omega) ?c3 ?c4 ?c5 (wr.heap.size + 1) ?c6 ?_))
            case c2 => rfl
            case c3 => unfold maxLen; omega
            case c4 => omega
            case c5 => have := HR.out.bel.size; omega
            intro g cap w1 hown hgrow hat hlt1
            have ho1 := rel_mid HR.out _ hgrow
            have HO1 : Hid (Own w.heap.size w1 (w.heap.size + 1) w.heap.size v ms 1 ws (!d)) := ho1
            have HG : Hid (World.grownBy _ w1 _) := hgrow
            have HW : Hid (World.ownsRow w1 _ _ _ _ _ _) := hown
            have HAT : Hid (_ ∨ _) := hat
            clear ho1 hgrow hown hat
            go_wp2_with fail
            refine (keep_new w.heap.size (w.heap.size + 1) w.heap.size c v ms 1 ws (!d) _ HO1.out (by rw [HR.out.len]; exact hclt) (by rw [HR.out.mrk c hclt, if_neg hin]; decide) (by omega)).mono ?_
            rintro e w2 ⟨rfl, v2, ho2, hk2, hat2⟩
            have H2 := rel_new HR.out _ HG.out HW.out HAT.out hlt1 ho2 hk2 hat2
            have HR2 : Hid (Rel w w2 (m + 1) (w.heap.size + 1) w.heap.size (.slice (some ⟨g, 0, none⟩) (ws.length + 1) cap) v2 (ms.set c 1) (ws ++ [(c : Int)]) d (k + 1)) := H2
            clear H2 ho2 hk2 hat2
            go_wp2
            go_roundw
            case rel => exact ⟨k + 1, ws ++ [(c : Int)], ms.set c 1, d, v2, by omega, by go_num, rfl, HR2.out⟩
            case measure => simp [intOf]; omega
    · obtain ⟨va, vcap, hv, hvc⟩ := own_form HR.out.own.kp
      subst hv
      have s5 := HR.out.own.cellS 5
      have s14 := HR.out.own.cellS 14
      simp only [stc, List.getElem?_cons_succ, List.getElem?_cons_zero] at s5 s14
      have HV : Hid (∀ j, j < ws.length → ∃ g, va = some ⟨g, 0, none⟩ ∧ wr.cell? ⟨g, j, none⟩ = some (.int .i64 (ws.getD j 0))) := hvc
      clear hvc
      go_wp2
      go_loopw [15] (fun i wx => ∃ j q : Nat, j ≤ ws.length ∧ i = .int .i64 j ∧ wx = wr.drewN q) (fun i _ => ws.length - (intOf i).toNat)
      case atStart => exact ⟨0, 0, Nat.zero_le _, rfl, rfl⟩
      case round =>
        obtain ⟨j, q, hj, rfl, rfl⟩ := hrel
        by_cases hjl : j < ws.length
        · obtain ⟨g, rfl, hg⟩ := HU.out j hjl
          obtain ⟨g', rfl, hg'⟩ := HV.out j hjl
          generalize ws.getD j 0 = y at hg hg'
          go_wp2
          go_quiet (fail)
          go_wp2
          go_roundw
          case rel => exact ⟨j + 1, _, by omega, by go_num, rfl⟩
          case measure => simp [intOf]; omega
        · go_wp2
          go_ret
          exact ⟨rfl, ⟨HR.out.bel.os, HR.out.bel.tape, HR.out.bel.output, HR.out.bel.size, HR.out.bel.block⟩⟩
end Go.Proofs.Ybulkawhc.Seq
