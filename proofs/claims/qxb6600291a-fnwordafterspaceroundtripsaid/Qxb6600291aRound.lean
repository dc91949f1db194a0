import Derived.Test.Qxb6600291aApp
import Derived.Test.Qxb6600291aIdem
namespace Go.Proofs.Qxb6600291a
open Go.RowKit

theorem hidden {p : Prop} (h : p) : Hid p := h

/-- An append whose run is known, as a law for the walk. -/
theorem wpList_append_run {P : Program} {w : World} {ops : Array Oper} {rest : List Oper} {o : Oper} {a : Act} {Q : Exit → Act → World → Prop} (hg : o.guard = none) (s x : Operand) (t tx : TypeId)
    (hop : o.op = Op.call { callee := Callee.builtin Builtin.append, args := #[s, x], argTypes := #[t, tx] }) (vs vx v' : Value) (w' : World) (hs : a.eval s = vs) (hx : a.eval x = vx)
    (hrun : (Builtin.append_ #[t, tx] o.type #[vs, vx]).run P w = .ok v' w') (hK : wpList P ops Q rest (a.put o.dst v') w') : wpList P ops Q (o :: rest) a w := by
  refine wpList_plain hg fun K hK' => ?_
  unfold Oper.wp
  simp [execOp, hop, resolve, invoke, builtin, hs, hx, hrun, Result.andThen]
  exact hK' _ _ hK

theorem make_run (m n T : Nat) (h : T = m + n) (hb : T ≤ 1048576) (W : World) :
    (Instr.makeSlice 22 (.int .i64 0) (.int .i64 (m + n))).run Try.prog W = .ok (.slice (some ⟨W.heap.size, 0, none⟩) 0 T) (W.alloc (.cells (madeCells #[.int .u8 0] T) 5)) := by
  obtain ⟨i, hi, hz, hsz, hby⟩ := info_parts info5
  have := run_make (P := Try.prog) W 22 5 i (.int .u8 0) Try.underlying22 hi hz .i64 .i64 0 ((m : Int) + n) (by omega) (by omega) (by rw [hby]; omega) (by omega)
  rw [this, hsz, show ((m : Int) + n).toNat = T by omega, Nat.mul_one]
  rfl

theorem make_run3 (m n l T : Nat) (h : T = m + n + l) (hb : T ≤ 1048576) (W : World) :
    (Instr.makeSlice 22 (.int .i64 0) (.int .i64 (m + n + l))).run Try.prog W = .ok (.slice (some ⟨W.heap.size, 0, none⟩) 0 T) (W.alloc (.cells (madeCells #[.int .u8 0] T) 5)) := by
  have := make_run (m + n) l T h hb W
  simpa using this

set_option maxHeartbeats 1000000 in
theorem rt_walk (a0 : ByteArray) (a1 : ByteArray) (a2 : Option Addr) (len2 cap2 : Nat) (z2 : List Int) (w : World) (w0 : a0.size ≤ maxLen) (w1 : a1.size ≤ maxLen) (w2 : IsRow .u8 w a2 len2 cap2 z2) :
    Calls Try.prog 6 #[.string a0, .string a1, .slice a2 len2 cap2] w fun e w' => e = .returned (.bool true) ∧ Below w.heap.size w w' := by
  have hm : len2 ≤ maxLen := by rcases w2 with ⟨_, rfl, _⟩ | ⟨_, _, _, _, _⟩ <;> omega
  by_cases hT : a0.size + a1.size + len2 ≤ 1048576
  case neg =>
    go_enter Try.func6, Try.ntmps6
    go_wp2_with (go_at_call 14; refine (bytesw_no _ _ _ _ _ _ w0 w1 hm (by omega)).mono ?_; rintro e w' ⟨rfl, rfl⟩)
    go_ret
    exact ⟨rfl, Below.refl _ _⟩
  go_enter Try.func6, Try.ntmps6
  go_wp2_with (go_at_call 14; refine (bytesw_yes _ _ _ _ _ _ hT).mono ?_; rintro e w' ⟨rfl, rfl⟩)
  go_loop [7] (fun i => ∃ k : Nat, k ≤ a0.size ∧ i = .int .i64 k ∧ ∀ j (h : j < a0.size), j < k → isSp (a0[j].toNat : Int)) (fun i => a0.size - (intOf i).toNat)
  case atStart => exact ⟨0, by omega, rfl, fun j h h2 => by omega⟩
  case round =>
    obtain ⟨k, hk, rfl, hsp⟩ := hrel
    have HSP : Hid (∀ j (h : j < a0.size), j < k → isSp (a0[j].toNat : Int)) := hsp
    clear hsp
    by_cases hlt : k < a0.size
    · by_cases hs : isSp (a0[k].toNat : Int)
      · go_wp2_with (go_at_call 11; refine (isSpace_yes _ _ hs).mono ?_; rintro e w' ⟨rfl, rfl⟩)
        go_round
        case rel =>
          refine ⟨k + 1, by omega, by go_num, fun j h h2 => ?_⟩
          by_cases e : j = k
          · subst e; exact hs
          · exact HSP.out j h (by omega)
        case measure => simp [intOf]; omega
      · go_wp2_with (go_at_call 11; refine (isSpace_no _ _ hs).mono ?_; rintro e w' ⟨rfl, rfl⟩)
        go_ret
        exact ⟨rfl, Below.refl _ _⟩
    · obtain rfl : k = a0.size := by omega
      by_cases h1 : a1.size = 0
      · have h1b : ((a1.size : Int) == 0) = true := by simp [h1]
        go_wp2_with fail
        go_ret
        exact ⟨rfl, Below.refl _ _⟩
      have h1b : ((a1.size : Int) == 0) = false := beq_eq_false_iff_ne.2 (by omega)
      have h1p : 0 < a1.size := by omega
      by_cases hs : isSp (a1[0].toNat : Int)
      · go_wp2_with (go_at_call 11; refine (isSpace_yes _ _ hs).mono ?_; rintro e w' ⟨rfl, rfl⟩)
        go_ret
        exact ⟨rfl, Below.refl _ _⟩
      rcases w2 with ⟨rfl, rfl, rfl, rfl⟩ | ⟨x, rfl, hle, hcm, hzl, hcell, hwf⟩
      · obtain ⟨T, hTT⟩ : ∃ T, T = a0.size + a1.size := ⟨_, rfl⟩
        have hmk : ∀ W, (Instr.makeSlice 22 (.int .i64 0) (.int .i64 (a0.size + a1.size))).run Try.prog W = .ok (.slice (some ⟨W.heap.size, 0, none⟩) 0 T) (W.alloc (.cells (madeCells #[.int .u8 0] T) 5)) := make_run _ _ _ hTT (by omega)
        obtain ⟨c1, c2, c3, r1, r2, r3, hF⟩ := three w a0 a1 (.slice none 0 0) 0 [] T hTT rfl (fun cs => Src.ofNil _ Try.underlying22 0)
        have H1 : Below w.heap.size w (w.alloc (.cells c3 5)) := (Below.refl _ _).alloc (Nat.le_refl _) _
        have R1 := hidden r1
        have R2 := hidden r2
        have R3 := hidden r3
        have HT := hidden (show T = a0.size + a1.size + ([] : List Int).length from hTT)
        have HTT := hidden hTT
        clear hTT r1 r2 r3
        go_wp2_with (first
          | (go_at_call 11; refine (isSpace_no _ _ hs).mono ?_; rintro e w' ⟨rfl, rfl⟩)
          | (at_builtin; refine wpList_append_run rfl (.tmp 76) (.tmp 77) 22 9 rfl _ _ _ _ rfl rfl R1.out ?_)
          | (at_builtin; refine wpList_append_run rfl (.tmp 79) (.tmp 80) 22 9 rfl _ _ _ _ rfl rfl R2.out ?_)
          | (at_builtin; refine wpList_append_run rfl (.tmp 82) (.tmp 83) 22 22 rfl _ _ _ _ rfl rfl R3.out ?_))
        refine (zzword_true w.heap.size T T a0.size (zOf a0 a1 []) a1 _ (by have := HTT.out; omega) (Nat.le_refl _) h1p (by have := HTT.out; omega) (by simp) (zOf_cells w c3 a0 a1 [] T HT.out hF) (zOf_stops a0 a1 [] T HT.out HSP.out h1p hs) (zOf_mid a0 a1 [])).mono ?_
        rintro e w3 ⟨rfl, hb⟩
        go_wp2
        go_ret
        exact ⟨by simp, H1.trans (hb.mono (by simp))⟩
      · obtain ⟨T, hTT⟩ : ∃ T, T = a0.size + a1.size + len2 := ⟨_, rfl⟩
        have hzl2 : (z2.take len2).length = len2 := by rw [List.length_take]; omega
        have hmk0 := run_make_row' (P := Try.prog) 22 5 (.int .u8 0) 1 Try.underlying22 info5 rfl .i64 .i64 len2 (by omega) (by omega)
        have hcp := clone_run w x len2 cap2 z2 (by omega) hcell
        have hB := copied w (n := len2) (z := z2) (by omega)
        have hmk : ∀ W, (Instr.makeSlice 22 (.int .i64 0) (.int .i64 (a0.size + a1.size + len2))).run Try.prog W = .ok (.slice (some ⟨W.heap.size, 0, none⟩) 0 T) (W.alloc (.cells (madeCells #[.int .u8 0] T) 5)) := make_run3 _ _ _ _ hTT (by omega)
        generalize hca : ((z2.take len2).map (Value.int .u8)).toArray = ca at hcp hB
        have hS : ∀ cs, Src Try.prog 1 22 (.slice (some ⟨w.heap.size, 0, none⟩) len2 len2) len2 ((z2.take len2).map (Value.int .u8)) ((w.alloc (.cells ca 5)).alloc (.cells cs 5)) := by
          intro cs
          refine Src.ofSlice _ Try.underlying22 _ _ _ _ (by rw [List.length_map, hzl2, Nat.mul_one]) (fun j u hj => ?_) (fun u hu => by obtain ⟨n, _, rfl⟩ := List.mem_map.1 hu; rfl)
          rw [Addr.add_lit, World.cell?_alloc_lt _ _ _ (by simp)]
          simp only [World.cell?, heap_alloc_new]
          rw [if_neg (by simp), ← hca, Nat.zero_add]
          simpa using hj
        obtain ⟨c1, c2, c3, r1, r2, r3, hF⟩ := three (w.alloc (.cells ca 5)) a0 a1 (.slice (some ⟨w.heap.size, 0, none⟩) len2 len2) len2 (z2.take len2) T hTT hzl2 hS
        have H1 : Below w.heap.size w ((w.alloc (.cells ca 5)).alloc (.cells c3 5)) := ((Below.refl _ _).alloc (Nat.le_refl _) _).alloc (by simp) _
        have R1 := hidden r1
        have R2 := hidden r2
        have R3 := hidden r3
        have HT := hidden (show T = a0.size + a1.size + (z2.take len2).length by rw [hzl2]; exact hTT)
        have HTT := hidden hTT
        clear hTT r1 r2 r3 hcell hwf hca hzl2
        simp only [World.size_alloc] at R1 R2 R3
        go_wp2_with (first
          | (go_at_call 11; refine (isSpace_no _ _ hs).mono ?_; rintro e w' ⟨rfl, rfl⟩)
          | (at_builtin; refine wpList_append_run rfl (.tmp 76) (.tmp 77) 22 9 rfl _ _ _ _ rfl rfl R1.out ?_)
          | (at_builtin; refine wpList_append_run rfl (.tmp 79) (.tmp 80) 22 9 rfl _ _ _ _ rfl rfl R2.out ?_)
          | (at_builtin; refine wpList_append_run rfl (.tmp 82) (.tmp 83) 22 22 rfl _ _ _ _ rfl rfl R3.out ?_))
        refine (zzword_true (w.heap.size + 1) T T a0.size (zOf a0 a1 (z2.take len2)) a1 _ (by have := HTT.out; omega) (Nat.le_refl _) h1p (by have := HTT.out; omega) (by simp) (by simpa using zOf_cells (w.alloc (.cells ca 5)) c3 a0 a1 (z2.take len2) T HT.out hF) (zOf_stops a0 a1 (z2.take len2) T HT.out HSP.out h1p hs) (zOf_mid a0 a1 (z2.take len2))).mono ?_
        rintro e w3 ⟨rfl, hb⟩
        go_wp2
        go_ret
        exact ⟨by simp, H1.trans (hb.mono (by simp; omega))⟩
end Go.Proofs.Qxb6600291a
