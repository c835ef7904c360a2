/-
  Seat b5709a: slices.DeleteFunc (12) under the predicate; 'clear' of a slice of structs.
-/
import Derived.Test.YbulkdnfcIndex
import Derived.Lib.SliceRun
namespace Go.Proofs.Ybulkdnfc
open Go.RowKit
set_option linter.unusedVariables false

/-- 'clear(s)' on a slice of elements of several cells. -/
theorem run_clear_cells {P : Program} (w : World) (t e : TypeId) (z : Value) (ht : P.underlying t = some (.slice e)) (hv : ∀ w, (zeroValue e).run P w = .ok z w) (h1 : ∀ u ∈ z.cells, u.oneCell' = true) (hz : 0 < z.cells.size) (b o n c : Nat) (hn : 0 < n)
    (hc : ∀ j, j < n * z.cells.size → (w.cell? ⟨b, o + j, none⟩).isSome = true) (hf : ∀ j, j < n * z.cells.size → w.frozen? ⟨b, o + j, none⟩ = false) :
    ∃ zs : List Value, zs.length = n * z.cells.size ∧ ∀ ty, (Builtin.clear_ #[t] ty #[.slice (some ⟨b, o, none⟩) n c]).run P w = .ok (.tuple #[]) (w.setCells b o zs) := by
  have hlen : (Builtin.zeroCells z.cells n).toList.length = n * z.cells.size := by simp [Builtin.zeroCells]
  have hone : ∀ v ∈ (Builtin.zeroCells z.cells n).toList, v.oneCell' = true := by
    intro v hv'
    simp only [Builtin.zeroCells] at hv'
    simp at hv'
    obtain ⟨i, hi, rfl⟩ := hv'
    refine h1 _ ?_
    have hm : i % z.cells.size < z.cells.size := Nat.mod_lt _ hz
    simp [hm]
  refine ⟨_, hlen, fun ty => ?_⟩
  have hst := run_storeCells_cells (P := P) b o (Builtin.zeroCells z.cells n).toList 0 w (by rw [hlen]; simpa using hc) (by rw [hlen]; simpa using hf) hone
  simp only [Nat.add_zero] at hst
  obtain ⟨m, rfl⟩ : ∃ m, n = m + 1 := ⟨n - 1, by omega⟩
  simp [Builtin.clear_, run_underlying ht, hv, hst]

theorem rowIs_setCells {b t n : Nat} : ∀ (vs : List Value) (o : Nat) (w : World) (f : Nat → Value), w.rowIs b t n f → ∃ f', (w.setCells b o vs).rowIs b t n f' ∧ ∀ j, j < o → f' j = f j
  | [], o, w, f, h => ⟨f, h, fun _ _ => rfl⟩
  | v :: r, o, w, f, h => by
    obtain ⟨f', h1, h2⟩ := rowIs_setCells r (o + 1) _ _ (h.set o v)
    refine ⟨f', h1, fun j hj => ?_⟩
    rw [h2 j (by omega)]
    show (if j = o then _ else _) = _
    rw [if_neg (by omega)]

theorem Yba.zero41 (w : World) : (zeroValue 41).run Yba.prog w = .ok (.agg #[.int .u64 0, .int .i64 0, .pointer none, .int .u64 0, .pointer none]) w := by kernel_rfl

/-- The array while DeleteFunc runs: what is kept of the first j, in front; the rest as it was. -/
structure DInv (c : Cfg) (E : Env) (f : Nat → Value) (L : Array Nat) (K : List Nat) (j : Nat) : Prop where
  eq : K = (L.toList.take j).filter (fun x => !E.del x)
  lt : K.length < j
  lowk : ∀ k, k < K.length → ∀ t, t < 5 → f (k * 5 + t) = ent c (K.getD k 0) t
  high : ∀ k, j ≤ k → k < L.size → ∀ t, t < 5 → f (k * 5 + t) = ent c (at0 L k) t

theorem DInv.skip {c : Cfg} {E : Env} {f : Nat → Value} {L : Array Nat} {K : List Nat} {j : Nat} (h : DInv c E f L K j) (hj : j < L.size) (hd : E.del (at0 L j) = true) : DInv c E f L K (j + 1) :=
  ⟨by rw [take_snoc L j hj, List.filter_append, ← h.eq]; simp [hd], by have := h.lt; omega, h.lowk, fun k hk => h.high k (by omega)⟩

theorem DInv.keep {c : Cfg} {E : Env} {f f' : Nat → Value} {L : Array Nat} {K : List Nat} {j : Nat} (h : DInv c E f L K j) (hj : j < L.size) (hd : E.del (at0 L j) = false) (hp : PutAt c f f' K.length (at0 L j)) : DInv c E f' L (K ++ [at0 L j]) (j + 1) := by
  have hlt := h.lt
  refine ⟨by rw [take_snoc L j hj, List.filter_append, ← h.eq]; simp [hd], by simp; omega, fun k hk t ht => ?_, fun k hk hkL t ht => ?_⟩
  · by_cases e : k = K.length
    · subst e
      rw [hp.2 t ht]
      simp [List.getD]
    · have hk' : k < K.length := by simp at hk; omega
      rw [hp.1 _ (by omega), h.lowk k hk' t ht]
      simp [List.getD, List.getElem?_append_left hk']
  · rw [hp.1 _ (by omega)]
    exact h.high k (by omega) hkL t ht

theorem below_undrew (w : World) : Below w.drew.heap.size w.drew w := ⟨rfl, rfl, rfl, Nat.le_refl _, fun _ _ => rfl⟩

theorem kept_setCells {b : Nat} : ∀ (vs : List Value) (o : Nat) (a w : World), Kept (fun k => k = b) a w → Kept (fun k => k = b) a (w.setCells b o vs)
  | [], _, _, _, h => h
  | v :: r, o, a, w, h => kept_setCells r (o + 1) a _ (h.setCell (p := ⟨b, o, none⟩) rfl v)

/-- A write into the queue's array alone. -/
theorem PS.onG {c : Cfg} {E : Env} {w w' : World} {n : Nat} {f f' : Nat → Value} {J : Nat → Int} {v : Value} {l : List Nat} (h : PS c E w n f J v l) (hlo : E.LO ≤ E.g) (hK0 : Kept (fun k => k = E.g) w w') (hr : w'.rowIs E.g 41 (E.cap * 5) f') :
    PS c E w' n f' J v l ∧ Kept (Tz c E) w w' := by
  have hg := h.low.g
  have hLB := cell_lt h.lm.cell
  have hFl := h.fl
  have hlb := h.low.lb
  have q := h.qm
  have hQ := cell_lt q.q
  refine ⟨⟨⟨hK0.cell h.lm.cell (by show ¬ _ = _; simp; omega), ?_, ?_, h.lm.ne, fun k hk => by have := h.lm.lt k hk; have := hK0.size; omega, h.lm.ge, by have := h.lm.bs; have := hK0.size; omega⟩, ?_, h.dm.kept hK0 (fun k hk => by rw [hk]; exact hlo), hK0.cell h.fb (by show ¬ _ = _; simp; omega), h.fl, h.fo, h.low⟩, hK0.mono (fun k _ hk => .inr (.inl hk))⟩
  · exact (World.frozen?_of_block (hK0.block _ hLB (by show ¬ _ = _; simp; omega))).trans h.lm.fr
  · refine h.lm.own.kept (row := some E.g) ⟨hK0.os, hK0.tape, hK0.output, hK0.size, fun k hk hne => hK0.block k hk (fun e => hne (by rw [e]))⟩ (.inr (fun e => ?_))
    have := h.lm.ge _ e
    omega
  · exact ⟨hK0.cell q.q (by show ¬ _ = _; exact q.qg), (World.frozen?_of_block (hK0.block _ hQ (by show ¬ _ = _; exact q.qg))).trans q.qf, q.nc, q.cm, hr, fun id hid => (q.it id hid).keep (hK0.block _ (cell_lt (q.it id hid).c0) (by show ¬ _ = _; exact q.ig id hid)), q.qg, q.iq, q.ig⟩

theorem PS.putEntry {c : Cfg} {E : Env} {w : World} {n : Nat} {f : Nat → Value} {J : Nat → Int} {v : Value} {l : List Nat} (h : PS c E w n f J v l) (hlo : E.LO ≤ E.g) (k x : Nat) :
    ∃ f', PS c E (put5 w E.g (k * 5) (.int .u64 (wall (c.at_ x))) (.int .i64 (ext (c.at_ x))) (.pointer none) (.int .u64 (c.rk x)) (.pointer (some ⟨c.IB x, 0, none⟩))) n f' J v l ∧ PutAt c f f' k x ∧
      Kept (Tz c E) w (put5 w E.g (k * 5) (.int .u64 (wall (c.at_ x))) (.int .i64 (ext (c.at_ x))) (.pointer none) (.int .u64 (c.rk x)) (.pointer (some ⟨c.IB x, 0, none⟩))) := by
  obtain ⟨f', q', hp⟩ := h.qm.putEntry k x
  have q1 := q'.below (below_undrew _)
  have hK0 : Kept (fun k => k = E.g) w (put5 w E.g (k * 5) (.int .u64 (wall (c.at_ x))) (.int .i64 (ext (c.at_ x))) (.pointer none) (.int .u64 (c.rk x)) (.pointer (some ⟨c.IB x, 0, none⟩))) := Kept.put5 (T := fun k => k = E.g) (Kept.refl _ _) rfl _ _ _ _ _
  exact ⟨f', (h.onG hlo hK0 q1.row).1, hp, (h.onG hlo hK0 q1.row).2⟩

set_option maxHeartbeats 2000000 in
theorem delete_any (c : Cfg) (ok : c.Ok) (E : Env) (w : World) (f : Nat → Value) (J : Nat → Int) (v : Value) (L : Array Nat) (hL : L.size ≤ 4096) (hids : Ids c L) (hA : Holds c f L) (h : PS c E w L.size f J v []) (hlo : E.LO ≤ E.g ∧ ∀ id, id < c.m → E.LO ≤ c.IB id) :
    Calls Yba.prog 12 #[.slice (some ⟨E.g, 0, none⟩) L.size E.cap, .func (.func 13) #[] #[.pointer (some ⟨E.FB, 0, none⟩)]] w fun e w' => Kept (Tz c E) w w' ∧ ∃ (K : Array Nat) (f' : Nat → Value) (v' : Value),
      e = .returned (.slice (some ⟨E.g, 0, none⟩) K.size E.cap) ∧ K.toList = L.toList.filter (fun x => !E.del x) ∧ Holds c f' K ∧ PS c E w' L.size f' J v' L.toList := by
  have hnc := h.qm.nc
  obtain ⟨n, hn⟩ : ∃ n, n = L.size := ⟨_, rfl⟩
  have HI := index_any c ok E w f J v L hL hids hA h hlo
  rw [← hn] at h hL hnc HI ⊢
  have HN : Hid (n = L.size) := hn
  clear hn
  go_enter Yba.func12, Yba.ntmps12
  go_wp2_with fail
  refine HI.mono ?_
  rintro e w1 ⟨hK1, v1, ⟨rfl, hall, hP⟩ | ⟨i, hi, rfl, hbef, hat, hP⟩⟩
  · have HAll : Hid (∀ k, k < n → E.del (at0 L k) = false) := hall
    clear hall HI h
    go_wp2
    go_ret
    refine ⟨hK1, L, f, v1, by have := HN.out; subst this; rfl, ?_, hA, hP⟩
    rw [List.filter_eq_self.2]
    intro x hx
    obtain ⟨k, hk, rfl⟩ := mem_at0 (L := L) (by simpa using hx)
    simp [HAll.out k (by have := HN.out; omega)]
  · have HB : Hid ((∀ k, k < i → E.del (at0 L k) = false) ∧ E.del (at0 L i) = true) := ⟨hbef, hat⟩
    have him : ((i : Int) == -1) = false := by rw [beq_eq_false_iff_ne]; omega
    clear hbef hat HI h
    go_wp2
    go_loopw [5, 6] (fun v5 v6 wr => ∃ (j : Nat) (K : List Nat) (f1 : Nat → Value) (v2 : Value), j ≤ n ∧ v5 = .int .i64 (K.length : Nat) ∧ v6 = .int .i64 j ∧ Hid (DInv c E f1 L K j) ∧ K.length < j ∧ PS c E wr n f1 J v2 (L.toList.take j) ∧ Kept (Tz c E) w wr) (fun _ v6 _ => n - (intOf v6).toNat)
    case atStart =>
      have hiL : i < L.size := by have := HN.out; omega
      have hfil : L.toList.take i = (L.toList.take (i + 1)).filter (fun x => !E.del x) := by
        rw [take_snoc L i hiL, List.filter_append, List.filter_eq_self.2]
        · simp [HB.out.2]
        · intro x hx
          obtain ⟨k, hk, rfl⟩ := List.mem_iff_getElem.1 hx
          have hki : k < i := by simp at hk; omega
          have := HB.out.1 k hki
          simp [at0, Array.getD, show k < L.size by omega] at this
          simp [this]
      have hlen : (L.toList.take i).length = i := by simp; omega
      refine ⟨i + 1, L.toList.take i, f, v1, by omega, by rw [hlen], by simp, ⟨hfil, by omega, fun k hk t ht => ?_, fun k hk hkL t ht => hA k hkL t ht⟩, by omega, hP, hK1⟩
      rw [hlen] at hk
      rw [hA k (by omega) t ht]
      simp [at0, List.getD, Array.getD, hk, show k < L.size by omega]
    case round =>
      obtain ⟨j, K, f1, v2, hjn, rfl, rfl, hI, hKj, hP2, hK2⟩ := hrel
      clear hP hK1 hA
      obtain ⟨i1, hi1⟩ : ∃ i1, i1 = K.length := ⟨_, rfl⟩
      have HI1 : Hid (i1 = K.length) := hi1
      rw [← hi1] at hKj ⊢
      clear hi1
      by_cases hlt : j < n
      · have hji : (j : Int) < (n : Int) := by omega
        have hii : (i1 : Int) < (n : Int) := by omega
        obtain ⟨y, hy⟩ : ∃ y, y = at0 L j := ⟨_, rfl⟩
        have HY : Hid (y = at0 L j) := hy
        have hym : y < c.m := by rw [hy]; exact hids _ (by have := HN.out; omega)
        obtain ⟨e0, e1, e2, e3, e4⟩ := entry_cells (c := c) hP2.qm.row j y (by have := hP2.qm.nc; omega) (fun t ht => by rw [hy]; exact hI.out.high j (Nat.le_refl _) (by have := HN.out; omega) t ht)
        clear hy
        go_wp2_with fail
        have hb1 := (Below.refl wr.heap.size wr).alloc (Nat.le_refl _) (Obj.cells #[.int .u64 (wall (c.at_ y)), .int .i64 (ext (c.at_ y)), .pointer none, .int .u64 (c.rk y), .pointer (some ⟨c.IB y, 0, none⟩)] 41)
        obtain ⟨w2, hw2⟩ : ∃ w2, w2 = wr.alloc (Obj.cells #[.int .u64 (wall (c.at_ y)), .int .i64 (ext (c.at_ y)), .pointer none, .int .u64 (c.rk y), .pointer (some ⟨c.IB y, 0, none⟩)] 41) := ⟨_, rfl⟩
        have hbox : BoxAt c w2 wr.heap.size y := by
          refine ⟨?_, ?_, ?_, ?_, ?_⟩
          all_goals (rw [hw2]; simp [go_sem])
        rw [← hw2] at hb1 ⊢
        clear hw2
        have hP3 := hP2.below hb1
        have hK3 : Kept (Tz c E) w w2 := hK2.trans (Kept.of_below hb1)
        have hLBs := cell_lt hP2.lm.cell
        have hNT : ¬ Tk c E.LB v2 wr.heap.size := by
          rintro ((e | e) | ⟨id, hid, e⟩)
          · simp at hLBs; omega
          · have := hP2.lm.lt _ e; omega
          · have := hP2.low.i id hid; simp at hLBs; omega
        refine (pred_any c ok E w2 n f1 J v2 _ y hym hP3 (by simp; omega) hlo).mono ?_
        rintro e w3 ⟨rfl, v3, hP4, hK4⟩
        have hbx := hbox.kept hK4 hNT
        have HT : Hid (L.toList.take (j + 1) = L.toList.take j ++ [y]) := by
          show _ = _
          rw [take_snoc L j (by have := HN.out; omega), ← HY.out]
        have hK5 : Kept (Tz c E) w w3 := hK3.trans (hK4.mono (fun k _ hk => Tk_Tz hP3 k hk))
        clear hP3 hK4 hK3 hb1 hP2 hK2 e0 e1 e2 e3 e4 hLBs
        obtain ⟨b0, b1, b2, b3, b4⟩ := hbx
        cases hd : E.del y with
        | true =>
          go_wp2
          go_roundw
          case rel =>
            refine ⟨j + 1, K, f1, v3, by omega, by rw [HI1.out], by simp, hI.out.skip (by have := HN.out; omega) (by rw [← HY.out]; exact hd), by have := HI1.out; omega, by rw [HT.out]; exact hP4, hK5⟩
          case measure => simp [intOf]; omega
        | false =>
          obtain ⟨f2, hP5, hput, hK6⟩ := hP4.putEntry hlo.1 i1 y
          have HP : Hid _ := hput
          have HPS : Hid _ := hP5
          have HKK : Hid _ := hK6
          have c0 : w3.cell? ⟨E.g, i1 * 5, none⟩ = some (f1 (i1 * 5)) := hP4.qm.row.cell (by omega)
          have g0 : w3.frozen? ⟨E.g, i1 * 5, none⟩ = false := hP4.qm.row.frozen _
          have c1 : w3.cell? ⟨E.g, i1 * 5 + 1, none⟩ = some (f1 (i1 * 5 + 1)) := hP4.qm.row.cell (by omega)
          have g1 : w3.frozen? ⟨E.g, i1 * 5 + 1, none⟩ = false := hP4.qm.row.frozen _
          have c2 : w3.cell? ⟨E.g, i1 * 5 + 1 + 1, none⟩ = some (f1 (i1 * 5 + 1 + 1)) := hP4.qm.row.cell (by omega)
          have g2 : w3.frozen? ⟨E.g, i1 * 5 + 1 + 1, none⟩ = false := hP4.qm.row.frozen _
          have c3 : w3.cell? ⟨E.g, i1 * 5 + 1 + 1 + 1, none⟩ = some (f1 (i1 * 5 + 1 + 1 + 1)) := hP4.qm.row.cell (by omega)
          have g3 : w3.frozen? ⟨E.g, i1 * 5 + 1 + 1 + 1, none⟩ = false := hP4.qm.row.frozen _
          have c4 : w3.cell? ⟨E.g, i1 * 5 + 1 + 1 + 1 + 1, none⟩ = some (f1 (i1 * 5 + 1 + 1 + 1 + 1)) := hP4.qm.row.cell (by omega)
          have g4 : w3.frozen? ⟨E.g, i1 * 5 + 1 + 1 + 1 + 1, none⟩ = false := hP4.qm.row.frozen _
          clear hput hP5 hK6
          go_wp2
          go_roundw
          case rel =>
            refine ⟨j + 1, K ++ [at0 L j], f2, v3, by omega, by rw [HI1.out]; simp, by simp, hI.out.keep (by have := HN.out; omega) (by rw [← HY.out]; exact hd) (by rw [← HI1.out, ← HY.out]; exact HP.out), by have := HI1.out; simp; omega, by rw [HT.out]; exact HPS.out, hK5.trans HKK.out⟩
          case measure => simp [intOf]; omega
      · obtain rfl : j = n := by omega
        obtain ⟨zs, hzl, hcl⟩ := run_clear_cells (P := Yba.prog) wr 27 41 (.agg #[.int .u64 0, .int .i64 0, .pointer none, .int .u64 0, .pointer none]) Yba.underlying27 Yba.zero41 (by
          intro u hu
          simp [Value.cells] at hu
          rcases hu with rfl | rfl | rfl | rfl | rfl <;> rfl) (by decide) E.g (i1 * 5) (j - i1) (E.cap - i1) (by omega) (by
            intro t ht
            rw [hP2.qm.row.cell (by have : t < (j - i1) * 5 := ht; have := hP2.qm.nc; omega)]; rfl) (by
            intro t ht
            exact hP2.qm.row.frozen _)
        have hzl5 : zs.length = (j - i1) * 5 := hzl
        obtain ⟨f2, hr2, hf2⟩ := rowIs_setCells zs (i1 * 5) wr f1 hP2.qm.row
        obtain ⟨hP3, hK3⟩ := hP2.onG hlo.1 (kept_setCells zs (i1 * 5) wr wr (Kept.refl _ _)) hr2
        have HPS : Hid _ := hP3
        have HK3 : Hid _ := hK3
        have HF2 : Hid _ := hf2
        clear hP3 hK3 hf2 hr2 hzl
        go_wp2
        go_ret
        have hj := HN.out
        have ht : L.toList.take j = L.toList := List.take_of_length_le (by simp; omega)
        have hD := hI.out
        have hPS := HPS.out
        rw [ht] at hPS
        refine ⟨hK2.trans HK3.out, K.toArray, f2, v2, by rw [HI1.out]; simp, by rw [← ht]; simpa using hD.eq, fun k hk t ht => ?_, hPS⟩
        have hk' : k < K.length := by simpa using hk
        rw [HF2.out _ (by have := HI1.out; omega), hD.lowk k hk' t ht]
        simp [at0, List.getD, Array.getD, hk']

end Go.Proofs.Ybulkdnfc
