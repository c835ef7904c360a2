/-
  Seat b5709a: slices.IndexFunc (22) under the predicate.
-/
import Derived.Test.YbulkdnfcPred
namespace Go.Proofs.Ybulkdnfc
open Go.RowKit
set_option linter.unusedVariables false

/-- Where all lies while removeFunc runs. -/
structure Env where
  Q : Nat
  g : Nat
  cap : Nat
  LB : Nat
  B : Nat
  LO : Nat
  DB : Nat
  FB : Nat
  nd : Nat
  cd : Nat
  ad : Option Addr
  D : Nat → Bool

def Env.del (E : Env) (x : Nat) : Bool := wantB E.nd E.D x

/-- The indices behind the predicate's runs over l. -/
def dJ (E : Env) (J : Nat → Int) (l : List Nat) : Nat → Int := fun id => if id ∈ l ∧ E.del id = true then -1 else J id
theorem dJ_nil (E : Env) (J : Nat → Int) : dJ E J [] = J := by funext id; simp [dJ]
theorem dJ_snoc (E : Env) (J : Nat → Int) (l : List Nat) (x : Nat) : dJ E J (l ++ [x]) = J13 (dJ E J l) x (E.del x) := by
  funext id
  cases hd : E.del x with
  | true =>
    show dJ E J (l ++ [x]) id = upd (dJ E J l) x (-1) id
    by_cases e : id = x
    · subst e; rw [upd_same]; simp [dJ, hd]
    · rw [upd_other _ _ _ _ e]; simp [dJ, e]
  | false =>
    show dJ E J (l ++ [x]) id = dJ E J l id
    by_cases e : id = x
    · subst e; simp [dJ, hd]
    · simp [dJ, e]

structure PS (c : Cfg) (E : Env) (w : World) (n : Nat) (f : Nat → Value) (J : Nat → Int) (v : Value) (l : List Nat) : Prop where
  lm : LM w E.LB E.B v l
  qm : QM c w E.Q E.g n E.cap f (dJ E J l)
  dm : DM w E.LO E.DB E.ad E.nd E.cd E.D
  fb : w.cell? ⟨E.FB, 0, none⟩ = some (.func (.func 7) #[] #[.pointer (some ⟨E.LB, 0, none⟩), .pointer (some ⟨E.DB, 0, none⟩)])
  fl : E.LB < E.FB
  fo : v.ownBlock ≠ some E.FB
  low : Low c E.Q E.g E.LB E.B E.LO

theorem PS.below {c : Cfg} {E : Env} {w w' : World} {n : Nat} {f : Nat → Value} {J : Nat → Int} {v : Value} {l : List Nat} (h : PS c E w n f J v l) (hb : Below w.heap.size w w') : PS c E w' n f J v l :=
  ⟨h.lm.below hb, h.qm.below hb, h.dm.kept (T := fun _ => False) (Kept.of_below hb) (fun k hk => hk.elim), (hb.cell (cell_lt h.fb)).trans h.fb, h.fl, h.fo, h.low⟩

/-- What the whole may write. -/
def Tz (c : Cfg) (E : Env) (k : Nat) : Prop := E.LB ≤ k ∨ k = E.g ∨ ∃ id, id < c.m ∧ k = c.IB id

theorem Tk_Tz {c : Cfg} {E : Env} {w : World} {n : Nat} {f : Nat → Value} {J : Nat → Int} {v : Value} {l : List Nat} (h : PS c E w n f J v l) (k : Nat) (hk : Tk c E.LB v k) : Tz c E k := by
  rcases hk with hk | hk
  · exact .inl (Tl_ge h.lm h.low.lb k hk)
  · exact .inr (.inr hk)

theorem pred_any (c : Cfg) (ok : c.Ok) (E : Env) (w : World) (n : Nat) (f : Nat → Value) (J : Nat → Int) (v : Value) (l : List Nat) (x : Nat) (hx : x < c.m) (h : PS c E w n f J v l) (hlen : l.length ≤ 4096) (hlo : E.LO ≤ E.g ∧ ∀ id, id < c.m → E.LO ≤ c.IB id) :
    Calls Yba.prog 13 #[.agg #[.int .u64 (wall (c.at_ x)), .int .i64 (ext (c.at_ x)), .pointer none, .int .u64 (c.rk x), .pointer (some ⟨c.IB x, 0, none⟩)], .pointer (some ⟨E.FB, 0, none⟩)] w
      fun e w' => e = .returned (.bool (E.del x)) ∧ ∃ v', PS c E w' n f J v' (l ++ [x]) ∧ Kept (Tk c E.LB v) w w' := by
  refine (cl13_any c ok w E.Q E.g n E.cap E.LB E.B E.LO E.DB E.FB f (dJ E J l) E.ad E.nd E.cd E.D v l x hx h.low h.qm h.lm h.dm h.fb hlen).mono ?_
  rintro e w' ⟨rfl, v', lm', qm', hK, hv⟩
  have hfl := h.fl
  refine ⟨rfl, v', ⟨lm', ?_, h.dm.kept hK ?_, hK.cell h.fb ?_, hfl, ?_, h.low⟩, hK⟩
  · rw [dJ_snoc]; exact qm'
  · intro k hk
    rcases hk with hk | ⟨id, hid, rfl⟩
    · have := Tl_ge h.lm h.low.lb k hk; have := h.low.lo; omega
    · exact hlo.2 id hid
  · intro ht
    rcases ht with (e | e) | ⟨id, hid, e⟩
    · simp at e; omega
    · exact h.fo e
    · have := h.low.i id hid; simp at e; omega
  · rcases hv with e | ⟨k, e, hk⟩
    · rw [e]; exact h.fo
    · rw [e]; have := cell_lt h.fb; simp at this ⊢; omega

theorem take_snoc (L : Array Nat) (i : Nat) (hi : i < L.size) : L.toList.take (i + 1) = L.toList.take i ++ [at0 L i] := by
  rw [List.take_add_one]
  simp [at0, Array.getD, hi]

set_option maxHeartbeats 2000000 in
theorem index_any (c : Cfg) (ok : c.Ok) (E : Env) (w : World) (f : Nat → Value) (J : Nat → Int) (v : Value) (L : Array Nat) (hL : L.size ≤ 4096) (hids : Ids c L) (hA : Holds c f L) (h : PS c E w L.size f J v []) (hlo : E.LO ≤ E.g ∧ ∀ id, id < c.m → E.LO ≤ c.IB id) :
    Calls Yba.prog 22 #[.slice (some ⟨E.g, 0, none⟩) L.size E.cap, .func (.func 13) #[] #[.pointer (some ⟨E.FB, 0, none⟩)]] w fun e w' => Kept (Tz c E) w w' ∧ ∃ v',
      ((e = .returned (.int .i64 (-1)) ∧ (∀ k, k < L.size → E.del (at0 L k) = false) ∧ PS c E w' L.size f J v' L.toList) ∨
       (∃ i, i < L.size ∧ e = .returned (.int .i64 (i : Int)) ∧ (∀ k, k < i → E.del (at0 L k) = false) ∧ E.del (at0 L i) = true ∧ PS c E w' L.size f J v' (L.toList.take (i + 1)))) := by
  have hnc := h.qm.nc
  obtain ⟨n, hn⟩ : ∃ n, n = L.size := ⟨_, rfl⟩
  rw [← hn] at h hL hnc ⊢
  have HN : Hid (n = L.size) := hn
  clear hn
  go_enter Yba.func22, Yba.ntmps22
  go_wp2
  go_loopw [8] (fun v wr => ∃ (i : Nat) (v1 : Value), i ≤ n ∧ v = .int .i64 i ∧ Hid (∀ k, k < i → E.del (at0 L k) = false) ∧ PS c E wr n f J v1 (L.toList.take i) ∧ Kept (Tz c E) w wr) (fun v _ => n - (intOf v).toNat)
  case atStart => exact ⟨0, v, Nat.zero_le _, rfl, fun k hk => by omega, by simpa using h, Kept.refl _ _⟩
  case round =>
    obtain ⟨i, v1, hin, rfl, hbef, hP, hK⟩ := hrel
    clear h
    by_cases hlt : i < n
    · have hii : (i : Int) < (n : Int) := by omega
      obtain ⟨y, hy⟩ : ∃ y, y = at0 L i := ⟨_, rfl⟩
      have HY : Hid (y = at0 L i) := hy
      have hym : y < c.m := by rw [hy]; exact hids _ (by have := HN.out; omega)
      obtain ⟨e0, e1, e2, e3, e4⟩ := entry_cells (c := c) hP.qm.row i y (by have := hP.qm.nc; omega) (fun t ht => by rw [hy]; exact hA _ (by have := HN.out; omega) t ht)
      clear hy
      go_wp2_with fail
      refine (pred_any c ok E _ n f J v1 _ y hym hP (by simp; omega) hlo).mono ?_
      rintro e w2 ⟨rfl, v2, hP2, hK2⟩
      have hK3 : Kept (Tz c E) w w2 := hK.trans (hK2.mono (fun k _ hk => Tk_Tz hP k hk))
      have HP : Hid (PS c E w2 n f J v2 (L.toList.take (i + 1))) := by
        show PS _ _ _ _ _ _ _ _
        rw [take_snoc L i (by have := HN.out; omega), ← HY.out]; exact hP2
      clear hP2 hP hK2 hK e0 e1 e2 e3 e4
      cases hd : E.del y with
      | true =>
        go_wp2
        go_ret
        exact ⟨hK3, v2, .inr ⟨i, hlt, rfl, hbef.out, by rw [← HY.out]; exact hd, HP.out⟩⟩
      | false =>
        go_wp2
        go_roundw
        case rel =>
          refine ⟨i + 1, v2, by omega, by simp, fun k hk => ?_, HP.out, hK3⟩
          by_cases e : k = i
          · subst e; rw [← HY.out]; exact hd
          · exact hbef.out k (by omega)
        case measure => simp [intOf]; omega
    · obtain rfl : i = n := by omega
      go_wp2
      go_ret
      refine ⟨hK, v1, .inl ⟨rfl, hbef.out, ?_⟩⟩
      have := hP
      rwa [List.take_of_length_le (by simp; have := HN.out; omega)] at this
end Go.Proofs.Ybulkdnfc
