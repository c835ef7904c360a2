/-
  Seat b5711aF: entryKey (9) in every mode of the law.
-/
import Derived.Test.YbulkdngeFmtStage
namespace Go.Proofs.YbulkdngeFmt
open Go.RowKit Go.Extern.Stop Go.Stop Go.Extern
set_option linter.unusedVariables false

/-- The predicate that the law laid, by its mode q. -/
def PredIs (w : World) (pv : Int) (X E : Nat) (q : Int) (v22 pi : Value) : Prop :=
  (q = 0 ∧ v22 = .pointer none ∧ pi = .nilIface) ∨
  (q = 1 ∧ ∃ N : Nat, v22 = .pointer (some ⟨N, 0, none⟩) ∧ pi = .iface 48 (.pointer (some ⟨N, 0, none⟩)) ∧ X ≠ N ∧ E ≠ N ∧ Pred w N 0 0 0 ⟨#[]⟩ (.iface 60 (.pointer (some ⟨E, 0, none⟩))) ∧ X < N) ∨
  (q = 2 ∧ ∃ N : Nat, v22 = .pointer (some ⟨N, 0, none⟩) ∧ pi = .iface 48 (.pointer (some ⟨N, 0, none⟩)) ∧ X ≠ N ∧ Pred w N 0 0 0 ⟨#[]⟩ .nilIface ∧ X < N) ∨
  (q = 3 ∧ ∃ N : Nat, v22 = .pointer (some ⟨N, 0, none⟩) ∧ pi = .iface 48 (.pointer (some ⟨N, 0, none⟩)) ∧ X ≠ N ∧ Pred w N 1 pv 0 ⟨#[]⟩ .nilIface ∧ X < N)
theorem PredIs.m0 {w : World} {pv : Int} {X E : Nat} : PredIs w pv X E 0 (.pointer none) .nilIface := .inl ⟨rfl, rfl, rfl⟩
theorem PredIs.m1 {w : World} {pv : Int} {X E : Nat} (N : Nat) (hX : X ≠ N) (hE : E ≠ N) (h : Pred w N 0 0 0 ⟨#[]⟩ (.iface 60 (.pointer (some ⟨E, 0, none⟩)))) (hL : X < N) : PredIs w pv X E 1 (.pointer (some ⟨N, 0, none⟩)) (.iface 48 (.pointer (some ⟨N, 0, none⟩))) :=
  .inr (.inl ⟨rfl, N, rfl, rfl, hX, hE, h, hL⟩)
theorem PredIs.m2 {w : World} {pv : Int} {X E : Nat} (N : Nat) (hX : X ≠ N) (h : Pred w N 0 0 0 ⟨#[]⟩ .nilIface) (hL : X < N) : PredIs w pv X E 2 (.pointer (some ⟨N, 0, none⟩)) (.iface 48 (.pointer (some ⟨N, 0, none⟩))) :=
  .inr (.inr (.inl ⟨rfl, N, rfl, rfl, hX, h, hL⟩))
theorem PredIs.m3 {w : World} {pv : Int} {X E : Nat} (N : Nat) (hX : X ≠ N) (h : Pred w N 1 pv 0 ⟨#[]⟩ .nilIface) (hL : X < N) : PredIs w pv X E 3 (.pointer (some ⟨N, 0, none⟩)) (.iface 48 (.pointer (some ⟨N, 0, none⟩))) :=
  .inr (.inr (.inr ⟨rfl, N, rfl, rfl, hX, h, hL⟩))

/-- The predicate was called once, with the whole row. -/
structure Seen (w : World) (N n : Nat) : Prop where
  calls : w.cell? ⟨N, 5, none⟩ = some (.int .i64 1)
  seen : w.cell? ⟨N, 6, none⟩ = some (.int .i64 n)
theorem Seen.below {w w' : World} {N n : Nat} (h : Seen w N n) (hb : Below w.heap.size w w') : Seen w' N n := ⟨(hb.cell (cell_lt h.calls)).trans h.calls, (hb.cell (cell_lt h.seen)).trans h.seen⟩

/-- What entryKey gives, by the mode. -/
def Out (w : World) (B n : Nat) (bs : List Int) (pv : Int) (E : Nat) (q : Int) (v22 v23 v24 : Value) : Prop :=
  (q = 0 ∧ v22 = .pointer none ∧ v24 = .nilIface ∧ OB w B v23 bs ∧ (bs = [] → v23 = .slice none 0 0)) ∨
  (q = 1 ∧ ∃ N G : Nat, v22 = .pointer (some ⟨N, 0, none⟩) ∧ v23 = .slice none 0 0 ∧ v24 = .iface 92 (.pointer (some ⟨G, 0, none⟩)) ∧ Seen w N n ∧ w.cell? ⟨G, 1, none⟩ = some (.iface 60 (.pointer (some ⟨E, 0, none⟩)))) ∨
  (q = 2 ∧ ∃ N : Nat, v22 = .pointer (some ⟨N, 0, none⟩) ∧ v23 = .slice none 0 0 ∧ v24 = .nilIface ∧ Seen w N n) ∨
  (q = 3 ∧ ∃ N : Nat, v22 = .pointer (some ⟨N, 0, none⟩) ∧ v23 = .slice none 0 0 ∧ v24 = .nilIface ∧ Seen w N n ∧ pv = 0) ∨
  (q = 3 ∧ ∃ N : Nat, v22 = .pointer (some ⟨N, 0, none⟩) ∧ v24 = .nilIface ∧ Seen w N n ∧ (¬ pv = 0) ∧ OB w B v23 bs ∧ (bs = [] → v23 = .slice none 0 0))
section
variable {w : World} {B n : Nat} {bs : List Int} {pv : Int} {E : Nat}
theorem Out.m0 (got : Value) (h : OB w B got bs) (h0 : bs = [] → got = .slice none 0 0) : Out w B n bs pv E 0 (.pointer none) got .nilIface := .inl ⟨rfl, rfl, rfl, h, h0⟩
theorem Out.m1 (N G : Nat) (hs : Seen w N n) (hG : w.cell? ⟨G, 1, none⟩ = some (.iface 60 (.pointer (some ⟨E, 0, none⟩)))) : Out w B n bs pv E 1 (.pointer (some ⟨N, 0, none⟩)) (.slice none 0 0) (.iface 92 (.pointer (some ⟨G, 0, none⟩))) := .inr (.inl ⟨rfl, N, G, rfl, rfl, rfl, hs, hG⟩)
theorem Out.m2 (N : Nat) (hs : Seen w N n) : Out w B n bs pv E 2 (.pointer (some ⟨N, 0, none⟩)) (.slice none 0 0) .nilIface := .inr (.inr (.inl ⟨rfl, N, rfl, rfl, rfl, hs⟩))
theorem Out.m3z (N : Nat) (hs : Seen w N n) (hpv : pv = 0) : Out w B n bs pv E 3 (.pointer (some ⟨N, 0, none⟩)) (.slice none 0 0) .nilIface := .inr (.inr (.inr (.inl ⟨rfl, N, rfl, rfl, rfl, hs, hpv⟩)))
theorem Out.m3 (N : Nat) (hs : Seen w N n) (hpv : ¬ pv = 0) (got : Value) (h : OB w B got bs) (h0 : bs = [] → got = .slice none 0 0) : Out w B n bs pv E 3 (.pointer (some ⟨N, 0, none⟩)) got .nilIface := .inr (.inr (.inr (.inr ⟨rfl, N, rfl, rfl, hs, hpv, h, h0⟩)))
end

theorem OB.base {w : World} {B B' : Nat} {v : Value} {bs : List Int} (h : OB w B v bs) (hB : B' ≤ B) : OB w B' v bs := by
  refine ⟨⟨h.own.1, ?_⟩, Nat.le_trans hB h.bs⟩
  rcases h.own.2 with hz | ⟨g, cap, cur, e, hb, rest⟩
  · exact .inl hz
  · exact .inr ⟨g, cap, cur, e, Nat.le_trans hB hb, rest⟩

/-- What lay there before the index was made. -/
structure Ground (w : World) (R n : Nat) (ac : Option Addr) (m : Nat) (ks : Nat → Nat) (C : Nat → Cel) (ao : Option Addr) (z c : Nat) (zs : List Int) : Prop where
  vals : Vals w R n C
  cols : Cols w ac m ks
  row : Row w ao z c zs
  hks : ∀ j, j < m → ks j < n
  ok : ∀ j, j < n → (C j).Ok
  hn : n ≤ 65536
  hm : m ≤ 65536
  hz : z ≤ 1048576

set_option maxHeartbeats 4000000 in
set_option maxRecDepth 100000 in
theorem entry_err (w : World) (X : Nat) (Q : Nat → World → Prop) (v1 : Value) (a : Option Addr) (n c : Nat) (hcov : Calls Ybaf.prog 15 #[.pointer (some ⟨X, 0, none⟩), .slice a n c] w fun e w1 => ∃ G, e = .returned (.tuple #[.bool false, .iface 92 (.pointer (some ⟨G, 0, none⟩))]) ∧ Q G w1) :
    Calls Ybaf.prog 9 #[.pointer (some ⟨X, 0, none⟩), v1, .slice a n c] w fun e w' => ∃ G, e = .returned (.tuple #[.slice none 0 0, .iface 92 (.pointer (some ⟨G, 0, none⟩))]) ∧ Q G w' := by
  have HC : Hid _ := hcov
  clear hcov
  go_enter Ybaf.func9, Ybaf.ntmps9
  go_wp2_with fail
  refine Calls.mono HC.out ?_
  rintro e w1 ⟨G, rfl, hQ⟩
  go_wp2
  exact bodyPost_ret (v := .tuple #[.slice none 0 0, .iface 92 (.pointer (some ⟨G, 0, none⟩))]) (by simp [results, Ybaf.results9]) rfl ⟨G, rfl, hQ⟩

theorem entry_any (F : Interp) (w0 w : World) (X E R n nc : Nat) (nm es : ByteArray) (ac : Option Addr) (m cc : Nat) (ks : Nat → Nat) (C : Nat → Cel) (ao : Option Addr) (z c : Nat) (zs : List Int) (q pv : Int) (v22 pi : Value) (hF : F.answers w.tape)
    (g : Ground w0 R n ac m ks C ao z c zs) (hb : Below w0.heap.size w0 w) (hX : w0.heap.size ≤ X) (ix : Ix w X nm (.slice ac m cc) pi) (hE : w.cell? ⟨E, 0, none⟩ = some (.string es)) (hp : PredIs w pv X E q v22 pi) :
    Calls Ybaf.prog 9 #[.pointer (some ⟨X, 0, none⟩), .slice ao z c, .slice (some ⟨R, 0, none⟩) n nc] w fun e w' => ∃ v23 v24, e = .returned (.tuple #[v23, v24]) ∧ Out w' w0.heap.size n (encs C ks m ++ zs) pv E q v22 v23 v24 ∧ Below w0.heap.size w0 w' := by
  have keep : ∀ (N : Nat) (w1 : World), X < N → Kept (fun b => b = N) w w1 → Below w0.heap.size w0 w1 := fun N w1 hN hK => hb.trans (hK.below hb.size (fun k hk => by omega))
  have ent : ∀ w1, Ix w1 X nm (.slice ac m cc) pi → Below w0.heap.size w0 w1 → EntryIn w1 X R n nm pi ac m cc ks C ao z c zs := fun w1 hi hb1 => ⟨hi, g.vals.below hb1, g.cols.below hb1, g.row.below hb1⟩
  rcases hp with ⟨rfl, rfl, rfl⟩ | ⟨rfl, N, rfl, rfl, hXN, hEN, h, hL⟩ | ⟨rfl, N, rfl, rfl, hXN, h, hL⟩ | ⟨rfl, N, rfl, rfl, hXN, h, hL⟩
  · refine (entry_yes w X R n nc nm .nilIface ac m cc ks C ao z c zs (fun w1 => w1 = w) (covers_none w X nm _ ix _ n nc) (fun w1 e => by subst e; exact ent _ ix hb) g.hks g.ok g.hn g.hm g.hz).mono ?_
    rintro e w' ⟨w1, v', rfl, rfl, hO, h0, hB⟩
    exact ⟨v', .nilIface, rfl, .m0 v' (hO.base hb.size) h0, hb.trans (hB.mono hb.size)⟩
  · refine (entry_err w X _ (.slice ao z c) _ n nc (covers_err F w X N E nm es _ 0 0 0 ⟨#[]⟩ hF ix h hE hXN hEN _ n nc)).mono ?_
    rintro e w' ⟨G, rfl, hG, _, h5, h6, hK⟩
    exact ⟨_, _, rfl, .m1 N G ⟨h5, h6⟩ hG, keep N w' hL hK⟩
  · refine (entry_no w X .nilIface (.inl rfl) _ (.slice ao z c) _ n nc (covers_null w X N nm _ 0 0 ⟨#[]⟩ ix h _ n nc)).mono ?_
    rintro e w' ⟨rfl, h5, h6, hK⟩
    exact ⟨_, _, rfl, .m2 N ⟨h5, h6⟩, keep N w' hL hK⟩
  · by_cases hpv : pv = 0
    · subst hpv
      refine (entry_no w X .nilIface (.inl rfl) _ (.slice ao z c) _ n nc (by simpa using covers_int w X N nm _ 0 0 ⟨#[]⟩ ix h _ n nc)).mono ?_
      rintro e w' ⟨rfl, h5, h6, hK⟩
      exact ⟨_, _, rfl, .m3z N ⟨h5, h6⟩ rfl, keep N w' hL hK⟩
    · have hc := covers_int w X N nm _ pv 0 ⟨#[]⟩ ix h (some ⟨R, 0, none⟩) n nc
      rw [show (!(pv == 0)) = true by simp [hpv]] at hc
      refine (entry_yes w X R n nc nm _ ac m cc ks C ao z c zs _ hc (fun w1 ⟨_, _, hK⟩ => ent _ (ix.kept hK hXN) (keep N w1 hL hK)) g.hks g.ok g.hn g.hm g.hz).mono ?_
      rintro e w' ⟨w1, v', ⟨h5, h6, hK⟩, rfl, hO, h0, hB⟩
      have hb1 := keep N w1 hL hK
      exact ⟨v', .nilIface, rfl, .m3 N (Seen.below ⟨h5, h6⟩ hB) hpv v' (hO.base hb1.size) h0, hb1.trans (hB.mono hb1.size)⟩
end Go.Proofs.YbulkdngeFmt
