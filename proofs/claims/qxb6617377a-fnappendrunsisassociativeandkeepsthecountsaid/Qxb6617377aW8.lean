/-
  ZZAppendRuns, callAppendRuns.
-/
import Derived.Test.Qxb6617377aW7
namespace Go.Proofs.Qxb6617377a
set_option linter.unusedVariables false
set_option linter.unusedSimpArgs false
open Go.RowKit

theorem zipped (L : List (Int × Int)) : (L.map Prod.fst).zip (L.map Prod.snd) = L := by
  induction L with
  | nil => rfl
  | cons p L ih => simp [ih]

theorem fl_rF (L : List (Int × Int)) (j : Nat) (hj : j < L.length * 2) : (fl L)[j]? = some (rF (rR L) (rN L) j) := by
  rcases Nat.mod_two_eq_zero_or_one j with h | h
  · have e : j = j / 2 * 2 := by omega
    rw [e, (fl_get L (j / 2) (by omega)).1, rF_even]
  · have e : j = j / 2 * 2 + 1 := by omega
    rw [e, (fl_get L (j / 2) (by omega)).2, rF_odd]

theorem Rs.og {w : World} {e : TypeId} {a : Option Addr} {L : List (Int × Int)} {B : Nat} (h : Rs w e a L) (hb : ∀ x, a = some x → B ≤ x.block) (hlen : L.length ≤ 1048576) : Og w B e (.slice a L.length L.length) L := by
  refine ⟨fl_len L, ?_⟩
  rcases h with ⟨rfl, rfl⟩ | ⟨g, rfl, c, hc, hn, hr⟩
  · exact .inl ⟨rfl, rfl⟩
  · refine .inr ⟨g, L.length, c, rfl, hb _ rfl, hc, Nat.le_refl _, by unfold maxLen; omega, hn, ?_⟩
    apply List.ext_getElem?
    intro j
    by_cases hj : j < L.length * 2
    · rw [List.getElem?_take, if_pos hj, fl_rF L j hj]
      simpa using hr j hj
    · rw [List.getElem?_eq_none (by rw [List.length_take]; omega), List.getElem?_eq_none (by rw [fl_len]; omega)]

theorem Og.ro {w : World} {B : Nat} {e : TypeId} {v : Value} {L : List (Int × Int)} (h : Og w B e v L) : ∃ a c, v = .slice a L.length c ∧ Ro w a L := by
  rcases h.form with ⟨rfl, rfl⟩ | ⟨g, cap, rfl⟩
  · exact ⟨none, 0, rfl, (fun _ => rfl), (fun i hi => by simp at hi)⟩
  · refine ⟨some ⟨g, 0, none⟩, cap, rfl, (fun e => by cases e), fun i hi => ⟨g, 0, rfl, ?_, ?_⟩⟩
    · have := World.ownsRow.cellAt h (i * 2) (by omega)
      rw [(fl_get L i hi).1] at this
      simpa using this
    · have := World.ownsRow.cellAt h (i * 2 + 1) (by omega)
      rw [(fl_get L i hi).2] at this
      simpa using this

theorem Sp.later {w w' : World} {ra na : Option Addr} {X Y : List Int} (h : Sp w ra na X Y) (hb : Below w.heap.size w w') : Sp w' ra na X Y := ⟨h.1, h.2.1, h.2.2.1.later hb, h.2.2.2.later hb⟩

theorem Rs.lt {w : World} {e : TypeId} {a : Option Addr} {L : List (Int × Int)} (h : Rs w e a L) : ∀ x, a = some x → x.block < w.heap.size := by
  rcases h with ⟨rfl, _⟩ | ⟨g, rfl, hr⟩
  · intro x e; cases e
  · intro x e; cases e; exact hr.lt

set_option maxHeartbeats 4000000 in
theorem zzAppend_any (ra na rb nb : Option Addr) (c1 c2 c3 c4 : Nat) (L M : List (Int × Int)) (w : World) (hL : L.length ≤ 262144) (hM : M.length ≤ 262144)
    (h1 : Hid (Sp w ra na (L.map Prod.fst) (L.map Prod.snd))) (h2 : Hid (Sp w rb nb (M.map Prod.fst) (M.map Prod.snd))) :
    Calls Try.prog 18 #[.slice ra L.length c1, .slice na L.length c2, .slice rb M.length c3, .slice nb M.length c4] w fun e w' => ∃ ra' na', e = .returned (.tuple #[.slice ra' (apR L M).length (apR L M).length, .slice na' (apR L M).length (apR L M).length]) ∧ Sp w' ra' na' ((apR L M).map Prod.fst) ((apR L M).map Prod.snd) ∧ Below w.heap.size w w' := by
  have hR := (apR_len L M).2
  go_enter Try.func18, Try.ntmps18
  go_wp2_with fail
  have t1 := toRuns_new ra na c1 c2 (L.map Prod.fst) (L.map Prod.snd) w (by rw [List.length_map]; omega) h1
  rw [List.length_map, zipped] at t1
  refine t1.mono ?_
  rintro e w1 ⟨a1, rfl, r1, b1, n1⟩
  have R1 := hide r1
  have B1 := hide b1
  have N1 := hide n1
  clear r1 b1 n1 t1
  go_wp2_with fail
  have t2 := toRuns_new rb nb c3 c4 (M.map Prod.fst) (M.map Prod.snd) w1 (by rw [List.length_map]; omega) (h2.out.later B1.out)
  rw [List.length_map, zipped] at t2
  refine t2.mono ?_
  rintro e w2 ⟨a2, rfl, r2, b2, n2⟩
  have R2 := hide r2
  have B2 := hide b2
  have N2 := hide n2
  clear r2 b2 n2 t2
  go_wp2_with fail
  have hs1 := B1.out.size
  have hs2 := B2.out.size
  refine (appendRuns_any w.heap.size (.slice a1 L.length L.length) a2 M.length L M w2 (by omega) hL hM ((R1.out.later B2.out).og N1.out (by omega)) R2.out.ro ?_).mono ?_
  · intro x hx e
    have k1 := N2.out x hx
    cases a1 with
    | none => simp [Value.ownBlock] at e
    | some y =>
      have k2 := R1.out.lt y rfl
      simp [Value.ownBlock] at e
      omega
  rintro e w3 ⟨v3, rfl, o3, g3⟩
  obtain ⟨a3, c5, rfl, ro3⟩ := o3.ro
  have RO3 := hide ro3
  have B3 : Hid (Below w.heap.size w w3) := (below_step B1.out B2.out (Nat.le_refl _)).grown g3 (by omega) (fun k hk => by
    cases a1 with
    | none => simp [Value.ownBlock] at hk
    | some y => simp [Value.ownBlock] at hk; subst hk; exact N1.out y rfl)
  clear o3 g3 ro3
  go_wp2_with fail
  refine (from_any a3 c5 (apR L M) w3 (by omega) RO3).mono ?_
  rintro e w4 ⟨ra', na', rfl, sp, b4, _, _⟩
  have SP := hide sp
  have B4 := hide b4
  clear sp b4
  go_wp2_with fail
  go_ret2
  exact ⟨ra', na', rfl, SP.out, below_step B3.out B4.out (Nat.le_refl _)⟩

set_option maxHeartbeats 4000000 in
theorem callAppend_any (a b : Option Addr) (c d : Nat) (L M : List (Int × Int)) (w : World) (hL : L.length ≤ 262144) (hM : M.length ≤ 262144) (ha : Hid (Ro w a L)) (hb : Hid (Ro w b M)) :
    Calls Try.prog 12 #[.slice a L.length c, .slice b M.length d] w fun e w' => ∃ a', e = .returned (.slice a' (apR L M).length (apR L M).length) ∧ Rs w' 36 a' (apR L M) ∧ Below w.heap.size w w' := by
  have hR := (apR_len L M).2
  go_enter Try.func12, Try.ntmps12
  go_wp2_with fail
  refine (split_any a c L w (by omega) ha).mono ?_
  rintro e w1 ⟨ra, na, rfl, s1, b1, _, _⟩
  have S1 := hide s1
  have B1 := hide b1
  clear s1 b1
  go_wp2_with fail
  refine (split_any b d M w1 (by omega) (hb.out.later B1.out)).mono ?_
  rintro e w2 ⟨rb, nb, rfl, s2, b2, _, _⟩
  have S2 := hide s2
  have B2 := hide b2
  clear s2 b2
  go_wp2_with fail
  refine (zzAppend_any ra na rb nb _ _ _ _ L M w2 hL hM (S1.out.later B2.out) S2).mono ?_
  rintro e w3 ⟨rc, nc, rfl, s3, b3⟩
  have S3 := hide s3
  have B3 := hide b3
  clear s3 b3
  go_wp2_with fail
  have t := joinRuns_any rc nc (apR L M).length (apR L M).length ((apR L M).map Prod.fst) ((apR L M).map Prod.snd) w3 (by rw [List.length_map]; omega) S3
  rw [List.length_map, zipped] at t
  refine t.mono ?_
  rintro e w4 ⟨a', rfl, r4, b4, _⟩
  have R4 := hide r4
  have B4 := hide b4
  clear r4 b4 t
  go_wp2_with fail
  go_ret
  exact ⟨a', rfl, R4.out, below_step (below_step (below_step B1.out B2.out (Nat.le_refl _)) B3.out (Nat.le_refl _)) B4.out (Nat.le_refl _)⟩

end Go.Proofs.Qxb6617377a
