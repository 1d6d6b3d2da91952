import Derived.Test.Qxb6616904aFmtW8
import Derived.Test.Qxb6616904aFmtPlain2
namespace Go.Proofs.Qxb6616904aFmt
set_option linter.unusedVariables false
set_option linter.unusedSimpArgs false
open Go.RowKit Go.Extern.Stop Go.Stop Go.Extern

/-- what the levels' row holds: every element is a level (names empty); the first ones are those of L -/
def LvG (g : Nat → Value) (cap : Nat) (L : List (Int × Bool)) : Prop :=
  (∀ k, k < cap → (∃ x : Int, g (k * 4) = .int .u8 x) ∧ (∃ b : Bool, g (k * 4 + 1) = .bool b) ∧ g (k * 4 + 2) = .slice none 0 0) ∧ ∀ k x, L[k]? = some x → g (k * 4) = .int .u8 x.1 ∧ g (k * 4 + 1) = .bool x.2

theorem LvG.front {g : Nat → Value} {cap : Nat} {L L' : List (Int × Bool)} (h : LvG g cap (L ++ L')) : LvG g cap L :=
  ⟨h.1, fun k x hx => h.2 k x (by rw [List.getElem?_append_left (List.getElem?_eq_some_iff.1 hx).1]; exact hx)⟩

/-- the three cells of level n set -/
def set3 (g : Nat → Value) (n : Nat) (a b c : Value) : Nat → Value := fun j => if j = n * 4 + 2 then c else if j = n * 4 + 1 then b else if j = n * 4 then a else g j

theorem set3_other (g : Nat → Value) (n : Nat) (a b c : Value) (k : Nat) (h : k ≠ n) : set3 g n a b c (k * 4) = g (k * 4) ∧ set3 g n a b c (k * 4 + 1) = g (k * 4 + 1) ∧ set3 g n a b c (k * 4 + 2) = g (k * 4 + 2) := by
  unfold set3
  refine ⟨?_, ?_, ?_⟩ <;> rw [if_neg (by omega), if_neg (by omega), if_neg (by omega)]

theorem set3_at (g : Nat → Value) (n : Nat) (a b c : Value) : set3 g n a b c (n * 4) = a ∧ set3 g n a b c (n * 4 + 1) = b ∧ set3 g n a b c (n * 4 + 2) = c := by
  unfold set3
  refine ⟨?_, ?_, ?_⟩
  · rw [if_neg (by omega), if_neg (by omega), if_pos rfl]
  · rw [if_neg (by omega), if_pos rfl]
  · rw [if_pos rfl]

theorem LvG.push {g : Nat → Value} {cap : Nat} {L : List (Int × Bool)} (h : LvG g cap L) (x : Int) (b : Bool) : LvG (set3 g L.length (.int .u8 x) (.bool b) (.slice none 0 0)) cap (L ++ [(x, b)]) := by
  obtain ⟨s0, s1, s2⟩ := set3_at g L.length (.int .u8 x) (.bool b) (.slice none 0 0)
  refine ⟨fun k hk => ?_, fun k y hy => ?_⟩
  · by_cases e : k = L.length
    · subst e
      exact ⟨⟨x, s0⟩, ⟨b, s1⟩, s2⟩
    · obtain ⟨o0, o1, o2⟩ := set3_other g L.length (.int .u8 x) (.bool b) (.slice none 0 0) k e
      rw [o0, o1, o2]
      exact h.1 k hk
  · by_cases e : k = L.length
    · subst e
      simp at hy
      subst hy
      exact ⟨s0, s1⟩
    · obtain ⟨o0, o1, o2⟩ := set3_other g L.length (.int .u8 x) (.bool b) (.slice none 0 0) k e
      have hlt : k < L.length := by
        have := (List.getElem?_eq_some_iff.1 hy).1
        simp at this
        omega
      rw [o0, o1]
      rw [List.getElem?_append_left hlt] at hy
      exact h.2 k y hy

theorem LvG.items {g : Nat → Value} {cap : Nat} {L : List (Int × Bool)} {x : Int} {b : Bool} (h : LvG g cap (L ++ [(x, b)])) : LvG (fun j => if j = L.length * 4 + 1 then .bool true else g j) cap (L ++ [(x, true)]) := by
  refine ⟨fun k hk => ?_, fun k y hy => ?_⟩
  · have := h.1 k hk
    by_cases e : k = L.length
    · subst e
      simp only [if_true]
      rw [if_neg (by omega), if_neg (by omega)]
      exact ⟨this.1, ⟨true, rfl⟩, this.2.2⟩
    · simp only []
      rw [if_neg (by omega), if_neg (by omega), if_neg (by omega)]
      exact this
  · by_cases e : k = L.length
    · subst e
      simp at hy
      subst hy
      simp only [if_true]
      rw [if_neg (by omega)]
      exact ⟨(h.2 L.length (x, b) (by simp)).1, trivial⟩
    · have hlt : k < L.length := by
        have := (List.getElem?_eq_some_iff.1 hy).1
        simp at this
        omega
      simp only []
      rw [if_neg (by omega), if_neg (by omega)]
      rw [List.getElem?_append_left hlt] at hy
      exact h.2 k y (by rw [List.getElem?_append_left hlt]; exact hy)

theorem LvG.grown {g g' : Nat → Value} {C : Nat} {L : List (Int × Bool)} (h : LvG g L.length L) (hold : ∀ j, j < L.length * 4 → g' j = g j)
    (hnew : ∀ k, L.length ≤ k → k < C → g' (k * 4) = .int .u8 0 ∧ g' (k * 4 + 1) = .bool false ∧ g' (k * 4 + 2) = .slice none 0 0 ∧ g' (k * 4 + 3) = .slice none 0 0) : LvG g' C L := by
  refine ⟨fun k hk => ?_, fun k y hy => ?_⟩
  · by_cases hlt : k < L.length
    · rw [hold _ (by omega), hold _ (by omega), hold _ (by omega)]
      exact h.1 k hlt
    · obtain ⟨a, b, c, _⟩ := hnew k (by omega) hk
      exact ⟨⟨0, a⟩, ⟨false, b⟩, c⟩
  · have hlt := (List.getElem?_eq_some_iff.1 hy).1
    rw [hold _ (by omega), hold _ (by omega)]
    exact h.2 k y hy

/-- the levels in memory -/
def LvOk (w : World) (rb : Nat) (la : Option Addr) (L : List (Int × Bool)) (cap : Nat) : Prop :=
  (la = none ∧ L = [] ∧ cap = 0) ∨ ∃ lb g, la = some ⟨lb, 0, none⟩ ∧ rb < lb ∧ L.length ≤ cap ∧ cap ≤ 9223372036854775807 ∧ w.rowIs lb 55 (cap * 4) g ∧ LvG g cap L

/-- THE READER IN MEMORY: at block rb lies a reader of D in state s -/
def Rd (w : World) (rb : Nat) (D : List Int) (s : RS) : Prop :=
  ∃ da dc ev la cap, w.rowIs rb 45 4 (rdF (.slice da D.length dc) (.int .i64 s.pos) ev (.slice la s.lv.length cap)) ∧ Bs w da D ∧ Lo da rb ∧ D.length ≤ 1048576 ∧
    (s.err = false ∧ ev = .nilIface ∨ s.err = true ∧ ∃ v, ev = .iface 62 v) ∧ LvOk w rb la s.lv cap ∧ s.ok D

theorem LvOk.fr {w w' : World} {rb : Nat} {la : Option Addr} {L : List (Int × Bool)} {cap : Nat} (h : LvOk w rb la L cap) (hf : Fr rb w w') : LvOk w' rb la L cap := by
  rcases h with h | ⟨lb, g, h1, h2, h3, h4, h5, h6⟩
  · exact .inl h
  · exact .inr ⟨lb, g, h1, h2, h3, h4, hf.row h5 (by omega), h6⟩

theorem Rd.lt {w : World} {rb : Nat} {D : List Int} {s : RS} (h : Rd w rb D s) : rb < w.heap.size := by
  obtain ⟨da, dc, ev, la, cap, hr, _⟩ := h
  exact hr.lt

theorem Rd.ok {w : World} {rb : Nat} {D : List Int} {s : RS} (h : Rd w rb D s) : s.ok D := by
  obtain ⟨da, dc, ev, la, cap, _, _, _, _, _, _, h⟩ := h
  exact h

theorem Rd.later {w w' : World} {rb B : Nat} {D : List Int} {s : RS} (h : Rd w rb D s) (hb : Below B w w') (hB : w.heap.size ≤ B) : Rd w' rb D s := by
  obtain ⟨da, dc, ev, la, cap, hr, hbs, hlo, hlen, hev, hlv, hok⟩ := h
  refine ⟨da, dc, ev, la, cap, hr.of_block (hb.block rb (Nat.lt_of_lt_of_le hr.lt hB)), hbs.later hb (fun x hx => Nat.lt_of_lt_of_le (hlo x hx) (by have := hr.lt; omega)), hlo, hlen, hev, ?_, hok⟩
  rcases hlv with h | ⟨lb, g, h1, h2, h3, h4, h5, h6⟩
  · exact .inl h
  · exact .inr ⟨lb, g, h1, h2, h3, h4, h5.of_block (hb.block lb (Nat.lt_of_lt_of_le h5.lt hB)), h6⟩

theorem row_set3 {w : World} {lb n cap : Nat} {g : Nat → Value} {a b c : Value} (h : w.rowIs lb 55 (cap * 4) g) :
    (((w.setCell ⟨lb, n * 4, none⟩ a).setCell ⟨lb, n * 4 + 1, none⟩ b).setCell ⟨lb, n * 4 + 2, none⟩ c).rowIs lb 55 (cap * 4) (set3 g n a b c) :=
  (((h.set (n * 4) a).set (n * 4 + 1) b).set (n * 4 + 2) c).congr fun j _ => rfl

theorem below_set3 {w w1 : World} {rb lb n : Nat} {a b c : Value} (h : Below rb w w1) (hlb : rb ≤ lb) :
    Below rb w (((w1.setCell ⟨lb, n * 4, none⟩ a).setCell ⟨lb, n * 4 + 1, none⟩ b).setCell ⟨lb, n * 4 + 2, none⟩ c) :=
  ((h.setCell hlb _).setCell hlb _).setCell hlb _

theorem row_other3 {w : World} {rb lb n : Nat} {t m : Nat} {f : Nat → Value} {a b c : Value} (h : w.rowIs rb t m f) (hne : rb ≠ lb) :
    (((w.setCell ⟨lb, n * 4, none⟩ a).setCell ⟨lb, n * 4 + 1, none⟩ b).setCell ⟨lb, n * 4 + 2, none⟩ c).rowIs rb t m f :=
  ((h.setOther hne _).setOther hne _).setOther hne _

theorem enter_rd (F : Interp) (rb : Nat) (D : List Int) (s : RS) (w : World) (hF : F.answers w.tape) (h : Rd w rb D s) (he : s.err = false) :
    Calls Tryf.prog 11 #[.pointer (some ⟨rb, 0, none⟩)] w fun e w' => e = .returned (.tuple #[]) ∧ Below rb w w' ∧ Rd w' rb D (enter D s) := by
  have hok' := enter_ok h.ok
  obtain ⟨da, dc, ev, la, cap, hr, hbs, hlo, hlen, hev, hlv, hok⟩ := h
  have hev : ev = .nilIface := by
    rcases hev with ⟨_, h⟩ | ⟨h, _⟩
    · exact h
    · rw [he] at h; cases h
  subst hev
  by_cases hc : pk D (skip D s.pos) = 91 ∨ pk D (skip D s.pos) = 123
  · by_cases hl : s.lv.length = 10000
    · refine (enter_deep F rb dc da la D s.pos s.lv.length cap w hF hlen hok.pos hr hbs hlo (by simp [hl]) hc).mono ?_
      rintro e w' ⟨rfl, hf, v, hr'⟩
      have he : enter D s = ⟨skip D s.pos, true, s.lv⟩ := by unfold enter; rw [if_neg (fun h => h.2 hl)]
      rw [he] at hok' ⊢
      exact ⟨rfl, hf.below (Nat.le_refl _) hr.lt, da, dc, _, la, cap, hr', hbs.later (hf.below (Nat.le_refl _) hr.lt) hlo, hlo, hlen, .inr ⟨rfl, v, rfl⟩, hlv.fr hf, hok'⟩
    · have he : enter D s = ⟨skip D s.pos + 1, false, s.lv ++ [(closer (pk D (skip D s.pos)), false)]⟩ := by unfold enter; rw [if_pos ⟨hc, hl⟩]
      rw [he] at hok' ⊢
      have hl' : s.lv.length < 10000 := by have := hok.depth; omega
      by_cases hroom : s.lv.length < cap
      · rcases hlv with ⟨_, _, rfl⟩ | ⟨lb, g, rfl, hlb, h3, h4, h5, h6⟩
        · omega
        · obtain ⟨⟨x, g0⟩, ⟨b, g1⟩, g2⟩ := h6.1 s.lv.length hroom
          refine (enter_room rb lb dc da D s.pos s.lv.length cap g x b w hlen hok.pos hr hbs hlo hl' h4 hroom (by omega) h5 g0 g1 g2 hc).mono ?_
          rintro e w' ⟨rfl, w1, hf, hr1, rfl⟩
          have hbel := hf.below (Nat.le_refl _) hr.lt
          have hbel' := below_set3 (n := s.lv.length) (a := .int .u8 (closer (pk D (skip D s.pos)))) (b := .bool false) (c := .slice none 0 0) hbel (Nat.le_of_lt hlb)
          refine ⟨rfl, hbel', da, dc, .nilIface, some ⟨lb, 0, none⟩, cap, ?_, hbs.later hbel' hlo, hlo, hlen, .inl ⟨rfl, rfl⟩, .inr ⟨lb, _, rfl, hlb, by simp; omega, h4, row_set3 (hf.row h5 (by omega)), h6.push _ _⟩, hok'⟩
          have := row_other3 (n := s.lv.length) (a := .int .u8 (closer (pk D (skip D s.pos)))) (b := .bool false) (c := .slice none 0 0) hr1 (show rb ≠ lb by omega)
          simpa using this
      · obtain ⟨g, rfl, hla, hG⟩ : ∃ g, cap = s.lv.length ∧ (la = none ∧ s.lv.length = 0 ∨ ∃ lb, la = some ⟨lb, 0, none⟩ ∧ lb ≠ rb ∧ w.rowIs lb 55 (s.lv.length * 4) g) ∧ LvG g s.lv.length s.lv := by
          rcases hlv with ⟨rfl, h2, rfl⟩ | ⟨lb, g, rfl, hlb, h3, h4, h5, h6⟩
          · refine ⟨fun _ => undef, by simp [h2], .inl ⟨rfl, by simp [h2]⟩, ?_⟩
            rw [h2]
            exact ⟨fun k hk => by simp at hk, fun k x hx => by simp at hx⟩
          · have e : cap = s.lv.length := by omega
            subst e
            exact ⟨g, rfl, .inr ⟨lb, rfl, by omega, h5⟩, h6⟩
        refine (enter_grow rb dc da la D s.pos s.lv.length g w hlen hok.pos hr hbs hlo hl' hla hc).mono ?_
        rintro e w' ⟨rfl, lb, C, g', w1, hf, hlb, hr1, hC1, hC2, hrow, hold, hnew, rfl⟩
        have hrb := hr.lt
        have hbel := hf.below (Nat.le_refl _) hr.lt
        have hbel' := below_set3 (n := s.lv.length) (a := .int .u8 (closer (pk D (skip D s.pos)))) (b := .bool false) (c := .slice none 0 0) hbel (show rb ≤ lb by omega)
        refine ⟨rfl, hbel', da, dc, .nilIface, some ⟨lb, 0, none⟩, C, ?_, hbs.later hbel' hlo, hlo, hlen, .inl ⟨rfl, rfl⟩, .inr ⟨lb, _, rfl, by omega, by simp; omega, hC2, row_set3 hrow, (hG.grown hold hnew).push _ _⟩, hok'⟩
        have := row_other3 (n := s.lv.length) (a := .int .u8 (closer (pk D (skip D s.pos)))) (b := .bool false) (c := .slice none 0 0) hr1 (show rb ≠ lb by omega)
        simpa using this
  · have h1 : (pk D (skip D s.pos) == 91) = false := by simp; exact fun h => hc (.inl h)
    have h2 : (pk D (skip D s.pos) == 123) = false := by simp; exact fun h => hc (.inr h)
    refine (enter_bad F rb dc da D s.pos _ w hF hlen hok.pos hr hbs hlo h1 h2).mono ?_
    rintro e w' ⟨rfl, hf, v, hr'⟩
    have he : enter D s = ⟨skip D s.pos, true, s.lv⟩ := by unfold enter; rw [if_neg (fun h => hc h.1)]
    rw [he] at hok' ⊢
    exact ⟨rfl, hf.below (Nat.le_refl _) hr.lt, da, dc, _, la, cap, hr', hbs.later (hf.below (Nat.le_refl _) hr.lt) hlo, hlo, hlen, .inr ⟨rfl, v, rfl⟩, hlv.fr hf, hok'⟩

theorem getLast?_split {L : List (Int × Bool)} {y : Int × Bool} (h : L.getLast? = some y) : L = L.dropLast ++ [y] := by
  have hne : L ≠ [] := by intro e; rw [e] at h; simp at h
  rw [List.getLast?_eq_some_getLast hne] at h
  have := List.dropLast_concat_getLast hne
  rw [Option.some.inj h] at this
  exact this.symm

theorem more_rd (F : Interp) (rb : Nat) (D : List Int) (s : RS) (w : World) (hF : F.answers w.tape) (h : Rd w rb D s) :
    Calls Tryf.prog 15 #[.pointer (some ⟨rb, 0, none⟩)] w fun e w' => e = .returned (.bool (more D s).1) ∧ Below rb w w' ∧ Rd w' rb D (more D s).2 := by
  have hok' := more_ok h.ok
  have hrd := h
  obtain ⟨da, dc, ev, la, cap, hr, hbs, hlo, hlen, hev, hlv, hok⟩ := h
  rcases hev with ⟨he, rfl⟩ | ⟨he, v, rfl⟩
  · cases hla : s.lv.getLast? with
    | none =>
      have e : more D s = (false, s) := by unfold more; rw [if_neg (by simp [he]), hla]
      have hnil : s.lv = [] := by simpa using hla
      have h3 := rd3 hr
      rw [hnil] at h3
      refine (more_none rb cap la w (rd2 hr) h3).mono ?_
      rintro e' w' ⟨rfl, rfl⟩
      rw [e]
      exact ⟨rfl, Below.refl _ _, hrd⟩
    | some y =>
      obtain ⟨x, it⟩ := y
      have hL := getLast?_split hla
      generalize s.lv.dropLast = L at hL
      have em : more D s = (if pk D (skip D s.pos) = x then (false, ⟨skip D s.pos + 1, false, L⟩)
          else if it = false then (true, ⟨skip D s.pos, false, L ++ [(x, true)]⟩)
          else if pk D (skip D s.pos) = 44 then (true, ⟨skip D (skip D s.pos + 1), false, L ++ [(x, true)]⟩)
          else (false, ⟨skip D s.pos, true, s.lv⟩)) := by
        unfold more
        rw [if_neg (by simp [he]), hla]
        have : s.lv.dropLast = L := by rw [hL]; simp
        rw [this]
      have hlen' : s.lv.length = L.length + 1 := by rw [hL]; simp
      rcases hlv with ⟨_, h2, _⟩ | ⟨lb, g, rfl, hlb, h3, h4, h5, h6⟩
      · rw [h2] at hlen'; simp at hlen'
      · rw [hlen'] at hr h3
        rw [hL] at h6
        obtain ⟨g0, g1⟩ := h6.2 L.length (x, it) (by simp)
        have hm : L.length < 10000 := by have := hok.depth; omega
        by_cases c1 : pk D (skip D s.pos) = x
        · rw [if_pos c1] at em
          rw [em] at hok' ⊢
          refine (more_close rb lb dc da D s.pos L.length cap g x it w hlen hok.pos hr hbs hlo hm h4 h3 (by omega) h5 g0 g1 (by simp [c1])).mono ?_
          rintro e w' ⟨rfl, hf, hr'⟩
          exact ⟨rfl, hf.below (Nat.le_refl _) hr.lt, da, dc, _, _, cap, hr', hbs.later (hf.below (Nat.le_refl _) hr.lt) hlo, hlo, hlen, .inl ⟨rfl, rfl⟩, .inr ⟨lb, g, rfl, hlb, by show L.length ≤ cap; omega, h4, hf.row h5 (by omega), h6.front⟩, hok'⟩
        · have c1' : (pk D (skip D s.pos) == x) = false := by simp [c1]
          rw [if_neg c1] at em
          cases it with
          | false =>
            rw [if_pos rfl] at em
            rw [em] at hok' ⊢
            refine (more_first rb lb dc da D s.pos L.length cap g x w hlen hok.pos hr hbs hlo hm h4 h3 (by omega) h5 g0 g1 c1').mono ?_
            rintro e w' ⟨rfl, w1, hf, hr', rfl⟩
            have hbel := (hf.below (Nat.le_refl _) hr.lt).setCell (p := ⟨lb, L.length * 4 + 1, none⟩) (Nat.le_of_lt hlb) (.bool true)
            refine ⟨rfl, hbel, da, dc, _, _, cap, ?_, hbs.later hbel hlo, hlo, hlen, .inl ⟨rfl, rfl⟩, .inr ⟨lb, _, rfl, hlb, by simp; omega, h4, (hf.row h5 (by omega)).set _ _, h6.items⟩, hok'⟩
            have := hr'.setOther (a := ⟨lb, L.length * 4 + 1, none⟩) (show rb ≠ lb by omega) (.bool true)
            simpa using this
          | true =>
            rw [if_neg (by simp)] at em
            by_cases c2 : pk D (skip D s.pos) = 44
            · rw [if_pos c2] at em
              rw [em] at hok' ⊢
              refine (more_comma rb lb dc da D s.pos L.length cap g x w hlen hok.pos hr hbs hlo hm h4 h3 (by omega) h5 g0 g1 c1' (by simp [c2])).mono ?_
              rintro e w' ⟨rfl, w1, hf, hr', rfl⟩
              have hbel := (hf.below (Nat.le_refl _) hr.lt).setCell (p := ⟨lb, L.length * 4 + 1, none⟩) (Nat.le_of_lt hlb) (.bool true)
              refine ⟨rfl, hbel, da, dc, _, _, cap, ?_, hbs.later hbel hlo, hlo, hlen, .inl ⟨rfl, rfl⟩, .inr ⟨lb, _, rfl, hlb, by simp; omega, h4, (hf.row h5 (by omega)).set _ _, h6.items⟩, hok'⟩
              have := hr'.setOther (a := ⟨lb, L.length * 4 + 1, none⟩) (show rb ≠ lb by omega) (.bool true)
              simpa using this
            · rw [if_neg c2] at em
              rw [em] at hok' ⊢
              refine (more_fail F rb lb dc da D s.pos L.length cap g x w hF hlen hok.pos hr hbs hlo hm h4 h3 (by omega) h5 g0 g1 c1' (by simp [c2])).mono ?_
              rintro e w' ⟨rfl, hf, v, hr'⟩
              refine ⟨rfl, hf.below (Nat.le_refl _) hr.lt, da, dc, _, _, cap, ?_, hbs.later (hf.below (Nat.le_refl _) hr.lt) hlo, hlo, hlen, .inr ⟨rfl, v, rfl⟩, .inr ⟨lb, g, rfl, hlb, by show s.lv.length ≤ cap; omega, h4, hf.row h5 (by omega), by show LvG g cap s.lv; rw [hL]; exact h6⟩, hok'⟩
              show w'.rowIs rb 45 4 (rdF _ _ _ (.slice _ s.lv.length _))
              rw [hlen']
              exact hr'
  · have e : more D s = (false, s) := by unfold more; rw [if_pos he]
    refine (more_err rb 62 v w (rd2 hr)).mono ?_
    rintro e' w' ⟨rfl, rfl⟩
    rw [e]
    exact ⟨rfl, Below.refl _ _, hrd⟩

end Go.Proofs.Qxb6616904aFmt
