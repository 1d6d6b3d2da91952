import Derived.Test.Qxb6616904aFmtB
import Derived.Test.Qxb6616904aFmtPlain4
namespace Go.Proofs.Qxb6616904aFmt
set_option linter.unusedVariables false
set_option linter.unusedSimpArgs false
open Go.RowKit Go.Extern.Stop Go.Stop Go.Extern

def z16u : Array Value := #[.int .u8 0, .int .u8 0, .int .u8 0, .int .u8 0, .int .u8 0, .int .u8 0, .int .u8 0, .int .u8 0, .int .u8 0, .int .u8 0, .int .u8 0, .int .u8 0, .int .u8 0, .int .u8 0, .int .u8 0, .int .u8 0]
def z16i : Array Value := #[.int .i64 0, .int .i64 0, .int .i64 0, .int .i64 0, .int .i64 0, .int .i64 0, .int .i64 0, .int .i64 0, .int .i64 0, .int .i64 0, .int .i64 0, .int .i64 0, .int .i64 0, .int .i64 0, .int .i64 0, .int .i64 0]
theorem make16u (w : World) : (Instr.makeSlice 22 (.int .i64 0) (.int .i64 16)).run Tryf.prog w = .ok (.slice (some ⟨w.heap.size, 0, none⟩) 0 16) (w.alloc (.cells z16u 5)) := by kernel_rfl
theorem make16i (w : World) : (Instr.makeSlice 35 (.int .i64 0) (.int .i64 16)).run Tryf.prog w = .ok (.slice (some ⟨w.heap.size, 0, none⟩) 0 16) (w.alloc (.cells z16i 3)) := by kernel_rfl
theorem info3 : (Tryf.prog.info? 3).map (fun i => (i.zero, i.size, i.bytes)) = some (some (.int .i64 0), 1, 8) := by kernel_rfl

/-- the slice at block g owns the n numbers xs -/
def Ow (w : World) (B : Nat) (e : TypeId) (k : IntKind) (g cap n : Nat) (xs : List Int) : Prop := w.ownsRow B e 1 (.slice (some ⟨g, 0, none⟩) n cap) n (xs.map (Value.int k))

section
variable {w w' : World} {B B' : Nat} {e : TypeId} {k k' : IntKind} {g g' c c' n n' : Nat} {xs ys : List Int}

theorem Ow.len (h : Ow w B e k g c n xs) : xs.length = n := by have := h.1; simpa using this

theorem Ow.ne (h : Ow w B 5 k g c n xs) (h' : Ow w B 3 k' g' c' n' ys) : g ≠ g' := by
  rintro rfl
  rcases h.2 with ⟨e, _⟩ | ⟨g1, c1, cur, e, _, hh, _⟩
  · cases e
  · rcases h'.2 with ⟨e', _⟩ | ⟨g2, c2, cur', e', _, hh', _⟩
    · cases e'
    · cases e
      cases e'
      rw [hh] at hh'
      cases hh'

theorem Ow.cell (h : Ow w B e k g c n xs) {j : Nat} (hj : j < n) : w.cell? ⟨g, j, none⟩ = some (.int k (xs.getD j 0)) := by
  have hl := h.len
  have := h.cells (g := g) rfl j (.int k (xs.getD j 0)) (by simp [List.getD, show j < xs.length by omega])
  rwa [Addr.add_lit, Nat.zero_add] at this

theorem Ow.lt (h : Ow w B e k g c n xs) : g < w.heap.size := (World.ownsRow.lt h g rfl).2

theorem Ow.later (h : Ow w B e k g c n xs) (hb : Below B' w w') (hg : g < B') : Ow w' B e k g c n xs := by
  refine ⟨h.1, ?_⟩
  rcases h.2 with h | ⟨g1, c1, cur, e1, h2, hh, hr⟩
  · exact .inl h
  · cases e1
    exact .inr ⟨g, c, cur, rfl, h2, (hb.block g hg).trans hh, hr⟩

theorem Ow.of_own {v : Value} {x : Int} (h : w.ownsRow B e 1 v (n + 1) (xs.map (Value.int k) ++ [.int k x])) : ∃ g cap, v = .slice (some ⟨g, 0, none⟩) (n + 1) cap ∧ Ow w B e k g cap (n + 1) (xs ++ [x]) := by
  obtain ⟨g, cap, rfl⟩ : ∃ g cap, v = .slice (some ⟨g, 0, none⟩) (n + 1) cap := by
    rcases h.2 with ⟨_, h⟩ | ⟨g, cap, _, h, _⟩
    · omega
    · exact ⟨g, cap, h⟩
  refine ⟨g, cap, rfl, ?_⟩
  unfold Ow
  simpa using h
end

theorem Ow.made (w : World) (cur : Array Value) (e : TypeId) (k : IntKind) (B : Nat) (hB : B ≤ w.heap.size) (hc : cur.size = 16) : Ow (w.alloc (.cells cur e)) B e k w.heap.size 16 0 [] :=
  World.ownsRow_made w cur 16 hB (by unfold maxLen; omega) (by simpa using hc)

/-- what the loop has gathered at place k, and what is to come -/
def LoG (D : List Int) (k : Nat) (E : List Int) (A : List Nat) : Prop := A.length = E.length ∧ E ++ (lo D k E.length).1 = oE D ∧ A ++ (lo D k E.length).2.1 = oA D ∧ (lo D k E.length).2.2 = oS D

theorem LoG.space {D : List Int} {k : Nat} {E : List Int} {A : List Nat} (h : LoG D k E A) (hlt : k < D.length) (hsp : spB (pk D k) = true) : LoG D (k + 1) E A := by
  unfold LoG at h ⊢
  rw [lo_space hlt hsp] at h
  exact h

theorem LoG.opn {D : List Int} {k : Nat} {E : List Int} {A : List Nat} (h : LoG D k E A) (hsk : skip D k = k) (hop : pk D k = 91 ∨ pk D k = 123) (hE : E.length < 10000) : LoG D (k + 1) (E ++ [closer (pk D k)]) (A ++ [k + 1]) := by
  unfold LoG at h ⊢
  rw [lo_open (by rw [hsk]; exact hop) hE, hsk] at h
  simpa using h

theorem LoG.stop {D : List Int} {k : Nat} {E : List Int} {A : List Nat} (h : LoG D k E A) (hsk : skip D k = k) (hop : ¬ ((pk D k = 91 ∨ pk D k = 123) ∧ E.length < 10000)) : E = oE D ∧ A = oA D ∧ k = oS D := by
  unfold LoG at h
  rw [lo_stop (by rw [hsk]; exact hop), hsk] at h
  simpa using h.2

set_option maxRecDepth 100000 in
set_option maxHeartbeats 4000000 in
theorem lo_walk (a : Option Addr) (D : List Int) (w : World) (hlen : D.length ≤ 1048576) (hb : Hid (Bs w a D)) :
    Calls Tryf.prog 18 #[.slice a D.length D.length] w fun e w' => ∃ eb ec ab ac, e = .returned (.tuple #[.slice (some ⟨eb, 0, none⟩) (oE D).length ec, .slice (some ⟨ab, 0, none⟩) (oE D).length ac, .int .i64 (oS D)]) ∧ Below w.heap.size w w' ∧ Ow w' w.heap.size 5 .u8 eb ec (oE D).length (oE D) ∧ Ow w' w.heap.size 3 .i64 ab ac (oE D).length ((oA D).map Int.ofNat) := by
  have hm1 := make16u
  have hm2 := make16i
  obtain ⟨i5, hi5, hz50, hz51, hz52⟩ := info_parts info5
  obtain ⟨i3, hi3, hz30, hz31, hz32⟩ := info_parts info3
  go_enter Tryf.func18, Tryf.ntmps18
  go_wp2_with fail
  go_loopw [5, 6, 7] (fun ve va s wr => ∃ (k g1 c1 g2 c2 : Nat) (E : List Int) (A : List Nat), k ≤ D.length ∧ E.length ≤ 10000 ∧ s = .int .i64 k ∧ ve = .slice (some ⟨g1, 0, none⟩) E.length c1 ∧ va = .slice (some ⟨g2, 0, none⟩) E.length c2 ∧
      Hid (Ow wr w.heap.size 5 .u8 g1 c1 E.length E) ∧ Hid (Ow wr w.heap.size 3 .i64 g2 c2 E.length (A.map Int.ofNat)) ∧ Hid (Below w.heap.size w wr) ∧ Hid (LoG D k E A))
    (fun _ _ s _ => D.length - (intOf s).toNat)
  case atStart =>
    refine ⟨0, w.heap.size, 16, w.heap.size + 1, 16, [], [], Nat.zero_le _, Nat.zero_le _, rfl, rfl, rfl, ?_, ?_, ?_, ?_⟩
    · exact (Ow.made w z16u 5 .u8 _ (Nat.le_refl _) rfl).alloc _
    · have := Ow.made (w.alloc (.cells z16u 5)) z16i 3 .i64 w.heap.size (by simp) rfl
      exact (show Ow _ _ _ _ _ _ _ _ by simpa using this)
    · exact ((Below.refl _ _).alloc (Nat.le_refl _) _).alloc (by simp) _
    · exact ⟨rfl, rfl, rfl, rfl⟩
  case round =>
    obtain ⟨k, g1, c1, g2, c2, E, A, hk, hE, rfl, rfl, rfl, HE, HA, HL, HO⟩ := hrel
    clear hm1 hm2
    by_cases hlt : k < D.length
    · obtain ⟨db, rfl, hcl0⟩ := hb.out.cell hlt
      have hcl := cell_later HL.out hcl0
      clear hcl0
      by_cases hsp : spB (pk D k) = true
      · have HO' : Hid (LoG D (k + 1) E A) := HO.out.space hlt hsp
        go_wp2_with (first | (go_at_call 16; refine (zzIsSpace_any _ _).mono ?_; rintro e w' ⟨rfl, hw⟩; obtain rfl := hw.symm; clear hw) | fail)
        go_roundw
        case rel => exact ⟨k + 1, g1, c1, g2, c2, E, A, by omega, hE, by go_num, rfl, rfl, HE, HA, HL, HO'⟩
        case measure => simp [intOf]; omega
      · have hsp' : spB (pk D k) = false := by simpa using hsp
        have hsk : skip D k = k := skip_stop (fun h => hsp h.2)
        clear hsp
        by_cases hop : (pk D k = 91 ∨ pk D k = 123) ∧ E.length < 10000
        · obtain ⟨hop, hE2⟩ := hop
          have HO' : Hid (LoG D (k + 1) (E ++ [closer (pk D k)]) (A ++ [k + 1])) := HO.out.opn hsk hop hE2
          clear hsk
          rcases hop with h91 | h123
          · have g91 : (pk D k == 91) = true := by simp [h91]
            clear h91
            go_wp2_with (first | (go_at_call 16; refine (zzIsSpace_any _ _).mono ?_; rintro e w' ⟨rfl, hw⟩; obtain rfl := hw.symm; clear hw) | fail)
            refine (zzCloser_any _ _).mono ?_
            rintro e w' ⟨rfl, hw⟩
            obtain rfl := hw.symm
            clear hw
            go_wp2_with (at_builtin; refine wpList_append_own _ rfl (.tmp 34) (.tmp 37) 22 rfl w.heap.size 5 i5 (.int .u8 0) 1 1 Tryf.underlying22 hi5 hz50 hz51 hz52 rfl (by decide) _ _ _ rfl (HE.out.alloc _) ⟨wr.heap.size, 0, none⟩ 1 1 [.int .u8 (closer (pk D k))] rfl rfl ?ac1 ?ac2 ?ac3 ?ac4 ?ac5 ?ak)
            case ac1 => intro j u hj; match j, hj with | 0, hj => simp at hj; subst hj; simp [Addr.add]
            case ac2 => intro u hu; simp at hu; subst hu; rfl
            case ac3 => unfold maxLen; omega
            case ac4 => omega
            case ac5 => have := HL.out.size; simp; omega
            case ak =>
              intro v' w1 hown hgrow hnil
              obtain ⟨g1', c1', rfl, hOw1⟩ := Ow.of_own hown
              have hne := Ow.ne HE.out HA.out
              have hA1 : Ow w1 w.heap.size 3 .i64 g2 c2 E.length (A.map Int.ofNat) := World.ownsRow.kept (HA.out.alloc _) hgrow (.inr (by simp [Value.ownBlock]; exact fun h => hne h.symm))
              have hL1 : Below w.heap.size w w1 := (HL.out.alloc HL.out.size _).grown hgrow (by have := HL.out.size; simp; omega) (fun x hx => by simp [Value.ownBlock] at hx; subst hx; exact (World.ownsRow.lt HE.out _ rfl).1)
              have HE1 := hide hOw1
              have HA1 := hide hA1
              have HL1 := hide hL1
              clear hown hgrow hnil hOw1 hA1 hL1 hne
              go_wp2_with (at_builtin; refine wpList_append_own _ rfl (.tmp 39) (.tmp 42) 35 rfl w.heap.size 3 i3 (.int .i64 0) 1 8 Tryf.underlying35 hi3 hz30 hz31 hz32 rfl (by decide) _ _ _ rfl (HA1.out.alloc _) ⟨w1.heap.size, 0, none⟩ 1 1 [.int .i64 ((k : Int) + 1)] rfl rfl ?ad1 ?ad2 ?ad3 ?ad4 ?ad5 ?al)
              case ad1 => intro j u hj; match j, hj with | 0, hj => simp at hj; subst hj; simp [Addr.add]
              case ad2 => intro u hu; simp at hu; subst hu; rfl
              case ad3 => unfold maxLen; omega
              case ad4 => omega
              case ad5 => have := HL1.out.size; simp; omega
              case al =>
                intro v2 w2 hown hgrow hnil
                rw [← List.map_map] at hown
                obtain ⟨g2', c2', rfl, hOw2⟩ := Ow.of_own hown
                have hne := Ow.ne HE1.out HA1.out
                have hE2' : Ow w2 w.heap.size 5 .u8 g1' c1' (E.length + 1) (E ++ [closer (pk D k)]) := World.ownsRow.kept (HE1.out.alloc _) hgrow (.inr (by simp [Value.ownBlock]; exact fun h => hne h))
                have hL2 : Below w.heap.size w w2 := (HL1.out.alloc HL1.out.size _).grown hgrow (by have := HL1.out.size; simp; omega) (fun x hx => by simp [Value.ownBlock] at hx; subst hx; exact (World.ownsRow.lt HA1.out _ rfl).1)
                have HE2 := hide hE2'
                have HA2 := hide hOw2
                have HL2 := hide hL2
                clear hown hgrow hnil hOw2 hE2' hL2 hne
                go_wp2_with fail
                go_roundw
                case rel =>
                  refine ⟨k + 1, g1', c1', g2', c2', E ++ [closer (pk D k)], A ++ [k + 1], by omega, by simp; omega, by go_num, by simp, by simp, ?_, ?_, HL2, HO'⟩
                  · exact (show Ow _ _ _ _ _ _ _ _ by simpa using HE2.out)
                  · exact (show Ow _ _ _ _ _ _ _ _ by simpa using HA2.out)
                case measure => simp [intOf]; omega
          · have g91 : (pk D k == 91) = false := by simp [h123]
            have g123 : (pk D k == 123) = true := by simp [h123]
            clear h123
            go_wp2_with (first | (go_at_call 16; refine (zzIsSpace_any _ _).mono ?_; rintro e w' ⟨rfl, hw⟩; obtain rfl := hw.symm; clear hw) | fail)
            refine (zzCloser_any _ _).mono ?_
            rintro e w' ⟨rfl, hw⟩
            obtain rfl := hw.symm
            clear hw
            go_wp2_with (at_builtin; refine wpList_append_own _ rfl (.tmp 34) (.tmp 37) 22 rfl w.heap.size 5 i5 (.int .u8 0) 1 1 Tryf.underlying22 hi5 hz50 hz51 hz52 rfl (by decide) _ _ _ rfl (HE.out.alloc _) ⟨wr.heap.size, 0, none⟩ 1 1 [.int .u8 (closer (pk D k))] rfl rfl ?bc1 ?bc2 ?bc3 ?bc4 ?bc5 ?bk)
            case bc1 => intro j u hj; match j, hj with | 0, hj => simp at hj; subst hj; simp [Addr.add]
            case bc2 => intro u hu; simp at hu; subst hu; rfl
            case bc3 => unfold maxLen; omega
            case bc4 => omega
            case bc5 => have := HL.out.size; simp; omega
            case bk =>
              intro v' w1 hown hgrow hnil
              obtain ⟨g1', c1', rfl, hOw1⟩ := Ow.of_own hown
              have hne := Ow.ne HE.out HA.out
              have hA1 : Ow w1 w.heap.size 3 .i64 g2 c2 E.length (A.map Int.ofNat) := World.ownsRow.kept (HA.out.alloc _) hgrow (.inr (by simp [Value.ownBlock]; exact fun h => hne h.symm))
              have hL1 : Below w.heap.size w w1 := (HL.out.alloc HL.out.size _).grown hgrow (by have := HL.out.size; simp; omega) (fun x hx => by simp [Value.ownBlock] at hx; subst hx; exact (World.ownsRow.lt HE.out _ rfl).1)
              have HE1 := hide hOw1
              have HA1 := hide hA1
              have HL1 := hide hL1
              clear hown hgrow hnil hOw1 hA1 hL1 hne
              go_wp2_with (at_builtin; refine wpList_append_own _ rfl (.tmp 39) (.tmp 42) 35 rfl w.heap.size 3 i3 (.int .i64 0) 1 8 Tryf.underlying35 hi3 hz30 hz31 hz32 rfl (by decide) _ _ _ rfl (HA1.out.alloc _) ⟨w1.heap.size, 0, none⟩ 1 1 [.int .i64 ((k : Int) + 1)] rfl rfl ?bd1 ?bd2 ?bd3 ?bd4 ?bd5 ?bl)
              case bd1 => intro j u hj; match j, hj with | 0, hj => simp at hj; subst hj; simp [Addr.add]
              case bd2 => intro u hu; simp at hu; subst hu; rfl
              case bd3 => unfold maxLen; omega
              case bd4 => omega
              case bd5 => have := HL1.out.size; simp; omega
              case bl =>
                intro v2 w2 hown hgrow hnil
                rw [← List.map_map] at hown
                obtain ⟨g2', c2', rfl, hOw2⟩ := Ow.of_own hown
                have hne := Ow.ne HE1.out HA1.out
                have hE2' : Ow w2 w.heap.size 5 .u8 g1' c1' (E.length + 1) (E ++ [closer (pk D k)]) := World.ownsRow.kept (HE1.out.alloc _) hgrow (.inr (by simp [Value.ownBlock]; exact fun h => hne h))
                have hL2 : Below w.heap.size w w2 := (HL1.out.alloc HL1.out.size _).grown hgrow (by have := HL1.out.size; simp; omega) (fun x hx => by simp [Value.ownBlock] at hx; subst hx; exact (World.ownsRow.lt HA1.out _ rfl).1)
                have HE2 := hide hE2'
                have HA2 := hide hOw2
                have HL2 := hide hL2
                clear hown hgrow hnil hOw2 hE2' hL2 hne
                go_wp2_with fail
                go_roundw
                case rel =>
                  refine ⟨k + 1, g1', c1', g2', c2', E ++ [closer (pk D k)], A ++ [k + 1], by omega, by simp; omega, by go_num, by simp, by simp, ?_, ?_, HL2, HO'⟩
                  · exact (show Ow _ _ _ _ _ _ _ _ by simpa using HE2.out)
                  · exact (show Ow _ _ _ _ _ _ _ _ by simpa using HA2.out)
                case measure => simp [intOf]; omega
        · obtain ⟨rfl, rfl, rfl⟩ := HO.out.stop hsk hop
          clear hsk
          by_cases h91 : pk D (oS D) = 91
          · have g91 : (pk D (oS D) == 91) = true := by simp [h91]
            have hE2 : ¬ (oE D).length < 10000 := fun h => hop ⟨.inl h91, h⟩
            clear h91 hop
            go_wp2_with (first | (go_at_call 16; refine (zzIsSpace_any _ _).mono ?_; rintro e w' ⟨rfl, hw⟩; obtain rfl := hw.symm; clear hw) | fail)
            go_ret3
            exact ⟨g1, c1, g2, c2, rfl, HL.out, HE.out, HA.out⟩
          · have g91 : (pk D (oS D) == 91) = false := by simp [h91]
            by_cases h123 : pk D (oS D) = 123
            · have g123 : (pk D (oS D) == 123) = true := by simp [h123]
              have hE2 : ¬ (oE D).length < 10000 := fun h => hop ⟨.inr h123, h⟩
              clear h123 h91 hop
              go_wp2_with (first | (go_at_call 16; refine (zzIsSpace_any _ _).mono ?_; rintro e w' ⟨rfl, hw⟩; obtain rfl := hw.symm; clear hw) | fail)
              go_ret3
              exact ⟨g1, c1, g2, c2, rfl, HL.out, HE.out, HA.out⟩
            · have g123 : (pk D (oS D) == 123) = false := by simp [h123]
              clear h123 h91 hop
              go_wp2_with (first | (go_at_call 16; refine (zzIsSpace_any _ _).mono ?_; rintro e w' ⟨rfl, hw⟩; obtain rfl := hw.symm; clear hw) | fail)
              go_ret3
              exact ⟨g1, c1, g2, c2, rfl, HL.out, HE.out, HA.out⟩
    · have hsk : skip D k = k := skip_stop (fun h => hlt h.1)
      have hop : ¬ ((pk D k = 91 ∨ pk D k = 123) ∧ E.length < 10000) := by
        rw [pk_of_ge hlt]
        rintro ⟨h | h, _⟩ <;> revert h <;> decide
      obtain ⟨rfl, rfl, rfl⟩ := HO.out.stop hsk hop
      clear hsk hop
      go_wp2_with (first | (go_at_call 16; refine (zzIsSpace_any _ _).mono ?_; rintro e w' ⟨rfl, hw⟩; obtain rfl := hw.symm; clear hw) | fail)
      go_ret3
      exact ⟨g1, c1, g2, c2, rfl, HL.out, HE.out, HA.out⟩

end Go.Proofs.Qxb6616904aFmt
