import Derived.Test.Qxb6617377aRecent0
namespace Go.Proofs.Qxb6617377a
set_option linter.unusedVariables false
set_option linter.unusedSimpArgs false
open Go.RowKit

set_option maxRecDepth 100000 in
set_option maxHeartbeats 400000 in
theorem recent_long (a : Option Addr) (n c : Nat) (lv i : Int) (w : World) (hlen : ¬ n ≤ 1048576) :
    Calls Try.prog 3 #[.int .u8 lv, .slice a n c, .int .i64 i] w fun e w' => e = .returned (.bool true) ∧ Below w.heap.size w w' := by
  go_enter Try.func3, Try.ntmps3
  go_wp2_with (go_at_call 6; refine (zzBytes6_no _ _ _ _ _ _ hlen).mono ?_; rintro e w' ⟨rfl, rfl⟩)
  go_ret
  exact ⟨rfl, Below.refl _ _⟩

set_option maxRecDepth 100000 in
set_option maxHeartbeats 400000 in
theorem recent_long2 (a : Option Addr) (n c : Nat) (lv i : Int) (w : World) (hlen : n ≤ 1048576) (h16 : ¬ n ≤ 65536) :
    Calls Try.prog 3 #[.int .u8 lv, .slice a n c, .int .i64 i] w fun e w' => e = .returned (.bool true) ∧ Below w.heap.size w w' := by
  go_enter Try.func3, Try.ntmps3
  go_wp2_with (go_at_call 6; refine (zzBytes6_yes _ _ _ _ _ _ hlen).mono ?_; rintro e w' ⟨rfl, rfl⟩)
  go_ret
  exact ⟨rfl, Below.refl _ _⟩

set_option maxRecDepth 100000 in
set_option maxHeartbeats 4000000 in
theorem recent_empty (a : Option Addr) (c : Nat) (L : List (Int × Int)) (lv : Int) (s0 : Int) (w : World) (hlen : L.length ≤ 1048576) (h16 : L.length ≤ 65536) (hl : 0 ≤ lv) (hl2 : lv ≤ 255) (hb : Hid (Ro w a L)) (hL : Hid (okL L))
    (hs0 : Hid (slot lv L = s0)) (hb0 : 0 ≤ s0) (hb1 : s0 < 4096)
    (i : Int) (hz : ((L.length : Int) == 0) = true) (hs00 : (s0 == 0) = true) :
    Calls Try.prog 3 #[.int .u8 lv, .slice a L.length c, .int .i64 i] w fun e w' => e = .returned (.bool true) ∧ Below w.heap.size w w' := by
  go_enter Try.func3, Try.ntmps3
  go_wp2_with (go_at_call 6; refine (zzBytes6_yes _ _ _ _ _ _ hlen).mono ?_; rintro e w' ⟨rfl, hw⟩; obtain rfl := hw.symm; clear hw)
  refine (clone_any a c L _ hlen hb).mono ?_
  rintro e w1 ⟨a1, rfl, hr1, hbel1⟩
  have HR1 := hide hr1
  have HL1 := hide hbel1
  clear hr1 hbel1
  go_wp2_with fail
  refine (split_any a1 _ L _ hlen HR1.out.ro).mono ?_
  rintro e w2 ⟨ra2, na2, rfl, hs2, hbel2, hq1, hq2⟩
  have HS2 := hide hs2
  have HL2 := hide (below_step HL1.out hbel2 (Nat.le_refl _))
  have HR2 := hide (HR1.out.later hbel2)
  clear hs2 hbel2 hq1 hq2
  go_wp2_with fail
  rw [show Value.slice ra2 L.length L.length = Value.slice ra2 (L.map Prod.fst).length L.length by simp, show Value.slice na2 L.length L.length = Value.slice na2 (L.map Prod.fst).length L.length by simp]
  refine (zzRecent_any ra2 na2 _ _ (L.map Prod.fst) (L.map Prod.snd) lv _ (by simpa using hlen) hl hl2 HS2 (by rw [zip_self]; exact hL)).mono ?_
  rintro e w3 ⟨rfl, hbel3⟩
  rw [zip_self, hs0.out]
  have HL3 := hide (below_step HL2.out hbel3 (Nat.le_refl _))
  have HR3 := hide (HR2.out.later hbel3)
  clear hbel3
  go_wp2_with fail
  go_ret
  exact ⟨rfl, HL3.out⟩

set_option maxRecDepth 100000 in
set_option maxHeartbeats 8000000 in
theorem recent_mid (a : Option Addr) (c : Nat) (L : List (Int × Int)) (lv : Int) (s0 : Int) (w : World) (hlen : L.length ≤ 1048576) (h16 : L.length ≤ 65536) (hl : 0 ≤ lv) (hl2 : lv ≤ 255) (hb : Hid (Ro w a L)) (hL : Hid (okL L))
    (hs0 : Hid (slot lv L = s0)) (hb0 : 0 ≤ s0) (hb1 : s0 < 4096)
    (hpos : 0 < L.length) (hz : ((L.length : Int) == 0) = false) (i : Nat) (hii : i < L.length) (s1 s2 : Int)
    (hs1 : Hid (slot lv ((L.map Prod.fst).zip ((L.map Prod.snd).set (i) (bits .xor .i64 (rN L (i)) (-9223372036854775808)))) = s1)) (hs2 : Hid (slot lv (((L.map Prod.fst).set (i) (bits .xor .u32 (rR L (i)) 2147483648)).zip (L.map Prod.snd)) = s2))
    (hq1 : (s1 == bits BinOp.xor IntKind.i64 s0 2048) = true) (hq2 : (s2 == bits BinOp.xor IntKind.i64 s0 2048) = true) :
    Calls Try.prog 3 #[.int .u8 lv, .slice a L.length c, .int .i64 i] w fun e w' => e = .returned (.bool true) ∧ Below w.heap.size w w' := by
  go_enter Try.func3, Try.ntmps3
  go_wp2_with (go_at_call 6; refine (zzBytes6_yes _ _ _ _ _ _ hlen).mono ?_; rintro e w' ⟨rfl, hw⟩; obtain rfl := hw.symm; clear hw)
  refine (clone_any a c L _ hlen hb).mono ?_
  rintro e w1 ⟨a1, rfl, hr1, hbel1⟩
  have HR1 := hide hr1
  have HL1 := hide hbel1
  clear hr1 hbel1
  go_wp2_with fail
  refine (split_any a1 _ L _ hlen HR1.out.ro).mono ?_
  rintro e w2 ⟨ra2, na2, rfl, hs2, hbel2, hq1, hq2⟩
  have HS2 := hide hs2
  have HL2 := hide (below_step HL1.out hbel2 (Nat.le_refl _))
  have HR2 := hide (HR1.out.later hbel2)
  clear hs2 hbel2 hq1 hq2
  go_wp2_with fail
  rw [show Value.slice ra2 L.length L.length = Value.slice ra2 (L.map Prod.fst).length L.length by simp, show Value.slice na2 L.length L.length = Value.slice na2 (L.map Prod.fst).length L.length by simp]
  refine (zzRecent_any ra2 na2 _ _ (L.map Prod.fst) (L.map Prod.snd) lv _ (by simpa using hlen) hl hl2 HS2 (by rw [zip_self]; exact hL)).mono ?_
  rintro e w3 ⟨rfl, hbel3⟩
  rw [zip_self, hs0.out]
  have HL3 := hide (below_step HL2.out hbel3 (Nat.le_refl _))
  have HR3 := hide (HR2.out.later hbel3)
  clear hbel3
  go_wp2_with fail
  refine (split_any a1 _ L _ hlen HR3.out.ro).mono ?_
  rintro e w4 ⟨ra4, na4, rfl, hs4, hbel4, hq1, hq2⟩
  obtain ⟨g1, g2, e1, e2, hne, hrow1, hrow2⟩ := hs4.rows (by simpa using hpos)
  subst e1
  subst e2
  have HS4 := hide hs4
  have HL34 := hide hbel4
  have HQ2 : Hid (w3.heap.size ≤ g2) := hq2 _ rfl
  have c2 := hrow2.cell (i := i) (by simpa using hii)
  rw [nth_snd] at c2
  have f2 := hrow2.frozen (i)
  clear hne hrow1 hrow2 hs4 hbel4 hq1 hq2
  go_wp2_with fail
  have HS5 := hide (HS4.out.setN (by simpa using hpos) (i) (bits .xor .i64 (rN L (i)) (-9223372036854775808)))
  have HL35 := hide (HL34.out.setCell (p := ⟨g2, i, none⟩) HQ2.out (.int .i64 (bits .xor .i64 (rN L (i)) (-9223372036854775808))))
  have HL5 := hide (HL3.out.trans (HL35.out.mono HL3.out.size))
  have HR5 := hide (HR3.out.later HL35.out)
  rw [show Value.slice (some ⟨g1, 0, none⟩) L.length L.length = Value.slice (some ⟨g1, 0, none⟩) (L.map Prod.fst).length L.length by simp, show Value.slice (some ⟨g2, 0, none⟩) L.length L.length = Value.slice (some ⟨g2, 0, none⟩) (L.map Prod.fst).length L.length by simp]
  refine (zzRecent_any _ _ _ _ _ _ lv _ (by simpa using hlen) hl hl2 HS5 (okL_count hL.out hii _)).mono ?_
  rintro e w6 ⟨rfl, hbel6⟩
  rw [hs1.out]
  have HL6 := hide (HL5.out.trans (hbel6.mono (HL5.out.size)))
  have HR6 := hide (HR5.out.later hbel6)
  clear hbel6 c2 f2
  go_wp2_with fail
  refine (split_any a1 _ L _ hlen HR6.out.ro).mono ?_
  rintro e w7 ⟨ra7, na7, rfl, hs7, hbel7, hq1, hq2⟩
  obtain ⟨g3, g4, e1, e2, hne, hrow1, hrow2⟩ := hs7.rows (by simpa using hpos)
  subst e1
  subst e2
  have HS7 := hide hs7
  have HL67 := hide hbel7
  have HQ3 : Hid (w6.heap.size ≤ g3) := hq1 _ rfl
  have c3 := hrow1.cell (i := i) (by simpa using hii)
  rw [nth_fst] at c3
  have f3 := hrow1.frozen (i)
  obtain ⟨hr0, hr1⟩ := rR_bd hL.out (i)
  clear hne hrow1 hrow2 hs7 hbel7 hq1 hq2
  go_wp2_with fail
  have HS8 := hide (HS7.out.setR (by simpa using hpos) (i) (bits .xor .u32 (rR L (i)) 2147483648))
  have HL68 := hide (HL67.out.setCell (p := ⟨g3, i, none⟩) HQ3.out (.int .u32 (bits .xor .u32 (rR L (i)) 2147483648)))
  have HL8 := hide (HL6.out.trans (HL68.out.mono HL6.out.size))
  rw [show Value.slice (some ⟨g3, 0, none⟩) L.length L.length = Value.slice (some ⟨g3, 0, none⟩) ((L.map Prod.fst).set (i) (bits .xor .u32 (rR L (i)) 2147483648)).length L.length by simp, show Value.slice (some ⟨g4, 0, none⟩) L.length L.length = Value.slice (some ⟨g4, 0, none⟩) ((L.map Prod.fst).set (i) (bits .xor .u32 (rR L (i)) 2147483648)).length L.length by simp]
  refine (zzRecent_any _ _ _ _ _ _ lv _ (by simpa using hlen) hl hl2 HS8 (okL_rope hL.out hii)).mono ?_
  rintro e w9 ⟨rfl, hbel9⟩
  rw [hs2.out]
  have HL9 := hide (HL8.out.trans (hbel9.mono (HL8.out.size)))
  clear hbel9 c3 f3
  go_wp2
  go_ret
  exact ⟨rfl, HL9.out⟩

set_option maxRecDepth 100000 in
set_option maxHeartbeats 8000000 in
theorem recent_neg (a : Option Addr) (c : Nat) (L : List (Int × Int)) (lv : Int) (s0 : Int) (w : World) (hlen : L.length ≤ 1048576) (h16 : L.length ≤ 65536) (hl : 0 ≤ lv) (hl2 : lv ≤ 255) (hb : Hid (Ro w a L)) (hL : Hid (okL L))
    (hs0 : Hid (slot lv L = s0)) (hb0 : 0 ≤ s0) (hb1 : s0 < 4096)
    (hpos : 0 < L.length) (hz : ((L.length : Int) == 0) = false) (i : Int) (hi : i < 0) (hii : L.length - 1 < L.length) (s1 s2 : Int)
    (hs1 : Hid (slot lv ((L.map Prod.fst).zip ((L.map Prod.snd).set (L.length - 1) (bits .xor .i64 (rN L (L.length - 1)) (-9223372036854775808)))) = s1)) (hs2 : Hid (slot lv (((L.map Prod.fst).set (L.length - 1) (bits .xor .u32 (rR L (L.length - 1)) 2147483648)).zip (L.map Prod.snd)) = s2))
    (hq1 : (s1 == bits BinOp.xor IntKind.i64 s0 2048) = true) (hq2 : (s2 == bits BinOp.xor IntKind.i64 s0 2048) = true) :
    Calls Try.prog 3 #[.int .u8 lv, .slice a L.length c, .int .i64 i] w fun e w' => e = .returned (.bool true) ∧ Below w.heap.size w w' := by
  go_enter Try.func3, Try.ntmps3
  go_wp2_with (go_at_call 6; refine (zzBytes6_yes _ _ _ _ _ _ hlen).mono ?_; rintro e w' ⟨rfl, hw⟩; obtain rfl := hw.symm; clear hw)
  refine (clone_any a c L _ hlen hb).mono ?_
  rintro e w1 ⟨a1, rfl, hr1, hbel1⟩
  have HR1 := hide hr1
  have HL1 := hide hbel1
  clear hr1 hbel1
  go_wp2_with fail
  refine (split_any a1 _ L _ hlen HR1.out.ro).mono ?_
  rintro e w2 ⟨ra2, na2, rfl, hs2, hbel2, hq1, hq2⟩
  have HS2 := hide hs2
  have HL2 := hide (below_step HL1.out hbel2 (Nat.le_refl _))
  have HR2 := hide (HR1.out.later hbel2)
  clear hs2 hbel2 hq1 hq2
  go_wp2_with fail
  rw [show Value.slice ra2 L.length L.length = Value.slice ra2 (L.map Prod.fst).length L.length by simp, show Value.slice na2 L.length L.length = Value.slice na2 (L.map Prod.fst).length L.length by simp]
  refine (zzRecent_any ra2 na2 _ _ (L.map Prod.fst) (L.map Prod.snd) lv _ (by simpa using hlen) hl hl2 HS2 (by rw [zip_self]; exact hL)).mono ?_
  rintro e w3 ⟨rfl, hbel3⟩
  rw [zip_self, hs0.out]
  have HL3 := hide (below_step HL2.out hbel3 (Nat.le_refl _))
  have HR3 := hide (HR2.out.later hbel3)
  clear hbel3
  go_wp2_with fail
  refine (split_any a1 _ L _ hlen HR3.out.ro).mono ?_
  rintro e w4 ⟨ra4, na4, rfl, hs4, hbel4, hq1, hq2⟩
  obtain ⟨g1, g2, e1, e2, hne, hrow1, hrow2⟩ := hs4.rows (by simpa using hpos)
  subst e1
  subst e2
  have HS4 := hide hs4
  have HL34 := hide hbel4
  have HQ2 : Hid (w3.heap.size ≤ g2) := hq2 _ rfl
  have c2 := hrow2.cell (i := L.length - 1) (by simpa using hii)
  rw [nth_snd] at c2
  have f2 := hrow2.frozen (L.length - 1)
  clear hne hrow1 hrow2 hs4 hbel4 hq1 hq2
  go_wp2_with fail
  have HS5 := hide (HS4.out.setN (by simpa using hpos) (L.length - 1) (bits .xor .i64 (rN L (L.length - 1)) (-9223372036854775808)))
  have HL35 := hide (HL34.out.setCell (p := ⟨g2, L.length - 1, none⟩) HQ2.out (.int .i64 (bits .xor .i64 (rN L (L.length - 1)) (-9223372036854775808))))
  have HL5 := hide (HL3.out.trans (HL35.out.mono HL3.out.size))
  have HR5 := hide (HR3.out.later HL35.out)
  rw [show Value.slice (some ⟨g1, 0, none⟩) L.length L.length = Value.slice (some ⟨g1, 0, none⟩) (L.map Prod.fst).length L.length by simp, show Value.slice (some ⟨g2, 0, none⟩) L.length L.length = Value.slice (some ⟨g2, 0, none⟩) (L.map Prod.fst).length L.length by simp]
  refine (zzRecent_any _ _ _ _ _ _ lv _ (by simpa using hlen) hl hl2 HS5 (okL_count hL.out hii _)).mono ?_
  rintro e w6 ⟨rfl, hbel6⟩
  rw [hs1.out]
  have HL6 := hide (HL5.out.trans (hbel6.mono (HL5.out.size)))
  have HR6 := hide (HR5.out.later hbel6)
  clear hbel6 c2 f2
  go_wp2_with fail
  refine (split_any a1 _ L _ hlen HR6.out.ro).mono ?_
  rintro e w7 ⟨ra7, na7, rfl, hs7, hbel7, hq1, hq2⟩
  obtain ⟨g3, g4, e1, e2, hne, hrow1, hrow2⟩ := hs7.rows (by simpa using hpos)
  subst e1
  subst e2
  have HS7 := hide hs7
  have HL67 := hide hbel7
  have HQ3 : Hid (w6.heap.size ≤ g3) := hq1 _ rfl
  have c3 := hrow1.cell (i := L.length - 1) (by simpa using hii)
  rw [nth_fst] at c3
  have f3 := hrow1.frozen (L.length - 1)
  obtain ⟨hr0, hr1⟩ := rR_bd hL.out (L.length - 1)
  clear hne hrow1 hrow2 hs7 hbel7 hq1 hq2
  go_wp2_with fail
  have HS8 := hide (HS7.out.setR (by simpa using hpos) (L.length - 1) (bits .xor .u32 (rR L (L.length - 1)) 2147483648))
  have HL68 := hide (HL67.out.setCell (p := ⟨g3, L.length - 1, none⟩) HQ3.out (.int .u32 (bits .xor .u32 (rR L (L.length - 1)) 2147483648)))
  have HL8 := hide (HL6.out.trans (HL68.out.mono HL6.out.size))
  rw [show Value.slice (some ⟨g3, 0, none⟩) L.length L.length = Value.slice (some ⟨g3, 0, none⟩) ((L.map Prod.fst).set (L.length - 1) (bits .xor .u32 (rR L (L.length - 1)) 2147483648)).length L.length by simp, show Value.slice (some ⟨g4, 0, none⟩) L.length L.length = Value.slice (some ⟨g4, 0, none⟩) ((L.map Prod.fst).set (L.length - 1) (bits .xor .u32 (rR L (L.length - 1)) 2147483648)).length L.length by simp]
  refine (zzRecent_any _ _ _ _ _ _ lv _ (by simpa using hlen) hl hl2 HS8 (okL_rope hL.out hii)).mono ?_
  rintro e w9 ⟨rfl, hbel9⟩
  rw [hs2.out]
  have HL9 := hide (HL8.out.trans (hbel9.mono (HL8.out.size)))
  clear hbel9 c3 f3
  go_wp2
  go_ret
  exact ⟨rfl, HL9.out⟩

set_option maxRecDepth 100000 in
set_option maxHeartbeats 8000000 in
theorem recent_big (a : Option Addr) (c : Nat) (L : List (Int × Int)) (lv : Int) (s0 : Int) (w : World) (hlen : L.length ≤ 1048576) (h16 : L.length ≤ 65536) (hl : 0 ≤ lv) (hl2 : lv ≤ 255) (hb : Hid (Ro w a L)) (hL : Hid (okL L))
    (hs0 : Hid (slot lv L = s0)) (hb0 : 0 ≤ s0) (hb1 : s0 < 4096)
    (hpos : 0 < L.length) (hz : ((L.length : Int) == 0) = false) (i : Int) (hi0 : 0 ≤ i) (hi : (L.length : Int) ≤ i) (hii : L.length - 1 < L.length) (s1 s2 : Int)
    (hs1 : Hid (slot lv ((L.map Prod.fst).zip ((L.map Prod.snd).set (L.length - 1) (bits .xor .i64 (rN L (L.length - 1)) (-9223372036854775808)))) = s1)) (hs2 : Hid (slot lv (((L.map Prod.fst).set (L.length - 1) (bits .xor .u32 (rR L (L.length - 1)) 2147483648)).zip (L.map Prod.snd)) = s2))
    (hq1 : (s1 == bits BinOp.xor IntKind.i64 s0 2048) = true) (hq2 : (s2 == bits BinOp.xor IntKind.i64 s0 2048) = true) :
    Calls Try.prog 3 #[.int .u8 lv, .slice a L.length c, .int .i64 i] w fun e w' => e = .returned (.bool true) ∧ Below w.heap.size w w' := by
  go_enter Try.func3, Try.ntmps3
  go_wp2_with (go_at_call 6; refine (zzBytes6_yes _ _ _ _ _ _ hlen).mono ?_; rintro e w' ⟨rfl, hw⟩; obtain rfl := hw.symm; clear hw)
  refine (clone_any a c L _ hlen hb).mono ?_
  rintro e w1 ⟨a1, rfl, hr1, hbel1⟩
  have HR1 := hide hr1
  have HL1 := hide hbel1
  clear hr1 hbel1
  go_wp2_with fail
  refine (split_any a1 _ L _ hlen HR1.out.ro).mono ?_
  rintro e w2 ⟨ra2, na2, rfl, hs2, hbel2, hq1, hq2⟩
  have HS2 := hide hs2
  have HL2 := hide (below_step HL1.out hbel2 (Nat.le_refl _))
  have HR2 := hide (HR1.out.later hbel2)
  clear hs2 hbel2 hq1 hq2
  go_wp2_with fail
  rw [show Value.slice ra2 L.length L.length = Value.slice ra2 (L.map Prod.fst).length L.length by simp, show Value.slice na2 L.length L.length = Value.slice na2 (L.map Prod.fst).length L.length by simp]
  refine (zzRecent_any ra2 na2 _ _ (L.map Prod.fst) (L.map Prod.snd) lv _ (by simpa using hlen) hl hl2 HS2 (by rw [zip_self]; exact hL)).mono ?_
  rintro e w3 ⟨rfl, hbel3⟩
  rw [zip_self, hs0.out]
  have HL3 := hide (below_step HL2.out hbel3 (Nat.le_refl _))
  have HR3 := hide (HR2.out.later hbel3)
  clear hbel3
  go_wp2_with fail
  refine (split_any a1 _ L _ hlen HR3.out.ro).mono ?_
  rintro e w4 ⟨ra4, na4, rfl, hs4, hbel4, hq1, hq2⟩
  obtain ⟨g1, g2, e1, e2, hne, hrow1, hrow2⟩ := hs4.rows (by simpa using hpos)
  subst e1
  subst e2
  have HS4 := hide hs4
  have HL34 := hide hbel4
  have HQ2 : Hid (w3.heap.size ≤ g2) := hq2 _ rfl
  have c2 := hrow2.cell (i := L.length - 1) (by simpa using hii)
  rw [nth_snd] at c2
  have f2 := hrow2.frozen (L.length - 1)
  clear hne hrow1 hrow2 hs4 hbel4 hq1 hq2
  go_wp2_with fail
  have HS5 := hide (HS4.out.setN (by simpa using hpos) (L.length - 1) (bits .xor .i64 (rN L (L.length - 1)) (-9223372036854775808)))
  have HL35 := hide (HL34.out.setCell (p := ⟨g2, L.length - 1, none⟩) HQ2.out (.int .i64 (bits .xor .i64 (rN L (L.length - 1)) (-9223372036854775808))))
  have HL5 := hide (HL3.out.trans (HL35.out.mono HL3.out.size))
  have HR5 := hide (HR3.out.later HL35.out)
  rw [show Value.slice (some ⟨g1, 0, none⟩) L.length L.length = Value.slice (some ⟨g1, 0, none⟩) (L.map Prod.fst).length L.length by simp, show Value.slice (some ⟨g2, 0, none⟩) L.length L.length = Value.slice (some ⟨g2, 0, none⟩) (L.map Prod.fst).length L.length by simp]
  refine (zzRecent_any _ _ _ _ _ _ lv _ (by simpa using hlen) hl hl2 HS5 (okL_count hL.out hii _)).mono ?_
  rintro e w6 ⟨rfl, hbel6⟩
  rw [hs1.out]
  have HL6 := hide (HL5.out.trans (hbel6.mono (HL5.out.size)))
  have HR6 := hide (HR5.out.later hbel6)
  clear hbel6 c2 f2
  go_wp2_with fail
  refine (split_any a1 _ L _ hlen HR6.out.ro).mono ?_
  rintro e w7 ⟨ra7, na7, rfl, hs7, hbel7, hq1, hq2⟩
  obtain ⟨g3, g4, e1, e2, hne, hrow1, hrow2⟩ := hs7.rows (by simpa using hpos)
  subst e1
  subst e2
  have HS7 := hide hs7
  have HL67 := hide hbel7
  have HQ3 : Hid (w6.heap.size ≤ g3) := hq1 _ rfl
  have c3 := hrow1.cell (i := L.length - 1) (by simpa using hii)
  rw [nth_fst] at c3
  have f3 := hrow1.frozen (L.length - 1)
  obtain ⟨hr0, hr1⟩ := rR_bd hL.out (L.length - 1)
  clear hne hrow1 hrow2 hs7 hbel7 hq1 hq2
  go_wp2_with fail
  have HS8 := hide (HS7.out.setR (by simpa using hpos) (L.length - 1) (bits .xor .u32 (rR L (L.length - 1)) 2147483648))
  have HL68 := hide (HL67.out.setCell (p := ⟨g3, L.length - 1, none⟩) HQ3.out (.int .u32 (bits .xor .u32 (rR L (L.length - 1)) 2147483648)))
  have HL8 := hide (HL6.out.trans (HL68.out.mono HL6.out.size))
  rw [show Value.slice (some ⟨g3, 0, none⟩) L.length L.length = Value.slice (some ⟨g3, 0, none⟩) ((L.map Prod.fst).set (L.length - 1) (bits .xor .u32 (rR L (L.length - 1)) 2147483648)).length L.length by simp, show Value.slice (some ⟨g4, 0, none⟩) L.length L.length = Value.slice (some ⟨g4, 0, none⟩) ((L.map Prod.fst).set (L.length - 1) (bits .xor .u32 (rR L (L.length - 1)) 2147483648)).length L.length by simp]
  refine (zzRecent_any _ _ _ _ _ _ lv _ (by simpa using hlen) hl hl2 HS8 (okL_rope hL.out hii)).mono ?_
  rintro e w9 ⟨rfl, hbel9⟩
  rw [hs2.out]
  have HL9 := hide (HL8.out.trans (hbel9.mono (HL8.out.size)))
  clear hbel9 c3 f3
  go_wp2
  go_ret
  exact ⟨rfl, HL9.out⟩

end Go.Proofs.Qxb6617377a
