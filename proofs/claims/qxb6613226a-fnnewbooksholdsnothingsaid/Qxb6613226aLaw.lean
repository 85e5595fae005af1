/-
  FnNewBooksHoldsNothing: the walk. By an AI agent.
-/
import Derived.Test.Qxb6613226aUnder
namespace Go.Proofs.Qxb6613226a
open Go.RowKit
set_option linter.unusedVariables false

set_option maxHeartbeats 400000 in
theorem zzbooks (a : Option Addr) (l c : Nat) (w : World) :
    Calls Try.prog 7 #[.slice a l c] w fun e w' => ∃ bk rg mp mg es mo bx : Nat, e = .returned (.pointer (some ⟨bk, 0, none⟩)) ∧ Below w.heap.size w w' ∧ Books w' bk (.slice a l c) rg mp mg es mo bx := by
  go_enter Try.func7, Try.ntmps7
  go_wp2_with fail
  refine (books_new a l c _).mono ?_
  rintro e w1 ⟨rfl, hb, B⟩
  have HB := hide hb
  have HK := hide B
  clear hb B
  go_wp2
  go_ret
  exact ⟨_, _, _, _, _, _, _, rfl, unhide HB, unhide HK⟩

set_option maxHeartbeats 400000 in
theorem zzdaily (bk : Nat) (v : Option Addr) (l c : Nat) (w : World) (h : w.cell? ⟨bk, 5, none⟩ = some (.slice v l c)) :
    Calls Try.prog 9 #[.pointer (some ⟨bk, 0, none⟩)] w fun e w' => e = .returned (.slice v l c) ∧ w = w' := by
  go_enter Try.func9, Try.ntmps9
  go_wp2
  go_ret
  exact ⟨rfl, rfl⟩

/-- The books lie at bk, the party p = {ID: id, Group: gr} at pb; nothing that was there when the law began has turned. -/
structure Ph (w W : World) (bk : Nat) (dv : Value) (rg mp mg es mo bx pb : Nat) (id gr : ByteArray) : Prop where
  B : Books W bk dv rg mp mg es mo bx
  p0 : W.cell? ⟨pb, 0, none⟩ = some (.string id)
  p1 : W.cell? ⟨pb, 1, none⟩ = some (.string ⟨#[]⟩)
  p2 : W.cell? ⟨pb, 2, none⟩ = some (.int .i64 0)
  p3 : W.cell? ⟨pb, 3, none⟩ = some (.string gr)
  p4 : W.cell? ⟨pb, 4, none⟩ = some (.int .i64 0)
  q : Below w.heap.size w W
theorem Ph.below {w W W' : World} {bk : Nat} {dv : Value} {rg mp mg es mo bx pb : Nat} {id gr : ByteArray} (h : Ph w W bk dv rg mp mg es mo bx pb id gr) (hb : Below W.heap.size W W') : Ph w W' bk dv rg mp mg es mo bx pb id gr :=
  ⟨h.B.below hb, cell_below hb h.p0, cell_below hb h.p1, cell_below hb h.p2, cell_below hb h.p3, cell_below hb h.p4, h.q.trans (hb.mono h.q.size)⟩

set_option maxHeartbeats 1000000 in
theorem law_one (a0 : Option Addr) (l0 c0 : Nat) (id gr : ByteArray) (d kd : Int) (w : World) (s0 : l0 ≤ 65536) (s1 : id.size ≤ 65536) (s2 : gr.size ≤ 65536) (hg : gr.toList.isEmpty = true) (HC : Chain w (.slice a0 l0 c0)) :
    Calls Try.prog 3 #[.slice a0 l0 c0, .string id, .string gr, .int .i32 d, .int .i64 kd] w fun e w' => e = .returned (.bool true) ∧ Below w.heap.size w w' := by
  have t0 : decide ((65536 : Int) < (l0 : Int)) = false := by simp; omega
  have t1 : decide ((65536 : Int) < (id.size : Int)) = false := by simp; omega
  have t2 : decide ((65536 : Int) < (gr.size : Int)) = false := by simp; omega
  have H6 := hide HC
  clear HC
  go_enter Try.func3, Try.ntmps3
  go_wp2_with fail
  refine (bytes_any _ _ _ _ _ _ _ _).mono ?_
  rintro e w' ⟨⟨b, rfl⟩, rfl⟩
  cases b
  · go_wp2
    go_ret
    exact ⟨rfl, Below.refl _ _⟩
  go_wp2_with fail
  refine Calls.mono (unhide H6) ?_
  rintro e w1 ⟨a1, l1, c1, rfl, q1, h6⟩
  have H62 := hide h6
  clear h6 H6
  go_wp2_with fail
  refine Calls.mono (unhide H62) ?_
  rintro e w2 ⟨a2, l2, c2, rfl, q2, h8⟩
  have H8 := hide h8
  have Q2 := hide (q1.trans (q2.mono q1.size))
  clear h8 H62 q1 q2
  go_wp2_with fail
  refine (zzbooks a1 l1 c1 _).mono ?_
  rintro e w3 ⟨bk, rg, mp, mg, es, mo, bx, rfl, q3, B3⟩
  have Q3 := hide ((unhide Q2).trans (q3.mono (unhide Q2).size))
  have H83 := hide (unhide H8 w3 q3)
  have HB3 := hide B3
  obtain ⟨k0, ⟨x1, k1⟩, k2, ⟨x3, k3⟩, ⟨x4, k4⟩, k5, r0, r1, hp, hg', e0, e1, ho, hb⟩ := B3
  clear Q2 H8 q3 r0 r1 hp hg' e0 e1 ho hb
  go_wp2_with fail
  refine (zzdaily bk a1 l1 c1 w3 k5).mono ?_
  rintro e w4 ⟨rfl, rfl⟩
  go_wp2_with fail
  refine (unhide H83).mono ?_
  rintro e w5 ⟨rfl, q5⟩
  have B5 := (unhide HB3).below q5
  have Q5 := hide ((unhide Q3).trans (q5.mono (unhide Q3).size))
  clear Q3 H83 HB3 k0 k1 k2 k3 k4 k5 q5
  have HB5 := hide B5
  obtain ⟨k0, _, k2, _, _, _, r0, r1, hp, hg', e0, e1, ho, hb⟩ := B5
  have HR := hide (And.intro r0 hp)
  clear r0 r1 hp hg' e0 e1 ho hb
  go_wp2_with fail
  refine (party_any rg mp id w5 (unhide HR).1 (unhide HR).2).mono ?_
  rintro e w6 ⟨rfl, c, rfl⟩
  go_wp2_with fail
  obtain ⟨W, hW⟩ : ∃ W : World, W = ((w5.alloc (.cells c 40)).alloc (.cells #[.string ⟨#[]⟩, .string ⟨#[]⟩, .int .i64 0, .string ⟨#[]⟩, .int .i64 0] 40)).alloc (.cells #[.string id, .string ⟨#[]⟩, .int .i64 0, .string gr, .int .i64 0] 40) := ⟨_, rfl⟩
  rw [← hW]
  have hph : Ph w W bk (.slice a1 l1 c1) rg mp mg es mo bx (w5.heap.size + 1 + 1) id gr := by
    have qW : Below w5.heap.size w5 W := by rw [hW]; exact bmore (bmore (bmore (Below.refl _ _) _) _) _
    refine ⟨(unhide HB5).below qW, ?_, ?_, ?_, ?_, ?_, (unhide Q5).trans (qW.mono (unhide Q5).size)⟩ <;> (rw [hW]; simp [go_sem])
  have PH := hide hph
  clear hW hph HB5 Q5 HR k0 k2
  generalize w5.heap.size + 1 + 1 = pb at *
  have k0 := (unhide PH).B.k0
  have p0 := (unhide PH).p0
  have p1 := (unhide PH).p1
  have p2 := (unhide PH).p2
  have p3 := (unhide PH).p3
  have p4 := (unhide PH).p4
  have n0 := lt_cell k0
  have n1 := lt_cell p0
  obtain ⟨m1, m2, m3, m4, m5⟩ := lts n0
  obtain ⟨m6, m7, m8, m9, m10⟩ := lts n1
  go_region_held3 (fun w' => w'.cell? ⟨bk, 0, none⟩ = some (.pointer (some ⟨rg, 0, none⟩)) ∧ w'.cell? ⟨pb, 0, none⟩ = some (.string id) ∧ w'.cell? ⟨pb, 1, none⟩ = some (.string ⟨#[]⟩) ∧ w'.cell? ⟨pb, 2, none⟩ = some (.int .i64 0) ∧ w'.cell? ⟨pb, 3, none⟩ = some (.string gr) ∧ w'.cell? ⟨pb, 4, none⟩ = some (.int .i64 0)) (simp [*, go_sem, World.cell?_alloc_past])
    (first | (go_at_call 12; refine (same_one rg id ⟨#[]⟩ gr 0 0 _ hg).mono ?_; rintro e w' ⟨rfl, d1, rfl⟩) | (go_at_call 13; refine (alone_one id gr _ hg).mono ?_; rintro e w' ⟨rfl, rfl⟩) | (go_at_call 11; refine (strs_one _ _ id _ (by simp [go_sem]) (by simp [go_sem])).mono ?_; rintro e w' ⟨rfl, rfl⟩))
  obtain ⟨W2, hW2⟩ : ∃ W2 : World, W2 = (((W.alloc (.cells d1 40)).alloc (.cells #[.string id] 9)).alloc (.cells #[.string id] 9)).drew.drew := ⟨_, rfl⟩
  rw [← hW2]
  have PH2 := hide ((unhide PH).below (W' := W2) (by rw [hW2]; exact (bmore (bmore (bmore (Below.refl _ _) _) _) _).drew.drew))
  clear hW2 PH k0 p0 p1 p2 p3 p4 n0 n1 m1 m2 m3 m4 m5 m6 m7 m8 m9 m10
  have k0 := (unhide PH2).B.k2
  have p0 := (unhide PH2).p0
  have p1 := (unhide PH2).p1
  have p2 := (unhide PH2).p2
  have p3 := (unhide PH2).p3
  have p4 := (unhide PH2).p4
  have n0 := lt_cell k0
  have n1 := lt_cell p0
  obtain ⟨m1, m2, m3, m4, m5⟩ := lts n0
  obtain ⟨m6, m7, m8, m9, m10⟩ := lts n1
  have E1 : W2.drew.cell? ⟨es, 1, none⟩ = some (.func (.func 31) #[] #[.pointer (some ⟨bx, 0, none⟩)]) := (unhide PH2).B.e1
  have E2 : W2.drew.cell? ⟨bx, 0, none⟩ = some (.pointer (some ⟨rg, 0, none⟩)) := (unhide PH2).B.hb
  have HE1 := hide E1
  have HE2 := hide E2
  clear E1 E2
  go_wp2_with fail
  go_region_held3 (fun w' => w'.cell? ⟨bk, 2, none⟩ = some (.pointer (some ⟨es, 0, none⟩)) ∧ w'.cell? ⟨pb, 0, none⟩ = some (.string id) ∧ w'.cell? ⟨pb, 1, none⟩ = some (.string ⟨#[]⟩) ∧ w'.cell? ⟨pb, 2, none⟩ = some (.int .i64 0) ∧ w'.cell? ⟨pb, 3, none⟩ = some (.string gr) ∧ w'.cell? ⟨pb, 4, none⟩ = some (.int .i64 0)) (simp [*, go_sem, World.cell?_alloc_past])
    (first | (go_at_call 14; refine (zzgroup_one es bx rg id ⟨#[]⟩ gr 0 0 d _ hg (unhide HE1) (unhide HE2)).mono ?_; rintro e w' ⟨rfl, d2, d3, d4, rfl⟩) | (go_at_call 13; refine (alone_one id gr _ hg).mono ?_; rintro e w' ⟨rfl, rfl⟩) | (go_at_call 11; refine (strs_one _ _ id _ (by simp [go_sem]) (by simp [go_sem])).mono ?_; rintro e w' ⟨rfl, rfl⟩))
  obtain ⟨W3, hW3⟩ : ∃ W3 : World, W3 = (((((W2.alloc (.cells d2 40)).alloc (.cells d3 40)).alloc (.cells d4 40)).alloc (.cells #[.string id] 9)).alloc (.cells #[.string id] 9)).drew.drew.drew := ⟨_, rfl⟩
  rw [← hW3]
  have PH3 := hide ((unhide PH2).below (W' := W3) (by rw [hW3]; exact (bmore (bmore (bmore (bmore (bmore (Below.refl _ _) _) _) _) _) _).drew.drew.drew))
  clear hW3 PH2 k0 p0 p1 p2 p3 p4 n0 n1 m1 m2 m3 m4 m5 m6 m7 m8 m9 m10 HE1 HE2
  have k0 := (unhide PH3).B.k2
  have p0 := (unhide PH3).p0
  have p1 := (unhide PH3).p1
  have p2 := (unhide PH3).p2
  have p3 := (unhide PH3).p3
  have p4 := (unhide PH3).p4
  have n0 := lt_cell k0
  have n1 := lt_cell p0
  obtain ⟨m1, m2, m3, m4, m5⟩ := lts n0
  obtain ⟨m6, m7, m8, m9, m10⟩ := lts n1
  have qu : ∀ o, Below W3.heap.size W3 (W3.drew.alloc o) := fun o => bmore (Below.refl _ W3).drew o
  have HU := hide (fun o => under_one es mo bx rg id ⟨#[]⟩ gr 0 0 d kd (W3.drew.alloc o) hg (cell_below (qu o) (unhide PH3).B.e0) (heap_below (qu o) (unhide PH3).B.ho) (cell_below (qu o) (unhide PH3).B.e1) (cell_below (qu o) (unhide PH3).B.hb))
  clear qu
  go_wp2_with fail
  go_region_held3 (fun w' => w'.cell? ⟨bk, 2, none⟩ = some (.pointer (some ⟨es, 0, none⟩)) ∧ w'.cell? ⟨pb, 0, none⟩ = some (.string id) ∧ w'.cell? ⟨pb, 1, none⟩ = some (.string ⟨#[]⟩) ∧ w'.cell? ⟨pb, 2, none⟩ = some (.int .i64 0) ∧ w'.cell? ⟨pb, 3, none⟩ = some (.string gr) ∧ w'.cell? ⟨pb, 4, none⟩ = some (.int .i64 0)) (simp [*, go_sem])
    (first | (go_at_call 15; refine (zzunder_any es id ⟨#[]⟩ gr 0 0 d kd _ HU).mono ?_; rintro e w9 ⟨rfl, hq9⟩; have hc9 : ∀ b o, b < W3.heap.size → w9.cell? ⟨b, o, none⟩ = W3.cell? ⟨b, o, none⟩ := fun b o hb => hq9.cell (p := ⟨b, o, none⟩) hb; have HQ9 := hide hq9; clear hq9))
  go_wp2
  go_ret
  exact ⟨rfl, (unhide PH3).q.drew.trans ((unhide HQ9).mono (unhide PH3).q.size)⟩

set_option maxHeartbeats 1000000 in
theorem law_nil (a0 : Option Addr) (l0 c0 : Nat) (id gr : ByteArray) (d kd : Int) (w : World) (s0 : l0 ≤ 65536) (s1 : id.size ≤ 65536) (s2 : gr.size ≤ 65536) (hg : gr.toList.isEmpty = false) (HC : Chain w (.slice a0 l0 c0)) :
    Calls Try.prog 3 #[.slice a0 l0 c0, .string id, .string gr, .int .i32 d, .int .i64 kd] w fun e w' => e = .returned (.bool true) ∧ Below w.heap.size w w' := by
  have t0 : decide ((65536 : Int) < (l0 : Int)) = false := by simp; omega
  have t1 : decide ((65536 : Int) < (id.size : Int)) = false := by simp; omega
  have t2 : decide ((65536 : Int) < (gr.size : Int)) = false := by simp; omega
  have H6 := hide HC
  clear HC
  go_enter Try.func3, Try.ntmps3
  go_wp2_with fail
  refine (bytes_any _ _ _ _ _ _ _ _).mono ?_
  rintro e w' ⟨⟨b, rfl⟩, rfl⟩
  cases b
  · go_wp2
    go_ret
    exact ⟨rfl, Below.refl _ _⟩
  go_wp2_with fail
  refine Calls.mono (unhide H6) ?_
  rintro e w1 ⟨a1, l1, c1, rfl, q1, h6⟩
  have H62 := hide h6
  clear h6 H6
  go_wp2_with fail
  refine Calls.mono (unhide H62) ?_
  rintro e w2 ⟨a2, l2, c2, rfl, q2, h8⟩
  have H8 := hide h8
  have Q2 := hide (q1.trans (q2.mono q1.size))
  clear h8 H62 q1 q2
  go_wp2_with fail
  refine (zzbooks a1 l1 c1 _).mono ?_
  rintro e w3 ⟨bk, rg, mp, mg, es, mo, bx, rfl, q3, B3⟩
  have Q3 := hide ((unhide Q2).trans (q3.mono (unhide Q2).size))
  have H83 := hide (unhide H8 w3 q3)
  have HB3 := hide B3
  obtain ⟨k0, ⟨x1, k1⟩, k2, ⟨x3, k3⟩, ⟨x4, k4⟩, k5, r0, r1, hp, hg', e0, e1, ho, hb⟩ := B3
  clear Q2 H8 q3 r0 r1 hp hg' e0 e1 ho hb
  go_wp2_with fail
  refine (zzdaily bk a1 l1 c1 w3 k5).mono ?_
  rintro e w4 ⟨rfl, rfl⟩
  go_wp2_with fail
  refine (unhide H83).mono ?_
  rintro e w5 ⟨rfl, q5⟩
  have B5 := (unhide HB3).below q5
  have Q5 := hide ((unhide Q3).trans (q5.mono (unhide Q3).size))
  clear Q3 H83 HB3 k0 k1 k2 k3 k4 k5 q5
  have HB5 := hide B5
  obtain ⟨k0, _, k2, _, _, _, r0, r1, hp, hg', e0, e1, ho, hb⟩ := B5
  have HR := hide (And.intro r0 hp)
  clear r0 r1 hp hg' e0 e1 ho hb
  go_wp2_with fail
  refine (party_any rg mp id w5 (unhide HR).1 (unhide HR).2).mono ?_
  rintro e w6 ⟨rfl, c, rfl⟩
  go_wp2_with fail
  obtain ⟨W, hW⟩ : ∃ W : World, W = ((w5.alloc (.cells c 40)).alloc (.cells #[.string ⟨#[]⟩, .string ⟨#[]⟩, .int .i64 0, .string ⟨#[]⟩, .int .i64 0] 40)).alloc (.cells #[.string id, .string ⟨#[]⟩, .int .i64 0, .string gr, .int .i64 0] 40) := ⟨_, rfl⟩
  rw [← hW]
  have hph : Ph w W bk (.slice a1 l1 c1) rg mp mg es mo bx (w5.heap.size + 1 + 1) id gr := by
    have qW : Below w5.heap.size w5 W := by rw [hW]; exact bmore (bmore (bmore (Below.refl _ _) _) _) _
    refine ⟨(unhide HB5).below qW, ?_, ?_, ?_, ?_, ?_, (unhide Q5).trans (qW.mono (unhide Q5).size)⟩ <;> (rw [hW]; simp [go_sem])
  have PH := hide hph
  clear hW hph HB5 Q5 HR k0 k2
  generalize w5.heap.size + 1 + 1 = pb at *
  have k0 := (unhide PH).B.k0
  have p0 := (unhide PH).p0
  have p1 := (unhide PH).p1
  have p2 := (unhide PH).p2
  have p3 := (unhide PH).p3
  have p4 := (unhide PH).p4
  have n0 := lt_cell k0
  have n1 := lt_cell p0
  obtain ⟨m1, m2, m3, m4, m5⟩ := lts n0
  obtain ⟨m6, m7, m8, m9, m10⟩ := lts n1
  have R1 : W.drew.cell? ⟨rg, 1, none⟩ = some (.map (some mg)) := (unhide PH).B.r1
  have R2 : W.drew.heap[mg]? = some (.map #[] 0) := (unhide PH).B.hg
  have HR1 := hide R1
  have HR2 := hide R2
  clear R1 R2
  go_region_held3 (fun w' => w'.cell? ⟨bk, 0, none⟩ = some (.pointer (some ⟨rg, 0, none⟩)) ∧ w'.cell? ⟨pb, 0, none⟩ = some (.string id) ∧ w'.cell? ⟨pb, 1, none⟩ = some (.string ⟨#[]⟩) ∧ w'.cell? ⟨pb, 2, none⟩ = some (.int .i64 0) ∧ w'.cell? ⟨pb, 3, none⟩ = some (.string gr) ∧ w'.cell? ⟨pb, 4, none⟩ = some (.int .i64 0)) (simp [*, go_sem, World.cell?_alloc_past])
    (first | (go_at_call 12; refine (same_nil rg mg id ⟨#[]⟩ gr 0 0 _ hg (unhide HR1) (unhide HR2)).mono ?_; rintro e w' ⟨rfl, d1, rfl⟩) | (go_at_call 13; refine (alone_nil id gr _ hg).mono ?_; rintro e w' ⟨rfl, rfl⟩) | (go_at_call 11; refine (strs_nil _).mono ?_; rintro e w' ⟨rfl, rfl⟩))
  obtain ⟨W2, hW2⟩ : ∃ W2 : World, W2 = (W.alloc (.cells d1 40)).drew.drew := ⟨_, rfl⟩
  rw [← hW2]
  have PH2 := hide ((unhide PH).below (W' := W2) (by rw [hW2]; exact (bmore (Below.refl _ _) _).drew.drew))
  clear hW2 PH HR1 HR2 k0 p0 p1 p2 p3 p4 n0 n1 m1 m2 m3 m4 m5 m6 m7 m8 m9 m10
  have k0 := (unhide PH2).B.k2
  have p0 := (unhide PH2).p0
  have p1 := (unhide PH2).p1
  have p2 := (unhide PH2).p2
  have p3 := (unhide PH2).p3
  have p4 := (unhide PH2).p4
  have n0 := lt_cell k0
  have n1 := lt_cell p0
  obtain ⟨m1, m2, m3, m4, m5⟩ := lts n0
  obtain ⟨m6, m7, m8, m9, m10⟩ := lts n1
  have E1 : W2.drew.cell? ⟨es, 1, none⟩ = some (.func (.func 31) #[] #[.pointer (some ⟨bx, 0, none⟩)]) := (unhide PH2).B.e1
  have E2 : W2.drew.cell? ⟨bx, 0, none⟩ = some (.pointer (some ⟨rg, 0, none⟩)) := (unhide PH2).B.hb
  have E3 : W2.drew.cell? ⟨rg, 1, none⟩ = some (.map (some mg)) := (unhide PH2).B.r1
  have E4 : W2.drew.heap[mg]? = some (.map #[] 0) := (unhide PH2).B.hg
  have HE3 := hide E3
  have HE4 := hide E4
  have HE1 := hide E1
  have HE2 := hide E2
  clear E1 E2 E3 E4
  go_wp2_with fail
  go_region_held3 (fun w' => w'.cell? ⟨bk, 2, none⟩ = some (.pointer (some ⟨es, 0, none⟩)) ∧ w'.cell? ⟨pb, 0, none⟩ = some (.string id) ∧ w'.cell? ⟨pb, 1, none⟩ = some (.string ⟨#[]⟩) ∧ w'.cell? ⟨pb, 2, none⟩ = some (.int .i64 0) ∧ w'.cell? ⟨pb, 3, none⟩ = some (.string gr) ∧ w'.cell? ⟨pb, 4, none⟩ = some (.int .i64 0)) (simp [*, go_sem, World.cell?_alloc_past])
    (first | (go_at_call 14; refine (zzgroup_nil es bx rg mg id ⟨#[]⟩ gr 0 0 d _ hg (unhide HE1) (unhide HE2) (unhide HE3) (unhide HE4)).mono ?_; rintro e w' ⟨rfl, d2, d3, d4, rfl⟩) | (go_at_call 13; refine (alone_nil id gr _ hg).mono ?_; rintro e w' ⟨rfl, rfl⟩) | (go_at_call 11; refine (strs_nil _).mono ?_; rintro e w' ⟨rfl, rfl⟩))
  obtain ⟨W3, hW3⟩ : ∃ W3 : World, W3 = (((W2.alloc (.cells d2 40)).alloc (.cells d3 40)).alloc (.cells d4 40)).drew.drew.drew := ⟨_, rfl⟩
  rw [← hW3]
  have PH3 := hide ((unhide PH2).below (W' := W3) (by rw [hW3]; exact (bmore (bmore (bmore (Below.refl _ _) _) _) _).drew.drew.drew))
  clear hW3 PH2 k0 p0 p1 p2 p3 p4 n0 n1 m1 m2 m3 m4 m5 m6 m7 m8 m9 m10 HE1 HE2 HE3 HE4
  have k0 := (unhide PH3).B.k2
  have p0 := (unhide PH3).p0
  have p1 := (unhide PH3).p1
  have p2 := (unhide PH3).p2
  have p3 := (unhide PH3).p3
  have p4 := (unhide PH3).p4
  have n0 := lt_cell k0
  have n1 := lt_cell p0
  obtain ⟨m1, m2, m3, m4, m5⟩ := lts n0
  obtain ⟨m6, m7, m8, m9, m10⟩ := lts n1
  have qu : ∀ o, Below W3.heap.size W3 (W3.drew.alloc o) := fun o => bmore (Below.refl _ W3).drew o
  have HU := hide (fun o => under_nil es mo bx rg mg id ⟨#[]⟩ gr 0 0 d kd (W3.drew.alloc o) hg (cell_below (qu o) (unhide PH3).B.e0) (heap_below (qu o) (unhide PH3).B.ho) (cell_below (qu o) (unhide PH3).B.e1) (cell_below (qu o) (unhide PH3).B.hb) (cell_below (qu o) (unhide PH3).B.r1) (heap_below (qu o) (unhide PH3).B.hg))
  clear qu
  go_wp2_with fail
  go_region_held3 (fun w' => w'.cell? ⟨bk, 2, none⟩ = some (.pointer (some ⟨es, 0, none⟩)) ∧ w'.cell? ⟨pb, 0, none⟩ = some (.string id) ∧ w'.cell? ⟨pb, 1, none⟩ = some (.string ⟨#[]⟩) ∧ w'.cell? ⟨pb, 2, none⟩ = some (.int .i64 0) ∧ w'.cell? ⟨pb, 3, none⟩ = some (.string gr) ∧ w'.cell? ⟨pb, 4, none⟩ = some (.int .i64 0)) (simp [*, go_sem])
    (first | (go_at_call 15; refine (zzunder_any es id ⟨#[]⟩ gr 0 0 d kd _ HU).mono ?_; rintro e w9 ⟨rfl, hq9⟩; have hc9 : ∀ b o, b < W3.heap.size → w9.cell? ⟨b, o, none⟩ = W3.cell? ⟨b, o, none⟩ := fun b o hb => hq9.cell (p := ⟨b, o, none⟩) hb; have HQ9 := hide hq9; clear hq9))
  go_wp2
  go_ret
  exact ⟨rfl, (unhide PH3).q.drew.trans ((unhide HQ9).mono (unhide PH3).q.size)⟩

set_option maxHeartbeats 400000 in
theorem law_long0 (a0 : Option Addr) (l0 c0 : Nat) (id gr : ByteArray) (d kd : Int) (w : World) (h : 65536 < l0) :
    Calls Try.prog 3 #[.slice a0 l0 c0, .string id, .string gr, .int .i32 d, .int .i64 kd] w fun e w' => e = .returned (.bool true) ∧ Below w.heap.size w w' := by
  have t0 : decide ((65536 : Int) < (l0 : Int)) = true := by simp; omega
  go_enter Try.func3, Try.ntmps3
  go_wp2_with fail
  refine (bytes_any _ _ _ _ _ _ _ _).mono ?_
  rintro e w' ⟨⟨b, rfl⟩, rfl⟩
  cases b
  · go_wp2
    go_ret
    exact ⟨rfl, Below.refl _ _⟩
  go_wp2
  go_ret
  exact ⟨rfl, Below.refl _ _⟩

set_option maxHeartbeats 400000 in
theorem law_long1 (a0 : Option Addr) (l0 c0 : Nat) (id gr : ByteArray) (d kd : Int) (w : World) (h0 : l0 ≤ 65536) (h : 65536 < id.size) :
    Calls Try.prog 3 #[.slice a0 l0 c0, .string id, .string gr, .int .i32 d, .int .i64 kd] w fun e w' => e = .returned (.bool true) ∧ Below w.heap.size w w' := by
  have t0 : decide ((65536 : Int) < (l0 : Int)) = false := by simp; omega
  have t1 : decide ((65536 : Int) < (id.size : Int)) = true := by simp; omega
  go_enter Try.func3, Try.ntmps3
  go_wp2_with fail
  refine (bytes_any _ _ _ _ _ _ _ _).mono ?_
  rintro e w' ⟨⟨b, rfl⟩, rfl⟩
  cases b
  · go_wp2
    go_ret
    exact ⟨rfl, Below.refl _ _⟩
  go_wp2
  go_ret
  exact ⟨rfl, Below.refl _ _⟩

set_option maxHeartbeats 400000 in
theorem law_long2 (a0 : Option Addr) (l0 c0 : Nat) (id gr : ByteArray) (d kd : Int) (w : World) (h0 : l0 ≤ 65536) (h1 : id.size ≤ 65536) (h : 65536 < gr.size) :
    Calls Try.prog 3 #[.slice a0 l0 c0, .string id, .string gr, .int .i32 d, .int .i64 kd] w fun e w' => e = .returned (.bool true) ∧ Below w.heap.size w w' := by
  have t0 : decide ((65536 : Int) < (l0 : Int)) = false := by simp; omega
  have t1 : decide ((65536 : Int) < (id.size : Int)) = false := by simp; omega
  have t2 : decide ((65536 : Int) < (gr.size : Int)) = true := by simp; omega
  go_enter Try.func3, Try.ntmps3
  go_wp2_with fail
  refine (bytes_any _ _ _ _ _ _ _ _).mono ?_
  rintro e w' ⟨⟨b, rfl⟩, rfl⟩
  cases b
  · go_wp2
    go_ret
    exact ⟨rfl, Below.refl _ _⟩
  go_wp2
  go_ret
  exact ⟨rfl, Below.refl _ _⟩

/-- A slice of integers that came in: nil, or a row of cells. -/
def Row (k : IntKind) (w : World) (a : Option Addr) (len cap : Nat) (zs : List Int) : Prop :=
  (a = none ∧ len = 0 ∧ cap = 0 ∧ zs = []) ∨
  ∃ x, a = some x ∧ len ≤ cap ∧ cap ≤ maxLen ∧ zs.length = cap ∧ (∀ i, i < zs.length → w.cell? (x.add i) = some (.int k (zs.getD i 0))) ∧ ∀ n ∈ zs, (Lit.int k n).wf = true

theorem chain_row {w : World} {a : Option Addr} {len cap : Nat} {zs : List Int} (h : Row .i64 w a len cap zs) (hl : len ≤ 65536) : Chain w (.slice a len cap) := by
  rcases h with ⟨rfl, rfl, rfl, _⟩ | ⟨x, rfl, h1, _, hz, hc, _⟩
  · exact chain_nil w
  by_cases h0 : len = 0
  · subst h0; exact chain_zero x cap w
  obtain ⟨b, o, rfl, hc'⟩ := ints_at hc (by omega)
  exact chain_any b o len cap (fun i => zs.getD i 0) w hl (lt_cell (hc' 0 (by omega))) (fun i hi => hc' i (by omega))

theorem law_any (a0 : Option Addr) (l0 c0 : Nat) (z0 : List Int) (id gr : ByteArray) (d kd : Int) (w : World) (h : Row .i64 w a0 l0 c0 z0) :
    Calls Try.prog 3 #[.slice a0 l0 c0, .string id, .string gr, .int .i32 d, .int .i64 kd] w fun e w' => e = .returned (.bool true) ∧ Below w.heap.size w w' := by
  by_cases s0 : l0 ≤ 65536
  case neg => exact law_long0 a0 l0 c0 id gr d kd w (by omega)
  by_cases s1 : id.size ≤ 65536
  case neg => exact law_long1 a0 l0 c0 id gr d kd w s0 (by omega)
  by_cases s2 : gr.size ≤ 65536
  case neg => exact law_long2 a0 l0 c0 id gr d kd w s0 s1 (by omega)
  cases hg : gr.toList.isEmpty
  · exact law_nil a0 l0 c0 id gr d kd w s0 s1 s2 hg (chain_row h s0)
  · exact law_one a0 l0 c0 id gr d kd w s0 s1 s2 hg (chain_row h s0)
end Go.Proofs.Qxb6613226a
