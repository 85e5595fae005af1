/-
  FnNewClockScriptEachAfterAllBefore: the walk (way 1). By an AI agent.
-/
import Derived.Test.Qxb6615029aScr
import Derived.Deep.RegionHeld3
import Derived.RegionTactic
namespace Go.Proofs.Qxb6615029a
open Go.RowKit
set_option linter.unusedVariables false

set_option maxHeartbeats 1000000 in
theorem script_1 (b0 o0 b1 o1 b2 o2 l0 c0 l1 c1 l2 c2 : Nat) (z0 z1 z2 : List Int) (w : World) (h0 : l0 ≤ 4096) (h1 : l1 ≤ 4096) (h2 : l2 ≤ 4096)
    (r0 : ∀ k, k < l0 → w.cell? ⟨b0, o0 + k, none⟩ = some (.int .i64 (z0.getD k 0)) ∧ -9223372036854775808 ≤ z0.getD k 0 ∧ z0.getD k 0 ≤ 9223372036854775807)
    (r1 : ∀ k, k < l1 → w.cell? ⟨b1, o1 + k, none⟩ = some (.int .i64 (z1.getD k 0)) ∧ -9223372036854775808 ≤ z1.getD k 0 ∧ z1.getD k 0 ≤ 9223372036854775807)
    (r2 : ∀ k, k < l2 → w.cell? ⟨b2, o2 + k, none⟩ = some (.int .u32 (z2.getD k 0)) ∧ 0 ≤ z2.getD k 0 ∧ z2.getD k 0 ≤ 4294967295)
    (n0 : b0 < w.heap.size) (n1 : b1 < w.heap.size) (n2 : b2 < w.heap.size)
    (d1 : l1 < l0) (d2 : ¬ l2 < l1) :
    Calls Try.prog 7 #[.slice (some ⟨b0, o0, none⟩) l0 c0, .slice (some ⟨b1, o1, none⟩) l1 c1, .slice (some ⟨b2, o2, none⟩) l2 c2] w fun e w' => e = .returned (.bool true) ∧ Q w.heap.size w w' := by
  have t0 : decide ((4096 : Int) < (l0 : Int)) = false := by simp; omega
  have t1 : decide ((4096 : Int) < (l1 : Int)) = false := by simp; omega
  have t2 : decide ((4096 : Int) < (l2 : Int)) = false := by simp; omega
  have R0 := hide r0
  have R1 := hide r1
  have R2 := hide r2
  clear r0 r1 r2
  go_enter Try.func7, Try.ntmps7
  go_wp2_with fail
  refine (bytes_any _ _ _ _ _ _ _ _ _ _).mono ?_
  rintro e w' ⟨⟨b, rfl⟩, rfl⟩
  cases b
  · go_wp2
    go_ret
    exact ⟨rfl, Q.refl _ _⟩
  go_wp2_with (go_at_call 15; refine (mk_any _ _).mono ?_; rintro e w' ⟨rfl, rfl⟩)
  go_loopw [11] (fun i wr => ∃ (k : Nat) (pt lW lL : Int), k ≤ l1 ∧ i = .int .i64 k ∧ Scr w wr pt lW lL lW lL ∧ -9223372036854775808 ≤ lW ∧ lW ≤ 9223372036854775807 ∧ 0 ≤ lL ∧ lL ≤ 4294967295) (fun i _ => (l1 - intOf i).toNat)
  case atStart => exact ⟨0, 0, 0, 0, by omega, rfl, scr_new w, by omega, by omega, by omega, by omega⟩
  case round =>
    obtain ⟨k, pt, lW, lL, hk, rfl, hS, p0, p1, p2, p3⟩ := hrel
    by_cases hlt : k < l1
    · obtain ⟨x0, y0, y0'⟩ := unhide R0 k (by omega)
      obtain ⟨x1, y1, y1'⟩ := unhide R1 k (by omega)
      obtain ⟨x2, y2, y2'⟩ := unhide R2 k (by omega)
      generalize z0.getD k 0 = v at *
      generalize z1.getD k 0 = rW at *
      generalize z2.getD k 0 = rL at *
      have s := hS.s
      have j0 := (hS.q.cell _ _ n0).trans x0
      have j1 := (hS.q.cell _ _ n1).trans x1
      have j2 := (hS.q.cell _ _ n2).trans x2
      have u0 := hS.u0
      have u1 := hS.u1
      have g := hS.g
      have z : w.heap.size < wr.heap.size := by omega
      have hn := hS.C.hn
      have HS := hide hS
      have hlt0 : (k : Int) < (l0 : Int) := by omega
      have hlt1 : (k : Int) < (l1 : Int) := by omega
      have hlt2 : (k : Int) < (l2 : Int) := by omega
      have m0 : b0 < wr.heap.size := by omega
      have m1 : b1 < wr.heap.size := by omega
      have m2 : b2 < wr.heap.size := by omega
      obtain ⟨zz1, zz2, zz3, zz4⟩ := lts z
      obtain ⟨zs1, zs2, zs3, zs4⟩ := lts s
      obtain ⟨za1, za2, za3, za4⟩ := lts m0
      clear x1 x2 hS R0 R1 R2 t0 t1 t2
      go_wp2_with fail
      go_region
      cases hb : ltT lW lL rW rL
      · cases ht : topT lW lL
        · go_wp2_with fail
          refine (before_any lW lL rW rL _ p0 p1 y1 y1').mono ?_
          rintro e w' ⟨rfl, c3, c4, rfl⟩
          go_wp2_with fail
          refine (great_any lW lL _).mono ?_
          rintro e w' ⟨rfl, c5, rfl⟩
          go_wp2_with fail
          have hno : ¬ (lW = 9223372036854775807 ∧ lL = 4294967295) := by simpa [topT] using ht
          have S1 := scr_at (unhide HS) v #[.int .i64 rW, .int .u32 rL] #[.int .i64 lW, .int .u32 lL] c3 c4 c5
          refine (update_last (w.heap.size + 1 + 1) (w.heap.size + 1) w.heap.size v lW lL rW rL _ S1.C S1.m S1.l3 S1.l4 p0 p1 p2 p3 hno hb).mono ?_
          rintro e w1 ⟨rfl, hA⟩
          have S2 := S1.adv hA
          have s1 : wr.heap.size + 1 < w1.heap.size := by have := hA.q.size; simp at this; omega
          have k0 : w1.cell? ⟨wr.heap.size + 1, 0, none⟩ = some (.int .i64 lW) := by rw [hA.old _ _ (by simp) (by omega)]; simp [go_sem]
          have k1 : w1.cell? ⟨wr.heap.size + 1, 1, none⟩ = some (.int .u32 lL) := by rw [hA.old _ _ (by simp) (by omega)]; simp [go_sem]
          have k2 := (S2.q.cell _ _ n0).trans x0
          have s2 : b0 < w1.heap.size := by omega
          have HN := hide hno
          have H2 := hide S2
          clear S1 hA S2 hno j0 j1 j2 u0 u1 g hn HS zz1 zz2 zz3 zz4 zs1 zs2 zs3 zs4 za1 za2 za3 za4 m1 m2 hlt1 hlt2
          go_wp2_with fail
          have s4 : wr.heap.size + 1 < w1.heap.size + 1 := by omega
          have s5 : b0 < w1.heap.size + 1 := by omega
          go_region_held3 (fun w' => w'.cell? ⟨w1.heap.size, 0, none⟩ = some (.int .i64 (advW v lW lL)) ∧ w'.cell? ⟨w1.heap.size, 1, none⟩ = some (.int .u32 (advL v lW lL)) ∧ w'.cell? ⟨wr.heap.size + 1, 0, none⟩ = some (.int .i64 lW) ∧ w'.cell? ⟨wr.heap.size + 1, 1, none⟩ = some (.int .u32 lL) ∧ w'.cell? ⟨b0, o0 + k, none⟩ = some (.int .i64 v)) (simp [*, go_sem, World.cell?_alloc_past])
            (first | (go_at_call 17; refine (least_adv lW lL v _ p0 p1 p2 p3 y0 y0' (unhide HN)).mono ?_; rintro e w3 ⟨rfl, hq3⟩; have hc3 := hq3.cell; have HQ3 := hide hq3; clear hq3; simp only [World.size_drew, World.size_alloc] at hc3))
          have S3 := ((unhide H2).grow ((Q.refl _ _).more _ _).drew).grow (unhide HQ3)
          have j3 : w3.cell? ⟨w1.heap.size, 0, none⟩ = some (.int .i64 (advW v lW lL)) := by rw [hc3 _ _ (by omega)]; simp [go_sem]
          have j4 : w3.cell? ⟨w1.heap.size, 1, none⟩ = some (.int .u32 (advL v lW lL)) := by rw [hc3 _ _ (by omega)]; simp [go_sem]
          have k3 := S3.u0
          have k4 := S3.u1
          have k5 := S3.g0
          have k6 := S3.g1
          have H3 := hide S3
          clear hc3 S3 HQ3 H2 k0 k1 k2 s1 s2 s4 s5
          go_wp2
          have ab := adv_bounds (pt := v) p0 p1 p2 p3 y0' (unhide HN)
          exact ⟨⟨k + 1, v, advW v lW lL, advL v lW lL, by omega, by go_num, (unhide H3).hi _ _, ab.1, ab.2.1, ab.2.2.1, ab.2.2.2⟩, by simp [intOf]; omega⟩
        · go_wp2_with fail
          refine (before_any lW lL rW rL _ p0 p1 y1 y1').mono ?_
          rintro e w' ⟨rfl, c3, c4, rfl⟩
          go_wp2_with fail
          refine (great_any lW lL _).mono ?_
          rintro e w' ⟨rfl, c5, rfl⟩
          go_wp2
          go_ret
          exact ⟨rfl, ((unhide HS).grow ((((((Q.refl _ _).more _ _).more _ _).more _ _).more _ _).more _ _).drew).q⟩
      · cases ht : topT rW rL
        · go_wp2_with fail
          refine (before_any lW lL rW rL _ p0 p1 y1 y1').mono ?_
          rintro e w' ⟨rfl, c3, c4, rfl⟩
          go_wp2_with fail
          refine (great_any rW rL _).mono ?_
          rintro e w' ⟨rfl, c5, rfl⟩
          go_wp2_with fail
          have hno : ¬ (rW = 9223372036854775807 ∧ rL = 4294967295) := by simpa [topT] using ht
          have S1 := scr_at (unhide HS) v #[.int .i64 rW, .int .u32 rL] #[.int .i64 rW, .int .u32 rL] c3 c4 c5
          refine (update_rem (w.heap.size + 1 + 1) (w.heap.size + 1) w.heap.size v lW lL rW rL _ S1.C S1.m S1.l3 S1.l4 y1 y1' y2 y2' hno hb).mono ?_
          rintro e w1 ⟨rfl, hA⟩
          have S2 := S1.adv hA
          have s1 : wr.heap.size + 1 < w1.heap.size := by have := hA.q.size; simp at this; omega
          have k0 : w1.cell? ⟨wr.heap.size + 1, 0, none⟩ = some (.int .i64 rW) := by rw [hA.old _ _ (by simp) (by omega)]; simp [go_sem]
          have k1 : w1.cell? ⟨wr.heap.size + 1, 1, none⟩ = some (.int .u32 rL) := by rw [hA.old _ _ (by simp) (by omega)]; simp [go_sem]
          have k2 := (S2.q.cell _ _ n0).trans x0
          have s2 : b0 < w1.heap.size := by omega
          have HN := hide hno
          have H2 := hide S2
          clear S1 hA S2 hno j0 j1 j2 u0 u1 g hn HS zz1 zz2 zz3 zz4 zs1 zs2 zs3 zs4 za1 za2 za3 za4 m1 m2 hlt1 hlt2
          go_wp2_with fail
          have s4 : wr.heap.size + 1 < w1.heap.size + 1 := by omega
          have s5 : b0 < w1.heap.size + 1 := by omega
          go_region_held3 (fun w' => w'.cell? ⟨w1.heap.size, 0, none⟩ = some (.int .i64 (advW v rW rL)) ∧ w'.cell? ⟨w1.heap.size, 1, none⟩ = some (.int .u32 (advL v rW rL)) ∧ w'.cell? ⟨wr.heap.size + 1, 0, none⟩ = some (.int .i64 rW) ∧ w'.cell? ⟨wr.heap.size + 1, 1, none⟩ = some (.int .u32 rL) ∧ w'.cell? ⟨b0, o0 + k, none⟩ = some (.int .i64 v)) (simp [*, go_sem, World.cell?_alloc_past])
            (first | (go_at_call 17; refine (least_adv rW rL v _ y1 y1' y2 y2' y0 y0' (unhide HN)).mono ?_; rintro e w3 ⟨rfl, hq3⟩; have hc3 := hq3.cell; have HQ3 := hide hq3; clear hq3; simp only [World.size_drew, World.size_alloc] at hc3))
          have S3 := ((unhide H2).grow ((Q.refl _ _).more _ _).drew).grow (unhide HQ3)
          have j3 : w3.cell? ⟨w1.heap.size, 0, none⟩ = some (.int .i64 (advW v rW rL)) := by rw [hc3 _ _ (by omega)]; simp [go_sem]
          have j4 : w3.cell? ⟨w1.heap.size, 1, none⟩ = some (.int .u32 (advL v rW rL)) := by rw [hc3 _ _ (by omega)]; simp [go_sem]
          have k3 := S3.u0
          have k4 := S3.u1
          have k5 := S3.g0
          have k6 := S3.g1
          have H3 := hide S3
          clear hc3 S3 HQ3 H2 k0 k1 k2 s1 s2 s4 s5
          go_wp2
          have ab := adv_bounds (pt := v) y1 y1' y2 y2' y0' (unhide HN)
          exact ⟨⟨k + 1, v, advW v rW rL, advL v rW rL, by omega, by go_num, (unhide H3).hi _ _, ab.1, ab.2.1, ab.2.2.1, ab.2.2.2⟩, by simp [intOf]; omega⟩
        · go_wp2_with fail
          refine (before_any lW lL rW rL _ p0 p1 y1 y1').mono ?_
          rintro e w' ⟨rfl, c3, c4, rfl⟩
          go_wp2_with fail
          refine (great_any rW rL _).mono ?_
          rintro e w' ⟨rfl, c5, rfl⟩
          go_wp2
          go_ret
          exact ⟨rfl, ((unhide HS).grow ((((((Q.refl _ _).more _ _).more _ _).more _ _).more _ _).more _ _).drew).q⟩
    · go_wp2
      go_ret
      exact ⟨rfl, hS.q⟩
end Go.Proofs.Qxb6615029a
