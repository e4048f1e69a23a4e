import Derived.Test.Qxb6601940aNumC
namespace Go.Proofs.Qxb6601940a
open Go.RowKit
set_option linter.unusedVariables false

theorem results_tmp4 {fn : Func} {t u v x : Tmp} (h : fn.results = #[.tmp t, .tmp u, .tmp v, .tmp x]) (tmps : Array Value) (P : Program) (w : World) :
    (results fn tmps).run P w = .ok (.tuple #[tmps.getD t undef, tmps.getD u undef, tmps.getD v undef, tmps.getD x undef]) w := by
  simp [results, h]

/-- The five rows that a numbering takes. -/
def taken (b0 : Option Addr) (m0 d0 : Nat) (xs0 : List Int) (a1 : Option Addr) (n1 c1 : Nat) (xs1 : List Int) (a2 : Option Addr) (n2 c2 : Nat) (xs2 : List Int) (a3 : Option Addr) (n3 c3 : Nat) (xs3 : List Int) (a4 : Option Addr) (c4 : Nat) (ks : List Int) : List (Value × Nat × List Int) :=
  [(.slice b0 m0 d0, m0, xs0), (.slice a1 n1 c1, n1, xs1), (.slice a2 n2 c2, n2, xs2), (.slice a3 n3 c3, n3, xs3), (.slice a4 ks.length c4, ks.length, ks)]

theorem number_any (sb : Nat) (b0 : Option Addr) (m0 d0 : Nat) (a1 : Option Addr) (n1 c1 : Nat) (a2 : Option Addr) (n2 c2 : Nat) (a3 : Option Addr) (n3 c3 : Nat) (a4 : Option Addr) (c4 : Nat) (v L : Nat) (ks xs1 xs2 xs3 : List Int) (B : Nat) (w : World)
    (hL : L = max m0 v) (hv : v ≤ 65536) (hn0 : m0 ≤ 2000000) (hn4 : ks.length ≤ 2000000) (hB : B ≤ w.heap.size) (hks : ∀ j, j < ks.length → 0 ≤ ks.getD j 0 ∧ ks.getD j 0 < v)
    (hsb : w.heap[sb]? = some (.cells #[.slice b0 m0 d0, .slice a1 n1 c1, .slice a2 n2 c2, .slice a3 n3 c3] 72 (0, 0)))
    (hrows : Rows5 3 w B (taken b0 m0 d0 (List.replicate m0 0) a1 n1 c1 xs1 a2 n2 c2 xs2 a3 n3 c3 xs3 a4 c4 ks)) :
    Calls Try.prog 42 #[.pointer (some ⟨sb, 0, none⟩), .slice a4 ks.length c4, .int .i64 v] w fun e w' => e = .returned (.tuple #[]) ∧ NumPost sb B L (.slice a4 ks.length c4) ks (taken b0 m0 d0 (List.replicate m0 0) a1 n1 c1 xs1 a2 n2 c2 xs2 a3 n3 c3 xs3 a4 c4 ks) w w' := by
  by_cases h : v ≤ m0
  · rw [show L = m0 from by omega]
    exact number_long sb b0 m0 d0 a1 n1 c1 a2 n2 c2 a3 n3 c3 a4 c4 v ks xs1 xs2 xs3 B w h hv hn0 hn4 hB hks hsb hrows
  · rw [show L = v from by omega]
    exact number_made sb b0 m0 d0 a1 n1 c1 a2 n2 c2 a3 n3 c3 a4 c4 v ks xs1 xs2 xs3 B w (by omega) hv hn0 hn4 hB hks hsb hrows

set_option maxHeartbeats 400000 in
theorem zznumber_any (b0 : Option Addr) (m0 d0 : Nat) (a1 : Option Addr) (n1 c1 : Nat) (a2 : Option Addr) (n2 c2 : Nat) (a3 : Option Addr) (n3 c3 : Nat) (a4 : Option Addr) (c4 : Nat) (n v L : Nat) (ks xs1 xs2 xs3 : List Int) (B : Nat) (w : World)
    (hn : n = ks.length) (hL : L = max m0 v) (hv : v ≤ 65536) (hn0 : m0 ≤ 2000000) (hn4 : ks.length ≤ 2000000) (hB : B ≤ w.heap.size) (hks : ∀ j, j < ks.length → 0 ≤ ks.getD j 0 ∧ ks.getD j 0 < v)
    (hrows : Rows5 3 w B (taken b0 m0 d0 (List.replicate m0 0) a1 n1 c1 xs1 a2 n2 c2 xs2 a3 n3 c3 xs3 a4 c4 ks)) :
    Calls Try.prog 33 #[.slice b0 m0 d0, .slice a1 n1 c1, .slice a2 n2 c2, .slice a3 n3 c3, .slice a4 n c4, .int .i64 v] w fun e w' => ∃ ar cs av cv af cf ac cc,
      e = .returned (.tuple #[.slice ar L cs, .slice av (Pl.D ks).length cv, .slice af (Pl.D ks).length cf, .slice ac (Pl.D ks).length cc]) ∧
      Turn 3 B (taken b0 m0 d0 (List.replicate m0 0) a1 n1 c1 xs1 a2 n2 c2 xs2 a3 n3 c3 xs3 a4 c4 ks) (numbered L (.slice ar L cs) (.slice av (Pl.D ks).length cv) (.slice af (Pl.D ks).length cf) (.slice ac (Pl.D ks).length cc) (.slice a4 ks.length c4) ks) w w' := by
  subst hn
  have HR : Hid (Rows5 3 w B (taken b0 m0 d0 (List.replicate m0 0) a1 n1 c1 xs1 a2 n2 c2 xs2 a3 n3 c3 xs3 a4 c4 ks)) := hrows
  have HL : Hid (L = max m0 v) := hL
  have HKS : Hid (∀ j, j < ks.length → 0 ≤ ks.getD j 0 ∧ ks.getD j 0 < v) := hks
  clear hrows hL hks
  go_enter Try.func33, Try.ntmps33
  go_wp2_with fail
  refine (number_any w.heap.size b0 m0 d0 a1 n1 c1 a2 n2 c2 a3 n3 c3 a4 c4 v L ks xs1 xs2 xs3 B _ HL.out hv hn0 hn4 ?_ HKS.out ?_ ?_).mono ?_
  · simp; omega
  · exact heap_alloc_new w _
  · exact HR.out.kept (Kept.alloc _ _)
  rintro e w2 ⟨rfl, vs, vv, vf, vc, hb, hr, hk, hl⟩
  obtain ⟨ar, cs, rfl⟩ := (hr.get (i := 0) rfl).slice
  obtain ⟨av, cv, rfl⟩ := (hr.get (i := 1) rfl).slice
  obtain ⟨af, cf, rfl⟩ := (hr.get (i := 2) rfl).slice
  obtain ⟨ac, cc, rfl⟩ := (hr.get (i := 3) rfl).slice
  have q0 := cell_of_row w2 w.heap.size 0 _ 72 (0, 0) hb
  have q1 := cell_of_row w2 w.heap.size 1 _ 72 (0, 0) hb
  have q2 := cell_of_row w2 w.heap.size 2 _ 72 (0, 0) hb
  have q3 := cell_of_row w2 w.heap.size 3 _ 72 (0, 0) hb
  simp at q0 q1 q2 q3
  have HT : Hid (Turn 3 B (taken b0 m0 d0 (List.replicate m0 0) a1 n1 c1 xs1 a2 n2 c2 xs2 a3 n3 c3 xs3 a4 c4 ks) (numbered L (.slice ar L cs) (.slice av (Pl.D ks).length cv) (.slice af (Pl.D ks).length cf) (.slice ac (Pl.D ks).length cc) (.slice a4 ks.length c4) ks) w w2) := by
    refine ⟨hr, ?_, fun i r hi g hg hlt => hl i r hi g hg (by simp; omega)⟩
    have k0 := Kept.alloc w (.cells #[.slice b0 m0 d0, .slice a1 n1 c1, .slice a2 n2 c2, .slice a3 n3 c3] 72)
    refine (k0.mono (by simp)).trans hk ?_
    intro k hk2 hlt
    rcases List.mem_cons.1 hk2 with h | h
    · simp at h; omega
    · exact h
  clear hb hr hk hl
  go_wp2
  go_quiet (fail)
  go_wp2
  (try simp only [Exit.inBlock, Exit.then])
  refine bodyPost_ret (results_tmp4 rfl _ _ _) rfl ?_
  exact ⟨ar, cs, av, cv, af, cf, ac, cc, rfl, HT.out.next (Kept.drewN _ _)⟩

end Go.Proofs.Qxb6601940a
