/-
  components, by its contract.
-/
import Derived.Test.YbulkcnjcPop
import Derived.Deep.OwnRows
import Derived.Deep.LoopGhost
import Derived.Deep.DeepCutAuto
import Derived.Deep.RegionHeld3
import Derived.BigRegion
namespace Go.Proofs.Ybulkcnjc
open Go.RowKit Go.Deep
set_option linter.unusedVariables false

attribute [local go_sem ↓] Go.wp_at_zero Go.wp_at_succ

theorem rel_start {g : Tj.G} {m bS bX bs bt : Nat} {t : Int} {w w1 : World} (hg : GMem g m bS bX w) (hS : bS < w.heap.size) (hX : bX < w.heap.size)
    (hb : Below (w.alloc (.cells #[.iface 29 (gv g.n m bS bX)] 42)).heap.size (w.alloc (.cells #[.iface 29 (gv g.n m bS bX)] 42)) w1)
    (hsm : Blk w bs 21 #[.int .i32 (-1)]) (htx : Blk w bt 21 #[.int .i32 t]) (hne : bs ≠ bt) (hsS : bs ≠ bS) (hsX : bs ≠ bX) (gok : g.Ok) (mono : ∀ v, v < g.n → g.st v ≤ g.st (v + 1)) (top : ∀ v, v ≤ g.n → g.st v ≤ m) (hn : g.n ≤ 48) (hm : m ≤ 1024) :
    Rel g (startK m bS bX w w1) bs bt t w Tj.S.init (startW w1 g.n) ∧ Fix g (startK m bS bX w w1) bs bt t w := by
  obtain ⟨hM, hB⟩ := start_mem g m bS bX w w1 hg hS hX hb
  have hz : w.heap.size < w1.heap.size := by have := hb.size; simp at this; omega
  have hbw : Below w.heap.size w (startW w1 g.n) := ((Below.refl _ w).alloc (Nat.le_refl _) _).trans ((hb.mono (by simp)).trans (hB.mono (by omega)))
  exact ⟨⟨Tj.inv_init g, CntOk.init g, hM, ⟨hbw.os, hbw.tape, hbw.output, hbw.size, fun j hj _ => hbw.block j hj⟩, hsm.below hbw hsm.lt, htx.below hbw htx.lt⟩,
    ⟨startK_ok m bS bX w w1 hS hX hz, gok, mono, top, hn, hm, hsm.lt, htx.lt, hne, hsS, hsX, Nat.le_refl _⟩⟩

theorem Rel.drew {g : Tj.G} {k : Bk} {bs bt : Nat} {t : Int} {w0 w : World} {s : Tj.S} (h : Rel g k bs bt t w0 s w) (F : Fix g k bs bt t w0) : Rel g k bs bt t w0 s w.drew := h.same F (Below.refl _ _).drew

theorem Mem.drew {g : Tj.G} {k : Bk} {s : Tj.S} {w : World} (h : Mem g k s w) (ok : k.Ok) : Mem g k s w.drew := h.below ok (Below.refl _ _).drew

theorem Popped.drew {g : Tj.G} {k : Bk} {bs bt : Nat} {t : Int} {w0 w : World} {s : Tj.S} {fs : List (Nat × Nat)} {v : Nat} (h : Popped g k bs bt t w0 s fs v w) (F : Fix g k bs bt t w0) : Popped g k bs bt t w0 s fs v w.drew :=
  ⟨h.inv, h.cnt, h.hp, h.par, h.mem.drew F.ok, ⟨h.grown.os, h.grown.tape, h.grown.output, h.grown.size, h.grown.block⟩, h.sm, h.tx⟩

set_option maxRecDepth 100000 in
set_option maxHeartbeats 4000000 in
theorem components_any (g : Tj.G) (m bS bX bs bt : Nat) (t : Int) (w : World) (hg : GMem g m bS bX w) (hS : bS < w.heap.size) (hX : bX < w.heap.size)
    (hsm : Blk w bs 21 #[.int .i32 (-1)]) (htx : Blk w bt 21 #[.int .i32 t]) (hne : bs ≠ bt) (hsS : bs ≠ bS) (hsX : bs ≠ bX) (gok : g.Ok) (mono : ∀ v, v < g.n → g.st v ≤ g.st (v + 1)) (top : ∀ v, v ≤ g.n → g.st v ≤ m) (hn : g.n ≤ 48) (hm : m ≤ 1024) :
    Calls Yba.prog 10 #[.iface 29 (gv g.n m bS bX), .func (.func 11) #[] #[.pointer (some ⟨bt, 0, none⟩), .pointer (some ⟨bs, 0, none⟩)]] w fun e w' =>
      e = .returned (.tuple #[]) ∧ (∃ r, Tj.IsMin g t r ∧ Blk w' bs 21 #[.int .i32 r]) ∧ w.grownBy w' (some bs) := by
  have hmk := fun W => run_make_row' (P := Yba.prog) 23 21 (.int .i32 0) 4 Yba.underlying23 info21 rfl .i64 .i64 g.n (by omega) (by omega) W
  have hmb := fun W => run_make_row' (P := Yba.prog) 30 4 (.bool false) 1 Yba.underlying30 info4 rfl .i64 .i64 g.n (by omega) (by omega) W
  have hmc := m_cnt
  go_enter Yba.func10, Yba.ntmps10
  go_wp2_with fail
  refine (nodeCount_any g.n m bS bX _ hn).mono ?_
  rintro e w1 ⟨rfl, hb1⟩
  obtain ⟨hR0, hF⟩ := rel_start hg hS hX hb1 hsm htx hne hsS hsX gok mono top hn hm
  have HR0 : Hid (Rel g (startK m bS bX w w1) bs bt t w Tj.S.init (startW w1 g.n)) := hR0
  have HF : Hid (Fix g (startK m bS bX w w1) bs bt t w) := hF
  clear hR0 hF hb1 hg hS hX hsm htx hne hsS hsX gok mono top
  go_wp2
  clear hmk hmb hmc
  unfold startK startW at HR0
  unfold startK at HF
  generalize ((((((((w1.alloc (.cells (madeCells #[.int .i32 0] g.n) 21)).alloc (.cells #[.slice (some ⟨w1.heap.size, 0, none⟩) g.n g.n] 23)).alloc (.cells (madeCells #[.int .i32 0] g.n) 21)).alloc (.cells #[.slice (some ⟨w1.heap.size + 1 + 1, 0, none⟩) g.n g.n] 23)).alloc (.cells (madeCells #[.bool false] g.n) 4)).alloc (.cells #[.slice (some ⟨w1.heap.size + 1 + 1 + 1 + 1, 0, none⟩) g.n g.n] 30)).alloc (.cells #[.slice none 0 0] 62)).alloc (.cells #[.slice none 0 0] 23)).alloc (.cells #[.int .i32 0] 21) = w2 at HR0 ⊢
  generalize w1.heap.size + 1 + 1 + 1 + 1 + 1 + 1 + 1 + 1 + 1 = base at HR0 HF ⊢
  generalize w1.heap.size + 1 + 1 + 1 + 1 + 1 + 1 + 1 + 1 = bR at HR0 HF ⊢
  generalize w1.heap.size + 1 + 1 + 1 + 1 + 1 + 1 + 1 = bQ at HR0 HF ⊢
  generalize w1.heap.size + 1 + 1 + 1 + 1 + 1 + 1 = bP at HR0 HF ⊢
  generalize w1.heap.size + 1 + 1 + 1 + 1 + 1 = bN at HR0 HF ⊢
  generalize w1.heap.size + 1 + 1 + 1 + 1 = aN at HR0 HF ⊢
  generalize w1.heap.size + 1 + 1 + 1 = bL at HR0 HF ⊢
  generalize w1.heap.size + 1 + 1 = aL at HR0 HF ⊢
  generalize w1.heap.size + 1 = bO at HR0 HF ⊢
  generalize w1.heap.size = aO at HR0 HF ⊢
  generalize hbG : w.heap.size = bG at HR0 HF ⊢
  clear hbG
  go_loopg [34] g.n (fun gk c wr => ∃ (r : Nat) (s : Tj.S), gk + r = g.n ∧ c = .int .i32 (r : Int) ∧ s.path = [] ∧ (∀ v, v < r → s.ord v ≠ 0) ∧ Rel g ⟨m, bS, bX, bG, aO, bO, aL, bL, aN, bN, bP, bQ, bR, base⟩ bs bt t w s wr)
  case atStart => exact ⟨0, Tj.S.init, rfl, rfl, rfl, fun v hv => absurd hv (Nat.not_lt_zero _), HR0.out⟩
  case round =>
    clear HR0
    obtain ⟨r, s, hgk, rfl, hp0, hdone, hR⟩ := hrel
    by_cases hr : r < g.n
    · have hri : (r : Int) < (g.n : Int) := by omega
      have HR : Hid (Rel g ⟨m, bS, bX, bG, aO, bO, aL, bL, aN, bN, bP, bQ, bR, base⟩ bs bt t w s wr) := hR
      have HD : Hid (s.path = [] ∧ ∀ v, v < r → s.ord v ≠ 0) := ⟨hp0, hdone⟩
      have cO : wr.cell? ⟨bO, 0, none⟩ = some (.slice (some ⟨aO, 0, none⟩) g.n g.n) := hR.mem.oBox.one
      have cOr : wr.cell? ⟨aO, r, none⟩ = some (.int .i32 (s.ord r : Int)) := by rw [hR.mem.oArr.cell, ints_at _ _ _ hr]
      clear hR hp0 hdone
      by_cases h0 : s.ord r = 0
      · rw [h0] at cOr
        go_wp2_with fail
        have hvis := visit_any g ⟨m, bS, bX, bG, aO, bO, aL, bL, aN, bN, bP, bQ, bR, base⟩ s r wr HF.out.ok hn hr (by have := HR.out.cnt.lt; omega) (by have := HR.out.cnt.lt; have := HR.out.cnt.pa; omega) (by have := HR.out.cnt.lt; have := HR.out.cnt.op; omega) HR.out.mem
        unfold visArgs at hvis
        simp only at hvis
        refine hvis.mono ?_
        clear hvis
        rintro e w3 ⟨rfl, hM3, hb3⟩
        have hR3 : Rel g ⟨m, bS, bX, bG, aO, bO, aL, bL, aN, bN, bP, bQ, bR, base⟩ bs bt t w (s.visit g r) w3 :=
          HR.out.step HF.out hb3 (Tj.inv_visit HR.out.inv hr (HF.out.mono r hr) h0 (by intro p hp; simp [Tj.S.pv, HD.out.1] at hp)) (HR.out.cnt.visit hr h0) hM3 rfl
        have hD3 : ∀ v, v ≤ r → (s.visit g r).ord v ≠ 0 := by
          intro v hv
          by_cases e : v = r
          · subst e; show Tj.upd s.ord v (s.cnt + 1) v ≠ 0; rw [Tj.upd_same]; omega
          · show Tj.upd s.ord r (s.cnt + 1) v ≠ 0; rw [Tj.upd_other _ _ e]; exact HD.out.2 v (by omega)
        have HR3 : Hid (Rel g ⟨m, bS, bX, bG, aO, bO, aL, bL, aN, bN, bP, bQ, bR, base⟩ bs bt t w (s.visit g r) w3) := hR3
        have HD3 : Hid (∀ v, v ≤ r → (s.visit g r).ord v ≠ 0) := hD3
        clear hR3 hD3 HD HR cO cOr h0 hM3 hb3
        generalize s.visit g r = s1 at HR3 HD3
        go_wp2
        go_loopg [] (Tj.mu g s1) (fun gk wr => ∃ s : Tj.S, gk = Tj.mu g s ∧ (∀ v, v ≤ r → s.ord v ≠ 0) ∧ Rel g ⟨m, bS, bX, bG, aO, bO, aL, bL, aN, bN, bP, bQ, bR, base⟩ bs bt t w s wr)
        case atStart => exact ⟨s1, rfl, HD3.out, HR3.out⟩
        case round =>
          clear HR3 HD3
          obtain ⟨s2, hmu, hD, hR⟩ := hrel
          have HMU : Hid (_ = Tj.mu g s2) := hmu
          have HR : Hid (Rel g ⟨m, bS, bX, bG, aO, bO, aL, bL, aN, bN, bP, bQ, bR, base⟩ bs bt t w s2 wr) := hR
          have HD : Hid (∀ v, v ≤ r → s2.ord v ≠ 0) := hD
          clear hmu hR hD
          rcases List.eq_nil_or_concat s2.path with hp | ⟨fs, ⟨v, c⟩, hp⟩
          · obtain ⟨pv, hP, hpr⟩ := HR.out.mem.pBox
            rw [hp] at hpr
            have cP : wr.cell? ⟨bP, 0, none⟩ = some pv := hP.one
            have hpv : ∃ pa cap, pv = .slice pa 0 cap := by
              rcases hpr.2 with ⟨e, _⟩ | ⟨gb, cap, cur, e, _⟩
              · exact ⟨_, _, e⟩
              · exact ⟨_, _, e⟩
            obtain ⟨pa, pcap, rfl⟩ := hpv
            clear hP hpr
            go_wp2
            go_roundg (g.n - (r + 1))
            case measure => omega
            case rel => exact ⟨r + 1, s2, by omega, by go_num, hp, fun v hv => HD.out v (by omega), HR.out⟩
          · rw [List.concat_eq_append] at hp
            obtain ⟨pb, cap, hT⟩ := HR.out.mem.topAt hp
            have HT : Hid (TopAt ⟨m, bS, bX, bG, aO, bO, aL, bL, aN, bN, bP, bQ, bR, base⟩ wr fs.length v c pb cap) := hT
            have cP : wr.cell? ⟨bP, 0, none⟩ = some (.slice (some ⟨pb, 0, none⟩) (fs.length + 1) cap) := hT.box.one
            have cv := hT.cv
            have cc := hT.cc
            have hfl : fs.length ≤ 47 := by
              have h1 := HR.out.cnt.lt
              have h2 := HR.out.cnt.pa
              rw [hp] at h2
              simp at h2
              omega
            have htop := HR.out.inv.top hp
            have hvn : v < g.n := HR.out.inv.lt v htop.1
            have hpart := HR.out.inv.part v c (by rw [hp]; simp)
            have hcm : g.st (v + 1) ≤ m := HF.out.top (v + 1) (by omega)
            have cG : wr.cell? ⟨bG, 0, none⟩ = some (.iface 29 (gv g.n m bS bX)) := HR.out.mem.gBox.one
            have hSs : bS < wr.heap.size := by have h1 : bG < wr.heap.size := HR.out.mem.gBox.lt; have h2 : bS < bG := HF.out.ok.sG; omega
            have hXs : bX < wr.heap.size := by have h1 : bG < wr.heap.size := HR.out.mem.gBox.lt; have h2 : bX < bG := HF.out.ok.xG; omega
            have HGM : Hid (GMem g m bS bX wr) := HR.out.mem.gm
            have HP : Hid (s2.path = fs ++ [(v, c)]) := hp
            have hma := m_arc
            have hna := n_arc
            clear hT hp htop
            obtain ⟨hc1, hc2, hc3⟩ := hpart
            clear hc3
            by_cases hc : c < g.st (v + 1)
            · go_wp2
              go_region_held3 (fun w' => w'.cell? ⟨bG, 0, none⟩ = some (.iface 29 (gv g.n m bS bX)) ∧ w'.cell? ⟨pb, fs.length * 2 + 1, none⟩ = some (.int .i64 (c : Int)))
                (first | go_keep | (refine ⟨?_, ?_⟩ <;> assumption))
                (first | (go_at_call 82; refine (arc_yes g m bS bX v c _ hn hvn (by exact HGM.out.other rfl rfl) (by exact hSs) (by exact hXs) hm (by omega) hc).mono ?_; rintro e w4 ⟨rfl, hb4⟩; have hG4 : w4.cell? ⟨bG, 0, none⟩ = some (.iface 29 (gv g.n m bS bX)) := (hb4.cell (by exact HR.out.mem.gBox.lt)).trans cG; have hc4 : w4.cell? ⟨pb, fs.length * 2 + 1, none⟩ = some (.int .i64 (c : Int)) := (hb4.cell (by exact HT.out.lt)).trans cc))
              have hb4' := below_undrew hb4
              have HR4 : Hid (Rel g ⟨m, bS, bX, bG, aO, bO, aL, bL, aN, bN, bP, bQ, bR, base⟩ bs bt t w s2 w4) := HR.out.same HF.out hb4'
              have HT4 : Hid (TopAt ⟨m, bS, bX, bG, aO, bO, aL, bL, aN, bN, bP, bQ, bR, base⟩ w4 fs.length v c pb cap) := HT.out.below hb4'
              clear hb4 hb4' HR HT HGM hSs hXs cP cv cc cG hma hna hG4 hc4
              have hx : g.sc c < g.n := HF.out.gok v c hvn hc1 hc
              have cc4 := HT4.out.cc
              have fc4 := HT4.out.free
              have cO4 : w4.cell? ⟨bO, 0, none⟩ = some (.slice (some ⟨aO, 0, none⟩) g.n g.n) := HR4.out.mem.oBox.one
              have cOx4 : w4.cell? ⟨aO, g.sc c, none⟩ = some (.int .i32 (s2.ord (g.sc c) : Int)) := by rw [HR4.out.mem.oArr.cell, ints_at _ _ _ hx]
              have hpbb : base ≤ pb := HT4.out.base
              have hok := HF.out.ok
              have k1 : bG < aO := hok.gO
              have k2 : aO < bO := hok.oO
              have k3 : bO < aL := hok.oL
              have k4 : aL < bL := hok.lL
              have k5 : bL < aN := hok.lN
              have k6 : aN < bN := hok.nN
              have k7 : bN < bP := hok.nP
              have k8 : bP < bQ := hok.pQ
              have k9 : bQ < bR := hok.qR
              have k10 : bR < base := hok.rB
              have n1 : ¬ pb = bO := by omega
              have n2 : ¬ pb = aO := by omega
              have n3 : ¬ pb = bN := by omega
              have n4 : ¬ pb = aN := by omega
              have hxi : (g.sc c : Int) < (g.n : Int) := by omega
              clear hok
              by_cases h0 : s2.ord (g.sc c) = 0
              · rw [h0] at cOx4
                clear k1 k2 k3 k4 k5 k6 k7 k8 k9 k10
                go_wp2_with fail
                have hM5 := HR4.out.mem.cursor HF.out.ok HP.out HT4.out (c + 1)
                have hvis := visit_any g ⟨m, bS, bX, bG, aO, bO, aL, bL, aN, bN, bP, bQ, bR, base⟩ _ (g.sc c) _ HF.out.ok hn hx (by have := HR4.out.cnt.lt; show s2.cnt ≤ 48; omega) (by simp; omega) (by have := HR4.out.cnt.lt; have := HR4.out.cnt.op; show s2.opn.length ≤ 48; omega) hM5
                unfold visArgs at hvis
                simp only at hvis
                have hcast : ((c + 1 : Nat) : Int) = (c : Int) + 1 := by omega
                rw [hcast] at hvis
                refine hvis.mono ?_
                clear hvis hM5
                rintro e w5 ⟨rfl, hM5, hb5⟩
                rw [← hcast] at hb5
                have HR5 : Hid (Rel g ⟨m, bS, bX, bG, aO, bO, aL, bL, aN, bN, bP, bQ, bR, base⟩ bs bt t w (({ s2 with path := fs ++ [(v, c + 1)] } : Tj.S).visit g (g.sc c)) w5) := HR4.out.tree HF.out HP.out HT4.out hc1 hc h0 hb5 hM5
                have HD5 : Hid (∀ u, u ≤ r → (({ s2 with path := fs ++ [(v, c + 1)] } : Tj.S).visit g (g.sc c)).ord u ≠ 0) := by
                  intro u hu
                  show Tj.upd s2.ord (g.sc c) (s2.cnt + 1) u ≠ 0
                  by_cases e : u = g.sc c
                  · subst e; rw [Tj.upd_same]; omega
                  · rw [Tj.upd_other _ _ e]; exact HD.out u hu
                have hmu1 := Tj.mu_cursor g s2 (fs := fs) (gs := []) HP.out hc
                have hmu2 := Tj.mu_visit g ({ s2 with path := fs ++ [(v, c + 1)] } : Tj.S) (g.sc c) hx h0
                have HM : Hid (Tj.mu g (({ s2 with path := fs ++ [(v, c + 1)] } : Tj.S).visit g (g.sc c)) < gk) := by
                  rw [HMU.out]
                  show _ < _
                  omega
                clear hmu1 hmu2 hM5 hb5 hcast HR4 HT4 HMU HD
                generalize (({ s2 with path := fs ++ [(v, c + 1)] } : Tj.S).visit g (g.sc c)) = s5 at HR5 HD5 HM
                go_wp2
                go_roundg (Tj.mu g s5)
                case measure => exact HM.out
                case rel => exact ⟨s5, rfl, HD5.out, HR5.out⟩
              · have hne0 : ((s2.ord (g.sc c) : Int) == 0) = false := by simp; omega
                have cN4 : w4.cell? ⟨bN, 0, none⟩ = some (.slice (some ⟨aN, 0, none⟩) g.n g.n) := HR4.out.mem.nBox.one
                have cNx4 : w4.cell? ⟨aN, g.sc c, none⟩ = some (.bool (s2.on (g.sc c))) := by rw [HR4.out.mem.nArr.cell, bools_at _ _ _ hx]
                by_cases hon : s2.on (g.sc c) = true
                · rw [hon] at cNx4
                  have cL4 : w4.cell? ⟨bL, 0, none⟩ = some (.slice (some ⟨aL, 0, none⟩) g.n g.n) := HR4.out.mem.lBox.one
                  have cLv4 : w4.cell? ⟨aL, v, none⟩ = some (.int .i32 (s2.low v : Int)) := by rw [HR4.out.mem.lArr.cell, ints_at _ _ _ hvn]
                  have fLv4 : w4.frozen? ⟨aL, v, none⟩ = false := HR4.out.mem.lArr.free v
                  have n5 : ¬ pb = bL := by omega
                  have n6 : ¬ pb = aL := by omega
                  have hvi : (v : Int) < (g.n : Int) := by omega
                  have hback := HR4.out.back HF.out HP.out HT4.out hc1 hc h0 ((HR4.out.inv.onIff _).1 hon)
                  have hcast : ((c + 1 : Nat) : Int) = (c : Int) + 1 := by omega
                  rw [hcast] at hback
                  have HR5 : Hid (Rel g ⟨m, bS, bX, bG, aO, bO, aL, bL, aN, bN, bP, bQ, bR, base⟩ bs bt t w { s2 with path := fs ++ [(v, c + 1)], low := Tj.upd s2.low v (min (s2.low v) (s2.ord (g.sc c))) } ((w4.setCell ⟨pb, fs.length * 2 + 1, none⟩ (.int .i64 ((c : Int) + 1))).setCell ⟨aL, v, none⟩ (.int .i32 ((min (s2.low v) (s2.ord (g.sc c)) : Nat) : Int)))) := hback
                  have hmu1 := Tj.mu_cursor g s2 (fs := fs) (gs := []) HP.out hc
                  have HM : Hid (Tj.mu g ({ s2 with path := fs ++ [(v, c + 1)], low := Tj.upd s2.low v (min (s2.low v) (s2.ord (g.sc c))) } : Tj.S) < gk) := by
                    rw [HMU.out]
                    show _ < _
                    have : Tj.mu g ({ s2 with path := fs ++ [(v, c + 1)], low := Tj.upd s2.low v (min (s2.low v) (s2.ord (g.sc c))) } : Tj.S) = Tj.mu g ({ s2 with path := fs ++ [(v, c + 1)] } : Tj.S) := rfl
                    omega
                  have hM5 := HR4.out.mem.cursor HF.out.ok HP.out HT4.out (c + 1)
                  rw [hcast] at hM5
                  have cL5 : (w4.setCell ⟨pb, fs.length * 2 + 1, none⟩ (.int .i64 ((c : Int) + 1))).cell? ⟨bL, 0, none⟩ = some (.slice (some ⟨aL, 0, none⟩) g.n g.n) := hM5.lBox.one
                  have cLv5 : (w4.setCell ⟨pb, fs.length * 2 + 1, none⟩ (.int .i64 ((c : Int) + 1))).cell? ⟨aL, v, none⟩ = some (.int .i32 (s2.low v : Int)) := by rw [hM5.lArr.cell, ints_at _ _ _ hvn]
                  have cO5 : (w4.setCell ⟨pb, fs.length * 2 + 1, none⟩ (.int .i64 ((c : Int) + 1))).cell? ⟨bO, 0, none⟩ = some (.slice (some ⟨aO, 0, none⟩) g.n g.n) := hM5.oBox.one
                  have cOx5 : (w4.setCell ⟨pb, fs.length * 2 + 1, none⟩ (.int .i64 ((c : Int) + 1))).cell? ⟨aO, g.sc c, none⟩ = some (.int .i32 (s2.ord (g.sc c) : Int)) := by rw [hM5.oArr.cell, ints_at _ _ _ hx]
                  have fLv5 : (w4.setCell ⟨pb, fs.length * 2 + 1, none⟩ (.int .i64 ((c : Int) + 1))).frozen? ⟨aL, v, none⟩ = false := hM5.lArr.free v
                  clear hM5 hback hcast hmu1 k1 k2 k3 k4 k5 k6 k7 k8 k9 k10
                  go_wp2
                  clear cL4 cLv4 cO4 cOx4 fLv4 cN4 cNx4 cc4 fc4
                  generalize w4.setCell ⟨pb, fs.length * 2 + 1, none⟩ (.int .i64 ((c : Int) + 1)) = w5 at HR5 cL5 cLv5 cO5 cOx5 fLv5 ⊢
                  generalize g.sc c = x at HR5 cOx5 HM hx hxi ⊢
                  go_region
                  have e : (if s2.ord x < s2.low v then (s2.ord x : Int) else (s2.low v : Int)) = ((min (s2.low v) (s2.ord x) : Nat) : Int) := by split <;> omega
                  rw [e]
                  go_wp2
                  go_roundg (Tj.mu g ({ s2 with path := fs ++ [(v, c + 1)], low := Tj.upd s2.low v (min (s2.low v) (s2.ord x)) } : Tj.S))
                  case measure => exact HM.out
                  case rel => exact ⟨_, rfl, HD.out, HR5.out.drew HF.out⟩
                · have hon' : s2.on (g.sc c) = false := by simpa using hon
                  rw [hon'] at cNx4
                  have hskip := HR4.out.skip HF.out HP.out HT4.out hc h0 (fun hm => absurd ((HR4.out.inv.onIff _).2 hm) hon)
                  have hcast : ((c + 1 : Nat) : Int) = (c : Int) + 1 := by omega
                  rw [hcast] at hskip
                  have HR5 : Hid (Rel g ⟨m, bS, bX, bG, aO, bO, aL, bL, aN, bN, bP, bQ, bR, base⟩ bs bt t w { s2 with path := fs ++ [(v, c + 1)] } (w4.setCell ⟨pb, fs.length * 2 + 1, none⟩ (.int .i64 ((c : Int) + 1)))) := hskip
                  have hmu1 := Tj.mu_cursor g s2 (fs := fs) (gs := []) HP.out hc
                  have HM : Hid (Tj.mu g ({ s2 with path := fs ++ [(v, c + 1)] } : Tj.S) < gk) := by
                    rw [HMU.out]
                    show _ < _
                    omega
                  clear hskip hcast hmu1 k1 k2 k3 k4 k5 k6 k7 k8 k9 k10
                  go_wp2
                  go_roundg (Tj.mu g ({ s2 with path := fs ++ [(v, c + 1)] } : Tj.S))
                  case measure => exact HM.out
                  case rel => exact ⟨_, rfl, HD.out, HR5.out⟩
            · have hce : c = g.st (v + 1) := by omega
              subst hce
              clear hc hc1 hc2
              go_wp2
              go_region_held3 (fun w' => w'.cell? ⟨bG, 0, none⟩ = some (.iface 29 (gv g.n m bS bX)) ∧ w'.cell? ⟨pb, fs.length * 2 + 1, none⟩ = some (.int .i64 (g.st (v + 1) : Int)))
                (first | go_keep | (refine ⟨?_, ?_⟩ <;> assumption))
                (first | (go_at_call 82; refine (arc_no g m bS bX v _ hn hvn (by exact HGM.out.other rfl rfl) (by exact hSs)).mono ?_; rintro e w4 ⟨rfl, hb4⟩; have hG4 : w4.cell? ⟨bG, 0, none⟩ = some (.iface 29 (gv g.n m bS bX)) := (hb4.cell (by exact HR.out.mem.gBox.lt)).trans cG; have hc4 : w4.cell? ⟨pb, fs.length * 2 + 1, none⟩ = some (.int .i64 (g.st (v + 1) : Int)) := (hb4.cell (by exact HT.out.lt)).trans cc))
              have hb4' := below_undrew hb4
              have HR4 : Hid (Rel g ⟨m, bS, bX, bG, aO, bO, aL, bL, aN, bN, bP, bQ, bR, base⟩ bs bt t w s2 w4) := HR.out.same HF.out hb4'
              have HT4 : Hid (TopAt ⟨m, bS, bX, bG, aO, bO, aL, bL, aN, bN, bP, bQ, bR, base⟩ w4 fs.length v (g.st (v + 1)) pb cap) := HT.out.below hb4'
              clear hb4 hb4' HR HT HGM hSs hXs cP cv cc cG hma hna hG4 hc4
              have cP4 : w4.cell? ⟨bP, 0, none⟩ = some (.slice (some ⟨pb, 0, none⟩) (fs.length + 1) cap) := HT4.out.box.one
              have fP4 : w4.frozen? ⟨bP, 0, none⟩ = false := HT4.out.box.free 0
              have hcap : fs.length + 1 ≤ cap := HT4.out.le
              go_upto_if 107 with fail
              go_cut [18] (fun q wx => ∃ sL : Tj.S, sL.ord = s2.ord ∧ Popped g ⟨m, bS, bX, bG, aO, bO, aL, bL, aN, bN, bP, bQ, bR, base⟩ bs bt t w sL fs v wx)
              case first =>
                rcases List.eq_nil_or_concat fs with e | ⟨fs', ⟨p, d⟩, e⟩
                · subst e
                  have hpop := HR4.out.pop HF.out HP.out HT4.out
                  have HPo : Hid (Popped g ⟨m, bS, bX, bG, aO, bO, aL, bL, aN, bN, bP, bQ, bR, base⟩ bs bt t w s2 [] v (w4.setCell ⟨bP, 0, none⟩ (.slice (some ⟨pb, 0, none⟩) 0 cap))) := hpop
                  clear hpop
                  go_wp2
                  go_meet
                  case rel => exact ⟨s2, rfl, HPo.out⟩
                · rw [List.concat_eq_append] at e
                  have hL : fs.length = fs'.length + 1 := by rw [e]; simp
                  have hpop : Popped g ⟨m, bS, bX, bG, aO, bO, aL, bL, aN, bN, bP, bQ, bR, base⟩ bs bt t w { s2 with low := Tj.upd s2.low p (min (s2.low p) (s2.low v)) } fs v ((w4.setCell ⟨bP, 0, none⟩ (.slice (some ⟨pb, 0, none⟩) fs.length cap)).setCell ⟨aL, p, none⟩ (.int .i32 ((min (s2.low p) (s2.low v) : Nat) : Int))) := by
                    have h1 := HP.out
                    have h2 := HT4.out
                    rw [e] at h1 h2 ⊢
                    exact HR4.out.popLow HF.out h1 h2
                  have HPo : Hid (Popped g ⟨m, bS, bX, bG, aO, bO, aL, bL, aN, bN, bP, bQ, bR, base⟩ bs bt t w { s2 with low := Tj.upd s2.low p (min (s2.low p) (s2.low v)) } fs v ((w4.setCell ⟨bP, 0, none⟩ (.slice (some ⟨pb, 0, none⟩) fs.length cap)).setCell ⟨aL, p, none⟩ (.int .i32 ((min (s2.low p) (s2.low v) : Nat) : Int)))) := hpop
                  have hpn : p < g.n := HR4.out.inv.lt p (HR4.out.inv.sub p (by simp [Tj.S.pv, HP.out, e]))
                  have hM5 := HR4.out.mem.pop HF.out.ok HP.out HT4.out
                  have hpar := parent_at hM5 e HT4.out.box
                  have c5P : (w4.setCell ⟨bP, 0, none⟩ (.slice (some ⟨pb, 0, none⟩) fs.length cap)).cell? ⟨bP, 0, none⟩ = some (.slice (some ⟨pb, 0, none⟩) fs.length cap) := hpar.1
                  have c5p : (w4.setCell ⟨bP, 0, none⟩ (.slice (some ⟨pb, 0, none⟩) fs.length cap)).cell? ⟨pb, (fs.length - 1) * 2, none⟩ = some (.int .i32 (p : Int)) := hpar.2
                  have c5L : (w4.setCell ⟨bP, 0, none⟩ (.slice (some ⟨pb, 0, none⟩) fs.length cap)).cell? ⟨bL, 0, none⟩ = some (.slice (some ⟨aL, 0, none⟩) g.n g.n) := hM5.lBox.one
                  have c5Lp : (w4.setCell ⟨bP, 0, none⟩ (.slice (some ⟨pb, 0, none⟩) fs.length cap)).cell? ⟨aL, p, none⟩ = some (.int .i32 (s2.low p : Int)) := by rw [hM5.lArr.cell, ints_at _ _ _ hpn]
                  have c5Lv : (w4.setCell ⟨bP, 0, none⟩ (.slice (some ⟨pb, 0, none⟩) fs.length cap)).cell? ⟨aL, v, none⟩ = some (.int .i32 (s2.low v : Int)) := by rw [hM5.lArr.cell, ints_at _ _ _ hvn]
                  have f5Lp : (w4.setCell ⟨bP, 0, none⟩ (.slice (some ⟨pb, 0, none⟩) fs.length cap)).frozen? ⟨aL, p, none⟩ = false := hM5.lArr.free p
                  clear hpop hM5 hpar e cP4 fP4 hcap HR4 HT4 HMU
                  generalize w4.setCell ⟨bP, 0, none⟩ (.slice (some ⟨pb, 0, none⟩) fs.length cap) = w5 at HPo c5P c5p c5L c5Lp c5Lv f5Lp ⊢
                  have hL1 : (0 : Int) ≤ (fs.length : Int) - 1 := by omega
                  have hL2 : (fs.length : Int) - 1 < (fs.length : Int) := by omega
                  have hL3 : ((fs.length : Int) - 1).toNat = fs.length - 1 := by omega
                  have hL4 : (0 : Int) < (fs.length : Int) := by omega
                  have hpi : (p : Int) < (g.n : Int) := by omega
                  have hvi : (v : Int) < (g.n : Int) := by omega
                  clear hL
                  go_upto_region 27 with fail
                  go_region
                  have e : (if s2.low v < s2.low p then (s2.low v : Int) else (s2.low p : Int)) = ((min (s2.low p) (s2.low v) : Nat) : Int) := by split <;> omega
                  rw [e]
                  go_wp2
                  go_meet
                  case rel =>
                    exact ⟨{ s2 with low := Tj.upd s2.low p (min (s2.low p) (s2.low v)) }, rfl, HPo.out.drew HF.out⟩
              case rest =>
                obtain ⟨sL, hoL, hPo⟩ := hcut
                have HPo : Hid (Popped g ⟨m, bS, bX, bG, aO, bO, aL, bL, aN, bN, bP, bQ, bR, base⟩ bs bt t w sL fs v wc) := hPo
                have HO : Hid (sL.ord = s2.ord) := hoL
                have cL6 : wc.cell? ⟨bL, 0, none⟩ = some (.slice (some ⟨aL, 0, none⟩) g.n g.n) := hPo.mem.lBox.one
                have cLv6 : wc.cell? ⟨aL, v, none⟩ = some (.int .i32 (sL.low v : Int)) := by rw [hPo.mem.lArr.cell, ints_at _ _ _ hvn]
                have cO6 : wc.cell? ⟨bO, 0, none⟩ = some (.slice (some ⟨aO, 0, none⟩) g.n g.n) := hPo.mem.oBox.one
                have cOv6 : wc.cell? ⟨aO, v, none⟩ = some (.int .i32 (sL.ord v : Int)) := by rw [hPo.mem.oArr.cell, ints_at _ _ _ hvn]
                have hvi : (v : Int) < (g.n : Int) := by omega
                have HM' : Hid (∀ s' : Tj.S, s'.path = fs → s'.ord = sL.ord → Tj.mu g s' < gk) := by
                  intro s' h1 h2
                  have := Tj.mu_pop g s2 HP.out s' h1 (h2.trans HO.out)
                  rw [HMU.out]
                  show _ < _
                  omega
                have HD6 : Hid (∀ u, u ≤ r → sL.ord u ≠ 0) := by
                  intro u hu
                  rw [HO.out]
                  exact HD.out u hu
                clear hPo hoL cP4 fP4 hcap HR4 HT4 HMU HD HP HO
                by_cases hlo : sL.low v = sL.ord v
                · rw [hlo] at cLv6
                  have htop := HPo.out.inv.top HPo.out.hp
                  obtain ⟨a, b, ho⟩ := List.append_of_mem htop.1
                  have hlen : sL.opn.length = a.length + (b.length + 1) := by rw [ho]; simp
                  have hl48 : a.length + (b.length + 1) ≤ 48 := by
                    have h1 := HPo.out.cnt.op
                    have h2 := HPo.out.cnt.lt
                    omega
                  obtain ⟨qb, qcap, hO6⟩ := HPo.out.mem.openAt (by show 0 < sL.opn.length; omega)
                  have HO7 : Hid (OpenAt ⟨m, bS, bX, bG, aO, bO, aL, bL, aN, bN, bP, bQ, bR, base⟩ wc.drew sL.opn qb qcap) := hO6.drew
                  have cQ7 : wc.drew.cell? ⟨bQ, 0, none⟩ = some (.slice (some ⟨qb, 0, none⟩) (a.length + (b.length + 1)) qcap) := by rw [← hlen]; exact hO6.drew.box.one
                  have hqc : a.length + (b.length + 1) ≤ qcap := by rw [← hlen]; exact hO6.le
                  have HPo7 : Hid (Popped g ⟨m, bS, bX, bG, aO, bO, aL, bL, aN, bN, bP, bQ, bR, base⟩ bs bt t w sL fs v wc.drew) := HPo.out.drew HF.out
                  have HOp : Hid (sL.opn = a ++ v :: b) := ho
                  have HLo : Hid (sL.low v = sL.ord v) := hlo
                  have HL : Hid (sL.opn.length = a.length + (b.length + 1)) := hlen
                  clear hO6 htop ho HPo hlo hlen
                  go_wp2
                  go_region
                  clear cL6 cLv6 cO6 cOv6
                  generalize wc.drew = w7 at HO7 cQ7 HPo7 ⊢
                  go_wp2
                  have HND : Hid (sL.opn.Nodup) := HPo7.out.inv.nodup
                  go_loopg [19] b.length (fun gk f wr => ∃ F : Nat, gk ≤ b.length ∧ F = a.length + gk ∧ f = .int .i64 (F : Int) ∧ wr = w7)
                  case atStart => exact ⟨a.length + b.length, Nat.le_refl _, rfl, by congr 1; omega, rfl⟩
                  case round =>
                    obtain ⟨F, hj, hF, rfl, rfl⟩ := hrel
                    have hupp : (F : Int) < (a.length : Int) + ((b.length : Int) + 1) := by omega
                    have hin : F < sL.opn.length := by rw [HL.out]; omega
                    have hcq := HO7.out.cells F hin
                    by_cases hg0 : gk = 0
                    · obtain rfl : F = a.length := by omega
                      rw [at_mid a b v HOp.out hin] at hcq
                      clear hin hF hj
                      go_wp2
                      clear hcq hupp cQ7 hg0
                      go_loopg [151] (b.length + 1) (fun gk i wq => ∃ j : Nat, j ≤ b.length + 1 ∧ gk + j = b.length + 1 ∧ i = .int .i64 (j : Int) ∧ Mem g ⟨m, bS, bX, bG, aO, bO, aL, bL, aN, bN, bP, bQ, bR, base⟩ { sL with path := fs, on := Tj.offAll sL.on ((v :: b).take j) } wq ∧ OpenAt ⟨m, bS, bX, bG, aO, bO, aL, bL, aN, bN, bP, bQ, bR, base⟩ wq sL.opn qb qcap ∧ Below bG wr wq)
                      case atStart => exact ⟨0, Nat.zero_le _, rfl, rfl, by rw [List.take_zero, offAll_nil]; exact HPo7.out.mem, HO7.out, Below.refl _ _⟩
                      case round =>
                        obtain ⟨j, hj, hgk4, rfl, hM, hO, hB⟩ := hrel
                        by_cases hjl : j < b.length + 1
                        · have hji : (j : Int) < (b.length : Int) + 1 := by omega
                          have hjl' : j < (v :: b).length := hjl
                          have hin : a.length + j < sL.opn.length := by rw [HL.out]; omega
                          have hcq := hO.cells (a.length + j) hin
                          rw [at_tail a b v j HOp.out hjl' hin] at hcq
                          have hyn : (v :: b)[j] < g.n := HPo7.out.inv.lt _ (by rw [HOp.out]; exact List.mem_append_right _ (List.getElem_mem _))
                          have htake : (v :: b).take (j + 1) = (v :: b).take j ++ [(v :: b)[j]] := by rw [List.take_append_getElem]
                          have hM2 := hM.setN HF.out.ok ((v :: b)[j]) false
                          have hO2 := hO.setN HF.out.ok ((v :: b)[j]) (.bool false)
                          have eoff : Tj.upd (Tj.offAll sL.on ((v :: b).take j)) ((v :: b)[j]) false = Tj.offAll sL.on ((v :: b).take (j + 1)) := by rw [offAll_snoc, htake]
                          have hM3 : Mem g ⟨m, bS, bX, bG, aO, bO, aL, bL, aN, bN, bP, bQ, bR, base⟩ { sL with path := fs, on := Tj.offAll sL.on ((v :: b).take (j + 1)) } (wr.setCell ⟨aN, (v :: b)[j], none⟩ (.bool false)) := by rw [← eoff]; exact hM2
                          have HM3 : Hid (Mem g ⟨m, bS, bX, bG, aO, bO, aL, bL, aN, bN, bP, bQ, bR, base⟩ { sL with path := fs, on := Tj.offAll sL.on ((v :: b).take (j + 1)) } (wr.setCell ⟨aN, (v :: b)[j], none⟩ (.bool false))) := hM3
                          have HO3 : Hid (OpenAt ⟨m, bS, bX, bG, aO, bO, aL, bL, aN, bN, bP, bQ, bR, base⟩ (wr.setCell ⟨aN, (v :: b)[j], none⟩ (.bool false)) sL.opn qb qcap) := hO2
                          have HB3 : Hid (Below bG _ (wr.setCell ⟨aN, (v :: b)[j], none⟩ (.bool false))) := hB.setCell HF.out.gN _
                          have cN : wr.cell? ⟨bN, 0, none⟩ = some (.slice (some ⟨aN, 0, none⟩) g.n g.n) := hM.nBox.one
                          have cNy : wr.cell? ⟨aN, (v :: b)[j], none⟩ = some (.bool (Tj.offAll sL.on ((v :: b).take j) ((v :: b)[j]))) := by rw [hM.nArr.cell, bools_at _ _ _ hyn]
                          have fNy : wr.frozen? ⟨aN, (v :: b)[j], none⟩ = false := hM.nArr.free _
                          generalize Tj.offAll sL.on ((v :: b).take j) ((v :: b)[j]) = z at cNy
                          generalize (v :: b)[j] = y at HM3 HO3 HB3 cNy fNy hcq hyn
                          have hyi : (y : Int) < (g.n : Int) := by omega
                          have HJ : Hid (j ≤ b.length + 1 ∧ gk + j = b.length + 1) := ⟨hj, hgk4⟩
                          clear hM hO hB hM2 hO2 eoff hM3 htake hin hj hgk4 hjl'
                          go_wp2
                          go_roundg (gk - 1)
                          case measure => have := HJ.out; omega
                          case rel => exact ⟨j + 1, by omega, by have := HJ.out; omega, by go_num, HM3.out, HO3.out, HB3.out⟩
                        · obtain rfl : j = b.length + 1 := by omega
                          rw [List.take_of_length_le (show (v :: b).length ≤ b.length + 1 from Nat.le_refl _)] at hM
                          have HM3 : Hid (Mem g ⟨m, bS, bX, bG, aO, bO, aL, bL, aN, bN, bP, bQ, bR, base⟩ { sL with path := fs, on := Tj.offAll sL.on (v :: b) } wr) := hM
                          have HO3 : Hid (OpenAt ⟨m, bS, bX, bG, aO, bO, aL, bL, aN, bN, bP, bQ, bR, base⟩ wr sL.opn qb qcap) := hO
                          have HB3 : Hid (Below bG _ wr) := hB
                          have cQ9 : wr.cell? ⟨bQ, 0, none⟩ = some (.slice (some ⟨qb, 0, none⟩) (a.length + (b.length + 1)) qcap) := by rw [← HL.out]; exact hO.box.one
                          have hnj : ¬ ((b.length : Int) + 1 < (b.length : Int) + 1) := by omega
                          have HS : Hid (Blk wr bs 21 #[.int .i32 (Tj.smOf t sL.comps)]) := HPo7.out.sm.below hB HF.out.bsG
                          have HX : Hid (Blk wr bt 21 #[.int .i32 t]) := HPo7.out.tx.below hB HF.out.btG
                          have HC : Hid (∀ x ∈ v :: b, x < 48) := by
                            intro x hx
                            have := HPo7.out.inv.lt x (by rw [HOp.out]; exact List.mem_append_right _ hx)
                            omega
                          have HCells : Hid (∀ i, (hi : i < (v :: b).length) → wr.cell? ⟨qb, a.length + i, none⟩ = some (.int .i32 ((v :: b)[i] : Int))) := by
                            intro i hi
                            have hin : a.length + i < sL.opn.length := by rw [HL.out]; simp at hi; omega
                            have hcq := hO.cells (a.length + i) hin
                            rw [at_tail a b v i HOp.out hi hin] at hcq
                            exact hcq
                          clear hM hO hB hj hgk4 hjl
                          go_wp2_with fail
                          refine (found_any t (Tj.smOf t sL.comps) (v :: b) qb a.length (qcap - a.length) bt bs _ HC.out (by simp; omega) HCells.out HX.out.one HS.out).mono ?_
                          rintro e w8 ⟨rfl, hs8, hg8⟩
                          have hM8 := HM3.out.grown HF.out hg8
                          have hO8 := HO3.out.same HF.out.ok hg8 (fun j e => by simp only [Option.some.injEq] at e; subst e; have h1 := HF.out.bsG; have h2 := HF.out.gQ; omega)
                          have hR8 := HPo7.out.found HF.out HLo.out HOp.out HB3.out hg8 hs8 hM8 hO8
                          have HR8 : Hid (Rel g ⟨m, bS, bX, bG, aO, bO, aL, bL, aN, bN, bP, bQ, bR, base⟩ bs bt t w { sL with path := fs, opn := a, on := Tj.offAll sL.on (v :: b), comps := sL.comps ++ [v :: b] } (w8.setCell ⟨bQ, 0, none⟩ (.slice (some ⟨qb, 0, none⟩) a.length qcap))) := hR8
                          have cQ8 : w8.cell? ⟨bQ, 0, none⟩ = some (.slice (some ⟨qb, 0, none⟩) (a.length + (b.length + 1)) qcap) := by rw [← HL.out]; exact hO8.box.one
                          have fQ8 : w8.frozen? ⟨bQ, 0, none⟩ = false := hO8.box.free 0
                          clear hM8 hO8 hR8 hs8 hg8 HM3 HO3 HB3 HS HX HC HCells cQ9 HO7 HPo7
                          go_wp2
                          go_roundg (Tj.mu g ({ sL with path := fs, opn := a, on := Tj.offAll sL.on (v :: b), comps := sL.comps ++ [v :: b] } : Tj.S))
                          case measure => exact HM'.out _ rfl rfl
                          case rel => exact ⟨_, rfl, HD6.out, HR8.out⟩
                    · have hvj : sL.opn[F] ≠ v := by
                        obtain ⟨j, rfl⟩ : ∃ j, gk = j + 1 := ⟨gk - 1, by omega⟩
                        subst hF
                        exact at_later a b v j HOp.out HND.out hin
                      generalize sL.opn[F] = y at hvj hcq
                      have hyv : ((y : Int) != (v : Int)) = true := by simp; omega
                      have HFj : Hid (gk ≤ b.length ∧ F = a.length + gk) := ⟨hj, hF⟩
                      clear hin hvj hj hF
                      go_wp2
                      go_roundg (gk - 1)
                      case measure => omega
                      case rel => exact ⟨F - 1, by have := HFj.out.1; omega, by have := HFj.out.2; omega, by have := HFj.out.2; congr 1; omega, rfl⟩
                · have hb : ((sL.low v : Int) != (sL.ord v : Int)) = true := by simp; omega
                  go_wp2
                  go_region
                  go_wp2
                  go_roundg (Tj.mu g ({ sL with path := fs } : Tj.S))
                  case measure => exact HM'.out _ rfl rfl
                  case rel => exact ⟨_, rfl, HD6.out, (HPo.out.next hlo).drew HF.out⟩
      · have hb : ((s.ord r : Int) != 0) = true := by simp; omega
        go_wp2
        go_roundg (gk - 1)
        case measure => omega
        case rel =>
          refine ⟨r + 1, s, by omega, by go_num, HD.out.1, fun v hv => ?_, HR.out⟩
          by_cases e : v = r
          · subst e; exact h0
          · exact HD.out.2 v (by omega)
    · have hri : ¬ (r : Int) < (g.n : Int) := by omega
      have HR : Hid (Rel g ⟨m, bS, bX, bG, aO, bO, aL, bL, aN, bN, bP, bQ, bR, base⟩ bs bt t w s wr) := hR
      have HD : Hid (s.path = [] ∧ ∀ v, v < r → s.ord v ≠ 0) := ⟨hp0, hdone⟩
      clear hR hp0 hdone
      go_wp2
      go_end0
      exact ⟨rfl, ⟨_, Tj.smOf_min HR.out.inv HD.out.1 (fun v hv => HD.out.2 v (by omega)), HR.out.sm⟩, HR.out.grown⟩
end Go.Proofs.Ybulkcnjc
