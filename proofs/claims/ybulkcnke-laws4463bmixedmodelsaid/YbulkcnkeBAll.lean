/-
  LawS4463BAllJoinAncestors: the walk.
-/
import Derived.Test.YbulkcnkeBAllPl
namespace Go.Proofs.Ybulkcnke
open Go.RowKit Go.Maps
set_option linter.unusedVariables false
attribute [local go_sem ↓] Go.wp_at_zero Go.wp_at_succ

theorem muS_le (A : Nat → List Nat) (seen : Nat → Bool) (B : Nat) (n : Nat) (h : ∀ i, i < n → (A i).length ≤ B) : muS A seen n ≤ n * (B + 1) := by
  induction n with
  | zero => simp [muS]
  | succ n ih =>
    have h1 := ih (fun i hi => h i (by omega))
    have h2 := h n (by omega)
    have h3 : (n + 1) * (B + 1) = n * (B + 1) + (B + 1) := Nat.succ_mul n (B + 1)
    simp only [muS]
    rw [h3]
    split <;> omega

/-- rows of bools, as far as they are made -/
structure WR (su : Nat → Nat → Bool) (n wb i : Nat) (w2 w : World) : Prop where
  bl : Below wb w2 w
  row : ∃ C, Blk w wb 37 C ∧ C.size = n ∧ ∀ j, j < i → ∃ rb, C[j]? = some (.slice (some ⟨rb, 0, none⟩) n n) ∧ wb < rb ∧ Blk w rb 4 (vals n (fun c => .bool (su j c)))

theorem WR.step {su : Nat → Nat → Bool} {n wb i : Nat} {w2 w wE : World} (h : WR su n wb i w2 w) (hi : i < n) (hb : Below w.heap.size w wE) (hr : Blk wE w.heap.size 4 (vals n (fun c => .bool (su i c)))) :
    WR su n wb (i + 1) w2 (wE.setCell ⟨wb, i, none⟩ (.slice (some ⟨w.heap.size, 0, none⟩) n n)) := by
  obtain ⟨C, hC, hs, hrow⟩ := h.row
  have hlt := hC.lt
  refine ⟨(h.bl.trans (hb.mono (by omega))).setCell (Nat.le_refl _) _, _, (hC.below hb hlt).set i _, by simpa using hs, fun j hj => ?_⟩
  by_cases e : j = i
  · subst e
    exact ⟨w.heap.size, by rw [Array.getElem?_setIfInBounds_self_of_lt (by omega)], hlt, hr.other (by show w.heap.size ≠ wb; omega) _⟩
  · obtain ⟨rb, h1, h2, h3⟩ := hrow j (by omega)
    exact ⟨rb, by rw [Array.getElem?_setIfInBounds, if_neg (by omega)]; exact h1, h2, (h3.below hb h3.lt).other (by show rb ≠ wb; omega) _⟩

theorem WR.want {su : Nat → Nat → Bool} {n wb : Nat} {w2 w : World} (h : WR su n wb n w2 w) {w' : World} (hb : Below w.heap.size w w') :
    ∃ wb', ∀ i, i < n → some (⟨wb, 0, none⟩ : Addr) = some ⟨wb', 0, none⟩ ∧ ∃ rb, w'.cell? ⟨wb', i, none⟩ = some (.slice (some ⟨rb, 0, none⟩) n n) ∧ ∀ c, c < n → w'.cell? ⟨rb, c, none⟩ = some (.bool (su i c)) := by
  obtain ⟨C, hC, hs, hrow⟩ := h.row
  refine ⟨wb, fun i hi => ⟨rfl, ?_⟩⟩
  obtain ⟨rb, h1, h2, h3⟩ := hrow i hi
  exact ⟨rb, below_cell hb ((hC.cell i).trans h1), fun c hc => below_cell hb (by rw [h3.cell, vals_at _ _ _ hc])⟩

theorem exists_snoc {l : List Nat} (h : 0 < l.length) : ∃ ys a, l = ys ++ [a] := ⟨l.dropLast, l.getLast (fun e => by simp [e] at h), (List.dropLast_concat_getLast _).symm⟩

/-- the search under way, in memory -/
structure DM (A : Nat → List Nat) (n i : Nat) (su : Nat → Nat → Bool) (R gk : Nat) (w1 : World) (seen : Nat → Bool) (st : List Nat) (sv : Value) (w : World) : Prop where
  own : w.ownsRow (R + 1) 3 1 sv st.length (numL st)
  blk : Blk w R 4 (vals n (fun c => .bool (seen c)))
  bl : Below R w1 w
  di : DI A n i su seen st
  mu : gk = muS A seen n + st.length
  le : gk ≤ 60000
  sz : R + 1 ≤ w.heap.size

theorem DM.pop {A : Nat → List Nat} {n i : Nat} {su : Nat → Nat → Bool} {R gk : Nat} {w1 : World} {seen : Nat → Bool} {ys : List Nat} {a : Nat} {g cap : Nat} {w : World} (h : DM A n i su R gk w1 seen (ys ++ [a]) (.slice (some ⟨g, 0, none⟩) (ys ++ [a]).length cap) w) :
    w.ownsRow (R + 1) 3 1 (.slice (some ⟨g, 0, none⟩) ys.length cap) ys.length (numL ys) := by
  have := ownsRow_shorter h.own (k := ys.length) (by simp)
  rwa [show (numL (ys ++ [a])).take ys.length = numL ys by simp [numL]] at this

set_option maxRecDepth 100000 in
set_option maxHeartbeats 6400000 in
theorem all_walk (I : In) (sa : Option Addr) (len cap : Nat) (w : World) (hlen : len ≤ 9223372036854775807) (hin : ∀ i, i < len → InArg I sa len w i) :
    Calls Yba.prog 3 #[.slice sa len cap] w fun e w' => e = .returned (.bool true) ∧ Below w.heap.size w w' := by
  have HIn : Hid (∀ i, i < len → InArg I sa len w i) := hin
  clear hin
  go_enter Yba.func3, Yba.ntmps3
  go_upto_if 13 with (go_at_call 7; refine (bbig_any I sa len cap w hlen HIn.out).mono ?_; rintro e w1 ⟨r, rfl, hb1, hr⟩)
  cases r
  · obtain ⟨hl1, hl2⟩ := hr rfl
    have HB1 : Hid (Below w.heap.size w w1) := hb1
    have HIn1 : Hid (∀ i, i < len → InArg I sa len w1 i ∧ I.la i ≤ 1024 ∧ I.lt i ≤ 1024) := fun i hi => ⟨(HIn.out i hi).below hb1, hl2 i hi⟩
    clear hb1 hr hl2
    go_upto_region 4 with (go_at_call 8; refine (build_any I sa len cap true w1 hl1 HIn1.out).mono ?_; rintro e w2 ⟨pP, pS, aA, aT, rB, hok, rfl, hBI⟩)
    have hn : min len 48 ≤ 48 := Nat.min_le_right _ _
    have hl : ∀ i, i < min len 48 → I.la i ≤ 1024 ∧ I.lt i ≤ 1024 := fun i hi => (HIn1.out i (by omega)).2
    generalize min len 48 = n at hn hl hBI ⊢
    obtain ⟨pok, pat, haft, _⟩ := hBI.end hok hn hl
    have HB2 : Hid (Below w.heap.size w w2) := HB1.out.trans (hBI.bl.mono HB1.out.size)
    obtain ⟨sk, hsk⟩ := exists_sk (prOf I n true pP pS w1.heap.size w2.heap.size) (fun i a ha => aftOf_lt I i a ha)
    obtain ⟨su, hsu⟩ := exists_su (prOf I n true pP pS w1.heap.size w2.heap.size) sk (fun i a ha => aftOf_lt I i a ha)
    have hlt := su_lt (prOf I n true pP pS w1.heap.size w2.heap.size) sk su (fun i a ha => aftOf_lt I i a ha) hsu
    have hanc : IsAnc (aftOf I) su := ⟨fun i a ha => aftOf_lt I i a ha, fun i c => by
      rw [hsu]
      show ((aftOf I i).any (fun a => ldF su a c && (decide (jnOf I true i = 0) || !sk a)) || (!(aftOf I i).isEmpty && (aftOf I i).all (fun a => ldF su a c))) = true ↔ _
      have hj : jnOf I true i = 0 := rfl
      simp only [hj, decide_true, Bool.true_or, Bool.and_true, Bool.or_eq_true, Bool.and_eq_true, List.any_eq_true, List.all_eq_true, ldF, decide_eq_true_eq]
      constructor
      · rintro (h | ⟨h1, h2⟩)
        · exact h
        · cases hA : aftOf I i with
          | nil => rw [hA] at h1; simp at h1
          | cons a l => exact ⟨a, by simp, h2 a (by rw [hA]; simp)⟩
      · exact fun h => Or.inl h⟩
    have HAnc : Hid (IsAnc (aftOf I) su) := hanc
    have HP : Hid (PAt (prOf I n true pP pS w1.heap.size w2.heap.size) w2) := pat
    have POK : Hid (prOf I n true pP pS w1.heap.size w2.heap.size).Ok := pok
    have HAft : Hid (AftAt I n aA w2) := haft
    have HSk : Hid (∀ i, i < n → sk i = skF (prOf I n true pP pS w1.heap.size w2.heap.size) sk i) := fun i _ => hsk i
    have HSu : Hid (∀ i, i < n → ∀ c, su i c = suF (prOf I n true pP pS w1.heap.size w2.heap.size) sk su i c) := fun i _ => hsu i
    have HDom : Hid (∀ i, i < n → ∀ c, su i c = true → c < n) := fun i hi c hc => by have := hlt i c hc; omega
    have HLa : Hid (∀ i, i < n → (aftOf I i).length ≤ 1024) := fun i hi => Nat.le_trans (aftOf_length I i) (hl i hi).1
    have c1 : w2.cell? ⟨pP, 1, none⟩ = some (.slice (some ⟨pS, 0, none⟩) n n) := pat.steps
    clear pok pat haft hsk hsu hlt hanc hBI hok HB1 HIn1 HIn hl
    have hmW := fun W => run_make_row' (P := Yba.prog) 26 37 (.slice none 0 0) 24 Yba.underlying26 info37 rfl .i64 .i64 n (by omega) (by omega) W
    have hmS := fun W => run_make_row' (P := Yba.prog) 37 4 (.bool false) 1 Yba.underlying37 info4' rfl .i64 .i64 n (by omega) (by omega) W
    go_wp2
    have HW0 : Hid (WR su n w2.heap.size 0 w2 (w2.alloc (.cells (madeCells #[.slice none 0 0] n) 37))) := ⟨(Below.refl _ _).alloc (Nat.le_refl _) _, _, Blk.new _ _ _, size_madeCells _ _, fun j hj => absurd hj (Nat.not_lt_zero _)⟩
    generalize w2.alloc (.cells (madeCells #[.slice none 0 0] n) 37) = w3 at HW0 ⊢
    generalize hwb : w2.heap.size = wb at HW0 HP POK HSk HSu ⊢
    clear hmW c1
    go_loopg [8] n (fun gk x wr => ∃ i : Nat, i ≤ n ∧ gk + i = n ∧ x = .int .i64 (i : Int) ∧ WR su n wb i w2 wr)
    case atStart => exact ⟨0, Nat.zero_le _, rfl, rfl, HW0.out⟩
    case round =>
      clear HW0
      obtain ⟨i, hi, hgk, rfl, hW⟩ := hrel
      obtain ⟨wA, rfl⟩ : ∃ z, z = wr := ⟨wr, rfl⟩
      have HW : Hid (WR su n wb i w2 wA) := hW
      by_cases hil : i < n
      · have hii : (i : Int) < (n : Int) := by omega
        have hwbs : wb < wA.heap.size := by obtain ⟨C, hC, _⟩ := hW.row; exact hC.lt
        obtain ⟨aa, ac, ab, d1, hcell⟩ := (HAft.out.below (w' := wA) (by rw [hwb]; exact hW.bl)) i hil
        have HC : Hid (∀ j, (h : j < (aftOf I i).length) → aa = some ⟨ab, 0, none⟩ ∧ wA.cell? ⟨ab, j, none⟩ = some (.int .i64 ((aftOf I i)[j] : Int))) := hcell
        have haA : aA < wA.heap.size := World.block_lt_of_cell? wA _ d1
        have hLi := HLa.out i hil
        clear hcell hW
        have hB4 : Blk (wA.alloc (.cells (madeCells #[.bool false] n) 4)) wA.heap.size 4 (vals n (fun c => .bool ((fun _ => false) c))) := by
          have := Blk.new wA (madeCells #[.bool false] n) 4
          rw [made_vals] at this
          rw [made_vals]
          exact this
        have HB4 : Hid (Blk (wA.alloc (.cells (madeCells #[.bool false] n) 4)) wA.heap.size 4 (vals n (fun c => .bool ((fun _ => false) c)))) := hB4
        have HBl4 : Hid (Below wA.heap.size wA (wA.alloc (.cells (madeCells #[.bool false] n) 4))) := (Below.refl _ _).alloc (Nat.le_refl _) _
        clear hB4
        go_wp2_with (first
          | (at_builtin; refine wpList_append_seg _ rfl _ _ rfl (wA.heap.size + 1) (.slice none 0 0) 0 [] rfl (World.ownsRow_nil _ _ _ _) aa (aftOf I i).length ac rfl (numL (aftOf I i)) (numL_length _) ⟨ab, fun j hj => ⟨(HC.out j (by rw [numL_length] at hj; exact hj)).1, (below_cell HBl4.out (HC.out j (by rw [numL_length] at hj; exact hj)).2).trans (by simp [numL])⟩⟩ (by intro u hu; unfold numL at hu; obtain ⟨z, _, rfl⟩ := List.mem_map.1 hu; rfl) (by omega) (by simp) ?_; intro ta tc w5 hown5 hgrow5))
        simp only [Nat.zero_add, List.nil_append] at hown5
        have hB5 := HB4.out.grown hgrow5 (by simp [Value.ownBlock])
        have hmu := muS_le (aftOf I) (fun _ => false) 1024 n HLa.out
        have hG : muS (aftOf I) (fun _ => false) n + (aftOf I i).length ≤ 60000 := by
          have h1 : n * (1024 + 1) ≤ 48 * (1024 + 1) := Nat.mul_le_mul_right _ hn
          omega
        have HD0 : Hid (DM (aftOf I) n i su wA.heap.size (muS (aftOf I) (fun _ => false) n + (aftOf I i).length) wA (fun _ => false) (aftOf I i) (.slice ta (aftOf I i).length tc) w5) :=
          ⟨hown5, hB5, HBl4.out.grown hgrow5 (by simp) (fun x hx => by simp [Value.ownBlock] at hx), DI.start HAnc.out hi, rfl, hG, by have := hgrow5.size; simp at this; omega⟩
        clear hown5 hgrow5 hB5 HB4 HBl4 hmu hG d1 HC hmS
        generalize hR : wA.heap.size = R at HD0 hwbs haA ⊢
        generalize muS (aftOf I) (fun _ => false) n + (aftOf I i).length = G0 at HD0
        generalize (aftOf I i).length = L0 at HD0 ⊢
        go_loopg [10] G0 (fun gk sv wq => ∃ seen st, DM (aftOf I) n i su R gk wA seen st sv wq)
        case atStart => exact ⟨_, _, HD0.out⟩
        case round =>
          clear HD0
          obtain ⟨seen, st, hD⟩ := hrel
          by_cases hst : 0 < st.length
          · obtain ⟨ys, a, rfl⟩ := exists_snoc hst
            obtain ⟨g, cp, rfl, hg1, hg2⟩ := hD.own.form hst
            have hpop := hD.pop
            have hcell := hD.own.cells (g := g) rfl ys.length (.int .i64 (a : Int)) (by simp [numL])
            have add : (⟨g, 0, none⟩ : Addr).add ys.length = ⟨g, ys.length, none⟩ := by unfold Addr.add; split <;> simp_all
            rw [add] at hcell
            obtain ⟨_, _, hsh, hc1, hc2, _⟩ := owns_shape hD.own
            cases hsh
            unfold maxLen at hc2
            have ha := (hD.di.hst a (by simp)).1
            have hai : (a : Int) < (n : Int) := by omega
            have hai0 : (0 : Int) ≤ (a : Int) := by omega
            have hsa : wr.cell? ⟨R, a, none⟩ = some (.bool (seen a)) := by rw [hD.blk.cell, vals_at _ _ _ ha]
            have hsf : wr.frozen? ⟨R, a, none⟩ = false := hD.blk.free a
            have hlen1 : (ys ++ [a]).length = ys.length + 1 := by simp
            have hmu := hD.mu
            have hle := hD.le
            rw [hlen1] at hmu hc1 ⊢
            have HD : Hid (DM (aftOf I) n i su R gk wA seen (ys ++ [a]) (.slice (some ⟨g, 0, none⟩) (ys ++ [a]).length cp) wr) := hD
            have HPop : Hid (wr.ownsRow (R + 1) 3 1 (.slice (some ⟨g, 0, none⟩) ys.length cp) ys.length (numL ys)) := hpop
            have hys : ys.length ≤ 60000 := by omega
            clear hD hpop hlen1 add
            generalize hk : ys.length = k at HPop hcell hmu hc1 hys ⊢
            cases hs : seen a
            · rw [hs] at hsa
              obtain ⟨ba, bc, bb, d1, hcell2⟩ := (HAft.out.below (w' := wr) (by rw [hwb]; exact HW.out.bl.trans (HD.out.bl.mono (by omega)))) a ha
              have HC2 : Hid (∀ j, (h : j < (aftOf I a).length) → ba = some ⟨bb, 0, none⟩ ∧ wr.cell? ⟨bb, j, none⟩ = some (.int .i64 ((aftOf I a)[j] : Int))) := hcell2
              have haR : aA ≠ R := by omega
              have hLa := HLa.out a ha
              have hB6 : Blk (wr.setCell ⟨R, a, none⟩ (.bool true)) R 4 (vals n (fun c => .bool (updB seen a c))) := by
                have := HD.out.blk.set a (.bool true)
                rw [vals_set] at this
                rw [vals_congr (g' := fun j => if j = a then .bool true else .bool (seen j))]
                · exact this
                · intro j hj
                  by_cases e : j = a
                  · simp [updB, e]
                  · simp [updB, e]
              have HB6 : Hid (Blk (wr.setCell ⟨R, a, none⟩ (.bool true)) R 4 (vals n (fun c => .bool (updB seen a c)))) := hB6
              have HBl6 : Hid (Below R wA (wr.setCell ⟨R, a, none⟩ (.bool true))) := HD.out.bl.setCell (Nat.le_refl _) _
              have HP6 : Hid ((wr.setCell ⟨R, a, none⟩ (.bool true)).ownsRow (R + 1) 3 1 (.slice (some ⟨g, 0, none⟩) k cp) k (numL ys)) := ownsRow_setCell_below HPop.out (by show R < R + 1; omega) _
              have HC6 : Hid (∀ j, (h : j < (aftOf I a).length) → ba = some ⟨bb, 0, none⟩ ∧ (wr.setCell ⟨R, a, none⟩ (.bool true)).cell? ⟨bb, j, none⟩ = some (.int .i64 ((aftOf I a)[j] : Int))) := fun j hj => by
                obtain ⟨x, y⟩ := HC2.out j hj
                refine ⟨x, (grown_set wr ⟨R, a, none⟩ (.bool true)).cell y ?_⟩
                intro e
                have e1 : bb = R := by simpa using e
                rw [e1, HD.out.blk.cell] at y
                by_cases hjn : j < n
                · rw [vals_at _ _ _ hjn] at y; simp at y
                · rw [Array.getElem?_eq_none (by rw [vals_size]; omega)] at y; cases y
              have d16 : (wr.setCell ⟨R, a, none⟩ (.bool true)).cell? ⟨aA, a, none⟩ = some (.slice ba (aftOf I a).length bc) := (grown_set wr ⟨R, a, none⟩ (.bool true)).cell d1 (by simpa using haR)
              have hsz6 : R + 1 ≤ (wr.setCell ⟨R, a, none⟩ (.bool true)).heap.size := by rw [World.size_setCell]; exact HD.out.sz
              clear hcell2 hB6
              go_upto_region 16 with fail
              clear hsa hsf hcell d1 HPop HC2
              generalize wr.setCell ⟨R, a, none⟩ (.bool true) = w6 at HB6 HBl6 HP6 HC6 d16 hsz6 ⊢
              go_wp2_with (first
                | (at_builtin; refine wpList_append_seg _ rfl _ _ rfl (R + 1) (.slice (some ⟨g, 0, none⟩) k cp) k (numL ys) rfl HP6.out ba (aftOf I a).length bc rfl (numL (aftOf I a)) (numL_length _) ⟨bb, fun j hj => ⟨(HC6.out j (by rw [numL_length] at hj; exact hj)).1, (HC6.out j (by rw [numL_length] at hj; exact hj)).2.trans (by simp [numL])⟩⟩ (by intro u hu; unfold numL at hu; obtain ⟨z, _, rfl⟩ := List.mem_map.1 hu; rfl) (by omega) hsz6 ?_; intro ta2 tc2 w7 hown7 hgrow7
                   have HO7 : Hid (w7.ownsRow (R + 1) 3 1 (.slice ta2 (k + (aftOf I a).length) tc2) (k + (aftOf I a).length) (numL ys ++ numL (aftOf I a))) := hown7
                   have HB7 : Hid (Blk w7 R 4 (vals n (fun c => .bool (updB seen a c)))) := HB6.out.grown hgrow7 (by simp [Value.ownBlock]; omega)
                   have HBl7 : Hid (Below R wA w7) := HBl6.out.grown hgrow7 (by omega) (fun x hx => by simp [Value.ownBlock] at hx; omega)
                   have hsz7 : R + 1 ≤ w7.heap.size := Nat.le_trans hsz6 hgrow7.size
                   clear hown7 hgrow7))
              have hup := muS_upd (aftOf I) seen a hs n
              rw [if_pos ha] at hup
              have hlen3 : (ys ++ aftOf I a).length = k + (aftOf I a).length := by rw [List.length_append, hk]
              go_roundg (muS (aftOf I) (updB seen a) n + (k + (aftOf I a).length))
              case measure => omega
              case rel => exact ⟨updB seen a, ys ++ aftOf I a, by rw [hlen3, show numL (ys ++ aftOf I a) = numL ys ++ numL (aftOf I a) by simp [numL]]; exact HO7.out, HB7.out, HBl7.out, HD.out.di.visit HAnc.out, by rw [hlen3], by omega, hsz7⟩
            · rw [hs] at hsa
              go_wp2
              go_roundg (gk - 1)
              case measure => omega
              case rel => exact ⟨seen, ys, by rw [hk]; exact HPop.out, HD.out.blk, HD.out.bl, HD.out.di.skip hs, by omega, by omega, HD.out.sz⟩
          · have h0 : st = [] := List.eq_nil_of_length_eq_zero (by omega)
            subst h0
            obtain ⟨ta1, tc1, rfl, _⟩ := owns_shape hD.own
            obtain ⟨C, hC, hCs, _⟩ := HW.out.row
            have hCw := hC.below hD.bl (by omega)
            have hcw : wr.cell? ⟨wb, i, none⟩ = some C[i] := by rw [hCw.cell, Array.getElem?_eq_getElem (by omega)]
            have hcf : wr.frozen? ⟨wb, i, none⟩ = false := hCw.free i
            have hrow : Blk wr R 4 (vals n (fun c => .bool (su i c))) := by
              have := hD.blk
              rwa [vals_congr (g' := fun c => .bool (su i c)) (fun c _ => by rw [hD.di.done HAnc.out c])] at this
            have hstep := HW.out.step hil (wE := wr) (by rw [hR]; exact hD.bl) (by rw [hR]; exact hrow)
            rw [hR] at hstep
            have HStep : Hid (WR su n wb (i + 1) w2 (wr.setCell ⟨wb, i, none⟩ (.slice (some ⟨R, 0, none⟩) n n))) := hstep
            clear hstep hrow hCw hC hD
            generalize C[i] = ov at hcw
            go_wp2
            go_roundg (n - (i + 1))
            case measure => omega
            case rel => exact ⟨i + 1, by omega, by omega, by go_num, HStep.out⟩
      · have hii : ¬ (i : Int) < (n : Int) := by omega
        obtain rfl : n = i := by omega
        have hBw : Below w2.heap.size w2 wA := by rw [hwb]; exact hW.bl
        have HBw : Hid (Below w2.heap.size w2 wA) := hBw
        have HPw : Hid (PAt (prOf I n true pP pS w1.heap.size wb) wA) := HP.out.below POK.out hBw (by rw [hwb]; exact Nat.le_refl _)
        clear hW hBw
        go_wp2_with (first
          | (go_at_call 10; refine (committed_any _ POK.out sk HSk.out su HSu.out _ HPw.out).mono ?_; rintro e w8 ⟨mr, rfl, hmr, hcm, hb8⟩
             have HC8 : Hid (ComMap (prOf I n true pP pS w1.heap.size wb) su mr w8) := hcm
             have HB8 : Hid (Below wA.heap.size wA w8) := hb8
             clear hcm hb8)
          | (go_at_call 9; refine (same_any (prOf I n true pP pS w1.heap.size wb) POK.out su HDom.out mr _ n w8 HC8.out (HW.out.want HB8.out)).mono ?_; rintro e w9 ⟨rfl, hb9⟩))
        go_ret
        refine ⟨rfl, ((HB2.out.trans (HBw.out.mono HB2.out.size)).trans (HB8.out.mono ?_)).trans (hb9.mono ?_)⟩
        · exact Nat.le_trans HB2.out.size HBw.out.size
        · exact Nat.le_trans (Nat.le_trans HB2.out.size HBw.out.size) HB8.out.size
  · go_wp2
    go_ret
    exact ⟨rfl, hb1⟩

end Go.Proofs.Ybulkcnke
