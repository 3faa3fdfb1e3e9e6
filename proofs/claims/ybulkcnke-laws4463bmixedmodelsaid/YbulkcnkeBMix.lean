/-
  LawS4463BMixedModel: the walk.
-/
import Derived.Test.YbulkcnkeBAll
namespace Go.Proofs.Ybulkcnke
open Go.RowKit Go.Maps
set_option linter.unusedVariables false
attribute [local go_sem ↓] Go.wp_at_zero Go.wp_at_succ

/-- the model's two tables, as far as they are filled -/
structure MR (sk : Nat → Bool) (su : Nat → Nat → Bool) (n kb ub i : Nat) (w2 w : World) : Prop where
  bl : Below kb w2 w
  k : Blk w kb 4 (vals n (fun a => .bool (if a < i then sk a else false)))
  row : ∃ C, Blk w ub 37 C ∧ C.size = n ∧ ∀ j, j < i → ∃ rb, C[j]? = some (.slice (some ⟨rb, 0, none⟩) n n) ∧ ub < rb ∧ Blk w rb 4 (vals n (fun c => .bool (su j c)))

theorem MR.start (sk : Nat → Bool) (su : Nat → Nat → Bool) (n : Nat) (w2 : World) :
    MR sk su n w2.heap.size (w2.heap.size + 1) 0 w2 ((w2.alloc (.cells (madeCells #[.bool false] n) 4)).alloc (.cells (madeCells #[.slice none 0 0] n) 37)) := by
  refine ⟨((Below.refl _ _).alloc (Nat.le_refl _) _).alloc (by simp) _, ?_, ?_⟩
  · have := (Blk.new w2 (madeCells #[.bool false] n) 4).alloc (.cells (madeCells #[.slice none 0 0] n) 37)
    rw [made_vals] at this
    rw [made_vals (.bool false)]
    simpa using this
  · have := Blk.new (w2.alloc (.cells (madeCells #[.bool false] n) 4)) (madeCells #[.slice none 0 0] n) 37
    rw [World.size_alloc] at this
    exact ⟨_, this, size_madeCells _ _, fun j hj => absurd hj (Nat.not_lt_zero _)⟩

/-- 'skip[i]' is set -/
theorem MR.skip {sk : Nat → Bool} {su : Nat → Nat → Bool} {n kb ub i : Nat} {w2 w : World} (h : MR sk su n kb ub i w2 w) (hu : ub = kb + 1) (hi : i < n) :
    Below kb w2 (w.setCell ⟨kb, i, none⟩ (.bool (sk i))) ∧ Blk (w.setCell ⟨kb, i, none⟩ (.bool (sk i))) kb 4 (vals n (fun a => .bool (if a < i + 1 then sk a else false))) ∧
      ∃ C, Blk (w.setCell ⟨kb, i, none⟩ (.bool (sk i))) ub 37 C ∧ C.size = n ∧ ∀ j, j < i → ∃ rb, C[j]? = some (.slice (some ⟨rb, 0, none⟩) n n) ∧ ub < rb ∧ Blk (w.setCell ⟨kb, i, none⟩ (.bool (sk i))) rb 4 (vals n (fun c => .bool (su j c))) := by
  refine ⟨h.bl.setCell (Nat.le_refl _) _, ?_, ?_⟩
  · have := h.k.set i (.bool (sk i))
    rw [vals_set] at this
    rw [vals_congr (g' := fun j => if j = i then .bool (sk i) else .bool (if j < i then sk j else false))]
    · exact this
    · intro j hj
      have e3 : (j < i + 1) = (j = i ∨ j < i) := propext (by omega)
      by_cases e : j = i
      · subst e; simp
      · by_cases e2 : j < i
        · simp [e, e2, e3]
        · simp [e, e2, e3]
  · obtain ⟨C, hC, hs, hr⟩ := h.row
    refine ⟨C, hC.other (by show ub ≠ kb; omega) _, hs, fun j hj => ?_⟩
    obtain ⟨rb, h1, h2, h3⟩ := hr j hj
    exact ⟨rb, h1, h2, h3.other (by show rb ≠ kb; omega) _⟩

/-- while 'sure[i]' is filled: R its row -/
structure MS (sk : Nat → Bool) (su : Nat → Nat → Bool) (n kb ub i R c : Nat) (w2 w : World) : Prop where
  bl : Below kb w2 w
  k : Blk w kb 4 (vals n (fun a => .bool (if a < i + 1 then sk a else false)))
  row : ∃ C, Blk w ub 37 C ∧ C.size = n ∧ C[i]? = some (.slice (some ⟨R, 0, none⟩) n n) ∧ ∀ j, j < i → ∃ rb, C[j]? = some (.slice (some ⟨rb, 0, none⟩) n n) ∧ ub < rb ∧ rb ≠ R ∧ Blk w rb 4 (vals n (fun c => .bool (su j c)))
  r : Blk w R 4 (vals n (fun x => .bool (if x < c then su i x else false)))
  lR : ub < R

theorem MS.start {sk : Nat → Bool} {su : Nat → Nat → Bool} {n kb ub i : Nat} {w2 w : World} (hu : ub = kb + 1) (hi : i < n) (h1 : Below kb w2 w) (h2 : Blk w kb 4 (vals n (fun a => .bool (if a < i + 1 then sk a else false))))
    (h3 : ∃ C, Blk w ub 37 C ∧ C.size = n ∧ ∀ j, j < i → ∃ rb, C[j]? = some (.slice (some ⟨rb, 0, none⟩) n n) ∧ ub < rb ∧ Blk w rb 4 (vals n (fun c => .bool (su j c)))) :
    MS sk su n kb ub i w.heap.size 0 w2 ((w.setCell ⟨ub, i, none⟩ (.slice (some ⟨w.heap.size, 0, none⟩) n n)).alloc (.cells (madeCells #[.bool false] n) 4)) := by
  obtain ⟨C, hC, hs, hr⟩ := h3
  have hl := hC.lt
  refine ⟨(h1.setCell (by show kb ≤ ub; omega) _).alloc (by simp; omega) _, (h2.other (by show kb ≠ ub; omega) _).alloc _, ?_, ?_, hl⟩
  · refine ⟨_, (hC.set i _).alloc _, by simpa using hs, by rw [Array.getElem?_setIfInBounds_self_of_lt (by omega)], fun j hj => ?_⟩
    obtain ⟨rb, a, b, c⟩ := hr j hj
    exact ⟨rb, by rw [Array.getElem?_setIfInBounds, if_neg (by omega)]; exact a, b, fun e => by have := c.lt; omega, (c.other (by show rb ≠ ub; omega) _).alloc _⟩
  · have := Blk.new (w.setCell ⟨ub, i, none⟩ (.slice (some ⟨w.heap.size, 0, none⟩) n n)) (madeCells #[.bool false] n) 4
    rw [World.size_setCell, made_vals] at this
    rw [made_vals (.bool false)]
    simpa using this

theorem MS.step {sk : Nat → Bool} {su : Nat → Nat → Bool} {n kb ub i R c : Nat} {w2 w : World} (h : MS sk su n kb ub i R c w2 w) (hu : ub = kb + 1) :
    MS sk su n kb ub i R (c + 1) w2 (w.setCell ⟨R, c, none⟩ (.bool (su i c))) := by
  have hl := h.lR
  refine ⟨h.bl.setCell (by show kb ≤ R; omega) _, h.k.other (by show kb ≠ R; omega) _, ?_, ?_, hl⟩
  · obtain ⟨C, hC, hs, hi, hr⟩ := h.row
    refine ⟨C, hC.other (by show ub ≠ R; omega) _, hs, hi, fun j hj => ?_⟩
    obtain ⟨rb, h1, h2, h3, h4⟩ := hr j hj
    exact ⟨rb, h1, h2, h3, h4.other h3 _⟩
  · have := h.r.set c (.bool (su i c))
    rw [vals_set] at this
    rw [vals_congr (g' := fun j => if j = c then .bool (su i c) else .bool (if j < c then su i j else false))]
    · exact this
    · intro j hj
      have e3 : (j < c + 1) = (j = c ∨ j < c) := propext (by omega)
      by_cases e : j = c
      · subst e; simp
      · by_cases e2 : j < c
        · simp [e, e2, e3]
        · simp [e, e2, e3]

theorem MS.done {sk : Nat → Bool} {su : Nat → Nat → Bool} {n kb ub i R : Nat} {w2 w : World} (h : MS sk su n kb ub i R n w2 w) : MR sk su n kb ub (i + 1) w2 w := by
  refine ⟨h.bl, h.k, ?_⟩
  obtain ⟨C, hC, hs, hi, hr⟩ := h.row
  refine ⟨C, hC, hs, fun j hj => ?_⟩
  by_cases e : j = i
  · subst e
    refine ⟨R, hi, h.lR, ?_⟩
    rw [vals_congr (g' := fun x => .bool (if x < n then su j x else false)) (fun x hx => by rw [if_pos hx])]
    exact h.r
  · obtain ⟨rb, h1, h2, _, h4⟩ := hr j (by omega)
    exact ⟨rb, h1, h2, h4⟩

theorem MR.want {sk : Nat → Bool} {su : Nat → Nat → Bool} {n kb ub : Nat} {w2 w : World} (h : MR sk su n kb ub n w2 w) {w' : World} (hb : Below w.heap.size w w') :
    ∃ wb', ∀ i, i < n → some (⟨ub, 0, none⟩ : Addr) = some ⟨wb', 0, none⟩ ∧ ∃ rb, w'.cell? ⟨wb', i, none⟩ = some (.slice (some ⟨rb, 0, none⟩) n n) ∧ ∀ c, c < n → w'.cell? ⟨rb, c, none⟩ = some (.bool (su i c)) := by
  obtain ⟨C, hC, hs, hrow⟩ := h.row
  refine ⟨ub, fun i hi => ⟨rfl, ?_⟩⟩
  obtain ⟨rb, h1, h2, h3⟩ := hrow i hi
  exact ⟨rb, below_cell hb ((hC.cell i).trans h1), fun c hc => below_cell hb (by rw [h3.cell, vals_at _ _ _ hc])⟩

set_option maxRecDepth 100000 in
set_option maxHeartbeats 12800000 in
theorem mix_walk (I : In) (sa : Option Addr) (len cap : Nat) (w : World) (hlen : len ≤ 9223372036854775807) (hin : ∀ i, i < len → InArg I sa len w i) :
    Calls Yba.prog 4 #[.slice sa len cap] w fun e w' => e = .returned (.bool true) ∧ Below w.heap.size w w' := by
  have HIn : Hid (∀ i, i < len → InArg I sa len w i) := hin
  clear hin
  go_enter Yba.func4, Yba.ntmps4
  go_upto_if 23 with (go_at_call 7; refine (bbig_any I sa len cap w hlen HIn.out).mono ?_; rintro e w1 ⟨r, rfl, hb1, hr⟩)
  cases r
  · obtain ⟨hl1, hl2⟩ := hr rfl
    have HB1 : Hid (Below w.heap.size w w1) := hb1
    have HIn1 : Hid (∀ i, i < len → InArg I sa len w1 i ∧ I.la i ≤ 1024 ∧ I.lt i ≤ 1024) := fun i hi => ⟨(HIn.out i hi).below hb1, hl2 i hi⟩
    clear hb1 hr hl2
    go_upto_region 4 with (go_at_call 8; refine (build_any I sa len cap false w1 hl1 HIn1.out).mono ?_; rintro e w2 ⟨pP, pS, aA, aT, rB, hok, rfl, hBI⟩)
    have hn : min len 48 ≤ 48 := Nat.min_le_right _ _
    have hl : ∀ i, i < min len 48 → I.la i ≤ 1024 ∧ I.lt i ≤ 1024 := fun i hi => (HIn1.out i (by omega)).2
    generalize min len 48 = n at hn hl hBI ⊢
    obtain ⟨pok, pat, haft, hthn⟩ := hBI.end hok hn hl
    have HB2 : Hid (Below w.heap.size w w2) := HB1.out.trans (hBI.bl.mono HB1.out.size)
    obtain ⟨sk, hsk⟩ := exists_sk (prOf I n false pP pS w1.heap.size w2.heap.size) (fun i a ha => aftOf_lt I i a ha)
    obtain ⟨su, hsu⟩ := exists_su (prOf I n false pP pS w1.heap.size w2.heap.size) sk (fun i a ha => aftOf_lt I i a ha)
    have hlt := su_lt (prOf I n false pP pS w1.heap.size w2.heap.size) sk su (fun i a ha => aftOf_lt I i a ha) hsu
    have HP : Hid (PAt (prOf I n false pP pS w1.heap.size w2.heap.size) w2) := pat
    have POK : Hid (prOf I n false pP pS w1.heap.size w2.heap.size).Ok := pok
    have HAft : Hid (AftAt I n aA w2) := haft
    have HThn : Hid (ThnAt I n aT rB w2) := hthn
    have HSk : Hid (∀ i, i < n → sk i = skF (prOf I n false pP pS w1.heap.size w2.heap.size) sk i) := fun i _ => hsk i
    have HSu : Hid (∀ i, i < n → ∀ c, su i c = suF (prOf I n false pP pS w1.heap.size w2.heap.size) sk su i c) := fun i _ => hsu i
    have HSk' : Hid (∀ i, sk i = ((aftOf I i).any (fun a => decide (i ∈ thnOf I n a)) || (if jnOf I false i = 1 then (aftOf I i).all sk else (aftOf I i).any sk))) := fun i => hsk i
    have HSu' : Hid (∀ i c, su i c = ((aftOf I i).any (fun a => ldF su a c && (decide (jnOf I false i = 0) || !sk a)) || (!(aftOf I i).isEmpty && (aftOf I i).all (fun a => ldF su a c)))) := fun i c => hsu i c
    have HDom : Hid (∀ i, i < n → ∀ c, su i c = true → c < n) := fun i hi c hc => by have := hlt i c hc; omega
    have HLa : Hid (∀ i, i < n → (aftOf I i).length ≤ 1024) := fun i hi => Nat.le_trans (aftOf_length I i) (hl i hi).1
    have c1 : w2.cell? ⟨pP, 1, none⟩ = some (.slice (some ⟨pS, 0, none⟩) n n) := pat.steps
    clear pok pat haft hthn hsk hsu hlt hBI hok HB1 HIn1 HIn hl
    have hmW := fun W => run_make_row' (P := Yba.prog) 26 37 (.slice none 0 0) 24 Yba.underlying26 info37 rfl .i64 .i64 n (by omega) (by omega) W
    have hmS := fun W => run_make_row' (P := Yba.prog) 37 4 (.bool false) 1 Yba.underlying37 info4' rfl .i64 .i64 n (by omega) (by omega) W
    go_wp2
    have HW0 : Hid (MR sk su n w2.heap.size (w2.heap.size + 1) 0 w2 ((w2.alloc (.cells (madeCells #[.bool false] n) 4)).alloc (.cells (madeCells #[.slice none 0 0] n) 37))) := MR.start sk su n w2
    generalize (w2.alloc (.cells (madeCells #[.bool false] n) 4)).alloc (.cells (madeCells #[.slice none 0 0] n) 37) = w3 at HW0 ⊢
    generalize hub : w2.heap.size + 1 = ub at HW0 ⊢
    generalize hkb : w2.heap.size = kb at HW0 HP POK HSk HSu hub ⊢
    have hku : ub = kb + 1 := hub.symm
    clear hmW c1 hub
    have HKU : Hid (ub = kb + 1) := hku
    have hlku : kb < ub := by omega
    clear hku
    go_loopg [9] n (fun gk x wr => ∃ i : Nat, i ≤ n ∧ gk + i = n ∧ x = .int .i64 (i : Int) ∧ MR sk su n kb ub i w2 wr)
    case atStart => exact ⟨0, Nat.zero_le _, rfl, rfl, HW0.out⟩
    case round =>
      clear HW0
      obtain ⟨i, hi, hgk, rfl, hW⟩ := hrel
      obtain ⟨wA, rfl⟩ : ∃ z, z = wr := ⟨wr, rfl⟩
      have HW : Hid (MR sk su n kb ub i w2 wA) := hW
      by_cases hil : i < n
      · have hii : (i : Int) < (n : Int) := by omega
        have hi0 : (0 : Int) ≤ (i : Int) := by omega
        have hBA : Below w2.heap.size w2 wA := by rw [hkb]; exact hW.bl
        have hPA : PAt (prOf I n false pP pS w1.heap.size kb) wA := HP.out.below POK.out hBA (by rw [hkb]; exact Nat.le_refl _)
        have p1 : wA.cell? ⟨pP, 1, none⟩ = some (.slice (some ⟨pS, 0, none⟩) n n) := hPA.steps
        have pj : wA.cell? ⟨pS, i * 12 + 2, none⟩ = some (.string (jnB (jnOf I false i))) := (hPA.step i hil).join
        obtain ⟨aa, ac, ab, d1, hcell⟩ := (HAft.out.below hBA) i hil
        have HC : Hid (∀ j, (h : j < (aftOf I i).length) → aa = some ⟨ab, 0, none⟩ ∧ wA.cell? ⟨ab, j, none⟩ = some (.int .i64 ((aftOf I i)[j] : Int))) := hcell
        have HT : Hid (ThnAt I n aT rB wA) := HThn.out.below hBA
        have hLi := HLa.out i hil
        clear hcell hW hPA hBA
        go_wp2
        go_loopg [11, 12, 13, 57] (aftOf I i).length (fun gk fo so ea x wr => wr = wA ∧ ∃ k : Nat, k ≤ (aftOf I i).length ∧ gk + k = (aftOf I i).length ∧ x = .int .i64 (k : Int) ∧ fo = .bool (((aftOf I i).take k).any (fun a => decide (i ∈ thnOf I n a))) ∧ so = .bool (((aftOf I i).take k).any sk) ∧ ea = .bool (((aftOf I i).take k).all sk))
        case atStart => exact ⟨rfl, 0, Nat.zero_le _, rfl, rfl, by simp, by simp, by simp⟩
        case round =>
          obtain ⟨rfl, k, hk, hgk2, rfl, rfl, rfl, rfl⟩ := hrel
          by_cases hkl : k < (aftOf I i).length
          · have hki : (k : Int) < ((aftOf I i).length : Int) := by omega
            obtain ⟨rfl, e1⟩ := HC.out k hkl
            have ha : (aftOf I i)[k] < i := aftOf_lt I i _ (List.getElem_mem hkl)
            have HF : Hid (_ = _) := take_any_succ (aftOf I i) (fun a => decide (i ∈ thnOf I n a)) k hkl
            have HS : Hid (_ = _) := take_any_succ (aftOf I i) sk k hkl
            have HE : Hid (_ = _) := take_all_succ (aftOf I i) sk k hkl
            generalize (aftOf I i)[k] = a at e1 ha HF HS HE
            obtain ⟨e2, e3'⟩ := HT.out a (by omega)
            have e3 := e3' i hil
            have e4 : wr.cell? ⟨kb, a, none⟩ = some (.bool (sk a)) := by rw [HW.out.k.cell, vals_at _ _ _ (by omega), if_pos ha]
            have hai : (a : Int) < (n : Int) := by omega
            have hai0 : (0 : Int) ≤ (a : Int) := by omega
            clear e3'
            generalize ((aftOf I i).take k).any (fun a => decide (i ∈ thnOf I n a)) = x0 at HF ⊢
            generalize ((aftOf I i).take k).any sk = x1 at HS ⊢
            generalize ((aftOf I i).take k).all sk = x2 at HE ⊢
            generalize decide (i ∈ thnOf I n a) = y0 at HF e3
            cases y0 <;> cases x1 <;> cases x2
            all_goals
              go_wp2
              go_roundg (gk - 1)
              case measure => omega
              case rel => exact ⟨rfl, k + 1, by omega, by omega, by go_num, by rw [HF.out]; cases x0 <;> rfl, by rw [HS.out]; rfl, by rw [HE.out]; rfl⟩
          · have hki : ¬ (k : Int) < ((aftOf I i).length : Int) := by omega
            obtain rfl : k = (aftOf I i).length := by omega
            simp only [List.take_length]
            have HE1 : Hid (sk i = ((aftOf I i).any (fun a => decide (i ∈ thnOf I n a)) || (if jnOf I false i = 1 then (aftOf I i).all sk else (aftOf I i).any sk))) := HSk'.out i
            generalize (aftOf I i).any (fun a => decide (i ∈ thnOf I n a)) = x0 at HE1 ⊢
            generalize (aftOf I i).any sk = x1 at HE1 ⊢
            generalize (aftOf I i).all sk = x2 at HE1 ⊢
            have e5 : wr.cell? ⟨kb, i, none⟩ = some (.bool (if i < i then sk i else false)) := by rw [HW.out.k.cell, vals_at _ _ _ hil]
            rw [if_neg (Nat.lt_irrefl _)] at e5
            have f5 : wr.frozen? ⟨kb, i, none⟩ = false := HW.out.k.free i
            clear hkl hgk2 hk
            go_upto_region 20 with fail
            clear hki
            go_cut [99] (fun _ wx => wx = wr.setCell ⟨kb, i, none⟩ (.bool (sk i)))
            case first =>
              by_cases hj : jnOf I false i = 1
              · have hd : ((jnB (jnOf I false i)).toList == [97, 110, 121]) = true := by rw [jnB_any, hj]; rfl
                have HJ : Hid (jnOf I false i = 1) := hj
                clear hj
                cases x0 <;> cases x1 <;> cases x2
                all_goals
                  go_wp2
                  go_meet
                  case rel => rw [HE1.out, if_pos HJ.out]; rfl
              · have hd : ((jnB (jnOf I false i)).toList == [97, 110, 121]) = false := by rw [jnB_any]; simp [hj]
                have HJ : Hid (¬ jnOf I false i = 1) := hj
                clear hj
                cases x0 <;> cases x1 <;> cases x2
                all_goals
                  go_wp2
                  go_meet
                  case rel => rw [HE1.out, if_neg HJ.out]; rfl
            case rest =>
              obtain rfl := hcut
              obtain ⟨hs1, hs2, hs3⟩ := HW.out.skip HKU.out hil
              clear HE1 e5 f5 p1 pj d1 HC HT HW
              obtain ⟨C, hC, hCs, _⟩ := id hs3
              have d5 : (wr.setCell ⟨kb, i, none⟩ (.bool (sk i))).cell? ⟨ub, i, none⟩ = some C[i] := by rw [hC.cell, Array.getElem?_eq_getElem (by omega)]
              have f5 : (wr.setCell ⟨kb, i, none⟩ (.bool (sk i))).frozen? ⟨ub, i, none⟩ = false := hC.free i
              have hlu : ub < (wr.setCell ⟨kb, i, none⟩ (.bool (sk i))).heap.size := hC.lt
              have HM0 : Hid (MS sk su n kb ub i _ 0 w2 _) := MS.start HKU.out hil hs1 hs2 hs3
              generalize C[i] = ov at d5
              clear hs1 hs2 hs3 hC hCs
              generalize wr.setCell ⟨kb, i, none⟩ (.bool (sk i)) = w5 at d5 f5 hlu HM0 ⊢
              go_wp2
              clear d5 f5 hmS
              generalize (w5.setCell ⟨ub, i, none⟩ (.slice (some ⟨w5.heap.size, 0, none⟩) n n)).alloc (.cells (madeCells #[.bool false] n) 4) = w6 at HM0 ⊢
              generalize w5.heap.size = R at hlu HM0 ⊢
              go_loopg [16] n (fun gk x wq => ∃ c : Nat, c ≤ n ∧ gk + c = n ∧ x = .int .i64 (c : Int) ∧ MS sk su n kb ub i R c w2 wq)
              case atStart => exact ⟨0, Nat.zero_le _, rfl, rfl, HM0.out⟩
              case round =>
                clear HM0
                obtain ⟨c, hc, hgc, rfl, hM⟩ := hrel
                obtain ⟨wB, rfl⟩ : ∃ z, z = wr := ⟨wr, rfl⟩
                have HM : Hid (MS sk su n kb ub i R c w2 wB) := hM
                by_cases hcl : c < n
                · have hci : (c : Int) < (n : Int) := by omega
                  have hc0 : (0 : Int) ≤ (c : Int) := by omega
                  have hBB : Below w2.heap.size w2 wB := by rw [hkb]; exact hM.bl
                  obtain ⟨aa, ac, ab, d1, hcell⟩ := (HAft.out.below hBB) i hil
                  have HC : Hid (∀ j, (h : j < (aftOf I i).length) → aa = some ⟨ab, 0, none⟩ ∧ wB.cell? ⟨ab, j, none⟩ = some (.int .i64 ((aftOf I i)[j] : Int))) := hcell
                  have HK : Hid (Blk wB kb 4 (vals n (fun a => .bool (if a < i + 1 then sk a else false)))) := hM.k
                  obtain ⟨C, hC, hCs, hCi, hCr⟩ := hM.row
                  have HCB : Hid (Blk wB ub 37 C) := hC
                  have HCr : Hid (∀ j, j < i → ∃ rb, C[j]? = some (.slice (some ⟨rb, 0, none⟩) n n) ∧ ub < rb ∧ rb ≠ R ∧ Blk wB rb 4 (vals n (fun c => .bool (su j c)))) := hCr
                  have dR : wB.cell? ⟨ub, i, none⟩ = some (.slice (some ⟨R, 0, none⟩) n n) := by rw [hC.cell, hCi]
                  have dc : wB.cell? ⟨R, c, none⟩ = some (.bool (if c < c then su i c else false)) := by rw [hM.r.cell, vals_at _ _ _ hcl]
                  rw [if_neg (Nat.lt_irrefl _)] at dc
                  have fc : wB.frozen? ⟨R, c, none⟩ = false := hM.r.free c
                  have HStep : Hid (MS sk su n kb ub i R (c + 1) w2 (wB.setCell ⟨R, c, none⟩ (.bool (su i c)))) := hM.step HKU.out
                  have HEq : Hid (su i c = ((aftOf I i).any (fun a => ldF su a c && (decide (jnOf I false i = 0) || !sk a)) || (!(aftOf I i).isEmpty && (aftOf I i).all (fun a => ldF su a c)))) := HSu'.out i c
                  have hem : decide (0 < (aftOf I i).length) = !(aftOf I i).isEmpty := by cases aftOf I i <;> simp
                  have HEm : Hid (decide (0 < (aftOf I i).length) = !(aftOf I i).isEmpty) := hem
                  clear hcell hM hBB hC hCs hCi hCr hem
                  go_wp2
                  go_loopg [17, 18, 122] (aftOf I i).length (fun gk un it x wz => wz = wB ∧ ∃ k : Nat, k ≤ (aftOf I i).length ∧ gk + k = (aftOf I i).length ∧ x = .int .i64 (k : Int) ∧ un = .bool (((aftOf I i).take k).any (fun a => ldF su a c && (decide (jnOf I false i = 0) || !sk a))) ∧ it = .bool (!(aftOf I i).isEmpty && ((aftOf I i).take k).all (fun a => ldF su a c)))
                  case atStart => exact ⟨rfl, 0, Nat.zero_le _, rfl, rfl, by simp, by rw [HEm.out]; simp⟩
                  case round =>
                    obtain ⟨rfl, k, hk, hgk4, rfl, rfl, rfl⟩ := hrel
                    by_cases hkl : k < (aftOf I i).length
                    · have hki : (k : Int) < ((aftOf I i).length : Int) := by omega
                      obtain ⟨rfl, e1⟩ := HC.out k hkl
                      have ha : (aftOf I i)[k] < i := aftOf_lt I i _ (List.getElem_mem hkl)
                      obtain ⟨X1, hX1⟩ : ∃ X, ((aftOf I i).take (k + 1)).any (fun a => ldF su a c && (decide (jnOf I false i = 0) || !sk a)) = X := ⟨_, rfl⟩
                      obtain ⟨X2, hX2⟩ : ∃ X, ((aftOf I i).take (k + 1)).all (fun a => ldF su a c) = X := ⟨_, rfl⟩
                      have HU : Hid (_ = _) := hX1.symm.trans (take_any_succ (aftOf I i) (fun a => ldF su a c && (decide (jnOf I false i = 0) || !sk a)) k hkl)
                      have HIt : Hid (_ = _) := hX2.symm.trans (take_all_succ (aftOf I i) (fun a => ldF su a c) k hkl)
                      have HX1 : Hid (((aftOf I i).take (k + 1)).any (fun a => ldF su a c && (decide (jnOf I false i = 0) || !sk a)) = X1) := hX1
                      have HX2 : Hid (((aftOf I i).take (k + 1)).all (fun a => ldF su a c) = X2) := hX2
                      clear hX1 hX2
                      generalize (aftOf I i)[k] = a at e1 ha HU HIt
                      obtain ⟨rb, g1, g2, g3, g4⟩ := HCr.out a ha
                      have e2 : wr.cell? ⟨ub, a, none⟩ = some (.slice (some ⟨rb, 0, none⟩) n n) := by rw [HCB.out.cell, g1]
                      have e3 : wr.cell? ⟨rb, c, none⟩ = some (.bool (su a c)) := by rw [g4.cell, vals_at _ _ _ hcl]
                      have e4 : wr.cell? ⟨kb, a, none⟩ = some (.bool (sk a)) := by rw [HK.out.cell, vals_at _ _ _ (by omega), if_pos (by omega)]
                      have hai : (a : Int) < (n : Int) := by omega
                      have hai0 : (0 : Int) ≤ (a : Int) := by omega
                      have HY : Hid (ldF su a c = (decide (c = a) || su a c)) := rfl
                      clear g1 g2 g3 g4
                      generalize ((aftOf I i).take k).any (fun a => ldF su a c && (decide (jnOf I false i = 0) || !sk a)) = x1 at HU ⊢
                      generalize ((aftOf I i).take k).all (fun a => ldF su a c) = x2 at HIt ⊢
                      have hjd := jnB_all (jnOf I false i)
                      generalize decide (jnOf I false i = 0) = jz at HU hjd
                      generalize sk a = ska at HU e4
                      generalize su a c = sua at HY e3
                      generalize ldF su a c = y at HY HU HIt
                      have hce : ((c : Int) == (a : Int)) = decide (c = a) := by
                        by_cases h : c = a
                        · subst h; simp
                        · have : (c : Int) ≠ (a : Int) := by omega
                          simp [h, this]
                      generalize decide (c = a) = ca at HY hce
                      cases ca <;> cases sua <;> cases jz <;> cases ska
                      all_goals
                        go_wp2
                        go_roundg (gk - 1)
                        case measure => omega
                        case rel => exact ⟨rfl, k + 1, by omega, by omega, by go_num, by rw [HX1.out, HU.out, HY.out]; cases x1 <;> rfl, by rw [HX2.out, HIt.out, HY.out]; cases x2 <;> cases (aftOf I i).isEmpty <;> rfl⟩
                    · have hki : ¬ (k : Int) < ((aftOf I i).length : Int) := by omega
                      obtain rfl : k = (aftOf I i).length := by omega
                      simp only [List.take_length]
                      generalize (aftOf I i).any (fun a => ldF su a c && (decide (jnOf I false i = 0) || !sk a)) = X1 at HEq ⊢
                      generalize (!(aftOf I i).isEmpty && (aftOf I i).all (fun a => ldF su a c)) = X2 at HEq ⊢
                      clear hkl hk hgk4
                      cases X1
                      · cases X2
                        · have hsu : su i c = false := HEq.out
                          rw [hsu] at HStep
                          have HStep' : Hid (MS sk su n kb ub i R (c + 1) w2 _) := HStep.out
                          clear hsu HStep HEq
                          go_wp2
                          go_roundg (n - (c + 1))
                          case measure => omega
                          case rel => exact ⟨c + 1, by omega, by omega, by go_num, HStep'.out⟩
                        · have hsu : su i c = true := HEq.out
                          rw [hsu] at HStep
                          have HStep' : Hid (MS sk su n kb ub i R (c + 1) w2 _) := HStep.out
                          clear hsu HStep HEq
                          go_wp2
                          go_roundg (n - (c + 1))
                          case measure => omega
                          case rel => exact ⟨c + 1, by omega, by omega, by go_num, HStep'.out⟩
                      · cases X2
                        · have hsu : su i c = true := HEq.out
                          rw [hsu] at HStep
                          have HStep' : Hid (MS sk su n kb ub i R (c + 1) w2 _) := HStep.out
                          clear hsu HStep HEq
                          go_wp2
                          go_roundg (n - (c + 1))
                          case measure => omega
                          case rel => exact ⟨c + 1, by omega, by omega, by go_num, HStep'.out⟩
                        · have hsu : su i c = true := HEq.out
                          rw [hsu] at HStep
                          have HStep' : Hid (MS sk su n kb ub i R (c + 1) w2 _) := HStep.out
                          clear hsu HStep HEq
                          go_wp2
                          go_roundg (n - (c + 1))
                          case measure => omega
                          case rel => exact ⟨c + 1, by omega, by omega, by go_num, HStep'.out⟩
                · have hci : ¬ (c : Int) < (n : Int) := by omega
                  obtain rfl : c = n := by omega
                  have HN : Hid (MR sk su c kb ub (i + 1) w2 wB) := hM.done
                  clear hM HM
                  go_wp2
                  go_roundg (c - (i + 1))
                  case measure => omega
                  case rel => exact ⟨i + 1, by omega, by omega, by go_num, HN.out⟩
      · have hii : ¬ (i : Int) < (n : Int) := by omega
        obtain rfl : n = i := by omega
        have hBw : Below w2.heap.size w2 wA := by rw [hkb]; exact hW.bl
        have HBw : Hid (Below w2.heap.size w2 wA) := hBw
        have HPw : Hid (PAt (prOf I n false pP pS w1.heap.size kb) wA) := HP.out.below POK.out hBw (by rw [hkb]; exact Nat.le_refl _)
        clear hW hBw
        go_wp2_with (first
          | (go_at_call 10; refine (committed_any _ POK.out sk HSk.out su HSu.out _ HPw.out).mono ?_; rintro e w8 ⟨mr, rfl, hmr, hcm, hb8⟩
             have HC8 : Hid (ComMap (prOf I n false pP pS w1.heap.size kb) su mr w8) := hcm
             have HB8 : Hid (Below wA.heap.size wA w8) := hb8
             clear hcm hb8)
          | (go_at_call 9; refine (same_any (prOf I n false pP pS w1.heap.size kb) POK.out su HDom.out mr _ n w8 HC8.out (HW.out.want HB8.out)).mono ?_; rintro e w9 ⟨rfl, hb9⟩))
        go_ret
        refine ⟨rfl, ((HB2.out.trans (HBw.out.mono HB2.out.size)).trans (HB8.out.mono ?_)).trans (hb9.mono ?_)⟩
        · exact Nat.le_trans HB2.out.size HBw.out.size
        · exact Nat.le_trans (Nat.le_trans HB2.out.size HBw.out.size) HB8.out.size
  · go_wp2
    go_ret
    exact ⟨rfl, hb1⟩

end Go.Proofs.Ybulkcnke
