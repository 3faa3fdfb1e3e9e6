/-
  zzs4463bbuild: the walk.
-/
import Derived.Test.YbulkcnkeBBMem
namespace Go.Proofs.Ybulkcnke
open Go.RowKit Go.Maps
set_option linter.unusedVariables false
attribute [local go_sem ↓] Go.wp_at_zero Go.wp_at_succ

theorem owns_below {base : Nat} {e : TypeId} {size : Nat} {v : Value} {n : Nat} {xs : List Value} {w w1 : World} (h : w.ownsRow base e size v n xs) (hb : Below w.heap.size w w1) : w1.ownsRow base e size v n xs := by
  cases hv : v.ownBlock with
  | none => exact h.kept (row := none) ⟨hb.os, hb.tape, hb.output, hb.size, fun k hk _ => hb.block k hk⟩ (Or.inl hv)
  | some k => exact h.kept (row := none) ⟨hb.os, hb.tape, hb.output, hb.size, fun k hk _ => hb.block k hk⟩ (Or.inr (by simp [hv]))

theorem cells12 {w : World} {pS n i : Nat} {C : Array Value} (h : Blk w pS 50 C) (hn : C.size = n * 12) (hi : i < n) (f : Nat) (hf : f < 12) : ∃ v, w.cell? ⟨pS, i * 12 + f, none⟩ = some v ∧ w.frozen? ⟨pS, i * 12 + f, none⟩ = false := by
  have hl : i * 12 + f < C.size := by omega
  exact ⟨C[i * 12 + f], by rw [h.cell, Array.getElem?_eq_getElem hl], h.free _⟩

theorem info50 : (Yba.prog.info? 50).map (fun i => (i.zero.isSome, i.size, i.bytes)) = some (true, 12, 200) := by kernel_rfl
theorem make50 (n : Nat) (hn : n ≤ 48) : ∃ z, ∀ W, (Instr.makeSlice 29 (.int .i64 (n : Int)) (.int .i64 (n : Int))).run Yba.prog W = .ok (.slice (some ⟨W.heap.size, 0, none⟩) n n) (W.alloc (.cells (madeCells z (n * 12)) 50)) := by
  obtain ⟨i, hi, hzz⟩ := Option.map_eq_some_iff.1 info50
  simp only [Prod.mk.injEq] at hzz
  obtain ⟨h1, h2, h3⟩ := hzz
  obtain ⟨z, hz⟩ := Option.isSome_iff_exists.1 h1
  refine ⟨z.cells, fun W => ?_⟩
  have := run_make (P := Yba.prog) W 29 50 i z Yba.underlying29 hi hz .i64 .i64 (n : Int) (n : Int) (by omega) (Int.le_refl _) (by rw [h3]; omega) (by omega)
  rw [h2] at this
  simpa using this
theorem info38 : (Yba.prog.info? 38).map (fun i => (i.zero, i.size, i.bytes)) = some (some (.slice none 0 0), 1, 24) := by kernel_rfl
theorem info37 : (Yba.prog.info? 37).map (fun i => (i.zero, i.size, i.bytes)) = some (some (.slice none 0 0), 1, 24) := by kernel_rfl
theorem info3 : (Yba.prog.info? 3).map (fun i => (i.zero, i.size, i.bytes)) = some (some (.int .i64 0), 1, 8) := by kernel_rfl
theorem info9 : (Yba.prog.info? 9).map (fun i => (i.zero, i.size, i.bytes)) = some (some (.string ⟨#[]⟩), 1, 16) := by kernel_rfl
theorem info4' : (Yba.prog.info? 4).map (fun i => (i.zero, i.size, i.bytes)) = some (some (.bool false), 1, 1) := by kernel_rfl

/-- what the build hands back -/
def BuildRes (I : In) (len : Nat) (aj : Bool) (w : World) (e : Ending) (w' : World) : Prop :=
  ∃ pP pS aA aT rB, BOk w.heap.size pP pS aA aT rB ∧ e = .returned (.tuple #[.pointer (some ⟨pP, 0, none⟩), .slice (some ⟨aA, 0, none⟩) (min len 48) (min len 48), .slice (some ⟨aT, 0, none⟩) (min len 48) (min len 48)]) ∧ BI I (min len 48) aj w.heap.size pP pS aA aT rB w (min len 48) w'

set_option maxRecDepth 100000 in
set_option maxHeartbeats 6400000 in
theorem build_any (I : In) (sa : Option Addr) (len cap : Nat) (aj : Bool) (w : World) (hlen : len ≤ 1024) (hin : ∀ i, i < len → InArg I sa len w i ∧ I.la i ≤ 1024 ∧ I.lt i ≤ 1024) :
    Calls Yba.prog 8 #[.slice sa len cap, .bool aj] w fun e w' => BuildRes I len aj w e w' := by
  have HIn : Hid (∀ i, i < len → InArg I sa len w i ∧ I.la i ≤ 1024 ∧ I.lt i ≤ 1024) := hin
  clear hin
  have hmm := @run_makeMap Yba.prog
  go_enter Yba.func8, Yba.ntmps8
  go_upto_if 25 with fail
  go_cut [7] (fun v wx => wx = w ∧ v = .int .i64 ((min len 48 : Nat) : Int))
  case first =>
    by_cases h48 : (len : Int) > 48
    · go_wp2
      go_meet
      case rel => exact ⟨rfl, by rw [show min len 48 = 48 by omega]; rfl⟩
    · go_wp2
      go_meet
      case rel => exact ⟨rfl, by rw [show min len 48 = len by omega]⟩
  case rest =>
    obtain ⟨rfl, rfl⟩ := hcut
    obtain ⟨w0, rfl⟩ : ∃ z, z = wc := ⟨wc, rfl⟩
    have hn : min len 48 ≤ 48 := Nat.min_le_right _ _
    have hnl : min len 48 ≤ len := Nat.min_le_left _ _
    generalize hN : min len 48 = n at hn hnl ⊢
    obtain ⟨z50, hz50⟩ := make50 n hn
    have hmA := fun W => run_make_row' (P := Yba.prog) 25 38 (.slice none 0 0) 24 Yba.underlying25 info38 rfl .i64 .i64 n (by omega) (by omega) W
    have hmT := fun W => run_make_row' (P := Yba.prog) 26 37 (.slice none 0 0) 24 Yba.underlying26 info37 rfl .i64 .i64 n (by omega) (by omega) W
    go_upto_region 8 with fail
    have hJ := BJ.start w0 n z50 (.string ⟨#[112]⟩) (.string ⟨#[]⟩) (.int .i64 0) (.slice none 0 0) (.bool false) (.map none)
    have hOk : BOk w0.heap.size (w0.heap.size + 1) (w0.heap.size + 1 + 1) (w0.heap.size + 1 + 1 + 1) (w0.heap.size + 1 + 1 + 1 + 1) (w0.heap.size + 5) := ⟨rfl, rfl, rfl, rfl, rfl⟩
    clear hmm hz50 hmA hmT
    generalize (((((w0.alloc (.map #[] 0)).alloc (.cells #[.string ⟨#[112]⟩, .slice (some ⟨w0.heap.size + 1 + 1, 0, none⟩) n n, .string ⟨#[]⟩, .int .i64 0, .slice none 0 0, .bool false, .map (some w0.heap.size), .map none] 36)).alloc (.cells (madeCells z50 (n * 12)) 50)).alloc (.cells (madeCells #[.slice none 0 0] n) 38)).alloc (.cells (madeCells #[.slice none 0 0] n) 37)) = w1 at hJ ⊢
    generalize w0.heap.size + 1 + 1 + 1 + 1 = aT at hJ hOk ⊢
    generalize w0.heap.size + 1 + 1 + 1 = aA at hJ hOk ⊢
    generalize w0.heap.size + 1 + 1 = pS at hJ hOk ⊢
    generalize w0.heap.size + 1 = pP at hJ hOk ⊢
    generalize w0.heap.size + 5 = rB at hJ hOk
    have HJ : Hid (BJ n w0.heap.size pP pS aA aT rB w0 0 w1) := hJ
    have OK : Hid (BOk w0.heap.size pP pS aA aT rB) := hOk
    clear hJ hOk
    have hmR := fun W => run_make_row' (P := Yba.prog) 37 4 (.bool false) 1 Yba.underlying37 info4' rfl .i64 .i64 n (by omega) (by omega) W
    go_wp2
    go_loopg [11] n (fun gk x wr => ∃ j : Nat, j ≤ n ∧ gk + j = n ∧ x = .int .i64 (j : Int) ∧ BJ n w0.heap.size pP pS aA aT rB w0 j wr)
    case atStart => exact ⟨0, Nat.zero_le _, rfl, rfl, HJ.out⟩
    case round =>
      clear HJ
      obtain ⟨j, hj, hgk, rfl, hJ⟩ := hrel
      by_cases hjl : j < n
      · have hji : (j : Int) < (n : Int) := by omega
        have HJ' : Hid (BJ n w0.heap.size pP pS aA aT rB w0 (j + 1) ((wr.setCell ⟨aT, j, none⟩ (.slice (some ⟨wr.heap.size, 0, none⟩) n n)).alloc (.cells (madeCells #[.bool false] n) 4))) := hJ.step OK.out hjl
        have d1 : wr.cell? ⟨aT, j, none⟩ = some (if j < j then .slice (some ⟨rB + j, 0, none⟩) n n else .slice none 0 0) := by rw [hJ.t.cell, vals_at _ _ _ hjl]
        have f1 : wr.frozen? ⟨aT, j, none⟩ = false := hJ.t.free j
        have hlt : aT < wr.heap.size := hJ.t.lt
        rw [if_neg (Nat.lt_irrefl _)] at d1
        clear hJ
        go_wp2
        go_roundg (gk - 1)
        case measure => omega
        case rel => exact ⟨j + 1, by omega, by omega, by go_num, HJ'.out⟩
      · have hji : ¬ (j : Int) < (n : Int) := by omega
        obtain rfl : n = j := by omega
        have HI : Hid (BI I n aj w0.heap.size pP pS aA aT rB w0 0 wr) := hJ.done
        clear hJ hjl hgk hj hmR
        go_wp2
        clear hji
        go_loopg [12] n (fun gk x wr => ∃ i : Nat, i ≤ n ∧ gk + i = n ∧ x = .int .i64 (i : Int) ∧ BI I n aj w0.heap.size pP pS aA aT rB w0 i wr)
        case atStart => exact ⟨0, Nat.zero_le _, rfl, rfl, HI.out⟩
        case round =>
          clear HI
          obtain ⟨i, hi, hgk, rfl, hI⟩ := hrel
          obtain ⟨w1, rfl⟩ : ∃ z, z = wr := ⟨wr, rfl⟩
          have HI : Hid (BI I n aj w0.heap.size pP pS aA aT rB w0 i w1) := hI
          by_cases hil : i < n
          · have hii : (i : Int) < (n : Int) := by omega
            have hiL : (i : Int) < (len : Int) := by omega
            obtain ⟨hin, hla, hlt⟩ := HIn.out i (by omega)
            obtain ⟨rfl, hsb, d0, d1, d2, _, _, _⟩ := hin.below hI.bl
            obtain ⟨_, _, _, _, _, hjo, hia, hit⟩ := hin
            have HA : Hid (∀ j, j < I.la i → I.ra i = some ⟨I.ab i, I.ao i, none⟩ ∧ I.ab i < w0.heap.size ∧ I.xa i j < 256 ∧ w0.cell? ⟨I.ab i, I.ao i + j, none⟩ = some (.int .u8 (I.xa i j : Int))) := hia
            have HT : Hid (∀ j, j < I.lt i → I.rt i = some ⟨I.tb i, I.tof i, none⟩ ∧ I.tb i < w0.heap.size ∧ I.xt i j < 256 ∧ w0.cell? ⟨I.tb i, I.tof i + j, none⟩ = some (.int .u8 (I.xt i j : Int))) := hit
            have hsz0 : w0.heap.size ≤ w1.heap.size := hI.bl.size
            have hAH : w0.heap.size < aA := by have := OK.out.h3; omega
            clear hia hit hI
            go_upto_region 17 with (go_at_call 15; refine (bid_any i (by omega) _).mono ?_; rintro e w2 ⟨rfl, hb2⟩)
            obtain ⟨CA, hCA, hCs, hCz, hCr⟩ := HI.out.a
            have hL := L3.start hCA (hCz i (Nat.le_refl _) hil) hb2
            unfold sA compB at hL
            have HCr : Hid (CA.size = n ∧ (∀ j, i ≤ j → j < n → CA[j]? = some (.slice none 0 0)) ∧ ∀ j, j < i → ∃ v, CA[j]? = some v ∧ SlR (rB + n) v (numL (aftOf I j)) w1) := ⟨hCs, hCz, hCr⟩
            have HL : Hid (L3 I i 0 0 w1 aA w2.heap.size CA (.slice none 0 0) (.slice none 0 0) _) := hL
            have HCA : Hid (Blk w1 aA 38 CA) := hCA
            clear hL hCA hCs hCz hCr hb2 d0 d1 d2
            generalize w2.alloc (.cells #[.string (idB i), .slice none 0 0, .string ⟨#[]⟩, .pointer none, .pointer none, .bool false, .string ⟨#[99, 111, 109, 112, 101, 110, 115, 97, 116, 97, 98, 108, 101]⟩, .slice none 0 0, .slice none 0 0, .slice none 0 0, .pointer none, .slice none 0 0] 50) = wA at HL ⊢
            generalize w2.heap.size = bs at HL ⊢
            go_upto_if 61 with fail
            go_cut [17] (fun _ wx => ∃ av qv k, aftTo I i k = aftOf I i ∧ L3 I i k k w1 aA bs CA av qv wx)
            case first =>
              by_cases hi0 : 0 < i
              · rw [show decide (0 < i) = true from decide_eq_true hi0]
                have c0 : wA.cell? ⟨w1.heap.size, 0, none⟩ = some (.slice (I.ra i) (I.la i) (I.ca i)) := by rw [HL.out.st.cell]; rfl
                generalize I.ra i = ra at HA c0
                go_wp2
                clear c0
                go_loopg [65] (I.la i) (fun gk x wr => ∃ k av qv, k ≤ I.la i ∧ gk + k = I.la i ∧ x = .int .i64 (k : Int) ∧ L3 I i k k w1 aA bs CA av qv wr)
                case atStart => exact ⟨0, _, _, Nat.zero_le _, rfl, rfl, HL.out⟩
                case round =>
                  clear HL
                  obtain ⟨k, av, qv, hk, hgk, rfl, hL⟩ := hrel
                  have HL : Hid (L3 I i k k w1 aA bs CA av qv wr) := hL
                  by_cases hkl : k < I.la i
                  · have hki : (k : Int) < (I.la i : Int) := by omega
                    obtain ⟨rfl, hab, hxk, hck⟩ := HA.out k hkl
                    have e1 : wr.cell? ⟨I.ab i, I.ao i + k, none⟩ = some (.int .u8 (I.xa i k : Int)) := ((World.cell?_of_block (a := ⟨I.ab i, I.ao i + k, none⟩) (hL.fr.block (I.ab i) (by omega) (by omega) (by omega))).trans (HI.out.bl.cell (p := ⟨I.ab i, I.ao i + k, none⟩) hab)).trans hck
                    have hm := Nat.mod_lt (I.xa i k) (show i > 0 by omega)
                    clear hck hL
                    go_upto_region 22 with fail
                    rw [show ((I.xa i k : Int) % (i : Int)) = ((I.xa i k % i : Nat) : Int) from (Int.natCast_emod _ _).symm]
                    generalize hak : I.xa i k % i = a at hm ⊢
                    have dq : wr.cell? ⟨aA, i, none⟩ = some qv := by rw [HL.out.a.cell, Array.getElem?_setIfInBounds_self_of_lt (by rw [HCr.out.1]; exact hil)]
                    obtain ⟨i3, hi3, hz30, hz31, hz32⟩ := info_parts info3
                    obtain ⟨i9, hi9, hz90, hz91, hz92⟩ := info_parts info9
                    have hszr := HL.out.sz
                    have hbs1 := HL.out.lt
                    have hbA := HL.out.lA
                    clear e1
                    go_upto_region 23 with (at_builtin; refine wpList_append_lies _ rfl _ _ 38 rfl (bs + 1) 3 i3 (.int .i64 0) 1 8 Yba.underlying38 hi3 hz30 hz31 hz32 rfl (by decide) qv k (numL (aftTo I i k)) rfl (HL.out.rq.alloc _) ⟨wr.heap.size, 0, none⟩ 1 1 [.int .i64 (a : Int)] rfl rfl (cell_one_new _ _ _) (by intro u hu; simp at hu; subst hu; rfl) (by decide) (by unfold maxLen; omega) (by omega) (by simp; omega) _ rfl ?_; intro gq cq w4 hown4 hgrow4 hat4 _; have hB4 := (HL.out.a.alloc (.cells #[.int .i64 (a : Int)] 3)).grown hgrow4 (fun e => by have := (HL.out.rq.lt _ e.symm).1; omega); have dq4 : w4.cell? ⟨aA, i, none⟩ = some qv := (by rw [hB4.cell, Array.getElem?_setIfInBounds_self_of_lt (by rw [HCr.out.1]; exact hil)]); have fq4 : w4.frozen? ⟨aA, i, none⟩ = false := hB4.free i)
                    have HL5 : Hid (L3 I i k (k + 1) w1 aA bs CA av (.slice (some ⟨gq, 0, none⟩) (k + 1) cq) (w4.setCell ⟨aA, i, none⟩ (.slice (some ⟨gq, 0, none⟩) (k + 1) cq))) := HL.out.pushQ hgrow4 (by rw [hak]; exact hown4)
                    clear hown4 hgrow4 hat4 hB4 dq4 fq4 dq HL
                    generalize w4.setCell ⟨aA, i, none⟩ (.slice (some ⟨gq, 0, none⟩) (k + 1) cq) = w5 at HL5 ⊢
                    have da : w5.cell? ⟨bs, 1, none⟩ = some av := by rw [HL5.out.sb.cell]; rfl
                    have hsz5 := HL5.out.sz
                    go_region_law
                      (first
                        | (go_simp; go_at_call 15; refine (bid_any a (by omega) _).mono ?_; rintro e w6 ⟨rfl, hb6⟩; have hL6 := HL5.out.below (below_undrew hb6); have hs6 := hL6.sz; have e6 : w6.cell? ⟨bs, 1, none⟩ = some av := (by rw [hL6.sb.cell]; rfl); have e7 : ∀ o, (w6.alloc o).cell? ⟨bs, 1, none⟩ = some av := (fun o => by rw [(hL6.sb.alloc o).cell]; rfl))
                        | (refine step_append_lies _ (by rfl) _ _ 42 (by rfl) (bs + 1) 9 i9 (.string ⟨#[]⟩) 1 16 Yba.underlying42 hi9 hz90 hz91 hz92 rfl (by decide) av k (ids (aftTo I i k)) (by rfl) (hL6.ra.alloc _) ⟨w6.heap.size, 0, none⟩ 1 1 [.string (idB a)] (by rfl) (by rfl) (World.news_of_block (heap_alloc_new w6 _)) (by intro u hu; simp at hu; subst hu; rfl) (by decide) (by unfold maxLen; omega) (by omega) (by simp; omega) _ rfl ?_; intro ga ca w7 hown7 hgrow7 hat7 hlt7; have hB7 := (hL6.sb.alloc (.cells #[.string (idB a)] 9)).grown hgrow7 (fun e => by have := (hL6.ra.lt _ e.symm).1; omega); have e8 : w7.cell? ⟨bs, 1, none⟩ = some av := (by rw [hB7.cell]; rfl); have e9 : w7.frozen? ⟨bs, 1, none⟩ = false := hB7.free 1))
                    all_goals
                      have HL8 : Hid (L3 I i (k + 1) (k + 1) w1 aA bs CA (.slice (some ⟨ga, 0, none⟩) (k + 1) ca) (.slice (some ⟨gq, 0, none⟩) (k + 1) cq) (w7.setCell ⟨bs, 1, none⟩ (.slice (some ⟨ga, 0, none⟩) (k + 1) ca))) := hL6.pushA hgrow7 (by rw [hak]; exact hown7)
                      clear hL6 hb6 hs6 e6 e7 hown7 hgrow7 hat7 hlt7 hB7 e8 e9 HL5 da hsz5
                      generalize w7.setCell ⟨bs, 1, none⟩ (.slice (some ⟨ga, 0, none⟩) (k + 1) ca) = w8 at HL8 ⊢
                      go_wp2
                      go_roundg (I.la i - (k + 1))
                      case measure => omega
                      case rel => exact ⟨k + 1, _, _, by omega, by omega, by go_num, HL8.out⟩
                  · have hki : ¬ (k : Int) < (I.la i : Int) := by omega
                    obtain rfl : k = I.la i := by omega
                    clear hL
                    go_wp2
                    go_meet
                    case rel => exact ⟨_, _, _, by unfold aftOf; rw [if_neg (by omega)]; rfl, HL.out⟩
              · obtain rfl : i = 0 := by omega
                go_wp2
                go_meet
                case rel => exact ⟨_, _, 0, rfl, HL.out⟩
            case rest =>
              clear HL
              obtain ⟨av, qv, k, haft, hL⟩ := hcut
              obtain ⟨wB, rfl⟩ : ∃ z, z = wc := ⟨wc, rfl⟩
              have HL : Hid (L3 I i k k w1 aA bs CA av qv wB) := hL
              have c1 : wB.cell? ⟨w1.heap.size, 1, none⟩ = some (.int .u8 (I.jo i : Int)) := by rw [hL.st.cell]; rfl
              have c2 : wB.cell? ⟨bs, 2, none⟩ = some (.string ⟨#[]⟩) := by rw [hL.sb.cell]; rfl
              have f2 : wB.frozen? ⟨bs, 2, none⟩ = false := hL.sb.free 2
              clear hL
              go_upto_if 91 with fail
              go_cut [95] (fun _ wx => L4 I i w1 aA bs CA av qv (jnB (jnOf I aj i)) wx)
              case first =>
                cases aj
                · rcases (show I.jo i % 3 = 0 ∨ I.jo i % 3 = 1 ∨ I.jo i % 3 = 2 by omega) with h | h | h
                  · have hq : (I.jo i : Int) % 3 = 0 := by omega
                    have hjb : jnB (jnOf I false i) = ⟨#[97, 108, 108]⟩ := by unfold jnOf; simp only [Bool.false_eq_true, if_false]; rw [h]; rfl
                    clear h
                    go_wp2
                    go_meet
                    case rel => rw [hjb]; exact HL.out.join haft _
                  · have hq : (I.jo i : Int) % 3 = 1 := by omega
                    have hjb : jnB (jnOf I false i) = ⟨#[97, 110, 121]⟩ := by unfold jnOf; simp only [Bool.false_eq_true, if_false]; rw [h]; rfl
                    clear h
                    go_wp2
                    go_meet
                    case rel => rw [hjb]; exact HL.out.join haft _
                  · have hq : (I.jo i : Int) % 3 = 2 := by omega
                    have hjb : jnB (jnOf I false i) = ⟨#[]⟩ := by unfold jnOf; simp only [Bool.false_eq_true, if_false]; rw [h]; rfl
                    clear h
                    go_wp2
                    go_meet
                    case rel => rw [hjb]; exact HL.out.join haft _
                · go_wp2
                  go_meet
                  case rel => exact HL.out.join haft _
              case rest =>
                clear HL c1 c2 f2
                obtain ⟨w4, rfl⟩ : ∃ z, z = wc := ⟨wc, rfl⟩
                have HL4 : Hid (L4 I i w1 aA bs CA av qv (jnB (jnOf I aj i)) w4) := hcut
                have hr1 := HI.out.r i hil
                have hAr : rB + i ≠ aA := by have := OK.out.h3; have := OK.out.h5; omega
                have HR1 : Hid (Blk w1 (rB + i) 4 (vals n (fun k => .bool (decide (i < i) && decide (k ∈ thnOf I n i))))) := hr1
                have hrl := hr1.lt
                have c2 : w4.cell? ⟨w1.heap.size, 2, none⟩ = some (.slice (I.rt i) (I.lt i) (I.ct i)) := by rw [hcut.st.cell]; rfl
                clear hcut hr1
                go_upto_if 106 with fail
                go_cut [18] (fun _ wx => ∃ cv, L5 I n i w1 aA (rB + i) bs CA av qv cv (jnB (jnOf I aj i)) wx)
                case first =>
                  by_cases ht0 : 0 < I.lt i
                  · rw [show decide (0 < I.lt i) = true from decide_eq_true ht0]
                    generalize I.rt i = rt at HT c2
                    have HL6 : Hid (L6 I n i 0 w4 (rB + i) (.slice none 0 0) w4) := HL4.out.loop HR1.out hAr
                    go_wp2
                    clear c2
                    go_loopg [18, 110] (I.lt i) (fun gk iv x wr => ∃ k, k ≤ I.lt i ∧ gk + k = I.lt i ∧ x = .int .i64 (k : Int) ∧ L6 I n i k w4 (rB + i) iv wr)
                    case atStart => exact ⟨0, Nat.zero_le _, rfl, rfl, HL6.out⟩
                    case round =>
                      clear HL6
                      obtain ⟨k, hk, hgk, rfl, hL⟩ := hrel
                      have HL6 : Hid (L6 I n i k w4 (rB + i) u18 wr) := hL
                      by_cases hkl : k < I.lt i
                      · have hki : (k : Int) < (I.lt i : Int) := by omega
                        obtain ⟨rfl, htb, hxk, hck⟩ := HT.out k hkl
                        have hrH : w0.heap.size < rB + i := by have := OK.out.h5; omega
                        have hTA : aT ≠ aA := by have := OK.out.h3; have := OK.out.h4; omega
                        have hTr : aT ≠ rB + i := by have := OK.out.h4; have := OK.out.h5; omega
                        have hf1 := HL4.out.fr.size
                        have e1 : wr.cell? ⟨I.tb i, I.tof i + k, none⟩ = some (.int .u8 (I.xt i k : Int)) := (((World.cell?_of_block (a := ⟨I.tb i, I.tof i + k, none⟩) (hL.fr.block (I.tb i) (by omega) (by omega) (by omega))).trans (World.cell?_of_block (a := ⟨I.tb i, I.tof i + k, none⟩) (HL4.out.fr.block (I.tb i) (by omega) (by omega) (by omega)))).trans (HI.out.bl.cell (p := ⟨I.tb i, I.tof i + k, none⟩) htb)).trans hck
                        have e2 : wr.cell? ⟨aT, i, none⟩ = some (.slice (some ⟨rB + i, 0, none⟩) n n) := by rw [(hL.fr.blk (HL4.out.fr.blk HI.out.t hTA hTA) hTr hTr).cell, vals_at _ _ _ hil]
                        have hm := Nat.mod_lt (I.xt i k) (show n > 0 by omega)
                        have hmk := hL.mark
                        clear hck hL
                        go_upto_region 39 with fail
                        rw [show ((I.xt i k : Int) % (n : Int)) = ((I.xt i k % n : Nat) : Int) from (Int.natCast_emod _ _).symm]
                        generalize hak : I.xt i k % n = a at hm hmk ⊢
                        have e3 : wr.cell? ⟨rB + i, a, none⟩ = some (.bool (decide (a ∈ thnTo I n i k))) := by rw [HL6.out.r.cell, vals_at _ _ _ hm]
                        have f3 : wr.frozen? ⟨rB + i, a, none⟩ = false := HL6.out.r.free a
                        have hmi : (a : Int) < (n : Int) := by omega
                        have HMk : Hid (Fr (rB + i) (rB + i) w4 (wr.setCell ⟨rB + i, a, none⟩ (.bool true)) ∧ Blk (wr.setCell ⟨rB + i, a, none⟩ (.bool true)) (rB + i) 4 (vals n (fun c => .bool (decide (c ∈ thnTo I n i (k + 1))))) ∧ (wr.setCell ⟨rB + i, a, none⟩ (.bool true)).ownsRow w4.heap.size 9 1 u18 k (ids (thnTo I n i k))) := hmk
                        obtain ⟨i9, hi9, hz90, hz91, hz92⟩ := info_parts info9
                        have hlr := HL6.out.lr
                        clear hmk e1
                        go_upto_region 40 with fail
                        clear e2 e3 f3 HL6
                        generalize wr.setCell ⟨rB + i, a, none⟩ (.bool true) = w5 at HMk ⊢
                        have hs5 := HMk.out.1.size
                        go_wp2_with (first
                          | (go_at_call 15; refine (bid_any a (by omega) _).mono ?_; rintro e w6 ⟨rfl, hb6⟩
                             have hR6 := owns_below HMk.out.2.2 hb6
                             have HB6 : Hid (Below w5.heap.size w5 w6) := hb6
                             have hs6 := hb6.size
                             clear hb6)
                          | (at_builtin; refine wpList_append_lies _ rfl _ _ 42 rfl w4.heap.size 9 i9 (.string ⟨#[]⟩) 1 16 Yba.underlying42 hi9 hz90 hz91 hz92 rfl (by decide) u18 k (ids (thnTo I n i k)) rfl (hR6.alloc _) ⟨w6.heap.size, 0, none⟩ 1 1 [.string (idB a)] rfl rfl (cell_one_new _ _ _) (by intro u hu; simp at hu; subst hu; rfl) (by decide) (by unfold maxLen; omega) (by omega) (by simp; omega) _ rfl ?_; intro gq cq w7 hown7 hgrow7 hat7 _
                             have HL7 : Hid (L6 I n i (k + 1) w4 (rB + i) (.slice (some ⟨gq, 0, none⟩) (k + 1) cq) w7) := L6.push HMk.out.1 HMk.out.2.1 HMk.out.2.2 hlr HB6.out hgrow7 (by rw [hak]; exact hown7)
                             clear hown7 hgrow7 hat7 hR6))
                        go_roundg (I.lt i - (k + 1))
                        case measure => omega
                        case rel => exact ⟨k + 1, by omega, by omega, by go_num, HL7.out⟩
                      · have hki : ¬ (k : Int) < (I.lt i : Int) := by omega
                        obtain rfl : k = I.lt i := by omega
                        obtain ⟨gi, ci, rfl, _, _⟩ := hL.row.form ht0
                        have hbr : bs ≠ rB + i := by have := HL4.out.lt; omega
                        have hsbw := hL.fr.blk HL4.out.sb hbr hbr
                        have e8 : wr.cell? ⟨bs, 8, none⟩ = some (.slice none 0 0) := by rw [hsbw.cell]; rfl
                        have f8 : wr.frozen? ⟨bs, 8, none⟩ = false := hsbw.free 8
                        have hlb := hsbw.lt
                        have hD := L6.done HL4.out hL hAr hrl ht0
                        rw [World.setCell_alloc_past _ _ _ _ hlb] at hD
                        have HD : Hid _ := hD
                        clear hL hsbw hD
                        go_wp2
                        go_meet
                        case rel => exact ⟨_, HD.out⟩
                  · have h0 : I.lt i = 0 := by omega
                    have H0 : Hid (I.lt i = 0) := h0
                    clear h0
                    go_wp2
                    go_meet
                    case rel => exact ⟨_, HL4.out.noThen HR1.out hAr H0.out⟩
                case rest =>
                  obtain ⟨cv, h5⟩ := hcut
                  obtain ⟨wD, rfl⟩ : ∃ z, z = wc := ⟨wc, rfl⟩
                  have H5 : Hid (L5 I n i w1 aA (rB + i) bs CA av qv cv (jnB (jnOf I aj i)) wD) := h5
                  obtain ⟨CP, hCP, hP1, hP6⟩ := HI.out.p
                  obtain ⟨CS, hCS, hSn, hSr⟩ := HI.out.s
                  have hpA : pP ≠ aA := by have := OK.out.h1; have := OK.out.h3; omega
                  have hpr : pP ≠ rB + i := by have := OK.out.h1; have := OK.out.h5; omega
                  have hsA : pS ≠ aA := by have := OK.out.h2; have := OK.out.h3; omega
                  have hsr : pS ≠ rB + i := by have := OK.out.h2; have := OK.out.h5; omega
                  have hPD := h5.fr.blk hCP hpA hpr
                  have hSD := h5.fr.blk hCS hsA hsr
                  have p1 : wD.cell? ⟨pP, 1, none⟩ = some (.slice (some ⟨pS, 0, none⟩) n n) := by rw [hPD.cell, hP1]
                  obtain ⟨aa1, aa2, aa3, rfl, _⟩ := h5.ra
                  have hcv : ∃ c1 c2 c3, cv = .slice c1 c2 c3 := by
                    rcases h5.ch with ⟨_, rfl⟩ | ⟨_, cb, tv, rfl, _⟩ <;> exact ⟨_, _, _, rfl⟩
                  obtain ⟨c1, c2, c3, rfl⟩ := hcv
                  have l0 : wD.cell? ⟨bs, 0, none⟩ = some (.string (idB i)) := by rw [h5.sb.cell]; rfl
                  have l1 : wD.cell? ⟨bs, 1, none⟩ = some (.slice aa1 (ids (aftOf I i)).length aa2) := by rw [h5.sb.cell]; rfl
                  have l2 : wD.cell? ⟨bs, 2, none⟩ = some (.string (jnB (jnOf I aj i))) := by rw [h5.sb.cell]; rfl
                  have l3 : wD.cell? ⟨bs, 3, none⟩ = some (.pointer none) := by rw [h5.sb.cell]; rfl
                  have l4 : wD.cell? ⟨bs, 4, none⟩ = some (.pointer none) := by rw [h5.sb.cell]; rfl
                  have l5 : wD.cell? ⟨bs, 5, none⟩ = some (.bool false) := by rw [h5.sb.cell]; rfl
                  have l6 : wD.cell? ⟨bs, 6, none⟩ = some (.string compB) := by rw [h5.sb.cell]; rfl
                  have l7 : wD.cell? ⟨bs, 7, none⟩ = some (.slice none 0 0) := by rw [h5.sb.cell]; rfl
                  have l8 : wD.cell? ⟨bs, 8, none⟩ = some (.slice c1 c2 c3) := by rw [h5.sb.cell]; rfl
                  have l9 : wD.cell? ⟨bs, 9, none⟩ = some (.slice none 0 0) := by rw [h5.sb.cell]; rfl
                  have l10 : wD.cell? ⟨bs, 10, none⟩ = some (.pointer none) := by rw [h5.sb.cell]; rfl
                  have l11 : wD.cell? ⟨bs, 11, none⟩ = some (.slice none 0 0) := by rw [h5.sb.cell]; rfl
                  obtain ⟨o0, s0, z0⟩ := cells12 hSD hSn hil 0 (by omega)
                  obtain ⟨o1, s1, z1⟩ := cells12 hSD hSn hil 1 (by omega)
                  obtain ⟨o2, s2, z2⟩ := cells12 hSD hSn hil 2 (by omega)
                  obtain ⟨o3, s3, z3⟩ := cells12 hSD hSn hil 3 (by omega)
                  obtain ⟨o4, s4, z4⟩ := cells12 hSD hSn hil 4 (by omega)
                  obtain ⟨o5, s5, z5⟩ := cells12 hSD hSn hil 5 (by omega)
                  obtain ⟨o6, s6, z6⟩ := cells12 hSD hSn hil 6 (by omega)
                  obtain ⟨o7, s7, z7⟩ := cells12 hSD hSn hil 7 (by omega)
                  obtain ⟨o8, s8, z8⟩ := cells12 hSD hSn hil 8 (by omega)
                  obtain ⟨o9, s9, z9⟩ := cells12 hSD hSn hil 9 (by omega)
                  obtain ⟨o10, s10, z10⟩ := cells12 hSD hSn hil 10 (by omega)
                  obtain ⟨o11, s11, z11⟩ := cells12 hSD hSn hil 11 (by omega)
                  simp only [Nat.add_zero] at s0 z0
                  have hnb : bs ≠ pS := by have := h5.lt; have := hCS.lt; omega
                  have hnp : pP ≠ pS := by have := OK.out.h1; have := OK.out.h2; omega
                  obtain ⟨wE, hwE⟩ : ∃ z, put12 wD pS i (.slice aa1 (ids (aftOf I i)).length aa2) (.slice c1 c2 c3) (jnB (jnOf I aj i)) = z := ⟨_, rfl⟩
                  obtain ⟨⟨E6, E0⟩, hnext⟩ := HI.out.next' OK.out hil HCA.out HCr.out H5.out hwE
                  obtain ⟨w9, hup, hN9⟩ := hnext (by omega)
                  have HN : Hid (BI I n aj w0.heap.size pP pS aA aT rB w0 (i + 1) w9) := hN9
                  have HWE : Hid (put12 wD pS i (.slice aa1 (ids (aftOf I i)).length aa2) (.slice c1 c2 c3) (jnB (jnOf I aj i)) = wE) := hwE
                  clear h5 hPD hSD hCP hCS hP1 hP6 hSn hSr hN9 hnext hwE
                  go_wp2
                  go_region
                  rw [show ((((((((((((wD.setCell ⟨pS, i * 12, none⟩ (.string (idB i))).setCell ⟨pS, i * 12 + 1, none⟩ (.slice aa1 (ids (aftOf I i)).length aa2)).setCell ⟨pS, i * 12 + 2, none⟩ (.string (jnB (jnOf I aj i)))).setCell ⟨pS, i * 12 + 3, none⟩ (.pointer none)).setCell ⟨pS, i * 12 + 4, none⟩ (.pointer none)).setCell ⟨pS, i * 12 + 5, none⟩ (.bool false)).setCell ⟨pS, i * 12 + 6, none⟩ (.string compB)).setCell ⟨pS, i * 12 + 7, none⟩ (.slice none 0 0)).setCell ⟨pS, i * 12 + 8, none⟩ (.slice c1 c2 c3)).setCell ⟨pS, i * 12 + 9, none⟩ (.slice none 0 0)).setCell ⟨pS, i * 12 + 10, none⟩ (.pointer none)).setCell ⟨pS, i * 12 + 11, none⟩ (.slice none 0 0)) = put12 wD pS i (.slice aa1 (ids (aftOf I i)).length aa2) (.slice c1 c2 c3) (jnB (jnOf I aj i)) from rfl, HWE.out]
                  clear s0 s1 s2 s3 s4 s5 s6 s7 s8 s9 s10 s11 z0 z1 z2 z3 z4 z5 z6 z7 z8 z9 z10 z11 l0 l1 l2 l3 l4 l5 l6 l7 l8 l9 l10 l11 p1
                  go_wp2
                  go_region
                  clear hup E6 E0 HWE
                  go_wp2
                  go_roundg (n - (i + 1))
                  case measure => omega
                  case rel => exact ⟨i + 1, by omega, by omega, by go_num, HN.out⟩
          · have hii : ¬ (i : Int) < (n : Int) := by omega
            obtain rfl : n = i := by omega
            clear hI
            go_wp2
            go_ret3
            refine ⟨pP, pS, aA, aT, rB, OK.out, ?_, ?_⟩
            · rw [hN]; rfl
            · rw [hN]; exact HI.out

end Go.Proofs.Ybulkcnke
