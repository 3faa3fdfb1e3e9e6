/-
  The process that the law builds, as it lies in memory; Step, Branches, BranchOf, allHold.
-/
import Derived.Test.YbulkcnkeBSmall
import Derived.LoopN
namespace Go.Proofs.Ybulkcnke
open Go.RowKit Go.Maps
set_option linter.unusedVariables false

/-- v is a slice whose elements are l, in blocks below B -/
def Sl (B : Nat) (v : Value) (l : List Value) (w : World) : Prop :=
  ∃ a cap b, v = .slice a l.length cap ∧ ∀ j, (h : j < l.length) → a = some ⟨b, 0, none⟩ ∧ b < B ∧ w.cell? ⟨b, j, none⟩ = some l[j]

theorem Sl.below {B : Nat} {v : Value} {l : List Value} {w w' : World} (h : Sl B v l w) {B' : Nat} (hb : Below B' w w') (hB : B ≤ B') : Sl B v l w' := by
  obtain ⟨a, cap, b, rfl, h⟩ := h
  exact ⟨a, cap, b, rfl, fun j hj => let ⟨h1, h2, h3⟩ := h j hj; ⟨h1, h2, (hb.cell (p := ⟨b, j, none⟩) (Nat.lt_of_lt_of_le h2 hB)).trans h3⟩⟩

def ids (l : List Nat) : List Value := l.map (fun a => Value.string (idB a))
theorem ids_length (l : List Nat) : (ids l).length = l.length := by simp [ids]
theorem ids_at (l : List Nat) (j : Nat) (h : j < l.length) : (ids l)[j]'(by rw [ids_length]; exact h) = .string (idB l[j]) := by simp [ids]

def jnB (j : Nat) : ByteArray := if j = 0 then ⟨#[97, 108, 108]⟩ else if j = 1 then ⟨#[97, 110, 121]⟩ else ⟨#[]⟩
def compB : ByteArray := ⟨#[99, 111, 109, 112, 101, 110, 115, 97, 116, 97, 98, 108, 101]⟩

structure Pr where
  n : Nat
  aft : Nat → List Nat
  thn : Nat → List Nat
  jn : Nat → Nat
  pP : Nat
  pS : Nat
  pI : Nat
  base : Nat

structure Pr.Ok (p : Pr) : Prop where
  n : p.n ≤ 48
  aft : ∀ i, i < p.n → ∀ a ∈ p.aft i, a < i
  aftL : ∀ i, i < p.n → (p.aft i).length ≤ 1024
  thn : ∀ i, i < p.n → ∀ t ∈ p.thn i, t < p.n
  thnL : ∀ i, i < p.n → (p.thn i).length ≤ 1024
  pP : p.pP < p.base
  pS : p.pS < p.base
  pI : p.pI < p.base

/-- the cell 'Choose' -/
def Ch (B : Nat) (thn : List Nat) (v : Value) (w : World) : Prop :=
  (thn = [] ∧ v = .slice none 0 0) ∨ (thn ≠ [] ∧ ∃ cb tv, v = .slice (some ⟨cb, 0, none⟩) 1 1 ∧ cb < B ∧ w.cell? ⟨cb, 0, none⟩ = some (.slice none 0 0) ∧ w.cell? ⟨cb, 1, none⟩ = some tv ∧ Sl B tv (ids thn) w)

structure StepAt (p : Pr) (w : World) (i : Nat) : Prop where
  id : w.cell? ⟨p.pS, i * 12, none⟩ = some (.string (idB i))
  aft : ∃ v, w.cell? ⟨p.pS, i * 12 + 1, none⟩ = some v ∧ Sl p.base v (ids (p.aft i)) w
  join : w.cell? ⟨p.pS, i * 12 + 2, none⟩ = some (.string (jnB (p.jn i)))
  kind : w.cell? ⟨p.pS, i * 12 + 6, none⟩ = some (.string compB)
  ch : ∃ v, w.cell? ⟨p.pS, i * 12 + 8, none⟩ = some v ∧ Ch p.base (p.thn i) v w
  al : w.cell? ⟨p.pS, i * 12 + 11, none⟩ = some (.slice none 0 0)

structure PAt (p : Pr) (w : World) : Prop where
  sz : p.base ≤ w.heap.size
  steps : w.cell? ⟨p.pP, 1, none⟩ = some (.slice (some ⟨p.pS, 0, none⟩) p.n p.n)
  index : w.cell? ⟨p.pP, 6, none⟩ = some (.map (some p.pI))
  map : MapIs w p.pI (fun k => if k < p.n then some (.int .i64 (k : Int)) else none)
  step : ∀ i, i < p.n → StepAt p w i

theorem Ch.below {B B' : Nat} {thn : List Nat} {v : Value} {w w' : World} (h : Ch B thn v w) (hb : Below B' w w') (hB : B ≤ B') : Ch B thn v w' := by
  rcases h with h | ⟨h0, cb, tv, h1, h2, h3, h4, h5⟩
  · exact Or.inl h
  · exact Or.inr ⟨h0, cb, tv, h1, h2, (hb.cell (p := ⟨cb, 0, none⟩) (Nat.lt_of_lt_of_le h2 hB)).trans h3, (hb.cell (p := ⟨cb, 1, none⟩) (Nat.lt_of_lt_of_le h2 hB)).trans h4, h5.below hb hB⟩

theorem PAt.below {p : Pr} {w w' : World} (h : PAt p w) (ok : p.Ok) {B : Nat} (hb : Below B w w') (hB : p.base ≤ B) : PAt p w' := by
  have h1 := ok.pP
  have h2 := ok.pS
  have h3 := ok.pI
  refine ⟨Nat.le_trans h.sz hb.size, (hb.cell (p := ⟨p.pP, 1, none⟩) (Nat.lt_of_lt_of_le h1 hB)).trans h.steps, (hb.cell (p := ⟨p.pP, 6, none⟩) (Nat.lt_of_lt_of_le h1 hB)).trans h.index, h.map.below hb (by omega), fun i hi => ?_⟩
  have hc : ∀ f, w'.cell? ⟨p.pS, f, none⟩ = w.cell? ⟨p.pS, f, none⟩ := fun f => hb.cell (p := ⟨p.pS, f, none⟩) (Nat.lt_of_lt_of_le h2 hB)
  have s := h.step i hi
  refine ⟨(hc _).trans s.id, ?_, (hc _).trans s.join, (hc _).trans s.kind, ?_, (hc _).trans s.al⟩
  · obtain ⟨v, h1, h2⟩ := s.aft
    exact ⟨v, (hc _).trans h1, h2.below hb hB⟩
  · obtain ⟨v, h1, h2⟩ := s.ch
    exact ⟨v, (hc _).trans h1, h2.below hb hB⟩

set_option maxRecDepth 100000 in
set_option maxHeartbeats 1600000 in
theorem step_any (p : Pr) (ok : p.Ok) (i : Nat) (hi : i < p.n) (w : World) (h : PAt p w) :
    Calls Yba.prog 24 #[.pointer (some ⟨p.pP, 0, none⟩), .string (idB i)] w fun e w' => e = .returned (.pointer (some ⟨p.pS, i * 12, none⟩)) ∧ w' = w := by
  have c1 := h.steps
  have c6 := h.index
  have hM : Hid (MapIs w p.pI (fun k => if k < p.n then some (.int .i64 (k : Int)) else none)) := h.map
  have hn := ok.n
  have hii : (i : Int) < (p.n : Int) := by omega
  clear h ok
  go_enter Yba.func24, Yba.ntmps24
  go_wp2_with (at_lookup; refine wpList_look_ok_at _ rfl _ _ 33 rfl 3 Yba.underlying33 (zero3 _) p.pI _ rfl hM.out i (by omega) rfl (.int .i64 (i : Int)) (by simp [hi]) true (by simp [hi]) ?_)
  go_ret
  exact ⟨rfl, rfl⟩

theorem info42 : (Yba.prog.info? 42).map (fun i => (i.zero, i.size, i.bytes)) = some (some (.slice none 0 0), 1, 24) := by kernel_rfl

theorem sl_one {B : Nat} {v : Value} {l : List Value} {w : World} (h : Sl B v l w) : v.oneCell' = true := by
  obtain ⟨a, cap, b, rfl, _⟩ := h
  rfl
theorem own_first {base : Nat} {e : TypeId} {g cap : Nat} {x : Value} {w : World} (h : w.ownsRow base e 1 (.slice (some ⟨g, 0, none⟩) (0 + 1) cap) (0 + 1) ([] ++ [x])) : w.cell? ⟨g, 0, none⟩ = some x := by
  have e := h.cells (g := g) rfl 0 x rfl
  have add : (⟨g, 0, none⟩ : Addr).add 0 = ⟨g, 0, none⟩ := by unfold Addr.add; split <;> simp_all
  rw [add] at e
  exact e

def GrpRes (B : Nat) (thn : List Nat) (w : World) (e : Ending) (w' : World) : Prop :=
  ∃ ga gl gc, e = .returned (.slice ga gl gc) ∧ ((gl = 0 ∧ thn = []) ∨ (gl = 1 ∧ ∃ gb tv, ga = some ⟨gb, 0, none⟩ ∧ w'.cell? ⟨gb, 0, none⟩ = some tv ∧ Sl B tv (ids thn) w')) ∧ Below w.heap.size w w'

set_option maxRecDepth 100000 in
set_option maxHeartbeats 1600000 in
theorem branches_any (p : Pr) (ok : p.Ok) (i : Nat) (hi : i < p.n) (w : World) (h : PAt p w) :
    Calls Yba.prog 29 #[.pointer (some ⟨p.pS, i * 12, none⟩)] w fun e w' => GrpRes p.base (p.thn i) w e w' := by
  have c6 := (h.step i hi).kind
  unfold compB at c6
  obtain ⟨v, c8, hch⟩ := (h.step i hi).ch
  have hsz : Hid (p.base ≤ w.heap.size) := h.sz
  clear h ok
  rcases hch with ⟨h0, rfl⟩ | ⟨h0, cb, tv, rfl, hcb, d0, d1, hsl⟩
  · go_enter Yba.func29, Yba.ntmps29
    go_wp2
    refine wp_loop_rounds 1 ?_
    rw [rounds_succ]
    go_wp2
    go_ret
    exact ⟨_, _, _, rfl, Or.inl ⟨rfl, h0⟩, Below.refl _ _⟩
  · have HSl : Hid (Sl p.base tv (ids (p.thn i)) w) := hsl
    obtain ⟨ta, tc, tb, rfl, _⟩ := hsl
    obtain ⟨i2, hi2, hz20, hz21, hz22⟩ := info_parts info42
    have hcbs : cb < w.heap.size := Nat.lt_of_lt_of_le hcb hsz.out
    go_enter Yba.func29, Yba.ntmps29
    go_wp2
    refine wp_loop_rounds 2 ?_
    rw [rounds_succ]
    go_upto_region 7 with fail
    have HB1 : Hid (Below w.heap.size w (w.alloc (.cells #[.slice none 0 0, (.slice ta (ids (p.thn i)).length tc)] 60))) := (Below.refl _ _).alloc (Nat.le_refl _) _
    have e1 : (w.alloc (.cells #[.slice none 0 0, (.slice ta (ids (p.thn i)).length tc)] 60)).cell? ⟨w.heap.size, 1, none⟩ = some (.slice ta (ids (p.thn i)).length tc) := by rw [World.cell?_alloc_at _ _ _ _ rfl]; rfl
    have hlt1 : w.heap.size ≤ (w.alloc (.cells #[.slice none 0 0, (.slice ta (ids (p.thn i)).length tc)] 60)).heap.size := by simp
    clear c6 c8 d0 d1
    generalize w.alloc (.cells #[.slice none 0 0, (.slice ta (ids (p.thn i)).length tc)] 60) = w1 at HB1 e1 hlt1 ⊢
    go_wp2_with (first
      | (at_builtin; refine wpList_append_lies _ rfl _ _ 46 rfl w.heap.size 42 i2 (.slice none 0 0) 1 24 Yba.underlying46 hi2 hz20 hz21 hz22 rfl (by decide) (.slice none 0 0) 0 [] rfl (World.ownsRow_nil _ _ _ _) ⟨w1.heap.size, 0, none⟩ 1 1 [(.slice ta (ids (p.thn i)).length tc)] rfl rfl (cell_one_new _ _ _) (by intro u hu; simp at hu; subst hu; exact sl_one HSl.out) (by decide) (by unfold maxLen; omega) (by omega) (by simp; omega) _ rfl ?_; intro gf capf w4 hown4 hgrow4 hat4 _
         have HB4 : Hid (Below w.heap.size w w4) := (HB1.out.alloc hlt1 _).grown hgrow4 (by simp; omega) (fun x hx => by simp [Value.ownBlock] at hx)
         have hc4 : Hid (w4.cell? ⟨gf, 0, none⟩ = some (.slice ta (ids (p.thn i)).length tc)) := own_first hown4
         clear hown4 hgrow4 hat4))
    rw [rounds_succ]
    go_wp2
    go_ret
    exact ⟨_, _, _, rfl, Or.inr ⟨rfl, gf, (.slice ta (ids (p.thn i)).length tc), rfl, hc4.out, HSl.out.below HB4.out hsz.out⟩, HB4.out⟩

theorem idB_inj {i j : Nat} (hi : i < 48) (hj : j < 48) (h : idB i = idB j) : i = j := idL_inj hi hj (by unfold idL; rw [h])

theorem idB_beq {i j : Nat} (hi : i < 48) (hj : j < 48) (h : i ≠ j) : ((idB i).toList == (idB j).toList) = false := by
  rw [beq_eq_false_iff_ne, ByteArray.toList_eq, ByteArray.toList_eq]
  exact fun e => h (idL_inj hi hj (congrArg Lit.string e))

def BrRes (thn : List Nat) (j : Nat) (w : World) (e : Ending) (w' : World) : Prop := e = .returned (.int .i64 (if j ∈ thn then 0 else -1)) ∧ Below w.heap.size w w'

set_option maxRecDepth 100000 in
set_option maxHeartbeats 1600000 in
theorem branchOf_any (p : Pr) (ok : p.Ok) (i j : Nat) (hi : i < p.n) (hj : j < p.n) (w : World) (h : PAt p w) :
    Calls Yba.prog 25 #[.pointer (some ⟨p.pS, i * 12, none⟩), .string (idB j)] w fun e w' => BrRes (p.thn i) j w e w' := by
  have hC : Hid (∀ w, PAt p w → Calls Yba.prog 29 #[.pointer (some ⟨p.pS, i * 12, none⟩)] w fun e w' => GrpRes p.base (p.thn i) w e w') := fun w h => branches_any p ok i hi w h
  have HT : Hid (∀ t ∈ p.thn i, t < p.n) := ok.thn i hi
  have hL := ok.thnL i hi
  have hn := ok.n
  have HP : Hid (PAt p w) := h
  clear h ok
  go_enter Yba.func25, Yba.ntmps25
  go_wp2_with (go_at_call 29; refine (hC.out w HP.out).mono ?_; rintro e w1 ⟨ga, gl, gc, rfl, hg, hb⟩)
  generalize hT : p.thn i = T at hg HT hL
  have HB : Hid (Below w.heap.size w w1) := hb
  have hgl : gl ≤ 1 := by rcases hg with h | h <;> omega
  have HG : Hid ((gl = 0 ∧ T = []) ∨ (gl = 1 ∧ ∃ gb tv, ga = some ⟨gb, 0, none⟩ ∧ w1.cell? ⟨gb, 0, none⟩ = some tv ∧ Sl p.base tv (ids T) w1)) := hg
  clear hb hg
  go_loopg [12] gl (fun gk x wr => wr = w1 ∧ ∃ k : Nat, k ≤ gl ∧ gk + k = gl ∧ x = .int .i64 (k : Int) ∧ (k ≠ 0 → j ∉ T))
  case atStart => exact ⟨rfl, 0, Nat.zero_le _, rfl, rfl, fun h => absurd rfl h⟩
  case round =>
    obtain ⟨rfl, k, hk, hgk, rfl, hno⟩ := hrel
    by_cases hkl : k < gl
    · have hki : (k : Int) < (gl : Int) := by omega
      obtain ⟨_, h⟩ | ⟨rfl, gb, tv, rfl, d0, ta, tc, tb, rfl, hc⟩ := HG.out
      · omega
      obtain rfl : k = 0 := by omega
      have HC : Hid (∀ j, (h : j < (ids T).length) → ta = some ⟨tb, 0, none⟩ ∧ tb < p.base ∧ wr.cell? ⟨tb, j, none⟩ = some (ids T)[j]) := hc
      clear hc
      rw [ids_length] at d0
      go_wp2
      go_loopg [19] T.length (fun gk x wr' => wr' = wr ∧ ∃ k : Nat, k ≤ T.length ∧ gk + k = T.length ∧ x = .int .i64 (k : Int) ∧ ∀ q, (h : q < k) → ∀ h', T[q]'h' ≠ j)
      case atStart => exact ⟨rfl, 0, Nat.zero_le _, rfl, rfl, fun q h => absurd h (Nat.not_lt_zero _)⟩
      case round =>
        obtain ⟨rfl, m, hm, hgm, rfl, hbut⟩ := hrel
        by_cases hml : m < T.length
        · have hmi : (m : Int) < (T.length : Int) := by omega
          obtain ⟨rfl, _, d1⟩ := HC.out m (by rw [ids_length]; exact hml)
          rw [ids_at T m hml] at d1
          have HBut : Hid (∀ q, (h : q < m) → ∀ h', T[q]'h' ≠ j) := hbut
          clear hbut
          by_cases hq : T[m] = j
          · have heq : ((idB T[m]).toList == (idB j).toList) = true := by rw [hq]; simp
            go_wp2
            go_ret
            refine ⟨?_, HB.out⟩
            rw [if_pos (by rw [← hq]; exact List.getElem_mem hml)]
            rfl
          · have heq : ((idB T[m]).toList == (idB j).toList) = false := idB_beq (by have := HT.out _ (List.getElem_mem hml); omega) (by omega) hq
            go_wp2
            go_roundg (gk - 1)
            case measure => omega
            case rel => exact ⟨rfl, m + 1, by omega, by omega, by go_num, fun q hq' h' => by
              by_cases e : q = m
              · subst e; exact hq
              · exact HBut.out q (by omega) h'⟩
        · have hmi : ¬ (m : Int) < (T.length : Int) := by omega
          obtain rfl : m = T.length := by omega
          have hj' : j ∉ T := fun h => by
            obtain ⟨q, h1, h2⟩ := List.getElem_of_mem h
            exact hbut q h1 h1 h2
          have Hj : Hid (j ∉ T) := hj'
          clear hbut hj'
          go_wp2
          go_roundg 0
          case measure => omega
          case rel => exact ⟨rfl, 1, by omega, by omega, by go_num, fun _ => Hj.out⟩
    · have hki : ¬ (k : Int) < (gl : Int) := by omega
      go_wp2
      go_ret
      refine ⟨?_, HB.out⟩
      rw [if_neg]
      · rfl
      · rcases HG.out with ⟨_, h⟩ | ⟨h1, _⟩
        · rw [h]; simp
        · exact hno (by omega)

end Go.Proofs.Ybulkcnke
