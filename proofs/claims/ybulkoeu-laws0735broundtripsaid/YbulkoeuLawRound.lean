/-
  OWN WORK (seat b0735a). LawS0735BRoundTrip: the walk, and the row (the frame: the kit's shell for slices, turned to a slice of bools).
-/
import Derived.Test.YbulkoeuUnq
import Derived.ProofKit
import Derived.OpenShut
import Derived.ShutString
import Derived.ChangeOld
import Derived.Below
import Derived.Deep.Grids
namespace Go.Proofs.Ybulkoeu.lawS0735BRoundTrip
open Go.RowKit

/-- What the walk is told of the mask: each element below its length lies in a cell of an old block. -/
def IsBools (w : World) (a : Option Addr) (len : Nat) (M : Nat → Bool) : Prop :=
  ∀ i, i < len → ∃ b off, a = some ⟨b, off, none⟩ ∧ b < w.heap.size ∧ w.cell? ⟨b, off + i, none⟩ = some (.bool (M i))

theorem own_snoc' {w1 : World} {B : Nat} {v' : Value} {acc : List UInt8} {c : UInt8} {n : Nat} (h : w1.ownsRow B 5 1 v' n (Lib.byteCells acc ++ [.int .u8 (c.toNat : Int)])) (hn : n = acc.length + 1) :
    w1.ownsRow B 5 1 v' (acc ++ [c]).length (Lib.byteCells (acc ++ [c])) := by subst hn; exact own_snoc h

theorem one_cell (n : Int) : ∀ u ∈ [Value.int .u8 n], u.oneCell' = true := by intro u hu; simp at hu; subst hu; rfl

theorem own_snoc92 {w1 : World} {B : Nat} {v' : Value} {acc : List UInt8} (h : w1.ownsRow B 5 1 v' (acc.length + 1) (Lib.byteCells acc ++ [.int .u8 92])) :
    w1.ownsRow B 5 1 v' (acc ++ [92]).length (Lib.byteCells (acc ++ [92])) := own_snoc (c := 92) h

theorem step_quote {l acc : List UInt8} {k : Nat} (hk : k < l.length) (hu : unqS false acc = l.take k) (ho : opnS false acc = false) :
    unqS false ((acc ++ [92]) ++ [l[k]]) = l.take (k + 1) ∧ opnS false ((acc ++ [92]) ++ [l[k]]) = false := by
  have := quote_one acc _ l[k] true hu ho (fun _ => rfl)
  rw [List.take_succ_eq_append_getElem hk]
  simpa using this

theorem step_plain {l acc : List UInt8} {k : Nat} (hk : k < l.length) (hu : unqS false acc = l.take k) (ho : opnS false acc = false) (hc : l[k] ≠ 92) :
    unqS false (acc ++ [l[k]]) = l.take (k + 1) ∧ opnS false (acc ++ [l[k]]) = false := by
  have := quote_one acc _ l[k] false hu ho (fun h => absurd h hc)
  rw [List.take_succ_eq_append_getElem hk]
  simpa using this

theorem ret_beq {a b : List UInt8} (h : a = b) : Ending.returned (.bool (a == b)) = .returned (.bool true) := by
  subst h; simp

set_option maxHeartbeats 2000000 in
set_option maxRecDepth 1000000 in
theorem walk (s : ByteArray) (a : Option Addr) (len cap : Nat) (M : Nat → Bool) (w : World) (_hs : s.size ≤ maxLen) (_hlen : len ≤ maxLen) (hM : IsBools w a len M) :
    Calls Yba.prog 4 #[.string s, .slice a len cap] w fun e w' => e = .returned (.bool true) ∧ Below w.heap.size w w' := by
  by_cases hs : s.size ≤ 1024
  · obtain ⟨i0, hi, hz0, hz1, hz2⟩ := info_parts infoByte
    unfold maxLen at _hlen
    have HM : Hid _ := hM
    clear hM
    go_enter Yba.func4, Yba.ntmps4
    go_wp2_with (at_make; refine wpList_make_own _ rfl _ _ 27 rfl w.heap.size 5 i0 (.int .u8 0) 1 Yba.underlying27 hi hz0 hz1 .i64 .i64 _ (2 * s.size) rfl rfl ?_ ?_ ?_ ?_ ?_)
    · go_num
    · rw [hz2]; omega
    · unfold maxLen; omega
    · exact Nat.le_refl _
    intro w0 hown0 hg0
    have hb0 : Below w.heap.size w w0 := (Below.refl _ w).grown hg0 (Nat.le_refl _) (by intro k hk; cases hk)
    clear hg0
    go_wp2
    go_loopw [5, 6] (fun v i wr => ∃ (k : Nat) (acc : List UInt8), k ≤ s.size ∧ i = .int .i64 k ∧ wr.ownsRow w.heap.size 5 1 v acc.length (Lib.byteCells acc) ∧ Below w.heap.size w wr ∧
        Hid (unqS false acc = s.data.toList.take k) ∧ Hid (opnS false acc = false) ∧ acc.length ≤ 2 * k) (fun _ i _ => s.size - (intOf i).toNat)
    case atStart => exact ⟨0, [], Nat.zero_le _, rfl, hown0, hb0, rfl, rfl, Nat.le_refl _⟩
    case round =>
      obtain ⟨k, acc, hk, rfl, hown, hb, hu, ho, hal⟩ := hrel
      clear hown0 hb0
      have hbz := hb.size
      by_cases hlt : k < s.size
      · have hsl : k < s.data.toList.length := by simpa using hlt
        have HQ : Hid _ := step_quote hsl hu.out ho.out
        by_cases h92 : s[k] = 92
        · have hne : ((s[k].toNat : Int) == 92) = true := by rw [byte_eq]; simpa using h92
          clear h92
          go_wp2_with (at_builtin; refine wpList_append_own _ rfl (.tmp 38) (.tmp 39) 27 rfl w.heap.size 5 i0 (.int .u8 0) 1 1 Yba.underlying27 hi hz0 hz1 hz2 rfl (by decide) _ _ _ rfl (hown.alloc _) ⟨wr.heap.size, 0, none⟩ 1 1 [.int .u8 92] rfl rfl (cell_one_new _ _ _) (one_cell _) (by unfold maxLen; omega) (by omega) (by simp; omega) ?_)
          intro vc wc hownc' hgrowc _
          have hbc : Below w.heap.size w wc := (hb.alloc (by omega) _).grown hgrowc (by simp; omega) (fun j hj => (hown.lt j hj).1)
          have hbzc := hbc.size
          have hownc := own_snoc92 hownc'
          clear hownc' hgrowc hown
          go_wp2_with (at_builtin; refine wpList_append_own _ rfl (.tmp 41) (.tmp 43) 27 rfl w.heap.size 5 i0 (.int .u8 0) 1 1 Yba.underlying27 hi hz0 hz1 hz2 rfl (by decide) _ _ _ rfl (hownc.alloc _) ⟨wc.heap.size, 0, none⟩ 1 1 [.int .u8 (s[k].toNat : Int)] rfl rfl (cell_one_new _ _ _) (one_cell _) (by simp only [List.length_append, List.length_singleton]; unfold maxLen; omega) (by simp only [List.length_append, List.length_singleton]; omega) (by simp; omega) ?_)
          intro vd wd hownd' hgrowd _
          have hbd : Below w.heap.size w wd := (hbc.alloc (by omega) _).grown hgrowd (by simp; omega) (fun j hj => (hownc.lt j hj).1)
          have hbzd := hbd.size
          have hownd := own_snoc' hownd' (by simp)
          clear hownd' hgrowd hownc
          go_wp2
          go_roundw
          case rel => exact ⟨k + 1, (acc ++ [92]) ++ [s[k]], by omega, by go_num, hownd, hbd, HQ.out.1, HQ.out.2, by simp; omega⟩
          case measure => simp [intOf]; omega
        · have hne : ((s[k].toNat : Int) == 92) = false := by rw [byte_eq]; simpa using h92
          have HP : Hid _ := step_plain hsl hu.out ho.out h92
          clear h92
          by_cases hkl : k < len
          · obtain ⟨b, off, rfl, hbl, hcell0⟩ := HM.out k hkl
            have hcell : wr.cell? ⟨b, off + k, none⟩ = some (.bool (M k)) := (hb.cell (p := ⟨b, off + k, none⟩) hbl).trans hcell0
            clear hcell0
            cases hMk : M k
            · rw [hMk] at hcell
              clear hMk
              go_wp2_with (at_builtin; refine wpList_append_own _ rfl (.tmp 41) (.tmp 43) 27 rfl w.heap.size 5 i0 (.int .u8 0) 1 1 Yba.underlying27 hi hz0 hz1 hz2 rfl (by decide) _ _ _ rfl (hown.alloc _) ⟨wr.heap.size, 0, none⟩ 1 1 [.int .u8 (s[k].toNat : Int)] rfl rfl (cell_one_new _ _ _) (one_cell _) (by unfold maxLen; omega) (by omega) (by simp; omega) ?_)
              intro vc wc hownc' hgrowc _
              have hbc : Below w.heap.size w wc := (hb.alloc (by omega) _).grown hgrowc (by simp; omega) (fun j hj => (hown.lt j hj).1)
              have hbzc := hbc.size
              have hownc := own_snoc hownc'
              clear hownc' hgrowc hown
              go_wp2
              go_roundw
              case rel => exact ⟨k + 1, acc ++ [s[k]], by omega, by go_num, hownc, hbc, HP.out.1, HP.out.2, by simp; omega⟩
              case measure => simp [intOf]; omega
            · rw [hMk] at hcell
              clear hMk
              go_wp2_with (at_builtin; refine wpList_append_own _ rfl (.tmp 38) (.tmp 39) 27 rfl w.heap.size 5 i0 (.int .u8 0) 1 1 Yba.underlying27 hi hz0 hz1 hz2 rfl (by decide) _ _ _ rfl (hown.alloc _) ⟨wr.heap.size, 0, none⟩ 1 1 [.int .u8 92] rfl rfl (cell_one_new _ _ _) (one_cell _) (by unfold maxLen; omega) (by omega) (by simp; omega) ?_)
              intro vc wc hownc' hgrowc _
              have hbc : Below w.heap.size w wc := (hb.alloc (by omega) _).grown hgrowc (by simp; omega) (fun j hj => (hown.lt j hj).1)
              have hbzc := hbc.size
              have hownc := own_snoc92 hownc'
              clear hownc' hgrowc hown
              go_wp2_with (at_builtin; refine wpList_append_own _ rfl (.tmp 41) (.tmp 43) 27 rfl w.heap.size 5 i0 (.int .u8 0) 1 1 Yba.underlying27 hi hz0 hz1 hz2 rfl (by decide) _ _ _ rfl (hownc.alloc _) ⟨wc.heap.size, 0, none⟩ 1 1 [.int .u8 (s[k].toNat : Int)] rfl rfl (cell_one_new _ _ _) (one_cell _) (by simp only [List.length_append, List.length_singleton]; unfold maxLen; omega) (by simp only [List.length_append, List.length_singleton]; omega) (by simp; omega) ?_)
              intro vd wd hownd' hgrowd _
              have hbd : Below w.heap.size w wd := (hbc.alloc (by omega) _).grown hgrowd (by simp; omega) (fun j hj => (hownc.lt j hj).1)
              have hbzd := hbd.size
              have hownd := own_snoc' hownd' (by simp)
              clear hownd' hgrowd hownc
              go_wp2
              go_roundw
              case rel => exact ⟨k + 1, (acc ++ [92]) ++ [s[k]], by omega, by go_num, hownd, hbd, HQ.out.1, HQ.out.2, by simp; omega⟩
              case measure => simp [intOf]; omega
          · have hkl' : ¬ ((k : Int) < (len : Int)) := by omega
            go_wp2_with (at_builtin; refine wpList_append_own _ rfl (.tmp 41) (.tmp 43) 27 rfl w.heap.size 5 i0 (.int .u8 0) 1 1 Yba.underlying27 hi hz0 hz1 hz2 rfl (by decide) _ _ _ rfl (hown.alloc _) ⟨wr.heap.size, 0, none⟩ 1 1 [.int .u8 (s[k].toNat : Int)] rfl rfl (cell_one_new _ _ _) (one_cell _) (by unfold maxLen; omega) (by omega) (by simp; omega) ?_)
            intro vc wc hownc' hgrowc _
            have hbc : Below w.heap.size w wc := (hb.alloc (by omega) _).grown hgrowc (by simp; omega) (fun j hj => (hown.lt j hj).1)
            have hbzc := hbc.size
            have hownc := own_snoc hownc'
            clear hownc' hgrowc hown
            go_wp2
            go_roundw
            case rel => exact ⟨k + 1, acc ++ [s[k]], by omega, by go_num, hownc, hbc, HP.out.1, HP.out.2, by simp; omega⟩
            case measure => simp [intOf]; omega
      · have hcv := own_string wr _ _ _ hown
        go_wp2_with (go_at_call 6; refine (unq_any _ _ ?_ ?_).mono ?_)
        · show acc.length ≤ 4096
          omega
        · exact ho.out
        rintro e w1 rfl hb1
        go_wp2
        go_ret
        refine ⟨?_, hb.trans (hb1.mono hbz)⟩
        exact ret_beq (by rw [ByteArray.toList_eq]; exact hu.out.trans (List.take_of_length_le (by simpa using hlt)))
  · go_enter Yba.func4, Yba.ntmps4
    go_wp2
    go_ret
    exact ⟨rfl, Below.refl _ _⟩

open Go.ChangeShapes Go.WideShapes Go.ChangeAt
open Go.ChangeMaps (open_string shut_string)
set_option linter.unusedVariables false

theorem own : ownKnob Yba.prog.godebug = none := by kernel_rfl
theorem laidOut : laidOutB Yba.prog = true := by kernel_rfl

theorem bools_at {w : World} {x : Addr} {cap len : Nat} {B : Nat → Bool} (hl : len ≤ cap) (h : ∀ i, i < cap → w.cell? (x.add i) = some (.bool (B i))) : IsBools w (some x) len B := by
  intro i hi
  obtain ⟨b, off, spot⟩ := x
  have hspot : spot = none := by simpa [Addr.add] using World.cell?_spot (h 0 (by omega))
  subst hspot
  have hc := h i (by omega)
  rw [add_plain] at hc
  exact ⟨b, off, rfl, World.block_lt_of_cell? w _ hc, hc⟩

set_option maxRecDepth 100000 in
theorem lifted (os : Os) (started : os.Started) (H : Type) (enc : TypeId × Value → H) :
    ReturnsInHanded {} Yba.checked os 4 .any (Rows.lawS0735BRoundTripSpec.pre6 enc Yba.prog Yba.f4 Rows.lawS0735BRoundTripRow.domain false) (Rows.lawS0735BRoundTripSpec.post enc Yba.prog Yba.f4 false true false false) := by
  refine returnsInHanded_of_change (C := Yba.checked) own started (by kernel_rfl) Yba.func4
    (ChangeSpec.witness6 (enc := enc) (C := Yba.checked) false ⟨#[], #[.string ByteArray.empty, .slice none 0 0], []⟩ 8 (by kernel_rfl) (by kernel_rfl) (by kernel_rfl) (by kernel_rfl)) ?_
  intro W base args ds gs before hval0 hW hcnd _
  have hval : ∀ (j : Nat) t v, Yba.f4.params[j]? = some t → args[j]? = some v → Value.okWide Yba.prog W .any base t v := hval0
  have hW' := hW
  obtain ⟨p, q, hA0, hV, rfl, hfz, hnd⟩ := hW
  have hA : DataW.TrodAll enc Yba.prog W 0 (fun _ => true) true Yba.f4.params.toList args.toList ds p := hA0
  rw [Yba.params4] at hA hval
  obtain ⟨v0, vs0, d0, ds0, p0, q0, hargs, rfl, rfl, h0, r0⟩ := trodAll_cons hA
  obtain ⟨v1, vs1, d1, ds1, p1, q1, rfl, rfl, rfl, h1, r1⟩ := trodAll_cons r0
  obtain ⟨rfl, rfl, rfl⟩ := trodAll_nil r1
  obtain rfl : args = #[v0, v1] := by cases args; simp_all
  obtain ⟨rfl, rfl⟩ := trodVars_none hV
  obtain ⟨a0, rfl, rfl, rfl, w0⟩ := open_string Yba.underlying9 (hval 0 9 v0 rfl rfl) h0
  obtain ⟨a1, len1, cap1, rfl⟩ := okWide_slice Yba.underlying26 (hval 1 26 v1 rfl rfl)
  have k1 := h1
  have lt1 : ∀ x ∈ p1, x.block < W.heap.size := by obtain ⟨m, hm⟩ := k1; exact DataW.trod_lt m _ _ _ hm
  obtain ⟨M, hl1, w1⟩ : ∃ M, len1 ≤ maxLen ∧ IsBools W a1 len1 M := by
    obtain ⟨fuel, hf⟩ := h1
    rcases Go.Deep.open_bools Yba.underlying26 Yba.underlying4 (by kernel_rfl) hf with ⟨hcs, _⟩ | ⟨x, l, c, B, hcs, _, hl, hm, _, hcell⟩
    · simp [Value.cells] at hcs
      obtain ⟨rfl, rfl, rfl⟩ := hcs
      exact ⟨fun _ => false, Nat.zero_le _, fun i hi => absurd hi (by omega)⟩
    · simp [Value.cells] at hcs
      obtain ⟨rfl, rfl, rfl⟩ := hcs
      exact ⟨B, by omega, bools_at hl hcell⟩
  clear hA0 hval0
  refine (walk a0 a1 len1 cap1 M W w0 hl1 w1).mono fun e W' ⟨he, bel⟩ => ?_
  subst he
  exact ⟨_, rfl, _, _, _, [], _, [], hW', trodAll_mk1 (shut_bool Yba.underlying4 _), (trodAll_cons_mk (shut_string Yba.underlying9 w0) (trodAll_cons_mk (Below.trod laidOut (by kernel_rfl) (of_decide_eq_true (by kernel_rfl)) k1 bel lt1) trodAll_mk0)), rfl, bel.frame _, fun h => by cases h⟩

theorem over : Rows.lawS0735BRoundTripRow.holds Yba.pinned (OpenSpec.ofChange Rows.lawS0735BRoundTripSpec) :=
  OpenClaim.holds_of_wide 4 Yba.f4 rfl rfl rfl rfl rfl rfl rfl ⟨rfl, rfl, rfl, rfl, rfl⟩ rfl rfl rfl rfl rfl (by kernel_rfl) Yba.func4 (by kernel_rfl)
    (of_decide_eq_true (by kernel_rfl)) (by unfold Func.isWrapper; first | (rw [if_pos (by decide +kernel)]; kernel_rfl) | (rw [if_neg (by decide +kernel)]; exact ⟨rfl, rfl⟩))
    (fun os started H enc _ => lifted os started H enc)

/-- THE STATEMENT. -/
theorem proved : Rows.LawS0735BRoundTripSaid := over
end Go.Proofs.Ybulkoeu.lawS0735BRoundTrip
