/-
  THE PROOF OF 'Rows.FnKindOfHangsOnFirstByteAloneSaid': the frame is the seat's given shell; the walk is mine.
-/
import Derived.Test.Qxb6601403aRows
import Derived.WalkKit
import Derived.ProofKit
import Derived.OpenShut
import Derived.ShutString
import Derived.ChangeOld
import Derived.Below
import Derived.Test.Qxb6601403aKind
import Derived.Laws.CopyOwn
namespace Go.Proofs.Qxb6601403a.fnKindOfHangsOnFirstByteAlone
open Go.ChangeShapes Go.WideShapes Go.ChangeAt Go.RowKit
open Go.ChangeMaps (open_string shut_string)
set_option linter.unusedVariables false

theorem own : ownKnob Try.prog.godebug = none := by kernel_rfl
theorem laidOut : laidOutB Try.prog = true := by kernel_rfl

/-- WHAT THE WALK IS TOLD OF A SLICE OF INTEGERS THAT CAME IN: it is nil; or it leads to a row of 'cap' cells, the numbers 'zs' (the first 'len' are its elements, the rest its spare room), each fitting its kind. -/
def IsRow (k : IntKind) (w : World) (a : Option Addr) (len cap : Nat) (zs : List Int) : Prop :=
  (a = none ∧ len = 0 ∧ cap = 0 ∧ zs = []) ∨
  ∃ x, a = some x ∧ len ≤ cap ∧ cap ≤ maxLen ∧ zs.length = cap ∧ (∀ i, i < zs.length → w.cell? (x.add i) = some (.int k (zs.getD i 0))) ∧ ∀ n ∈ zs, (Lit.int k n).wf = true

theorem info5 : (Try.prog.info? 5).map (fun i => (i.zero, i.size, i.bytes)) = some (some (.int .u8 0), 1, 1) := by kernel_rfl
theorem size5 : (Try.prog.info? 5).map (·.size) = some 1 := by kernel_rfl

theorem made_row {w : World} {base e n g : Nat} {xs : List Value} (h : w.ownsRow base e 1 (.slice (some ⟨g, 0, none⟩) n n) n xs) :
    ∃ cur : List Value, w.heap[g]? = some (.cells cur.toArray e (0, 0)) ∧ cur.length = n := by
  obtain ⟨_, h2⟩ := h
  rcases h2 with ⟨h2, _⟩ | ⟨g', cap, cur, hv, _, hh, h3, h4, h5, _⟩
  · simp at h2
  · simp at hv
    obtain ⟨rfl, rfl⟩ := hv
    exact ⟨cur.toList, by simpa using hh, by simpa using h5⟩

theorem add_block (x : Addr) (j : Nat) : (x.add j).block = x.block := by
  unfold Addr.add; split <;> rfl

theorem head_cell {w2 : World} {g e : Nat} {cur cs : List Value} {u : Value} (hh : w2.heap[g]? = some (.cells (splice cur 0 cs).toArray e (0, 0))) (h : cs[0]? = some u) :
    w2.cell? ⟨g, 0, none⟩ = some u := by
  cases cs with
  | nil => simp at h
  | cons c cs => simp [World.cell?, hh, splice]; simpa using h

set_option maxHeartbeats 400000 in
theorem walk (a0 : Option Addr) (len0 cap0 : Nat) (z0 : List Int) (w : World) (w0 : IsRow .u8 w a0 len0 cap0 z0) :
    Calls Try.prog 3 #[.slice a0 len0 cap0] w fun e w' => e = .returned (.bool true) ∧ Below w.heap.size w w' := by
  obtain ⟨i0, hi, hz0, hz1, hz2⟩ := info_parts info5
  have q22 : ∀ (w : World) (a : Option Addr) (n c n' c' : Nat), (binOp .neq 22 (.slice a n c) (.slice none n' c')).run Try.prog w = .ok (.bool (!a.isNone)) w := fun w a n c n' c' => run_neq_slice_nil_any w 22 5 a n c n' c' Try.underlying22
  rcases w0 with ⟨rfl, rfl, rfl, rfl⟩ | ⟨x, rfl, hl, hm, hz, hcell, hwz⟩
  · go_enter Try.func3, Try.ntmps3
    go_wp2_with (first | (go_at_call 10; refine (bytes_small _ _ _ _ (by omega)).mono ?_; rintro e w' ⟨rfl, rfl⟩) | (go_at_call 11; refine (zkind_none _ _ _).mono ?_; rintro e w' ⟨rfl, rfl⟩))
    go_ret
    exact ⟨rfl, Below.refl _ _⟩
  · by_cases hg : 1048576 < len0
    · go_enter Try.func3, Try.ntmps3
      go_wp2_with (go_at_call 10; refine (bytes_great _ _ _ _ hg).mono ?_; rintro e w' ⟨rfl, rfl⟩)
      go_ret
      exact ⟨rfl, Below.refl _ _⟩
    · have hle : len0 ≤ 1048576 := by omega
      obtain ⟨zc, hzc⟩ : ∃ zc, zc = (madeCells (Value.int .u8 0).cells (len0 * 1)).toList := ⟨_, rfl⟩
      have hzl : zc.length = len0 := by rw [hzc]; simp [size_madeCells]
      obtain ⟨cs, hcs⟩ : ∃ cs : List Value, cs = (z0.take len0).map (Value.int .u8) := ⟨_, rfl⟩
      have hcl : cs.length = len0 := by rw [hcs]; simp; omega
      have hone : ∀ v ∈ cs, v.oneCell' = true := by
        intro v hv; rw [hcs, List.mem_map] at hv; obtain ⟨n, _, rfl⟩ := hv; rfl
      have hxb : len0 ≠ 0 → x.block < w.heap.size := by
        intro h
        have := World.block_lt_of_cell? _ _ (hcell 0 (by omega))
        simpa [add_block] using this
      have srcs : ∀ {w1 : World}, Below w.heap.size w w1 → ∀ j v, cs[j]? = some v → w1.cell? (x.add j) = some v := by
        intro w1 hB j v hj
        have hjl : j < len0 := by
          have := (List.getElem?_eq_some_iff.1 hj).1
          omega
        rw [hB.cell (p := x.add j) (by rw [add_block]; exact hxb (by omega)), hcell j (by omega)]
        rw [hcs] at hj
        simp [hjl] at hj
        obtain ⟨u, hu, rfl⟩ := hj
        simp [hu]
      have hcs0 : ¬ len0 = 0 → cs[0]? = some (.int .u8 (z0.getD 0 0)) := by
        intro h
        match z0, hz with
        | [], hz => simp at hz; omega
        | c :: zs, hz =>
          rw [hcs, show len0 = (len0 - 1) + 1 by omega]; simp
      have HZ : Hid _ := hzc
      have HC : Hid _ := hcs
      clear hzc hcs
      by_cases h0 : len0 = 0
      · subst h0
        go_enter Try.func3, Try.ntmps3
        go_wp2_with (first | (go_at_call 10; refine (bytes_small _ _ _ _ hle).mono ?_; rintro e w' ⟨rfl, rfl⟩) | (at_make; refine wpList_make_full _ rfl _ _ 22 rfl w.heap.size 5 i0 (.int .u8 0) 1 Try.underlying22 hi hz0 hz1 .i64 .i64 _ _ 0 rfl rfl rfl rfl (by rw [hz2]; omega) (by unfold maxLen; omega) (Nat.le_refl _) ?_; intro w1 hown hgrow; have hB := (Below.refl w.heap.size w).grown hgrow (Nat.le_refl _) (fun k hk => by cases hk)) | (refine wpList_copy_nothing rfl (.tmp 16) (.tmp 17) 22 22 rfl 5 Try.underlying22 size5 _ _ 0 0 0 cap0 rfl rfl rfl ?_) | (go_at_call 11; refine (zkind_none _ _ _).mono ?_; rintro e w' ⟨rfl, rfl⟩))
        go_ret
        exact ⟨by simp, hB⟩
      · have hp : (0 : Int) < (len0 : Int) := by omega
        have hcs0 := hcs0 h0
        obtain ⟨c, hc⟩ : ∃ c, c = z0.getD 0 0 := ⟨_, rfl⟩
        rw [← hc] at hcs0
        clear hc
        have hk := kind_nv c
        have hp1 : (1 : Int) ≤ (len0 : Int) := by omega
        have hne : ((len0 : Int) == 0) = false := by simp; omega
        go_enter Try.func3, Try.ntmps3
        go_wp2_with (first | (go_at_call 10; refine (bytes_small _ _ _ _ hle).mono ?_; rintro e w' ⟨rfl, rfl⟩) | (at_make; refine wpList_make_full _ rfl _ _ 22 rfl w.heap.size 5 i0 (.int .u8 0) 1 Try.underlying22 hi hz0 hz1 .i64 .i64 _ _ len0 rfl rfl rfl rfl (by rw [hz2]; omega) (by unfold maxLen; omega) (Nat.le_refl _) ?_; intro w1 hown hgrow; obtain ⟨cur, hcur, hcn⟩ := made_row hown; have hB := (Below.refl w.heap.size w).grown hgrow (Nat.le_refl _) (fun k hk => by cases hk); have hsrc := srcs hB) | (refine wpList_copy_splice rfl (.tmp 16) (.tmp 17) 22 22 rfl 5 Try.underlying22 size5 _ _ len0 len0 len0 cap0 rfl rfl w.heap.size 0 cur 5 hcur cs (by rw [hcl]; exact (Nat.min_self _).symm) (fun _ => ⟨rfl, x, rfl, hsrc⟩) (by omega) hone w.heap.size w hB (Nat.le_refl _) ?_; intro w2 HG hB2; have hc2 := head_cell HG.out hcs0))
        refine (zkind_some _ _ _ _ _ _ (by omega) (by omega) hc2).mono ?_
        rintro e w' ⟨rfl, rfl⟩
        go_wp2_with fail
        refine (zkind_none _ _ _).mono ?_
        rintro e w' ⟨rfl, rfl⟩
        go_wp2_with fail
        refine (zkind_some _ _ _ _ _ _ (by omega) (by omega) hc2).mono ?_
        rintro e w' ⟨rfl, rfl⟩
        go_wp2_with fail
        go_ret
        exact ⟨by simp, hB2⟩

/-! ### THE ROW's STEP: WRITTEN OUT: LEAVE IT -/
set_option maxRecDepth 100000 in
theorem lifted (os : Os) (started : os.Started) (H : Type) (enc : TypeId × Value → H) :
    ReturnsInHanded {} Try.checked os 3 .any (Rows.fnKindOfHangsOnFirstByteAloneSpec.pre6 enc Try.prog Try.f3 Rows.fnKindOfHangsOnFirstByteAloneRow.domain false) (Rows.fnKindOfHangsOnFirstByteAloneSpec.post enc Try.prog Try.f3 false true false false) := by
  refine returnsInHanded_of_change (C := Try.checked) own started (by kernel_rfl) Try.func3
    (ChangeSpec.witness6 (enc := enc) (C := Try.checked) false ⟨#[], #[.slice none 0 0], []⟩ 8 (by kernel_rfl) (by kernel_rfl) (by kernel_rfl) (by kernel_rfl)) ?_
  intro W base args ds gs before hval0 hW hcnd _
  have hval : ∀ (j : Nat) t v, Try.f3.params[j]? = some t → args[j]? = some v → Value.okWide Try.prog W .any base t v := hval0
  have hW' := hW
  obtain ⟨p, q, hA0, hV, rfl, hfz, hnd⟩ := hW
  have hA : DataW.TrodAll enc Try.prog W 0 (fun _ => true) true Try.f3.params.toList args.toList ds p := hA0
  rw [Try.params3] at hA hval
  obtain ⟨v0, vs0, d0, ds0, p0, q0, hargs, rfl, rfl, h0, r0⟩ := trodAll_cons hA
  obtain ⟨rfl, rfl, rfl⟩ := trodAll_nil r0
  obtain rfl : args = #[v0] := by cases args; simp_all
  obtain ⟨rfl, rfl⟩ := trodVars_none hV
  obtain ⟨a0, len0, cap0, rfl⟩ := okWide_slice Try.underlying22 (hval 0 22 v0 rfl rfl)
  have k0 := h0
  have lt0 : ∀ x ∈ p0, x.block < W.heap.size := by obtain ⟨m, hm⟩ := k0; exact DataW.trod_lt m _ _ _ hm
  obtain ⟨z0, w0⟩ : ∃ zs, IsRow .u8 W a0 len0 cap0 zs := by
    obtain ⟨fuel, hf⟩ := h0
    rcases open_ints Try.underlying22 Try.underlying5 (by kernel_rfl) hf with ⟨hcs, _⟩ | ⟨x, l, c, zs, hcs, _, hl, hm, hz, _, hcell, hwz⟩
    · simp [Value.cells] at hcs
      obtain ⟨rfl, rfl, rfl⟩ := hcs
      exact ⟨[], .inl ⟨rfl, rfl, rfl, rfl⟩⟩
    · simp [Value.cells] at hcs
      obtain ⟨rfl, rfl, rfl⟩ := hcs
      exact ⟨zs, .inr ⟨_, rfl, hl, hm, by simpa using hz, hcell, hwz⟩⟩
  clear hA0 hval0
  refine (walk a0 len0 cap0 z0 W w0).mono fun e W' ⟨he, bel⟩ => ?_
  subst he
  exact ⟨_, rfl, _, _, _, [], _, [], hW', trodAll_mk1 (shut_bool Try.underlying4 _), (trodAll_cons_mk (Below.trod laidOut (by kernel_rfl) (of_decide_eq_true (by kernel_rfl)) k0 bel lt0) trodAll_mk0), rfl, bel.frame _, fun h => by cases h⟩

theorem over : Rows.fnKindOfHangsOnFirstByteAloneRow.holds Try.pinned (OpenSpec.ofChange Rows.fnKindOfHangsOnFirstByteAloneSpec) :=
  OpenClaim.holds_of_wide 3 Try.f3 rfl rfl rfl rfl rfl rfl rfl ⟨rfl, rfl, rfl, rfl, rfl⟩ rfl rfl rfl rfl rfl (by kernel_rfl) Try.func3 (by kernel_rfl)
    (of_decide_eq_true (by kernel_rfl)) (by unfold Func.isWrapper; first | (rw [if_pos (by decide +kernel)]; kernel_rfl) | (rw [if_neg (by decide +kernel)]; exact ⟨rfl, rfl⟩))
    (fun os started H enc _ => lifted os started H enc)

/-- ████ THE STATEMENT ████ -/
theorem proved : Rows.FnKindOfHangsOnFirstByteAloneSaid := over
#print axioms proved
end Go.Proofs.Qxb6601403a.fnKindOfHangsOnFirstByteAlone
