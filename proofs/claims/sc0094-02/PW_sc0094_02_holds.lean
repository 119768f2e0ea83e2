import PyProof.Rows.All
import Wide.All
import OpenK.KSplit
import OpenK.KNot
import OpenK.KApp
import KE.KPop
import KE.KListMore
import KE.RegKMod
import KE.KDictOf
import KE.KDictMeth
import KE.KEqSeq
import KE.KSlice
import KE.GnPush
import KE.KSorted
import KE.KJoinElse
import KE.RegTryLedger
import KE.KTops
import KE.RegKSuper
import KE.KSort
import KE.KDictLoop
import KE.RegLcTurns
import KE.RegLcAnyAll
import KE.KCat
import KE.KTemps
import KE.KTup
import KE.KxMul
import KE.KxSplit
import KE.KxIndex
import KE.KxText
import KE.KCells
import KE.KPassesOwn
import KE.RegKIsNot
import KE.KTempsTwo
import KE.KSetInts
import KE.KSortedL
import KE.KxBytes
import KE.KClos
import KE.KNestStore
import KE.KOwnIter
import KE.KStopIter
import KE.RegKBase
import KE.KDictOne
import KE.RegKMathG
import KE.KDictAny
import KE.RegKCallOwn
import KE.KSliceW
import KE.KxDecode
import KE.RegKMathGB
import KE.KLam
import KE.KDictBranch
import KE.KTree
import KE.KTreeB
import KE.KNestM
import KE.KDflt
import KE.KOwnIterCall
import KE.KSortedM
import KE.KTurns
import KE.KEqText
import KE.KxLen
import KE.RegKMathGC
import KE.KIsClose
import KE.KEqDict
import KE.KDisp
import KE.KDictAnyGet
import KE.KDictObj
import KE.KSetIn
import KE.KRevSl
import KE.KEqDeep
import KE.KAnyBase
import KE.KBoundM
import KE.KWhile
import KE.KRevIter
import KE.KCount
import KE.KTreeR
import KE.KxStill
import KE.KFinally
import KE.KTopLam
import KE.KWithOwn
import KE.KCases
import KE.KOpsOwn
import KE.KDictNew
import KE.KDictList
import KE.KDictIter
import KE.RegKUnpackStar
import KE.KSortAsk
import KE.KWhileD
import KE.KLcTest
import KE.KSumEnd
import KE.KPopAny
import KE.KGrown
import KE.KItemAt
import KE.KTextLit
import KE.KTupDict
import KE.KFmtOwn
import KE.KUnrMore
import KE.KMinKey
import KE.KTurnsDict
import KE.KExtendNil
import KE.KMethU
import KE.BytesMul
import KE.KCompFold
import KE.KDictSum
import KE.KDictName
import KE.KDictSym
import KE.KTurnsAny
import KE.KDictAnyTail
import KE.RegKStar
import KE.RegKParD
import KE.RegKTupTruth
import KE.RegKTupSum
import KE.KCallJoin
import KE.KMethJoin
import KE.KPathRangeEnd
import KE.KStateW
import KE.RegKParC
import KE.KxWritten
import KE.KxAdd
import KE.KxAffix
import KE.KxField
import KE.RegKIsAll
import KE.RegKMatchCls
import KE.KLcPair
import KE.RegKTryDeep
import KE.KJoinL
import KE.RegKNeg
import KE.KxPercentT
import KE.KBytesCut
import KE.KCellOne
import KE.KCompIf
import KE.KMenu
import KE.KxFormat
import KE.KTypeName
import KE.KCompText
import KE.BytesMulAny
import KE.KDictSymLen
import KE.KSortTup
import KE.KPairAssign
import KE.KTypeOf
import KE.KFinEnd
import KE.KMulAny
import KE.KBytesMenu
import KE.KTextDict
import KE.KPathShort
import KE.KSplitRange
import KE.KKinds
import KE.KxPart
import KE.KRangeItem
import KE.KDictLetter
import KE.KRangeNest
import KE.KSetAt
import KE.KWords
import KE.KxTruthy
import KE.KPairRows
import KE.KBytesMore
import KE.RegKStateDown
import KE.KItemsList
import KE.KRangePlain
import KE.KStateGiven
import KE.KBitsMul
import KE.KTextTable
import KE.KForList
import KE.KIdxIf
import KE.KAssignIn
import KE.KFirstTurn
import KE.KOwnRange
import KE.KLooksOwn
import KE.KDictWord
import KE.KStrOpen
import KE.KTurnsGround
import KE.KListEnd
import KE.KSearch
import KE.KFinFacts
import KE.RegKTryOn
import KE.KCenter
import KE.KStrWords
import KE.KStateTextK
import KE.KBools
import KE.KStateWGiven
import KE.KData
import KE.KCallTup
import KE.KTreeD
import KE.KTreeF
import KE.KEndWord
import KE.KStateBytes
import KE.KRangeEnd
import KE.KOf
import KE.KRepItem
import KE.KListLetter
import KE.KSliceSign
import KE.KCallBy
import KE.KToBytes
import KE.KPathText
import KE.KMinBuiltin
import KE.KFromBytes
import KE.KEqDat
import KE.KBytesUnr
import KE.KIsBytes
import KE.KCallRec
import KE.KEndW
import KE.RegLGe
import KE.RegLGeC
import Wide.FinOn
import PyProof.FactsAll.range_1
import PyProof.SeqInW
import PySem.Challenge.RW_sc0094_02
set_option Elab.async false
set_option linter.all false
noncomputable section
open PySem PySem.W PyProof.Rows
namespace Mine
noncomputable def hdTree : List Obj → Nat → BT → Option BT
  | [], _, t => some t
  | o :: l, n, t => match ((t.ins n o).get n).isSome with
    | true => hdTree l (n + 1) (t.ins n o)
    | false => none
theorem hdTree_abs {life : Life} : ∀ (l : List Obj) (n : Nat) (t t' : BT), hdTree l n t = some t' → absHeap t' (n + l.length) life = ⟨((absHeap t n life).objs.toList ++ l).toArray, life⟩
  | [], n, t, t', h => by
    cases h
    simp [absHeap]
  | o :: l, n, t, t', h => by
    unfold hdTree at h
    cases g : ((t.ins n o).get n).isSome with
    | false => rw [g] at h; cases h
    | true =>
      rw [g] at h
      have e := hdTree_abs (life := life) l (n + 1) (t.ins n o) t' h
      rw [absHeap_ins g] at e
      rw [List.length_cons, show n + (l.length + 1) = n + 1 + l.length by omega, e]
      simp [Heap.push]
noncomputable def hdRunT (tb : String → Option Builtin) (p : Program) (w : World) (n₀ : Nat) (ann : Option Value) : Nat → SharedT → Thread → Option SharedT
  | 0, _, _ => none
  | n + 1, s, t => match through t with
    | true => some s
    | false => match stepOk n₀ ann t with
      | false => none
      | true => match stepT (denote tb) p w s t with
        | some (s', t') => hdRunT tb p w n₀ ann n s' t'
        | none => none
theorem hdRun_of {tb : String → Option Builtin} {p : Program} {w : World} {n₀ : Nat} {ann : Option Value} : ∀ {n : Nat} {s s' : SharedT} {t : Thread}, hdRunT tb p w n₀ ann n s t = some s' → topRun tb p w n₀ ann n s.abs t = some s'.abs
  | 0, _, _, _, h => by cases h
  | n + 1, s, s', t, h => by
    unfold hdRunT at h
    unfold topRun
    cases he : through t with
    | true => rw [he] at h; cases h; rfl
    | false =>
      rw [he] at h
      cases hk : stepOk n₀ ann t with
      | false => rw [hk] at h; cases h
      | true =>
        rw [hk] at h
        cases hs : stepT (denote tb) p w s t with
        | none => rw [hs] at h; cases h
        | some r => obtain ⟨s₂, t₂⟩ := r; rw [hs] at h; rw [stepT_spec hs]; exact hdRun_of h
noncomputable def hdFast (tb : String → Option Builtin) (p : Program) (w : World) (N : Nat) (s : Shared) : Option Shared :=
  match s.heap.isNs mainGlobals && s.gens.size == 0 with
  | true => (hdTree s.heap.objs.toList 0 .nil).bind fun T =>
      (hdRunT tb p w s.heap.objs.size (s.heap.nsMap mainGlobals "__annotations__") N ⟨T, s.heap.objs.size, s.heap.life, s.gens, s.drawn, s.toks, s.os⟩ (topStub p)).bind fun T₁ =>
        match staticsOk (importedModules p.main.body) s.heap T₁.abs.heap && namesBound p T₁.abs.heap && gensDone T₁.abs && laidKept s.heap T₁.abs.heap with
        | true => some T₁.abs
        | false => none
  | false => none
theorem hdFast_of {tb : String → Option Builtin} {p : Program} {w : World} {N : Nat} {s s₁ : Shared} (h : hdFast tb p w N s = some s₁) : topFrom tb p w N s = some s₁ := by
  unfold hdFast at h
  unfold topFrom
  cases g : (s.heap.isNs mainGlobals && s.gens.size == 0) with
  | false => rw [g] at h; cases h
  | true =>
    rw [g] at h
    obtain ⟨T, e, h⟩ := Option.bind_eq_some_iff.mp h
    obtain ⟨T₁, e', h⟩ := Option.bind_eq_some_iff.mp h
    have ea : SharedT.abs ⟨T, s.heap.objs.size, s.heap.life, s.gens, s.drawn, s.toks, s.os⟩ = s := by
      have := hdTree_abs (life := s.heap.life) s.heap.objs.toList 0 .nil T e
      obtain ⟨⟨⟨l⟩, lf⟩, gs, d, k, os⟩ := s
      simp only [SharedT.abs]
      simp [absHeap, BT.list] at this ⊢
      exact this
    have r := hdRun_of e'
    rw [ea] at r
    show (topRun tb p w s.heap.objs.size (s.heap.nsMap mainGlobals "__annotations__") N s (topStub p)).bind _ = _
    rw [r]
    exact h
theorem hdLift {tb : String → Option Builtin} {p : Program} {w : World} {N : Nat} {α : Type} {f : Shared → α} {v : α} (h : ((fencedOpening tb p w N).bind (hdFast tb p w N)).map f = some v) : (openEnds tb p w N).map f = some v := by
  obtain ⟨s₁, h, e⟩ := Option.map_eq_some_iff.mp h
  obtain ⟨s, h1, h2⟩ := Option.bind_eq_some_iff.mp h
  unfold openEnds
  rw [h1, Option.bind_some, hdFast_of h2, Option.map_some, e]
noncomputable def hdQ : Program := view PySem.Challenge.pw_sc0094_02 [0, 1, 3, 4, 5, 6, 8, 9, 10, 11, 12, 13, 14, 16, 18, 20, 21, 22, 23]
noncomputable abbrev hdL : List PySem.Str := [PySem.Str.ofString "_twin_re_1", PySem.Str.ofString "_twin_re_2", PySem.Str.ofString "Whitespace"]
set_option maxRecDepth 100000 in
theorem hdSaid : OpenLaw.wellSaid PySem.Challenge.rw_sc0094_02 = true := by decide +kernel
local macro_rules | `(tactic| o_head $H) => `(tactic| (assumption; exact $H))
set_option maxRecDepth 100000 in
set_option maxHeartbeats 0 in
noncomputable def hdK : PSigma (fun _ : Hook => PySem.Challenge.rw_sc0094_02.row.Holds → PySem.Challenge.rw_sc0094_02.row.Holds) := by
  w_on
  refine ⟨?H, fun h => ?z⟩
  rotate_left
  k_head
noncomputable abbrev hdA : List Addr := [2, 3, 32, 34, 35, 37, 38, 42, 43, 47, 48, 49, 51, 52, 54, 55, 56, 58, 59, 61, 62, 63, 65, 66, 68, 69, 70, 72, 73, 75, 76, 77, 79, 80, 82, 83, 84, 86, 87, 89, 90, 91, 93, 94, 96, 97, 105, 107, 108, 110, 111, 112, 114, 115, 117, 118, 119, 121, 122, 124, 125, 126, 128, 129, 131, 132, 133, 134, 135, 136, 137, 150, 152, 153, 155, 156, 157, 159, 160, 162, 163, 164, 166, 167, 169, 170, 171, 173, 174, 176, 177, 178, 180, 181, 183, 184, 185, 187, 188, 190, 191, 192, 194, 195, 197, 198, 199, 200, 201, 202, 203, 206, 208, 209, 211, 212, 213, 215, 216, 218, 219, 220, 223, 224, 225, 228, 229]
theorem hdE : ∀ P, hdA = (hdK.heap_1 P).map (·.1) := fun _ => by kernel_rfl
theorem hdF : ∀ w : World, ((fencedOpening treeTable PySem.Challenge.pw_sc0094_02 (w.withFollow "special-get-raises" false) 2940).bind (hdFast treeTable PySem.Challenge.pw_sc0094_02 (w.withFollow "special-get-raises" false) 2940)).map (fun s => (openSeen hdQ hdL (importedModules PySem.Challenge.pw_sc0094_02.main.body) (fun s => xlAt hdQ [] s && recOk (RowW.records (OpenRow.toRowW PySem.Challenge.rw_sc0094_02.row)) s) true s, Hook.obs (kmHook hdK.heap_1 hdA hdE [207, 78, 71]) s)) = some (openGood hdQ hdL, Hook.val (kmHook hdK.heap_1 hdA hdE [207, 78, 71]) (w.withFollow "special-get-raises" false)) := by
  intro w
  kernel_rfl
theorem hdT : ∀ w : World, ((fencedOpening treeTable PySem.Challenge.pw_sc0094_02 (w.withFollow "special-get-raises" true) 2940).bind (hdFast treeTable PySem.Challenge.pw_sc0094_02 (w.withFollow "special-get-raises" true) 2940)).map (fun s => (openSeen hdQ hdL (importedModules PySem.Challenge.pw_sc0094_02.main.body) (fun s => xlAt hdQ [] s && recOk (RowW.records (OpenRow.toRowW PySem.Challenge.rw_sc0094_02.row)) s) true s, Hook.obs (kmHook hdK.heap_1 hdA hdE [207, 78, 71]) s)) = some (openGood hdQ hdL, Hook.val (kmHook hdK.heap_1 hdA hdE [207, 78, 71]) (w.withFollow "special-get-raises" true)) := by
  intro w
  kernel_rfl
theorem hdLeft : LeftO PySem.Challenge.pw_sc0094_02 hdQ hdL (fun s => xlAt hdQ [] s && recOk (RowW.records (OpenRow.toRowW PySem.Challenge.rw_sc0094_02.row)) s) (Hook.obs (kmHook hdK.heap_1 hdA hdE [207, 78, 71])) (Hook.val (kmHook hdK.heap_1 hdA hdE [207, 78, 71])) 2940 :=
  byRow2 "special-get-raises" (fun w => hdLift (hdF w)) (fun w => hdLift (hdT w))
set_option maxRecDepth 100000 in
set_option maxHeartbeats 0 in
noncomputable def hd := fun hc => (⟨hdSaid, holds_open (r := PySem.Challenge.rw_sc0094_02.row) (q := hdQ) (loose := hdL) (Xt := (fun s => xlAt hdQ [] s && recOk (RowW.records (OpenRow.toRowW PySem.Challenge.rw_sc0094_02.row)) s)) (XP := XL hdQ []) (Yf := Hook.obs (kmHook hdK.heap_1 hdA hdE [207, 78, 71])) (Ya := Hook.val (kmHook hdK.heap_1 hdA hdE [207, 78, 71])) (YP := Hook.says (kmHook hdK.heap_1 hdA hdE [207, 78, 71])) (N := 2940) hdLeft (Hook.of (kmHook hdK.heap_1 hdA hdE [207, 78, 71])) (Hook.keeps (kmHook hdK.heap_1 hdA hdE [207, 78, 71])) (fun s e => xl_of s (Bool.and_eq_true_iff.mp e).1) XL.keeps (by rfl) (by rfl) (by rfl) (fun s e => recFacts_of (Bool.and_eq_true_iff.mp e).2) (by rfl) (row_said hdSaid) (by decide +kernel) ⟨rfl, rfl, rfl, rfl, rfl, by decide +kernel⟩ (by w_witness2) hc⟩ : PySem.Challenge.rw_sc0094_02.Holds)
end Mine
end

local macro_rules | `(tactic| omega) => `(tactic| ((fail_if_success (fail_if_success omega +splitDisjunctions)); first | lia | omega +splitDisjunctions))

noncomputable section
open PySem PySem.W PySem.Calls PyProof.Rows
namespace Mine

noncomputable def dig (b : Nat) (x : Int) (j : Nat) : Int := x / 2 ^ (b * j) % 2 ^ b
-- small facts of order
theorem ar_half {k : Nat} (h : 2 ≤ k) : k / 2 < k := Nat.div_lt_self (Nat.lt_of_lt_of_le (by decide) h) (by decide)
theorem ar_half_pos {k : Nat} (h : 2 ≤ k) : 0 < k / 2 := Nat.div_pos h (by decide)
theorem ar_sub_half {k : Nat} (h : 2 ≤ k) : k - k / 2 < k := Nat.sub_lt (Nat.lt_of_lt_of_le (by decide) h) (ar_half_pos h)
theorem ar_sub_half_pos {k : Nat} (h : 2 ≤ k) : 0 < k - k / 2 := Nat.sub_pos_of_lt (ar_half h)
theorem ar_half_add (L k : Nat) : L + k / 2 + (k - k / 2) = L + k := by rw [Nat.add_assoc, Nat.add_sub_cancel' (Nat.div_le_self k 2)]
theorem ar_dep {a k j R : Nat} (h : a + (k + 1) < R + 1) (hj : j < k) : a + (j + 1) < R := Nat.lt_of_lt_of_le (Nat.add_lt_add_left (Nat.succ_lt_succ hj) a) (Nat.le_of_lt_succ h)
theorem ar_uni {a k j R : Nat} (h : a + (20 * k + 20) < R + 3) (hj : j < k) : a + (20 * j + 20) < R := by
  have h2 : 20 * j + 20 ≤ 20 * k := Nat.mul_le_mul_left 20 hj
  have h3 : a + (20 * j + 20) + 3 ≤ a + (20 * k + 20) := by rw [Nat.add_assoc]; exact Nat.add_le_add_left (Nat.add_le_add h2 (by decide)) a
  exact Nat.lt_of_add_lt_add_right (Nat.lt_of_le_of_lt h3 h)
theorem ar_fig {n B X r : Nat} (h : X + r = n + B - 1) (hr : r < B) : n ≤ X := by
  cases B with
  | zero => exact absurd hr (Nat.not_lt_zero _)
  | succ c => exact Nat.le_of_add_le_add_right (b := c) (by rw [show n + c = X + r from h.symm]; exact Nat.add_le_add_left (Nat.le_of_lt_succ hr) X)
theorem ar_pred {k p : Nat} (h : k < p) : k + (p - k - 1) = p - 1 := by
  obtain ⟨r, rfl⟩ := Nat.exists_eq_add_of_lt h
  rw [Nat.add_sub_cancel, Nat.add_assoc, Nat.add_sub_cancel_left, Nat.add_sub_cancel]
theorem ar_turn {i k n : Nat} (h : i + k = n + 1) (hi : i ≤ n) : k - 1 < k ∧ i + 1 + (k - 1) = n + 1 := by
  cases k with
  | zero => exact absurd h (Nat.ne_of_lt (Nat.lt_succ_of_le hi))
  | succ j => exact ⟨Nat.lt_succ_self j, (Nat.add_right_comm i 1 j).trans h⟩
theorem ar_step {j n : Nat} (h : j < n) : n - (j + 1) < n - j := Nat.sub_succ_lt_self n j h
theorem ar_top {n i : Nat} (h : i < n) : n - 1 - i < n := Nat.lt_of_le_of_lt (Nat.sub_le ..) (Nat.sub_lt (Nat.lt_of_le_of_lt (Nat.zero_le i) h) (by decide))
theorem ar_span {x k n : Nat} (h : k < n) : x + (n - 1 - k) + 1 = x + n - k := by
  obtain ⟨r, rfl⟩ := Nat.exists_eq_add_of_lt h
  rw [Nat.add_sub_cancel, Nat.add_sub_cancel_left, show x + (k + r + 1) - k = x + (r + 1) from by rw [Nat.add_assoc k, Nat.add_sub_assoc (Nat.le_add_right ..), Nat.add_sub_cancel_left]]
  rfl
theorem ar_spanI {x k n : Nat} (h : k < n) : (x : Int) + 1 + (n : Int) - (0 + (k : Int)) = ((x + 1 + n - k : Nat) : Int) := by
  rw [Int.zero_add]
  exact (Int.ofNat_sub (Nat.le_trans (Nat.le_of_lt h) (Nat.le_add_left ..))).symm
theorem ar_nine {x k n : Nat} (h : x ≤ 4) (hn : n ≤ 4) : x + 1 + n - k ≤ 9 := Nat.le_trans (Nat.sub_le ..) (Nat.add_le_add (Nat.add_le_add_right h 1) hn)
theorem ar_predI {n : Nat} : (-1 + (n : Int)).toNat = n - 1 := by rw [Int.add_comm]; exact Int.toNat_sub n 1
theorem ar_minI (z n : Nat) : (if ((z : Nat) : Int) + 1 < (n : Int) then ((z : Nat) : Int) + 1 else (n : Int)) = ((min n (z + 1) : Nat) : Int) := by
  by_cases h : z + 1 < n
  · rw [if_pos (show ((z : Nat) : Int) + 1 < (n : Int) from Int.ofNat_lt.mpr h), Nat.min_eq_right (Nat.le_of_lt h)]; rfl
  · rw [if_neg (show ¬ ((z : Nat) : Int) + 1 < (n : Int) from fun e => h (Int.ofNat_lt.mp e)), Nat.min_eq_left (Nat.le_of_not_lt h)]
theorem ar_base {base k : Nat} {r : Int} (hb : 140 ≤ base) (hk : k ≤ 3) (hr : r ≤ 100) : r < (base : Int) - (k : Int) := by omega
theorem ar_lim {a b c R : Nat} (h : a + c < R) (hb : b ≤ c) : a + b < R := Nat.lt_of_le_of_lt (Nat.add_le_add_left hb a) h
theorem ar_limD {a b c R : Nat} (h : a + c < R + 1) (hb : b + 1 ≤ c) : a + b < R := Nat.lt_of_succ_lt_succ (Nat.lt_of_le_of_lt (Nat.add_le_add_left hb a) h)
theorem ar_limU {a b c R : Nat} (h : a + c < R + 3) (hb : b + 3 ≤ c) : a + b < R := Nat.lt_of_add_lt_add_right (Nat.lt_of_le_of_lt (Nat.add_le_add_left hb a) h)
theorem ar_part {i a b : Nat} (h : i < b - a) : a + i < b := Nat.add_lt_of_lt_sub' h
noncomputable def Put (b : Nat) (x : Int) (L k : Nat) (ns ns' : List Int) : Prop := ns'.length = ns.length ∧ ∀ i, ns'[i]? = if L ≤ i ∧ i < L + k then some (dig b x (i - L)) else ns[i]?

theorem xor_low {x : Int} (hx : 0 ≤ x) (s : Nat) : Builtin.bitXor x (x.fdiv (2 ^ s) * 2 ^ s) = x % 2 ^ s := by
  have hp : (0 : Int) < 2 ^ s := Int.pow_pos (by decide)
  have e1 : x.fdiv (2 ^ s) = x / 2 ^ s := Int.fdiv_eq_ediv_of_nonneg _ (Int.le_of_lt hp)
  rw [e1]
  have hy : 0 ≤ x / 2 ^ s * 2 ^ s := Int.mul_nonneg (Int.ediv_nonneg hx (Int.le_of_lt hp)) (Int.le_of_lt hp)
  have ha : Builtin.bitAnd x (x / 2 ^ s * 2 ^ s) = x / 2 ^ s * 2 ^ s := by
    obtain ⟨n, rfl⟩ := Int.eq_ofNat_of_zero_le hx
    have hy2 : ((n : Int) / 2 ^ s * 2 ^ s) = ((n / 2 ^ s * 2 ^ s : Nat) : Int) := by simp
    rw [hy2, bitAnd_pp (by omega) (by omega)]
    have : (n : Int).toNat &&& ((n / 2 ^ s * 2 ^ s : Nat) : Int).toNat = n / 2 ^ s * 2 ^ s := by
      rw [Int.toNat_natCast, Int.toNat_natCast]
      apply Nat.eq_of_testBit_eq
      intro i
      rw [Nat.testBit_and, ← Nat.shiftLeft_eq, ← Nat.shiftRight_eq_div_pow, Nat.testBit_shiftLeft, Nat.testBit_shiftRight]
      by_cases h : s ≤ i
      · have : s + (i - s) = i := by omega
        simp [h, this]
      · simp [h]
    rw [this]
  rw [bitXor_and, ha]
  have := Int.emod_def x (2 ^ s)
  rw [this, Int.mul_comm (2 ^ s)]
  omega

theorem dd {x P Q : Int} (hP : 0 < P) : x / P / Q = x / (P * Q) := by
  rw [Int.ediv_ediv, if_neg (fun h => by omega), Int.sub_zero]

theorem half_sum (L k : Nat) : ((L : Int) + ((L + k : Nat) : Int)).fdiv (2 ^ (1 : Int).toNat) = ((L + k / 2 : Nat) : Int) := by
  have : (2 : Int) ^ (1 : Int).toNat = 2 := rfl
  rw [this, Int.fdiv_eq_ediv_of_nonneg _ (by decide)]
  show (((L + (L + k)) / 2 : Nat) : Int) = ((L + k / 2 : Nat) : Int)
  rw [← Nat.add_assoc, ← Nat.two_mul, Nat.mul_add_div (by decide)]

theorem put_one {b L : Nat} {x : Int} {ns : List Int} (hL : L < ns.length) (h0 : 0 ≤ x) (h1 : x < 2 ^ (b * 1)) : Put b x L 1 ns (ns.set L x) := by
  refine ⟨List.length_set .., fun i => ?_⟩
  rw [List.getElem?_set]
  by_cases h : L = i
  · subst h
    rw [if_pos rfl, if_pos hL, if_pos (by omega)]
    have : x % 2 ^ b = x := Int.emod_eq_of_lt h0 (by rwa [Nat.mul_one] at h1)
    simp [dig, this]
  · rw [if_neg h, if_neg (by omega)]

theorem dig_low {b m j : Nat} {x : Int} (hj : j < m) : dig b (x % 2 ^ (b * m)) j = dig b x j := by
  unfold dig
  obtain ⟨r, rfl⟩ := Nat.exists_eq_add_of_lt hj
  have e : b * (j + r + 1) = b * j + (b * r + b) := by
    rw [Nat.add_assoc, Nat.mul_add, Nat.mul_add, Nat.mul_one]
  rw [e, Int.pow_add]
  have hp : (0 : Int) < 2 ^ (b * j) := Int.pow_pos (by decide)
  generalize (2 : Int) ^ (b * j) = P at *
  rw [Int.pow_add]
  generalize (2 : Int) ^ (b * r) = U
  generalize (2 : Int) ^ b = B
  have e1 : x % (P * (U * B)) / P = x / P % (U * B) := by
    rw [Int.emod_def, Int.emod_def, ← dd hp]
    have : x - P * (U * B) * (x / P / (U * B)) = x + P * (-(U * B * (x / P / (U * B)))) := by
      rw [Int.mul_neg, Int.mul_assoc]; omega
    rw [this, Int.add_mul_ediv_left _ _ (Int.ne_of_gt hp)]
    omega
  rw [e1, Int.mul_comm U B]
  exact Int.emod_emod_of_dvd _ ⟨U, rfl⟩
theorem dig_high {b m j : Nat} {x : Int} : dig b (x / 2 ^ (b * m)) j = dig b x (m + j) := by
  unfold dig
  rw [Nat.mul_add, Int.pow_add, dd (Int.pow_pos (by decide))]

theorem put_two {b L m k : Nat} {x : Int} {ns ns1 ns2 : List Int} (hm : m ≤ k) (h1 : Put b (x % 2 ^ (b * m)) L m ns ns1) (h2 : Put b (x / 2 ^ (b * m)) (L + m) (k - m) ns1 ns2) : Put b x L k ns ns2 := by
  obtain ⟨r, rfl⟩ := Nat.exists_eq_add_of_le hm
  rw [Nat.add_sub_cancel_left] at h2
  refine ⟨h2.1.trans h1.1, fun i => ?_⟩
  rw [h2.2 i]
  by_cases h : L + m ≤ i ∧ i < L + m + r
  · rw [if_pos h, if_pos ⟨Nat.le_trans (Nat.le_add_right L m) h.1, by rw [← Nat.add_assoc]; exact h.2⟩, dig_high]
    obtain ⟨j, rfl⟩ := Nat.exists_eq_add_of_le h.1
    congr 2
    rw [Nat.add_sub_cancel_left, Nat.add_assoc L m j, Nat.add_sub_cancel_left]
  · rw [if_neg h, h1.2 i]
    by_cases q : L ≤ i ∧ i < L + m
    · rw [if_pos q, if_pos ⟨q.1, Nat.lt_of_lt_of_le q.2 (Nat.add_le_add_left (Nat.le_add_right m r) L)⟩, dig_low (Nat.sub_lt_left_of_lt_add q.1 q.2)]
    · rw [if_neg q, if_neg (fun e => (Nat.lt_or_ge i (L + m)).elim (fun a => q ⟨e.1, a⟩) (fun a => h ⟨a, by rw [Nat.add_assoc]; exact e.2⟩))]
theorem pow_split {b m k : Nat} (hm : m ≤ k) : (2 : Int) ^ (b * k) = 2 ^ (b * m) * 2 ^ (b * (k - m)) := by
  rw [← Int.pow_add, ← Nat.mul_add]
  congr 2
  omega
theorem high_lt {b m k : Nat} {x : Int} (hm : m ≤ k) (h1 : x < 2 ^ (b * k)) : x / 2 ^ (b * m) < 2 ^ (b * (k - m)) := by
  rw [pow_split hm, Int.mul_comm] at h1
  exact Int.ediv_lt_of_lt_mul (Int.pow_pos (by decide)) h1
theorem bits_le_pow {x : Int} {M : Nat} (h0 : 0 ≤ x) (h : x < 2 ^ M) : Builtin.Int.intBits x ≤ M := by
  obtain ⟨n, rfl⟩ := Int.eq_ofNat_of_zero_le h0
  unfold Builtin.Int.intBits
  split
  · omega
  · rename_i hne
    have hn : n ≠ 0 := by
      intro e; subst e; simp at hne
    have h2 : n < 2 ^ M := by
      have : ((n : Int)) < ((2 ^ M : Nat) : Int) := by simpa using h
      exact Int.ofNat_lt.mp this
    have := (Nat.log2_lt hn).mpr h2
    show n.log2 + 1 ≤ M
    omega

noncomputable def val (b : Nat) : List Int → Int
  | [] => 0
  | d :: r => d + 2 ^ b * val b r
theorem val_append (b : Nat) (xs ys : List Int) : val b (xs ++ ys) = val b xs + 2 ^ (b * xs.length) * val b ys := by
  induction xs with
  | nil => simp [val]
  | cons d r ih =>
    show d + 2 ^ b * val b (r ++ ys) = d + 2 ^ b * val b r + 2 ^ (b * (r.length + 1)) * val b ys
    rw [ih, Nat.mul_add, Nat.mul_one, Nat.add_comm (b * r.length), Int.pow_add, Int.mul_add, Int.mul_assoc]
    omega
theorem val_bound {b : Nat} {xs : List Int} (h : ∀ d ∈ xs, 0 ≤ d ∧ d < 2 ^ b) : 0 ≤ val b xs ∧ val b xs < 2 ^ (b * xs.length) := by
  induction xs with
  | nil => simp [val]
  | cons d r ih =>
    obtain ⟨h1, h2⟩ := h d (.head _)
    obtain ⟨i1, i2⟩ := ih fun x hx => h x (.tail _ hx)
    have hp : (0 : Int) < 2 ^ b := Int.pow_pos (by decide)
    have e : (2 : Int) ^ (b * (d :: r).length) = 2 ^ b * 2 ^ (b * r.length) := by
      rw [List.length_cons, Nat.mul_add, Nat.mul_one, Nat.add_comm, Int.pow_add]
    rw [e]
    show 0 ≤ d + 2 ^ b * val b r ∧ d + 2 ^ b * val b r < _
    have h3 : 0 ≤ 2 ^ b * val b r := Int.mul_nonneg (Int.le_of_lt hp) i1
    have h4 : 2 ^ b * (val b r + 1) ≤ 2 ^ b * 2 ^ (b * r.length) := Int.mul_le_mul_of_nonneg_left i2 (Int.le_of_lt hp)
    rw [Int.mul_add, Int.mul_one] at h4
    exact ⟨Int.add_nonneg h1 h3, Int.lt_of_lt_of_le (by rw [Int.add_comm]; exact Int.add_lt_add_left h2 _) h4⟩
noncomputable def part (L k : Nat) (ns : List Int) : List Int := (ns.drop L).take k
theorem part_len {L k : Nat} {ns : List Int} (h : L + k ≤ ns.length) : (part L k ns).length = k := by
  unfold part
  rw [List.length_take, List.length_drop]
  exact Nat.min_eq_left (Nat.le_sub_of_add_le' h)
theorem part_mem {L k : Nat} {ns : List Int} {P : Int → Prop} (h : ∀ d ∈ ns, P d) : ∀ d ∈ part L k ns, P d := fun d hd => h d (List.mem_of_mem_drop (List.mem_of_mem_take hd))
theorem part_one {L : Nat} {ns : List Int} (h : L < ns.length) (b : Nat) : val b (part L 1 ns) = ns.getD L 0 := by
  have e : part L 1 ns = [ns[L]] := by
    unfold part
    rw [List.drop_eq_getElem_cons h]
    rfl
  rw [e]
  show ns[L] + 2 ^ b * 0 = _
  simp [h]
theorem part_two {L m k : Nat} {ns : List Int} (hm : m ≤ k) (h : L + k ≤ ns.length) (b : Nat) : val b (part L k ns) = val b (part (L + m) (k - m) ns) * 2 ^ (b * m) + val b (part L m ns) := by
  have e : part L k ns = part L m ns ++ part (L + m) (k - m) ns := by
    unfold part
    rw [← List.drop_drop, ← List.take_append_drop m ((ns.drop L).take k), List.take_take, Nat.min_eq_left hm, List.drop_take]
  rw [e, val_append, part_len (by omega), Int.mul_comm]
  omega
theorem part_all {ns : List Int} : part 0 ns.length ns = ns := by simp [part]

theorem lt_pow_bits {x : Int} (h0 : 0 ≤ x) : x < 2 ^ Builtin.Int.intBits x := by
  obtain ⟨n, rfl⟩ := Int.eq_ofNat_of_zero_le h0
  unfold Builtin.Int.intBits
  split
  · rename_i h
    have : (n : Int) = 0 := by simpa using h
    rw [this]; decide
  · have h2 : n < 2 ^ (n.log2 + 1) := Nat.lt_log2_self
    have h3 : ((n : Int)) < ((2 ^ (n.log2 + 1) : Nat) : Int) := Int.ofNat_lt.mpr h2
    simpa using h3
theorem bits_pos {x : Int} (h0 : 0 < x) : 1 ≤ Builtin.Int.intBits x := by
  unfold Builtin.Int.intBits
  split
  · rename_i h
    have : x = 0 := by simpa using h
    omega
  · omega
noncomputable def figs (a : Int) (B : Nat) : Nat := (Builtin.Int.intBits a + B - 1) / B
theorem figs_is {a : Int} {B : Nat} (hB : 1 ≤ B) : ((Builtin.Int.intBits a : Int) + (B : Int) - 1).fdiv (B : Int) = (figs a B : Int) := by
  rw [Int.fdiv_eq_ediv_of_nonneg _ (by omega)]
  unfold figs
  rw [show ((Builtin.Int.intBits a : Int) + (B : Int) - 1) = ((Builtin.Int.intBits a + B - 1 : Nat) : Int) by omega]
  rfl
theorem figs_lt {a : Int} {B : Nat} (ha : 0 ≤ a) (hB : 1 ≤ B) : a < 2 ^ (B * figs a B) := by
  refine Int.lt_of_lt_of_le (lt_pow_bits ha) ?_
  have : Builtin.Int.intBits a ≤ B * figs a B := by
    unfold figs
    have := Nat.div_add_mod (Builtin.Int.intBits a + B - 1) B
    exact ar_fig this (Nat.mod_lt _ hB)
  have h3 : (2 : Nat) ^ Builtin.Int.intBits a ≤ 2 ^ (B * figs a B) := Nat.pow_le_pow_right (by decide) this
  have : ((2 ^ Builtin.Int.intBits a : Nat) : Int) ≤ ((2 ^ (B * figs a B) : Nat) : Int) := Int.ofNat_le.mpr h3
  simpa using this

theorem dig_bound (b : Nat) (x : Int) (j : Nat) : 0 ≤ dig b x j ∧ dig b x j < 2 ^ b :=
  ⟨Int.emod_nonneg _ (Int.ne_of_gt (Int.pow_pos (by decide))), Int.emod_lt_of_pos _ (Int.pow_pos (by decide))⟩
theorem top_step {B c i : Nat} {a : Int} (hi : i < c) : a / 2 ^ (B * (c - (i + 1))) = a / 2 ^ (B * (c - i)) * 2 ^ B + dig B a (c - 1 - i) := by
  have e : c - i = (c - (i + 1)) + 1 := by omega
  have e2 : c - 1 - i = c - (i + 1) := by omega
  rw [e, e2]
  generalize c - (i + 1) = j
  unfold dig
  rw [Nat.mul_add, Nat.mul_one, Int.pow_add, ← dd (Int.pow_pos (by decide))]
  have := Int.mul_ediv_add_emod (a / 2 ^ (B * j)) (2 ^ B)
  rw [Int.mul_comm]
  omega
theorem long_step {A b d r : Int} {B : Nat} (hb : 0 < b) (hr : A % b = r) : (A * 2 ^ B + d) / b = (r * 2 ^ B + d) / b + 2 ^ B * (A / b) ∧ (A * 2 ^ B + d) % b = (r * 2 ^ B + d) % b := by
  have hA := Int.mul_ediv_add_emod A b
  rw [hr] at hA
  generalize A / b = q at *
  have e : A * 2 ^ B + d = (r * 2 ^ B + d) + b * (2 ^ B * q) := by
    rw [← hA, Int.add_mul, Int.mul_assoc, Int.mul_comm q]
    omega
  rw [e, Int.add_mul_ediv_left _ _ (Int.ne_of_gt hb), Int.add_mul_emod_self_left]
  exact ⟨rfl, rfl⟩
theorem long_bound {r d b : Int} {B : Nat} (hb : 0 < b) (hr0 : 0 ≤ r) (hr : r < b) (hd0 : 0 ≤ d) (hd : d < 2 ^ B) : 0 ≤ (r * 2 ^ B + d) / b ∧ (r * 2 ^ B + d) / b < 2 ^ B := by
  have hp : (0 : Int) < 2 ^ B := Int.pow_pos (by decide)
  have h1 : 0 ≤ r * 2 ^ B := Int.mul_nonneg hr0 (Int.le_of_lt hp)
  refine ⟨Int.ediv_nonneg (by omega) (Int.le_of_lt hb), Int.ediv_lt_of_lt_mul hb ?_⟩
  have h2 : (r + 1) * 2 ^ B ≤ b * 2 ^ B := Int.mul_le_mul_of_nonneg_right hr (Int.le_of_lt hp)
  rw [Int.add_mul, Int.one_mul] at h2
  rw [Int.mul_comm (2 ^ B)]
  omega
end Mine
end

noncomputable section
namespace Mine
noncomputable def ws (c : Nat) : Bool := c == 10 || c == 9 || c == 13 || c == 32
noncomputable def nls (l : List Nat) : Int := (l.count 10 : Nat)
noncomputable def quoted (acc : List Nat) : List Nat → List Nat × List Nat
  | [] => (acc, [])
  | c :: r => if c = 34 then (acc, r) else if c = 92 then (match r with | [] => (acc, []) | d :: r' => quoted (acc ++ [d]) r') else quoted (acc ++ [c]) r
noncomputable def bare (acc : List Nat) : List Nat → List Nat × List Nat
  | [] => (acc, [])
  | c :: r => if ws c then (acc, r) else if c = 92 then (match r with | [] => (acc, []) | d :: r' => bare (acc ++ [d]) r') else bare (acc ++ [c]) r
noncomputable def word : List Nat → List Nat × List Nat
  | [] => ([], [])
  | c :: r => if ws c then word r else if c = 34 then quoted [] r else if c = 92 then (match r with | [] => ([], []) | d :: r' => bare [d] r') else bare [c] r
theorem nls_cons (c : Nat) (r : List Nat) : nls (c :: r) = nls r + (if c = 10 then 1 else 0) := by
  unfold nls
  rw [List.count_cons]
  by_cases h : c = 10 <;> simp [h]
end Mine
end

noncomputable section
open PySem PySem.W PySem.Calls PyProof.Rows
namespace Mine
end Mine
end

noncomputable section
open PySem PySem.W PySem.Calls PyProof.Rows
set_option maxRecDepth 100000
namespace Mine
noncomputable def ind (z d i : Nat) : Int := if (d + (i + 1)) % z = 0 then 1 else 0
end Mine
end

noncomputable section
open PySem PySem.W PySem.Calls PyProof.Rows
set_option maxRecDepth 100000
namespace Mine
end Mine
end

noncomputable section
open PySem PySem.W PySem.Calls PyProof.Rows
set_option maxRecDepth 100000
namespace Mine
end Mine
end

noncomputable section
open PySem PySem.W PySem.Calls PyProof.Rows
namespace Mine

structure Wo (g h : Heap) (l : List (Addr × Obj)) : Prop where
  keep : ∀ b o, g.get? b = some o → h.get? b = some o
  size : g.objs.size ≤ h.objs.size
  led : ∀ p ∈ l, h.get? p.1 = some p.2 ∧ g.get? p.1 = none

theorem Wo.of_fr {h₀ h : Heap} {L : Addr} {m : Str → Option Value} {l : List (Addr × Obj)} (F : Fr h₀ L h m) (N : News h₀ L h l) : Wo h₀ h l :=
  ⟨F.keep, Nat.le_of_lt (Nat.lt_of_le_of_lt F.above F.ns.lt), fun p hp => ⟨(N p hp).1, (N p hp).2.2⟩⟩

theorem Wo.call {h₀ h : Heap} {L : Addr} {m : Str → Option Value} {fp rest : List (Addr × Obj)} (F : Fr h₀ L h m) (N : News h₀ L h (fp ++ rest))
    (nd : ∀ p ∈ fp, ∀ q ∈ rest, p.1 ≠ q.1) :
    Wo (hideAll h (fp.map (·.1))) h fp ∧ Fr h₀ L (hideAll h (fp.map (·.1))) m ∧ h₀.StaysIn (hideAll h (fp.map (·.1))) ∧
    ∀ h' l', Wo (hideAll h (fp.map (·.1))) h' l' → Fr h₀ L h' m ∧ News h₀ L h' (l' ++ rest) ∧ ∀ p ∈ l', ∀ q ∈ rest, p.1 ≠ q.1 := by
  have hf : ∀ p ∈ fp, h₀.get? p.1 = none ∧ p.1 ≠ L := fun p hp => let q := N p (List.mem_append_left _ hp); ⟨q.2.2, q.2.1⟩
  have st : ∀ b o, h₀.get? b = some o → (hideAll h (fp.map (·.1))).get? b = some o := fun b o e => hideAll_get _ (F.keep b o e) fun hb => by
    obtain ⟨p, hp, rfl⟩ := List.mem_map.mp hb
    rw [(hf p hp).1] at e; cases e
  obtain ⟨oL, es, ep, eL, r⟩ := F.ns
  have eL' : (hideAll h (fp.map (·.1))).get? L = some oL := hideAll_get _ eL fun hb => by
    obtain ⟨p, hp, e⟩ := List.mem_map.mp hb
    exact (hf p hp).2 e
  refine ⟨⟨fun b o e => of_hideAll _ e, Nat.le_of_eq (hideAll_size _ _), fun p hp => ⟨(N p (List.mem_append_left _ hp)).1, hideAll_none _ (List.mem_map_of_mem hp)⟩⟩,
    ⟨⟨oL, es, ep, eL', r⟩, st, F.above⟩, st, fun h' l' W => ?_⟩
  have hr : ∀ q ∈ rest, (hideAll h (fp.map (·.1))).get? q.1 = some q.2 := fun q hq => hideAll_get _ (N q (List.mem_append_right _ hq)).1 fun hb => by
    obtain ⟨p', hp', e⟩ := List.mem_map.mp hb
    exact nd p' hp' q hq e
  refine ⟨⟨⟨oL, es, ep, W.keep _ _ eL', r⟩, fun b o e => W.keep _ _ (st b o e), F.above⟩, fun p hp => ?_, fun p hp q hq e => ?_⟩
  rotate_left
  · have := (W.led p hp).2
    rw [e, hr q hq] at this; cases this
  rcases List.mem_append.mp hp with hp | hp
  · refine ⟨(W.led p hp).1, fun e => ?_, ?_⟩
    · have := (W.led p hp).2
      rw [e, eL'] at this; cases this
    · cases q : h₀.get? p.1 with
      | none => rfl
      | some o => have := (W.led p hp).2; rw [st _ _ q] at this; cases this
  · have q := N p (List.mem_append_right _ hp)
    exact ⟨W.keep _ _ (hideAll_get _ q.1 fun hb => by
      obtain ⟨p', hp', e⟩ := List.mem_map.mp hb
      exact nd p' hp' p hp e), q.2⟩

section
variable {prog : Program} {w : World} {A : Around} {s : Shared} {g : Heap} {K : Frag} {news : List (Addr × Obj)}
  {R : Result → Shared → Prop} {name qual : Str} {params : Arguments} {body : List Stmt} {scope : Scope} {cl : List (Str × Addr)} {dV kV doc pm cdv ct oc : Value} {an od : Option Addr} {osl : Array (Option Value)} {f : Addr} {args : Args} {binds : List (Str × Value)}

theorem enterW (W : Wo g s.heap news) (X : K.In g) (hlim : g.NoLimit)
    (ho : K.lookup f = some ⟨oc, od, .func (fnX name qual params body scope cl dV kV doc pm an cdv ct), osl⟩) (hcd : codeIn K cdv qual = true) (hroom : A.depth < recursionLimit)
    (hbind : BindsTo s (fnX name qual params body scope cl dV kV doc pm an cdv ct) args binds) (hloc : ∀ y ∈ binds, scope.names.lookup y.1 = some .local)
    (h : ∀ L' h₁, Fr g L' h₁ (fun y => binds.reverse.lookup y) → News g L' h₁ news →
      wpAny (model prog w) (A.deeper (envX qual scope L' f cdv cl)) (execs body (envX qual scope L' f cdv cl))
        (fun fl s' => R (.ok (.ret (match fl with | .ret v => v | _ => .none))) s') (fun _ _ => False)
        { s with heap := h₁, toks := s.toks + binds.length })
    (hcell : ∀ x ∈ scope.names, x.2 ≠ .cell) (hco : scope.isCoroutine = false := by rfl) (hgen : scope.isGenerator = false := by rfl) (hk : scope.kind = .function := by rfl) :
    codeAny (model prog w) A (.call (.ref f) args) R s := by
  have X' : K.In s.heap := X.keeps W.keep
  refine codeAny_call_def (fd := fnX name qual params body scope cl dV kV doc pm an cdv ct) (body := body) (binds := binds) hroom (X' _ _ ho) rfl (hlim.keeps W.keep) (codeRec_of X' hcd) rfl hbind hcell hloc (fun h₁ hns hk₁ => ?_) hco hgen hk
  exact wpAny_mono (h s.heap.objs.size h₁ ⟨hns, fun b o e => hk₁ b o (W.keep _ _ e), W.size⟩
    (fun p hp => ⟨hk₁ _ _ (W.led p hp).1, Nat.ne_of_lt (Heap.lt_size (W.led p hp).1), (W.led p hp).2⟩)) (fun _ _ x => x) (fun _ _ x => x.elim)

noncomputable def Meets (prog : Program) (w : World) (K : Frag) (c : Code) (fp : List (Addr × Obj)) (d u : Nat) (P : Nat → Value → List (Addr × Obj) → Prop) : Prop :=
  ∀ (A : Around) (s : Shared) (g : Heap) (p : Program) (loose : List Str) (mean : ExcName → Option Value) (mg mb : Str → Option Value),
    A.handled = none → A.depth + d < recursionLimit → A.units + u < cLine → Wo g s.heap fp → K.In g → Top p loose mean mg mb g →
    ∀ R : Result → Shared → Prop, (∀ v l h' tk, P s.heap.objs.size v l → Wo g h' l → R (.ok (.ret v)) { s with heap := h', toks := tk }) → codeAny (model prog w) A c R s

theorem Meets.use {K : Frag} {prog : Program} {w : World} {f : Value} {args : List Value} {fp rest : List (Addr × Obj)} {d u : Nat} {P : Nat → Value → List (Addr × Obj) → Prop}
    {A : Around} {s : Shared} {E : Value → Shared → Prop} {Q : Value → Shared → Prop} {h₀ : Heap} {L : Addr} {m : Str → Option Value} {p : Program} {loose : List Str} {mean : ExcName → Option Value} {mg mb : Str → Option Value}
    (S : Meets prog w K (.call f ⟨args, []⟩) fp d u P) (F : Fr h₀ L s.heap m) (N : News h₀ L s.heap (fp ++ rest)) (X : K.In h₀) (T : Top p loose mean mg mb h₀)
    (nd : ∀ p ∈ fp, ∀ q ∈ rest, p.1 ≠ q.1) (hh : A.handled = none) (hd : A.depth + d < recursionLimit) (hu : A.units + u < cLine)
    (h : ∀ n₀ v l h' tk, P n₀ v l → Fr h₀ L h' m → News h₀ L h' (l ++ rest) → L < n₀ → (∀ p ∈ fp, p.1 < n₀) → (∀ p ∈ rest, p.1 < n₀) → (∀ p ∈ l, ∀ q ∈ rest, p.1 ≠ q.1) → Q v { s with heap := h', toks := tk }) :
    wpAny (model prog w) A (call f args) Q E s := by
  obtain ⟨W, F', st, back⟩ := Wo.call F N nd
  refine wpAny_call (codeAny_mono (S A s _ p loose mean mg mb hh hd hu W (X.keeps st) (T.keeps st) (fun r s' => match r with | .ok (.ret v) => Q v s' | _ => False) fun v l h' tk hp W' => ?_) fun r s' z => ?_)
  · obtain ⟨F2, N2, nd2⟩ := back h' l W'
    exact h _ v l h' tk hp F2 N2 F.ns.lt (fun p hp => Heap.lt_size (N p (List.mem_append_left _ hp)).1) (fun p hp => Heap.lt_size (N p (List.mem_append_right _ hp)).1) nd2
  · rcases r with e | (v | _ | _ | _) <;> first | exact z | exact z.elim

noncomputable def retVal : Flow → Value
  | .ret v => v
  | _ => .none
theorem meets_def {K : Frag} {prog : Program} {w : World} {fp : List (Addr × Obj)} {d u : Nat} {P : Nat → Value → List (Addr × Obj) → Prop}
    {name qual : Str} {params : Arguments} {body : List Stmt} {scope : Scope} {cl : List (Str × Addr)} {dV kV doc pm cdv ct oc : Value} {an od : Option Addr} {osl : Array (Option Value)} {f : Addr} {args : List Value} {binds : List (Str × Value)}
    (ho : K.lookup f = some ⟨oc, od, .func (fnX name qual params body scope cl dV kV doc pm an cdv ct), osl⟩) (hcd : codeIn K cdv qual = true)
    (hbind : ∀ s, BindsTo s (fnX name qual params body scope cl dV kV doc pm an cdv ct) ⟨args, []⟩ binds) (hloc : ∀ y ∈ binds, scope.names.lookup y.1 = some .local)
    (hcell : ∀ x ∈ scope.names, x.2 ≠ .cell)
    (h : ∀ (A : Around) (s : Shared) (g : Heap) (p : Program) (loose : List Str) (mean : ExcName → Option Value) (mg mb : Str → Option Value) (n₀ : Nat) (L : Nat) (h₁ : Heap) (tk : Nat) (k : Flow → Shared → Prop),
      A.handled = none → A.depth + d < recursionLimit + 1 → A.units + u < cLine + 3 → K.In g → Top p loose mean mg mb g → n₀ ≤ L → (∀ p ∈ fp, p.1 < n₀) → Fr g L h₁ (fun y => binds.reverse.lookup y) → News g L h₁ fp →
      (∀ fl l h' tk m', P n₀ (retVal fl) l → Fr g L h' m' → News g L h' l → k fl { s with heap := h', toks := tk }) →
      wpAny (model prog w) A (execs body (envX qual scope L f cdv cl)) k (fun _ _ => False) { s with heap := h₁, toks := tk })
    (hd : 0 < d := by decide) (hco : scope.isCoroutine = false := by rfl) (hgen : scope.isGenerator = false := by rfl) (hk : scope.kind = .function := by rfl) :
    Meets prog w K (.call (.ref f) ⟨args, []⟩) fp d u P := by
  intro A s g p loose mean mg mb hh hdep hu W X T R hR
  have X' : K.In s.heap := X.keeps W.keep
  refine codeAny_call_def (fd := fnX name qual params body scope cl dV kV doc pm an cdv ct) (body := body) (binds := binds) (by omega) (X' _ _ ho) rfl (T.nolimit.keeps W.keep) (codeRec_of X' hcd) rfl (hbind s) hcell hloc (fun h₁ hns hk₁ => ?_) hco hgen hk
  refine wpAny_mono (h (A.deeper (envX qual scope s.heap.objs.size f cdv cl)) s g p loose mean mg mb s.heap.objs.size s.heap.objs.size h₁ _ (fun fl s' => R (.ok (.ret (retVal fl))) s') hh ?_ ?_ X T (Nat.le_refl _) (fun p hp => Heap.lt_size (W.led p hp).1)
    ⟨hns, fun b o e => hk₁ b o (W.keep _ _ e), W.size⟩
    (fun p hp => ⟨hk₁ _ _ (W.led p hp).1, Nat.ne_of_lt (Heap.lt_size (W.led p hp).1), (W.led p hp).2⟩) fun fl l h' tk m' hp F N => hR (retVal fl) l h' tk hp (Wo.of_fr F N)) (fun fl _ x => by cases fl <;> exact x) (fun _ _ x => x.elim)
  · show A.depth + 1 + d < recursionLimit + 1; omega
  · show A.units + 3 + u < cLine + 3; omega

theorem meets_defC {K : Frag} {prog : Program} {w : World} {fp : List (Addr × Obj)} {d u : Nat} {P : Nat → Value → List (Addr × Obj) → Prop}
    {name qual : Str} {params : Arguments} {body : List Stmt} {scope : Scope} {dV kV doc pm cdv ct oc : Value} {an od : Option Addr} {osl : Array (Option Value)} {f : Addr} {args : List Value} {binds : List (Str × Value)}
    (ho : K.lookup f = some ⟨oc, od, .func (fnX name qual params body scope [] dV kV doc pm an cdv ct), osl⟩) (hcd : codeIn K cdv qual = true)
    (hbind : ∀ s, BindsTo s (fnX name qual params body scope [] dV kV doc pm an cdv ct) ⟨args, []⟩ binds)
    (hkind : (binds.all fun y => scope.names.lookup y.1 == some .local || scope.names.lookup y.1 == some .cell) = true) (hnd : ((cellsFrom 0 scope.names []).map (·.1)).Nodup)
    (h : ∀ (A : Around) (s : Shared) (g : Heap) (p : Program) (loose : List Str) (mean : ExcName → Option Value) (mg mb : Str → Option Value) (n₀ : Nat) (L : Nat) (h₁ : Heap) (tk : Nat) (cells : List (Addr × Obj)) (k : Flow → Shared → Prop),
      A.handled = none → A.depth + d < recursionLimit + 1 → A.units + u < cLine + 3 → K.In g → Top p loose mean mg mb g → n₀ ≤ L → (∀ p ∈ fp, p.1 < n₀) → (∀ p ∈ fp, p.1 < L) →
      Fr g L h₁ (bindL (envOfC qual scope L f cdv).kindOf binds fun _ => none) → News g L h₁ (cells ++ fp) → CellsAre (bindC (envOfC qual scope L f cdv).kindOf binds fun _ => none) (cellsFrom (L + 1) scope.names []) cells →
      (∀ fl l h' tk m', P n₀ (retVal fl) l → Fr g L h' m' → News g L h' l → k fl { s with heap := h', toks := tk }) →
      wpAny (model prog w) A (execs body (envOfC qual scope L f cdv)) k (fun _ _ => False) { s with heap := h₁, toks := tk })
    (hd : 0 < d := by decide) (hco : scope.isCoroutine = false := by rfl) (hgen : scope.isGenerator = false := by rfl) (hk : scope.kind = .function := by rfl) :
    Meets prog w K (.call (.ref f) ⟨args, []⟩) fp d u P := by
  intro A s g p loose mean mg mb hh hdep hu W X T R hR
  have X' : K.In s.heap := X.keeps W.keep
  refine codeAny_call_function (by omega) (X' _ _ ho) rfl hco hgen rfl (codeRec_of X' hcd) (hbind s _ _ _ _ ?_)
  refine wpAny_newFunctionEnv_cells hk (kindsX hkind _) fun env' he s' x => ?_
  subst he
  refine ⟨(T.nolimit.keeps W.keep).keeps x.toInCall.keep, codeAny_func ?_⟩
  obtain ⟨h₁, tk, rfl, _⟩ := x.done
  have hk₁ := x.toInCall.keep
  obtain ⟨cells, NC, Y⟩ := Cl.news (h₀ := s.heap) (Nat.le_refl _) fun n c hm => ⟨x.cell n c (lookup_of_mem_nodup (cellsFrom_names scope.names 0 (s.heap.objs.size + 1) [] [] rfl ▸ hnd) hm), x.above n c hm⟩
  refine wpAny_mono (h (A.deeper (envOfC qual scope s.heap.objs.size f cdv)) s g p loose mean mg mb s.heap.objs.size s.heap.objs.size h₁ tk cells (fun fl s' => R (.ok (.ret (retVal fl))) s') hh ?_ ?_ X T (Nat.le_refl _)
    (fun p hp => Heap.lt_size (W.led p hp).1) (fun p hp => Heap.lt_size (W.led p hp).1)
    ⟨x.toInCall.ns, fun b o e => hk₁ b o (W.keep _ _ e), W.size⟩ (fun p hp => ?_) Y fun fl l h' tk m' hp F N => hR (retVal fl) l h' tk hp (Wo.of_fr F N)) (fun fl _ x => by cases fl <;> exact x) (fun _ _ x => x.elim)
  · show A.depth + 1 + d < recursionLimit + 1; omega
  · show A.units + 3 + u < cLine + 3; omega
  · rcases List.mem_append.mp hp with hp | hp
    · refine ⟨(NC p hp).1, (NC p hp).2.1, ?_⟩
      cases q : g.get? p.1 with
      | none => rfl
      | some o => have := (NC p hp).2.2; rw [W.keep _ _ q] at this; cases this
    · exact ⟨hk₁ _ _ (W.led p hp).1, Nat.ne_of_lt (Heap.lt_size (W.led p hp).1), (W.led p hp).2⟩

theorem meets_nest {K : Frag} {prog : Program} {w : World} {fp : List (Addr × Obj)} {d u : Nat} {P : Nat → Value → List (Addr × Obj) → Prop}
    {name qual : Str} {params : Arguments} {body : List Stmt} {scope : Scope} {cl : List (Str × Addr)} {doc pm ctv : Value} {c' : Addr} {oc : Obj} {vs : Array Value} {t : Tok} {f : Addr} {args : List Value} {binds : List (Str × Value)}
    (ho : (f, fnMade name qual params body scope cl doc pm c' ctv) ∈ fp) (hc : (c', oc) ∈ fp) (hcd : oc.data = .fields vs) (hcv : vs[1]? = some (.str qual t))
    (hbind : ∀ s, BindsTo s (fnX name qual params body scope cl .none .none doc pm none (.ref c') ctv) ⟨args, []⟩ binds) (hloc : ∀ y ∈ binds, scope.names.lookup y.1 = some .local)
    (hcell : ∀ x ∈ scope.names, x.2 ≠ .cell)
    (h : ∀ (A : Around) (s : Shared) (g : Heap) (p : Program) (loose : List Str) (mean : ExcName → Option Value) (mg mb : Str → Option Value) (n₀ : Nat) (L : Nat) (h₁ : Heap) (tk : Nat) (k : Flow → Shared → Prop),
      A.handled = none → A.depth + d < recursionLimit + 1 → A.units + u < cLine + 3 → K.In g → Top p loose mean mg mb g → n₀ ≤ L → (∀ p ∈ fp, p.1 < n₀) → Fr g L h₁ (fun y => binds.reverse.lookup y) → News g L h₁ fp →
      (∀ fl l h' tk m', P n₀ (retVal fl) l → Fr g L h' m' → News g L h' l → k fl { s with heap := h', toks := tk }) →
      wpAny (model prog w) A (execs body (envX qual scope L f (.ref c') cl)) k (fun _ _ => False) { s with heap := h₁, toks := tk })
    (hd : 0 < d) (hco : scope.isCoroutine = false := by rfl) (hgen : scope.isGenerator = false := by rfl) (hk : scope.kind = .function := by rfl) :
    Meets prog w K (.call (.ref f) ⟨args, []⟩) fp d u P := by
  intro A s g p loose mean mg mb hh hdep hu W X T R hR
  refine codeAny_call_def (fd := fnX name qual params body scope cl .none .none doc pm none (.ref c') ctv) (body := body) (binds := binds) (by omega) (W.led _ ho).1 rfl (T.nolimit.keeps W.keep) ⟨c', oc, vs, t, rfl, (W.led _ hc).1, hcd, hcv⟩ rfl (hbind s) hcell hloc (fun h₁ hns hk₁ => ?_) hco hgen hk
  refine wpAny_mono (h (A.deeper (envX qual scope s.heap.objs.size f (.ref c') cl)) s g p loose mean mg mb s.heap.objs.size s.heap.objs.size h₁ _ (fun fl s' => R (.ok (.ret (retVal fl))) s') hh ?_ ?_ X T (Nat.le_refl _) (fun p hp => Heap.lt_size (W.led p hp).1)
    ⟨hns, fun b o e => hk₁ b o (W.keep _ _ e), W.size⟩
    (fun p hp => ⟨hk₁ _ _ (W.led p hp).1, Nat.ne_of_lt (Heap.lt_size (W.led p hp).1), (W.led p hp).2⟩) fun fl l h' tk m' hp F N => hR (retVal fl) l h' tk hp (Wo.of_fr F N)) (fun fl _ x => by cases fl <;> exact x) (fun _ _ x => x.elim)
  · show A.depth + 1 + d < recursionLimit + 1; omega
  · show A.units + 3 + u < cLine + 3; omega

theorem Meets.call {K : Frag} {prog : Program} {w : World} {f : Value} {args : List Value} {fp news : List (Addr × Obj)} {d u : Nat} {P : Nat → Value → List (Addr × Obj) → Prop} (rest : List (Addr × Obj))
    {A : Around} {s : Shared} {E : Value → Shared → Prop} {Q : Value → Shared → Prop} {h₀ : Heap} {L : Addr} {m : Str → Option Value} {p : Program} {loose : List Str} {mean : ExcName → Option Value} {mg mb : Str → Option Value}
    (S : Meets prog w K (.call f ⟨args, []⟩) fp d u P) (F : Fr h₀ L s.heap m) (N : News h₀ L s.heap news) (X : K.In h₀) (T : Top p loose mean mg mb h₀)
    (hf : ∀ p ∈ fp, p ∈ news) (hr : ∀ p ∈ rest, p ∈ news) (nd : ∀ q ∈ rest, ∀ p ∈ fp, p.1 ≠ q.1) (hh : A.handled = none) (hd : A.depth + d < recursionLimit) (hu : A.units + u < cLine)
    (h : ∀ (n₀ : Nat) v l h' tk, P n₀ v l → Fr h₀ L h' m → News h₀ L h' (l ++ rest) → @LT.lt Nat _ L n₀ → AllLt n₀ fp → AllLt n₀ rest → (∀ q ∈ rest, ∀ p ∈ l, p.1 ≠ q.1) → Q v { s with heap := h', toks := tk }) :
    wpAny (model prog w) A (PySem.call f args) Q E s :=
  S.use F (rest := rest) (fun p hp => N p ((List.mem_append.mp hp).elim (hf p) (hr p))) X T (fun p hp q hq => nd q hq p hp) hh hd hu fun n₀ v l h' tk hp F' N' h1 h2 h3 h4 => h n₀ v l h' tk hp F' N' h1 (allLt_of h2) (allLt_of h3) fun q hq p hp => h4 p hp q hq

noncomputable def defAt (o : Obj) (i : Nat) : Option (Arguments × List Stmt × Scope) := match o.data with
  | .func fd => (match fd.body with
    | .stmts b => (match b[i]? with
      | some (.FunctionDef _ params body _ _ _ scope _ _ _) => some (params, body, scope)
      | _ => none)
    | _ => none)
  | _ => none

noncomputable def TabOk (P : Addr) (line col : Nat) (qual : Str) (t : List (Addr × Obj)) : Prop :=
  t = [(P, tabObj #[])] ∨ ∃ c' oc vs tq, t = [(P, tabObj #[rawInt line, rawInt col, .ref c']), (c', oc)] ∧ oc.data = .fields vs ∧ vs[1]? = some (.str qual tq)
noncomputable def Low (n : Nat) (l : List (Addr × Obj)) : Prop := ∀ p ∈ l, p.1 < n
theorem Low.ne {n d : Nat} {l : List (Addr × Obj)} (h : Low n l) (hd : n ≤ d) : ∀ p ∈ l, p.1 ≠ d := fun p hp => Nat.ne_of_lt (Nat.lt_of_lt_of_le (h p hp) hd)
noncomputable def Made (P : Addr) (line col : Nat) (qual : Str) (c' : Addr) (t : List (Addr × Obj)) : Prop :=
  ∃ oc vs tq, t = [(P, tabObj #[rawInt line, rawInt col, .ref c']), (c', oc)] ∧ oc.data = .fields vs ∧ vs[1]? = some (.str qual tq)
theorem Made.ok {P : Addr} {line col : Nat} {qual : Str} {c' : Addr} {t : List (Addr × Obj)} (h : Made P line col qual c' t) : TabOk P line col qual t := let ⟨oc, vs, tq, r⟩ := h; .inr ⟨c', oc, vs, tq, r⟩
theorem Made.rec' {P : Addr} {line col : Nat} {qual : Str} {c' : Addr} {t : List (Addr × Obj)} (h : Made P line col qual c' t) : ∃ oc vs tq, (c', oc) ∈ t ∧ oc.data = .fields vs ∧ vs[1]? = some (.str qual tq) :=
  let ⟨oc, vs, tq, e, a, b⟩ := h; ⟨oc, vs, tq, e ▸ .tail _ (.head _), a, b⟩

theorem newMade {hs h' h₀ : Heap} {L P c' : Nat} {m : Str → Option Value} {own pre post : List (Addr × Obj)} {line col : Nat} {oc fo : Obj} {Q : Prop}
    (F : Fr h₀ L hs m) (N : News h₀ L hs (own ++ (pre ++ ([(P, tabObj #[])] ++ post)))) (hown : ∀ q ∈ own, q.1 ≠ P) (nd : ((pre ++ ([(P, tabObj #[])] ++ post)).map (·.1)).Nodup)
    (hx : Heap.ExtBut P hs h') (hge : hs.objs.size ≤ c') (hlt : c' < h'.objs.size) (hoc : h'.get? c' = some oc) (htb : h'.get? P = some (tabObj #[rawInt line, rawInt col, .ref c']))
    (hfo : fo.isFreed = false) (h : Fr h₀ L (h'.push fo) m → News h₀ L (h'.push fo) ((h'.objs.size, fo) :: (own ++ (pre ++ ([(P, tabObj #[rawInt line, rawInt col, .ref c']), (c', oc)] ++ post)))) →
      ((pre ++ ([(P, tabObj #[rawInt line, rawInt col, .ref c']), (c', oc)] ++ post)).map (·.1)).Nodup → (∀ q ∈ own, (∀ r ∈ [(P, tabObj #[])], q.1 ≠ r.1) → ∀ r ∈ [(P, tabObj #[rawInt line, rawInt col, .ref c']), (c', oc)], q.1 ≠ r.1) → AllLt h'.objs.size (own ++ (pre ++ ([(P, tabObj #[rawInt line, rawInt col, .ref c']), (c', oc)] ++ post))) → @LT.lt Nat _ L h'.objs.size → Q) : Q := by
  have hP := N (P, tabObj #[]) (List.mem_append_right _ (List.mem_append_right _ (.head _)))
  rw [List.map_append, List.map_append] at nd
  have nd1 := List.nodup_append.mp nd
  have nd2 := List.nodup_append.mp nd1.2.1
  have hpre : ∀ q ∈ pre, q.1 ≠ P := fun q hq => nd1.2.2 _ (List.mem_map_of_mem hq) _ (.head _)
  have hpost : ∀ q ∈ post, q.1 ≠ P := fun q hq e => nd2.2.2 _ (.head _) _ (List.mem_map_of_mem hq) e.symm
  have hLs : L < hs.objs.size := F.ns.lt
  have hLc : L < c' := Nat.lt_of_lt_of_le hLs hge
  have old : ∀ b o, h₀.get? b = some o → h'.get? b = some o := fun b o e => hx b o (fun q => by rw [q, hP.2.2] at e; cases e) (F.keep b o e)
  have fresh : ∀ b, L < b → h₀.get? b = none := fun b hb => Heap.get?_none_of_le (Nat.le_trans F.above (Nat.le_of_lt hb))
  have hlow : ∀ q ∈ own ++ (pre ++ ([(P, tabObj #[])] ++ post)), q.1 < c' := fun q hq => Nat.lt_of_lt_of_le (Heap.lt_size (N q hq).1) hge
  have hPc : P < c' := hlow _ (List.mem_append_right _ (List.mem_append_right _ (.head _)))
  have hlow' : ∀ q ∈ own ++ (pre ++ ([(P, tabObj #[rawInt line, rawInt col, .ref c']), (c', oc)] ++ post)), q.1 < h'.objs.size := fun q hq => by
    rcases List.mem_append.mp hq with hq | hq
    · exact Nat.lt_trans (hlow q (List.mem_append_left _ hq)) hlt
    · rcases List.mem_append.mp hq with hq | hq
      · exact Nat.lt_trans (hlow q (List.mem_append_right _ (List.mem_append_left _ hq))) hlt
      · rcases List.mem_cons.mp hq with rfl | hq
        · exact Nat.lt_trans hPc hlt
        · rcases List.mem_cons.mp hq with rfl | hq
          · exact hlt
          · exact Nat.lt_trans (hlow q (List.mem_append_right _ (List.mem_append_right _ (.tail _ hq)))) hlt
  refine h ⟨(F.ns.extBut hx hP.2.1.symm).push _, fun b o e => Heap.get?_push_of_some _ (old b o e), F.above⟩ (fun q hq => ?_) ?_ ?_ (allLt_of hlow') (Nat.lt_trans hLc hlt)
  · have other : ∀ q ∈ own ++ (pre ++ ([(P, tabObj #[])] ++ post)), q.1 ≠ P → (h'.push fo).get? q.1 = some q.2 ∧ q.1 ≠ L ∧ h₀.get? q.1 = none := fun q hq hne =>
      ⟨Heap.get?_push_of_some _ (hx _ _ hne (N q hq).1), (N q hq).2⟩
    rcases List.mem_cons.mp hq with rfl | hq
    · exact ⟨Heap.get?_push_size _ hfo, Nat.ne_of_gt (Nat.lt_trans hLc hlt), fresh _ (Nat.lt_trans hLc hlt)⟩
    · rcases List.mem_append.mp hq with hq | hq
      · exact other q (List.mem_append_left _ hq) (hown q hq)
      · rcases List.mem_append.mp hq with hq | hq
        · exact other q (List.mem_append_right _ (List.mem_append_left _ hq)) (hpre q hq)
        · rcases List.mem_cons.mp hq with rfl | hq
          · exact ⟨Heap.get?_push_of_some _ htb, hP.2⟩
          · rcases List.mem_cons.mp hq with rfl | hq
            · exact ⟨Heap.get?_push_of_some _ hoc, Nat.ne_of_gt hLc, fresh _ hLc⟩
            · exact other q (List.mem_append_right _ (List.mem_append_right _ (.tail _ hq))) (hpost q hq)
  · rw [List.map_append, List.map_append]
    have hcn : ∀ q ∈ pre ++ ([(P, tabObj #[])] ++ post), q.1 ≠ c' := fun q hq => Nat.ne_of_lt (hlow q (List.mem_append_right _ hq))
    refine List.nodup_append.mpr ⟨nd1.1, ?_, ?_⟩
    · show (P :: c' :: post.map (·.1)).Nodup
      have ndP : (P :: post.map (·.1)).Nodup := nd1.2.1
      refine List.nodup_cons.mpr ⟨fun hm => ?_, List.nodup_cons.mpr ⟨fun hm => ?_, (List.nodup_cons.mp ndP).2⟩⟩
      · rcases List.mem_cons.mp hm with e | hm
        · exact Nat.ne_of_lt hPc e
        · exact (List.nodup_cons.mp ndP).1 hm
      · obtain ⟨q, hq, e⟩ := List.mem_map.mp hm
        exact hcn q (List.mem_append_right _ (.tail _ hq)) e
    · intro x hx y hy e
      obtain ⟨q, hq, rfl⟩ := List.mem_map.mp hx
      subst e
      rcases List.mem_cons.mp hy with e | hy
      · exact hpre q hq e
      · rcases List.mem_cons.mp hy with e | hy
        · exact hcn q (List.mem_append_left _ hq) e
        · exact nd1.2.2 _ (List.mem_map_of_mem hq) _ (List.mem_append_right _ hy) rfl
  · intro q hq _ r hr
    rcases List.mem_cons.mp hr with rfl | hr
    · exact hown q hq
    · have := List.mem_singleton.mp hr
      subst this
      exact Nat.ne_of_lt (hlow q (List.mem_append_left _ hq))
theorem makeAny {M : Model} {A : Around} {E : Value → Shared → Prop} {s : Shared} {h₀ : Heap} {L a c P : Nat} {m mg mb : Str → Option Value} {cn : Str} {cs : Scope} {ccd : Value} {cl : List (Str × Addr)} {own pre post t : List (Addr × Obj)}
    {p : Program} {loose : List Str} {mean : ExcName → Option Value} {name qual : Str} {params : Arguments} {body : List Stmt} {scope : Scope} {pos : Pos} {firstLine : Nat} {clos : List (Str × Addr)} {Q : Value → Shared → Prop}
    (F : Fr h₀ L s.heap m) (N : News h₀ L s.heap (own ++ (pre ++ (t ++ post)))) (T : Top p loose mean mg mb h₀) (C : CodeHd h₀ c P) (hcd : ccd = .ref c) (ht : TabOk P pos.line pos.col qual t)
    (hown : ∀ q ∈ own, q.1 ≠ P) (nd : ((pre ++ (t ++ post)).map (·.1)).Nodup)
    (hcl : closureFor scope (envX cn cs L a ccd cl) = pure clos)
    (h : ∀ (f c' : Nat) t' ctv doc h' tk, Made P pos.line pos.col qual c' t' → Fr h₀ L h' m → News h₀ L h' ((f, fnMade name qual params body scope clos doc ((mg "__name__").getD .none) c' ctv) :: (own ++ (pre ++ (t' ++ post)))) →
      ((pre ++ (t' ++ post)).map (·.1)).Nodup → (∀ q ∈ own, (∀ r ∈ t, q.1 ≠ r.1) → ∀ r ∈ t', q.1 ≠ r.1) → AllLt f (own ++ (pre ++ (t' ++ post))) → @LT.lt Nat _ L f → Q (.ref f) { s with heap := h', toks := tk }) :
    wpAny M A (makeFunction name qual params (.stmts body) scope (envX cn cs L a ccd cl) [] [] [] pos firstLine) Q E s := by
  have hgs := T.g.keeps F.keep
  obtain ⟨bm, ob, b1, b2, b3, b4, b5, b6⟩ := T.bmain
  have hbG : bm ≠ mainGlobals := fun q => by
    obtain ⟨o, es, ep, e, hd, _⟩ := T.g
    rw [q, e] at b3; cases b3; rw [hd] at b6; cases b6
  have hPin : ∃ ps, (P, tabObj ps) ∈ t := by
    rcases ht with rfl | ⟨c', oc, vs, tq, rfl, _, _⟩
    · exact ⟨_, .head _⟩
    · exact ⟨_, .head _⟩
  obtain ⟨ps0, hPm⟩ := hPin
  have hmP := N (P, tabObj ps0) (List.mem_append_right _ (List.mem_append_right _ (List.mem_append_left _ hPm)))
  have hgP : mainGlobals ≠ P := fun q => by
    obtain ⟨o, es, ep, e, hd, _⟩ := hgs
    rw [q, hmP.1] at e; cases e; cases hd
  have hbP : bm ≠ P := fun q => by
    have e := F.keep _ _ b3
    rw [q, hmP.1] at e; cases e; cases b4
  have nd0 := nd
  rw [List.map_append, List.map_append] at nd
  have nd1 := List.nodup_append.mp nd
  have nd2 := List.nodup_append.mp nd1.2.1
  have hpre : ∀ q ∈ pre, q.1 ≠ P := fun q hq => nd1.2.2 _ (List.mem_map_of_mem hq) _ (List.mem_append_left _ (List.mem_map_of_mem (f := (·.1)) hPm))
  have hpost : ∀ q ∈ post, q.1 ≠ P := fun q hq e => nd2.2.2 _ (List.mem_map_of_mem (f := (·.1)) hPm) _ (List.mem_map_of_mem hq) e.symm
  have hLs : L < s.heap.objs.size := F.ns.lt
  rcases ht with rfl | ⟨c', oc, vs, tq, rfl, hod, hov⟩
  · have e0 : ps0 = #[] := by
      have := List.mem_singleton.mp hPm
      cases this; rfl
    subst e0
    refine makeFunction_K (mg := mg) hcl rfl hgs hcd (C.keeps F.keep) hmP.1 True.intro rfl hgP ⟨bm, ob, b1, b2, hbG, hbP, F.keep _ _ b3, b4, b5, b6⟩ fun c' ctv doc h' tk hx hge hlt hrec htb => ?_
    obtain ⟨c₂, oc, vs, t, e2, hoc, hd, hv⟩ := hrec
    cases e2
    exact newMade F N hown nd0 hx hge hlt hoc htb rfl fun F' N' nd' ap' lt' L' => h h'.objs.size c' _ ctv doc _ tk ⟨oc, vs, t, rfl, hd, hv⟩ F' N' nd' ap' lt' L'
  · have e0 : ps0 = #[rawInt pos.line, rawInt pos.col, .ref c'] := by
      rcases List.mem_cons.mp hPm with e | hm
      · cases e; rfl
      · have := List.mem_singleton.mp hm
        have e1 : P = c' := congrArg Prod.fst this
        exact absurd (nd2.1) (by
          show ¬ ([P, c'] : List Addr).Nodup
          rw [e1]; simp)
    subst e0
    refine makeFunction_hit (mg := mg) (cv := .ref c') hcl rfl hgs hcd (C.keeps F.keep) hmP.1 (by simp [TriplesOk, rawInt]) (by simp [codeAmong, rawInt]) ⟨bm, ob, b1, b2, hbG, hbP, F.keep _ _ b3, b4, b5, b6⟩ fun ctv doc h' tk hk hsz => ?_
    have hLs' : L < h'.objs.size := Nat.lt_of_lt_of_le hLs hsz
    have fresh : ∀ b, L < b → h₀.get? b = none := fun b hb => Heap.get?_none_of_le (Nat.le_trans F.above (Nat.le_of_lt hb))
    refine h h'.objs.size c' _ ctv doc _ tk ⟨oc, vs, tq, rfl, hod, hov⟩ ⟨(F.ns.keeps hk).push _, fun b o e => Heap.get?_push_of_some _ (hk b o (F.keep b o e)), F.above⟩ (fun q hq => ?_) (by rw [List.map_append, List.map_append]; exact nd) (fun q _ k => k)
      (allLt_of fun q hq => Nat.lt_of_lt_of_le (Heap.lt_size (N q hq).1) hsz) hLs'
    rcases List.mem_cons.mp hq with rfl | hq
    · exact ⟨Heap.get?_push_size _ rfl, Nat.ne_of_gt hLs', fresh _ hLs'⟩
    · exact ⟨Heap.get?_push_of_some _ (hk _ _ (N q hq).1), (N q hq).2⟩

theorem TabOk.mem {P : Addr} {line col : Nat} {qual : Str} {t : List (Addr × Obj)} (h : TabOk P line col qual t) : ∃ o, (P, o) ∈ t := by
  rcases h with rfl | ⟨c', oc, vs, tq, rfl, _, _⟩
  · exact ⟨_, .head _⟩
  · exact ⟨_, .head _⟩
theorem makeTab {M : Model} {A : Around} {E : Value → Shared → Prop} {s : Shared} {h₀ : Heap} {L a c P : Nat} {m mg mb : Str → Option Value} {cn : Str} {cs : Scope} {ccd : Value} {cl : List (Str × Addr)} {own pre post t : List (Addr × Obj)}
    {p : Program} {loose : List Str} {mean : ExcName → Option Value} {name qual : Str} {params : Arguments} {body : List Stmt} {scope : Scope} {pos : Pos} {firstLine : Nat} {clos : List (Str × Addr)} {Q : Value → Shared → Prop}
    (F : Fr h₀ L s.heap m) (N : News h₀ L s.heap (own ++ (pre ++ (t ++ post)))) (T : Top p loose mean mg mb h₀) (C : CodeHd h₀ c P) (hcd : ccd = .ref c) (ht : TabOk P pos.line pos.col qual t)
    (hown : ∀ q ∈ own, ∀ p ∈ pre ++ (t ++ post), p.1 ≠ q.1) (nd : ((pre ++ (t ++ post)).map (·.1)).Nodup)
    (hcl : closureFor scope (envX cn cs L a ccd cl) = pure clos)
    (h : ∀ (f c' : Nat) t' ctv doc h' tk, Made P pos.line pos.col qual c' t' → Fr h₀ L h' m → News h₀ L h' ((f, fnMade name qual params body scope clos doc ((mg "__name__").getD .none) c' ctv) :: (own ++ (pre ++ (t' ++ post)))) →
      ((pre ++ (t' ++ post)).map (·.1)).Nodup → (∀ q ∈ own, ∀ p ∈ pre ++ (t' ++ post), p.1 ≠ q.1) → AllLt f own → Low f (pre ++ (t' ++ post)) → @LT.lt Nat _ L f → Q (.ref f) { s with heap := h', toks := tk }) :
    wpAny M A (makeFunction name qual params (.stmts body) scope (envX cn cs L a ccd cl) [] [] [] pos firstLine) Q E s := by
  obtain ⟨oP, hP⟩ := ht.mem
  refine makeAny F N T C hcd ht (fun q hq => (hown q hq _ (List.mem_append_right _ (List.mem_append_left _ hP))).symm) nd hcl fun f c' t' ctv doc h' tk hM F' N' nd' hap hlt hLf => ?_
  have hf : ∀ p ∈ own ++ (pre ++ (t' ++ post)), p.1 < f := by
    have key : ∀ {l : List (Addr × Obj)}, AllLt f l → ∀ p ∈ l, p.1 < f := fun {l} => by
      induction l with
      | nil => intro _ p hp; cases hp
      | cons x r ih =>
        intro z p hp
        rcases List.mem_cons.mp hp with rfl | hp
        · exact z.1
        · exact ih z.2 p hp
    exact key hlt
  refine h f c' t' ctv doc h' tk hM F' N' nd' (fun q hq p hp => ?_) (allLt_of fun p hp => hf p (List.mem_append_left _ hp)) (fun p hp => hf p (List.mem_append_right _ hp)) hLf
  rcases List.mem_append.mp hp with hp | hp
  · exact hown q hq p (List.mem_append_left _ hp)
  · rcases List.mem_append.mp hp with hp | hp
    · exact (hap q hq (fun r hr => (hown q hq r (List.mem_append_right _ (List.mem_append_left _ hr))).symm) p hp).symm
    · exact hown q hq p (List.mem_append_right _ (List.mem_append_right _ hp))

noncomputable def Says (m : Str → Option Value) (l : List (Str × Value)) : Prop := ∀ p ∈ l, m p.1 = some p.2
theorem Fr.said {h₀ h : Heap} {L : Addr} {m : Str → Option Value} {l : List (Str × Value)} (F : Fr h₀ L h m) (hl : Says m l) : Fr h₀ L h (kstB m l) := by
  have e : kstB m l = m := by
    funext z
    exact kstB_eq hl fun _ => rfl
  rw [e]; exact F
theorem Fr.saidIf {h₀ h : Heap} {L : Addr} {m : Str → Option Value} {x : Str} {v : Value} {l : List (Str × Value)} (F : Fr h₀ L h (fun y => if y = x then some v else m y)) (hl : Says m l) : Fr h₀ L h (fun y => if y = x then some v else kstB m l y) := by
  have e : kstB m l = m := by
    funext z
    exact kstB_eq hl fun _ => rfl
  rw [e]; exact F

theorem loopAt {prog : Program} {w : World} {A : Around} {E : Value → Shared → Prop} {s : Shared} {env : Env} {h₀ : Heap} {x : Str} {body : List Stmt} {Q : Flow → Shared → Prop}
    {I : Addr} {fp : List Addr} {n : Nat} {P : Nat → Value → Prop} {St : Nat → Heap → Prop} {m₀ : Str → Option Value} {news : List (Addr × Obj)}
    (W : Walks prog w A I fp [I] n P St) (hE : ∀ i h, St i h → ∀ b ∈ fp, ∃ o, h.get? b = some o) (hLf : env.locals ∉ fp) (hwr : h₀.get? I = none) (hfp : ∀ q ∈ news, q.1 ∉ fp)
    (hst : St 0 s.heap) (F : Fr h₀ env.locals s.heap m₀) (N : News h₀ env.locals s.heap news)
    (J : Nat → (Str → Option Value) → List (Addr × Obj) → Prop) (hj : J 0 m₀ news)
    (turn : ∀ i v m₁ news₁ h tk own (kn : Shared → Prop), i < n → P i v → J i m₁ news₁ → Fr h₀ env.locals h (fun y => if y = x then some v else m₁ y) → News h₀ env.locals h (news₁ ++ own) → (∀ q ∈ news₁, ∀ p ∈ own, p.1 ≠ q.1) →
      (∀ h' tk' m' news', Fr h₀ env.locals h' m' → News h₀ env.locals h' (news' ++ own) → (∀ q ∈ news', ∀ p ∈ own, p.1 ≠ q.1) → J (i + 1) m' news' → kn { s with heap := h', toks := tk' }) →
      wpAny (model prog w) A (execs body env) (fun f s₂ => match f with | .ret v => Q (.ret v) s₂ | .brk => Q .next s₂ | _ => kn s₂) E { s with heap := h, toks := tk })
    (done : ∀ h tk m₁ news₁, J n m₁ news₁ → Fr h₀ env.locals h m₁ → News h₀ env.locals h news₁ → Q .next { s with heap := h, toks := tk }) :
    LoopAtV prog w A h₀ env x body Q E (.ref I) s := by
  have hIf : I ∈ fp := W.sub _ (.head _)
  refine ⟨I, fp, [I], n, P, St, m₀, news, fun i m₁ news₁ => (∀ q ∈ news₁, q.1 ∉ fp) ∧ J i m₁ news₁, rfl, W, hLf, fun b hb => by rw [List.mem_singleton.mp hb]; exact hwr, fun q hq hI => hfp q hq (by rw [List.mem_singleton.mp hI]; exact hIf), hst, F, N, ⟨hfp, hj⟩, ?_, ?_⟩
  · rintro i v m₁ news₁ s₁ own ⟨hh', tk', rfl⟩ hin hP ⟨hnf, hJ⟩ hoff hown hog hoin hst1 F₁ N₁
    have N₂ : News h₀ env.locals hh' (news₁ ++ own) := fun p hp => N₁ p ((List.mem_append.mp hp).elim (fun h => List.mem_append.mpr (.inr h)) fun h => List.mem_append.mpr (.inl h))
    refine wpAny_mono (turn i v m₁ news₁ hh' tk' own (LoopStepU h₀ env.locals [I] own (fun m₁ news₁ => (∀ q ∈ news₁, q.1 ∉ fp) ∧ J (i + 1) m₁ news₁) { s with heap := hh', toks := tk' } .next) hin hP hJ F₁ N₂ (fun q hq p hp e => hnf q hq (by rw [← e]; exact hown p hp)) ?_) (fun f s₂ p => ?_) fun _ _ e => e
    · intro h' tk m' news' F' N' hsep hJ'
      have hnf' : ∀ q ∈ news', q.1 ∉ fp := fun q hq hb => by
        cases e0 : h₀.get? q.1 with
        | some o => have := (N' q (List.mem_append_left _ hq)).2.2; rw [e0] at this; cases this
        | none =>
          obtain ⟨o, ho⟩ := hE _ _ hst1 q.1 hb
          exact hsep q hq _ (hoin q.1 hb e0 o ho) rfl
      exact ⟨rfl, h', tk, m', news', rfl, F', fun p hp => N' p ((List.mem_append.mp hp).elim (fun h => List.mem_append_right _ h) fun h => List.mem_append_left _ h), fun p hp hq => hnf' p hp (by rw [List.mem_singleton.mp hq]; exact hIf), hnf', hJ'⟩
    · cases f with
      | ret v => exact .ret p
      | brk => exact .brk p
      | next => exact .next p
      | cont => exact .cont p
  · rintro h' tk m' news' F' N' _ ⟨_, hJ⟩
    exact done h' tk m' news' hJ F' N'
end
theorem gen_K {M : Model} {A : Around} {α : Type} {c : Sem α} {K : α → Shared → Prop} {E : Value → Shared → Prop} {s : Shared} (h : ∀ K' : α → Shared → Prop, (∀ f s, K f s → K' f s) → wpAny M A c K' E s) : wpAny M A c K E s := h K fun _ _ h => h
end Mine
end

noncomputable section
open PySem PySem.W PySem.Calls PyProof.Rows
namespace Mine
theorem says_nil {m : Str → Option Value} : Says m [] := fun p hp => by cases hp
theorem says_cons {m : Str → Option Value} {x : Str} {v : Value} {l : List (Str × Value)} (h : m x = some v) (hl : Says m l) : Says m ((x, v) :: l) := fun p hp => by
  rcases List.mem_cons.mp hp with rfl | hp
  · exact h
  · exact hl p hp
theorem lowAll {n : Addr} : ∀ {l : List (Addr × Obj)}, AllLt n l → Low n l := fun {l} => by
  induction l with
  | nil => intro _ p hp; cases hp
  | cons x r ih =>
    intro z p hp
    rcases List.mem_cons.mp hp with rfl | hp
    · exact z.1
    · exact ih z.2 p hp
theorem ints_at : ∀ {vs : List Value} {ns : List Int} {j : Nat} {v : Value}, IntsAre vs ns → vs[j]? = some v → ∃ t, v = .int (ns.getD j 0) t := by
  intro vs ns j v h
  induction h generalizing j with
  | nil => intro e; simp at e
  | cons n t h ih =>
    intro e
    cases j with
    | zero => exact ⟨t, by simpa using e.symm⟩
    | succ j => simpa using ih (by simpa using e)
theorem ints_snoc {vs : List Value} {ns : List Int} {x : Int} {t : Tok} (h : IntsAre vs ns) : IntsAre (vs ++ [.int x t]) (ns ++ [x]) := by
  induction h with
  | nil => exact .cons x t .nil
  | cons n u h ih => exact .cons n u ih
theorem ints_rev {vs : List Value} {ns : List Int} (h : IntsAre vs ns) : IntsAre vs.reverse ns.reverse := by
  induction h with
  | nil => exact .nil
  | cons n u h ih => simpa using ints_snoc ih
end Mine
end

noncomputable section
open PySem PySem.W PySem.Calls PyProof.Rows
namespace Mine
noncomputable abbrev txt (l : List Nat) : Str := ⟨l.toArray⟩
inductive SignsAre : List Value → List Nat → Prop
  | nil : SignsAre [] []
  | cons (c : Nat) (t : Tok) {vs cs} : SignsAre vs cs → SignsAre (.str (txt [c]) t :: vs) (c :: cs)
theorem SignsAre.length {vs : List Value} {cs : List Nat} (h : SignsAre vs cs) : vs.length = cs.length := by
  induction h with
  | nil => rfl
  | cons c t h ih => simp [ih]
theorem signs_of : ∀ {vs : List Value} {l : List Nat}, vs.length = l.length → (∀ (j : Nat) (v : Value), vs[j]? = some v → ∃ c u, l[j]? = some c ∧ v = .str (txt [c]) u) → SignsAre vs l
  | [], [], _, _ => .nil
  | [], _ :: _, e, _ => by simp at e
  | _ :: _, [], e, _ => by simp at e
  | v :: vs, c :: l, e, h => by
    obtain ⟨c', u, h1, h2⟩ := h 0 v rfl
    simp at h1
    subst h1 h2
    exact .cons _ _ (signs_of (by simpa using e) fun j v hj => h (j + 1) v hj)
section
variable {prog : Program} {w : World} {A : Around} {E : Value → Shared → Prop} {s : Shared} {h₀ : Heap} {L : Addr} {m : Str → Option Value} {news : List (Addr × Obj)} {Q : Value → Shared → Prop}
theorem list_txt {l : List Nat} {t : Tok} (hh : A.handled = none) (F : Fr h₀ L s.heap m) (N : News h₀ L s.heap news) (hz : l.length ≤ sizeLine)
    (h : ∀ D vs c h' tk, Fr h₀ L h' m → News h₀ L h' ((D, listOf (List.toArray vs) c) :: news) → (∀ p ∈ news, p.1 < D) → SignsAre vs l → Q (.ref D) { s with heap := h', toks := tk }) :
    wpAny (model prog w) A (call (.type "list") [.str (txt l) t]) Q E s := by
  refine call_list_str hh (txt l) t (fun h' tk acc c hk hD hI => ?_) (by simpa using hz)
  have hD' : h'.get? s.heap.objs.size = some (listOf (List.toArray acc.toList) c) := by
    rw [Array.toArray_toList]
    exact hD
  refine h _ acc.toList c h' tk (F.keeps hk) (news_pushed F N hk hD' rfl) (fun p hp => Heap.lt_size (N p hp).1) (signs_of ?_ fun j v hj => ?_)
  · have := hI.1
    simpa using this
  · obtain ⟨c, u, h1, h2⟩ := hI.2 j v (by rw [← hj, Array.getElem?_toList])
    exact ⟨c, u, by simpa using h1, h2⟩
end
end Mine
end

noncomputable section
open PySem PySem.W PySem.Calls PyProof.Rows
namespace Mine
theorem Wo.push {g h : Heap} {l : List (Addr × Obj)} (W : Wo g h l) (o : Obj) (ho : o.isFreed = false := by rfl) : Wo g (h.push o) ((h.objs.size, o) :: l) := by
  refine ⟨fun b x e => Heap.get?_push_of_some _ (W.keep b x e), Nat.le_trans W.size (by rw [Heap.size_push]; omega), fun p hp => ?_⟩
  rcases List.mem_cons.mp hp with rfl | hp
  · refine ⟨Heap.get?_push_size _ ho, ?_⟩
    cases q : g.get? h.objs.size with
    | none => rfl
    | some x => exact absurd (Heap.lt_size (W.keep _ _ q)) (Nat.lt_irrefl _)
  · exact ⟨Heap.get?_push_of_some _ (W.led p hp).1, (W.led p hp).2⟩
theorem Meets.make {prog : Program} {w : World} {K : Frag} {C fI : Addr} {args : List Value} {fp : List (Addr × Obj)} {d u : Nat} {P : Nat → Nat → Nat → List (Addr × Obj) → Prop}
    (hm : makesIn K C = true) (hi : findIn K (.ref C) "__init__" = some (some (.ref fI))) (hf : isFn K (.ref fI) = true)
    (S : ∀ x dx, dx < x → Meets prog w K (.call (.ref fI) ⟨.ref x :: args, []⟩) ((x, instObj C dx) :: (dx, dictOf [] 0) :: fp) d u (fun n₀ v l => v = .none ∧ P n₀ x dx l)) :
    Meets prog w K (.call (.ref C) ⟨args, []⟩) fp (d + 1) (u + 1) (fun n₀ v l => ∃ x dx, n₀ ≤ dx ∧ dx < x ∧ v = .ref x ∧ P (x + 1) x dx l) := by
  intro A s g p loose mean mg mb hh hdep hu W X T R hR
  obtain ⟨h, gg, dd, t, os⟩ := s
  have X' : K.In h := X.keeps W.keep
  refine make_core (makes_of X' hm) (looks_findIn X' hi) (fun self => bind_fn X' self (beq_iff_eq.mp hf)) (.inl rfl) ?_
  have W2 := (W.push emptyDict).push (instObj C h.objs.size)
  rw [Heap.size_push] at W2
  refine S (h.objs.size + 1) h.objs.size (Nat.lt_succ_self _) (A.under (.builtin "type.__call__" ⟨.ref C :: args, []⟩)) ⟨(h.push emptyDict).push (instObj C h.objs.size), gg, dd, t, os⟩ g p loose mean mg mb hh ?_ ?_ W2 X T _ fun v l h' tk hp W' => ?_
  · show A.depth + 1 + d < recursionLimit; omega
  · show (A.under (.builtin "type.__call__" ⟨.ref C :: args, []⟩)).units + u < cLine
    have : (A.under (.builtin "type.__call__" ⟨.ref C :: args, []⟩)).units = A.units + 1 := units_under_make _ _ _
    omega
  · obtain ⟨rfl, hp⟩ := hp
    refine ⟨rfl, hR _ _ _ _ ⟨h.objs.size + 1, h.objs.size, Nat.le_refl _, Nat.lt_succ_self _, rfl, ?_⟩ W'⟩
    have e : ((h.push emptyDict).push (instObj C h.objs.size)).objs.size = h.objs.size + 1 + 1 := by rw [Heap.size_push, Heap.size_push]
    rw [← e]; exact hp
end Mine
end

noncomputable section
open PySem PySem.W PySem.Calls PyProof.Rows
namespace Mine
section
theorem makeAnyE {M : Model} {A : Around} {E : Value → Shared → Prop} {s : Shared} {h₀ : Heap} {L a c P : Nat} {m mg mb : Str → Option Value} {cn : Str} {cs : Scope} {ccd : Value} {cl : List (Str × Addr)} {own pre post t : List (Addr × Obj)}
    {p : Program} {loose : List Str} {mean : ExcName → Option Value} {name qual : Str} {params : Arguments} {body : PySem.Expr} {scope : Scope} {pos : Pos} {firstLine : Nat} {clos : List (Str × Addr)} {Q : Value → Shared → Prop}
    (F : Fr h₀ L s.heap m) (N : News h₀ L s.heap (own ++ (pre ++ (t ++ post)))) (T : Top p loose mean mg mb h₀) (C : CodeHd h₀ c P) (hcd : ccd = .ref c) (ht : TabOk P pos.line pos.col qual t)
    (hown : ∀ q ∈ own, q.1 ≠ P) (nd : ((pre ++ (t ++ post)).map (·.1)).Nodup)
    (hcl : closureFor scope (envX cn cs L a ccd cl) = pure clos)
    (h : ∀ (f c' : Nat) t' ctv h' tk, Made P pos.line pos.col qual c' t' → (∀ c₀, Made P pos.line pos.col qual c₀ t → t' = t ∧ c' = c₀) → Fr h₀ L h' m → News h₀ L h' ((f, kla_obj name qual params body scope clos ((mg "__name__").getD .none) c' ctv) :: (own ++ (pre ++ (t' ++ post)))) →
      ((pre ++ (t' ++ post)).map (·.1)).Nodup → (∀ q ∈ own, (∀ r ∈ t, q.1 ≠ r.1) → ∀ r ∈ t', q.1 ≠ r.1) → AllLt f (own ++ (pre ++ (t' ++ post))) → @LT.lt Nat _ L f → Q (.ref f) { s with heap := h', toks := tk }) :
    wpAny M A (makeFunction name qual params (.expr body) scope (envX cn cs L a ccd cl) [] [] [] pos firstLine) Q E s := by
  have hgs := T.g.keeps F.keep
  obtain ⟨bm, ob, b1, b2, b3, b4, b5, b6⟩ := T.bmain
  have hbG : bm ≠ mainGlobals := fun q => by
    obtain ⟨o, es, ep, e, hd, _⟩ := T.g
    rw [q, e] at b3; cases b3; rw [hd] at b6; cases b6
  have hPin : ∃ ps, (P, tabObj ps) ∈ t := by
    rcases ht with rfl | ⟨c', oc, vs, tq, rfl, _, _⟩
    · exact ⟨_, .head _⟩
    · exact ⟨_, .head _⟩
  obtain ⟨ps0, hPm⟩ := hPin
  have hmP := N (P, tabObj ps0) (List.mem_append_right _ (List.mem_append_right _ (List.mem_append_left _ hPm)))
  have hgP : mainGlobals ≠ P := fun q => by
    obtain ⟨o, es, ep, e, hd, _⟩ := hgs
    rw [q, hmP.1] at e; cases e; cases hd
  have hbP : bm ≠ P := fun q => by
    have e := F.keep _ _ b3
    rw [q, hmP.1] at e; cases e; cases b4
  have nd0 := nd
  rw [List.map_append, List.map_append] at nd
  have nd1 := List.nodup_append.mp nd
  have nd2 := List.nodup_append.mp nd1.2.1
  have hpre : ∀ q ∈ pre, q.1 ≠ P := fun q hq => nd1.2.2 _ (List.mem_map_of_mem hq) _ (List.mem_append_left _ (List.mem_map_of_mem (f := (·.1)) hPm))
  have hpost : ∀ q ∈ post, q.1 ≠ P := fun q hq e => nd2.2.2 _ (List.mem_map_of_mem (f := (·.1)) hPm) _ (List.mem_map_of_mem hq) e.symm
  have hLs : L < s.heap.objs.size := F.ns.lt
  rcases ht with rfl | ⟨c', oc, vs, tq, rfl, hod, hov⟩
  · have e0 : ps0 = #[] := by
      have := List.mem_singleton.mp hPm
      cases this; rfl
    subst e0
    refine kla_makeFunction (mg := mg) hcl rfl hgs hcd (C.keeps F.keep) hmP.1 True.intro rfl hgP ⟨bm, ob, b1, b2, hbG, hbP, F.keep _ _ b3, b4, b5, b6⟩ fun c' ctv h' tk hx hge hlt hrec htb => ?_
    obtain ⟨c₂, oc, vs, t, e2, hoc, hd, hv⟩ := hrec
    cases e2
    exact newMade F N hown nd0 hx hge hlt hoc htb rfl fun F' N' nd' ap' lt' L' => h h'.objs.size c' _ ctv _ tk ⟨oc, vs, t, rfl, hd, hv⟩ (fun c₀ ⟨_, _, _, e, _⟩ => by simp at e) F' N' nd' ap' lt' L'
  · have e0 : ps0 = #[rawInt pos.line, rawInt pos.col, .ref c'] := by
      rcases List.mem_cons.mp hPm with e | hm
      · cases e; rfl
      · have := List.mem_singleton.mp hm
        have e1 : P = c' := congrArg Prod.fst this
        exact absurd (nd2.1) (by
          show ¬ ([P, c'] : List Addr).Nodup
          rw [e1]; simp)
    subst e0
    refine kla_makeFunctionHit (mg := mg) (cv := .ref c') hcl rfl hgs hcd (C.keeps F.keep) hmP.1 (by simp [TriplesOk, rawInt]) (by simp [codeAmong, rawInt]) ⟨bm, ob, b1, b2, hbG, hbP, F.keep _ _ b3, b4, b5, b6⟩ fun ctv h' tk hk hsz => ?_
    have hLs' : L < h'.objs.size := Nat.lt_of_lt_of_le hLs hsz
    have fresh : ∀ b, L < b → h₀.get? b = none := fun b hb => Heap.get?_none_of_le (Nat.le_trans F.above (Nat.le_of_lt hb))
    refine h h'.objs.size c' _ ctv _ tk ⟨oc, vs, tq, rfl, hod, hov⟩ (fun c₀ ⟨_, _, _, e, _⟩ => ⟨rfl, congrArg Prod.fst (List.cons.inj (List.cons.inj e).2).1⟩) ⟨(F.ns.keeps hk).push _, fun b o e => Heap.get?_push_of_some _ (hk b o (F.keep b o e)), F.above⟩ (fun q hq => ?_) (by rw [List.map_append, List.map_append]; exact nd) (fun q _ k => k)
      (allLt_of fun q hq => Nat.lt_of_lt_of_le (Heap.lt_size (N q hq).1) hsz) hLs'
    rcases List.mem_cons.mp hq with rfl | hq
    · exact ⟨Heap.get?_push_size _ rfl, Nat.ne_of_gt hLs', fresh _ hLs'⟩
    · exact ⟨Heap.get?_push_of_some _ (hk _ _ (N q hq).1), (N q hq).2⟩

theorem makeTabE {M : Model} {A : Around} {E : Value → Shared → Prop} {s : Shared} {h₀ : Heap} {L a c P : Nat} {m mg mb : Str → Option Value} {cn : Str} {cs : Scope} {ccd : Value} {cl : List (Str × Addr)} {own pre post t : List (Addr × Obj)}
    {p : Program} {loose : List Str} {mean : ExcName → Option Value} {name qual : Str} {params : Arguments} {body : PySem.Expr} {scope : Scope} {pos : Pos} {firstLine : Nat} {clos : List (Str × Addr)} {Q : Value → Shared → Prop}
    (F : Fr h₀ L s.heap m) (N : News h₀ L s.heap (own ++ (pre ++ (t ++ post)))) (T : Top p loose mean mg mb h₀) (C : CodeHd h₀ c P) (hcd : ccd = .ref c) (ht : TabOk P pos.line pos.col qual t)
    (hown : ∀ q ∈ own, ∀ p ∈ pre ++ (t ++ post), p.1 ≠ q.1) (nd : ((pre ++ (t ++ post)).map (·.1)).Nodup)
    (hcl : closureFor scope (envX cn cs L a ccd cl) = pure clos)
    (h : ∀ (f c' : Nat) t' ctv h' tk, Made P pos.line pos.col qual c' t' → (∀ c₀, Made P pos.line pos.col qual c₀ t → t' = t ∧ c' = c₀) → Fr h₀ L h' m → News h₀ L h' ((f, kla_obj name qual params body scope clos ((mg "__name__").getD .none) c' ctv) :: (own ++ (pre ++ (t' ++ post)))) →
      ((pre ++ (t' ++ post)).map (·.1)).Nodup → (∀ q ∈ own, ∀ p ∈ pre ++ (t' ++ post), p.1 ≠ q.1) → AllLt f own → Low f (pre ++ (t' ++ post)) → @LT.lt Nat _ L f → Q (.ref f) { s with heap := h', toks := tk }) :
    wpAny M A (makeFunction name qual params (.expr body) scope (envX cn cs L a ccd cl) [] [] [] pos firstLine) Q E s := by
  obtain ⟨oP, hP⟩ := ht.mem
  refine makeAnyE F N T C hcd ht (fun q hq => (hown q hq _ (List.mem_append_right _ (List.mem_append_left _ hP))).symm) nd hcl fun f c' t' ctv h' tk hM hsame F' N' nd' hap hlt hLf => ?_
  have hf : ∀ p ∈ own ++ (pre ++ (t' ++ post)), p.1 < f := by
    have key : ∀ {l : List (Addr × Obj)}, AllLt f l → ∀ p ∈ l, p.1 < f := fun {l} => by
      induction l with
      | nil => intro _ p hp; cases hp
      | cons x r ih =>
        intro z p hp
        rcases List.mem_cons.mp hp with rfl | hp
        · exact z.1
        · exact ih z.2 p hp
    exact key hlt
  refine h f c' t' ctv h' tk hM hsame F' N' nd' (fun q hq p hp => ?_) (allLt_of fun p hp => hf p (List.mem_append_left _ hp)) (fun p hp => hf p (List.mem_append_right _ hp)) hLf
  rcases List.mem_append.mp hp with hp | hp
  · exact hown q hq p (List.mem_append_left _ hp)
  · rcases List.mem_append.mp hp with hp | hp
    · exact (hap q hq (fun r hr => (hown q hq r (List.mem_append_right _ (List.mem_append_left _ hr))).symm) p hp).symm
    · exact hown q hq p (List.mem_append_right _ (List.mem_append_right _ hp))


theorem makeLam {M : Model} {A : Around} {E : Value → Shared → Prop} {s : Shared} {h₀ : Heap} {L a c P : Nat} {m mg mb : Str → Option Value} {cn : Str} {cs : Scope} {ccd : Value} {cl : List (Str × Addr)} {own t : List (Addr × Obj)}
    {p : Program} {loose : List Str} {mean : ExcName → Option Value} {name qual : Str} {params : Arguments} {body : PySem.Expr} {scope : Scope} {pos : Pos} {firstLine : Nat} {clos : List (Str × Addr)} {Q : Value → Shared → Prop}
    (F : Fr h₀ L s.heap m) (N : News h₀ L s.heap (own ++ t)) (T : Top p loose mean mg mb h₀) (C : CodeHd h₀ c P) (hcd : ccd = .ref c) (ht : TabOk P pos.line pos.col qual t)
    (hown : ∀ q ∈ own, ∀ p ∈ t, p.1 ≠ q.1) (nd : (t.map (·.1)).Nodup)
    (hcl : closureFor scope (envX cn cs L a ccd cl) = pure clos)
    (h : ∀ (f c' : Nat) t' ctv h' tk, Made P pos.line pos.col qual c' t' → (∀ c₀, Made P pos.line pos.col qual c₀ t → t' = t ∧ c' = c₀) → Fr h₀ L h' m → News h₀ L h' ((f, kla_obj name qual params body scope clos ((mg "__name__").getD .none) c' ctv) :: (own ++ t')) →
      (t'.map (·.1)).Nodup → (∀ q ∈ own, ∀ p ∈ t', p.1 ≠ q.1) → AllLt f own → Low f t' → @LT.lt Nat _ L f → Q (.ref f) { s with heap := h', toks := tk }) :
    wpAny M A (makeFunction name qual params (.expr body) scope (envX cn cs L a ccd cl) [] [] [] pos firstLine) Q E s := by
  refine makeTabE (pre := []) (t := t) (post := []) F (by simpa using N) T C hcd ht (by simpa using hown) (by simpa using nd) hcl fun f c' t' ctv h' tk hM hs F' N' nd' hap hlt hlo hLf => ?_
  simp only [List.nil_append, List.append_nil] at N' nd' hap hlo
  exact h f c' t' ctv h' tk hM hs F' N' nd' hap hlt hlo hLf
noncomputable def lamAt (o : Obj) (i : Nat) : Option (Arguments × PySem.Expr × Scope) := match o.data with
  | .func fd => match fd.body with
    | .stmts b => match b[i]? with
      | some (.Assign _ (.Lambda ps e sc _) _) => some (ps, e, sc)
      | _ => none
    | _ => none
  | _ => none
end
end Mine
end

noncomputable section
open PySem PySem.W PySem.Calls PyProof.Rows
namespace Mine
theorem meets_lam {K : Frag} {prog : Program} {w : World} {fp : List (Addr × Obj)} {d u : Nat} {P : Nat → Value → List (Addr × Obj) → Prop}
    {name qual : Str} {params : Arguments} {body : PySem.Expr} {scope : Scope} {cl : List (Str × Addr)} {pm ctv : Value} {c' : Addr} {oc : Obj} {vs : Array Value} {t : Tok} {f : Addr} {args : List Value} {binds : List (Str × Value)}
    (ho : (f, kla_obj name qual params body scope cl pm c' ctv) ∈ fp) (hc : (c', oc) ∈ fp) (hcd : oc.data = .fields vs) (hcv : vs[1]? = some (.str qual t))
    (hbind : bindArgs (kla_fn name qual params body scope cl pm (.ref c') ctv) ⟨args, []⟩ = pure binds) (hloc : ∀ y ∈ binds, scope.names.lookup y.1 = some .local)
    (hcell : ∀ x ∈ scope.names, x.2 ≠ .cell)
    (h : ∀ (A : Around) (s : Shared) (g : Heap) (p : Program) (loose : List Str) (mean : ExcName → Option Value) (mg mb : Str → Option Value) (n₀ : Nat) (L : Nat) (h₁ : Heap) (tk : Nat) (k : Value → Shared → Prop),
      A.handled = none → A.depth + d < recursionLimit + 1 → A.units + u < cLine + 3 → K.In g → Top p loose mean mg mb g → n₀ ≤ L → (∀ p ∈ fp, p.1 < n₀) → Fr g L h₁ (fun y => binds.reverse.lookup y) → News g L h₁ fp →
      (∀ v l h' tk m', P n₀ v l → Fr g L h' m' → News g L h' l → k v { s with heap := h', toks := tk }) →
      wpAny (model prog w) A (eval body (envX qual scope L f (.ref c') cl)) (fun v s' => k v s') (fun _ _ => False) { s with heap := h₁, toks := tk })
    (hd : 0 < d := by decide) (hco : scope.isCoroutine = false := by rfl) (hgen : scope.isGenerator = false := by rfl) (hk : scope.kind = .function := by rfl) :
    Meets prog w K (.call (.ref f) ⟨args, []⟩) fp d u P := by
  intro A s g p loose mean mg mb hh hdep hu W X T R hR
  refine kla_callFunE (by omega) (W.led _ ho).1 rfl hco hgen rfl ⟨c', oc, vs, t, rfl, (W.led _ hc).1, hcd, hcv⟩ ?_
  rw [hbind]
  refine wpAny_pure (wpAny_newFunctionEnv hcell hloc (fun h₁ hns hsb => ⟨(T.nolimit.keeps W.keep).fresh _ hsb, ?_⟩) hk)
  show codeAny _ _ (.expr body (envX qual scope s.heap.objs.size f (.ref c') cl)) _ _
  have hk₁ : ∀ b o, s.heap.get? b = some o → h₁.get? b = some o := fun b o e => hsb.extBut b o (Nat.ne_of_lt (Heap.lt_size e)) (Heap.get?_push_of_some _ e)
  refine kla_codeExpr (wpAny_mono (h (A.deeper (envX qual scope s.heap.objs.size f (.ref c') cl)) s g p loose mean mg mb s.heap.objs.size s.heap.objs.size h₁ _ (fun v s' => R (.ok (.ret v)) s') hh ?_ ?_ X T (Nat.le_refl _) (fun p hp => Heap.lt_size (W.led p hp).1)
    ⟨hns, fun b o e => hk₁ b o (W.keep _ _ e), W.size⟩
    (fun p hp => ⟨hk₁ _ _ (W.led p hp).1, Nat.ne_of_lt (Heap.lt_size (W.led p hp).1), (W.led p hp).2⟩) fun v l h' tk m' hp F N => hR v l h' tk hp (Wo.of_fr F N)) (fun _ _ x => x) (fun _ _ x => x.elim))
  · show A.depth + 1 + d < recursionLimit + 1; omega
  · show A.units + 3 + u < cLine + 3; omega
end Mine
end

noncomputable section
open PySem PySem.W PySem.Calls PyProof.Rows PySem.SeqAt
namespace Mine
noncomputable abbrev okStr (x : Str) : Bool := x.cps.all (· < 0x110000)
theorem canLayAll0_strs : ∀ ns : List Str, (∀ x ∈ ns, okStr x = true) → PyData.canLayAll0 (ns.map PyData.str) = true
  | [], _ => by simp [PyData.canLayAll0]
  | n :: r, h => by
    have h1 : PyData.strOk n = true := h n (.head _)
    simp [PyData.canLayAll0, PyData.canLay0, canLayAll0_strs r fun x hx => h x (.tail _ hx), h1]
theorem depthAll_strs : ∀ ns : List Str, PyData.depthAll (ns.map PyData.str) ≤ 1
  | [] => by simp [PyData.depthAll]
  | n :: r => by
    have := depthAll_strs r
    simp only [List.map_cons, PyData.depthAll, PyData.depth]
    omega
theorem shaped_strs (ns : List Str) (h : ∀ x ∈ ns, okStr x = true) : shaped (.list (ns.map PyData.str)) = true := by
  have h1 := depthAll_strs ns
  have h2 : PyData.depth (.list (ns.map PyData.str)) ≤ 64 := by simp only [PyData.depth]; omega
  show (PyData.canLay0 (.list (ns.map PyData.str)) && decide (PyData.depth (.list (ns.map PyData.str)) ≤ 64)) = true
  rw [Bool.and_eq_true]
  exact ⟨by simp only [PyData.canLay0]; exact canLayAll0_strs ns h, decide_eq_true h2⟩
theorem noMix_strs : ∀ ns ms : List Str, noMixAll (ns.map PyData.str) (ms.map PyData.str) = true
  | [], [] => by simp [noMixAll]
  | [], _ :: _ => by simp [noMixAll]
  | _ :: _, [] => by simp [noMixAll]
  | _ :: r, _ :: q => by simp [noMixAll, noMix, noMix_strs r q]
theorem same_strs : ∀ ns ms : List Str, PySem.Spec.sameAll (ns.map PyData.str) (ms.map PyData.str) = decide (ns = ms)
  | [], [] => by simp [PySem.Spec.sameAll]
  | [], _ :: _ => by simp [PySem.Spec.sameAll]
  | _ :: _, [] => by simp [PySem.Spec.sameAll]
  | n :: r, k :: q => by
    simp only [List.map_cons, PySem.Spec.sameAll, PySem.Spec.same, same_strs r q]
    by_cases h : n = k <;> simp [h]
theorem readsAll_of_strs {h : Heap} : ∀ {vs : List Value} {ns : List Str}, StrsAre vs ns → ReadsAll h vs (ns.map PyData.str) []
  | _, _, .nil => .nil
  | _, _, .cons k t r => by
    have := ReadsAll.cons (Reads.str (h := h) k t) (readsAll_of_strs (h := h) r)
    simpa using this
theorem reads_of_strs {h : Heap} {a : Addr} {vs : List Value} {ns : List Str} (hl : h.IsList a vs.toArray) (hi : StrsAre vs ns) : Reads h (.ref a) (.list (ns.map PyData.str)) [a] := by
  obtain ⟨o, ho, hc, n, hd⟩ := hl
  exact Reads.list ho hc hd (by simpa using readsAll_of_strs hi)
section
variable {prog : Program} {w : World} {A : Around} {E : Value → Shared → Prop} {s : Shared}
theorem eq_strs {a b : Addr} {vs us : List Value} {ns ms : List Str} {Q : Value → Shared → Prop} (hl : s.heap.IsList a vs.toArray) (hi : StrsAre vs ns) (hl' : s.heap.IsList b us.toArray) (hi' : StrsAre us ms) (o1 : ∀ x ∈ ns, okStr x = true) (o2 : ∀ x ∈ ms, okStr x = true) (hu : A.units + 64 < cLine)
    (h : Q (.bool (decide (ns = ms))) s) : wpAny (model prog w) A (compareOp .Eq (.ref a) (.ref b)) Q E s :=
  eq_dataH_same (reads_of_strs hl hi) (reads_of_strs hl' hi') (shaped_strs ns o1) (shaped_strs ms o2) hu (by simp only [noMix]; exact noMix_strs ns ms) (by simp only [PySem.Spec.same]; rw [same_strs]; exact h)
theorem ne_strs {a b : Addr} {vs us : List Value} {ns ms : List Str} {Q : Value → Shared → Prop} (hl : s.heap.IsList a vs.toArray) (hi : StrsAre vs ns) (hl' : s.heap.IsList b us.toArray) (hi' : StrsAre us ms) (o1 : ∀ x ∈ ns, okStr x = true) (o2 : ∀ x ∈ ms, okStr x = true) (hu : A.units + 64 < cLine)
    (h : Q (.bool (!decide (ns = ms))) s) : wpAny (model prog w) A (compareOp .NotEq (.ref a) (.ref b)) Q E s :=
  ne_dataH_same (reads_of_strs hl hi) (reads_of_strs hl' hi') (shaped_strs ns o1) (shaped_strs ms o2) hu (by simp only [noMix]; exact noMix_strs ns ms) (by simp only [PySem.Spec.same]; rw [same_strs]; exact h)
end
theorem SignsAre.strs {vs : List Value} {cs : List Nat} (h : SignsAre vs cs) : StrsAre vs (cs.map fun c => txt [c]) := by
  induction h with
  | nil => exact .nil
  | cons c t h ih => exact .cons _ t ih
noncomputable def Asc (l : List Nat) : Prop := ∀ c ∈ l, c < 128
theorem Asc.ok {l : List Nat} (h : Asc l) : okStr (txt l) = true := by
  have e : okStr (txt l) = l.all (· < 0x110000) := by simp [okStr]
  rw [e, List.all_eq_true]
  intro c hc
  have := h c hc
  exact decide_eq_true (by omega)
theorem Asc.signs {l : List Nat} (h : Asc l) : ∀ x ∈ l.map (fun c => txt [c]), okStr x = true := fun x hx => by
  obtain ⟨c, hc, rfl⟩ := List.mem_map.mp hx
  exact Asc.ok fun d hd => by rw [List.mem_singleton.mp hd]; exact h c hc
end Mine
end

noncomputable section
open PySem PySem.W PySem.Calls PyProof.Rows
set_option maxRecDepth 100000
namespace Mine
theorem slot_method_call : Slot "method" "__call__" "method.__call__" :=
  .of (owner := "method") (n := "__call__") (by rw [typeLookup_type, builtinLookup_eq_fast]; kernel_rfl) (by decide +kernel) (by decide +kernel) (by decide +kernel)
    (by first | exact .inl (by decide +kernel) | exact .inr (by decide +kernel)) (by rw [isSubtype_type]; kernel_rfl)
theorem args_iter2 (a b : Value) : argsOk "iter" ⟨[a, b], []⟩ := by unfold argsOk; kernel_rfl
noncomputable abbrev ciObj (f e : Value) : Obj := { cls := .type "callable_iterator", data := .fields #[f, e, .bool false] }
noncomputable abbrev ciEnd : Obj := { cls := .type "callable_iterator", data := .fields #[.none, .none, .bool true] }
section
variable {prog : Program} {w : World} {A : Around} {E : Value → Shared → Prop} {s : Shared}
theorem wpAny_callBorrowed {f : Value} {pos : List Value} {Q : Value → Shared → Prop}
    (hc : codeAny (model prog w) A (.call f ⟨pos, []⟩) (fun r s' => match r with | .ok (.ret v) => Q v s' | .ok _ => False | .error e => E e s') s) :
    wpAny (model prog w) A (callBorrowed f pos) Q E s := by
  intro Γ p hΓ
  have h := wpAny_runValue hc Γ p hΓ
  rw [Sem.wp_runValue] at h
  unfold callBorrowed
  rw [Sem.wp_call]
  refine wpCode_mono (fun r s' z => ?_) h
  rcases r with e | (v | _ | _ | _) <;> exact z
theorem call_iter2 {q : Addr} {f self e : Value} {Q : Value → Shared → Prop} (ho : s.heap.get? q = some (methodObj f self))
    (h : Q (.ref s.heap.objs.size) { s with heap := s.heap.push (ciObj (.ref q) e) }) : wpAny (model prog w) A (call (.builtin "iter") [.ref q, e]) Q E s := by
  have hT : s.TypeIs (.ref q) "method" := ⟨_, ho, rfl⟩
  refine call_function_entry (by decide +kernel) (by decide +kernel) kdk_entry_iter (args_iter2 _ _) ?_
  unfold Builtin.«iter»
  refine wpAny_bind (m := someArgs "iter" 1 2 _) (wpAny_of_eq (a := [Value.ref q, e]) (by first | rfl | kernel_rfl!) ?_)
  dsimp only
  refine wpAny_bind (wpAny_specialOf hT slot_method_call.lookup ?_)
  dsimp only [Option.isNone]
  rw [if_neg (by decide)]
  refine wpAny_bind (wpAny_rule ?_)
  refine wpAny_bind (wpAny_newObj_type (wpAny_pure ⟨_, rfl, h⟩))

theorem owner_ci : Manifest.owners.lookup (String.ofList ['r', 'o', 't', 'a', 'r', 'e', 't', 'i', '_', 'e', 'l', 'b', 'a', 'l', 'l', 'a', 'c'].reverse) = some Manifest.sig_callable_iterator := by kernel_rfl
theorem slot_ci_next : Slot "callable_iterator" "__next__" "callable_iterator.__next__" :=
  .of (owner := "callable_iterator") (n := "__next__") (by rw [typeLookup_type, builtinLookup_eq_fast]; kernel_rfl) (by decide +kernel) (by decide +kernel) (by decide +kernel)
    (by first | exact .inl (by decide +kernel) | exact .inr (by decide +kernel)) (by rw [isSubtype_type]; kernel_rfl)
theorem slot_ci_iter : Slot "callable_iterator" "__iter__" "callable_iterator.__iter__" :=
  .of (owner := "callable_iterator") (n := "__iter__") (by rw [typeLookup_type, builtinLookup_eq_fast]; kernel_rfl) (by decide +kernel) (by decide +kernel) (by decide +kernel)
    (by first | exact .inl (by decide +kernel) | exact .inr (by decide +kernel)) (by rw [isSubtype_type]; kernel_rfl)
theorem entry_ci_next : entryFor table "callable_iterator.__next__" = some Builtin.«callable_iterator.__next__» := entryFor_of_tree (by kernel_rfl)
theorem entry_ci_iter : entryFor table "callable_iterator.__iter__" = some Builtin.«dict_keyiterator.__iter__» :=
  entryFor_alias (id' := "dict_keyiterator.__iter__") (by kernel_rfl) (by first | rfl | decide +kernel | (unfold String.splitOn; simp +decide [String.splitOnAux])) (by decide +kernel) (by kernel_rfl)
theorem args_ci_next (a : Value) : argsOk "callable_iterator.__next__" ⟨[a], []⟩ := by
  unfold argsOk; rw [signature?_of (id := "callable_iterator.__next__") (n := ['_', '_', 't', 'x', 'e', 'n', '_', '_']) (o := ['r', 'o', 't', 'a', 'r', 'e', 't', 'i', '_', 'e', 'l', 'b', 'a', 'l', 'l', 'a', 'c']) (by kernel_rfl) owner_ci]; kernel_rfl
theorem args_ci_iter (a : Value) : argsOk "callable_iterator.__iter__" ⟨[a], []⟩ := by
  unfold argsOk; rw [signature?_of (id := "callable_iterator.__iter__") (n := ['_', '_', 'r', 'e', 't', 'i', '_', '_']) (o := ['r', 'o', 't', 'a', 'r', 'e', 't', 'i', '_', 'e', 'l', 'b', 'a', 'l', 'l', 'a', 'c']) (by kernel_rfl) owner_ci]; kernel_rfl
theorem iter_ci {I : Addr} {f e : Value} {Q : Value → Shared → Prop} (ho : s.heap.get? I = some (ciObj f e)) (h : Q (.ref I) s) : wpAny (model prog w) A (pyIter (.ref I)) Q E s := by
  have hT : s.TypeIs (.ref I) "callable_iterator" := ⟨_, ho, rfl⟩
  refine wpAny_pyIter_slot hT slot_ci_iter (wpAny_call_entry slot_ci_iter hT entry_ci_iter ?_ (args_ci_iter _))
  show wpAny _ _ (ret (.ref I)) _ _ s
  exact wpAny_pure ⟨_, rfl, "callable_iterator", _, hT, slot_ci_next.lookup, h⟩

theorem borrows_method {q f : Addr} {self : Value} {fo : Obj} {fd : FuncData} {Q : Bool → Shared → Prop} (hq : s.heap.get? q = some (methodObj (.ref f) self)) (hf : s.heap.get? f = some fo) (hd : fo.data = .func fd)
    (h : Q true s) : wpAny (model prog w) A (borrowsExactly (.ref q)) Q E s := by
  unfold borrowsExactly
  dsimp only
  refine wpAny_bind (wpAny_load hq ?_)
  dsimp only
  rw [if_pos (by decide)]
  show wpAny _ _ (load f >>= _) _ _ s
  refine wpAny_bind (wpAny_load hf ?_)
  rw [hd]
  exact wpAny_pure h
theorem next_ci {I q f : Addr} {self : Value} {e : Str} {te : Tok} {Q : Option Value → Shared → Prop} (hh : A.handled = none) (hI : s.heap.get? I = some (ciObj (.ref q) (.str e te))) (hq : s.heap.get? q = some (methodObj (.ref f) self))
    (hf : ∃ fo fd, s.heap.get? f = some fo ∧ fo.data = .func fd)
    (hc : codeAny (model prog w) A.in1 (.call (.ref q) ⟨[], []⟩) (fun r s' => ∃ y t, r = .ok (.ret (.str y t)) ∧ s'.heap.get? I = some (ciObj (.ref q) (.str e te)) ∧ s'.heap.get? q = some (methodObj (.ref f) self) ∧ (∃ fo fd, s'.heap.get? f = some fo ∧ fo.data = .func fd) ∧
      (y ≠ e → Q (some (.str y t)) s') ∧ (y = e → ∀ h', h'.get? I = some ciEnd → Heap.ExtBut I s'.heap h' → Q none { s' with heap := h' })) s) :
    wpAny (model prog w) A (pyNext (.ref I)) Q E s := by
  have hT : s.TypeIs (.ref I) "callable_iterator" := ⟨_, hI, rfl⟩
  obtain ⟨fo, fd, hf1, hf2⟩ := hf
  unfold pyNext
  refine wpAny_bind (wpAny_attempt (wpAny_callSpecial?_slot (name := Str.ofString "__next__") hT slot_ci_next
    (wpAny_call_entry slot_ci_next hT entry_ci_next ?_ (args_ci_next _))))
  unfold Builtin.«callable_iterator.__next__»
  refine wpAny_bind (wpAny_of_eq (a := (Value.ref I, [])) rfl ?_)
  try dsimp only
  refine wpAny_bind (wpAny_field hI rfl (x := .bool false) rfl ?_)
  rw [if_neg (by decide)]
  refine wpAny_bind (wpAny_field hI rfl (x := .ref q) rfl ?_)
  unfold callOutOfASlot
  refine wpAny_bind (wpAny_attempt (wpAny_bind (borrows_method hq hf1 hf2 ?_)))
  rw [if_pos rfl]
  refine wpAny_callBorrowed (codeAny_mono hc fun r s' z => ?_)
  obtain ⟨y, t, rfl, zI, zq, ⟨fo', fd', zf1, zf2⟩, zs, ze⟩ := z
  dsimp only
  refine wpAny_bind (wpAny_field zI rfl (x := .bool false) rfl ?_)
  rw [if_neg (by decide)]
  refine wpAny_bind (wpAny_field zI rfl (x := .str e te) rfl ?_)
  refine wpAny_bind (wpAny_holding (wpAny_eqBool_str ?_))
  by_cases hey : e = y
  · subst hey
    simp only [decide_true, Bool.not_true, Bool.false_eq_true, if_false]
    refine wpAny_bind (wpAny_rule ?_)
    refine wpAny_bind (m := (field (.ref I) 0 >>= fun v => slotLetsGo "callable_iterator.__next__" v _ >>= fun _ => setField (.ref I) 0 .none >>= fun _ => setField (.ref I) 1 .none >>= fun _ => setField (.ref I) 2 (.bool true))) ?_
    refine wpAny_bind (wpAny_field zI rfl (x := .ref q) rfl ?_)
    unfold slotLetsGo
    dsimp only
    refine wpAny_bind (wpAny_bind (borrows_method zq zf1 zf2 ?_))
    rw [if_pos rfl]
    refine wpAny_pure ?_
    refine wpAny_bind (wpAny_setField_rec (vs := #[.ref q, .str e te, .bool false]) zI (by simp) fun h1 g1 b1 => ?_)
    refine wpAny_bind (wpAny_setField_rec g1 (by simp) fun h2 g2 b2 => ?_)
    refine wpAny_setField_rec g2 (by simp) fun h3 g3 b3 => ?_
    have hend : h3.get? I = some ciEnd := g3
    have hext : Heap.ExtBut I s'.heap h3 := fun b o hb eo => b3.extBut b o hb (b2.extBut b o hb (b1.extBut b o hb eo))
    first
    | show wpAny _ _ (newExc (.type "StopIteration") [] >>= _) _ _ _
    | (refine wpAny_bind ?_; show wpAny _ _ (newExc (.type "StopIteration") [] >>= _) _ _ _)
    refine wpAny_bind ?_
    simp only [newExc, newTuple]
    refine wpAny_bind (wpAny_newObj_type ?_ (by size_fits))
    refine wpAny_bind (m := firstArgMember _ _) (wpAny_of_eq (a := Value.none) (by first | rfl | (simp only [firstArgMember]; rfl)) ?_)
    refine wpAny_newObj_type ?_ (by size_fits)
    simp only [raiseNew]
    refine wpAny_bind (wpAny_handled ?_)
    first | rw [show A.in1.handled = none from hh] | rw [hh]
    refine wpAny_bind (wpAny_pure (wpAny_throw ?_))
    refine wpAny_bind (wpAny_isInstance (T := "StopIteration") (b := true) ⟨_, Heap.get?_push_size _ rfl, rfl⟩ isSubtype_stop ?_)
    exact wpAny_pure (ze rfl _ (Heap.get?_push_of_some _ (Heap.get?_push_of_some _ hend)) (Heap.ExtBut.push (Heap.ExtBut.push hext _) _))
  · rw [decide_eq_false hey]
    simp only [Bool.not_false, if_true]
    exact wpAny_pure ⟨_, rfl, wpAny_pure (zs fun h => hey h.symm)⟩
end
end Mine
end

noncomputable section
open PySem PySem.W PySem.Calls PyProof.Rows
set_option maxRecDepth 100000
namespace Mine
section
variable {prog : Program} {w : World} {A : Around} {E : Value → Shared → Prop} {s : Shared}
theorem next_ci_end {I : Addr} {Q : Option Value → Shared → Prop} (hh : A.handled = none) (hI : s.heap.get? I = some ciEnd)
    (hQ : ∀ h', h'.get? I = some ciEnd → Heap.ExtBut I s.heap h' → Q none { s with heap := h' }) : wpAny (model prog w) A (pyNext (.ref I)) Q E s := by
  have hT : s.TypeIs (.ref I) "callable_iterator" := ⟨_, hI, rfl⟩
  unfold pyNext
  refine wpAny_bind (wpAny_attempt (wpAny_callSpecial?_slot (name := Str.ofString "__next__") hT slot_ci_next
    (wpAny_call_entry slot_ci_next hT entry_ci_next ?_ (args_ci_next _))))
  unfold Builtin.«callable_iterator.__next__»
  refine wpAny_bind (wpAny_of_eq (a := (Value.ref I, [])) rfl ?_)
  try dsimp only
  refine wpAny_bind (wpAny_field hI rfl (x := .bool true) rfl ?_)
  rw [if_pos (by decide)]
  refine wpAny_bind (wpAny_rule ?_)
  first
  | show wpAny _ _ (newExc (.type "StopIteration") [] >>= _) _ _ _
  | (refine wpAny_bind ?_; show wpAny _ _ (newExc (.type "StopIteration") [] >>= _) _ _ _)
  refine wpAny_bind ?_
  simp only [newExc, newTuple]
  refine wpAny_bind (wpAny_newObj_type ?_ (by size_fits))
  refine wpAny_bind (m := firstArgMember _ _) (wpAny_of_eq (a := Value.none) (by first | rfl | (simp only [firstArgMember]; rfl)) ?_)
  refine wpAny_newObj_type ?_ (by size_fits)
  simp only [raiseNew]
  refine wpAny_bind (wpAny_handled ?_)
  first | rw [show A.in1.handled = none from hh] | rw [hh]
  refine wpAny_bind (wpAny_pure (wpAny_throw ?_))
  refine wpAny_bind (wpAny_isInstance (T := "StopIteration") (b := true) ⟨_, Heap.get?_push_size _ rfl, rfl⟩ isSubtype_stop ?_)
  exact wpAny_pure (hQ _ (Heap.get?_push_of_some _ (Heap.get?_push_of_some _ hI)) (((Heap.ExtBut.refl _ _).push _).push _))

theorem forOwn {env : Env} {h₀ : Heap} {R : Result → Shared → Prop} {x : Str} {px : Pos} {body : List Stmt} {it : Value} {m : Str → Option Value} {news : List (Addr × Obj)} {k : Nat}
    (hx : env.kindOf x = some .local) (hp : (env.scope.kind == .class || (env.scope.kind == .module && env.locals != env.globals)) = false)
    (F : Fr h₀ env.locals s.heap m) (N : News h₀ env.locals s.heap news)
    (J : Nat → (Str → Option Value) → List (Addr × Obj) → Prop) (hj : J k m news)
    (turn : ∀ k m₁ news₁ h tk (kn : Shared → Prop), J k m₁ news₁ → Fr h₀ env.locals h m₁ → News h₀ env.locals h news₁ →
      (∀ k' h' tk' m' news', k' < k → Fr h₀ env.locals h' m' → News h₀ env.locals h' news' → J k' m' news' → kn { s with heap := h', toks := tk' }) →
      wpAny (model prog w) A (pyNext it) (fun r s₁ => match r with
        | none => R (.ok .next) s₁
        | some v => ∃ h' tk' news₂, s₁ = { s with heap := h', toks := tk' } ∧ Fr h₀ env.locals h' m₁ ∧ News h₀ env.locals h' news₂ ∧
          ∀ h₂ tk₂, Fr h₀ env.locals h₂ (fun y => if y = x then some v else m₁ y) → News h₀ env.locals h₂ news₂ →
            wpAny (model prog w) A (execs body env) (fun f s₃ => match f with | .ret v => R (.ok (.ret v)) s₃ | .brk => R (.ok .next) s₃ | _ => kn s₃) (fun _ _ => False) { s with heap := h₂, toks := tk₂ }) (fun _ _ => False) { s with heap := h, toks := tk }) :
    codeAny (model prog w) A (.forLoop (.Name x px) it body [] env) R s := by
  refine codeAny_forLoop (fun k s' => ∃ h' tk m' news', s' = { s with heap := h', toks := tk } ∧ Fr h₀ env.locals h' m' ∧ News h₀ env.locals h' news' ∧ J k m' news') ?_ k ⟨s.heap, s.toks, m, news, rfl, F, N, hj⟩
  rintro k s' ⟨h', tk, m', news', rfl, F', N', hJ⟩
  refine wpAny_mono (turn k m' news' h' tk (fun s₃ => ∃ m, m < k ∧ ∃ h' tk m' news', s₃ = { s with heap := h', toks := tk } ∧ Fr h₀ env.locals h' m' ∧ News h₀ env.locals h' news' ∧ J m m' news') hJ F' N' fun k' h' tk' m' news' hk F' N' hJ => ⟨k', hk, h', tk', m', news', rfl, F', N', hJ⟩) (fun r s₁ z => ?_) fun _ _ z => False.elim z
  cases r with
  | none => exact wpAny_execs_nil z
  | some v =>
    obtain ⟨h₁, tk₁, news₂, rfl, F₁, N₁, hb⟩ := z
    refine wpAny_assign_Name (wpAny_storeName_local hx F₁.ns (fun h₂ hn₂ hs₂ => ?_) hp)
    refine wpAny_mono (hb h₂ _ (F₁.set hn₂ hs₂) (N₁.set hs₂)) (fun f s₃ z => ?_) fun _ _ z => False.elim z
    cases f <;> exact z
theorem For_own {env : Env} {x : Str} {px pos : Pos} {iter : PySem.Expr} {body : List Stmt} {Q : Flow → Shared → Prop}
    (h : wpAny (model prog w) A (eval iter env) (fun xv s₁ => wpAny (model prog w) A (pyIter xv) (fun it s₂ =>
      codeAny (model prog w) A (.forLoop (.Name x px) it body [] env) (fun r s' => match r with | .ok f => Q f s' | .error _ => False) s₂) (fun _ _ => False) s₁) (fun _ _ => False) s)
    (hs : ∀ x, foldedSetIterable iter env x = pure x := by intro _; rfl) :
    wpAny (model prog w) A (exec (.For (.Name x px) iter body [] pos) env) Q (fun _ _ => False) s := by
  refine wpAny_For (wpAny_mono h (fun xv s₁ h₁ => wpAny_mono h₁ (fun it s₂ h₂ => codeAny_mono h₂ fun r s' z => ?_) fun _ _ e => e) fun _ _ e => e) hs
  cases r with
  | ok f => exact z
  | error e => exact z.elim
theorem iter2_K {h₀ : Heap} {L : Addr} {m : Str → Option Value} {news : List (Addr × Obj)} {q : Addr} {f self e : Value} {Q : Value → Shared → Prop} (F : Fr h₀ L s.heap m) (N : News h₀ L s.heap news) (hq : (q, methodObj f self) ∈ news)
    (h : ∀ D h', Fr h₀ L h' m → News h₀ L h' ((D, ciObj (.ref q) e) :: news) → (∀ p ∈ news, p.1 < D) → Q (.ref D) { s with heap := h' }) : wpAny (model prog w) A (call (.builtin "iter") [.ref q, e]) Q E s :=
  call_iter2 (N _ hq).1 (h _ _ (F.push _) (News.push F N _ rfl) fun p hp => Heap.lt_size (N p hp).1)
end
end Mine
end

noncomputable section
open PySem PySem.W PySem.Calls PyProof.Rows
namespace Mine
open PySem.Sre

noncomputable def codeDot : Array Nat := #[14, 4, 0, 1, 1, 6, 1, 16, 46, 1]
noncomputable def codeEnd : Array Nat := #[14, 9, 4, 1, 2, 16, 10, 16, 13, 0, 7, 7, 16, 13, 16, 10, 15, 18, 5, 16, 10, 15, 13, 11, 16, 13, 5, 5, 0, 16, 10, 1, 15, 2, 0, 1]

theorem runFor_done {n : Nat} {m : M} (h : m.outcome.isSome = true) : m.runFor n = m := by
  cases n with
  | zero => rfl
  | succ n => simp [M.runFor, h]
theorem runFor_add (a b : Nat) (m : M) : m.runFor (a + b) = (m.runFor a).runFor b := by
  induction a generalizing m with
  | zero => simp [M.runFor]
  | succ a ih =>
    rw [Nat.add_right_comm]
    cases h : m.outcome.isSome with
    | true => rw [runFor_done h, runFor_done h, runFor_done h]
    | false => simp [M.runFor, h, ih]
theorem runFor_succ {n : Nat} {m : M} (h : m.outcome = none) : m.runFor (n + 1) = m.step.runFor n := by simp [M.runFor, h]

noncomputable def Ends (m m' : M) (n : Nat) : Prop := m.runFor n = m' ∧ m'.outcome.isSome = true
theorem Ends.steps {m m' m2 : M} {a n : Nat} (h0 : m.runFor a = m2) (h : Ends m2 m' n) : Ends m m' (a + n) := ⟨by rw [runFor_add, h0]; exact h.1, h.2⟩

section
variable {prog : Program} {w : World} {A : Around} {E : Value → Shared → Prop} {s : Shared}
theorem drive_ends {m m' : M} {Q : M → Shared → Prop} (hq : Q m' s) : ∀ (k n : Nat), Ends m m' n → n ≤ 4 * k → wpAny (model prog w) A (Builtin.Re.reDrive (k + 1) m) Q E s := by
  intro k
  induction k generalizing m with
  | zero =>
    intro n h hn
    unfold Builtin.Re.reDrive
    have : n = 0 := by omega
    subst this
    have e : m = m' := h.1
    subst e
    dsimp only
    rw [runFor_done h.2, if_pos h.2]
    exact wpAny_pure hq
  | succ k ih =>
    intro n h hn
    unfold Builtin.Re.reDrive
    dsimp only
    by_cases hs : (m.runFor Builtin.Re.reTurnSteps).outcome.isSome = true
    · have e : m.runFor Builtin.Re.reTurnSteps = m' := by
        by_cases hn4 : n ≤ Builtin.Re.reTurnSteps
        · obtain ⟨d, hd⟩ := Nat.exists_eq_add_of_le hn4
          rw [hd, runFor_add, h.1, runFor_done h.2]
        · obtain ⟨d, hd⟩ := Nat.exists_eq_add_of_le (Nat.le_of_not_le hn4)
          have := h.1
          rw [hd, runFor_add, runFor_done hs] at this
          exact this
      rw [if_pos hs, e]
      exact wpAny_pure hq
    · rw [if_neg hs]
      refine wpAny_bind (wpAny_rule ?_)
      have h4 : Builtin.Re.reTurnSteps = 4 := rfl
      rw [h4] at hs ⊢
      by_cases hn4 : n ≤ 4
      · exfalso
        obtain ⟨d, hd⟩ := Nat.exists_eq_add_of_le hn4
        apply hs
        rw [hd, runFor_add, h.1, runFor_done h.2]
        exact h.2
      · obtain ⟨d, hd⟩ := Nat.exists_eq_add_of_le (Nat.le_of_not_le hn4)
        refine ih d ⟨?_, h.2⟩ (by omega)
        have := h.1
        rw [hd, runFor_add] at this
        exact this
theorem to_end {m m' : M} {n : Nat} {Q : Option M → Shared → Prop} (h : Ends m m' n) (hn : n ≤ 1000000) (hy : m'.outcome = some .matched → Q (some m') s) (hf : m'.outcome = some .failed → Q none s)
    (ho : m'.outcome = some .matched ∨ m'.outcome = some .failed) : wpAny (model prog w) A (Builtin.Re.reRunToEnd m) Q E s := by
  unfold Builtin.Re.reRunToEnd
  have e : (2 : Nat) ^ 64 = (2 ^ 64 - 1) + 1 := by decide
  rw [e]
  refine wpAny_bind (drive_ends ?_ (2 ^ 64 - 1) n h (Nat.le_trans hn (by decide)))
  refine wpAny_bind (wpAny_forIn_list _ (fun _ _ s' => s' = s) _ (fun x rest b s' hs => ?_) (fun b s' hs => ?_) _ _ rfl)
  · subst hs
    split
    · refine wpAny_bind (wpAny_rule ?_)
      exact wpAny_pure rfl
    · exact wpAny_pure rfl
  · subst hs
    rcases ho with ho | ho
    · rw [ho]; exact wpAny_pure (hy ho)
    · rw [ho]; exact wpAny_pure (hf ho)
end
end Mine
end

noncomputable section
open PySem PySem.W PySem.Calls PyProof.Rows
namespace Mine
open PySem.Sre
noncomputable def dotAt (text : Array Nat) (lim s : Nat) (first : Bool) (seen : Sre.Seen) : M :=
  { code := codeDot, text, lim, start := s, lastStart := lim, pc := 5, pos := s, handed := s, outermost := first, marks := #[], frames := [{ wait := .nextStart, pc := 5, pos := s, outermost := first }], weight := 1, seen := seen }
theorem dot_s1 (text : Array Nat) (lim s : Nat) (first : Bool) (seen : Sre.Seen) :
    (dotAt text lim s first seen).step = if (s == 0 || text.getD (s - 1) 0 == 10) = true then { dotAt text lim s first ((seen.add 6).add 44) with pc := 7 } else { dotAt text lim s first ((seen.add 6).add 44) with answer := some false } := rfl
theorem dot_s2 (text : Array Nat) (lim s : Nat) (first : Bool) (seen : Sre.Seen) :
    M.step { dotAt text lim s first seen with pc := 7 } = if s ≥ lim then { dotAt text lim s first (seen.add 16) with pc := 7, answer := some false } else
      (if (text.getD s 0 == 46) = true then { dotAt text lim s first (seen.add 16) with pc := 9, pos := s + 1 } else { dotAt text lim s first (seen.add 16) with pc := 7, answer := some false }) := by
  show (if s ≥ lim then _ else _) = _
  split
  · rfl
  · show (match (Except.ok (text.getD s 0 == 46, seen.add 16) : Except String (Bool × Sre.Seen)) with | .error why => _ | .ok (false, seen) => _ | .ok (true, seen) => _) = _
    cases text.getD s 0 == 46 <;> rfl
theorem dot_s3 (text : Array Nat) (lim s p : Nat) (first : Bool) (seen : Sre.Seen) :
    M.step { dotAt text lim s first seen with pc := p, answer := some false } = if s < lim then dotAt text lim (s + 1) false seen else { dotAt text lim s first seen with frames := [], weight := 0, answer := some false } := by
  show (if s < lim then _ else _) = _
  split <;> rfl
theorem dot_s4 (text : Array Nat) (lim s : Nat) (first : Bool) (seen : Sre.Seen) :
    M.runFor 4 { dotAt text lim s first seen with pc := 9, pos := s + 1 } = { dotAt text lim s first (seen.add 1) with frames := [], weight := 0, answer := some true, handed := s + 1, outcome := some .matched } := by
  cases first <;> rfl
theorem dot_s5 (text : Array Nat) (lim s : Nat) (first : Bool) (seen : Sre.Seen) :
    M.step { dotAt text lim s first seen with frames := [], weight := 0, answer := some false } = { dotAt text lim s first seen with frames := [], weight := 0, answer := some false, outcome := some .failed } := rfl
end Mine
end

noncomputable section
open PySem PySem.W PySem.Calls PyProof.Rows
namespace Mine
open PySem.Sre
noncomputable def DotP (text : Array Nat) (p : Nat) : Prop := (p = 0 ∨ text.getD (p - 1) 0 = 10) ∧ text.getD p 0 = 46
theorem dot_next {text : Array Nat} {lim s : Nat} {first : Bool} {seen : Sre.Seen} (hs : s < lim) (h : ¬ DotP text s) : ∃ n ≤ 3, ∃ seen', (dotAt text lim s first seen).runFor n = dotAt text lim (s + 1) false seen' := by
  by_cases hA : (s == 0 || text.getD (s - 1) 0 == 10) = true
  · have hL : ¬ (text.getD s 0 == 46) = true := fun e => h ⟨by simpa using hA, by simpa using e⟩
    refine ⟨3, by omega, ((seen.add 6).add 44).add 16, ?_⟩
    rw [runFor_succ rfl, dot_s1, if_pos hA, runFor_succ rfl, dot_s2, if_neg (by omega), if_neg hL, runFor_succ rfl, dot_s3, if_pos hs]
    rfl
  · refine ⟨2, by omega, (seen.add 6).add 44, ?_⟩
    rw [runFor_succ rfl, dot_s1, if_neg hA, runFor_succ rfl]
    show M.runFor 0 (M.step { dotAt text lim s first ((seen.add 6).add 44) with pc := 5, answer := some false }) = _
    rw [dot_s3, if_pos hs]
    rfl
theorem dot_hit {text : Array Nat} {lim s : Nat} {first : Bool} {seen : Sre.Seen} (hs : s < lim) (h : DotP text s) : ∃ m', Ends (dotAt text lim s first seen) m' 6 ∧ m'.outcome = some .matched ∧ m'.start = s ∧ m'.handed = s + 1 := by
  have hA : (s == 0 || text.getD (s - 1) 0 == 10) = true := by simpa using h.1
  have hL : (text.getD s 0 == 46) = true := by simpa using h.2
  have e : (dotAt text lim s first seen).runFor 6 = { dotAt text lim s first ((((seen.add 6).add 44).add 16).add 1) with frames := [], weight := 0, answer := some true, handed := s + 1, outcome := some .matched } := by
    rw [runFor_succ rfl, dot_s1, if_pos hA, runFor_succ rfl, dot_s2, if_neg (by omega), if_pos hL, dot_s4]
  exact ⟨_, ⟨e, rfl⟩, rfl, rfl, rfl⟩
theorem dot_over {text : Array Nat} {s : Nat} {first : Bool} {seen : Sre.Seen} : ∃ m' n, n ≤ 4 ∧ Ends (dotAt text s s first seen) m' n ∧ m'.outcome = some .failed := by
  by_cases hA : (s == 0 || text.getD (s - 1) 0 == 10) = true
  · have e : (dotAt text s s first seen).runFor 4 = { dotAt text s s first (((seen.add 6).add 44).add 16) with frames := [], weight := 0, answer := some false, outcome := some .failed } := by
      rw [runFor_succ rfl, dot_s1, if_pos hA, runFor_succ rfl, dot_s2, if_pos (Nat.le_refl _), runFor_succ rfl, dot_s3, if_neg (Nat.lt_irrefl _), runFor_succ rfl, dot_s5]
      rfl
    exact ⟨_, 4, by omega, ⟨e, rfl⟩, rfl⟩
  · have e : (dotAt text s s first seen).runFor 3 = { dotAt text s s first ((seen.add 6).add 44) with frames := [], weight := 0, answer := some false, outcome := some .failed } := by
      rw [runFor_succ rfl, dot_s1, if_neg hA, runFor_succ rfl]
      have e : ({ dotAt text s s first ((seen.add 6).add 44) with answer := some false } : M) = { dotAt text s s first ((seen.add 6).add 44) with pc := 5, answer := some false } := rfl
      rw [e, dot_s3, if_neg (Nat.lt_irrefl _), runFor_succ rfl, dot_s5]
      rfl
    exact ⟨_, 3, by omega, ⟨e, rfl⟩, rfl⟩
theorem dot_find {text : Array Nat} {lim : Nat} : ∀ (k s : Nat) (first : Bool) (seen : Sre.Seen), s + k = lim → ∃ m' n, n ≤ 3 * k + 6 ∧ Ends (dotAt text lim s first seen) m' n ∧
    ((m'.outcome = some .failed ∧ ∀ q, s ≤ q → q < lim → ¬ DotP text q) ∨ (m'.outcome = some .matched ∧ ∃ p, s ≤ p ∧ p < lim ∧ DotP text p ∧ (∀ q, s ≤ q → q < p → ¬ DotP text q) ∧ m'.start = p ∧ m'.handed = p + 1)) := by
  intro k
  induction k with
  | zero =>
    intro s first seen e
    obtain rfl : s = lim := e
    obtain ⟨m', n, hn, h, ho⟩ := dot_over (text := text) (s := s) (first := first) (seen := seen)
    exact ⟨m', n, by omega, h, .inl ⟨ho, fun q h1 h2 => absurd h2 (Nat.not_lt.mpr h1)⟩⟩
  | succ k ih =>
    intro s first seen e
    by_cases hd : DotP text s
    · obtain ⟨m', h, ho, h1, h2⟩ := dot_hit (first := first) (seen := seen) (show s < lim by omega) hd
      exact ⟨m', 6, by omega, h, .inr ⟨ho, s, Nat.le_refl _, by omega, hd, fun q a b => absurd b (Nat.not_lt.mpr a), h1, h2⟩⟩
    · obtain ⟨a, ha, seen', hstep⟩ := dot_next (first := first) (seen := seen) (show s < lim by omega) hd
      obtain ⟨m', n, hn, h, ho⟩ := ih (s + 1) false seen' (by omega)
      refine ⟨m', a + n, by omega, Ends.steps hstep h, ?_⟩
      have step : ∀ q, s ≤ q → ¬ s + 1 ≤ q → ¬ DotP text q := fun q h1 h2 => by
        have : q = s := by omega
        rw [this]; exact hd
      rcases ho with ⟨ho, hq⟩ | ⟨ho, p, p1, p2, p3, p4, p5, p6⟩
      · exact .inl ⟨ho, fun q h1 h2 => if h3 : s + 1 ≤ q then hq q h3 h2 else step q h1 h3⟩
      · exact .inr ⟨ho, p, by omega, p2, p3, fun q h1 h2 => if h3 : s + 1 ≤ q then p4 q h3 h2 else step q h1 h3, p5, p6⟩
theorem dot_search {text : Array Nat} {s : Nat} (hs : s ≤ text.size) : ∃ m' n, n ≤ 3 * text.size + 7 ∧ Ends (forSearch codeDot text 0 s text.size false) m' n ∧
    ((m'.outcome = some .failed ∧ ∀ q, s ≤ q → q < text.size → ¬ DotP text q) ∨ (m'.outcome = some .matched ∧ ∃ p, s ≤ p ∧ p < text.size ∧ DotP text p ∧ (∀ q, s ≤ q → q < p → ¬ DotP text q) ∧ m'.start = p ∧ m'.handed = p + 1)) := by
  by_cases he : s = text.size
  · subst he
    have hm : forSearch codeDot text 0 text.size text.size false = { code := codeDot, text, lim := text.size, start := text.size, pc := 5, pos := text.size, handed := text.size, marks := #[], seen := ({} : Sre.Seen).add 14, answer := some false } := by
      show (if (decide (text.size > text.size) || decide (text.size - text.size < 1)) = true then _ else _) = _
      rw [if_pos (by simp)]
      rfl
    have e : (forSearch codeDot text 0 text.size text.size false).runFor 1 = { code := codeDot, text, lim := text.size, start := text.size, pc := 5, pos := text.size, handed := text.size, marks := #[], seen := ({} : Sre.Seen).add 14, answer := some false, outcome := some .failed } := by
      rw [hm]; rfl
    exact ⟨_, 1, by omega, ⟨e, rfl⟩, .inl ⟨rfl, fun q h1 h2 => absurd h2 (Nat.not_lt.mpr h1)⟩⟩
  · have hm : forSearch codeDot text 0 s text.size false = dotAt text text.size s true (({} : Sre.Seen).add 14) := by
      show (if (decide (s > text.size) || decide (text.size - s < 1)) = true then _ else _) = _
      rw [if_neg (by simp; omega)]
      rfl
    obtain ⟨m', n, hn, h⟩ := dot_find (text := text) (lim := text.size) (text.size - s) s true (({} : Sre.Seen).add 14) (by omega)
    rw [hm]
    exact ⟨m', n, Nat.le_trans hn (Nat.add_le_add (Nat.mul_le_mul_left 3 (Nat.sub_le ..)) (by decide)), h⟩
end Mine
end

noncomputable section
open PySem PySem.W PySem.Calls PyProof.Rows
namespace Mine
open PySem.Sre
noncomputable def eM (text : Array Nat) (lim p pc pos handed : Nat) (om : Bool) (fr : List Sre.Frame) (wt : Nat) (ans : Option Bool) (seen : Sre.Seen) : M :=
  { code := codeEnd, text, lim, start := p, lastStart := lim, pc, pos, handed, outermost := om, marks := #[], frames := fr, weight := wt, answer := ans, seen := seen }
noncomputable abbrev fS (p : Nat) : Sre.Frame := { wait := .nextStart, pc := 10, pos := p, outermost := true }
noncomputable abbrev fB (p i : Nat) : Sre.Frame := { wait := .nextBranch, pc := i, pos := p, outermost := true, kept := { lastmark := -1, lastindex := -1, whole := false, marks := #[] } }
noncomputable abbrev fN (q : Nat) : Sre.Frame := { wait := .lookNot, pc := 26, pos := q, outermost := true, kept := { lastmark := -1, lastindex := -1, whole := false, marks := #[] } }
section
variable (text : Array Nat) (lim p pos handed : Nat) (om : Bool) (fr : List Sre.Frame) (wt : Nat) (seen : Sre.Seen)
theorem e_l12 : (eM text lim p 12 pos handed om fr wt none seen).step = if pos ≥ lim then eM text lim p 12 pos handed om fr wt (some false) (seen.add 16) else
      if (text.getD pos 0 == 13) = true then eM text lim p 14 (pos + 1) handed om fr wt none (seen.add 16) else eM text lim p 12 pos handed om fr wt (some false) (seen.add 16) := by
  show (if pos ≥ lim then _ else _) = _
  split
  · rfl
  · show (match (Except.ok (text.getD pos 0 == 13, seen.add 16) : Except String (Bool × Sre.Seen)) with | .error why => _ | .ok (false, seen) => _ | .ok (true, seen) => _) = _
    cases text.getD pos 0 == 13 <;> rfl
theorem e_l14 : (eM text lim p 14 pos handed om fr wt none seen).step = if pos ≥ lim then eM text lim p 14 pos handed om fr wt (some false) (seen.add 16) else
      if (text.getD pos 0 == 10) = true then eM text lim p 16 (pos + 1) handed om fr wt none (seen.add 16) else eM text lim p 14 pos handed om fr wt (some false) (seen.add 16) := by
  show (if pos ≥ lim then _ else _) = _
  split
  · rfl
  · show (match (Except.ok (text.getD pos 0 == 10, seen.add 16) : Except String (Bool × Sre.Seen)) with | .error why => _ | .ok (false, seen) => _ | .ok (true, seen) => _) = _
    cases text.getD pos 0 == 10 <;> rfl
theorem e_l19 : (eM text lim p 19 pos handed om fr wt none seen).step = if pos ≥ lim then eM text lim p 19 pos handed om fr wt (some false) (seen.add 16) else
      if (text.getD pos 0 == 10) = true then eM text lim p 21 (pos + 1) handed om fr wt none (seen.add 16) else eM text lim p 19 pos handed om fr wt (some false) (seen.add 16) := by
  show (if pos ≥ lim then _ else _) = _
  split
  · rfl
  · show (match (Except.ok (text.getD pos 0 == 10, seen.add 16) : Except String (Bool × Sre.Seen)) with | .error why => _ | .ok (false, seen) => _ | .ok (true, seen) => _) = _
    cases text.getD pos 0 == 10 <;> rfl
theorem e_l24 : (eM text lim p 24 pos handed om fr wt none seen).step = if pos ≥ lim then eM text lim p 24 pos handed om fr wt (some false) (seen.add 16) else
      if (text.getD pos 0 == 13) = true then eM text lim p 26 (pos + 1) handed om fr wt none (seen.add 16) else eM text lim p 24 pos handed om fr wt (some false) (seen.add 16) := by
  show (if pos ≥ lim then _ else _) = _
  split
  · rfl
  · show (match (Except.ok (text.getD pos 0 == 13, seen.add 16) : Except String (Bool × Sre.Seen)) with | .error why => _ | .ok (false, seen) => _ | .ok (true, seen) => _) = _
    cases text.getD pos 0 == 13 <;> rfl
theorem e_l29 : (eM text lim p 29 pos handed om fr wt none seen).step = if pos ≥ lim then eM text lim p 29 pos handed om fr wt (some false) (seen.add 16) else
      if (text.getD pos 0 == 10) = true then eM text lim p 31 (pos + 1) handed om fr wt none (seen.add 16) else eM text lim p 29 pos handed om fr wt (some false) (seen.add 16) := by
  show (if pos ≥ lim then _ else _) = _
  split
  · rfl
  · show (match (Except.ok (text.getD pos 0 == 10, seen.add 16) : Except String (Bool × Sre.Seen)) with | .error why => _ | .ok (false, seen) => _ | .ok (true, seen) => _) = _
    cases text.getD pos 0 == 10 <;> rfl
theorem e_br : (eM text lim p 10 p p true [fS p] 1 none seen).step = eM text lim p 12 p p true [fB p 11, fS p] 2 none (seen.add 7) := rfl
theorem e_no1 (pc : Nat) : (eM text lim p pc pos handed om [fB p 11, fS p] 2 (some false) seen).step = eM text lim p 19 p p true [fB p 18, fS p] 2 none seen := rfl
theorem e_no2 (pc : Nat) : (eM text lim p pc pos handed om [fB p 18, fS p] 2 (some false) seen).step = eM text lim p 24 p p true [fB p 23, fS p] 2 none seen := rfl
theorem e_out (i q : Nat) : (eM text lim p 35 q handed true [fB p i, fS p] 2 none seen).runFor 4 = { eM text lim p 10 p q true [] 0 (some true) (seen.add 1) with outcome := some .matched } := rfl
theorem e_j1 : (eM text lim p 16 pos handed om fr wt none seen).step = eM text lim p 35 pos handed om fr wt none (seen.add 15) := rfl
theorem e_j2 : (eM text lim p 21 pos handed om fr wt none seen).step = eM text lim p 35 pos handed om fr wt none (seen.add 15) := rfl
theorem e_j3 : (eM text lim p 32 pos handed om fr wt none seen).step = eM text lim p 35 pos handed om fr wt none (seen.add 15) := rfl
theorem e_as (q : Nat) : (eM text lim p 26 q handed true [fB p 23, fS p] 2 none seen).step = eM text lim p 29 q q false [fN q, fB p 23, fS p] 3 none (seen.add 5) := rfl
theorem e_ln (q pc : Nat) : (eM text lim p pc pos handed om [fN q, fB p 23, fS p] 3 (some false) seen).step = eM text lim p 32 q handed true [fB p 23, fS p] 2 none seen := rfl
end
theorem end_lf {text : Array Nat} {lim p : Nat} {seen : Sre.Seen} (hp : p < lim) (h : text.getD p 0 = 10) : ∃ m', Ends (eM text lim p 10 p p true [fS p] 1 none seen) m' 9 ∧ m'.outcome = some .matched ∧ m'.start = p ∧ m'.handed = p + 1 := by
  refine ⟨_, ⟨(?e : _ = { eM text lim p 10 p (p + 1) true [] 0 (some true) (((((seen.add 7).add 16).add 16).add 15).add 1) with outcome := some .matched }), rfl⟩, rfl, rfl, rfl⟩
  rw [runFor_succ rfl, e_br, runFor_succ rfl, e_l12, if_neg (by omega), if_neg (by rw [h]; decide), runFor_succ rfl, e_no1, runFor_succ rfl, e_l19,
    if_neg (by omega), if_pos (by rw [h]; decide), runFor_succ rfl, e_j2, e_out]
theorem end_crlf {text : Array Nat} {lim p : Nat} {seen : Sre.Seen} (hp : p + 1 < lim) (h : text.getD p 0 = 13) (h2 : text.getD (p + 1) 0 = 10) : ∃ m', Ends (eM text lim p 10 p p true [fS p] 1 none seen) m' 8 ∧ m'.outcome = some .matched ∧ m'.start = p ∧ m'.handed = p + 2 := by
  refine ⟨_, ⟨(?e : _ = { eM text lim p 10 p (p + 2) true [] 0 (some true) (((((seen.add 7).add 16).add 16).add 15).add 1) with outcome := some .matched }), rfl⟩, rfl, rfl, rfl⟩
  rw [runFor_succ rfl, e_br, runFor_succ rfl, e_l12, if_neg (by omega), if_pos (by rw [h]; decide), runFor_succ rfl, e_l14, if_neg (by omega), if_pos (by rw [h2]; decide),
    runFor_succ rfl, e_j1, e_out]
theorem end_cr {text : Array Nat} {lim p : Nat} {seen : Sre.Seen} (hp : p < lim) (h : text.getD p 0 = 13) (h2 : ¬ (p + 1 < lim ∧ text.getD (p + 1) 0 = 10)) : ∃ m', Ends (eM text lim p 10 p p true [fS p] 1 none seen) m' 15 ∧ m'.outcome = some .matched ∧ m'.start = p ∧ m'.handed = p + 1 := by
  have key14 : ∀ (hd : Nat) (om : Bool) (fr : List Sre.Frame) (wt : Nat) (seen : Sre.Seen), (eM text lim p 14 (p + 1) hd om fr wt none seen).step = eM text lim p 14 (p + 1) hd om fr wt (some false) (seen.add 16) := by
    intro hd om fr wt seen
    rw [e_l14]
    by_cases hl : p + 1 ≥ lim
    · rw [if_pos hl]
    · rw [if_neg hl, if_neg fun e => h2 ⟨by omega, by simpa using e⟩]
  have key29 : ∀ (hd : Nat) (om : Bool) (fr : List Sre.Frame) (wt : Nat) (seen : Sre.Seen), (eM text lim p 29 (p + 1) hd om fr wt none seen).step = eM text lim p 29 (p + 1) hd om fr wt (some false) (seen.add 16) := by
    intro hd om fr wt seen
    rw [e_l29]
    by_cases hl : p + 1 ≥ lim
    · rw [if_pos hl]
    · rw [if_neg hl, if_neg fun e => h2 ⟨by omega, by simpa using e⟩]
  refine ⟨_, ⟨(?e : _ = { eM text lim p 10 p (p + 1) true [] 0 (some true) (((((((((seen.add 7).add 16).add 16).add 16).add 16).add 5).add 16).add 15).add 1) with outcome := some .matched }), rfl⟩, rfl, rfl, rfl⟩
  rw [runFor_succ rfl, e_br, runFor_succ rfl, e_l12, if_neg (by omega), if_pos (by rw [h]; decide), runFor_succ rfl, key14, runFor_succ rfl, e_no1,
    runFor_succ rfl, e_l19, if_neg (by omega), if_neg (by rw [h]; decide), runFor_succ rfl, e_no2,
    runFor_succ rfl, e_l24, if_neg (by omega), if_pos (by rw [h]; decide), runFor_succ rfl, e_as, runFor_succ rfl, key29, runFor_succ rfl, e_ln,
    runFor_succ rfl, e_j3, e_out]
end Mine
end

noncomputable section
open PySem PySem.W PySem.Calls PyProof.Rows
namespace Mine
open PySem.Sre
noncomputable def EndP (text : Array Nat) (p : Nat) : Prop := text.getD p 0 = 10 ∨ text.getD p 0 = 13
noncomputable def endTo (text : Array Nat) (p : Nat) : Nat := if text.getD p 0 = 13 ∧ p + 1 < text.size ∧ text.getD (p + 1) 0 = 10 then p + 2 else p + 1
theorem end_set (c : Nat) (seen : Sre.Seen) : ∃ seen', inSet codeEnd c codeEnd.size 5 true seen = .ok (c == 10 || c == 13, seen') := by
  have e : inSet codeEnd c codeEnd.size 5 true seen = if (c == 10) = true then .ok (true, seen.add 16) else if (c == 13) = true then .ok (true, (seen.add 16).add 16) else .ok (false, ((seen.add 16).add 16).add 0) := rfl
  rw [e]
  cases c == 10 <;> cases c == 13 <;> exact ⟨_, rfl⟩
theorem end_hit {text : Array Nat} {p : Nat} {seen : Sre.Seen} (hp : p < text.size) (h : EndP text p) : ∃ m' n, n ≤ 15 ∧ Ends (eM text text.size p 10 p p true [fS p] 1 none seen) m' n ∧ m'.outcome = some .matched ∧ m'.start = p ∧ m'.handed = endTo text p := by
  by_cases h1 : text.getD p 0 = 10
  · obtain ⟨m', a, b, c, d⟩ := end_lf (seen := seen) hp h1
    exact ⟨m', 9, by omega, a, b, c, by rw [d, endTo, if_neg (by omega)]⟩
  · have h2 : text.getD p 0 = 13 := by rcases h with h | h; exact absurd h h1; exact h
    by_cases h3 : p + 1 < text.size ∧ text.getD (p + 1) 0 = 10
    · obtain ⟨m', a, b, c, d⟩ := end_crlf (seen := seen) h3.1 h2 h3.2
      exact ⟨m', 8, by omega, a, b, c, by rw [d, endTo, if_pos ⟨h2, h3⟩]⟩
    · obtain ⟨m', a, b, c, d⟩ := end_cr (seen := seen) hp h2 h3
      exact ⟨m', 15, by omega, a, b, c, by rw [d, endTo, if_neg (fun e => h3 e.2)]⟩
theorem end_adm {text : Array Nat} {m : M} (hm : m.code = codeEnd) (ht : m.text = text) (hl : m.lim = text.size) : ∀ (k s : Nat) (seen : Sre.Seen), s + k = text.size → ∃ seen',
    (M.admitted m (k + 1) s seen = .ok (none, seen') ∧ ∀ q, s ≤ q → q < text.size → ¬ EndP text q) ∨ (∃ p, M.admitted m (k + 1) s seen = .ok (some p, seen') ∧ s ≤ p ∧ p < text.size ∧ EndP text p ∧ ∀ q, s ≤ q → q < p → ¬ EndP text q) := by
  intro k
  induction k with
  | zero =>
    intro s seen e
    refine ⟨seen, .inl ⟨?_, fun q h1 h2 => absurd h2 (by omega)⟩⟩
    unfold M.admitted
    rw [if_pos (by omega)]
  | succ k ih =>
    intro s seen e
    obtain ⟨seen1, h1⟩ := end_set (text.getD s 0) seen
    unfold M.admitted
    rw [if_neg (by omega), hm, ht, h1]
    by_cases hE : EndP text s
    · have : (text.getD s 0 == 10 || text.getD s 0 == 13) = true := by
        rcases hE with h | h <;> simp only [h] <;> decide
      rw [this]
      exact ⟨seen1, .inr ⟨s, rfl, Nat.le_refl _, by omega, hE, fun q a b => absurd b (Nat.not_lt.mpr a)⟩⟩
    · have : (text.getD s 0 == 10 || text.getD s 0 == 13) = false := by
        rw [Bool.or_eq_false_iff]
        exact ⟨by simpa using fun h => hE (.inl h), by simpa using fun h => hE (.inr h)⟩
      rw [this]
      have step : ∀ q, s ≤ q → ¬ s + 1 ≤ q → ¬ EndP text q := fun q h1 h2 => by
        have : q = s := by omega
        rw [this]; exact hE
      obtain ⟨seen', h⟩ := ih (s + 1) seen1 (by omega)
      refine ⟨seen', ?_⟩
      rcases h with ⟨a, b⟩ | ⟨p, a, p1, p2, p3, p4⟩
      · exact .inl ⟨a, fun q h1 h2 => if h3 : s + 1 ≤ q then b q h3 h2 else step q h1 h3⟩
      · exact .inr ⟨p, a, by omega, p2, p3, fun q h1 h2 => if h3 : s + 1 ≤ q then p4 q h3 h2 else step q h1 h3⟩
theorem end_search {text : Array Nat} {s : Nat} (hs : s ≤ text.size) : ∃ m' n, n ≤ 20 ∧ Ends (forSearch codeEnd text 0 s text.size false) m' n ∧
    ((m'.outcome = some .failed ∧ ∀ q, s ≤ q → q < text.size → ¬ EndP text q) ∨ (m'.outcome = some .matched ∧ ∃ p, s ≤ p ∧ p < text.size ∧ EndP text p ∧ (∀ q, s ≤ q → q < p → ¬ EndP text q) ∧ m'.start = p ∧ m'.handed = endTo text p)) := by
  by_cases he : s = text.size
  · subst he
    have hm : forSearch codeEnd text 0 text.size text.size false = { code := codeEnd, text, lim := text.size, start := text.size, pc := 10, pos := text.size, handed := text.size, marks := #[], seen := ({} : Sre.Seen).add 14, answer := some false } := by
      show (if (decide (text.size > text.size) || decide (text.size - text.size < 1)) = true then _ else _) = _
      rw [if_pos (by simp)]
      rfl
    have e : (forSearch codeEnd text 0 text.size text.size false).runFor 1 = { code := codeEnd, text, lim := text.size, start := text.size, pc := 10, pos := text.size, handed := text.size, marks := #[], seen := ({} : Sre.Seen).add 14, answer := some false, outcome := some .failed } := by
      rw [hm]; rfl
    exact ⟨_, 1, by omega, ⟨e, rfl⟩, .inl ⟨rfl, fun q h1 h2 => absurd h2 (Nat.not_lt.mpr h1)⟩⟩
  · have hm : forSearch codeEnd text 0 s text.size false = M.attemptFrom { code := codeEnd, text, lim := text.size, start := s, lastStart := text.size, pc := 10, pos := s, handed := s, marks := #[], seen := ({} : Sre.Seen).add 14 } s true := by
      show (if (decide (s > text.size) || decide (text.size - s < 1)) = true then _ else _) = _
      rw [if_neg (by simp; omega)]
      rfl
    rw [hm]
    obtain ⟨seen', h⟩ := end_adm (text := text) (m := { code := codeEnd, text, lim := text.size, start := s, lastStart := text.size, pc := 10, pos := s, handed := s, marks := #[], seen := ({} : Sre.Seen).add 14 }) rfl rfl rfl (text.size - s) s (({} : Sre.Seen).add 14) (by omega)
    unfold M.attemptFrom
    rw [if_neg (by exact (by decide : ¬ (false = true)))]
    have ek : text.size + 1 - s = text.size - s + 1 := Nat.succ_sub hs
    dsimp only
    rw [ek]
    rcases h with ⟨a, b⟩ | ⟨p, a, p1, p2, p3, p4⟩
    · rw [a]
      refine ⟨_, 1, by omega, ⟨(?e : _ = { code := codeEnd, text, lim := text.size, start := s, lastStart := text.size, pc := 10, pos := s, handed := s, marks := #[], seen := seen', answer := some false, outcome := some .failed }), rfl⟩, .inl ⟨rfl, b⟩⟩
      rfl
    · rw [a]
      obtain ⟨m', n, hn, h⟩ := end_hit (seen := seen') p2 p3
      refine ⟨m', n, by omega, h.1, .inr ⟨h.2.1, p, p1, p2, p3, p4, h.2.2⟩⟩
end Mine
end

noncomputable section
open PySem PySem.W PySem.Calls PyProof.Rows
namespace Mine
open PySem.Sre
theorem entry_subloop : entryFor table "re.Pattern.sub.loop" = some Builtin.«re.Pattern.sub.loop» := entryFor_of_tree (by kernel_rfl)
theorem entry_sub : entryFor table "re.Pattern.sub" = some Builtin.«re.Pattern.sub» := entryFor_of_tree (by kernel_rfl)
theorem slot_re_sub : Slot "re.Pattern" "sub" "re.Pattern.sub" :=
  .of (owner := "re.Pattern") (n := "sub") (by rw [typeLookup_type, builtinLookup_eq_fast]; kernel_rfl) (by decide +kernel) (by decide +kernel) (by decide +kernel)
    (by first | exact .inl (by decide +kernel) | exact .inr (by decide +kernel)) (by rw [isSubtype_type]; kernel_rfl)
section
variable {prog : Program} {w : World} {A : Around} {s : Shared}
structure PatAt (h : Heap) (P : Addr) (code : Array Nat) : Prop where
  ex : ∃ o fs c oc its n, h.get? P = some o ∧ o.data = .fields fs ∧ fs.getD 6 .none = rawInt 0 ∧ fs.getD 2 .none = rawInt 0 ∧ fs.getD 5 .none = .ref c ∧ h.get? c = some oc ∧ oc.data = .seq its n ∧ (its.map Builtin.Re.reRawOf).map (·.toNat) = code
theorem whole_target {P : Addr} {code : Array Nat} {x : Str} {t : Tok} {E : Value → Shared → Prop} {Q : Builtin.Re.ReTarget → Shared → Prop} (hp : PatAt s.heap P code)
    (h : Q ⟨.ref P, .str x t, code, x.cps, 0, 0, 0, x.cps.size⟩ s) : wpAny (model prog w) A (Builtin.Re.reWholeTarget (.ref P) (.str x t)) Q E s := by
  obtain ⟨o, fs, c, oc, its, n, h1, h2, h3, h4, h5, h6, h7, h8⟩ := hp
  unfold Builtin.Re.reWholeTarget
  refine wpAny_bind (wpAny_fieldsOf h1 h2 ?_)
  unfold Builtin.Re.reTextOf
  simp only [asStr?, pure_bind]
  refine wpAny_bind (wpAny_pure ?_)
  dsimp only
  rw [h3, h4, h5]
  refine (show wpAny _ _ (Builtin.Re.reNoCollectionInside (.str x t) 0 >>= fun _ => Builtin.Re.reRawItems (.ref c) >>= fun r => pure (⟨.ref P, .str x t, r.map (·.toNat), x.cps, 0, 0, 0, x.cps.size⟩ : Builtin.Re.ReTarget)) Q E s from ?_)
  refine wpAny_bind ?_
  unfold Builtin.Re.reNoCollectionInside
  rw [if_neg (by decide)]
  refine wpAny_pure (wpAny_bind ?_)
  unfold Builtin.Re.reRawItems
  refine wpAny_bind (wpAny_seqItems h6 h7 (wpAny_pure (wpAny_pure ?_)))
  rw [← h8] at h
  exact h
theorem re_slice {text : Array Nat} {b e : Nat} {E : Value → Shared → Prop} {Q : Value → Shared → Prop} (h : Q (.str ⟨text.extract b e⟩ s.toks) { s with toks := s.toks + 1 }) (hx : text.size ≤ 1000000) :
    wpAny (model prog w) A (Builtin.Re.reSlice text 0 b e) Q E s := by
  unfold Builtin.Re.reSlice
  rw [if_pos (by decide)]
  refine wpAny_mkStr h ?_
  show (text.extract b e).size ≤ sizeLine
  have : (text.extract b e).size ≤ text.size := by simp; omega
  have : (1000000 : Nat) ≤ sizeLine := by decide
  omega
theorem strs_snoc {vs : List Value} {ys : List Str} {x : Str} {t : Tok} (h : StrsAre vs ys) : StrsAre (vs ++ [.str x t]) (ys ++ [x]) := by
  induction h with
  | nil => exact .cons x t .nil
  | cons y u h ih => exact .cons y u ih
noncomputable def flat (ys : List Str) : List Nat := ys.flatMap (·.cps.toList)
theorem strjoin_empty : ∀ ys : List Str, (Str.join (Str.ofString "") ys).cps = (flat ys).toArray
  | [] => rfl
  | [x] => by simp [Str.join, flat]
  | x :: y :: r => by
    have ih := strjoin_empty (y :: r)
    show x.cps ++ (Str.ofString "").cps ++ (Str.join (Str.ofString "") (y :: r)).cps = _
    rw [ih]
    have e : (Str.ofString "").cps = #[] := rfl
    rw [e]
    simp [flat]
theorem join_empty (ys : List Str) : Txt.join (Str.ofString "") ys = txt (flat ys) := by
  have h := strjoin_empty ys
  unfold Txt.join
  rw [StrLaws.glued_eq_join]
  cases hj : Str.join (Str.ofString "") ys with
  | mk c => rw [hj] at h; dsimp only at h; rw [h]
theorem flat_snoc (ys : List Str) (x : Str) : flat (ys ++ [x]) = flat ys ++ x.cps.toList := by simp [flat]
theorem flat_len (ys : List Str) : (ys.map (·.length)).sum = (flat ys).length := by
  induction ys with
  | nil => rfl
  | cons y r ih =>
    have e : flat (y :: r) = y.cps.toList ++ flat r := by simp [flat]
    rw [List.map_cons, List.sum_cons, ih, e, List.length_append]
    rfl
noncomputable def Finds (code text : Array Nat) (rep : List Nat) (out : Nat → List Nat) : Prop := ∀ k, k ≤ text.size → ∃ m' n, n ≤ 1000000 ∧ Ends (forSearch code text 0 k text.size false) m' n ∧
  ((m'.outcome = some .failed ∧ out k = (text.extract k text.size).toList) ∨ (m'.outcome = some .matched ∧ k ≤ m'.start ∧ m'.start < m'.handed ∧ m'.handed ≤ text.size ∧ out k = (text.extract k m'.start).toList ++ rep ++ out m'.handed))
theorem extBut_mapSeq {h : Heap} {D : Addr} {o : Obj} {xs : Array Value} {n : Nat} (v : Value) (ho : h.get? D = some o) (hd : o = listOf xs n) : ∃ n', (h.update D (Obj.mapSeq (·.push v))).get? D = some (listOf (xs.push v) n') ∧ Heap.ExtBut D h (h.update D (Obj.mapSeq (·.push v))) := by
  subst hd
  refine ⟨_, Heap.get?_update_self _ ho rfl, fun b o hb e => ?_⟩
  rw [Heap.get?_update_other h _ (Ne.symm hb)]
  exact e
theorem push_strs {D : Addr} {vs : List Value} {n : Nat} {v : Value} {E : Value → Shared → Prop} {Q : Unit → Shared → Prop} (ho : s.heap.get? D = some (listOf vs.toArray n)) (hz : vs.length ≤ 4000000)
    (h : ∀ h' n', h'.get? D = some (listOf (vs ++ [v]).toArray n') → Heap.ExtBut D s.heap h' → Q () { s with heap := h' }) : wpAny (model prog w) A (updateSeq D (·.push v)) Q E s := by
  have hl : (4000000 : Nat) + 1 ≤ sizeLine := by decide
  refine wpAny_updateSeq ho rfl ?_ (by simp; omega) (by simp; omega)
  obtain ⟨n', g, x⟩ := extBut_mapSeq v ho rfl
  refine h _ n' ?_ x
  rw [g]
  simp
theorem sub_loop {code : Array Nat} {x r : Str} {tx tr : Tok} {P D : Addr} {out : Nat → List Nat} {R : Result → Shared → Prop} (hf : Finds code x.cps r.cps.toList out) (hx : x.cps.size ≤ 100000) :
    ∀ (fuel k : Nat) (s : Shared) (vs : List Value) (ys : List Str) (n : Nat) (tk : Tok) (c n1 n2 : Int), x.cps.size - k < fuel → k ≤ x.cps.size → PatAt s.heap P code → s.heap.get? D = some (listOf vs.toArray n) → StrsAre vs ys → vs.length ≤ 2 * k → D ≠ P → (∀ h', Heap.ExtBut D s.heap h' → PatAt h' P code) →
      (flat ys ++ out k).length ≤ 1000000 → c = 0 →
      (∀ h' tk' t' vs' n', Heap.ExtBut D s.heap h' → h'.get? D = some (listOf vs' n') → R (.ok (.ret (.str (txt (flat ys ++ out k)) t'))) { s with heap := h', toks := tk' }) →
      codeAny (model prog w) A (.builtin "re.Pattern.sub.loop" ⟨[.ref P, .str x tx, .str r tr, rawInt 0, rawInt c, rawInt n1, rawInt k, rawInt k, .bool false, .ref D, .bool false], []⟩) R s := by
  intro fuel
  induction fuel with
  | zero => intro k s vs ys n tk c n1 n2 h; omega
  | succ fuel ih =>
    intro k s vs ys n tk c n1 n2 hfu hk hP hD hS hvl hne hPk hlen hc hR
    subst hc
    refine codeAny_builtin entry_subloop ?_
    unfold Builtin.«re.Pattern.sub.loop»
    dsimp only [rawInt]
    refine wpAny_bind (whole_target hP ?_)
    rw [if_pos (by decide)]
    refine wpAny_bind (m := Builtin.Re.reLiteralCannotBeTurned _) ?_
    unfold Builtin.Re.reLiteralCannotBeTurned
    simp only [asStr?, pure_bind, Option.isNone_some, Bool.false_eq_true, if_false]
    refine wpAny_pure ?_
    refine wpAny_bind ?_
    rw [if_neg (by simp)]
    rw [Int.toNat_natCast]
    obtain ⟨m', nn, hnn, hE, ho⟩ := hf k hk
    unfold Builtin.Re.reNextFound
    have hZ : (100000 : Nat) + 1 ≤ sizeLine := by decide
    have final : ∀ (s' : Shared) (vs' : List Value) (ys' : List Str) (nq : Nat), (∃ h' tk', s' = { s with heap := h', toks := tk' } ∧ Heap.ExtBut D s.heap h') → s'.heap.get? D = some (listOf vs'.toArray nq) → StrsAre vs' ys' → flat ys' = flat ys ++ out k → vs'.length ≤ 4000000 →
        wpAny (model prog w) (A.under (.builtin "re.Pattern.sub.loop" ⟨[.ref P, .str x tx, .str r tr, .int 0 0, .int 0 0, .int n1 0, .int k 0, .int k 0, .bool false, .ref D, .bool false], []⟩))
          (do
            let joiner ← Builtin.Re.reSlice x.cps 0 0 0
            let text ← if ((← seqItems? (.ref D)).getD #[]).isEmpty then pure joiner else call (.builtin (if (0 : Nat) == 0 then "str.join" else "bytes.join")) [joiner, .ref D]
            if false then ret (← holding [text] do newTuple [text, ← mkInt n1]) else ret text)
          (fun fin s' => match fin with | .done f => R (.ok f) s' | .again c' => c'.quiet = true ∧ codeAny (model prog w) A c' R s') (fun e s' => R (.error e) s') s' := by
      rintro s' vs' ys' nq ⟨h', tk', rfl, hx'⟩ hD' hS' hfl hl'
      refine wpAny_bind (re_slice ?_ (by omega))
      refine wpAny_bind (wpAny_seqItems hD' rfl ?_)
      have ej : (⟨x.cps.extract 0 0⟩ : Str) = Str.ofString "" := by
        have : x.cps.extract 0 0 = #[] := by simp
        rw [this]; rfl
      rw [ej]
      cases hS' with
      | nil =>
        refine wpAny_bind ?_
        simp only [Option.getD_some]
        show wpAny _ _ (pure (Value.str (Str.ofString "") tk')) _ _ _
        refine wpAny_pure ?_
        rw [if_neg (by decide)]
        refine wpAny_pure ?_
        have e0 : Str.ofString "" = txt (flat ys ++ out k) := by rw [← hfl]; rfl
        rw [e0]
        exact hR _ _ _ _ _ hx' hD'
      | cons y t hS' =>
        refine wpAny_bind ?_
        simp only [Option.getD_some]
        show wpAny _ _ (call (.builtin "str.join") [.str (Str.ofString "") tk', .ref D]) _ _ _
        refine join_list ⟨_, hD', rfl, _, rfl⟩ (by simpa using StrsAre.cons y t hS') ?_ (fun t' k' => ?_)
        · rw [flat_len, hfl]
          have : (Str.ofString "").length = 0 := rfl
          rw [this]
          omega
        · rw [if_neg (by decide), join_empty, hfl]
          exact wpAny_pure (hR _ _ _ _ _ hx' hD')
    have hvl' : vs.length + 2 ≤ 4000000 := by omega
    refine to_end hE hnn (fun hy => ?_) (fun hn => ?_) ?_
    · rcases ho with ⟨ho, _⟩ | ⟨_, h1, h2, h3, h4⟩
      · rw [ho] at hy; cases hy
      have eB : (m'.handed == m'.start) = false := by simpa using (Nat.ne_of_gt h2)
      dsimp only
      rw [eB]
      have fin : ∀ (s' : Shared) (vs' : List Value) (ys' : List Str) (nq : Nat), (∃ h' tk', s' = { s with heap := h', toks := tk' } ∧ Heap.ExtBut D s.heap h') → s'.heap.get? D = some (listOf vs'.toArray nq) → StrsAre vs' ys' → flat ys' = flat ys ++ (x.cps.extract k m'.start).toList → vs'.length ≤ vs.length + 1 →
        wpAny (model prog w) (A.under (.builtin "re.Pattern.sub.loop" ⟨[.ref P, .str x tx, .str r tr, .int 0 0, .int 0 0, .int n1 0, .int k 0, .int k 0, .bool false, .ref D, .bool false], []⟩))
          (do
            let item ← pure (Value.str r tr)
            if (item != Value.none) = true then do
              updateSeq D fun x => x.push item
              again (.builtin "re.Pattern.sub.loop" ⟨[.ref P, .str x tx, .str r tr, .int 0 0, .int 0 0, .int (n1 + 1) 0, .int m'.handed 0, .int m'.handed 0, .bool false, .ref D, .bool false], []⟩)
            else again (.builtin "re.Pattern.sub.loop" ⟨[.ref P, .str x tx, .str r tr, .int 0 0, .int 0 0, .int (n1 + 1) 0, .int m'.handed 0, .int m'.handed 0, .bool false, .ref D, .bool false], []⟩))
          (fun fin s' => match fin with | .done f => R (.ok f) s' | .again c' => c'.quiet = true ∧ codeAny (model prog w) A c' R s') (fun e s' => R (.error e) s') s' := by
        rintro s' vs' ys' nq ⟨h', tk', rfl, hx'⟩ hD' hS' hfl hl'
        refine wpAny_bind (wpAny_pure ?_)
        rw [if_pos (by rfl)]
        refine wpAny_bind (push_strs hD' (by omega) fun h'' n'' g' x'' => wpAny_pure ⟨Code.quiet_builtin _ (by decide +kernel), ?_⟩)
        have hfl2 : flat (ys' ++ [r]) ++ out m'.handed = flat ys ++ out k := by
          rw [flat_snoc, hfl, h4]
          simp
        refine ih m'.handed _ _ (ys' ++ [r]) n'' tx 0 (n1 + 1) n2 (by omega) h3 (hPk _ (fun b o hb e => x'' _ _ hb (hx' _ _ hb e))) g' (strs_snoc hS') (by simp; omega) hne (fun h3 hx3 => hPk _ (fun b o hb e => hx3 _ _ hb (x'' _ _ hb (hx' _ _ hb e)))) (by rw [hfl2]; exact hlen) rfl (fun h3 tk3 t3 vs3 n3 hx3 g3 => ?_)
        rw [hfl2]
        exact hR _ _ _ _ _ (fun b o hb e => hx3 _ _ hb (x'' _ _ hb (hx' _ _ hb e))) g3
      by_cases hks : k < m'.start
      · rw [if_pos hks]
        refine wpAny_bind (re_slice ?_ (by omega))
        refine wpAny_bind (push_strs hD (by omega) fun h' n' g' x' => ?_)
        exact fin _ (vs ++ [_]) (ys ++ [⟨x.cps.extract k m'.start⟩]) _ ⟨_, _, rfl, x'⟩ g' (strs_snoc hS) (by rw [flat_snoc]) (by simp)
      · rw [if_neg hks]
        have e0 : (x.cps.extract k m'.start).toList = [] := by
          have : k = m'.start := by omega
          rw [this]; simp
        exact fin _ vs ys _ ⟨_, _, rfl, fun b o _ e => e⟩ hD hS (by rw [e0]; simp) (by omega)
    · rcases ho with ⟨_, h1⟩ | ⟨ho, _⟩
      · dsimp only
        by_cases hkl : k < x.cps.size
        · rw [if_pos hkl]
          refine wpAny_bind (re_slice ?_ (by omega))
          refine wpAny_bind (push_strs hD (by omega) fun h' n' g' x' => ?_)
          exact final _ (vs ++ [_]) (ys ++ [⟨x.cps.extract k x.cps.size⟩]) _ ⟨_, _, rfl, x'⟩ g' (strs_snoc hS) (by rw [flat_snoc, h1]) (by simp; omega)
        · rw [if_neg hkl]
          have e0 : out k = [] := by
            rw [h1]
            have : k = x.cps.size := by omega
            rw [this]; simp
          exact final _ vs ys _ ⟨_, _, rfl, fun b o _ e => e⟩ hD hS (by rw [e0]; simp) (by omega)
      · rw [ho] at hn; cases hn
    · rcases ho with ⟨ho, _⟩ | ⟨ho, _⟩
      · exact .inr ho
      · exact .inl ho
end
end Mine
end

noncomputable section
open PySem PySem.W PySem.Calls PyProof.Rows
namespace Mine
open PySem.Sre
noncomputable def crlf : List Nat → List Nat
  | [] => []
  | 13 :: 10 :: r => 13 :: 10 :: crlf r
  | c :: r => if c = 10 ∨ c = 13 then 13 :: 10 :: crlf r else c :: crlf r
noncomputable def stuff (b : Bool) : List Nat → List Nat
  | [] => []
  | c :: r => (if b = true ∧ c = 46 then [46, 46] else [c]) ++ stuff (c == 10) r
theorem crlf_pair (r : List Nat) : crlf (13 :: 10 :: r) = 13 :: 10 :: crlf r := by simp [crlf]
theorem crlf_lf (r : List Nat) : crlf (10 :: r) = 13 :: 10 :: crlf r := by simp [crlf]
theorem crlf_cr {r : List Nat} (h : r.head? ≠ some 10) : crlf (13 :: r) = 13 :: 10 :: crlf r := by
  cases r with
  | nil => simp [crlf]
  | cons c r =>
    have : c ≠ 10 := fun e => h (by simp [e])
    rw [crlf]
    · simp
    · intro r' _ e; simp at e; exact this e.1
theorem crlf_other {c : Nat} {r : List Nat} (h : ¬ (c = 10 ∨ c = 13)) : crlf (c :: r) = c :: crlf r := by
  rw [crlf]
  · rw [if_neg h]
  · intro r' e _; exact h (.inr e)
theorem crlf_plain : ∀ (a r : List Nat), (∀ c ∈ a, ¬ (c = 10 ∨ c = 13)) → crlf (a ++ r) = a ++ crlf r
  | [], _, _ => rfl
  | c :: a, r, h => by
    rw [List.cons_append, crlf_other (h c (.head _)), crlf_plain a r fun d hd => h d (.tail _ hd)]
    rfl
theorem stuff_cons (b : Bool) (c : Nat) (r : List Nat) : stuff b (c :: r) = (if b = true ∧ c = 46 then [46, 46] else [c]) ++ stuff (c == 10) r := rfl
theorem stuff_plain : ∀ (a r : List Nat) (b : Bool), (∀ (i : Nat), i < a.length → ¬ ((if i = 0 then b = true else a.getD (i - 1) 0 = 10) ∧ a.getD i 0 = 46)) →
    stuff b (a ++ r) = a ++ stuff (if a = [] then b else (a.getLastD 0 == 10)) r
  | [], _, _, _ => rfl
  | c :: a, r, b, h => by
    have h0 := h 0 (by simp)
    simp only [if_true] at h0
    rw [List.cons_append, stuff_cons]
    rw [if_neg (by simpa using h0), stuff_plain a r (c == 10) (fun i hi => ?_)]
    · cases a with
      | nil => simp
      | cons d a => simp
    · have := h (i + 1) (by simpa using hi)
      cases i with
      | zero => simpa using this
      | succ i => simpa using this
theorem arr_getD (l : List Nat) (p : Nat) : l.toArray.getD p 0 = l.getD p 0 := by simp
theorem extract_to (l : List Nat) (a b : Nat) : (l.toArray.extract a b).toList = (l.drop a).take (b - a) := by simp [List.extract_eq_take_drop]
theorem drop_split (l : List Nat) {a b : Nat} (h : a ≤ b) : l.drop a = (l.drop a).take (b - a) ++ l.drop b := by
  have := List.take_append_drop (b - a) (l.drop a)
  rw [List.drop_drop] at this
  rw [show a + (b - a) = b by omega] at this
  exact this.symm
theorem drop_at {l : List Nat} {p : Nat} (h : p < l.length) : l.drop p = l.getD p 0 :: l.drop (p + 1) := by
  rw [List.drop_eq_getElem_cons h, List.getD_eq_getElem?_getD, List.getElem?_eq_getElem h]; rfl
theorem mem_part {l : List Nat} {a b c : Nat} (h : c ∈ (l.drop a).take (b - a)) : ∃ q, a ≤ q ∧ q < b ∧ q < l.length ∧ l.getD q 0 = c := by
  obtain ⟨i, hi, rfl⟩ := List.getElem_of_mem h
  simp at hi
  have hl := ar_part (Nat.lt_of_lt_of_le hi (Nat.min_le_right ..))
  refine ⟨a + i, Nat.le_add_right .., ar_part (Nat.lt_of_lt_of_le hi (Nat.min_le_left ..)), hl, ?_⟩
  simp [List.getElem_take, List.getElem_drop, List.getD_eq_getElem?_getD, List.getElem?_eq_getElem hl]
theorem endTo_bounds {text : Array Nat} {p : Nat} (h : p < text.size) : p < endTo text p ∧ endTo text p ≤ text.size := by
  by_cases hc : text.getD p 0 = 13 ∧ p + 1 < text.size ∧ text.getD (p + 1) 0 = 10
  · have e : endTo text p = p + 2 := if_pos hc
    rw [e]; have := hc.2.1; omega
  · have e : endTo text p = p + 1 := if_neg hc
    rw [e]; omega
theorem finds_end (l : List Nat) (hl : l.length ≤ 100000) : Finds codeEnd l.toArray [13, 10] (fun k => crlf (l.drop k)) := by
  intro k hk
  obtain ⟨m', n, hn, hE, ho⟩ := end_search hk
  refine ⟨m', n, by omega, hE, ?_⟩
  simp at hk
  rcases ho with ⟨ho, hq⟩ | ⟨ho, p, p1, p2, p3, p4, p5, p6⟩
  · refine .inl ⟨ho, ?_⟩
    dsimp only
    rw [extract_to]
    have e : (l.drop k).take (l.toArray.size - k) = l.drop k := List.take_of_length_le (by simp)
    rw [e]
    have := crlf_plain (l.drop k) [] fun c hc hcE => by
      obtain ⟨q, h1, h2, h3, h4⟩ := mem_part (l := l) (a := k) (b := l.length) (c := c) (by rw [List.take_of_length_le (by simp)]; exact hc)
      refine hq q h1 (by simpa using h2) ?_
      unfold EndP
      rw [arr_getD, h4]
      exact hcE
    simpa [crlf] using this
  · have p2' : p < l.length := by simpa using p2
    refine .inr ⟨ho, by rw [p5]; exact p1, ?_, ?_, ?_⟩
    · rw [p5, p6]; exact (endTo_bounds p2).1
    · rw [p6]; exact (endTo_bounds p2).2
    · dsimp only
      rw [p5, p6, extract_to, drop_split l p1, List.append_assoc]
      rw [crlf_plain ((l.drop k).take (p - k)) _ (fun c hc hcE => by
        obtain ⟨q, h1, h2, h3, h4⟩ := mem_part hc
        refine p4 q h1 h2 ?_
        unfold EndP
        rw [arr_getD, h4]
        exact hcE)]
      have ht : ((l.drop k).take (p - k) ++ l.drop p).take (p - k) = (l.drop k).take (p - k) := by
        rw [← drop_split l p1]
      rw [ht]
      congr 1
      rw [drop_at p2']
      unfold EndP at p3
      rw [arr_getD] at p3
      unfold endTo
      rw [arr_getD, arr_getD]
      by_cases hc : l.getD p 0 = 13
      · by_cases hd : p + 1 < l.length ∧ l.getD (p + 1) 0 = 10
        · rw [if_pos ⟨hc, by simpa using hd.1, hd.2⟩, hc, drop_at hd.1, hd.2, crlf_pair]
          rfl
        · rw [if_neg (fun e => hd ⟨by simpa using e.2.1, e.2.2⟩), hc, crlf_cr]
          · rfl
          · intro e
            apply hd
            by_cases h1 : p + 1 < l.length
            · rw [drop_at h1] at e
              exact ⟨h1, by simpa using e⟩
            · rw [List.drop_eq_nil_of_le (by omega)] at e; cases e
      · have h10 : l.getD p 0 = 10 := by rcases p3 with h | h; exact h; exact absurd h hc
        rw [if_neg (fun e => hc e.1), h10, crlf_lf]
        rfl

theorem stuff_first {c : Nat} {r : List Nat} {b : Bool} (hb : b = true) (hc : c = 46) : stuff b (c :: r) = [46, 46] ++ stuff false r := by
  subst hb hc
  rfl
theorem finds_dot (l : List Nat) (hl : l.length ≤ 100000) : Finds codeDot l.toArray [46, 46] (fun k => stuff (k == 0 || l.getD (k - 1) 0 == 10) (l.drop k)) := by
  intro k hk
  obtain ⟨m', n, hn, hE, ho⟩ := dot_search hk
  have hk' : k ≤ l.length := by simpa using hk
  have hsz : l.toArray.size = l.length := by simp
  refine ⟨m', n, by omega, hE, ?_⟩
  have plain : ∀ (p : Nat) (r : List Nat), k ≤ p → p ≤ l.length → (∀ q, k ≤ q → q < p → ¬ DotP l.toArray q) →
      stuff (k == 0 || l.getD (k - 1) 0 == 10) ((l.drop k).take (p - k) ++ r) = (l.drop k).take (p - k) ++ stuff (p == 0 || l.getD (p - 1) 0 == 10) r := by
    intro p r h1 h2 h3
    have hlen : ((l.drop k).take (p - k)).length = p - k := by rw [List.length_take, List.length_drop]; exact Nat.min_eq_left (Nat.sub_le_sub_right h2 k)
    have hget : ∀ i, i < p - k → ((l.drop k).take (p - k)).getD i 0 = l.getD (k + i) 0 := fun i hi => by
      simp [List.getD_eq_getElem?_getD, List.getElem?_take, hi, List.getElem?_drop]
    rw [stuff_plain]
    · congr 2
      by_cases he : p = k
      · subst he; simp
      · have hkp : k < p := Nat.lt_of_le_of_ne h1 (Ne.symm he)
        have hne : (l.drop k).take (p - k) ≠ [] := fun e => by rw [e] at hlen; exact Nat.ne_of_lt (Nat.sub_pos_of_lt hkp) hlen
        rw [if_neg hne]
        have hp0 : (p == 0) = false := beq_false_of_ne (Nat.ne_of_gt (Nat.lt_of_le_of_lt (Nat.zero_le k) hkp))
        rw [hp0, Bool.false_or]
        have : ((l.drop k).take (p - k)).getLastD 0 = l.getD (p - 1) 0 := by
          rw [List.getLastD_eq_getLast?, List.getLast?_eq_getElem?, hlen, ← List.getD_eq_getElem?_getD, hget _ (Nat.sub_lt (Nat.sub_pos_of_lt hkp) (by decide)), ar_pred hkp]
        rw [this]
    · intro i hi hx
      rw [hlen] at hi
      refine h3 (k + i) (Nat.le_add_right ..) (ar_part hi) ?_
      unfold DotP
      rw [arr_getD, arr_getD]
      rw [hget i hi] at hx
      refine ⟨?_, hx.2⟩
      by_cases hi0 : i = 0
      · have := hx.1
        rw [if_pos hi0] at this
        subst hi0
        simpa using this
      · have := hx.1
        rw [if_neg hi0, hget _ (Nat.lt_of_le_of_lt (Nat.sub_le ..) hi)] at this
        right
        rw [← this, Nat.add_sub_assoc (Nat.one_le_iff_ne_zero.mpr hi0)]
  rcases ho with ⟨ho, hq⟩ | ⟨ho, p, p1, p2, p3, p4, p5, p6⟩
  · refine .inl ⟨ho, ?_⟩
    dsimp only
    rw [extract_to, hsz]
    have := plain l.length [] hk' (Nat.le_refl _) (by rw [hsz] at hq; exact hq)
    have e : (l.drop k).take (l.length - k) = l.drop k := List.take_of_length_le (by simp)
    rw [e] at this ⊢
    simpa [stuff] using this
  · rw [hsz] at p2
    refine .inr ⟨ho, by rw [p5]; exact p1, by omega, by omega, ?_⟩
    dsimp only
    rw [p5, p6, extract_to]
    have h1 := plain p (l.drop p) p1 (by omega) p4
    rw [← drop_split l p1] at h1
    rw [h1, drop_at p2, List.append_assoc]
    congr 1
    unfold DotP at p3
    rw [arr_getD, arr_getD] at p3
    rw [stuff_first (by simpa using p3.1) p3.2]
    have : (p + 1 == 0 || l.getD (p + 1 - 1) 0 == 10) = false := by
      rw [Nat.add_sub_cancel, p3.2]; simp
    rw [this]
end Mine
end

noncomputable section
open PySem PySem.W PySem.Calls PyProof.Rows
namespace Mine
open PySem.Sre
set_option maxRecDepth 100000
theorem plainAttrs_pat : PlainAttrs "re.Pattern" :=
  ⟨⟨"object.__getattribute__", by rw [typeLookup_type, builtinLookup_eq_fast]; kernel_rfl, by decide +kernel⟩, by rw [typeLookup_type, builtinLookup_eq_fast]; kernel_rfl⟩
theorem type_re_sub : typeOf (.builtin "re.Pattern.sub") = pure (.type "method_descriptor") := by show builtinType _ = _; rw [builtinType_eq_fast]; kernel_rfl
theorem owner_pat : Manifest.owners.lookup (String.ofList ['n', 'r', 'e', 't', 't', 'a', 'P', '.', 'e', 'r'].reverse) = some Manifest.sig_re_Pattern := by kernel_rfl
theorem args_re_sub (a b c : Value) : argsOk "re.Pattern.sub" ⟨[a, b, c], []⟩ := by
  unfold argsOk; rw [signature?_of (id := "re.Pattern.sub") (n := ['b', 'u', 's']) (o := ['n', 'r', 'e', 't', 't', 'a', 'P', '.', 'e', 'r']) (by kernel_rfl) owner_pat]; kernel_rfl
theorem str_no_call : typeLookup (.type "str") "__call__" = pure none := by rw [typeLookup_type, builtinLookup_eq_fast]; kernel_rfl
section
variable {prog : Program} {w : World} {A : Around} {E : Value → Shared → Prop} {s : Shared}
theorem sub_call {P : Addr} {code : Array Nat} {x r : Str} {tx tr : Tok} {out : Nat → List Nat} {Q : Value → Shared → Prop} (hT : s.TypeIs (.ref P) "re.Pattern") (hf : Finds code x.cps r.cps.toList out) (hx : x.cps.size ≤ 100000)
    (hr : r.cps.contains 92 = false) (hP : PatAt s.heap P code) (hK : ∀ h', (∀ b o, s.heap.get? b = some o → h'.get? b = some o) → PatAt h' P code) (hlen : (out 0).length ≤ 1000000)
    (h : ∀ h' tk' t', (∀ b o, s.heap.get? b = some o → h'.get? b = some o) → Q (.str (txt (out 0)) t') { s with heap := h', toks := tk' }) :
    wpAny (model prog w) A (call (.builtin "re.Pattern.sub") [.ref P, .str r tr, .str x tx]) Q E s := by
  refine wpAny_call (codeAny_call_builtin slot_re_sub.plain entry_sub (slot_re_sub.check _ _ _ _ _ _ _ _ hT (args_re_sub _ _ _) ?_))
  unfold Builtin.«re.Pattern.sub» Builtin.Re.reSubstitute
  dsimp only
  refine wpAny_bind (wpAny_of_eq (a := [some (Value.str r tr), some (Value.str x tx), none]) (by first | rfl | kernel_rfl!) ?_)
  dsimp only
  refine wpAny_bind (wpAny_pure ?_)
  refine wpAny_bind (wpAny_specialOf (typeIs_str _ _ _) str_no_call ?_)
  rw [if_neg (by decide)]
  refine wpAny_bind (wpAny_pure ?_)
  dsimp only
  refine wpAny_bind (wpAny_pure ?_)
  rw [if_neg (by decide), if_pos (by rw [hr]; rfl)]
  refine wpAny_bind (wpAny_pure ?_)
  refine wpAny_bind (wpAny_holding (whole_target hP ?_))
  dsimp only
  rw [if_neg (by decide)]
  refine wpAny_bind (wpAny_newList ?_ (by decide))
  obtain ⟨oP, hoP, hcP⟩ := hT
  have hPlt := Heap.lt_size hoP
  have hpush : ∀ b o, s.heap.get? b = some o → (s.heap.push { cls := .type "list", data := .seq ([] : List Value).toArray }).get? b = some o := fun b o e => Heap.get?_push_of_some _ e
  have hsome : ∀ h' : Heap, Heap.ExtBut s.heap.objs.size (s.heap.push { cls := .type "list", data := .seq ([] : List Value).toArray }) h' → ∀ b o, s.heap.get? b = some o → h'.get? b = some o := fun h' hx b o e =>
    hx b o (Nat.ne_of_lt (Heap.lt_size e)) (hpush b o e)
  refine wpAny_pure ⟨Code.quiet_builtin _ (by decide +kernel), ?_⟩
  refine sub_loop hf hx (x.cps.size + 1) 0 _ [] [] _ tx 0 0 0 ?_ ?_ (hK _ hpush) (Heap.get?_push_size _ rfl) .nil ?_ ?_ ?_ ?_ ?_ ?_
  · omega
  · omega
  · simp
  · exact Nat.ne_of_gt hPlt
  · exact fun h' hx => hK _ (hsome h' hx)
  · simpa [flat] using hlen
  · rfl
  · intro h' tk' t' vs' n' hx hg
    have := h h' tk' t' (hsome h' hx)
    simpa [flat] using this
theorem sub_K {P : Addr} {code : Array Nat} {x r : Str} {tx tr : Tok} {out : Nat → List Nat} {Q : Value → Shared → Prop} {h₀ : Heap} {L : Addr} {m : Str → Option Value} {news : List (Addr × Obj)} (F : Fr h₀ L s.heap m) (N : News h₀ L s.heap news)
    (hT : ∃ o, h₀.get? P = some o ∧ o.cls = .type "re.Pattern") (hf : Finds code x.cps r.cps.toList out) (hx : x.cps.size ≤ 100000)
    (hr : r.cps.contains 92 = false) (hP : PatAt h₀ P code) (hlen : (out 0).length ≤ 1000000)
    (h : ∀ h' tk' t', Fr h₀ L h' m → News h₀ L h' news → Q (.str (txt (out 0)) t') { s with heap := h', toks := tk' }) :
    wpAny (model prog w) A (call (.builtin "re.Pattern.sub") [.ref P, .str r tr, .str x tx]) Q E s := by
  obtain ⟨o, ho, hc⟩ := hT
  have keep : ∀ h' : Heap, (∀ b o, h₀.get? b = some o → h'.get? b = some o) → PatAt h' P code := fun h' k => by
    obtain ⟨o, fs, c, oc, its, n, h1, h2, h3, h4, h5, h6, h7, h8⟩ := hP
    exact ⟨o, fs, c, oc, its, n, k _ _ h1, h2, h3, h4, h5, k _ _ h6, h7, h8⟩
  refine sub_call ⟨o, F.keep _ _ ho, hc⟩ hf hx hr (keep _ F.keep) (fun h' k => keep _ fun b o e => k _ _ (F.keep _ _ e)) hlen fun h' tk' t' k => ?_
  exact h h' tk' t' (F.keeps k) fun p hp => ⟨k _ _ (N p hp).1, (N p hp).2⟩
end
end Mine
end

noncomputable section
open PySem PySem.W PySem.Calls PyProof.Rows
set_option maxRecDepth 100000
namespace Mine
section
variable {prog : Program} {w : World} {A : Around} {E : Value → Shared → Prop} {s : Shared}
theorem in_ws {c : Nat} {t u : Tok} {Q : Value → Shared → Prop} (h : Q (.bool (ws c)) s) : wpAny (model prog w) A (compareOp .In (.str (txt [c]) u) (.str (Str.ofString "\n\t\r ") t)) Q E s := by
  refine in_str ?_
  have e := StrLaws.found_one (Str.ofString "\n\t\r ") c
  have e2 : (txt [c]) = ⟨#[c]⟩ := rfl
  rw [e2, e]
  have e3 : decide (c ∈ (Str.ofString "\n\t\r ").cps.toList) = ws c := by
    show decide (c ∈ [10, 9, 13, 32]) = ws c
    unfold ws
    by_cases h1 : c = 10 <;> by_cases h2 : c = 9 <;> by_cases h3 : c = 13 <;> by_cases h4 : c = 32 <;> simp [h1, h2, h3, h4]
  rw [e3]; exact h
end
theorem in_ws_eq (c : Nat) : (!(Builtin.Str.occurrences (Str.ofString "\n\t\r ") (txt [c]) 0 (Str.ofString "\n\t\r ").length 1).isEmpty) = ws c := by
  have e := StrLaws.found_one (Str.ofString "\n\t\r ") c
  have e2 : (txt [c]) = ⟨#[c]⟩ := rfl
  rw [e2, e]
  show decide (c ∈ [10, 9, 13, 32]) = ws c
  unfold ws
  by_cases h1 : c = 10 <;> by_cases h2 : c = 9 <;> by_cases h3 : c = 13 <;> by_cases h4 : c = 32 <;> simp [h1, h2, h3, h4]
theorem nls_nil : nls [] = 0 := rfl
theorem SignsAre.tl {vs : List Value} {c : Nat} {r : List Nat} (h : SignsAre vs (c :: r)) : SignsAre vs.tail r := by
  cases h with
  | cons c t h => exact h
theorem txt_one_eq (c d : Nat) : (txt [c] == txt [d]) = (c == d) := by
  by_cases h : c = d
  · subst h; simp
  · have : txt [c] ≠ txt [d] := fun e => h (by simpa using congrArg (fun x : Str => x.cps.toList) e)
    rw [beq_false_of_ne this, beq_false_of_ne h]
theorem txt_append (a b : List Nat) : txt a ++ txt b = txt (a ++ b) := by
  show (⟨a.toArray ++ b.toArray⟩ : Str) = ⟨(a ++ b).toArray⟩
  simp
theorem word_ws {c : Nat} {r : List Nat} (h : ws c = true) : word (c :: r) = word r := by rw [word.eq_def]; simp [h]
theorem word_34 {r : List Nat} : word (34 :: r) = quoted [] r := by rw [word.eq_def]; rfl
theorem word_92 {r : List Nat} : word (92 :: r) = (match r with | [] => ([], []) | d :: r' => bare [d] r') := by rw [word.eq_def]; rfl
theorem word_c {c : Nat} {r : List Nat} (h : ws c = false) (h1 : c ≠ 34) (h2 : c ≠ 92) : word (c :: r) = bare [c] r := by rw [word.eq_def]; simp [h, h1, h2]
theorem quoted_34 {acc r : List Nat} : quoted acc (34 :: r) = (acc, r) := by rw [quoted.eq_def]; rfl
theorem quoted_92 {acc r : List Nat} : quoted acc (92 :: r) = (match r with | [] => (acc, []) | d :: r' => quoted (acc ++ [d]) r') := by rw [quoted.eq_def]; rfl
theorem quoted_c {c : Nat} {acc r : List Nat} (h1 : c ≠ 34) (h2 : c ≠ 92) : quoted acc (c :: r) = quoted (acc ++ [c]) r := by rw [quoted.eq_def]; simp [h1, h2]
theorem quoted_nil {acc : List Nat} : quoted acc [] = (acc, []) := by rw [quoted.eq_def]
theorem bare_ws {c : Nat} {acc r : List Nat} (h : ws c = true) : bare acc (c :: r) = (acc, r) := by rw [bare.eq_def]; simp [h]
theorem bare_92 {acc r : List Nat} : bare acc (92 :: r) = (match r with | [] => (acc, []) | d :: r' => bare (acc ++ [d]) r') := by rw [bare.eq_def]; rfl
theorem bare_c {c : Nat} {acc r : List Nat} (h : ws c = false) (h2 : c ≠ 92) : bare acc (c :: r) = bare (acc ++ [c]) r := by rw [bare.eq_def]; simp [h, h2]
theorem bare_nil {acc : List Nat} : bare acc [] = (acc, []) := by rw [bare.eq_def]
theorem word_nil : word [] = ([], []) := by rw [word.eq_def]
theorem quoted_esc {acc r : List Nat} : quoted acc (92 :: r) = quoted (acc ++ r.take 1) r.tail := by
  rw [quoted_92]
  cases r with
  | nil => rw [show ([] : List Nat).tail = [] from rfl, quoted_nil]; simp
  | cons d r => rfl
theorem bare_esc {acc r : List Nat} : bare acc (92 :: r) = bare (acc ++ r.take 1) r.tail := by
  rw [bare_92]
  cases r with
  | nil => rw [show ([] : List Nat).tail = [] from rfl, bare_nil]; simp
  | cons d r => rfl
theorem word_esc {r : List Nat} : word (92 :: r) = bare (r.take 1) r.tail := by
  rw [word_92]
  cases r with
  | nil => rw [show ([] : List Nat).tail = [] from rfl, bare_nil]; rfl
  | cons d r => rfl
theorem txt_is34 (c : Nat) : (txt [c] == Str.ofString "\"") = (c == 34) := txt_one_eq c 34
theorem txt_is92 (c : Nat) : (txt [c] == Str.ofString "\\") = (c == 92) := txt_one_eq c 92
end Mine
end

noncomputable section
open PySem PySem.W PySem.Calls PyProof.Rows
set_option maxRecDepth 100000
namespace Mine
section
variable {prog : Program} {w : World} {A : Around} {E : Value → Shared → Prop} {s : Shared}
theorem loopStr {env : Env} {h₀ : Heap} {x : Str} {body : List Stmt} {Q : Flow → Shared → Prop} {l : List Nat} {tx : Tok} {m₀ : Str → Option Value} {news : List (Addr × Obj)} (hh : A.handled = none)
    (F : Fr h₀ env.locals s.heap m₀) (N : News h₀ env.locals s.heap news)
    (J : Nat → (Str → Option Value) → List (Addr × Obj) → Prop) (hj : J 0 m₀ news)
    (turn : ∀ i c u m₁ news₁ h tk own (kn : Shared → Prop), l[i]? = some c → J i m₁ news₁ → Fr h₀ env.locals h (fun y => if y = x then some (.str (txt [c]) u) else m₁ y) → News h₀ env.locals h (news₁ ++ own) → (∀ q ∈ news₁, ∀ p ∈ own, p.1 ≠ q.1) →
      (∀ h' tk' m' news', Fr h₀ env.locals h' m' → News h₀ env.locals h' (news' ++ own) → (∀ q ∈ news', ∀ p ∈ own, p.1 ≠ q.1) → J (i + 1) m' news' → kn { s with heap := h', toks := tk' }) →
      wpAny (model prog w) A (execs body env) (fun f s₂ => match f with | .ret v => Q (.ret v) s₂ | .brk => Q .next s₂ | _ => kn s₂) E { s with heap := h, toks := tk })
    (done : ∀ h tk m₁ news₁, J l.length m₁ news₁ → Fr h₀ env.locals h m₁ → News h₀ env.locals h news₁ → Q .next { s with heap := h, toks := tk }) :
    wpAny (model prog w) A (pyIter (.str (txt l) tx)) (fun it s₂ => LoopAtV prog w A h₀ env x body Q E it s₂) E s := by
  have key : ∀ (T : String) (o : Obj), Walks prog w A s.heap.objs.size [s.heap.objs.size] [s.heap.objs.size] (txt l).cps.size (SignAt (txt l)) (fun i h => h.IsStrIter s.heap.objs.size T (txt l) tx i) → (s.heap.push o).IsStrIter s.heap.objs.size T (txt l) tx 0 →
      LoopAtV prog w A h₀ env x body Q E (.ref s.heap.objs.size) { s with heap := s.heap.push o } := by
    intro T o W hst
    have hL := F.ns.lt
    have hfr : h₀.get? s.heap.objs.size = none := Heap.get?_none_of_le (Nat.le_trans F.above (Nat.le_of_lt hL))
    refine loopAt (news := news) (s := { s with heap := s.heap.push o }) W ?_ ?_ hfr ?_ hst (F.push _) (fun p hp => ⟨Heap.get?_push_of_some _ (N p hp).1, (N p hp).2⟩) J hj ?_ ?_
    · rintro i h ⟨o', ho', _⟩ b hb
      rw [List.mem_singleton.mp hb]; exact ⟨_, ho'⟩
    · intro hm
      exact absurd hL ((List.mem_singleton.mp hm) ▸ Nat.lt_irrefl _)
    · intro q hq hm
      exact absurd (Heap.lt_size (N q hq).1) ((List.mem_singleton.mp hm) ▸ Nat.lt_irrefl _)
    · rintro i v m₁ news₁ h tk own kn hin ⟨c, u, hc, rfl⟩ hJ F₁ N₁ hsep hkn
      exact turn i c u m₁ news₁ h tk own kn (by simpa using hc) hJ F₁ N₁ hsep hkn
    · intro h tk m₁ news₁ hJ F₁ N₁
      exact done h tk m₁ news₁ (by simpa using hJ) F₁ N₁
  cases ha : (txt l).cps.all (· < 128)
  · exact wpAny_pyIter_wide ha (key "str_iterator" _ (Walks.strWide hh _ (txt l) tx) ⟨_, Heap.get?_push_size _ rfl, rfl, rfl⟩)
  · exact wpAny_pyIter_ascii ha (key "str_ascii_iterator" _ (Walks.strAscii hh _ (txt l) tx) ⟨_, Heap.get?_push_size _ rfl, rfl, rfl⟩)
theorem loopRange {env : Env} {h₀ : Heap} {x : Str} {body : List Stmt} {Q : Flow → Shared → Prop} {r : Addr} {a b : Nat} {t u v : Tok} {m₀ : Str → Option Value} {news : List (Addr × Obj)} (hh : A.handled = none)
    (ha : a ≤ 1000000000) (hb : b ≤ 1000000000) (hr : IsRange s.heap r (a : Int) (b : Int) 1 t u v) (F : Fr h₀ env.locals s.heap m₀) (N : News h₀ env.locals s.heap news)
    (J : Nat → (Str → Option Value) → List (Addr × Obj) → Prop) (hj : J 0 m₀ news)
    (turn : ∀ i u m₁ news₁ h tk own (kn : Shared → Prop), i < b - a → J i m₁ news₁ → Fr h₀ env.locals h (fun y => if y = x then some (.int ((a + i : Nat) : Int) u) else m₁ y) → News h₀ env.locals h (news₁ ++ own) → (∀ q ∈ news₁, ∀ p ∈ own, p.1 ≠ q.1) →
      (∀ h' tk' m' news', Fr h₀ env.locals h' m' → News h₀ env.locals h' (news' ++ own) → (∀ q ∈ news', ∀ p ∈ own, p.1 ≠ q.1) → J (i + 1) m' news' → kn { s with heap := h', toks := tk' }) →
      wpAny (model prog w) A (execs body env) (fun f s₂ => match f with | .ret v => Q (.ret v) s₂ | .brk => Q .next s₂ | _ => kn s₂) E { s with heap := h, toks := tk })
    (done : ∀ h tk m₁ news₁, J (b - a) m₁ news₁ → Fr h₀ env.locals h m₁ → News h₀ env.locals h news₁ → Q .next { s with heap := h, toks := tk }) :
    wpAny (model prog w) A (pyIter (.ref r)) (fun it s₂ => LoopAtV prog w A h₀ env x body Q E it s₂) E s := by
  have hsz : Builtin.Range.rangeSize (a : Int) (b : Int) 1 = ((b - a : Nat) : Int) := by
    unfold Builtin.Range.rangeSize
    split <;> (try split) <;> omega
  refine wpAny_pyIter_range hr (small_one (by omega) (by omega) (by omega) (by omega)) ?_
  rw [hsz]
  have hL := F.ns.lt
  have hfr : h₀.get? s.heap.objs.size = none := Heap.get?_none_of_le (Nat.le_trans F.above (Nat.le_of_lt hL))
  refine loopAt (news := news) (s := { s with heap := s.heap.push _ }) (Walks.range hh s.heap.objs.size (a : Int) 1 (b - a)) ?_ ?_ hfr ?_ (by show IsRangeIter _ _ _ _ _; simpa using Heap.get?_push_size _ rfl) (F.push _) (fun p hp => ⟨Heap.get?_push_of_some _ (N p hp).1, (N p hp).2⟩) J hj ?_ ?_
  · rintro i h ho b hb
    rw [List.mem_singleton.mp hb]; exact ⟨_, ho⟩
  · intro hm
    exact absurd hL ((List.mem_singleton.mp hm) ▸ Nat.lt_irrefl _)
  · intro q hq hm
    exact absurd (Heap.lt_size (N q hq).1) ((List.mem_singleton.mp hm) ▸ Nat.lt_irrefl _)
  · rintro i v m₁ news₁ h tk own kn hin ⟨t, rfl⟩ hJ F₁ N₁ hsep hkn
    have e : (a : Int) + (i : Int) * 1 = ((a + i : Nat) : Int) := by omega
    rw [e] at F₁
    exact turn i t m₁ news₁ h tk own kn hin hJ F₁ N₁ hsep hkn
  · intro h tk m₁ news₁ hJ F₁ N₁
    exact done h tk m₁ news₁ hJ F₁ N₁
end
end Mine
end

noncomputable section
open PySem PySem.W PySem.Calls PyProof.Rows
namespace Mine
open LCg
section
variable {prog : Program} {w : World} {A : Around} {s : Shared} {h₀ : Heap} {L : Addr} {m : Str → Option Value} {env : Env}
theorem comp_inv {elt : PySem.Expr} {x : Str} {scope : Scope} {cl : List (Str × Addr)} {S : List (Addr × Obj) → Prop} {P : Nat → Value → Prop} {Fin : List Value → List (Addr × Obj) → Prop} {n : Nat}
    (J : Nat → List Value → List (Addr × Obj) → Prop)
    (turn : ∀ i ys news v I oI C oC D m₂ h tk (E' : Value → Shared → Prop), i < n → J i ys news → P i v → NsObj oC m₂ → m₂ x = some v → Fr h₀ L h m → News h₀ L h ((I, oI) :: (C, oC) :: (D, lst ys) :: news) → Off3 I C D news → ((@Ne Nat I C) ∧ (@Ne Nat I D) ∧ (@Ne Nat C D)) →
      wpAny (model prog w) A (eval elt (compEnvC scope cl C env)) (CompEnd h₀ L m { s with heap := h, toks := tk } I oI C oC D (lst ys) S (fun y news' => J (i + 1) (ys ++ [y]) news')) E' { s with heap := h, toks := tk })
    (done : ∀ ys news, J n ys news → Fin ys news) :
    ∀ (k i : Nat) (ys : List Value) (news : List (Addr × Obj)), i + k = n → J i ys news → CompRest prog w A h₀ L m env elt x scope cl s S P Fin k i ys news := by
  intro k
  induction k with
  | zero => intro i ys news e hj; obtain rfl : i = n := e; exact done ys news hj
  | succ k ih =>
    intro i ys news e hj v I oI C oC D m₂ h tk E' hP hC hx F N off hne
    refine wpAny_mono (turn i ys news v I oI C oC D m₂ h tk E' (by omega) hj hP hC hx F N off hne) (fun y s₂ z => ?_) fun _ _ z => z
    obtain ⟨h', tk', news', e1, F', N', off', hS, r⟩ := z
    exact ⟨h', tk', news', e1, F', N', off', hS, ih (i + 1) _ _ (by omega) r⟩
end
section
variable {prog : Program} {w : World} {A : Around} {E : Value → Shared → Prop} {s : Shared}
theorem item_at {value slice : PySem.Expr} {l : Addr} {vs : List Value} {k : Int} {u : Tok} {v : Value} {Q : Value → Shared → Prop}
    (hl : s.heap.IsList l vs.toArray) (h0 : 0 ≤ k) (hhi : k < 2 ^ 63) (hx : vs[k.toNat]? = some v) (h : Q v s)
    (hs : subscripted slice false (.ref l) (.int k u) = operate [.ref l, .int k u] (getItem (.ref l) (.int k u)) := by with_unfolding_all rfl) :
    wpAny (model prog w) A (subscriptTail value slice (.ref l) (.int k u)) Q E s :=
  tail_any hl.typeIs slot_list_getitem.lookup (wpAny_getItem_list hl h0 hhi (by simpa using hx) h) hs
end
end Mine
end

noncomputable section
open PySem PySem.W PySem.Calls PyProof.Rows
namespace Mine
open LCg
section
variable {prog : Program} {w : World} {A : Around} {s : Shared} {h₀ : Heap} {L : Addr} {m : Str → Option Value} {env : Env} {E : Value → Shared → Prop}
inductive RangeAt (h₀ : Heap) (L : Addr) (m : Str → Option Value) (I C D : Addr) (a : Int) (n : Nat) (J : Nat → List Value → List (Addr × Obj) → Prop) (s : Shared) (k : Nat) : Shared → Prop
  | mk (h : Heap) (tk i : Nat) (ys : List Value) (m' : Str → Option Value) (news' : List (Addr × Obj)) (hk : i + k = n + 1) (hin : i ≤ n) (hyl : ys.length = i) (hI : IsRangeIter h I (a + (i : Int)) ((n : Int) - (i : Int)) 1) (F : Fr h₀ L h m) (hC : h.Ns C m') (N : News h₀ L h ((D, lst ys) :: news')) (off : Off3 I C D news') (hJ : J i ys news') : RangeAt h₀ L m I C D a n J s k { s with heap := h, toks := tk }
end
end Mine
end

noncomputable section
open PySem PySem.W PySem.Calls PyProof.Rows
namespace Mine
open LCg
theorem Off1.mem {D : Addr} : ∀ {l : List (Addr × Obj)}, Off1 D l → ∀ p ∈ l, p.1 ≠ D
  | [], _, _, h => nomatch h
  | _ :: _, x, p, h => by
    rcases List.mem_cons.mp h with rfl | h
    · exact x.1
    · exact Off1.mem x.2 p h
theorem Off1.of {D : Addr} : ∀ {l : List (Addr × Obj)}, (∀ p ∈ l, p.1 ≠ D) → Off1 D l
  | [], _ => trivial
  | _ :: _, h => ⟨h _ List.mem_cons_self, Off1.of fun p hp => h p (List.mem_cons_of_mem _ hp)⟩
section
variable {prog : Program} {w : World} {A : Around} {s : Shared} {h₀ : Heap} {L : Addr} {m : Str → Option Value} {env : Env} {E : Value → Shared → Prop}
noncomputable def EnumTurn (prog : Program) (w : World) (A : Around) (h₀ : Heap) (L : Addr) (m : Str → Option Value) (env : Env) (elt : PySem.Expr) (a b : Str) (scope : Scope) (cl : List (Str × Addr)) (s : Shared) (items : Array Value) (J : Nat → List Value → List (Addr × Obj) → Prop) : Prop :=
  ∀ i ys news ti x e oe it oi C oC D m₂ h tk (E' : Value → Shared → Prop), items[i]? = some x → J i ys news → NsObj oC m₂ → m₂ a = some (.int (i : Int) ti) → m₂ b = some x → Fr h₀ L h m → News h₀ L h ((e, oe) :: (C, oC) :: (D, lst ys) :: (it, oi) :: news) → Off3 e C D ((it, oi) :: news) → Off1 it news →
    ((@Ne Nat e C) ∧ (@Ne Nat e D) ∧ (@Ne Nat C D)) →
    wpAny (model prog w) A (eval elt (compEnvC scope cl C env)) (CompEnd h₀ L m { s with heap := h, toks := tk } e oe C oC D (lst ys) (fun _ => True) (fun y news' => ∃ news'', news' = (it, oi) :: news'' ∧ Off1 it news'' ∧ J (i + 1) (ys ++ [y]) news'')) E' { s with heap := h, toks := tk }
inductive EnumAt (h₀ : Heap) (L : Addr) (m : Str → Option Value) (e it l C D : Addr) (items : Array Value) (J : Nat → List Value → List (Addr × Obj) → Prop) (s : Shared) (k : Nat) : Shared → Prop
  | mk (h : Heap) (tk i : Nat) (ys : List Value) (m' : Str → Option Value) (news' : List (Addr × Obj)) (oi : Obj) (old : Value) (hk : i + k = items.size + 1) (hin : i ≤ items.size) (hyl : ys.length = i) (hE : IsEnum h e it (i : Int) old) (hit : h.IsListIter it l i) (F : Fr h₀ L h m) (hC : h.Ns C m') (N : News h₀ L h ((D, lst ys) :: (it, oi) :: news')) (off : Off3 e C D ((it, oi) :: news')) (oit : Off1 it news') (hJ : J i ys news') : EnumAt h₀ L m e it l C D items J s k { s with heap := h, toks := tk }
theorem enum_loop {elt iter : PySem.Expr} {a b : Str} {pa pb tp : Pos} {kk : Nat} {scope : Scope} {cl : List (Str × Addr)} {pos : Pos} {items : Array Value} {J : Nat → List Value → List (Addr × Obj) → Prop} {e it l C D : Addr} {R : Result → Shared → Prop} {news : List (Addr × Obj)} {m₁ : Str → Option Value} {oi : Obj}
    (hh : A.handled = none) (hkind : scope.kind = .function) (hxa : scope.names.lookup a = some .local) (hxb : scope.names.lookup b = some .local) (hab : ¬ a = b) (hsz : items.size ≤ sizeLine)
    (he : IsEnum s.heap e it 0 .none) (hit : s.heap.IsListIter it l 0) (F : Fr h₀ L s.heap m) (hC : s.heap.Ns C m₁) (N : News h₀ L s.heap ((D, lst []) :: (it, oi) :: news)) (off : Off3 e C D ((it, oi) :: news)) (oit : Off1 it news)
    (heC : e ≠ C) (heD : e ≠ D) (hCD : C ≠ D) (heL : L ≠ e) (hCL : C ≠ L) (he₀ : h₀.get? e = none) (hC₀ : h₀.get? C = none) (hJ : J 0 [] news)
    (hl : ∀ i ys news, J i ys news → ∃ ol, (l, ol) ∈ news ∧ ol.cls = .type "list" ∧ ∃ n, ol.data = .seq items n)
    (turn : EnumTurn prog w A h₀ L m env elt a b scope cl s items J)
    (done : ∀ h tk m' ys news', Fr h₀ L h m → News h₀ L h ((D, lst ys) :: news') → Off3 e C D news' → h.Ns C m' → J items.size ys news' → R (.ok .next) { s with heap := h, toks := tk }) :
    codeAny (model prog w) A (.compLoop (.ListComp elt [⟨.Tuple [.Name a pa, .Name b pb] kk tp, iter, [], 0⟩] scope pos) 0 (.ref e) (.ref D) (compEnvC scope cl C env)) R s := by
  have hDL : D ≠ L := (N _ (.head _)).2.1
  have hD₀ : h₀.get? D = none := (N _ (.head _)).2.2
  have hiL : it ≠ L := (N _ (.tail _ (.head _))).2.1
  have hi₀ : h₀.get? it = none := (N _ (.tail _ (.head _))).2.2
  have hte : it ≠ e := (off.mem _ (.head _)).1
  have htC : it ≠ C := (off.mem _ (.head _)).2.1
  have htD : it ≠ D := (off.mem _ (.head _)).2.2
  refine kcp_loop (EnumAt h₀ L m e it l C D items J s)
    ?_ (items.size + 1) (.mk s.heap s.toks 0 [] m₁ news oi _ (Nat.zero_add _) (Nat.zero_le _) rfl he hit F hC N off oit hJ)
  rintro k s' ⟨h, tk, i, ys, m', news', oi, old₀, hk, hin, hyl, hE, hit, F, hC, N, off, oit, hJ⟩
  obtain ⟨ol, hlm, hlc, nl, hld⟩ := hl _ _ _ hJ
  have o3 := off.mem
  have o1 := Off1.mem oit
  have hle : l ≠ e := (o3 _ (.tail _ hlm)).1
  have hli : l ≠ it := o1 _ hlm
  have hL : h.IsList l items := ⟨ol, (N _ (.tail _ (.tail _ hlm))).1, hlc, nl, hld⟩
  have W := WalksT.enumerate (prog := prog) (w := w) hh e it l (Ne.symm hte) hle hli items
  rcases Nat.lt_or_ge i items.size with hlt | hge
  · refine W.item i _ _ _ hlt ⟨⟨_, hE⟩, hit, hL⟩ fun T vals h₂ tk₂ hP hTn hT hMid hk₂ => ?_
    obtain ⟨ti, x, hx, rfl⟩ := hP
    have ap := W.apart _ _ _ hMid
    refine W.go _ _ _ i T _ _ _ hMid fun h₃ hst₃ hk₃ => ?_
    obtain ⟨⟨old, hE₃⟩, hit₃, _⟩ := hst₃
    have up : ∀ c o, c ≠ e → c ≠ it → h.get? c = some o → h₃.get? c = some o := fun c o h1 h2 q => hk₃ c o (by simp [h1, h2]) (hk₂ c o (by simp [h1, h2]) q)
    have hT₃ : h₃.IsTuple T #[.int (i : Int) ti, x] := by
      obtain ⟨o, q, r⟩ := hT
      exact ⟨o, hk₃ T o ap q, r⟩
    refine kcp_assign (env := compEnvC scope cl C env) hh hT₃ (lookup_relabel_local hxa) (lookup_relabel_local hxb) (by simp [compEnvC, relabel, hkind]) (hC.at' fun o q => up C o (Ne.symm heC) (Ne.symm htC) q) fun h₄ tk₄ hn₄ hs₄ => ?_
    have hs₄' : ∀ c o, c ≠ C → h₃.get? c = some o → h₄.get? c = some o := hs₄
    have hn₄' : h₄.Ns C (fun z => if z = b then some x else if z = a then some (.int (i : Int) ti) else m' z) := hn₄
    obtain ⟨oe, hge₄, hoe⟩ : ∃ oe : Obj, h₄.get? e = some oe ∧ ∀ h : Heap, h.get? e = some oe → ∃ old, IsEnum h e it ((i + 1 : Nat) : Int) old := ⟨_, hs₄' e _ heC hE₃, fun _ q => ⟨_, q⟩⟩
    obtain ⟨ot, hgt₄, hot⟩ : ∃ ot : Obj, h₄.get? it = some ot ∧ ∀ h : Heap, h.get? it = some ot → h.IsListIter it l (i + 1) := by
      obtain ⟨o, q, r⟩ := hit₃
      exact ⟨o, hs₄' it _ htC q, fun _ q' => ⟨o, q', r⟩⟩
    obtain ⟨oC, heC₄, hoC⟩ := ns_obj hn₄'
    have F₄ : Fr h₀ L h₄ m := ⟨F.ns.at' fun o q => hs₄' L o (Ne.symm hCL) (up L o heL (Ne.symm hiL) q), fun c o q => hs₄' c o (fun z => by rw [z, hC₀] at q; cases q) (up c o (fun z => by rw [z, he₀] at q; cases q) (fun z => by rw [z, hi₀] at q; cases q) (F.keep c o q)), F.above⟩
    have N₄ : News h₀ L h₄ ((e, oe) :: (C, oC) :: (D, lst ys) :: (it, ot) :: news') := List.forall_mem_cons.mpr ⟨⟨hge₄, Ne.symm heL, he₀⟩, List.forall_mem_cons.mpr ⟨⟨heC₄, hCL, hC₀⟩, List.forall_mem_cons.mpr ⟨⟨hs₄' _ _ (Ne.symm hCD) (up _ _ (Ne.symm heD) (Ne.symm htD) (N _ (.head _)).1), hDL, hD₀⟩, List.forall_mem_cons.mpr ⟨⟨hgt₄, hiL, hi₀⟩, fun p hp => let z := N p (.tail _ (.tail _ hp)); ⟨hs₄' _ _ (o3 p (.tail _ hp)).2.1 (up _ _ (o3 p (.tail _ hp)).1 (o1 p hp) z.1), z.2⟩⟩⟩⟩⟩
    have off₄ : Off3 e C D ((it, ot) :: news') := ⟨off.1, off.2⟩
    refine wpAny_mono (turn i ys news' ti x e oe it ot C oC D _ h₄ _ _ hx hJ hoC (by simp [hab]) (by simp) F₄ N₄ off₄ oit ⟨heC, heD, hCD⟩) (fun y s₅ z => ?_) fun _ _ q => q
    obtain ⟨h₅, tk₅, news₅, rfl, F₅, N₅, off₅, _, news₆, rfl, oit₆, hJ₅⟩ := z
    have o5 := off₅.mem
    have zD := (N₅ _ (.tail _ (.tail _ (.head _)))).1
    refine append_at (hsz := by show ys.toArray.size ≤ sizeLine; rw [List.size_toArray, hyl]; exact Nat.le_trans hin hsz) zD fun h₆ hs₆ hD₆ => ?_
    obtain ⟨old₆, hE₆⟩ := hoe h₆ (hs₆.extBut e oe heD (N₅ _ (.head _)).1)
    refine ⟨k - 1, (ar_turn hk hin).1, .mk h₆ tk₅ (i + 1) (ys ++ [y]) _ news₆ ot old₆ (ar_turn hk hin).2 hlt (by simp [hyl]) hE₆ (hot h₆ (hs₆.extBut it ot htD (N₅ _ (.tail _ (.tail _ (.tail _ (.head _))))).1)) (F₅.change hs₆ hDL hD₀)
      ((hoC.ns (N₅ _ (.tail _ (.head _))).1).sameBut hs₆ hCD) (List.forall_mem_cons.mpr ⟨⟨hD₆.trans (congrArg some (lst_snoc ys y)), hDL, hD₀⟩, fun p hp => let q := N₅ p (.tail _ (.tail _ (.tail _ hp))); ⟨hs₆.extBut _ _ (o5 p hp).2.2 q.1, q.2⟩⟩) off₅ oit₆ hJ₅⟩
  · obtain rfl : i = items.size := Nat.le_antisymm hin hge
    refine W.done _ _ _ ⟨⟨_, hE⟩, hit, hL⟩ fun h₂ tk₂ hk₂ => ?_
    have up : ∀ c o, c ≠ e → c ≠ it → h.get? c = some o → h₂.get? c = some o := fun c o h1 h2 q => hk₂ c o (by simp [h1, h2]) q
    refine done h₂ tk₂ m' ys news' ⟨F.ns.at' fun o q => up L o heL (Ne.symm hiL) q, fun c o q => up c o (fun z => by rw [z, he₀] at q; cases q) (fun z => by rw [z, hi₀] at q; cases q) (F.keep c o q), F.above⟩ (fun p hp => ?_) off.2 (hC.at' fun o q => up C o (Ne.symm heC) (Ne.symm htC) q) hJ
    rcases List.mem_cons.mp hp with rfl | hp
    · exact ⟨up _ _ (Ne.symm heD) (Ne.symm htD) (N _ (.head _)).1, hDL, hD₀⟩
    · have z := N p (.tail _ (.tail _ hp))
      exact ⟨up _ _ (o3 p (.tail _ hp)).1 (o1 p hp) z.1, z.2⟩
inductive EnumSrc (prog : Program) (w : World) (A : Around) (h₀ : Heap) (L : Addr) (m : Str → Option Value) (env : Env) (elt : PySem.Expr) (a b : Str) (scope : Scope) (cl : List (Str × Addr)) (Fin : Shared → List Value → List (Addr × Obj) → Prop) (xv : Value) (s₁ : Shared) : Prop
  | mk (e it l : Addr) (items : Array Value) (oi : Obj) (news : List (Addr × Obj)) (J : Nat → List Value → List (Addr × Obj) → Prop) (e0 : xv = .ref e) (e1 : A.handled = none) (e2 : Fr h₀ L s₁.heap m) (e3 : News h₀ L s₁.heap ((it, oi) :: news)) (e4 : IsEnum s₁.heap e it 0 .none) (e5 : s₁.heap.IsListIter it l 0) (e6 : L ≠ e) (e7 : h₀.get? e = none) (e8 : Off1 e ((it, oi) :: news)) (e9 : Off1 it news) (e10 : items.size ≤ sizeLine) (e11 : J 0 [] news) (e12 : (∀ i ys news, J i ys news → ∃ ol, (l, ol) ∈ news ∧ ol.cls = .type "list" ∧ ∃ n, ol.data = .seq items n)) (e13 : EnumTurn prog w A h₀ L m env elt a b scope cl s₁ items J) (e14 : ∀ ys news', J items.size ys news' → Fin s₁ ys news')
end
end Mine
end

noncomputable section
open PySem PySem.W PySem.Calls PyProof.Rows
namespace Mine
theorem ints_of_all : ∀ {l : List Value}, (∀ v ∈ l, ∃ n t, v = .int n t) → ∃ ms, IntsAre l ms
  | [], _ => ⟨[], .nil⟩
  | v :: l, h => by
    obtain ⟨n, t, rfl⟩ := h v (.head _)
    obtain ⟨ms, r⟩ := ints_of_all fun v hv => h v (.tail _ hv)
    exact ⟨n :: ms, .cons n t r⟩
theorem pick_ints {vs : List Value} {ns : List Int} (h : IntsAre vs ns) (lo hi st : Option Int) : ∃ ms, IntsAre (slicePick vs.toArray lo hi st).toList ms ∧ ms.length ≤ ns.length := by
  obtain ⟨ms, r⟩ := ints_of_all (l := (slicePick vs.toArray lo hi st).toList) (fun v hv => by
    refine h.all v ?_
    unfold slicePick at hv
    simp only [List.mem_filterMap] at hv
    obtain ⟨i, _, e⟩ := hv
    exact List.mem_of_getElem? (by simpa using e))
  refine ⟨ms, r, ?_⟩
  have h1 := slicePick_size_le vs.toArray lo hi st
  rw [← r.length, ← h.length]
  simpa using h1
theorem nat_sum : ∀ {zs : List Nat}, (zs.map (fun z : Nat => (z : Int))).sum = ((zs.sum : Nat) : Int)
  | [] => rfl
  | z :: zs => by simp [nat_sum (zs := zs)]
theorem sum_le {b : Nat} : ∀ {zs : List Nat}, (∀ z ∈ zs, z ≤ b) → zs.sum ≤ b * zs.length
  | [], _ => by simp
  | z :: zs, h => by
    have h1 := h z (.head _)
    have h2 := sum_le (zs := zs) fun y hy => h y (.tail _ hy)
    rw [List.sum_cons, List.length_cons, Nat.mul_succ]
    omega
theorem snocI {vs : List Value} {ns : List Int} {x : Int} {t : Tok} (h : IntsAre vs ns) : IntsAre (vs ++ [.int x t]) (ns ++ [x]) := by
  induction h with
  | nil => exact .cons x t .nil
  | cons n u h ih => exact .cons n u ih
noncomputable abbrev asInts (zs : List Nat) : List Int := zs.map (fun z : Nat => (z : Int))
theorem ints_snocN {zv : List Value} {zs : List Nat} {v : Int} {t : Tok} (h : IntsAre zv (asInts zs)) (h0 : 0 ≤ v) : IntsAre (zv ++ [.int v t]) (asInts (zs ++ [v.toNat])) := by
  have e : asInts (zs ++ [v.toNat]) = asInts zs ++ [v] := by simp [Int.toNat_of_nonneg h0]
  rw [e]
  exact snocI h
theorem Fr.unsaid {h₀ h : Heap} {L : Addr} {m : Str → Option Value} {l : List (Str × Value)} (F : Fr h₀ L h (kstB m l)) (hl : Says m l) : Fr h₀ L h m := by
  have e : kstB m l = m := by
    funext z
    exact kstB_eq hl fun _ => rfl
  rw [e] at F; exact F
end Mine
end

noncomputable section
open PySem PySem.W PySem.Calls PyProof.Rows
namespace Mine
open LCg
section
variable {prog : Program} {w : World} {A : Around} {s : Shared} {h₀ : Heap} {L : Addr} {m : Str → Option Value} {env : Env} {E : Value → Shared → Prop}
end
section
variable {prog : Program} {w : World} {A : Around} {E : Value → Shared → Prop} {s : Shared}
theorem txt_len (l : List Nat) : (txt l).length = l.length := by simp [Str.length]
theorem add_txt {a b : List Nat} {t u : Tok} {Q : Value → Shared → Prop} (hl : a.length + b.length ≤ 100000) (h : ∀ t' k, Q (.str (txt (a ++ b)) t') { s with toks := k }) :
    wpAny (model prog w) A (binaryOp .Add (.str (txt a) t) (.str (txt b) u)) Q E s := by
  refine SB.add (fun t' k => ?_) (by rw [txt_len, txt_len]; exact Nat.le_trans hl (by decide))
  rw [txt_append]
  exact h t' k
theorem join_rows {D : Addr} {vs : List Value} {f : Nat → List Nat} {l : List Nat} {b : Nat} {t : Tok} {Q : Value → Shared → Prop} (hD : s.heap.IsList D vs.toArray) (hS : StrsAre vs (l.map fun c => txt (f c))) (hf : ∀ c ∈ l, (f c).length ≤ b) (hb : b * l.length ≤ 1000000)
    (h : ∀ t' k, Q (.str (txt (l.flatMap f)) t') { s with toks := k }) : wpAny (model prog w) A (call (.builtin "str.join") [.str (Str.ofString "") t, .ref D]) Q E s := by
  have hsum := sum_le (b := b) (zs := (l.map fun c => txt (f c)).map (·.length)) (fun z hz => by
    simp only [List.mem_map] at hz
    obtain ⟨x, ⟨c, hc, rfl⟩, rfl⟩ := hz
    have := hf c hc
    rw [txt_len]; exact this)
  have hle : ((l.map fun c => txt (f c)).map (·.length)).length = l.length := by simp
  rw [hle] at hsum
  have h0 : (Str.ofString "").length = 0 := rfl
  refine join_list hD hS (by rw [h0, Nat.mul_zero]; omega) (fun t6 k6 => ?_)
  have fr : ∀ l : List Nat, flat (l.map fun c => txt (f c)) = l.flatMap f := by
    intro l
    induction l with
    | nil => rfl
    | cons c l ih =>
      show (txt (f c)).cps.toList ++ flat (l.map fun c => txt (f c)) = f c ++ l.flatMap f
      rw [ih]
  rw [join_empty, fr]
  exact h t6 k6
end
end Mine
end

noncomputable section
open PySem PySem.W PySem.Calls PyProof.Rows
namespace Mine
noncomputable abbrev rep (d : Nat) : List Nat := List.replicate d 46
noncomputable def IsEnd (e : List Nat) : Prop := e = [10] ∨ e = [13] ∨ e = [13, 10]
noncomputable def rowsOf (ps : List (Nat × List Nat)) : List Nat := ps.flatMap fun p => rep p.1 ++ p.2
noncomputable def mailOf (ds : List Nat) (t : Nat) : List Nat := ds.flatMap fun d => rep (d + t) ++ [13, 10]
theorem rowsOf_cons (p : Nat × List Nat) (ps : List (Nat × List Nat)) : rowsOf (p :: ps) = rep p.1 ++ (p.2 ++ rowsOf ps) := by simp [rowsOf]
theorem mailOf_cons (d : Nat) (ds : List Nat) (t : Nat) : mailOf (d :: ds) t = rep (d + t) ++ (13 :: 10 :: mailOf ds t) := by simp [mailOf]
theorem mail_rows (ds : List Nat) (t : Nat) : mailOf ds t = rowsOf (ds.map fun d => (d + t, [13, 10])) := by
  induction ds with
  | nil => rfl
  | cons d ds ih => rw [mailOf_cons, List.map_cons, rowsOf_cons, ih]; rfl
theorem crlf_dots (d : Nat) (r : List Nat) : crlf (rep d ++ r) = rep d ++ crlf r := by
  induction d with
  | zero => rfl
  | succ d ih =>
    rw [rep, List.replicate_succ, List.cons_append, List.cons_append]
    show crlf (46 :: (rep d ++ r)) = 46 :: (rep d ++ crlf r)
    rw [← ih]
    simp [crlf]
theorem crlf_rows : ∀ ps : List (Nat × List Nat), (∀ p ∈ ps, 1 ≤ p.1 ∧ IsEnd p.2) → crlf (rowsOf ps) = mailOf (ps.map (·.1)) 0
  | [], _ => rfl
  | p :: ps, h => by
    have ih := crlf_rows ps fun q hq => h q (List.mem_cons_of_mem _ hq)
    have hp := h p (List.mem_cons_self ..)
    have hhd : (rowsOf ps).head? ≠ some 10 := by
      cases ps with
      | nil => simp [rowsOf]
      | cons q ps =>
        have hq := h q (List.mem_cons_of_mem _ (List.mem_cons_self ..))
        rw [rowsOf_cons]
        obtain ⟨k, hk⟩ : ∃ k, q.1 = k + 1 := ⟨q.1 - 1, by omega⟩
        rw [hk, rep, List.replicate_succ]
        simp
    rw [rowsOf_cons, crlf_dots, List.map_cons, mailOf_cons, Nat.add_zero]
    congr 1
    rcases hp.2 with e | e | e <;> rw [e]
    · show crlf (10 :: rowsOf ps) = _
      rw [crlf_lf, ih]
    · show crlf (13 :: rowsOf ps) = _
      rw [crlf_cr hhd, ih]
    · show crlf (13 :: 10 :: rowsOf ps) = _
      rw [crlf_pair, ih]
theorem stuff_dots (d : Nat) (r : List Nat) : stuff false (rep d ++ r) = rep d ++ stuff false r := by
  induction d with
  | zero => rfl
  | succ d ih =>
    rw [rep, List.replicate_succ, List.cons_append, List.cons_append]
    show stuff false (46 :: (rep d ++ r)) = 46 :: (rep d ++ stuff false r)
    rw [← ih]
    simp [stuff]
theorem stuff_mail (t : Nat) : ∀ ds : List Nat, (∀ d ∈ ds, 1 ≤ d) → stuff true (mailOf ds t) = mailOf ds (t + 1)
  | [], _ => rfl
  | d :: ds, h => by
    have ih := stuff_mail t ds fun q hq => h q (List.mem_cons_of_mem _ hq)
    have hd := h d (List.mem_cons_self ..)
    obtain ⟨k, hk⟩ : ∃ k, d + t = k + 1 := ⟨d + t - 1, (Nat.sub_add_cancel (Nat.le_trans hd (Nat.le_add_right ..))).symm⟩
    rw [mailOf_cons, mailOf_cons, ← ih, show d + (t + 1) = k + 1 + 1 by omega, hk, rep, rep, List.replicate_succ, List.replicate_succ, List.replicate_succ]
    show stuff true (46 :: (rep k ++ 13 :: 10 :: mailOf ds t)) = 46 :: 46 :: (rep k ++ 13 :: 10 :: stuff true (mailOf ds t))
    have e : stuff false (rep k ++ 13 :: 10 :: mailOf ds t) = rep k ++ 13 :: 10 :: stuff true (mailOf ds t) := by
      rw [stuff_dots]; simp [stuff]
    rw [← e]
    simp [stuff]
theorem quote_rows (ps : List (Nat × List Nat)) (h : ∀ p ∈ ps, 1 ≤ p.1 ∧ IsEnd p.2) : stuff true (crlf (rowsOf ps)) = mailOf (ps.map (·.1)) 1 := by
  rw [crlf_rows ps h]
  exact stuff_mail 0 _ fun d hd => by
    obtain ⟨p, hp, rfl⟩ := List.mem_map.mp hd
    exact (h p hp).1
theorem bare_dots (d : Nat) (r acc : List Nat) (c : Nat) (hc : ws c = true) : bare acc (rep d ++ c :: r) = (acc ++ rep d, r) := by
  induction d generalizing acc with
  | zero => show bare acc (c :: r) = _; rw [bare_ws hc]; simp
  | succ d ih =>
    rw [rep, List.replicate_succ]
    show bare acc (46 :: (rep d ++ c :: r)) = _
    rw [bare_c (by decide) (by decide), ih]; simp
theorem word_dots (d : Nat) (hd : 1 ≤ d) (r : List Nat) (c : Nat) (hc : ws c = true) : word (rep d ++ c :: r) = (rep d, r) := by
  obtain ⟨k, rfl⟩ : ∃ k, d = k + 1 := ⟨d - 1, by omega⟩
  rw [rep, List.replicate_succ]
  show word (46 :: (rep k ++ c :: r)) = _
  rw [word_c (by decide) (by decide) (by decide), bare_dots k r [46] c hc]; rfl
end Mine
end

noncomputable section
open PySem PySem.W PySem.Calls PyProof.Rows
open PySem.Builtin PySem.Builtin.Str
namespace Mine
open StrLaws
theorem cnt_count (c : Nat) (l : List Nat) : cnt c l = (l.count c : Nat) := by
  induction l with
  | nil => rfl
  | cons d l ih =>
    rw [cnt_cons, ih, List.count_cons]
    by_cases h : d = c
    · simp [h]; omega
    · simp [h]
theorem count_txt (c : Nat) (l : List Nat) : Txt.count (txt l) ⟨#[c]⟩ = (l.count c : Nat) := by
  rw [count_is, ← cnt_count]
  rfl
end Mine
end

noncomputable section
open PySem PySem.W PySem.Calls PyProof.Rows
set_option maxRecDepth 100000
namespace Mine
section
variable {prog : Program} {w : World} {A : Around} {E : Value → Shared → Prop} {s : Shared}
end
end Mine
end

noncomputable section
namespace PySem.SeqInW
open MeetsSeq MeetsSeq2 SeqRoads2
end PySem.SeqInW

open PySem PySem.W PySem.Calls PyProof.Rows
namespace Mine
section
variable {prog : Program} {w : World} {A : Around} {E : Value → Shared → Prop} {s : Shared}
end
end Mine
end

noncomputable section
open PySem PySem.W PySem.Calls PyProof.Rows
set_option maxRecDepth 100000
namespace Mine
noncomputable def remOf (ds : List Nat) (t k : Nat) : List Nat := if k = 0 then mailOf ds t else if k ≤ ds.length then 10 :: mailOf (ds.drop k) t else []
theorem word_skip (l : List Nat) : word (10 :: l) = word l := by
  show (if ws 10 then word l else _) = _
  rw [if_pos (by decide)]
theorem mail_drop (ds : List Nat) (t k : Nat) (hk : k < ds.length) : mailOf (ds.drop k) t = rep (ds[k] + t) ++ (13 :: 10 :: mailOf (ds.drop (k + 1)) t) := by
  rw [List.drop_eq_getElem_cons hk, mailOf_cons]
theorem word_rem (ds : List Nat) (t k : Nat) (hk : k < ds.length) (h : ∀ d ∈ ds, 1 ≤ d) : word (remOf ds t k) = (rep (ds[k] + t), remOf ds t (k + 1)) := by
  have h1 : 1 ≤ ds[k] + t := Nat.le_trans (h _ (List.getElem_mem hk)) (Nat.le_add_right ..)
  have e : remOf ds t (k + 1) = 10 :: mailOf (ds.drop (k + 1)) t := by
    unfold remOf
    rw [if_neg (by omega), if_pos (by omega)]
  rw [e]
  unfold remOf
  by_cases h0 : k = 0
  · subst h0
    rw [if_pos rfl]
    have := mail_drop ds t 0 hk
    rw [List.drop_zero] at this
    rw [this, word_dots _ h1 _ _ (by decide)]
  · rw [if_neg h0, if_pos (by omega), word_skip, mail_drop ds t k hk, word_dots _ h1 _ _ (by decide)]
theorem word_rem_last (ds : List Nat) (t : Nat) (h : ds ≠ []) : word (remOf ds t ds.length) = ([], []) := by
  have hl : 0 < ds.length := List.length_pos_iff.mpr h
  unfold remOf
  rw [if_neg (by omega), if_pos (Nat.le_refl _), List.drop_length, word_skip]; rfl
theorem rem_end (ds : List Nat) (t : Nat) : remOf ds t (ds.length + 1) = [] := by
  unfold remOf
  rw [if_neg (by omega), if_neg (by omega)]
theorem nls_mail (ds : List Nat) (t : Nat) : nls (mailOf ds t) = ds.length := by
  induction ds with
  | nil => rfl
  | cons d ds ih =>
    rw [mailOf_cons]
    have e : nls (rep (d + t) ++ 13 :: 10 :: mailOf ds t) = nls (13 :: 10 :: mailOf ds t) := by
      unfold nls
      rw [List.count_append, List.count_replicate]; simp
    rw [e, nls_cons, nls_cons, ih]
    simp
theorem mail_asc (ds : List Nat) (t : Nat) : ∀ c ∈ mailOf ds t, c < 128 := by
  intro c hc
  obtain ⟨d, _, hc⟩ := List.mem_flatMap.mp hc
  rcases List.mem_append.mp hc with hc | hc
  · rw [List.eq_of_mem_replicate hc]; decide
  · simp only [List.mem_cons, List.not_mem_nil, or_false] at hc
    rcases hc with rfl | rfl <;> decide
theorem rem_asc (ds : List Nat) (t k : Nat) : ∀ c ∈ remOf ds t k, c < 128 := by
  unfold remOf
  split
  · exact mail_asc ds t
  · split
    · intro c hc
      rcases List.mem_cons.mp hc with rfl | hc
      · decide
      · exact mail_asc _ t c hc
    · intro c hc; cases hc
theorem mail_len (ds : List Nat) (t : Nat) (hd1 : ∀ d ∈ ds, d ≤ 1000) (ht : t ≤ 100) : (mailOf ds t).length ≤ 1200 * ds.length := by
  induction ds with
  | nil => exact Nat.zero_le _
  | cons d ds ih =>
    have := ih fun q hq => hd1 q (List.mem_cons_of_mem _ hq)
    have := hd1 d (List.mem_cons_self ..)
    rw [mailOf_cons, List.length_append, List.length_replicate]
    simp only [List.length_cons]
    omega
theorem rem_len (ds : List Nat) (t k : Nat) (hd1 : ∀ d ∈ ds, d ≤ 1000) (ht : t ≤ 100) : (remOf ds t k).length ≤ 1200 * ds.length + 1 := by
  unfold remOf
  split
  · have := mail_len ds t hd1 ht; omega
  · split
    · have := mail_len (ds.drop k) t (fun d hd => hd1 d (List.mem_of_mem_drop hd)) ht
      rw [List.length_drop] at this
      rw [List.length_cons]
      have := Nat.mul_le_mul_left 1200 (Nat.sub_le ds.length k)
      omega
    · exact Nat.zero_le _
noncomputable def mailWords (ds : List Nat) (t : Nat) : List Str := (ds.map fun d => txt (rep (d + t))) ++ [txt []]
end Mine
end

noncomputable section
open PySem PySem.W PySem.Calls PyProof.Rows
set_option maxRecDepth 100000
namespace Mine
noncomputable def IsListO (o : Obj) (items : Array Value) : Prop := o.cls = .type "list" ∧ ∃ n, o.data = .seq items n
theorem Walks.listO {prog : Program} {w : World} {A : Around} (hh : A.handled = none) (I ax : Addr) (hne : ax ≠ I) (items : Array Value) (oL : Obj) (hL : IsListO oL items) :
    Walks prog w A I [I, ax] [I] items.size (fun i v => items[i]? = some v) (fun i h => h.IsListIter I ax i ∧ h.get? ax = some oL) where
  sub := fun b hb => by simp at hb; simp [hb]
  frame := fun _ _ _ st hk => ⟨st.1.at fun o e => hk I (by simp) o e, hk ax (by simp) _ st.2⟩
  item := fun i s Q E hi st hQ => by
    refine wpAny_pyNext_list_item st.1 ⟨oL, st.2, hL⟩ (x := items[i]) (by simp [hi]) fun h' hit' hs' => ?_
    exact hQ _ h' s.toks (by simp [hi]) ⟨hit', hs'.extBut ax _ hne st.2⟩ fun b o hb e => hs'.extBut b o (fun h => hb (by simp [h])) e
  done := fun s Q E st hQ => wpAny_pyNext_list_end hh st.1 ⟨oL, st.2, hL⟩ (by simp) fun h' he' => hQ h' s.toks fun b o hb e => he' b o (fun h => hb (by simp [h])) e
  self := fun _ _ _ _ st hQ => wpAny_pyIter_listiter st.1 hQ
section
variable {prog : Program} {w : World} {A : Around} {E : Value → Shared → Prop} {s : Shared}
theorem loopList {env : Env} {h₀ : Heap} {x : Str} {body : List Stmt} {Q : Flow → Shared → Prop} {l : Addr} {oL : Obj} {vs : List Value} {m₀ : Str → Option Value} {news : List (Addr × Obj)} (hh : A.handled = none)
    (hL : IsListO oL vs.toArray) (F : Fr h₀ env.locals s.heap m₀) (N : News h₀ env.locals s.heap news)
    (J : Nat → (Str → Option Value) → List (Addr × Obj) → Prop) (hj : J 0 m₀ news) (hmem : ∀ i m n, J i m n → (l, oL) ∈ n)
    (turn : ∀ i v m₁ news₁ h tk I oI (kn : Shared → Prop), i < vs.length → vs[i]? = some v → J i m₁ news₁ → Fr h₀ env.locals h (fun y => if y = x then some v else m₁ y) → News h₀ env.locals h (news₁ ++ [(I, oI)]) → (∀ q ∈ news₁, q.1 ≠ I) →
      (∀ h' tk' m' news', Fr h₀ env.locals h' m' → News h₀ env.locals h' (news' ++ [(I, oI)]) → (∀ q ∈ news', q.1 ≠ I) → J (i + 1) m' news' → kn { s with heap := h', toks := tk' }) →
      wpAny (model prog w) A (execs body env) (fun f s₂ => match f with | .ret v => Q (.ret v) s₂ | .brk => Q .next s₂ | _ => kn s₂) E { s with heap := h, toks := tk })
    (done : ∀ h tk m₁ news₁, J vs.length m₁ news₁ → Fr h₀ env.locals h m₁ → News h₀ env.locals h news₁ → Q .next { s with heap := h, toks := tk }) :
    wpAny (model prog w) A (pyIter (.ref l)) (fun it s₂ => LoopAtV prog w A h₀ env x body Q E it s₂) E s := by
  have hm0 := hmem _ _ _ hj
  refine wpAny_pyIter_list (items := vs.toArray) ⟨oL, (N _ hm0).1, hL⟩ ?_
  have hlL := F.ns.lt
  have hfr : h₀.get? s.heap.objs.size = none := Heap.get?_none_of_le (Nat.le_trans F.above (Nat.le_of_lt hlL))
  have hne : l ≠ s.heap.objs.size := Nat.ne_of_lt (Heap.lt_size (N _ hm0).1)
  have W := Walks.listO (prog := prog) (w := w) (A := A) hh s.heap.objs.size l hne vs.toArray oL hL
  refine ⟨s.heap.objs.size, [s.heap.objs.size, l], [s.heap.objs.size], vs.toArray.size, _, _, m₀, news, J, rfl, W, ?_, ?_, ?_, ?_, F.push _, (fun p hp => ⟨Heap.get?_push_of_some _ (N p hp).1, (N p hp).2⟩), hj, ?_, ?_⟩
  · intro hb
    rcases List.mem_cons.mp hb with e | hb
    · exact absurd hlL (e ▸ Nat.lt_irrefl _)
    · exact (N _ hm0).2.1 (List.mem_singleton.mp hb).symm
  · intro b hb
    rw [List.mem_singleton.mp hb]; exact hfr
  · intro q hq hm
    exact absurd (Heap.lt_size (N q hq).1) ((List.mem_singleton.mp hm) ▸ Nat.lt_irrefl _)
  · exact ⟨⟨_, Heap.get?_push_size _ rfl, rfl, rfl⟩, Heap.get?_push_of_some _ (N _ hm0).1⟩
  · rintro i v m₁ news₁ s₁ own ⟨hh', tk', rfl⟩ hin hP hJ hnf hoff hown hog hst1 F₁ N₁
    have hmi := hmem _ _ _ hJ
    obtain ⟨⟨oI, hoI, _⟩, hl1⟩ := hst1
    have hIo : (s.heap.objs.size, oI) ∈ own := hog _ (.head _) hfr _ hoI
    have N₂ : News h₀ env.locals hh' (news₁ ++ [(s.heap.objs.size, oI)]) := fun p hp => by
      rcases List.mem_append.mp hp with hp | hp
      · exact N₁ p (List.mem_append_right _ hp)
      · rw [List.mem_singleton.mp hp]; exact N₁ _ (List.mem_append_left _ hIo)
    refine wpAny_mono (turn i v m₁ news₁ hh' tk' s.heap.objs.size oI (LoopStepU h₀ env.locals [s.heap.objs.size] own (J (i + 1)) { s with heap := hh', toks := tk' } .next) (by simpa using hin) (by simpa using hP) hJ F₁ N₂ (fun q hq e => hnf q hq (by rw [e]; exact .head _)) ?_) (fun f s₂ p => ?_) fun _ _ e => e
    · intro h' tk m' news' F' N' hsep hJ'
      have hm' := hmem _ _ _ hJ'
      refine ⟨rfl, h', tk, m', news', rfl, F', fun p hp => ?_, fun p hp hq => hsep p hp (List.mem_singleton.mp hq), hJ'⟩
      rcases List.mem_append.mp hp with hp | hp
      · have hpf := hoff p hp
        have hpo := hown p hp
        obtain ⟨pa, po⟩ := p
        rcases List.mem_cons.mp hpf with e | hpf
        · dsimp only at e
          subst e
          have : po = oI := Option.some.inj (hpo.symm.trans hoI)
          rw [this]
          exact N' _ (List.mem_append_right _ (.head _))
        · have e := List.mem_singleton.mp hpf
          dsimp only at e
          subst e
          have : po = oL := Option.some.inj (hpo.symm.trans hl1)
          rw [this]
          exact N' _ (List.mem_append_left _ hm')
      · exact N' p (List.mem_append_left _ hp)
    · cases f with
      | ret v => exact .ret p
      | brk => exact .brk p
      | next => exact .next p
      | cont => exact .cont p
  · rintro h' tk m' news' F' N' _ hJ
    exact done h' tk m' news' (by simpa using hJ) F' N'
end
end Mine
end

noncomputable section
open PySem PySem.W PySem.Calls PyProof.Rows PyProof.V PySem.Spec PySem.SeqAt
set_option maxRecDepth 100000
namespace Mine
noncomputable abbrev intsD (ns : List Int) : List PyData := ns.map PyData.int
noncomputable abbrev rowsD (rows : List (List Int)) : List PyData := rows.map fun r => PyData.tuple (intsD r)
theorem rows_canLay : ∀ rows : List (List Int), PyData.canLayAll0 (rowsD rows) = true
  | [] => by simp [PyData.canLayAll0]
  | r :: rs => by
    have := rows_canLay rs
    simp only [rowsD, List.map_cons, PyData.canLayAll0, PyData.canLay0, canLayAll0_ints r, Bool.true_and]
    exact this
theorem rows_depth : ∀ rows : List (List Int), PyData.depthAll (rowsD rows) ≤ 2
  | [] => by simp [PyData.depthAll]
  | r :: rs => by
    have := rows_depth rs
    have h2 := PySem.W.depthAll_ints r
    simp only [rowsD, List.map_cons, PyData.depthAll, PyData.depth, intsD] at *
    omega
theorem shaped_rows (rows : List (List Int)) : shaped (.list (rowsD rows)) = true := by
  have h1 := rows_depth rows
  have h2 : PyData.depth (.list (rowsD rows)) ≤ 64 := by simp only [PyData.depth]; omega
  show (PyData.canLay0 (.list (rowsD rows)) && decide (PyData.depth (.list (rowsD rows)) ≤ 64)) = true
  rw [Bool.and_eq_true]
  exact ⟨by simp only [PyData.canLay0]; exact rows_canLay rows, decide_eq_true h2⟩
theorem noMix_rows : ∀ rs qs : List (List Int), noMixAll (rowsD rs) (rowsD qs) = true
  | [], [] => by simp [noMixAll]
  | [], _ :: _ => by simp [noMixAll]
  | _ :: _, [] => by simp [noMixAll]
  | r :: rs, q :: qs => by
    have := noMix_rows rs qs
    simp only [rowsD, List.map_cons, noMixAll, noMix, noMix_ints r q, Bool.true_and]
    exact this
theorem same_rows : ∀ rs qs : List (List Int), PySem.Spec.sameAll (rowsD rs) (rowsD qs) = decide (rs = qs)
  | [], [] => by simp [PySem.Spec.sameAll]
  | [], _ :: _ => by simp [PySem.Spec.sameAll]
  | _ :: _, [] => by simp [PySem.Spec.sameAll]
  | r :: rs, q :: qs => by
    have := same_rows rs qs
    simp only [rowsD, List.map_cons, PySem.Spec.sameAll, PySem.Spec.same, same_ints r q] at *
    rw [this]
    by_cases h : r = q <;> simp [h]
theorem reads_tup {h : Heap} {a : Addr} {o : Obj} {vs : List Value} {n : Nat} {ns : List Int} (ho : h.get? a = some o) (hc : o.cls = .type "tuple") (hd : o.data = .seq vs.toArray n) (hi : IntsAre vs ns) : Reads h (.ref a) (.tuple (intsD ns)) [] :=
  Reads.tuple ho hc hd (by simpa using readsAll_of_ints hi)
inductive TupsAre : List Value → List (List Int) → List (Addr × Obj) → Prop
  | nil : TupsAre [] [] []
  | snoc {vs rows led us ns} (a : Addr) (o : Obj) (n : Nat) : TupsAre vs rows led → o.cls = .type "tuple" → o.data = .seq us.toArray n → IntsAre us ns → TupsAre (vs ++ [.ref a]) (rows ++ [ns]) ((a, o) :: led)
theorem TupsAre.length {vs : List Value} {rows : List (List Int)} {led : List (Addr × Obj)} (h : TupsAre vs rows led) : vs.length = rows.length := by
  induction h with
  | nil => rfl
  | snoc a o n h _ _ _ ih => simp [ih]
theorem readsAll_append {h : Heap} {vs ws : List Value} {xs ys : List PyData} {as bs : List Addr} (r1 : ReadsAll h vs xs as) (r : ReadsAll h ws ys bs) : ReadsAll h (vs ++ ws) (xs ++ ys) (as ++ bs) := by
  match vs, xs, as, r1 with
  | _, _, _, .nil => exact r
  | _, _, _, .cons q1 q2 =>
    have := ReadsAll.cons q1 (readsAll_append q2 r)
    rw [List.append_assoc]
    exact this
theorem TupsAre.reads {h : Heap} {vs : List Value} {rows : List (List Int)} {led : List (Addr × Obj)} (t : TupsAre vs rows led) (hl : ∀ p ∈ led, h.get? p.1 = some p.2) : ReadsAll h vs (rowsD rows) [] := by
  induction t with
  | nil => exact .nil
  | snoc a o n t hc hd hi ih =>
    have r1 := ih fun p hp => hl p (.tail _ hp)
    have r2 := reads_tup (hl _ (.head _)) hc hd hi
    have := readsAll_append r1 (ReadsAll.cons r2 ReadsAll.nil)
    rw [rowsD, List.map_append]
    exact this
section
variable {prog : Program} {w : World} {A : Around} {E : Value → Shared → Prop} {s : Shared}
theorem ne_rows {a b : Addr} {vs us : List Value} {rs qs : List (List Int)} {l1 l2 : List (Addr × Obj)} {Q : Value → Shared → Prop} (hl : s.heap.IsList a vs.toArray) (t1 : TupsAre vs rs l1) (h1 : ∀ p ∈ l1, s.heap.get? p.1 = some p.2)
    (hl' : s.heap.IsList b us.toArray) (t2 : TupsAre us qs l2) (h2 : ∀ p ∈ l2, s.heap.get? p.1 = some p.2) (hu : A.units + 64 < cLine)
    (h : Q (.bool (!decide (rs = qs))) s) : wpAny (model prog w) A (compareOp .NotEq (.ref a) (.ref b)) Q E s := by
  obtain ⟨o, ho, hc, n, hd⟩ := hl
  obtain ⟨o', ho', hc', n', hd'⟩ := hl'
  exact ne_dataH_same (Reads.list ho hc hd (by simpa using t1.reads h1)) (Reads.list ho' hc' hd' (by simpa using t2.reads h2)) (shaped_rows rs) (shaped_rows qs) hu (by simp only [noMix]; exact noMix_rows rs qs) (by simp only [PySem.Spec.same]; rw [same_rows]; exact h)
noncomputable abbrev normD (ns : List Int) (b : Int) : PyData := .tuple [.tuple (intsD ns), .int b]
theorem shaped_norm (ns : List Int) (b : Int) : shaped (normD ns b) = true := by
  have h1 := PySem.W.depthAll_ints ns
  have h2 : PyData.depth (normD ns b) ≤ 64 := by simp only [PyData.depth, PyData.depthAll, intsD]; omega
  show (PyData.canLay0 (normD ns b) && decide (PyData.depth (normD ns b) ≤ 64)) = true
  rw [Bool.and_eq_true]
  exact ⟨by simp [PyData.canLay0, PyData.canLayAll0, canLayAll0_ints], decide_eq_true h2⟩
theorem eq_norm {a b c d : Addr} {oa ob oc od : Obj} {vs us : List Value} {ns ms : List Int} {x y : Int} {tx ty : Tok} {n1 n2 n3 n4 : Nat} {Q : Value → Shared → Prop}
    (ha : s.heap.get? a = some oa) (ha1 : oa.cls = .type "tuple") (ha2 : oa.data = .seq #[.ref c, .int x tx] n1) (hc : s.heap.get? c = some oc) (hc1 : oc.cls = .type "tuple") (hc2 : oc.data = .seq vs.toArray n2) (hi : IntsAre vs ns)
    (hb : s.heap.get? b = some ob) (hb1 : ob.cls = .type "tuple") (hb2 : ob.data = .seq #[.ref d, .int y ty] n3) (hd : s.heap.get? d = some od) (hd1 : od.cls = .type "tuple") (hd2 : od.data = .seq us.toArray n4) (hj : IntsAre us ms) (hu : A.units + 64 < cLine)
    (h : Q (.bool (decide (ns = ms ∧ x = y))) s) : wpAny (model prog w) A (compareOp .Eq (.ref a) (.ref b)) Q E s := by
  have r1 : Reads s.heap (.ref a) (normD ns x) [] := Reads.tuple ha ha1 ha2 (ReadsAll.cons (reads_tup hc hc1 hc2 hi) (ReadsAll.cons (Reads.int x tx) ReadsAll.nil))
  have r2 : Reads s.heap (.ref b) (normD ms y) [] := Reads.tuple hb hb1 hb2 (ReadsAll.cons (reads_tup hd hd1 hd2 hj) (ReadsAll.cons (Reads.int y ty) ReadsAll.nil))
  refine eq_dataH_same r1 r2 (shaped_norm ns x) (shaped_norm ms y) hu (by simp [noMix, noMixAll, noMix_ints]) ?_
  have e : PySem.Spec.same (normD ns x) (normD ms y) = decide (ns = ms ∧ x = y) := by
    simp only [PySem.Spec.same, PySem.Spec.sameAll, same_ints]
    by_cases h1 : ns = ms <;> by_cases h2 : x = y <;> simp [h1, h2]
  rw [e]; exact h
end
end Mine
end

noncomputable section
open PySem PySem.W PySem.Calls PyProof.Rows
set_option maxRecDepth 100000
namespace Mine
section
variable {prog : Program} {w : World} {A : Around} {E : Value → Shared → Prop} {s : Shared}
theorem notIn_txt {c : Nat} {x : List Nat} {t u : Tok} {Q : Value → Shared → Prop} (h : Q (.bool (decide (c ∉ x))) s) : wpAny (model prog w) A (compareOp .NotIn (.str (txt [c]) u) (.str (txt x) t)) Q E s := by
  refine notIn_str ?_
  have e := StrLaws.found_one (txt x) c
  have e2 : (txt [c]) = ⟨#[c]⟩ := rfl
  rw [e2, e]
  have e3 : (!decide (c ∈ (txt x).cps.toList)) = decide (c ∉ x) := by
    show (!decide (c ∈ x)) = decide (c ∉ x)
    by_cases h : c ∈ x <;> simp [h]
  rw [e3]; exact h
end
noncomputable abbrev letters : List Nat := [97, 98, 99, 100]
theorem slice_abcd (h : Nat) (hh : h ≤ 4) : Txt.slice (Str.ofString "abcd") none (some (h : Int)) = txt (letters.take h) := by
  rcases h with _ | _ | _ | _ | _ | h
  · rfl
  · rfl
  · rfl
  · rfl
  · rfl
  · omega
theorem sayIf {m : Str → Option Value} {x : Str} {v : Value} {say : List (Str × Value)} (h : Says m say) (hx : (say.all fun p => !decide (p.1 = x)) = true) : Says (fun y => if y = x then some v else m y) say := fun p hp => by
  have : p.1 ≠ x := by
    have := List.all_eq_true.mp hx p hp
    simpa using this
  show (if p.1 = x then some v else m p.1) = _
  rw [if_neg this]; exact h p hp
theorem says_sub {m : Str → Option Value} {l l' : List (Str × Value)} (h : Says m l) (hs : ∀ p ∈ l', p ∈ l) : Says m l' := fun p hp => h p (hs p hp)
noncomputable def c1 {α : Type} (x a : α) : Nat := open Classical in if a = x then 1 else 0
noncomputable def cn {α : Type} (x : α) : List α → Nat
  | [] => 0
  | a :: l => c1 x a + cn x l
theorem cn_nil {α : Type} (x : α) : cn x [] = 0 := rfl
theorem cn_cons {α : Type} (x a : α) (l : List α) : cn x (a :: l) = c1 x a + cn x l := rfl
theorem c1_self {α : Type} (x : α) : c1 x x = 1 := by simp [c1]
theorem c1_ne {α : Type} {x a : α} (h : a ≠ x) : c1 x a = 0 := by simp [c1, h]
theorem cn_append {α : Type} (x : α) : ∀ l l' : List α, cn x (l ++ l') = cn x l + cn x l'
  | [], _ => by simp [cn]
  | a :: l, l' => by
    have := cn_append x l l'
    simp only [List.cons_append, cn] at *
    omega
theorem cn_pos {α : Type} {x : α} : ∀ {l : List α}, x ∈ l ↔ 0 < cn x l
  | [] => by simp [cn]
  | a :: l => by
    have ih := cn_pos (x := x) (l := l)
    rw [List.mem_cons, ih, cn_cons]
    by_cases h : a = x
    · subst h
      rw [c1_self]; simp; omega
    · have h' : ¬ x = a := fun e => h e.symm
      rw [c1_ne h]
      simp [h']
theorem perm_of_cn {α : Type} : ∀ {l l' : List α}, (∀ x, cn x l = cn x l') → l.Perm l'
  | [], l', h => by
    cases l' with
    | nil => exact .nil
    | cons a l' =>
      have := h a
      rw [cn_cons a a l', c1_self, cn_nil] at this
      omega
  | a :: l, l', h => by
    have hm : a ∈ l' := cn_pos.mpr (by rw [← h a, cn_cons, c1_self]; omega)
    obtain ⟨l1, l2, rfl⟩ := List.append_of_mem hm
    refine List.Perm.trans (List.Perm.cons a (perm_of_cn (l' := l1 ++ l2) fun x => ?_)) List.perm_middle.symm
    have := h x
    rw [cn_cons, cn_append, cn_cons x a l2] at this
    rw [cn_append]; omega
theorem mem_of_cn {α : Type} {l l' : List α} (h : ∀ x, cn x l ≤ cn x l') {p : α} (hp : p ∈ l) : p ∈ l' := by
  have := cn_pos.mp hp
  have := h p
  exact cn_pos.mpr (by omega)
noncomputable def Nd (l : List (Addr × Obj)) : Prop := (l.map (·.1)).Nodup
theorem Nd.perm {l l' : List (Addr × Obj)} (h : Nd l) (p : l.Perm l') : Nd l' := (p.map _).nodup h
theorem Nd.left {a b : List (Addr × Obj)} (h : Nd (a ++ b)) : Nd a := by
  unfold Nd at *; rw [List.map_append] at h; exact (List.nodup_append.mp h).1
theorem Nd.right {a b : List (Addr × Obj)} (h : Nd (a ++ b)) : Nd b := by
  unfold Nd at *; rw [List.map_append] at h; exact (List.nodup_append.mp h).2.1
theorem Nd.sep {a b : List (Addr × Obj)} (h : Nd (a ++ b)) : ∀ q ∈ b, ∀ p ∈ a, p.1 ≠ q.1 := fun q hq p hp => by
  unfold Nd at h; rw [List.map_append] at h
  exact (List.nodup_append.mp h).2.2 _ (List.mem_map_of_mem hp) _ (List.mem_map_of_mem hq)
theorem Nd.app {a b : List (Addr × Obj)} (h1 : Nd a) (h2 : Nd b) (h : ∀ q ∈ b, ∀ p ∈ a, p.1 ≠ q.1) : Nd (a ++ b) := by
  unfold Nd at *
  rw [List.map_append]
  refine List.nodup_append.mpr ⟨h1, h2, fun x hx y hy e => ?_⟩
  obtain ⟨p, hp, rfl⟩ := List.mem_map.mp hx
  obtain ⟨q, hq, rfl⟩ := List.mem_map.mp hy
  exact h q hq p hp e
theorem Nd.cons {a : Addr} {o : Obj} {b : List (Addr × Obj)} (h2 : Nd b) (h : ∀ q ∈ b, q.1 ≠ a) : Nd ((a, o) :: b) := by
  unfold Nd at *
  rw [List.map_cons]
  refine List.nodup_cons.mpr ⟨fun hm => ?_, h2⟩
  obtain ⟨q, hq, e⟩ := List.mem_map.mp hm
  exact h q hq e
theorem Nd.tl {a : Addr × Obj} {b : List (Addr × Obj)} (h : Nd (a :: b)) : Nd b := (List.nodup_cons.mp h).2
theorem Nd.hd {a : Addr × Obj} {b : List (Addr × Obj)} (h : Nd (a :: b)) : ∀ q ∈ b, q.1 ≠ a.1 := fun q hq e => (List.nodup_cons.mp h).1 (by
  show a.1 ∈ b.map (·.1)
  rw [← e]; exact List.mem_map_of_mem hq)
theorem Nd.same {l l' : List (Addr × Obj)} (h : Nd l) (e : l'.map (·.1) = l.map (·.1)) : Nd l' := by unfold Nd at *; rw [e]; exact h
theorem Nd.off1 {D : Nat} {o : Obj} {l : List (Addr × Obj)} (h : Nd l) (off : LCg.Off1 D l) : Nd ((D, o) :: l) := h.cons (Off1.mem off)
theorem newsP {h₀ h : Heap} {L : Addr} {l l' : List (Addr × Obj)} (N : News h₀ L h l) (p : l.Perm l') : News h₀ L h l' := fun q hq => N q (p.symm.subset hq)
end Mine
end

noncomputable section
open PySem PySem.W PySem.Calls PyProof.Rows
set_option maxRecDepth 100000
namespace Mine
set_option genInjectivity false in
set_option genSizeOfSpec false in
inductive PT
  | o
  | a (n : Nat)
  | p (t u : PT)
noncomputable def PT.fl : PT → List Nat
  | .o => []
  | .a n => [n]
  | .p t u => t.fl ++ u.fl
noncomputable def PT.den {α : Type} (e : List (List α)) : PT → List α
  | .o => []
  | .a n => e.getD n []
  | .p t u => t.den e ++ u.den e
theorem PT.den_fl {α : Type} (e : List (List α)) : ∀ t : PT, t.den e = t.fl.flatMap fun n => e.getD n []
  | .o => rfl
  | .a n => (List.append_nil _).symm
  | .p t u => by
    show t.den e ++ u.den e = (t.fl ++ u.fl).flatMap _
    rw [den_fl e t, den_fl e u, List.flatMap_append]
theorem permT {α : Type} (e : List (List α)) (t u : PT) (h : t.fl.isPerm u.fl = true) : (t.den e).Perm (u.den e) := by
  rw [t.den_fl, u.den_fl]
  exact (List.isPerm_iff.mp h).flatMap_right _
theorem memT {α : Type} (e : List (List α)) (t u : PT) (h : (t.fl.all fun i => u.fl.contains i) = true) {x : α} (hx : x ∈ t.den e) : x ∈ u.den e := by
  rw [t.den_fl] at hx
  rw [u.den_fl]
  obtain ⟨i, hi, hx⟩ := List.mem_flatMap.mp hx
  exact List.mem_flatMap.mpr ⟨i, List.contains_iff_mem.mp (List.all_eq_true.mp h i hi), hx⟩
end Mine
end

noncomputable section
open PySem PySem.W PySem.Calls PyProof.Rows
set_option maxRecDepth 100000
namespace Mine
noncomputable def growL (l w : List Nat) : List (List Nat) := (l.filter fun c => decide (c ∉ w)).map fun c => w ++ [c]
noncomputable def growW (h : Nat) (w : List Nat) : List (List Nat) := w :: growL (letters.take h) w
noncomputable def stepW (W : List (List Nat)) (h : Nat) : List (List Nat) := W.flatMap (growW h)
noncomputable def rooksW (hs : List Nat) : List (List Nat) := hs.foldl stepW [[45]]
theorem growL_len (l w : List Nat) : (growL l w).length ≤ l.length := by
  unfold growL; rw [List.length_map]; exact List.length_filter_le ..
theorem growW_len (h : Nat) (w : List Nat) : (growW h w).length ≤ 5 := by
  have := growL_len (letters.take h) w
  have h2 : (letters.take h).length ≤ 4 := by rw [List.length_take]; exact Nat.min_le_right ..
  unfold growW; rw [List.length_cons]; omega
theorem stepW_len (h : Nat) : ∀ W : List (List Nat), (stepW W h).length ≤ 5 * W.length
  | [] => Nat.zero_le _
  | w :: W => by
    have h1 := growW_len h w
    have h2 := stepW_len h W
    unfold stepW at *
    rw [List.flatMap_cons, List.length_append, List.length_cons]
    omega
theorem growL_snoc (l w : List Nat) (c : Nat) : growL (l ++ [c]) w = growL l w ++ if c ∈ w then [] else [w ++ [c]] := by
  unfold growL
  rw [List.filter_append, List.map_append]
  by_cases h : c ∈ w <;> simp [h]
noncomputable def Wordy (k : Nat) (w : List Nat) : Prop := w.head? = some 45 ∧ w.length ≤ k
theorem wordy_grow {k : Nat} {l w : List Nat} (h : Wordy k w) : ∀ x ∈ growL l w, Wordy (k + 1) x := by
  intro x hx
  unfold growL at hx
  obtain ⟨c, _, rfl⟩ := List.mem_map.mp hx
  refine ⟨?_, by rw [List.length_append]; have := h.2; simp; omega⟩
  cases w with
  | nil => have := h.1; simp at this
  | cons a w => exact h.1
theorem wordy_step {k h : Nat} {W : List (List Nat)} (hW : ∀ x ∈ W, Wordy k x) : ∀ x ∈ stepW W h, Wordy (k + 1) x := by
  intro x hx
  obtain ⟨w, hw, hx⟩ := List.mem_flatMap.mp hx
  rcases List.mem_cons.mp hx with rfl | hx
  · exact ⟨(hW _ hw).1, Nat.le_succ_of_le (hW _ hw).2⟩
  · exact wordy_grow (hW _ hw) x hx
theorem rooks_snoc (hs : List Nat) (h : Nat) : rooksW (hs ++ [h]) = stepW (rooksW hs) h := by
  unfold rooksW; rw [List.foldl_append]; rfl
theorem rooks_wordy : ∀ (n : Nat) (hs : List Nat), hs.length = n → (∀ x ∈ rooksW hs, Wordy (n + 1) x) ∧ (rooksW hs).length ≤ 5 ^ n
  | 0, hs, e => by
    have : hs = [] := List.eq_nil_of_length_eq_zero e
    subst this
    refine ⟨fun x hx => ?_, Nat.le_refl _⟩
    have : x = [45] := List.mem_singleton.mp hx
    subst this
    exact ⟨rfl, Nat.le_refl _⟩
  | n + 1, hs, e => by
    obtain ⟨h, l, rfl⟩ : ∃ h l, hs = l ++ [h] := by
      have hne : hs ≠ [] := fun q => by rw [q] at e; simp at e
      exact ⟨hs.getLast hne, hs.dropLast, (List.dropLast_concat_getLast hne).symm⟩
    have el : l.length = n := by rw [List.length_append] at e; simpa using e
    obtain ⟨i1, i2⟩ := rooks_wordy n l el
    rw [rooks_snoc]
    refine ⟨wordy_step i1, ?_⟩
    have := stepW_len h (rooksW l)
    rw [Nat.pow_succ]; omega
noncomputable def fileW (W : List (List Nat)) (h j : Nat) : List (List Nat) := W.drop j ++ [46] :: stepW (W.take j) h
theorem fileW_len (W : List (List Nat)) (h j : Nat) : (fileW W h j).length ≤ 6 * W.length + 1 := by
  unfold fileW
  have h1 := stepW_len h (W.take j)
  have h2 : (W.take j).length ≤ W.length := by rw [List.length_take]; exact Nat.min_le_right ..
  rw [List.length_append, List.length_cons, List.length_drop]; omega
theorem fileW_zero (W : List (List Nat)) (h : Nat) : fileW W h 0 = W ++ [[46]] := rfl
theorem fileW_all (W : List (List Nat)) (h : Nat) : fileW W h W.length = [46] :: stepW W h := by
  unfold fileW; rw [List.drop_length, List.take_length]; rfl
theorem fileW_at {W : List (List Nat)} {h j : Nat} (hj : j < W.length) : fileW W h j = W[j] :: (W.drop (j + 1) ++ [46] :: stepW (W.take j) h) := by
  unfold fileW; rw [List.drop_eq_getElem_cons hj]; rfl
theorem fileW_next {W : List (List Nat)} {h j : Nat} (hj : j < W.length) : (W.drop (j + 1) ++ [46] :: stepW (W.take j) h) ++ (W[j] :: growL (letters.take h) W[j]) = fileW W h (j + 1) := by
  unfold fileW stepW
  rw [List.take_add_one, List.getElem?_eq_getElem hj, List.flatMap_append]
  simp [growW]
end Mine
end

noncomputable section
open PySem PySem.W PySem.Calls PyProof.Rows
namespace Mine
open LCg
section
variable {prog : Program} {w : World} {A : Around} {s : Shared} {h₀ : Heap} {L : Addr} {m : Str → Option Value} {env : Env} {E : Value → Shared → Prop}
noncomputable def CompTurnD (prog : Program) (w : World) (A : Around) (h₀ : Heap) (L : Addr) (m : Str → Option Value) (env : Env) (elt : PySem.Expr) (x : Str) (scope : Scope) (cl : List (Str × Addr)) (s : Shared) (a : Int) (n : Nat) (J : Nat → List Value → List (Addr × Obj) → Prop) : Prop :=
  ∀ i ys news ti I oI C oC D m₂ h tk (E' : Value → Shared → Prop), i < n → J i ys news → NsObj oC m₂ → m₂ x = some (.int (a - (i : Int)) ti) → 0 < tk → Fr h₀ L h m → News h₀ L h ((I, oI) :: (C, oC) :: (D, lst ys) :: news) → Off3 I C D news → ((@Ne Nat I C) ∧ (@Ne Nat I D) ∧ (@Ne Nat C D)) →
    wpAny (model prog w) A (eval elt (compEnvC scope cl C env)) (CompEnd h₀ L m { s with heap := h, toks := tk } I oI C oC D (lst ys) (fun _ => True) (fun y news' => J (i + 1) (ys ++ [y]) news')) E' { s with heap := h, toks := tk }

inductive DownAt (h₀ : Heap) (L : Addr) (m : Str → Option Value) (I C D : Addr) (a : Int) (n : Nat) (J : Nat → List Value → List (Addr × Obj) → Prop) (s : Shared) (k : Nat) : Shared → Prop
  | mk (h : Heap) (tk i : Nat) (ys : List Value) (m' : Str → Option Value) (news' : List (Addr × Obj)) (hk : i + k = n + 1) (hin : i ≤ n) (hyl : ys.length = i) (hI : IsRangeIter h I (a - (i : Int)) ((n : Int) - (i : Int)) (-1)) (F : Fr h₀ L h m) (hC : h.Ns C m') (N : News h₀ L h ((D, lst ys) :: news')) (off : Off3 I C D news') (hJ : J i ys news') : DownAt h₀ L m I C D a n J s k { s with heap := h, toks := tk }
theorem comp_loopD {elt iter : PySem.Expr} {x : Str} {px : Pos} {scope : Scope} {cl : List (Str × Addr)} {pos : Pos} {a : Int} {n : Nat} {J : Nat → List Value → List (Addr × Obj) → Prop} {I C D : Addr} {R : Result → Shared → Prop} {news : List (Addr × Obj)} {m₁ : Str → Option Value}
    (hh : A.handled = none) (hkind : scope.kind = .function) (hx : scope.names.lookup x = some .local) (hsz : n ≤ sizeLine)
    (hI : IsRangeIter s.heap I a (n : Int) (-1)) (F : Fr h₀ L s.heap m) (hC : s.heap.Ns C m₁) (N : News h₀ L s.heap ((D, lst []) :: news)) (off : Off3 I C D news)
    (hIC : I ≠ C) (hID : I ≠ D) (hCD : C ≠ D) (hIL : L ≠ I) (hCL : C ≠ L) (hI₀ : h₀.get? I = none) (hC₀ : h₀.get? C = none) (hJ : J 0 [] news)
    (turn : CompTurnD prog w A h₀ L m env elt x scope cl s a n J)
    (done : ∀ h tk m' ys news', Fr h₀ L h m → News h₀ L h ((D, lst ys) :: news') → Off3 I C D news' → h.Ns C m' → J n ys news' → R (.ok .next) { s with heap := h, toks := tk }) :
    codeAny (model prog w) A (.compLoop (.ListComp elt [⟨.Name x px, iter, [], 0⟩] scope pos) 0 (.ref I) (.ref D) (compEnvC scope cl C env)) R s := by
  have hDL : D ≠ L := (N _ (.head _)).2.1
  have hD₀ : h₀.get? D = none := (N _ (.head _)).2.2
  refine codeAny_compLoop_tests (DownAt h₀ L m I C D a n J s)
    ?_ (n + 1) (.mk s.heap s.toks 0 [] m₁ news (Nat.zero_add _) (Nat.zero_le _) rfl (by simpa using hI) F hC N off hJ)
  rintro k s' ⟨h, tk, i, ys, m', news', hk, hin, hyl, hI, F, hC, N, off, hJ⟩
  have o3 := off.mem
  rcases Nat.lt_or_ge i n with hlt | hge
  · refine wpAny_pyNext_range_item hI (by omega) fun h₂ hI₂ hs₂ => ?_
    have F₂ : Fr h₀ L h₂ m := F.change hs₂ (Ne.symm hIL) hI₀
    have N₂ : News h₀ L h₂ ((D, lst ys) :: news') := List.forall_mem_cons.mpr ⟨⟨hs₂.extBut _ _ (Ne.symm hID) (N _ (.head _)).1, (N _ (.head _)).2⟩, fun p hp => ⟨hs₂.extBut _ _ (o3 p hp).1 (N p (.tail _ hp)).1, (N p (.tail _ hp)).2⟩⟩
    refine wpAny_assign_Name (wpAny_storeName_local (lookup_relabel_local hx) (hC.at' fun o e => hs₂.extBut C o (Ne.symm hIC) e) (fun h₃ hn₃ hs₃ => ?_) (by simp [compEnvC, relabel, hkind]))
    refine wpAny_tests_nil ?_
    rw [if_pos rfl]
    have hs₃' : Heap.SameBut C h₂ h₃ := hs₃
    have hn₃' : h₃.Ns C (fun y => if y = x then some (.int (a - (i : Int)) tk) else m' y) := hn₃
    have F₃ : Fr h₀ L h₃ m := F₂.change hs₃' hCL hC₀
    have I₃ : h₃.get? I = some _ := hs₃'.extBut I _ hIC hI₂
    obtain ⟨oC, heC, hoC⟩ := ns_obj hn₃'
    have N₃ : News h₀ L h₃ ((I, _) :: (C, oC) :: (D, lst ys) :: news') := List.forall_mem_cons.mpr ⟨⟨I₃, Ne.symm hIL, hI₀⟩, List.forall_mem_cons.mpr ⟨⟨heC, hCL, hC₀⟩, List.forall_mem_cons.mpr ⟨⟨hs₃'.extBut _ _ (Ne.symm hCD) (N₂ _ (.head _)).1, (N₂ _ (.head _)).2⟩, fun p hp => ⟨hs₃'.extBut _ _ (o3 p hp).2.1 (N₂ p (.tail _ hp)).1, (N₂ p (.tail _ hp)).2⟩⟩⟩⟩
    refine wpAny_mono (turn i ys news' tk I _ C oC D _ h₃ _ _ hlt hJ hoC (by simp) (Nat.succ_pos _) F₃ N₃ off ⟨hIC, hID, hCD⟩) (fun y s₄ z => ?_) fun _ _ e => e
    obtain ⟨h₄, tk₄, news₄, rfl, F₄, N₄, off₄, _, hJ₄⟩ := z
    have o4 := off₄.mem
    refine append_at (hsz := by show ys.toArray.size ≤ sizeLine; rw [List.size_toArray, hyl]; omega) (N₄ _ (.tail _ (.tail _ (.head _)))).1 fun h₅ hs₅ hD₅ => ?_
    have I₅ : h₅.get? I = some _ := hs₅.extBut I _ hID (N₄ _ (.head _)).1
    have e1 : a - (i : Int) + (-1) = a - ((i + 1 : Nat) : Int) := by omega
    have e2 : (n : Int) - (i : Int) - 1 = (n : Int) - ((i + 1 : Nat) : Int) := by omega
    rw [e1, e2] at I₅
    exact ⟨k - 1, by omega, .mk h₅ tk₄ (i + 1) (ys ++ [y]) _ news₄ (by omega) hlt (by simp [hyl]) I₅ (F₄.change hs₅ hDL hD₀) ((hoC.ns (N₄ _ (.tail _ (.head _))).1).sameBut hs₅ (Ne.symm (Ne.symm hCD))) (List.forall_mem_cons.mpr ⟨⟨hD₅.trans (congrArg some (lst_snoc ys y)), hDL, hD₀⟩, fun p hp => let q := N₄ p (.tail _ (.tail _ (.tail _ hp))); ⟨hs₅.extBut _ _ (o4 p hp).2.2 q.1, q.2⟩⟩) off₄ hJ₄⟩
  · obtain rfl : i = n := Nat.le_antisymm hin hge
    refine wpAny_pyNext_range_end hh hI (by omega) fun h₂ hx₂ => ?_
    refine done h₂ tk m' ys news' ⟨F.ns.extBut hx₂ hIL, fun b o e => hx₂ b o (fun hb => by rw [hb, hI₀] at e; cases e) (F.keep b o e), F.above⟩ (List.forall_mem_cons.mpr ⟨⟨hx₂ _ _ (Ne.symm hID) (N _ (.head _)).1, (N _ (.head _)).2⟩, fun p hp => ⟨hx₂ _ _ (o3 p hp).1 (N p (.tail _ hp)).1, (N p (.tail _ hp)).2⟩⟩) off (hC.at' fun o e => hx₂ C o (Ne.symm hIC) e) hJ
inductive RangeSrcD (prog : Program) (w : World) (A : Around) (h₀ : Heap) (L : Addr) (m : Str → Option Value) (env : Env) (elt : PySem.Expr) (x : Str) (scope : Scope) (cl : List (Str × Addr)) (Fin : Shared → List Value → List (Addr × Obj) → Prop) (xv : Value) (s₁ : Shared) : Prop
  | mk (r : Addr) (a n : Nat) (b : Int) (t u v : Tok) (news : List (Addr × Obj)) (J : Nat → List Value → List (Addr × Obj) → Prop) (e0 : xv = .ref r) (e1 : A.handled = none) (e2 : Fr h₀ L s₁.heap m) (e3 : News h₀ L s₁.heap news) (e4 : IsRange s₁.heap r (a : Int) b (-1) t u v) (e5 : a ≤ 1000000) (e6 : b + (n : Int) = (a : Int)) (e7 : -1 ≤ b) (e8 : J 0 [] news) (e9 : CompTurnD prog w A h₀ L m env elt x scope cl s₁ a n J) (e10 : ∀ ys news', J n ys news' → Fin s₁ ys news')
theorem comp_down {elt iter : PySem.Expr} {x : Str} {px : Pos} {scope : Scope} {cl : List (Str × Addr)} {pos : Pos} {Q : Value → Shared → Prop} (_F : Fr h₀ L s.heap m)
    (hclos : closureFor scope env = pure cl) (hcell : ∀ y ∈ scope.names, y.2 ≠ .cell) (hkind : scope.kind = .function)
    (hnames : ∀ y ∈ scope.names, y.2 = .local → scope.names.lookup y.1 = some .local) (hx : scope.names.lookup x = some .local)
    (h : wpAny (model prog w) A (eval iter env) (RangeSrcD prog w A h₀ L m env elt x scope cl (fun s₂ => FinE h₀ L m s₂ Q)) E s)
    (hs : ∀ x, foldedSetIterable iter env x = pure x := by intro _; rfl) :
    wpAny (model prog w) A (eval (.ListComp elt [⟨.Name x px, iter, [], 0⟩] scope pos) env) Q E s := by
  rw [eval_ListComp]
  refine wpAny_comprehension_free (use := none) rfl hs hclos hkind hnames (wpAny_mono h (fun xv s₁ h₁ => ?_) fun _ _ e => e)
  obtain ⟨r, a, n, b, t, u, v, news, J, rfl, hh, F, N, hr, hb, han, hb1, hJ, turn, fin⟩ := h₁
  have hrs : Builtin.Range.rangeSize (a : Int) b (-1) = (n : Int) := by
    rw [rangeSize_down]; split <;> omega
  refine wpAny_pyIter_range hr (small_down (by omega) (by omega) (by omega) (by omega)) ?_
  rw [hrs]
  generalize hH1 : s₁.heap.push { cls := .type "range_iterator", data := .fields #[rawInt (a : Int), rawInt (n : Int), rawInt (-1)] } = H1
  have g1 : H1.get? s₁.heap.objs.size = some { cls := .type "range_iterator", data := .fields #[rawInt (a : Int), rawInt (n : Int), rawInt (-1)] } := hH1 ▸ Heap.get?_push_size _ rfl
  have k1 : ∀ b o, s₁.heap.get? b = some o → H1.get? b = some o := fun b o e => hH1 ▸ Heap.get?_push_of_some _ e
  have z1 : H1.objs.size = s₁.heap.objs.size + 1 := by rw [← hH1, Heap.size_push]
  refine wpAny_newObj_type (wpAny_newFunctionEnv hcell (by intro y hy; simp at hy) (fun h₃ hns₃ hsb₃ => ?_) hkind)
  dsimp only at hns₃ hsb₃ ⊢
  generalize hH2 : H1.push { cls := .type "list", dict := none, data := .seq ([] : List Value).toArray } = H2 at hns₃ hsb₃ ⊢
  have g2 : H2.get? H1.objs.size = some (lst []) := hH2 ▸ Heap.get?_push_size _ rfl
  have k2 : ∀ b o, H1.get? b = some o → H2.get? b = some o := fun b o e => hH2 ▸ Heap.get?_push_of_some _ e
  have z2 : H2.objs.size = s₁.heap.objs.size + 2 := by rw [← hH2, Heap.size_push, z1]
  have k3 : ∀ b o, b < H2.objs.size → H2.get? b = some o → h₃.get? b = some o := fun b o hb e => hsb₃.extBut b o (Nat.ne_of_lt hb) (Heap.get?_push_of_some _ e)
  have keep : ∀ b o, s₁.heap.get? b = some o → h₃.get? b = some o := fun b o e => k3 b o (Nat.lt_of_lt_of_le (Heap.lt_size e) (by rw [z2]; exact Nat.le_add_right ..)) (k2 _ _ (k1 _ _ e))
  have hLs : @LT.lt Nat _ L s₁.heap.objs.size := F.ns.lt
  have fresh : ∀ b, s₁.heap.objs.size ≤ b → h₀.get? b = none := fun b hb => Heap.get?_none_of_le (Nat.le_trans F.above (Nat.le_trans (Nat.le_of_lt hLs) hb))
  have old : ∀ p ∈ news, @LT.lt Nat _ p.1 s₁.heap.objs.size := fun p hp => Heap.lt_size (N p hp).1
  have core : codeAny (model prog w) A (.compLoop (.ListComp elt [⟨.Name x px, iter, [], 0⟩] scope pos) 0 (.ref s₁.heap.objs.size) (.ref H1.objs.size) (compEnvC scope cl H2.objs.size env))
      (compPost (model prog w) A E none Q (.ref H1.objs.size) H2.objs.size) { s₁ with heap := h₃, toks := s₁.toks + ([] : List (Str × Value)).length } := by
    refine comp_loopD (s := { s₁ with heap := h₃, toks := s₁.toks + ([] : List (Str × Value)).length }) (a := (a : Int)) (n := n) (J := J) (news := news) hh hkind hx (Nat.le_trans (show n ≤ 1000001 by omega) (by decide)) ?_ (F.keeps keep) hns₃ (fun p hp => ?_) (Off3.of fun p hp => ?_) ?_ ?_ ?_ ?_ ?_ ?_ ?_ hJ turn ?_
    · show h₃.get? _ = _
      exact k3 _ _ (by rw [z2]; omega) (k2 _ _ g1)
    · rcases List.mem_cons.mp hp with rfl | hp
      · exact ⟨k3 _ _ (by show H1.objs.size < _; rw [z1, z2]; omega) g2, by show H1.objs.size ≠ L; rw [z1]; omega, fresh _ (by show _ ≤ H1.objs.size; rw [z1]; omega)⟩
      · exact ⟨keep _ _ (N p hp).1, (N p hp).2⟩
    · have := old p hp
      exact ⟨Nat.ne_of_lt this, Nat.ne_of_lt (by rw [z2]; omega), Nat.ne_of_lt (by rw [z1]; omega)⟩
    · exact Nat.ne_of_lt (by rw [z2]; omega)
    · exact Nat.ne_of_lt (by rw [z1]; omega)
    · exact Nat.ne_of_gt (by rw [z1, z2]; omega)
    · exact Nat.ne_of_lt hLs
    · exact Nat.ne_of_gt (by rw [z2]; omega)
    · exact fresh _ (Nat.le_refl _)
    · exact fresh _ (by rw [z2]; omega)
    · intro h tk m' ys news' F' N' off hC hJn
      refine ⟨m', hC, fun h'' hs'' => fin ys news' hJn H1.objs.size h'' tk (F'.change hs'' (Nat.ne_of_gt (by rw [z2]; omega)) (fresh _ (by rw [z2]; omega))) (fun p hp => ?_) off.one⟩
      refine ⟨hs''.extBut _ _ ?_ (N' p hp).1, (N' p hp).2⟩
      rcases List.mem_cons.mp hp with rfl | hp
      · exact Nat.ne_of_lt (by show H1.objs.size < _; rw [z1, z2]; omega)
      · exact (off.mem p hp).2.1
  refine codeAny_compStart_list ?_ ?_
  · exact core
  · exact wpAny_pyIter_rangeiter (by show IsRangeIter _ _ _ _ _; exact k3 _ _ (by rw [z2]; omega) (k2 _ _ g1)) core
end
end Mine
end

noncomputable section
open PySem PySem.W PySem.Calls PyProof.Rows
namespace Mine
open LCg
section
variable {prog : Program} {w : World} {A : Around} {s : Shared} {h₀ : Heap} {L : Addr} {m : Str → Option Value} {env : Env} {E : Value → Shared → Prop}
theorem comp_enumA {elt iter : PySem.Expr} {a b : Str} {pa pb tp : Pos} {kk : Nat} {scope : Scope} {cl : List (Str × Addr)} {pos spos : Pos} {y : Str} {py : Pos} {Q : Flow → Shared → Prop} (_F : Fr h₀ L s.heap m) (hLe : env.locals = L)
    (hclos : closureFor scope env = pure cl) (hcell : ∀ y ∈ scope.names, y.2 ≠ .cell) (hkind : scope.kind = .function)
    (hnames : ∀ y ∈ scope.names, y.2 = .local → scope.names.lookup y.1 = some .local) (hxa : scope.names.lookup a = some .local) (hxb : scope.names.lookup b = some .local) (hab : ¬ a = b)
    (h : wpAny (model prog w) A (eval iter env) (EnumSrc prog w A h₀ L m env elt a b scope cl (fun s₂ => FinA h₀ L m s₂ y Q)) E s)
    (hsw : swapsWith (.ListComp elt [⟨.Tuple [.Name a pa, .Name b pb] kk tp, iter, [], 0⟩] scope pos) (some (.Name y py)) spos.line env = pure true)
    (hy : env.kindOf y = some .local) (hp : (env.scope.kind == .class || (env.scope.kind == .module && env.locals != env.globals)) = false)
    (hs : ∀ x, foldedSetIterable iter env x = pure x := by intro _; rfl) :
    wpAny (model prog w) A (exec (.Assign [.Name y py] (.ListComp elt [⟨.Tuple [.Name a pa, .Name b pb] kk tp, iter, [], 0⟩] scope pos) spos) env) Q E s := by
  subst hLe
  rw [exec_Assign_Name_used _ _ _ _ hsw]
  refine wpAny_bind (wpAny_standAt (wpAny_bind ?_))
  show wpAny _ A (do let _ ← comprehension (.ListComp elt [⟨.Tuple [.Name a pa, .Name b pb] kk tp, iter, [], 0⟩] scope pos) scope env _ (newList []) false (eval iter env) (some (assign (.Name y py) env))) _ _ s
  refine wpAny_bind (wpAny_mono (wpAny_comprehension_free (use := some (assign (.Name y py) env)) (Q := fun _ s' => Q .next s') rfl hs hclos hkind hnames
    (wpAny_mono h (fun xv s₁ h₁ => ?_) fun _ _ e => e)) (fun _ s' hq => wpAny_pure (wpAny_pure hq)) fun _ _ e => e)
  obtain ⟨e, it, l, items, oi, news, J, rfl, hh, F, N, he, hit, heL, he₀, oe, oit, hsz, hJ, hl, turn, fin⟩ := h₁
  refine wpAny_pyIter_enum he ?_
  refine wpAny_newObj_type (wpAny_newFunctionEnv hcell (by intro y hy; simp at hy) (fun h₃ hns₃ hsb₃ => ?_) hkind)
  dsimp only at hns₃ hsb₃ ⊢
  generalize hH2 : s₁.heap.push { cls := .type "list", dict := none, data := .seq ([] : List Value).toArray } = H2 at hns₃ hsb₃ ⊢
  have g2 : H2.get? s₁.heap.objs.size = some (lst []) := hH2 ▸ Heap.get?_push_size _ rfl
  have k2 : ∀ b o, s₁.heap.get? b = some o → H2.get? b = some o := fun b o e => hH2 ▸ Heap.get?_push_of_some _ e
  have z2 : H2.objs.size = s₁.heap.objs.size + 1 := by rw [← hH2, Heap.size_push]
  have k3 : ∀ b o, @LT.lt Nat _ b H2.objs.size → H2.get? b = some o → h₃.get? b = some o := fun b o hb e => hsb₃.extBut b o (Nat.ne_of_lt hb) (Heap.get?_push_of_some _ e)
  have keep : ∀ b o, s₁.heap.get? b = some o → h₃.get? b = some o := fun b o e => k3 b o (Nat.lt_of_lt_of_le (Heap.lt_size e) (by rw [z2]; exact Nat.le_add_right ..)) (k2 _ _ e)
  have hLs : @LT.lt Nat _ env.locals s₁.heap.objs.size := F.ns.lt
  have hes : @LT.lt Nat _ e s₁.heap.objs.size := Heap.lt_size he
  have fresh : ∀ b, s₁.heap.objs.size ≤ b → h₀.get? b = none := fun b hb => Heap.get?_none_of_le (Nat.le_trans F.above (Nat.le_trans (Nat.le_of_lt hLs) hb))
  have old : ∀ p ∈ (it, oi) :: news, @LT.lt Nat _ p.1 s₁.heap.objs.size := fun p hp => Heap.lt_size (N p hp).1
  have oem := Off1.mem oe
  have core : codeAny (model prog w) A (.compLoop (.ListComp elt [⟨.Tuple [.Name a pa, .Name b pb] kk tp, iter, [], 0⟩] scope pos) 0 (.ref e) (.ref s₁.heap.objs.size) (compEnvC scope cl H2.objs.size env))
      (compPost (model prog w) A E (some (assign (.Name y py) env)) (fun _ s' => Q .next s') (.ref s₁.heap.objs.size) H2.objs.size) { s₁ with heap := h₃, toks := s₁.toks + ([] : List (Str × Value)).length } := by
    refine enum_loop (s := { s₁ with heap := h₃, toks := s₁.toks + ([] : List (Str × Value)).length }) (J := J) (news := news) (it := it) (l := l) (items := items) (oi := oi) hh hkind hxa hxb hab hsz (keep _ _ he) ?_ (F.keeps keep) hns₃ (fun p hp => ?_) (Off3.of fun p hp => ?_) oit ?_ ?_ ?_ heL ?_ he₀ ?_ hJ hl turn ?_
    · obtain ⟨o, q, r⟩ := hit
      exact ⟨o, keep _ _ q, r⟩
    · rcases List.mem_cons.mp hp with rfl | hp
      · exact ⟨k3 _ _ (by rw [z2]; exact Nat.lt_succ_self _) g2, Nat.ne_of_gt hLs, fresh _ (Nat.le_refl _)⟩
      · exact ⟨keep _ _ (N p hp).1, (N p hp).2⟩
    · have := old p hp
      exact ⟨oem p hp, Nat.ne_of_lt (by rw [z2]; omega), Nat.ne_of_lt this⟩
    · exact Nat.ne_of_lt (by rw [z2]; omega)
    · exact Nat.ne_of_lt hes
    · exact Nat.ne_of_gt (by rw [z2]; exact Nat.lt_succ_self _)
    · exact Nat.ne_of_gt (by rw [z2]; omega)
    · exact fresh _ (by rw [z2]; exact Nat.le_succ _)
    · intro h tk m' ys news' F' N' off hC hJn
      have hCL : H2.objs.size ≠ env.locals := Nat.ne_of_gt (by rw [z2]; omega)
      have hC₀ : h₀.get? H2.objs.size = none := fresh _ (by rw [z2]; exact Nat.le_succ _)
      have hCD : H2.objs.size ≠ s₁.heap.objs.size := Nat.ne_of_gt (by rw [z2]; exact Nat.lt_succ_self _)
      show wpAny _ A (assign (.Name y py) env (.ref s₁.heap.objs.size)) _ _ _
      refine wpAny_assign_Name (wpAny_storeName_local hy F'.ns (fun h₂ hn₂ hs₂ => ?_) hp)
      have hL₀ : h₀.get? env.locals = none := Heap.get?_none_of_le F'.above
      have F₂ : Fr h₀ env.locals h₂ (fun z => if z = y then some (.ref s₁.heap.objs.size) else m z) := ⟨hn₂, fun b o e => hs₂.extBut b o (fun q => by rw [q, hL₀] at e; cases e) (F'.keep b o e), F'.above⟩
      refine ⟨m', hC.sameBut hs₂ hCL, fun h'' hs'' => fin ys news' hJn s₁.heap.objs.size h'' _ (F₂.change hs'' hCL hC₀) (fun p hp => ?_) off.one⟩
      have z : h₂.get? p.1 = some p.2 := hs₂.extBut _ _ (N' p hp).2.1 (N' p hp).1
      refine ⟨hs''.extBut _ _ ?_ z, (N' p hp).2⟩
      rcases List.mem_cons.mp hp with rfl | hp
      · exact Ne.symm hCD
      · exact (off.mem p hp).2.1
  refine codeAny_compStart_list ?_ ?_
  · exact core
  · exact wpAny_pyIter_enum (keep _ _ he) core
theorem call_enumKA {elt : PySem.Expr} {a b : Str} {scope : Scope} {cl : List (Str × Addr)} {l : Addr} {items : Array Value} {ol : Obj} {nl : Nat} {news : List (Addr × Obj)} {y : Str} {Qf : Flow → Shared → Prop} (hh : A.handled = none) (F : Fr h₀ L s.heap m) (N : News h₀ L s.heap news)
    (hm : (l, ol) ∈ news) (hc : ol.cls = .type "list") (hd : ol.data = .seq items nl) (hsz : items.size ≤ sizeLine) (J : Nat → List Value → List (Addr × Obj) → Prop) (hJ : J 0 [] news) (hJl : ∀ i ys news, J i ys news → (l, ol) ∈ news)
    (turn : EnumTurn prog w A h₀ L m env elt a b scope cl s items J) (fin : ∀ ys news', J items.size ys news' → FinA h₀ L m s y Qf ys news') :
    wpAny (model prog w) A (call (.type "enumerate") [.ref l]) (EnumSrc prog w A h₀ L m env elt a b scope cl (fun s₂ => FinA h₀ L m s₂ y Qf)) E s := by
  refine call_enumerate_list ⟨ol, (N _ hm).1, hc, nl, hd⟩ fun h' he hit hsz2 hk => ?_
  have hLs : @LT.lt Nat _ L s.heap.objs.size := F.ns.lt
  have fresh : ∀ b, s.heap.objs.size ≤ b → h₀.get? b = none := fun b hb => Heap.get?_none_of_le (Nat.le_trans F.above (Nat.le_trans (Nat.le_of_lt hLs) hb))
  have old : ∀ p ∈ news, @LT.lt Nat _ p.1 s.heap.objs.size := fun p hp => Heap.lt_size (N p hp).1
  obtain ⟨oi, hoi, ri⟩ := id hit
  refine ⟨s.heap.objs.size + 1, s.heap.objs.size, l, items, oi, news, J, rfl, hh, F.keeps hk, fun p hp => ?_, he, hit, ?_, fresh _ (Nat.le_succ _), Off1.of fun p hp => ?_, Off1.of fun p hp => Nat.ne_of_lt (old p hp), hsz, hJ, fun i ys news hj => ⟨ol, hJl _ _ _ hj, hc, nl, hd⟩, turn, fin⟩
  · rcases List.mem_cons.mp hp with rfl | hp
    · exact ⟨hoi, Nat.ne_of_gt hLs, fresh _ (Nat.le_refl _)⟩
    · exact ⟨hk _ _ (N p hp).1, (N p hp).2⟩
  · exact Nat.ne_of_lt (Nat.lt_succ_of_lt hLs)
  · rcases List.mem_cons.mp hp with rfl | hp
    · exact Nat.ne_of_lt (Nat.lt_succ_self _)
    · exact Nat.ne_of_lt (Nat.lt_succ_of_lt (old p hp))
end
end Mine
end

noncomputable section
open PySem PySem.W PySem.Calls PyProof.Rows
set_option maxRecDepth 100000
namespace Mine
theorem asInts_snoc (zs : List Nat) (z : Nat) : asInts (zs ++ [z]) = asInts zs ++ [(z : Int)] := by simp
theorem asInts_getD {zs : List Nat} {k : Nat} (h : k < zs.length) : (asInts zs).getD k 0 = ((zs[k] : Nat) : Int) := by
  rw [List.getD_eq_getElem?_getD, List.getElem?_map, List.getElem?_eq_getElem h]; rfl
theorem mul_sign (c d : Nat) : Txt.mul ⟨#[c]⟩ (d : Int) = txt (List.replicate d c) := by
  have h := mul_one_list c (d : Int)
  rw [Int.toNat_natCast] at h
  cases hr : Txt.mul ⟨#[c]⟩ (d : Int) with
  | mk a => rw [hr] at h; show (⟨a⟩ : Str) = ⟨(List.replicate d c).toArray⟩; rw [← h]
theorem mulOk_sign {c d : Nat} (hd : d ≤ 100000) : MulOk ⟨#[c]⟩ (d : Int) := by
  refine ⟨?_, fun h1 h2 => ?_, fun h1 h2 => ?_⟩
  · rw [decide_eq_false (by omega), decide_eq_false (by omega)]; rfl
  · have e : ((⟨#[c]⟩ : Str).length : Int) = 1 := rfl
    rw [e]
    have : (1 : Int) ≤ (2 ^ 63 - 1) / (d : Int) := Int.le_ediv_of_mul_le (by omega) (by omega)
    omega
  · have e : (⟨#[c]⟩ : Str).length = 1 := rfl
    rw [e]
    unfold Builtin.Str.tooLong sizeLine
    exact decide_eq_false (by omega)
theorem asInts_get {zs : List Nat} {k : Nat} (h : k < zs.length) : (asInts zs).getD k 0 = ((zs.getD k 0 : Nat) : Int) := by
  rw [asInts_getD h, List.getD_eq_getElem?_getD, List.getElem?_eq_getElem h]; rfl
theorem asInts_len (zs : List Nat) : (asInts zs).length = zs.length := List.length_map ..
theorem kstB_said {m : Str → Option Value} {l : List (Str × Value)} (h : Says m l) : kstB m l = m := by
  funext y
  exact kstB_eq h fun _ => rfl
theorem nat_at {vs : List Value} {zs : List Nat} {k : Nat} {v : Value} (hI : IntsAre vs (asInts zs)) (hv : vs[k]? = some v) : ∃ t, v = .int ((zs.getD k 0 : Nat) : Int) t := by
  obtain ⟨t, e⟩ := ints_at hI hv
  have hk : k < zs.length := by
    have h1 := hI.length
    rw [asInts_len] at h1
    have := (List.getElem?_eq_some_iff.mp hv).1
    omega
  rw [asInts_get hk] at e
  exact ⟨t, e⟩
end Mine
end

noncomputable section
open PySem PySem.W PySem.Calls PyProof.Rows
namespace Mine
open LCg
section
variable {prog : Program} {w : World} {A : Around} {s : Shared} {h₀ : Heap} {L : Addr} {m : Str → Option Value} {env : Env} {E : Value → Shared → Prop}
noncomputable def IfTurn (prog : Program) (w : World) (A : Around) (h₀ : Heap) (L : Addr) (m : Str → Option Value) (env : Env) (elt c : PySem.Expr) (x : Str) (scope : Scope) (cl : List (Str × Addr)) (s : Shared) (items : Array Value) (J : Nat → List Value → List (Addr × Obj) → Prop) : Prop :=
  ∀ i ys news v I oI C oC D m₂ h tk (E' : Value → Shared → Prop), items[i]? = some v → J i ys news → NsObj oC m₂ → m₂ x = some v → Fr h₀ L h m → News h₀ L h ((I, oI) :: (C, oC) :: (D, lst ys) :: news) → Off3 I C D news → ((@Ne Nat I C) ∧ (@Ne Nat I D) ∧ (@Ne Nat C D)) →
    wpAny (model prog w) A (isTrue c (compEnvC scope cl C env) (eval c (compEnvC scope cl C env))) (fun b s₃ => if b = true then
        wpAny (model prog w) A (eval elt (compEnvC scope cl C env)) (CompEnd h₀ L m { s with heap := h, toks := tk } I oI C oC D (lst ys) (fun _ => True) (fun y news' => J (i + 1) (ys ++ [y]) news')) E' s₃
      else CompEnd h₀ L m { s with heap := h, toks := tk } I oI C oC D (lst ys) (fun _ => True) (fun _ news' => J (i + 1) ys news') .none s₃) E' { s with heap := h, toks := tk }
inductive IfAt (h₀ : Heap) (L : Addr) (m : Str → Option Value) (I l C D : Addr) (items : Array Value) (J : Nat → List Value → List (Addr × Obj) → Prop) (s : Shared) (k : Nat) : Shared → Prop
  | mk (h : Heap) (tk i : Nat) (ys : List Value) (m' : Str → Option Value) (news' : List (Addr × Obj)) (hk : i + k = items.size + 1) (hin : i ≤ items.size) (hI : h.IsListIter I l i) (F : Fr h₀ L h m) (hC : h.Ns C m') (N : News h₀ L h ((D, lst ys) :: news')) (off : Off3 I C D news') (hJ : J i ys news') : IfAt h₀ L m I l C D items J s k { s with heap := h, toks := tk }
theorem if_loop {elt iter c : PySem.Expr} {x : Str} {px : Pos} {scope : Scope} {cl : List (Str × Addr)} {pos : Pos} {items : Array Value} {J : Nat → List Value → List (Addr × Obj) → Prop} {I l C D : Addr} {R : Result → Shared → Prop} {news : List (Addr × Obj)} {m₁ : Str → Option Value}
    (hh : A.handled = none) (hkind : scope.kind = .function) (hx : scope.names.lookup x = some .local) (hsz : items.size ≤ sizeLine)
    (hI : s.heap.IsListIter I l 0) (F : Fr h₀ L s.heap m) (hC : s.heap.Ns C m₁) (N : News h₀ L s.heap ((D, lst []) :: news)) (off : Off3 I C D news)
    (hIC : I ≠ C) (hID : I ≠ D) (hCD : C ≠ D) (hIL : L ≠ I) (hCL : C ≠ L) (hI₀ : h₀.get? I = none) (hC₀ : h₀.get? C = none) (hJ : J 0 [] news)
    (hl : ∀ i ys news, J i ys news → ys.length ≤ i ∧ ∃ ol, (l, ol) ∈ news ∧ IsListO ol items)
    (turn : IfTurn prog w A h₀ L m env elt c x scope cl s items J)
    (done : ∀ h tk m' ys news', Fr h₀ L h m → News h₀ L h ((D, lst ys) :: news') → Off3 I C D news' → h.Ns C m' → J items.size ys news' → R (.ok .next) { s with heap := h, toks := tk }) :
    codeAny (model prog w) A (.compLoop (.ListComp elt [⟨.Name x px, iter, [c], 0⟩] scope pos) 0 (.ref I) (.ref D) (compEnvC scope cl C env)) R s := by
  have hDL : D ≠ L := (N _ (.head _)).2.1
  have hD₀ : h₀.get? D = none := (N _ (.head _)).2.2
  refine codeAny_compLoop_tests (IfAt h₀ L m I l C D items J s)
    ?_ (items.size + 1) (.mk s.heap s.toks 0 [] m₁ news (Nat.zero_add _) (Nat.zero_le _) hI F hC N off hJ)
  rintro k s' ⟨h, tk, i, ys, m', news', hk, hin, hI, F, hC, N, off, hJ⟩
  have o3 := off.mem
  obtain ⟨hyl, ol, hol, hcl, nl, hdl⟩ := hl _ _ _ hJ
  have hLl : h.IsList l items := ⟨ol, (N _ (.tail _ hol)).1, hcl, nl, hdl⟩
  rcases Nat.lt_or_ge i items.size with hlt | hge
  · have hv : items[i]? = some items[i] := Array.getElem?_eq_getElem hlt
    refine wpAny_pyNext_list_item hI hLl hv fun h₂ hI₂ hs₂ => ?_
    have F₂ : Fr h₀ L h₂ m := F.change hs₂ (Ne.symm hIL) hI₀
    have N₂ : News h₀ L h₂ ((D, lst ys) :: news') := List.forall_mem_cons.mpr ⟨⟨hs₂.extBut _ _ (Ne.symm hID) (N _ (.head _)).1, (N _ (.head _)).2⟩, fun p hp => ⟨hs₂.extBut _ _ (o3 p hp).1 (N p (.tail _ hp)).1, (N p (.tail _ hp)).2⟩⟩
    refine wpAny_assign_Name (wpAny_storeName_local (lookup_relabel_local hx) (hC.at' fun o e => hs₂.extBut C o (Ne.symm hIC) e) (fun h₃ hn₃ hs₃ => ?_) (by simp [compEnvC, relabel, hkind]))
    refine wpAny_tests_one ?_
    have hs₃' : Heap.SameBut C h₂ h₃ := hs₃
    have hn₃' : h₃.Ns C (fun y => if y = x then some items[i] else m' y) := hn₃
    have F₃ : Fr h₀ L h₃ m := F₂.change hs₃' hCL hC₀
    obtain ⟨oI, heI, hcI, hdI⟩ := hI₂
    have I₃ : h₃.get? I = some oI := hs₃'.extBut I _ hIC heI
    obtain ⟨oC, heC, hoC⟩ := ns_obj hn₃'
    have N₃ : News h₀ L h₃ ((I, oI) :: (C, oC) :: (D, lst ys) :: news') := List.forall_mem_cons.mpr ⟨⟨I₃, Ne.symm hIL, hI₀⟩, List.forall_mem_cons.mpr ⟨⟨heC, hCL, hC₀⟩, List.forall_mem_cons.mpr ⟨⟨hs₃'.extBut _ _ (Ne.symm hCD) (N₂ _ (.head _)).1, (N₂ _ (.head _)).2⟩, fun p hp => ⟨hs₃'.extBut _ _ (o3 p hp).2.1 (N₂ p (.tail _ hp)).1, (N₂ p (.tail _ hp)).2⟩⟩⟩⟩
    refine wpAny_mono (turn i ys news' items[i] I oI C oC D _ h₃ _ _ hv hJ hoC (by simp) F₃ N₃ off ⟨hIC, hID, hCD⟩) (fun b s₄ z => ?_) fun _ _ e => e
    cases b with
    | false =>
      rw [if_neg (by decide)] at z ⊢
      obtain ⟨h₄, tk₄, news₄, rfl, F₄, N₄, off₄, _, hJ₄⟩ := z
      refine ⟨k - 1, by omega, .mk h₄ tk₄ (i + 1) ys _ news₄ (by omega) hlt ⟨oI, (N₄ _ (.head _)).1, hcI, hdI⟩ F₄ (hoC.ns (N₄ _ (.tail _ (.head _))).1) (fun p hp => N₄ p (.tail _ (.tail _ hp))) off₄ hJ₄⟩
    | true =>
      rw [if_pos rfl] at z ⊢
      refine wpAny_mono z (fun y s₅ z => ?_) fun _ _ e => e
      obtain ⟨h₄, tk₄, news₄, rfl, F₄, N₄, off₄, _, hJ₄⟩ := z
      have o4 := off₄.mem
      refine append_at (hsz := by show ys.toArray.size ≤ sizeLine; rw [List.size_toArray]; omega) (N₄ _ (.tail _ (.tail _ (.head _)))).1 fun h₅ hs₅ hD₅ => ?_
      have I₅ : h₅.get? I = some oI := hs₅.extBut I _ hID (N₄ _ (.head _)).1
      exact ⟨k - 1, by omega, .mk h₅ tk₄ (i + 1) (ys ++ [y]) _ news₄ (by omega) hlt ⟨oI, I₅, hcI, hdI⟩ (F₄.change hs₅ hDL hD₀) ((hoC.ns (N₄ _ (.tail _ (.head _))).1).sameBut hs₅ (Ne.symm (Ne.symm hCD))) (List.forall_mem_cons.mpr ⟨⟨hD₅.trans (congrArg some (lst_snoc ys y)), hDL, hD₀⟩, fun p hp => let q := N₄ p (.tail _ (.tail _ (.tail _ hp))); ⟨hs₅.extBut _ _ (o4 p hp).2.2 q.1, q.2⟩⟩) off₄ hJ₄⟩
  · obtain rfl : i = items.size := Nat.le_antisymm hin hge
    refine wpAny_pyNext_list_end hh hI hLl (by simp) fun h₂ hx₂ => ?_
    refine done h₂ tk m' ys news' ⟨F.ns.extBut hx₂ hIL, fun b o e => hx₂ b o (fun hb => by rw [hb, hI₀] at e; cases e) (F.keep b o e), F.above⟩ (List.forall_mem_cons.mpr ⟨⟨hx₂ _ _ (Ne.symm hID) (N _ (.head _)).1, (N _ (.head _)).2⟩, fun p hp => ⟨hx₂ _ _ (o3 p hp).1 (N p (.tail _ hp)).1, (N p (.tail _ hp)).2⟩⟩) off (hC.at' fun o e => hx₂ C o (Ne.symm hIC) e) hJ
inductive IfSrc (prog : Program) (w : World) (A : Around) (h₀ : Heap) (L : Addr) (m : Str → Option Value) (env : Env) (elt c : PySem.Expr) (x : Str) (scope : Scope) (cl : List (Str × Addr)) (Fin : Shared → List Value → List (Addr × Obj) → Prop) (xv : Value) (s₁ : Shared) : Prop
  | mk (l : Addr) (items : Array Value) (news : List (Addr × Obj)) (J : Nat → List Value → List (Addr × Obj) → Prop) (e0 : xv = .ref l) (e1 : A.handled = none) (e2 : Fr h₀ L s₁.heap m) (e3 : News h₀ L s₁.heap news) (e4 : items.size ≤ sizeLine) (e5 : J 0 [] news) (e6 : (∀ i ys news, J i ys news → ys.length ≤ i ∧ ∃ ol, (l, ol) ∈ news ∧ IsListO ol items)) (e7 : IfTurn prog w A h₀ L m env elt c x scope cl s₁ items J) (e8 : ∀ ys news', J items.size ys news' → Fin s₁ ys news')
theorem comp_if {elt iter c : PySem.Expr} {x : Str} {px : Pos} {scope : Scope} {cl : List (Str × Addr)} {pos : Pos} {Q : Value → Shared → Prop} (_F : Fr h₀ L s.heap m)
    (hclos : closureFor scope env = pure cl) (hcell : ∀ y ∈ scope.names, y.2 ≠ .cell) (hkind : scope.kind = .function)
    (hnames : ∀ y ∈ scope.names, y.2 = .local → scope.names.lookup y.1 = some .local) (hx : scope.names.lookup x = some .local)
    (h : wpAny (model prog w) A (eval iter env) (IfSrc prog w A h₀ L m env elt c x scope cl (fun s₂ => FinE h₀ L m s₂ Q)) E s)
    (hs : ∀ x, foldedSetIterable iter env x = pure x := by intro _; rfl) :
    wpAny (model prog w) A (eval (.ListComp elt [⟨.Name x px, iter, [c], 0⟩] scope pos) env) Q E s := by
  rw [eval_ListComp]
  refine wpAny_comprehension_free (use := none) rfl hs hclos hkind hnames (wpAny_mono h (fun xv s₁ h₁ => ?_) fun _ _ e => e)
  obtain ⟨l, items, news, J, rfl, hh, F, N, hsz, hJ, hl, turn, fin⟩ := h₁
  obtain ⟨_, ol, hol, hcl, nl, hdl⟩ := hl _ _ _ hJ
  refine wpAny_pyIter_list (items := items) ⟨ol, (N _ hol).1, hcl, nl, hdl⟩ ?_
  generalize hH1 : s₁.heap.push { cls := .type "list_iterator", data := .fields #[.ref l, .int 0 0] } = H1
  have g1 : H1.get? s₁.heap.objs.size = some { cls := .type "list_iterator", data := .fields #[.ref l, .int 0 0] } := hH1 ▸ Heap.get?_push_size _ rfl
  have k1 : ∀ b o, s₁.heap.get? b = some o → H1.get? b = some o := fun b o e => hH1 ▸ Heap.get?_push_of_some _ e
  have z1 : H1.objs.size = s₁.heap.objs.size + 1 := by rw [← hH1, Heap.size_push]
  refine wpAny_newObj_type (wpAny_newFunctionEnv hcell (by intro y hy; simp at hy) (fun h₃ hns₃ hsb₃ => ?_) hkind)
  dsimp only at hns₃ hsb₃ ⊢
  generalize hH2 : H1.push { cls := .type "list", dict := none, data := .seq ([] : List Value).toArray } = H2 at hns₃ hsb₃ ⊢
  have g2 : H2.get? H1.objs.size = some (lst []) := hH2 ▸ Heap.get?_push_size _ rfl
  have k2 : ∀ b o, H1.get? b = some o → H2.get? b = some o := fun b o e => hH2 ▸ Heap.get?_push_of_some _ e
  have z2 : H2.objs.size = s₁.heap.objs.size + 2 := by rw [← hH2, Heap.size_push, z1]
  have k3 : ∀ b o, b < H2.objs.size → H2.get? b = some o → h₃.get? b = some o := fun b o hb e => hsb₃.extBut b o (Nat.ne_of_lt hb) (Heap.get?_push_of_some _ e)
  have keep : ∀ b o, s₁.heap.get? b = some o → h₃.get? b = some o := fun b o e => k3 b o (Nat.lt_of_lt_of_le (Heap.lt_size e) (by rw [z2]; exact Nat.le_add_right ..)) (k2 _ _ (k1 _ _ e))
  have hLs : @LT.lt Nat _ L s₁.heap.objs.size := F.ns.lt
  have fresh : ∀ b, s₁.heap.objs.size ≤ b → h₀.get? b = none := fun b hb => Heap.get?_none_of_le (Nat.le_trans F.above (Nat.le_trans (Nat.le_of_lt hLs) hb))
  have old : ∀ p ∈ news, @LT.lt Nat _ p.1 s₁.heap.objs.size := fun p hp => Heap.lt_size (N p hp).1
  have gI : h₃.get? s₁.heap.objs.size = some { cls := .type "list_iterator", data := .fields #[.ref l, .int 0 0] } := k3 _ _ (by rw [z2]; omega) (k2 _ _ g1)
  have core : codeAny (model prog w) A (.compLoop (.ListComp elt [⟨.Name x px, iter, [c], 0⟩] scope pos) 0 (.ref s₁.heap.objs.size) (.ref H1.objs.size) (compEnvC scope cl H2.objs.size env))
      (compPost (model prog w) A E none Q (.ref H1.objs.size) H2.objs.size) { s₁ with heap := h₃, toks := s₁.toks + ([] : List (Str × Value)).length } := by
    refine if_loop (s := { s₁ with heap := h₃, toks := s₁.toks + ([] : List (Str × Value)).length }) (l := l) (J := J) (news := news) (items := items) hh hkind hx hsz ⟨_, gI, rfl, rfl⟩ (F.keeps keep) hns₃ (fun p hp => ?_) (Off3.of fun p hp => ?_) ?_ ?_ ?_ ?_ ?_ ?_ ?_ hJ hl turn ?_
    · rcases List.mem_cons.mp hp with rfl | hp
      · exact ⟨k3 _ _ (by show H1.objs.size < _; rw [z1, z2]; omega) g2, by show H1.objs.size ≠ L; rw [z1]; omega, fresh _ (by show _ ≤ H1.objs.size; rw [z1]; omega)⟩
      · exact ⟨keep _ _ (N p hp).1, (N p hp).2⟩
    · have := old p hp
      exact ⟨Nat.ne_of_lt this, Nat.ne_of_lt (by rw [z2]; omega), Nat.ne_of_lt (by rw [z1]; omega)⟩
    · exact Nat.ne_of_lt (by rw [z2]; omega)
    · exact Nat.ne_of_lt (by rw [z1]; omega)
    · exact Nat.ne_of_gt (by rw [z1, z2]; omega)
    · exact Nat.ne_of_lt hLs
    · exact Nat.ne_of_gt (by rw [z2]; omega)
    · exact fresh _ (Nat.le_refl _)
    · exact fresh _ (by rw [z2]; omega)
    · intro h tk m' ys news' F' N' off hC hJn
      refine ⟨m', hC, fun h'' hs'' => fin ys news' hJn H1.objs.size h'' tk (F'.change hs'' (Nat.ne_of_gt (by rw [z2]; omega)) (fresh _ (by rw [z2]; omega))) (fun p hp => ?_) off.one⟩
      refine ⟨hs''.extBut _ _ ?_ (N' p hp).1, (N' p hp).2⟩
      rcases List.mem_cons.mp hp with rfl | hp
      · exact Nat.ne_of_lt (by show H1.objs.size < _; rw [z1, z2]; omega)
      · exact (off.mem p hp).2.1
  refine codeAny_compStart_list ?_ ?_
  · exact core
  · exact wpAny_pyIter_listiter ⟨_, gI, rfl, rfl⟩ core
end
end Mine
end

noncomputable section
open PySem PySem.W PySem.Calls PyProof.Rows
namespace Mine
open LCg
section
variable {M : Model} {A : Around} {E : Value → Shared → Prop} {s : Shared}
theorem newEnv_oneCell {scope : Scope} {globals : Addr} {cl : List (Str × Addr)} {qual : Str} {env : Env} {builtins : Addr} {x : Str} {Q : Env → Shared → Prop}
    (hcf : ∀ n, cellsFrom n scope.names cl = (x, n) :: cl) (hpc : ∀ h, pushCells h scope.names = h.push { cls := .type "cell", data := .cell none })
    (hQ : Q (newEnv scope s.heap.objs.size globals ((x, s.heap.objs.size + 1) :: cl) qual none .none (some env) builtins) { s with heap := (s.heap.push { cls := .type "dict", data := .dict #[] }).push { cls := .type "cell", data := .cell none } }) :
    wpAny M A (newFunctionEnv scope globals cl [] qual none .none (some env) builtins) Q E s := by
  simp only [newFunctionEnv, Option.isSome_some, if_true]
  refine wpAny_bind (wpAny_alloc ?_)
  refine wpAny_bind (wpAny_layCells _ (fun name kind cells => by cases hkc : kind == NameKind.cell <;> simp [hkc]) _ _ _ _ ?_)
  rw [show ({ s with heap := s.heap.push { cls := .type "dict", data := .dict #[] } } : Shared).heap.objs.size = s.heap.objs.size + 1 from Heap.size_push .., hcf, hpc]
  rw [List.forIn_nil]
  exact wpAny_bind (wpAny_pure (wpAny_pure hQ))
end
section
variable {prog : Program} {w : World} {A : Around} {s : Shared} {h₀ : Heap} {L : Addr} {m : Str → Option Value} {env : Env} {E : Value → Shared → Prop}
noncomputable def CompTurnC (prog : Program) (w : World) (A : Around) (h₀ : Heap) (L : Addr) (m : Str → Option Value) (env : Env) (elt : PySem.Expr) (x : Str) (scope : Scope) (cl : List (Str × Addr)) (s : Shared) (a : Int) (n : Nat) (J : Nat → List Value → List (Addr × Obj) → Prop) : Prop :=
  ∀ i ys news ti I oI C oC D K oK m₂ h tk (E' : Value → Shared → Prop), i < n → J i ys news → NsObj oC m₂ → oK.data = .cell (some (.int (a - (i : Int)) ti)) → Fr h₀ L h m → News h₀ L h ((I, oI) :: (C, oC) :: (D, lst ys) :: (K, oK) :: news) → Off3 I C D ((K, oK) :: news) → Off1 K news → ((@Ne Nat I C) ∧ (@Ne Nat I D) ∧ (@Ne Nat C D)) →
    wpAny (model prog w) A (eval elt (compEnvC scope ((x, K) :: cl) C env)) (CompEnd h₀ L m { s with heap := h, toks := tk } I oI C oC D (lst ys) (fun _ => True) (fun y news' => ∃ oK' news'', news' = (K, oK') :: news'' ∧ (∃ v, oK'.data = .cell v) ∧ Off1 K news'' ∧ J (i + 1) (ys ++ [y]) news'')) E' { s with heap := h, toks := tk }
inductive CellAt (h₀ : Heap) (L : Addr) (m : Str → Option Value) (I C D K : Addr) (a : Int) (n : Nat) (J : Nat → List Value → List (Addr × Obj) → Prop) (s : Shared) (k : Nat) : Shared → Prop
  | mk (h : Heap) (tk i : Nat) (ys : List Value) (m' : Str → Option Value) (oK : Obj) (news' : List (Addr × Obj)) (vK : Option Value) (hk : i + k = n + 1) (hin : i ≤ n) (hyl : ys.length = i) (hI : IsRangeIter h I (a - (i : Int)) ((n : Int) - (i : Int)) (-1)) (F : Fr h₀ L h m) (hC : h.Ns C m') (N : News h₀ L h ((D, lst ys) :: (K, oK) :: news')) (hvK : oK.data = .cell vK) (off : Off3 I C D ((K, oK) :: news')) (offK : Off1 K news') (hJ : J i ys news') : CellAt h₀ L m I C D K a n J s k { s with heap := h, toks := tk }
theorem comp_loopC {elt iter : PySem.Expr} {x : Str} {px : Pos} {scope : Scope} {cl : List (Str × Addr)} {pos : Pos} {a : Int} {n : Nat} {J : Nat → List Value → List (Addr × Obj) → Prop} {I C D K : Addr} {oK : Obj} {R : Result → Shared → Prop} {news : List (Addr × Obj)} {m₁ : Str → Option Value}
    (hh : A.handled = none) (hkind : scope.kind = .function) (hx : ∀ K C, (compEnvC scope ((x, K) :: cl) C env).kindOf x = some .cell) (hsz : n ≤ sizeLine)
    (hI : IsRangeIter s.heap I a (n : Int) (-1)) (F : Fr h₀ L s.heap m) (hC : s.heap.Ns C m₁) (N : News h₀ L s.heap ((D, lst []) :: (K, oK) :: news)) (hK : ∃ v, oK.data = .cell v) (off : Off3 I C D ((K, oK) :: news)) (offK : Off1 K news)
    (hIC : I ≠ C) (hID : I ≠ D) (hCD : C ≠ D) (hIL : L ≠ I) (hCL : C ≠ L) (hI₀ : h₀.get? I = none) (hC₀ : h₀.get? C = none) (hJ : J 0 [] news)
    (turn : CompTurnC prog w A h₀ L m env elt x scope cl s a n J)
    (done : ∀ h tk m' ys news', Fr h₀ L h m → News h₀ L h ((D, lst ys) :: news') → Off3 I C D news' → h.Ns C m' → J n ys news' → R (.ok .next) { s with heap := h, toks := tk }) :
    codeAny (model prog w) A (.compLoop (.ListComp elt [⟨.Name x px, iter, [], 0⟩] scope pos) 0 (.ref I) (.ref D) (compEnvC scope ((x, K) :: cl) C env)) R s := by
  have hDL : D ≠ L := (N _ (.head _)).2.1
  have hD₀ : h₀.get? D = none := (N _ (.head _)).2.2
  have hKL : K ≠ L := (N _ (.tail _ (.head _))).2.1
  have hK₀ : h₀.get? K = none := (N _ (.tail _ (.head _))).2.2
  obtain ⟨vK₀, hK⟩ := hK
  refine codeAny_compLoop_tests (CellAt h₀ L m I C D K a n J s)
    ?_ (n + 1) (.mk s.heap s.toks 0 [] m₁ oK news vK₀ (Nat.zero_add _) (Nat.zero_le _) rfl (by simpa using hI) F hC N hK off offK hJ)
  clear hK off offK hJ N F hC hI
  rintro k s' ⟨h, tk, i, ys, m', oK, news', vK, hk, hin, hyl, hI, F, hC, N, hvK, off, offK, hJ⟩
  have o3 := off.mem
  have oKm := Off1.mem offK
  obtain ⟨hKI, hKC, hKD⟩ := o3 _ (.head _)
  rcases Nat.lt_or_ge i n with hlt | hge
  · refine wpAny_pyNext_range_item hI (by omega) fun h₂ hI₂ hs₂ => ?_
    have F₂ : Fr h₀ L h₂ m := F.change hs₂ (Ne.symm hIL) hI₀
    have N₂ : News h₀ L h₂ ((D, lst ys) :: (K, oK) :: news') := List.forall_mem_cons.mpr ⟨⟨hs₂.extBut _ _ (Ne.symm hID) (N _ (.head _)).1, (N _ (.head _)).2⟩, fun p hp => ⟨hs₂.extBut _ _ (o3 p hp).1 (N p (.tail _ hp)).1, (N p (.tail _ hp)).2⟩⟩
    refine wpAny_assign_Name (wpAny_storeName_cell (c := K) (v₀ := vK) (by simp [compEnvC, relabel, hkind]) (hx K C) (by simp [compEnvC]) ⟨oK, (N₂ _ (.tail _ (.head _))).1, hvK⟩ (fun h₃ hc₃ hs₃ => ?_))
    refine wpAny_tests_nil ?_
    rw [if_pos rfl]
    obtain ⟨oK3, eK3, dK3⟩ := hc₃
    have F₃ : Fr h₀ L h₃ m := F₂.change hs₃ hKL hK₀
    have I₃ : h₃.get? I = some _ := hs₃.extBut I _ (Ne.symm hKI) hI₂
    have hC₂ : h₂.Ns C m' := hC.at' fun o e => hs₂.extBut C o (Ne.symm hIC) e
    have hC₃ : h₃.Ns C m' := hC₂.at' fun o e => hs₃.extBut C o (Ne.symm hKC) e
    obtain ⟨oC, heC, hoC⟩ := ns_obj hC₃
    have N₃ : News h₀ L h₃ ((I, _) :: (C, oC) :: (D, lst ys) :: (K, oK3) :: news') := List.forall_mem_cons.mpr ⟨⟨I₃, Ne.symm hIL, hI₀⟩, List.forall_mem_cons.mpr ⟨⟨heC, hCL, hC₀⟩, List.forall_mem_cons.mpr ⟨⟨hs₃.extBut _ _ (Ne.symm hKD) (N₂ _ (.head _)).1, (N₂ _ (.head _)).2⟩, List.forall_mem_cons.mpr ⟨⟨eK3, hKL, hK₀⟩, fun p hp => let q := N₂ p (.tail _ (.tail _ hp)); ⟨hs₃.extBut _ _ (oKm p hp) q.1, q.2⟩⟩⟩⟩⟩
    have off3 : Off3 I C D ((K, oK3) :: news') := Off3.of (List.forall_mem_cons.mpr ⟨⟨hKI, hKC, hKD⟩, fun p hp => o3 p (.tail _ hp)⟩)
    refine wpAny_mono (turn i ys news' _ I _ C oC D K oK3 _ h₃ _ _ hlt hJ hoC dK3 F₃ N₃ off3 offK ⟨hIC, hID, hCD⟩) (fun y s₄ z => ?_) fun _ _ e => e
    obtain ⟨h₄, tk₄, news₄, rfl, F₄, N₄, off₄, _, oK4, news5, rfl, hK4, offK4, hJ₄⟩ := z
    have o4 := off₄.mem
    refine append_at (hsz := by show ys.toArray.size ≤ sizeLine; rw [List.size_toArray, hyl]; omega) (N₄ _ (.tail _ (.tail _ (.head _)))).1 fun h₅ hs₅ hD₅ => ?_
    have I₅ : h₅.get? I = some _ := hs₅.extBut I _ hID (N₄ _ (.head _)).1
    have e1 : a - (i : Int) + (-1) = a - ((i + 1 : Nat) : Int) := by omega
    have e2 : (n : Int) - (i : Int) - 1 = (n : Int) - ((i + 1 : Nat) : Int) := by omega
    rw [e1, e2] at I₅
    obtain ⟨vK4, hK4⟩ := hK4
    exact ⟨k - 1, by omega, .mk h₅ tk₄ (i + 1) (ys ++ [y]) _ oK4 news5 vK4 (by omega) hlt (by simp [hyl]) I₅ (F₄.change hs₅ hDL hD₀) ((hoC.ns (N₄ _ (.tail _ (.head _))).1).sameBut hs₅ (Ne.symm (Ne.symm hCD))) (List.forall_mem_cons.mpr ⟨⟨hD₅.trans (congrArg some (lst_snoc ys y)), hDL, hD₀⟩, fun p hp => let q := N₄ p (.tail _ (.tail _ (.tail _ hp))); ⟨hs₅.extBut _ _ (o4 p hp).2.2 q.1, q.2⟩⟩) hK4 off₄ offK4 hJ₄⟩
  · obtain rfl : i = n := Nat.le_antisymm hin hge
    refine wpAny_pyNext_range_end hh hI (by omega) fun h₂ hx₂ => ?_
    exact done h₂ tk m' ys news' ⟨F.ns.extBut hx₂ hIL, fun b o e => hx₂ b o (fun hb => by rw [hb, hI₀] at e; cases e) (F.keep b o e), F.above⟩ (List.forall_mem_cons.mpr ⟨⟨hx₂ _ _ (Ne.symm hID) (N _ (.head _)).1, (N _ (.head _)).2⟩, fun p hp => let q := N p (.tail _ (.tail _ hp)); ⟨hx₂ _ _ (o3 p (.tail _ hp)).1 q.1, q.2⟩⟩) (Off3.of fun p hp => o3 p (.tail _ hp)) (hC.at' fun o e => hx₂ C o (Ne.symm hIC) e) hJ
inductive RangeSrcC (prog : Program) (w : World) (A : Around) (h₀ : Heap) (L : Addr) (m : Str → Option Value) (env : Env) (elt : PySem.Expr) (x : Str) (scope : Scope) (cl : List (Str × Addr)) (Fin : Shared → List Value → List (Addr × Obj) → Prop) (xv : Value) (s₁ : Shared) : Prop
  | mk (r : Addr) (a n : Nat) (b : Int) (t u v : Tok) (news : List (Addr × Obj)) (J : Nat → List Value → List (Addr × Obj) → Prop) (e0 : xv = .ref r) (e1 : A.handled = none) (e2 : Fr h₀ L s₁.heap m) (e3 : News h₀ L s₁.heap news) (e4 : IsRange s₁.heap r (a : Int) b (-1) t u v) (e5 : a ≤ 1000000) (e6 : b + (n : Int) = (a : Int)) (e7 : -1 ≤ b) (e8 : J 0 [] news) (e9 : CompTurnC prog w A h₀ L m env elt x scope cl s₁ a n J) (e10 : ∀ ys news', J n ys news' → Fin s₁ ys news')
theorem comp_downCA {elt iter : PySem.Expr} {x : Str} {px : Pos} {scope : Scope} {cl : List (Str × Addr)} {pos spos : Pos} {y : Str} {py : Pos} {Q : Flow → Shared → Prop} (_F : Fr h₀ L s.heap m) (hLe : env.locals = L)
    (hclos : closureFor scope env = pure cl) (hkind : scope.kind = .function)
    (hcf : ∀ n, cellsFrom n scope.names cl = (x, n) :: cl) (hpc : ∀ h, pushCells h scope.names = h.push { cls := .type "cell", data := .cell none })
    (hnames : ∀ y ∈ scope.names, y.2 = .local → scope.names.lookup y.1 = some .local) (hx : ∀ K C, (compEnvC scope ((x, K) :: cl) C env).kindOf x = some .cell)
    (h : wpAny (model prog w) A (eval iter env) (RangeSrcC prog w A h₀ L m env elt x scope cl (fun s₂ => FinA h₀ L m s₂ y Q)) E s)
    (hsw : swapsWith (.ListComp elt [⟨.Name x px, iter, [], 0⟩] scope pos) (some (.Name y py)) spos.line env = pure true)
    (hy : env.kindOf y = some .local) (hp : (env.scope.kind == .class || (env.scope.kind == .module && env.locals != env.globals)) = false)
    (hs : ∀ x, foldedSetIterable iter env x = pure x := by intro _; rfl) :
    wpAny (model prog w) A (exec (.Assign [.Name y py] (.ListComp elt [⟨.Name x px, iter, [], 0⟩] scope pos) spos) env) Q E s := by
  subst hLe
  rw [exec_Assign_Name_used _ _ _ _ hsw]
  refine wpAny_bind (wpAny_standAt (wpAny_bind ?_))
  show wpAny _ A (do let _ ← comprehension (.ListComp elt [⟨.Name x px, iter, [], 0⟩] scope pos) scope env _ (newList []) false (eval iter env) (some (assign (.Name y py) env))) _ _ s
  refine wpAny_bind (wpAny_mono (wpAny_comprehension_free (use := some (assign (.Name y py) env)) (Q := fun _ s' => Q .next s') rfl hs hclos hkind hnames
    (wpAny_mono h (fun xv s₁ h₁ => ?_) fun _ _ e => e)) (fun _ s' hq => wpAny_pure (wpAny_pure hq)) fun _ _ e => e)
  obtain ⟨r, a, n, b, t, u, v, news, J, rfl, hh, F, N, hr, hb, han, hb1, hJ, turn, fin⟩ := h₁
  have hrs : Builtin.Range.rangeSize (a : Int) b (-1) = (n : Int) := by
    rw [rangeSize_down]; split <;> omega
  refine wpAny_pyIter_range hr (small_down (by omega) (by omega) (by omega) (by omega)) ?_
  rw [hrs]
  generalize hH1 : s₁.heap.push { cls := .type "range_iterator", data := .fields #[rawInt (a : Int), rawInt (n : Int), rawInt (-1)] } = H1
  have g1 : H1.get? s₁.heap.objs.size = some { cls := .type "range_iterator", data := .fields #[rawInt (a : Int), rawInt (n : Int), rawInt (-1)] } := hH1 ▸ Heap.get?_push_size _ rfl
  have k1 : ∀ b o, s₁.heap.get? b = some o → H1.get? b = some o := fun b o e => hH1 ▸ Heap.get?_push_of_some _ e
  have z1 : H1.objs.size = s₁.heap.objs.size + 1 := by rw [← hH1, Heap.size_push]
  refine wpAny_newObj_type (newEnv_oneCell hcf hpc ?_)
  dsimp only
  generalize hH2 : H1.push { cls := .type "list", dict := none, data := .seq ([] : List Value).toArray } = H2
  have g2 : H2.get? H1.objs.size = some (lst []) := hH2 ▸ Heap.get?_push_size _ rfl
  have k2 : ∀ b o, H1.get? b = some o → H2.get? b = some o := fun b o e => hH2 ▸ Heap.get?_push_of_some _ e
  have z2 : H2.objs.size = s₁.heap.objs.size + 2 := by rw [← hH2, Heap.size_push, z1]
  generalize hH3 : H2.push { cls := .type "dict", data := .dict #[] } = H3
  have n3 : H3.Ns H2.objs.size (fun _ => none) := hH3 ▸ Heap.Ns.new H2 (.type "dict")
  have k3 : ∀ b o, H2.get? b = some o → H3.get? b = some o := fun b o e => hH3 ▸ Heap.get?_push_of_some _ e
  have z3 : H3.objs.size = s₁.heap.objs.size + 3 := by rw [← hH3, Heap.size_push, z2]
  generalize hH4 : H3.push { cls := .type "cell", data := .cell none } = H4
  have g4 : H4.get? H3.objs.size = some { cls := .type "cell", data := .cell none } := hH4 ▸ Heap.get?_push_size _ rfl
  have k4 : ∀ b o, H3.get? b = some o → H4.get? b = some o := fun b o e => hH4 ▸ Heap.get?_push_of_some _ e
  have z4 : H2.objs.size + 1 = H3.objs.size := by rw [z2, z3]
  rw [z4]
  have n4 : H4.Ns H2.objs.size (fun _ => none) := n3.keeps k4
  have keep : ∀ b o, s₁.heap.get? b = some o → H4.get? b = some o := fun b o e => k4 _ _ (k3 _ _ (k2 _ _ (k1 _ _ e)))
  have hLs : @LT.lt Nat _ env.locals s₁.heap.objs.size := F.ns.lt
  have fresh : ∀ b, s₁.heap.objs.size ≤ b → h₀.get? b = none := fun b hb => Heap.get?_none_of_le (Nat.le_trans F.above (Nat.le_trans (Nat.le_of_lt hLs) hb))
  have old : ∀ p ∈ news, @LT.lt Nat _ p.1 s₁.heap.objs.size := fun p hp => Heap.lt_size (N p hp).1
  have gI := k4 _ _ (k3 _ _ (k2 _ _ g1))
  have core : codeAny (model prog w) A (.compLoop (.ListComp elt [⟨.Name x px, iter, [], 0⟩] scope pos) 0 (.ref s₁.heap.objs.size) (.ref H1.objs.size) (compEnvC scope ((x, H3.objs.size) :: cl) H2.objs.size env))
      (compPost (model prog w) A E (some (assign (.Name y py) env)) (fun _ s' => Q .next s') (.ref H1.objs.size) H2.objs.size) { s₁ with heap := H4 } := by
    refine comp_loopC (s := { s₁ with heap := H4 }) (a := (a : Int)) (n := n) (J := J) (news := news) (oK := { cls := .type "cell", data := .cell none }) hh hkind hx (Nat.le_trans (show n ≤ 1000001 by omega) (by decide)) gI (F.keeps keep) n4 (fun p hp => ?_) ⟨_, rfl⟩ (Off3.of fun p hp => ?_) (Off1.of fun p hp => ?_) ?_ ?_ ?_ ?_ ?_ ?_ ?_ hJ turn ?_
    · rcases List.mem_cons.mp hp with rfl | hp
      · exact ⟨k4 _ _ (k3 _ _ g2), by show H1.objs.size ≠ env.locals; rw [z1]; omega, fresh _ (by show _ ≤ H1.objs.size; rw [z1]; omega)⟩
      rcases List.mem_cons.mp hp with rfl | hp
      · exact ⟨g4, by show H3.objs.size ≠ env.locals; rw [z3]; omega, fresh _ (by show _ ≤ H3.objs.size; rw [z3]; omega)⟩
      · exact ⟨keep _ _ (N p hp).1, (N p hp).2⟩
    · rcases List.mem_cons.mp hp with rfl | hp
      · exact ⟨Nat.ne_of_gt (by show _ < H3.objs.size; rw [z3]; omega), Nat.ne_of_gt (by show _ < H3.objs.size; rw [z2, z3]; omega), Nat.ne_of_gt (by show _ < H3.objs.size; rw [z1, z3]; omega)⟩
      · have := old p hp
        exact ⟨Nat.ne_of_lt this, Nat.ne_of_lt (by rw [z2]; omega), Nat.ne_of_lt (by rw [z1]; omega)⟩
    · have := old p hp
      exact Nat.ne_of_lt (by rw [z3]; omega)
    · exact Nat.ne_of_lt (by rw [z2]; omega)
    · exact Nat.ne_of_lt (by rw [z1]; omega)
    · exact Nat.ne_of_gt (by rw [z1, z2]; omega)
    · exact Nat.ne_of_lt hLs
    · exact Nat.ne_of_gt (by rw [z2]; omega)
    · exact fresh _ (Nat.le_refl _)
    · exact fresh _ (by rw [z2]; omega)
    · intro h tk m' ys news' F' N' off hC hJn
      have hCL : H2.objs.size ≠ env.locals := Nat.ne_of_gt (by rw [z2]; omega)
      have hC₀ : h₀.get? H2.objs.size = none := fresh _ (by rw [z2]; omega)
      have hCD : H2.objs.size ≠ H1.objs.size := Nat.ne_of_gt (by rw [z1, z2]; omega)
      show wpAny _ A (assign (.Name y py) env (.ref H1.objs.size)) _ _ _
      refine wpAny_assign_Name (wpAny_storeName_local hy F'.ns (fun h₂ hn₂ hs₂ => ?_) hp)
      have hL₀ : h₀.get? env.locals = none := Heap.get?_none_of_le F'.above
      have F₂ : Fr h₀ env.locals h₂ (fun z => if z = y then some (.ref H1.objs.size) else m z) := ⟨hn₂, fun b o e => hs₂.extBut b o (fun q => by rw [q, hL₀] at e; cases e) (F'.keep b o e), F'.above⟩
      refine ⟨m', hC.sameBut hs₂ hCL, fun h'' hs'' => fin ys news' hJn H1.objs.size h'' _ (F₂.change hs'' hCL hC₀) (fun p hp => ?_) off.one⟩
      have z : h₂.get? p.1 = some p.2 := hs₂.extBut _ _ (N' p hp).2.1 (N' p hp).1
      refine ⟨hs''.extBut _ _ ?_ z, (N' p hp).2⟩
      rcases List.mem_cons.mp hp with rfl | hp
      · exact Ne.symm hCD
      · exact (off.mem p hp).2.1
  refine codeAny_compStart_list ?_ ?_
  · exact core
  · exact wpAny_pyIter_rangeiter (by show IsRangeIter _ _ _ _ _; exact gI) core
end
end Mine
end

noncomputable section
open PySem PySem.W PySem.Calls PyProof.Rows
set_option maxRecDepth 100000
namespace Mine
section
variable {prog : Program} {w : World} {A : Around} {E : Value → Shared → Prop} {s : Shared}
theorem loopTupC {env : Env} {h₀ : Heap} {x : Str} {px : Pos} {body : List Stmt} {Q : Flow → Shared → Prop} {l : Addr} {oT : Obj} {vs : List Value} {m₀ : Str → Option Value} {news : List (Addr × Obj)} {n : Nat} (hh : A.handled = none)
    (hc : oT.cls = .type "tuple") (hd : oT.data = .seq vs.toArray n) (F : Fr h₀ env.locals s.heap m₀) (N : News h₀ env.locals s.heap news)
    (J : Nat → (Str → Option Value) → List (Addr × Obj) → Prop) (hj : J 0 m₀ news) (hmem : ∀ i m n, J i m n → (l, oT) ∈ n)
    (turn : ∀ i v m₁ news₁ h tk I oI (kn : Shared → Prop), i < vs.length → vs[i]? = some v → J i m₁ news₁ → Fr h₀ env.locals h m₁ → News h₀ env.locals h (news₁ ++ [(I, oI)]) → (∀ q ∈ news₁, q.1 ≠ I) →
      (∀ h' tk' m' news', Fr h₀ env.locals h' m' → News h₀ env.locals h' (news' ++ [(I, oI)]) → (∀ q ∈ news', q.1 ≠ I) → J (i + 1) m' news' → kn { s with heap := h', toks := tk' }) →
      wpAny (model prog w) A (assign (.Name x px) env v) (fun _ s₃ => wpAny (model prog w) A (execs body env) (fun f s₂ => match f with | .ret v => Q (.ret v) s₂ | .brk => Q .next s₂ | _ => kn s₂) E s₃) E { s with heap := h, toks := tk })
    (done : ∀ h tk m₁ news₁, J vs.length m₁ news₁ → Fr h₀ env.locals h m₁ → News h₀ env.locals h news₁ → Q .next { s with heap := h, toks := tk }) :
    wpAny (model prog w) A (pyIter (.ref l)) (fun it s₂ => TurnsAt prog w A h₀ env (.Name x px) body Q E it s₂) E s := by
  have hm0 := hmem _ _ _ hj
  refine wpAny_pyIter_tuple (items := vs.toArray) ⟨oT, (N _ hm0).1, hc, n, hd⟩ ?_
  have hlL := F.ns.lt
  have hfr : h₀.get? s.heap.objs.size = none := Heap.get?_none_of_le (Nat.le_trans F.above (Nat.le_of_lt hlL))
  have hne : l ≠ s.heap.objs.size := Nat.ne_of_lt (Heap.lt_size (N _ hm0).1)
  have W := Walks.tuple (prog := prog) (w := w) (A := A) hh s.heap.objs.size l hne vs.toArray
  refine ⟨s.heap.objs.size, [s.heap.objs.size, l], [s.heap.objs.size], vs.toArray.size, _, _, _, m₀, news, J, rfl,
    KTurns.ofWalks W (fun i v s Q E st q => letGo_tupleiter st.1 q), ?_, ?_, ?_, ?_, F.push _, (fun p hp => ⟨Heap.get?_push_of_some _ (N p hp).1, (N p hp).2⟩), hj, ?_, ?_⟩
  · intro hb
    rcases List.mem_cons.mp hb with e | hb
    · exact absurd hlL (e ▸ Nat.lt_irrefl _)
    · exact (N _ hm0).2.1 (List.mem_singleton.mp hb).symm
  · intro b hb
    rw [List.mem_singleton.mp hb]; exact hfr
  · intro q hq hm
    exact absurd (Heap.lt_size (N q hq).1) ((List.mem_singleton.mp hm) ▸ Nat.lt_irrefl _)
  · exact ⟨⟨_, Heap.get?_push_size _ rfl, rfl, rfl⟩, ⟨oT, Heap.get?_push_of_some _ (N _ hm0).1, hc, n, hd⟩⟩
  · rintro i v m₁ news₁ hh' tk' own hin hP hJ hoff hown hog hoin hst1 F₁ N₁
    have hmi := hmem _ _ _ hJ
    obtain ⟨⟨oI, hoI, _⟩, _⟩ := hst1
    have hl1 : hh'.get? l = some oT := (N₁ _ (List.mem_append_right _ hmi)).1
    have hIo : (s.heap.objs.size, oI) ∈ own := hoin _ (.head _) hfr _ hoI
    have N₂ : News h₀ env.locals hh' (news₁ ++ [(s.heap.objs.size, oI)]) := fun p hp => by
      rcases List.mem_append.mp hp with hp | hp
      · exact N₁ p (List.mem_append_right _ hp)
      · rw [List.mem_singleton.mp hp]; exact N₁ _ (List.mem_append_left _ hIo)
    refine wpAny_mono (turn i v m₁ news₁ hh' tk' s.heap.objs.size oI (LoopStepU h₀ env.locals [s.heap.objs.size] own (J (i + 1)) { s with heap := hh', toks := tk' } .next) (by simpa using hin) (by simpa using hP) hJ F₁ N₂ (fun q hq e => hoff q hq (by rw [e]; exact .head _)) ?_) (fun _ s₃ z => wpAny_mono z (fun f s₂ p => ?_) fun _ _ e => e) fun _ _ e => e
    · intro h' tk m' news' F' N' hsep hJ'
      have hm' := hmem _ _ _ hJ'
      refine ⟨rfl, h', tk, m', news', rfl, F', fun p hp => ?_, fun p hp hq => hsep p hp (List.mem_singleton.mp hq), hJ'⟩
      rcases List.mem_append.mp hp with hp | hp
      · have hpf := hown p hp
        have hpo := hog p hp
        obtain ⟨pa, po⟩ := p
        rcases List.mem_cons.mp hpf with e | hpf
        · dsimp only at e
          subst e
          have : po = oI := Option.some.inj (hpo.symm.trans hoI)
          rw [this]
          exact N' _ (List.mem_append_right _ (.head _))
        · have e := List.mem_singleton.mp hpf
          dsimp only at e
          subst e
          have : po = oT := Option.some.inj (hpo.symm.trans hl1)
          rw [this]
          exact N' _ (List.mem_append_left _ hm')
      · exact N' p (List.mem_append_left _ hp)
    · cases f with
      | ret v => exact .ret p
      | brk => exact .brk p
      | next => exact .next p
      | cont => exact .cont p
  · rintro h' tk m' news' F' N' _ hJ
    exact done h' tk m' news' (by simpa using hJ) F' N'
theorem loopRangeI {env : Env} {h₀ : Heap} {x : Str} {px : Pos} {body : List Stmt} {Q : Flow → Shared → Prop} {r : Addr} {a b : Nat} {t u v : Tok} {m₀ : Str → Option Value} {news : List (Addr × Obj)} (hh : A.handled = none)
    (ha : a ≤ 1000000000) (hb : b ≤ 1000000000) (hr : IsRange s.heap r (a : Int) (b : Int) 1 t u v) (F : Fr h₀ env.locals s.heap m₀) (N : News h₀ env.locals s.heap news)
    (J : Nat → (Str → Option Value) → List (Addr × Obj) → Prop) (hj : J 0 m₀ news)
    (turn : ∀ i u m₁ news₁ h tk I oI (kn : Shared → Prop), i < b - a → J i m₁ news₁ → Fr h₀ env.locals h m₁ → News h₀ env.locals h (news₁ ++ [(I, oI)]) → (∀ q ∈ news₁, q.1 ≠ I) →
      (∀ h' tk' m' news', Fr h₀ env.locals h' m' → News h₀ env.locals h' (news' ++ [(I, oI)]) → (∀ q ∈ news', q.1 ≠ I) → J (i + 1) m' news' → kn { s with heap := h', toks := tk' }) →
      wpAny (model prog w) A (assign (.Name x px) env (.int ((a + i : Nat) : Int) u)) (fun _ s₃ => wpAny (model prog w) A (execs body env) (fun f s₂ => match f with | .ret v => Q (.ret v) s₂ | .brk => Q .next s₂ | _ => kn s₂) E s₃) E { s with heap := h, toks := tk })
    (done : ∀ h tk m₁ news₁, J (b - a) m₁ news₁ → Fr h₀ env.locals h m₁ → News h₀ env.locals h news₁ → Q .next { s with heap := h, toks := tk }) :
    wpAny (model prog w) A (pyIter (.ref r)) (fun it s₂ => TurnsAt prog w A h₀ env (.Name x px) body Q E it s₂) E s := by
  have hsz : Builtin.Range.rangeSize (a : Int) (b : Int) 1 = ((b - a : Nat) : Int) := by
    unfold Builtin.Range.rangeSize
    split <;> (try split) <;> omega
  refine wpAny_pyIter_range hr (small_one (by omega) (by omega) (by omega) (by omega)) ?_
  rw [hsz]
  have hL := F.ns.lt
  have hfr : h₀.get? s.heap.objs.size = none := Heap.get?_none_of_le (Nat.le_trans F.above (Nat.le_of_lt hL))
  have W := Walks.range (prog := prog) (w := w) (A := A) hh s.heap.objs.size (a : Int) 1 (b - a)
  have hfp : ∀ q ∈ news, q.1 ∉ [s.heap.objs.size] := by
    intro q hq hm
    exact absurd (Heap.lt_size (N q hq).1) ((List.mem_singleton.mp hm) ▸ Nat.lt_irrefl _)
  refine ⟨s.heap.objs.size, [s.heap.objs.size], [s.heap.objs.size], b - a, _, _, _, m₀, news, J, rfl,
    KTurns.ofWalks W (fun i v s Q E _ h => wpAny_pure h), ?_, ?_, hfp, (by show IsRangeIter _ _ _ _ _; simpa using Heap.get?_push_size _ rfl), F.push _, (fun p hp => ⟨Heap.get?_push_of_some _ (N p hp).1, (N p hp).2⟩), hj, ?_, ?_⟩
  · intro hm
    exact absurd hL ((List.mem_singleton.mp hm) ▸ Nat.lt_irrefl _)
  · intro b hb
    rw [List.mem_singleton.mp hb]; exact hfr
  · rintro i v m₁ news₁ hh' tk' own hin ⟨t, rfl⟩ hJ hoff hown hog hoin hst1 F₁ N₁
    obtain ⟨oI, hoI⟩ : ∃ o, hh'.get? s.heap.objs.size = some o := ⟨_, hst1⟩
    have hIo : (s.heap.objs.size, oI) ∈ own := hoin _ (.head _) hfr _ hoI
    have N₂ : News h₀ env.locals hh' (news₁ ++ [(s.heap.objs.size, oI)]) := fun p hp => by
      rcases List.mem_append.mp hp with hp | hp
      · exact N₁ p (List.mem_append_right _ hp)
      · rw [List.mem_singleton.mp hp]; exact N₁ _ (List.mem_append_left _ hIo)
    have e : (a : Int) + (i : Int) * 1 = ((a + i : Nat) : Int) := by omega
    rw [e]
    refine wpAny_mono (turn i t m₁ news₁ hh' tk' s.heap.objs.size oI (LoopStepU h₀ env.locals [s.heap.objs.size] own (J (i + 1)) { s with heap := hh', toks := tk' } .next) hin hJ F₁ N₂ (fun q hq e => hoff q hq (by rw [e]; exact .head _)) ?_) (fun _ s₃ z => wpAny_mono z (fun f s₂ p => ?_) fun _ _ e => e) fun _ _ e => e
    · intro h' tk m' news' F' N' hsep hJ'
      refine ⟨rfl, h', tk, m', news', rfl, F', fun p hp => ?_, fun p hp hq => hsep p hp (List.mem_singleton.mp hq), hJ'⟩
      rcases List.mem_append.mp hp with hp | hp
      · have e := List.mem_singleton.mp (hown p hp)
        have hpo := hog p hp
        obtain ⟨pa, po⟩ := p
        dsimp only at e
        subst e
        have : po = oI := Option.some.inj (hpo.symm.trans hoI)
        rw [this]
        exact N' _ (List.mem_append_right _ (.head _))
      · exact N' p (List.mem_append_left _ hp)
    · cases f with
      | ret v => exact .ret p
      | brk => exact .brk p
      | next => exact .next p
      | cont => exact .cont p
  · rintro h' tk m' news' F' N' _ hJ
    exact done h' tk m' news' hJ F' N'
end
section
open LCg
variable {prog : Program} {w : World} {A : Around} {s : Shared} {h₀ : Heap} {L : Addr} {m : Str → Option Value} {env : Env}
theorem comp_const {elt : PySem.Expr} {x : Str} {scope : Scope} {cl : List (Str × Addr)} {S : List (Addr × Obj) → Prop} {P : Nat → Value → Prop} {Fin : List Value → List (Addr × Obj) → Prop} {n : Nat} {news : List (Addr × Obj)}
    (J : Nat → List Value → Prop)
    (turn : ∀ i ys v I oI C oC D m₂ h tk (E' : Value → Shared → Prop), i < n → J i ys → P i v → NsObj oC m₂ → m₂ x = some v → Fr h₀ L h m → News h₀ L h ((I, oI) :: (C, oC) :: (D, lst ys) :: news) → Off3 I C D news → ((@Ne Nat I C) ∧ (@Ne Nat I D) ∧ (@Ne Nat C D)) →
      wpAny (model prog w) A (eval elt (compEnvC scope cl C env)) (CompEnd h₀ L m { s with heap := h, toks := tk } I oI C oC D (lst ys) S (fun y news' => news' = news ∧ J (i + 1) (ys ++ [y]))) E' { s with heap := h, toks := tk })
    (done : ∀ ys, J n ys → Fin ys news) (hJ : J 0 []) : CompRest prog w A h₀ L m env elt x scope cl s S P Fin n 0 [] news :=
  comp_inv (n := n) (fun k ys news' => news' = news ∧ J k ys) (fun i ys news' v I oI C oC D m₂ h tk E' hi hj hP hC hx F N off hne => by
    obtain ⟨rfl, hj⟩ := hj
    exact turn i ys v I oI C oC D m₂ h tk E' hi hj hP hC hx F N off hne) (fun ys news' hj => by
    obtain ⟨rfl, hj⟩ := hj
    exact done ys hj) n 0 [] _ (Nat.zero_add _) ⟨rfl, hJ⟩
end
end Mine
end

noncomputable section
open PySem PySem.W PySem.Calls PyProof.Rows
set_option maxRecDepth 100000
namespace Mine
noncomputable def remR (ps : List (Nat × List Nat)) (k : Nat) : List Nat := if k = 0 then rowsOf ps else (ps.getD (k - 1) (0, [])).2.tail ++ rowsOf (ps.drop k)
theorem rows_drop {ps : List (Nat × List Nat)} {k : Nat} (hk : k < ps.length) : rowsOf (ps.drop k) = rep (ps.getD k (0, [])).1 ++ ((ps.getD k (0, [])).2 ++ rowsOf (ps.drop (k + 1))) := by
  rw [List.drop_eq_getElem_cons hk, rowsOf_cons, List.getD_eq_getElem?_getD, List.getElem?_eq_getElem hk]; rfl
theorem rows_word {d : Nat} {e r : List Nat} (hd : 1 ≤ d) (he : IsEnd e) : word (rep d ++ (e ++ r)) = (rep d, e.tail ++ r) := by
  rcases he with rfl | rfl | rfl
  · exact word_dots d hd r 10 (by decide)
  · exact word_dots d hd r 13 (by decide)
  · exact word_dots d hd (10 :: r) 13 (by decide)
theorem skip_end {e r : List Nat} (he : IsEnd e) : word (e.tail ++ r) = word r := by
  rcases he with rfl | rfl | rfl
  · rfl
  · rfl
  · exact word_skip r
theorem ends_at {ps : List (Nat × List Nat)} (h : ∀ p ∈ ps, 1 ≤ p.1 ∧ IsEnd p.2) {k : Nat} (hk : k < ps.length) : 1 ≤ (ps.getD k (0, [])).1 ∧ IsEnd (ps.getD k (0, [])).2 := by
  rw [List.getD_eq_getElem?_getD, List.getElem?_eq_getElem hk]
  exact h _ (List.getElem_mem hk)
theorem word_remR {ps : List (Nat × List Nat)} (h : ∀ p ∈ ps, 1 ≤ p.1 ∧ IsEnd p.2) {k : Nat} (hk : k < ps.length) : word (remR ps k) = (rep (ps.getD k (0, [])).1, remR ps (k + 1)) := by
  have hw : word (rowsOf (ps.drop k)) = (rep (ps.getD k (0, [])).1, remR ps (k + 1)) := by
    rw [rows_drop hk, rows_word (ends_at h hk).1 (ends_at h hk).2]
    unfold remR
    rw [if_neg (Nat.succ_ne_zero k), Nat.add_sub_cancel]
  unfold remR
  by_cases h0 : k = 0
  · subst h0
    rw [if_pos rfl]
    exact hw
  · rw [if_neg h0, skip_end (ends_at h (show k - 1 < ps.length by omega)).2]
    exact hw
theorem word_remR_last {ps : List (Nat × List Nat)} (h : ∀ p ∈ ps, 1 ≤ p.1 ∧ IsEnd p.2) (hne : 0 < ps.length) : word (remR ps ps.length) = ([], []) := by
  unfold remR
  rw [if_neg (by omega), List.drop_length, skip_end (ends_at h (show ps.length - 1 < ps.length by omega)).2]
  exact word_nil
theorem rows_asc (ps : List (Nat × List Nat)) (h : ∀ p ∈ ps, 1 ≤ p.1 ∧ IsEnd p.2) : Asc (rowsOf ps) := by
  intro c hc
  obtain ⟨p, hp, hc⟩ := List.mem_flatMap.mp hc
  rcases List.mem_append.mp hc with hc | hc
  · rw [List.eq_of_mem_replicate hc]; decide
  · rcases (h p hp).2 with e | e | e <;> rw [e] at hc <;> simp at hc <;> omega
theorem remR_asc (ps : List (Nat × List Nat)) (h : ∀ p ∈ ps, 1 ≤ p.1 ∧ IsEnd p.2) (k : Nat) (hk : k ≤ ps.length) : Asc (remR ps k) := by
  unfold remR
  split
  · exact rows_asc ps h
  · intro c hc
    rcases List.mem_append.mp hc with hc | hc
    · rcases (ends_at h (show k - 1 < ps.length by omega)).2 with e | e | e <;> rw [e] at hc <;> simp at hc <;> omega
    · exact rows_asc _ (fun p hp => h p (List.mem_of_mem_drop hp)) c hc
theorem rows_len (b : Nat) : ∀ ps : List (Nat × List Nat), (∀ p ∈ ps, p.1 ≤ b ∧ p.2.length ≤ 2) → (rowsOf ps).length ≤ (b + 2) * ps.length
  | [], _ => Nat.zero_le _
  | p :: ps, h => by
    have ih := rows_len b ps fun q hq => h q (List.mem_cons_of_mem _ hq)
    have hp := h p (List.mem_cons_self ..)
    rw [rowsOf_cons, List.length_append, List.length_append, List.length_replicate, List.length_cons, Nat.mul_succ]
    omega
theorem remR_len (b : Nat) (ps : List (Nat × List Nat)) (h : ∀ p ∈ ps, p.1 ≤ b ∧ p.2.length ≤ 2) (k : Nat) (hk : k ≤ ps.length) : (remR ps k).length ≤ (b + 2) * ps.length + 2 := by
  unfold remR
  split
  · have := rows_len b ps h; omega
  · have h1 := rows_len b (ps.drop k) fun q hq => h q (List.mem_of_mem_drop hq)
    have h2 : (b + 2) * (ps.drop k).length ≤ (b + 2) * ps.length := Nat.mul_le_mul_left _ (by rw [List.length_drop]; exact Nat.sub_le ..)
    have h3 : k - 1 < ps.length := by omega
    have h4 : (ps.getD (k - 1) (0, [])).2.length ≤ 2 := by
      rw [List.getD_eq_getElem?_getD, List.getElem?_eq_getElem h3]
      exact (h _ (List.getElem_mem h3)).2
    rw [List.length_append, List.length_tail, Nat.add_comm]
    exact Nat.add_le_add (Nat.le_trans h1 h2) (Nat.le_trans (Nat.sub_le ..) h4)
noncomputable def msOf (ps : List (Nat × List Nat)) : Nat → List (Nat × List Nat)
  | 0 => []
  | i + 1 => (msOf ps i).map (fun p => (p.1 + 1, [13, 10])) ++ [ps.getD i (0, [])]
theorem msOf_ok {ps : List (Nat × List Nat)} (h : ∀ p ∈ ps, 1 ≤ p.1 ∧ IsEnd p.2) : ∀ i, i ≤ ps.length → ∀ p ∈ msOf ps i, 1 ≤ p.1 ∧ IsEnd p.2
  | 0, _, p, hp => by cases hp
  | i + 1, hi, p, hp => by
    rcases List.mem_append.mp hp with hp | hp
    · obtain ⟨q, hq, rfl⟩ := List.mem_map.mp hp
      exact ⟨Nat.le_add_left .., .inr (.inr rfl)⟩
    · rw [List.mem_singleton.mp hp]
      exact ends_at h (by omega)
theorem msOf_len (ps : List (Nat × List Nat)) : ∀ i, (msOf ps i).length = i
  | 0 => rfl
  | i + 1 => by rw [msOf, List.length_append, List.length_map, msOf_len ps i]; rfl
theorem msOf_bound {b : Nat} {ps : List (Nat × List Nat)} (h : ∀ p ∈ ps, p.1 ≤ b ∧ p.2.length ≤ 2) : ∀ i, i ≤ ps.length → ∀ p ∈ msOf ps i, p.1 ≤ b + i ∧ p.2.length ≤ 2
  | 0, _, p, hp => by cases hp
  | i + 1, hi, p, hp => by
    rcases List.mem_append.mp hp with hp | hp
    · obtain ⟨q, hq, rfl⟩ := List.mem_map.mp hp
      have := (msOf_bound h i (by omega) q hq).1
      exact ⟨by show q.1 + 1 ≤ _; omega, Nat.le_refl _⟩
    · rw [List.mem_singleton.mp hp]
      have h3 : i < ps.length := by omega
      rw [List.getD_eq_getElem?_getD, List.getElem?_eq_getElem h3]
      have := h _ (List.getElem_mem h3)
      exact ⟨by show ps[i].1 ≤ _; omega, this.2⟩
theorem quote_ms {ps : List (Nat × List Nat)} (h : ∀ p ∈ ps, 1 ≤ p.1 ∧ IsEnd p.2) {i : Nat} (hi : i < ps.length) : stuff true (crlf (rowsOf (msOf ps i))) ++ rep (ps.getD i (0, [])).1 ++ (ps.getD i (0, [])).2 = rowsOf (msOf ps (i + 1)) := by
  rw [quote_rows _ (msOf_ok h i (by omega)), mail_rows, msOf]
  unfold rowsOf
  rw [List.flatMap_append, List.map_map, List.append_assoc]
  simp [Function.comp_def]
theorem msOf_fst (ps : List (Nat × List Nat)) : ∀ n, (msOf ps n).map (·.1) = (List.range n).map fun k => (ps.getD k (0, [])).1 + (n - 1 - k)
  | 0 => rfl
  | n + 1 => by
    have ih := msOf_fst ps n
    rw [msOf, List.map_append, List.map_map, List.range_succ, List.map_append]
    congr 1
    · have e : (msOf ps n).map ((fun p : Nat × List Nat => p.1) ∘ fun p => (p.1 + 1, [13, 10])) = ((msOf ps n).map (·.1)).map (· + 1) := by
        rw [List.map_map]; rfl
      rw [e, ih, List.map_map]
      refine List.map_congr_left fun k hk => ?_
      have := List.mem_range.mp hk
      show (ps.getD k (0, [])).1 + (n - 1 - k) + 1 = (ps.getD k (0, [])).1 + (n - k)
      rw [Nat.sub_right_comm, Nat.add_assoc, Nat.sub_add_cancel (Nat.sub_pos_of_lt this)]
    · show [(ps.getD n (0, [])).1] = [(ps.getD n (0, [])).1 + (n + 1 - 1 - n)]
      rw [show n + 1 - 1 - n = 0 from Nat.sub_self n, Nat.add_zero]
end Mine
end

noncomputable section
open PySem
set_option maxRecDepth 100000
namespace Mine
noncomputable def rookR (hs : List Nat) : List Nat := (List.range (hs.length + 1)).map fun i => (rooksW hs).countP fun w => w.length == hs.length - i + 1
noncomputable def boards (top : Nat) : Nat → Nat → List (List Nat)
  | 0, _ => [[]]
  | n + 1, low => (List.range (top + 1)).flatMap fun h => if low ≤ h then (boards top n h).map (h :: ·) else []
noncomputable def good3 : List Nat → Bool
  | [a, b, c] => let x := (a : Int); let y := (b : Int) - 1; let z := (c : Int) - 2
    ((rookR [a, b, c]).map (fun n : Nat => (n : Int))) == [x * y * z, 1 + (x + y + z) + (x * y + x * z + y * z), 3 + (x + y + z), 1]
  | _ => false
noncomputable def good4 : List Nat → Bool
  | [a, b, c, d] => let x := (a : Int); let y := (b : Int) - 1; let z := (c : Int) - 2; let u := (d : Int) - 3
    ((rookR [a, b, c, d]).map (fun n : Nat => (n : Int))) == [x * y * z * u, 1 + (x + y + z + u) + (x * y + x * z + x * u + y * z + y * u + z * u) + (x * y * z + x * y * u + x * z * u + y * z * u), 7 + 3 * (x + y + z + u) + (x * y + x * z + x * u + y * z + y * u + z * u), 6 + (x + y + z + u), 1]
  | _ => false
theorem all3 : ((boards 3 3 0).all good3) = true := by decide +kernel
theorem all4 : ((boards 4 4 0).all good4) = true := by decide +kernel
theorem id3 (t x y z : Int) : (t + x) * (t + y) * (t + z) = x * y * z + t * ((1 + (x + y + z) + (x * y + x * z + y * z)) + (t - 1) * ((3 + (x + y + z)) + (t - 2) * 1)) := by grind
theorem id4 (t x y z u : Int) : (t + x) * (t + y) * (t + z) * (t + u) = x * y * z * u + t * ((1 + (x + y + z + u) + (x * y + x * z + x * u + y * z + y * u + z * u) + (x * y * z + x * y * u + x * z * u + y * z * u)) + (t - 1) * ((7 + 3 * (x + y + z + u) + (x * y + x * z + x * u + y * z + y * u + z * u)) + (t - 2) * ((6 + (x + y + z + u)) + (t - 3) * 1))) := by grind
end Mine
end

noncomputable section
open PySem PySem.W PySem.Calls PyProof.Rows
namespace Mine
set_option maxRecDepth 100000
theorem dummy : PySem.Challenge.rw_sc0094_02 = PySem.Challenge.rw_sc0094_02 ∧ hdK.heap_1 = hdK.heap_1 := by
  k_fill
  exact ⟨rfl, rfl⟩
variable {w : World} {prog : Program}
-- an opaque tail of a ledger
local macro_rules | `(tactic| k_all) => `(tactic| first | with_reducible assumption | exact Low.ne (by with_reducible assumption) (by omega))
-- walk to the next test; walk on to a call; walk to a loop
-- one ledger for another
-- a member of a ledger that is put together
local macro_rules | `(tactic| k_mem) => `(tactic| first | (with_reducible refine List.mem_append_left _ ?_; k_mem) | (with_reducible refine List.mem_append_right _ ?_; k_mem))
noncomputable section
example : True := by -- walkOff_D1
  w_top off
  exact True.intro
noncomputable abbrev pairO (x y : Value) : Obj := { cls := .type "tuple", data := .seq #[x, y] }

set_option maxHeartbeats 2000000 in
theorem div2n1n {a b n : Int} {ta tb tn : Tok} (hb : 0 < b) (hbits : (Builtin.Int.intBits a : Int) - n ≤ 4000) (hpy : Builtin.divisionGoesByPylong a b = false) :
    Meets prog w (hdK.heap_1 w.params) (.call (.ref 62) ⟨[.int a ta, .int b tb, .int n tn], []⟩) [] 1 10 (fun n₀ v l => ∃ r t1 t2, n₀ ≤ r ∧ v = .ref r ∧ l = [(r, pairO (.int (a.fdiv b) t1) (.int (a.fmod b) t2))]) := by
  refine meets_def (by k_is) (by k_is) (fun s => BindsTo.of_eq rfl) (locs rfl) (by decide) (fun A s g p loose mean mg mb n₀ L h₁ tk k hh hdep hu X T hn hfp F N hk => ?_)
  try dsimp only
  repeat' (first | walk1 | (dsimp only; walk1))
  refine divmod_N F N (by omega) (fun h' F' N' => ?_) (.inl hpy)
  exact hk _ _ _ _ _ ⟨_, _, _, Nat.le_trans hn (Nat.le_of_lt F.ns.lt), rfl, rfl⟩ F' N'
end

noncomputable section
example : True := by -- walkOff_D2inner
  w_top off
  exact True.intro
noncomputable def o59 (P : Params) : { o : Obj // (hdK.heap_1 P).lookup 76 = some o } := ⟨_, by k_is⟩
noncomputable def in59 (P : Params) : { x : Arguments × List Stmt × Scope // defAt (o59 P).1 1 = some x } := ⟨_, rfl⟩

noncomputable abbrev i2dFn (P : Params) (qual : Str) (doc pm : Value) (c' : Addr) (ctv : Value) (cN cI cA : Addr) : Obj :=
  fnMade (Str.ofString "inner") qual (in59 P).1.1 (in59 P).1.2.1 (in59 P).1.2.2 [(Str.ofString "n", cN), (Str.ofString "inner", cI), (Str.ofString "a_digits", cA)] doc pm c' ctv
theorem Meets.call0 {K : Frag} {f : Value} {args : List Value} {news : List (Addr × Obj)} {d u : Nat} {P : Nat → Value → List (Addr × Obj) → Prop}
    {A : Around} {s : Shared} {E : Value → Shared → Prop} {Q : Value → Shared → Prop} {h₀ : Heap} {L : Addr} {m : Str → Option Value} {p : Program} {loose : List Str} {mean : ExcName → Option Value} {mg mb : Str → Option Value}
    (S : Meets prog w K (.call f ⟨args, []⟩) news d u P) (F : Fr h₀ L s.heap m) (N : News h₀ L s.heap news) (X : K.In h₀) (T : Top p loose mean mg mb h₀) (hh : A.handled = none) (hd : A.depth + d < recursionLimit) (hu : A.units + u < cLine)
    (h : ∀ (n₀ : Nat) v l h' tk, P n₀ v l → Fr h₀ L h' m → News h₀ L h' l → @LT.lt Nat _ L n₀ → AllLt n₀ news → Q v { s with heap := h', toks := tk }) :
    wpAny (model prog w) A (PySem.call f args) Q E s :=
  Meets.call [] S F N X T (fun _ h => h) (fun _ h => absurd h List.not_mem_nil) (fun _ h => absurd h List.not_mem_nil) hh hd hu fun n₀ v l h' tk hp F' N' o1 o2 _ _ => h n₀ v l h' tk hp F' (by rw [List.append_nil] at N'; exact N') o1 o2
inductive I2dPost (b : Nat) (x : Int) (L k : Nat) (ns : List Int) (l : Nat) (pre tl : List (Addr × Obj)) : Value → List (Addr × Obj) → Prop
  | mk (vs' : List Value) (nn' : Nat) (ns' : List Int) (hput : Put b x L k ns ns') (hI : IntsAre vs' ns') : I2dPost b x L k ns l pre tl .none (pre ++ ((l, listOf vs'.toArray nn') :: tl))
set_option maxHeartbeats 8000000 in
theorem i2d_inner {qual : Str} {doc pm ctv : Value} {f c' cN cI cA l : Nat} {oc oN oI oA : Obj} {cvs : Array Value} {tq tn : Tok} {b : Nat} {tl : List (Addr × Obj)}
    (hmem : (c', oc) ∈ tl) (hcd : oc.data = .fields cvs) (hcv : cvs[1]? = some (.str qual tq)) (dN : oN.data = .cell (some (.int (b : Int) tn))) (dI : oI.data = .cell (some (.ref f))) (dA : oA.data = .cell (some (.ref l)))
    (hb : 1 ≤ b) (hb2 : b ≤ 1000) (hC : ∀ g, (hdK.heap_1 w.params).In g → CodeHd g 75 71) (n1 : l < f) (n3 : cN < l) (n4 : cI < l) (n5 : cA < l) (hoff : ∀ p ∈ tl, p.1 ≠ l) :
    ∀ (k : Nat) (L R : Nat) (x : Int) (tx tL tR : Tok) (ns : List Int) (vs : List Value) (nn : Nat), R = L + k → 0 < k → k ≤ 100 → R ≤ ns.length → ns.length ≤ 1000 → 0 ≤ x → x < 2 ^ (b * k) → IntsAre vs ns →
    Meets prog w (hdK.heap_1 w.params) (.call (.ref f) ⟨[.int x tx, .int (L : Int) tL, .int (R : Int) tR], []⟩)
      ((f, i2dFn w.params qual doc pm c' ctv cN cI cA) :: (cN, oN) :: (cI, oI) :: (cA, oA) :: (l, listOf vs.toArray nn) :: tl) (k + 1) (20 * k + 20)
      (fun n₀ v l' => I2dPost b x L k ns l [(f, i2dFn w.params qual doc pm c' ctv cN cI cA), (cN, oN), (cI, oI), (cA, oA)] tl v l') := by
  intro k
  induction k using Nat.strongRecOn with
  | ind k ih =>
  intro L R x tx tL tR ns vs nn hR hk0 hk1 hRl hRb hx0 hx1 hI
  refine meets_nest (List.Mem.head _) (List.mem_cons_of_mem _ (List.mem_cons_of_mem _ (List.mem_cons_of_mem _ (List.mem_cons_of_mem _ (List.mem_cons_of_mem _ hmem))))) hcd hcv (fun s => BindsTo.of_eq rfl) (locs rfl) (by dsimp only [in59]; decide) (fun A s g p loose mean mg mb n₀ Lf h₁ tk kk hh hdep hu X T hn hfp F N hk => ?_) (by omega)
  have hlen := hI.length
  clear hfp
  refine gen_K fun KK hKK => ?_
  dsimp only [in59]
  have C : CodeHd g 75 71 := hC g X
  have hcLine : cLine = 9900 := rfl
  have hrec : recursionLimit = 1000 := rfl
  (repeat' (first | walk1 | (dsimp only; walk1)))
  · with_reducible rename Fr _ _ _ _ => F2
    with_reducible rename News _ _ _ _ => N2
    with_reducible rename IntsAre _ _ => hi2
    rw [Int.toNat_natCast] at N2 hi2
    have hk1' : k = 1 := by omega
    subst hk1'
    exact hKK _ _ (hk _ _ _ _ _ (.mk _ _ _ (put_one (by omega) hx0 hx1) hi2) F2 N2)
  · with_reducible rename Fr _ _ _ _ => F2
    with_reducible rename News _ _ _ _ => N2
    subst hR
    rw [half_sum] at F2 ⊢
    have hsh : ((((L + k / 2 : Nat) : Int)) - (L : Int)) * (b : Int) = ((b * (k / 2) : Nat) : Int) := by
      rw [show (((L + k / 2 : Nat) : Int)) - (L : Int) = ((k / 2 : Nat) : Int) by omega, Int.natCast_mul, Int.mul_comm]
    rw [hsh] at F2 ⊢
    refine rshift_int (by omega) ?_
    rw [Int.toNat_natCast]
    (repeat' (first | walk1 | (dsimp only; walk1)))
    have hk2 : 2 ≤ k := by omega
    have hm1 : 1 ≤ k / 2 := ar_half_pos hk2
    have hpow : (0 : Int) < 2 ^ (b * (k / 2)) := Int.pow_pos (by decide)
    have hup0 : 0 ≤ x / 2 ^ (b * (k / 2)) := Int.ediv_nonneg hx0 (Int.le_of_lt hpow)
    have hup1 := high_lt (m := k / 2) (Nat.div_le_self ..) hx1
    have hf : x.fdiv (2 ^ (b * (k / 2))) = x / 2 ^ (b * (k / 2)) := Int.fdiv_eq_ediv_of_nonneg _ (Int.le_of_lt hpow)
    have hbk : b * (k - k / 2) ≤ 100000 := Nat.le_trans (Nat.mul_le_mul hb2 (Nat.le_trans (Nat.sub_le ..) hk1)) (by decide)
    have hbk2 : b * (k / 2) ≤ 100000 := Nat.le_trans (Nat.mul_le_mul hb2 (Nat.le_trans (Nat.div_le_self ..) hk1)) (by decide)
    refine lshift_int (by omega) ?_ ?_
    · have := bits_le_pow hup0 hup1
      rw [hf]
      omega
    rw [Int.toNat_natCast]
    refine xor_int ?_
    rw [xor_low hx0]
    (repeat' (first | walk1 | (dsimp only; walk1)))
    try clear F2 N2
    with_reducible rename Fr _ _ _ _ => F2
    with_reducible rename News _ _ _ _ => N2
    refine Meets.call0 (ih (k / 2) (ar_half hk2) L (L + k / 2) _ _ _ _ ns vs nn rfl hm1 (Nat.le_trans (Nat.div_le_self ..) hk1) (Nat.le_trans (Nat.add_le_add_left (Nat.div_le_self ..) L) hRl) hRb (Int.emod_nonneg _ (Int.ne_of_gt hpow)) (Int.emod_lt_of_pos _ hpow) hI) F2 N2 X T hh (ar_dep hdep (ar_half hk2)) (ar_uni hu (ar_half hk2)) ?_
    intro n₁ v l₁ h₂ tk₂ hp F3 N3 _ _
    obtain ⟨vs1, nn1, ns1, hput1, hi1⟩ := hp
    dsimp only [List.cons_append, List.nil_append] at N3
    clear F2 N2
    (repeat' (first | walk1 | (dsimp only; walk1)))
    rw [hf]
    refine Meets.call0 (ih (k - k / 2) (ar_sub_half hk2) (L + k / 2) (L + k) _ _ _ _ ns1 vs1 nn1 (ar_half_add L k).symm (ar_sub_half_pos hk2) (Nat.le_trans (Nat.sub_le ..) hk1) (by rw [hput1.1]; exact hRl) (by rw [hput1.1]; exact hRb) hup0 hup1 hi1) F3 N3 X T hh (ar_dep hdep (ar_sub_half hk2)) (ar_uni hu (ar_sub_half hk2)) ?_
    intro n₁ v l₁ h₂ tk₂ hp F4 N4 _ _
    obtain ⟨vs2, nn2, ns2, hput2, hi2⟩ := hp
    dsimp only [List.cons_append, List.nil_append] at N4
    clear F3 N3
    (repeat' (first | walk1 | (dsimp only; walk1)))
    exact hKK _ _ (hk _ _ _ _ _ (.mk _ _ _ (put_two (Nat.div_le_self ..) hput1 hput2) hi2) F4 N4)
end

noncomputable section
example : True := by -- walkOff_D3
  w_top off
  exact True.intro
noncomputable def TabsOk (tl : List (Addr × Obj)) : Prop := ∃ t1 t2, tl = t1 ++ t2 ∧ TabOk 71 42 4 (Str.ofString "_int2digits.<locals>.inner") t1 ∧ TabOk 78 57 4 (Str.ofString "_digits2int.<locals>.inner") t2 ∧ (tl.map (·.1)).Nodup
section
variable {M : Model} {A : Around} {E : Value → Shared → Prop} {s : Shared} {h₀ : Heap} {L a c : Nat} {m mg mb : Str → Option Value} {cn : Str} {cs : Scope} {cl : List (Str × Addr)} {own tl : List (Addr × Obj)}
    {p : Program} {loose : List Str} {mean : ExcName → Option Value} {name : Str} {params : Arguments} {body : List Stmt} {scope : Scope} {pos : Pos} {firstLine : Nat} {clos : List (Str × Addr)} {Q : Value → Shared → Prop}
theorem make1 (F : Fr h₀ L s.heap m) (N : News h₀ L s.heap (own ++ tl)) (T : Top p loose mean mg mb h₀) (C : CodeHd h₀ c 71) (ht : TabsOk tl) (hown : ∀ q ∈ own, ∀ p ∈ tl, p.1 ≠ q.1)
    (hcl : closureFor scope (envX cn cs L a (.ref c) cl) = pure clos) (hl : pos.line = 42) (hc : pos.col = 4)
    (h : ∀ (f c' : Nat) tl' oc vs tq ctv doc h' tk, TabsOk tl' → (c', oc) ∈ tl' → oc.data = .fields vs → vs[1]? = some (.str (Str.ofString "_int2digits.<locals>.inner") tq) → Fr h₀ L h' m →
      News h₀ L h' ((f, fnMade name (Str.ofString "_int2digits.<locals>.inner") params body scope clos doc ((mg "__name__").getD .none) c' ctv) :: (own ++ tl')) →
      (∀ q ∈ own, ∀ p ∈ tl', p.1 ≠ q.1) → AllLt f own → Low f tl' → @LT.lt Nat _ L f → Q (.ref f) { s with heap := h', toks := tk }) :
    wpAny M A (makeFunction name (Str.ofString "_int2digits.<locals>.inner") params (.stmts body) scope (envX cn cs L a (.ref c) cl) [] [] [] pos firstLine) Q E s := by
  obtain ⟨t1, t2, rfl, h1, h2, hnd⟩ := ht
  refine makeTab (pre := []) (t := t1) (post := t2) F N T C rfl (by rw [hl, hc]; exact h1) hown hnd hcl fun f c' t' ctv doc h' tk hM F' N' nd' hap hlt hlo hLf => ?_
  rw [hl, hc] at hM
  obtain ⟨oc, vs, tq, hm, hd, hv⟩ := hM.rec'
  exact h f c' (t' ++ t2) oc vs tq ctv doc h' tk ⟨t', t2, rfl, hM.ok, h2, nd'⟩ (List.mem_append_left _ hm) hd hv F' N' hap hlt hlo hLf
theorem make2 (F : Fr h₀ L s.heap m) (N : News h₀ L s.heap (own ++ tl)) (T : Top p loose mean mg mb h₀) (C : CodeHd h₀ c 78) (ht : TabsOk tl) (hown : ∀ q ∈ own, ∀ p ∈ tl, p.1 ≠ q.1)
    (hcl : closureFor scope (envX cn cs L a (.ref c) cl) = pure clos) (hl : pos.line = 57) (hc : pos.col = 4)
    (h : ∀ (f c' : Nat) tl' oc vs tq ctv doc h' tk, TabsOk tl' → (c', oc) ∈ tl' → oc.data = .fields vs → vs[1]? = some (.str (Str.ofString "_digits2int.<locals>.inner") tq) → Fr h₀ L h' m →
      News h₀ L h' ((f, fnMade name (Str.ofString "_digits2int.<locals>.inner") params body scope clos doc ((mg "__name__").getD .none) c' ctv) :: (own ++ tl')) →
      (∀ q ∈ own, ∀ p ∈ tl', p.1 ≠ q.1) → AllLt f own → Low f tl' → @LT.lt Nat _ L f → Q (.ref f) { s with heap := h', toks := tk }) :
    wpAny M A (makeFunction name (Str.ofString "_digits2int.<locals>.inner") params (.stmts body) scope (envX cn cs L a (.ref c) cl) [] [] [] pos firstLine) Q E s := by
  obtain ⟨t1, t2, rfl, h1, h2, hnd⟩ := ht
  refine makeTab (pre := t1) (t := t2) (post := []) F (by simpa using N) T C rfl (by rw [hl, hc]; exact h2) (by simpa using hown) (by simpa using hnd) hcl fun f c' t' ctv doc h' tk hM F' N' nd' hap hlt hlo hLf => ?_
  rw [hl, hc] at hM
  obtain ⟨oc, vs, tq, hm, hd, hv⟩ := hM.rec'
  exact h f c' (t1 ++ t') oc vs tq ctv doc h' tk ⟨t1, t', rfl, h1, hM.ok, by simpa using nd'⟩ (List.mem_append_right _ hm) hd hv F' (by simpa using N') (by simpa using hap) hlt (by simpa using hlo) hLf
end
noncomputable def digs (b c : Nat) (x : Int) : List Int := (List.range c).map (dig b x)
theorem put_all {b c : Nat} {x : Int} {ns ns' : List Int} (hl : ns.length = c) (h : Put b x 0 c ns ns') : ns' = digs b c x := by
  apply List.ext_getElem?
  intro i
  rw [h.2 i]
  by_cases q : i < c
  · rw [if_pos (by omega)]
    simp [digs, q]
  · rw [if_neg (by omega)]
    simp [digs, q, hl]
inductive DigsPost (ns : List Int) (n₀ : Nat) : Value → List (Addr × Obj) → Prop
  | mk (D : Nat) (vs : List Value) (nn : Nat) (tl' : List (Addr × Obj)) (hI : IntsAre vs ns) (hn : n₀ < D) (ht : TabsOk tl') (hoff : ∀ p ∈ tl', p.1 ≠ D) : DigsPost ns n₀ (.ref D) ((D, listOf vs.toArray nn) :: tl')
set_option maxHeartbeats 8000000 in
theorem int2digits {a : Int} {ta tn : Tok} {b c : Nat} {tl : List (Addr × Obj)} (hb1 : 1 ≤ b) (hb2 : b ≤ 1000) (ha : 0 ≤ a) (hc : ((Builtin.Int.intBits a : Int) + (b : Int) - 1).fdiv (b : Int) = (c : Int)) (hc2 : c ≤ 100) (hlt0 : a < 2 ^ (b * c)) (ht : TabsOk tl) (hC : ∀ g, (hdK.heap_1 w.params).In g → CodeHd g 75 71) :
    Meets prog w (hdK.heap_1 w.params) (.call (.ref 76) ⟨[.int a ta, .int (b : Int) tn], []⟩) tl 110 2100 (fun n₀ v l => DigsPost (digs b c a) n₀ v l) := by
  refine meets_defC (by k_is) (by k_is) (fun s => BindsTo.of_eq rfl) rfl (by decide +kernel) (fun A s g p loose mean mg mb n₀ L h₁ tk cells k hh hdep hu X T hn hfp hfp2 F N Y hk => ?_)
  try dsimp only
  refine gen_K fun KK hKK => ?_
  k_cells Y
  have C := hC g X
  try simp only [List.cons_append, List.nil_append] at N
  have hlow : Low n₀ tl := hfp
  clear hfp hfp2
  have hcLine : cLine = 9900 := rfl
  have hrec : recursionLimit = 1000 := rfl
  (repeat' (first | walk1 | (dsimp only; walk1)))
  with_reducible rename Fr _ _ _ _ => F2
  with_reducible rename News _ _ _ _ => N2
  rename_i D _ i1 n1 s1 e1 _ e3 _ _ oA dA
  refine nestDef_K rfl rfl rfl ?_
  refine make1 (own := [_, _, _, _, _]) F2 N2 T C ht (by (repeat' (first | exact List.forall_mem_nil _ | exact (fun _ _ _ h => absurd h List.not_mem_nil) | k_all | (refine List.forall_mem_cons.mpr ⟨?_, ?_⟩)))) rfl rfl rfl (fun f c' tl' oc vs tq ctv doc h' tk ht' hm hcd hcv F4 N4 hap hlt hlo hLf => ?_)
  simp only [List.cons_append, List.nil_append] at N4
  simp only [List.forall_mem_cons, List.forall_mem_nil, and_true] at hap
  obtain ⟨ha1, ha2, ha3, ha4, ha5⟩ := hap
  simp only [AllLt, and_true] at hlt
  clear ht hlow F2 N2
  have ec := e3 (by omega)
  rw [hc] at ec i1 s1 e1 N4
  clear e3
  (repeat' (first | walk1 | (dsimp only; walk1)))
  · with_reducible rename Fr _ _ _ _ => F2
    with_reducible rename News _ _ _ _ => N2
    have en : (List.replicate ((c : Int)).toNat [(0 : Int)]).flatten.length = c := by simp
    have hcpos : 0 < c := by
      rcases Nat.eq_zero_or_pos c with h0 | h0
      · subst h0
        rw [Nat.mul_zero] at hlt0
        have : a < 1 := hlt0
        omega
      · exact h0
    have hn1c := en.symm.trans e1
    subst hn1c
    have S := fun tx tL tR => i2d_inner (w := w) (prog := prog) (qual := Str.ofString "_int2digits.<locals>.inner") (doc := doc) (pm := (mg "__name__").getD .none) (ctv := ctv) (f := f) (l := D) (oA := oA) (cA := L + 1 + 1) (cI := L + 1 + 1 + 1) (cN := L + 1) hm hcd hcv (by assumption) (by assumption) (by assumption) hb1 hb2 hC (by omega) (by omega) (by omega) (by omega) (by assumption) c 0 c a tx tL tR _ _ 0 (by omega) hcpos hc2 (by omega) (by omega) ha hlt0 i1
    refine Meets.call [] (S _ _ _) F2 N2 X T (by (repeat' (first | exact List.forall_mem_nil _ | (refine List.forall_mem_cons.mpr ⟨?_, ?_⟩) | k_mem | (intro pS hS; repeat (first | exact hS | refine List.mem_cons_of_mem _ ?_ | refine List.mem_append_right _ ?_))))) (by (repeat' (first | exact List.forall_mem_nil _ | (refine List.forall_mem_cons.mpr ⟨?_, ?_⟩) | k_mem | (intro pS hS; repeat (first | exact hS | refine List.mem_cons_of_mem _ ?_ | refine List.mem_append_right _ ?_))))) (by (repeat' (first | exact List.forall_mem_nil _ | exact (fun _ _ _ h => absurd h List.not_mem_nil) | k_all | (refine List.forall_mem_cons.mpr ⟨?_, ?_⟩)))) hh (by first | exact ar_lim hdep (by decide) | exact ar_limD hdep (by decide) | omega) (by first | exact ar_lim hu (by decide) | exact ar_limU hu (by decide) | omega) ?_
    clear S
    intro n₁ v l₁ h₂ tk₂ hp F3 N3 _ _ _ _
    rw [List.append_nil] at N3
    obtain ⟨vs1, nn1, ns1, hput1, hi1⟩ := hp
    dsimp only [List.cons_append, List.nil_append] at N3
    clear F2 N2
    (repeat' (first | walk1 | (dsimp only; walk1)))
    have e5 := put_all en hput1
    subst e5
    exact hKK _ _ (hk _ _ _ _ _ (.mk _ _ _ _ hi1 (by omega) ht' (by with_reducible assumption)) F3 (fun p hp => N3 p (by
      rcases List.mem_cons.mp hp with rfl | hp
      · k_mem
      · exact List.mem_cons_of_mem _ (List.mem_cons_of_mem _ (List.mem_cons_of_mem _ (List.mem_cons_of_mem _ (List.mem_cons_of_mem _ hp)))))))
  · with_reducible rename Fr _ _ _ _ => F2
    with_reducible rename News _ _ _ _ => N2
    have h0 : a = 0 := by assumption
    subst h0
    have hc0 : c = 0 := by
      have : ((Builtin.Int.intBits 0 : Int) + (b : Int) - 1).fdiv (b : Int) = 0 := by
        show ((0 : Int) + (b : Int) - 1).fdiv (b : Int) = 0
        rw [Int.fdiv_eq_ediv_of_nonneg _ (by omega)]
        exact Int.ediv_eq_zero_of_lt (by omega) (by omega)
      omega
    subst hc0
    exact hKK _ _ (hk _ _ _ _ _ (.mk _ _ _ _ i1 (by omega) ht' (by with_reducible assumption)) F2 (fun p hp => N2 p (by
      rcases List.mem_cons.mp hp with rfl | hp
      · k_mem
      · exact List.mem_cons_of_mem _ (List.mem_cons_of_mem _ (List.mem_cons_of_mem _ (List.mem_cons_of_mem _ (List.mem_cons_of_mem _ (List.mem_cons_of_mem _ hp))))))))
end

noncomputable section
example : True := by -- walkOff_D4
  w_top off
  exact True.intro
noncomputable def o66 (P : Params) : { o : Obj // (hdK.heap_1 P).lookup 83 = some o } := ⟨_, by k_is⟩
noncomputable def in66 (P : Params) : { x : Arguments × List Stmt × Scope // defAt (o66 P).1 0 = some x } := ⟨_, rfl⟩

noncomputable abbrev d2iFn (P : Params) (qual : Str) (doc pm : Value) (c' : Addr) (ctv : Value) (cN cI cD : Addr) : Obj :=
  fnMade (Str.ofString "inner") qual (in66 P).1.1 (in66 P).1.2.1 (in66 P).1.2.2 [(Str.ofString "n", cN), (Str.ofString "inner", cI), (Str.ofString "digits", cD)] doc pm c' ctv
set_option maxHeartbeats 8000000 in
theorem d2i_inner {qual : Str} {doc pm ctv : Value} {f c' cN cI cD l : Nat} {oc oN oI oD : Obj} {cvs : Array Value} {tq tn : Tok} {b : Nat} {tl : List (Addr × Obj)} {ns : List Int} {vs : List Value} {nn : Nat}
    (hmem : (c', oc) ∈ tl) (hcd : oc.data = .fields cvs) (hcv : cvs[1]? = some (.str qual tq)) (dN : oN.data = .cell (some (.int (b : Int) tn))) (dI : oI.data = .cell (some (.ref f))) (dD : oD.data = .cell (some (.ref l)))
    (hb : 1 ≤ b) (hb2 : b ≤ 1000) (hC : ∀ g, (hdK.heap_1 w.params).In g → CodeHd g 82 78) (hRb : ns.length ≤ 100) (hI : IntsAre vs ns) (hds : ∀ d ∈ ns, 0 ≤ d ∧ d < 2 ^ b) :
    ∀ (k : Nat) (L R : Nat) (tL tR : Tok), R = L + k → 0 < k → R ≤ ns.length →
    Meets prog w (hdK.heap_1 w.params) (.call (.ref f) ⟨[.int (L : Int) tL, .int (R : Int) tR], []⟩)
      ((f, d2iFn w.params qual doc pm c' ctv cN cI cD) :: (cN, oN) :: (cI, oI) :: (cD, oD) :: (l, listOf vs.toArray nn) :: tl) (k + 1) (20 * k + 20)
      (fun n₀ v l' => ∃ t, v = .int (val b (part L k ns)) t ∧ l' = (f, d2iFn w.params qual doc pm c' ctv cN cI cD) :: (cN, oN) :: (cI, oI) :: (cD, oD) :: (l, listOf vs.toArray nn) :: tl) := by
  intro k
  induction k using Nat.strongRecOn with
  | ind k ih =>
  intro L R tL tR hR hk0 hRl
  refine meets_nest (List.Mem.head _) (List.mem_cons_of_mem _ (List.mem_cons_of_mem _ (List.mem_cons_of_mem _ (List.mem_cons_of_mem _ (List.mem_cons_of_mem _ hmem))))) hcd hcv (fun s => BindsTo.of_eq rfl) (locs rfl) (by dsimp only [in66]; decide) (fun A s g p loose mean mg mb n₀ Lf h₁ tk kk hh hdep hu X T hn hfp F N hk => ?_) (by omega)
  have hlen := hI.length
  clear hfp
  refine gen_K fun KK hKK => ?_
  dsimp only [in66]
  have C : CodeHd g 82 78 := hC g X
  have hcLine : cLine = 9900 := rfl
  have hrec : recursionLimit = 1000 := rfl
  (repeat' (first | walk1 | (dsimp only; walk1)))
  · with_reducible rename Fr _ _ _ _ => F2
    with_reducible rename News _ _ _ _ => N2
    rw [Int.toNat_natCast]
    have hk1' : k = 1 := by omega
    subst hk1'
    rw [← part_one (by rw [hR] at hRl; exact hRl) b]
    exact hKK _ _ (hk _ _ _ _ _ ⟨_, rfl, rfl⟩ F2 N2)
  · with_reducible rename Fr _ _ _ _ => F2
    with_reducible rename News _ _ _ _ => N2
    subst hR
    rw [half_sum] at F2 ⊢
    have hsh : ((((L + k / 2 : Nat) : Int)) - (L : Int)) * (b : Int) = ((b * (k / 2) : Nat) : Int) := by
      rw [show (((L + k / 2 : Nat) : Int)) - (L : Int) = ((k / 2 : Nat) : Int) by omega, Int.natCast_mul, Int.mul_comm]
    rw [hsh] at F2
    have hk2 : 2 ≤ k := by omega
    have hk100 : k ≤ 100 := Nat.le_trans (Nat.le_add_left ..) (Nat.le_trans hRl hRb)
    have hbk : b * (k - k / 2) ≤ 100000 := Nat.le_trans (Nat.mul_le_mul hb2 (Nat.le_trans (Nat.sub_le ..) hk100)) (by decide)
    have hbk2 : b * (k / 2) ≤ 100000 := Nat.le_trans (Nat.mul_le_mul hb2 (Nat.le_trans (Nat.div_le_self ..) hk100)) (by decide)
    have S := fun tL tR => ih (k - k / 2) (ar_sub_half hk2) (L + k / 2) (L + k) tL tR (ar_half_add L k).symm (ar_sub_half_pos hk2) hRl
    refine Meets.call0 (S _ _) F2 N2 X T hh (ar_dep hdep (ar_sub_half hk2)) (ar_uni hu (ar_sub_half hk2)) ?_
    clear S
    intro n₁ v l₁ h₂ tk₂ hp F3 N3 _ _
    obtain ⟨t3, rfl, rfl⟩ := hp
    clear F2 N2
    (repeat' (first | walk1 | (dsimp only; walk1)))
    have hv := val_bound (b := b) (xs := part (L + k / 2) (k - k / 2) ns) (part_mem hds)
    rw [part_len (by rw [ar_half_add]; exact hRl)] at hv
    refine lshift_int (by omega) ?_ ?_
    · have := bits_le_pow hv.1 hv.2
      omega
    rw [Int.toNat_natCast]
    (repeat' (first | walk1 | (dsimp only; walk1)))
    have S := fun tL tR => ih (k / 2) (ar_half hk2) L (L + k / 2) tL tR rfl (ar_half_pos hk2) (Nat.le_trans (Nat.add_le_add_left (Nat.div_le_self ..) L) hRl)
    refine Meets.call0 (S _ _) F3 N3 X T hh (ar_dep hdep (ar_half hk2)) (ar_uni hu (ar_half hk2)) ?_
    clear S
    intro n₁ v l₁ h₂ tk₂ hp F4 N4 _ _
    obtain ⟨t4, rfl, rfl⟩ := hp
    clear F3 N3
    (repeat' (first | walk1 | (dsimp only; walk1)))
    rw [← part_two (Nat.div_le_self ..) hRl b]
    exact hKK _ _ (hk _ _ _ _ _ ⟨_, rfl, rfl⟩ F4 N4)
set_option maxHeartbeats 8000000 in
theorem digits2int {tn : Tok} {b l : Nat} {ns : List Int} {vs : List Value} {nn : Nat} {tl : List (Addr × Obj)} (hb1 : 1 ≤ b) (hb2 : b ≤ 1000) (hRb : ns.length ≤ 100) (hI : IntsAre vs ns) (hds : ∀ d ∈ ns, 0 ≤ d ∧ d < 2 ^ b) (ht : TabsOk tl) (hoff : ∀ p ∈ tl, p.1 ≠ l) (hC : ∀ g, (hdK.heap_1 w.params).In g → CodeHd g 82 78) :
    Meets prog w (hdK.heap_1 w.params) (.call (.ref 83) ⟨[.ref l, .int (b : Int) tn], []⟩) ((l, listOf vs.toArray nn) :: tl) 110 2100 (fun n₀ v l' => ∃ t tl', v = .int (val b ns) t ∧ TabsOk tl' ∧ l' = (l, listOf vs.toArray nn) :: tl') := by
  refine meets_defC (by k_is) (by k_is) (fun s => BindsTo.of_eq rfl) rfl (by decide +kernel) (fun A s g p loose mean mg mb n₀ L h₁ tk cells k hh hdep hu X T hn hfp hfp2 F N Y hk => ?_)
  try dsimp only
  k_cells Y
  have C := hC g X
  try simp only [List.cons_append, List.nil_append] at N
  have hlow : Low n₀ tl := fun p hp => hfp p (.tail _ hp)
  have hl0 : l < n₀ := hfp _ (.head _)
  clear hfp hfp2
  have hcLine : cLine = 9900 := rfl
  have hrec : recursionLimit = 1000 := rfl
  have hlen := hI.length
  (repeat' (first | walk1 | (dsimp only; walk1)))
  with_reducible rename Fr _ _ _ _ => F2
  with_reducible rename News _ _ _ _ => N2
  rename_i o1 o2 o3 d1 d2 d3
  refine nestDef_K rfl rfl rfl ?_
  refine make2 (own := [_, _, _, _]) F2 N2 T C ht (by (repeat' (first | exact List.forall_mem_nil _ | exact (fun _ _ _ h => absurd h List.not_mem_nil) | k_all | (refine List.forall_mem_cons.mpr ⟨?_, ?_⟩)))) rfl rfl rfl (fun f c' tl' oc cvs tq ctv doc h' tk ht' hm hcd hcv F4 N4 hap hlt hlo hLf => ?_)
  simp only [List.cons_append, List.nil_append] at N4
  simp only [List.forall_mem_cons] at hap
  obtain ⟨ha1, ha2, ha3, ha4, _⟩ := hap
  simp only [AllLt, and_true] at hlt
  clear ht hlow F2 N2
  (repeat' (first | walk1 | (dsimp only; walk1)))
  · with_reducible rename Fr _ _ _ _ => F2
    with_reducible rename News _ _ _ _ => N2
    have S := fun tL tR => d2i_inner (w := w) (prog := prog) (qual := Str.ofString "_digits2int.<locals>.inner") (doc := doc) (pm := (mg "__name__").getD .none) (ctv := ctv) (f := f) (l := l) (nn := nn) (oN := o2) (oD := o3) (cD := L + 1) (cI := L + 1 + 1 + 1) (cN := L + 1 + 1) hm hcd hcv d2 (by assumption) d3 hb1 hb2 hC hRb hI hds ns.length 0 ns.length tL tR (by omega) (by assumption) (by omega)
    refine Meets.call [] (S _ _) F2 N2 X T (by (repeat' (first | exact List.forall_mem_nil _ | (refine List.forall_mem_cons.mpr ⟨?_, ?_⟩) | k_mem | (intro pS hS; repeat (first | exact hS | refine List.mem_cons_of_mem _ ?_ | refine List.mem_append_right _ ?_))))) (by (repeat' (first | exact List.forall_mem_nil _ | (refine List.forall_mem_cons.mpr ⟨?_, ?_⟩) | k_mem | (intro pS hS; repeat (first | exact hS | refine List.mem_cons_of_mem _ ?_ | refine List.mem_append_right _ ?_))))) (by (repeat' (first | exact List.forall_mem_nil _ | exact (fun _ _ _ h => absurd h List.not_mem_nil) | k_all | (refine List.forall_mem_cons.mpr ⟨?_, ?_⟩)))) hh (by first | exact ar_lim hdep (by decide) | exact ar_limD hdep (by decide) | omega) (by first | exact ar_lim hu (by decide) | exact ar_limU hu (by decide) | omega) ?_
    clear S
    intro n₁ v l₁ h₂ tk₂ hp F3 N3 o1 o2 o3 o4
    obtain ⟨t3, rfl, rfl⟩ := hp
    rw [part_all]
    exact hk _ _ _ _ _ ⟨_, _, rfl, ht', rfl⟩ F3 (fun p hp => N3 p (by
      rw [List.append_nil]
      exact List.mem_cons_of_mem _ (List.mem_cons_of_mem _ (List.mem_cons_of_mem _ (List.mem_cons_of_mem _ hp)))))
  · with_reducible rename Fr _ _ _ _ => F2
    with_reducible rename News _ _ _ _ => N2
    have e0 : ns = [] := List.length_eq_zero_iff.mp (by omega)
    subst e0
    exact hk _ _ _ _ _ ⟨_, _, rfl, ht', rfl⟩ F2 (fun p hp => N2 p (List.mem_cons_of_mem _ (List.mem_cons_of_mem _ (List.mem_cons_of_mem _ (List.mem_cons_of_mem _ hp)))))
end

noncomputable section
example : True := by -- walkOff_D5
  w_top off
  exact True.intro
theorem digs_at {b c j : Nat} {x : Int} (h : j < c) : (digs b c x).getD j 0 = dig b x j := by simp [digs, h]
theorem noPylong_of_bits {x y : Int} (h : Builtin.Int.intBits y ≤ 8000) : Builtin.divisionGoesByPylong x y = false := by
  apply PyProof.noPylong_of_log2
  unfold Builtin.Int.intBits at h
  split at h
  · rename_i q
    have : y = 0 := by simpa using q
    subst this; decide +kernel
  · omega
inductive DivJ (a b : Int) (B c : Nat) (l' : Nat) (tl' : List (Addr × Obj)) (i : Nat) (m : Str → Option Value) : List (Addr × Obj) → Prop
  | mk (r : Int) (tr t1 t2 : Tok) (vsq : List Value) (qs : List Int) (nq : Nat) (hsay : Says m [(Str.ofString "n", .int (B : Int) t1), (Str.ofString "b", .int b t2), (Str.ofString "r", .int r tr), (Str.ofString "q_digits", .ref l')]) (hIq : IntsAre vsq qs) (hql : qs.length = i) (hqd : ∀ d ∈ qs, 0 ≤ d ∧ d < 2 ^ B)
      (hr : r = a / 2 ^ (B * (c - i)) % b) (hv : val B qs.reverse = a / 2 ^ (B * (c - i)) / b) : DivJ a b B c l' tl' i m ((l', listOf vsq.toArray nq) :: tl')
inductive DivPost (q r : Int) (n₀ : Nat) : Value → List (Addr × Obj) → Prop
  | mk (D : Nat) (t1 t2 : Tok) (tl' : List (Addr × Obj)) (hn : n₀ ≤ D) (ht : TabsOk tl') : DivPost q r n₀ (.ref D) ((D, pairO (.int q t1) (.int r t2)) :: tl')
set_option maxHeartbeats 8000000 in
theorem divmod_pos {a b : Int} {ta tb : Tok} {tl : List (Addr × Obj)} (ha : 0 ≤ a) (hb1 : 0 < b) (hbits : Builtin.Int.intBits b ≤ 1000) (hc : figs a (Builtin.Int.intBits b) ≤ 100) (hC1 : ∀ g, (hdK.heap_1 w.params).In g → CodeHd g 75 71) (hC2 : ∀ g, (hdK.heap_1 w.params).In g → CodeHd g 82 78) (ht : TabsOk tl) :
    Meets prog w (hdK.heap_1 w.params) (.call (.ref 90) ⟨[.int a ta, .int b tb], []⟩) tl 120 2200 (fun n₀ v l' => DivPost (a / b) (a % b) n₀ v l') := by
  refine meets_def (by k_is) (by k_is) (fun s => BindsTo.of_eq rfl) (locs rfl) (by decide) (fun A s g p loose mean mg mb n₀ L h₁ tk k hh hdep hu X T hn hfp F N hk => ?_)
  try dsimp only
  have hlow : Low n₀ tl := hfp
  clear hfp
  have hcLine : cLine = 9900 := rfl
  have hrec : recursionLimit = 1000 := rfl
  have hB := bits_pos hb1
  refine gen_K fun K0 hK0 => ?_
  (repeat' (first | walk1 | (dsimp only; walk1)))
  with_reducible rename Fr _ _ _ _ => F2
  with_reducible rename News _ _ _ _ => N2
  have S := fun ta tn => int2digits (w := w) (prog := prog) (ta := ta) (tn := tn) hB hbits ha (figs_is hB) hc (figs_lt ha hB) ht hC1
  refine Meets.call0 (S _ _) F2 N2 X T hh (by first | exact ar_lim hdep (by decide) | exact ar_limD hdep (by decide) | omega) (by first | exact ar_lim hu (by decide) | exact ar_limU hu (by decide) | omega) ?_
  clear S
  intro n₁ v l₁ h₂ tk₂ hp F3 N3 o1 _
  obtain ⟨D, vs, nn, tl', hI, hnD, ht', o5⟩ := hp
  try clear F2 N2
  (repeat' (first | walk1 | (dsimp only; walk1)))
  with_reducible rename Fr _ _ _ _ => F2
  with_reducible rename News _ _ _ _ => N2
  with_reducible rename _ < _ ∧ _ < _ ∧ AllLt _ _ => hlt2
  with_reducible rename _ < _ ∧ AllLt _ _ => hlt1
  rename_i l' _ _ I' _
  generalize hBB : Builtin.Int.intBits b = B at *
  generalize hcc : figs a B = c at *
  have hlen : vs.length = c := by rw [hI.length]; simp [digs]
  have hR := (N2 _ (List.mem_cons_self ..)).1
  refine wpAny_pyIter_revIter (it := I') (l := D) (i := (vs.length : Int) - 1) (by exact ⟨_, hR, rfl, rfl⟩) ?_
  have hne : D ≠ I' := Nat.ne_of_lt hlt2.2.1
  have hsz : vs.toArray.size = c := by simp [hlen]
  have hlow' : Low l' tl' := lowAll hlt1.2
  have hlow2 : Low I' tl' := lowAll hlt2.2.2
  refine loopAt (news := (l', listOf #[] 0) :: tl') (Walks.listRev hh I' D hne vs.toArray) ?_ ?_ ?_ ?_ ?_ F2 (fun p hp => N2 p (by
      rcases List.mem_cons.mp hp with rfl | hp
      · exact .tail _ (.head _)
      · exact .tail _ (.tail _ (.tail _ hp)))) (DivJ a b B c l' tl') ?_ ?_ ?_
  · rintro i h ⟨_, ⟨o, ho, _⟩, ⟨o2, ho2, _⟩⟩ b hb
    rcases List.mem_cons.mp hb with rfl | hb
    · exact ⟨_, ho⟩
    · rw [List.mem_singleton.mp hb]; exact ⟨_, ho2⟩
  · intro hb
    rcases List.mem_cons.mp hb with e | hb
    · exact (N2 _ (List.mem_cons_self ..)).2.1 e.symm
    · exact (N2 _ (.tail _ (.tail _ (.head _)))).2.1 (List.mem_singleton.mp hb).symm
  · exact (N2 _ (List.mem_cons_self ..)).2.2
  · intro q hq hb
    rcases List.mem_cons.mp hq with rfl | hq
    · rcases List.mem_cons.mp hb with e | hb
      · exact Nat.ne_of_lt hlt2.1 e
      · exact Nat.ne_of_gt hlt1.1 (List.mem_singleton.mp hb)
    · rcases List.mem_cons.mp hb with e | hb
      · exact Nat.ne_of_lt (hlow2 q hq) e
      · exact o5 q hq (List.mem_singleton.mp hb)
  · refine ⟨Nat.zero_le _, ⟨_, hR, rfl, by (show Data.fields #[_, rawInt _] = _; simp)⟩, ⟨_, (N2 _ (.tail _ (.tail _ (.head _)))).1, rfl, _, rfl⟩⟩
  · refine ⟨0, _, _, _, [], [], 0, says_cons (by rfl) (says_cons (by rfl) (says_cons (by rfl) (says_cons (by rfl) says_nil))), .nil, rfl, (fun d hd => by cases hd), ?_, ?_⟩
    · have e0 : a / 2 ^ (B * (c - 0)) = 0 := Int.ediv_eq_zero_of_lt ha (by rw [Nat.sub_zero, ← hcc, ← hBB]; exact figs_lt ha (by omega))
      rw [e0]; rfl
    · have e0 : a / 2 ^ (B * (c - 0)) = 0 := Int.ediv_eq_zero_of_lt ha (by rw [Nat.sub_zero, ← hcc, ← hBB]; exact figs_lt ha (by omega))
      rw [e0]; exact (Int.zero_ediv b).symm
  · intro i v m₁ news₁ h tk own kn hin hP hJ F3 N3 hsep hkn
    obtain ⟨r, tr, t1, t2, vsq, qs, nq, hsay, hIq, hql, hqd, hr, hv⟩ := hJ
    have F4 : Fr g L h _ := Mine.Fr.saidIf F3 hsay
    rw [hsz] at hin hP
    obtain ⟨tv, rfl⟩ := ints_at hI (show vs[c - 1 - i]? = some v by simpa using hP)
    rw [digs_at (ar_top hin)] at F4
    clear F2 N2 F3
    refine gen_K fun KT hKT => ?_
    (repeat' (first | walk1 | (dsimp only; walk1)))
    have hr0 : 0 ≤ r := by rw [hr]; exact Int.emod_nonneg _ (Int.ne_of_gt hb1)
    have hrb : r < b := by rw [hr]; exact Int.emod_lt_of_pos _ hb1
    have hbB : b < 2 ^ B := by rw [← hBB]; exact lt_pow_bits (by omega)
    obtain ⟨hd0, hd1⟩ := dig_bound B a (c - 1 - i)
    have hstep := long_step (d := dig B a (c - 1 - i)) (B := B) hb1 hr.symm
    rw [← top_step hin, ← hv] at hstep
    obtain ⟨hq0, hq1⟩ := long_bound hb1 hr0 hrb hd0 hd1
    refine lshift_int (by omega) (by have := bits_le_pow hr0 (Int.lt_trans hrb hbB); omega) ?_
    rw [Int.toNat_natCast]
    generalize dig B a (c - 1 - i) = d at *
    have hbig : r * 2 ^ B + d < 2 ^ (B + B) := by
      rw [Int.pow_add]
      have h2 : (r + 1) * 2 ^ B ≤ 2 ^ B * 2 ^ B := Int.mul_le_mul_of_nonneg_right (by omega) (by omega)
      rw [Int.add_mul, Int.one_mul] at h2
      omega
    have hbit2 := bits_le_pow (x := r * 2 ^ B + d) (by have := Int.mul_nonneg hr0 (show (0 : Int) ≤ 2 ^ B by omega); omega) hbig
    (repeat' (first | walk1 | (dsimp only; walk1)))
    have S := fun ta tb tn => div2n1n (w := w) (prog := prog) (a := r * 2 ^ B + d) (b := b) (n := (B : Int)) (ta := ta) (tb := tb) (tn := tn) hb1 (by omega) (noPylong_of_bits (by omega))
    refine Meets.call ((l', listOf vsq.toArray nq) :: (tl' ++ own)) (S _ _ _) F4 N3 X T (by (repeat' (first | exact List.forall_mem_nil _ | (refine List.forall_mem_cons.mpr ⟨?_, ?_⟩) | k_mem | (intro pS hS; repeat (first | exact hS | refine List.mem_cons_of_mem _ ?_ | refine List.mem_append_right _ ?_))))) (by (repeat' (first | exact List.forall_mem_nil _ | (refine List.forall_mem_cons.mpr ⟨?_, ?_⟩) | k_mem | (intro pS hS; repeat (first | exact hS | refine List.mem_cons_of_mem _ ?_ | refine List.mem_append_right _ ?_))))) (by (repeat' (first | exact List.forall_mem_nil _ | exact (fun _ _ _ h => absurd h List.not_mem_nil) | k_all | (refine List.forall_mem_cons.mpr ⟨?_, ?_⟩)))) hh (by first | exact ar_lim hdep (by decide) | exact ar_limD hdep (by decide) | omega) (by first | exact ar_lim hu (by decide) | exact ar_limU hu (by decide) | omega) ?_
    clear S
    intro n₁ v l₁ h₂ tk₂ hp F5 N5 p1 p2 p3 p4
    obtain ⟨R, u1, u2, hRn, rfl, rfl⟩ := hp
    rw [Int.fdiv_eq_ediv_of_nonneg _ (by omega), Int.fmod_eq_emod_of_nonneg _ (by omega), ← hstep.2] at N5
    simp only [List.cons_append, List.nil_append, pairO] at N5
    have hl'n : @LT.lt Nat _ l' n₁ := p3.1
    have hap : ∀ q ∈ tl' ++ own, q.1 ≠ l' := fun q hq => (List.mem_append.mp hq).elim (fun hq => Nat.ne_of_gt (Nat.lt_of_le_of_lt (Nat.le_of_lt (hlow' q hq)) (Nat.lt_succ_self _)) |> fun _ => Nat.ne_of_lt (hlow' q hq)) (fun hq => hsep _ (.head _) q hq)
    have hneR : @Ne Nat l' R := by omega
    clear p1 p2 p3 p4 F4 N3
    repeat' (first | (k_here; (with_reducible show wpAny _ _ (assign (Expr.Tuple _ _ _) _ (Value.ref _)) _ _ _); k_dflt (refine' unpackN_ ?F ?N ?T ?k1 ?k2 ?k3 ?_; (case F => k_asm); (case N => k_asm); (case T => (refine News.isTup (by k_asm) (by k_mem))); (case k1 => assumption); (case k2 => exact rfl); (case k3 => exact rfl); k_whole); intro h' F' N'; (try k_sweep)) | walk1 | (dsimp only; walk1))
    with_reducible rename Fr _ _ _ _ => F6
    with_reducible rename News _ _ _ _ => N6
    refine hKT _ _ (hkn _ _ _ ((l', listOf (vsq ++ [Value.int ((r * 2 ^ B + d) / b) u1]).toArray (nq + 1)) :: tl') F6 (fun p hp => N6 p ?_) ?_ ⟨_, _, _, _, vsq ++ [Value.int ((r * 2 ^ B + d) / b) u1], qs ++ [(r * 2 ^ B + d) / b], nq + 1, says_cons (by rfl) (says_cons (by rfl) (says_cons (by rfl) (says_cons (by rfl) says_nil))), ints_snoc hIq, by simp [hql], ?_, rfl, ?_⟩)
    · rcases List.mem_cons.mp hp with rfl | hp
      · simp
      · exact .tail _ (.tail _ hp)
    · intro q hq p hp
      rcases List.mem_cons.mp hq with rfl | hq
      · exact hsep _ (.head _) p hp
      · exact hsep q (.tail _ hq) p hp
    · intro x hx
      rcases List.mem_append.mp hx with hx | hx
      · exact hqd x hx
      · rw [List.mem_singleton.mp hx]; exact ⟨hq0, hq1⟩
    · rw [hstep.1, List.reverse_append, List.reverse_singleton, List.singleton_append]
      rfl
  · intro h tk m₁ news₁ hJ F3 N3
    obtain ⟨r, tr, t1, t2, vsq, qs, nq, hsay, hIq, hql, hqd, hr, hv⟩ := hJ
    have F4 : Fr g L h _ := Mine.Fr.said F3 hsay
    have hap : ∀ q ∈ tl', q.1 ≠ l' := fun q hq => Nat.ne_of_lt (hlow' q hq)
    rw [hsz] at hql hr hv
    have e0 : a / 2 ^ (B * (c - c)) = a := by simp
    rw [e0] at hr hv
    subst hr
    clear F2 N2 F3
    have hlq : vsq.length = c := hIq.length.trans hql
    have hsl : vsq.length ≤ sizeLine := Nat.le_trans (show vsq.length ≤ 100 by omega) (by decide)
    (repeat' (first | walk1 | (dsimp only; walk1)))
    refine kl_reverse (its := vsq.toArray) (l := vsq.reverse) F4 N3 rfl (by k_upd) hsl (fun h' F5 N5 => ?_)
    (repeat' (first | walk1 | (dsimp only; walk1)))
    have S := fun tn => digits2int (w := w) (prog := prog) (tn := tn) (b := B) (l := l') (ns := qs.reverse) (vs := vsq.reverse) (nn := nq) (by omega) (by omega) (by simp; omega) (ints_rev hIq) (fun d hd => hqd d (List.mem_reverse.mp hd)) ht' hap hC2
    refine Meets.call0 (S _) F5 N5 X T hh (by first | exact ar_lim hdep (by decide) | exact ar_limD hdep (by decide) | omega) (by first | exact ar_lim hu (by decide) | exact ar_limU hu (by decide) | omega) ?_
    clear S
    intro n₁ v l₁ h₂ tk₂ hp F6 N6 _ _
    obtain ⟨t3, tl2, rfl, ht2, rfl⟩ := hp
    rw [hv]
    clear F4 N3 F5 N5
    (repeat' (first | walk1 | (dsimp only; walk1)))
    with_reducible rename Fr _ _ _ _ => F7
    with_reducible rename News _ _ _ _ => N7
    with_reducible rename _ < _ ∧ AllLt _ tl2 => hlt3
    have q1 : @LT.lt Nat _ D l' := hlt1.1
    have q2 : @LT.lt Nat _ l' _ := hlt3.1
    exact hK0 _ _ (hk _ _ _ _ _ (.mk _ _ _ _ (Nat.le_of_lt (Nat.lt_trans (show n₀ < l' by omega) q2)) ht2) F7 (fun p hp => N7 p (by
      rcases List.mem_cons.mp hp with rfl | hp
      · exact .head _
      · exact .tail _ (.tail _ hp))))
end

noncomputable section
example : True := by -- walkOff_D6
  w_top off
  exact True.intro
set_option maxHeartbeats 8000000 in
theorem int_divmod {a b : Int} {ta tb : Tok} {tl : List (Addr × Obj)} (ha : 0 ≤ a) (hb1 : 0 < b) (hbits : Builtin.Int.intBits b ≤ 1000) (hc : figs a (Builtin.Int.intBits b) ≤ 100) (hC1 : ∀ g, (hdK.heap_1 w.params).In g → CodeHd g 75 71) (hC2 : ∀ g, (hdK.heap_1 w.params).In g → CodeHd g 82 78) (ht : TabsOk tl) :
    Meets prog w (hdK.heap_1 w.params) (.call (.ref 97) ⟨[.int a ta, .int b tb], []⟩) tl 130 2300 (fun n₀ v l' => DivPost (a / b) (a % b) n₀ v l') := by
  refine meets_def (by k_is) (by k_is) (fun s => BindsTo.of_eq rfl) (locs rfl) (by decide) (fun A s g p loose mean mg mb n₀ L h₁ tk k hh hdep hu X T hn hfp F N hk => ?_)
  try dsimp only
  have hlow : Low n₀ tl := hfp
  clear hfp
  have hcLine : cLine = 9900 := rfl
  have hrec : recursionLimit = 1000 := rfl
  (repeat' (first | walk1 | (dsimp only; walk1)))
  · exfalso; omega
  · with_reducible rename Fr _ _ _ _ => F2
    with_reducible rename News _ _ _ _ => N2
    have S := fun ta tb => divmod_pos (w := w) (prog := prog) (ta := ta) (tb := tb) ha hb1 hbits hc hC1 hC2 ht
    refine Meets.call0 (S _ _) F2 N2 X T hh (by first | exact ar_lim hdep (by decide) | exact ar_limD hdep (by decide) | omega) (by first | exact ar_lim hu (by decide) | exact ar_limU hu (by decide) | omega) ?_
    clear S
    intro n₁ v l₁ h₂ tk₂ hp F3 N3 o1 _
    obtain ⟨r, t1, t2, tl', hr, ht'⟩ := hp
    exact hk _ _ _ _ _ (.mk _ _ _ _ (by omega) ht') F3 N3
end

noncomputable section
example : True := by -- walkOff_D7a
  w_top off
  exact True.intro
noncomputable def o212 (P : Params) : { o : Obj // (hdK.heap_1 P).lookup 212 = some o } := ⟨_, by k_is⟩
noncomputable def in212 (P : Params) : { x : Arguments × PySem.Expr × Scope // lamAt (o212 P).1 2 = some x } := ⟨_, rfl⟩
noncomputable abbrev ent (P : Params) (k : String) (t : Tok) (v : Value) : DictEntry := { hash := PyData.keyHash P (Str.ofString k), key := .str (Str.ofString k) t, val := v }
noncomputable abbrev lexD (P : Params) (n : Int) (src : Value) (pb : Nat) (t1 t2 t3 t4 t5 t6 : Tok) : Obj :=
  dictOf [ent P "lineno" t1 (.int n t2), ent P "instream" t3 src, ent P "whitespace" t4 (.str (Str.ofString "\n\t\r ") t5), ent P "pushback" t6 (.ref pb)] 4
noncomputable abbrev pageD (P : Params) (pb f : Nat) (t1 t2 t3 t4 t5 t6 t7 : Tok) : Obj :=
  dictOf [ent P "lineno" t1 (.int 1 t2), ent P "instream" t3 .none, ent P "whitespace" t4 (.str (Str.ofString "\n\t\r ") t5), ent P "pushback" t6 (.ref pb), ent P "read" t7 (.ref f)] 5
noncomputable abbrev lamFn (P : Params) (cS : Nat) (pm : Value) (c' : Nat) (ctv : Value) : Obj :=
  kla_obj (Str.ofString "<lambda>") (Str.ofString "_law_lexer.<locals>.<lambda>") (in212 P).1.1 (in212 P).1.2.1 (in212 P).1.2.2 [(Str.ofString "signs", cS)] pm c' ctv
set_option genInjectivity false in
set_option genSizeOfSpec false in
structure LexP where
  (cS S d1 x1 pb1 f d x pb c' : Nat)
  (ctv pm : Value)
  oS : Obj
  (t1 t3 t4 t5 t6 s1 s2 s3 s4 s5 s6 s7 : Tok)
noncomputable abbrev LexP.led (a : LexP) (P : Params) (vs : List Value) (nS : Nat) (n : Int) (tn : Tok) (ps : List Value) (np : Nat) : List (Addr × Obj) :=
  [(a.pb, listOf ps.toArray np), (a.x, instObj 135 a.d), (a.d, lexD P n (.ref a.x1) a.pb a.t1 tn a.t3 a.t4 a.t5 a.t6), (a.f, lamFn P a.cS a.pm a.c' a.ctv), (a.pb1, listOf #[] 0), (a.x1, instObj 135 a.d1), (a.d1, pageD P a.pb1 a.f a.s1 a.s2 a.s3 a.s4 a.s5 a.s6 a.s7), (a.S, listOf vs.toArray nS), (a.cS, a.oS)]
structure LexP.Ord (a : LexP) : Prop where
  e1 : a.cS < a.S
  e2 : a.S < a.d1
  e3 : a.d1 < a.x1
  e4 : a.x1 < a.pb1
  e5 : a.pb1 < a.f
  e6 : a.f < a.d
  e7 : a.d < a.x
  e8 : a.x < a.pb
structure LexP.Ap (a : LexP) (tl : List (Addr × Obj)) : Prop where
  e1 : ∀ p ∈ tl, p.1 ≠ a.cS
  e2 : ∀ p ∈ tl, p.1 ≠ a.S
  e3 : ∀ p ∈ tl, p.1 ≠ a.d1
  e4 : ∀ p ∈ tl, p.1 ≠ a.x1
  e5 : ∀ p ∈ tl, p.1 ≠ a.pb1
  e6 : ∀ p ∈ tl, p.1 ≠ a.f
  e7 : ∀ p ∈ tl, p.1 ≠ a.d
  e8 : ∀ p ∈ tl, p.1 ≠ a.x
  e9 : ∀ p ∈ tl, p.1 ≠ a.pb
noncomputable abbrev lamQ : Str := Str.ofString "_law_lexer.<locals>.<lambda>"
structure LexP.Ok (a : LexP) (tl : List (Addr × Obj)) : Prop where
  ord : a.Ord
  cell : a.oS.data = .cell (some (.ref a.S))
  made : Made 207 188 16 lamQ a.c' tl
  ap : a.Ap tl
set_option maxHeartbeats 8000000 in
theorem netrclex_init {x dx : Nat} {v : Value} (hxd : dx < x) :
    Meets prog w (hdK.heap_1 w.params) (.call (.ref 111) ⟨[.ref x, v], []⟩) [(x, instObj 135 dx), (dx, dictOf [] 0)] 2 10 (fun n₀ v' l => v' = .none ∧ ∃ pb t1 t2 t3 t4 t5 t6, x < pb ∧ l = [(pb, listOf #[] 0), (x, instObj 135 dx), (dx, lexD w.params 1 v pb t1 t2 t3 t4 t5 t6)]) := by
  refine meets_def (by k_is) (by k_is) (fun s => BindsTo.of_eq rfl) (locs rfl) (by decide) (fun A s g p loose mean mg mb n₀ L h₁ tk k hh hdep hu X T hn hfp F N hk => ?_)
  try dsimp only
  have hcLine : cLine = 9900 := rfl
  have hrec : recursionLimit = 1000 := rfl
  have hx1 := hfp _ (.head _)
  have hx2 := hfp _ (.tail _ (.head _))
  dsimp only at hx1 hx2
  have hne1 : @Ne Nat x dx := by omega
  have hne2 : @Ne Nat dx x := by omega
  (repeat' (first | walk1 | (dsimp only; walk1)))
  with_reducible rename Fr _ _ _ _ => F2
  with_reducible rename News _ _ _ _ => N2
  with_reducible rename _ < _ ∧ _ => hlt
  exact hk _ _ _ _ _ ⟨rfl, _, _, _, _, _, _, _, hlt.1, rfl⟩ F2 N2
end

noncomputable section
example : True := by -- walkOff_D7
  w_top off
  exact True.intro
noncomputable abbrev lexNew (P : Params) (src : Value) (n₀ : Nat) (v : Value) (l : List (Addr × Obj)) : Prop := ∃ x dx, n₀ ≤ dx ∧ dx < x ∧ v = .ref x ∧ ∃ pb t1 t2 t3 t4 t5 t6, x < pb ∧ l = [(pb, listOf #[] 0), (x, instObj 135 dx), (dx, lexD P 1 src pb t1 t2 t3 t4 t5 t6)]
theorem netrclex {v : Value} : Meets prog w (hdK.heap_1 w.params) (.call (.ref 135) ⟨[v], []⟩) [] 3 11 (lexNew w.params v) := by
  intro A s g p loose mean mg mb hh hdep hu W X T R hR
  exact Meets.make (by k_is) (by k_is) (by k_is) (fun x dx hxd => netrclex_init hxd) A s g p loose mean mg mb hh hdep hu W X T R hR
inductive LexPost (P : Params) (x : List Nat) (tl : List (Addr × Obj)) (n₀ : Nat) : Value → List (Addr × Obj) → Prop
  | mk (a : LexP) (tl' : List (Addr × Obj)) (vs : List Value) (nS : Nat) (tn : Tok) (hok : a.Ok tl') (hnd : (tl'.map (·.1)).Nodup) (hsm : ∀ c₀, Made 207 188 16 lamQ c₀ tl → tl' = tl ∧ a.c' = c₀) (hcS : n₀ < a.cS) (hsg : SignsAre vs x) : LexPost P x tl n₀ (.ref a.x) (a.led P vs nS 1 tn [] 0 ++ tl')
set_option maxHeartbeats 8000000 in
theorem law_lexer {x : List Nat} {tx : Tok} {tl : List (Addr × Obj)} (hC1 : ∀ g, (hdK.heap_1 w.params).In g → CodeHd g 211 207) (ht : TabOk 207 188 16 lamQ tl) (hnd : (tl.map (·.1)).Nodup) (hx : x.length ≤ 10000) :
    Meets prog w (hdK.heap_1 w.params) (.call (.ref 212) ⟨[.str (txt x) tx], []⟩) tl 20 300 (fun n₀ v l' => LexPost w.params x tl n₀ v l') := by
  refine meets_defC (by k_is) (by k_is) (fun s => BindsTo.of_eq rfl) rfl (by decide +kernel) (fun A s g p loose mean mg mb n₀ L h₁ tk cells k hh hdep hu X T hn hfp hfp2 F N Y hk => ?_)
  try dsimp only
  k_cells Y
  have C := hC1 g X
  try simp only [List.cons_append, List.nil_append] at N
  have hlow : Low n₀ tl := hfp
  clear hfp hfp2
  have hcLine : cLine = 9900 := rfl
  have hrec : recursionLimit = 1000 := rfl
  (repeat' (first | walk1 | (dsimp only; walk1)))
  with_reducible rename Fr _ _ _ _ => F2
  with_reducible rename News _ _ _ _ => N2
  refine list_txt hh F2 N2 (Nat.le_trans hx (by decide)) (fun S vs nS h₂ tk₂ F3 N3 hlt1 hS => ?_)
  clear F2 N2
  k_lt hlt1
  (repeat' (first | walk1 | (dsimp only; walk1)))
  with_reducible rename Fr _ _ _ _ => F2
  with_reducible rename News _ _ _ _ => N2
  have S0 := netrclex (w := w) (prog := prog) (v := .none)
  refine Meets.call ((S, listOf vs.toArray nS) :: (L + 1, _) :: tl) S0 F2 N2 X T (by (repeat' (first | exact List.forall_mem_nil _ | (refine List.forall_mem_cons.mpr ⟨?_, ?_⟩) | k_mem | (intro pS hS; repeat (first | exact hS | refine List.mem_cons_of_mem _ ?_ | refine List.mem_append_right _ ?_))))) (by (repeat' (first | exact List.forall_mem_nil _ | (refine List.forall_mem_cons.mpr ⟨?_, ?_⟩) | k_mem | (intro pS hS; repeat (first | exact hS | refine List.mem_cons_of_mem _ ?_ | refine List.mem_append_right _ ?_))))) (by (repeat' (first | exact List.forall_mem_nil _ | exact (fun _ _ _ h => absurd h List.not_mem_nil) | k_all | (refine List.forall_mem_cons.mpr ⟨?_, ?_⟩)))) hh (by first | exact ar_lim hdep (by decide) | exact ar_limD hdep (by decide) | omega) (by first | exact ar_lim hu (by decide) | exact ar_limU hu (by decide) | omega) ?_
  clear S0
  intro n₁ v l₁ h₂ tk₂ hp F3 N3 o1 o2 o3 o4
  obtain ⟨x1, d1, hd1, hx1, rfl, pb1, t1, t2, t3, t4, t5, t6, hpb1, rfl⟩ := hp
  simp only [List.cons_append, List.nil_append] at N3
  simp only [AllLt] at o3
  clear F2 N2
  (repeat' (first | walk1 | (dsimp only; walk1)))
  with_reducible rename Fr _ _ _ _ => F4
  with_reducible rename News _ _ _ _ => N4
  rename_i oS dS _
  refine kla_eval rfl ?_
  refine makeLam (P := 207) (t := tl) (own := [_, _, _, _, _]) (qual := lamQ) F4 N4 T C rfl ht (by (repeat' (first | exact List.forall_mem_nil _ | exact (fun _ _ _ h => absurd h List.not_mem_nil) | k_all | (refine List.forall_mem_cons.mpr ⟨?_, ?_⟩)))) hnd rfl (fun f c' tl' ctv h' tk hM hsame F5 N5 hnd' hap hlt hlo hLf => ?_)
  simp only [List.cons_append, List.nil_append] at N5
  simp only [List.forall_mem_cons] at hap
  obtain ⟨ha1, ha2, ha3, ha4, ha5⟩ := hap
  simp only [AllLt] at hlt
  dsimp only [lexD, ent] at N5
  clear ht hlow F4 N4
  (repeat' (first | walk1 | (dsimp only; walk1)))
  with_reducible rename Fr _ _ _ _ => F6
  with_reducible rename News _ _ _ _ => N6
  have S0 := netrclex (w := w) (prog := prog) (v := .ref x1)
  refine Meets.call (_ :: _ :: _ :: _ :: _ :: _ :: tl') S0 F6 N6 X T (by (repeat' (first | exact List.forall_mem_nil _ | (refine List.forall_mem_cons.mpr ⟨?_, ?_⟩) | k_mem | (intro pS hS; repeat (first | exact hS | refine List.mem_cons_of_mem _ ?_ | refine List.mem_append_right _ ?_))))) (by (repeat' (first | exact List.forall_mem_nil _ | (refine List.forall_mem_cons.mpr ⟨?_, ?_⟩) | k_mem | (intro pS hS; repeat (first | exact hS | refine List.mem_cons_of_mem _ ?_ | refine List.mem_append_right _ ?_))))) (by (repeat' (first | exact List.forall_mem_nil _ | exact (fun _ _ _ h => absurd h List.not_mem_nil) | k_all | (refine List.forall_mem_cons.mpr ⟨?_, ?_⟩)))) hh (by first | exact ar_lim hdep (by decide) | exact ar_limD hdep (by decide) | omega) (by first | exact ar_lim hu (by decide) | exact ar_limU hu (by decide) | omega) ?_
  clear S0
  intro n₂ v l₁ h₂ tk₂ hp F7 N7 q1 q2 q3 q4
  obtain ⟨x2, d2, hd2, hx2, rfl, pb2, r1, r2, r3, r4, r5, r6, hpb2, rfl⟩ := hp
  simp only [List.cons_append, List.nil_append] at N7
  simp only [AllLt] at q3
  have lo : ∀ p ∈ tl', p.1 < f := hlo
  have g1 : @LT.lt Nat _ pb1 f := hlt.1
  have g2 : @LT.lt Nat _ f n₂ := q3.1
  have g3 : @LT.lt Nat _ S n₁ := o3.1
  have g4 : @LT.lt Nat _ (L + 1) S := hlt1.1
  refine hk _ _ _ _ _ ⟨⟨L + 1, S, d1, x1, pb1, f, d2, x2, pb2, c', ctv, _, _, _, _, _, _, _, _, _, _, _, _, _, _⟩, tl', vs, nS, _, ⟨⟨g4, ?_, hx1, hpb1, g1, ?_, hx2, hpb2⟩, oS, hM, ⟨ha5.1, ha4, ha3, ha2, ha1, fun p hp => Nat.ne_of_lt (lo p hp), fun p hp => Nat.ne_of_lt (Nat.lt_of_lt_of_le (lo p hp) ?_), fun p hp => Nat.ne_of_lt (Nat.lt_of_lt_of_le (lo p hp) ?_), fun p hp => Nat.ne_of_lt (Nat.lt_of_lt_of_le (lo p hp) ?_)⟩⟩, hnd', hsame, ?_, hS⟩ F7 N7
  · show S < d1; exact Nat.lt_of_lt_of_le g3 hd1
  · show f < d2; omega
  · show f ≤ d2; omega
  · show f ≤ x2; omega
  · show f ≤ pb2; omega
  · show n₀ < L + 1; omega
end

noncomputable section
example : True := by -- walkOff_D8
  w_top off
  exact True.intro
set_option maxHeartbeats 400000 in
theorem lam_read {a : LexP} {tl : List (Addr × Obj)} {vs : List Value} {cs : List Nat} {nS np : Nat} {n : Int} {tn tz : Tok} {ps : List Value} (ha : a.Ok tl) (hS : SignsAre vs cs) (hcs : cs.length ≤ 10000) (hasc : Asc cs) :
    Meets prog w (hdK.heap_1 w.params) (.call (.ref a.f) ⟨[.int 1 tz], []⟩) (a.led w.params vs nS n tn ps np ++ tl) 2 100 (fun n₀ v l' => ∃ t nS', v = .str (txt (cs.take 1)) t ∧ l' = a.led w.params vs.tail nS' n tn ps np ++ tl) := by
  obtain ⟨⟨e1, e2, e3, e4, e5, e6, e7, e8⟩, hcell, ⟨oc, cvs, tq, htl, hcd, hcv⟩, ⟨p1, p2, p3, p4, p5, p6, p7, p8, p9⟩⟩ := ha
  obtain ⟨cS, S, d1, x1, pb1, f, d, x, pb, c', ctv, pm, oS, t1, t3, t4, t5, t6, s1, s2, s3, s4, s5, s6, s7⟩ := a
  dsimp only [LexP.led] at *
  refine meets_lam (.tail _ (.tail _ (.tail _ (.head _)))) (by rw [htl]; exact List.mem_append_right _ (.tail _ (.head _))) hcd hcv rfl (locs rfl) (by dsimp only [in212]; decide) (fun A s g p loose mean mg mb n₀ L h₁ tk k hh hdep hu X T hn hfp F N hk => ?_)
  try dsimp only [in212]
  dsimp only [in212, List.cons_append, List.nil_append] at N
  have hcLine : cLine = 9900 := rfl
  have hrec : recursionLimit = 1000 := rfl
  have hl1 : ∀ p ∈ tl, p.1 < n₀ := fun p hp => hfp p (List.mem_append_right _ hp)
  have hpb : pb < n₀ := hfp _ (.head _)
  clear hfp
  iterate 2 walk1
  refine nameX_F N rfl (.tail _ (.tail _ (.tail _ (.tail _ (.tail _ (.tail _ (.tail _ (.tail _ (.head _))))))))) hcell ?_ rfl rfl
  iterate 3 walk1
  refine ne_strs (News.isList (by k_asm) (by k_mem)) hS.strs (News.isList (by k_asm) (by k_mem)) .nil hasc.signs (fun x hx => by cases hx) (by omega) ?_
  cases hS with
  | nil =>
    simp only [List.map_nil, decide_true, Bool.not_true]
    (repeat' (first | walk1 | (dsimp only; walk1)))
    with_reducible rename Fr _ _ _ _ => F3
    with_reducible rename News _ _ _ _ => N3
    exact hk _ _ _ _ _ ⟨_, _, rfl, rfl⟩ F3 (fun p hp => N3 p (.tail _ hp))
  | cons c t hS =>
    simp only [List.map_cons, reduceCtorEq, decide_false, Bool.not_false]
    iterate 3 walk1
    refine nameX_F (by k_asm) rfl (by k_mem) hcell ?_ rfl rfl
    (repeat' (first | walk1 | (dsimp only; walk1)))
    refine kl_popAt (k := 0) (p := []) (y := .str (txt [c]) t) (q := _) (by k_asm) (by k_asm) rfl ?_ rfl (by k_upd) (by simpa using Nat.le_trans (show _ ≤ 10000 by have := hS.length; simp at hcs; omega) (by decide)) (fun h' F' N' => ?_)
    · simp [seqIndex?]
    · exact hk _ _ _ _ _ ⟨_, _, rfl, rfl⟩ F' (fun p hp => N' p (.tail _ hp))
end

noncomputable section
example : True := by -- walkOff_D9
  w_top off
  exact True.intro
noncomputable def nl (cs : List Nat) : Int := if cs.head? = some 10 then 1 else 0
theorem str_nl : Str.ofString "\n" = txt [10] := by rfl
theorem nl_yes {cs : List Nat} (h : (txt (cs.take 1) == Str.ofString "\n") = true) : nl cs = 1 := by
  rw [str_nl, beq_iff_eq] at h
  have h2 : cs.take 1 = [10] := by simpa using congrArg (fun x => x.cps.toList) h
  cases cs with
  | nil => simp at h2
  | cons c r => simp at h2; simp [nl, h2]
theorem nl_no {cs : List Nat} (h : (txt (cs.take 1) == Str.ofString "\n") = false) : nl cs = 0 := by
  rw [str_nl] at h
  unfold nl
  rw [if_neg]
  intro e
  cases cs with
  | nil => simp at e
  | cons c r =>
    simp at e
    subst e
    simp at h
set_option maxHeartbeats 1000000 in
theorem read_char {a : LexP} {tl : List (Addr × Obj)} {vs : List Value} {cs : List Nat} {nS np : Nat} {n : Int} {tn : Tok} {ps : List Value} (ha : a.Ok tl) (hS : SignsAre vs cs) (hcs : cs.length ≤ 10000) (hasc : Asc cs) :
    Meets prog w (hdK.heap_1 w.params) (.call (.ref 118) ⟨[.ref a.x], []⟩) (a.led w.params vs nS n tn ps np ++ tl) 4 120 (fun n₀ v l' => ∃ t nS' tn', v = .str (txt (cs.take 1)) t ∧ l' = a.led w.params vs.tail nS' (n + nl cs) tn' ps np ++ tl) := by
  have S0 := fun tz => lam_read (w := w) (prog := prog) (nS := nS) (np := np) (n := n) (tn := tn) (tz := tz) (ps := ps) ha hS hcs hasc
  refine meets_def (by k_is) (by k_is) (fun s => BindsTo.of_eq rfl) (locs rfl) (by decide) (fun A s g p loose mean mg mb n₀ L h₁ tk k hh hdep hu X T hn hfp F N hk => ?_)
  try dsimp only
  have hcLine : cLine = 9900 := rfl
  have hrec : recursionLimit = 1000 := rfl
  refine gen_K fun KK hKK => ?_
  clear hfp
  iterate 6 walk1
  refine' kmu_own ?k1 ?k2 ?k3 ?k4 ?k5 ?_
  case k1 => k_asm
  case k2 => k_asm
  case k3 => k_inst
  case k4 => k_is
  case k5 => k_is
  walk1
  dsimp only
  refine callWith_F (FnAt.of (by k_asm) (by k_mem)) ?_
  iterate 3 walk1
  refine ⟨FnAt.of (by k_asm) (by k_mem), ?_⟩
  refine Meets.call [] (S0 _) (by k_asm) (by k_asm) X T (fun p hp => hp) (fun p hp => absurd hp List.not_mem_nil) (fun q hq => absurd hq List.not_mem_nil) hh (by first | exact ar_lim hdep (by decide) | exact ar_limD hdep (by decide) | omega) (by first | exact ar_lim hu (by decide) | exact ar_limU hu (by decide) | omega) ?_
  intro n₁ v l₁ h₂ tk₂ hp F3 N3 o1 o2 o3 o4
  obtain ⟨t, nS', rfl, rfl⟩ := hp
  rw [List.append_nil] at N3
  clear o2 o3 o4 S0
  iterate 10 walk1
  · rename_i hc
    obtain ⟨⟨e1, e2, e3, e4, e5, e6, e7, e8⟩, hcell, hmade, ⟨p1, p2, p3, p4, p5, p6, p7, p8, p9⟩⟩ := ha
    with_reducible rename News _ _ _ _ => N3
    dsimp only [LexP.led, List.cons_append, List.nil_append] at N3
    (repeat' (first | walk1 | (dsimp only; walk1)))
    with_reducible rename Fr _ _ _ _ => F5
    with_reducible rename News _ _ _ _ => N5
    have en := nl_yes hc
    exact hKK _ _ (hk _ _ _ _ _ ⟨_, _, _, rfl, by rw [en]; rfl⟩ F5 N5)
  · rename_i hc
    (repeat' (first | walk1 | (dsimp only; walk1)))
    with_reducible rename Fr _ _ _ _ => F5
    with_reducible rename News _ _ _ _ => N5
    have en := nl_no hc
    exact hKK _ _ (hk _ _ _ _ _ ⟨_, _, tn, rfl, by rw [en, Int.add_zero]⟩ F5 N5)
end

noncomputable section
example : True := by -- walkOff_D10a
  w_top off
  exact True.intro
noncomputable def o101 (P : Params) : { o : Obj // (hdK.heap_1 P).lookup 118 = some o } := ⟨_, by k_is⟩
theorem next_read {A : Around} {E : Value → Shared → Prop} {s : Shared} {h₀ : Heap} {L : Addr} {m : Str → Option Value} {p : Program} {loose : List Str} {mean : ExcName → Option Value} {mg mb : Str → Option Value} {news : List (Addr × Obj)}
    {a : LexP} {tl : List (Addr × Obj)} {vs : List Value} {cs : List Nat} {nS np I q : Nat} {n : Int} {tn te : Tok} {ps : List Value} {Q : Option Value → Shared → Prop}
    (ha : a.Ok tl) (hS : SignsAre vs cs) (hcs : cs.length ≤ 10000) (hasc : Asc cs)
    (hh : A.handled = none) (F : Fr h₀ L s.heap m) (N : News h₀ L s.heap ((I, ciObj (.ref q) (.str (Str.ofString "") te)) :: (q, methodObj (.ref 118) (.ref a.x)) :: (a.led w.params vs nS n tn ps np ++ tl)))
    (X : (hdK.heap_1 w.params).In h₀) (T : Top p loose mean mg mb h₀) (hd : A.depth + 10 < recursionLimit) (hu : A.units + 200 < cLine)
    (h1 : I ≠ q) (h2 : ∀ p ∈ a.led w.params vs nS n tn ps np ++ tl, p.1 ≠ I ∧ p.1 ≠ q)
    (hc : ∀ c r h' tk nS' tn' t, cs = c :: r → Fr h₀ L h' m → News h₀ L h' ((I, ciObj (.ref q) (.str (Str.ofString "") te)) :: (q, methodObj (.ref 118) (.ref a.x)) :: (a.led w.params vs.tail nS' (n + nl cs) tn' ps np ++ tl)) → Q (some (.str (txt [c]) t)) { s with heap := h', toks := tk })
    (he : ∀ h' tk nS' tn', cs = [] → Fr h₀ L h' m → News h₀ L h' ((I, ciEnd) :: (q, methodObj (.ref 118) (.ref a.x)) :: (a.led w.params [] nS' n tn' ps np ++ tl)) → Q none { s with heap := h', toks := tk }) :
    wpAny (model prog w) A (pyNext (.ref I)) Q E s := by
  have hI := (N _ (.head _)).1
  have hq := (N _ (.tail _ (.head _))).1
  have hfn : ∃ fo fd, h₀.get? 118 = some fo ∧ fo.data = Data.func fd := ⟨(o101 w.params).1, _, X _ _ (o101 w.params).2, rfl⟩
  have keepf : ∀ h' : Heap, (∀ b o, h₀.get? b = some o → h'.get? b = some o) → ∃ fo fd, h'.get? 118 = some fo ∧ fo.data = Data.func fd := fun h' k => let ⟨fo, fd, e, d⟩ := hfn; ⟨fo, fd, k _ _ e, d⟩
  refine next_ci hh hI hq (keepf _ F.keep) (method_call hq ?_)
  have N1 : News h₀ L s.heap ((a.led w.params vs nS n tn ps np ++ tl) ++ [(I, ciObj (.ref q) (.str (Str.ofString "") te)), (q, methodObj (.ref 118) (.ref a.x))]) := fun p hp => by
    rcases List.mem_append.mp hp with hp | hp
    · exact N p (.tail _ (.tail _ hp))
    · rcases List.mem_cons.mp hp with rfl | hp
      · exact N _ (.head _)
      · rw [List.mem_singleton.mp hp]; exact N _ (.tail _ (.head _))
  obtain ⟨W, F', st, back⟩ := Wo.call F N1 (fun p hp r hr => by
    rcases List.mem_cons.mp hr with rfl | hr
    · exact (h2 p hp).1
    · rw [List.mem_singleton.mp hr]; exact (h2 p hp).2)
  refine read_char (w := w) (prog := prog) (nS := nS) (np := np) (n := n) (tn := tn) (ps := ps) ha hS hcs hasc A.in1 s _ p loose mean mg mb hh ?_ ?_ W (X.keeps st) (T.keeps st) _ fun v l h' tk hp W' => ?_
  · show A.depth + 4 < recursionLimit; omega
  · show A.units + 1 + 120 < cLine; omega
  obtain ⟨F2, N2, nd2⟩ := back h' l W'
  obtain ⟨t, nS', tn', rfl, rfl⟩ := hp
  have gI := (N2 _ (List.mem_append_right _ (.head _)))
  have gq := (N2 _ (List.mem_append_right _ (.tail _ (.head _))))
  refine ⟨txt (cs.take 1), t, rfl, gI.1, gq.1, keepf _ F2.keep, fun hne => ?_, fun he2 => ?_⟩
  · cases cs with
    | nil => exact absurd rfl hne
    | cons c r =>
      refine hc c r h' tk nS' tn' t rfl F2 (fun p hp => N2 p ?_)
      rcases List.mem_cons.mp hp with rfl | hp
      · exact List.mem_append_right _ (.head _)
      · rcases List.mem_cons.mp hp with rfl | hp
        · exact List.mem_append_right _ (.tail _ (.head _))
        · exact List.mem_append_left _ hp
  · intro h'' g1 hx
    have e0 : cs = [] := by
      cases cs with
      | nil => rfl
      | cons c r => exact absurd he2 (by show ¬ txt [c] = txt []; simp)
    subst e0
    cases hS
    have en : n + nl [] = n := Int.add_zero n
    have F3 : Fr h₀ L h'' m := ⟨F2.ns.extBut hx gI.2.1.symm, fun b o e => hx b o (fun hb => by rw [hb, gI.2.2] at e; cases e) (F2.keep b o e), F2.above⟩
    refine he h'' tk nS' tn' rfl F3 (fun p hp => ?_)
    rcases List.mem_cons.mp hp with rfl | hp
    · exact ⟨g1, gI.2⟩
    · have z := N2 p (by
        rcases List.mem_cons.mp hp with rfl | hp
        · exact List.mem_append_right _ (.tail _ (.head _))
        · rw [en]; exact List.mem_append_left _ hp)
      refine ⟨hx _ _ ?_ z.1, z.2⟩
      rcases List.mem_cons.mp hp with rfl | hp
      · exact fun e => h1 e.symm
      · intro e
        have z2 := nd2 p (by rw [en]; exact hp) _ (.head _)
        exact z2 e
end

noncomputable section
example : True := by -- walkOff_D10b
  w_top off
  exact True.intro
set_option maxHeartbeats 1000000 in
theorem get_pushed {a : LexP} {tl : List (Addr × Obj)} {vs : List Value} {nS np : Nat} {n : Int} {tn : Tok} {v₀ : Value} {ps : List Value} (ha : a.Ok tl) (hps : ps.length ≤ 10000) :
    Meets prog w (hdK.heap_1 w.params) (.call (.ref 125) ⟨[.ref a.x], []⟩) (a.led w.params vs nS n tn (v₀ :: ps) np ++ tl) 4 120 (fun n₀ v l' => ∃ np', v = v₀ ∧ l' = a.led w.params vs nS n tn ps np' ++ tl) := by
  obtain ⟨⟨e1, e2, e3, e4, e5, e6, e7, e8⟩, hcell, hmade, ⟨p1, p2, p3, p4, p5, p6, p7, p8, p9⟩⟩ := ha
  obtain ⟨cS, S, d1, x1, pb1, f, d, x, pb, c', ctv, pm, oS, t1, t3, t4, t5, t6, s1, s2, s3, s4, s5, s6, s7⟩ := a
  dsimp only [LexP.led] at *
  refine meets_def (by k_is) (by k_is) (fun s => BindsTo.of_eq rfl) (locs rfl) (by decide) (fun A s g p loose mean mg mb n₀ L h₁ tk k hh hdep hu X T hn hfp F N hk => ?_)
  try dsimp only
  dsimp only [List.cons_append, List.nil_append] at N
  have hcLine : cLine = 9900 := rfl
  have hrec : recursionLimit = 1000 := rfl
  have hl1 : ∀ p ∈ tl, p.1 < n₀ := fun p hp => hfp p (List.mem_append_right _ hp)
  have hpb : pb < n₀ := hfp _ (.head _)
  clear hfp
  (repeat' (first | walk1 | (dsimp only; walk1)))
  refine kl_popAt (k := 0) (p := []) (y := v₀) (q := ps) (by k_asm) (by k_asm) rfl ?_ rfl (by k_upd) (by simpa using Nat.le_trans (show ps.length + 1 ≤ 10001 by omega) (by decide)) (fun h' F' N' => ?_)
  · simp [seqIndex?]
  · exact hk _ _ _ _ _ ⟨_, rfl, rfl⟩ F' N'
end

noncomputable section
example : True := by -- walkOff_D10c
  w_top off
  exact True.intro
set_option maxHeartbeats 1000000 in
theorem push_token {a : LexP} {tl : List (Addr × Obj)} {vs : List Value} {nS np : Nat} {n : Int} {tn : Tok} {v₀ : Value} {ps : List Value} (ha : a.Ok tl) (hps : ps.length ≤ 10000) :
    Meets prog w (hdK.heap_1 w.params) (.call (.ref 132) ⟨[.ref a.x, v₀], []⟩) (a.led w.params vs nS n tn ps np ++ tl) 4 120 (fun n₀ v l' => ∃ np', v = .none ∧ l' = a.led w.params vs nS n tn (ps ++ [v₀]) np' ++ tl) := by
  obtain ⟨⟨e1, e2, e3, e4, e5, e6, e7, e8⟩, hcell, hmade, ⟨p1, p2, p3, p4, p5, p6, p7, p8, p9⟩⟩ := ha
  obtain ⟨cS, S, d1, x1, pb1, f, d, x, pb, c', ctv, pm, oS, t1, t3, t4, t5, t6, s1, s2, s3, s4, s5, s6, s7⟩ := a
  dsimp only [LexP.led] at *
  refine meets_def (by k_is) (by k_is) (fun s => BindsTo.of_eq rfl) (locs rfl) (by decide) (fun A s g p loose mean mg mb n₀ L h₁ tk k hh hdep hu X T hn hfp F N hk => ?_)
  try dsimp only
  dsimp only [List.cons_append, List.nil_append] at N
  have hcLine : cLine = 9900 := rfl
  have hrec : recursionLimit = 1000 := rfl
  have hl1 : ∀ p ∈ tl, p.1 < n₀ := fun p hp => hfp p (List.mem_append_right _ hp)
  have hpb : pb < n₀ := hfp _ (.head _)
  clear hfp
  have hsl : ps.length ≤ sizeLine := Nat.le_trans hps (by decide)
  (repeat' (first | walk1 | (dsimp only; walk1)))
  with_reducible rename Fr _ _ _ _ => F5
  with_reducible rename News _ _ _ _ => N5
  have ep : ps.toArray.push v₀ = (ps ++ [v₀]).toArray := by simp
  rw [ep] at N5
  exact hk _ _ _ _ _ ⟨_, rfl, rfl⟩ F5 N5
end

noncomputable section
example : True := by -- walkOff_D10e
  w_top off
  exact True.intro
noncomputable def o108 (P : Params) : { o : Obj // (hdK.heap_1 P).lookup 125 = some o } := ⟨_, by k_is⟩
noncomputable def loopsOf (o : Obj) : Option (Scope × (Pos × List Stmt) × (Pos × List Stmt)) := match o.data with
  | .func fd => match fd.body with
    | .stmts b => match b[3]? with
      | some (Stmt.For _ _ lb _ _) => match lb[1]? with
        | some (Stmt.If _ tb eb _) => match tb[0]?, eb[2]? with
          | some (Stmt.For (PySem.Expr.Name _ p1) _ qb _ _), some (Stmt.For (PySem.Expr.Name _ p2) _ bb _ _) => some (fd.scope, (p1, qb), (p2, bb))
          | _, _ => none
        | _ => none
      | _ => none
    | _ => none
  | _ => none
noncomputable def loops108 (P : Params) : { x : Scope × (Pos × List Stmt) × (Pos × List Stmt) // loopsOf (o108 P).1 = some x } := ⟨_, rfl⟩
noncomputable abbrev env108 (P : Params) (L : Addr) : Env := envX (Str.ofString "_netrclex.get_token") (loops108 P).1.1 L 125 (.ref 124) []
noncomputable def LexP.Off (a : LexP) (tl : List (Addr × Obj)) (I q : Nat) : Prop := ∀ b ∈ [a.pb, a.x, a.d, a.f, a.pb1, a.x1, a.d1, a.S, a.cS] ++ tl.map (·.1), b ≠ I ∧ b ≠ q
theorem LexP.Off.led {a : LexP} {tl : List (Addr × Obj)} {I q : Nat} (h : a.Off tl I q) {P : Params} {vs ps : List Value} {nS np : Nat} {n : Int} {tn : Tok} : ∀ p ∈ a.led P vs nS n tn ps np ++ tl, p.1 ≠ I ∧ p.1 ≠ q := fun p hp => by
  refine h p.1 ?_
  have e : [a.pb, a.x, a.d, a.f, a.pb1, a.x1, a.d1, a.S, a.cS] ++ tl.map (·.1) = (a.led P vs nS n tn ps np ++ tl).map (·.1) := by
    rw [List.map_append]; rfl
  rw [e]
  exact List.mem_map_of_mem hp
noncomputable abbrev lexNews (P : Params) (a : LexP) (tl : List (Addr × Obj)) (I q : Nat) (te : Tok) (vs : List Value) (nS : Nat) (n : Int) (tn : Tok) (np : Nat) : List (Addr × Obj) :=
  (I, ciObj (.ref q) (.str (Str.ofString "") te)) :: (q, methodObj (.ref 118) (.ref a.x)) :: (a.led P vs nS n tn [] np ++ tl)
noncomputable abbrev lexOver (P : Params) (a : LexP) (tl : List (Addr × Obj)) (I q : Nat) (nS : Nat) (n : Int) (tn : Tok) (np : Nat) : List (Addr × Obj) :=
  (I, ciEnd) :: (q, methodObj (.ref 118) (.ref a.x)) :: (a.led P [] nS n tn [] np ++ tl)
noncomputable abbrev lexSay (a : LexP) (I : Nat) (acc : List Nat) (tt : Tok) : List (Str × Value) := [(Str.ofString "self", .ref a.x), (Str.ofString "fiter", .ref I), (Str.ofString "token", .str (txt acc) tt)]
theorem nl_step {n total : Int} {c : Nat} {r : List Nat} (h : n + nls (c :: r) = total) : n + nl (c :: r) + nls r = total := by
  rw [← h, nls_cons]; unfold nl; by_cases h10 : c = 10 <;> simp [h10] <;> omega
theorem nl_tail {n : Int} {r : List Nat} : n + nl r + nls r.tail = n + nls r := by
  cases r with
  | nil => simp [nl]
  | cons c r => rw [Int.add_assoc]; congr 1; show nl (c :: r) + nls r = _; rw [nls_cons]; unfold nl; by_cases h10 : c = 10 <;> simp [h10] <;> omega
theorem SignsAre.tl' {vs : List Value} {r : List Nat} (h : SignsAre vs r) : SignsAre vs.tail r.tail := by
  cases h with
  | nil => exact .nil
  | cons c t h => exact h
theorem take_tail : ∀ r : List Nat, (r.take 1).length + r.tail.length = r.length
  | [] => rfl
  | _ :: _ => Nat.add_comm ..
inductive LexSt (P : Params) (a : LexP) (tl : List (Addr × Obj)) (I q : Nat) (te : Tok) (np : Nat) (total : Int) (J : List Nat → (Str → Option Value) → Prop) (JE : (Str → Option Value) → Prop) : Nat → (Str → Option Value) → List (Addr × Obj) → Prop
  | run (cs vs nS n tn) {m : Str → Option Value} (hj : J cs m) (hS : SignsAre vs cs) (hlen : cs.length ≤ 10000) (hasc : Asc cs) (htot : n + nls cs = total) : LexSt P a tl I q te np total J JE (cs.length + 1) m (lexNews P a tl I q te vs nS n tn np)
  | over (nS tn) {m : Str → Option Value} (hj : JE m) : LexSt P a tl I q te np total J JE 0 m (lexOver P a tl I q nS total tn np)
section
variable {A : Around} {s : Shared} {g : Heap} {L : Addr} {m : Str → Option Value} {p : Program} {loose : List Str} {mean : ExcName → Option Value} {mg mb : Str → Option Value} {R : Result → Shared → Prop}
  {a : LexP} {tl : List (Addr × Obj)} {vs : List Value} {cs acc : List Nat} {nS np I q : Nat} {n total : Int} {tn te tt : Tok} {target : List Nat × List Nat}
theorem call_read {E Q : Value → Shared → Prop} (hh : A.handled = none) (ha : a.Ok tl) (X : (hdK.heap_1 w.params).In g) (T : Top p loose mean mg mb g) (hdep : A.depth + 10 < recursionLimit) (hu : A.units + 200 < cLine) (hoff : a.Off tl I q)
    (F : Fr g L s.heap m) (N : News g L s.heap (lexNews w.params a tl I q te vs nS n tn np)) (hS : SignsAre vs cs) (hlen : cs.length ≤ 10000) (hasc : Asc cs)
    (h : ∀ t nS' tn' h' tk, Fr g L h' m → News g L h' (lexNews w.params a tl I q te vs.tail nS' (n + nl cs) tn' np) → Q (.str (txt (cs.take 1)) t) { s with heap := h', toks := tk }) :
    wpAny (model prog w) A (PySem.call (.ref 118) [.ref a.x]) Q E s := by
  have S0 := read_char (w := w) (prog := prog) (nS := nS) (np := np) (n := n) (tn := tn) (ps := []) ha hS hlen hasc
  refine Meets.call [(I, ciObj (.ref q) (.str (Str.ofString "") te)), (q, methodObj (.ref 118) (.ref a.x))] S0 F N X T (fun p hp => .tail _ (.tail _ hp)) (fun p hp => ?_) (fun q' hq p hp => ?_) hh (Nat.lt_of_le_of_lt (Nat.add_le_add_left (by decide) _) hdep) (Nat.lt_of_le_of_lt (Nat.add_le_add_left (by decide) _) hu) ?_
  · rcases List.mem_cons.mp hp with rfl | hp
    · exact .head _
    · rw [List.mem_singleton.mp hp]; exact .tail _ (.head _)
  · rcases List.mem_cons.mp hq with rfl | hq
    · exact (hoff.led p hp).1
    · rw [List.mem_singleton.mp hq]; exact (hoff.led p hp).2
  intro n₁ v l₁ h₂ tk₂ hp F5 N5 _ _ _ _
  obtain ⟨t3, nS3, tn3, rfl, rfl⟩ := hp
  refine h t3 nS3 tn3 h₂ tk₂ F5 (fun p hp => N5 p ?_)
  rcases List.mem_cons.mp hp with rfl | hp
  · exact List.mem_append_right _ (.head _)
  · rcases List.mem_cons.mp hp with rfl | hp
    · exact List.mem_append_right _ (.tail _ (.head _))
    · exact List.mem_append_left _ hp
theorem lexLoop {env : Env} {x : Str} {px : Pos} {body : List Stmt} (hx : env.kindOf x = some .local) (hp : (env.scope.kind == .class || (env.scope.kind == .module && env.locals != env.globals)) = false)
    (hh : A.handled = none) (ha : a.Ok tl) (X : (hdK.heap_1 w.params).In g) (T : Top p loose mean mg mb g) (hdep : A.depth + 10 < recursionLimit) (hu : A.units + 200 < cLine) (hIq : I ≠ q) (hoff : a.Off tl I q)
    (F : Fr g env.locals s.heap m) (N : News g env.locals s.heap (lexNews w.params a tl I q te vs nS n tn np)) (hS : SignsAre vs cs) (hlen : cs.length ≤ 10000) (hasc : Asc cs) (htot : n + nls cs = total)
    (J : List Nat → (Str → Option Value) → Prop) (JE : (Str → Option Value) → Prop) (hj : J cs m)
    (turn : ∀ c r vs nS n tn t m₁ h tk (kn : Shared → Prop), J (c :: r) m₁ → SignsAre vs r → r.length < 10000 → Asc r → n + nls r = total →
      Fr g env.locals h (fun y => if y = x then some (.str (txt [c]) t) else m₁ y) → News g env.locals h (lexNews w.params a tl I q te vs nS n tn np) →
      (∀ cs' vs' nS' n' tn' h' tk' m', cs'.length ≤ r.length → J cs' m' → SignsAre vs' cs' → Asc cs' → n' + nls cs' = total → Fr g env.locals h' m' → News g env.locals h' (lexNews w.params a tl I q te vs' nS' n' tn' np) → kn { s with heap := h', toks := tk' }) →
      (∀ nS' tn' h' tk' m', JE m' → Fr g env.locals h' m' → News g env.locals h' (lexOver w.params a tl I q nS' total tn' np) → kn { s with heap := h', toks := tk' }) →
      wpAny (model prog w) A (execs body env) (fun f s₃ => match f with | .ret v => R (.ok (.ret v)) s₃ | .brk => R (.ok .next) s₃ | _ => kn s₃) (fun _ _ => False) { s with heap := h, toks := tk })
    (over : ∀ nS tn h tk m', J [] m' ∨ JE m' → Fr g env.locals h m' → News g env.locals h (lexOver w.params a tl I q nS total tn np) → R (.ok .next) { s with heap := h, toks := tk }) :
    codeAny (model prog w) A (.forLoop (.Name x px) (.ref I) body [] env) R s := by
  refine forOwn (k := cs.length + 1) hx hp F N (LexSt w.params a tl I q te np total J JE) (.run cs vs nS n tn hj hS hlen hasc htot) ?_
  clear hj hS hlen hasc htot F N
  intro k m₁ news₁ h tk kn hJ F N hkn
  cases hJ with
  | run cs vs nS n tn hj hS hlen hasc htot =>
    refine next_read (news := []) ha hS hlen hasc hh F N X T hdep hu hIq hoff.led (fun c r h2 tk2 nS2 tn2 t2 e F2 N2 => ?_) (fun h2 tk2 nS2 tn2 e F2 N2 => ?_)
    · subst e
      exact ⟨_, _, _, rfl, F2, N2, fun h3 tk3 F3 N3 => turn c r vs.tail nS2 (n + nl (c :: r)) tn2 t2 m₁ h3 tk3 kn hj hS.tl hlen (fun d hd => hasc d (.tail _ hd)) (nl_step htot) F3 N3
        (fun cs' vs' nS' n' tn' h' tk' m' hl hj hS ha ht F' N' => hkn _ _ _ _ _ (Nat.succ_lt_succ (Nat.lt_succ_of_le hl)) F' N' (.run cs' vs' nS' n' tn' hj hS (Nat.le_trans hl (Nat.le_of_lt hlen)) ha ht))
        (fun nS' tn' h' tk' m' hj F' N' => hkn _ _ _ _ _ (Nat.succ_pos _) F' N' (.over nS' tn' hj))⟩
    · subst e
      have e0 : n = total := by rw [← htot]; exact (Int.add_zero n).symm
      subst e0
      exact over _ _ _ _ _ (.inl hj) F2 N2
  | over nS tn hj =>
    refine next_ci_end hh (N _ (.head _)).1 (fun h' hI hx => ?_)
    have ha1 := (N _ (.head _)).2
    refine over nS tn h' tk _ (.inr hj) ⟨F.ns.extBut hx ha1.1.symm, fun b o e => hx b o (fun hb => by rw [hb, ha1.2] at e; cases e) (F.keep b o e), F.above⟩ (fun p hp => ?_)
    rcases List.mem_cons.mp hp with rfl | hp2
    · exact ⟨hI, ha1⟩
    · refine ⟨hx _ _ ?_ (N p hp).1, (N p hp).2⟩
      rcases List.mem_cons.mp hp2 with rfl | hp3
      · exact hIq.symm
      · exact (hoff.led p hp3).1
inductive LoopSt (a : LexP) (I : Nat) (target : List Nat × List Nat) (f : List Nat → List Nat → List Nat × List Nat) (cs : List Nat) (m : Str → Option Value) : Prop
  | mk (acc : List Nat) (tt : Tok) (hsay : Says m (lexSay a I acc tt)) (hlen : acc.length + cs.length ≤ 10000) (hf : f acc cs = target)
set_option maxHeartbeats 1000000 in
theorem quoted_loop (hh : A.handled = none) (ha : a.Ok tl) (X : (hdK.heap_1 w.params).In g) (T : Top p loose mean mg mb g) (hdep : A.depth + 10 < recursionLimit) (hu : A.units + 200 < cLine) (hIq : I ≠ q) (hoff : a.Off tl I q)
    (F : Fr g L s.heap m) (hsay : Says m (lexSay a I acc tt)) (N : News g L s.heap (lexNews w.params a tl I q te vs nS n tn np)) (hS : SignsAre vs cs) (hlen : acc.length + cs.length ≤ 10000) (hasc : Asc cs) (htot : n + nls cs = total) (hf : quoted acc cs = target)
    (hret : ∀ vs' nS' n' tn' t h' tk m', n' + nls target.2 = total → SignsAre vs' target.2 → Fr g L h' m' → News g L h' (lexNews w.params a tl I q te vs' nS' n' tn' np) → R (.ok (.ret (.str (txt target.1) t))) { s with heap := h', toks := tk })
    (hend : ∀ acc' nS' tn' tt' h' tk m', target = (acc', []) → Says m' (lexSay a I acc' tt') → Fr g L h' m' → News g L h' (lexOver w.params a tl I q nS' total tn' np) → R (.ok .next) { s with heap := h', toks := tk }) :
    codeAny (model prog w) A (.forLoop (.Name (Str.ofString "ch") (loops108 w.params).1.2.1.1) (.ref I) (loops108 w.params).1.2.1.2 [] (env108 w.params L)) R s := by
  refine lexLoop rfl rfl hh ha X T hdep hu hIq hoff F N hS (Nat.le_trans (Nat.le_add_left ..) hlen) hasc htot (LoopSt a I target quoted) (fun _ => False) ⟨acc, tt, hsay, hlen, hf⟩ ?_ ?_
  · clear htot hf hS hlen hasc hsay F N
    have hcLine : cLine = 9900 := rfl
    have hrec : recursionLimit = 1000 := rfl
    intro c r vs nS n tn t m₁ h tk kn hJ hS hr hasc htot F N hkn _
    obtain ⟨acc, tt, hsay, hlen, hf⟩ := hJ
    refine gen_K fun KT hKT => ?_
    have F4 := Mine.Fr.saidIf F hsay
    clear F
    dsimp only [env108, loops108, lexSay] at F4 ⊢
    have hal : acc.length + r.length + 1 ≤ 10000 := hlen
    have hr2 : r.tail.length ≤ r.length := by rw [List.length_tail]; exact Nat.sub_le ..
    iterate 6 walk1
    rw [txt_is34]
    by_cases h34 : c = 34
    · subst h34
      iterate 6 walk1
      rw [quoted_34] at hf
      subst hf
      exact hKT _ _ (hret _ _ _ _ _ _ _ _ htot hS F4 N)
    · rw [beq_false_of_ne h34]
      iterate 9 walk1
      rw [txt_is92]
      by_cases h92 : c = 92
      · subst h92
        repeat walk1
        refine call_read (cs := r) hh ha X T hdep hu hoff F4 N hS (Nat.le_of_lt hr) hasc (fun t3 nS3 tn3 h₂ tk₂ F5 N5 => ?_)
        clear N F4
        have hr1 : (r.take 1).length ≤ 1 := List.length_take_le ..
        have hr3 := take_tail r
        iterate 8 walk1
        rw [txt_append]
        iterate 2 walk1
        with_reducible rename Fr _ _ _ _ => F7
        with_reducible rename News _ _ _ _ => N7
        refine hKT _ _ (hkn r.tail _ _ _ _ _ _ _ hr2 ⟨acc ++ r.take 1, _, says_cons (by rfl) (says_cons (by rfl) (says_cons (by rfl) says_nil)), ?_, quoted_esc.symm.trans hf⟩ hS.tl' (fun d hd => hasc d (List.mem_of_mem_tail hd)) (nl_tail.trans htot) F7 N7)
        rw [List.length_append, Nat.add_assoc, hr3]; exact Nat.le_of_succ_le hal
      · rw [beq_false_of_ne h92]
        iterate 10 walk1
        rw [txt_append]
        iterate 2 walk1
        with_reducible rename Fr _ _ _ _ => F7
        with_reducible rename News _ _ _ _ => N7
        refine hKT _ _ (hkn r _ _ _ _ _ _ _ (Nat.le_refl _) ⟨acc ++ [c], _, says_cons (by rfl) (says_cons (by rfl) (says_cons (by rfl) says_nil)), ?_, (quoted_c h34 h92).symm.trans hf⟩ hS hasc htot F7 N7)
        rw [List.length_append, Nat.add_right_comm]; exact hal
  · intro nS tn h tk m' hj F N
    obtain ⟨acc, tt, hsay, hlen, hf⟩ | hj := hj
    · exact hend acc _ _ tt _ _ _ hf.symm hsay F N
    · exact hj.elim
set_option maxHeartbeats 1000000 in
theorem bare_loop (hh : A.handled = none) (ha : a.Ok tl) (X : (hdK.heap_1 w.params).In g) (T : Top p loose mean mg mb g) (hdep : A.depth + 10 < recursionLimit) (hu : A.units + 200 < cLine) (hIq : I ≠ q) (hoff : a.Off tl I q)
    (F : Fr g L s.heap m) (hsay : Says m (lexSay a I acc tt)) (N : News g L s.heap (lexNews w.params a tl I q te vs nS n tn np)) (hS : SignsAre vs cs) (hlen : acc.length + cs.length ≤ 10000) (hasc : Asc cs) (htot : n + nls cs = total) (hf : bare acc cs = target)
    (hret : ∀ vs' nS' n' tn' t h' tk m', n' + nls target.2 = total → SignsAre vs' target.2 → Fr g L h' m' → News g L h' (lexNews w.params a tl I q te vs' nS' n' tn' np) → R (.ok (.ret (.str (txt target.1) t))) { s with heap := h', toks := tk })
    (hend : ∀ acc' nS' tn' tt' h' tk m', target = (acc', []) → Says m' (lexSay a I acc' tt') → Fr g L h' m' → News g L h' (lexOver w.params a tl I q nS' total tn' np) → R (.ok .next) { s with heap := h', toks := tk }) :
    codeAny (model prog w) A (.forLoop (.Name (Str.ofString "ch") (loops108 w.params).1.2.2.1) (.ref I) (loops108 w.params).1.2.2.2 [] (env108 w.params L)) R s := by
  refine lexLoop rfl rfl hh ha X T hdep hu hIq hoff F N hS (Nat.le_trans (Nat.le_add_left ..) hlen) hasc htot (LoopSt a I target bare) (fun _ => False) ⟨acc, tt, hsay, hlen, hf⟩ ?_ ?_
  · clear htot hf hS hlen hasc hsay F N
    have hcLine : cLine = 9900 := rfl
    have hrec : recursionLimit = 1000 := rfl
    intro c r vs nS n tn t m₁ h tk kn hJ hS hr hasc htot F N hkn _
    obtain ⟨acc, tt, hsay, hlen, hf⟩ := hJ
    refine gen_K fun KT hKT => ?_
    have F4 := Mine.Fr.saidIf F hsay
    clear F
    dsimp only [env108, loops108, lexSay] at F4 ⊢
    have hal : acc.length + r.length + 1 ≤ 10000 := hlen
    have hr2 : r.tail.length ≤ r.length := by rw [List.length_tail]; exact Nat.sub_le ..
    iterate 8 walk1
    rw [in_ws_eq]
    by_cases hw : ws c = true
    · rw [hw]
      iterate 6 walk1
      rw [bare_ws hw] at hf
      subst hf
      exact hKT _ _ (hret _ _ _ _ _ _ _ _ htot hS F4 N)
    · rw [Bool.not_eq_true] at hw
      rw [hw]
      iterate 9 walk1
      rw [txt_is92]
      by_cases h92 : c = 92
      · subst h92
        repeat walk1
        refine call_read (cs := r) hh ha X T hdep hu hoff F4 N hS (Nat.le_of_lt hr) hasc (fun t3 nS3 tn3 h₂ tk₂ F5 N5 => ?_)
        clear N F4
        have hr1 : (r.take 1).length ≤ 1 := List.length_take_le ..
        have hr3 := take_tail r
        iterate 8 walk1
        rw [txt_append]
        iterate 2 walk1
        with_reducible rename Fr _ _ _ _ => F7
        with_reducible rename News _ _ _ _ => N7
        refine hKT _ _ (hkn r.tail _ _ _ _ _ _ _ hr2 ⟨acc ++ r.take 1, _, says_cons (by rfl) (says_cons (by rfl) (says_cons (by rfl) says_nil)), ?_, bare_esc.symm.trans hf⟩ hS.tl' (fun d hd => hasc d (List.mem_of_mem_tail hd)) (nl_tail.trans htot) F7 N7)
        rw [List.length_append, Nat.add_assoc, hr3]; exact Nat.le_of_succ_le hal
      · rw [beq_false_of_ne h92]
        iterate 10 walk1
        rw [txt_append]
        iterate 2 walk1
        with_reducible rename Fr _ _ _ _ => F7
        with_reducible rename News _ _ _ _ => N7
        refine hKT _ _ (hkn r _ _ _ _ _ _ _ (Nat.le_refl _) ⟨acc ++ [c], _, says_cons (by rfl) (says_cons (by rfl) (says_cons (by rfl) says_nil)), ?_, (bare_c hw h92).symm.trans hf⟩ hS hasc htot F7 N7)
        rw [List.length_append, Nat.add_right_comm]; exact hal
  · intro nS tn h tk m' hj F N
    obtain ⟨acc, tt, hsay, hlen, hf⟩ | hj := hj
    · exact hend acc _ _ tt _ _ _ hf.symm hsay F N
    · exact hj.elim
end
end

noncomputable section
example : True := by -- walkOff_D10
  w_top off
  exact True.intro
inductive WordSt (a : LexP) (I : Nat) (target : List Nat × List Nat) (cs : List Nat) (m : Str → Option Value) : Prop
  | mk (tt : Tok) (hsay : Says m (lexSay a I [] tt)) (hf : word cs = target)
inductive WordEnd (a : LexP) (I : Nat) (target : List Nat × List Nat) (m : Str → Option Value) : Prop
  | mk (acc : List Nat) (tt : Tok) (hsay : Says m (lexSay a I acc tt)) (htar : target = (acc, []))
set_option maxHeartbeats 1000000 in
theorem get_word {a : LexP} {tl : List (Addr × Obj)} {vs : List Value} {cs : List Nat} {nS np : Nat} {n : Int} {tn : Tok} (ha : a.Ok tl) (hS : SignsAre vs cs) (hcs : cs.length ≤ 10000) (hasc : Asc cs) :
    Meets prog w (hdK.heap_1 w.params) (.call (.ref 125) ⟨[.ref a.x], []⟩) (a.led w.params vs nS n tn [] np ++ tl) 20 300 (fun n₀ v l' => ∃ vs' nS' tn' t, v = .str (txt (word cs).1) t ∧ SignsAre vs' (word cs).2 ∧ l' = a.led w.params vs' nS' (n + nls cs - nls (word cs).2) tn' [] np ++ tl) := by
  have ha' := ha
  obtain ⟨⟨e1, e2, e3, e4, e5, e6, e7, e8⟩, hcell, hmade, ⟨p1, p2, p3, p4, p5, p6, p7, p8, p9⟩⟩ := ha'
  refine meets_def (by k_is) (by k_is) (fun s => BindsTo.of_eq rfl) (locs rfl) (by decide) (fun A s g p loose mean mg mb n₀ L h₁ tk k hh hdep hu X T hn hfp F N hk => ?_)
  try dsimp only
  dsimp only [LexP.led, List.cons_append, List.nil_append] at N
  have hcLine : cLine = 9900 := rfl
  have hrec : recursionLimit = 1000 := rfl
  have hl1 : ∀ p ∈ tl, p.1 < n₀ := fun p hp => hfp p (List.mem_append_right _ hp)
  have hpb : a.pb < n₀ := hfp _ (.head _)
  clear hfp
  iterate 26 walk1
  with_reducible rename Fr _ _ _ _ => F2
  with_reducible rename News _ _ _ _ => N2
  with_reducible rename _ < _ ∧ _ => hlt
  rename Addr => q
  refine iter2_K F2 N2 (.head _) (fun I h₃ F3 N3 hI => ?_)
  k_lt hI
  clear F2 N2
  iterate 3 walk1
  refine For_own ?_
  iterate 1 walk1
  with_reducible rename Fr _ _ _ _ => F4
  with_reducible rename News _ _ _ _ => N4
  refine iter_ci (N4 _ (.head _)).1 ?_
  have hlowq : ∀ p ∈ tl, p.1 < q := lowAll hlt.2.2.2.2.2.2.2.2.2
  have hoff : a.Off tl I q := fun b hb => by
    have hpbq : a.pb < q := hlt.1
    have hqI : q < I := hI.1
    have hk : b < q := by
      rcases List.mem_append.mp hb with hb | hb
      · simp only [List.mem_cons, List.not_mem_nil, or_false] at hb
        have hle : b ≤ a.pb := by rcases hb with rfl | rfl | rfl | rfl | rfl | rfl | rfl | rfl | rfl <;> omega
        exact Nat.lt_of_le_of_lt hle hpbq
      · obtain ⟨p, hp, rfl⟩ := List.mem_map.mp hb
        exact hlowq p hp
    exact ⟨Nat.ne_of_lt (Nat.lt_trans hk hqI), Nat.ne_of_lt hk⟩
  have hIq : I ≠ q := Nat.ne_of_gt hI.1
  obtain ⟨te, hte⟩ : ∃ te : Tok, News g L _ (lexNews w.params a tl I q te vs nS n tn np) := ⟨_, N4⟩
  have hd10 : A.depth + 10 < recursionLimit := by omega
  have hu200 : A.units + 200 < cLine := by omega
  refine lexLoop (total := n + nls cs) rfl rfl hh ha X T hd10 hu200 hIq hoff F4 hte hS hcs hasc rfl (WordSt a I (word cs)) (WordEnd a I (word cs)) ⟨_, says_cons (by rfl) (says_cons (by rfl) (says_cons (by rfl) says_nil)), rfl⟩ ?_ ?_
  · generalize word cs = target at hk
    generalize n + nls cs = total at hk
    clear hS hasc hcs F4 N4 hte hI hlt hl1
    intro c r vs nS n tn t m₁ h tk kn hJ hS hr hasc htot F N hkn hke
    obtain ⟨tt, hsay, hf⟩ := hJ
    have fin : ∀ vs' nS' n' tn' t h' tk m', n' + nls target.2 = total → SignsAre vs' target.2 → Fr g L h' m' → News g L h' (lexNews w.params a tl I q te vs' nS' n' tn' np) → k (.ret (.str (txt target.1) t)) { s with heap := h', toks := tk } := by
      intro vs' nS' n' tn' t h' tk m' e hS F N
      refine hk _ _ h' tk m' ⟨vs', nS', tn', t, rfl, hS, rfl⟩ F (fun p hp => N p (.tail _ (.tail _ ?_)))
      have e2 : total - nls target.2 = n' := by rw [← e]; exact Int.add_sub_cancel ..
      rw [e2] at hp
      exact hp
    refine gen_K fun KT hKT => ?_
    replace fin := fun vs' nS' n' tn' t h' tk m' e hS F N => hKT (.ret _) _ (fin vs' nS' n' tn' t h' tk m' e hS F N)
    have ken : ∀ acc' nS' tn' tt' h' tk m', target = (acc', []) → Says m' (lexSay a I acc' tt') → Fr g L h' m' → News g L h' (lexOver w.params a tl I q nS' total tn' np) → KT .next { s with heap := h', toks := tk } := fun acc' nS' tn' tt' h' tk m' e hsay F N => hKT .next _ (hke nS' tn' h' tk m' ⟨acc', tt', hsay, e⟩ F N)
    have kgo := fun cs' vs' nS' n' tn' h' tk' m' hl hj hS ha ht F N => hKT .cont _ (hkn cs' vs' nS' n' tn' h' tk' m' hl hj hS ha ht F N)
    clear hKT hkn hke hk
    have F4 := Mine.Fr.saidIf F hsay
    clear F
    dsimp only [lexSay] at F4 ⊢
    have hr2 : r.tail.length ≤ r.length := by rw [List.length_tail]; exact Nat.sub_le ..
    iterate 8 walk1
    rw [in_ws_eq]
    by_cases hw : ws c = true
    · rw [hw]
      repeat walk1
      exact kgo r _ _ _ _ _ _ _ (Nat.le_refl _) ⟨_, says_cons (by rfl) (says_cons (by rfl) (says_cons (by rfl) says_nil)), (word_ws hw).symm.trans hf⟩ hS hasc htot F4 N
    · rw [Bool.not_eq_true] at hw
      rw [hw]
      iterate 10 walk1
      rw [txt_is34]
      by_cases h34 : c = 34
      · subst h34
        iterate 4 walk1
        refine For_own ?_
        iterate 1 walk1
        refine iter_ci (N _ (.head _)).1 ?_
        refine quoted_loop (acc := []) (cs := r) (target := target) hh ha X T hd10 hu200 hIq hoff F4 (says_cons (by rfl) (says_cons (by rfl) (says_cons (by rfl) says_nil))) N hS (by rw [List.length_nil, Nat.zero_add]; exact Nat.le_of_lt hr) hasc htot (word_34.symm.trans hf) fin ?_
        intro acc' nS' tn' tt' h' tk m' hq hsay' F' N'
        dsimp only
        iterate 2 walk1
        exact ken _ _ _ _ _ _ _ hq hsay' F' N'
      · rw [beq_false_of_ne h34]
        iterate 9 walk1
        rw [txt_is92]
        by_cases h92 : c = 92
        · subst h92
          repeat walk1
          refine call_read (cs := r) hh ha X T hd10 hu200 hoff F4 N hS (Nat.le_of_lt hr) hasc (fun t3 nS3 tn3 h₂ tk₂ F5 N5 => ?_)
          clear N F4
          have hr1 : (r.take 1).length ≤ 1 := List.length_take_le ..
          have hr3 := take_tail r
          iterate 8 walk1
          dsimp only
          iterate 2 walk1
          with_reducible rename Fr _ _ _ _ => F5
          with_reducible rename News _ _ _ _ => N5
          rw [txt_append] at F5
          refine For_own ?_
          iterate 1 walk1
          refine iter_ci (N5 _ (.head _)).1 ?_
          refine bare_loop (acc := r.take 1) (cs := r.tail) (target := target) hh ha X T hd10 hu200 hIq hoff F5 (says_cons (by rfl) (says_cons (by rfl) (says_cons (by rfl) says_nil))) N5 hS.tl' (by rw [hr3]; exact Nat.le_of_lt hr) (fun d hd => hasc d (List.mem_of_mem_tail hd)) (nl_tail.trans htot) (word_esc.symm.trans hf) fin ?_
          intro acc' nS' tn' tt' h' tk m' hq hsay' F' N'
          dsimp only
          iterate 2 walk1
          exact ken _ _ _ _ _ _ _ hq hsay' F' N'
        · rw [beq_false_of_ne h92]
          iterate 11 walk1
          with_reducible rename Fr _ _ _ _ => F5
          with_reducible rename News _ _ _ _ => N5
          rw [txt_append] at F5
          refine For_own ?_
          iterate 1 walk1
          refine iter_ci (N5 _ (.head _)).1 ?_
          refine bare_loop (acc := [c]) (cs := r) (target := target) hh ha X T hd10 hu200 hIq hoff F5 (says_cons (by rfl) (says_cons (by rfl) (says_cons (by rfl) says_nil))) N5 hS (by rw [List.length_singleton, Nat.add_comm]; exact hr) hasc htot ((word_c hw h34 h92).symm.trans hf) fin ?_
          intro acc' nS' tn' tt' h' tk m' hq hsay' F' N'
          dsimp only
          iterate 2 walk1
          exact ken _ _ _ _ _ _ _ hq hsay' F' N'
  · intro nS' tn' h tk m' hj F N
    have hJ : ∃ acc tt, Says m' (lexSay a I acc tt) ∧ word cs = (acc, []) := by
      rcases hj with ⟨tt, hsay, hf⟩ | ⟨acc, tt, hsay, hf⟩
      · exact ⟨[], tt, hsay, by rw [← hf, word_nil]⟩
      · exact ⟨acc, tt, hsay, hf⟩
    obtain ⟨acc, tt, hsay, hf⟩ := hJ
    rw [hf] at hk
    clear hS hasc hcs F4 N4 hte hI hlt hl1
    have F4 := Mine.Fr.said F hsay
    dsimp only [lexSay] at F4
    dsimp only
    repeat walk1
    refine hk _ _ _ _ _ ⟨[], nS', tn', _, rfl, .nil, rfl⟩ F4 (fun p hp => N p (.tail _ (.tail _ ?_)))
    rw [nls_nil, Int.sub_zero] at hp
    exact hp
end

noncomputable section
example : True := by -- walkOff_D11
  w_top off
  exact True.intro
noncomputable def quote (l : List Nat) : List Nat := stuff true (crlf l)
theorem crlf_len : ∀ l : List Nat, (crlf l).length ≤ 2 * l.length := by
  intro l
  induction h : l.length using Nat.strongRecOn generalizing l with
  | _ n ih =>
    subst h
    cases l with
    | nil => simp [crlf]
    | cons c r =>
      by_cases hc : c = 10 ∨ c = 13
      · by_cases h2 : c = 13 ∧ r.head? = some 10
        · obtain ⟨rfl, h2⟩ := h2
          cases r with
          | nil => simp at h2
          | cons d r =>
            simp at h2
            subst h2
            have := ih r.length (by simp; omega) r rfl
            rw [crlf_pair]
            simp
            omega
        · have := ih r.length (by simp) r rfl
          rcases hc with rfl | rfl
          · rw [crlf_lf]; simp; omega
          · rw [crlf_cr (fun e => h2 ⟨rfl, e⟩)]; simp; omega
      · have := ih r.length (by simp) r rfl
        rw [crlf_other hc]; simp; omega
theorem stuff_len : ∀ (l : List Nat) (b : Bool), (stuff b l).length ≤ 2 * l.length
  | [], _ => by simp [stuff]
  | c :: r, b => by
    have := stuff_len r (c == 10)
    rw [stuff_cons]
    split <;> simp <;> omega
noncomputable def o127 (P : Params) : { o : Obj // (hdK.heap_1 P).lookup 43 = some o } := ⟨_, by k_is⟩
noncomputable def o132 (P : Params) : { o : Obj // (hdK.heap_1 P).lookup 48 = some o } := ⟨_, by k_is⟩
noncomputable def o126 (P : Params) : { o : Obj // (hdK.heap_1 P).lookup 42 = some o } := ⟨_, by k_is⟩
noncomputable def o131 (P : Params) : { o : Obj // (hdK.heap_1 P).lookup 47 = some o } := ⟨_, by k_is⟩
theorem pat127 {P : Params} {g : Heap} (X : (hdK.heap_1 P).In g) : PatAt g 43 codeDot :=
  ⟨(o127 P).1, _, 42, (o126 P).1, _, _, X _ _ (o127 P).2, rfl, rfl, rfl, rfl, X _ _ (o126 P).2, rfl, by simp [Builtin.Re.reRawOf, codeDot]⟩
theorem pat132 {P : Params} {g : Heap} (X : (hdK.heap_1 P).In g) : PatAt g 48 codeEnd :=
  ⟨(o132 P).1, _, 47, (o131 P).1, _, _, X _ _ (o132 P).2, rfl, rfl, rfl, rfl, X _ _ (o131 P).2, rfl, by simp [Builtin.Re.reRawOf, codeEnd]⟩
set_option maxHeartbeats 1000000 in
theorem quotedata {l : List Nat} {t : Tok} (hl : l.length ≤ 10000) :
    Meets prog w (hdK.heap_1 w.params) (.call (.ref 55) ⟨[.str (txt l) t], []⟩) [] 10 200 (fun n₀ v l' => ∃ t, v = .str (txt (quote l)) t ∧ l' = []) := by
  refine meets_def (by k_is) (by k_is) (fun s => BindsTo.of_eq rfl) (locs rfl) (by decide) (fun A s g p loose mean mg mb n₀ L h₁ tk k hh hdep hu X T hn hfp F N hk => ?_)
  try dsimp only
  have hcLine : cLine = 9900 := rfl
  have hrec : recursionLimit = 1000 := rfl
  (repeat' (first | walk1 | (dsimp only; walk1)))
  have T1 : ∀ h : Heap, (∀ b o, g.get? b = some o → h.get? b = some o) → ∃ o, h.get? 43 = some o ∧ o.cls = .type "re.Pattern" ∧ o.dict = none := fun h k => ⟨(o127 w.params).1, k _ _ (X _ _ (o127 w.params).2), rfl, rfl⟩
  have T2 : ∀ h : Heap, (∀ b o, g.get? b = some o → h.get? b = some o) → ∃ o, h.get? 48 = some o ∧ o.cls = .type "re.Pattern" ∧ o.dict = none := fun h k => ⟨(o132 w.params).1, k _ _ (X _ _ (o132 w.params).2), rfl, rfl⟩
  obtain ⟨oa, ha1, ha2, ha3⟩ := T1 _ F.keep
  refine getMethod_builtin ⟨oa, ha1, ha2⟩ plainAttrs_pat slot_re_sub type_re_sub (fun a e => by cases e; exact ⟨oa, ha1, ha3⟩) ?_
  dsimp only
  iterate 6 walk1
  obtain ⟨ob, hb1, hb2, hb3⟩ := T2 _ F.keep
  refine getMethod_builtin ⟨ob, hb1, hb2⟩ plainAttrs_pat slot_re_sub type_re_sub (fun a e => by cases e; exact ⟨ob, hb1, hb3⟩) ?_
  dsimp only
  iterate 6 walk1
  have hl2 : l.length ≤ 100000 := by omega
  have hc2 := crlf_len l
  have hst := stuff_len (crlf l) true
  refine sub_K (r := Str.ofString "\r\n") (x := txt l) F N ⟨_, X _ _ (o132 w.params).2, rfl⟩ (finds_end l hl2) (by simpa using hl2) (by decide +kernel) (pat132 X) (by simp; omega) (fun h2 tk2 t2 F2 N2 => ?_)
  rw [List.drop_zero]
  walk1
  refine sub_K (r := Str.ofString "..") (x := txt (crlf l)) F2 N2 ⟨_, X _ _ (o127 w.params).2, rfl⟩ (finds_dot (crlf l) (by omega)) (by simp; omega) (by decide +kernel) (pat127 X) ?_ (fun h3 tk3 t3 F3 N3 => ?_)
  · rw [List.drop_zero]
    have e : ((0 : Nat) == 0 || (crlf l).getD (0 - 1) 0 == 10) = true := rfl
    rw [e]; omega
  · exact hk _ _ _ _ _ ⟨_, rfl, rfl⟩ F3 N3
end

noncomputable section
example : True := by -- walkOff_D12
  w_top off
  exact True.intro
set_option genInjectivity false in
set_option genSizeOfSpec false in
structure WsSt where
  (count : List Int) (b n nt : Nat)
noncomputable def bump (count : List Int) (b : Nat) : List Int := (fun c : List Int => c.set b (c.getD b 0 + 1)) (if count.length ≤ b then count ++ List.replicate (b - count.length + 1) 0 else count)
noncomputable def wsStep (σ : WsSt) (c : Nat) : WsSt := if c = 32 then ⟨σ.count, σ.b + 1, σ.n + 1, σ.nt⟩ else ⟨bump σ.count σ.b, 0, σ.n + 1, σ.nt + 1⟩
noncomputable def wsOf (l : List Nat) : WsSt := l.foldl wsStep ⟨[], 0, 0, 0⟩
theorem bump_len (count : List Int) (b : Nat) : (bump count b).length = max count.length (b + 1) := by
  unfold bump
  dsimp only
  rw [List.length_set]
  split
  · simp; omega
  · omega
theorem wsFold_len : ∀ (l : List Nat) (σ : WsSt) (k : Nat), σ.count.length ≤ k → σ.b ≤ k → (l.foldl wsStep σ).count.length ≤ k + l.length ∧ (l.foldl wsStep σ).b ≤ k + l.length
  | [], σ, k, h1, h2 => ⟨h1, h2⟩
  | c :: l, σ, k, h1, h2 => by
    have ih := wsFold_len l (wsStep σ c) (k + 1) (by
      unfold wsStep
      split
      · show σ.count.length ≤ k + 1; omega
      · show (bump _ _).length ≤ _; rw [bump_len]; omega) (by
      unfold wsStep
      split
      · show σ.b + 1 ≤ k + 1; omega
      · show 0 ≤ _; omega)
    rw [List.foldl_cons, List.length_cons]
    omega
theorem wsOf_len (l : List Nat) : (wsOf l).count.length ≤ l.length ∧ (wsOf l).b ≤ l.length := by
  have := wsFold_len l ⟨[], 0, 0, 0⟩ 0 (Nat.le_refl _) (Nat.le_refl _)
  rw [Nat.zero_add] at this
  exact this
theorem flat_zeros (n : Nat) : (List.replicate n [(0 : Int)]).flatten = List.replicate n 0 := by
  induction n with
  | zero => rfl
  | succ n ih => rw [List.replicate_succ, List.flatten_cons, ih]; rfl
theorem bump_new {count : List Int} {b : Nat} (h : count.length ≤ b) : (fun c : List Int => c.set b (c.getD b 0 + 1)) (count ++ (List.replicate ((b : Int) - (count.length : Int) + 1).toNat [(0 : Int)]).flatten) = bump count b := by
  unfold bump
  rw [if_pos h, flat_zeros]
  have e : ((b : Int) - (count.length : Int) + 1).toNat = b - count.length + 1 := by omega
  rw [e]
theorem bump_old {count : List Int} {b : Nat} (h : b < count.length) : count.set b (count.getD b 0 + 1) = bump count b := by
  unfold bump
  rw [if_neg (by omega)]
theorem own_sep {own : List (Addr × Obj)} {D : Nat} {o : Obj} {r : List (Addr × Obj)} (h : AllLt D own) (hr : ∀ q ∈ r, ∀ p ∈ own, p.1 ≠ q.1) : ∀ q ∈ (D, o) :: r, ∀ p ∈ own, p.1 ≠ q.1 := fun q hq p hp => by
  rcases List.mem_cons.mp hq with rfl | hq
  · exact Nat.ne_of_lt (lowAll h p hp)
  · exact hr q hq p hp
theorem get_ne {h : Heap} {a b : Nat} {o o' : Obj} (h1 : h.get? a = some o) (h2 : h.get? b = some o') (h3 : o.cls ≠ o'.cls) : @Ne Nat a b := fun e => by
  rw [e, h2] at h1; exact h3 (congrArg Obj.cls (Option.some.inj h1)).symm
theorem sep_head {own : List (Addr × Obj)} {D : Addr} {o o' : Obj} {r : List (Addr × Obj)} (h : ∀ q ∈ (D, o) :: r, ∀ p ∈ own, p.1 ≠ q.1) : ∀ q ∈ (D, o') :: r, ∀ p ∈ own, p.1 ≠ q.1 := fun q hq p hp => by
  rcases List.mem_cons.mp hq with rfl | hq
  · exact h _ (.head _) p hp
  · exact h q (.tail _ hq) p hp
theorem news_skip {h₀ h : Heap} {L : Addr} {a b c : Addr × Obj} {r : List (Addr × Obj)} (N : News h₀ L h (a :: b :: c :: r)) : News h₀ L h (a :: b :: r) := fun p hp => N p (by
  rcases List.mem_cons.mp hp with rfl | hp
  · exact .head _
  · rcases List.mem_cons.mp hp with rfl | hp
    · exact .tail _ (.head _)
    · exact .tail _ (.tail _ (.tail _ hp)))
theorem news_drop3 {h₀ h : Heap} {L : Addr} {a b c d : Addr × Obj} {r : List (Addr × Obj)} (N : News h₀ L h (a :: b :: c :: d :: r)) : News h₀ L h (a :: r) := fun p hp => N p (by
  rcases List.mem_cons.mp hp with rfl | hp
  · exact .head _
  · exact .tail _ (.tail _ (.tail _ (.tail _ hp))))
noncomputable def Blank (l : List Nat) : Prop := ∀ c ∈ l, c = 32 ∨ c = 9
noncomputable abbrev wsSay (x D : Nat) (σ : WsSt) (tb tn tt : Tok) : List (Str × Value) := [(Str.ofString "self", .ref x), (Str.ofString "S", .str (Str.ofString " ") 515), (Str.ofString "T", .str (Str.ofString "\t") 516), (Str.ofString "count", .ref D), (Str.ofString "b", .int σ.b tb), (Str.ofString "n", .int σ.n tn), (Str.ofString "nt", .int σ.nt tt)]
noncomputable abbrev wsLed (P : Params) (x dx D : Nat) (l : List Nat) (t tr : Tok) (vs : List Value) (nC : Nat) : List (Addr × Obj) := [(D, listOf vs.toArray nC), (x, instObj 201 dx), (dx, dictOf [ent P "raw" tr (.str (txt l) t)] 1)]
inductive WsJ (P : Params) (x dx : Nat) (l : List Nat) (t tr : Tok) (i : Nat) (m : Str → Option Value) : List (Addr × Obj) → Prop
  | mk (D : Nat) (vs : List Value) (nC : Nat) (tb tn tt : Tok) (hsay : Says m (wsSay x D (wsOf (l.take i)) tb tn tt)) (hI : IntsAre vs (wsOf (l.take i)).count) (hD1 : x < D) (hD2 : dx < D) : WsJ P x dx l t tr i m (wsLed P x dx D l t tr vs nC)
theorem WsJ.next {P : Params} {x dx : Nat} {l : List Nat} {t tr : Tok} {i c : Nat} {σ : WsSt} (hst : wsOf (l.take (i + 1)) = wsStep σ c) {m : Str → Option Value} {D : Nat} {vs : List Value} {nC : Nat} {tb tn tt : Tok} (hsay : Says m (wsSay x D (wsStep σ c) tb tn tt)) (hI : IntsAre vs (wsStep σ c).count) (hD1 : x < D) (hD2 : dx < D) : WsJ P x dx l t tr (i + 1) m (wsLed P x dx D l t tr vs nC) :=
  .mk D vs nC tb tn tt (by rw [hst]; exact hsay) (by rw [hst]; exact hI) hD1 hD2
set_option genInjectivity false in
set_option genSizeOfSpec false in
structure WsP where
  (tN tC x dx : Nat)
  (t0 t1 t2 t3 t4 t5 t6 t7 t8 t9 : Tok)
  v : Value
noncomputable abbrev WsP.led (a : WsP) (P : Params) (l : List Nat) (σ : WsSt) (vs : List Value) : List (Addr × Obj) :=
  [(a.tN, { cls := .type "tuple", data := .seq #[.ref a.tC, .int σ.b a.t0] }), (a.tC, { cls := .type "tuple", data := .seq vs.toArray }), (a.x, instObj 201 a.dx),
    (a.dx, dictOf [ent P "raw" a.t1 (.str (txt l) a.t2), ent P "n" a.t3 (.int σ.n a.t4), ent P "nt" a.t5 (.int σ.nt a.t6), ent P "norm" a.t7 (.ref a.tN), ent P "is_simple" a.t8 a.v] 5)]
noncomputable def wsNew (P : Params) (x dx : Nat) (l : List Nat) (t : Tok) (l' : List (Addr × Obj)) : Prop := ∃ (a : WsP) (vs : List Value), a.x = x ∧ a.dx = dx ∧ x < a.tN ∧ dx < a.tN ∧ a.tC < a.tN ∧ @Ne Nat a.tC x ∧ @Ne Nat a.tC dx ∧ IntsAre vs (wsOf l).count ∧ l' = a.led P l (wsOf l) vs
theorem txt_is32 (c : Nat) : (txt [c] == Str.ofString " ") = (c == 32) := txt_one_eq c 32
theorem txt_is9 (c : Nat) : (txt [c] == Str.ofString "\t") = (c == 9) := txt_one_eq c 9
set_option maxHeartbeats 1000000 in
theorem ws_init {x dx : Nat} {l : List Nat} {t : Tok} (hxd : dx < x) (hl : l.length ≤ 10000) (hb : Blank l) :
    Meets prog w (hdK.heap_1 w.params) (.call (.ref 156) ⟨[.ref x, .str (txt l) t], []⟩) [(x, instObj 201 dx), (dx, dictOf [] 0)] 10 200 (fun n₀ v' l' => v' = .none ∧ wsNew w.params x dx l t l') := by
  refine meets_def (by k_is) (by k_is) (fun s => BindsTo.of_eq rfl) (locs rfl) (by decide) (fun A s g p loose mean mg mb n₀ L h₁ tk k hh hdep hu X T hn hfp F N hk => ?_)
  try dsimp only
  have hcLine : cLine = 9900 := rfl
  have hrec : recursionLimit = 1000 := rfl
  have hx1 := hfp _ (.head _)
  have hx2 := hfp _ (.tail _ (.head _))
  dsimp only at hx1 hx2
  have hne1 : @Ne Nat x dx := by omega
  have hne2 : @Ne Nat dx x := by omega
  clear hfp
  refine gen_K fun KK hKK => ?_
  repeat (first | (k_here; k_dflt (refine' unpackItemsN_ ?k1 ?k2 ?k3 ?k4 ?k5 ?_; (case k1 => k_asm); (case k2 => k_asm); (case k3 => (refine News.isTup (by k_asm) (by k_mem))); (case k4 => assumption); (case k5 => exact rfl); k_whole); intro h' F' N'; (try k_sweep)) | walk1)
  with_reducible rename Fr _ _ _ _ => F2
  with_reducible rename News _ _ _ _ => N2
  rename_i l' _ _ _ _ _ _
  with_reducible rename _ < _ ∧ _ < _ ∧ _ < _ => hlt
  obtain ⟨tr, N3⟩ : ∃ tr, News g L _ (wsLed w.params x dx l' l t tr [] 0) := ⟨_, fun p hp => N2 p (by
    rcases List.mem_cons.mp hp with rfl | hp
    · exact .head _
    · exact .tail _ (.tail _ hp))⟩
  refine loopStr hh F2 N3 (WsJ w.params x dx l t tr) ⟨l', [], 0, _, _, _, says_cons (by rfl) (says_cons (by rfl) (says_cons (by rfl) (says_cons (by rfl) (says_cons (by rfl) (says_cons (by rfl) (says_cons (by rfl) says_nil)))))), .nil, hlt.2.1, hlt.2.2⟩ ?_ ?_
  · intro i c u m₁ news₁ h tk own kn hc hJ F N hsep hkn
    obtain ⟨D, vs, nC, tb, tn, tt, hsay, hI, hD1, hD2⟩ := hJ
    have F4 := Mine.Fr.saidIf F hsay
    have hst : wsOf (l.take (i + 1)) = wsStep (wsOf (l.take i)) c := by rw [List.take_add_one, hc]; simp [wsOf]
    have hln := wsOf_len (l.take i)
    have hli : (l.take i).length ≤ i := List.length_take_le ..
    have hil : i < l.length := (List.getElem?_eq_some_iff.mp hc).1
    generalize wsOf (l.take i) = σ at *
    have hvl : vs.length ≤ 10000 := by rw [hI.length]; omega
    have hvc : vs.length = σ.count.length := hI.length
    have hsb : σ.b ≤ 10000 := by omega
    clear F F2 N2 N3
    dsimp only [wsLed, ent, List.cons_append, List.nil_append] at N
    refine gen_K fun KT hKT => ?_
    iterate 6 walk1
    rw [txt_is32]
    by_cases h32 : c = 32
    · subst h32
      repeat walk1
      with_reducible rename Fr _ _ _ _ => F5
      with_reducible rename News _ _ _ _ => N5
      refine hKT _ _ (hkn _ _ _ _ F5 N5 hsep (WsJ.next hst (says_cons (by rfl) (says_cons (by rfl) (says_cons (by rfl) (says_cons (by rfl) (says_cons (by rfl) (says_cons (by rfl) (says_cons (by rfl) says_nil))))))) hI hD1 hD2))
    · rw [beq_false_of_ne h32]
      iterate 9 walk1
      have h9 : c = 9 := by
        rcases hb c (List.mem_of_getElem? hc) with h | h
        · exact absurd h h32
        · exact h
      subst h9
      rw [txt_is9, show ((9 : Nat) == 9) = true from rfl]
      have hsz : (vs.toArray.size : Int) < 2 ^ 63 := by simp; omega
      repeat walk1
      · rename_i hbl _ _ _ _ _ _ _ _ _ _ _ _ _ _ _ _ _ _ _ _ _ _
        with_reducible rename Fr _ _ _ _ => F7
        with_reducible rename News _ _ _ _ => N7
        with_reducible rename IntsAre (List.set _ _ _) _ => hI7
        with_reducible rename _ < _ ∧ _ < _ ∧ _ < _ ∧ _ < _ ∧ _ < _ ∧ AllLt _ own => l7
        have N8 := news_drop3 N7
        refine hKT _ _ (hkn _ _ _ _ F7 N8 (own_sep l7.2.2.2.2.2 fun q hq => hsep q (.tail _ hq)) (WsJ.next hst (says_cons (by rfl) (says_cons (by rfl) (says_cons (by rfl) (says_cons (by rfl) (says_cons (by rfl) (says_cons (by rfl) (says_cons (by rfl) says_nil))))))) ?_ l7.2.2.2.1 l7.2.2.2.2.1))
        · show IntsAre _ (bump σ.count σ.b)
          rw [← bump_new (by omega)]
          exact hI7
      · have hbc : (σ.b : Int) < (σ.count.length : Int) := by omega
        have hapD : ∀ p ∈ own, p.1 ≠ D := hsep _ (.head _)
        repeat walk1
        with_reducible rename Fr _ _ _ _ => F7
        with_reducible rename News _ _ _ _ => N7
        with_reducible rename IntsAre (List.set _ _ _) _ => hI7
        refine hKT _ _ (hkn _ _ _ _ F7 N7 (sep_head hsep) (WsJ.next hst (says_cons (by rfl) (says_cons (by rfl) (says_cons (by rfl) (says_cons (by rfl) (says_cons (by rfl) (says_cons (by rfl) (says_cons (by rfl) says_nil))))))) ?_ hD1 hD2))
        show IntsAre _ (bump σ.count σ.b)
        rw [← bump_old (by omega)]
        exact hI7
  · intro h tk m₁ news₁ hJ F N
    obtain ⟨D, vs, nC, tb, tn, tt, hsay, hI, hD1, hD2⟩ := hJ
    rw [List.take_length] at hsay hI
    have F4 := Mine.Fr.said F hsay
    clear F F2 N2 N3
    have hln := wsOf_len l
    unfold wsNew at hk
    generalize wsOf l = σ at *
    dsimp only [wsLed, ent] at N
    have hvl : vs.length ≤ 10000 := by rw [hI.length]; omega
    repeat walk1
    with_reducible rename Fr _ _ _ _ => F5
    with_reducible rename News _ _ _ _ => N5
    rename_i D1 _ _ D2 _ _
    have q1 : @Ne Nat D1 x := get_ne (N5 _ (.tail _ (.head _))).1 (N5 _ (.tail _ (.tail _ (.tail _ (.head _))))).1 (by simp)
    have q2 : @Ne Nat D1 dx := get_ne (N5 _ (.tail _ (.head _))).1 (N5 _ (.tail _ (.tail _ (.tail _ (.tail _ (.head _)))))).1 (by simp)
    repeat walk1
    with_reducible rename Fr _ _ _ _ => F7
    with_reducible rename News _ _ _ _ => N7
    with_reducible rename _ < _ ∧ _ < _ ∧ _ < _ ∧ _ < _ => hlt
    have N8 := news_skip N7
    refine hKK _ _ (hk _ _ _ _ _ ⟨rfl, ⟨D2, D1, x, dx, _, _, _, _, _, _, _, _, _, 0, _⟩, vs, rfl, rfl, hlt.2.2.1, hlt.2.2.2, hlt.1, q1, q2, hI, rfl⟩ F7 N8)
end

noncomputable section
example : True := by -- walkOff_D13
  w_top off
  exact True.intro
theorem whitespace {l : List Nat} {t : Tok} (hl : l.length ≤ 10000) (hb : Blank l) :
    Meets prog w (hdK.heap_1 w.params) (.call (.ref 201) ⟨[.str (txt l) t], []⟩) [] 11 201 (fun n₀ v l' => ∃ x dx, n₀ ≤ dx ∧ dx < x ∧ v = .ref x ∧ wsNew w.params x dx l t l') := by
  intro A s g p loose mean mg mb hh hdep hu W X T R hR
  exact Meets.make (by k_is) (by k_is) (by k_is) (fun x dx hxd => ws_init hxd hl hb) A s g p loose mean mg mb hh hdep hu W X T R hR
noncomputable def ilTo (size : Nat) (count : List Int) : Nat → Int
  | 0 => 0
  | k + 1 => ilTo size count k + ((k / size : Nat) : Int) * count.getD k 0
theorem ilTo_low {size : Nat} {count : List Int} : ∀ k, k ≤ size → ilTo size count k = 0
  | 0, _ => rfl
  | k + 1, h => by
    rw [ilTo, ilTo_low k (by omega), Nat.div_eq_of_lt (by omega)]
    simp
structure WsP.Apart (a : WsP) : Prop where
  e1 : a.dx < a.x
  e2 : a.x < a.tN
  e3 : a.dx < a.tN
  e4 : a.tC < a.tN
  e5 : @Ne Nat a.tC a.x
  e6 : @Ne Nat a.tC a.dx
set_option maxHeartbeats 1000000 in
theorem indent_level {a : WsP} {l : List Nat} {σ : WsSt} {vs : List Value} {size : Nat} {ts : Tok} (ha : a.Apart) (hI : IntsAre vs σ.count) (hs : 0 < size) (hsz : size ≤ 10000) (hc : σ.count.length ≤ 10000) :
    Meets prog w (hdK.heap_1 w.params) (.call (.ref 170) ⟨[.ref a.x, .int size ts], []⟩) (a.led w.params l σ vs) 10 200 (fun n₀ v l' => ∃ t, v = .int (σ.b + size * (ilTo size σ.count σ.count.length + σ.nt)) t ∧ l' = a.led w.params l σ vs) := by
  obtain ⟨tN, tC, x, dx, t0, t1, t2, t3, t4, t5, t6, t7, t8, t9, v⟩ := a
  obtain ⟨e1, e2, e3, e4, e5, e6⟩ := ha
  dsimp only [WsP.led] at *
  refine meets_def (by k_is) (by k_is) (fun s => BindsTo.of_eq rfl) (locs rfl) (by decide) (fun A s g p loose mean mg mb n₀ L h₁ tk k hh hdep hu X T hn hfp F N hk => ?_)
  try dsimp only
  have hcLine : cLine = 9900 := rfl
  have hrec : recursionLimit = 1000 := rfl
  clear hfp
  have hvl : vs.length ≤ 10000 := by rw [hI.length]; exact hc
  repeat (first | (k_here; (with_reducible show wpAny _ _ (assign (Expr.Tuple _ _ _) _ (Value.ref _)) _ _ _); k_dflt (refine' unpackN_ ?F ?N ?T ?k1 ?k2 ?k3 ?_; (case F => k_asm); (case N => k_asm); (case T => (refine News.isTup (by k_asm) (by k_mem))); (case k1 => assumption); (case k2 => exact rfl); (case k3 => exact rfl); k_whole); intro h' F' N'; (try k_sweep)) | walk1)
  refine len_tuple (News.isTup (by k_asm) (by k_mem)) (by simp; omega) ?_
  have esz : vs.toArray.size = σ.count.length := by simp [hI.length]
  rw [esz]
  repeat walk1
  with_reducible rename Fr _ _ _ _ => F2
  with_reducible rename News _ _ _ _ => N2
  with_reducible rename IsRange _ _ _ _ _ _ _ _ => hR
  have e0 : ilTo size σ.count (size + 0) = 0 := ilTo_low _ (Nat.le_refl _)
  refine loopRange hh (by first | exact ar_lim hdep (by decide) | exact ar_limD hdep (by decide) | omega) (by first | exact ar_lim hu (by decide) | exact ar_limU hu (by decide) | omega) hR F2 N2 (fun i m news => ∃ tl, Says m [(Str.ofString "self", .ref x), (Str.ofString "tabsize", .int size ts), (Str.ofString "trailing", .int σ.b t0), (Str.ofString "count", .ref tC), (Str.ofString "il", .int (ilTo size σ.count (size + i)) tl)] ∧ news = WsP.led ⟨tN, tC, x, dx, t0, t1, t2, t3, t4, t5, t6, t7, t8, t9, v⟩ w.params l σ vs)
    ⟨_, says_cons (by rfl) (says_cons (by rfl) (says_cons (by rfl) (says_cons (by rfl) (says_cons (show _ = some (Value.int (ilTo size σ.count (size + 0)) _) from by rw [e0]; rfl) says_nil)))), rfl⟩ ?_ ?_
  · intro i u m₁ news₁ h tk own kn hi hJ F N hsep hkn
    obtain ⟨tl, hsay, rfl⟩ := hJ
    have F4 := Mine.Fr.saidIf F hsay
    clear F F2 N2 hR
    have hbc : ((size + i : Nat) : Int) < (σ.count.length : Int) := by omega
    refine gen_K fun KT hKT => ?_
    repeat walk1
    have ed : ((size + i : Nat) : Int).fdiv (size : Int) = (((size + i) / size : Nat) : Int) := by
      rw [Int.fdiv_eq_ediv_of_nonneg _ (by omega)]
      exact (Int.natCast_ediv _ _).symm
    have hdl : (size + i) / size ≤ size + i := Nat.div_le_self ..
    rw [ed, Int.toNat_natCast]
    generalize hq : (size + i) / size = q at *
    refine mul_int ?_ (IntMulOk.of_left (intBits_le_64 (by omega) (by omega)))
    repeat walk1
    with_reducible rename Fr _ _ _ _ => F7
    with_reducible rename News _ _ _ _ => N7
    refine hKT _ _ (hkn _ _ _ _ F7 N7 (fun q hq => hsep q hq) ⟨_, says_cons (by rfl) (says_cons (by rfl) (says_cons (by rfl) (says_cons (by rfl) (says_cons (show _ = some (Value.int (ilTo size σ.count (size + (i + 1))) _) from by rw [← Nat.add_assoc, ilTo, hq]; rfl) says_nil)))), rfl⟩)
  · intro h tk m₁ news₁ hJ F N
    obtain ⟨tl, hsay, rfl⟩ := hJ
    have F4 := Mine.Fr.said F hsay
    clear F F2 N2 hR
    repeat walk1
    have e : ilTo size σ.count (size + (σ.count.length - size)) = ilTo size σ.count σ.count.length := by
      by_cases hle : size ≤ σ.count.length
      · rw [show size + (σ.count.length - size) = σ.count.length by omega]
      · rw [show size + (σ.count.length - size) = size by omega, ilTo_low _ (Nat.le_refl _), ilTo_low _ (by omega)]
    rw [e]
    exact hk _ _ _ _ _ ⟨_, rfl, rfl⟩ F4 N
end

noncomputable section
example : True := by -- walkOff_D20
  w_top off
  exact True.intro
noncomputable def climbStep (top : Nat) (st : Nat × List Nat) (x : Nat) : Nat × List Nat := (min top (st.1 + x % 3), st.2 ++ [min top (st.1 + x % 3)])
noncomputable def climb (top : Nat) (cs : List Nat) : List Nat := (cs.foldl (climbStep top) (0, [])).2
theorem climb_take {top : Nat} {cs : List Nat} {i : Nat} (hi : i < cs.length) : (cs.take (i + 1)).foldl (climbStep top) (0, []) = climbStep top ((cs.take i).foldl (climbStep top) (0, [])) cs[i] := by
  rw [List.take_add_one, List.getElem?_eq_getElem hi, List.foldl_append]; rfl
theorem climb_le {top : Nat} : ∀ (cs : List Nat) (st : Nat × List Nat), st.1 ≤ top → (cs.foldl (climbStep top) st).1 ≤ top
  | [], _, h => h
  | x :: cs, st, _ => climb_le cs _ (Nat.min_le_left _ _)
theorem min_two (a b : Nat) : (if ((b : Nat) : Int) < ((a : Nat) : Int) then ((b : Nat) : Int) else ((a : Nat) : Int)) = ((min a b : Nat) : Int) := by
  split <;> omega
theorem climb_len {top : Nat} : ∀ (cs : List Nat) (st : Nat × List Nat), (cs.foldl (climbStep top) st).2.length = st.2.length + cs.length
  | [], _ => rfl
  | x :: cs, st => by
    rw [List.foldl_cons, climb_len cs]
    simp only [climbStep, List.length_append, List.length_cons, List.length_nil]; omega
inductive JCl (top l l' nl : Nat) (vs : List Value) (cs : List Nat) (i : Nat) (m : Str → Option Value) : List (Addr × Obj) → Prop
  | mk (ys : List Value) (nD : Nat) (t1 t2 : Tok) (hsay : Says m [(Str.ofString "heaps", .ref l), (Str.ofString "top", .int (top : Int) t1), (Str.ofString "heights", .ref l'), (Str.ofString "tall", .int ((((cs.take i).foldl (climbStep top) (0, [])).1 : Nat) : Int) t2)]) (hys : IntsAre ys (asInts ((cs.take i).foldl (climbStep top) (0, [])).2)) :
    JCl top l l' nl vs cs i m [(l', listOf ys.toArray nD), (l, listOf vs.toArray nl)]
set_option maxHeartbeats 2000000 in
theorem law_climb {l nl top : Nat} {tt : Tok} {cs : List Nat} {vs : List Value} (hI : IntsAre vs (asInts cs)) (hlen : cs.length ≤ 100) (htop : top ≤ 100) :
    Meets prog w (hdK.heap_1 w.params) (.call (.ref 219) ⟨[.ref l, .int (top : Int) tt], []⟩) [(l, listOf vs.toArray nl)] 5 100 (fun n₀ v l' => ∃ (D : Nat) (ys : List Value) (nD : Nat), v = .ref D ∧ IntsAre ys (asInts (climb top cs)) ∧ @Ne Nat l D ∧ l' = [(D, listOf ys.toArray nD), (l, listOf vs.toArray nl)]) := by
  refine meets_def (by k_is) (by k_is) (fun s => BindsTo.of_eq rfl) (locs rfl) (by decide) (fun A s g p loose mean mg mb n₀ L h₁ tk k hh hdep hu X T hn hfp F N hk => ?_)
  try dsimp only
  have hcLine : cLine = 9900 := rfl
  have hrec : recursionLimit = 1000 := rfl
  have hl0 := hfp _ (.head _)
  clear hfp
  have hvl : vs.length = cs.length := by simp [hI.length]
  (repeat' (first | walk1 | (dsimp only; walk1)))
  with_reducible rename Fr _ _ _ _ => F2
  with_reducible rename News _ _ _ _ => N2
  with_reducible rename _ < _ => hlt
  with_reducible rename IntsAre _ _ => hI
  rename_i l' _ _ _
  refine loopList (vs := vs) (oL := listOf vs.toArray nl) hh ⟨rfl, _, rfl⟩ F2 N2 (JCl top l l' nl vs cs)
    (.mk [] 0 _ _ (says_cons (by rfl) (says_cons (by rfl) (says_cons (by rfl) (says_cons (by rfl) says_nil)))) .nil) ?_ ?_ ?_
  · rintro i m n ⟨ys, nD, t1, t2, _, _⟩
    exact .tail _ (.head _)
  · rintro i v m₁ news₁ h tk I oI kn hi hv ⟨ys, nD, t1, t2, hsay, hys⟩ F3 N3 hsep hkn
    have hic : i < cs.length := by omega
    have hck : cs[i]? = some cs[i] := List.getElem?_eq_getElem hic
    obtain ⟨tv, hv2⟩ := hI.get i _ (show (asInts cs)[i]? = some ((cs[i] : Nat) : Int) by rw [List.getElem?_map, hck]; rfl)
    have ev : v = .int ((cs[i] : Nat) : Int) tv := by
      rw [hv] at hv2; exact Option.some.inj hv2
    subst ev
    have hst := climb_take (top := top) hic
    have hle := climb_le (top := top) (cs.take i) (0, []) (Nat.zero_le _)
    have hyl : ys.length = i := by
      rw [hys.length, List.length_map, climb_len]; simp; omega
    generalize (cs.take i).foldl (climbStep top) (0, []) = st at *
    have F4 := Mine.Fr.saidIf F3 hsay
    clear F2 N2 F3
    have sepl : @Ne Nat l' I := hsep _ (.head _)
    have sepl2 : @Ne Nat l I := hsep _ (.tail _ (.head _))
    have hlt2 : @LT.lt Nat _ l l' := hlt
    simp only [List.cons_append, List.nil_append] at N3
    generalize cs[i] = x at *
    repeat walk1
    with_reducible rename News _ _ _ _ => N4
    refine min_two_N hh F4 N4 (fun h5 tk5 F5 N5 => ?_)
    have hyb : ys.length ≤ 100 := by omega
    have em : (if (st.1 : Int) + (x : Int).fmod 3 < (top : Int) then (st.1 : Int) + (x : Int).fmod 3 else (top : Int)) = ((min top (st.1 + x % 3) : Nat) : Int) := by
      rw [Int.fmod_eq_emod_of_nonneg _ (by decide), ← min_two top (st.1 + x % 3)]
      push_cast
      rfl
    rw [em]
    generalize (if (st.1 : Int) + (x : Int).fmod 3 < (top : Int) then _ else t1) = t3
    repeat walk1
    with_reducible rename Fr _ _ _ _ => F7
    with_reducible rename News _ _ _ _ => N7
    rw [List.push_toArray] at N7
    refine hkn _ _ _ [(l', _), (l, listOf vs.toArray nl)] F7 N7 (List.forall_mem_cons.mpr ⟨sepl, List.forall_mem_cons.mpr ⟨sepl2, fun _ h => by cases h⟩⟩) (.mk _ _ t1 t3 (says_cons (by rfl) (says_cons (by rfl) (says_cons (by rfl) (says_cons ?_ says_nil)))) ?_)
    · rw [hst]; rfl
    · rw [hst]
      show IntsAre _ (asInts (st.2 ++ [min top (st.1 + x % 3)]))
      unfold asInts
      rw [List.map_append]
      exact snocI hys
  · rintro h tk m₁ news₁ ⟨ys, nD, t1, t2, hsay, hys⟩ F3 N3
    have hsz : vs.length = cs.length := hvl
    rw [hsz, List.take_length] at hys
    have F4 := Mine.Fr.said F3 hsay
    repeat walk1
    dsimp only
    exact hk _ _ _ _ _ ⟨l', ys, nD, rfl, hys, Nat.ne_of_lt hlt, rfl⟩ F4 N3
end

noncomputable section
example : True := by -- walkOff_D21
  w_top off
  exact True.intro
theorem max_two (a b : Int) : (if a < b then b else a) = max a b := by
  split <;> omega
set_option maxHeartbeats 2000000 in
theorem longest_run {a : WsP} {l : List Nat} {σ : WsSt} {vs : List Value} (ha : a.Apart) (hI : IntsAre vs σ.count) (hc : σ.count.length ≤ 10000) :
    Meets prog w (hdK.heap_1 w.params) (.call (.ref 163) ⟨[.ref a.x], []⟩) (a.led w.params l σ vs) 10 200 (fun n₀ v l' => ∃ t, v = .int (max ((σ.count.length : Int) - 1) σ.b) t ∧ l' = a.led w.params l σ vs) := by
  obtain ⟨tN, tC, x, dx, t0, t1, t2, t3, t4, t5, t6, t7, t8, t9, v⟩ := a
  obtain ⟨e1, e2, e3, e4, e5, e6⟩ := ha
  dsimp only [WsP.led] at *
  refine meets_def (by k_is) (by k_is) (fun s => BindsTo.of_eq rfl) (locs rfl) (by decide) (fun A s g p loose mean mg mb n₀ L h₁ tk k hh hdep hu X T hn hfp F N hk => ?_)
  try dsimp only
  have hcLine : cLine = 9900 := rfl
  have hrec : recursionLimit = 1000 := rfl
  clear hfp
  have hvl : vs.length ≤ 10000 := by rw [hI.length]; exact hc
  repeat (first | (k_here; (with_reducible show wpAny _ _ (assign (Expr.Tuple _ _ _) _ (Value.ref _)) _ _ _); k_dflt (refine' unpackN_ ?F ?N ?T ?k1 ?k2 ?k3 ?_; (case F => k_asm); (case N => k_asm); (case T => (refine News.isTup (by k_asm) (by k_mem))); (case k1 => assumption); (case k2 => exact rfl); (case k3 => exact rfl); k_whole); intro h' F' N'; (try k_sweep)) | walk1)
  refine len_tuple (News.isTup (by k_asm) (by k_mem)) (by simp; omega) ?_
  have esz : vs.toArray.size = σ.count.length := by simp [hI.length]
  rw [esz]
  repeat walk1
  with_reducible rename Fr _ _ _ _ => F2
  with_reducible rename News _ _ _ _ => N2
  refine max_two_N hh F2 N2 (fun h5 tk5 F5 N5 => ?_)
  have e : (if (σ.b : Int) > (σ.count.length : Int) - 1 then (σ.b : Int) else (σ.count.length : Int) - 1) = max ((σ.count.length : Int) - 1) σ.b := max_two _ _
  rw [e]
  exact hk _ _ _ _ _ ⟨_, rfl, rfl⟩ F5 N5
set_option maxHeartbeats 2000000 in
theorem ws_equal {a b : WsP} {l l2 : List Nat} {σ τ : WsSt} {vs us : List Value} (ha : a.Apart) (hb : b.Apart) (hI : IntsAre vs σ.count) (hJ : IntsAre us τ.count) (hc : σ.count.length ≤ 10000) (hc2 : τ.count.length ≤ 10000) :
    Meets prog w (hdK.heap_1 w.params) (.call (.ref 177) ⟨[.ref a.x, .ref b.x], []⟩) (a.led w.params l σ vs ++ b.led w.params l2 τ us) 10 200 (fun n₀ v l' => v = .bool (decide (σ.count = τ.count ∧ σ.b = τ.b)) ∧ l' = a.led w.params l σ vs ++ b.led w.params l2 τ us) := by
  obtain ⟨tN, tC, x, dx, t0, t1, t2, t3, t4, t5, t6, t7, t8, t9, v⟩ := a
  obtain ⟨uN, uC, y, dy, u0, u1, u2, u3, u4, u5, u6, u7, u8, u9, w2⟩ := b
  obtain ⟨e1, e2, e3, e4, e5, e6⟩ := ha
  obtain ⟨d1, d2, d3, d4, d5, d6⟩ := hb
  dsimp only [WsP.led] at *
  refine meets_def (by k_is) (by k_is) (fun s => BindsTo.of_eq rfl) (locs rfl) (by decide) (fun A s g p loose mean mg mb n₀ L h₁ tk k hh hdep hu X T hn hfp F N hk => ?_)
  try dsimp only
  have hcLine : cLine = 9900 := rfl
  have hrec : recursionLimit = 1000 := rfl
  clear hfp
  have hvl : vs.length ≤ 10000 := by rw [hI.length]; exact hc
  simp only [List.cons_append, List.nil_append] at N
  iterate 9 walk1
  refine eq_norm (N _ (.head _)).1 rfl rfl (N _ (.tail _ (.head _))).1 rfl rfl hI (N _ (.tail _ (.tail _ (.tail _ (.tail _ (.head _)))))).1 rfl rfl (N _ (.tail _ (.tail _ (.tail _ (.tail _ (.tail _ (.head _))))))).1 rfl rfl hJ (by omega) ?_
  dsimp only
  have e : decide (σ.count = τ.count ∧ (σ.b : Int) = (τ.b : Int)) = decide (σ.count = τ.count ∧ σ.b = τ.b) := by
    congr 1
    rw [Int.natCast_inj]
  exact hk _ _ _ _ _ ⟨by rw [← e]; rfl, rfl⟩ F N
end

noncomputable section
example : True := by -- walkOff_D22
  w_top off
  exact True.intro
noncomputable def o224 (P : Params) : { o : Obj // (hdK.heap_1 P).lookup 224 = some o } := ⟨_, by k_is⟩
noncomputable def fnParts (o : Obj) : Option (Scope × List Stmt) := match o.data with
  | .func fd => match fd.body with
    | .stmts b => some (fd.scope, b)
    | _ => none
  | _ => none
noncomputable def fn224 (P : Params) : { x : Scope × List Stmt // fnParts (o224 P).1 = some x } := ⟨_, rfl⟩
noncomputable abbrev env224 (P : Params) (L : Addr) : Env := envOfC (Str.ofString "_law_rooks") (fn224 P).1.1 L 224 (.ref 223)
noncomputable abbrev st224 (P : Params) (i : Nat) : Stmt := ((fn224 P).1.2[i]?).getD (.Pass default)
noncomputable def loopBody : Stmt → List Stmt
  | .For _ _ b _ _ => b
  | .While _ b _ _ => b
  | _ => []
noncomputable def forB (P : Params) : { b : List Stmt // loopBody (st224 P 1) = b } := ⟨_, rfl⟩
noncomputable abbrev fst224 (P : Params) (i : Nat) : Stmt := ((forB P).1[i]?).getD (.Pass default)
noncomputable def whB (P : Params) : { b : List Stmt // loopBody (fst224 P 2) = b } := ⟨_, rfl⟩
noncomputable abbrev wst224 (P : Params) (i : Nat) : Stmt := ((whB P).1[i]?).getD (.Pass default)
noncomputable def letB (P : Params) : { b : List Stmt // loopBody (wst224 P 1) = b } := ⟨_, rfl⟩
section
variable {A : Around} {s : Shared} {g : Heap} {L : Nat} {m : Str → Option Value} {p : Program} {loose : List Str} {mean : ExcName → Option Value} {mg mb : Str → Option Value} {K : Flow → Shared → Prop} {E : Value → Shared → Prop}
  {tl R : List (Addr × Obj)}
set_option maxHeartbeats 2000000 in
theorem rooks_letter {a : LexP} {vs ps : List Value} {nS np c : Nat} {n : Int} {tn tw tc : Tok} {wd : List Nat} (ha : a.Ok tl) (hwl : wd.length ≤ 100) (hps : ps.length ≤ 9000) (hh : A.handled = none) (X : (hdK.heap_1 w.params).In g) (T : Top p loose mean mg mb g)
    (hdep : A.depth + 20 < recursionLimit) (hu : A.units + 500 < cLine) (hap : ∀ q ∈ R, ∀ p ∈ a.led w.params vs nS n tn ps np ++ tl, p.1 ≠ q.1)
    (hsay : Says m [(Str.ofString "lexer", .ref a.x), (Str.ofString "word", .str (txt wd) tw), (Str.ofString "letter", .str (txt [c]) tc)])
    (F : Fr g L s.heap m) (N : News g L s.heap ((a.led w.params vs nS n tn ps np ++ tl) ++ R))
    (hK : ∀ h' tk np' more, StrsAre more ((if c ∈ wd then [] else [wd ++ [c]]).map txt) → Fr g L h' m → News g L h' ((a.led w.params vs nS n tn (ps ++ more) np' ++ tl) ++ R) → K .next { s with heap := h', toks := tk }) :
    wpAny (model prog w) A (execs (letB w.params).1 (env224 w.params L)) K E s := by
  have hcLine : cLine = 9900 := rfl
  have hrec : recursionLimit = 1000 := rfl
  have N0 := N
  dsimp only [letB, whB, forB, wst224, fst224, loopBody, st224, env224, fn224, Option.getD, List.getElem?_cons_succ, List.getElem?_cons_zero]
  have F := Mine.Fr.said F hsay
  iterate 5 walk1
  refine notIn_txt ?_
  by_cases hc : c ∈ wd
  · rw [decide_eq_false (not_not_intro hc)]
    repeat walk1
    rw [if_pos hc] at hK
    with_reducible rename Fr _ _ _ _ => F7
    refine hK _ _ np [] .nil (Mine.Fr.unsaid F7 hsay) ?_
    rw [List.append_nil]; exact N0
  · rw [decide_eq_true hc]
    rw [if_neg hc] at hK
    repeat walk1
    rw [txt_append]
    with_reducible rename Fr _ _ _ _ => F1
    refine Meets.call R (push_token (w := w) (prog := prog) (ps := ps) ha (by omega)) F1 N0 X T (fun p hp => List.mem_append_left _ hp) (fun p hp => List.mem_append_right _ hp) hap hh (by first | exact ar_lim hdep (by decide) | exact ar_limD hdep (by decide) | omega) (by first | exact ar_lim hu (by decide) | exact ar_limU hu (by decide) | omega) ?_
    intro n₁ v l₁ h₂ tk₂ hp F3 N3 p1 p2 p3 p4
    obtain ⟨np', rfl, rfl⟩ := hp
    repeat walk1
    with_reducible rename Fr _ _ _ _ => F7
    exact hK _ _ np' _ (.cons _ _ .nil) (Mine.Fr.unsaid F7 hsay) N3
theorem sepOwn {l own R : List (Addr × Obj)} (h1 : ∀ q ∈ R, ∀ p ∈ l, p.1 ≠ q.1) (h2 : ∀ q ∈ l ++ R, ∀ p ∈ own, p.1 ≠ q.1) : ∀ q ∈ R ++ own, ∀ p ∈ l, p.1 ≠ q.1 := fun q hq p hp =>
  (List.mem_append.mp hq).elim (fun hq => h1 q hq p hp) (fun hq => Ne.symm (h2 p (List.mem_append_left _ hp) q hq))
theorem sepOwn2 {l l' own R : List (Addr × Obj)} (h2 : ∀ q ∈ l ++ R, ∀ p ∈ own, p.1 ≠ q.1) (e : l'.map (·.1) = l.map (·.1)) : ∀ q ∈ l' ++ R, ∀ p ∈ own, p.1 ≠ q.1 := fun q hq p hp => by
  rcases List.mem_append.mp hq with hq | hq
  · have hm : q.1 ∈ l'.map (·.1) := List.mem_map_of_mem hq
    rw [e] at hm
    obtain ⟨q', hq', e⟩ := List.mem_map.mp hm
    rw [← e]; exact h2 q' (List.mem_append_left _ hq') p hp
  · exact h2 q (List.mem_append_right _ hq) p hp
theorem strs_app {vs us : List Value} {xs ys : List Str} (h : StrsAre vs xs) (h2 : StrsAre us ys) : StrsAre (vs ++ us) (xs ++ ys) := by
  induction h with
  | nil => exact h2
  | cons n t h ih => exact .cons n t ih
theorem ap_keys {a : LexP} {P : Params} {tl : List (Addr × Obj)} {vs vs' ps ps' : List Value} {nS nS' np np' : Nat} {n n' : Int} {tn tn' : Tok} : (a.led P vs' nS' n' tn' ps' np' ++ tl).map (·.1) = (a.led P vs nS n tn ps np ++ tl).map (·.1) := by
  rw [List.map_append, List.map_append]; rfl
theorem ap_led {a : LexP} {P : Params} {R tl : List (Addr × Obj)} {vs vs' ps ps' : List Value} {nS nS' np np' : Nat} {n n' : Int} {tn tn' : Tok} (h : ∀ q ∈ R, ∀ p ∈ a.led P vs nS n tn ps np ++ tl, p.1 ≠ q.1) : ∀ q ∈ R, ∀ p ∈ a.led P vs' nS' n' tn' ps' np' ++ tl, p.1 ≠ q.1 := by
  intro q hq p hp
  have hm : p.1 ∈ (a.led P vs nS n tn ps np ++ tl).map (·.1) := by
    rw [← ap_keys (vs' := vs') (nS' := nS') (n' := n') (tn' := tn') (ps' := ps') (np' := np')]; exact List.mem_map_of_mem hp
  obtain ⟨p', hp', e⟩ := List.mem_map.mp hm
  rw [← e]; exact h q hq p' hp'
theorem Nd.sameA {a a' b b' : List (Addr × Obj)} (h : Nd (a ++ b)) (e1 : a'.map (·.1) = a.map (·.1)) (e2 : b'.map (·.1) = b.map (·.1)) : Nd (a' ++ b') := h.same (by rw [List.map_append, List.map_append, e1, e2])
theorem strs_uncons {ps : List Value} {x : Str} {xs : List Str} (h : StrsAre ps (x :: xs)) : ∃ t vs, ps = .str x t :: vs ∧ StrsAre vs xs := by
  cases h with
  | cons n t h => exact ⟨t, _, rfl, h⟩
noncomputable abbrev rookSay (a : LexP) (h : Nat) (th : Tok) (x : List Nat) (tx : Tok) : List (Str × Value) := [(Str.ofString "lexer", .ref a.x), (Str.ofString "height", .int (h : Int) th), (Str.ofString "word", .str (txt x) tx)]
inductive JW (P : Params) (a : LexP) (tl R : List (Addr × Obj)) (vs : List Value) (nS : Nat) (n : Int) (tn : Tok) (h : Nat) (th : Tok) (W : List (List Nat)) (m : Str → Option Value) (k : Nat) (m₁ : Str → Option Value) : List (Addr × Obj) → Prop
  | mk (j : Nat) (ps : List Value) (np : Nat) (x : List Nat) (rest : List (List Nat)) (tx : Tok) (hk : k = W.length - j) (hj : j ≤ W.length) (hx : fileW W h j = x :: rest) (hps : StrsAre ps (rest.map txt)) (hsay : Says m₁ (rookSay a h th x tx)) (hm : ∀ y, y ≠ Str.ofString "word" → y ≠ Str.ofString "letter" → m₁ y = m y) :
    JW P a tl R vs nS n tn h th W m k m₁ ((a.led P vs nS n tn ps np ++ tl) ++ R)
inductive JLt (P : Params) (a : LexP) (tl R : List (Addr × Obj)) (vs : List Value) (nS : Nat) (n : Int) (tn : Tok) (h : Nat) (th : Tok) (x : List Nat) (tx : Tok) (rest : List (List Nat)) (m : Str → Option Value) (i : Nat) (m₂ : Str → Option Value) : List (Addr × Obj) → Prop
  | mk (ps' : List Value) (np' : Nat) (hsay : Says m₂ (rookSay a h th x tx)) (hm : ∀ y, y ≠ Str.ofString "word" → y ≠ Str.ofString "letter" → m₂ y = m y) (hps : StrsAre ps' ((rest ++ x :: growL ((letters.take h).take i) x).map txt)) :
    JLt P a tl R vs nS n tn h th x tx rest m i m₂ ((a.led P vs nS n tn ps' np' ++ tl) ++ R)
set_option maxHeartbeats 2000000 in
theorem rooks_while {a : LexP} {vs ps : List Value} {nS np h : Nat} {n : Int} {tn t0 th : Tok} {x0 : List Nat} {rest0 W : List (List Nat)} (ha : a.Ok tl) (hh4 : h ≤ 4) (hW : ∀ x ∈ W, Wordy 100 x) (hWl : W.length ≤ 1000) (h0 : fileW W h 0 = x0 :: rest0) (hps : StrsAre ps (rest0.map txt)) (hh : A.handled = none) (X : (hdK.heap_1 w.params).In g) (T : Top p loose mean mg mb g)
    (hdep : A.depth + 20 < recursionLimit) (hu : A.units + 500 < cLine) (hap : ∀ q ∈ R, ∀ p ∈ a.led w.params vs nS n tn ps np ++ tl, p.1 ≠ q.1)
    (hsay : Says m (rookSay a h th x0 t0))
    (F : Fr g L s.heap m) (N : News g L s.heap ((a.led w.params vs nS n tn ps np ++ tl) ++ R))
    (hK : ∀ h' tk np' ps' m', StrsAre ps' ((stepW W h).map txt) → (∀ y, y ≠ Str.ofString "word" → y ≠ Str.ofString "letter" → m' y = m y) → Fr g L h' m' → News g L h' ((a.led w.params vs nS n tn ps' np' ++ tl) ++ R) → K .next { s with heap := h', toks := tk }) :
    wpAny (model prog w) A (exec (fst224 w.params 2) (env224 w.params L)) K (fun _ _ => False) s := by
  have hcLine : cLine = 9900 := rfl
  have hrec : recursionLimit = 1000 := rfl
  dsimp only [fst224, forB, loopBody, st224, env224, fn224, Option.getD, List.getElem?_cons_succ, List.getElem?_cons_zero]
  refine While_inv (JW w.params a tl R vs nS n tn h th W m) F N (.mk 0 ps np x0 rest0 t0 rfl (Nat.zero_le _) h0 hps hsay (fun y _ _ => rfl)) ?_
  clear F N hps h0 hsay
  intro k m₁ news₁ h₁ tk₁ F N hJ
  obtain ⟨j, ps, np, x, rest, tx, rfl, hj, hx, hps, hsay, hm1⟩ := hJ
  have F1 := Mine.Fr.said F hsay
  have hapk := ap_led (vs' := vs) (nS' := nS) (n' := n) (tn' := tn) (ps' := ps) (np' := np) hap
  by_cases hjW : j = W.length
  · subst hjW
    rw [fileW_all] at hx
    injection hx with e1 e2
    subst e1 e2
    clear F
    repeat walk1
    exact hK _ _ np ps m₁ hps hm1 (Mine.Fr.unsaid F1 hsay) N
  · rw [fileW_at (by omega)] at hx
    injection hx with e1 e2
    clear F
    iterate 4 walk1
    have hwx := hW x (by rw [← e1]; exact List.getElem_mem _)
    have hne : (txt x != Str.ofString ".") = true := by
      rw [bne_iff_ne]
      intro e
      have e3 : x = [46] := congrArg (fun y => y.cps.toList) e
      have := hwx.1
      rw [e3] at this; simp at this
    rw [hne]
    have hfl := fileW_len W h j
    have hrl : rest.length ≤ 7000 := by
      have e5 : fileW W h j = x :: rest := by rw [fileW_at (by omega), e1, e2]
      rw [e5, List.length_cons] at hfl; omega
    have hpl : ps.length = rest.length := by rw [hps.length]; simp
    have hnx := fileW_next (h := h) (show j < W.length by omega)
    rw [e2, e1] at hnx
    have N0 := N
    repeat walk1
    with_reducible rename Fr _ _ _ _ => F2
    have F2 := Mine.Fr.unsaid F2 hsay
    refine Meets.call R (push_token (w := w) (prog := prog) (ps := ps) ha (by omega)) F2 N0 X T (fun p hp => List.mem_append_left _ hp) (fun p hp => List.mem_append_right _ hp) hapk hh (by first | exact ar_lim hdep (by decide) | exact ar_limD hdep (by decide) | omega) (by first | exact ar_lim hu (by decide) | exact ar_limU hu (by decide) | omega) ?_
    intro n₁ v l₁ h₂ tk₂ hp F3 N3 p1 p2 p3 p4
    obtain ⟨np', rfl, rfl⟩ := hp
    clear F2 N N0 p1 p2 p3
    have F3 := Mine.Fr.said F3 hsay
    iterate 1 walk1
    refine For_invVF F3 rfl rfl ?_
    repeat walk1
    with_reducible rename Fr _ _ _ _ => F4
    with_reducible rename News _ _ _ _ => N4
    rw [slice_abcd h hh4]
    have F4 := Mine.Fr.unsaid F4 hsay
    refine loopStr hh F4 N4 (JLt w.params a tl R vs nS n tn h th x tx rest m) (.mk _ np' hsay hm1 ?_) ?_ ?_
    · rw [List.take_zero, show rest ++ x :: growL [] x = rest ++ [x] from rfl, List.map_append]
      exact strs_app hps (.cons _ tx .nil)
    · intro i c u m₂ news₂ h5 tk5 own kn hi hJ5 F5 N5 hsep hkn
      obtain ⟨ps5, np5, hsay5, hm5, hps5⟩ := hJ5
      clear F4 N4
      have hci : (letters.take h).take (i + 1) = (letters.take h).take i ++ [c] := by rw [List.take_add_one, hi]; rfl
      have hp5 : ps5.length ≤ 9000 := by
        rw [hps5.length, List.length_map, List.length_append, List.length_cons]
        have h1 := growL_len ((letters.take h).take i) x
        have h2 : ((letters.take h).take i).length ≤ 4 := by rw [List.length_take, List.length_take]; exact Nat.le_trans (Nat.min_le_right ..) (Nat.min_le_right ..)
        omega
      have hap5 := ap_led (vs' := vs) (nS' := nS) (n' := n) (tn' := tn) (ps' := ps5) (np' := np5) hap
      refine rooks_letter (m := fun y => if y = Str.ofString "letter" then some (.str (txt [c]) u) else m₂ y) (c := c) (wd := x) (tw := tx) (tc := u) (R := R ++ own) ha hwx.2 hp5 hh X T hdep hu (sepOwn hap5 hsep) (says_cons (sayIf hsay5 (by kernel_rfl) _ (.head _)) (says_cons (sayIf hsay5 (by kernel_rfl) _ (.tail _ (.tail _ (.head _)))) (says_cons (if_pos rfl) says_nil))) F5 (by rw [← List.append_assoc]; exact N5) ?_
      intro h6 tk6 np6 more hmore F6 N6
      refine hkn h6 tk6 _ ((a.led w.params vs nS n tn (ps5 ++ more) np6 ++ tl) ++ R) F6 (by rw [List.append_assoc]; exact N6) (sepOwn2 hsep ap_keys) (.mk (ps5 ++ more) np6 ?_ ?_ ?_)
      · exact sayIf hsay5 (by kernel_rfl)
      · intro y h1 h2
        show (if y = Str.ofString "letter" then _ else m₂ y) = m y
        rw [if_neg h2]; exact hm5 y h1 h2
      · rw [hci, growL_snoc, ← List.cons_append, ← List.append_assoc, List.map_append]
        exact strs_app hps5 hmore
    · intro h5 tk5 m₂ news₂ hJ5 F5 N5
      obtain ⟨ps5, np5, hsay5, hm5, hps5⟩ := hJ5
      clear F4 N4
      rw [List.take_length, hnx] at hps5
      have hap5 := ap_led (vs' := vs) (nS' := nS) (n' := n) (tn' := tn) (ps' := ps5) (np' := np5) hap
      obtain ⟨x2, rest2, hx2⟩ : ∃ x2 rest2, fileW W h (j + 1) = x2 :: rest2 := by
        cases hf : fileW W h (j + 1) with
        | nil => have : fileW W h (j + 1) ≠ [] := by unfold fileW; simp
                 exact absurd hf this
        | cons x2 rest2 => exact ⟨x2, rest2, rfl⟩
      have hfl2 := fileW_len W h (j + 1)
      rw [hx2, List.length_cons] at hfl2
      rw [hx2, List.map_cons] at hps5
      obtain ⟨tx2, ps6, rfl, hps6⟩ := strs_uncons hps5
      have hpl6 : ps6.length = rest2.length := by rw [hps6.length]; simp
      have F6 := Mine.Fr.said F5 hsay5
      have N6 := N5
      clear F5
      dsimp only
      repeat walk1
      with_reducible rename Fr _ _ _ _ => F7
      have F7 := Mine.Fr.unsaid F7 hsay5
      refine Meets.call R (get_pushed (w := w) (prog := prog) (ps := ps6) ha (by omega)) F7 N6 X T (fun p hp => List.mem_append_left _ hp) (fun p hp => List.mem_append_right _ hp) hap5 hh (by first | exact ar_lim hdep (by decide) | exact ar_limD hdep (by decide) | omega) (by first | exact ar_lim hu (by decide) | exact ar_limU hu (by decide) | omega) ?_
      intro n₁ v l₁ h₂ tk₂ hp F8 N8 p1 p2 p3 p4
      obtain ⟨np6, rfl, rfl⟩ := hp
      clear F7 N5 N6
      repeat walk1
      with_reducible rename Fr _ _ _ _ => F9
      with_reducible rename News _ _ _ _ => N9
      refine WhileStep.intro F9 N9 (n' := W.length - (j + 1)) (by omega) (.mk (j + 1) ps6 np6 x2 rest2 tx2 rfl (by omega) hx2 hps6 (says_cons (sayIf (say := rookSay a h th x tx |>.take 2) (says_sub hsay5 (fun p hp => List.mem_of_mem_take hp)) (by kernel_rfl) _ (.head _)) (says_cons (sayIf (say := rookSay a h th x tx |>.take 2) (says_sub hsay5 (fun p hp => List.mem_of_mem_take hp)) (by kernel_rfl) _ (.tail _ (.head _))) (says_cons (if_pos rfl) says_nil))) (fun y h1 h2 => ?_))
      show (if y = Str.ofString "word" then _ else m₂ y) = m y
      rw [if_neg h1]; exact hm5 y h1 h2
end
end

noncomputable section
example : True := by -- walkOff_D23
  w_top off
  exact True.intro
section
variable {A : Around} {s : Shared} {g : Heap} {L : Nat} {m : Str → Option Value} {p : Program} {loose : List Str} {mean : ExcName → Option Value} {mg mb : Str → Option Value} {K : Flow → Shared → Prop}
  {tl R : List (Addr × Obj)}
noncomputable abbrev rookSay2 (a : LexP) (h : Nat) (th : Tok) : List (Str × Value) := [(Str.ofString "lexer", .ref a.x), (Str.ofString "height", .int (h : Int) th)]
set_option maxHeartbeats 2000000 in
theorem rooks_turn {a : LexP} {vs ps : List Value} {nS np h : Nat} {n : Int} {tn th : Tok} {W : List (List Nat)} (ha : a.Ok tl) (hh4 : h ≤ 4) (hW : ∀ x ∈ W, Wordy 100 x) (hWl : W.length ≤ 1000) (hps : StrsAre ps (W.map txt)) (hh : A.handled = none) (X : (hdK.heap_1 w.params).In g) (T : Top p loose mean mg mb g)
    (hdep : A.depth + 20 < recursionLimit) (hu : A.units + 500 < cLine) (hap : ∀ q ∈ R, ∀ p ∈ a.led w.params vs nS n tn ps np ++ tl, p.1 ≠ q.1)
    (hsay : Says m (rookSay2 a h th))
    (F : Fr g L s.heap m) (N : News g L s.heap ((a.led w.params vs nS n tn ps np ++ tl) ++ R))
    (hK : ∀ h' tk np' ps' m', StrsAre ps' ((stepW W h).map txt) → (∀ y, y ≠ Str.ofString "word" → y ≠ Str.ofString "letter" → m' y = m y) → Fr g L h' m' → News g L h' ((a.led w.params vs nS n tn ps' np' ++ tl) ++ R) → K .next { s with heap := h', toks := tk }) :
    wpAny (model prog w) A (execs (forB w.params).1 (env224 w.params L)) K (fun _ _ => False) s := by
  have hcLine : cLine = 9900 := rfl
  have hrec : recursionLimit = 1000 := rfl
  rw [show (forB w.params).1 = [fst224 w.params 0, fst224 w.params 1, fst224 w.params 2] from rfl]
  have hpl : ps.length = W.length := by rw [hps.length]; simp
  have N0 := N
  refine wpAny_execs_cons ?_
  dsimp only [forB, fst224, loopBody, st224, env224, fn224, Option.getD, List.getElem?_cons_succ, List.getElem?_cons_zero]
  have F := Mine.Fr.said F hsay
  repeat walk1
  with_reducible rename Fr _ _ _ _ => F2
  have F2 := Mine.Fr.unsaid F2 hsay
  refine Meets.call R (push_token (w := w) (prog := prog) (ps := ps) ha (by omega)) F2 N0 X T (fun p hp => List.mem_append_left _ hp) (fun p hp => List.mem_append_right _ hp) hap hh (by first | exact ar_lim hdep (by decide) | exact ar_limD hdep (by decide) | omega) (by first | exact ar_lim hu (by decide) | exact ar_limU hu (by decide) | omega) ?_
  intro n₁ v l₁ h₂ tk₂ hp F3 N3 p1 p2 p3 p4
  obtain ⟨np', rfl, rfl⟩ := hp
  clear F2 N N0 p1 p2 p3
  have hps2 := strs_app hps (StrsAre.cons (Str.ofString ".") s.toks StrsAre.nil)
  obtain ⟨x0, rest0, h0⟩ : ∃ x0 rest0, fileW W h 0 = x0 :: rest0 := by
    cases hf : fileW W h 0 with
    | nil => have : fileW W h 0 ≠ [] := by unfold fileW; simp
             exact absurd hf this
    | cons x2 rest2 => exact ⟨x2, rest2, rfl⟩
  have e0 : W.map txt ++ [Str.ofString "."] = (x0 :: rest0).map txt := by
    rw [← h0, fileW_zero, List.map_append]; rfl
  rw [e0, List.map_cons] at hps2
  obtain ⟨t0, ps6, e6, hps6⟩ := strs_uncons hps2
  have hl6 : ps6.length ≤ 5000 := by
    have := congrArg List.length e6
    rw [List.length_append, List.length_cons, List.length_cons] at this
    simp only [List.length_nil] at this
    omega
  rw [e6] at N3
  have N4 := N3
  have F3 := Mine.Fr.said F3 hsay
  refine wpAny_execs_cons ?_
  repeat walk1
  with_reducible rename Fr _ _ _ _ => F7
  have F7 := Mine.Fr.unsaid F7 hsay
  have hap6 := ap_led (vs' := vs) (nS' := nS) (n' := n) (tn' := tn) (ps' := .str (txt x0) t0 :: ps6) (np' := np') hap
  refine Meets.call R (get_pushed (w := w) (prog := prog) (ps := ps6) ha (by omega)) F7 N4 X T (fun p hp => List.mem_append_left _ hp) (fun p hp => List.mem_append_right _ hp) hap6 hh (by first | exact ar_lim hdep (by decide) | exact ar_limD hdep (by decide) | omega) (by first | exact ar_lim hu (by decide) | exact ar_limU hu (by decide) | omega) ?_
  intro n₁ v l₁ h₂ tk₂ hp F8 N8 p1 p2 p3 p5
  obtain ⟨np6, rfl, rfl⟩ := hp
  clear F7 N3 N4
  iterate 1 walk1
  with_reducible rename Fr _ _ _ _ => F9
  with_reducible rename News _ _ _ _ => N9
  show wpAny (model prog w) A (execs [fst224 w.params 2] (env224 w.params L)) _ _ _
  refine wpAny_execs_cons (rooks_while (W := W) (h := h) (th := th) (t0 := t0) (x0 := x0) (rest0 := rest0) ha hh4 hW hWl h0 hps6 hh X T hdep hu p5 (says_cons (sayIf hsay (by kernel_rfl) _ (.head _)) (says_cons (sayIf hsay (by kernel_rfl) _ (.tail _ (.head _))) (says_cons (if_pos rfl) says_nil))) F9 N9 ?_)
  intro h' tk np7 ps7 m' hps7 hm7 F10 N10
  refine wpAny_execs_nil (hK h' tk np7 ps7 m' hps7 (fun y h1 h2 => ?_) F10 N10)
  rw [hm7 y h1 h2]
  show (if y = Str.ofString "word" then _ else m y) = m y
  rw [if_neg h1]
end
section
variable {A : Around} {s : Shared} {g : Heap} {L : Nat} {m : Str → Option Value} {p : Program} {loose : List Str} {mean : ExcName → Option Value} {mg mb : Str → Option Value} {K : Flow → Shared → Prop}
  {tl R : List (Addr × Obj)}
noncomputable abbrev namesR : List Str := [Str.ofString "height", Str.ofString "word", Str.ofString "letter"]
inductive JF (P : Params) (a : LexP) (tl R : List (Addr × Obj)) (vs : List Value) (nS : Nat) (n : Int) (tn : Tok) (hs : List Nat) (m : Str → Option Value) (i : Nat) (m₁ : Str → Option Value) : List (Addr × Obj) → Prop
  | mk (ps : List Value) (np : Nat) (hps : StrsAre ps ((rooksW (hs.take i)).map txt)) (hm : ∀ y, y ∉ namesR → m₁ y = m y) : JF P a tl R vs nS n tn hs m i m₁ ((a.led P vs nS n tn ps np ++ tl) ++ R)
set_option maxHeartbeats 2000000 in
theorem rooks_for {a : LexP} {vs ps hv : List Value} {nS np nh hl : Nat} {n : Int} {tn : Tok} {hs : List Nat} (ha : a.Ok tl) (hI : IntsAre hv (asInts hs)) (hh4 : ∀ h ∈ hs, h ≤ 4) (hlen : hs.length ≤ 4) (hps : StrsAre ps ([[45]].map txt)) (hm : (hl, listOf hv.toArray nh) ∈ R) (hh : A.handled = none) (X : (hdK.heap_1 w.params).In g) (T : Top p loose mean mg mb g)
    (hdep : A.depth + 20 < recursionLimit) (hu : A.units + 500 < cLine) (hap : ∀ q ∈ R, ∀ p ∈ a.led w.params vs nS n tn ps np ++ tl, p.1 ≠ q.1)
    (hsay : Says m [(Str.ofString "lexer", .ref a.x), (Str.ofString "heights", .ref hl)])
    (F : Fr g L s.heap m) (N : News g L s.heap ((a.led w.params vs nS n tn ps np ++ tl) ++ R))
    (hK : ∀ h' tk np' ps' m', StrsAre ps' ((rooksW hs).map txt) → (∀ y, y ∉ namesR → m' y = m y) → Fr g L h' m' → News g L h' ((a.led w.params vs nS n tn ps' np' ++ tl) ++ R) → K .next { s with heap := h', toks := tk }) :
    wpAny (model prog w) A (exec (st224 w.params 1) (env224 w.params L)) K (fun _ _ => False) s := by
  have hcLine : cLine = 9900 := rfl
  have hrec : recursionLimit = 1000 := rfl
  have hvl : hv.length = hs.length := by rw [hI.length]; simp
  have F := Mine.Fr.said F hsay
  dsimp only [st224, env224, fn224, Option.getD, List.getElem?_cons_succ, List.getElem?_cons_zero]
  refine For_invVF F rfl rfl ?_
  iterate 1 walk1
  with_reducible rename Fr _ _ _ _ => F1
  have F1 := Mine.Fr.unsaid F1 hsay
  refine loopList (vs := hv) (oL := listOf hv.toArray nh) hh ⟨rfl, _, rfl⟩ F1 N (JF w.params a tl R vs nS n tn hs m) (.mk ps np hps (fun y _ => rfl)) ?_ ?_ ?_
  · rintro i m₂ n₂ ⟨ps5, np5, _, _⟩
    exact List.mem_append_right _ hm
  · intro i v m₂ news₂ h5 tk5 I oI kn hi hv5 hJ5 F5 N5 hsep hkn
    obtain ⟨ps5, np5, hps5, hm5⟩ := hJ5
    have hih : i < hs.length := by omega
    have hck : hs[i]? = some hs[i] := List.getElem?_eq_getElem hih
    obtain ⟨tv, hv2⟩ := hI.get i _ (show (asInts hs)[i]? = some ((hs[i] : Nat) : Int) by rw [List.getElem?_map, hck]; rfl)
    have ev : v = .int ((hs[i] : Nat) : Int) tv := by
      rw [hv5] at hv2; exact Option.some.inj hv2
    subst ev
    have hw := rooks_wordy i (hs.take i) (by rw [List.length_take]; omega)
    have hWl : (rooksW (hs.take i)).length ≤ 1000 := Nat.le_trans hw.2 (Nat.le_trans (Nat.pow_le_pow_right (by decide) (show i ≤ 4 by omega)) (by decide))
    have hap5 := ap_led (vs' := vs) (nS' := nS) (n' := n) (tn' := tn) (ps' := ps5) (np' := np5) hap
    have hsep2 : ∀ q ∈ (a.led w.params vs nS n tn ps5 np5 ++ tl) ++ R, ∀ p ∈ [(I, oI)], p.1 ≠ q.1 := fun q hq p hp => by
      rw [List.mem_singleton.mp hp]; exact Ne.symm (hsep q hq)
    have hsay5 : Says m₂ [(Str.ofString "lexer", .ref a.x), (Str.ofString "heights", .ref hl)] := says_cons ((hm5 _ (by decide)).trans (hsay _ (.head _))) (says_cons ((hm5 _ (by decide)).trans (hsay _ (.tail _ (.head _)))) says_nil)
    refine rooks_turn (m := fun y => if y = Str.ofString "height" then some (.int ((hs[i] : Nat) : Int) tv) else m₂ y) (h := hs[i]) (th := tv) (W := rooksW (hs.take i)) (R := R ++ [(I, oI)]) ha (hh4 _ (List.getElem_mem hih)) (fun x hx => ⟨(hw.1 x hx).1, Nat.le_trans (hw.1 x hx).2 (by omega)⟩) hWl hps5 hh X T hdep hu (sepOwn hap5 hsep2) (says_cons (sayIf hsay5 (by kernel_rfl) _ (.head _)) (says_cons (if_pos rfl) says_nil)) F5 (by rw [← List.append_assoc]; exact N5) ?_
    intro h6 tk6 np6 ps6 m6 hps6 hm6 F6 N6
    refine hkn h6 tk6 _ ((a.led w.params vs nS n tn ps6 np6 ++ tl) ++ R) F6 (by rw [List.append_assoc]; exact N6) (fun q hq => ?_) (.mk ps6 np6 ?_ ?_)
    · exact Ne.symm (sepOwn2 hsep2 ap_keys q hq (I, oI) (.head _))
    · rw [List.take_add_one, hck]
      show StrsAre ps6 ((rooksW (hs.take i ++ [hs[i]])).map txt)
      rw [rooks_snoc]; exact hps6
    · intro y hy
      simp only [namesR, List.mem_cons, List.not_mem_nil, or_false, not_or] at hy
      rw [hm6 y hy.2.1 hy.2.2]
      show (if y = Str.ofString "height" then _ else m₂ y) = m y
      rw [if_neg hy.1]
      exact hm5 y (by simp only [namesR, List.mem_cons, List.not_mem_nil, or_false, not_or]; exact hy)
  · rintro h5 tk5 m₂ news₂ ⟨ps5, np5, hps5, hm5⟩ F5 N5
    rw [hvl, List.take_length] at hps5
    exact hK h5 tk5 np5 ps5 m₂ hps5 hm5 F5 N5
end
end

noncomputable section
example : True := by -- walkOff_D24
  w_top off
  exact True.intro
noncomputable def whB2 (P : Params) : { b : List Stmt // loopBody (st224 P 4) = b } := ⟨_, rfl⟩
noncomputable abbrev wst2 (P : Params) (i : Nat) : Stmt := ((whB2 P).1[i]?).getD (.Pass default)
noncomputable abbrev lens (W : List (List Nat)) : List Int := W.map fun x => (x.length : Int) - 1
section
variable {A : Around} {s : Shared} {g : Heap} {L : Nat} {m : Str → Option Value} {p : Program} {loose : List Str} {mean : ExcName → Option Value} {mg mb : Str → Option Value} {K : Flow → Shared → Prop} {E : Value → Shared → Prop}
  {tl R RT : List (Addr × Obj)} {oR : Obj}
noncomputable abbrev cellV (o : Obj) (v : Value) : Prop := o.data = .cell (some v)
set_option maxHeartbeats 2000000 in
theorem rooks_app {D nD : Nat} {ys : List Value} {ns : List Int} {x : List Nat} {tx : Tok} (hI : IntsAre ys ns) (hyl : ys.length ≤ 5000) (hxl : x.length ≤ 100) (hh : A.handled = none) (X : (hdK.heap_1 w.params).In g) (T : Top p loose mean mg mb g)
    (hdep : A.depth + 20 < recursionLimit) (hu : A.units + 500 < cLine) (hx : ∀ p ∈ RT, p.1 ≠ D) (hne : @Ne Nat (L + 1) D) (hcell : cellV oR (.ref D))
    (hsay : Says m [(Str.ofString "word", .str (txt x) tx)])
    (F : Fr g L s.heap m) (N : News g L s.heap ((D, listOf ys.toArray nD) :: (L + 1, oR) :: RT))
    (hK : ∀ h' tk ys' nD', IntsAre ys' (ns ++ [(x.length : Int) - 1]) → Fr g L h' m → News g L h' ((D, listOf ys'.toArray nD') :: (L + 1, oR) :: RT) → K .next { s with heap := h', toks := tk }) :
    wpAny (model prog w) A (exec (wst2 w.params 0) (env224 w.params L)) K E s := by
  have hcLine : cLine = 9900 := rfl
  have hrec : recursionLimit = 1000 := rfl
  dsimp only [wst2, whB2, loopBody, st224, env224, fn224, Option.getD, List.getElem?_cons_succ, List.getElem?_cons_zero]
  have F := Mine.Fr.said F hsay
  repeat walk1
  refine SBL.len (by rw [txt_len]; omega) ?_
  rw [txt_len]
  repeat walk1
  with_reducible rename Fr _ _ _ _ => F7
  with_reducible rename News _ _ _ _ => N7
  rw [List.push_toArray] at N7
  exact hK _ _ _ _ (snocI hI) (Mine.Fr.unsaid F7 hsay) N7
set_option maxHeartbeats 2000000 in
theorem rooks_get {a : LexP} {vs ps : List Value} {nS np : Nat} {n : Int} {tn : Tok} {v₀ : Value} (ha : a.Ok tl) (hps : ps.length ≤ 9000) (hh : A.handled = none) (X : (hdK.heap_1 w.params).In g) (T : Top p loose mean mg mb g)
    (hdep : A.depth + 40 < recursionLimit) (hu : A.units + 600 < cLine) (hap : ∀ q ∈ R, ∀ p ∈ a.led w.params vs nS n tn (v₀ :: ps) np ++ tl, p.1 ≠ q.1)
    (hsay : Says m [(Str.ofString "lexer", .ref a.x)])
    (F : Fr g L s.heap m) (N : News g L s.heap ((a.led w.params vs nS n tn (v₀ :: ps) np ++ tl) ++ R))
    (hK : ∀ h' tk np', Fr g L h' (fun y => if y = Str.ofString "word" then some v₀ else m y) → News g L h' ((a.led w.params vs nS n tn ps np' ++ tl) ++ R) → K .next { s with heap := h', toks := tk }) :
    wpAny (model prog w) A (exec (st224 w.params 3) (env224 w.params L)) K E s ∧ wpAny (model prog w) A (exec (wst2 w.params 1) (env224 w.params L)) K E s := by
  have hcLine : cLine = 9900 := rfl
  have hrec : recursionLimit = 1000 := rfl
  have N0 := N
  dsimp only [wst2, whB2, loopBody, st224, env224, fn224, Option.getD, List.getElem?_cons_succ, List.getElem?_cons_zero]
  have e9 : ∀ v : Value, (fun y => if y = Str.ofString "word" then some v else kstB m [(Str.ofString "lexer", Value.ref a.x)] y) = fun y => if y = Str.ofString "word" then some v else m y := fun v => by
    funext y
    rw [kstB_eq hsay fun _ => rfl]
  have F := Mine.Fr.said F hsay
  constructor
  all_goals
    repeat walk1
    with_reducible rename Fr _ _ _ _ => F1
    refine Meets.call R (get_pushed (w := w) (prog := prog) (ps := ps) ha (by omega)) F1 N0 X T (fun p hp => List.mem_append_left _ hp) (fun p hp => List.mem_append_right _ hp) hap hh (by first | exact ar_lim hdep (by decide) | exact ar_limD hdep (by decide) | omega) (by first | exact ar_lim hu (by decide) | exact ar_limU hu (by decide) | omega) ?_
    intro n₁ v l₁ h₂ tk₂ hp F3 N3 p1 p2 p3 p4
    obtain ⟨np', rfl, rfl⟩ := hp
    clear F1 N N0
    repeat walk1
    with_reducible rename Fr _ _ _ _ => F7
    with_reducible rename News _ _ _ _ => N7
    rw [e9] at F7
    exact hK _ _ np' F7 N7
set_option maxHeartbeats 2000000 in
theorem rooks_getW {a : LexP} {vs : List Value} {cs : List Nat} {nS np : Nat} {n : Int} {tn : Tok} (ha : a.Ok tl) (hS : SignsAre vs cs) (hcs : cs.length ≤ 10000) (hasc : Asc cs) (hh : A.handled = none) (X : (hdK.heap_1 w.params).In g) (T : Top p loose mean mg mb g)
    (hdep : A.depth + 40 < recursionLimit) (hu : A.units + 600 < cLine) (hap : ∀ q ∈ R, ∀ p ∈ a.led w.params vs nS n tn [] np ++ tl, p.1 ≠ q.1)
    (hsay : Says m [(Str.ofString "lexer", .ref a.x)])
    (F : Fr g L s.heap m) (N : News g L s.heap ((a.led w.params vs nS n tn [] np ++ tl) ++ R))
    (hK : ∀ h' tk vs' nS' tn' t, SignsAre vs' (word cs).2 → Fr g L h' (fun y => if y = Str.ofString "word" then some (.str (txt (word cs).1) t) else m y) → News g L h' ((a.led w.params vs' nS' (n + nls cs - nls (word cs).2) tn' [] np ++ tl) ++ R) → K .next { s with heap := h', toks := tk }) :
    wpAny (model prog w) A (exec (wst2 w.params 1) (env224 w.params L)) K E s := by
  have hcLine : cLine = 9900 := rfl
  have hrec : recursionLimit = 1000 := rfl
  have N0 := N
  dsimp only [wst2, whB2, loopBody, st224, env224, fn224, Option.getD, List.getElem?_cons_succ, List.getElem?_cons_zero]
  have e9 : ∀ v : Value, (fun y => if y = Str.ofString "word" then some v else kstB m [(Str.ofString "lexer", Value.ref a.x)] y) = fun y => if y = Str.ofString "word" then some v else m y := fun v => by
    funext y
    rw [kstB_eq hsay fun _ => rfl]
  have F := Mine.Fr.said F hsay
  repeat walk1
  with_reducible rename Fr _ _ _ _ => F1
  refine Meets.call R (get_word (w := w) (prog := prog) ha hS hcs hasc) F1 N0 X T (fun p hp => List.mem_append_left _ hp) (fun p hp => List.mem_append_right _ hp) hap hh (by first | exact ar_lim hdep (by decide) | exact ar_limD hdep (by decide) | omega) (by first | exact ar_lim hu (by decide) | exact ar_limU hu (by decide) | omega) ?_
  intro n₁ v l₁ h₂ tk₂ hp F3 N3 p1 p2 p3 p4
  obtain ⟨vs', nS', tn', t, rfl, hS', rfl⟩ := hp
  clear F1 N N0
  repeat walk1
  with_reducible rename Fr _ _ _ _ => F7
  with_reducible rename News _ _ _ _ => N7
  rw [e9] at F7
  exact hK _ _ vs' nS' tn' t hS' F7 N7
set_option maxHeartbeats 2000000 in
theorem rooks_first {a : LexP} {vs : List Value} {nS np : Nat} {n : Int} {tn : Tok} (ha : a.Ok tl) (hh : A.handled = none) (X : (hdK.heap_1 w.params).In g) (T : Top p loose mean mg mb g)
    (hdep : A.depth + 40 < recursionLimit) (hu : A.units + 600 < cLine) (hap : ∀ q ∈ R, ∀ p ∈ a.led w.params vs nS n tn [] np ++ tl, p.1 ≠ q.1)
    (hsay : Says m [(Str.ofString "lexer", .ref a.x)])
    (F : Fr g L s.heap m) (N : News g L s.heap ((a.led w.params vs nS n tn [] np ++ tl) ++ R))
    (hK : ∀ h' tk np' ps, StrsAre ps ([[45]].map txt) → Fr g L h' m → News g L h' ((a.led w.params vs nS n tn ps np' ++ tl) ++ R) → K .next { s with heap := h', toks := tk }) :
    wpAny (model prog w) A (exec (st224 w.params 0) (env224 w.params L)) K E s := by
  have hcLine : cLine = 9900 := rfl
  have hrec : recursionLimit = 1000 := rfl
  have N0 := N
  dsimp only [st224, env224, fn224, Option.getD, List.getElem?_cons_succ, List.getElem?_cons_zero]
  have F := Mine.Fr.said F hsay
  repeat walk1
  with_reducible rename Fr _ _ _ _ => F1
  refine Meets.call R (push_token (w := w) (prog := prog) (ps := []) ha (by decide)) F1 N0 X T (fun p hp => List.mem_append_left _ hp) (fun p hp => List.mem_append_right _ hp) hap hh (by first | exact ar_lim hdep (by decide) | exact ar_limD hdep (by decide) | omega) (by first | exact ar_lim hu (by decide) | exact ar_limU hu (by decide) | omega) ?_
  intro n₁ v l₁ h₂ tk₂ hp F3 N3 p1 p2 p3 p4
  obtain ⟨np', rfl, rfl⟩ := hp
  clear F1 N N0
  repeat walk1
  with_reducible rename Fr _ _ _ _ => F7
  exact hK _ _ np' _ (.cons _ _ .nil) (Mine.Fr.unsaid F7 hsay) N3
set_option maxHeartbeats 2000000 in
theorem rooks_new (hh : A.handled = none) (X : (hdK.heap_1 w.params).In g) (T : Top p loose mean mg mb g)
    {c : Option Value} (hcell : oR.data = .cell c) (hx : ∀ p ∈ RT, p.1 ≠ L + 1)
    (F : Fr g L s.heap m) (N : News g L s.heap ((L + 1, oR) :: RT))
    (hK : ∀ h' tk D oR', (∀ p ∈ (L + 1, oR) :: RT, @Ne Nat p.1 D) → cellV oR' (.ref D) → Fr g L h' m → News g L h' ((D, listOf #[] 0) :: (L + 1, oR') :: RT) → K .next { s with heap := h', toks := tk }) :
    wpAny (model prog w) A (exec (st224 w.params 2) (env224 w.params L)) K E s := by
  have hcLine : cLine = 9900 := rfl
  have hrec : recursionLimit = 1000 := rfl
  dsimp only [st224, env224, fn224, Option.getD, List.getElem?_cons_succ, List.getElem?_cons_zero]
  repeat walk1
  rename_i D h1 hlt h2 oR' F7 N7 d7
  refine hK _ _ D oR' (fun p hp => ?_) d7 F7 N7
  rcases List.mem_cons.mp hp with rfl | hp
  · exact Nat.ne_of_lt hlt.1
  · exact Nat.ne_of_lt (lowAll hlt.2 p hp)
end
end

noncomputable section
example : True := by -- walkOff_D25
  w_top off
  exact True.intro
theorem perm25 {α : Type} {LED R0 : List α} {d c : α} : List.Perm (LED ++ (d :: c :: R0)) (d :: c :: (LED ++ R0)) := permT [LED, [d], [c], R0] (.p (.a 0) (.p (.a 1) (.p (.a 2) (.a 3)))) (.p (.a 1) (.p (.a 2) (.p (.a 0) (.a 3)))) rfl
section
variable {A : Around} {s : Shared} {g : Heap} {L : Nat} {m : Str → Option Value} {p : Program} {loose : List Str} {mean : ExcName → Option Value} {mg mb : Str → Option Value} {K : Flow → Shared → Prop} {E : Value → Shared → Prop}
  {tl R0 : List (Addr × Obj)} {oR : Obj}
inductive JC (P : Params) (a : LexP) (tl : List (Addr × Obj)) (L : Nat) (oR : Obj) (D : Nat) (R0 : List (Addr × Obj)) (vs : List Value) (nS : Nat) (cs : List Nat) (n : Int) (tn : Tok) (W : List (List Nat)) (m : Str → Option Value) (k : Nat) (m₁ : Str → Option Value) : List (Addr × Obj) → Prop
  | go (j : Nat) (ys ps : List Value) (nD np : Nat) (tx : Tok) (h : j < W.length) (hk : k = W.length - j) (hys : IntsAre ys (lens (W.take j))) (hm : ∀ y, y ≠ Str.ofString "word" → m₁ y = m y) (hw : m₁ (Str.ofString "word") = some (.str (txt W[j]) tx)) (hps : StrsAre ps ((W.drop (j + 1)).map txt)) :
    JC P a tl L oR D R0 vs nS cs n tn W m k m₁ ((a.led P vs nS n tn ps np ++ tl) ++ ((D, listOf ys.toArray nD) :: (L + 1, oR) :: R0))
  | stop (ys vs' : List Value) (nD np nS' : Nat) (tx tn' : Tok) (hk : k = 0) (hys : IntsAre ys (lens W)) (hm : ∀ y, y ≠ Str.ofString "word" → m₁ y = m y) (hw : m₁ (Str.ofString "word") = some (.str (txt []) tx)) (hS : SignsAre vs' []) :
    JC P a tl L oR D R0 vs nS cs n tn W m k m₁ ((a.led P vs' nS' (n + nls cs) tn' [] np ++ tl) ++ ((D, listOf ys.toArray nD) :: (L + 1, oR) :: R0))
set_option maxHeartbeats 2000000 in
theorem rooks_count {a : LexP} {vs ps : List Value} {nS np D : Nat} {cs : List Nat} {n : Int} {tn tx : Tok} {W : List (List Nat)} (ha : a.Ok tl) (hS : SignsAre vs cs) (hcs : cs.length ≤ 10000) (hasc : Asc cs) (hw0 : word cs = ([], [])) (hW : ∀ x ∈ W, Wordy 100 x) (hWl : W.length ≤ 1000) (hW0 : 0 < W.length) (hps : StrsAre ps ((W.drop 1).map txt)) (hcell : cellV oR (.ref D)) (hh : A.handled = none) (X : (hdK.heap_1 w.params).In g) (T : Top p loose mean mg mb g)
    (hdep : A.depth + 40 < recursionLimit) (hu : A.units + 600 < cLine) (hnd : Nd ((a.led w.params vs nS n tn ps np ++ tl) ++ ((D, listOf #[] 0) :: (L + 1, oR) :: R0)))
    (hsay : Says m [(Str.ofString "lexer", .ref a.x), (Str.ofString "word", .str (txt W[0]) tx)])
    (F : Fr g L s.heap m) (N : News g L s.heap ((a.led w.params vs nS n tn ps np ++ tl) ++ ((D, listOf #[] 0) :: (L + 1, oR) :: R0)))
    (hK : ∀ h' tk vs' nS' np' ys nD tn' m', SignsAre vs' [] → IntsAre ys (lens W) → (∀ y, y ≠ Str.ofString "word" → m' y = m y) → Fr g L h' m' → News g L h' ((a.led w.params vs' nS' (n + nls cs) tn' [] np' ++ tl) ++ ((D, listOf ys.toArray nD) :: (L + 1, oR) :: R0)) → K .next { s with heap := h', toks := tk }) :
    wpAny (model prog w) A (exec (st224 w.params 4) (env224 w.params L)) K (fun _ _ => False) s := by
  have hcLine : cLine = 9900 := rfl
  have hrec : recursionLimit = 1000 := rfl
  dsimp only [st224, env224, fn224, Option.getD, List.getElem?_cons_succ, List.getElem?_cons_zero]
  refine While_inv (JC w.params a tl L oR D R0 vs nS cs n tn W m) F N (.go 0 [] ps 0 np tx hW0 rfl .nil (fun y _ => rfl) (hsay _ (.tail _ (.head _))) hps) ?_
  have hl0 : m (Str.ofString "lexer") = some (.ref a.x) := hsay _ (.head _)
  clear F N hps hsay
  intro k m₁ news₁ h₁ tk₁ F N hJ
  rcases hJ with ⟨j, ys, ps, nD, np, tx, hj, rfl, hys, hm1, hmw, hps⟩ | ⟨ys, vs', nD, np, nS', tx, tn', rfl, hys, hm1, hmw, hS'⟩
  rotate_left
  · have hsay : Says m₁ [(Str.ofString "word", .str (txt []) tx)] := says_cons hmw says_nil
    have F1 := Mine.Fr.said F hsay
    clear F
    repeat walk1
    exact hK _ _ vs' nS' np ys nD tn' m₁ hS' hys hm1 (Mine.Fr.unsaid F1 hsay) N
  · have hsay : Says m₁ [(Str.ofString "word", .str (txt W[j]) tx)] := says_cons hmw says_nil
    have F1 := Mine.Fr.said F hsay
    have hwx := hW _ (List.getElem_mem hj)
    have hne : (txt W[j] != Str.ofString "") = true := by
      rw [bne_iff_ne]
      intro e
      have e3 : W[j] = [] := congrArg (fun y => y.cps.toList) e
      have := hwx.1
      rw [e3] at this; simp at this
    clear F
    iterate 4 walk1
    rw [hne]
    iterate 1 walk1
    show wpAny (model prog w) A (execs [wst2 w.params 0, wst2 w.params 1] (env224 w.params L)) _ _ _
    have hnd2 : Nd ((D, listOf ys.toArray nD) :: (L + 1, oR) :: ((a.led w.params vs nS n tn ps np ++ tl) ++ R0)) := (hnd.perm perm25).same rfl
    have hyl : ys.length ≤ 1000 := by rw [hys.length, List.length_map, List.length_take]; omega
    refine wpAny_execs_cons (rooks_app (D := D) (nD := nD) (tx := tx) (x := W[j]) hys (by omega) hwx.2 hh X T (by first | exact ar_lim hdep (by decide) | exact ar_limD hdep (by decide) | omega) (by first | exact ar_lim hu (by decide) | exact ar_limU hu (by decide) | omega) (fun p hp => hnd2.hd p (.tail _ hp)) (hnd2.hd _ (.head _)) hcell hsay (Mine.Fr.unsaid F1 hsay) (newsP N perm25) ?_)
    intro h2 tk2 ys2 nD2 hys2 F2 N2
    have hl1 : m₁ (Str.ofString "lexer") = some (.ref a.x) := (hm1 _ (by decide)).trans hl0
    have hst : lens (W.take (j + 1)) = lens (W.take j) ++ [(W[j].length : Int) - 1] := by
      rw [List.take_add_one, List.getElem?_eq_getElem hj]
      exact List.map_append
    rw [← hst] at hys2
    have N3 := newsP N2 perm25.symm
    have hnd3 : Nd ((a.led w.params vs nS n tn ps np ++ tl) ++ ((D, listOf ys2.toArray nD2) :: (L + 1, oR) :: R0)) := hnd.sameA rfl rfl
    dsimp only
    by_cases hj1 : j + 1 < W.length
    · have hdr : W.drop (j + 1) = W[j + 1] :: W.drop (j + 1 + 1) := List.drop_eq_getElem_cons hj1
      rw [hdr, List.map_cons] at hps
      obtain ⟨t2, ps2, rfl, hps2⟩ := strs_uncons hps
      have hpl : ps2.length ≤ 1000 := by rw [hps2.length, List.length_map, List.length_drop]; omega
      refine wpAny_execs_cons (rooks_get ha (by omega) hh X T hdep hu hnd3.sep (says_cons hl1 says_nil) F2 N3 ?_).2
      intro h4 tk4 np4 F4 N4
      refine wpAny_execs_nil (WhileStep.intro F4 N4 (n' := W.length - (j + 1)) (by omega) (.go (j + 1) ys2 ps2 nD2 np4 t2 hj1 rfl hys2 (fun y h1 => ?_) (if_pos rfl) hps2))
      show (if y = Str.ofString "word" then _ else m₁ y) = m y
      rw [if_neg h1]; exact hm1 y h1
    · have hje : j + 1 = W.length := by omega
      have hdr : W.drop (j + 1) = [] := by rw [hje, List.drop_length]
      rw [hdr] at hps
      have : ps = [] := by cases hps; rfl
      subst this
      refine wpAny_execs_cons (rooks_getW ha hS hcs hasc hh X T hdep hu hnd3.sep (says_cons hl1 says_nil) F2 N3 ?_)
      intro h4 tk4 vs4 nS4 tn4 t4 hS4 F4 N4
      rw [hw0] at hS4 F4 N4
      rw [hje, List.take_length] at hys2
      have e0 : n + nls cs - nls [] = n + nls cs := by rw [nls_nil, Int.sub_zero]
      rw [e0] at N4
      refine wpAny_execs_nil (WhileStep.intro F4 N4 (n' := 0) (by omega) (.stop ys2 vs4 nD2 np nS4 t4 tn4 rfl hys2 (fun y h1 => ?_) (if_pos rfl) hS4))
      show (if y = Str.ofString "word" then _ else m₁ y) = m y
      rw [if_neg h1]; exact hm1 y h1
end
end

noncomputable section
example : True := by -- walkOff_D26
  w_top off
  exact True.intro
theorem perm26 {α : Type} {LED : List α} {d c h : α} : List.Perm (LED ++ (d :: c :: [h])) (d :: c :: h :: LED) := permT [LED, [d], [c], [h]] (.p (.a 0) (.p (.a 1) (.p (.a 2) (.p (.a 3) .o)))) (.p (.a 1) (.p (.a 2) (.p (.a 3) (.a 0)))) rfl
noncomputable def rookNums (hs : List Nat) : List Int := (List.range (hs.length + 1)).map fun i : Nat => (((lens (rooksW hs)).count ((hs.length : Int) - (i : Int)) : Nat) : Int)
section
variable {A : Around} {s : Shared} {g : Heap} {L : Nat} {m : Str → Option Value} {p : Program} {loose : List Str} {mean : ExcName → Option Value} {mg mb : Str → Option Value} {K : Flow → Shared → Prop} {E : Value → Shared → Prop}
  {tl RT : List (Addr × Obj)} {oR : Obj}
set_option maxHeartbeats 2000000 in
theorem rooks_ret {D nD hl nh : Nat} {ys hv : List Value} {hs : List Nat} {ns : List Int} (hys : IntsAre ys ns) (hyl : ys.length ≤ 1000) (hI : IntsAre hv (asInts hs)) (hlen : hs.length ≤ 4) (hcell : cellV oR (.ref D)) (hh : A.handled = none) (X : (hdK.heap_1 w.params).In g) (T : Top p loose mean mg mb g)
    (hdep : A.depth + 40 < recursionLimit) (hu : A.units + 600 < cLine)
    (hsay : Says m [(Str.ofString "heights", .ref hl)])
    (F : Fr g L s.heap m) (N : News g L s.heap ((D, listOf ys.toArray nD) :: (L + 1, oR) :: (hl, listOf hv.toArray nh) :: RT))
    (hK : ∀ h' tk (D2 : Nat) zs, LCg.Off1 D2 ((D, listOf ys.toArray nD) :: (L + 1, oR) :: (hl, listOf hv.toArray nh) :: RT) → IntsAre zs ((List.range (hs.length + 1)).map fun i : Nat => (((ns.count ((hs.length : Int) - (i : Int))) : Nat) : Int)) → Fr g L h' m → News g L h' ((D2, listOf zs.toArray zs.length) :: (D, listOf ys.toArray nD) :: (L + 1, oR) :: (hl, listOf hv.toArray nh) :: RT) → K (.ret (.ref D2)) { s with heap := h', toks := tk }) :
    wpAny (model prog w) A (exec (st224 w.params 5) (env224 w.params L)) K E s := by
  have hcLine : cLine = 9900 := rfl
  have hrec : recursionLimit = 1000 := rfl
  have hvl : hv.length = hs.length := by rw [hI.length]; simp
  dsimp only [st224, env224, fn224, Option.getD, List.getElem?_cons_succ, List.getElem?_cons_zero]
  have F := Mine.Fr.said F hsay
  iterate 1 walk1
  refine comp_down F rfl (by decide) rfl (by decide) rfl ?_
  repeat walk1
  with_reducible rename IsRange _ _ _ _ _ _ _ _ => hR
  with_reducible rename Fr _ _ _ _ => F2
  with_reducible rename News _ _ _ _ => N2
  rw [List.length_map] at hR
  refine ⟨_, hs.length, hs.length + 1, -1, _, _, _, _, fun i zs news => news = ((D, listOf ys.toArray nD) :: (L + 1, oR) :: (hl, listOf hv.toArray nh) :: RT) ∧ IntsAre zs ((List.range i).map fun i : Nat => (((ns.count ((hs.length : Int) - (i : Int))) : Nat) : Int)), rfl, hh, F2, N2, hR, by omega, by omega, by decide, ⟨rfl, .nil⟩, ?_, ?_⟩
  · rintro i zs news ti I oI C oC D3 m₂ h tk E' hi ⟨rfl, hzs⟩ hC hx htk F N off hne2
    have off0 := off
    simp only [LCg.Off3, and_true] at off
    repeat walk1
    with_reducible rename Fr _ _ _ _ => F5
    with_reducible rename News _ _ _ _ => N5
    refine LCg.CompEnd.intro F5 N5 _ (fun p hp => hp) off0 True.intro ⟨rfl, ?_⟩
    rw [List.range_succ, List.map_append]
    exact snocI hzs
  · rintro zs news ⟨rfl, hzs⟩
    unfold LCg.FinE
    intro D3 h tk F N off
    have e9 : kstB m [(Str.ofString "heights", Value.ref hl)] = m := by funext z; exact kstB_eq hsay fun _ => rfl
    rw [e9] at F
    exact hK _ _ D3 zs off hzs F N
theorem LexP.Ok.nd {a : LexP} {tl : List (Addr × Obj)} {P : Params} {vs ps : List Value} {nS np : Nat} {n : Int} {tn : Tok} (ha : a.Ok tl) (ht : Nd tl) : Nd (a.led P vs nS n tn ps np ++ tl) := by
  obtain ⟨⟨e1, e2, e3, e4, e5, e6, e7, e8⟩, _, _, ⟨p1, p2, p3, p4, p5, p6, p7, p8, p9⟩⟩ := ha
  have lt : ∀ {x y z : Nat}, x < y → y < z → x < z := Nat.lt_trans
  have q7 := lt e7 e8
  have q6 := lt e6 q7
  have q5 := lt e5 q6
  have q4 := lt e4 q5
  have q3 := lt e3 q4
  have q2 := lt e2 q3
  have q1 := lt e1 q2
  have r6 := lt e6 e7
  have r5 := lt e5 r6
  have r4 := lt e4 r5
  have r3 := lt e3 r4
  have r2 := lt e2 r3
  have r1 := lt e1 r2
  have s5 := lt e5 e6
  have s4 := lt e4 s5
  have s3 := lt e3 s4
  have s2 := lt e2 s3
  have s1 := lt e1 s2
  have t4 := lt e4 e5
  have t3 := lt e3 t4
  have t2 := lt e2 t3
  have t1 := lt e1 t2
  have u3 := lt e3 e4
  have u2 := lt e2 u3
  have u1 := lt e1 u2
  have v2 := lt e2 e3
  have v1 := lt e1 v2
  have w1 := lt e1 e2
  have ne : ∀ {x y : Nat}, x < y → x ≠ y := Nat.ne_of_lt
  have fa : ∀ {p : Addr × Obj → Prop} {a : Addr × Obj} {l : List (Addr × Obj)}, p a → (∀ x ∈ l, p x) → ∀ x ∈ a :: l, p x := fun h h' => List.forall_mem_cons.mpr ⟨h, h'⟩
  refine Nd.cons (Nd.cons (Nd.cons (Nd.cons (Nd.cons (Nd.cons (Nd.cons (Nd.cons (Nd.cons ht p1) ?_) ?_) ?_) ?_) ?_) ?_) ?_) ?_
  · exact fa (ne e1) p2
  · exact fa (ne e2) (fa (ne w1) p3)
  · exact fa (ne e3) (fa (ne v2) (fa (ne v1) p4))
  · exact fa (ne e4) (fa (ne u3) (fa (ne u2) (fa (ne u1) p5)))
  · exact fa (ne e5) (fa (ne t4) (fa (ne t3) (fa (ne t2) (fa (ne t1) p6))))
  · exact fa (ne e6) (fa (ne s5) (fa (ne s4) (fa (ne s3) (fa (ne s2) (fa (ne s1) p7)))))
  · exact fa (ne e7) (fa (ne r6) (fa (ne r5) (fa (ne r4) (fa (ne r3) (fa (ne r2) (fa (ne r1) p8))))))
  · exact fa (ne e8) (fa (ne q7) (fa (ne q6) (fa (ne q5) (fa (ne q4) (fa (ne q3) (fa (ne q2) (fa (ne q1) p9)))))))
theorem mem26x {α : Type} {q d c h : α} {LED : List α} (hp : q ∈ LED ++ [h]) : q ∈ d :: c :: h :: LED := memT [LED, [h], [d], [c]] (.p (.a 0) (.p (.a 1) .o)) (.p (.a 2) (.p (.a 3) (.p (.a 1) (.a 0)))) rfl hp
theorem mem26y {α : Type} {q d e c h : α} {LED : List α} (hp : q ∈ d :: (LED ++ [h])) : q ∈ d :: e :: c :: h :: LED := memT [[d], LED, [h], [e], [c]] (.p (.a 0) (.p (.a 1) (.p (.a 2) .o))) (.p (.a 0) (.p (.a 3) (.p (.a 4) (.p (.a 2) (.a 1))))) rfl hp
theorem rooks_pos (hs : List Nat) : 0 < (rooksW hs).length := by
  have key : ∀ (hs : List Nat) (W : List (List Nat)), 0 < W.length → 0 < (hs.foldl stepW W).length := by
    intro hs
    induction hs with
    | nil => exact fun W h => h
    | cons h hs ih =>
      intro W hW
      refine ih _ ?_
      cases W with
      | nil => simp at hW
      | cons x W => unfold stepW growW; rw [List.flatMap_cons]; simp
  exact key hs _ (by decide)
theorem perm26a {α : Type} {LED : List α} {c h : α} : List.Perm ([c] ++ (LED ++ [h])) (LED ++ [h, c]) := permT [[c], LED, [h]] (.p (.p (.a 0) .o) (.p (.a 1) (.p (.a 2) .o))) (.p (.a 1) (.p (.a 2) (.p (.a 0) .o))) rfl
theorem perm26b {α : Type} {LED : List α} {c h : α} : List.Perm (LED ++ [h, c]) (c :: h :: LED) := permT [LED, [h], [c]] (.p (.a 0) (.p (.a 1) (.p (.a 2) .o))) (.p (.a 2) (.p (.a 1) (.a 0))) rfl
theorem perm26c {α : Type} {LED : List α} {d c h : α} : List.Perm (d :: c :: h :: LED) (LED ++ (d :: c :: [h])) := permT [[d], [c], [h], LED] (.p (.a 0) (.p (.a 1) (.p (.a 2) (.a 3)))) (.p (.a 3) (.p (.a 0) (.p (.a 1) (.p (.a 2) .o)))) rfl
set_option maxHeartbeats 2000000 in
theorem law_rooks {a : LexP} {tl : List (Addr × Obj)} {vs hv : List Value} {cs hs : List Nat} {nS np hl nh : Nat} {n : Int} {tn : Tok} (ha : a.Ok tl) (hntl : Nd tl) (hS : SignsAre vs cs) (hcs : cs.length ≤ 10000) (hasc : Asc cs) (hw0 : word cs = ([], [])) (hI : IntsAre hv (asInts hs)) (hh4 : ∀ h ∈ hs, h ≤ 4) (hlen : hs.length ≤ 4)
    (hap : ∀ p ∈ a.led w.params vs nS n tn [] np ++ tl, p.1 ≠ hl) :
    Meets prog w (hdK.heap_1 w.params) (.call (.ref 224) ⟨[.ref a.x, .ref hl], []⟩) ((a.led w.params vs nS n tn [] np ++ tl) ++ [(hl, listOf hv.toArray nh)]) 50 700 (fun n₀ v l' => ∃ (D : Nat) (zs vs' : List Value) (nS' np' : Nat) (tn' : Tok), v = .ref D ∧ IntsAre zs (rookNums hs) ∧ SignsAre vs' [] ∧
      (∀ p ∈ (a.led w.params vs' nS' (n + nls cs) tn' [] np' ++ tl) ++ [(hl, listOf hv.toArray nh)], p.1 ≠ D) ∧ l' = (D, listOf zs.toArray zs.length) :: ((a.led w.params vs' nS' (n + nls cs) tn' [] np' ++ tl) ++ [(hl, listOf hv.toArray nh)])) := by
  refine meets_defC (by k_is) (by k_is) (fun s => BindsTo.of_eq rfl) rfl (by decide +kernel) (fun A s g p loose mean mg mb n₀ L h₁ tk cells k hh hdep hu X T hn hfp hfp2 F N Y hk => ?_)
  try dsimp only
  k_cells Y
  rename_i oR dR
  have hcLine : cLine = 9900 := rfl
  have hrec : recursionLimit = 1000 := rfl
  have hnd0 : Nd ([(L + 1, oR)] ++ ((a.led w.params vs nS n tn [] np ++ tl) ++ [(hl, listOf hv.toArray nh)])) := by
    show Nd ((L + 1, oR) :: ((a.led w.params vs nS n tn [] np ++ tl) ++ [(hl, listOf hv.toArray nh)]))
    refine Nd.cons (Nd.app (ha.nd hntl) (Nd.cons (show Nd [] from List.nodup_nil) (fun q hq => nomatch hq)) (fun q hq p hp => ?_)) (fun q hq => ?_)
    · rw [List.mem_singleton.mp hq]; exact hap p hp
    · have := hfp2 q hq
      exact Nat.ne_of_lt (Nat.lt_succ_of_lt this)
  have hm0 : Says (bindL (env224 w.params L).kindOf [(Str.ofString "lexer", Value.ref a.x), (Str.ofString "heights", Value.ref hl)] fun _ => none) [(Str.ofString "lexer", .ref a.x), (Str.ofString "heights", .ref hl)] := says_cons (by with_unfolding_all rfl) (says_cons (by with_unfolding_all rfl) says_nil)
  have hnd1 := hnd0.perm perm26a
  show wpAny (model prog w) A (execs [st224 w.params 0, st224 w.params 1, st224 w.params 2, st224 w.params 3, st224 w.params 4, st224 w.params 5] (env224 w.params L)) _ _ _
  refine wpAny_execs_cons (rooks_first ha hh X T (by first | exact ar_lim hdep (by decide) | exact ar_limD hdep (by decide) | omega) (by first | exact ar_lim hu (by decide) | exact ar_limU hu (by decide) | omega) hnd1.sep (says_sub hm0 (fun p hp => by rw [List.mem_singleton.mp hp]; exact .head _)) F (newsP N perm26a) ?_)
  intro h1 tk1 np1 ps1 hps1 F1 N1
  dsimp only
  refine wpAny_execs_cons (rooks_for (hs := hs) ha hI hh4 hlen hps1 (.head _) hh X T (by first | exact ar_lim hdep (by decide) | exact ar_limD hdep (by decide) | omega) (by first | exact ar_lim hu (by decide) | exact ar_limU hu (by decide) | omega) (ap_led hnd1.sep) hm0 F1 N1 ?_)
  intro h2 tk2 np2 ps2 m2 hps2 hm2 F2 N2
  dsimp only
  have hnd2 : Nd ((L + 1, oR) :: (hl, listOf hv.toArray nh) :: (a.led w.params vs nS n tn ps2 np2 ++ tl)) := (hnd1.perm perm26b).same rfl
  refine wpAny_execs_cons (rooks_new hh X T dR hnd2.hd F2 (newsP N2 perm26b) ?_)
  intro h3 tk3 D oR' hD dR' F3 N3
  dsimp only
  have hnd3 : Nd ((D, listOf #[] 0) :: (L + 1, oR') :: (hl, listOf hv.toArray nh) :: (a.led w.params vs nS n tn ps2 np2 ++ tl)) := Nd.cons (hnd2.same rfl) (fun q hq => by
    rcases List.mem_cons.mp hq with rfl | hq
    · exact hD (L + 1, oR) (.head _)
    · exact hD q (.tail _ hq))
  have hwd := rooks_wordy hs.length hs rfl
  have hWl : (rooksW hs).length ≤ 625 := Nat.le_trans hwd.2 (Nat.le_trans (Nat.pow_le_pow_right (by decide) hlen) (by decide))
  have hW0 := rooks_pos hs
  have hW : ∀ x ∈ rooksW hs, Wordy 100 x := fun x hx => ⟨(hwd.1 x hx).1, Nat.le_trans (hwd.1 x hx).2 (by omega)⟩
  have hm2s : Says m2 [(Str.ofString "lexer", .ref a.x), (Str.ofString "heights", .ref hl)] := says_cons ((hm2 _ (by decide)).trans (hm0 _ (.head _))) (says_cons ((hm2 _ (by decide)).trans (hm0 _ (.tail _ (.head _)))) says_nil)
  generalize hWW : rooksW hs = W at *
  have hdr : W = W[0] :: W.drop 1 := (List.drop_eq_getElem_cons hW0).symm ▸ rfl
  rw [hdr, List.map_cons] at hps2
  obtain ⟨t0, ps3, rfl, hps3⟩ := strs_uncons hps2
  have hpl : ps3.length ≤ 1000 := by rw [hps3.length, List.length_map, List.length_drop]; omega
  have N3' := newsP N3 perm26c
  have hnd4 := hnd3.perm perm26c
  refine wpAny_execs_cons (rooks_get (R := [(D, listOf #[] 0), (L + 1, oR'), (hl, listOf hv.toArray nh)]) ha (by omega) hh X T (by first | exact ar_lim hdep (by decide) | exact ar_limD hdep (by decide) | omega) (by first | exact ar_lim hu (by decide) | exact ar_limU hu (by decide) | omega) hnd4.sep (says_sub hm2s (fun p hp => by rw [List.mem_singleton.mp hp]; exact .head _)) F3 N3' ?_).1
  intro h4 tk4 np4 F4 N4
  dsimp only
  have hnd5 : Nd ((a.led w.params vs nS n tn ps3 np4 ++ tl) ++ [(D, listOf #[] 0), (L + 1, oR'), (hl, listOf hv.toArray nh)]) := hnd4.same rfl
  refine wpAny_execs_cons (rooks_count (R0 := [(hl, listOf hv.toArray nh)]) (W := W) (tx := t0) ha hS hcs hasc hw0 hW (by omega) hW0 hps3 dR' hh X T (by first | exact ar_lim hdep (by decide) | exact ar_limD hdep (by decide) | omega) (by first | exact ar_lim hu (by decide) | exact ar_limU hu (by decide) | omega) hnd5 (says_cons (sayIf (says_sub hm2s (l' := [(Str.ofString "lexer", .ref a.x)]) (fun p hp => by rw [List.mem_singleton.mp hp]; exact .head _)) (by kernel_rfl) _ (.head _)) (says_cons (if_pos rfl) says_nil)) F4 N4 ?_)
  intro h5 tk5 vs5 nS5 np5 ys5 nD5 tn5 m5 hS5 hys5 hm5 F5 N5
  dsimp only
  have hnd6 : Nd ((a.led w.params vs5 nS5 (n + nls cs) tn5 [] np5 ++ tl) ++ [(D, listOf ys5.toArray nD5), (L + 1, oR'), (hl, listOf hv.toArray nh)]) := hnd5.sameA rfl rfl
  have hh5 : m5 (Str.ofString "heights") = some (.ref hl) := by
    rw [hm5 _ (by decide)]
    show (if Str.ofString "heights" = Str.ofString "word" then _ else m2 (Str.ofString "heights")) = _
    rw [if_neg (by decide)]
    exact hm2s _ (.tail _ (.head _))
  refine wpAny_execs_cons (rooks_ret (RT := a.led w.params vs5 nS5 (n + nls cs) tn5 [] np5 ++ tl) hys5 (by rw [hys5.length, List.length_map]; omega) hI hlen dR' hh X T (by first | exact ar_lim hdep (by decide) | exact ar_limD hdep (by decide) | omega) (by first | exact ar_lim hu (by decide) | exact ar_limU hu (by decide) | omega) (says_cons hh5 says_nil) F5 (newsP N5 perm26) ?_)
  intro h6 tk6 D2 zs off hzs F6 N6
  dsimp only
  refine hk _ _ h6 tk6 m5 ⟨D2, zs, vs5, nS5, np5, tn5, rfl, by rw [show rookNums hs = (List.range (hs.length + 1)).map fun i : Nat => (((lens W).count ((hs.length : Int) - (i : Int)) : Nat) : Int) by unfold rookNums; rw [hWW]]; exact hzs, hS5, fun p hp => Off1.mem off p ?_, rfl⟩ F6 (fun p hp => N6 p ?_)
  · exact mem26x hp
  · exact mem26y hp
end
end

noncomputable section
example : True := by -- walkOff_D27
  w_top off
  exact True.intro
noncomputable def ilv (z : Nat) (σ : WsSt) : Int := σ.b + z * (ilTo z σ.count σ.count.length + σ.nt)
noncomputable def runOf (σ : WsSt) : Int := max ((σ.count.length : Int) - 1) σ.b
noncomputable def witRows (σ τ : WsSt) : Nat → List (List Int)
  | 0 => []
  | k + 1 => witRows σ τ k ++ if ilv (k + 1) σ ≠ ilv (k + 1) τ then [[((k + 1 : Nat) : Int), ilv (k + 1) σ, ilv (k + 1) τ]] else []
theorem witRows_len (σ τ : WsSt) : ∀ k, (witRows σ τ k).length ≤ k
  | 0 => Nat.le_refl _
  | k + 1 => by
    have := witRows_len σ τ k
    unfold witRows
    split <;> simp <;> omega
theorem WsP.Apart.nd {a : WsP} {P : Params} {l : List Nat} {σ : WsSt} {vs : List Value} (ha : a.Apart) : Nd (a.led P l σ vs) := by
  obtain ⟨e1, e2, e3, e4, e5, e6⟩ := ha
  have key : ([a.tN, a.tC, a.x, a.dx] : List Nat).Nodup := by
    simp only [List.nodup_cons, List.mem_cons, List.not_mem_nil, or_false, not_or, List.nodup_nil, not_false_eq_true, and_true]
    omega
  exact key
section
theorem perm27 {α : Type} {la lb TL : List α} {d : α} : List.Perm (d :: (la ++ (lb ++ TL))) (la ++ (d :: (lb ++ TL))) := permT [[d], la, lb, TL] (.p (.a 0) (.p (.a 1) (.p (.a 2) (.a 3)))) (.p (.a 1) (.p (.a 0) (.p (.a 2) (.a 3)))) rfl
theorem perm27c {α : Type} {la lb TL own : List α} {d : α} : List.Perm ((d :: (la ++ (lb ++ TL))) ++ own) (d :: (la ++ (lb ++ (TL ++ own)))) := permT [[d], la, lb, TL, own] (.p (.p (.a 0) (.p (.a 1) (.p (.a 2) (.a 3)))) (.a 4)) (.p (.a 0) (.p (.a 1) (.p (.a 2) (.p (.a 3) (.a 4))))) rfl
theorem perm27d {α : Type} {la lb TL own : List α} {d t : α} : List.Perm (t :: d :: (la ++ (lb ++ (TL ++ own)))) ((d :: (la ++ (lb ++ (t :: TL)))) ++ own) := permT [[t], [d], la, lb, TL, own] (.p (.a 0) (.p (.a 1) (.p (.a 2) (.p (.a 3) (.p (.a 4) (.a 5)))))) (.p (.p (.a 1) (.p (.a 2) (.p (.a 3) (.p (.a 0) (.a 4))))) (.a 5)) rfl
theorem perm27e {α : Type} {la lb TL : List α} {d t : α} : List.Perm (t :: d :: (la ++ (lb ++ TL))) (d :: (la ++ (lb ++ (t :: TL)))) := permT [[t], [d], la, lb, TL] (.p (.a 0) (.p (.a 1) (.p (.a 2) (.p (.a 3) (.a 4))))) (.p (.a 1) (.p (.a 2) (.p (.a 3) (.p (.a 0) (.a 4))))) rfl
theorem perm27z {α : Type} {la lb : List α} {d : α} : List.Perm (d :: (la ++ lb)) (d :: (la ++ (lb ++ []))) := permT [[d], la, lb] (.p (.a 0) (.p (.a 1) (.a 2))) (.p (.a 0) (.p (.a 1) (.p (.a 2) .o))) rfl
theorem perm27b {α : Type} {la lb TL : List α} {d : α} : List.Perm (d :: (la ++ (lb ++ TL))) (lb ++ (d :: (la ++ TL))) := permT [[d], la, lb, TL] (.p (.a 0) (.p (.a 1) (.p (.a 2) (.a 3)))) (.p (.a 2) (.p (.a 0) (.p (.a 1) (.a 3)))) rfl
inductive JNe (P : Params) (a b : WsP) (l l2 : List Nat) (σ τ : WsSt) (vs us : List Value) (D : Nat) (i : Nat) (m₁ : Str → Option Value) : List (Addr × Obj) → Prop
  | mk (xs : List Value) (nD : Nat) (TL : List (Addr × Obj)) (hsay : Says m₁ [(Str.ofString "self", .ref a.x), (Str.ofString "other", .ref b.x), (Str.ofString "a", .ref D)]) (hxs : TupsAre xs (witRows σ τ i) TL) (hnd : Nd ((D, listOf xs.toArray nD) :: (a.led P l σ vs ++ (b.led P l2 τ us ++ TL)))) :
      JNe P a b l l2 σ τ vs us D i m₁ ((D, listOf xs.toArray nD) :: (a.led P l σ vs ++ (b.led P l2 τ us ++ TL)))
theorem run27 {σ : WsSt} (hc : σ.count.length ≤ 1000) (hb : σ.b ≤ 1000) : (0 : Int) ≤ runOf σ ∧ runOf σ ≤ 1000 := by
  exact ⟨Int.le_trans (Int.natCast_nonneg _) (Int.le_max_right ..), Int.max_le.mpr ⟨Int.le_trans (Int.sub_le_self _ (by decide)) (Int.ofNat_le.mpr hc), Int.ofNat_le.mpr hb⟩⟩
theorem top27 {x y : Int} (hx : 0 ≤ x ∧ x ≤ 1000) (hy : 0 ≤ y ∧ y ≤ 1000) : ∃ N : Nat, max x y + 1 = (N : Int) ∧ N ≤ 1001 ∧ (max x y + 1).toNat = N := by
  exact ⟨(max x y + 1).toNat, (Int.toNat_of_nonneg (Int.le_trans hx.1 (Int.le_trans (Int.le_max_left ..) (Int.le_add_of_nonneg_right (by decide))))).symm, Int.toNat_le.mpr (Int.add_le_add_right (Int.max_le.mpr ⟨hx.2, hy.2⟩) 1), rfl⟩
theorem sep27 {LA LB TL own : List (Addr × Obj)} {D : Addr} {o o' : Obj} (h : Nd (LA ++ ((D, o) :: (LB ++ TL)))) (hs : ∀ q ∈ LA, ∀ p ∈ own, p.1 ≠ q.1) : ∀ q ∈ (D, o) :: (LB ++ (TL ++ own)), ∀ p ∈ LA, p.1 ≠ q.1 := fun q hq p hp => by
  have hq2 : q ∈ (D, o) :: (LB ++ TL) ∨ q ∈ own := by
    rcases List.mem_cons.mp hq with rfl | hq
    · exact .inl (.head _)
    rcases List.mem_append.mp hq with hq | hq
    · exact .inl (.tail _ (List.mem_append_left _ hq))
    rcases List.mem_append.mp hq with hq | hq
    · exact .inl (.tail _ (List.mem_append_right _ hq))
    · exact .inr hq
  rcases hq2 with hq | hq
  · exact h.sep q hq p hp
  · exact Ne.symm (hs p hp q hq)
theorem hdx27 {LA LB TL own : List (Addr × Obj)} {D : Addr} {o : Obj} (h : Nd ((D, o) :: (LA ++ (LB ++ TL)))) (hs : ∀ q ∈ (D, o) :: (LA ++ (LB ++ TL)), ∀ p ∈ own, p.1 ≠ q.1) : ∀ p ∈ LA ++ (LB ++ (TL ++ own)), p.1 ≠ D := fun p hp => by
  rcases List.mem_append.mp hp with hp | hp
  · exact h.hd p (List.mem_append_left _ hp)
  rcases List.mem_append.mp hp with hp | hp
  · exact h.hd p (List.mem_append_right _ (List.mem_append_left _ hp))
  rcases List.mem_append.mp hp with hp | hp
  · exact h.hd p (List.mem_append_right _ (List.mem_append_right _ hp))
  · exact hs (D, o) (.head _) p hp
theorem own27 {LA LB TL own : List (Addr × Obj)} {D D' : Addr} {o o' oT : Obj} (hs : ∀ q ∈ (D, o) :: (LA ++ (LB ++ TL)), ∀ p ∈ own, p.1 ≠ q.1) (hlo : ∀ p ∈ LA ++ (LB ++ (TL ++ own)), p.1 < D') : ∀ q ∈ (D, o') :: (LA ++ (LB ++ ((D', oT) :: TL))), ∀ p ∈ own, p.1 ≠ q.1 := fun q hq p hp => by
  rcases List.mem_cons.mp hq with rfl | hq
  · exact hs (D, o) (.head _) p hp
  rcases List.mem_append.mp hq with hq | hq
  · exact hs q (.tail _ (List.mem_append_left _ hq)) p hp
  rcases List.mem_append.mp hq with hq | hq
  · exact hs q (.tail _ (List.mem_append_right _ (List.mem_append_left _ hq))) p hp
  rcases List.mem_cons.mp hq with rfl | hq
  · exact Nat.ne_of_lt (hlo p (List.mem_append_right _ (List.mem_append_right _ (List.mem_append_right _ hp))))
  · exact hs q (.tail _ (List.mem_append_right _ (List.mem_append_right _ hq))) p hp
theorem nd27 {LA LB TL own : List (Addr × Obj)} {D D' : Addr} {o o' oT : Obj} (h : Nd ((D, o) :: (LA ++ (LB ++ TL)))) (h1 : D < D') (hlo : ∀ p ∈ LA ++ (LB ++ (TL ++ own)), p.1 < D') : Nd ((D, o') :: (LA ++ (LB ++ ((D', oT) :: TL)))) := by
  have h0 : Nd ((D', oT) :: (D, o') :: (LA ++ (LB ++ TL))) := by
    refine Nd.cons (h.same rfl) (fun q hq => ?_)
    rcases List.mem_cons.mp hq with rfl | hq
    · exact Nat.ne_of_lt h1
    · refine Nat.ne_of_lt (hlo q ?_)
      rcases List.mem_append.mp hq with hq | hq
      · exact List.mem_append_left _ hq
      rcases List.mem_append.mp hq with hq | hq
      · exact List.mem_append_right _ (List.mem_append_left _ hq)
      · exact List.mem_append_right _ (List.mem_append_right _ (List.mem_append_left _ hq))
  exact h0.perm perm27e
theorem Meets.callInt {K : Frag} {f : Value} {args : List Value} {fp news : List (Addr × Obj)} {d u : Nat} {x : Int} (rest : List (Addr × Obj))
    {A : Around} {s : Shared} {E : Value → Shared → Prop} {Q : Value → Shared → Prop} {h₀ : Heap} {L : Addr} {m : Str → Option Value} {p : Program} {loose : List Str} {mean : ExcName → Option Value} {mg mb : Str → Option Value}
    (S : Meets prog w K (.call f ⟨args, []⟩) fp d u (fun _ v l' => ∃ t, v = .int x t ∧ l' = fp)) (F : Fr h₀ L s.heap m) (N : News h₀ L s.heap news) (X : K.In h₀) (T : Top p loose mean mg mb h₀)
    (e : List.Perm news (fp ++ rest)) (nd : ∀ q ∈ rest, ∀ p ∈ fp, p.1 ≠ q.1) (hh : A.handled = none) (hd : A.depth + d < recursionLimit) (hu : A.units + u < cLine)
    (h : ∀ t h' tk, Fr h₀ L h' m → News h₀ L h' news → Q (.int x t) { s with heap := h', toks := tk }) :
    wpAny (model prog w) A (PySem.call f args) Q E s := by
  refine Meets.call rest S F (newsP N e) X T (fun p hp => List.mem_append_left _ hp) (fun p hp => List.mem_append_right _ hp) nd hh hd hu ?_
  intro n₀ v l h' tk hp F' N' _ _ _ _
  obtain ⟨t, rfl, rfl⟩ := hp
  exact h t h' tk F' (newsP N' e.symm)
set_option maxHeartbeats 1000000 in
theorem not_equal {a b : WsP} {l l2 : List Nat} {σ τ : WsSt} {vs us : List Value} (ha : a.Apart) (hb : b.Apart) (hab : ∀ q ∈ b.led w.params l2 τ us, ∀ p ∈ a.led w.params l σ vs, p.1 ≠ q.1) (hI : IntsAre vs σ.count) (hJ : IntsAre us τ.count) (hc : σ.count.length ≤ 1000) (hc2 : τ.count.length ≤ 1000) (hb1 : σ.b ≤ 1000) (hb2 : τ.b ≤ 1000) :
    Meets prog w (hdK.heap_1 w.params) (.call (.ref 184) ⟨[.ref a.x, .ref b.x], []⟩) (a.led w.params l σ vs ++ b.led w.params l2 τ us) 30 600 (fun n₀ v l' => ∃ (D nD : Nat) (xs : List Value) (TL : List (Addr × Obj)), v = .ref D ∧ TupsAre xs (witRows σ τ (max (runOf σ) (runOf τ) + 1).toNat) TL ∧ Nd l' ∧ l' = (D, listOf xs.toArray nD) :: (a.led w.params l σ vs ++ (b.led w.params l2 τ us ++ TL))) := by
  have S1 : ∀ (z : Nat) (tz : Tok) (h1 : 0 < z) (h2 : z ≤ 10000), Meets prog w (hdK.heap_1 w.params) (.call (.ref 170) ⟨[.ref a.x, .int z tz], []⟩) (a.led w.params l σ vs) 10 200 (fun n₀ v l' => ∃ t, v = .int (ilv z σ) t ∧ l' = a.led w.params l σ vs) := fun z tz h1 h2 => indent_level (w := w) (prog := prog) (size := z) (ts := tz) (l := l) ha hI h1 h2 (by omega)
  have S2 : ∀ (z : Nat) (tz : Tok) (h1 : 0 < z) (h2 : z ≤ 10000), Meets prog w (hdK.heap_1 w.params) (.call (.ref 170) ⟨[.ref b.x, .int z tz], []⟩) (b.led w.params l2 τ us) 10 200 (fun n₀ v l' => ∃ t, v = .int (ilv z τ) t ∧ l' = b.led w.params l2 τ us) := fun z tz h1 h2 => indent_level (w := w) (prog := prog) (size := z) (ts := tz) (l := l2) hb hJ h1 h2 (by omega)
  have S3 := longest_run (w := w) (prog := prog) (l := l) ha hI (by omega)
  have S4 := longest_run (w := w) (prog := prog) (l := l2) hb hJ (by omega)
  refine meets_def (by k_is) (by k_is) (fun s => BindsTo.of_eq rfl) (locs rfl) (by decide) (fun A s g p loose mean mg mb n₀ L h₁ tk k hh hdep hu X T hn hfp F N hk => ?_)
  try dsimp only
  have hcLine : cLine = 9900 := rfl
  have hrec : recursionLimit = 1000 := rfl
  refine gen_K fun K0 hK0 => ?_
  have hba : ∀ q ∈ a.led w.params l σ vs, ∀ p ∈ b.led w.params l2 τ us, p.1 ≠ q.1 := fun q hq p hp => Ne.symm (hab p hp q hq)
  repeat walk1
  dsimp only [List.append_nil]
  with_reducible rename Fr _ _ _ _ => F1
  have hd10 : A.depth + 10 < recursionLimit := by omega
  have hu200 : A.units + 200 < cLine := by omega
  refine Meets.callInt (b.led w.params l2 τ us) S3 F1 N X T (.refl _) hab hh hd10 hu200 (fun tr1 h₂ tk₂ F3 N3 => ?_)
  repeat walk1
  dsimp only [List.append_nil]
  with_reducible rename Fr _ _ _ _ => F4
  refine Meets.callInt (a.led w.params l σ vs) S4 F4 N3 X T List.perm_append_comm hba hh hd10 hu200 (fun tr2 h₃ tk₃ F5 N50 => ?_)
  clear N3 N
  repeat walk1
  with_reducible rename Fr _ _ _ _ => F6
  refine max_two_N hh F6 N50 (fun h5 tk5 F7 N7 => ?_)
  have eM : (if max ((τ.count.length : Int) - 1) (τ.b : Int) > max ((σ.count.length : Int) - 1) (σ.b : Int) then max ((τ.count.length : Int) - 1) (τ.b : Int) else max ((σ.count.length : Int) - 1) (σ.b : Int)) = max (runOf σ) (runOf τ) := max_two _ _
  rw [eM]
  obtain ⟨NN, eN, hN, eN2⟩ := top27 (run27 hc hb1) (run27 hc2 hb2)
  rw [eN2] at hk
  iterate 2 walk1
  rw [eN]
  generalize (if max ((τ.count.length : Int) - 1) (τ.b : Int) > max ((σ.count.length : Int) - 1) (σ.b : Int) then tr2 else tr1) = tr3
  clear N50 F6
  generalize hRT0 : a.led w.params l σ vs ++ b.led w.params l2 τ us = RT0 at N7
  repeat walk1
  with_reducible rename IsRange _ _ _ _ _ _ _ _ => hR
  with_reducible rename Fr _ _ _ _ => F9
  with_reducible rename News _ _ _ _ => N9
  rename_i D _ hlt _ _ _ _ _ _ _ _ _
  subst hRT0
  have hnd0 : Nd ((D, listOf #[] 0) :: (a.led w.params l σ vs ++ (b.led w.params l2 τ us ++ []))) := by
    rw [List.append_nil]
    exact Nd.cons (Nd.app ha.nd hb.nd hab) (fun q hq => Nat.ne_of_lt (hlt q hq))
  have N10 := newsP N9 perm27z
  rw [← Int.natCast_succ] at hR
  refine loopRange (a := 1) (b := NN + 1) hh (by decide) (by omega) hR F9 N10 (JNe w.params a b l l2 σ τ vs us D)
    (.mk [] 0 [] (says_cons (by rfl) (says_cons (by rfl) (says_cons (by rfl) says_nil))) .nil hnd0) ?_ ?_
  · intro i u m₁ news₁ h tk6 own kn hi hJ2 F2 N2 hsep hkn
    obtain ⟨xs, nD, TL, hsay, hxs, hnd⟩ := hJ2
    clear F9 N9 N10 hR hnd0 hlt eM
    refine gen_K fun KK hKK => ?_
    rw [Nat.add_comm 1 i] at F2
    have hz : 0 < i + 1 := Nat.succ_pos i
    have hz2 : i + 1 ≤ 10000 := by omega
    have hsay2 : Says (fun y => if y = Str.ofString "ts" then some (.int ((i + 1 : Nat) : Int) u) else m₁ y) [(Str.ofString "self", .ref a.x), (Str.ofString "other", .ref b.x), (Str.ofString "a", .ref D), (Str.ofString "ts", .int ((i + 1 : Nat) : Int) u)] :=
      says_cons (sayIf hsay (by kernel_rfl) _ (.head _)) (says_cons (sayIf hsay (by kernel_rfl) _ (.tail _ (.head _))) (says_cons (sayIf hsay (by kernel_rfl) _ (.tail _ (.tail _ (.head _)))) (says_cons (if_pos rfl) says_nil)))
    have F3 := Mine.Fr.said F2 hsay2
    have sep1 := sep27 (o' := listOf xs.toArray nD) (hnd.perm perm27) (fun q hq => hsep q (.tail _ (List.mem_append_left _ hq)))
    have sep2 := sep27 (o' := listOf xs.toArray nD) (hnd.perm perm27b) (fun q hq => hsep q (.tail _ (List.mem_append_right _ (List.mem_append_left _ hq))))
    have NC := newsP N2 (perm27c (TL := TL) (own := own))
    clear F2 N2
    repeat walk1
    try dsimp only [List.append_nil, List.cons_append, List.nil_append]
    with_reducible rename Fr _ _ _ _ => F4
    refine Meets.callInt _ (S1 (i + 1) u hz hz2) F4 NC X T perm27 sep1 hh hd10 hu200 (fun tv1 h6 tk7 F5 NC => ?_)
    clear F4
    repeat walk1
    try dsimp only [List.append_nil, List.cons_append, List.nil_append]
    with_reducible rename Fr _ _ _ _ => F4
    refine Meets.callInt _ (S2 (i + 1) u hz hz2) F4 NC X T perm27b sep2 hh hd10 hu200 (fun tv2 h7 tk8 F5 NC => ?_)
    clear F4
    iterate 1 walk1
    by_cases hne : ilv (i + 1) σ = ilv (i + 1) τ
    · have eb : (ilv (i + 1) σ != ilv (i + 1) τ) = false := by rw [hne, bne_self_eq_false]
      rw [eb]
      repeat walk1
      dsimp only
      with_reducible rename Fr _ _ _ _ => F6
      have F7 := Mine.Fr.unsaid F6 hsay2
      have e9 : witRows σ τ (i + 1) = witRows σ τ i := by
        rw [witRows, if_neg (fun h => h hne), List.append_nil]
      refine hKK _ _ (hkn _ _ _ ((D, listOf xs.toArray nD) :: (a.led w.params l σ vs ++ (b.led w.params l2 τ us ++ TL))) F7 (newsP NC perm27c.symm) hsep (.mk xs nD TL (sayIf hsay (by kernel_rfl)) ?_ hnd))
      rw [e9]; exact hxs
    · have eb : (ilv (i + 1) σ != ilv (i + 1) τ) = true := by rw [bne_iff_ne]; exact hne
      rw [eb]
      repeat walk1
      with_reducible rename Fr _ _ _ _ => F4
      refine Meets.callInt _ (S1 (i + 1) u hz hz2) F4 NC X T perm27 sep1 hh hd10 hu200 (fun tv3 h8 tk9 F5 NC => ?_)
      clear F4
      repeat walk1
      with_reducible rename Fr _ _ _ _ => F4
      refine Meets.callInt _ (S2 (i + 1) u hz hz2) F4 NC X T perm27b sep2 hh hd10 hu200 (fun tv4 h9 tk10 F5 NC => ?_)
      clear F4
      have hx1 : xs.length ≤ 5000 := by
        rw [hxs.length]; have := witRows_len σ τ i; omega
      have hDX := hdx27 hnd hsep
      generalize hRT : a.led w.params l σ vs ++ (b.led w.params l2 τ us ++ (TL ++ own)) = RT at NC hDX
      repeat walk1
      dsimp only
      with_reducible rename Fr _ _ _ _ => F6
      with_reducible rename News _ _ _ _ => N6
      with_reducible rename _ < _ ∧ AllLt _ _ => hlt
      rename_i D' _ _
      have F7 := Mine.Fr.unsaid F6 hsay2
      rw [List.push_toArray] at N6
      obtain ⟨hlt1, hlt2⟩ := hlt
      have hlo := lowAll hlt2
      rw [← hRT] at hlo N6
      generalize hO : ({ cls := .type "tuple", data := .seq #[.int ((i + 1 : Nat) : Int) u, .int (ilv (i + 1) σ) tv3, .int (ilv (i + 1) τ) tv4] } : Obj) = oT at N6
      have e9 : witRows σ τ (i + 1) = witRows σ τ i ++ [[((i + 1 : Nat) : Int), ilv (i + 1) σ, ilv (i + 1) τ]] := by
        rw [witRows, if_pos hne]
      exact hKK _ _ (hkn _ _ _ ((D, listOf (xs ++ [Value.ref D']).toArray (nD + 1)) :: (a.led w.params l σ vs ++ (b.led w.params l2 τ us ++ ((D', oT) :: TL)))) F7 (newsP N6 perm27d) (own27 hsep hlo) (.mk (xs ++ [Value.ref D']) (nD + 1) ((D', oT) :: TL) (sayIf hsay (by kernel_rfl)) (by
        rw [e9]
        exact TupsAre.snoc D' oT _ hxs (by rw [← hO]) (by rw [← hO]) (.cons _ _ (.cons _ _ (.cons _ _ .nil)))) (nd27 hnd hlt1 hlo)))
  · intro h tk6 m₁ news₁ hJ2 F2 N2
    obtain ⟨xs, nD, TL, hsay, hxs, hnd⟩ := hJ2
    have F3 := Mine.Fr.said F2 hsay
    clear F9 N9 N10 hR hnd0 hlt eM F2
    have N3 := N2
    dsimp only
    repeat walk1
    dsimp only
    exact hK0 _ _ (hk _ _ _ _ m₁ ⟨D, nD, xs, TL, rfl, hxs, hnd, rfl⟩ (Mine.Fr.unsaid F3 hsay) N3)
end
end

noncomputable section
example : True := by -- walkOff_D30
  w_top off
  exact True.intro
noncomputable def o229 (P : Params) : { o : Obj // (hdK.heap_1 P).lookup 229 = some o } := ⟨_, by k_is⟩
noncomputable def law229 (P : Params) : { x : Scope × List Stmt // fnParts (o229 P).1 = some x } := ⟨_, rfl⟩
noncomputable abbrev envLaw (P : Params) (L : Addr) : Env := envOfC (Str.ofString "law") (law229 P).1.1 L 229 (.ref 228)
noncomputable abbrev stmtLaw (P : Params) (i : Nat) : Stmt := ((law229 P).1.2[i]?).getD (.Pass default)
noncomputable abbrev cells7 (L : Nat) (o1 o2 o3 o4 o5 o6 o7 : Obj) : List (Addr × Obj) := [(L + 1 + 1 + 1 + 1 + 1 + 1 + 1, o7), (L + 1 + 1 + 1 + 1 + 1 + 1, o6), (L + 1 + 1 + 1 + 1 + 1, o5), (L + 1 + 1 + 1 + 1, o4), (L + 1 + 1 + 1, o3), (L + 1 + 1, o2), (L + 1, o1)]
inductive EJ (news₀ : List (Addr × Obj)) (i : Nat) (ys : List Value) : List (Addr × Obj) → Prop
  | mk (cs : List Nat) (hys : IntsAre ys (asInts cs)) (hcl : cs.length = i) (hcb : ∀ c ∈ cs, c ≤ 100000000) : EJ news₀ i ys news₀
inductive Pick6 (k : Nat) (zv : List Value) : Prop
  | mk (zs : List Nat) (hzs : IntsAre zv (asInts zs)) (hzb : ∀ z ∈ zs, z ≤ 999999) (hzl : zs.length = k)
theorem small_item {items : Array Value} {i : Nat} {x : Value} (hx : items[i]? = some x) (h : ∀ v ∈ items.toList, ∃ (c : Nat) (t : Tok), v = .int (c : Int) t ∧ c ≤ 158) : ∃ (c : Nat) (t : Tok), x = .int (c : Int) t ∧ c ≤ 158 :=
  h x (by simpa using Array.mem_of_getElem? hx)
section
variable {A : Around} {E : Value → Shared → Prop} {s : Shared} {g : Heap} {L : Nat} {m : Str → Option Value} {p : Program} {loose : List Str} {mean : ExcName → Option Value} {mg mb : Str → Option Value} {Q : Flow → Shared → Prop}
  {o1 o2 o3 o4 o5 o6 o7 : Obj} {lx : List (Addr × Obj)}
set_option maxHeartbeats 2000000 in
theorem law_s0 {sc : Nat} {vs : List Value} {ns : List Int} (hI : IntsAre vs ns) (hlen : ns.length ≤ 63) (hh : A.handled = none) (X : (hdK.heap_1 w.params).In g) (T : Top p loose mean mg mb g)
    (hdep : A.depth + 200 < recursionLimit) (hu : A.units + 3000 < cLine) (hsc : g.IsList sc vs.toArray) (d1 : cellV o1 (.ref sc)) (F : Fr g L s.heap m) (N : News g L s.heap ((L + 1, o1) :: lx))
    (hQ : ∀ (D : Nat) ys cs h' tk, cs.length = 9 → (∀ c ∈ cs, c ≤ 100000000) → IntsAre ys (asInts cs) → LCg.Off1 D ((L + 1, o1) :: lx) → Fr g L h' (fun y => if y = Str.ofString "cells" then some (.ref D) else m y) → News g L h' ((D, listOf ys.toArray ys.length) :: (L + 1, o1) :: lx) → Q .next { s with heap := h', toks := tk }) :
    wpAny (model prog w) A (exec (stmtLaw w.params 0) (envLaw w.params L)) Q E s := by
  have hcLine : cLine = 9900 := rfl
  have hrec : recursionLimit = 1000 := rfl
  have hvl : vs.length ≤ 63 := by rw [hI.length]; exact hlen
  dsimp only [stmtLaw, envLaw, law229, Option.getD, List.getElem?_cons_zero]
  refine comp_enumA F (by rfl) rfl (by decide) rfl (by decide) rfl rfl (by decide) ?_ (by with_unfolding_all rfl) rfl rfl
  repeat walk1
  with_reducible rename Fr _ _ _ _ => F2
  with_reducible rename News _ _ _ _ => N2
  rename_i lE _ hlE
  refine call_enumKA hh F2 N2 (.head _) rfl rfl (Nat.le_of_ble_eq_true rfl) (EJ _) (.mk [] .nil rfl (fun c hc => by cases hc)) ?_ ?_ ?_
  · rintro i ys news ⟨cs, _, _, _⟩
    exact .head _
  · rintro i ys news ti x e oe it oi C oC D m₂ h tk E' hx ⟨cs, hys, hcl, hcb⟩ hC ha hb F N off oit hne
    have off0 := off
    have oit0 := oit
    simp only [LCg.Off3, LCg.Off1, and_true] at off oit
    iterate 6 walk1
    refine LCg.ListComp_U F rfl (by decide) rfl (by decide) rfl ?_
    repeat walk1
    with_reducible rename Fr _ _ _ _ => F3
    with_reducible rename News _ _ _ _ => N3
    obtain ⟨ms, hms, hml⟩ := pick_ints hI (some (i : Int)) (some 20) (some 9)
    have hpl : (slicePick vs.toArray (some (i : Int)) (some 20) (some 9)).size ≤ 63 := Nat.le_trans (slicePick_size_le ..) (by simpa using hvl)
    generalize slicePick vs.toArray (some (i : Int)) (some 20) (some 9) = pk at *
    refine LCg.CompSrc.ledger hh F3 N3 (.head _) (Nat.le_trans hpl (by decide)) (fun g' => ?_)
    refine comp_const (n := pk.size) Pick6 ?_ ?_ ⟨[], .nil, (fun z hz => by cases hz), rfl⟩
    · rintro k zv v I oI C2 oC2 D2 m₃ h3 tk3 E3 hk ⟨zs, hzs, hzb, hzl⟩ hv hC2 hx2 F4 N4 off2 hne2
      have off20 := off2
      simp only [LCg.Off3, and_true] at off2
      obtain ⟨n, tn, rfl⟩ := hms.all v (by simpa using Array.mem_of_getElem? hv)
      repeat walk1
      with_reducible rename Fr _ _ _ _ => F5
      with_reducible rename News _ _ _ _ => N5
      refine LCg.CompEnd.intro F5 N5 _ (fun p hp => hp) off20 (.inr ⟨_, .head _, rfl, _, rfl⟩) ⟨rfl, zs ++ [(n.fmod 1000000).toNat], ints_snocN hzs (Int.fmod_nonneg_of_pos n (by decide)), ?_, by simp [hzl]⟩
      intro z hz
      rcases List.mem_append.mp hz with hz | hz
      · exact hzb z hz
      · rw [List.mem_singleton.mp hz]
        have := Int.fmod_lt_of_pos n (b := 1000000) (by decide)
        omega
    · rintro zv ⟨zs, hzs, hzb, hzl⟩
      unfold LCg.FinE
      intro D3 h3 tk3 F4 N4 off2
      repeat walk1
      refine sumK hh F4 N4 (News.isList N4 (.head _)) hzs (fun h4 tk4 t4 F5 N5 => ?_)
      rw [nat_sum]
      have hsl := sum_le hzb
      obtain ⟨c0, t0, rfl, hc0⟩ := small_item hx (List.forall_mem_cons.mpr ⟨⟨3, _, rfl, by decide⟩, List.forall_mem_cons.mpr ⟨⟨2, _, rfl, by decide⟩, List.forall_mem_cons.mpr ⟨⟨6, _, rfl, by decide⟩, List.forall_mem_cons.mpr ⟨⟨1, _, rfl, by decide⟩, List.forall_mem_cons.mpr ⟨⟨4, _, rfl, by decide⟩, List.forall_mem_cons.mpr ⟨⟨0, _, rfl, by decide⟩, List.forall_mem_cons.mpr ⟨⟨7, _, rfl, by decide⟩, List.forall_mem_cons.mpr ⟨⟨2, _, rfl, by decide⟩, List.forall_mem_cons.mpr ⟨⟨44, _, rfl, by decide⟩, fun _ h => nomatch h⟩⟩⟩⟩⟩⟩⟩⟩⟩)
      repeat walk1
      with_reducible rename Fr _ _ _ _ => F6
      with_reducible rename News _ _ _ _ => N6
      refine LCg.CompEnd.intro F6 N6 ((it, oi) :: _) (fun p hp => .tail _ (.tail _ hp)) off0 True.intro ⟨_, rfl, oit0, .mk (cs ++ [((c0 : Int) + ((zs.sum : Nat) : Int)).toNat]) (ints_snocN hys (by omega)) (by simp [hcl]) ?_⟩
      intro z hz
      rcases List.mem_append.mp hz with hz | hz
      · exact hcb z hz
      · rw [List.mem_singleton.mp hz]; omega
  · rintro ys news ⟨cs, hys, hcl, hcb⟩
    unfold LCg.FinA
    intro D h tk F6 N6 off
    refine hQ D ys cs _ _ hcl hcb hys off.2 F6 (fun p hp => N6 p ?_)
    rcases List.mem_cons.mp hp with rfl | hp
    · exact .head _
    · exact .tail _ (.tail _ hp)
end
end

noncomputable section
example : True := by -- walkOff_D31
  w_top off
  exact True.intro
section
variable {A : Around} {E : Value → Shared → Prop} {s : Shared} {g : Heap} {L : Nat} {m : Str → Option Value} {p : Program} {loose : List Str} {mean : ExcName → Option Value} {mg mb : Str → Option Value} {Q : Flow → Shared → Prop}
  {o1 o2 o3 o4 o5 o6 o7 : Obj} {lx : List (Addr × Obj)}
set_option maxHeartbeats 2000000 in
theorem law_s1 {cl nc : Nat} {vc : List Value} {cs : List Nat} (hI : IntsAre vc (asInts cs)) (hcs : cs.length = 9) (hh : A.handled = none) (X : (hdK.heap_1 w.params).In g) (T : Top p loose mean mg mb g)
    {c2 : Option Value} (d2 : o2.data = .cell c2) (hx2 : ∀ p ∈ lx, p.1 ≠ L + 1 + 1) (hsay : Says m [(Str.ofString "cells", .ref cl)])
    (F : Fr g L s.heap m) (N : News g L s.heap ((L + 1 + 1, o2) :: (cl, listOf vc.toArray nc) :: lx)) (hne : @Ne Nat cl (L + 1 + 1))
    (hQ : ∀ h' tk t o2', cellV o2' (.int ((3 + cs.getD 8 0 % 2 : Nat) : Int) t) → Fr g L h' m → News g L h' ((L + 1 + 1, o2') :: (cl, listOf vc.toArray nc) :: lx) → Q .next { s with heap := h', toks := tk }) :
    wpAny (model prog w) A (exec (stmtLaw w.params 1) (envLaw w.params L)) Q E s := by
  have hcLine : cLine = 9900 := rfl
  have hrec : recursionLimit = 1000 := rfl
  have hcl9 : (asInts cs).length = 9 := by simp [hcs]
  have hck : (asInts cs).getD (8 : Int).toNat 0 = ((cs.getD 8 0 : Nat) : Int) := asInts_get (k := 8) (by omega)
  dsimp only [stmtLaw, envLaw, law229, Option.getD, List.getElem?_cons_succ, List.getElem?_cons_zero]
  have F := Mine.Fr.said F hsay
  repeat walk1
  rename_i d7
  with_reducible rename Fr _ _ _ _ => F7
  with_reducible rename News _ _ _ _ => N7
  rw [hck, Int.fmod_eq_emod_of_nonneg _ (by decide)] at d7
  have e : (3 : Int) + ((cs.getD 8 0 : Nat) : Int) % 2 = ((3 + cs.getD 8 0 % 2 : Nat) : Int) := by omega
  rw [e] at d7
  exact hQ _ _ _ _ d7 (Mine.Fr.unsaid F7 hsay) N7
set_option maxHeartbeats 2000000 in
theorem law_s2 {cl nc : Nat} {vc : List Value} {cs : List Nat} (hI : IntsAre vc (asInts cs)) (hcs : cs.length = 9) (hh : A.handled = none) (X : (hdK.heap_1 w.params).In g) (T : Top p loose mean mg mb g)
    (hsay : Says m [(Str.ofString "cells", .ref cl)])
    (F : Fr g L s.heap m) (N : News g L s.heap ((cl, listOf vc.toArray nc) :: lx))
    (hQ : ∀ h' tk t, Fr g L h' (fun y => if y = Str.ofString "kind" then some (.int ((cs.getD 8 0 / 2 % 3 : Nat) : Int) t) else m y) → News g L h' ((cl, listOf vc.toArray nc) :: lx) → Q .next { s with heap := h', toks := tk }) :
    wpAny (model prog w) A (exec (stmtLaw w.params 2) (envLaw w.params L)) Q E s := by
  have hcLine : cLine = 9900 := rfl
  have hrec : recursionLimit = 1000 := rfl
  have hcl9 : (asInts cs).length = 9 := by simp [hcs]
  have hck : (asInts cs).getD (8 : Int).toNat 0 = ((cs.getD 8 0 : Nat) : Int) := asInts_get (k := 8) (by omega)
  dsimp only [stmtLaw, envLaw, law229, Option.getD, List.getElem?_cons_succ, List.getElem?_cons_zero]
  have F := Mine.Fr.said F hsay
  repeat walk1
  with_reducible rename Fr _ _ _ _ => F7
  with_reducible rename News _ _ _ _ => N7
  have e : (((asInts cs).getD (8 : Int).toNat 0).fdiv 2).fmod 3 = ((cs.getD 8 0 / 2 % 3 : Nat) : Int) := by
    rw [hck, Int.fmod_eq_emod_of_nonneg _ (by decide), Int.fdiv_eq_ediv_of_nonneg _ (by decide)]; omega
  rw [e, kstB_said hsay] at F7
  exact hQ _ _ _ F7 N7
set_option maxHeartbeats 2000000 in
theorem law_s3 {cl nc : Nat} {vc : List Value} {cs : List Nat} (hI : IntsAre vc (asInts cs)) (hcs : cs.length = 9) (hcb : ∀ c ∈ cs, c ≤ 100000000) (hh : A.handled = none) (X : (hdK.heap_1 w.params).In g) (T : Top p loose mean mg mb g)
    (hsay : Says m [(Str.ofString "cells", .ref cl)])
    (F : Fr g L s.heap m) (N : News g L s.heap ((cl, listOf vc.toArray nc) :: lx))
    (hQ : ∀ h' tk t, Fr g L h' (fun y => if y = Str.ofString "base" then some (.int ((200 + (cs.getD 8 0 / 6) ^ 4 : Nat) : Int) t) else m y) → News g L h' ((cl, listOf vc.toArray nc) :: lx) → Q .next { s with heap := h', toks := tk }) :
    wpAny (model prog w) A (exec (stmtLaw w.params 3) (envLaw w.params L)) Q E s := by
  have hcLine : cLine = 9900 := rfl
  have hrec : recursionLimit = 1000 := rfl
  have hcl9 : (asInts cs).length = 9 := by simp [hcs]
  have hck : (asInts cs).getD (8 : Int).toNat 0 = ((cs.getD 8 0 : Nat) : Int) := asInts_get (k := 8) (by omega)
  dsimp only [stmtLaw, envLaw, law229, Option.getD, List.getElem?_cons_succ, List.getElem?_cons_zero]
  have F := Mine.Fr.said F hsay
  iterate 9 walk1
  have hc8 : cs.getD 8 0 ≤ 100000000 := by
    have h8 : 8 < cs.length := by omega
    rw [List.getD_eq_getElem?_getD, List.getElem?_eq_getElem h8]
    exact hcb _ (List.getElem_mem h8)
  have e6 : ((asInts cs).getD (8 : Int).toNat 0).fdiv 6 = ((cs.getD 8 0 / 6 : Nat) : Int) := by
    rw [hck, Int.fdiv_eq_ediv_of_nonneg _ (by decide)]; omega
  iterate 2 walk1
  rw [e6]
  have hc6 : cs.getD 8 0 / 6 ≤ 100000000 := by omega
  have eP : ((cs.getD 8 0 / 6 : Nat) : Int) ^ (4 : Int).toNat = (((cs.getD 8 0 / 6) ^ 4 : Nat) : Int) := by
    rw [Int.natCast_pow]; rfl
  generalize cs.getD 8 0 / 6 = q at *
  iterate 1 walk1
  refine pow_int (by decide) ?_ ?_
  · have := intBits_le_64 (k := (q : Int)) (by omega) (by omega)
    omega
  rw [eP]
  repeat walk1
  with_reducible rename Fr _ _ _ _ => F7
  with_reducible rename News _ _ _ _ => N7
  have e : (200 : Int) + ((q ^ 4 : Nat) : Int) = ((200 + q ^ 4 : Nat) : Int) := by omega
  rw [e, kstB_said hsay] at F7
  exact hQ _ _ _ F7 N7
end
end

noncomputable section
example : True := by -- walkOff_D32
  w_top off
  exact True.intro
section
variable {A : Around} {E : Value → Shared → Prop} {s : Shared} {g : Heap} {L : Nat} {m : Str → Option Value} {p : Program} {loose : List Str} {mean : ExcName → Option Value} {mg mb : Str → Option Value} {Q : Flow → Shared → Prop}
  {o1 o2 o3 o4 o5 o6 o7 : Obj} {lx : List (Addr × Obj)}
set_option maxHeartbeats 2000000 in
theorem law_s4 {cl nc many : Nat} {tm : Tok} {vc : List Value} {cs : List Nat} (hI : IntsAre vc (asInts cs)) (hcs : cs.length = 9) (hm4 : many ≤ 4) (hh : A.handled = none) (X : (hdK.heap_1 w.params).In g) (T : Top p loose mean mg mb g)
    (hdep : A.depth + 200 < recursionLimit) (hu : A.units + 3000 < cLine) (d2 : cellV o2 (.int (many : Int) tm)) {c3 : Option Value} (d3 : o3.data = .cell c3) (hsay : Says m [(Str.ofString "cells", .ref cl)])
    (hnd : Nd ((L + 1 + 1 + 1, o3) :: (L + 1 + 1, o2) :: (cl, listOf vc.toArray nc) :: lx))
    (F : Fr g L s.heap m) (N : News g L s.heap ((L + 1 + 1 + 1, o3) :: (L + 1 + 1, o2) :: (cl, listOf vc.toArray nc) :: lx))
    (hQ : ∀ h' tk (D nD : Nat) ys o3', IntsAre ys (asInts (climb many (cs.take many))) → cellV o3' (.ref D) → Nd ((D, listOf ys.toArray nD) :: (L + 1 + 1 + 1, o3') :: (L + 1 + 1, o2) :: (cl, listOf vc.toArray nc) :: lx) → Fr g L h' m → News g L h' ((D, listOf ys.toArray nD) :: (L + 1 + 1 + 1, o3') :: (L + 1 + 1, o2) :: (cl, listOf vc.toArray nc) :: lx) → Q .next { s with heap := h', toks := tk }) :
    wpAny (model prog w) A (exec (stmtLaw w.params 4) (envLaw w.params L)) Q E s := by
  have hcLine : cLine = 9900 := rfl
  have hrec : recursionLimit = 1000 := rfl
  have hcl9 : (asInts cs).length = 9 := by simp [hcs]
  dsimp only [stmtLaw, envLaw, law229, Option.getD, List.getElem?_cons_succ, List.getElem?_cons_zero]
  have F := Mine.Fr.said F hsay
  repeat walk1
  with_reducible rename Fr _ _ _ _ => F2
  with_reducible rename News _ _ _ _ => N2
  with_reducible rename IntsAre _ (List.take _ _) => hI3
  with_reducible rename _ < _ ∧ _ => hlt3
  rename_i Dc wc _ _ _
  have F2 := Mine.Fr.unsaid F2 hsay
  rw [Int.toNat_natCast, show List.take many (asInts cs) = asInts (cs.take many) from (List.map_take).symm] at hI3
  refine Meets.call ((L + 1 + 1 + 1, o3) :: (L + 1 + 1, o2) :: (cl, listOf vc.toArray nc) :: lx) (law_climb (w := w) (prog := prog) (nl := 0) (top := many) (tt := tm) hI3 (by rw [List.length_take]; omega) (by omega)) F2 N2 X T (fun p hp => by rw [List.mem_singleton.mp hp]; exact .head _) (fun p hp => .tail _ hp) (fun q hq p hp => ?_) hh (by first | exact ar_lim hdep (by decide) | exact ar_limD hdep (by decide) | omega) (by first | exact ar_lim hu (by decide) | exact ar_limU hu (by decide) | omega) ?_
  · rw [List.mem_singleton.mp hp]
    exact Nat.ne_of_gt (lowAll (show AllLt Dc ((L + 1 + 1 + 1, o3) :: (L + 1 + 1, o2) :: (cl, listOf vc.toArray nc) :: lx) from hlt3) q hq)
  intro n₁ v l₁ h₂ tk₂ hp F3 N3 p1 p2 p3 p4
  obtain ⟨D, ys, nD, rfl, hys, hne, rfl⟩ := hp
  have oD : ∀ q ∈ (L + 1 + 1 + 1, o3) :: (L + 1 + 1, o2) :: (cl, listOf vc.toArray nc) :: lx, q.1 ≠ D := fun q hq => Ne.symm (p4 q hq (D, listOf ys.toArray nD) (.head _))
  have N4 : News g L h₂ ((D, listOf ys.toArray nD) :: (L + 1 + 1 + 1, o3) :: (L + 1 + 1, o2) :: (cl, listOf vc.toArray nc) :: lx) := fun q hq => N3 q (by
    rcases List.mem_cons.mp hq with rfl | hq
    · exact .head _
    · exact .tail _ (.tail _ hq))
  have hnd2 := Nd.cons hnd oD (o := listOf ys.toArray nD)
  have x1 : @Ne Nat (L + 1 + 1 + 1) D := oD _ (.head _)
  have x2 : @Ne Nat cl (L + 1 + 1 + 1) := hnd.hd _ (.tail _ (.head _))
  have x3 : ∀ q ∈ lx, q.1 ≠ L + 1 + 1 + 1 := fun q hq => hnd.hd _ (.tail _ (.tail _ hq))
  clear N3 N2 F2 hlt3
  repeat walk1
  rename_i d7
  with_reducible rename Fr _ _ _ _ => F7
  with_reducible rename News _ _ _ _ => N7
  exact hQ _ _ D nD ys _ hys d7 (hnd2.same rfl) F7 N7
end
end

noncomputable section
example : True := by -- walkOff_D33
  w_top off
  exact True.intro
noncomputable def ifThen : Stmt → List Stmt
  | .If _ b _ _ => b
  | _ => []
noncomputable def ifElse : Stmt → List Stmt
  | .If _ _ b _ => b
  | _ => []
noncomputable abbrev sec0 (P : Params) : Stmt := ((ifThen (stmtLaw P 5))[0]?).getD (.Pass default)
noncomputable abbrev sec12 (P : Params) : Stmt := ((ifElse (stmtLaw P 5))[0]?).getD (.Pass default)
noncomputable abbrev sec1 (P : Params) : Stmt := ((ifThen (sec12 P))[0]?).getD (.Pass default)
noncomputable abbrev sec2 (P : Params) : Stmt := ((ifElse (sec12 P))[0]?).getD (.Pass default)
noncomputable def conjOf (many : Nat) (hs : List Nat) : List Nat := (List.range many).map fun i => (hs.filter fun t => decide (many - i ≤ t)).length
section
variable {A : Around} {E : Value → Shared → Prop} {s : Shared} {g : Heap} {L : Nat} {m : Str → Option Value} {p : Program} {loose : List Str} {mean : ExcName → Option Value} {mg mb : Str → Option Value} {Q : Flow → Shared → Prop}
  {o1 o2 o3 o4 o5 o6 o7 : Obj} {lx : List (Addr × Obj)}
set_option maxHeartbeats 2000000 in
theorem law_s5a {bl nb many : Nat} {tm : Tok} {vb : List Value} {hs : List Nat} (hB : IntsAre vb (asInts hs)) (hbl : hs.length ≤ 4) (hm4 : many ≤ 4) (hh : A.handled = none) (X : (hdK.heap_1 w.params).In g) (T : Top p loose mean mg mb g)
    (hdep : A.depth + 200 < recursionLimit) (hu : A.units + 3000 < cLine) (d2 : cellV o2 (.int (many : Int) tm)) (d3 : cellV o3 (.ref bl))
    (F : Fr g L s.heap m) (N : News g L s.heap ((bl, listOf vb.toArray nb) :: (L + 1 + 1 + 1, o3) :: (L + 1 + 1, o2) :: lx))
    (hQ : ∀ h' tk (D : Nat) ys, IntsAre ys (asInts (conjOf many hs)) → LCg.Off1 D ((bl, listOf vb.toArray nb) :: (L + 1 + 1 + 1, o3) :: (L + 1 + 1, o2) :: lx) → Fr g L h' (fun y => if y = Str.ofString "second" then some (.ref D) else m y) → News g L h' ((D, listOf ys.toArray ys.length) :: (bl, listOf vb.toArray nb) :: (L + 1 + 1 + 1, o3) :: (L + 1 + 1, o2) :: lx) → Q .next { s with heap := h', toks := tk }) :
    wpAny (model prog w) A (exec (sec0 w.params) (envLaw w.params L)) Q E s := by
  have hcLine : cLine = 9900 := rfl
  have hrec : recursionLimit = 1000 := rfl
  have hvl : vb.length = hs.length := by rw [hB.length, asInts_len]
  dsimp only [sec0, ifThen, stmtLaw, envLaw, law229, Option.getD, List.getElem?_cons_succ, List.getElem?_cons_zero]
  refine comp_downCA F (by rfl) rfl (by decide) (fun _ => by rfl) (fun _ => by rfl) (by decide) (fun _ _ => by with_unfolding_all rfl) ?_ (by with_unfolding_all rfl) rfl rfl
  repeat walk1
  with_reducible rename IsRange _ _ _ _ _ _ _ _ => hR
  with_reducible rename Fr _ _ _ _ => F2
  with_reducible rename News _ _ _ _ => N2
  refine ⟨_, many, many, 0, _, _, _, _, fun i zs news => news = ((bl, listOf vb.toArray nb) :: (L + 1 + 1 + 1, o3) :: (L + 1 + 1, o2) :: lx) ∧ IntsAre zs (asInts ((conjOf many hs).take i)), rfl, hh, F2, N2, hR, by omega, by omega, by decide, ⟨rfl, .nil⟩, ?_, ?_⟩
  · rintro i ys news ti I oI C oC D K oK m₂ h tk E' hi ⟨rfl, hys⟩ hC hK F N off offK hne2
    have off0 := off
    have offK0 := offK
    simp only [LCg.Off3, LCg.Off1, and_true] at off offK
    repeat walk1
    refine comp_if (by k_asm) rfl (by decide) rfl (by decide) rfl ?_
    repeat walk1
    refine ⟨bl, vb.toArray, _, fun j ws news => news = ((I, oI) :: (C, oC) :: (D, LCg.lst ys) :: (K, oK) :: (bl, listOf vb.toArray nb) :: (L + 1 + 1 + 1, o3) :: (L + 1 + 1, o2) :: lx) ∧ ws.length ≤ j ∧ IntsAre ws (asInts ((hs.take j).filter fun t => decide (many - i ≤ t))), rfl, hh, by k_asm, by k_asm, Nat.le_trans (show vb.toArray.size ≤ 4 by simp; omega) (by decide), ⟨rfl, Nat.le_refl _, .nil⟩, ?_, ?_, ?_⟩
    · rintro j ws news ⟨rfl, hwl, _⟩
      exact ⟨hwl, _, .tail _ (.tail _ (.tail _ (.tail _ (.head _)))), rfl, _, rfl⟩
    · rintro j ws news v I2 oI2 C2 oC2 D2 m₃ h3 tk3 E3 hv ⟨rfl, hwl, hws⟩ hC2 hx2 F4 N4 off2 hne3
      have off20 := off2
      simp only [LCg.Off3, and_true] at off2
      obtain ⟨tv, rfl⟩ := nat_at hB (by simpa using hv)
      have hjl : j < hs.length := by
        have := (Array.getElem?_eq_some_iff.mp hv).1
        simp at this; omega
      have hjt : hs.take (j + 1) = hs.take j ++ [hs.getD j 0] := by
        rw [List.take_add_one, List.getD_eq_getElem?_getD, List.getElem?_eq_getElem hjl]; rfl
      generalize hs.getD j 0 = t at *
      have hfi : ∀ q : Bool, q = decide (many - i ≤ t) → (hs.take j ++ [t]).filter (fun t => decide (many - i ≤ t)) = (hs.take j).filter (fun t => decide (many - i ≤ t)) ++ if q then [t] else [] := fun q hq => by
        rw [List.filter_append, hq]
        by_cases hc : many - i ≤ t <;> simp [hc] <;> omega
      repeat walk1
      · with_reducible rename Fr _ _ _ _ => F5
        with_reducible rename News _ _ _ _ => N5
        with_reducible rename _ ≤ _ => hle
        refine LCg.CompEnd.intro F5 N5 _ (fun p hp => hp) off20 True.intro ⟨rfl, by rw [List.length_append]; simp; exact hwl, ?_⟩
        rw [hjt, hfi true (decide_eq_true (by omega)).symm, if_pos rfl, asInts_snoc]
        exact snocI hws
      · with_reducible rename Fr _ _ _ _ => F5
        with_reducible rename News _ _ _ _ => N5
        rename_i hle
        refine LCg.CompEnd.intro F5 N5 _ (fun p hp => hp) off20 True.intro ⟨rfl, Nat.le_succ_of_le hwl, ?_⟩
        rw [hjt, hfi false (decide_eq_false (by omega)).symm, if_neg (by decide), List.append_nil]
        exact hws
    · rintro ws news ⟨rfl, hwl, hws⟩
      unfold LCg.FinE
      intro D3 h3 tk3 F4 N4 off2
      have off20 := off2
      have eal : (hs.take vb.toArray.size) = hs := List.take_of_length_le (by simp; omega)
      rw [eal] at hws
      have hwl2 := hws.length
      rw [asInts_len] at hwl2
      have hwl4 : ws.length ≤ 4 := by simp at hwl; omega
      repeat walk1
      with_reducible rename Fr _ _ _ _ => F5
      with_reducible rename News _ _ _ _ => N5
      refine LCg.CompEnd.intro F5 N5 _ (fun p hp => .tail _ hp) off0 True.intro ⟨oK, _, rfl, ⟨_, hK⟩, offK0, rfl, ?_⟩
      have hct : (conjOf many hs).take (i + 1) = (conjOf many hs).take i ++ [(hs.filter fun t => decide (many - i ≤ t)).length] := by
        have hci : i < (conjOf many hs).length := by simp [conjOf]; exact hi
        rw [List.take_add_one, List.getElem?_eq_getElem hci]
        simp [conjOf]
      rw [hct, asInts_snoc, asInts_len]
      exact snocI hys
  · rintro zs news ⟨rfl, hzs⟩
    unfold LCg.FinA
    intro D3 h tk F N off
    have et : (conjOf many hs).take many = conjOf many hs := List.take_of_length_le (by simp [conjOf])
    rw [et] at hzs
    exact hQ _ _ D3 zs hzs off F N
set_option maxHeartbeats 2000000 in
theorem law_s5b {cl nc many : Nat} {tm : Tok} {vc : List Value} {cs : List Nat} (hI : IntsAre vc (asInts cs)) (hcs : cs.length = 9) (hm4 : many ≤ 4) (hh : A.handled = none) (X : (hdK.heap_1 w.params).In g) (T : Top p loose mean mg mb g)
    (hdep : A.depth + 200 < recursionLimit) (hu : A.units + 3000 < cLine) (d2 : cellV o2 (.int (many : Int) tm)) (hsay : Says m [(Str.ofString "cells", .ref cl)])
    (F : Fr g L s.heap m) (N : News g L s.heap ((L + 1 + 1, o2) :: (cl, listOf vc.toArray nc) :: lx))
    (hQ : ∀ h' tk (D nD : Nat) ys, IntsAre ys (asInts (climb many ((cs.drop 4).take many))) → (∀ q ∈ (L + 1 + 1, o2) :: (cl, listOf vc.toArray nc) :: lx, q.1 ≠ D) → Fr g L h' (fun y => if y = Str.ofString "second" then some (.ref D) else m y) → News g L h' ((D, listOf ys.toArray nD) :: (L + 1 + 1, o2) :: (cl, listOf vc.toArray nc) :: lx) → Q .next { s with heap := h', toks := tk }) :
    wpAny (model prog w) A (exec (sec1 w.params) (envLaw w.params L)) Q E s := by
  have hcLine : cLine = 9900 := rfl
  have hrec : recursionLimit = 1000 := rfl
  have hcl9 : (asInts cs).length = 9 := by simp [hcs]
  dsimp only [sec1, sec12, ifThen, ifElse, stmtLaw, envLaw, law229, Option.getD, List.getElem?_cons_succ, List.getElem?_cons_zero]
  have F := Mine.Fr.said F hsay
  repeat walk1
  with_reducible rename Fr _ _ _ _ => F2
  with_reducible rename News _ _ _ _ => N2
  with_reducible rename IntsAre _ (List.take _ _) => hI3
  with_reducible rename _ < _ ∧ _ => hlt3
  rename_i Dc wc _ _ _
  have F2 := Mine.Fr.unsaid F2 hsay
  have esl : List.take (min ((4 : Int) + (many : Int)).toNat (asInts cs).length - 4) (List.drop 4 (asInts cs)) = asInts ((cs.drop 4).take many) := by
    have e1 : min ((4 : Int) + (many : Int)).toNat (asInts cs).length - 4 = many := by
      rw [hcl9]
      show min (4 + many) 9 - 4 = many
      rw [Nat.min_eq_left (Nat.add_le_add_left (Nat.le_trans hm4 (by decide : 4 ≤ 5)) 4), Nat.add_sub_cancel_left]
    rw [e1, show asInts ((cs.drop 4).take many) = List.take many (List.drop 4 (asInts cs)) by unfold asInts; rw [List.map_take, List.map_drop]]
  rw [esl] at hI3
  refine Meets.call ((L + 1 + 1, o2) :: (cl, listOf vc.toArray nc) :: lx) (law_climb (w := w) (prog := prog) (nl := 0) (top := many) (tt := tm) hI3 (by rw [List.length_take]; omega) (by omega)) F2 N2 X T (fun p hp => by rw [List.mem_singleton.mp hp]; exact .head _) (fun p hp => .tail _ hp) (fun q hq p hp => ?_) hh (by first | exact ar_lim hdep (by decide) | exact ar_limD hdep (by decide) | omega) (by first | exact ar_lim hu (by decide) | exact ar_limU hu (by decide) | omega) ?_
  · rw [List.mem_singleton.mp hp]
    exact Nat.ne_of_gt (lowAll (show AllLt Dc ((L + 1 + 1, o2) :: (cl, listOf vc.toArray nc) :: lx) from hlt3) q hq)
  intro n₁ v l₁ h₂ tk₂ hp F3 N3 p1 p2 p3 p4
  obtain ⟨D, ys, nD, rfl, hys, hne, rfl⟩ := hp
  have oD : ∀ q ∈ (L + 1 + 1, o2) :: (cl, listOf vc.toArray nc) :: lx, q.1 ≠ D := fun q hq => Ne.symm (p4 q hq (D, listOf ys.toArray nD) (.head _))
  have N4 : News g L h₂ ((D, listOf ys.toArray nD) :: (L + 1 + 1, o2) :: (cl, listOf vc.toArray nc) :: lx) := fun q hq => N3 q (by
    rcases List.mem_cons.mp hq with rfl | hq
    · exact .head _
    · exact .tail _ (.tail _ hq))
  clear N3 N2 F2 hlt3
  repeat walk1
  with_reducible rename Fr _ _ _ _ => F7
  with_reducible rename News _ _ _ _ => N7
  exact hQ _ _ D nD ys hys oD F7 N7
noncomputable def moreOf (many : Nat) (hs : List Nat) : List Nat := hs.dropLast ++ [min many (hs.getD (hs.length - 1) 0 + 1)]
set_option maxHeartbeats 2000000 in
theorem law_s5c {bl nb many : Nat} {tm : Tok} {vb : List Value} {hs : List Nat} (hB : IntsAre vb (asInts hs)) (hbl : hs.length ≤ 4) (hb0 : 0 < hs.length) (hb4 : ∀ h ∈ hs, h ≤ 4) (hm4 : many ≤ 4) (hh : A.handled = none) (X : (hdK.heap_1 w.params).In g) (T : Top p loose mean mg mb g)
    (hdep : A.depth + 200 < recursionLimit) (hu : A.units + 3000 < cLine) (d2 : cellV o2 (.int (many : Int) tm)) (d3 : cellV o3 (.ref bl))
    (F : Fr g L s.heap m) (N : News g L s.heap ((bl, listOf vb.toArray nb) :: (L + 1 + 1 + 1, o3) :: (L + 1 + 1, o2) :: lx))
    (hQ : ∀ h' tk (D nD : Nat) ys, IntsAre ys (asInts (moreOf many hs)) → (∀ q ∈ (bl, listOf vb.toArray nb) :: (L + 1 + 1 + 1, o3) :: (L + 1 + 1, o2) :: lx, q.1 ≠ D) → Fr g L h' (fun y => if y = Str.ofString "second" then some (.ref D) else m y) → News g L h' ((D, listOf ys.toArray nD) :: (bl, listOf vb.toArray nb) :: (L + 1 + 1 + 1, o3) :: (L + 1 + 1, o2) :: lx) → Q .next { s with heap := h', toks := tk }) :
    wpAny (model prog w) A (exec (sec2 w.params) (envLaw w.params L)) Q E s := by
  have hcLine : cLine = 9900 := rfl
  have hrec : recursionLimit = 1000 := rfl
  have hvl : vb.length = hs.length := by rw [hB.length, asInts_len]
  have hvl2 : (asInts hs).length = hs.length := asInts_len hs
  dsimp only [sec2, sec12, ifThen, ifElse, stmtLaw, envLaw, law229, Option.getD, List.getElem?_cons_succ, List.getElem?_cons_zero]
  repeat walk1
  with_reducible rename Fr _ _ _ _ => F2
  with_reducible rename News _ _ _ _ => N2
  with_reducible rename IntsAre _ (List.take _ _) => hI3
  refine min_two_N hh F2 N2 (fun h5 tk5 F5 N5 => ?_)
  repeat walk1
  with_reducible rename Fr _ _ _ _ => F7
  with_reducible rename News _ _ _ _ => N7
  with_reducible rename IntsAre _ (List.take _ _ ++ _) => hI7
  rename_i D _ _ hlt _
  have e1 : (-1 + ((asInts hs).length : Int)).toNat = hs.length - 1 := by rw [hvl2]; exact ar_predI
  have e2 : (asInts hs).getD (hs.length - 1) 0 = ((hs.getD (hs.length - 1) 0 : Nat) : Int) := asInts_get (Nat.sub_lt hb0 (by decide))
  have e3 : List.take ((asInts hs).length - 1) (asInts hs) = asInts hs.dropLast := by
    rw [hvl2, List.dropLast_eq_take]; exact (List.map_take).symm
  have e4 : ∀ z : Nat, (if ((z : Nat) : Int) + 1 < (many : Int) then ((z : Nat) : Int) + 1 else (many : Int)) = ((min many (z + 1) : Nat) : Int) := fun z => ar_minI z many
  rw [e1, e2, e3, e4] at hI7
  refine hQ _ _ D 0 _ (by unfold moreOf; rw [asInts_snoc]; exact hI7) (fun q hq => ?_) F7 (fun q hq => N7 q ?_)
  · obtain ⟨_, _, hlt⟩ := hlt
    exact Nat.ne_of_lt (lowAll (show AllLt D ((bl, listOf vb.toArray nb) :: (L + 1 + 1 + 1, o3) :: (L + 1 + 1, o2) :: lx) from hlt) q hq)
  · rcases List.mem_cons.mp hq with rfl | hq
    · exact .head _
    · exact .tail _ (.tail _ (.tail _ hq))
end
end

noncomputable section
example : True := by -- walkOff_D34
  w_top off
  exact True.intro
noncomputable def secondOf (kd many : Nat) (hs cs : List Nat) : List Nat := if kd = 0 then conjOf many hs else if kd = 1 then climb many ((cs.drop 4).take many) else moreOf many hs
theorem perm34a {α : Type} {b c x y : α} {lx : List α} : List.Perm (b :: c :: x :: y :: lx) (b :: x :: y :: (c :: lx)) := permT [[b], [c], [x], [y], lx] (.p (.a 0) (.p (.a 1) (.p (.a 2) (.p (.a 3) (.a 4))))) (.p (.a 0) (.p (.a 2) (.p (.a 3) (.p (.a 1) (.a 4))))) rfl
theorem perm34b {α : Type} {b c x y : α} {lx : List α} : List.Perm (b :: c :: x :: y :: lx) (y :: c :: (b :: x :: lx)) := permT [[b], [c], [x], [y], lx] (.p (.a 0) (.p (.a 1) (.p (.a 2) (.p (.a 3) (.a 4))))) (.p (.a 3) (.p (.a 1) (.p (.a 0) (.p (.a 2) (.a 4))))) rfl
section
variable {A : Around} {s : Shared} {g : Heap} {L : Nat} {m : Str → Option Value} {p : Program} {loose : List Str} {mean : ExcName → Option Value} {mg mb : Str → Option Value} {Q : Flow → Shared → Prop} {E : Value → Shared → Prop}
  {o1 o2 o3 o4 o5 o6 o7 : Obj} {lx : List (Addr × Obj)}
set_option maxHeartbeats 2000000 in
theorem law_s5 {bl nb cl nc many kd : Nat} {tm tk : Tok} {vb vc : List Value} {hs cs : List Nat} (hB : IntsAre vb (asInts hs)) (hI : IntsAre vc (asInts cs)) (hcs : cs.length = 9) (hbl : hs.length ≤ 4) (hb0 : 0 < hs.length) (hb4 : ∀ h ∈ hs, h ≤ 4) (hm4 : many ≤ 4) (hh : A.handled = none) (X : (hdK.heap_1 w.params).In g) (T : Top p loose mean mg mb g)
    (hdep : A.depth + 200 < recursionLimit) (hu : A.units + 3000 < cLine) (d2 : cellV o2 (.int (many : Int) tm)) (d3 : cellV o3 (.ref bl)) (hsay : Says m [(Str.ofString "cells", .ref cl), (Str.ofString "kind", .int (kd : Int) tk)])
    (hnd : Nd ((bl, listOf vb.toArray nb) :: (cl, listOf vc.toArray nc) :: (L + 1 + 1 + 1, o3) :: (L + 1 + 1, o2) :: lx))
    (F : Fr g L s.heap m) (N : News g L s.heap ((bl, listOf vb.toArray nb) :: (cl, listOf vc.toArray nc) :: (L + 1 + 1 + 1, o3) :: (L + 1 + 1, o2) :: lx))
    (hQ : ∀ h' tk (D nD : Nat) ys, IntsAre ys (asInts (secondOf kd many hs cs)) → Nd ((D, listOf ys.toArray nD) :: (bl, listOf vb.toArray nb) :: (cl, listOf vc.toArray nc) :: (L + 1 + 1 + 1, o3) :: (L + 1 + 1, o2) :: lx) → Fr g L h' (fun y => if y = Str.ofString "second" then some (.ref D) else m y) → News g L h' ((D, listOf ys.toArray nD) :: (bl, listOf vb.toArray nb) :: (cl, listOf vc.toArray nc) :: (L + 1 + 1 + 1, o3) :: (L + 1 + 1, o2) :: lx) → Q .next { s with heap := h', toks := tk }) :
    wpAny (model prog w) A (exec (stmtLaw w.params 5) (envLaw w.params L)) Q E s := by
  have hcLine : cLine = 9900 := rfl
  have hrec : recursionLimit = 1000 := rfl
  have F0 := F
  have F := Mine.Fr.said F hsay
  have hsay1 : Says m [(Str.ofString "cells", .ref cl)] := says_sub hsay (fun p hp => by rw [List.mem_singleton.mp hp]; exact .head _)
  have qa : ∀ p ∈ (bl, listOf vb.toArray nb) :: (L + 1 + 1 + 1, o3) :: (L + 1 + 1, o2) :: (cl, listOf vc.toArray nc) :: lx, p ∈ (bl, listOf vb.toArray nb) :: (cl, listOf vc.toArray nc) :: (L + 1 + 1 + 1, o3) :: (L + 1 + 1, o2) :: lx := fun p hp => mem_of_cn (fun x => by (simp only [cn_append, cn_cons, cn_nil]; omega)) hp
  dsimp only [stmtLaw, envLaw, law229, Option.getD, List.getElem?_cons_succ, List.getElem?_cons_zero]
  iterate 5 walk1
  by_cases h0 : kd = 0
  · have eb : ((kd : Int) == 0) = true := by rw [beq_iff_eq]; omega
    have es : secondOf kd many hs cs = conjOf many hs := if_pos h0
    rw [es] at hQ
    rw [eb]
    iterate 2 walk1
    show wpAny (model prog w) A (execs [sec0 w.params] (envLaw w.params L)) _ _ _
    refine wpAny_execs_cons (law_s5a hB hbl hm4 hh X T hdep hu d2 d3 F0 (newsP N perm34a) ?_)
    intro h' tk D ys hys off F1 N1
    dsimp only
    refine wpAny_execs_nil (hQ h' tk D ys.length ys hys (Nd.cons hnd fun q hq => Off1.mem off q (mem_of_cn (fun x => by (simp only [cn_append, cn_cons, cn_nil]; omega)) hq)) F1 (fun q hq => N1 q (mem_of_cn (fun x => by (simp only [cn_append, cn_cons, cn_nil]; omega)) hq)))
  · have eb : ((kd : Int) == 0) = false := by rw [beq_eq_false_iff_ne]; omega
    rw [eb]
    iterate 9 walk1
    by_cases h1 : kd = 1
    · have eb : ((kd : Int) == 1) = true := by rw [beq_iff_eq]; omega
      have es : secondOf kd many hs cs = climb many ((cs.drop 4).take many) := by unfold secondOf; rw [if_neg h0, if_pos h1]
      rw [es] at hQ
      rw [eb]
      iterate 2 walk1
      show wpAny (model prog w) A (execs [sec1 w.params] (envLaw w.params L)) _ _ _
      refine wpAny_execs_cons (law_s5b hI hcs hm4 hh X T hdep hu d2 hsay1 F0 (newsP N perm34b) ?_)
      intro h' tk D nD ys hys off F1 N1
      dsimp only
      refine wpAny_execs_nil (wpAny_execs_nil (hQ h' tk D nD ys hys (Nd.cons hnd fun q hq => off q (mem_of_cn (fun x => by (simp only [cn_append, cn_cons, cn_nil]; omega)) hq)) F1 (fun q hq => N1 q (mem_of_cn (fun x => by (simp only [cn_append, cn_cons, cn_nil]; omega)) hq))))
    · have eb : ((kd : Int) == 1) = false := by rw [beq_eq_false_iff_ne]; omega
      have es : secondOf kd many hs cs = moreOf many hs := by unfold secondOf; rw [if_neg h0, if_neg h1]
      rw [es] at hQ
      rw [eb]
      iterate 2 walk1
      show wpAny (model prog w) A (execs [sec2 w.params] (envLaw w.params L)) _ _ _
      refine wpAny_execs_cons (law_s5c hB hbl hb0 hb4 hm4 hh X T hdep hu d2 d3 F0 (newsP N perm34a) ?_)
      intro h' tk D nD ys hys off F1 N1
      dsimp only
      refine wpAny_execs_nil (wpAny_execs_nil (hQ h' tk D nD ys hys (Nd.cons hnd fun q hq => off q (mem_of_cn (fun x => by (simp only [cn_append, cn_cons, cn_nil]; omega)) hq)) F1 (fun q hq => N1 q (mem_of_cn (fun x => by (simp only [cn_append, cn_cons, cn_nil]; omega)) hq))))
end
end

noncomputable section
example : True := by -- walkOff_D35
  w_top off
  exact True.intro
noncomputable def endOf (c : Nat) : List Nat := [[10], [13], [13, 10]].getD (c / 3 % 3) []
theorem mod3 (c : Nat) : ((c : Int).fdiv 3).fmod 3 = ((c / 3 % 3 : Nat) : Int) := by
  rw [Int.fmod_eq_emod_of_nonneg _ (by decide), Int.fdiv_eq_ediv_of_nonneg _ (by decide)]
  omega
theorem end_at (c : Nat) (t1 t2 t3 : Tok) : ∃ t, ([.str (Str.ofString "\n") t1, .str (Str.ofString "\r") t2, .str (Str.ofString "\r\n") t3] : List Value)[c / 3 % 3]? = some (.str (txt (endOf c)) t) := by
  unfold endOf
  have h : c / 3 % 3 < 3 := Nat.mod_lt _ (by decide)
  generalize c / 3 % 3 = r at *
  rcases r with _ | _ | _ | r
  · exact ⟨t1, rfl⟩
  · exact ⟨t2, rfl⟩
  · exact ⟨t3, rfl⟩
  · omega
theorem endOf_is (c : Nat) : IsEnd (endOf c) := by
  unfold endOf IsEnd
  have h : c / 3 % 3 < 3 := Nat.mod_lt _ (by decide)
  generalize c / 3 % 3 = r at *
  rcases r with _ | _ | _ | r
  · exact .inl rfl
  · exact .inr (.inl rfl)
  · exact .inr (.inr rfl)
  · omega
section
variable {A : Around} {s : Shared} {g : Heap} {L : Nat} {m : Str → Option Value} {p : Program} {loose : List Str} {mean : ExcName → Option Value} {mg mb : Str → Option Value} {Q : Flow → Shared → Prop} {E : Value → Shared → Prop}
  {o1 o2 o3 o4 o5 o6 o7 : Obj} {lx : List (Addr × Obj)}
noncomputable abbrev endsOf (many : Nat) (cs : List Nat) : List Str := (cs.take many).map fun c => txt (endOf c)
set_option maxHeartbeats 2000000 in
theorem seq_nat {j n : Nat} (h : j < n) : seqIndex? (j : Int) n = some j := by unfold seqIndex?; simp; omega
theorem law_s6 {cl nc many : Nat} {tm : Tok} {vc : List Value} {cs : List Nat} (hI : IntsAre vc (asInts cs)) (hcs : cs.length = 9) (hm4 : many ≤ 4) (hh : A.handled = none) (X : (hdK.heap_1 w.params).In g) (T : Top p loose mean mg mb g)
    (hdep : A.depth + 200 < recursionLimit) (hu : A.units + 3000 < cLine) (d2 : cellV o2 (.int (many : Int) tm)) {c4 : Option Value} (d4 : o4.data = .cell c4) (hsay : Says m [(Str.ofString "cells", .ref cl)])
    (hnd : Nd ((L + 1 + 1 + 1 + 1, o4) :: (L + 1 + 1, o2) :: (cl, listOf vc.toArray nc) :: lx))
    (F : Fr g L s.heap m) (N : News g L s.heap ((L + 1 + 1 + 1 + 1, o4) :: (L + 1 + 1, o2) :: (cl, listOf vc.toArray nc) :: lx))
    (hQ : ∀ h' tk (D : Nat) ys o4', StrsAre ys (endsOf many cs) → cellV o4' (.ref D) → Nd ((D, listOf ys.toArray ys.length) :: (L + 1 + 1 + 1 + 1, o4') :: (L + 1 + 1, o2) :: (cl, listOf vc.toArray nc) :: lx) → Fr g L h' m → News g L h' ((D, listOf ys.toArray ys.length) :: (L + 1 + 1 + 1 + 1, o4') :: (L + 1 + 1, o2) :: (cl, listOf vc.toArray nc) :: lx) → Q .next { s with heap := h', toks := tk }) :
    wpAny (model prog w) A (exec (stmtLaw w.params 6) (envLaw w.params L)) Q E s := by
  have hcLine : cLine = 9900 := rfl
  have hrec : recursionLimit = 1000 := rfl
  have hcl9 : (asInts cs).length = 9 := by simp [hcs]
  have htl : (cs.take many).length = many := by rw [List.length_take]; omega
  dsimp only [stmtLaw, envLaw, law229, Option.getD, List.getElem?_cons_succ, List.getElem?_cons_zero]
  refine wpAny_Assign_Name ?_ (by kernel_rfl)
  have F := Mine.Fr.said F hsay
  refine LCg.ListComp_U F rfl (by decide) rfl (by decide) rfl ?_
  repeat walk1
  with_reducible rename Fr _ _ _ _ => F3
  with_reducible rename News _ _ _ _ => N3
  with_reducible rename IntsAre _ (List.take _ _) => hI3
  with_reducible rename _ < _ ∧ _ => hlt3
  rename_i Dc wc _ _ _
  rw [Int.toNat_natCast, show List.take many (asInts cs) = asInts (cs.take many) from (List.map_take).symm] at hI3
  have hwl : wc.length = many := by rw [hI3.length, asInts_len, htl]
  refine LCg.CompSrc.ledger hh F3 N3 (.head _) (Nat.le_trans (show wc.toArray.size ≤ 4 by simp; omega) (by decide)) (fun g' => ?_)
  refine comp_const (n := wc.toArray.size) (fun k zv => StrsAre zv (((cs.take many).take k).map fun c => txt (endOf c))) ?_ ?_ .nil
  · rintro k zv v I oI C2 oC2 D2 m₃ h3 tk3 E3 hk hzs hv hC2 hx2 F4 N4 off2 hne2
    have off20 := off2
    simp only [LCg.Off3, and_true] at off2
    obtain ⟨tv, rfl⟩ := nat_at hI3 (by simpa using hv)
    have hkc : k < (cs.take many).length := by rw [htl]; simp at hk; omega
    have hnext : (((cs.take many).take (k + 1)).map fun c => txt (endOf c)) = (((cs.take many).take k).map fun c => txt (endOf c)) ++ [txt (endOf ((cs.take many).getD k 0))] := by
      rw [List.take_add_one, List.getD_eq_getElem?_getD, List.getElem?_eq_getElem hkc]; simp
    rw [hnext]
    generalize (cs.take many).getD k 0 = c at *
    repeat walk1
    rw [mod3]
    have hr3 : c / 3 % 3 < 3 := Nat.mod_lt _ (by decide)
    obtain ⟨tE, hE⟩ := end_at c _ _ _
    refine item_tupleT (j := c / 3 % 3) (News.isTup (by k_asm) (by k_mem)) (by omega) (by omega) (by exact seq_nat (n := 3) hr3) hE ?_
    with_reducible rename Fr _ _ _ _ => F5
    with_reducible rename News _ _ _ _ => N5
    exact LCg.CompEnd.intro F5 N5 _ (fun p hp => .tail _ hp) off20 (.inr ⟨_, .head _, rfl, _, rfl⟩) ⟨rfl, strs_snoc hzs⟩
  · rintro zv hzs
    unfold LCg.FinE
    intro D3 h3 tk3 F4 N4 off2
    have off20 := off2
    have offT : ∀ p ∈ lx, p.1 ≠ D3 := fun p hp => Off1.mem off2 p (by simp [hp])
    have x2 : @Ne Nat cl (L + 1 + 1 + 1 + 1) := hnd.hd _ (.tail _ (.head _))
    have x3 : ∀ q ∈ lx, q.1 ≠ L + 1 + 1 + 1 + 1 := fun q hq => hnd.hd _ (.tail _ (.tail _ hq))
    simp only [LCg.Off1, and_true] at off2
    repeat walk1
    rename_i d5
    with_reducible rename Fr _ _ _ _ => F5
    with_reducible rename News _ _ _ _ => N5
    have et : (cs.take many).take wc.toArray.size = cs.take many := List.take_of_length_le (by simp; omega)
    rw [et] at hzs
    have hnd2 : Nd ((D3, listOf zv.toArray zv.length) :: (L + 1 + 1 + 1 + 1, o4) :: (L + 1 + 1, o2) :: (cl, listOf vc.toArray nc) :: lx) := Nd.cons hnd fun q hq => Off1.mem off20 q (.tail _ hq)
    refine hQ _ _ D3 zv _ hzs d5 (hnd2.same rfl) (Fr.unsaid F5 hsay) (fun p hp => N5 p ?_)
    rcases List.mem_cons.mp hp with rfl | hp
    · exact .head _
    · exact .tail _ (.tail _ hp)
end
end

noncomputable section
example : True := by -- walkOff_D36
  w_top off
  exact True.intro
noncomputable def body10 (P : Params) : { b : List Stmt // loopBody (stmtLaw P 10) = b } := ⟨_, rfl⟩
noncomputable abbrev turnStmt (P : Params) (i : Nat) : Stmt := ((body10 P).1[i]?).getD (.Pass default)
noncomputable def psOf (many : Nat) (hs : List Nat) (es : List (List Nat)) : List (Nat × List Nat) := (List.range many).map fun i => (hs.getD i 0 + 1, es.getD i [])
theorem psOf_rows (many : Nat) (hs : List Nat) (es : List (List Nat)) : (List.range many).flatMap (fun i => rep (hs.getD i 0 + 1) ++ es.getD i []) = rowsOf (psOf many hs es) := by
  unfold rowsOf psOf
  rw [List.flatMap_map]
theorem strs_get {es : List (List Nat)} {k : Nat} (hk : k < es.length) : (es.map txt).getD k Str.empty = txt (es.getD k []) := by
  rw [List.getD_eq_getElem?_getD, List.getElem?_map, List.getD_eq_getElem?_getD, List.getElem?_eq_getElem hk]; rfl
section
variable {A : Around} {s : Shared} {g : Heap} {L : Nat} {m : Str → Option Value} {p : Program} {loose : List Str} {mean : ExcName → Option Value} {mg mb : Str → Option Value} {Q : Flow → Shared → Prop} {E : Value → Shared → Prop}
  {o1 o2 o3 o4 o5 o6 o7 : Obj} {lx : List (Addr × Obj)}
set_option maxHeartbeats 2000000 in
theorem turn_0 {hl nh el ne many : Nat} {tm : Tok} {hv ev : List Value} {hs : List Nat} {es : List (List Nat)} (hH : IntsAre hv (asInts hs)) (hE : StrsAre ev (es.map txt)) (hhl : hs.length = many) (hel : es.length = many) (hm4 : many ≤ 4) (hh4 : ∀ h ∈ hs, h ≤ 4) (he2 : ∀ e ∈ es, e.length ≤ 2) (hh : A.handled = none) (X : (hdK.heap_1 w.params).In g) (T : Top p loose mean mg mb g)
    (hdep : A.depth + 200 < recursionLimit) (hu : A.units + 3000 < cLine) (d2 : cellV o2 (.int (many : Int) tm)) (d4 : cellV o4 (.ref el)) (d5 : cellV o5 (.ref hl))
    (F : Fr g L s.heap m) (N : News g L s.heap ((hl, listOf hv.toArray nh) :: (el, listOf ev.toArray ne) :: (L + 1 + 1 + 1 + 1 + 1, o5) :: (L + 1 + 1 + 1 + 1, o4) :: (L + 1 + 1, o2) :: lx))
    (hQ : ∀ h' tk t, Fr g L h' (fun y => if y = Str.ofString "text" then some (.str (txt (rowsOf (psOf many hs es))) t) else m y) → News g L h' ((hl, listOf hv.toArray nh) :: (el, listOf ev.toArray ne) :: (L + 1 + 1 + 1 + 1 + 1, o5) :: (L + 1 + 1 + 1 + 1, o4) :: (L + 1 + 1, o2) :: lx) → Q .next { s with heap := h', toks := tk }) :
    wpAny (model prog w) A (exec (turnStmt w.params 0) (envLaw w.params L)) Q E s := by
  have hcLine : cLine = 9900 := rfl
  have hrec : recursionLimit = 1000 := rfl
  have hhl2 : (asInts hs).length = many := by rw [asInts_len, hhl]
  have hel2 : (es.map txt).length = many := by simp [hel]
  dsimp only [turnStmt, body10, loopBody, stmtLaw, envLaw, law229, Option.getD, List.getElem?_cons_succ, List.getElem?_cons_zero]
  refine wpAny_Assign_Name ?_ (by kernel_rfl)
  iterate 5 walk1
  refine LCg.ListComp_U F rfl (by decide) rfl (by decide) rfl ?_
  repeat walk1
  with_reducible rename IsRange _ _ _ _ _ _ _ _ => hR
  with_reducible rename Fr _ _ _ _ => F2
  with_reducible rename News _ _ _ _ => N2
  refine LCg.CompSrc.range (n := many) hh F2 N2 hR (small_one (by omega) (by omega) (by omega) (by omega)) (by rw [rangeSize_one]; split <;> omega) (Nat.le_trans hm4 (by decide)) (fun g' => ?_)
  refine comp_const (n := many) (fun k zv => StrsAre zv ((List.range k).map fun i => txt (rep (hs.getD i 0 + 1) ++ es.getD i []))) ?_ ?_ .nil
  · rintro k zv v I oI C2 oC2 D2 m₃ h3 tk3 E3 hk hzs ⟨tv, rfl⟩ hC2 hx2 F4 N4 off2 hne2
    have off20 := off2
    simp only [LCg.Off3, and_true] at off2
    have hk2 : (0 : Int) + (k : Int) < (many : Int) := by omega
    have hk3 : (0 : Int) + (k : Int) < ((asInts hs).length : Int) := by omega
    have hk4 : (0 : Int) + (k : Int) < ((es.map txt).length : Int) := by omega
    repeat walk1
    have e0 : ((0 : Int) + (k : Int)).toNat = k := by omega
    have hhk : hs.getD k 0 ≤ 4 := by
      have hkl : k < hs.length := by omega
      rw [List.getD_eq_getElem?_getD, List.getElem?_eq_getElem hkl]
      exact hh4 _ (List.getElem_mem hkl)
    have hek : (es.getD k []).length ≤ 2 := by
      have hkl : k < es.length := by omega
      rw [List.getD_eq_getElem?_getD, List.getElem?_eq_getElem hkl]
      exact he2 _ (List.getElem_mem hkl)
    have e1 : (asInts hs).getD k 0 + 1 = ((hs.getD k 0 + 1 : Nat) : Int) := by rw [asInts_get (by omega)]; omega
    have e2 := strs_get (es := es) (k := k) (by omega)
    rw [e0, e1]
    have hnext : (List.range (k + 1)).map (fun i => txt (rep (hs.getD i 0 + 1) ++ es.getD i [])) = (List.range k).map (fun i => txt (rep (hs.getD i 0 + 1) ++ es.getD i [])) ++ [txt (rep (hs.getD k 0 + 1) ++ es.getD k [])] := by
      rw [List.range_succ, List.map_append]; rfl
    rw [hnext]
    refine SB.mul (x := ⟨#[46]⟩) (mulOk_sign (by omega)) (fun t6 k6 => ?_)
    rw [mul_sign]
    repeat walk1
    rw [e0, e2]
    generalize es.getD k [] = ek at *
    generalize hs.getD k 0 = hk0 at *
    refine add_txt (by rw [List.length_replicate]; omega) (fun t7 k7 => ?_)
    with_reducible rename Fr _ _ _ _ => F5
    with_reducible rename News _ _ _ _ => N5
    exact LCg.CompEnd.intro F5 N5 _ (fun p hp => hp) off20 True.intro ⟨rfl, strs_snoc hzs⟩
  · rintro zv hzs
    unfold LCg.FinE
    intro D3 h3 tk3 F4 N4 off2
    repeat walk1
    refine join_rows (b := 7) (f := fun i => rep (hs.getD i 0 + 1) ++ es.getD i []) (l := List.range many) (News.isList N4 (.head _)) hzs (fun c hc => ?_) (by rw [List.length_range]; omega) (fun t1 k1 => ?_)
    · have hcm : c < many := List.mem_range.mp hc
      have hkl : c < hs.length := by omega
      have hkl2 : c < es.length := by omega
      rw [List.length_append, List.length_replicate, List.getD_eq_getElem?_getD, List.getElem?_eq_getElem hkl, List.getD_eq_getElem?_getD, List.getElem?_eq_getElem hkl2]
      have h1 := hh4 _ (List.getElem_mem hkl)
      have h2 := he2 _ (List.getElem_mem hkl2)
      show hs[c] + 1 + es[c].length ≤ 7
      omega
    rw [psOf_rows]
    repeat walk1
    with_reducible rename Fr _ _ _ _ => F5
    with_reducible rename News _ _ _ _ => N5
    exact hQ _ _ _ F5 (fun p hp => N5 p (.tail _ hp))
end
end

noncomputable section
example : True := by -- walkOff_D37
  w_top off
  exact True.intro
noncomputable abbrev TabL (tl : List (Addr × Obj)) : Prop := TabOk 207 188 16 lamQ tl
section
variable {A : Around} {s : Shared} {g : Heap} {L : Nat} {m : Str → Option Value} {p : Program} {loose : List Str} {mean : ExcName → Option Value} {mg mb : Str → Option Value} {Q : Flow → Shared → Prop} {E : Value → Shared → Prop}
  {o1 o2 o3 o4 o5 o6 o7 : Obj} {tl R : List (Addr × Obj)}
set_option maxHeartbeats 2000000 in
theorem turn_1 {x : List Nat} {tt : Tok} (hC1 : ∀ g, (hdK.heap_1 w.params).In g → CodeHd g 211 207) (ht : TabL tl) (hx : x.length ≤ 10000) (hh : A.handled = none) (X : (hdK.heap_1 w.params).In g) (T : Top p loose mean mg mb g)
    (hdep : A.depth + 200 < recursionLimit) (hu : A.units + 3000 < cLine) (hnd : Nd (tl ++ R)) (hsay : Says m [(Str.ofString "text", .str (txt x) tt)])
    (F : Fr g L s.heap m) (N : News g L s.heap (tl ++ R))
    (hQ : ∀ h' tk (a : LexP) tl' vs nS tn, a.Ok tl' → Nd tl' → (∀ c₀, Made 207 188 16 lamQ c₀ tl → tl' = tl ∧ a.c' = c₀) → SignsAre vs x → (∀ q ∈ R, ∀ p ∈ a.led w.params vs nS 1 tn [] 0 ++ tl', p.1 ≠ q.1) →
      Fr g L h' (fun y => if y = Str.ofString "lexer" then some (.ref a.x) else m y) → News g L h' ((a.led w.params vs nS 1 tn [] 0 ++ tl') ++ R) → Q .next { s with heap := h', toks := tk }) :
    wpAny (model prog w) A (exec (turnStmt w.params 1) (envLaw w.params L)) Q E s := by
  have hcLine : cLine = 9900 := rfl
  have hrec : recursionLimit = 1000 := rfl
  dsimp only [turnStmt, body10, loopBody, stmtLaw, envLaw, law229, Option.getD, List.getElem?_cons_succ, List.getElem?_cons_zero]
  have F := Mine.Fr.said F hsay
  repeat walk1
  with_reducible rename Fr _ _ _ _ => F4
  have F4 := Mine.Fr.unsaid F4 hsay
  refine Meets.call R (law_lexer (w := w) (prog := prog) (x := x) (tx := tt) hC1 ht hnd.left hx) F4 N X T (fun p hp => List.mem_append_left _ hp) (fun p hp => List.mem_append_right _ hp) hnd.sep hh (by first | exact ar_lim hdep (by decide) | exact ar_limD hdep (by decide) | omega) (by first | exact ar_lim hu (by decide) | exact ar_limU hu (by decide) | omega) ?_
  intro n₁ v l₁ h₂ tk₂ hp F3 N3 p1 p2 p3 p4
  obtain ⟨a, tl', vs, nS, tn, hok, hnd', hsm, hcS, hsg⟩ := hp
  clear F4 N
  repeat walk1
  with_reducible rename Fr _ _ _ _ => F7
  with_reducible rename News _ _ _ _ => N7
  exact hQ _ _ a tl' vs nS tn hok hnd' hsm hsg p4 F7 N7
set_option maxHeartbeats 2000000 in
theorem turn_2 (hh : A.handled = none) (F : Fr g L s.heap m) (N : News g L s.heap R)
    (hQ : ∀ h' tk t, Fr g L h' (fun y => if y = Str.ofString "mail" then some (.str (txt []) t) else m y) → News g L h' R → Q .next { s with heap := h', toks := tk }) :
    wpAny (model prog w) A (exec (turnStmt w.params 2) (envLaw w.params L)) Q E s := by
  dsimp only [turnStmt, body10, loopBody, stmtLaw, envLaw, law229, Option.getD, List.getElem?_cons_succ, List.getElem?_cons_zero]
  repeat walk1
  with_reducible rename Fr _ _ _ _ => F7
  with_reducible rename News _ _ _ _ => N7
  exact hQ _ _ _ F7 N7
end
noncomputable def mailB (P : Params) : { b : List Stmt // loopBody (turnStmt P 3) = b } := ⟨_, rfl⟩
section
variable {A : Around} {s : Shared} {g : Heap} {L : Nat} {m : Str → Option Value} {p : Program} {loose : List Str} {mean : ExcName → Option Value} {mg mb : Str → Option Value} {K : Flow → Shared → Prop} {E : Value → Shared → Prop}
  {o1 o2 o3 o4 o5 o6 o7 : Obj} {tl R : List (Addr × Obj)}
set_option maxHeartbeats 2000000 in
theorem mail_turn {a : LexP} {vs : List Value} {cs l e : List Nat} {nS np : Nat} {n : Int} {tn tm te : Tok} (ha : a.Ok tl) (hS : SignsAre vs cs) (hcs : cs.length ≤ 1000) (hwl : (word cs).1.length ≤ 1000) (hasc : Asc cs) (hl : l.length ≤ 1000) (hel : e.length ≤ 2) (hh : A.handled = none) (X : (hdK.heap_1 w.params).In g) (T : Top p loose mean mg mb g)
    (hdep : A.depth + 200 < recursionLimit) (hu : A.units + 3000 < cLine) (hap : ∀ q ∈ R, ∀ p ∈ a.led w.params vs nS n tn [] np ++ tl, p.1 ≠ q.1)
    (hsay : Says m [(Str.ofString "lexer", .ref a.x), (Str.ofString "mail", .str (txt l) tm), (Str.ofString "end", .str (txt e) te)])
    (F : Fr g L s.heap m) (N : News g L s.heap ((a.led w.params vs nS n tn [] np ++ tl) ++ R))
    (hK : ∀ h' tk vs' nS' tn' t, SignsAre vs' (word cs).2 → Fr g L h' (fun y => if y = Str.ofString "mail" then some (.str (txt (quote l ++ (word cs).1 ++ e)) t) else m y) → News g L h' ((a.led w.params vs' nS' (n + nls cs - nls (word cs).2) tn' [] np ++ tl) ++ R) → K .next { s with heap := h', toks := tk }) :
    wpAny (model prog w) A (execs (mailB w.params).1 (envLaw w.params L)) K E s := by
  have hcLine : cLine = 9900 := rfl
  have hrec : recursionLimit = 1000 := rfl
  dsimp only [mailB, turnStmt, body10, loopBody, stmtLaw, envLaw, law229, Option.getD, List.getElem?_cons_succ, List.getElem?_cons_zero]
  have F := Mine.Fr.said F hsay
  have hql : (quote l).length ≤ 4 * l.length := by
    have h1 := crlf_len l
    have h2 := stuff_len (crlf l) true
    unfold quote; omega
  repeat walk1
  with_reducible rename Fr _ _ _ _ => F4
  refine Meets.call ((a.led w.params vs nS n tn [] np ++ tl) ++ R) (quotedata (w := w) (prog := prog) (l := l) (by omega)) F4 N X T (fun p hp => nomatch hp) (fun p hp => hp) (fun q hq p hp => nomatch hp) hh (by first | exact ar_lim hdep (by decide) | exact ar_limD hdep (by decide) | omega) (by first | exact ar_lim hu (by decide) | exact ar_limU hu (by decide) | omega) ?_
  intro n₂ v l₁ h₃ tk₃ hp F5 N5 q1 q2 q3 q4
  obtain ⟨t, rfl, rfl⟩ := hp
  rw [List.nil_append] at N5
  have N6 := N5
  clear F4 N
  repeat walk1
  with_reducible rename Fr _ _ _ _ => F6
  refine Meets.call R (get_word (w := w) (prog := prog) ha hS (by omega) hasc) F6 N6 X T (fun p hp => List.mem_append_left _ hp) (fun p hp => List.mem_append_right _ hp) hap hh (by first | exact ar_lim hdep (by decide) | exact ar_limD hdep (by decide) | omega) (by first | exact ar_lim hu (by decide) | exact ar_limU hu (by decide) | omega) ?_
  intro n₁ v l₁ h₂ tk₂ hp F3 N3 p1 p2 p3 p4
  obtain ⟨vs', nS', tn', tw, rfl, hS', rfl⟩ := hp
  clear F6 N5 N6
  refine add_txt (by omega) (fun t1 k1 => ?_)
  repeat walk1
  refine add_txt (by rw [List.length_append]; omega) (fun t2 k2 => ?_)
  repeat walk1
  with_reducible rename Fr _ _ _ _ => F7
  with_reducible rename News _ _ _ _ => N7
  rw [kstB_said hsay] at F7
  exact hK _ _ vs' nS' tn' t2 hS' F7 N7
theorem psOf_len (many : Nat) (hs : List Nat) (es : List (List Nat)) : (psOf many hs es).length = many := by simp [psOf]
theorem psOf_at {many : Nat} {hs : List Nat} {es : List (List Nat)} {i : Nat} (hi : i < many) : (psOf many hs es).getD i (0, []) = (hs.getD i 0 + 1, es.getD i []) := by
  rw [List.getD_eq_getElem?_getD]
  simp [psOf, hi]
theorem psOf_ok {many : Nat} {hs : List Nat} {es : List (List Nat)} (hel : es.length = many) (he : ∀ e ∈ es, IsEnd e) : ∀ p ∈ psOf many hs es, 1 ≤ p.1 ∧ IsEnd p.2 := by
  intro p hp
  obtain ⟨i, hi, rfl⟩ := List.mem_map.mp hp
  have hi := List.mem_range.mp hi
  refine ⟨Nat.le_add_left .., ?_⟩
  have h3 : i < es.length := by omega
  show IsEnd (es.getD i [])
  rw [List.getD_eq_getElem?_getD, List.getElem?_eq_getElem h3]
  exact he _ (List.getElem_mem h3)
theorem isEnd_len {e : List Nat} (h : IsEnd e) : e.length ≤ 2 := by
  rcases h with rfl | rfl | rfl <;> decide
theorem psOf_bound {many : Nat} {hs : List Nat} {es : List (List Nat)} (hhl : hs.length = many) (hh4 : ∀ h ∈ hs, h ≤ 4) (hel : es.length = many) (he : ∀ e ∈ es, IsEnd e) : ∀ p ∈ psOf many hs es, p.1 ≤ 5 ∧ p.2.length ≤ 2 := by
  intro p hp
  obtain ⟨i, hi, rfl⟩ := List.mem_map.mp hp
  have hi := List.mem_range.mp hi
  have h3 : i < es.length := by omega
  have h4 : i < hs.length := by omega
  rw [List.getD_eq_getElem?_getD, List.getElem?_eq_getElem h4, List.getD_eq_getElem?_getD, List.getElem?_eq_getElem h3]
  have := hh4 _ (List.getElem_mem h4)
  exact ⟨by show hs[i] + 1 ≤ 5; omega, isEnd_len (he _ (List.getElem_mem h3))⟩
end
section
variable {A : Around} {s : Shared} {g : Heap} {L : Nat} {m : Str → Option Value} {p : Program} {loose : List Str} {mean : ExcName → Option Value} {mg mb : Str → Option Value} {Q : Flow → Shared → Prop}
  {o1 o2 o3 o4 o5 o6 o7 : Obj} {tl R : List (Addr × Obj)}
theorem perm37a {α : Type} {e c : α} {LED R : List α} : List.Perm (LED ++ (e :: c :: R)) (e :: c :: (LED ++ R)) := permT [LED, [e], [c], R] (.p (.a 0) (.p (.a 1) (.p (.a 2) (.a 3)))) (.p (.a 1) (.p (.a 2) (.p (.a 0) (.a 3)))) rfl
theorem perm37b {α : Type} {i : α} {LED R : List α} : List.Perm ((LED ++ R) ++ [i]) (LED ++ (R ++ [i])) := permT [LED, R, [i]] (.p (.p (.a 0) (.a 1)) (.p (.a 2) .o)) (.p (.a 0) (.p (.a 1) (.p (.a 2) .o))) rfl
inductive J3 (P : Params) (a : LexP) (tl R : List (Addr × Obj)) (ps : List (Nat × List Nat)) (m : Str → Option Value) (i : Nat) (m₁ : Str → Option Value) : List (Addr × Obj) → Prop
  | mk (vs : List Value) (nS : Nat) (tn t : Tok) (hS : SignsAre vs (remR ps i)) (hw : m₁ (Str.ofString "mail") = some (.str (txt (rowsOf (msOf ps i))) t)) (hm : ∀ y, y ≠ Str.ofString "mail" → y ≠ Str.ofString "end" → m₁ y = m y) :
    J3 P a tl R ps m i m₁ ((a.led P vs nS (1 + nls (rowsOf ps) - nls (remR ps i)) tn [] 0 ++ tl) ++ R)
set_option maxHeartbeats 2000000 in
theorem turn_3 {a : LexP} {vs ev : List Value} {nS el ne many : Nat} {tn tm : Tok} {hs : List Nat} {es : List (List Nat)} (ha : a.Ok tl) (hE : StrsAre ev (es.map txt)) (hhl : hs.length = many) (hel : es.length = many) (hm4 : many ≤ 4) (hh4 : ∀ h ∈ hs, h ≤ 4) (he : ∀ e ∈ es, IsEnd e) (hS : SignsAre vs (rowsOf (psOf many hs es))) (hh : A.handled = none) (X : (hdK.heap_1 w.params).In g) (T : Top p loose mean mg mb g)
    (hdep : A.depth + 200 < recursionLimit) (hu : A.units + 3000 < cLine) (d4 : cellV o4 (.ref el)) (hap : ∀ q ∈ (el, listOf ev.toArray ne) :: (L + 1 + 1 + 1 + 1, o4) :: R, ∀ p ∈ a.led w.params vs nS 1 tn [] 0 ++ tl, p.1 ≠ q.1)
    (hsay : Says m [(Str.ofString "lexer", .ref a.x), (Str.ofString "mail", .str (txt []) tm)])
    (F : Fr g L s.heap m) (N : News g L s.heap ((a.led w.params vs nS 1 tn [] 0 ++ tl) ++ ((el, listOf ev.toArray ne) :: (L + 1 + 1 + 1 + 1, o4) :: R)))
    (hQ : ∀ h' tk vs' nS' tn' t m', SignsAre vs' (remR (psOf many hs es) many) → m' (Str.ofString "mail") = some (.str (txt (rowsOf (msOf (psOf many hs es) many))) t) → (∀ y, y ≠ Str.ofString "mail" → y ≠ Str.ofString "end" → m' y = m y) →
      Fr g L h' m' → News g L h' ((a.led w.params vs' nS' (1 + nls (rowsOf (psOf many hs es)) - nls (remR (psOf many hs es) many)) tn' [] 0 ++ tl) ++ ((el, listOf ev.toArray ne) :: (L + 1 + 1 + 1 + 1, o4) :: R)) → Q .next { s with heap := h', toks := tk }) :
    wpAny (model prog w) A (exec (turnStmt w.params 3) (envLaw w.params L)) Q (fun _ _ => False) s := by
  have hcLine : cLine = 9900 := rfl
  have hrec : recursionLimit = 1000 := rfl
  have hevl : ev.length = many := by rw [hE.length, List.length_map, hel]
  have hok := psOf_ok (hs := hs) hel he
  have hbd := psOf_bound hhl hh4 hel he
  have hpl := psOf_len many hs es
  have hJ0 : J3 w.params a tl ((el, listOf ev.toArray ne) :: (L + 1 + 1 + 1 + 1, o4) :: R) (psOf many hs es) m 0 m ((a.led w.params vs nS 1 tn [] 0 ++ tl) ++ ((el, listOf ev.toArray ne) :: (L + 1 + 1 + 1 + 1, o4) :: R)) :=
    (show (1 : Int) + nls (rowsOf (psOf many hs es)) - nls (remR (psOf many hs es) 0) = 1 by unfold remR; rw [if_pos rfl, Int.add_sub_cancel]) ▸ .mk vs nS tn tm hS (hsay _ (.tail _ (.head _))) (fun y _ _ => rfl)
  have hl0 : m (Str.ofString "lexer") = some (.ref a.x) := hsay _ (.head _)
  have hpse : ∀ i, i < many → (psOf many hs es).getD i (0, []) = (hs.getD i 0 + 1, es.getD i []) := fun i hi => psOf_at hi
  generalize psOf many hs es = ps at *
  have N1 := newsP N perm37a
  generalize hRT : (a.led w.params vs nS 1 tn [] 0 ++ tl) ++ R = RT at N1
  dsimp only [turnStmt, body10, loopBody, stmtLaw, envLaw, law229, Option.getD, List.getElem?_cons_succ, List.getElem?_cons_zero]
  refine For_invVF F rfl rfl ?_
  have NK := N
  clear N
  iterate 1 walk1
  with_reducible rename Fr _ _ _ _ => F2
  refine loopList (vs := ev) (oL := listOf ev.toArray ne) hh ⟨rfl, _, rfl⟩ F2 NK (J3 w.params a tl ((el, listOf ev.toArray ne) :: (L + 1 + 1 + 1 + 1, o4) :: R) ps m) hJ0 ?_ ?_ ?_
  · rintro i m₂ n₂ ⟨vs5, nS5, tn5, t5, _, _, _⟩
    exact List.mem_append_right _ (.head _)
  · intro i v m₂ news₂ h5 tk5 I oI kn hi hv5 hJ5 F5 N5 hsep hkn
    obtain ⟨vs5, nS5, tn5, t5, hS5, hmm, hm5⟩ := hJ5
    have hie : i < es.length := by omega
    have hes : (es.map txt)[i]? = some (txt (es.getD i [])) := by
      rw [List.getElem?_map, List.getD_eq_getElem?_getD, List.getElem?_eq_getElem hie]; rfl
    obtain ⟨te, hv2⟩ : ∃ te, v = .str (txt (es.getD i [])) te := by
      have key : ∀ {vs : List Value} {ns : List Str} {j : Nat} {x : Str}, StrsAre vs ns → ns[j]? = some x → ∃ t, vs[j]? = some (.str x t) := by
        intro vs ns j x h
        induction h generalizing j with
        | nil => intro e; simp at e
        | cons n t h ih =>
          intro e
          cases j with
          | zero => exact ⟨t, by simp at e; simp [e]⟩
          | succ j => simpa using ih (by simpa using e)
      obtain ⟨t, e⟩ := key hE hes
      rw [hv5] at e
      exact ⟨t, Option.some.inj e⟩
    subst hv2
    have hip : i < ps.length := by omega
    have hw := word_remR hok hip
    have hpi := hpse i (by omega)
    rw [hpi] at hw
    have hrl := remR_len 5 ps hbd i (by omega)
    have hra := remR_asc ps hok i (by omega)
    have hml := rows_len 9 (msOf ps i) (fun p hp => by have := msOf_bound hbd i (by omega) p hp; exact ⟨by omega, this.2⟩)
    rw [msOf_len] at hml
    have hqm := quote_ms hok hip
    rw [hpi] at hqm
    have hap5 := ap_led (vs' := vs5) (nS' := nS5) (n' := 1 + nls (rowsOf ps) - nls (remR ps i)) (tn' := tn5) (ps' := []) (np' := 0) hap
    have hsep2 : ∀ q ∈ (a.led w.params vs5 nS5 (1 + nls (rowsOf ps) - nls (remR ps i)) tn5 [] 0 ++ tl) ++ ((el, listOf ev.toArray ne) :: (L + 1 + 1 + 1 + 1, o4) :: R), ∀ p ∈ [(I, oI)], p.1 ≠ q.1 := fun q hq p hp => by
      rw [List.mem_singleton.mp hp]; exact Ne.symm (hsep q hq)
    refine mail_turn (m := fun y => if y = Str.ofString "end" then some (.str (txt (es.getD i [])) te) else m₂ y) (cs := remR ps i) (l := rowsOf (msOf ps i)) (tm := t5) (e := es.getD i []) (te := te) (R := ((el, listOf ev.toArray ne) :: (L + 1 + 1 + 1 + 1, o4) :: R) ++ [(I, oI)]) ha hS5 (by omega) (by rw [hw, List.length_replicate]; have := hbd _ (List.getElem_mem hip); rw [List.getD_eq_getElem?_getD, List.getElem?_eq_getElem hip] at hpi; have h9 : ps[i] = (hs.getD i 0 + 1, es.getD i []) := hpi; rw [h9] at this; have := this.1; dsimp only at this; omega) hra (by omega) (isEnd_len (by rw [List.getD_eq_getElem?_getD, List.getElem?_eq_getElem hie]; exact he _ (List.getElem_mem hie))) hh X T hdep hu (sepOwn hap5 hsep2) ?_ F5 (newsP N5 perm37b) ?_
    · refine says_cons ?_ (says_cons ?_ (says_cons (if_pos rfl) says_nil))
      · show (if Str.ofString "lexer" = Str.ofString "end" then _ else m₂ (Str.ofString "lexer")) = _
        rw [if_neg (by decide), hm5 _ (by decide) (by decide)]; exact hl0
      · show (if Str.ofString "mail" = Str.ofString "end" then _ else m₂ (Str.ofString "mail")) = _
        rw [if_neg (by decide)]; exact hmm
    intro h6 tk6 vs6 nS6 tn6 t6 hS6 F6 N6
    rw [hw] at hS6 F6 N6
    have eq1 : quote (rowsOf (msOf ps i)) ++ rep (hs.getD i 0 + 1) ++ es.getD i [] = rowsOf (msOf ps (i + 1)) := hqm
    have eq2 : 1 + nls (rowsOf ps) - nls (remR ps i) + nls (remR ps i) - nls (remR ps (i + 1)) = 1 + nls (rowsOf ps) - nls (remR ps (i + 1)) := by omega
    dsimp only at F6
    rw [eq1] at F6
    dsimp only at N6
    rw [eq2] at N6
    refine hkn h6 tk6 _ ((a.led w.params vs6 nS6 (1 + nls (rowsOf ps) - nls (remR ps (i + 1))) tn6 [] 0 ++ tl) ++ ((el, listOf ev.toArray ne) :: (L + 1 + 1 + 1 + 1, o4) :: R)) F6 (newsP N6 perm37b.symm) (fun q hq => ?_) (.mk vs6 nS6 tn6 t6 hS6 (if_pos rfl) (fun y h1 h2 => ?_))
    · exact Ne.symm (sepOwn2 hsep2 ap_keys q hq (I, oI) (.head _))
    · show (if y = Str.ofString "mail" then _ else if y = Str.ofString "end" then _ else m₂ y) = m y
      rw [if_neg h1, if_neg h2]; exact hm5 y h1 h2
  · intro h5 tk5 m₂ news₂ hJ5 F5 N5
    obtain ⟨vs5, nS5, tn5, t5, hS5, hmm, hm5⟩ := hJ5
    rw [hevl] at hS5 hmm N5
    exact hQ h5 tk5 vs5 nS5 tn5 t5 m₂ hS5 hmm hm5 F5 N5
end
end

noncomputable section
example : True := by -- walkOff_D38
  w_top off
  exact True.intro
theorem perm38a {α : Type} {b l R : List α} {tl : List α} {c : α} : List.Perm ((b ++ tl) ++ (l ++ (c :: R))) (c :: ((b ++ tl) ++ (l ++ R))) := permT [b, tl, l, [c], R] (.p (.p (.a 0) (.a 1)) (.p (.a 2) (.p (.a 3) (.a 4)))) (.p (.a 3) (.p (.p (.a 0) (.a 1)) (.p (.a 2) (.a 4)))) rfl
theorem perm38b {α : Type} {l R : List α} {tl : List α} {c : α} : List.Perm ((l ++ tl) ++ (c :: R)) (tl ++ (l ++ (c :: R))) := permT [l, tl, [c], R] (.p (.p (.a 0) (.a 1)) (.p (.a 2) (.a 3))) (.p (.a 1) (.p (.a 0) (.p (.a 2) (.a 3)))) rfl
section
variable {A : Around} {s : Shared} {g : Heap} {L : Nat} {m : Str → Option Value} {p : Program} {loose : List Str} {mean : ExcName → Option Value} {mg mb : Str → Option Value} {Q : Flow → Shared → Prop} {E : Value → Shared → Prop}
  {o1 o2 o3 o4 o5 o6 o7 : Obj} {tl R : List (Addr × Obj)}
set_option maxHeartbeats 2000000 in
theorem turn_4 {a : LexP} {vs : List Value} {l : List Nat} {nS np : Nat} {n : Int} {tn tm : Tok} (ha : a.Ok tl) (hll : l.length ≤ 1000) (hC1 : ∀ g, (hdK.heap_1 w.params).In g → CodeHd g 211 207) (hh : A.handled = none) (X : (hdK.heap_1 w.params).In g) (T : Top p loose mean mg mb g)
    (hdep : A.depth + 200 < recursionLimit) (hu : A.units + 3000 < cLine) {c6 : Option Value} (d6 : o6.data = .cell c6) (hnd : Nd ((a.led w.params vs nS n tn [] np ++ tl) ++ ((L + 1 + 1 + 1 + 1 + 1 + 1, o6) :: R))) (hsay : Says m [(Str.ofString "mail", .str (txt l) tm)])
    (F : Fr g L s.heap m) (N : News g L s.heap ((a.led w.params vs nS n tn [] np ++ tl) ++ ((L + 1 + 1 + 1 + 1 + 1 + 1, o6) :: R)))
    (hQ : ∀ h' tk (b : LexP) ws nT tb o6', b.Ok tl → SignsAre ws (quote l) → cellV o6' (.ref b.x) → Nd ((b.led w.params ws nT 1 tb [] 0 ++ tl) ++ (a.led w.params vs nS n tn [] np ++ ((L + 1 + 1 + 1 + 1 + 1 + 1, o6') :: R))) →
      Fr g L h' m → News g L h' ((b.led w.params ws nT 1 tb [] 0 ++ tl) ++ (a.led w.params vs nS n tn [] np ++ ((L + 1 + 1 + 1 + 1 + 1 + 1, o6') :: R))) → Q .next { s with heap := h', toks := tk }) :
    wpAny (model prog w) A (exec (turnStmt w.params 4) (envLaw w.params L)) Q E s := by
  have hcLine : cLine = 9900 := rfl
  have hrec : recursionLimit = 1000 := rfl
  have hql : (quote l).length ≤ 4 * l.length := by
    have h1 := crlf_len l
    have h2 := stuff_len (crlf l) true
    unfold quote; omega
  dsimp only [turnStmt, body10, loopBody, stmtLaw, envLaw, law229, Option.getD, List.getElem?_cons_succ, List.getElem?_cons_zero]
  have F := Mine.Fr.said F hsay
  repeat walk1
  with_reducible rename Fr _ _ _ _ => F4
  refine Meets.call ((a.led w.params vs nS n tn [] np ++ tl) ++ ((L + 1 + 1 + 1 + 1 + 1 + 1, o6) :: R)) (quotedata (w := w) (prog := prog) (l := l) (by omega)) F4 N X T (fun p hp => nomatch hp) (fun p hp => hp) (fun q hq p hp => nomatch hp) hh (by first | exact ar_lim hdep (by decide) | exact ar_limD hdep (by decide) | omega) (by first | exact ar_lim hu (by decide) | exact ar_limU hu (by decide) | omega) ?_
  intro n₂ v l₁ h₃ tk₃ hp F5 N5 q1 q2 q3 q4
  obtain ⟨t, rfl, rfl⟩ := hp
  rw [List.nil_append] at N5
  clear F4 N
  repeat walk1
  with_reducible rename Fr _ _ _ _ => F6
  have F6 := Mine.Fr.unsaid F6 hsay
  have hmade := ha.made
  have hnd2 := hnd.perm perm38b
  have N6 := newsP N5 perm38b
  refine Meets.call (a.led w.params vs nS n tn [] np ++ ((L + 1 + 1 + 1 + 1 + 1 + 1, o6) :: R)) (law_lexer (w := w) (prog := prog) (x := quote l) hC1 hmade.ok hnd2.left (by omega)) F6 N6 X T (fun p hp => List.mem_append_left _ hp) (fun p hp => List.mem_append_right _ hp) hnd2.sep hh (by first | exact ar_lim hdep (by decide) | exact ar_limD hdep (by decide) | omega) (by first | exact ar_lim hu (by decide) | exact ar_limU hu (by decide) | omega) ?_
  intro n₂ v l₂ h₄ tk₄ hp F7 N7 q5 q6 q7 q8
  obtain ⟨b, tl2, ws, nT, tb, hok, hnd', hsm, hcS, hsg⟩ := hp
  obtain ⟨rfl, hcc⟩ := hsm _ hmade
  have hnd3 : Nd ((b.led w.params ws nT 1 tb [] 0 ++ tl2) ++ (a.led w.params vs nS n tn [] np ++ ((L + 1 + 1 + 1 + 1 + 1 + 1, o6) :: R))) := Nd.app (hok.nd hnd2.left) hnd2.right q8
  have N8 := newsP N7 perm38a
  have hx6 := (hnd3.perm perm38a).hd
  dsimp only at hx6
  clear N5 N6 F6 N7
  generalize hRX : (b.led w.params ws nT 1 tb [] 0 ++ tl2) ++ (a.led w.params vs nS n tn [] np ++ R) = RX at N8 hx6
  repeat walk1
  rename_i d7
  with_reducible rename Fr _ _ _ _ => F9
  with_reducible rename News _ _ _ _ => N9
  rw [← hRX] at N9
  exact hQ _ _ b ws nT tb _ hok hsg d7 (hnd3.sameA rfl rfl) F9 (newsP N9 perm38a.symm)
end
end

noncomputable section
example : True := by -- walkOff_D39
  w_top off
  exact True.intro
theorem perm39a {α : Type} {a b c x y : α} {bl tl lx : List α} : List.Perm (a :: b :: c :: ((bl ++ tl) ++ (x :: y :: lx))) (a :: b :: c :: x :: y :: (bl ++ (tl ++ lx))) := permT [[a], [b], [c], bl, tl, [x], [y], lx] (.p (.a 0) (.p (.a 1) (.p (.a 2) (.p (.p (.a 3) (.a 4)) (.p (.a 5) (.p (.a 6) (.a 7))))))) (.p (.a 0) (.p (.a 1) (.p (.a 2) (.p (.a 5) (.p (.a 6) (.p (.a 3) (.p (.a 4) (.a 7)))))))) rfl
theorem perm39b {α : Type} {a b c : α} {bl R : List α} : List.Perm (a :: b :: c :: (bl ++ R)) (bl ++ (a :: b :: c :: R)) := permT [[a], [b], [c], bl, R] (.p (.a 0) (.p (.a 1) (.p (.a 2) (.p (.a 3) (.a 4))))) (.p (.a 3) (.p (.a 0) (.p (.a 1) (.p (.a 2) (.a 4))))) rfl
theorem perm39c {α : Type} {x y : α} {bl tl lx : List α} : List.Perm ((bl ++ tl) ++ (x :: y :: lx)) (x :: y :: ((bl ++ tl) ++ lx)) := permT [bl, tl, [x], [y], lx] (.p (.p (.a 0) (.a 1)) (.p (.a 2) (.p (.a 3) (.a 4)))) (.p (.a 2) (.p (.a 3) (.p (.p (.a 0) (.a 1)) (.a 4)))) rfl
theorem off3_same {I C D : Nat} {l l' : List (Addr × Obj)} (h : LCg.Off3 I C D l) (e : l'.map (·.1) = l.map (·.1)) : LCg.Off3 I C D l' := LCg.Off3.of fun p hp => by
  have hm : p.1 ∈ l'.map (·.1) := List.mem_map_of_mem hp
  rw [e] at hm
  obtain ⟨p', hp', e⟩ := List.mem_map.mp hm
  rw [← e]; exact h.mem p' hp'
section
variable {A : Around} {s : Shared} {g : Heap} {L : Nat} {m : Str → Option Value} {p : Program} {loose : List Str} {mean : ExcName → Option Value} {mg mb : Str → Option Value} {Q : Flow → Shared → Prop} {E : Value → Shared → Prop}
  {o1 o2 o3 o4 o5 o6 o7 : Obj} {tl lx : List (Addr × Obj)}
inductive J5 (P : Params) (b : LexP) (tl : List (Addr × Obj)) (ds : List Nat) (t : Nat) (R : List (Addr × Obj)) (k : Nat) (ys : List Value) : List (Addr × Obj) → Prop
  | mk (ws : List Value) (nT : Nat) (tb : Tok) (np : Nat) (hS : SignsAre ws (remOf ds t k)) (hz : StrsAre ys ((mailWords ds t).take k)) :
    J5 P b tl ds t R k ys ((b.led P ws nT (1 + nls (mailOf ds t) - nls (remOf ds t k)) tb [] np ++ tl) ++ R)
set_option maxHeartbeats 2000000 in
theorem turn_5 {b : LexP} {ws : List Value} {nT t many : Nat} {tb tm : Tok} {ds : List Nat} (hb : b.Ok tl) (hsg : SignsAre ws (mailOf ds t)) (hd1 : ∀ d ∈ ds, 1 ≤ d ∧ d ≤ 1000) (ht : t ≤ 100) (hdr : ds.length = many) (hm4 : many ≤ 4) (hr0 : ds ≠ []) (hh : A.handled = none) (X : (hdK.heap_1 w.params).In g) (T : Top p loose mean mg mb g)
    (hdep : A.depth + 200 < recursionLimit) (hu : A.units + 3000 < cLine) (d2 : cellV o2 (.int (many : Int) tm)) (d6 : cellV o6 (.ref b.x))
    (hnd : Nd ((b.led w.params ws nT 1 tb [] 0 ++ tl) ++ ((L + 1 + 1 + 1 + 1 + 1 + 1, o6) :: (L + 1 + 1, o2) :: lx)))
    (F : Fr g L s.heap m) (N : News g L s.heap ((b.led w.params ws nT 1 tb [] 0 ++ tl) ++ ((L + 1 + 1 + 1 + 1 + 1 + 1, o6) :: (L + 1 + 1, o2) :: lx)))
    (hQ : ∀ (D : Nat) zv h' tk news, LCg.Off1 D news → J5 w.params b tl ds t ((L + 1 + 1 + 1 + 1 + 1 + 1, o6) :: (L + 1 + 1, o2) :: lx) (many + 1) zv news → Fr g L h' (fun y => if y = Str.ofString "words" then some (.ref D) else m y) → News g L h' ((D, listOf zv.toArray zv.length) :: news) → Q .next { s with heap := h', toks := tk }) :
    wpAny (model prog w) A (exec (turnStmt w.params 5) (envLaw w.params L)) Q E s := by
  have hcLine : cLine = 9900 := rfl
  have hrec : recursionLimit = 1000 := rfl
  dsimp only [turnStmt, body10, loopBody, stmtLaw, envLaw, law229, Option.getD, List.getElem?_cons_succ, List.getElem?_cons_zero]
  refine LCg.Assign_ListComp_U F (by rfl) (by with_unfolding_all rfl) rfl (by decide) rfl (by decide) rfl rfl rfl ?_
  have hap := hnd.sep
  have N0 := newsP N perm39c
  generalize hR0 : (b.led w.params ws nT 1 tb [] 0 ++ tl) ++ lx = R0 at N0
  clear N
  repeat walk1
  with_reducible rename IsRange _ _ _ _ _ _ _ _ => hR
  with_reducible rename Fr _ _ _ _ => F2
  with_reducible rename News _ _ _ _ => N2
  rw [← Int.natCast_succ] at hR
  rw [← hR0] at N2
  refine LCg.CompSrc.range (n := many + 1) hh F2 (newsP N2 perm39c.symm) hR (small_one (by omega) (by omega) (by omega) (by omega)) (by rw [rangeSize_one]; split <;> omega) (Nat.le_trans (show many + 1 ≤ 5 by omega) (by decide)) (fun g' => ?_)
  clear hR0
  refine comp_inv (n := many + 1) (fun k zv news => J5 w.params b tl ds t ((L + 1 + 1 + 1 + 1 + 1 + 1, o6) :: (L + 1 + 1, o2) :: lx) k zv news) ?_ ?_ (many + 1) 0 [] _ (Nat.zero_add _) ((show (1 : Int) + nls (mailOf ds t) - nls (remOf ds t 0) = 1 by unfold remOf; rw [if_pos rfl, Int.add_sub_cancel]) ▸ .mk ws nT tb 0 hsg .nil)
  · rintro k zv news v I oI C2 oC2 D2 m₃ h3 tk3 E3 hk ⟨ws, nT, tb, np, hsg, hzs⟩ ⟨tv, rfl⟩ hC2 hx2 F4 N4 off2 hne2
    have off3 := off2.mem
    have hapk := ap_led (vs' := ws) (nS' := nT) (n' := 1 + nls (mailOf ds t) - nls (remOf ds t k)) (tn' := tb) (ps' := []) (np' := np) hap
    have hI : ∀ q ∈ (I, oI) :: (C2, oC2) :: (D2, LCg.lst zv) :: ((L + 1 + 1 + 1 + 1 + 1 + 1, o6) :: (L + 1 + 1, o2) :: lx), ∀ p ∈ b.led w.params ws nT (1 + nls (mailOf ds t) - nls (remOf ds t k)) tb [] np ++ tl, p.1 ≠ q.1 := by
      intro q hq p hp
      have o3 := off3 p (List.mem_append_left _ hp)
      rcases List.mem_cons.mp hq with rfl | hq
      · exact o3.1
      rcases List.mem_cons.mp hq with rfl | hq
      · exact o3.2.1
      rcases List.mem_cons.mp hq with rfl | hq
      · exact o3.2.2
      exact hapk q hq p hp
    have N5 := newsP N4 perm39a
    clear N2 F2 hR
    generalize hTX : tl ++ lx = TX at N5
    repeat walk1
    have hasc : Asc (remOf ds t k) := rem_asc ds t k
    have hlen := rem_len ds t k (fun d hd => (hd1 d hd).2) ht
    with_reducible rename Fr _ _ _ _ => F6
    refine Meets.call ((I, oI) :: (C2, oC2) :: (D2, LCg.lst zv) :: ((L + 1 + 1 + 1 + 1 + 1 + 1, o6) :: (L + 1 + 1, o2) :: lx)) (get_word (w := w) (prog := prog) hb hsg (by omega) hasc) F6 (newsP N4 perm39b) X T (fun p hp => List.mem_append_left _ hp) (fun p hp => List.mem_append_right _ hp) hI hh (by first | exact ar_lim hdep (by decide) | exact ar_limD hdep (by decide) | omega) (by first | exact ar_lim hu (by decide) | exact ar_limU hu (by decide) | omega) ?_
    intro n₁ v l₁ h₂ tk₂ hp F7 N7 p1 p2 p3 p4
    obtain ⟨ws', nT', tb', tw', rfl, hsg', rfl⟩ := hp
    have off5 := off3_same (l' := (b.led w.params ws' nT' (1 + nls (mailOf ds t) - nls (remOf ds t k) + nls (remOf ds t k) - nls (word (remOf ds t k)).2) tb' [] np ++ tl) ++ ((L + 1 + 1 + 1 + 1 + 1 + 1, o6) :: (L + 1 + 1, o2) :: lx)) off2 (by rw [List.map_append, List.map_append, List.map_append, List.map_append]; rfl)
    have eN : 1 + nls (mailOf ds t) - nls (remOf ds t k) + nls (remOf ds t k) - nls (word (remOf ds t k)).2 = 1 + nls (mailOf ds t) - nls (word (remOf ds t k)).2 := by omega
    rw [eN] at N7 off5
    have eW : (word (remOf ds t k)).2 = remOf ds t (k + 1) ∧ (mailWords ds t).take (k + 1) = (mailWords ds t).take k ++ [txt (word (remOf ds t k)).1] := by
      by_cases hkr : k < ds.length
      · rw [word_rem ds t k hkr fun d hd => (hd1 d hd).1]
        refine ⟨rfl, ?_⟩
        have hkl : k < (ds.map fun d => txt (rep (d + t))).length := by rw [List.length_map]; exact hkr
        rw [List.take_add_one, show (mailWords ds t)[k]? = some (txt (rep (ds[k] + t))) by
          unfold mailWords
          rw [List.getElem?_append_left hkl, List.getElem?_map, List.getElem?_eq_getElem hkr]; rfl]
        rfl
      · have hke : k = ds.length := by omega
        subst hke
        rw [word_rem_last ds t hr0, rem_end]
        refine ⟨rfl, ?_⟩
        rw [List.take_add_one, show (mailWords ds t)[ds.length]? = some (txt []) by
          unfold mailWords
          rw [List.getElem?_append_right (by rw [List.length_map]; exact Nat.le_refl _), List.length_map, Nat.sub_self]; rfl]
        rfl
    rw [eW.1] at N7 off5 hsg'
    exact LCg.CompEnd.intro F7 (newsP N7 perm39b.symm) _ (fun p hp => hp) off5 True.intro (.mk ws' nT' tb' np hsg' (by rw [eW.2]; exact strs_snoc hzs))
  · rintro zv news hJ
    unfold LCg.FinA
    intro D3 h3 tk3 F4 N4 off2
    exact hQ D3 zv _ _ news off2 hJ F4 N4
end
end

noncomputable section
example : True := by -- walkOff_D40
  w_top off
  exact True.intro
section
variable {A : Around} {s : Shared} {g : Heap} {L : Nat} {m : Str → Option Value} {p : Program} {loose : List Str} {mean : ExcName → Option Value} {mg mb : Str → Option Value} {Q : Flow → Shared → Prop} {E : Value → Shared → Prop}
  {o1 o2 o3 o4 o5 o6 o7 : Obj} {tl lx : List (Addr × Obj)}
set_option maxHeartbeats 4000000 in
theorem turn_6 {b : LexP} {ws zv hv : List Value} {nT np many D hl nh : Nat} {n : Int} {tb tm : Tok} {hs : List Nat} (hb : b.Ok tl) (hH : IntsAre hv (asInts hs)) (hhl : hs.length = many) (hm4 : many ≤ 4) (hh4 : ∀ h ∈ hs, h ≤ 4) (hn : n = 1 + (many : Int))
    (hW : StrsAre zv (((List.range many).map fun k => txt (rep (hs.getD k 0 + 1 + many - k))) ++ [txt []]))
    (hh : A.handled = none) (X : (hdK.heap_1 w.params).In g) (T : Top p loose mean mg mb g)
    (hdep : A.depth + 200 < recursionLimit) (hu : A.units + 3000 < cLine) (d2 : cellV o2 (.int (many : Int) tm)) (d5 : cellV o5 (.ref hl)) (d6 : cellV o6 (.ref b.x))
    (hsay : Says m [(Str.ofString "words", .ref D)])
    (F : Fr g L s.heap m) (N : News g L s.heap ((D, listOf zv.toArray zv.length) :: (hl, listOf hv.toArray nh) :: (L + 1 + 1 + 1 + 1 + 1 + 1, o6) :: (L + 1 + 1 + 1 + 1 + 1, o5) :: (L + 1 + 1, o2) :: ((b.led w.params ws nT n tb [] np ++ tl) ++ lx)))
    (hQ : ∀ h' tk, Fr g L h' m → News g L h' ((D, listOf zv.toArray zv.length) :: (hl, listOf hv.toArray nh) :: (L + 1 + 1 + 1 + 1 + 1 + 1, o6) :: (L + 1 + 1 + 1 + 1 + 1, o5) :: (L + 1 + 1, o2) :: ((b.led w.params ws nT n tb [] np ++ tl) ++ lx)) → Q .next { s with heap := h', toks := tk }) :
    wpAny (model prog w) A (exec (turnStmt w.params 6) (envLaw w.params L)) Q E s := by
  have hcLine : cLine = 9900 := rfl
  have hrec : recursionLimit = 1000 := rfl
  dsimp only [turnStmt, body10, loopBody, stmtLaw, envLaw, law229, Option.getD, List.getElem?_cons_succ, List.getElem?_cons_zero]
  have F := Mine.Fr.said F hsay
  have hhl2 : (asInts hs).length = many := by rw [asInts_len, hhl]
  have hap : True := True.intro
  generalize hT : tl ++ lx = TX
  have N0 := N
  rw [List.append_assoc, hT] at N
  iterate 5 walk1
  refine LCg.ListComp_U F rfl (by decide) rfl (by decide) rfl ?_
  repeat walk1
  with_reducible rename IsRange _ _ _ _ _ _ _ _ => hR
  with_reducible rename Fr _ _ _ _ => F2
  with_reducible rename News _ _ _ _ => N2
  refine LCg.CompSrc.range (n := many) hh F2 N2 hR (small_one (by omega) (by omega) (by omega) (by omega)) (by rw [rangeSize_one]; split <;> omega) (Nat.le_trans hm4 (by decide)) (fun g' => ?_)
  refine comp_const (n := many) (fun k zv => StrsAre zv ((List.range k).map fun k => txt (rep (hs.getD k 0 + 1 + many - k)))) ?_ ?_ .nil
  · rintro k zv v I oI C2 oC2 D2 m₃ h3 tk3 E3 hk hzs ⟨tv, rfl⟩ hC2 hx2 F4 N4 off2 hne2
    refine gen_K fun KK hKK => ?_
    have off20 := off2
    simp only [LCg.Off3, and_true] at off2
    have hk3 : (0 : Int) + (k : Int) < ((asInts hs).length : Int) := by omega
    repeat walk1
    have e0 : ((0 : Int) + (k : Int)).toNat = k := by omega
    have hhk : hs.getD k 0 ≤ 4 := by
      have hkl : k < hs.length := by omega
      rw [List.getD_eq_getElem?_getD, List.getElem?_eq_getElem hkl]
      exact hh4 _ (List.getElem_mem hkl)
    have e1 : (asInts hs).getD k 0 = ((hs.getD k 0 : Nat) : Int) := asInts_get (by omega)
    have hnext : (List.range (k + 1)).map (fun k => txt (rep (hs.getD k 0 + 1 + many - k))) = (List.range k).map (fun k => txt (rep (hs.getD k 0 + 1 + many - k))) ++ [txt (rep (hs.getD k 0 + 1 + many - k))] := by
      rw [List.range_succ, List.map_append]; rfl
    rw [hnext] at hKK
    rw [e0, e1]
    have em : ((hs.getD k 0 : Nat) : Int) + 1 + (many : Int) - ((0 : Int) + (k : Int)) = ((hs.getD k 0 + 1 + many - k : Nat) : Int) := ar_spanI (by omega)
    rw [em]
    have hq : hs.getD k 0 + 1 + many - k ≤ 9 := by omega
    generalize hs.getD k 0 + 1 + many - k = q at *
    refine SB.mul (x := ⟨#[46]⟩) (mulOk_sign (by omega)) (fun t6 k6 => ?_)
    rw [mul_sign]
    with_reducible rename Fr _ _ _ _ => F5
    with_reducible rename News _ _ _ _ => N5
    exact hKK _ _ (LCg.CompEnd.intro F5 N5 _ (fun p hp => hp) off20 True.intro ⟨rfl, strs_snoc hzs⟩)
  · rintro zv2 hzs
    unfold LCg.FinE
    intro D3 h3 tk3 F4 N4 off2
    repeat walk1
    with_reducible rename Fr _ _ _ _ => F5
    with_reducible rename News _ _ _ _ => N5
    have hzl : zv2.length = many := by rw [StrsAre.length hzs, List.length_map, List.length_range]
    refine add_lists (vs := zv2) (ws := [.str (Str.ofString "") tk3]) F5 N5 (News.isList N5 (.tail _ (.head _))) (News.isList N5 (.head _)) (fun h6 F6 N6 => ?_) (by rw [hzl]; exact Nat.le_trans (show many + 1 ≤ 5 by omega) (by decide))
    have hz2 := StrsAre.append' hzs (StrsAre.cons (txt []) tk3 StrsAre.nil)
    have hok : ∀ x ∈ ((List.range many).map fun k => txt (rep (hs.getD k 0 + 1 + many - k))) ++ [txt []], okStr x = true := by
      intro x hx
      rcases List.mem_append.mp hx with hx | hx
      · obtain ⟨d, _, rfl⟩ := List.mem_map.mp hx
        exact Asc.ok fun c hc => by rw [List.eq_of_mem_replicate hc]; decide
      · rw [List.mem_singleton.mp hx]; exact Asc.ok (l := []) fun c hc => by cases hc
    refine ne_strs (News.isList N6 (.tail _ (.tail _ (.tail _ (.head _))))) hW (News.isList N6 (.head _)) hz2 hok hok (by omega) ?_
    rw [show (decide (((List.range many).map fun k => txt (rep (hs.getD k 0 + 1 + many - k))) ++ [txt []] = ((List.range many).map fun k => txt (rep (hs.getD k 0 + 1 + many - k))) ++ [txt []])) = true from decide_eq_true rfl]
    subst hn
    repeat walk1
    · exact absurd rfl (show ¬ (1 + (many : Int)) = 1 + (many : Int) by assumption)
    repeat walk1
    with_reducible rename Fr _ _ _ _ => F8
    refine hQ _ _ (Mine.Fr.unsaid F8 hsay) (fun p hp => N6 p (.tail _ (.tail _ (.tail _ ?_))))
    exact hp
end
end

noncomputable section
example : True := by -- walkOff_D41
  w_top off
  exact True.intro
noncomputable def spanOf (many : Nat) (hs : List Nat) : List Nat := (List.range many).map fun k => hs.getD k 0 + 1 + many - k
theorem ar_cmin (a b : Nat) : max (0 : Int) (min (a : Int) (b : Int)) = ((min a b : Nat) : Int) := by
  rcases Nat.le_total a b with h | h
  · rw [Nat.min_eq_left h, Int.min_eq_left (Int.ofNat_le.mpr h)]; exact Int.max_eq_right (Int.natCast_nonneg _)
  · rw [Nat.min_eq_right h, Int.min_eq_right (Int.ofNat_le.mpr h)]; exact Int.max_eq_right (Int.natCast_nonneg _)
theorem pick_upto (vs : List Value) (n : Nat) : (slicePick vs.toArray none (some (n : Int)) none).toList = vs.take n := by
  have e : sliceBounds none (some (n : Int)) none vs.toArray.size = (((0 : Nat) : Int), ((min n vs.toArray.size : Nat) : Int), 1) := by
    simp only [sliceBounds, Option.getD_none, show (1 : Int) > 0 by decide, if_true, if_neg (show ¬ ((n : Int) < 0) by omega)]
    congr 1
    congr 1
    exact ar_cmin ..
  rw [kmk_pick_nat _ e]
  show (vs.drop 0).take (min n vs.toArray.size - 0) = _
  rw [List.drop_zero, Nat.sub_zero, List.size_toArray, kmk_take_min]
theorem strs_take {vs : List Value} {ns : List Str} (h : StrsAre vs ns) : ∀ k, StrsAre (vs.take k) (ns.take k) := by
  induction h with
  | nil => intro k; rw [List.take_nil, List.take_nil]; exact .nil
  | cons x t h ih =>
    intro k
    cases k with
    | zero => exact .nil
    | succ k => exact .cons _ t (ih k)
theorem strs_at {vs : List Value} {ns : List Str} (h : StrsAre vs ns) : ∀ {j : Nat} {x : Str}, ns[j]? = some x → ∃ t, vs[j]? = some (.str x t) := by
  induction h with
  | nil => intro j x e; simp at e
  | cons n t h ih =>
    intro j x e
    cases j with
    | zero => exact ⟨t, by simp at e; simp [e]⟩
    | succ j => simpa using ih (by simpa using e)
theorem spanOf_len (many : Nat) (hs : List Nat) : (spanOf many hs).length = many := by simp [spanOf]
section
variable {A : Around} {s : Shared} {g : Heap} {L : Nat} {m : Str → Option Value} {p : Program} {loose : List Str} {mean : ExcName → Option Value} {mg mb : Str → Option Value} {Q : Flow → Shared → Prop} {E : Value → Shared → Prop}
  {o1 o2 o3 o4 o5 o6 o7 : Obj} {tl lx : List (Addr × Obj)}
set_option maxHeartbeats 4000000 in
theorem turn_7 {zv : List Value} {many D : Nat} {tm : Tok} {hs : List Nat} (hhl : hs.length = many) (hm4 : many ≤ 4) (hh4 : ∀ h ∈ hs, h ≤ 4)
    (hW : StrsAre zv (((List.range many).map fun k => txt (rep (hs.getD k 0 + 1 + many - k))) ++ [txt []]))
    (hh : A.handled = none) (X : (hdK.heap_1 w.params).In g) (T : Top p loose mean mg mb g)
    (hdep : A.depth + 200 < recursionLimit) (hu : A.units + 3000 < cLine) (d2 : cellV o2 (.int (many : Int) tm))
    (hsay : Says m [(Str.ofString "words", .ref D)])
    (F : Fr g L s.heap m) (N : News g L s.heap ((D, listOf zv.toArray zv.length) :: (L + 1 + 1, o2) :: lx))
    (hQ : ∀ (S : Nat) vs h' tk, IntsAre vs (asInts (spanOf many hs)) → LCg.Off1 S ((D, listOf zv.toArray zv.length) :: (L + 1 + 1, o2) :: lx) → Fr g L h' (fun y => if y = Str.ofString "spans" then some (.ref S) else m y) → News g L h' ((S, listOf vs.toArray vs.length) :: (D, listOf zv.toArray zv.length) :: (L + 1 + 1, o2) :: lx) → Q .next { s with heap := h', toks := tk }) :
    wpAny (model prog w) A (exec (turnStmt w.params 7) (envLaw w.params L)) Q E s := by
  have hcLine : cLine = 9900 := rfl
  have hrec : recursionLimit = 1000 := rfl
  dsimp only [turnStmt, body10, loopBody, stmtLaw, envLaw, law229, Option.getD, List.getElem?_cons_succ, List.getElem?_cons_zero]
  have F := Mine.Fr.said F hsay
  refine LCg.Assign_ListComp_U F (by rfl) (by with_unfolding_all rfl) rfl (by decide) rfl (by decide) rfl rfl rfl ?_
  repeat walk1
  have hzl : zv.length = many + 1 := by rw [StrsAre.length hW, List.length_append, List.length_map, List.length_range]; rfl
  refine kmk_slice_lit (zs := zv.take many) F N (News.isList N (.head _)) IsPart.none (IsPart.int _ _) (pick_upto zv many) (fun D1 h1 F1 N1 hlt1 => ?_) (by rfl) (by intro _; with_unfolding_all rfl) (by rw [List.size_toArray, hzl]; exact Nat.le_trans (show many + 1 ≤ 5 by omega) (by decide))
  have hW1 : StrsAre (zv.take many) ((List.range many).map fun k => txt (rep (hs.getD k 0 + 1 + many - k))) := by
    have e := strs_take hW many
    rw [List.take_left' (by rw [List.length_map, List.length_range])] at e
    exact e
  have hz1 : (zv.take many).length = many := by rw [List.length_take, hzl]; omega
  refine LCg.CompSrc.ledger hh F1 N1 (.head _) (Nat.le_trans (show (zv.take many).toArray.size ≤ 5 by rw [List.size_toArray, hz1]; omega) (by decide)) (fun g' => ?_)
  rw [List.size_toArray, hz1]
  refine comp_const (n := many) (fun k zs => IntsAre zs (asInts ((spanOf many hs).take k))) ?_ ?_ .nil
  · rintro k zs v I oI C2 oC2 D2 m₃ h3 tk3 E3 hk hzs hv hC2 hx2 F4 N4 off2 hne2
    refine gen_K fun KK hKK => ?_
    have off20 := off2
    simp only [LCg.Off3, and_true] at off2
    have hsk : (spanOf many hs)[k]? = some (hs.getD k 0 + 1 + many - k) := by simp [spanOf, hk]
    obtain ⟨tv, hv2⟩ := strs_at hW1 (show ((List.range many).map fun k => txt (rep (hs.getD k 0 + 1 + many - k)))[k]? = some (txt (rep (hs.getD k 0 + 1 + many - k))) by simp [hk])
    have ev : v = .str (txt (rep (hs.getD k 0 + 1 + many - k))) tv := by
      have : (zv.take many)[k]? = some v := by simpa using hv
      rw [this] at hv2; exact Option.some.inj hv2
    subst ev
    have hnext : asInts ((spanOf many hs).take (k + 1)) = asInts ((spanOf many hs).take k) ++ [((hs.getD k 0 + 1 + many - k : Nat) : Int)] := by
      rw [List.take_add_one, hsk]; exact asInts_snoc _ _
    rw [hnext] at hKK
    have hq : hs.getD k 0 + 1 + many - k ≤ 9 := by
      have hkl : k < hs.length := by omega
      have : hs.getD k 0 ≤ 4 := by
        rw [List.getD_eq_getElem?_getD, List.getElem?_eq_getElem hkl]
        exact hh4 _ (List.getElem_mem hkl)
      exact ar_nine this hm4
    generalize hs.getD k 0 + 1 + many - k = q at *
    repeat walk1
    refine SBL.len (by rw [txt_len, List.length_replicate]; omega) ?_
    rw [txt_len, List.length_replicate]
    exact hKK _ _ (LCg.CompEnd.intro F4 N4 _ (fun p hp => hp) off20 (.inr ⟨_, .head _, rfl, _, rfl⟩) ⟨rfl, snocI hzs⟩)
  · rintro zs hzs
    unfold LCg.FinA
    intro D3 h3 tk3 F4 N4 off2
    rw [List.take_of_length_le (by rw [spanOf_len]; exact Nat.le_refl _)] at hzs
    rw [kstB_said hsay] at F4
    exact hQ D3 zs _ _ hzs off2.2 F4 (fun p hp => N4 p (by
      rcases List.mem_cons.mp hp with rfl | hp
      · exact .head _
      · exact .tail _ (.tail _ hp)))
end
end

noncomputable section
example : True := by -- walkOff_D42
  w_top off
  exact True.intro
section
variable {A : Around} {s : Shared} {g : Heap} {L : Nat} {m : Str → Option Value} {p : Program} {loose : List Str} {mean : ExcName → Option Value} {mg mb : Str → Option Value} {Q : Flow → Shared → Prop} {E : Value → Shared → Prop}
  {o1 o2 o3 o4 o5 o6 o7 : Obj} {tl lx R : List (Addr × Obj)}
theorem turn_8 (hh : A.handled = none) (F : Fr g L s.heap m) (N : News g L s.heap R)
    (hQ : ∀ h' tk t, Fr g L h' (fun y => if y = Str.ofString "number" then some (.int 1 t) else m y) → News g L h' R → Q .next { s with heap := h', toks := tk }) :
    wpAny (model prog w) A (exec (turnStmt w.params 8) (envLaw w.params L)) Q E s := by
  dsimp only [turnStmt, body10, loopBody, stmtLaw, envLaw, law229, Option.getD, List.getElem?_cons_succ, List.getElem?_cons_zero]
  repeat walk1
  with_reducible rename Fr _ _ _ _ => F7
  with_reducible rename News _ _ _ _ => N7
  exact hQ _ _ _ F7 N7
noncomputable def prodOf (base many : Nat) (sp : List Nat) : Int := (sp.map fun (d : Nat) => (base : Int) - many - 1 + d).foldl (· * ·) 1
theorem prodOf_snoc (base many : Nat) (sp : List Nat) (d : Nat) : prodOf base many (sp ++ [d]) = prodOf base many sp * ((base : Int) - many - 1 + d) := by
  unfold prodOf; rw [List.map_append, List.foldl_append]; rfl
noncomputable def J9 (base many : Nat) (sp : List Nat) (m : Str → Option Value) (R : List (Addr × Obj)) (i : Nat) (m₁ : Str → Option Value) (news : List (Addr × Obj)) : Prop :=
  (∃ t, m₁ (Str.ofString "number") = some (.int (prodOf base many (sp.take i)) t)) ∧ (∀ y, y ≠ Str.ofString "number" → y ≠ Str.ofString "span" → m₁ y = m y) ∧ news = R
theorem mulOk_bits {a b : Int} (h : Builtin.Int.intBits a + Builtin.Int.intBits b ≤ 10000) : IntMulOk a b := by
  have h2 : Builtin.Int.intTooBig (Builtin.Int.intBits a + Builtin.Int.intBits b) = false := by
    unfold Builtin.Int.intTooBig
    exact decide_eq_false (by unfold bitsLine; omega)
  unfold IntMulOk
  rw [h2, Bool.and_false]
  exact Bool.false_ne_true
theorem prod_fold {f : Nat → Int} {B : Int} (hB : 0 ≤ B) : ∀ (sp : List Nat) (acc : Int) (k : Nat), (∀ d ∈ sp, 0 ≤ f d ∧ f d ≤ B) → 0 ≤ acc → acc ≤ B ^ k → 0 ≤ (sp.map f).foldl (· * ·) acc ∧ (sp.map f).foldl (· * ·) acc ≤ B ^ (k + sp.length)
  | [], acc, k, _, h0, h1 => ⟨h0, h1⟩
  | d :: sp, acc, k, h, h0, h1 => by
    obtain ⟨f0, f1⟩ := h d (.head _)
    have := prod_fold hB sp (acc * f d) (k + 1) (fun x hx => h x (.tail _ hx)) (Int.mul_nonneg h0 f0) (by rw [Int.pow_succ]; exact Int.mul_le_mul h1 f1 f0 (Int.pow_nonneg hB))
    rw [show k + 1 + sp.length = k + (d :: sp).length by rw [List.length_cons]; omega] at this
    exact this
theorem prodOf_range {base many : Nat} (hb : many + 1 ≤ base) (hb1 : base ≤ 2 ^ 110) {sp : List Nat} (h : ∀ d ∈ sp, d ≤ 9) : 0 ≤ prodOf base many sp ∧ prodOf base many sp ≤ (2 ^ 111) ^ sp.length := by
  have := prod_fold (f := fun d => (base : Int) - many - 1 + d) (B := 2 ^ 111) (by decide) sp 1 0 (fun d hd => by
    have := h d hd
    constructor
    · show 0 ≤ (base : Int) - many - 1 + d; omega
    · show (base : Int) - many - 1 + d ≤ 2 ^ 111; omega) (by decide) (by decide)
  rw [Nat.zero_add] at this
  exact this
set_option maxHeartbeats 2000000 in
theorem turn_9 {sp : List Nat} {vs : List Value} {S nS base many : Nat} {tb tm tn : Tok} (hI : IntsAre vs (asInts sp)) (hsp : sp.length ≤ 4) (hs9 : ∀ d ∈ sp, d ≤ 9) (hb0 : many + 1 ≤ base) (hb1 : base ≤ 2 ^ 110) (hm4 : many ≤ 4)
    (hh : A.handled = none) (X : (hdK.heap_1 w.params).In g) (T : Top p loose mean mg mb g) (d2 : cellV o2 (.int (many : Int) tm))
    (hsay : Says m [(Str.ofString "spans", .ref S), (Str.ofString "base", .int (base : Int) tb), (Str.ofString "number", .int 1 tn)])
    (F : Fr g L s.heap m) (N : News g L s.heap ((S, listOf vs.toArray nS) :: (L + 1 + 1, o2) :: R))
    (hQ : ∀ h' tk t m', m' (Str.ofString "number") = some (.int (prodOf base many sp) t) → (∀ y, y ≠ Str.ofString "number" → y ≠ Str.ofString "span" → m' y = m y) → Fr g L h' m' → News g L h' ((S, listOf vs.toArray nS) :: (L + 1 + 1, o2) :: R) → Q .next { s with heap := h', toks := tk }) :
    wpAny (model prog w) A (exec (turnStmt w.params 9) (envLaw w.params L)) Q (fun _ _ => False) s := by
  have hJ0 : J9 base many sp m ((S, listOf vs.toArray nS) :: (L + 1 + 1, o2) :: R) 0 m ((S, listOf vs.toArray nS) :: (L + 1 + 1, o2) :: R) := ⟨⟨tn, hsay _ (.tail _ (.tail _ (.head _)))⟩, fun y _ _ => rfl, rfl⟩
  have hb3 : m (Str.ofString "base") = some (.int (base : Int) tb) := hsay _ (.tail _ (.head _))
  have hvl : vs.length = sp.length := by rw [hI.length, asInts_len]
  dsimp only [turnStmt, body10, loopBody, stmtLaw, envLaw, law229, Option.getD, List.getElem?_cons_succ, List.getElem?_cons_zero]
  have F := Mine.Fr.said F hsay
  refine For_invVF F rfl rfl ?_
  have NK := N
  iterate 1 walk1
  have F := Mine.Fr.unsaid F hsay
  refine loopList (vs := vs) (oL := listOf vs.toArray nS) hh ⟨rfl, _, rfl⟩ F NK (J9 base many sp m ((S, listOf vs.toArray nS) :: (L + 1 + 1, o2) :: R)) hJ0 ?_ ?_ ?_
  · rintro i m₂ n₂ ⟨_, _, rfl⟩
    exact .head _
  · rintro i v m₂ news₂ h5 tk5 I oI kn hi hv5 ⟨⟨t5, hn5⟩, hm5, rfl⟩ F5 N5 hsep hkn
    have hi2 : i < sp.length := by omega
    obtain ⟨tv, hv2⟩ := hI.get i _ (show (asInts sp)[i]? = some ((sp[i] : Nat) : Int) by rw [List.getElem?_map, List.getElem?_eq_getElem hi2]; rfl)
    have ev : v = .int ((sp[i] : Nat) : Int) tv := by
      rw [hv5] at hv2; exact Option.some.inj hv2
    subst ev
    have hd9 := hs9 _ (List.getElem_mem hi2)
    have hnext : prodOf base many (sp.take (i + 1)) = prodOf base many (sp.take i) * ((base : Int) - many - 1 + (sp[i] : Nat)) := by
      rw [List.take_add_one, List.getElem?_eq_getElem hi2]; exact prodOf_snoc ..
    obtain ⟨r0, r1⟩ := prodOf_range hb0 hb1 (sp := sp.take i) fun d hd => hs9 d (List.mem_of_mem_take hd)
    have r2 : prodOf base many (sp.take i) ≤ (2 ^ 111) ^ 4 := Int.le_trans r1 (by
      have : (sp.take i).length ≤ 4 := by rw [List.length_take]; omega
      generalize (sp.take i).length = q at *
      rcases q with _ | _ | _ | _ | _ | q
      · decide
      · decide
      · decide
      · decide
      · decide
      · omega)
    generalize sp[i] = d at *
    generalize prodOf base many (sp.take i) = A1 at *
    have hsay5 : Says m₂ [(Str.ofString "number", .int A1 t5), (Str.ofString "base", .int (base : Int) tb)] := says_cons hn5 (says_cons ((hm5 _ (by decide) (by decide)).trans hb3) says_nil)
    have F6 := Mine.Fr.saidIf F5 hsay5
    clear F5 hI
    refine gen_K fun KT hKT => ?_
    iterate 13 walk1
    have c1 : Builtin.Int.intBits A1 ≤ 445 := bits_le_pow r0 (Int.lt_of_le_of_lt r2 (by decide))
    have c2 : Builtin.Int.intBits ((base : Int) - many - 1 + d) ≤ 112 := bits_le_pow (by omega) (by omega)
    dsimp only
    refine imul_int ?_ (mulOk_bits (by omega))
    repeat walk1
    with_reducible rename Fr _ _ _ _ => F7
    with_reducible rename News _ _ _ _ => N7
    rw [kstB_said hsay5] at F7
    refine hKT _ _ (hkn _ _ _ _ F7 N7 hsep ⟨⟨_, by rw [hnext]; exact if_pos rfl⟩, fun y h1 h2 => ?_, rfl⟩)
    show (if y = Str.ofString "number" then _ else if y = Str.ofString "span" then _ else m₂ y) = m y
    rw [if_neg h1, if_neg h2]; exact hm5 y h1 h2
  · rintro h5 tk5 m₂ news₂ ⟨⟨t5, hn5⟩, hm5, rfl⟩ F5 N5
    rw [hvl, List.take_length] at hn5
    exact hQ h5 tk5 t5 m₂ hn5 hm5 F5 N5
end
end

noncomputable section
example : True := by -- walkOff_D43
  w_top off
  exact True.intro
noncomputable def numAt (base : Nat) (N : Int) : Nat → Int
  | 0 => N
  | k + 1 => numAt base N k / ((base : Int) - (k : Int))
noncomputable def toldAt (base : Nat) (N : Int) (k : Nat) : List Int := (List.range k).map fun i => numAt base N i % ((base : Int) - (i : Int))
theorem toldAt_succ (base : Nat) (N : Int) (k : Nat) : toldAt base N (k + 1) = toldAt base N k ++ [numAt base N k % ((base : Int) - (k : Int))] := by
  unfold toldAt; rw [List.range_succ, List.map_append]; rfl
theorem toldAt_len (base : Nat) (N : Int) (k : Nat) : (toldAt base N k).length = k := by simp [toldAt]
theorem numAt_range {base : Nat} {N M : Int} (hb : 10 ≤ base) (h0 : 0 ≤ N) (h1 : N ≤ M) : ∀ k, k ≤ 4 → 0 ≤ numAt base N k ∧ numAt base N k ≤ M
  | 0, _ => ⟨h0, h1⟩
  | k + 1, hk => by
    obtain ⟨a1, a2⟩ := numAt_range hb h0 h1 k (by omega)
    have hd : (1 : Int) ≤ (base : Int) - (k : Int) := by omega
    exact ⟨Int.ediv_nonneg a1 (by omega), Int.le_trans (Int.ediv_le_self _ a1) a2⟩
theorem num_figs {a b : Int} (h0 : 0 ≤ a) (h1 : a < 2 ^ 445) (hb : 128 ≤ b) : figs a (Builtin.Int.intBits b) ≤ 100 := by
  have h2 : Builtin.Int.intBits a ≤ 445 := bits_le_pow h0 h1
  have h3 : 8 ≤ Builtin.Int.intBits b := by
    have h4 := lt_pow_bits (x := b) (by omega)
    rcases Nat.lt_or_ge (Builtin.Int.intBits b) 8 with h | h
    · have : (2 : Int) ^ Builtin.Int.intBits b ≤ 2 ^ 7 := by
        have := Nat.pow_le_pow_right (n := 2) (by decide) (show Builtin.Int.intBits b ≤ 7 by omega)
        exact_mod_cast this
      omega
    · exact h
  unfold figs
  generalize Builtin.Int.intBits b = B at *
  generalize Builtin.Int.intBits a = C at *
  have : (C + B - 1) / B < 100 := Nat.div_lt_of_lt_mul (by omega)
  omega
theorem perm43a {α : Type} {tl R : List α} {x c : α} : List.Perm (tl ++ (x :: c :: R)) (x :: c :: (tl ++ R)) := permT [tl, [x], [c], R] (.p (.a 0) (.p (.a 1) (.p (.a 2) (.a 3)))) (.p (.a 1) (.p (.a 2) (.p (.a 0) (.a 3)))) rfl
theorem perm43d {α : Type} {tl R : List α} {r x : α} : List.Perm ((r :: tl) ++ (x :: R)) (r :: x :: (tl ++ R)) := permT [[r], tl, [x], R] (.p (.p (.a 0) (.a 1)) (.p (.a 2) (.a 3))) (.p (.a 0) (.p (.a 2) (.p (.a 1) (.a 3)))) rfl
theorem perm43f {α : Type} {tl R O : List α} {x : α} : List.Perm ((tl ++ (x :: R)) ++ O) (tl ++ (x :: (R ++ O))) := permT [tl, [x], R, O] (.p (.p (.a 0) (.p (.a 1) (.a 2))) (.a 3)) (.p (.a 0) (.p (.a 1) (.p (.a 2) (.a 3)))) rfl
section
variable {A : Around} {s : Shared} {g : Heap} {L : Nat} {m : Str → Option Value} {p : Program} {loose : List Str} {mean : ExcName → Option Value} {mg mb : Str → Option Value} {Q : Flow → Shared → Prop} {K : Flow → Shared → Prop} {E : Value → Shared → Prop}
  {o1 o2 o3 o4 o5 o6 o7 : Obj} {tl lx R : List (Addr × Obj)}
theorem turn_10 (hh : A.handled = none) (F : Fr g L s.heap m) (N : News g L s.heap R)
    (hQ : ∀ (D : Nat) h' tk, (∀ q ∈ R, q.1 ≠ D) → Fr g L h' (fun y => if y = Str.ofString "told" then some (.ref D) else m y) → News g L h' ((D, listOf #[] 0) :: R) → Q .next { s with heap := h', toks := tk }) :
    wpAny (model prog w) A (exec (turnStmt w.params 10) (envLaw w.params L)) Q E s := by
  dsimp only [turnStmt, body10, loopBody, stmtLaw, envLaw, law229, Option.getD, List.getElem?_cons_succ, List.getElem?_cons_zero]
  repeat walk1
  with_reducible rename Fr _ _ _ _ => F7
  with_reducible rename News _ _ _ _ => N7
  exact hQ _ _ _ (fun q hq => Nat.ne_of_lt (Heap.lt_size (N q hq).1)) F7 N7
noncomputable def toldB (P : Params) : { b : List Stmt // loopBody (turnStmt P 11) = b } := ⟨_, rfl⟩
set_option maxHeartbeats 4000000 in
theorem told_turn {base k many D nD : Nat} {NN : Int} {ys : List Value} {zs : List Int} {tb tk0 tn : Tok} (hk : k ≤ 4) (hb0 : 140 ≤ base) (hb1 : base ≤ 2 ^ 110) (hN0 : 0 ≤ NN) (hN1 : NN < 2 ^ 445) (hys : IntsAre ys zs) (hyl : ys.length ≤ 10)
    (hh : A.handled = none) (X : (hdK.heap_1 w.params).In g) (T : Top p loose mean mg mb g) (hdep : A.depth + 200 < recursionLimit) (hu : A.units + 3000 < cLine)
    (hC1 : ∀ g, (hdK.heap_1 w.params).In g → CodeHd g 75 71) (hC2 : ∀ g, (hdK.heap_1 w.params).In g → CodeHd g 82 78) (ht : TabsOk tl)
    (hap : ∀ q ∈ (D, listOf ys.toArray nD) :: R, ∀ p ∈ tl, p.1 ≠ q.1) (hDR : ∀ q ∈ R, q.1 ≠ D)
    (hsay : Says m [(Str.ofString "k", .int (k : Int) tk0), (Str.ofString "base", .int (base : Int) tb), (Str.ofString "number", .int NN tn), (Str.ofString "told", .ref D)])
    (F : Fr g L s.heap m) (N : News g L s.heap (tl ++ ((D, listOf ys.toArray nD) :: R)))
    (hK : ∀ h' tk m' tl' t' ys' nD', TabsOk tl' → (∀ q ∈ (D, listOf ys.toArray nD) :: R, ∀ p ∈ tl', p.1 ≠ q.1) → IntsAre ys' (zs ++ [NN % ((base : Int) - (k : Int))]) → m' (Str.ofString "number") = some (.int (NN / ((base : Int) - (k : Int))) t') →
      (∀ y, y ≠ Str.ofString "number" → y ≠ Str.ofString "rest" → m' y = m y) → Fr g L h' m' → News g L h' (tl' ++ ((D, listOf ys'.toArray nD') :: R)) → K .next { s with heap := h', toks := tk }) :
    wpAny (model prog w) A (execs (toldB w.params).1 (envLaw w.params L)) K E s := by
  have hcLine : cLine = 9900 := rfl
  have hrec : recursionLimit = 1000 := rfl
  dsimp only [toldB, turnStmt, body10, loopBody, stmtLaw, envLaw, law229, Option.getD, List.getElem?_cons_succ, List.getElem?_cons_zero]
  have F := Mine.Fr.said F hsay
  repeat walk1
  with_reducible rename Fr _ _ _ _ => F2
  have hbk : (128 : Int) ≤ (base : Int) - (k : Int) := by omega
  refine Meets.call ((D, listOf ys.toArray nD) :: R) (int_divmod (w := w) (prog := prog) hN0 (by omega) (Nat.le_trans (bits_le_pow (M := 111) (by omega) (by omega)) (by decide)) (num_figs hN0 hN1 hbk) hC1 hC2 ht) F2 N X T (fun p hp => List.mem_append_left _ hp) (fun p hp => List.mem_append_right _ hp) hap hh (by first | exact ar_lim hdep (by decide) | exact ar_limD hdep (by decide) | omega) (by first | exact ar_lim hu (by decide) | exact ar_limU hu (by decide) | omega) ?_
  intro n₁ v l₁ h₂ tk₂ hp F3 N3 p1 p2 p3 p4
  obtain ⟨r, q1, q2, tl2, hr, ht2⟩ := hp
  have hrD : @Ne Nat r D := p4 _ (.head _) _ (.head _)
  have hap2 : ∀ q ∈ tl2 ++ R, q.1 ≠ D := fun q hq => (List.mem_append.mp hq).elim (fun hq => p4 _ (.head _) q (.tail _ hq)) (hDR q)
  have N4 := newsP N3 perm43d
  generalize hRT : tl2 ++ R = RT at N4 hap2
  clear F2 N N3
  repeat (first | (k_here; (with_reducible show wpAny _ _ (assign (Expr.Tuple _ _ _) _ (Value.ref _)) _ _ _); k_dflt (refine' unpackN_ ?F ?N ?T ?k1 ?k2 ?k3 ?_; (case F => k_asm); (case N => k_asm); (case T => (refine News.isTup (by k_asm) (by k_mem))); (case k1 => assumption); (case k2 => exact rfl); (case k3 => exact rfl); k_whole); intro h' F' N'; (try k_sweep)) | walk1)
  with_reducible rename Fr _ _ _ _ => F5
  with_reducible rename News _ _ _ _ => N5
  rw [List.push_toArray] at N5
  rw [kstB_said hsay] at F5
  refine hK _ _ _ tl2 q1 (ys ++ [.int (NN % ((base : Int) - (k : Int))) q2]) (nD + 1) ht2 (fun q hq p hp => ?_) (snocI hys) (by rfl) (fun y h1 h2 => ?_) F5 (fun p hp => N5 p ?_)
  · rcases List.mem_cons.mp hq with rfl | hq
    · exact p4 _ (.head _) p (.tail _ hp)
    · exact p4 _ (.tail _ hq) p (.tail _ hp)
  · show (if y = Str.ofString "rest" then _ else if y = Str.ofString "number" then _ else m y) = m y
    rw [if_neg h2, if_neg h1]
  · rw [← hRT]
    rcases List.mem_append.mp hp with hp | hp
    · exact .tail _ (.tail _ (List.mem_append_left _ hp))
    rcases List.mem_cons.mp hp with rfl | hp
    · exact .tail _ (.head _)
    · exact .tail _ (.tail _ (List.mem_append_right _ hp))
inductive J11 (base : Nat) (NN : Int) (D : Nat) (R : List (Addr × Obj)) (m : Str → Option Value) (i : Nat) (m₁ : Str → Option Value) : List (Addr × Obj) → Prop
  | mk (tl : List (Addr × Obj)) (ys : List Value) (nD : Nat) (t : Tok) (ht : TabsOk tl) (hap : ∀ q ∈ (D, listOf ys.toArray nD) :: R, ∀ p ∈ tl, p.1 ≠ q.1) (hys : IntsAre ys (toldAt base NN i)) (hn : m₁ (Str.ofString "number") = some (.int (numAt base NN i) t))
      (hm : ∀ y, y ≠ Str.ofString "number" → y ≠ Str.ofString "rest" → y ≠ Str.ofString "k" → m₁ y = m y) : J11 base NN D R m i m₁ (tl ++ ((D, listOf ys.toArray nD) :: R))
set_option maxHeartbeats 4000000 in
theorem turn_11 {base many D nD : Nat} {NN : Int} {tb tm tn : Tok} (hm4 : many ≤ 4) (hb0 : 140 ≤ base) (hb1 : base ≤ 2 ^ 110) (hN0 : 0 ≤ NN) (hN1 : NN < 2 ^ 445) (d2 : cellV o2 (.int (many : Int) tm))
    (hh : A.handled = none) (X : (hdK.heap_1 w.params).In g) (T : Top p loose mean mg mb g) (hdep : A.depth + 200 < recursionLimit) (hu : A.units + 3000 < cLine)
    (hC1 : ∀ g, (hdK.heap_1 w.params).In g → CodeHd g 75 71) (hC2 : ∀ g, (hdK.heap_1 w.params).In g → CodeHd g 82 78) (ht : TabsOk tl)
    (hap : ∀ q ∈ (D, listOf #[] nD) :: (L + 1 + 1, o2) :: R, ∀ p ∈ tl, p.1 ≠ q.1) (hDR : ∀ q ∈ (L + 1 + 1, o2) :: R, q.1 ≠ D)
    (hsay : Says m [(Str.ofString "base", .int (base : Int) tb), (Str.ofString "number", .int NN tn), (Str.ofString "told", .ref D)])
    (F : Fr g L s.heap m) (N : News g L s.heap (tl ++ ((D, listOf #[] nD) :: (L + 1 + 1, o2) :: R)))
    (hQ : ∀ h' tk m' news, J11 base NN D ((L + 1 + 1, o2) :: R) m many m' news → Fr g L h' m' → News g L h' news → Q .next { s with heap := h', toks := tk }) :
    wpAny (model prog w) A (exec (turnStmt w.params 11) (envLaw w.params L)) Q (fun _ _ => False) s := by
  have hcLine : cLine = 9900 := rfl
  have hrec : recursionLimit = 1000 := rfl
  have hJ0 : J11 base NN D ((L + 1 + 1, o2) :: R) m 0 m (tl ++ ((D, listOf #[] nD) :: (L + 1 + 1, o2) :: R)) := ⟨tl, [], nD, tn, ht, hap, .nil, hsay _ (.tail _ (.head _)), fun y _ _ _ => rfl⟩
  have hs1 := hsay _ (.head _)
  have hs3 := hsay _ (.tail _ (.tail _ (.head _)))
  dsimp only [turnStmt, body10, loopBody, stmtLaw, envLaw, law229, Option.getD, List.getElem?_cons_succ, List.getElem?_cons_zero]
  refine For_invVF F rfl rfl ?_
  have N1 := newsP N perm43a
  generalize hRT : tl ++ R = RT at N1
  clear N
  have hmB : many ≤ 1000000 := Nat.le_trans hm4 (by decide)
  have hm4' : id (many ≤ 4) := hm4
  clear hm4
  repeat walk1
  have hm4 : many ≤ 4 := hm4'
  with_reducible rename Fr _ _ _ _ => F2
  with_reducible rename News _ _ _ _ => N2
  with_reducible rename IsRange _ _ _ _ _ _ _ _ => hR
  rw [← hRT] at N2
  refine loopRange (a := 0) (b := many) hh (by decide) (by omega) hR F2 (newsP N2 perm43a.symm) (J11 base NN D ((L + 1 + 1, o2) :: R) m) hJ0 ?_ ?_
  · intro i u m₁ news₁ h tk own kn hi hJ F4 N4 hsep hkn
    obtain ⟨tl1, ys, nD1, t1, ht1, hap1, hys, hn1, hm1⟩ := hJ
    obtain ⟨r0, r1⟩ := numAt_range (base := base) (N := NN) (M := NN) (by omega) hN0 (Int.le_refl _) i (by omega)
    have hyl : ys.length ≤ 10 := by rw [hys.length, toldAt_len]; omega
    rw [Nat.zero_add] at F4
    refine told_turn (R := ((L + 1 + 1, o2) :: R) ++ own) (base := base) (k := i) (many := many) (tb := tb) (tk0 := u) (tn := t1) (by omega) hb0 hb1 r0 (Int.lt_of_le_of_lt r1 hN1) hys hyl hh X T hdep hu hC1 hC2 ht1 ?_ ?_ ?_ F4 (newsP N4 perm43f) ?_
    · intro q hq p hp
      rcases List.mem_cons.mp hq with rfl | hq
      · exact hap1 _ (.head _) p hp
      rcases List.mem_append.mp hq with hq | hq
      · exact hap1 q (.tail _ hq) p hp
      · exact Ne.symm (hsep p (List.mem_append_left _ hp) q hq)
    · intro q hq
      rcases List.mem_append.mp hq with hq | hq
      · exact hDR q hq
      · exact hsep _ (List.mem_append_right _ (.head _)) q hq
    · refine says_cons (if_pos rfl) (says_cons ?_ (says_cons ?_ (says_cons ?_ says_nil)))
      · show (if Str.ofString "base" = Str.ofString "k" then _ else m₁ (Str.ofString "base")) = _
        rw [if_neg (by decide), hm1 _ (by decide) (by decide) (by decide)]; exact hs1
      · show (if Str.ofString "number" = Str.ofString "k" then _ else m₁ (Str.ofString "number")) = _
        rw [if_neg (by decide)]; exact hn1
      · show (if Str.ofString "told" = Str.ofString "k" then _ else m₁ (Str.ofString "told")) = _
        rw [if_neg (by decide), hm1 _ (by decide) (by decide) (by decide)]; exact hs3
    intro h5 tk5 m5 tl5 t5 ys5 nD5 ht5 hap5 hys5 hn5 hm5 F5 N5
    rw [← toldAt_succ] at hys5
    refine hkn h5 tk5 m5 _ F5 (newsP N5 perm43f.symm) ?_ ⟨tl5, ys5, nD5, t5, ht5, fun q hq p hp => ?_, hys5, hn5, fun y h1 h2 h3 => ?_⟩
    · intro q hq p hp
      rcases List.mem_append.mp hq with hq | hq
      · exact Ne.symm (hap5 p (.tail _ (List.mem_append_right _ hp)) q hq)
      rcases List.mem_cons.mp hq with rfl | hq
      · exact hsep _ (List.mem_append_right _ (.head _)) p hp
      · exact hsep q (List.mem_append_right _ (.tail _ hq)) p hp
    · rcases List.mem_cons.mp hq with rfl | hq
      · exact hap5 _ (.head _) p hp
      · exact hap5 q (.tail _ (List.mem_append_left _ hq)) p hp
    · rw [hm5 y h1 h2]
      show (if y = Str.ofString "k" then _ else m₁ y) = m y
      rw [if_neg h3]; exact hm1 y h1 h2 h3
  · intro h tk m₁ news₁ hJ F4 N4
    exact hQ h tk m₁ news₁ hJ F4 N4
end
end

noncomputable section
example : True := by -- walkOff_D44
  w_top off
  exact True.intro
section
variable {A : Around} {s : Shared} {g : Heap} {L : Nat} {m : Str → Option Value} {p : Program} {loose : List Str} {mean : ExcName → Option Value} {mg mb : Str → Option Value} {Q : Flow → Shared → Prop} {K : Flow → Shared → Prop} {E : Value → Shared → Prop}
  {o1 o2 o3 o4 o5 o6 o7 : Obj} {tl lx R : List (Addr × Obj)}
theorem perm44a {α : Type} {LED R : List α} {h c d : α} : List.Perm (LED ++ (h :: c :: d :: R)) (h :: c :: d :: (LED ++ R)) := permT [LED, [h], [c], [d], R] (.p (.a 0) (.p (.a 1) (.p (.a 2) (.p (.a 3) (.a 4))))) (.p (.a 1) (.p (.a 2) (.p (.a 3) (.p (.a 0) (.a 4))))) rfl
theorem perm44b {α : Type} {LED R : List α} {h c d e f : α} : List.Perm (e :: f :: h :: c :: d :: (LED ++ R)) ((LED ++ [h]) ++ ([e, f, c, d] ++ R)) := permT [[e], [f], [h], [c], [d], LED, R] (.p (.a 0) (.p (.a 1) (.p (.a 2) (.p (.a 3) (.p (.a 4) (.p (.a 5) (.a 6))))))) (.p (.p (.a 5) (.p (.a 2) .o)) (.p (.p (.a 0) (.p (.a 1) (.p (.a 3) (.p (.a 4) .o)))) (.a 6))) rfl
theorem mem44 {α : Type} {LED R : List α} {h c d e f g p : α} (hp : p ∈ LED ++ (h :: c :: d :: R)) : p ∈ g :: e :: ((LED ++ [h]) ++ ([f, c, d] ++ R)) := by
  rcases List.mem_append.mp hp with hp | hp
  · exact .tail _ (.tail _ (List.mem_append_left _ (List.mem_append_left _ hp)))
  rcases List.mem_cons.mp hp with rfl | hp
  · exact .tail _ (.tail _ (List.mem_append_left _ (List.mem_append_right _ (.head _))))
  · exact .tail _ (.tail _ (List.mem_append_right _ (.tail _ hp)))
theorem perm44c {α : Type} {LH R : List α} {c d e f g : α} : List.Perm ((g :: LH) ++ ([e, f, c, d] ++ R)) (g :: e :: (LH ++ ([f, c, d] ++ R))) := permT [[g], LH, [e], [f], [c], [d], R] (.p (.p (.a 0) (.a 1)) (.p (.p (.a 2) (.p (.a 3) (.p (.a 4) (.p (.a 5) .o)))) (.a 6))) (.p (.a 0) (.p (.a 2) (.p (.a 1) (.p (.p (.a 3) (.p (.a 4) (.p (.a 5) .o))) (.a 6))))) rfl
set_option maxHeartbeats 4000000 in
theorem turn_12 {a : LexP} {vs hv ys : List Value} {cs hs : List Nat} {zs : List Int} {nS np hl nh D nD : Nat} {n NN : Int} {tn tu : Tok} (ha : a.Ok tl) (hS : SignsAre vs cs) (hcs : cs.length ≤ 10000) (hasc : Asc cs) (hw0 : word cs = ([], [])) (hI : IntsAre hv (asInts hs)) (hh4 : ∀ h ∈ hs, h ≤ 4) (hlen : hs.length ≤ 4) (hys : IntsAre ys zs) (hzl : zs.length ≤ 4)
    (hP : zs ++ [NN] = rookNums hs)
    (hh : A.handled = none) (X : (hdK.heap_1 w.params).In g) (T : Top p loose mean mg mb g) (hdep : A.depth + 200 < recursionLimit) (hu : A.units + 3000 < cLine) (d5 : cellV o5 (.ref hl))
    (hnd : Nd ((a.led w.params vs nS n tn [] np ++ tl) ++ ((hl, listOf hv.toArray nh) :: (L + 1 + 1 + 1 + 1 + 1, o5) :: (D, listOf ys.toArray nD) :: R)))
    (hsay : Says m [(Str.ofString "lexer", .ref a.x), (Str.ofString "number", .int NN tu), (Str.ofString "told", .ref D)])
    (F : Fr g L s.heap m) (N : News g L s.heap ((a.led w.params vs nS n tn [] np ++ tl) ++ ((hl, listOf hv.toArray nh) :: (L + 1 + 1 + 1 + 1 + 1, o5) :: (D, listOf ys.toArray nD) :: R)))
    (hQ : ∀ h' tk vs' nS' np' tn', SignsAre vs' [] → Fr g L h' m → News g L h' ((a.led w.params vs' nS' (n + nls cs) tn' [] np' ++ tl) ++ ((hl, listOf hv.toArray nh) :: (L + 1 + 1 + 1 + 1 + 1, o5) :: (D, listOf ys.toArray nD) :: R)) → Q .next { s with heap := h', toks := tk }) :
    wpAny (model prog w) A (exec (turnStmt w.params 12) (envLaw w.params L)) Q E s := by
  have hcLine : cLine = 9900 := rfl
  have hrec : recursionLimit = 1000 := rfl
  dsimp only [turnStmt, body10, loopBody, stmtLaw, envLaw, law229, Option.getD, List.getElem?_cons_succ, List.getElem?_cons_zero]
  have F := Mine.Fr.said F hsay
  have N1 := newsP N perm44a
  generalize hRT : (a.led w.params vs nS n tn [] np ++ tl) ++ R = RT at N1
  clear N
  repeat walk1
  with_reducible rename Fr _ _ _ _ => F2
  with_reducible rename News _ _ _ _ => N2
  with_reducible rename IntsAre _ (zs ++ [NN]) => hI2
  with_reducible rename _ < _ ∧ _ => hlt2
  rename_i l1 _ hlt1 D1 ws1 _
  rw [← hRT] at N2
  have hlow2 := lowAll hlt2.2.2.2.2
  have hlow1 := lowAll hlt1.2.2.2
  rw [← hRT] at hlow2 hlow1
  have hsepD : ∀ q ∈ [(D1, listOf ws1.toArray 0), (l1, listOf [Value.int NN tu].toArray 0), (L + 1 + 1 + 1 + 1 + 1, o5), (D, listOf ys.toArray nD)] ++ R, ∀ p ∈ (a.led w.params vs nS n tn [] np ++ tl) ++ [(hl, listOf hv.toArray nh)], p.1 ≠ q.1 := by
    intro q hq p hp
    rcases List.mem_append.mp hq with hq | hq
    · rcases List.mem_cons.mp hq with rfl | hq
      · rcases List.mem_append.mp hp with hp | hp
        · exact Nat.ne_of_lt (hlow2 p (List.mem_append_left _ hp))
        · rw [List.mem_singleton.mp hp]; exact Nat.ne_of_lt hlt2.2.1
      rcases List.mem_cons.mp hq with rfl | hq
      · rcases List.mem_append.mp hp with hp | hp
        · exact Nat.ne_of_lt (hlow1 p (List.mem_append_left _ hp))
        · rw [List.mem_singleton.mp hp]; exact Nat.ne_of_lt hlt1.1
      have hq : q ∈ (L + 1 + 1 + 1 + 1 + 1, o5) :: (D, listOf ys.toArray nD) :: R := List.mem_append_left (as := [(L + 1 + 1 + 1 + 1 + 1, o5), (D, listOf ys.toArray nD)]) R hq
      rcases List.mem_append.mp hp with hp | hp
      · exact hnd.sep q (.tail _ hq) p hp
      · rw [List.mem_singleton.mp hp]; exact Ne.symm (hnd.right.hd q hq)
    · have hq : q ∈ (L + 1 + 1 + 1 + 1 + 1, o5) :: (D, listOf ys.toArray nD) :: R := .tail _ (.tail _ hq)
      rcases List.mem_append.mp hp with hp | hp
      · exact hnd.sep q (.tail _ hq) p hp
      · rw [List.mem_singleton.mp hp]; exact Ne.symm (hnd.right.hd q hq)
  refine Meets.call ([(D1, listOf ws1.toArray 0), (l1, listOf [Value.int NN tu].toArray 0), (L + 1 + 1 + 1 + 1 + 1, o5), (D, listOf ys.toArray nD)] ++ R) (law_rooks (w := w) (prog := prog) ha hnd.left.right hS hcs hasc hw0 hI hh4 hlen (fun p hp => hnd.sep _ (.head _) p hp)) F2 (newsP N2 perm44b) X T (fun p hp => List.mem_append_left _ hp) (fun p hp => List.mem_append_right _ hp) hsepD hh (by first | exact ar_lim hdep (by decide) | exact ar_limD hdep (by decide) | omega) (by first | exact ar_lim hu (by decide) | exact ar_limU hu (by decide) | omega) ?_
  intro n₁ v l₁ h₂ tk₂ hp F3 N3 p1 p2 p3 p4
  obtain ⟨D3, zs3, vs', nS', np', tn', rfl, hz3, hS', hD3, rfl⟩ := hp
  have N4 := newsP N3 perm44c
  generalize hRU : ((a.led w.params vs' nS' (n + nls cs) tn' [] np' ++ tl) ++ [(hl, listOf hv.toArray nh)]) ++ ([(l1, listOf [Value.int NN tu].toArray 0), (L + 1 + 1 + 1 + 1 + 1, o5), (D, listOf ys.toArray nD)] ++ R) = RU at N4
  rw [hP] at hI2
  clear N2 F2 N3
  repeat walk1
  with_reducible rename Fr _ _ _ _ => F5
  with_reducible rename News _ _ _ _ => N5
  rw [← hRU] at N5
  exact hQ _ _ vs' nS' np' tn' hS' (Mine.Fr.unsaid F5 hsay) (fun p hp => N5 p (mem44 hp))
end
end

noncomputable section
example : True := by -- walkOff_D45
  w_top off
  exact True.intro
section
variable {A : Around} {s : Shared} {g : Heap} {L : Nat} {m : Str → Option Value} {p : Program} {loose : List Str} {mean : ExcName → Option Value} {mg mb : Str → Option Value} {Q : Flow → Shared → Prop} {K : Flow → Shared → Prop} {E : Value → Shared → Prop}
  {o1 o2 o3 o4 o5 o6 o7 : Obj} {tl lx R : List (Addr × Obj)}
set_option maxHeartbeats 4000000 in
theorem turn_13 {a : LexP} {vs : List Value} {x : List Nat} {nS np : Nat} {n : Int} {tn tu : Tok} (ha : a.Ok tl) (hx : x.length ≤ 10000) (hn : n = 1 + nls x)
    (hh : A.handled = none) (X : (hdK.heap_1 w.params).In g) (T : Top p loose mean mg mb g) (hdep : A.depth + 200 < recursionLimit) (hu : A.units + 3000 < cLine)
    (hsay : Says m [(Str.ofString "lexer", .ref a.x), (Str.ofString "text", .str (txt x) tu)])
    (F : Fr g L s.heap m) (N : News g L s.heap ((a.led w.params vs nS n tn [] np ++ tl) ++ R))
    (hQ : ∀ h' tk, Fr g L h' m → News g L h' ((a.led w.params vs nS n tn [] np ++ tl) ++ R) → Q .next { s with heap := h', toks := tk }) :
    wpAny (model prog w) A (exec (turnStmt w.params 13) (envLaw w.params L)) Q E s := by
  have hcLine : cLine = 9900 := rfl
  have hrec : recursionLimit = 1000 := rfl
  have N0 := N
  dsimp only [turnStmt, body10, loopBody, stmtLaw, envLaw, law229, Option.getD, List.getElem?_cons_succ, List.getElem?_cons_zero]
  have F := Mine.Fr.said F hsay
  have hn2 : n = 1 + Txt.count (txt x) (Str.ofString "\n") := by
    rw [hn, show Str.ofString "\n" = (⟨#[10]⟩ : Str) from rfl, count_txt]; rfl
  repeat walk1
  · exact absurd hn2 (show ¬ n = 1 + Txt.count (txt x) (Str.ofString "\n") by assumption)
  repeat walk1
  exact hQ _ _ (Mine.Fr.unsaid F hsay) N0
end
end

noncomputable section
example : True := by -- walkOff_D46
  w_top off
  exact True.intro
section
variable {A : Around} {s : Shared} {g : Heap} {L : Nat} {m : Str → Option Value} {p : Program} {loose : List Str} {mean : ExcName → Option Value} {mg mb : Str → Option Value} {Q : Flow → Shared → Prop} {K : Flow → Shared → Prop} {E : Value → Shared → Prop}
  {o1 o2 o3 o4 o5 o6 o7 : Obj} {tl lx R : List (Addr × Obj)}
set_option maxHeartbeats 4000000 in
theorem turn_14 {W D nW : Nat} {ts : List Value} (hts : ts.length ≤ 10) (hR : ∀ q ∈ R, q.1 ≠ W)
    (hh : A.handled = none) (X : (hdK.heap_1 w.params).In g) (T : Top p loose mean mg mb g) (hdep : A.depth + 200 < recursionLimit) (hu : A.units + 3000 < cLine)
    (hsay : Says m [(Str.ofString "tables", .ref W), (Str.ofString "told", .ref D)])
    (F : Fr g L s.heap m) (N : News g L s.heap ((W, listOf ts.toArray nW) :: R))
    (hQ : ∀ h' tk nW', Fr g L h' m → News g L h' ((W, listOf (ts ++ [Value.ref D]).toArray nW') :: R) → Q .next { s with heap := h', toks := tk }) :
    wpAny (model prog w) A (exec (turnStmt w.params 14) (envLaw w.params L)) Q E s := by
  have hcLine : cLine = 9900 := rfl
  have hrec : recursionLimit = 1000 := rfl
  dsimp only [turnStmt, body10, loopBody, stmtLaw, envLaw, law229, Option.getD, List.getElem?_cons_succ, List.getElem?_cons_zero]
  have F := Mine.Fr.said F hsay
  repeat walk1
  with_reducible rename Fr _ _ _ _ => F5
  with_reducible rename News _ _ _ _ => N5
  rw [List.push_toArray] at N5
  exact hQ _ _ _ (Mine.Fr.unsaid F5 hsay) N5
set_option maxHeartbeats 4000000 in
theorem turn_15 {W D nW : Nat} {ts : List Value} (hts : ts.length ≤ 10) (hR : ∀ q ∈ R, q.1 ≠ W)
    (hh : A.handled = none) (X : (hdK.heap_1 w.params).In g) (T : Top p loose mean mg mb g) (hdep : A.depth + 200 < recursionLimit) (hu : A.units + 3000 < cLine)
    (hsay : Says m [(Str.ofString "lengths", .ref W), (Str.ofString "spans", .ref D)])
    (F : Fr g L s.heap m) (N : News g L s.heap ((W, listOf ts.toArray nW) :: R))
    (hQ : ∀ h' tk nW', Fr g L h' m → News g L h' ((W, listOf (ts ++ [Value.ref D]).toArray nW') :: R) → Q .next { s with heap := h', toks := tk }) :
    wpAny (model prog w) A (exec (turnStmt w.params 15) (envLaw w.params L)) Q E s := by
  have hcLine : cLine = 9900 := rfl
  have hrec : recursionLimit = 1000 := rfl
  dsimp only [turnStmt, body10, loopBody, stmtLaw, envLaw, law229, Option.getD, List.getElem?_cons_succ, List.getElem?_cons_zero]
  have F := Mine.Fr.said F hsay
  repeat walk1
  with_reducible rename Fr _ _ _ _ => F5
  with_reducible rename News _ _ _ _ => N5
  rw [List.push_toArray] at N5
  exact hQ _ _ _ (Mine.Fr.unsaid F5 hsay) N5
end
end

noncomputable section
example : True := by -- walkOff_D47
  w_top off
  exact True.intro
noncomputable def leadsOf (sp : List Nat) : List Nat := sp.flatMap fun d => List.replicate d 32 ++ [9]
theorem leads_blank (sp : List Nat) : Blank (leadsOf sp) := by
  intro c hc
  obtain ⟨d, _, hc⟩ := List.mem_flatMap.mp hc
  rcases List.mem_append.mp hc with hc | hc
  · exact .inl (List.eq_of_mem_replicate hc)
  · exact .inr (List.mem_singleton.mp hc)
theorem leads_len {sp : List Nat} (h : ∀ d ∈ sp, d ≤ 9) (hl : sp.length ≤ 4) : (leadsOf sp).length ≤ 40 := by
  have key : ∀ sp : List Nat, (∀ d ∈ sp, d ≤ 9) → (leadsOf sp).length ≤ 10 * sp.length := by
    intro sp
    induction sp with
    | nil => intro _; exact Nat.le_refl _
    | cons d sp ih =>
      intro h
      have h1 := ih fun x hx => h x (.tail _ hx)
      have h2 := h d (.head _)
      unfold leadsOf at *
      rw [List.flatMap_cons, List.length_append, List.length_append, List.length_replicate, List.length_singleton, List.length_cons]
      omega
  have := key sp h
  omega
theorem perm47a {α : Type} {l R : List α} {w d : α} : List.Perm (l ++ (w :: d :: R)) (w :: d :: (l ++ R)) := permT [l, [w], [d], R] (.p (.a 0) (.p (.a 1) (.p (.a 2) (.a 3)))) (.p (.a 1) (.p (.a 2) (.p (.a 0) (.a 3)))) rfl
section
variable {A : Around} {s : Shared} {g : Heap} {L : Nat} {m : Str → Option Value} {p : Program} {loose : List Str} {mean : ExcName → Option Value} {mg mb : Str → Option Value} {Q : Flow → Shared → Prop} {K : Flow → Shared → Prop} {E : Value → Shared → Prop}
  {o1 o2 o3 o4 o5 o6 o7 : Obj} {tl lx R : List (Addr × Obj)}
set_option maxHeartbeats 4000000 in
theorem turn_16 {W D nW nD : Nat} {ts vs : List Value} {sp : List Nat} (hts : ts.length ≤ 10) (hR : ∀ q ∈ R, q.1 ≠ W) (hI : IntsAre vs (asInts sp)) (hsp : sp.length ≤ 4) (hs9 : ∀ d ∈ sp, d ≤ 9) (hDW : D ≠ W)
    (hh : A.handled = none) (X : (hdK.heap_1 w.params).In g) (T : Top p loose mean mg mb g) (hdep : A.depth + 200 < recursionLimit) (hu : A.units + 3000 < cLine)
    (hsay : Says m [(Str.ofString "leads", .ref W), (Str.ofString "spans", .ref D)])
    (F : Fr g L s.heap m) (N : News g L s.heap ((W, listOf ts.toArray nW) :: (D, listOf vs.toArray nD) :: R))
    (hQ : ∀ h' tk nW' x dx t l', @LT.lt Nat _ dx x → wsNew w.params x dx (leadsOf sp) t l' → (∀ q ∈ (W, listOf ts.toArray nW) :: (D, listOf vs.toArray nD) :: R, ∀ p ∈ l', p.1 ≠ q.1) → Fr g L h' m → News g L h' (l' ++ ((W, listOf (ts ++ [Value.ref x]).toArray nW') :: (D, listOf vs.toArray nD) :: R)) → Q .next { s with heap := h', toks := tk }) :
    wpAny (model prog w) A (exec (turnStmt w.params 16) (envLaw w.params L)) Q E s := by
  have hcLine : cLine = 9900 := rfl
  have hrec : recursionLimit = 1000 := rfl
  have hvl : vs.length = sp.length := by rw [hI.length, asInts_len]
  dsimp only [turnStmt, body10, loopBody, stmtLaw, envLaw, law229, Option.getD, List.getElem?_cons_succ, List.getElem?_cons_zero]
  have F := Mine.Fr.said F hsay
  iterate 15 walk1
  refine LCg.ListComp_U F rfl (by decide) rfl (by decide) rfl ?_
  repeat walk1
  refine LCg.CompSrc.ledger hh F N (.tail _ (.head _)) (Nat.le_trans (show vs.toArray.size ≤ 5 by rw [List.size_toArray, hvl]; omega) (by decide)) (fun g' => ?_)
  rw [List.size_toArray, hvl]
  refine comp_const (n := sp.length) (fun k zs => StrsAre zs ((sp.take k).map fun d => txt (List.replicate d 32 ++ [9]))) ?_ ?_ .nil
  · rintro k zs v I oI C2 oC2 D2 m₃ h3 tk3 E3 hk hzs hv hC2 hx2 F4 N4 off2 hne2
    refine gen_K fun KK hKK => ?_
    have off20 := off2
    obtain ⟨tv, hv2⟩ := hI.get k _ (show (asInts sp)[k]? = some ((sp[k] : Nat) : Int) by rw [List.getElem?_map, List.getElem?_eq_getElem hk]; rfl)
    have ev : v = .int ((sp[k] : Nat) : Int) tv := by
      have : vs[k]? = some v := by simpa using hv
      rw [this] at hv2; exact Option.some.inj hv2
    subst ev
    have hnext : ((sp.take (k + 1)).map fun d => txt (List.replicate d 32 ++ [9])) = ((sp.take k).map fun d => txt (List.replicate d 32 ++ [9])) ++ [txt (List.replicate sp[k] 32 ++ [9])] := by
      rw [List.take_add_one, List.getElem?_eq_getElem hk, List.map_append]; rfl
    rw [hnext] at hKK
    have hd9 := hs9 _ (List.getElem_mem hk)
    generalize sp[k] = d at *
    repeat walk1
    rw [show Str.ofString " " = (⟨#[32]⟩ : Str) from rfl, mul_sign, show Str.ofString "\t" = txt [9] from rfl, txt_append]
    exact hKK _ _ (LCg.CompEnd.intro F4 N4 _ (fun p hp => hp) off20 (.inr ⟨_, .tail _ (.head _), rfl, _, rfl⟩) ⟨rfl, strs_snoc hzs⟩)
  · rintro zs hzs
    unfold LCg.FinE
    intro D3 h3 tk3 F4 N4 off2
    rw [List.take_length] at hzs
    repeat walk1
    refine join_rows (b := 10) (f := fun d => List.replicate d 32 ++ [9]) (l := sp) (News.isList N4 (.head _)) hzs (fun c hc => ?_) (by omega) (fun t1 k1 => ?_)
    · rw [List.length_append, List.length_replicate, List.length_singleton]
      have := hs9 c hc; omega
    have hsep : ∀ q ∈ (W, listOf ts.toArray nW) :: (D, listOf vs.toArray nD) :: R, q.1 ≠ D3 := Off1.mem off2
    repeat walk1
    with_reducible rename Fr _ _ _ _ => F5
    with_reducible rename News _ _ _ _ => N5
    refine Meets.call ((W, listOf ts.toArray nW) :: (D, listOf vs.toArray nD) :: R) (whitespace (w := w) (prog := prog) (l := leadsOf sp) (by have := leads_len hs9 hsp; omega) (leads_blank sp)) F5 N5 X T (fun p hp => nomatch hp) (fun p hp => .tail _ hp) (fun q hq p hp => nomatch hp) hh (by first | exact ar_lim hdep (by decide) | exact ar_limD hdep (by decide) | omega) (by first | exact ar_lim hu (by decide) | exact ar_limU hu (by decide) | omega) ?_
    intro n₁ v l₁ h₂ tk₂ hp F6 N6 p1 p2 p3 p4
    obtain ⟨x, dx, hdx, hdx2, rfl, hnew⟩ := hp
    have N7 := newsP N6 perm47a
    have hl₁ : ∀ q ∈ (D, listOf vs.toArray nD) :: (l₁ ++ R), q.1 ≠ W := by
      intro q hq
      rcases List.mem_cons.mp hq with rfl | hq
      · exact hDW
      · exact (List.mem_append.mp hq).elim (fun hq => p4 _ (.head _) q hq) (hR q)
    generalize hRT : l₁ ++ R = RT at N7 hl₁
    clear N5 F5 N6
    repeat walk1
    with_reducible rename Fr _ _ _ _ => F8
    with_reducible rename News _ _ _ _ => N8
    rw [List.push_toArray, ← hRT] at N8
    exact hQ _ _ _ x dx t1 l₁ hdx2 hnew p4 (Mine.Fr.unsaid F8 hsay) (newsP N8 perm47a.symm)
end
end

noncomputable section
example : True := by -- walkOff_D50
  w_top off
  exact True.intro
theorem rookNums_is (hs : List Nat) : rookNums hs = (rookR hs).map fun n : Nat => (n : Int) := by
  unfold rookNums rookR
  rw [List.map_map]
  refine List.map_congr_left fun i hi => ?_
  have hi : i < hs.length + 1 := List.mem_range.mp hi
  show (((lens (rooksW hs)).count ((hs.length : Int) - (i : Int)) : Nat) : Int) = (((rooksW hs).countP fun w => w.length == hs.length - i + 1 : Nat) : Int)
  congr 1
  unfold List.count lens
  rw [List.countP_map]
  refine List.countP_congr fun w _ => ?_
  simp only [Function.comp_apply, beq_iff_eq]
  omega
theorem prod3 (base : Nat) (a b c : Nat) : prodOf base 3 (spanOf 3 [a, b, c]) = ((base : Int) + a) * ((base : Int) + ((b : Int) - 1)) * ((base : Int) + ((c : Int) - 2)) := by
  have e : spanOf 3 [a, b, c] = [a + 1 + 3 - 0, b + 1 + 3 - 1, c + 1 + 3 - 2] := rfl
  rw [e]
  unfold prodOf
  simp only [List.map_cons, List.map_nil, List.foldl_cons, List.foldl_nil, Int.one_mul]
  congr 1
  · congr 1 <;> omega
  · omega
theorem prod4 (base : Nat) (a b c d : Nat) : prodOf base 4 (spanOf 4 [a, b, c, d]) = ((base : Int) + a) * ((base : Int) + ((b : Int) - 1)) * ((base : Int) + ((c : Int) - 2)) * ((base : Int) + ((d : Int) - 3)) := by
  have e : spanOf 4 [a, b, c, d] = [a + 1 + 4 - 0, b + 1 + 4 - 1, c + 1 + 4 - 2, d + 1 + 4 - 3] := rfl
  rw [e]
  unfold prodOf
  simp only [List.map_cons, List.map_nil, List.foldl_cons, List.foldl_nil, Int.one_mul]
  congr 1
  · congr 1
    · congr 1 <;> omega
    · omega
  · omega
theorem rook_small3 : ((boards 3 3 0).all fun hs => (rookR hs).all fun n => decide (n ≤ 100)) = true := by decide +kernel
theorem rook_small4 : ((boards 4 4 0).all fun hs => (rookR hs).all fun n => decide (n ≤ 100)) = true := by decide +kernel
theorem divs_step {base : Nat} {r rest N : Int} {k : Nat} (h0 : 0 ≤ r) (h1 : r < (base : Int) - k) (hN : N = r + ((base : Int) - k) * rest) : N / ((base : Int) - k) = rest ∧ N % ((base : Int) - k) = r := by
  have hd : (0 : Int) < (base : Int) - k := by omega
  subst hN
  exact ⟨by rw [Int.add_mul_ediv_left _ _ (by omega), Int.ediv_eq_zero_of_lt h0 h1, Int.zero_add], by rw [Int.add_mul_emod_self_left, Int.emod_eq_of_lt h0 h1]⟩

theorem rook_vals {hs : List Nat} {l : List Int} (hg : (rookR hs).map (fun n : Nat => (n : Int)) = l) (hsm : (rookR hs).all (fun n => decide (n ≤ 100)) = true) : ∀ r ∈ l, 0 ≤ r ∧ r ≤ 100 := by
  intro r hr
  rw [← hg] at hr
  obtain ⟨n, hn, rfl⟩ := List.mem_map.mp hr
  have := of_decide_eq_true (List.all_eq_true.mp hsm n hn)
  omega
theorem told4 {base a b c d : Nat} (hm : [a, b, c, d] ∈ boards 4 4 0) (hb : 140 ≤ base) : toldAt base (prodOf base 4 (spanOf 4 [a, b, c, d])) 4 ++ [numAt base (prodOf base 4 (spanOf 4 [a, b, c, d])) 4] = rookNums [a, b, c, d] := by
  have hg := List.all_eq_true.mp all4 _ hm
  have hsm := List.all_eq_true.mp rook_small4 _ hm
  unfold good4 at hg
  have hg := eq_of_beq hg
  have hv := rook_vals hg hsm
  rw [rookNums_is, hg, prod4, id4]
  generalize (a : Int) = x at *
  generalize (b : Int) - 1 = y at *
  generalize (c : Int) - 2 = z at *
  generalize (d : Int) - 3 = u at *
  generalize x * y * z * u = r4 at *
  generalize 1 + (x + y + z + u) + (x * y + x * z + x * u + y * z + y * u + z * u) + (x * y * z + x * y * u + x * z * u + y * z * u) = r3 at *
  generalize 7 + 3 * (x + y + z + u) + (x * y + x * z + x * u + y * z + y * u + z * u) = r2 at *
  generalize 6 + (x + y + z + u) = r1 at *
  obtain ⟨p4, q4⟩ := hv r4 (.head _)
  obtain ⟨p3, q3⟩ := hv r3 (.tail _ (.head _))
  obtain ⟨p2, q2⟩ := hv r2 (.tail _ (.tail _ (.head _)))
  obtain ⟨p1, q1⟩ := hv r1 (.tail _ (.tail _ (.tail _ (.head _))))
  have hN : (base : Int) = (base : Int) - ((0 : Nat) : Int) := by omega
  have s0 := divs_step (base := base) (r := r4) (rest := r3 + ((base : Int) - 1) * (r2 + ((base : Int) - 2) * (r1 + ((base : Int) - 3) * 1))) (N := r4 + (base : Int) * (r3 + ((base : Int) - 1) * (r2 + ((base : Int) - 2) * (r1 + ((base : Int) - 3) * 1)))) (k := 0) p4 (ar_base hb (by decide) q4) (by rw [← hN])
  have s1 := divs_step (base := base) (r := r3) (rest := r2 + ((base : Int) - 2) * (r1 + ((base : Int) - 3) * 1)) (k := 1) p3 (ar_base hb (by decide) q3) rfl
  have s2 := divs_step (base := base) (r := r2) (rest := r1 + ((base : Int) - 3) * 1) (k := 2) p2 (ar_base hb (by decide) q2) rfl
  have s3 := divs_step (base := base) (r := r1) (rest := 1) (k := 3) p1 (ar_base hb (by decide) q1) rfl
  generalize r4 + (base : Int) * (r3 + ((base : Int) - 1) * (r2 + ((base : Int) - 2) * (r1 + ((base : Int) - 3) * 1))) = N at *
  have n1 : numAt base N 1 = r3 + ((base : Int) - 1) * (r2 + ((base : Int) - 2) * (r1 + ((base : Int) - 3) * 1)) := s0.1
  have n2 : numAt base N 2 = r2 + ((base : Int) - 2) * (r1 + ((base : Int) - 3) * 1) := by
    show numAt base N 1 / ((base : Int) - ((1 : Nat) : Int)) = _
    rw [n1]; exact s1.1
  have n3 : numAt base N 3 = r1 + ((base : Int) - 3) * 1 := by
    show numAt base N 2 / ((base : Int) - ((2 : Nat) : Int)) = _
    rw [n2]; exact s2.1
  have n4 : numAt base N 4 = 1 := by
    show numAt base N 3 / ((base : Int) - ((3 : Nat) : Int)) = _
    rw [n3]; exact s3.1
  rw [n4]
  show [N % ((base : Int) - ((0 : Nat) : Int)), numAt base N 1 % ((base : Int) - ((1 : Nat) : Int)), numAt base N 2 % ((base : Int) - ((2 : Nat) : Int)), numAt base N 3 % ((base : Int) - ((3 : Nat) : Int))] ++ [1] = _
  rw [n1, n2, n3, s0.2]
  have e1 := s1.2
  have e2 := s2.2
  have e3 := s3.2
  rw [show (((1 : Nat) : Int)) = 1 from rfl] at *
  rw [show (((2 : Nat) : Int)) = 2 from rfl] at *
  rw [show (((3 : Nat) : Int)) = 3 from rfl] at *
  rw [e1, e2, e3]
  rfl
theorem told3 {base a b c : Nat} (hm : [a, b, c] ∈ boards 3 3 0) (hb : 140 ≤ base) : toldAt base (prodOf base 3 (spanOf 3 [a, b, c])) 3 ++ [numAt base (prodOf base 3 (spanOf 3 [a, b, c])) 3] = rookNums [a, b, c] := by
  have hg := List.all_eq_true.mp all3 _ hm
  have hsm := List.all_eq_true.mp rook_small3 _ hm
  unfold good3 at hg
  have hg := eq_of_beq hg
  have hv := rook_vals hg hsm
  rw [rookNums_is, hg, prod3, id3]
  generalize (a : Int) = x at *
  generalize (b : Int) - 1 = y at *
  generalize (c : Int) - 2 = z at *
  generalize x * y * z = r3 at *
  generalize 1 + (x + y + z) + (x * y + x * z + y * z) = r2 at *
  generalize 3 + (x + y + z) = r1 at *
  obtain ⟨p3, q3⟩ := hv r3 (.head _)
  obtain ⟨p2, q2⟩ := hv r2 (.tail _ (.head _))
  obtain ⟨p1, q1⟩ := hv r1 (.tail _ (.tail _ (.head _)))
  have hN : (base : Int) = (base : Int) - ((0 : Nat) : Int) := by omega
  have s0 := divs_step (base := base) (r := r3) (rest := r2 + ((base : Int) - 1) * (r1 + ((base : Int) - 2) * 1)) (N := r3 + (base : Int) * (r2 + ((base : Int) - 1) * (r1 + ((base : Int) - 2) * 1))) (k := 0) p3 (ar_base hb (by decide) q3) (by rw [← hN])
  have s1 := divs_step (base := base) (r := r2) (rest := r1 + ((base : Int) - 2) * 1) (k := 1) p2 (ar_base hb (by decide) q2) rfl
  have s2 := divs_step (base := base) (r := r1) (rest := 1) (k := 2) p1 (ar_base hb (by decide) q1) rfl
  generalize r3 + (base : Int) * (r2 + ((base : Int) - 1) * (r1 + ((base : Int) - 2) * 1)) = N at *
  have n1 : numAt base N 1 = r2 + ((base : Int) - 1) * (r1 + ((base : Int) - 2) * 1) := s0.1
  have n2 : numAt base N 2 = r1 + ((base : Int) - 2) * 1 := by
    show numAt base N 1 / ((base : Int) - ((1 : Nat) : Int)) = _
    rw [n1]; exact s1.1
  have n3 : numAt base N 3 = 1 := by
    show numAt base N 2 / ((base : Int) - ((2 : Nat) : Int)) = _
    rw [n2]; exact s2.1
  rw [n3]
  show [N % ((base : Int) - ((0 : Nat) : Int)), numAt base N 1 % ((base : Int) - ((1 : Nat) : Int)), numAt base N 2 % ((base : Int) - ((2 : Nat) : Int))] ++ [1] = _
  rw [n1, n2, s0.2]
  have e1 := s1.2
  have e2 := s2.2
  rw [show (((1 : Nat) : Int)) = 1 from rfl] at *
  rw [show (((2 : Nat) : Int)) = 2 from rfl] at *
  rw [e1, e2]
  rfl
theorem board_len {top : Nat} : ∀ {n low : Nat} {hs : List Nat}, hs ∈ boards top n low → hs.length = n
  | 0, _, hs, h => by rw [List.mem_singleton.mp h]; rfl
  | n + 1, low, hs, h => by
    obtain ⟨x, _, h⟩ := List.mem_flatMap.mp h
    split at h
    · obtain ⟨r, hr, rfl⟩ := List.mem_map.mp h
      rw [List.length_cons, board_len (low := x) hr]
    · cases h
theorem told_rooks {base many : Nat} {hs : List Nat} (hmany : many = 3 ∨ many = 4) (hm : hs ∈ boards many many 0) (hb : 140 ≤ base) : toldAt base (prodOf base many (spanOf many hs)) many ++ [numAt base (prodOf base many (spanOf many hs)) many] = rookNums hs := by
  have hl := board_len (top := many) hm
  rcases hmany with rfl | rfl
  · rcases hs with _ | ⟨a, _ | ⟨b, _ | ⟨c, _ | ⟨d, r⟩⟩⟩⟩
    · cases hl
    · cases hl
    · cases hl
    · exact told3 hm hb
    · simp at hl
  · rcases hs with _ | ⟨a, _ | ⟨b, _ | ⟨c, _ | ⟨d, _ | ⟨e, r⟩⟩⟩⟩⟩
    · cases hl
    · cases hl
    · cases hl
    · cases hl
    · exact told4 hm hb
    · simp at hl
end

noncomputable section
example : True := by -- walkOff_D51
  w_top off
  exact True.intro
noncomputable def wsB (many : Nat) (hs : List Nat) : WsSt := wsOf (leadsOf (spanOf many hs))
noncomputable def rawB (many : Nat) (hs : List Nat) : WsSt := wsOf (leadsOf (spanOf many hs) ++ [9])
noncomputable def oneOf (sp : List Nat) (z : Nat) : Int := (z : Int) * (((sp.map fun d => d / z + 1).sum : Nat) : Int)
noncomputable def maxL (l : List Nat) : Nat := l.foldl max 0
noncomputable def goodW (many : Nat) (hs : List Nat) : Bool :=
  ((wsB many hs).b == 0) && ((List.range 10).all fun i => decide (ilv (i + 1) (wsB many hs) = oneOf (spanOf many hs) (i + 1)) && decide (ilv (i + 1) (rawB many hs) = oneOf (spanOf many hs) (i + 1) + ((i + 1 : Nat) : Int))) &&
    decide (runOf (wsB many hs) = (maxL (spanOf many hs) : Nat)) && decide (runOf (rawB many hs) = (maxL (spanOf many hs) : Nat)) && decide (maxL (spanOf many hs) ≤ 9) && ((spanOf many hs).all fun d => decide (d ≤ 9))
theorem goodW3 : ((boards 3 3 0).all (goodW 3)) = true := by decide +kernel
theorem goodW4 : ((boards 4 4 0).all (goodW 4)) = true := by decide +kernel
noncomputable def pairOk (many : Nat) : Bool := let L := (boards many many 0).map fun hs => ((wsB many hs).count, rookR hs); L.all fun p => L.all fun q => (p.1 == q.1) == (p.2 == q.2)
theorem pair3 : pairOk 3 = true := by decide +kernel
theorem pair4 : pairOk 4 = true := by decide +kernel
end

noncomputable section
example : True := by -- walkOff_D52
  w_top off
  exact True.intro
noncomputable def UpL (top : Nat) : Nat → List Nat → Prop
  | _, [] => True
  | low, h :: r => low ≤ h ∧ h ≤ top ∧ UpL top h r
theorem up_mem {top : Nat} : ∀ (hs : List Nat) (low : Nat), UpL top low hs → hs ∈ boards top hs.length low
  | [], _, _ => .head _
  | h :: r, low, u => by
    have ih := up_mem r h u.2.2
    refine List.mem_flatMap.mpr ⟨h, List.mem_range.mpr (Nat.lt_succ_of_le u.2.1), ?_⟩
    rw [if_pos u.1]
    exact List.mem_map_of_mem ih
noncomputable def climbL (top : Nat) : Nat → List Nat → List Nat
  | _, [] => []
  | t, x :: cs => min top (t + x % 3) :: climbL top (min top (t + x % 3)) cs
theorem climbL_up {top : Nat} : ∀ (cs : List Nat) (t : Nat), t ≤ top → UpL top t (climbL top t cs)
  | [], _, _ => True.intro
  | x :: cs, t, h => ⟨Nat.le_min.mpr ⟨h, Nat.le_add_right ..⟩, Nat.min_le_left .., climbL_up cs _ (Nat.min_le_left ..)⟩
theorem climbL_len {top : Nat} : ∀ (cs : List Nat) (t : Nat), (climbL top t cs).length = cs.length
  | [], _ => rfl
  | x :: cs, t => by rw [climbL, List.length_cons, List.length_cons, climbL_len cs]
theorem climb_fold {top : Nat} : ∀ (cs : List Nat) (t : Nat) (acc : List Nat), (cs.foldl (climbStep top) (t, acc)).2 = acc ++ climbL top t cs
  | [], _, acc => (List.append_nil acc).symm
  | x :: cs, t, acc => by
    rw [List.foldl_cons, climbStep, climb_fold cs, climbL, List.append_assoc]; rfl
theorem climb_board {top : Nat} (cs : List Nat) : climb top cs ∈ boards top cs.length 0 := by
  have e : climb top cs = climbL top 0 cs := climb_fold cs 0 []
  have h := up_mem _ 0 (climbL_up cs 0 (Nat.zero_le top))
  rw [climbL_len] at h
  rw [e]; exact h
theorem conj3 : ((boards 3 3 0).all fun hs => decide (conjOf 3 hs ∈ boards 3 3 0) && decide (moreOf 3 hs ∈ boards 3 3 0)) = true := by decide +kernel
theorem conj4 : ((boards 4 4 0).all fun hs => decide (conjOf 4 hs ∈ boards 4 4 0) && decide (moreOf 4 hs ∈ boards 4 4 0)) = true := by decide +kernel
theorem second_board {many kd : Nat} {hs cs : List Nat} (hmany : many = 3 ∨ many = 4) (hm : hs ∈ boards many many 0) (hc : cs.length = 9) : secondOf kd many hs cs ∈ boards many many 0 := by
  have key : conjOf many hs ∈ boards many many 0 ∧ moreOf many hs ∈ boards many many 0 := by
    rcases hmany with rfl | rfl
    · have := List.all_eq_true.mp conj3 _ hm
      rw [Bool.and_eq_true] at this
      exact ⟨of_decide_eq_true this.1, of_decide_eq_true this.2⟩
    · have := List.all_eq_true.mp conj4 _ hm
      rw [Bool.and_eq_true] at this
      exact ⟨of_decide_eq_true this.1, of_decide_eq_true this.2⟩
  unfold secondOf
  split
  · exact key.1
  split
  · have h := climb_board (top := many) ((cs.drop 4).take many)
    rw [show ((cs.drop 4).take many).length = many by rw [List.length_take, List.length_drop, hc]; omega] at h
    exact h
  · exact key.2
theorem board_first {many : Nat} {cs : List Nat} (hmany : many = 3 ∨ many = 4) (hc : cs.length = 9) : climb many (cs.take many) ∈ boards many many 0 := by
  have h := climb_board (top := many) (cs.take many)
  rw [show (cs.take many).length = many by rw [List.length_take, hc]; omega] at h
  exact h
theorem goodW_of {many : Nat} {hs : List Nat} (hmany : many = 3 ∨ many = 4) (hm : hs ∈ boards many many 0) : goodW many hs = true := by
  rcases hmany with rfl | rfl
  · exact List.all_eq_true.mp goodW3 _ hm
  · exact List.all_eq_true.mp goodW4 _ hm
theorem goodW_facts {many : Nat} {hs : List Nat} (h : goodW many hs = true) : (wsB many hs).b = 0 ∧ (∀ i, i < 10 → ilv (i + 1) (wsB many hs) = oneOf (spanOf many hs) (i + 1) ∧ ilv (i + 1) (rawB many hs) = oneOf (spanOf many hs) (i + 1) + ((i + 1 : Nat) : Int)) ∧
    runOf (wsB many hs) = (maxL (spanOf many hs) : Nat) ∧ runOf (rawB many hs) = (maxL (spanOf many hs) : Nat) ∧ maxL (spanOf many hs) ≤ 9 ∧ ∀ d ∈ spanOf many hs, d ≤ 9 := by
  unfold goodW at h
  simp only [Bool.and_eq_true] at h
  obtain ⟨⟨⟨⟨⟨h1, h2⟩, h3⟩, h4⟩, h5⟩, h6⟩ := h
  refine ⟨eq_of_beq h1, fun i hi => ?_, of_decide_eq_true h3, of_decide_eq_true h4, of_decide_eq_true h5, fun d hd => of_decide_eq_true (List.all_eq_true.mp h6 d hd)⟩
  have := List.all_eq_true.mp h2 i (List.mem_range.mpr hi)
  rw [Bool.and_eq_true] at this
  exact ⟨of_decide_eq_true this.1, of_decide_eq_true this.2⟩
theorem pair_of {many : Nat} {f g : List Nat} (hmany : many = 3 ∨ many = 4) (hf : f ∈ boards many many 0) (hg : g ∈ boards many many 0) : ((wsB many f).count == (wsB many g).count) = (rookR f == rookR g) := by
  have hp : pairOk many = true := by rcases hmany with rfl | rfl; exact pair3; exact pair4
  unfold pairOk at hp
  have h1 := List.all_eq_true.mp hp _ (List.mem_map_of_mem (f := fun hs => ((wsB many hs).count, rookR hs)) hf)
  have h2 := List.all_eq_true.mp h1 _ (List.mem_map_of_mem (f := fun hs => ((wsB many hs).count, rookR hs)) hg)
  exact eq_of_beq h2
end

noncomputable section
example : True := by -- walkOff_D48
  w_top off
  exact True.intro
section
variable {A : Around} {s : Shared} {g : Heap} {L : Nat} {m : Str → Option Value} {p : Program} {loose : List Str} {mean : ExcName → Option Value} {mg mb : Str → Option Value} {Q : Flow → Shared → Prop} {K : Flow → Shared → Prop} {E : Value → Shared → Prop}
  {o1 o2 o3 o4 o5 o6 o7 : Obj} {tl lx R : List (Addr × Obj)}
theorem law_s11 (hh : A.handled = none) (F : Fr g L s.heap m) (N : News g L s.heap R)
    (hQ : ∀ (D : Nat) h' tk, (∀ q ∈ R, q.1 ≠ D) → Fr g L h' (fun y => if y = Str.ofString "due" then some (.ref D) else m y) → News g L h' ((D, listOf #[] 0) :: R) → Q .next { s with heap := h', toks := tk }) :
    wpAny (model prog w) A (exec (stmtLaw w.params 11) (envLaw w.params L)) Q E s := by
  dsimp only [stmtLaw, envLaw, law229, Option.getD, List.getElem?_cons_succ, List.getElem?_cons_zero]
  repeat walk1
  with_reducible rename Fr _ _ _ _ => F7
  with_reducible rename News _ _ _ _ => N7
  exact hQ _ _ _ (fun q hq => Nat.ne_of_lt (Heap.lt_size (N q hq).1)) F7 N7
theorem law_s14 (hh : A.handled = none) (F : Fr g L s.heap m) (N : News g L s.heap R)
    (hQ : ∀ (D : Nat) h' tk, (∀ q ∈ R, q.1 ≠ D) → Fr g L h' (fun y => if y = Str.ofString "due" then some (.ref D) else m y) → News g L h' ((D, listOf #[] 0) :: R) → Q .next { s with heap := h', toks := tk }) :
    wpAny (model prog w) A (exec (stmtLaw w.params 14) (envLaw w.params L)) Q E s := by
  dsimp only [stmtLaw, envLaw, law229, Option.getD, List.getElem?_cons_succ, List.getElem?_cons_zero]
  repeat walk1
  with_reducible rename Fr _ _ _ _ => F7
  with_reducible rename News _ _ _ _ => N7
  exact hQ _ _ _ (fun q hq => Nat.ne_of_lt (Heap.lt_size (N q hq).1)) F7 N7
theorem perm48a {α : Type} {a b TL R : List α} {d w v : α} : List.Perm ((d :: (a ++ (b ++ TL))) ++ (w :: v :: R)) (w :: v :: d :: (a ++ (b ++ (TL ++ R)))) := permT [[d], a, b, TL, [w], [v], R] (.p (.p (.a 0) (.p (.a 1) (.p (.a 2) (.a 3)))) (.p (.a 4) (.p (.a 5) (.a 6)))) (.p (.a 4) (.p (.a 5) (.p (.a 0) (.p (.a 1) (.p (.a 2) (.p (.a 3) (.a 6))))))) rfl
theorem perm48b {α : Type} {a b R : List α} {w v : α} : List.Perm (w :: v :: (a ++ (b ++ R))) ((a ++ b) ++ (w :: v :: R)) := permT [[w], [v], a, b, R] (.p (.a 0) (.p (.a 1) (.p (.a 2) (.p (.a 3) (.a 4))))) (.p (.p (.a 2) (.a 3)) (.p (.a 0) (.p (.a 1) (.a 4)))) rfl
set_option maxHeartbeats 4000000 in
theorem law_s13 {W D nW nD : Nat} {a b : WsP} {vs us dv : List Value} {l l2 : List Nat} {σ τ : WsSt} {rows : List (List Int)} {TD : List (Addr × Obj)} (ha : a.Apart) (hb : b.Apart) (hI : IntsAre vs σ.count) (hJ : IntsAre us τ.count) (hc : σ.count.length ≤ 1000) (hc2 : τ.count.length ≤ 1000) (hb1 : σ.b ≤ 1000) (hb2 : τ.b ≤ 1000)
    (hW : witRows σ τ (max (runOf σ) (runOf τ) + 1).toNat = rows) (hD : TupsAre dv rows TD)
    (hnd : Nd ((a.led w.params l σ vs ++ b.led w.params l2 τ us) ++ ((W, listOf #[.ref a.x, .ref b.x] nW) :: (D, listOf dv.toArray nD) :: (TD ++ R))))
    (hh : A.handled = none) (X : (hdK.heap_1 w.params).In g) (T : Top p loose mean mg mb g) (hdep : A.depth + 200 < recursionLimit) (hu : A.units + 3000 < cLine)
    (hsay : Says m [(Str.ofString "leads", .ref W), (Str.ofString "due", .ref D)])
    (F : Fr g L s.heap m) (N : News g L s.heap ((W, listOf #[.ref a.x, .ref b.x] nW) :: (D, listOf dv.toArray nD) :: (a.led w.params l σ vs ++ (b.led w.params l2 τ us ++ (TD ++ R)))))
    (hQ : ∀ h' tk, Fr g L h' m → News g L h' ((W, listOf #[.ref a.x, .ref b.x] nW) :: (D, listOf dv.toArray nD) :: (a.led w.params l σ vs ++ (b.led w.params l2 τ us ++ (TD ++ R)))) → Q .next { s with heap := h', toks := tk }) :
    wpAny (model prog w) A (exec (stmtLaw w.params 13) (envLaw w.params L)) Q E s := by
  have hcLine : cLine = 9900 := rfl
  have hrec : recursionLimit = 1000 := rfl
  have hab : ∀ q ∈ b.led w.params l2 τ us, ∀ p ∈ a.led w.params l σ vs, p.1 ≠ q.1 := hnd.left.sep
  dsimp only [stmtLaw, envLaw, law229, Option.getD, List.getElem?_cons_succ, List.getElem?_cons_zero]
  have F := Mine.Fr.said F hsay
  have N0 := N
  generalize hRT : TD ++ R = RT at N
  repeat walk1
  refine Meets.call ((W, listOf #[.ref a.x, .ref b.x] nW) :: (D, listOf dv.toArray nD) :: (TD ++ R)) (not_equal (w := w) (prog := prog) (l := l) (l2 := l2) ha hb hab hI hJ hc hc2 hb1 hb2) F (newsP N0 perm48b) X T (fun p hp => List.mem_append_left _ hp) (fun p hp => List.mem_append_right _ hp) hnd.sep hh (by first | exact ar_lim hdep (by decide) | exact ar_limD hdep (by decide) | omega) (by first | exact ar_lim hu (by decide) | exact ar_limU hu (by decide) | omega) ?_
  intro n₁ v l₁ h₂ tk₂ hp F3 N3 p1 p2 p3 p4
  obtain ⟨D2, nD2, xs, TL, rfl, hxs, hndl, rfl⟩ := hp
  have N4 := newsP N3 perm48a
  rw [hW] at hxs
  generalize hRU : (D2, listOf xs.toArray nD2) :: (a.led w.params l σ vs ++ (b.led w.params l2 τ us ++ (TL ++ (TD ++ R)))) = RU at N4
  clear N F
  repeat walk1
  rw [← hRU] at N4
  refine ne_rows (News.isList N4 (.tail _ (.tail _ (.head _)))) hxs (fun p hp => (N4 p (.tail _ (.tail _ (.tail _ (List.mem_append_right _ (List.mem_append_right _ (List.mem_append_left _ hp))))))).1) (News.isList N4 (.tail _ (.head _))) hD (fun p hp => (N4 p (.tail _ (.tail _ (.tail _ (List.mem_append_right _ (List.mem_append_right _ (List.mem_append_right _ (List.mem_append_left _ hp)))))))).1) (by omega) ?_
  rw [show decide (rows = rows) = true from decide_eq_true rfl]
  repeat walk1
  refine hQ _ _ (Mine.Fr.unsaid F3 hsay) (fun p hp => N4 p ?_)
  rcases List.mem_cons.mp hp with rfl | hp
  · exact .head _
  rcases List.mem_cons.mp hp with rfl | hp
  · exact .tail _ (.head _)
  refine .tail _ (.tail _ (.tail _ ?_))
  rcases List.mem_append.mp hp with hp | hp
  · exact List.mem_append_left _ hp
  refine List.mem_append_right _ ?_
  rcases List.mem_append.mp hp with hp | hp
  · exact List.mem_append_left _ hp
  · exact List.mem_append_right _ (List.mem_append_right _ hp)
end
end

noncomputable section
example : True := by -- walkOff_D49
  w_top off
  exact True.intro
theorem perm49a {α : Type} {a b TL R : List α} {d w v : α} : List.Perm ((d :: (a ++ (b ++ TL))) ++ (w :: v :: R)) (w :: v :: d :: (a ++ (b ++ (TL ++ R)))) := permT [[d], a, b, TL, [w], [v], R] (.p (.p (.a 0) (.p (.a 1) (.p (.a 2) (.a 3)))) (.p (.a 4) (.p (.a 5) (.a 6)))) (.p (.a 4) (.p (.a 5) (.p (.a 0) (.p (.a 1) (.p (.a 2) (.p (.a 3) (.a 6))))))) rfl
theorem perm49b {α : Type} {a b R : List α} {w v : α} : List.Perm (b ++ (w :: v :: (a ++ R))) ((a ++ b) ++ (w :: v :: R)) := permT [b, [w], [v], a, R] (.p (.a 0) (.p (.a 1) (.p (.a 2) (.p (.a 3) (.a 4))))) (.p (.p (.a 3) (.a 0)) (.p (.a 1) (.p (.a 2) (.a 4)))) rfl
section
variable {A : Around} {s : Shared} {g : Heap} {L : Nat} {m : Str → Option Value} {p : Program} {loose : List Str} {mean : ExcName → Option Value} {mg mb : Str → Option Value} {Q : Flow → Shared → Prop} {K : Flow → Shared → Prop} {E : Value → Shared → Prop}
  {o1 o2 o3 o4 o5 o6 o7 : Obj} {tl lx R : List (Addr × Obj)}
set_option maxHeartbeats 4000000 in
theorem law_s16 {W D nW nD : Nat} {a : WsP} {vb : Value} {vs dv : List Value} {l : List Nat} {σ τ : WsSt} {rows : List (List Int)} {TD : List (Addr × Obj)} (ha : a.Apart) (hI : IntsAre vs σ.count) (hσ : σ = wsOf l) (hτ : τ = wsOf (l ++ [9])) (hl : l.length ≤ 100) (hbl : Blank l)
    (hW : witRows σ τ (max (runOf σ) (runOf τ) + 1).toNat = rows) (hD : TupsAre dv rows TD)
    (hnd : Nd (a.led w.params l σ vs ++ ((W, listOf #[.ref a.x, vb] nW) :: (D, listOf dv.toArray nD) :: (TD ++ R))))
    (hh : A.handled = none) (X : (hdK.heap_1 w.params).In g) (T : Top p loose mean mg mb g) (hdep : A.depth + 200 < recursionLimit) (hu : A.units + 3000 < cLine)
    (hsay : Says m [(Str.ofString "leads", .ref W), (Str.ofString "due", .ref D)])
    (F : Fr g L s.heap m) (N : News g L s.heap ((W, listOf #[.ref a.x, vb] nW) :: (D, listOf dv.toArray nD) :: (a.led w.params l σ vs ++ (TD ++ R))))
    (hQ : ∀ h' tk, Fr g L h' m → News g L h' ((W, listOf #[.ref a.x, vb] nW) :: (D, listOf dv.toArray nD) :: (a.led w.params l σ vs ++ (TD ++ R))) → Q .next { s with heap := h', toks := tk }) :
    wpAny (model prog w) A (exec (stmtLaw w.params 16) (envLaw w.params L)) Q E s := by
  have hcLine : cLine = 9900 := rfl
  have hrec : recursionLimit = 1000 := rfl
  dsimp only [stmtLaw, envLaw, law229, Option.getD, List.getElem?_cons_succ, List.getElem?_cons_zero]
  have F := Mine.Fr.said F hsay
  have N0 := N
  generalize hRT : TD ++ R = RT at N
  repeat walk1
  have hw1 := wsOf_len l
  have hw2 := wsOf_len (l ++ [9])
  rw [List.length_append, List.length_singleton] at hw2
  rw [show Str.ofString "\t" = txt [9] from rfl]
  refine add_txt (a := l) (b := [9]) (by rw [List.length_singleton]; omega) (fun t1 k1 => ?_)
  repeat walk1
  refine Meets.call ((W, listOf #[.ref a.x, vb] nW) :: (D, listOf dv.toArray nD) :: (a.led w.params l σ vs ++ (TD ++ R))) (whitespace (w := w) (prog := prog) (l := l ++ [9]) (by rw [List.length_append, List.length_singleton]; omega) (fun c hc => ?_)) F N0 X T (fun p hp => nomatch hp) (fun p hp => hp) (fun q hq p hp => nomatch hp) hh (by first | exact ar_lim hdep (by decide) | exact ar_limD hdep (by decide) | omega) (by first | exact ar_lim hu (by decide) | exact ar_limU hu (by decide) | omega) ?_
  · rcases List.mem_append.mp hc with hc | hc
    · exact hbl c hc
    · exact .inr (List.mem_singleton.mp hc)
  intro n₁ v l₁ h₂ tk₂ hp F3 N3 p1 p2 p3 p4
  obtain ⟨x, dx, hdx, hdx2, rfl, b, us, hbx, hbd, b3, b4, b5, b6, b7, hJ, rfl⟩ := hp
  subst hbx hbd
  have hb : b.Apart := ⟨hdx2, b3, b4, b5, b6, b7⟩
  have hab : ∀ q ∈ b.led w.params (l ++ [9]) (wsOf (l ++ [9])) us, ∀ p ∈ a.led w.params l σ vs, p.1 ≠ q.1 := fun q hq p hp => Ne.symm (p4 p (.tail _ (.tail _ (List.mem_append_left _ hp))) q hq)
  have N4 := newsP N3 perm49b
  rw [← hτ] at hJ hab N4 p4
  subst hσ
  clear N N3 F
  generalize hRU : (a.led w.params l (wsOf l) vs ++ b.led w.params (l ++ [9]) τ us) ++ ((W, listOf #[.ref a.x, vb] nW) :: (D, listOf dv.toArray nD) :: (TD ++ R)) = RU at N4
  repeat walk1
  refine Meets.call ((W, listOf #[.ref a.x, vb] nW) :: (D, listOf dv.toArray nD) :: (TD ++ R)) (not_equal (w := w) (prog := prog) (l := l) (l2 := l ++ [9]) ha hb hab hI hJ (by omega) (by rw [hτ]; omega) (by omega) (by rw [hτ]; omega)) F3 N4 X T (fun p hp => hRU ▸ List.mem_append_left _ hp) (fun p hp => hRU ▸ List.mem_append_right _ hp) (fun q hq p hp => ?_) hh (by first | exact ar_lim hdep (by decide) | exact ar_limD hdep (by decide) | omega) (by first | exact ar_lim hu (by decide) | exact ar_limU hu (by decide) | omega) ?_
  · rcases List.mem_append.mp hp with hp | hp
    · exact hnd.sep q hq p hp
    · refine p4 q ?_ p hp
      rcases List.mem_cons.mp hq with rfl | hq
      · exact .head _
      rcases List.mem_cons.mp hq with rfl | hq
      · exact .tail _ (.head _)
      · exact .tail _ (.tail _ (List.mem_append_right _ hq))
  intro n₂ v l₂ h₃ tk₃ hp F5 N5 r1 r2 r3 r4
  obtain ⟨D2, nD2, xs, TL, rfl, hxs, hndl, rfl⟩ := hp
  have N6 := newsP N5 perm49a
  rw [hW] at hxs
  generalize hRV : (D2, listOf xs.toArray nD2) :: (a.led w.params l (wsOf l) vs ++ (b.led w.params (l ++ [9]) τ us ++ (TL ++ (TD ++ R)))) = RV at N6
  clear N4 F3 N5
  repeat walk1
  rw [← hRV] at N6
  refine ne_rows (News.isList N6 (.tail _ (.tail _ (.head _)))) hxs (fun p hp => (N6 p (.tail _ (.tail _ (.tail _ (List.mem_append_right _ (List.mem_append_right _ (List.mem_append_left _ hp))))))).1) (News.isList N6 (.tail _ (.head _))) hD (fun p hp => (N6 p (.tail _ (.tail _ (.tail _ (List.mem_append_right _ (List.mem_append_right _ (List.mem_append_right _ (List.mem_append_left _ hp)))))))).1) (by omega) ?_
  rw [show decide (rows = rows) = true from decide_eq_true rfl]
  repeat walk1
  refine hQ _ _ (Mine.Fr.unsaid F5 hsay) (fun p hp => N6 p ?_)
  rcases List.mem_cons.mp hp with rfl | hp
  · exact .head _
  rcases List.mem_cons.mp hp with rfl | hp
  · exact .tail _ (.head _)
  refine .tail _ (.tail _ (.tail _ ?_))
  rcases List.mem_append.mp hp with hp | hp
  · exact List.mem_append_left _ hp
  · exact List.mem_append_right _ (List.mem_append_right _ (List.mem_append_right _ hp))
end
end

noncomputable section
example : True := by -- walkOff_D53
  w_top off
  exact True.intro
section
variable {A : Around} {s : Shared} {g : Heap} {L : Nat} {m : Str → Option Value} {p : Program} {loose : List Str} {mean : ExcName → Option Value} {mg mb : Str → Option Value} {Q : Flow → Shared → Prop} {K : Flow → Shared → Prop} {E : Value → Shared → Prop}
  {o1 o2 o3 o4 o5 o6 o7 : Obj} {tl lx R : List (Addr × Obj)}
theorem perm53x {α : Type} {a b R : List α} {w v t u : α} : List.Perm (w :: v :: t :: u :: (a ++ (b ++ R))) ((a ++ b) ++ (w :: v :: t :: u :: R)) := permT [[w], [v], [t], [u], a, b, R] (.p (.a 0) (.p (.a 1) (.p (.a 2) (.p (.a 3) (.p (.a 4) (.p (.a 5) (.a 6))))))) (.p (.p (.a 4) (.a 5)) (.p (.a 0) (.p (.a 1) (.p (.a 2) (.p (.a 3) (.a 6)))))) rfl
set_option maxHeartbeats 4000000 in
theorem law_s17 {W V T1 T2 nW nV n1 n2 : Nat} {a b : WsP} {vs us ys zs : List Value} {l l2 : List Nat} {σ τ : WsSt} {ns ms : List Int} (ha : a.Apart) (hb : b.Apart) (hI : IntsAre vs σ.count) (hJ : IntsAre us τ.count) (hc : σ.count.length ≤ 10000) (hc2 : τ.count.length ≤ 10000)
    (hys : IntsAre ys ns) (hzs : IntsAre zs ms) (hnl : ns.length ≤ 10) (hml : ms.length ≤ 10) (hb0 : σ.b = 0) (hb1 : τ.b = 0) (hP : (σ.count == τ.count) = (ns == ms))
    (hnd : Nd ((a.led w.params l σ vs ++ b.led w.params l2 τ us) ++ ((W, listOf #[.ref a.x, .ref b.x] nW) :: (V, listOf #[.ref T1, .ref T2] nV) :: (T1, listOf ys.toArray n1) :: (T2, listOf zs.toArray n2) :: R)))
    (hh : A.handled = none) (X : (hdK.heap_1 w.params).In g) (T : Top p loose mean mg mb g) (hdep : A.depth + 200 < recursionLimit) (hu : A.units + 3000 < cLine)
    (hsay : Says m [(Str.ofString "leads", .ref W), (Str.ofString "tables", .ref V)])
    (F : Fr g L s.heap m) (N : News g L s.heap ((W, listOf #[.ref a.x, .ref b.x] nW) :: (V, listOf #[.ref T1, .ref T2] nV) :: (T1, listOf ys.toArray n1) :: (T2, listOf zs.toArray n2) :: (a.led w.params l σ vs ++ (b.led w.params l2 τ us ++ R))))
    (hQ : ∀ h' tk, Fr g L h' m → News g L h' ((a.led w.params l σ vs ++ b.led w.params l2 τ us) ++ ((W, listOf #[.ref a.x, .ref b.x] nW) :: (V, listOf #[.ref T1, .ref T2] nV) :: (T1, listOf ys.toArray n1) :: (T2, listOf zs.toArray n2) :: R)) → Q (.ret (.bool true)) { s with heap := h', toks := tk }) :
    wpAny (model prog w) A (exec (stmtLaw w.params 17) (envLaw w.params L)) Q E s := by
  have hcLine : cLine = 9900 := rfl
  have hrec : recursionLimit = 1000 := rfl
  dsimp only [stmtLaw, envLaw, law229, Option.getD, List.getElem?_cons_succ, List.getElem?_cons_zero]
  have F := Mine.Fr.said F hsay
  have N0 := N
  repeat walk1
  refine Meets.call ((W, listOf #[.ref a.x, .ref b.x] nW) :: (V, listOf #[.ref T1, .ref T2] nV) :: (T1, listOf ys.toArray n1) :: (T2, listOf zs.toArray n2) :: R) (ws_equal (w := w) (prog := prog) (l := l) (l2 := l2) ha hb hI hJ hc hc2) F (newsP N0 perm53x) X T (fun p hp => List.mem_append_left _ hp) (fun p hp => List.mem_append_right _ hp) hnd.sep hh (by first | exact ar_lim hdep (by decide) | exact ar_limD hdep (by decide) | omega) (by first | exact ar_lim hu (by decide) | exact ar_limU hu (by decide) | omega) ?_
  intro n₁ v l₁ h₂ tk₂ hp F3 N3 p1 p2 p3 p4
  obtain ⟨rfl, rfl⟩ := hp
  have N4 := newsP N3 perm53x.symm
  clear N N0 F
  repeat walk1
  have e : (decide (σ.count = τ.count ∧ σ.b = τ.b) == decide (ns = ms)) = true := by
    rw [hb0, hb1]
    by_cases h1 : σ.count = τ.count
    · rw [h1, beq_self_eq_true] at hP
      have h2 : ns = ms := eq_of_beq hP.symm
      rw [decide_eq_true h2, decide_eq_true ⟨h1, rfl⟩]; rfl
    · rw [beq_false_of_ne h1] at hP
      have h2 : ¬ ns = ms := fun e => by rw [e, beq_self_eq_true] at hP; cases hP
      rw [decide_eq_false h2, decide_eq_false (fun h => h1 h.1)]; rfl
  rw [e]
  exact hQ _ _ (Mine.Fr.unsaid F3 hsay) N3
end
end

noncomputable section
example : True := by -- walkOff_D55
  w_top off
  exact True.intro
noncomputable def body12 (P : Params) : { b : List Stmt // loopBody (stmtLaw P 12) = b } := ⟨_, rfl⟩
theorem sum_bound {B : Nat} : ∀ {l : List Nat}, (∀ x ∈ l, x ≤ B) → l.sum ≤ B * l.length
  | [], _ => Nat.zero_le _
  | x :: l, h => by
    have h1 := sum_bound (l := l) fun y hy => h y (.tail _ hy)
    have h2 := h x (.head _)
    rw [List.sum_cons, List.length_cons, Nat.mul_succ]
    omega
theorem ints_two {zv : List Value} {x y : Int} (h : IntsAre zv [x, y]) : ∃ t u, zv = [.int x t, .int y u] := by
  cases h with
  | cons _ t h => cases h with
    | cons _ u h => cases h; exact ⟨t, u, rfl⟩
section
variable {A : Around} {s : Shared} {g : Heap} {L : Nat} {m : Str → Option Value} {p : Program} {loose : List Str} {mean : ExcName → Option Value} {mg mb : Str → Option Value} {Q : Flow → Shared → Prop} {K : Flow → Shared → Prop} {E : Value → Shared → Prop}
  {o1 o2 o3 o4 o5 o6 o7 : Obj} {tl lx R : List (Addr × Obj)}
set_option maxHeartbeats 4000000 in
theorem size_turn {W S1 S2 nW n1 n2 z : Nat} {tz : Tok} {vs us : List Value} {sp sq : List Nat} (hz : 0 < z) (hz10 : z ≤ 11) (hI : IntsAre vs (asInts sp)) (hJ : IntsAre us (asInts sq)) (hl1 : sp.length ≤ 4) (hl2 : sq.length ≤ 4) (h9 : ∀ d ∈ sp, d ≤ 9) (h9' : ∀ d ∈ sq, d ≤ 9)
    (hh : A.handled = none) (X : (hdK.heap_1 w.params).In g) (T : Top p loose mean mg mb g) (hdep : A.depth + 200 < recursionLimit) (hu : A.units + 3000 < cLine) (d7 : cellV o7 (.int (z : Int) tz))
    (hsay : Says m [(Str.ofString "lengths", .ref W)])
    (F : Fr g L s.heap m) (N : News g L s.heap ((W, listOf #[.ref S1, .ref S2] nW) :: (S1, listOf vs.toArray n1) :: (S2, listOf us.toArray n2) :: (L + 1 + 1 + 1 + 1 + 1 + 1 + 1, o7) :: R))
    (hQ : ∀ h' tk t1 t2, Fr g L h' (fun y => if y = Str.ofString "other" then some (.int (oneOf sq z) t2) else if y = Str.ofString "one" then some (.int (oneOf sp z) t1) else m y) → News g L h' ((W, listOf #[.ref S1, .ref S2] nW) :: (S1, listOf vs.toArray n1) :: (S2, listOf us.toArray n2) :: (L + 1 + 1 + 1 + 1 + 1 + 1 + 1, o7) :: R) → Q .next { s with heap := h', toks := tk }) :
    wpAny (model prog w) A (exec (((body12 w.params).1[0]?).getD (.Pass default)) (envLaw w.params L)) Q (fun _ _ => False) s := by
  have hcLine : cLine = 9900 := rfl
  have hrec : recursionLimit = 1000 := rfl
  dsimp only [body12, loopBody, stmtLaw, envLaw, law229, Option.getD, List.getElem?_cons_succ, List.getElem?_cons_zero]
  have F := Mine.Fr.said F hsay
  iterate 1 walk1
  refine LCg.ListComp_U F rfl (by decide) rfl (by decide) rfl ?_
  repeat walk1
  refine LCg.CompSrc.ledger hh F N (.head _) (Nat.le_trans (show (#[Value.ref S1, Value.ref S2] : Array Value).size ≤ 2 from Nat.le_refl _) (by decide)) (fun g' => ?_)
  refine comp_const (n := 2) (fun k zv => IntsAre zv ([oneOf sp z, oneOf sq z].take k)) ?_ ?_ .nil
  · rintro k zv v I oI C2 oC2 D2 m₃ h3 tk3 E3 hk hzs hv hC2 hx2 F4 N4 off2 hne2
    have off20 := off2
    obtain ⟨S, ws, rs, nr, hv2, hmem, hR, hrl, hr9, hnext⟩ : ∃ (S : Nat) (ws : List Value) (rs : List Nat) (nr : Nat), v = .ref S ∧ (S, listOf ws.toArray nr) ∈ (W, listOf #[.ref S1, .ref S2] nW) :: (S1, listOf vs.toArray n1) :: (S2, listOf us.toArray n2) :: (L + 1 + 1 + 1 + 1 + 1 + 1 + 1, o7) :: R ∧ IntsAre ws (asInts rs) ∧ rs.length ≤ 4 ∧ (∀ d ∈ rs, d ≤ 9) ∧
        [oneOf sp z, oneOf sq z].take (k + 1) = [oneOf sp z, oneOf sq z].take k ++ [oneOf rs z] := by
      rcases k with _ | _ | k
      · exact ⟨S1, vs, sp, n1, (Option.some.inj hv).symm, .tail _ (.head _), hI, hl1, h9, rfl⟩
      · exact ⟨S2, us, sq, n2, (Option.some.inj hv).symm, .tail _ (.tail _ (.head _)), hJ, hl2, h9', rfl⟩
      · omega
    subst hv2
    rw [hnext]
    refine gen_K fun KK hKK => ?_
    iterate 6 walk1
    refine LCg.ListComp_U F4 rfl (by decide) rfl (by decide) rfl ?_
    repeat walk1
    have hwl : ws.length = rs.length := by rw [hR.length, asInts_len]
    refine LCg.CompSrc.ledger hh F4 N4 (.tail _ (.tail _ (.tail _ hmem))) (Nat.le_trans (show ws.toArray.size ≤ 4 by rw [List.size_toArray, hwl]; exact hrl) (by decide)) (fun g' => ?_)
    rw [List.size_toArray, hwl]
    refine comp_const (n := rs.length) (fun j zs => IntsAre zs (asInts ((rs.take j).map fun d => d / z + 1))) ?_ ?_ .nil
    · rintro j zs v I2 oI2 C3 oC3 D3 m₄ h4 tk4 E4 hj hzs2 hv3 hC3 hx3 F5 N5 off3 hne3
      have off30 := off3
      obtain ⟨tv, hv4⟩ := hR.get j _ (show (asInts rs)[j]? = some ((rs[j] : Nat) : Int) by rw [List.getElem?_map, List.getElem?_eq_getElem hj]; rfl)
      have ev : v = .int ((rs[j] : Nat) : Int) tv := by
        have : ws[j]? = some v := by simpa using hv3
        rw [this] at hv4; exact Option.some.inj hv4
      subst ev
      have hnx : asInts ((rs.take (j + 1)).map fun d => d / z + 1) = asInts ((rs.take j).map fun d => d / z + 1) ++ [((rs[j] / z + 1 : Nat) : Int)] := by
        rw [List.take_add_one, List.getElem?_eq_getElem hj, List.map_append]; exact asInts_snoc _ _
      have hd9 := hr9 _ (List.getElem_mem hj)
      generalize rs[j] = d at *
      rw [hnx]
      refine gen_K fun KT hKT => ?_
      repeat walk1
      have e : (d : Int).fdiv (z : Int) + 1 = ((d / z + 1 : Nat) : Int) := by
        rw [Int.fdiv_eq_ediv_of_nonneg _ (by omega), Int.natCast_add, Int.natCast_ediv]; rfl
      rw [e]
      exact hKT _ _ (LCg.CompEnd.intro F5 N5 _ (fun p hp => hp) off30 (.inr ⟨_, .tail _ (.tail _ (.tail _ hmem)), rfl, _, rfl⟩) ⟨rfl, snocI hzs2⟩)
    · rintro zs hzs2
      unfold LCg.FinE
      intro D4 h4 tk4 F5 N5 off3
      rw [List.take_length] at hzs2
      iterate 1 walk1
      refine sumK hh F5 N5 (News.isList N5 (.head _)) hzs2 (fun h6 tk6 t6 F6 N6 => ?_)
      rw [nat_sum]
      have hs : (rs.map fun d => d / z + 1).sum ≤ 100 := by
        have h := sum_bound (B := 10) (l := rs.map fun d => d / z + 1) fun x hx => by
          obtain ⟨d, hd, rfl⟩ := List.mem_map.mp hx
          have := hr9 d hd
          have := Nat.div_le_self d z
          omega
        rw [List.length_map] at h
        omega
      generalize hq : (rs.map fun d => d / z + 1).sum = q at *
      refine mul_int ?_ (IntMulOk.of_left (intBits_le_64 (by omega) (by omega)))
      refine hKK _ _ (LCg.CompEnd.intro F6 N6 _ (fun p hp => .tail _ hp) off20 (.inr ⟨_, .head _, rfl, _, rfl⟩) ⟨rfl, ?_⟩)
      have e1 : oneOf rs z = (z : Int) * (q : Int) := by unfold oneOf; rw [hq]
      rw [e1]
      exact snocI hzs
  · rintro zv hzs
    unfold LCg.FinE
    intro D3 h3 tk3 F4 N4 off2
    obtain ⟨t1, t2, rfl⟩ := ints_two hzs
    refine kun_list F4 N4 (News.isList N4 (.head _)) hh (by rfl) (by rfl) (fun h5 F5 N5 => ?_)
    repeat walk1
    with_reducible rename Fr _ _ _ _ => F6
    with_reducible rename News _ _ _ _ => N6
    rw [kstB_said hsay] at F6
    exact hQ _ _ t1 t2 F6 (fun p hp => N6 p (.tail _ hp))
end
end

noncomputable section
example : True := by -- walkOff_D56
  w_top off
  exact True.intro
theorem perm56 {α : Type} {a b c : α} {l : List α} : List.Perm (a :: b :: c :: l) (b :: c :: a :: l) := permT [[a], [b], [c], l] (.p (.a 0) (.p (.a 1) (.p (.a 2) (.a 3)))) (.p (.a 1) (.p (.a 2) (.p (.a 0) (.a 3)))) rfl
section
variable {A : Around} {s : Shared} {g : Heap} {L : Nat} {m : Str → Option Value} {p : Program} {loose : List Str} {mean : ExcName → Option Value} {mg mb : Str → Option Value} {Q : Flow → Shared → Prop} {K : Flow → Shared → Prop} {E : Value → Shared → Prop}
  {o1 o2 o3 o4 o5 o6 o7 : Obj} {tl lx R : List (Addr × Obj)}
set_option maxHeartbeats 4000000 in
theorem size_due {D nD z : Nat} {x y : Int} {tz t1 t2 : Tok} {dv : List Value} {rows : List (List Int)} {TD : List (Addr × Obj)} (hD : TupsAre dv rows TD) (hdl : dv.length ≤ 20) (hnd : Nd ((D, listOf dv.toArray nD) :: (L + 1 + 1 + 1 + 1 + 1 + 1 + 1, o7) :: (TD ++ R)))
    (hh : A.handled = none) (X : (hdK.heap_1 w.params).In g) (T : Top p loose mean mg mb g) (hdep : A.depth + 200 < recursionLimit) (hu : A.units + 3000 < cLine) (d7 : cellV o7 (.int (z : Int) tz))
    (hsay : Says m [(Str.ofString "one", .int x t1), (Str.ofString "other", .int y t2), (Str.ofString "due", .ref D)])
    (F : Fr g L s.heap m) (N : News g L s.heap ((D, listOf dv.toArray nD) :: (L + 1 + 1 + 1 + 1 + 1 + 1 + 1, o7) :: (TD ++ R)))
    (hQ : ∀ h' tk nD' dv' TD', TupsAre dv' (rows ++ if x ≠ y then [[(z : Int), x, y]] else []) TD' → dv'.length ≤ dv.length + 1 → Nd ((D, listOf dv'.toArray nD') :: (L + 1 + 1 + 1 + 1 + 1 + 1 + 1, o7) :: (TD' ++ R)) → Fr g L h' m → News g L h' ((D, listOf dv'.toArray nD') :: (L + 1 + 1 + 1 + 1 + 1 + 1 + 1, o7) :: (TD' ++ R)) → Q .next { s with heap := h', toks := tk }) :
    wpAny (model prog w) A (exec (((body12 w.params).1[1]?).getD (.Pass default)) (envLaw w.params L)) Q (fun _ _ => False) s := by
  have hcLine : cLine = 9900 := rfl
  have hrec : recursionLimit = 1000 := rfl
  dsimp only [body12, loopBody, stmtLaw, envLaw, law229, Option.getD, List.getElem?_cons_succ, List.getElem?_cons_zero]
  have F := Mine.Fr.said F hsay
  have hDR := hnd.hd
  dsimp only at hDR
  generalize hRT : TD ++ R = RT at N hDR
  repeat walk1
  · have hxy : x ≠ y := by assumption
    with_reducible rename Fr _ _ _ (kstB _ _) => F5
    with_reducible rename News _ _ _ (_ :: _ :: _ :: _) => N5
    with_reducible rename _ < _ ∧ _ < _ ∧ _ => hlt
    rename_i D' _ _
    subst hRT
    rw [List.push_toArray] at N5
    rw [if_pos hxy] at hQ
    have hlow : AllLt D' ((D, listOf dv.toArray nD) :: (L + 1 + 1 + 1 + 1 + 1 + 1 + 1, o7) :: (TD ++ R)) := hlt
    have hnd2 := Nd.cons (o := { cls := .type "tuple", data := .seq #[.int (z : Int) tz, .int x t1, .int y t2] }) hnd (fun q hq => Nat.ne_of_lt (lowAll hlow q hq))
    exact hQ _ _ _ _ _ (TupsAre.snoc (us := [.int (z : Int) tz, .int x t1, .int y t2]) _ _ _ hD rfl rfl (.cons _ _ (.cons _ _ (.cons _ _ .nil)))) (by rw [List.length_append]; exact Nat.le_refl _) ((hnd2.perm perm56).same rfl) (Mine.Fr.unsaid F5 hsay) (newsP N5 perm56)
  have hxy : x = y := by assumption
  repeat walk1
  rw [if_neg (fun h => h hxy), List.append_nil] at hQ
  rw [← hRT] at N hDR
  exact hQ _ _ _ _ _ hD (Nat.le_succ _) hnd (Mine.Fr.unsaid F hsay) N
end
end

noncomputable section
example : True := by -- walkOff_D57
  w_top off
  exact True.intro
theorem foldmax : ∀ (l : List Nat) (a : Nat), a ≤ l.foldl max a ∧ (∀ d ∈ l, d ≤ l.foldl max a) ∧ (l.foldl max a = a ∨ l.foldl max a ∈ l)
  | [], a => ⟨Nat.le_refl _, (fun d hd => nomatch hd), .inl rfl⟩
  | x :: l, a => by
    obtain ⟨h1, h2, h3⟩ := foldmax l (max a x)
    rw [List.foldl_cons]
    refine ⟨Nat.le_trans (Nat.le_max_left ..) h1, fun d hd => ?_, ?_⟩
    · rcases List.mem_cons.mp hd with rfl | hd
      · exact Nat.le_trans (Nat.le_max_right ..) h1
      · exact h2 d hd
    · rcases h3 with h3 | h3
      · rw [h3]
        rcases Nat.le_total a x with h | h
        · exact .inr (by rw [Nat.max_eq_right h]; exact .head _)
        · exact .inl (Nat.max_eq_left h)
      · exact .inr (.tail _ h3)
theorem maxL_is {l : List Nat} {k : Nat} (h : k ∈ l) (h2 : ∀ d ∈ l, d ≤ k) : maxL l = k := by
  obtain ⟨_, h3, h4⟩ := foldmax l 0
  unfold maxL
  refine Nat.le_antisymm ?_ (h3 k h)
  rcases h4 with e | e
  · rw [e]; exact Nat.zero_le _
  · exact h2 _ e
theorem maxL_app (l k : List Nat) : maxL (l ++ k) = max (maxL l) (maxL k) := by
  unfold maxL
  rw [List.foldl_append]
  obtain ⟨h1, h2, h3⟩ := foldmax k (l.foldl max 0)
  obtain ⟨g1, g2, g3⟩ := foldmax k 0
  refine Nat.le_antisymm ?_ (Nat.max_le.mpr ⟨h1, ?_⟩)
  · rcases h3 with e | e
    · rw [e]; exact Nat.le_max_left ..
    · exact Nat.le_trans (g2 _ e) (Nat.le_max_right ..)
  · rcases g3 with e | e
    · rw [e]; exact Nat.zero_le _
    · exact h2 _ e
noncomputable def dueRows (sp sq : List Nat) : Nat → List (List Int)
  | 0 => []
  | k + 1 => dueRows sp sq k ++ if oneOf sp (k + 1) ≠ oneOf sq (k + 1) then [[((k + 1 : Nat) : Int), oneOf sp (k + 1), oneOf sq (k + 1)]] else []
theorem dueRows_wit {many : Nat} {f g : List Nat} (hf : goodW many f = true) (hg : goodW many g = true) : ∀ k, k ≤ 10 → dueRows (spanOf many f) (spanOf many g) k = witRows (wsB many f) (wsB many g) k
  | 0, _ => rfl
  | k + 1, hk => by
    have h1 := ((goodW_facts hf).2.1 k (by omega)).1
    have h2 := ((goodW_facts hg).2.1 k (by omega)).1
    rw [dueRows, witRows, dueRows_wit hf hg k (by omega), h1, h2]
inductive J12 (L W D S1 S2 nW n1 n2 : Nat) (vs us : List Value) (sp sq : List Nat) (R : List (Addr × Obj)) (m : Str → Option Value) (i : Nat) (m₁ : Str → Option Value) : List (Addr × Obj) → Prop
  | mk (o7 : Obj) (c7 : Option Value) (nD : Nat) (dv : List Value) (TD : List (Addr × Obj)) (hD : TupsAre dv (dueRows sp sq i) TD) (hdl : dv.length ≤ i) (d7 : o7.data = .cell c7)
      (hnd : Nd ((D, listOf dv.toArray nD) :: (L + 1 + 1 + 1 + 1 + 1 + 1 + 1, o7) :: (TD ++ ((W, listOf #[.ref S1, .ref S2] nW) :: (S1, listOf vs.toArray n1) :: (S2, listOf us.toArray n2) :: R))))
      (hm : ∀ y, y ≠ Str.ofString "one" → y ≠ Str.ofString "other" → m₁ y = m y) :
      J12 L W D S1 S2 nW n1 n2 vs us sp sq R m i m₁ ((D, listOf dv.toArray nD) :: (L + 1 + 1 + 1 + 1 + 1 + 1 + 1, o7) :: (TD ++ ((W, listOf #[.ref S1, .ref S2] nW) :: (S1, listOf vs.toArray n1) :: (S2, listOf us.toArray n2) :: R)))
theorem perm57a {α : Type} {d c w s t : α} {TD R O : List α} : List.Perm ((d :: c :: (TD ++ (w :: s :: t :: R))) ++ O) (c :: (d :: (TD ++ (w :: s :: t :: (R ++ O))))) := permT [[d], [c], TD, [w], [s], [t], R, O] (.p (.p (.a 0) (.p (.a 1) (.p (.a 2) (.p (.a 3) (.p (.a 4) (.p (.a 5) (.a 6))))))) (.a 7)) (.p (.a 1) (.p (.a 0) (.p (.a 2) (.p (.a 3) (.p (.a 4) (.p (.a 5) (.p (.a 6) (.a 7)))))))) rfl
theorem perm57b {α : Type} {d c w s t : α} {TD R : List α} : List.Perm (c :: (d :: (TD ++ (w :: s :: t :: R)))) (w :: s :: t :: c :: (d :: (TD ++ R))) := permT [[c], [d], TD, [w], [s], [t], R] (.p (.a 0) (.p (.a 1) (.p (.a 2) (.p (.a 3) (.p (.a 4) (.p (.a 5) (.a 6))))))) (.p (.a 3) (.p (.a 4) (.p (.a 5) (.p (.a 0) (.p (.a 1) (.p (.a 2) (.a 6))))))) rfl
theorem perm57c {α : Type} {d c w s t : α} {TD R : List α} : List.Perm (w :: s :: t :: c :: (d :: (TD ++ R))) (d :: c :: (TD ++ (w :: s :: t :: R))) := permT [[w], [s], [t], [c], [d], TD, R] (.p (.a 0) (.p (.a 1) (.p (.a 2) (.p (.a 3) (.p (.a 4) (.p (.a 5) (.a 6))))))) (.p (.a 4) (.p (.a 3) (.p (.a 5) (.p (.a 0) (.p (.a 1) (.p (.a 2) (.a 6))))))) rfl
theorem perm57e {α : Type} {i d c w s t : α} {TD R : List α} : List.Perm (i :: d :: c :: (TD ++ (w :: s :: t :: R))) (c :: (d :: (TD ++ (w :: s :: t :: (R ++ [i]))))) := permT [[i], [d], [c], TD, [w], [s], [t], R] (.p (.a 0) (.p (.a 1) (.p (.a 2) (.p (.a 3) (.p (.a 4) (.p (.a 5) (.p (.a 6) (.a 7)))))))) (.p (.a 2) (.p (.a 1) (.p (.a 3) (.p (.a 4) (.p (.a 5) (.p (.a 6) (.p (.a 7) (.p (.a 0) .o)))))))) rfl
theorem perm57f {α : Type} {d c : α} {l : List α} : List.Perm (c :: d :: l) (d :: c :: l) := permT [[c], [d], l] (.p (.a 0) (.p (.a 1) (.a 2))) (.p (.a 1) (.p (.a 0) (.a 2))) rfl
theorem perm57g {α : Type} {i d c w s t : α} {TD R : List α} : List.Perm (d :: c :: (TD ++ (w :: s :: t :: (R ++ [i])))) (i :: (d :: c :: (TD ++ (w :: s :: t :: R)))) := permT [[d], [c], TD, [w], [s], [t], R, [i]] (.p (.a 0) (.p (.a 1) (.p (.a 2) (.p (.a 3) (.p (.a 4) (.p (.a 5) (.p (.a 6) (.p (.a 7) .o)))))))) (.p (.a 7) (.p (.a 0) (.p (.a 1) (.p (.a 2) (.p (.a 3) (.p (.a 4) (.p (.a 5) (.a 6)))))))) rfl
theorem perm57d {α : Type} {d c w s t : α} {TD R O : List α} : List.Perm (d :: c :: (TD ++ (w :: s :: t :: (R ++ O)))) ((d :: c :: (TD ++ (w :: s :: t :: R))) ++ O) := permT [[d], [c], TD, [w], [s], [t], R, O] (.p (.a 0) (.p (.a 1) (.p (.a 2) (.p (.a 3) (.p (.a 4) (.p (.a 5) (.p (.a 6) (.a 7)))))))) (.p (.p (.a 0) (.p (.a 1) (.p (.a 2) (.p (.a 3) (.p (.a 4) (.p (.a 5) (.a 6))))))) (.a 7)) rfl
section
variable {A : Around} {s : Shared} {g : Heap} {L : Nat} {m : Str → Option Value} {p : Program} {loose : List Str} {mean : ExcName → Option Value} {mg mb : Str → Option Value} {E : Value → Shared → Prop}
  {o7 : Obj} {lx : List (Addr × Obj)}
set_option maxHeartbeats 2000000 in
theorem size_cell {K : Unit → Shared → Prop} {px : Pos} {z : Int} {u : Tok} (hh : A.handled = none) (X : (hdK.heap_1 w.params).In g) (T : Top p loose mean mg mb g)
    {c7 : Option Value} (d7 : o7.data = .cell c7) (hx7 : ∀ p ∈ lx, p.1 ≠ L + 1 + 1 + 1 + 1 + 1 + 1 + 1)
    (F : Fr g L s.heap m) (N : News g L s.heap ((L + 1 + 1 + 1 + 1 + 1 + 1 + 1, o7) :: lx))
    (hK : ∀ o7' h' tk, cellV o7' (.int z u) → Fr g L h' m → News g L h' ((L + 1 + 1 + 1 + 1 + 1 + 1 + 1, o7') :: lx) → K () { s with heap := h', toks := tk }) :
    wpAny (model prog w) A (assign (.Name (Str.ofString "size") px) (envLaw w.params L) (.int z u)) K E s := by
  have hcLine : cLine = 9900 := rfl
  have hrec : recursionLimit = 1000 := rfl
  dsimp only [envLaw, law229]
  repeat walk1
  rename_i d8
  with_reducible rename Fr _ _ _ _ => F1
  with_reducible rename News _ _ _ _ => N1
  exact hK _ _ _ d8 F1 N1
end
section
variable {A : Around} {s : Shared} {g : Heap} {L : Nat} {m : Str → Option Value} {p : Program} {loose : List Str} {mean : ExcName → Option Value} {mg mb : Str → Option Value} {Q : Flow → Shared → Prop} {K : Flow → Shared → Prop} {E : Value → Shared → Prop}
  {o1 o2 o3 o4 o5 o6 o7 : Obj} {tl lx R : List (Addr × Obj)}
theorem body12_eq (P : Params) : (body12 P).1 = [((body12 P).1[0]?).getD (.Pass default), ((body12 P).1[1]?).getD (.Pass default)] := rfl
set_option maxHeartbeats 4000000 in
theorem law_s12 {W D S1 S2 nW n1 n2 : Nat} {vs us : List Value} {sp sq : List Nat} {c7 : Option Value} (d7 : o7.data = .cell c7) (hI : IntsAre vs (asInts sp)) (hJ' : IntsAre us (asInts sq)) (hl1 : sp.length ≤ 4) (hl2 : sq.length ≤ 4) (hp0 : sp ≠ []) (h9 : ∀ d ∈ sp, d ≤ 9) (h9' : ∀ d ∈ sq, d ≤ 9)
    (hh : A.handled = none) (X : (hdK.heap_1 w.params).In g) (T : Top p loose mean mg mb g) (hdep : A.depth + 200 < recursionLimit) (hu : A.units + 3000 < cLine)
    (hnd : Nd ((D, listOf #[] 0) :: (L + 1 + 1 + 1 + 1 + 1 + 1 + 1, o7) :: ((W, listOf #[.ref S1, .ref S2] nW) :: (S1, listOf vs.toArray n1) :: (S2, listOf us.toArray n2) :: R)))
    (hsay : Says m [(Str.ofString "lengths", .ref W), (Str.ofString "due", .ref D)])
    (F : Fr g L s.heap m) (N : News g L s.heap ((D, listOf #[] 0) :: (L + 1 + 1 + 1 + 1 + 1 + 1 + 1, o7) :: ((W, listOf #[.ref S1, .ref S2] nW) :: (S1, listOf vs.toArray n1) :: (S2, listOf us.toArray n2) :: R)))
    (hQ : ∀ h' tk m' news, J12 L W D S1 S2 nW n1 n2 vs us sp sq R m (max (maxL sp) (maxL sq) + 1) m' news → Fr g L h' m' → News g L h' news → Q .next { s with heap := h', toks := tk }) :
    wpAny (model prog w) A (exec (stmtLaw w.params 12) (envLaw w.params L)) Q (fun _ _ => False) s := by
  have hcLine : cLine = 9900 := rfl
  have hrec : recursionLimit = 1000 := rfl
  dsimp only [stmtLaw, envLaw, law229, Option.getD, List.getElem?_cons_succ, List.getElem?_cons_zero]
  refine For_turns F ?_
  have F := Mine.Fr.said F hsay
  repeat walk1
  with_reducible rename Fr _ _ _ _ => F2
  with_reducible rename News _ _ _ _ => N2
  with_reducible rename IntsAre _ (asInts sp ++ asInts sq) => hI2
  refine max_list_N hh F2 N2 (News.isList N2 (.head _)) hI2 (by rw [List.length_append, asInts_len]; have := List.length_pos_iff.mpr hp0; omega) (fun h3 M t3 tk3 F3 N3 hM1 hM2 => ?_)
  obtain ⟨mx, rfl, hmx, hmem⟩ : ∃ mx : Nat, M = (mx : Int) ∧ mx ≤ 9 ∧ mx ∈ sp ++ sq := by
    rcases List.mem_append.mp hM1 with h | h
    · obtain ⟨d, hd, rfl⟩ := List.mem_map.mp h
      exact ⟨d, rfl, h9 d hd, List.mem_append_left _ hd⟩
    · obtain ⟨d, hd, rfl⟩ := List.mem_map.mp h
      exact ⟨d, rfl, h9' d hd, List.mem_append_right _ hd⟩
  have hmax : max (maxL sp) (maxL sq) = mx := by
    rw [← maxL_app]
    refine maxL_is hmem fun d hd => ?_
    have := hM2 (d : Int) (by
      rcases List.mem_append.mp hd with hd | hd
      · exact List.mem_append_left _ (List.mem_map_of_mem hd)
      · exact List.mem_append_right _ (List.mem_map_of_mem hd))
    omega
  rw [hmax] at hQ
  clear N2 F2
  repeat walk1
  with_reducible rename IsRange _ _ _ _ _ _ _ _ => hR
  with_reducible rename Fr _ _ _ _ => F4
  with_reducible rename News _ _ _ _ => N4
  rw [show (mx : Int) + 2 = ((mx + 2 : Nat) : Int) by omega] at hR
  have N5 := fun q hq => N4 q (.tail _ hq)
  have J0 : J12 L W D S1 S2 nW n1 n2 vs us sp sq R m 0 m ((D, listOf #[] 0) :: (L + 1 + 1 + 1 + 1 + 1 + 1 + 1, o7) :: ([] ++ ((W, listOf #[.ref S1, .ref S2] nW) :: (S1, listOf vs.toArray n1) :: (S2, listOf us.toArray n2) :: R))) :=
    .mk o7 c7 0 [] [] .nil (Nat.le_refl _) d7 hnd (fun y _ _ => rfl)
  have hl := hsay _ (.head _)
  have hd := hsay _ (.tail _ (.head _))
  dsimp only at hl hd
  refine loopRangeI (a := 1) (b := mx + 2) hh (by decide) (by omega) hR (Mine.Fr.unsaid F4 hsay) N5 (J12 L W D S1 S2 nW n1 n2 vs us sp sq R m) J0 ?_ ?_
  · intro i u m₁ news₁ h tk I oI kn hi hJ F5 N5 hsep hkn
    obtain ⟨o7, c7, nD, dv, TD, hD, hdl, d7, hnd, hm⟩ := hJ
    rw [Nat.add_comm 1 i]
    have hnd5 := ((Nd.cons (o := oI) hnd hsep).perm perm57e)
    refine size_cell hh X T d7 hnd5.hd F5 (newsP N5 perm57a) ?_
    intro o7' h6 tk6 d7' F6 N6
    have hl6 : m₁ (Str.ofString "lengths") = some (.ref W) := by rw [hm _ (by decide) (by decide)]; exact hl
    have hd6 : m₁ (Str.ofString "due") = some (.ref D) := by rw [hm _ (by decide) (by decide)]; exact hd
    have hi11 : i + 1 ≤ 11 := by omega
    have hnd6 : Nd ((D, listOf dv.toArray nD) :: (L + 1 + 1 + 1 + 1 + 1 + 1 + 1, o7') :: (TD ++ ((W, listOf #[.ref S1, .ref S2] nW) :: (S1, listOf vs.toArray n1) :: (S2, listOf us.toArray n2) :: (R ++ [(I, oI)])))) := (hnd5.perm perm57f).same rfl
    show wpAny (model prog w) A (execs (body12 w.params).1 (envLaw w.params L)) _ _ _
    rw [body12_eq]
    refine wpAny_execs_cons (size_turn (z := i + 1) (by omega) hi11 hI hJ' hl1 hl2 h9 h9' hh X T hdep hu d7' (says_cons hl6 says_nil) F6 (newsP N6 perm57b) ?_)
    intro h7 tk7 t1 t2 F7 N7
    dsimp only
    refine wpAny_execs_cons (size_due (z := i + 1) (R := (W, listOf #[.ref S1, .ref S2] nW) :: (S1, listOf vs.toArray n1) :: (S2, listOf us.toArray n2) :: (R ++ [(I, oI)])) (o7 := o7') hD (by omega) hnd6 hh X T hdep hu d7' (says_cons (by exact rfl) (says_cons (by exact rfl) (says_cons (by exact hd6) says_nil))) F7 (newsP N7 perm57c) ?_)
    intro h8 tk8 nD' dv' TD' hD' hdl' hnd' F8 N8
    dsimp only
    have hndI := (hnd'.perm perm57g).hd
    refine wpAny_execs_nil (hkn h8 tk8 _ _ F8 (newsP N8 perm57d) hndI (.mk o7' _ nD' dv' TD' hD' (by omega) d7' (hnd'.perm perm57d).left (fun y h1 h2 => ?_)))
    show (if y = Str.ofString "other" then _ else if y = Str.ofString "one" then _ else m₁ y) = m y
    rw [if_neg h2, if_neg h1]; exact hm y h1 h2
  · intro h tk m₁ news₁ hJ F5 N5
    exact hQ h tk m₁ news₁ hJ F5 N5
end
end

noncomputable section
example : True := by -- walkOff_D58
  w_top off
  exact True.intro
noncomputable def body15 (P : Params) : { b : List Stmt // loopBody (stmtLaw P 15) = b } := ⟨_, rfl⟩
section
variable {A : Around} {s : Shared} {g : Heap} {L : Nat} {m : Str → Option Value} {p : Program} {loose : List Str} {mean : ExcName → Option Value} {mg mb : Str → Option Value} {Q : Flow → Shared → Prop} {K : Flow → Shared → Prop} {E : Value → Shared → Prop}
  {o1 o2 o3 o4 o5 o6 o7 : Obj} {tl lx R : List (Addr × Obj)}
set_option maxHeartbeats 4000000 in
theorem raw_one {W S1 nW n1 z : Nat} {tz : Tok} {v2 : Value} {vs : List Value} {sp : List Nat} (hz : 0 < z) (hz10 : z ≤ 11) (hI : IntsAre vs (asInts sp)) (hl1 : sp.length ≤ 4) (h9 : ∀ d ∈ sp, d ≤ 9)
    (hh : A.handled = none) (X : (hdK.heap_1 w.params).In g) (T : Top p loose mean mg mb g) (hdep : A.depth + 200 < recursionLimit) (hu : A.units + 3000 < cLine) (d7 : cellV o7 (.int (z : Int) tz))
    (hsay : Says m [(Str.ofString "lengths", .ref W)])
    (F : Fr g L s.heap m) (N : News g L s.heap ((W, listOf #[.ref S1, v2] nW) :: (S1, listOf vs.toArray n1) :: (L + 1 + 1 + 1 + 1 + 1 + 1 + 1, o7) :: R))
    (hQ : ∀ h' tk t1, Fr g L h' (fun y => if y = Str.ofString "one" then some (.int (oneOf sp z) t1) else m y) → News g L h' ((W, listOf #[.ref S1, v2] nW) :: (S1, listOf vs.toArray n1) :: (L + 1 + 1 + 1 + 1 + 1 + 1 + 1, o7) :: R) → Q .next { s with heap := h', toks := tk }) :
    wpAny (model prog w) A (exec (((body15 w.params).1[0]?).getD (.Pass default)) (envLaw w.params L)) Q (fun _ _ => False) s := by
  have hcLine : cLine = 9900 := rfl
  have hrec : recursionLimit = 1000 := rfl
  dsimp only [body15, loopBody, stmtLaw, envLaw, law229, Option.getD, List.getElem?_cons_succ, List.getElem?_cons_zero]
  have F := Mine.Fr.said F hsay
  iterate 7 walk1
  refine LCg.ListComp_U F rfl (by decide) rfl (by decide) rfl ?_
  repeat walk1
  have hwl : vs.length = sp.length := by rw [hI.length, asInts_len]
  refine LCg.CompSrc.ledger hh F N (.tail _ (.head _)) (Nat.le_trans (show vs.toArray.size ≤ 4 by rw [List.size_toArray, hwl]; exact hl1) (by decide)) (fun g' => ?_)
  rw [List.size_toArray, hwl]
  refine comp_const (n := sp.length) (fun j zs => IntsAre zs (asInts ((sp.take j).map fun d => d / z + 1))) ?_ ?_ .nil
  · rintro j zs v I2 oI2 C3 oC3 D3 m₄ h4 tk4 E4 hj hzs2 hv3 hC3 hx3 F5 N5 off3 hne3
    have off30 := off3
    obtain ⟨tv, hv4⟩ := hI.get j _ (show (asInts sp)[j]? = some ((sp[j] : Nat) : Int) by rw [List.getElem?_map, List.getElem?_eq_getElem hj]; rfl)
    have ev : v = .int ((sp[j] : Nat) : Int) tv := by
      have : vs[j]? = some v := by simpa using hv3
      rw [this] at hv4; exact Option.some.inj hv4
    subst ev
    have hnx : asInts ((sp.take (j + 1)).map fun d => d / z + 1) = asInts ((sp.take j).map fun d => d / z + 1) ++ [((sp[j] / z + 1 : Nat) : Int)] := by
      rw [List.take_add_one, List.getElem?_eq_getElem hj, List.map_append]; exact asInts_snoc _ _
    have hd9 := h9 _ (List.getElem_mem hj)
    generalize sp[j] = d at *
    rw [hnx]
    refine gen_K fun KT hKT => ?_
    repeat walk1
    have e : (d : Int).fdiv (z : Int) + 1 = ((d / z + 1 : Nat) : Int) := by
      rw [Int.fdiv_eq_ediv_of_nonneg _ (by omega), Int.natCast_add, Int.natCast_ediv]; rfl
    rw [e]
    exact hKT _ _ (LCg.CompEnd.intro F5 N5 _ (fun p hp => hp) off30 (.inr ⟨_, .tail _ (.head _), rfl, _, rfl⟩) ⟨rfl, snocI hzs2⟩)
  · rintro zs hzs2
    unfold LCg.FinE
    intro D4 h4 tk4 F5 N5 off3
    rw [List.take_length] at hzs2
    iterate 1 walk1
    refine sumK hh F5 N5 (News.isList N5 (.head _)) hzs2 (fun h6 tk6 t6 F6 N6 => ?_)
    rw [nat_sum]
    have hs : (sp.map fun d => d / z + 1).sum ≤ 100 := by
      have h := sum_bound (B := 10) (l := sp.map fun d => d / z + 1) fun x hx => by
        obtain ⟨d, hd, rfl⟩ := List.mem_map.mp hx
        have := h9 d hd
        have := Nat.div_le_self d z
        omega
      rw [List.length_map] at h
      omega
    have e1 : oneOf sp z = (z : Int) * (((sp.map fun d => d / z + 1).sum : Nat) : Int) := rfl
    rw [e1] at hQ
    generalize hq : (sp.map fun d => d / z + 1).sum = q at *
    refine mul_int ?_ (IntMulOk.of_left (intBits_le_64 (by omega) (by omega)))
    repeat walk1
    with_reducible rename Fr _ _ _ _ => F7
    with_reducible rename News _ _ _ _ => N7
    rw [kstB_said hsay] at F7
    exact hQ _ _ _ F7 (fun p hp => N7 p (.tail _ hp))
set_option maxHeartbeats 4000000 in
theorem raw_due {D nD z : Nat} {x : Int} {tz t1 : Tok} {dv : List Value} {rows : List (List Int)} {TD : List (Addr × Obj)} (hD : TupsAre dv rows TD) (hdl : dv.length ≤ 20) (hnd : Nd ((D, listOf dv.toArray nD) :: (L + 1 + 1 + 1 + 1 + 1 + 1 + 1, o7) :: (TD ++ R)))
    (hh : A.handled = none) (X : (hdK.heap_1 w.params).In g) (T : Top p loose mean mg mb g) (hdep : A.depth + 200 < recursionLimit) (hu : A.units + 3000 < cLine) (d7 : cellV o7 (.int (z : Int) tz))
    (hsay : Says m [(Str.ofString "one", .int x t1), (Str.ofString "due", .ref D)])
    (F : Fr g L s.heap m) (N : News g L s.heap ((D, listOf dv.toArray nD) :: (L + 1 + 1 + 1 + 1 + 1 + 1 + 1, o7) :: (TD ++ R)))
    (hQ : ∀ h' tk nD' dv' TD', TupsAre dv' (rows ++ [[(z : Int), x, x + (z : Int)]]) TD' → dv'.length ≤ dv.length + 1 → Nd ((D, listOf dv'.toArray nD') :: (L + 1 + 1 + 1 + 1 + 1 + 1 + 1, o7) :: (TD' ++ R)) → Fr g L h' m → News g L h' ((D, listOf dv'.toArray nD') :: (L + 1 + 1 + 1 + 1 + 1 + 1 + 1, o7) :: (TD' ++ R)) → Q .next { s with heap := h', toks := tk }) :
    wpAny (model prog w) A (exec (((body15 w.params).1[1]?).getD (.Pass default)) (envLaw w.params L)) Q (fun _ _ => False) s := by
  have hcLine : cLine = 9900 := rfl
  have hrec : recursionLimit = 1000 := rfl
  dsimp only [body15, loopBody, stmtLaw, envLaw, law229, Option.getD, List.getElem?_cons_succ, List.getElem?_cons_zero]
  have F := Mine.Fr.said F hsay
  have hDR := hnd.hd
  dsimp only at hDR
  generalize hRT : TD ++ R = RT at N hDR
  repeat walk1
  with_reducible rename Fr _ _ _ (kstB _ _) => F5
  with_reducible rename News _ _ _ (_ :: _ :: _ :: _) => N5
  with_reducible rename _ < _ ∧ _ < _ ∧ _ => hlt
  rename_i D' _ _
  subst hRT
  rw [List.push_toArray] at N5
  have hlow : AllLt D' ((D, listOf dv.toArray nD) :: (L + 1 + 1 + 1 + 1 + 1 + 1 + 1, o7) :: (TD ++ R)) := hlt
  have hnd2 := Nd.cons (o := listOf #[] 0) hnd (fun q hq => Nat.ne_of_lt (lowAll hlow q hq))
  refine hQ _ _ _ _ _ (TupsAre.snoc (us := [.int (z : Int) tz, .int x t1, .int (x + (z : Int)) _]) _ _ _ hD rfl rfl (.cons _ _ (.cons _ _ (.cons _ _ .nil)))) (by rw [List.length_append]; exact Nat.le_refl _) ?_ (Mine.Fr.unsaid F5 hsay) (newsP N5 perm56)
  exact (hnd2.perm perm56).same rfl
end
end

noncomputable section
example : True := by -- walkOff_D59
  w_top off
  exact True.intro
noncomputable def rawRows (sp : List Nat) : Nat → List (List Int)
  | 0 => []
  | k + 1 => rawRows sp k ++ [[((k + 1 : Nat) : Int), oneOf sp (k + 1), oneOf sp (k + 1) + ((k + 1 : Nat) : Int)]]
theorem rawRows_wit {many : Nat} {f : List Nat} (hf : goodW many f = true) : ∀ k, k ≤ 10 → rawRows (spanOf many f) k = witRows (wsB many f) (rawB many f) k
  | 0, _ => rfl
  | k + 1, hk => by
    have h1 := (goodW_facts hf).2.1 k (by omega)
    rw [rawRows, witRows, rawRows_wit hf k (by omega), h1.1, h1.2, if_pos (by omega)]
inductive J15 (L W D S1 nW n1 : Nat) (v2 : Value) (vs : List Value) (sp : List Nat) (R : List (Addr × Obj)) (m : Str → Option Value) (i : Nat) (m₁ : Str → Option Value) : List (Addr × Obj) → Prop
  | mk (o7 : Obj) (c7 : Option Value) (nD : Nat) (dv : List Value) (TD : List (Addr × Obj)) (hD : TupsAre dv (rawRows sp i) TD) (hdl : dv.length ≤ i) (d7 : o7.data = .cell c7)
      (hnd : Nd ((D, listOf dv.toArray nD) :: (L + 1 + 1 + 1 + 1 + 1 + 1 + 1, o7) :: (TD ++ ((W, listOf #[.ref S1, v2] nW) :: (S1, listOf vs.toArray n1) :: R))))
      (hm : ∀ y, y ≠ Str.ofString "one" → m₁ y = m y) :
      J15 L W D S1 nW n1 v2 vs sp R m i m₁ ((D, listOf dv.toArray nD) :: (L + 1 + 1 + 1 + 1 + 1 + 1 + 1, o7) :: (TD ++ ((W, listOf #[.ref S1, v2] nW) :: (S1, listOf vs.toArray n1) :: R)))
theorem perm59a {α : Type} {d c w s : α} {TD R O : List α} : List.Perm ((d :: c :: (TD ++ (w :: s :: R))) ++ O) (c :: (d :: (TD ++ (w :: s :: (R ++ O))))) := permT [[d], [c], TD, [w], [s], R, O] (.p (.p (.a 0) (.p (.a 1) (.p (.a 2) (.p (.a 3) (.p (.a 4) (.a 5)))))) (.a 6)) (.p (.a 1) (.p (.a 0) (.p (.a 2) (.p (.a 3) (.p (.a 4) (.p (.a 5) (.a 6))))))) rfl
theorem perm59b {α : Type} {d c w s : α} {TD R : List α} : List.Perm (c :: (d :: (TD ++ (w :: s :: R)))) (w :: s :: c :: (d :: (TD ++ R))) := permT [[c], [d], TD, [w], [s], R] (.p (.a 0) (.p (.a 1) (.p (.a 2) (.p (.a 3) (.p (.a 4) (.a 5)))))) (.p (.a 3) (.p (.a 4) (.p (.a 0) (.p (.a 1) (.p (.a 2) (.a 5)))))) rfl
theorem perm59c {α : Type} {d c w s : α} {TD R : List α} : List.Perm (w :: s :: c :: (d :: (TD ++ R))) (d :: c :: (TD ++ (w :: s :: R))) := permT [[w], [s], [c], [d], TD, R] (.p (.a 0) (.p (.a 1) (.p (.a 2) (.p (.a 3) (.p (.a 4) (.a 5)))))) (.p (.a 3) (.p (.a 2) (.p (.a 4) (.p (.a 0) (.p (.a 1) (.a 5)))))) rfl
theorem perm59e {α : Type} {i d c w s : α} {TD R : List α} : List.Perm (i :: d :: c :: (TD ++ (w :: s :: R))) (c :: (d :: (TD ++ (w :: s :: (R ++ [i]))))) := permT [[i], [d], [c], TD, [w], [s], R] (.p (.a 0) (.p (.a 1) (.p (.a 2) (.p (.a 3) (.p (.a 4) (.p (.a 5) (.a 6))))))) (.p (.a 2) (.p (.a 1) (.p (.a 3) (.p (.a 4) (.p (.a 5) (.p (.a 6) (.p (.a 0) .o))))))) rfl
theorem perm59g {α : Type} {i d c w s : α} {TD R : List α} : List.Perm (d :: c :: (TD ++ (w :: s :: (R ++ [i])))) (i :: (d :: c :: (TD ++ (w :: s :: R)))) := permT [[d], [c], TD, [w], [s], R, [i]] (.p (.a 0) (.p (.a 1) (.p (.a 2) (.p (.a 3) (.p (.a 4) (.p (.a 5) (.p (.a 6) .o))))))) (.p (.a 6) (.p (.a 0) (.p (.a 1) (.p (.a 2) (.p (.a 3) (.p (.a 4) (.a 5))))))) rfl
theorem perm59d {α : Type} {d c w s : α} {TD R O : List α} : List.Perm (d :: c :: (TD ++ (w :: s :: (R ++ O)))) ((d :: c :: (TD ++ (w :: s :: R))) ++ O) := permT [[d], [c], TD, [w], [s], R, O] (.p (.a 0) (.p (.a 1) (.p (.a 2) (.p (.a 3) (.p (.a 4) (.p (.a 5) (.a 6))))))) (.p (.p (.a 0) (.p (.a 1) (.p (.a 2) (.p (.a 3) (.p (.a 4) (.a 5)))))) (.a 6)) rfl
section
variable {A : Around} {s : Shared} {g : Heap} {L : Nat} {m : Str → Option Value} {p : Program} {loose : List Str} {mean : ExcName → Option Value} {mg mb : Str → Option Value} {Q : Flow → Shared → Prop} {K : Flow → Shared → Prop} {E : Value → Shared → Prop}
  {o1 o2 o3 o4 o5 o6 o7 : Obj} {tl lx R : List (Addr × Obj)}
theorem body15_eq (P : Params) : (body15 P).1 = [((body15 P).1[0]?).getD (.Pass default), ((body15 P).1[1]?).getD (.Pass default)] := rfl
set_option maxHeartbeats 4000000 in
theorem law_s15 {W D S1 nW n1 : Nat} {v2 : Value} {vs : List Value} {sp : List Nat} {c7 : Option Value} (d7 : o7.data = .cell c7) (hI : IntsAre vs (asInts sp)) (hl1 : sp.length ≤ 4) (hp0 : sp ≠ []) (h9 : ∀ d ∈ sp, d ≤ 9)
    (hh : A.handled = none) (X : (hdK.heap_1 w.params).In g) (T : Top p loose mean mg mb g) (hdep : A.depth + 200 < recursionLimit) (hu : A.units + 3000 < cLine)
    (hnd : Nd ((D, listOf #[] 0) :: (L + 1 + 1 + 1 + 1 + 1 + 1 + 1, o7) :: ((W, listOf #[.ref S1, v2] nW) :: (S1, listOf vs.toArray n1) :: R)))
    (hsay : Says m [(Str.ofString "lengths", .ref W), (Str.ofString "due", .ref D)])
    (F : Fr g L s.heap m) (N : News g L s.heap ((D, listOf #[] 0) :: (L + 1 + 1 + 1 + 1 + 1 + 1 + 1, o7) :: ((W, listOf #[.ref S1, v2] nW) :: (S1, listOf vs.toArray n1) :: R)))
    (hQ : ∀ h' tk m' news, J15 L W D S1 nW n1 v2 vs sp R m (maxL sp + 1) m' news → Fr g L h' m' → News g L h' news → Q .next { s with heap := h', toks := tk }) :
    wpAny (model prog w) A (exec (stmtLaw w.params 15) (envLaw w.params L)) Q (fun _ _ => False) s := by
  have hcLine : cLine = 9900 := rfl
  have hrec : recursionLimit = 1000 := rfl
  dsimp only [stmtLaw, envLaw, law229, Option.getD, List.getElem?_cons_succ, List.getElem?_cons_zero]
  refine For_turns F ?_
  have F := Mine.Fr.said F hsay
  repeat walk1
  refine max_list_N hh F N (News.isList N (.tail _ (.tail _ (.tail _ (.head _))))) hI (by rw [asInts_len]; exact List.length_pos_iff.mpr hp0) (fun h3 M t3 tk3 F3 N3 hM1 hM2 => ?_)
  obtain ⟨mx, rfl, hmx, hmem⟩ : ∃ mx : Nat, M = (mx : Int) ∧ mx ≤ 9 ∧ mx ∈ sp := by
    obtain ⟨d, hd, rfl⟩ := List.mem_map.mp hM1
    exact ⟨d, rfl, h9 d hd, hd⟩
  have hmax : maxL sp = mx := by
    refine maxL_is hmem fun d hd => ?_
    have := hM2 (d : Int) (List.mem_map_of_mem hd)
    omega
  rw [hmax] at hQ
  clear N F
  repeat walk1
  with_reducible rename IsRange _ _ _ _ _ _ _ _ => hR
  with_reducible rename Fr _ _ _ _ => F4
  with_reducible rename News _ _ _ _ => N4
  rw [show (mx : Int) + 2 = ((mx + 2 : Nat) : Int) by omega] at hR
  have J0 : J15 L W D S1 nW n1 v2 vs sp R m 0 m ((D, listOf #[] 0) :: (L + 1 + 1 + 1 + 1 + 1 + 1 + 1, o7) :: ([] ++ ((W, listOf #[.ref S1, v2] nW) :: (S1, listOf vs.toArray n1) :: R))) :=
    .mk o7 c7 0 [] [] .nil (Nat.le_refl _) d7 hnd (fun y _ => rfl)
  have hl := hsay _ (.head _)
  have hd := hsay _ (.tail _ (.head _))
  dsimp only at hl hd
  refine loopRangeI (a := 1) (b := mx + 2) hh (by decide) (by omega) hR (Mine.Fr.unsaid F4 hsay) N4 (J15 L W D S1 nW n1 v2 vs sp R m) J0 ?_ ?_
  · intro i u m₁ news₁ h tk I oI kn hi hJ F5 N5 hsep hkn
    obtain ⟨o7, c7, nD, dv, TD, hD, hdl, d7, hnd, hm⟩ := hJ
    rw [Nat.add_comm 1 i]
    have hnd5 := ((Nd.cons (o := oI) hnd hsep).perm perm59e)
    refine size_cell hh X T d7 hnd5.hd F5 (newsP N5 perm59a) ?_
    intro o7' h6 tk6 d7' F6 N6
    have hl6 : m₁ (Str.ofString "lengths") = some (.ref W) := by rw [hm _ (by decide)]; exact hl
    have hd6 : m₁ (Str.ofString "due") = some (.ref D) := by rw [hm _ (by decide)]; exact hd
    have hi11 : i + 1 ≤ 11 := by omega
    have hnd6 : Nd ((D, listOf dv.toArray nD) :: (L + 1 + 1 + 1 + 1 + 1 + 1 + 1, o7') :: (TD ++ ((W, listOf #[.ref S1, v2] nW) :: (S1, listOf vs.toArray n1) :: (R ++ [(I, oI)])))) := (hnd5.perm perm57f).same rfl
    show wpAny (model prog w) A (execs (body15 w.params).1 (envLaw w.params L)) _ _ _
    rw [body15_eq]
    refine wpAny_execs_cons (raw_one (z := i + 1) (by omega) hi11 hI hl1 h9 hh X T hdep hu d7' (says_cons hl6 says_nil) F6 (newsP N6 perm59b) ?_)
    intro h7 tk7 t1 F7 N7
    dsimp only
    refine wpAny_execs_cons (raw_due (z := i + 1) (R := (W, listOf #[.ref S1, v2] nW) :: (S1, listOf vs.toArray n1) :: (R ++ [(I, oI)])) (o7 := o7') hD (by omega) hnd6 hh X T hdep hu d7' (says_cons (by exact rfl) (says_cons (by exact hd6) says_nil)) F7 (newsP N7 perm59c) ?_)
    intro h8 tk8 nD' dv' TD' hD' hdl' hnd' F8 N8
    dsimp only
    have hndI := (hnd'.perm perm59g).hd
    refine wpAny_execs_nil (hkn h8 tk8 _ _ F8 (newsP N8 perm59d) hndI (.mk o7' _ nD' dv' TD' hD' (by omega) d7' (hnd'.perm perm59d).left (fun y h1 => ?_)))
    show (if y = Str.ofString "one" then _ else m₁ y) = m y
    rw [if_neg h1]; exact hm y h1
  · intro h tk m₁ news₁ hJ F5 N5
    exact hQ h tk m₁ news₁ hJ F5 N5
end
end

noncomputable section
example : True := by -- walkOff_D60
  w_top off
  exact True.intro
noncomputable def keeps (x : Str) : Bool := !([Str.ofString "text", Str.ofString "lexer", Str.ofString "mail", Str.ofString "end", Str.ofString "words", Str.ofString "spans", Str.ofString "number", Str.ofString "span", Str.ofString "told", Str.ofString "k", Str.ofString "rest"].any fun y => decide (x = y))
noncomputable def Keeps (say : List (Str × Value)) : Prop := ∀ p ∈ say, keeps p.1 = true
theorem says_upd {m : Str → Option Value} {x : Str} {v : Value} {say : List (Str × Value)} (h : Says m say) (hk : Keeps say) (hx : keeps x = false) : Says (fun y => if y = x then some v else m y) say := fun p hp => by
  have : p.1 ≠ x := fun e => by have := hk p hp; rw [e, hx] at this; cases this
  show (if p.1 = x then some v else m p.1) = _
  rw [if_neg this]; exact h p hp
theorem says_same {m m' : Str → Option Value} {a b : Str} {say : List (Str × Value)} (h : Says m say) (hk : Keeps say) (hm : ∀ y, y ≠ a → y ≠ b → m' y = m y) (ha : keeps a = false) (hb : keeps b = false) : Says m' say := fun p hp => by
  have h1 : p.1 ≠ a := fun e => by have := hk p hp; rw [e, ha] at this; cases this
  have h2 : p.1 ≠ b := fun e => by have := hk p hp; rw [e, hb] at this; cases this
  rw [hm _ h1 h2]; exact h p hp
noncomputable def pdots (many : Nat) (hs : List Nat) : List Nat := (List.range many).map fun k => hs.getD k 0 + 1 + (many - 1 - k)
theorem page_text {many : Nat} {hs : List Nat} {es : List (List Nat)} (hel : es.length = many) (he : ∀ e ∈ es, IsEnd e) : quote (rowsOf (msOf (psOf many hs es) many)) = mailOf (pdots many hs) 1 := by
  have hok := msOf_ok (psOf_ok (hs := hs) hel he) many (by rw [psOf_len]; exact Nat.le_refl _)
  show stuff true (crlf (rowsOf (msOf (psOf many hs es) many))) = _
  rw [quote_rows _ hok, msOf_fst]
  unfold pdots
  congr 1
  refine List.map_congr_left fun k hk => ?_
  rw [psOf_at (List.mem_range.mp hk)]
theorem page_words (many : Nat) (hs : List Nat) : mailWords (pdots many hs) 1 = ((List.range many).map fun k => txt (rep (hs.getD k 0 + 1 + many - k))) ++ [txt []] := by
  unfold mailWords pdots
  rw [List.map_map]
  congr 1
  refine List.map_congr_left fun k hk => ?_
  have := List.mem_range.mp hk
  show txt (rep (hs.getD k 0 + 1 + (many - 1 - k) + 1)) = _
  rw [ar_span this]
noncomputable abbrev turnFrom (P : Params) (i : Nat) : List Stmt := (body10 P).1.drop i
noncomputable abbrev fixed (L hl nh el ne : Nat) (hv ev : List Value) (o2 o4 o5 : Obj) (R : List (Addr × Obj)) : List (Addr × Obj) := (hl, listOf hv.toArray nh) :: (el, listOf ev.toArray ne) :: (L + 1 + 1 + 1 + 1 + 1, o5) :: (L + 1 + 1 + 1 + 1, o4) :: (L + 1 + 1, o2) :: R
theorem perm60a {α : Type} {h e c5 c4 c2 c6 : α} {tl R : List α} : List.Perm (h :: e :: c5 :: c4 :: c2 :: c6 :: (tl ++ R)) (tl ++ (h :: e :: c5 :: c4 :: c2 :: c6 :: R)) := permT [[h], [e], [c5], [c4], [c2], [c6], tl, R] (.p (.a 0) (.p (.a 1) (.p (.a 2) (.p (.a 3) (.p (.a 4) (.p (.a 5) (.p (.a 6) (.a 7)))))))) (.p (.a 6) (.p (.a 0) (.p (.a 1) (.p (.a 2) (.p (.a 3) (.p (.a 4) (.p (.a 5) (.a 7)))))))) rfl
theorem perm60b {α : Type} {h e c5 c4 c2 c6 : α} {LED R : List α} : List.Perm (LED ++ (h :: e :: c5 :: c4 :: c2 :: c6 :: R)) (LED ++ (e :: c4 :: (h :: c5 :: c2 :: c6 :: R))) := permT [LED, [h], [e], [c5], [c4], [c2], [c6], R] (.p (.a 0) (.p (.a 1) (.p (.a 2) (.p (.a 3) (.p (.a 4) (.p (.a 5) (.p (.a 6) (.a 7)))))))) (.p (.a 0) (.p (.a 2) (.p (.a 4) (.p (.a 1) (.p (.a 3) (.p (.a 5) (.p (.a 6) (.a 7)))))))) rfl
theorem perm60c {α : Type} {h e c5 c4 c2 c6 : α} {LED R : List α} : List.Perm (LED ++ (e :: c4 :: (h :: c5 :: c2 :: c6 :: R))) (LED ++ (c6 :: (h :: e :: c5 :: c4 :: c2 :: R))) := permT [LED, [e], [c4], [h], [c5], [c2], [c6], R] (.p (.a 0) (.p (.a 1) (.p (.a 2) (.p (.a 3) (.p (.a 4) (.p (.a 5) (.p (.a 6) (.a 7)))))))) (.p (.a 0) (.p (.a 6) (.p (.a 3) (.p (.a 1) (.p (.a 4) (.p (.a 2) (.p (.a 5) (.a 7)))))))) rfl
section
variable {A : Around} {s : Shared} {g : Heap} {L : Nat} {m : Str → Option Value} {p : Program} {loose : List Str} {mean : ExcName → Option Value} {mg mb : Str → Option Value} {K : Flow → Shared → Prop}
  {o1 o2 o3 o4 o5 o6 o7 : Obj} {tl lx R : List (Addr × Obj)}
set_option maxHeartbeats 4000000 in
theorem turn_A {hl nh el ne many : Nat} {tm : Tok} {hv ev : List Value} {hs : List Nat} {es : List (List Nat)} {say : List (Str × Value)} (hH : IntsAre hv (asInts hs)) (hE : StrsAre ev (es.map txt)) (hhl : hs.length = many) (hel : es.length = many) (hm4 : many ≤ 4) (hh4 : ∀ h ∈ hs, h ≤ 4) (he : ∀ e ∈ es, IsEnd e)
    (hC1 : ∀ g, (hdK.heap_1 w.params).In g → CodeHd g 211 207) (ht : TabL tl) (hh : A.handled = none) (X : (hdK.heap_1 w.params).In g) (T : Top p loose mean mg mb g)
    (hdep : A.depth + 200 < recursionLimit) (hu : A.units + 3000 < cLine) (d2 : cellV o2 (.int (many : Int) tm)) (d4 : cellV o4 (.ref el)) (d5 : cellV o5 (.ref hl)) {c6 : Option Value} (d6 : o6.data = .cell c6)
    (hnd : Nd (fixed L hl nh el ne hv ev o2 o4 o5 ((L + 1 + 1 + 1 + 1 + 1 + 1, o6) :: (tl ++ R)))) (hsay : Says m say) (hk : Keeps say)
    (F : Fr g L s.heap m) (N : News g L s.heap (fixed L hl nh el ne hv ev o2 o4 o5 ((L + 1 + 1 + 1 + 1 + 1 + 1, o6) :: (tl ++ R))))
    (hQ : ∀ (a b : LexP) (tl' : List (Addr × Obj)) (vs ws : List Value) (nS nT : Nat) (tn tb tT : Tok) (o6' : Obj) (m' : Str → Option Value) (h' : Heap) (tk : Nat), a.Ok tl' → b.Ok tl' → SignsAre vs (remR (psOf many hs es) many) → SignsAre ws (mailOf (pdots many hs) 1) → cellV o6' (.ref b.x) →
      Says m' ((Str.ofString "text", .str (txt (rowsOf (psOf many hs es))) tT) :: (Str.ofString "lexer", .ref a.x) :: say) →
      Nd ((b.led w.params ws nT 1 tb [] 0 ++ tl') ++ (a.led w.params vs nS (1 + nls (rowsOf (psOf many hs es)) - nls (remR (psOf many hs es) many)) tn [] 0 ++ ((L + 1 + 1 + 1 + 1 + 1 + 1, o6') :: fixed L hl nh el ne hv ev o2 o4 o5 R))) →
      Fr g L h' m' → News g L h' ((b.led w.params ws nT 1 tb [] 0 ++ tl') ++ (a.led w.params vs nS (1 + nls (rowsOf (psOf many hs es)) - nls (remR (psOf many hs es) many)) tn [] 0 ++ ((L + 1 + 1 + 1 + 1 + 1 + 1, o6') :: fixed L hl nh el ne hv ev o2 o4 o5 R))) →
      wpAny (model prog w) A (execs (turnFrom w.params 5) (envLaw w.params L)) K (fun _ _ => False) { s with heap := h', toks := tk }) :
    wpAny (model prog w) A (execs (turnFrom w.params 0) (envLaw w.params L)) K (fun _ _ => False) s := by
  have hpl := psOf_len many hs es
  have hbd := psOf_bound hhl hh4 hel he
  have htl := rows_len 5 _ hbd
  have hml := rows_len 9 (msOf (psOf many hs es) many) (fun p hp => by have := msOf_bound hbd many (by omega) p hp; exact ⟨by omega, this.2⟩)
  rw [msOf_len] at hml
  have hpt := page_text (hs := hs) hel he
  rw [show turnFrom w.params 0 = turnStmt w.params 0 :: turnStmt w.params 1 :: turnStmt w.params 2 :: turnStmt w.params 3 :: turnStmt w.params 4 :: turnFrom w.params 5 from rfl]
  refine wpAny_execs_cons (turn_0 hH hE hhl hel hm4 hh4 (fun e h => isEnd_len (he e h)) hh X T hdep hu d2 d4 d5 F N ?_)
  intro h0 tk0 tT F0 N0
  dsimp only
  have hndA := hnd.perm perm60a
  refine wpAny_execs_cons (turn_1 (x := rowsOf (psOf many hs es)) (tt := tT) hC1 ht (by omega) hh X T hdep hu hndA (says_cons (by exact rfl) says_nil) F0 (newsP N0 perm60a) ?_)
  intro h1 tk1 a tl' vs nS tn ha hndt _ hS hap F1 N1
  dsimp only
  have hndB := Nd.app (ha.nd hndt) hndA.right hap
  refine wpAny_execs_cons (turn_2 hh F1 N1 ?_)
  intro h2 tk2 t2 F2 N2
  dsimp only
  refine wpAny_execs_cons (turn_3 (a := a) (tm := t2) ha hE hhl hel hm4 hh4 he hS hh X T hdep hu d4 (hndB.perm perm60b).sep (says_cons (by exact rfl) (says_cons (by exact rfl) says_nil)) F2 (newsP N2 perm60b) ?_)
  intro h3 tk3 vs3 nS3 tn3 t3 m3 hS3 hm3 hk3 F3 N3
  dsimp only
  have hndC : Nd ((a.led w.params vs3 nS3 (1 + nls (rowsOf (psOf many hs es)) - nls (remR (psOf many hs es) many)) tn3 [] 0 ++ tl') ++ ((L + 1 + 1 + 1 + 1 + 1 + 1, o6) :: fixed L hl nh el ne hv ev o2 o4 o5 R)) := ((hndB.perm perm60b).perm perm60c).same rfl
  refine wpAny_execs_cons (turn_4 (a := a) (tm := t3) ha (by omega) hC1 hh X T hdep hu d6 hndC (says_cons hm3 says_nil) F3 (newsP N3 perm60c) ?_)
  intro h4 tk4 b ws nT tb o6' hb hW d6' hnd4 F4 N4
  dsimp only
  rw [hpt] at hW
  refine hQ a b tl' vs3 ws nS3 nT tn3 tb tT o6' m3 h4 tk4 ha hb hS3 hW d6' (says_cons ?_ (says_cons ?_ ?_)) hnd4 F4 N4
  · rw [hk3 _ (by decide) (by decide)]; rfl
  · rw [hk3 _ (by decide) (by decide)]; rfl
  · exact says_same (says_upd (says_upd (says_upd hsay hk rfl) hk rfl) hk rfl) hk hk3 rfl rfl
end
end

noncomputable section
example : True := by -- walkOff_D61
  w_top off
  exact True.intro
theorem perm61a {α : Type} {h e c5 c4 c2 c6 : α} {B tl A R : List α} : List.Perm ((B ++ tl) ++ (A ++ (c6 :: h :: e :: c5 :: c4 :: c2 :: R))) ((B ++ tl) ++ (c6 :: c2 :: (A ++ (h :: e :: c5 :: c4 :: R)))) := permT [B, tl, A, [c6], [h], [e], [c5], [c4], [c2], R] (.p (.p (.a 0) (.a 1)) (.p (.a 2) (.p (.a 3) (.p (.a 4) (.p (.a 5) (.p (.a 6) (.p (.a 7) (.p (.a 8) (.a 9))))))))) (.p (.p (.a 0) (.a 1)) (.p (.a 3) (.p (.a 8) (.p (.a 2) (.p (.a 4) (.p (.a 5) (.p (.a 6) (.p (.a 7) (.a 9))))))))) rfl
theorem perm61b {α : Type} {d h e c5 c4 c2 c6 : α} {B A R : List α} : List.Perm (d :: (B ++ (c6 :: c2 :: (A ++ (h :: e :: c5 :: c4 :: R))))) (d :: h :: c6 :: c5 :: c2 :: (B ++ (A ++ (e :: c4 :: R)))) := permT [[d], B, [c6], [c2], A, [h], [e], [c5], [c4], R] (.p (.a 0) (.p (.a 1) (.p (.a 2) (.p (.a 3) (.p (.a 4) (.p (.a 5) (.p (.a 6) (.p (.a 7) (.p (.a 8) (.a 9)))))))))) (.p (.a 0) (.p (.a 5) (.p (.a 2) (.p (.a 7) (.p (.a 3) (.p (.a 1) (.p (.a 4) (.p (.a 6) (.p (.a 8) (.a 9)))))))))) rfl
theorem mem61c {α : Type} {d h e c5 c4 c2 c6 q : α} {B tl A R : List α} (hq : q ∈ d :: c2 :: ((A ++ tl) ++ (c6 :: h :: e :: c5 :: c4 :: R))) : q ∈ d :: h :: c6 :: c5 :: c2 :: ((B ++ tl) ++ (A ++ (e :: c4 :: R))) := memT [[d], [c2], A, tl, [c6], [h], [e], [c5], [c4], R, B] (.p (.a 0) (.p (.a 1) (.p (.p (.a 2) (.a 3)) (.p (.a 4) (.p (.a 5) (.p (.a 6) (.p (.a 7) (.p (.a 8) (.a 9))))))))) (.p (.a 0) (.p (.a 5) (.p (.a 4) (.p (.a 7) (.p (.a 1) (.p (.p (.a 10) (.a 3)) (.p (.a 2) (.p (.a 6) (.p (.a 8) (.a 9)))))))))) rfl hq
theorem mem61d {α : Type} {h e c5 c4 c2 c6 d q : α} {LED R : List α} (hq : q ∈ LED ++ (c6 :: h :: e :: c5 :: c4 :: c2 :: R)) : q ∈ d :: c2 :: (LED ++ (c6 :: h :: e :: c5 :: c4 :: R)) := memT [LED, [c6], [h], [e], [c5], [c4], [c2], R, [d]] (.p (.a 0) (.p (.a 1) (.p (.a 2) (.p (.a 3) (.p (.a 4) (.p (.a 5) (.p (.a 6) (.a 7)))))))) (.p (.a 8) (.p (.a 6) (.p (.a 0) (.p (.a 1) (.p (.a 2) (.p (.a 3) (.p (.a 4) (.p (.a 5) (.a 7))))))))) rfl hq
theorem perm61e {α : Type} {B tl A R : List α} : List.Perm ((B ++ tl) ++ (A ++ R)) (B ++ ((A ++ tl) ++ R)) := permT [B, tl, A, R] (.p (.p (.a 0) (.a 1)) (.p (.a 2) (.a 3))) (.p (.a 0) (.p (.p (.a 2) (.a 1)) (.a 3))) rfl
theorem pdots_facts {many : Nat} {hs : List Nat} (hm4 : many ≤ 4) (hhl : hs.length = many) (hh4 : ∀ h ∈ hs, h ≤ 4) : ∀ d ∈ pdots many hs, 1 ≤ d ∧ d ≤ 1000 := by
  intro d hd
  obtain ⟨k, hk, rfl⟩ := List.mem_map.mp hd
  have hk := List.mem_range.mp hk
  have : hs.getD k 0 ≤ 4 := by
    rw [List.getD_eq_getElem?_getD, List.getElem?_eq_getElem (by rw [hhl]; exact hk)]
    exact hh4 _ (List.getElem_mem _)
  exact ⟨Nat.le_trans (Nat.le_add_left ..) (Nat.le_add_right ..), Nat.le_trans (Nat.add_le_add (Nat.add_le_add_right this 1) (Nat.le_trans (Nat.sub_le ..) (Nat.le_trans (Nat.sub_le ..) hm4))) (by decide)⟩
section
variable {A : Around} {s : Shared} {g : Heap} {L : Nat} {m : Str → Option Value} {p : Program} {loose : List Str} {mean : ExcName → Option Value} {mg mb : Str → Option Value} {K : Flow → Shared → Prop}
  {o1 o2 o3 o4 o5 o6 o7 : Obj} {tl lx R : List (Addr × Obj)}
set_option maxHeartbeats 4000000 in
theorem turn_B {a b : LexP} {vs ws : List Value} {nS nT hl nh el ne many : Nat} {n : Int} {tm tn tb : Tok} {hv ev : List Value} {hs : List Nat} {say : List (Str × Value)} (hb : b.Ok tl) (hW : SignsAre ws (mailOf (pdots many hs) 1)) (hH : IntsAre hv (asInts hs)) (hhl : hs.length = many) (hm4 : many ≤ 4) (hm0 : 0 < many) (hh4 : ∀ h ∈ hs, h ≤ 4)
    (hh : A.handled = none) (X : (hdK.heap_1 w.params).In g) (T : Top p loose mean mg mb g)
    (hdep : A.depth + 200 < recursionLimit) (hu : A.units + 3000 < cLine) (d2 : cellV o2 (.int (many : Int) tm)) (d5 : cellV o5 (.ref hl)) (d6 : cellV o6 (.ref b.x))
    (hnd : Nd ((b.led w.params ws nT 1 tb [] 0 ++ tl) ++ (a.led w.params vs nS n tn [] 0 ++ ((L + 1 + 1 + 1 + 1 + 1 + 1, o6) :: fixed L hl nh el ne hv ev o2 o4 o5 R)))) (hsay : Says m say)
    (F : Fr g L s.heap m) (N : News g L s.heap ((b.led w.params ws nT 1 tb [] 0 ++ tl) ++ (a.led w.params vs nS n tn [] 0 ++ ((L + 1 + 1 + 1 + 1 + 1 + 1, o6) :: fixed L hl nh el ne hv ev o2 o4 o5 R))))
    (hk : (say.all fun p => !decide (p.1 = Str.ofString "words") && !decide (p.1 = Str.ofString "spans")) = true)
    (hQ : ∀ (S : Nat) (sv : List Value) (m' : Str → Option Value) (h' : Heap) (tk : Nat), IntsAre sv (asInts (spanOf many hs)) → Says m' ((Str.ofString "spans", .ref S) :: say) →
      Nd ((S, listOf sv.toArray sv.length) :: ((a.led w.params vs nS n tn [] 0 ++ tl) ++ ((L + 1 + 1 + 1 + 1 + 1 + 1, o6) :: fixed L hl nh el ne hv ev o2 o4 o5 R))) →
      Fr g L h' m' → News g L h' ((S, listOf sv.toArray sv.length) :: ((a.led w.params vs nS n tn [] 0 ++ tl) ++ ((L + 1 + 1 + 1 + 1 + 1 + 1, o6) :: fixed L hl nh el ne hv ev o2 o4 o5 R))) →
      wpAny (model prog w) A (execs (turnFrom w.params 8) (envLaw w.params L)) K (fun _ _ => False) { s with heap := h', toks := tk }) :
    wpAny (model prog w) A (execs (turnFrom w.params 5) (envLaw w.params L)) K (fun _ _ => False) s := by
  have hpl : (pdots many hs).length = many := by simp [pdots]
  have hp0 : pdots many hs ≠ [] := fun e => by rw [e] at hpl; simp at hpl; omega
  have hndX := (hnd.perm perm61e).right
  rw [show turnFrom w.params 5 = turnStmt w.params 5 :: turnStmt w.params 6 :: turnStmt w.params 7 :: turnFrom w.params 8 from rfl]
  refine wpAny_execs_cons (turn_5 (b := b) (t := 1) hb hW (pdots_facts hm4 hhl hh4) (by decide) hpl hm4 hp0 hh X T hdep hu d2 d6 (hnd.perm perm61a) F (newsP N perm61a) ?_)
  intro D zv h5 tk5 news offD hJ F5 N5
  obtain ⟨ws5, nT5, tb5, np5, hS5, hz⟩ := hJ
  rw [List.take_of_length_le (by unfold mailWords; rw [List.length_append, List.length_map, hpl]; exact Nat.le_refl _), page_words] at hz
  have hn : 1 + nls (mailOf (pdots many hs) 1) - nls (remOf (pdots many hs) 1 (many + 1)) = 1 + (many : Int) := by
    have := rem_end (pdots many hs) 1
    rw [hpl] at this
    rw [nls_mail, hpl, this, show nls ([] : List Nat) = 0 from rfl, Int.sub_zero]
  dsimp only
  have hsD : Says (fun y => if y = Str.ofString "words" then some (.ref D) else m y) ((Str.ofString "words", .ref D) :: say) := says_cons (by exact rfl) (fun p hp => by
    have h1 := List.all_eq_true.mp hk p hp
    have : p.1 ≠ Str.ofString "words" := fun e => by rw [e] at h1; simp at h1
    show (if p.1 = _ then _ else m p.1) = _
    rw [if_neg this]; exact hsay p hp)
  refine wpAny_execs_cons (turn_6 (D := D) hb hH hhl hm4 hh4 hn hz hh X T hdep hu d2 d5 d6 (says_cons (by exact rfl) says_nil) F5 (newsP N5 perm61b) ?_)
  intro h6 tk6 F6 N6
  dsimp only
  refine wpAny_execs_cons (turn_7 (D := D) (lx := (a.led w.params vs nS n tn [] 0 ++ tl) ++ ((L + 1 + 1 + 1 + 1 + 1 + 1, o6) :: (hl, listOf hv.toArray nh) :: (el, listOf ev.toArray ne) :: (L + 1 + 1 + 1 + 1 + 1, o5) :: (L + 1 + 1 + 1 + 1, o4) :: R)) hhl hm4 hh4 hz hh X T hdep hu d2 (says_cons (by exact rfl) says_nil) F6 (fun q hq => N6 q (mem61c hq)) ?_)
  intro S sv h7 tk7 hsv offS F7 N7
  dsimp only
  refine hQ S sv _ h7 tk7 hsv (says_cons (by exact rfl) (fun p hp => ?_)) (Nd.cons hndX fun q hq => Off1.mem offS q (mem61d hq)) F7 (fun q hq => N7 q ?_)
  · have h1 := List.all_eq_true.mp hk p hp
    have : p.1 ≠ Str.ofString "spans" := fun e => by rw [e] at h1; simp at h1
    show (if p.1 = _ then _ else _) = _
    rw [if_neg this]; exact hsD p (.tail _ hp)
  · rcases List.mem_cons.mp hq with rfl | hq
    · exact .head _
    · exact .tail _ (mem61d hq)
end
end

noncomputable section
example : True := by -- walkOff_D62
  w_top off
  exact True.intro
theorem TabsOk.nd {tl : List (Addr × Obj)} (h : TabsOk tl) : Nd tl := by
  obtain ⟨t1, t2, rfl, h1, h2, h3⟩ := h
  exact h3
theorem perm62a {α : Type} {s h e c5 c4 c2 c6 : α} {LED tD R : List α} : List.Perm (s :: (LED ++ (c6 :: h :: e :: c5 :: c4 :: c2 :: (tD ++ R)))) (s :: c2 :: (LED ++ (c6 :: h :: e :: c5 :: c4 :: (tD ++ R)))) := permT [[s], LED, [c6], [h], [e], [c5], [c4], [c2], tD, R] (.p (.a 0) (.p (.a 1) (.p (.a 2) (.p (.a 3) (.p (.a 4) (.p (.a 5) (.p (.a 6) (.p (.a 7) (.p (.a 8) (.a 9)))))))))) (.p (.a 0) (.p (.a 7) (.p (.a 1) (.p (.a 2) (.p (.a 3) (.p (.a 4) (.p (.a 5) (.p (.a 6) (.p (.a 8) (.a 9)))))))))) rfl
theorem perm62b {α : Type} {d s h e c5 c4 c2 c6 : α} {LED tD R : List α} : List.Perm (d :: s :: c2 :: (LED ++ (c6 :: h :: e :: c5 :: c4 :: (tD ++ R)))) (tD ++ (d :: c2 :: (s :: (LED ++ (c6 :: h :: e :: c5 :: c4 :: R))))) := permT [[d], [s], [c2], LED, [c6], [h], [e], [c5], [c4], tD, R] (.p (.a 0) (.p (.a 1) (.p (.a 2) (.p (.a 3) (.p (.a 4) (.p (.a 5) (.p (.a 6) (.p (.a 7) (.p (.a 8) (.p (.a 9) (.a 10))))))))))) (.p (.a 9) (.p (.a 0) (.p (.a 2) (.p (.a 1) (.p (.a 3) (.p (.a 4) (.p (.a 5) (.p (.a 6) (.p (.a 7) (.p (.a 8) (.a 10))))))))))) rfl
theorem perm62c {α : Type} {d s h e c5 c4 c2 c6 : α} {LED tD R : List α} : List.Perm (tD ++ (d :: c2 :: (s :: (LED ++ (c6 :: h :: e :: c5 :: c4 :: R))))) (LED ++ (h :: c5 :: d :: (s :: (tD ++ (c6 :: e :: c4 :: c2 :: R))))) := permT [tD, [d], [c2], [s], LED, [c6], [h], [e], [c5], [c4], R] (.p (.a 0) (.p (.a 1) (.p (.a 2) (.p (.a 3) (.p (.a 4) (.p (.a 5) (.p (.a 6) (.p (.a 7) (.p (.a 8) (.p (.a 9) (.a 10))))))))))) (.p (.a 4) (.p (.a 6) (.p (.a 8) (.p (.a 1) (.p (.a 3) (.p (.a 0) (.p (.a 5) (.p (.a 7) (.p (.a 9) (.p (.a 2) (.a 10))))))))))) rfl
theorem mem62d {α : Type} {d s h e c5 c4 c2 c6 q : α} {A tl tD R : List α} (hq : q ∈ d :: s :: (tl ++ (tD ++ (c6 :: h :: e :: c5 :: c4 :: c2 :: R)))) : q ∈ (A ++ tl) ++ (h :: c5 :: d :: (s :: (tD ++ (c6 :: e :: c4 :: c2 :: R)))) := memT [[d], [s], tl, tD, [c6], [h], [e], [c5], [c4], [c2], R, A] (.p (.a 0) (.p (.a 1) (.p (.a 2) (.p (.a 3) (.p (.a 4) (.p (.a 5) (.p (.a 6) (.p (.a 7) (.p (.a 8) (.p (.a 9) (.a 10))))))))))) (.p (.p (.a 11) (.a 2)) (.p (.a 5) (.p (.a 7) (.p (.a 0) (.p (.a 1) (.p (.a 3) (.p (.a 4) (.p (.a 6) (.p (.a 8) (.p (.a 9) (.a 10))))))))))) rfl hq
theorem perm62e {α : Type} {d s h e c5 c4 c2 c6 : α} {A tl tD R : List α} : List.Perm ((A ++ tl) ++ (h :: c5 :: d :: (s :: (tD ++ (c6 :: e :: c4 :: c2 :: R))))) (A ++ (d :: s :: (tl ++ (tD ++ (c6 :: h :: e :: c5 :: c4 :: c2 :: R))))) := permT [A, tl, [h], [c5], [d], [s], tD, [c6], [e], [c4], [c2], R] (.p (.p (.a 0) (.a 1)) (.p (.a 2) (.p (.a 3) (.p (.a 4) (.p (.a 5) (.p (.a 6) (.p (.a 7) (.p (.a 8) (.p (.a 9) (.p (.a 10) (.a 11))))))))))) (.p (.a 0) (.p (.a 4) (.p (.a 5) (.p (.a 1) (.p (.a 6) (.p (.a 7) (.p (.a 2) (.p (.a 8) (.p (.a 3) (.p (.a 9) (.p (.a 10) (.a 11)))))))))))) rfl
section
variable {A : Around} {s : Shared} {g : Heap} {L : Nat} {m : Str → Option Value} {p : Program} {loose : List Str} {mean : ExcName → Option Value} {mg mb : Str → Option Value} {K : Flow → Shared → Prop}
  {o1 o2 o3 o4 o5 o6 o7 : Obj} {tl tD lx R : List (Addr × Obj)}
set_option maxHeartbeats 4000000 in
theorem turn_C {a : LexP} {vs : List Value} {nS S hl nh el ne many base : Nat} {n : Int} {tm tn tT tb : Tok} {hv ev sv : List Value} {x cs hs : List Nat} {say : List (Str × Value)} (ha : a.Ok tl) (hS : SignsAre vs cs) (hcs : cs.length ≤ 10000) (hasc : Asc cs) (hw0 : word cs = ([], [])) (hx : x.length ≤ 10000) (hn : n + nls cs = 1 + nls x)
    (hH : IntsAre hv (asInts hs)) (hmany : many = 3 ∨ many = 4) (hm : hs ∈ boards many many 0) (hhl : hs.length = many) (hh4 : ∀ h ∈ hs, h ≤ 4) (hI : IntsAre sv (asInts (spanOf many hs))) (h9 : ∀ d ∈ spanOf many hs, d ≤ 9) (hb0 : 140 ≤ base) (hb1 : base ≤ 2 ^ 110) (ht : TabsOk tD)
    (hC1 : ∀ g, (hdK.heap_1 w.params).In g → CodeHd g 75 71) (hC2 : ∀ g, (hdK.heap_1 w.params).In g → CodeHd g 82 78)
    (hh : A.handled = none) (X : (hdK.heap_1 w.params).In g) (T : Top p loose mean mg mb g)
    (hdep : A.depth + 200 < recursionLimit) (hu : A.units + 3000 < cLine) (d2 : cellV o2 (.int (many : Int) tm)) (d5 : cellV o5 (.ref hl))
    (hnd : Nd ((S, listOf sv.toArray sv.length) :: ((a.led w.params vs nS n tn [] 0 ++ tl) ++ ((L + 1 + 1 + 1 + 1 + 1 + 1, o6) :: fixed L hl nh el ne hv ev o2 o4 o5 (tD ++ R)))))
    (hsay : Says m ((Str.ofString "spans", .ref S) :: (Str.ofString "text", .str (txt x) tT) :: (Str.ofString "lexer", .ref a.x) :: (Str.ofString "base", .int (base : Int) tb) :: say)) (hk : Keeps say)
    (F : Fr g L s.heap m) (N : News g L s.heap ((S, listOf sv.toArray sv.length) :: ((a.led w.params vs nS n tn [] 0 ++ tl) ++ ((L + 1 + 1 + 1 + 1 + 1 + 1, o6) :: fixed L hl nh el ne hv ev o2 o4 o5 (tD ++ R)))))
    (hQ : ∀ (D nD : Nat) (ys : List Value) (tD' : List (Addr × Obj)) (m' : Str → Option Value) (h' : Heap) (tk : Nat), TabsOk tD' → IntsAre ys (toldAt base (prodOf base many (spanOf many hs)) many) → Says m' ((Str.ofString "told", .ref D) :: (Str.ofString "spans", .ref S) :: say) →
      Nd ((D, listOf ys.toArray nD) :: (S, listOf sv.toArray sv.length) :: (tl ++ (tD' ++ ((L + 1 + 1 + 1 + 1 + 1 + 1, o6) :: fixed L hl nh el ne hv ev o2 o4 o5 R)))) →
      Fr g L h' m' → News g L h' ((D, listOf ys.toArray nD) :: (S, listOf sv.toArray sv.length) :: (tl ++ (tD' ++ ((L + 1 + 1 + 1 + 1 + 1 + 1, o6) :: fixed L hl nh el ne hv ev o2 o4 o5 R)))) →
      wpAny (model prog w) A (execs (turnFrom w.params 14) (envLaw w.params L)) K (fun _ _ => False) { s with heap := h', toks := tk }) :
    wpAny (model prog w) A (execs (turnFrom w.params 8) (envLaw w.params L)) K (fun _ _ => False) s := by
  have hm4 : many ≤ 4 := by omega
  have hsl : (spanOf many hs).length ≤ 4 := by rw [spanOf_len]; exact hm4
  have hrk := told_rooks hmany hm hb0
  have hpr := prodOf_range (many := many) (by omega) hb1 h9
  rw [spanOf_len] at hpr
  have hp4 : ((2 : Int) ^ 111) ^ many ≤ 2 ^ 444 := by rcases hmany with rfl | rfl <;> decide
  have hNN : prodOf base many (spanOf many hs) < 2 ^ 445 := Int.lt_of_le_of_lt (Int.le_trans hpr.2 hp4) (by decide)
  have hs0 := hsay _ (.head _)
  have hsT := hsay _ (.tail _ (.head _))
  have hsL := hsay _ (.tail _ (.tail _ (.head _)))
  have hsB := hsay _ (.tail _ (.tail _ (.tail _ (.head _))))
  have hsR : Says m say := fun p hp => hsay p (.tail _ (.tail _ (.tail _ (.tail _ hp))))
  dsimp only at hs0 hsT hsL hsB
  rw [show turnFrom w.params 8 = turnStmt w.params 8 :: turnStmt w.params 9 :: turnStmt w.params 10 :: turnStmt w.params 11 :: turnStmt w.params 12 :: turnStmt w.params 13 :: turnFrom w.params 14 from rfl]
  refine wpAny_execs_cons (turn_8 hh F N ?_)
  intro h8 tk8 t8 F8 N8
  dsimp only
  refine wpAny_execs_cons (turn_9 (base := base) (tb := tb) hI hsl h9 (by omega) hb1 hm4 hh X T d2 (says_cons (by exact hs0) (says_cons (by exact hsB) (says_cons (by exact rfl) says_nil))) F8 (newsP N8 perm62a) ?_)
  intro h9 tk9 t9 m9 hn9 hk9 F9 N9
  dsimp only
  have hs9 : ∀ {x : Str} {v : Value}, m x = some v → x ≠ Str.ofString "number" → x ≠ Str.ofString "span" → m9 x = some v := fun {x v} e h1 h2 => by
    rw [hk9 x h1 h2]
    show (if x = Str.ofString "number" then _ else m x) = _
    rw [if_neg h1]; exact e
  have hsR9 : Says m9 say := says_same (says_upd hsR hk rfl) hk hk9 rfl rfl
  have e0 := hs9 hs0 (by decide) (by decide)
  have eT := hs9 hsT (by decide) (by decide)
  have eL := hs9 hsL (by decide) (by decide)
  have eB := hs9 hsB (by decide) (by decide)
  clear hs0 hsT hsL hsB hs9 hsR hsay hk9
  refine wpAny_execs_cons (turn_10 hh F9 N9 ?_)
  intro D h10 tk10 hDn F10 N10
  dsimp only
  have hndD := Nd.cons (o := listOf #[] 0) (hnd.perm perm62a) hDn
  have hndT := hndD.perm perm62b
  refine wpAny_execs_cons (turn_11 (base := base) (tb := tb) (D := D) hm4 hb0 hb1 hpr.1 hNN d2 hh X T hdep hu hC1 hC2 ht hndT.sep hndT.right.hd (says_cons (by exact eB) (says_cons (by exact hn9) (says_cons (by exact rfl) says_nil))) F10 (newsP N10 perm62b) ?_)
  intro h11 tk11 m11 news hJ F11 N11
  obtain ⟨tD', ys, nD, t11, ht', hap', hys, hn11, hm11⟩ := hJ
  dsimp only
  have hndE := Nd.app ht'.nd (hndT.right.same (l' := (D, listOf ys.toArray nD) :: _) rfl) hap'
  have hs11 : ∀ {x : Str} {v : Value}, m9 x = some v → x ≠ Str.ofString "told" → x ≠ Str.ofString "number" → x ≠ Str.ofString "rest" → x ≠ Str.ofString "k" → m11 x = some v := fun {x v} e h0 h1 h2 h3 => by
    rw [hm11 x h1 h2 h3]
    show (if x = Str.ofString "told" then _ else m9 x) = _
    rw [if_neg h0]; exact e
  have f0 := hs11 e0 (by decide) (by decide) (by decide) (by decide)
  have fT := hs11 eT (by decide) (by decide) (by decide) (by decide)
  have fL := hs11 eL (by decide) (by decide) (by decide) (by decide)
  have fD : m11 (Str.ofString "told") = some (.ref D) := by rw [hm11 _ (by decide) (by decide) (by decide)]; exact if_pos rfl
  have fR : Says m11 say := fun p hp => by
    have key : ∀ x, keeps x = false → p.1 ≠ x := fun x hx e => by have := hk p hp; rw [e, hx] at this; cases this
    exact hs11 (hsR9 p hp) (key _ rfl) (key _ rfl) (key _ rfl) (key _ rfl)
  have hndF := hndE.perm perm62c
  refine wpAny_execs_cons (turn_12 (a := a) (D := D) ha hS hcs hasc hw0 hH hh4 (by omega) hys (by rw [toldAt_len]; exact hm4) hrk hh X T hdep hu d5 hndF (says_cons fL (says_cons hn11 (says_cons fD says_nil))) F11 (newsP N11 perm62c) ?_)
  intro h12 tk12 vs' nS' np' tn' hS' F12 N12
  dsimp only
  refine wpAny_execs_cons (turn_13 (a := a) (x := x) (tu := tT) ha hx hn hh X T hdep hu (says_cons fL (says_cons fT says_nil)) F12 N12 ?_)
  intro h13 tk13 F13 N13
  dsimp only
  exact hQ D nD ys tD' m11 h13 tk13 ht' hys (says_cons fD (says_cons f0 fR)) (hndF.perm perm62e).right F13 (fun q hq => N13 q (mem62d hq))
end
end

noncomputable section
example : True := by -- walkOff_D63
  w_top off
  exact True.intro
theorem perm63a {α : Type} {d s c6 h e c5 c4 c2 v u w : α} {tl tD R : List α} : List.Perm (d :: s :: (tl ++ (tD ++ (c6 :: h :: e :: c5 :: c4 :: c2 :: v :: u :: w :: R)))) (v :: (d :: s :: (tl ++ (tD ++ (c6 :: h :: e :: c5 :: c4 :: c2 :: u :: w :: R))))) := permT [[d], [s], tl, tD, [c6], [h], [e], [c5], [c4], [c2], [v], [u], [w], R] (.p (.a 0) (.p (.a 1) (.p (.a 2) (.p (.a 3) (.p (.a 4) (.p (.a 5) (.p (.a 6) (.p (.a 7) (.p (.a 8) (.p (.a 9) (.p (.a 10) (.p (.a 11) (.p (.a 12) (.a 13)))))))))))))) (.p (.a 10) (.p (.a 0) (.p (.a 1) (.p (.a 2) (.p (.a 3) (.p (.a 4) (.p (.a 5) (.p (.a 6) (.p (.a 7) (.p (.a 8) (.p (.a 9) (.p (.a 11) (.p (.a 12) (.a 13)))))))))))))) rfl
theorem perm63b {α : Type} {d s c6 h e c5 c4 c2 v u w : α} {tl tD R : List α} : List.Perm (v :: (d :: s :: (tl ++ (tD ++ (c6 :: h :: e :: c5 :: c4 :: c2 :: u :: w :: R))))) (u :: (v :: d :: s :: (tl ++ (tD ++ (c6 :: h :: e :: c5 :: c4 :: c2 :: w :: R))))) := permT [[v], [d], [s], tl, tD, [c6], [h], [e], [c5], [c4], [c2], [u], [w], R] (.p (.a 0) (.p (.a 1) (.p (.a 2) (.p (.a 3) (.p (.a 4) (.p (.a 5) (.p (.a 6) (.p (.a 7) (.p (.a 8) (.p (.a 9) (.p (.a 10) (.p (.a 11) (.p (.a 12) (.a 13)))))))))))))) (.p (.a 11) (.p (.a 0) (.p (.a 1) (.p (.a 2) (.p (.a 3) (.p (.a 4) (.p (.a 5) (.p (.a 6) (.p (.a 7) (.p (.a 8) (.p (.a 9) (.p (.a 10) (.p (.a 12) (.a 13)))))))))))))) rfl
theorem perm63c {α : Type} {d s c6 h e c5 c4 c2 v u w : α} {tl tD R : List α} : List.Perm (u :: (v :: d :: s :: (tl ++ (tD ++ (c6 :: h :: e :: c5 :: c4 :: c2 :: w :: R))))) (w :: s :: (u :: v :: d :: (tl ++ (tD ++ (c6 :: h :: e :: c5 :: c4 :: c2 :: R))))) := permT [[u], [v], [d], [s], tl, tD, [c6], [h], [e], [c5], [c4], [c2], [w], R] (.p (.a 0) (.p (.a 1) (.p (.a 2) (.p (.a 3) (.p (.a 4) (.p (.a 5) (.p (.a 6) (.p (.a 7) (.p (.a 8) (.p (.a 9) (.p (.a 10) (.p (.a 11) (.p (.a 12) (.a 13)))))))))))))) (.p (.a 12) (.p (.a 3) (.p (.a 0) (.p (.a 1) (.p (.a 2) (.p (.a 4) (.p (.a 5) (.p (.a 6) (.p (.a 7) (.p (.a 8) (.p (.a 9) (.p (.a 10) (.p (.a 11) (.a 13)))))))))))))) rfl
theorem perm63d {α : Type} {d s c6 h e c5 c4 c2 v u w : α} {B tl tD R : List α} : List.Perm (B ++ (w :: s :: (u :: v :: d :: (tl ++ (tD ++ (c6 :: h :: e :: c5 :: c4 :: c2 :: R)))))) (v :: u :: w :: d :: s :: (B ++ (h :: e :: c5 :: c4 :: c2 :: c6 :: (tl ++ (tD ++ R))))) := permT [B, [w], [s], [u], [v], [d], tl, tD, [c6], [h], [e], [c5], [c4], [c2], R] (.p (.a 0) (.p (.a 1) (.p (.a 2) (.p (.a 3) (.p (.a 4) (.p (.a 5) (.p (.a 6) (.p (.a 7) (.p (.a 8) (.p (.a 9) (.p (.a 10) (.p (.a 11) (.p (.a 12) (.p (.a 13) (.a 14))))))))))))))) (.p (.a 4) (.p (.a 3) (.p (.a 1) (.p (.a 5) (.p (.a 2) (.p (.a 0) (.p (.a 9) (.p (.a 10) (.p (.a 11) (.p (.a 12) (.p (.a 13) (.p (.a 8) (.p (.a 6) (.p (.a 7) (.a 14))))))))))))))) rfl
section
variable {A : Around} {s : Shared} {g : Heap} {L : Nat} {m : Str → Option Value} {p : Program} {loose : List Str} {mean : ExcName → Option Value} {mg mb : Str → Option Value} {K : Flow → Shared → Prop}
  {o1 o2 o3 o4 o5 o6 o7 : Obj} {tl tD lx R : List (Addr × Obj)}
set_option maxHeartbeats 4000000 in
theorem turn_D {D nD S V U W nV nU nW hl nh el ne : Nat} {hv ev sv ys ts us ws : List Value} {sp : List Nat} {say : List (Str × Value)} (hts : ts.length ≤ 10) (hus : us.length ≤ 10) (hws : ws.length ≤ 10) (hI : IntsAre sv (asInts sp)) (hsp : sp.length ≤ 4) (h9 : ∀ d ∈ sp, d ≤ 9)
    (hh : A.handled = none) (X : (hdK.heap_1 w.params).In g) (T : Top p loose mean mg mb g)
    (hdep : A.depth + 200 < recursionLimit) (hu : A.units + 3000 < cLine)
    (hnd : Nd ((D, listOf ys.toArray nD) :: (S, listOf sv.toArray sv.length) :: (tl ++ (tD ++ ((L + 1 + 1 + 1 + 1 + 1 + 1, o6) :: fixed L hl nh el ne hv ev o2 o4 o5 ((V, listOf ts.toArray nV) :: (U, listOf us.toArray nU) :: (W, listOf ws.toArray nW) :: R))))))
    (hsay : Says m ((Str.ofString "told", .ref D) :: (Str.ofString "spans", .ref S) :: (Str.ofString "tables", .ref V) :: (Str.ofString "lengths", .ref U) :: (Str.ofString "leads", .ref W) :: say))
    (F : Fr g L s.heap m) (N : News g L s.heap ((D, listOf ys.toArray nD) :: (S, listOf sv.toArray sv.length) :: (tl ++ (tD ++ ((L + 1 + 1 + 1 + 1 + 1 + 1, o6) :: fixed L hl nh el ne hv ev o2 o4 o5 ((V, listOf ts.toArray nV) :: (U, listOf us.toArray nU) :: (W, listOf ws.toArray nW) :: R))))))
    (hQ : ∀ (b : WsP) (cv : List Value) (nV' nU' nW' : Nat) (h' : Heap) (tk : Nat), b.Apart → IntsAre cv (wsOf (leadsOf sp)).count →
      Nd ((V, listOf (ts ++ [Value.ref D]).toArray nV') :: (U, listOf (us ++ [Value.ref S]).toArray nU') :: (W, listOf (ws ++ [Value.ref b.x]).toArray nW') :: (D, listOf ys.toArray nD) :: (S, listOf sv.toArray sv.length) :: (b.led w.params (leadsOf sp) (wsOf (leadsOf sp)) cv ++ (fixed L hl nh el ne hv ev o2 o4 o5 ((L + 1 + 1 + 1 + 1 + 1 + 1, o6) :: (tl ++ (tD ++ R)))))) →
      Fr g L h' m → News g L h' ((V, listOf (ts ++ [Value.ref D]).toArray nV') :: (U, listOf (us ++ [Value.ref S]).toArray nU') :: (W, listOf (ws ++ [Value.ref b.x]).toArray nW') :: (D, listOf ys.toArray nD) :: (S, listOf sv.toArray sv.length) :: (b.led w.params (leadsOf sp) (wsOf (leadsOf sp)) cv ++ (fixed L hl nh el ne hv ev o2 o4 o5 ((L + 1 + 1 + 1 + 1 + 1 + 1, o6) :: (tl ++ (tD ++ R)))))) →
      K .next { s with heap := h', toks := tk }) :
    wpAny (model prog w) A (execs (turnFrom w.params 14) (envLaw w.params L)) K (fun _ _ => False) s := by
  have sD := hsay _ (.head _)
  have sS := hsay _ (.tail _ (.head _))
  have sV := hsay _ (.tail _ (.tail _ (.head _)))
  have sU := hsay _ (.tail _ (.tail _ (.tail _ (.head _))))
  have sW := hsay _ (.tail _ (.tail _ (.tail _ (.tail _ (.head _)))))
  rw [show turnFrom w.params 14 = [turnStmt w.params 14, turnStmt w.params 15, turnStmt w.params 16] from rfl]
  have hnd1 := hnd.perm perm63a
  refine wpAny_execs_cons (turn_14 hts hnd1.hd hh X T hdep hu (says_cons sV (says_cons sD says_nil)) F (newsP N perm63a) ?_)
  intro h14 tk14 nV' F14 N14
  dsimp only
  have hnd2 : Nd ((U, listOf us.toArray nU) :: ((V, listOf (ts ++ [Value.ref D]).toArray nV') :: (D, listOf ys.toArray nD) :: (S, listOf sv.toArray sv.length) :: (tl ++ (tD ++ ((L + 1 + 1 + 1 + 1 + 1 + 1, o6) :: fixed L hl nh el ne hv ev o2 o4 o5 ((W, listOf ws.toArray nW) :: R)))))) := (hnd1.perm perm63b).same rfl
  refine wpAny_execs_cons (turn_15 hus hnd2.hd hh X T hdep hu (says_cons sU (says_cons sS says_nil)) F14 (newsP N14 perm63b) ?_)
  intro h15 tk15 nU' F15 N15
  dsimp only
  have hnd3 : Nd ((W, listOf ws.toArray nW) :: (S, listOf sv.toArray sv.length) :: ((U, listOf (us ++ [Value.ref S]).toArray nU') :: (V, listOf (ts ++ [Value.ref D]).toArray nV') :: (D, listOf ys.toArray nD) :: (tl ++ (tD ++ ((L + 1 + 1 + 1 + 1 + 1 + 1, o6) :: fixed L hl nh el ne hv ev o2 o4 o5 R))))) := (hnd2.perm perm63c).same rfl
  refine wpAny_execs_cons (turn_16 hws (fun q hq => hnd3.hd q (.tail _ hq)) hI hsp h9 (hnd3.hd _ (.head _)) hh X T hdep hu (says_cons sW (says_cons sS says_nil)) F15 (newsP N15 perm63c) ?_)
  intro h16 tk16 nW' x dx t l' hdx hnew hap F16 N16
  dsimp only
  obtain ⟨b, cv, rfl, rfl, b3, b4, b5, b6, b7, hcv, rfl⟩ := hnew
  have hb : b.Apart := ⟨hdx, b3, b4, b5, b6, b7⟩
  have hnd4 := ((Nd.app (hb.nd (P := w.params) (l := leadsOf sp) (σ := wsOf (leadsOf sp)) (vs := cv)) hnd3 hap).perm perm63d).same (l' := (V, listOf (ts ++ [Value.ref D]).toArray nV') :: (U, listOf (us ++ [Value.ref S]).toArray nU') :: (W, listOf (ws ++ [Value.ref b.x]).toArray nW') :: (D, listOf ys.toArray nD) :: (S, listOf sv.toArray sv.length) :: (b.led w.params (leadsOf sp) (wsOf (leadsOf sp)) cv ++ (fixed L hl nh el ne hv ev o2 o4 o5 ((L + 1 + 1 + 1 + 1 + 1 + 1, o6) :: (tl ++ (tD ++ R)))))) rfl
  exact wpAny_execs_nil (hQ b cv nV' nU' nW' h16 tk16 hb hcv hnd4 F16 (newsP N16 perm63d))
end
end

noncomputable section
example : True := by -- walkOff_D64
  w_top off
  exact True.intro
theorem board_le {top : Nat} : ∀ {n low : Nat} {hs : List Nat}, hs ∈ boards top n low → ∀ h ∈ hs, h ≤ top
  | 0, low, hs, hm => by
    rw [boards, List.mem_singleton] at hm
    subst hm
    intro h hh
    exact nomatch hh
  | n + 1, low, hs, hm => by
    obtain ⟨x, hx, hm⟩ := List.mem_flatMap.mp hm
    split at hm
    · obtain ⟨r, hr, rfl⟩ := List.mem_map.mp hm
      intro h hh
      rcases List.mem_cons.mp hh with rfl | hh
      · exact Nat.le_of_lt_succ (List.mem_range.mp hx)
      · exact board_le hr h hh
    · exact nomatch hm
structure Rec where
  (D nD S : Nat)
  (b : WsP)
  (ys sv cv : List Value)
noncomputable abbrev Rec.led (r : Rec) (P : Params) (sp : List Nat) : List (Addr × Obj) := (r.D, listOf r.ys.toArray r.nD) :: (r.S, listOf r.sv.toArray r.sv.length) :: r.b.led P (leadsOf sp) (wsOf (leadsOf sp)) r.cv
structure Rec.Ok (r : Rec) (base many : Nat) (hs : List Nat) : Prop where
  told : IntsAre r.ys (toldAt base (prodOf base many (spanOf many hs)) many)
  spans : IntsAre r.sv (asInts (spanOf many hs))
  apart : r.b.Apart
  count : IntsAre r.cv (wsOf (leadsOf (spanOf many hs))).count
section
variable {A : Around} {s : Shared} {g : Heap} {L : Nat} {m : Str → Option Value} {p : Program} {loose : List Str} {mean : ExcName → Option Value} {mg mb : Str → Option Value} {K : Flow → Shared → Prop}
  {o1 o2 o3 o4 o5 o6 o7 : Obj} {tl tD lx R : List (Addr × Obj)}
noncomputable abbrev saysT (V U W base : Nat) (tb : Tok) : List (Str × Value) := [(Str.ofString "tables", .ref V), (Str.ofString "lengths", .ref U), (Str.ofString "leads", .ref W), (Str.ofString "base", .int (base : Int) tb)]
theorem keepsT {V U W base : Nat} {tb : Tok} : Keeps (saysT V U W base tb) := by
  intro p hp
  rcases List.mem_cons.mp hp with rfl | hp
  · rfl
  rcases List.mem_cons.mp hp with rfl | hp
  · rfl
  rcases List.mem_cons.mp hp with rfl | hp
  · rfl
  rw [List.mem_singleton.mp hp]; rfl
set_option maxHeartbeats 4000000 in
theorem turn_all {V U W nV nU nW hl nh el ne many base : Nat} {tm tb : Tok} {hv ev ts us ws : List Value} {hs : List Nat} {es : List (List Nat)} (hts : ts.length ≤ 10) (hus : us.length ≤ 10) (hws : ws.length ≤ 10)
    (hH : IntsAre hv (asInts hs)) (hE : StrsAre ev (es.map txt)) (hmany : many = 3 ∨ many = 4) (hm : hs ∈ boards many many 0) (hel : es.length = many) (he : ∀ e ∈ es, IsEnd e) (hb0 : 140 ≤ base) (hb1 : base ≤ 2 ^ 110)
    (hC1 : ∀ g, (hdK.heap_1 w.params).In g → CodeHd g 75 71) (hC2 : ∀ g, (hdK.heap_1 w.params).In g → CodeHd g 82 78) (hC3 : ∀ g, (hdK.heap_1 w.params).In g → CodeHd g 211 207) (htL : TabL tl) (ht : TabsOk tD)
    (hh : A.handled = none) (X : (hdK.heap_1 w.params).In g) (T : Top p loose mean mg mb g)
    (hdep : A.depth + 200 < recursionLimit) (hu : A.units + 3000 < cLine) (d2 : cellV o2 (.int (many : Int) tm)) (d4 : cellV o4 (.ref el)) (d5 : cellV o5 (.ref hl)) {c6 : Option Value} (d6 : o6.data = .cell c6)
    (hnd : Nd (fixed L hl nh el ne hv ev o2 o4 o5 ((L + 1 + 1 + 1 + 1 + 1 + 1, o6) :: (tl ++ (tD ++ ((V, listOf ts.toArray nV) :: (U, listOf us.toArray nU) :: (W, listOf ws.toArray nW) :: R))))))
    (hsay : Says m (saysT V U W base tb))
    (F : Fr g L s.heap m) (N : News g L s.heap (fixed L hl nh el ne hv ev o2 o4 o5 ((L + 1 + 1 + 1 + 1 + 1 + 1, o6) :: (tl ++ (tD ++ ((V, listOf ts.toArray nV) :: (U, listOf us.toArray nU) :: (W, listOf ws.toArray nW) :: R))))))
    (hQ : ∀ (r : Rec) (nV' nU' nW' : Nat) (tl' tD' : List (Addr × Obj)) (o6' : Obj) (c6' : Option Value) (m' : Str → Option Value) (h' : Heap) (tk : Nat), r.Ok base many hs → TabL tl' → TabsOk tD' → o6'.data = .cell c6' → Says m' (saysT V U W base tb) →
      Nd ((V, listOf (ts ++ [Value.ref r.D]).toArray nV') :: (U, listOf (us ++ [Value.ref r.S]).toArray nU') :: (W, listOf (ws ++ [Value.ref r.b.x]).toArray nW') :: (r.led w.params (spanOf many hs) ++ (fixed L hl nh el ne hv ev o2 o4 o5 ((L + 1 + 1 + 1 + 1 + 1 + 1, o6') :: (tl' ++ (tD' ++ R)))))) →
      Fr g L h' m' → News g L h' ((V, listOf (ts ++ [Value.ref r.D]).toArray nV') :: (U, listOf (us ++ [Value.ref r.S]).toArray nU') :: (W, listOf (ws ++ [Value.ref r.b.x]).toArray nW') :: (r.led w.params (spanOf many hs) ++ (fixed L hl nh el ne hv ev o2 o4 o5 ((L + 1 + 1 + 1 + 1 + 1 + 1, o6') :: (tl' ++ (tD' ++ R)))))) →
      K .next { s with heap := h', toks := tk }) :
    wpAny (model prog w) A (execs (body10 w.params).1 (envLaw w.params L)) K (fun _ _ => False) s := by
  have hm4 : many ≤ 4 := by omega
  have hhl := board_len hm
  have hh4 : ∀ h ∈ hs, h ≤ 4 := fun h hx => Nat.le_trans (board_le hm h hx) hm4
  have h9 := (goodW_facts (goodW_of hmany hm)).2.2.2.2.2
  have hbd := psOf_bound hhl hh4 hel he
  have hok := psOf_ok (hs := hs) hel he
  have hpl := psOf_len many hs es
  have htl := rows_len 5 _ hbd
  have hrl := remR_len 5 _ hbd many (by omega)
  have hra := remR_asc _ hok many (by omega)
  have hrw := word_remR_last hok (by omega)
  rw [hpl] at hrw
  show wpAny (model prog w) A (execs (turnFrom w.params 0) (envLaw w.params L)) K (fun _ _ => False) s
  refine turn_A (say := (Str.ofString "base", .int (base : Int) tb) :: saysT V U W base tb) hH hE hhl hel hm4 hh4 he hC3 htL hh X T hdep hu d2 d4 d5 d6 hnd (says_cons (hsay _ (.tail _ (.tail _ (.tail _ (.head _))))) hsay) (List.forall_mem_cons.mpr ⟨rfl, keepsT⟩) F N ?_
  clear F N hnd
  intro a b tl' vs ws2 nS nT tn tb2 tT o6' m1 h1 tk1 ha hb hS hW d6' hs1 hnd F N
  refine turn_B (a := a) (b := b) hb hW hH hhl hm4 (by omega) hh4 hh X T hdep hu d2 d5 d6' hnd hs1 F N (by rfl) ?_
  clear F N hnd
  intro S sv m2 h2 tk2 hsv hs2 hnd F N
  refine turn_C (a := a) ha hS (by omega) hra hrw (by omega) (by omega) hH hmany hm hhl hh4 hsv h9 hb0 hb1 ht hC1 hC2 hh X T hdep hu d2 d5 hnd hs2 keepsT F N ?_
  clear F N hnd
  intro D nD ys tD' m3 h3 tk3 htD' hys hs3 hnd F N
  refine turn_D hts hus hws hsv (by rw [spanOf_len]; exact hm4) h9 hh X T hdep hu hnd hs3 F N ?_
  clear F N hnd
  intro c cv nV' nU' nW' h4 tk4 hc hcv hnd F N
  exact hQ ⟨D, nD, S, c, ys, sv, cv⟩ nV' nU' nW' tl' tD' o6' _ m3 h4 tk4 ⟨hys, hsv, hc, hcv⟩ ha.made.ok htD' d6' (fun p hp => hs3 p (.tail _ (.tail _ hp))) hnd F N
end
end

noncomputable section
example : True := by -- walkOff_D65
  w_top off
  exact True.intro
inductive Recs (P : Params) (base many : Nat) : List (List Nat) → List Rec → List (Addr × Obj) → Prop
  | nil : Recs P base many [] [] []
  | snoc {hss : List (List Nat)} {rs : List Rec} {led : List (Addr × Obj)} (hs : List Nat) (r : Rec) (h : Recs P base many hss rs led) (ok : r.Ok base many hs) : Recs P base many (hss ++ [hs]) (rs ++ [r]) (r.led P (spanOf many hs) ++ led)
theorem Recs.len {P : Params} {base many : Nat} {hss : List (List Nat)} {rs : List Rec} {led : List (Addr × Obj)} (h : Recs P base many hss rs led) : rs.length = hss.length := by
  induction h with
  | nil => rfl
  | snoc hs r h ok ih => rw [List.length_append, List.length_append, ih]; rfl
noncomputable abbrev loopFix (L bl nb sl ns el ne : Nat) (vb vs ev : List Value) (o2 o4 : Obj) (R : List (Addr × Obj)) : List (Addr × Obj) := (bl, listOf vb.toArray nb) :: (sl, listOf vs.toArray ns) :: (el, listOf ev.toArray ne) :: (L + 1 + 1 + 1 + 1, o4) :: (L + 1 + 1, o2) :: R
noncomputable abbrev loopLed (L V U W nV nU nW : Nat) (rs : List Rec) (RL : List (Addr × Obj)) (o5 o6 : Obj) (tl tD FX : List (Addr × Obj)) : List (Addr × Obj) :=
  (V, listOf (rs.map fun r => Value.ref r.D).toArray nV) :: (U, listOf (rs.map fun r => Value.ref r.S).toArray nU) :: (W, listOf (rs.map fun r => Value.ref r.b.x).toArray nW) :: (RL ++ ((L + 1 + 1 + 1 + 1 + 1, o5) :: (L + 1 + 1 + 1 + 1 + 1 + 1, o6) :: (tl ++ (tD ++ FX))))
inductive J10 (P : Params) (L V U W base many : Nat) (tb : Tok) (f q : List Nat) (FX : List (Addr × Obj)) (i : Nat) (m₁ : Str → Option Value) : List (Addr × Obj) → Prop
  | mk (rs : List Rec) (RL : List (Addr × Obj)) (nV nU nW : Nat) (o5 o6 : Obj) (c5 c6 : Option Value) (tl tD : List (Addr × Obj)) (hR : Recs P base many ([f, q].take i) rs RL) (htL : TabL tl) (htD : TabsOk tD) (d5 : o5.data = .cell c5) (d6 : o6.data = .cell c6)
      (hsay : Says m₁ (saysT V U W base tb)) (hnd : Nd (loopLed L V U W nV nU nW rs RL o5 o6 tl tD FX)) :
      J10 P L V U W base many tb f q FX i m₁ (loopLed L V U W nV nU nW rs RL o5 o6 tl tD FX)
theorem perm65a {α : Type} {v u w c5 c6 b s e c4 c2 i : α} {RL tl tD R : List α} : List.Perm ((v :: u :: w :: (RL ++ (c5 :: c6 :: (tl ++ (tD ++ (b :: s :: e :: c4 :: c2 :: R)))))) ++ [i]) (c5 :: (b :: s :: (v :: u :: w :: (RL ++ (c6 :: (tl ++ (tD ++ (e :: c4 :: c2 :: (R ++ [i]))))))))) := permT [[v], [u], [w], RL, [c5], [c6], tl, tD, [b], [s], [e], [c4], [c2], R, [i]] (.p (.p (.a 0) (.p (.a 1) (.p (.a 2) (.p (.a 3) (.p (.a 4) (.p (.a 5) (.p (.a 6) (.p (.a 7) (.p (.a 8) (.p (.a 9) (.p (.a 10) (.p (.a 11) (.p (.a 12) (.a 13)))))))))))))) (.p (.a 14) .o)) (.p (.a 4) (.p (.a 8) (.p (.a 9) (.p (.a 0) (.p (.a 1) (.p (.a 2) (.p (.a 3) (.p (.a 5) (.p (.a 6) (.p (.a 7) (.p (.a 10) (.p (.a 11) (.p (.a 12) (.p (.a 13) (.p (.a 14) .o))))))))))))))) rfl
theorem perm65b {α : Type} {v u w c5 c6 h o e c4 c2 i : α} {RL tl tD R : List α} : List.Perm (c5 :: (h :: o :: (v :: u :: w :: (RL ++ (c6 :: (tl ++ (tD ++ (e :: c4 :: c2 :: (R ++ [i]))))))))) (h :: e :: c5 :: c4 :: c2 :: (c6 :: (tl ++ (tD ++ (v :: u :: w :: (RL ++ (o :: (R ++ [i])))))))) := permT [[c5], [h], [o], [v], [u], [w], RL, [c6], tl, tD, [e], [c4], [c2], R, [i]] (.p (.a 0) (.p (.a 1) (.p (.a 2) (.p (.a 3) (.p (.a 4) (.p (.a 5) (.p (.a 6) (.p (.a 7) (.p (.a 8) (.p (.a 9) (.p (.a 10) (.p (.a 11) (.p (.a 12) (.p (.a 13) (.p (.a 14) .o))))))))))))))) (.p (.a 1) (.p (.a 10) (.p (.a 0) (.p (.a 11) (.p (.a 12) (.p (.a 7) (.p (.a 8) (.p (.a 9) (.p (.a 3) (.p (.a 4) (.p (.a 5) (.p (.a 6) (.p (.a 2) (.p (.a 13) (.p (.a 14) .o))))))))))))))) rfl
theorem perm65c {α : Type} {v u w c5 c6 h o e c4 c2 i : α} {B RL tl tD R : List α} : List.Perm (v :: u :: w :: (B ++ (h :: e :: c5 :: c4 :: c2 :: (c6 :: (tl ++ (tD ++ (RL ++ (o :: (R ++ [i]))))))))) (h :: o :: (v :: u :: w :: ((B ++ RL) ++ (c5 :: c6 :: (tl ++ (tD ++ (e :: c4 :: c2 :: (R ++ [i])))))))) := permT [[v], [u], [w], B, [h], [e], [c5], [c4], [c2], [c6], tl, tD, RL, [o], R, [i]] (.p (.a 0) (.p (.a 1) (.p (.a 2) (.p (.a 3) (.p (.a 4) (.p (.a 5) (.p (.a 6) (.p (.a 7) (.p (.a 8) (.p (.a 9) (.p (.a 10) (.p (.a 11) (.p (.a 12) (.p (.a 13) (.p (.a 14) (.p (.a 15) .o)))))))))))))))) (.p (.a 4) (.p (.a 13) (.p (.a 0) (.p (.a 1) (.p (.a 2) (.p (.p (.a 3) (.a 12)) (.p (.a 6) (.p (.a 9) (.p (.a 10) (.p (.a 11) (.p (.a 5) (.p (.a 7) (.p (.a 8) (.p (.a 14) (.p (.a 15) .o))))))))))))))) rfl
theorem perm65d {α : Type} {v u w c5 c6 b s e c4 c2 i : α} {RL tl tD R : List α} : List.Perm (b :: s :: (v :: u :: w :: (RL ++ (c5 :: c6 :: (tl ++ (tD ++ (e :: c4 :: c2 :: (R ++ [i])))))))) ((v :: u :: w :: (RL ++ (c5 :: c6 :: (tl ++ (tD ++ (b :: s :: e :: c4 :: c2 :: R)))))) ++ [i]) := permT [[b], [s], [v], [u], [w], RL, [c5], [c6], tl, tD, [e], [c4], [c2], R, [i]] (.p (.a 0) (.p (.a 1) (.p (.a 2) (.p (.a 3) (.p (.a 4) (.p (.a 5) (.p (.a 6) (.p (.a 7) (.p (.a 8) (.p (.a 9) (.p (.a 10) (.p (.a 11) (.p (.a 12) (.p (.a 13) (.p (.a 14) .o))))))))))))))) (.p (.p (.a 2) (.p (.a 3) (.p (.a 4) (.p (.a 5) (.p (.a 6) (.p (.a 7) (.p (.a 8) (.p (.a 9) (.p (.a 0) (.p (.a 1) (.p (.a 10) (.p (.a 11) (.p (.a 12) (.a 13)))))))))))))) (.p (.a 14) .o)) rfl
theorem perm65e {α : Type} {v u w c5 c6 b s e c4 c3 c2 : α} {RL tl tD R : List α} : List.Perm (v :: u :: w :: (RL ++ (c5 :: c6 :: (tl ++ (tD ++ (b :: s :: e :: c4 :: c2 :: c3 :: R)))))) (c3 :: (v :: u :: w :: (RL ++ (c5 :: c6 :: (tl ++ (tD ++ (b :: s :: e :: c4 :: c2 :: R))))))) := permT [[v], [u], [w], RL, [c5], [c6], tl, tD, [b], [s], [e], [c4], [c2], [c3], R] (.p (.a 0) (.p (.a 1) (.p (.a 2) (.p (.a 3) (.p (.a 4) (.p (.a 5) (.p (.a 6) (.p (.a 7) (.p (.a 8) (.p (.a 9) (.p (.a 10) (.p (.a 11) (.p (.a 12) (.p (.a 13) (.a 14))))))))))))))) (.p (.a 13) (.p (.a 0) (.p (.a 1) (.p (.a 2) (.p (.a 3) (.p (.a 4) (.p (.a 5) (.p (.a 6) (.p (.a 7) (.p (.a 8) (.p (.a 9) (.p (.a 10) (.p (.a 11) (.p (.a 12) (.a 14))))))))))))))) rfl
theorem perm65f {α : Type} {v u w c5 c6 b s e c4 c3 c2 t : α} {RL tl tD R : List α} : List.Perm (t :: c3 :: (v :: u :: w :: (RL ++ (c5 :: c6 :: (tl ++ (tD ++ (b :: s :: e :: c4 :: c2 :: R))))))) (v :: u :: w :: (RL ++ (c5 :: c6 :: (tl ++ (tD ++ (b :: s :: e :: c4 :: c2 :: t :: c3 :: R)))))) := permT [[t], [c3], [v], [u], [w], RL, [c5], [c6], tl, tD, [b], [s], [e], [c4], [c2], R] (.p (.a 0) (.p (.a 1) (.p (.a 2) (.p (.a 3) (.p (.a 4) (.p (.a 5) (.p (.a 6) (.p (.a 7) (.p (.a 8) (.p (.a 9) (.p (.a 10) (.p (.a 11) (.p (.a 12) (.p (.a 13) (.p (.a 14) (.a 15)))))))))))))))) (.p (.a 2) (.p (.a 3) (.p (.a 4) (.p (.a 5) (.p (.a 6) (.p (.a 7) (.p (.a 8) (.p (.a 9) (.p (.a 10) (.p (.a 11) (.p (.a 12) (.p (.a 13) (.p (.a 14) (.p (.a 0) (.p (.a 1) (.a 15)))))))))))))))) rfl
theorem mem65t {α : Type} {v u w c5 c6 b s e c4 c2 t : α} {RL tl tD R : List α} : t ∈ v :: u :: w :: (RL ++ (c5 :: c6 :: (tl ++ (tD ++ (b :: s :: e :: c4 :: c2 :: t :: R))))) := by simp
theorem perm_i {α : Type} {l : List α} {i : α} : List.Perm (i :: l) (l ++ [i]) := permT [[i], l] (.p (.a 0) (.a 1)) (.p (.a 1) (.p (.a 0) .o)) rfl
section
variable {A : Around} {s : Shared} {g : Heap} {L : Nat} {m : Str → Option Value} {p : Program} {loose : List Str} {mean : ExcName → Option Value} {mg mb : Str → Option Value} {E : Value → Shared → Prop}
  {o5 : Obj} {lx : List (Addr × Obj)}
set_option maxHeartbeats 2000000 in
theorem heights_cell {K : Unit → Shared → Prop} {px : Pos} {v : Value} (hh : A.handled = none) (X : (hdK.heap_1 w.params).In g) (T : Top p loose mean mg mb g)
    {c5 : Option Value} (d5 : o5.data = .cell c5) (hx5 : ∀ p ∈ lx, p.1 ≠ L + 1 + 1 + 1 + 1 + 1)
    (F : Fr g L s.heap m) (N : News g L s.heap ((L + 1 + 1 + 1 + 1 + 1, o5) :: lx))
    (hK : ∀ o5' h' tk, cellV o5' v → Fr g L h' m → News g L h' ((L + 1 + 1 + 1 + 1 + 1, o5') :: lx) → K () { s with heap := h', toks := tk }) :
    wpAny (model prog w) A (assign (.Name (Str.ofString "heights") px) (envLaw w.params L) v) K E s := by
  have hcLine : cLine = 9900 := rfl
  have hrec : recursionLimit = 1000 := rfl
  dsimp only [envLaw, law229]
  repeat walk1
  rename_i d8
  with_reducible rename Fr _ _ _ _ => F1
  with_reducible rename News _ _ _ _ => N1
  exact hK _ _ _ d8 F1 N1
end
section
variable {A : Around} {s : Shared} {g : Heap} {L : Nat} {m : Str → Option Value} {p : Program} {loose : List Str} {mean : ExcName → Option Value} {mg mb : Str → Option Value} {Q : Flow → Shared → Prop}
  {o2 o3 o4 o5 o6 : Obj} {tl tD R : List (Addr × Obj)}
set_option maxHeartbeats 1000000 in
theorem law_s10 {V U W bl nb sl ns el ne many base : Nat} {tm tb : Tok} {vb vs ev : List Value} {f q : List Nat} {es : List (List Nat)}
    (hB : IntsAre vb (asInts f)) (hS : IntsAre vs (asInts q)) (hE : StrsAre ev (es.map txt)) (hmany : many = 3 ∨ many = 4) (hf : f ∈ boards many many 0) (hq : q ∈ boards many many 0) (hel : es.length = many) (he : ∀ e ∈ es, IsEnd e) (hb0 : 140 ≤ base) (hb1 : base ≤ 2 ^ 110)
    (hC1 : ∀ g, (hdK.heap_1 w.params).In g → CodeHd g 75 71) (hC2 : ∀ g, (hdK.heap_1 w.params).In g → CodeHd g 82 78) (hC3 : ∀ g, (hdK.heap_1 w.params).In g → CodeHd g 211 207) (htL : TabL tl) (htD : TabsOk tD)
    (hh : A.handled = none) (X : (hdK.heap_1 w.params).In g) (T : Top p loose mean mg mb g)
    (hdep : A.depth + 200 < recursionLimit) (hu : A.units + 3000 < cLine) (d2 : cellV o2 (.int (many : Int) tm)) (d3 : cellV o3 (.ref bl)) (d4 : cellV o4 (.ref el)) {c5 c6 : Option Value} (d5 : o5.data = .cell c5) (d6 : o6.data = .cell c6)
    (hnd : Nd (loopLed L V U W 0 0 0 [] [] o5 o6 tl tD (loopFix L bl nb sl ns el ne vb vs ev o2 o4 ((L + 1 + 1 + 1, o3) :: R))))
    (hsay : Says m ((Str.ofString "second", .ref sl) :: saysT V U W base tb))
    (F : Fr g L s.heap m) (N : News g L s.heap (loopLed L V U W 0 0 0 [] [] o5 o6 tl tD (loopFix L bl nb sl ns el ne vb vs ev o2 o4 ((L + 1 + 1 + 1, o3) :: R))))
    (hQ : ∀ h' tk m' news (t : Addr) (oT : Obj), J10 w.params L V U W base many tb f q (loopFix L bl nb sl ns el ne vb vs ev o2 o4 ((t, oT) :: (L + 1 + 1 + 1, o3) :: R)) 2 m' news → Fr g L h' m' → News g L h' news → Q .next { s with heap := h', toks := tk }) :
    wpAny (model prog w) A (exec (stmtLaw w.params 10) (envLaw w.params L)) Q (fun _ _ => False) s := by
  have hcLine : cLine = 9900 := rfl
  have hrec : recursionLimit = 1000 := rfl
  dsimp only [stmtLaw, envLaw, law229, Option.getD, List.getElem?_cons_succ, List.getElem?_cons_zero]
  refine For_turns F ?_
  have F := Mine.Fr.said F hsay
  have N0 := N
  have N1 := newsP N perm65e
  clear N
  generalize hRT : (V, listOf ((([] : List Rec).map fun r => Value.ref r.D)).toArray 0) :: (U, listOf ((([] : List Rec).map fun r => Value.ref r.S)).toArray 0) :: (W, listOf ((([] : List Rec).map fun r => Value.ref r.b.x)).toArray 0) :: ([] ++ ((L + 1 + 1 + 1 + 1 + 1, o5) :: (L + 1 + 1 + 1 + 1 + 1 + 1, o6) :: (tl ++ (tD ++ ((bl, listOf vb.toArray nb) :: (sl, listOf vs.toArray ns) :: (el, listOf ev.toArray ne) :: (L + 1 + 1 + 1 + 1, o4) :: (L + 1 + 1, o2) :: R))))) = RT at N1
  repeat walk1
  with_reducible rename Fr _ _ _ _ => F2
  with_reducible rename News _ _ _ _ => N2
  with_reducible rename _ < _ ∧ _ => hlt
  rename_i t _
  subst hRT
  have hnd2 := Nd.cons (o := { cls := .type "tuple", data := .seq #[.ref bl, .ref sl] }) (hnd.perm perm65e) (fun q hq => Nat.ne_of_lt (lowAll (show AllLt t ((L + 1 + 1 + 1, o3) :: _) from hlt) q hq))
  have hnd3 := hnd2.perm perm65f
  have N3 := newsP N2 perm65f
  have hsT : Says m (saysT V U W base tb) := fun p hp => hsay p (.tail _ hp)
  refine loopTupC (l := t) (oT := { cls := .type "tuple", data := .seq #[.ref bl, .ref sl] }) (vs := [.ref bl, .ref sl]) hh rfl rfl (Mine.Fr.unsaid F2 hsay) N3 (J10 w.params L V U W base many tb f q (loopFix L bl nb sl ns el ne vb vs ev o2 o4 ((t, { cls := .type "tuple", data := .seq #[.ref bl, .ref sl] }) :: (L + 1 + 1 + 1, o3) :: R))) (.mk [] [] 0 0 0 o5 o6 c5 c6 tl tD .nil htL htD d5 d6 hsT hnd3) ?_ ?_ ?_
  · rintro i m n ⟨rs, RL, nV, nU, nW, o5, o6, c5, c6, tl, tD, hR, htL, htD, d5, d6, hs4, hnd4⟩
    exact mem65t
  · intro i v m₁ news₁ h tk I oI kn hi hv hJ F4 N4 hsep hkn
    obtain ⟨rs, RL, nV, nU, nW, o5, o6, c5, c6, tl, tD, hR, htL, htD, d5, d6, hs4, hnd4⟩ := hJ
    have hi2 : i < 2 := hi
    have hlen : rs.length ≤ 10 := by
      rw [hR.len, List.length_take]; omega
    obtain ⟨hl, nh, hv4, hx, o, rfl, hH, hm, hnext, hperm⟩ : ∃ (hl nh : Nat) (hv4 : List Value) (hx : List Nat) (o : Addr × Obj), v = .ref hl ∧ IntsAre hv4 (asInts hx) ∧ hx ∈ boards many many 0 ∧ [f, q].take (i + 1) = [f, q].take i ++ [hx] ∧ ∀ X, List.Perm ((bl, listOf vb.toArray nb) :: (sl, listOf vs.toArray ns) :: X) ((hl, listOf hv4.toArray nh) :: o :: X) := by
      rcases i with _ | _ | i
      · exact ⟨bl, nb, vb, f, (sl, listOf vs.toArray ns), (Option.some.inj hv).symm, hB, hf, rfl, fun X => .refl _⟩
      · exact ⟨sl, ns, vs, q, (bl, listOf vb.toArray nb), (Option.some.inj hv).symm, hS, hq, rfl, fun X => .swap _ _ _⟩
      · omega
    have hndc := ((Nd.cons (o := oI) hnd4 hsep).perm perm_i).perm perm65a
    refine heights_cell hh X T d5 hndc.hd F4 (newsP N4 perm65a) ?_
    intro o5' h5 tk5 d5' F5 N5
    have hndT := ((hndc.same (l' := (L + 1 + 1 + 1 + 1 + 1, o5') :: _) rfl).perm ((hperm _).cons _)).perm perm65b
    have N6 := newsP (newsP N5 ((hperm _).cons _)) perm65b
    show wpAny (model prog w) A (execs (body10 w.params).1 (envLaw w.params L)) _ _ _
    refine turn_all (by rw [List.length_map]; exact hlen) (by rw [List.length_map]; exact hlen) (by rw [List.length_map]; exact hlen) hH hE hmany hm hel he hb0 hb1 hC1 hC2 hC3 htL htD hh X T hdep hu d2 d4 d5' d6 hndT hs4 F5 N6 ?_
    intro r nV' nU' nW' tl' tD' o6' c6' m' h6 tk6 hok htL' htD' d6' hs6 hnd6 F6 N7
    have hnd7 := ((hnd6.perm perm65c).perm (hperm _).symm).perm perm65d
    have N8 := newsP (newsP (newsP N7 perm65c) (hperm _).symm) perm65d
    have eV : (rs.map fun r => Value.ref r.D) ++ [Value.ref r.D] = (rs ++ [r]).map fun r => Value.ref r.D := by rw [List.map_append]; rfl
    have eU : (rs.map fun r => Value.ref r.S) ++ [Value.ref r.S] = (rs ++ [r]).map fun r => Value.ref r.S := by rw [List.map_append]; rfl
    have eW : (rs.map fun r => Value.ref r.b.x) ++ [Value.ref r.b.x] = (rs ++ [r]).map fun r => Value.ref r.b.x := by rw [List.map_append]; rfl
    rw [eV, eU, eW] at hnd7 N8
    have hnd8 := hnd7.perm perm_i.symm
    have hR' := Recs.snoc hx r hR hok
    rw [← hnext] at hR'
    exact hkn h6 tk6 m' _ F6 N8 hnd8.hd (.mk (rs ++ [r]) _ nV' nU' nW' o5' o6' _ c6' tl' tD' hR' htL' htD' d5' d6' hs6 hnd8.tl)
  · intro h tk m₁ news₁ hJ F5 N5
    exact hQ h tk m₁ news₁ _ _ hJ F5 N5
end
end

noncomputable section
example : True := by -- walkOff_D66
  w_top off
  exact True.intro
section
variable {A : Around} {s : Shared} {g : Heap} {L : Nat} {m : Str → Option Value} {p : Program} {loose : List Str} {mean : ExcName → Option Value} {mg mb : Str → Option Value} {Q : Flow → Shared → Prop} {K : Flow → Shared → Prop} {E : Value → Shared → Prop}
  {o1 o2 o3 o4 o5 o6 o7 : Obj} {tl tD lx R : List (Addr × Obj)}
theorem law_s7 (hh : A.handled = none) (F : Fr g L s.heap m) (N : News g L s.heap R)
    (hQ : ∀ (D : Nat) h' tk, (∀ q ∈ R, q.1 ≠ D) → Fr g L h' (fun y => if y = Str.ofString "tables" then some (.ref D) else m y) → News g L h' ((D, listOf #[] 0) :: R) → Q .next { s with heap := h', toks := tk }) :
    wpAny (model prog w) A (exec (stmtLaw w.params 7) (envLaw w.params L)) Q E s := by
  dsimp only [stmtLaw, envLaw, law229, Option.getD, List.getElem?_cons_succ, List.getElem?_cons_zero]
  repeat walk1
  with_reducible rename Fr _ _ _ _ => F7
  with_reducible rename News _ _ _ _ => N7
  exact hQ _ _ _ (fun q hq => Nat.ne_of_lt (Heap.lt_size (N q hq).1)) F7 N7
theorem law_s8 (hh : A.handled = none) (F : Fr g L s.heap m) (N : News g L s.heap R)
    (hQ : ∀ (D : Nat) h' tk, (∀ q ∈ R, q.1 ≠ D) → Fr g L h' (fun y => if y = Str.ofString "lengths" then some (.ref D) else m y) → News g L h' ((D, listOf #[] 0) :: R) → Q .next { s with heap := h', toks := tk }) :
    wpAny (model prog w) A (exec (stmtLaw w.params 8) (envLaw w.params L)) Q E s := by
  dsimp only [stmtLaw, envLaw, law229, Option.getD, List.getElem?_cons_succ, List.getElem?_cons_zero]
  repeat walk1
  with_reducible rename Fr _ _ _ _ => F7
  with_reducible rename News _ _ _ _ => N7
  exact hQ _ _ _ (fun q hq => Nat.ne_of_lt (Heap.lt_size (N q hq).1)) F7 N7
theorem law_s9 (hh : A.handled = none) (F : Fr g L s.heap m) (N : News g L s.heap R)
    (hQ : ∀ (D : Nat) h' tk, (∀ q ∈ R, q.1 ≠ D) → Fr g L h' (fun y => if y = Str.ofString "leads" then some (.ref D) else m y) → News g L h' ((D, listOf #[] 0) :: R) → Q .next { s with heap := h', toks := tk }) :
    wpAny (model prog w) A (exec (stmtLaw w.params 9) (envLaw w.params L)) Q E s := by
  dsimp only [stmtLaw, envLaw, law229, Option.getD, List.getElem?_cons_succ, List.getElem?_cons_zero]
  repeat walk1
  with_reducible rename Fr _ _ _ _ => F7
  with_reducible rename News _ _ _ _ => N7
  exact hQ _ _ _ (fun q hq => Nat.ne_of_lt (Heap.lt_size (N q hq).1)) F7 N7
noncomputable abbrev lawFrom (P : Params) (i : Nat) : List Stmt := (law229 P).1.2.drop i
theorem perm66a {α : Type} {c7 c6 c5 c4 c3 c2 c1 : α} {R : List α} : List.Perm ([c7, c6, c5, c4, c3, c2, c1] ++ R) (c1 :: (c7 :: c6 :: c5 :: c4 :: c3 :: c2 :: R)) := permT [[c7], [c6], [c5], [c4], [c3], [c2], [c1], R] (.p (.p (.a 0) (.p (.a 1) (.p (.a 2) (.p (.a 3) (.p (.a 4) (.p (.a 5) (.p (.a 6) .o))))))) (.a 7)) (.p (.a 6) (.p (.a 0) (.p (.a 1) (.p (.a 2) (.p (.a 3) (.p (.a 4) (.p (.a 5) (.a 7)))))))) rfl
theorem perm66b {α : Type} {l c7 c6 c5 c4 c3 c2 c1 : α} {R : List α} : List.Perm (l :: c1 :: (c7 :: c6 :: c5 :: c4 :: c3 :: c2 :: R)) (c2 :: l :: (c1 :: c7 :: c6 :: c5 :: c4 :: c3 :: R)) := permT [[l], [c1], [c7], [c6], [c5], [c4], [c3], [c2], R] (.p (.a 0) (.p (.a 1) (.p (.a 2) (.p (.a 3) (.p (.a 4) (.p (.a 5) (.p (.a 6) (.p (.a 7) (.a 8))))))))) (.p (.a 7) (.p (.a 0) (.p (.a 1) (.p (.a 2) (.p (.a 3) (.p (.a 4) (.p (.a 5) (.p (.a 6) (.a 8))))))))) rfl
theorem perm66c {α : Type} {l c7 c6 c5 c4 c3 c2 c1 : α} {R : List α} : List.Perm (c2 :: l :: (c1 :: c7 :: c6 :: c5 :: c4 :: c3 :: R)) (l :: (c3 :: c2 :: c1 :: c7 :: c6 :: c5 :: c4 :: R)) := permT [[c2], [l], [c1], [c7], [c6], [c5], [c4], [c3], R] (.p (.a 0) (.p (.a 1) (.p (.a 2) (.p (.a 3) (.p (.a 4) (.p (.a 5) (.p (.a 6) (.p (.a 7) (.a 8))))))))) (.p (.a 1) (.p (.a 7) (.p (.a 0) (.p (.a 2) (.p (.a 3) (.p (.a 4) (.p (.a 5) (.p (.a 6) (.a 8))))))))) rfl
theorem perm66d {α : Type} {l c7 c6 c5 c4 c3 c2 c1 : α} {R : List α} : List.Perm (l :: (c3 :: c2 :: c1 :: c7 :: c6 :: c5 :: c4 :: R)) (c3 :: c2 :: l :: (c1 :: c7 :: c6 :: c5 :: c4 :: R)) := permT [[l], [c3], [c2], [c1], [c7], [c6], [c5], [c4], R] (.p (.a 0) (.p (.a 1) (.p (.a 2) (.p (.a 3) (.p (.a 4) (.p (.a 5) (.p (.a 6) (.p (.a 7) (.a 8))))))))) (.p (.a 1) (.p (.a 2) (.p (.a 0) (.p (.a 3) (.p (.a 4) (.p (.a 5) (.p (.a 6) (.p (.a 7) (.a 8))))))))) rfl
theorem perm66e {α : Type} {b l c3 c2 : α} {R : List α} : List.Perm (b :: c3 :: c2 :: l :: R) (b :: l :: c3 :: c2 :: R) := permT [[b], [c3], [c2], [l], R] (.p (.a 0) (.p (.a 1) (.p (.a 2) (.p (.a 3) (.a 4))))) (.p (.a 0) (.p (.a 3) (.p (.a 1) (.p (.a 2) (.a 4))))) rfl
theorem perm66f {α : Type} {b s l c3 c2 c1 c7 c6 c5 c4 : α} {R : List α} : List.Perm (s :: b :: l :: c3 :: c2 :: (c1 :: c7 :: c6 :: c5 :: c4 :: R)) (c4 :: c2 :: l :: (s :: b :: c3 :: c1 :: c7 :: c6 :: c5 :: R)) := permT [[s], [b], [l], [c3], [c2], [c1], [c7], [c6], [c5], [c4], R] (.p (.a 0) (.p (.a 1) (.p (.a 2) (.p (.a 3) (.p (.a 4) (.p (.a 5) (.p (.a 6) (.p (.a 7) (.p (.a 8) (.p (.a 9) (.a 10))))))))))) (.p (.a 9) (.p (.a 4) (.p (.a 2) (.p (.a 0) (.p (.a 1) (.p (.a 3) (.p (.a 5) (.p (.a 6) (.p (.a 7) (.p (.a 8) (.a 10))))))))))) rfl
theorem perm66g {α : Type} {v u w e b s l c3 c2 c1 c7 c6 c5 c4 : α} {tl tD : List α} : List.Perm (w :: u :: v :: (e :: c4 :: c2 :: l :: (s :: b :: c3 :: c1 :: c7 :: c6 :: c5 :: (tl ++ tD)))) (v :: u :: w :: ([] ++ (c5 :: c6 :: (tl ++ (tD ++ (b :: s :: e :: c4 :: c2 :: c3 :: l :: c7 :: c1 :: [])))))) := permT [[w], [u], [v], [e], [c4], [c2], [l], [s], [b], [c3], [c1], [c7], [c6], [c5], tl, tD] (.p (.a 0) (.p (.a 1) (.p (.a 2) (.p (.a 3) (.p (.a 4) (.p (.a 5) (.p (.a 6) (.p (.a 7) (.p (.a 8) (.p (.a 9) (.p (.a 10) (.p (.a 11) (.p (.a 12) (.p (.a 13) (.p (.a 14) (.a 15)))))))))))))))) (.p (.a 2) (.p (.a 1) (.p (.a 0) (.p .o (.p (.a 13) (.p (.a 12) (.p (.a 14) (.p (.a 15) (.p (.a 8) (.p (.a 7) (.p (.a 3) (.p (.a 4) (.p (.a 5) (.p (.a 9) (.p (.a 6) (.p (.a 11) (.p (.a 10) .o))))))))))))))))) rfl
theorem base_facts {c : Nat} (h : c ≤ 100000000) : 140 ≤ 200 + (c / 6) ^ 4 ∧ 200 + (c / 6) ^ 4 ≤ 2 ^ 110 := by
  have h1 : c / 6 ≤ 2 ^ 24 := by
    have : (2 : Nat) ^ 24 = 16777216 := rfl
    omega
  have h2 := Nat.pow_le_pow_left h1 4
  have h3 : ((2 : Nat) ^ 24) ^ 4 + 200 ≤ 2 ^ 110 := by decide
  omega
set_option maxHeartbeats 4000000 in
theorem law_A {sc : Nat} {vs : List Value} {ns : List Int} (hI : IntsAre vs ns) (hlen : ns.length ≤ 63) (hh : A.handled = none) (X : (hdK.heap_1 w.params).In g) (T : Top p loose mean mg mb g)
    (hdep : A.depth + 200 < recursionLimit) (hu : A.units + 3000 < cLine) (hsc : g.IsList sc vs.toArray) (d1 : cellV o1 (.ref sc)) {c2 c3 c4 : Option Value} (d2 : o2.data = .cell c2) (d3 : o3.data = .cell c3) (d4 : o4.data = .cell c4)
    (hnd : Nd (cells7 L o1 o2 o3 o4 o5 o6 o7 ++ (tl ++ tD)))
    (F : Fr g L s.heap m) (N : News g L s.heap (cells7 L o1 o2 o3 o4 o5 o6 o7 ++ (tl ++ tD)))
    (hQ : ∀ (many base V U W bl nb sl cl nc nsl el : Nat) (cs f q : List Nat) (vb vq ev vc : List Value) (tm tb : Tok) (o2 o3 o4 : Obj) (h' : Heap) (tk : Nat) (m' : Str → Option Value),
      cs.length = 9 → (many = 3 ∨ many = 4) → 140 ≤ base → base ≤ 2 ^ 110 → f ∈ boards many many 0 → q ∈ boards many many 0 → IntsAre vb (asInts f) → IntsAre vq (asInts q) → StrsAre ev (((cs.take many).map endOf).map txt) →
      cellV o2 (.int (many : Int) tm) → cellV o3 (.ref bl) → cellV o4 (.ref el) →
      Nd (loopLed L V U W 0 0 0 [] [] o5 o6 tl tD (loopFix L bl nb sl nsl el ev.length vb vq ev o2 o4 ((L + 1 + 1 + 1, o3) :: (cl, listOf vc.toArray nc) :: (L + 1 + 1 + 1 + 1 + 1 + 1 + 1, o7) :: (L + 1, o1) :: []))) →
      Says m' ((Str.ofString "second", .ref sl) :: saysT V U W base tb) → Fr g L h' m' →
      News g L h' (loopLed L V U W 0 0 0 [] [] o5 o6 tl tD (loopFix L bl nb sl nsl el ev.length vb vq ev o2 o4 ((L + 1 + 1 + 1, o3) :: (cl, listOf vc.toArray nc) :: (L + 1 + 1 + 1 + 1 + 1 + 1 + 1, o7) :: (L + 1, o1) :: []))) →
      wpAny (model prog w) A (execs (lawFrom w.params 10) (envLaw w.params L)) K (fun _ _ => False) { s with heap := h', toks := tk }) :
    wpAny (model prog w) A (execs (lawFrom w.params 0) (envLaw w.params L)) K (fun _ _ => False) s := by
  rw [show lawFrom w.params 0 = stmtLaw w.params 0 :: stmtLaw w.params 1 :: stmtLaw w.params 2 :: stmtLaw w.params 3 :: stmtLaw w.params 4 :: stmtLaw w.params 5 :: stmtLaw w.params 6 :: stmtLaw w.params 7 :: stmtLaw w.params 8 :: stmtLaw w.params 9 :: lawFrom w.params 10 from rfl]
  have hnd1 := hnd.perm perm66a
  refine wpAny_execs_cons (law_s0 (o1 := o1) hI hlen hh X T hdep hu hsc d1 F (newsP N perm66a) ?_)
  intro cl vc cs h0 tk0 hcl hcb hIc offc F0 N0
  dsimp only
  have hnd2 := (hnd1.off1 (o := listOf vc.toArray vc.length) offc).perm perm66b
  refine wpAny_execs_cons (law_s1 hIc hcl hh X T d2 (fun p hp => hnd2.hd p (.tail _ hp)) (says_cons (by exact rfl) says_nil) F0 (newsP N0 perm66b) (hnd2.hd _ (.head _)) ?_)
  intro h1 tk1 tm o2' d2' F1 N1
  dsimp only
  have hnd3 := (hnd2.same (l' := (L + 1 + 1, o2') :: _) rfl).perm perm66c
  have hmany : 3 + cs.getD 8 0 % 2 = 3 ∨ 3 + cs.getD 8 0 % 2 = 4 := by omega
  have hc8 : cs.getD 8 0 ≤ 100000000 := by
    have h8 : 8 < cs.length := by omega
    rw [List.getD_eq_getElem?_getD, List.getElem?_eq_getElem h8]
    exact hcb _ (List.getElem_mem h8)
  have hbase := base_facts hc8
  refine wpAny_execs_cons (law_s2 hIc hcl hh X T (says_cons (by exact rfl) says_nil) F1 (newsP N1 perm66c) ?_)
  intro h2 tk2 tk' F2 N2
  dsimp only
  refine wpAny_execs_cons (law_s3 hIc hcl hcb hh X T (says_cons (by exact rfl) says_nil) F2 N2 ?_)
  intro h3 tk3 tb F3 N3
  dsimp only
  generalize hmy : 3 + cs.getD 8 0 % 2 = many at *
  generalize 200 + (cs.getD 8 0 / 6) ^ 4 = base at *
  generalize cs.getD 8 0 / 2 % 3 = kd at *
  have hm4 : many ≤ 4 := by omega
  have hnd4 := hnd3.perm perm66d
  refine wpAny_execs_cons (law_s4 hIc hcl hm4 hh X T hdep hu d2' d3 (says_cons (by exact rfl) says_nil) hnd4 F3 (newsP N3 perm66d) ?_)
  intro h4 tk4 bl nb vb o3' hB d3' hnd5 F4 N4
  dsimp only
  have hf := board_first (many := many) (cs := cs) hmany hcl
  have hq := second_board (kd := kd) (cs := cs) hmany hf hcl
  have hfl := board_len hf
  have hf4 : ∀ h ∈ climb many (cs.take many), h ≤ 4 := fun h hx => Nat.le_trans (board_le hf h hx) hm4
  refine wpAny_execs_cons (law_s5 (kd := kd) hB hIc hcl (by omega) (by omega) hf4 hm4 hh X T hdep hu d2' d3' (says_cons (by exact rfl) (says_cons (by exact rfl) says_nil)) (hnd5.perm perm66e) F4 (newsP N4 perm66e) ?_)
  intro h5 tk5 sl nsl vq hS hnd6 F5 N5
  dsimp only
  have hnd7 := hnd6.perm perm66f
  refine wpAny_execs_cons (law_s6 hIc hcl hm4 hh X T hdep hu d2' d4 (says_cons (by exact rfl) says_nil) hnd7 F5 (newsP N5 perm66f) ?_)
  intro h6 tk6 el ev o4' hE d4' hnd8 F6 N6
  dsimp only
  refine wpAny_execs_cons (law_s7 hh F6 N6 ?_)
  intro V h7 tk7 oV F7 N7
  dsimp only
  refine wpAny_execs_cons (law_s8 hh F7 N7 ?_)
  intro U h8 tk8 oU F8 N8
  dsimp only
  refine wpAny_execs_cons (law_s9 hh F8 N8 ?_)
  intro W h9 tk9 oW F9 N9
  dsimp only
  have hndV := Nd.cons (o := listOf #[] 0) (Nd.cons (o := listOf #[] 0) (Nd.cons (o := listOf #[] 0) hnd8 oV) oU) oW
  generalize climb many (cs.take many) = f at *
  generalize secondOf kd many f cs = q at *
  refine hQ many base V U W bl nb sl cl vc.length nsl el cs f q vb vq ev vc tm tb o2' o3' o4' h9 tk9 _ hcl hmany hbase.1 hbase.2 hf hq hB hS (by rw [List.map_map]; exact hE) d2' d3' d4' (hndV.perm perm66g) (says_cons (by exact rfl) (says_cons (by exact rfl) (says_cons (by exact rfl) (says_cons (by exact rfl) (says_cons (by exact rfl) says_nil))))) F9 (newsP N9 perm66g)
end
end

noncomputable section
example : True := by -- walkOff_D67
  w_top off
  exact True.intro
theorem perm67a {α : Type} {d v u w r1 s1 r2 s2 c5 c6 b s e c4 c2 t c3 l c7 c1 : α} {B1 B2 tl tD : List α} : List.Perm (d :: (v :: u :: w :: (((r2 :: s2 :: B2) ++ ((r1 :: s1 :: B1) ++ [])) ++ (c5 :: c6 :: (tl ++ (tD ++ (b :: s :: e :: c4 :: c2 :: t :: c3 :: l :: c7 :: c1 :: []))))))) (d :: c7 :: (u :: s1 :: s2 :: (w :: v :: r1 :: r2 :: (B1 ++ (B2 ++ (tl ++ (tD ++ [c5, c6, b, s, e, c4, c2, t, c3, l, c1]))))))) := permT [[d], [v], [u], [w], [r2], [s2], B2, [r1], [s1], B1, [c5], [c6], tl, tD, [b], [s], [e], [c4], [c2], [t], [c3], [l], [c7], [c1]] (.p (.a 0) (.p (.a 1) (.p (.a 2) (.p (.a 3) (.p (.p (.p (.a 4) (.p (.a 5) (.a 6))) (.p (.p (.a 7) (.p (.a 8) (.a 9))) .o)) (.p (.a 10) (.p (.a 11) (.p (.a 12) (.p (.a 13) (.p (.a 14) (.p (.a 15) (.p (.a 16) (.p (.a 17) (.p (.a 18) (.p (.a 19) (.p (.a 20) (.p (.a 21) (.p (.a 22) (.p (.a 23) .o))))))))))))))))))) (.p (.a 0) (.p (.a 22) (.p (.a 2) (.p (.a 8) (.p (.a 5) (.p (.a 3) (.p (.a 1) (.p (.a 7) (.p (.a 4) (.p (.a 9) (.p (.a 6) (.p (.a 12) (.p (.a 13) (.p (.a 10) (.p (.a 11) (.p (.a 14) (.p (.a 15) (.p (.a 16) (.p (.a 17) (.p (.a 18) (.p (.a 19) (.p (.a 20) (.p (.a 21) (.p (.a 23) .o)))))))))))))))))))))))) rfl
theorem perm67b {α : Type} {d v u w r1 s1 r2 s2 c7 : α} {TD B1 B2 R : List α} : List.Perm (d :: c7 :: (TD ++ (u :: s1 :: s2 :: (w :: v :: r1 :: r2 :: (B1 ++ (B2 ++ R)))))) (w :: d :: (B1 ++ (B2 ++ (TD ++ (u :: s1 :: s2 :: v :: r1 :: r2 :: c7 :: R))))) := permT [[d], [c7], TD, [u], [s1], [s2], [w], [v], [r1], [r2], B1, B2, R] (.p (.a 0) (.p (.a 1) (.p (.a 2) (.p (.a 3) (.p (.a 4) (.p (.a 5) (.p (.a 6) (.p (.a 7) (.p (.a 8) (.p (.a 9) (.p (.a 10) (.p (.a 11) (.a 12))))))))))))) (.p (.a 6) (.p (.a 0) (.p (.a 10) (.p (.a 11) (.p (.a 2) (.p (.a 3) (.p (.a 4) (.p (.a 5) (.p (.a 7) (.p (.a 8) (.p (.a 9) (.p (.a 1) (.a 12))))))))))))) rfl
theorem perm67c {α : Type} {d w : α} {TD B1 B2 R : List α} : List.Perm (w :: d :: (B1 ++ (B2 ++ (TD ++ R)))) ((B1 ++ B2) ++ (w :: d :: (TD ++ R))) := permT [[w], [d], B1, B2, TD, R] (.p (.a 0) (.p (.a 1) (.p (.a 2) (.p (.a 3) (.p (.a 4) (.a 5)))))) (.p (.p (.a 2) (.a 3)) (.p (.a 0) (.p (.a 1) (.p (.a 4) (.a 5))))) rfl
theorem perm67d {α : Type} {d' d v u w r1 s1 r2 s2 c7 : α} {TD B1 B2 R : List α} : List.Perm (d' :: (w :: d :: (B1 ++ (B2 ++ (TD ++ (u :: s1 :: s2 :: v :: r1 :: r2 :: c7 :: R)))))) ((d :: TD) ++ (d' :: c7 :: (u :: s1 :: (s2 :: w :: v :: r1 :: r2 :: (B1 ++ (B2 ++ R)))))) := permT [[d'], [w], [d], B1, B2, TD, [u], [s1], [s2], [v], [r1], [r2], [c7], R] (.p (.a 0) (.p (.a 1) (.p (.a 2) (.p (.a 3) (.p (.a 4) (.p (.a 5) (.p (.a 6) (.p (.a 7) (.p (.a 8) (.p (.a 9) (.p (.a 10) (.p (.a 11) (.p (.a 12) (.a 13)))))))))))))) (.p (.p (.a 2) (.a 5)) (.p (.a 0) (.p (.a 12) (.p (.a 6) (.p (.a 7) (.p (.a 8) (.p (.a 1) (.p (.a 9) (.p (.a 10) (.p (.a 11) (.p (.a 3) (.p (.a 4) (.a 13))))))))))))) rfl
theorem perm67e {α : Type} {d v u w r1 s1 r2 s2 c7 : α} {TD B1 B2 R : List α} : List.Perm (d :: c7 :: (TD ++ (u :: s1 :: (s2 :: w :: v :: r1 :: r2 :: (B1 ++ (B2 ++ R)))))) (w :: d :: (B1 ++ (TD ++ (u :: s1 :: s2 :: v :: r1 :: r2 :: c7 :: (B2 ++ R))))) := permT [[d], [c7], TD, [u], [s1], [s2], [w], [v], [r1], [r2], B1, B2, R] (.p (.a 0) (.p (.a 1) (.p (.a 2) (.p (.a 3) (.p (.a 4) (.p (.a 5) (.p (.a 6) (.p (.a 7) (.p (.a 8) (.p (.a 9) (.p (.a 10) (.p (.a 11) (.a 12))))))))))))) (.p (.a 6) (.p (.a 0) (.p (.a 10) (.p (.a 2) (.p (.a 3) (.p (.a 4) (.p (.a 5) (.p (.a 7) (.p (.a 8) (.p (.a 9) (.p (.a 1) (.p (.a 11) (.a 12))))))))))))) rfl
theorem perm67f {α : Type} {d w : α} {TD B1 R : List α} : List.Perm (w :: d :: (B1 ++ (TD ++ R))) (B1 ++ (w :: d :: (TD ++ R))) := permT [[w], [d], B1, TD, R] (.p (.a 0) (.p (.a 1) (.p (.a 2) (.p (.a 3) (.a 4))))) (.p (.a 2) (.p (.a 0) (.p (.a 1) (.p (.a 3) (.a 4))))) rfl
theorem perm67g {α : Type} {d v u w r1 s1 r2 s2 c7 : α} {TD B1 B2 R : List α} : List.Perm (w :: d :: (B1 ++ (TD ++ (u :: s1 :: s2 :: v :: r1 :: r2 :: c7 :: (B2 ++ R))))) (w :: v :: r1 :: r2 :: (B1 ++ (B2 ++ (d :: u :: s1 :: s2 :: c7 :: (TD ++ R))))) := permT [[w], [d], B1, TD, [u], [s1], [s2], [v], [r1], [r2], [c7], B2, R] (.p (.a 0) (.p (.a 1) (.p (.a 2) (.p (.a 3) (.p (.a 4) (.p (.a 5) (.p (.a 6) (.p (.a 7) (.p (.a 8) (.p (.a 9) (.p (.a 10) (.p (.a 11) (.a 12))))))))))))) (.p (.a 0) (.p (.a 7) (.p (.a 8) (.p (.a 9) (.p (.a 2) (.p (.a 11) (.p (.a 1) (.p (.a 4) (.p (.a 5) (.p (.a 6) (.p (.a 10) (.p (.a 3) (.a 12))))))))))))) rfl
theorem perm67h {α : Type} {w v r1 r2 : α} {B1 B2 R : List α} : List.Perm (w :: v :: r1 :: r2 :: (B1 ++ (B2 ++ R))) ((B1 ++ B2) ++ (w :: v :: r1 :: r2 :: R)) := permT [[w], [v], [r1], [r2], B1, B2, R] (.p (.a 0) (.p (.a 1) (.p (.a 2) (.p (.a 3) (.p (.a 4) (.p (.a 5) (.a 6))))))) (.p (.p (.a 4) (.a 5)) (.p (.a 0) (.p (.a 1) (.p (.a 2) (.p (.a 3) (.a 6)))))) rfl
theorem mem67 {α : Type} {q w v r1 r2 d u s1 s2 c7 : α} {B1 B2 TD R : List α} (h : q ∈ R) : q ∈ (B1 ++ B2) ++ (w :: v :: r1 :: r2 :: (d :: u :: s1 :: s2 :: c7 :: (TD ++ R))) := memT [R, B1, B2, [w], [v], [r1], [r2], [d], [u], [s1], [s2], [c7], TD] (.a 0) (.p (.p (.a 1) (.a 2)) (.p (.a 3) (.p (.a 4) (.p (.a 5) (.p (.a 6) (.p (.a 7) (.p (.a 8) (.p (.a 9) (.p (.a 10) (.p (.a 11) (.p (.a 12) (.a 0)))))))))))) rfl h
theorem mem67z {α : Type} {q : α} {tl tD R : List α} (h : q ∈ tl ++ tD) : q ∈ tl ++ (tD ++ R) := memT [tl, tD, R] (.p (.a 0) (.a 1)) (.p (.a 0) (.p (.a 1) (.a 2))) rfl h
section
variable {A : Around} {s : Shared} {g : Heap} {L : Nat} {m : Str → Option Value} {p : Program} {loose : List Str} {mean : ExcName → Option Value} {mg mb : Str → Option Value} {K : Flow → Shared → Prop}
  {o1 o2 o3 o4 o5 o6 o7 : Obj} {tl tD lx R : List (Addr × Obj)}
theorem Recs.none {P : Params} {base many : Nat} {hss : List (List Nat)} {rs : List Rec} {led : List (Addr × Obj)} (h : Recs P base many hss rs led) (e : hss = []) : rs = [] ∧ led = [] := by
  cases h with
  | nil => exact ⟨rfl, rfl⟩
  | snoc hs r h ok => simp at e
theorem Recs.last {P : Params} {base many : Nat} {hss : List (List Nat)} {rs : List Rec} {led : List (Addr × Obj)} (h : Recs P base many hss rs led) {ini : List (List Nat)} {x : List Nat} (e : hss = ini ++ [x]) : ∃ rs' r led', rs = rs' ++ [r] ∧ led = r.led P (spanOf many x) ++ led' ∧ Recs P base many ini rs' led' ∧ r.Ok base many x := by
  cases h with
  | nil => simp at e
  | snoc hs r h ok =>
    obtain ⟨rfl, e2⟩ := List.append_inj' e rfl
    cases e2
    exact ⟨_, r, _, rfl, rfl, h, ok⟩
theorem Recs.two {P : Params} {base many : Nat} {f q : List Nat} {rs : List Rec} {led : List (Addr × Obj)} (h : Recs P base many [f, q] rs led) : ∃ r1 r2, rs = [r1, r2] ∧ led = r2.led P (spanOf many q) ++ (r1.led P (spanOf many f) ++ []) ∧ r1.Ok base many f ∧ r2.Ok base many q := by
  obtain ⟨rs1, r2, led1, rfl, rfl, h1, k2⟩ := h.last (ini := [f]) (x := q) rfl
  obtain ⟨rs0, r1, led0, rfl, rfl, h0, k1⟩ := h1.last (ini := []) (x := f) rfl
  obtain ⟨rfl, rfl⟩ := h0.none rfl
  exact ⟨r1, r2, rfl, rfl, k1, k2⟩
theorem lastR3 : ((boards 3 3 0).all fun hs => rookR hs == (rookR hs).dropLast ++ [1]) = true := by decide +kernel
theorem lastR4 : ((boards 4 4 0).all fun hs => rookR hs == (rookR hs).dropLast ++ [1]) = true := by decide +kernel
theorem told_rk {base many : Nat} {hs : List Nat} (hmany : many = 3 ∨ many = 4) (hm : hs ∈ boards many many 0) (hb : 140 ≤ base) : toldAt base (prodOf base many (spanOf many hs)) many = (rookR hs).dropLast.map (fun n : Nat => (n : Int)) ∧ rookR hs = (rookR hs).dropLast ++ [1] := by
  have hr : rookR hs = (rookR hs).dropLast ++ [1] := by
    rcases hmany with rfl | rfl
    · exact eq_of_beq (List.all_eq_true.mp lastR3 _ hm)
    · exact eq_of_beq (List.all_eq_true.mp lastR4 _ hm)
  have h := told_rooks hmany hm hb
  rw [rookNums_is, hr, List.map_append] at h
  exact ⟨(List.append_inj' h rfl).1, hr⟩
theorem told_same {base many : Nat} {f q : List Nat} (hmany : many = 3 ∨ many = 4) (hf : f ∈ boards many many 0) (hq : q ∈ boards many many 0) (hb : 140 ≤ base) :
    (rookR f == rookR q) = (toldAt base (prodOf base many (spanOf many f)) many == toldAt base (prodOf base many (spanOf many q)) many) := by
  obtain ⟨e1, r1⟩ := told_rk hmany hf hb
  obtain ⟨e2, r2⟩ := told_rk hmany hq hb
  rw [e1, e2]
  have inj : ∀ {l k : List Nat}, l.map (fun n : Nat => (n : Int)) = k.map (fun n : Nat => (n : Int)) → l = k := fun {l k} h => by
    have h2 := congrArg (List.map Int.toNat) h
    rw [List.map_map, List.map_map] at h2
    simpa [Function.comp_def] using h2
  by_cases h : (rookR f).dropLast = (rookR q).dropLast
  · have : rookR f = rookR q := by rw [r1, r2, h]
    rw [this, beq_self_eq_true, beq_self_eq_true]
  · have h1 : rookR f ≠ rookR q := fun e => h (by rw [e])
    have h2 : (rookR f).dropLast.map (fun n : Nat => (n : Int)) ≠ (rookR q).dropLast.map (fun n : Nat => (n : Int)) := fun e => h (inj e)
    rw [beq_false_of_ne h1, beq_false_of_ne h2]
theorem rec_lens {many : Nat} {hs : List Nat} (hmany : many = 3 ∨ many = 4) (hm : hs ∈ boards many many 0) : (wsOf (leadsOf (spanOf many hs))).count.length ≤ 1000 ∧ (wsOf (leadsOf (spanOf many hs))).b ≤ 1000 ∧ (leadsOf (spanOf many hs)).length ≤ 100 := by
  have h9 := (goodW_facts (goodW_of hmany hm)).2.2.2.2.2
  have hl := leads_len h9 (by rw [spanOf_len]; omega)
  have h := wsOf_len (leadsOf (spanOf many hs))
  omega
theorem wit_top {a b : Nat} : (max (a : Int) (b : Int) + 1).toNat = max a b + 1 := by
  rcases Nat.le_total a b with h | h
  · rw [Nat.max_eq_right h, Int.max_eq_right (Int.ofNat_le.mpr h)]; rfl
  · rw [Nat.max_eq_left h, Int.max_eq_left (Int.ofNat_le.mpr h)]; rfl
theorem wit13 {many : Nat} {f q : List Nat} (gf : goodW many f) (gq : goodW many q) : witRows (wsOf (leadsOf (spanOf many f))) (wsOf (leadsOf (spanOf many q))) (max (runOf (wsOf (leadsOf (spanOf many f)))) (runOf (wsOf (leadsOf (spanOf many q)))) + 1).toNat = dueRows (spanOf many f) (spanOf many q) (max (maxL (spanOf many f)) (maxL (spanOf many q)) + 1) := by
  have ff := goodW_facts gf
  have fq := goodW_facts gq
  rw [dueRows_wit gf gq _ (Nat.succ_le_succ (Nat.max_le.mpr ⟨ff.2.2.2.2.1, fq.2.2.2.2.1⟩))]
  show witRows (wsB many f) (wsB many q) (max (runOf (wsB many f)) (runOf (wsB many q)) + 1).toNat = witRows (wsB many f) (wsB many q) _
  rw [ff.2.2.1, fq.2.2.1, wit_top]
theorem wit16 {many : Nat} {f : List Nat} (gf : goodW many f) : witRows (wsOf (leadsOf (spanOf many f))) (wsOf (leadsOf (spanOf many f) ++ [9])) (max (runOf (wsOf (leadsOf (spanOf many f)))) (runOf (wsOf (leadsOf (spanOf many f) ++ [9]))) + 1).toNat = rawRows (spanOf many f) (maxL (spanOf many f) + 1) := by
  have ff := goodW_facts gf
  rw [rawRows_wit gf _ (Nat.succ_le_succ ff.2.2.2.2.1)]
  show witRows (wsB many f) (rawB many f) (max (runOf (wsB many f)) (runOf (rawB many f)) + 1).toNat = witRows (wsB many f) (rawB many f) _
  rw [ff.2.2.1, ff.2.2.2.1, wit_top, Nat.max_self]
set_option maxHeartbeats 4000000 in
theorem law_C {V U W base many bl nb sl ns el ne : Nat} {tb : Tok} {f q : List Nat} {vb vs ev : List Value} {c7 : Option Value} {t : Addr} {oT : Obj} {l : Addr × Obj} {news : List (Addr × Obj)} (d7 : o7.data = .cell c7) (hmany : many = 3 ∨ many = 4) (hf : f ∈ boards many many 0) (hq : q ∈ boards many many 0) (hb0 : 140 ≤ base)
    (hh : A.handled = none) (X : (hdK.heap_1 w.params).In g) (T : Top p loose mean mg mb g) (hdep : A.depth + 200 < recursionLimit) (hu : A.units + 3000 < cLine)
    (hJ : J10 w.params L V U W base many tb f q (loopFix L bl nb sl ns el ne vb vs ev o2 o4 ((t, oT) :: (L + 1 + 1 + 1, o3) :: l :: (L + 1 + 1 + 1 + 1 + 1 + 1 + 1, o7) :: (L + 1, o1) :: [])) 2 m news)
    (F : Fr g L s.heap m) (N : News g L s.heap news)
    (hQ : ∀ (tl tD led : List (Addr × Obj)) (h' : Heap) (tk : Nat) (m' : Str → Option Value), TabL tl → TabsOk tD → (∀ q ∈ tl ++ tD, q ∈ led) → Fr g L h' m' → News g L h' led → K (.ret (.bool true)) { s with heap := h', toks := tk }) :
    wpAny (model prog w) A (execs (lawFrom w.params 11) (envLaw w.params L)) K (fun _ _ => False) s := by
  obtain ⟨rs, RL, nV, nU, nW, o5, o6, c5, c6, tl, tD, hR, htL, htD, d5, d6, hs, hnd⟩ := hJ
  have hR : Recs w.params base many [f, q] rs RL := hR
  obtain ⟨r1, r2, rfl, rfl, k1, k2⟩ := hR.two
  clear hR
  obtain ⟨D1, nD1, S1, a, ys, sv, cv⟩ := r1
  obtain ⟨D2, nD2, S2, b, zs, su, cu⟩ := r2
  obtain ⟨hys, hsv, ha, hcv⟩ := k1
  obtain ⟨hzs, hsu, hb, hcu⟩ := k2
  dsimp only at hys hsv ha hcv hzs hsu hb hcu
  have gf := goodW_of hmany hf
  have gq := goodW_of hmany hq
  have ff := goodW_facts gf
  have fq := goodW_facts gq
  have lf := rec_lens hmany hf
  have lq := rec_lens hmany hq
  have hl1 : (spanOf many f).length ≤ 4 := by rw [spanOf_len]; omega
  have hl2 : (spanOf many q).length ≤ 4 := by rw [spanOf_len]; omega
  have hp0 : spanOf many f ≠ [] := fun e => by
    have := spanOf_len many f
    rw [e] at this
    simp at this; omega
  have sV := hs _ (.head _)
  have sU := hs _ (.tail _ (.head _))
  have sW := hs _ (.tail _ (.tail _ (.head _)))
  dsimp only at sV sU sW
  rw [show lawFrom w.params 11 = [stmtLaw w.params 11, stmtLaw w.params 12, stmtLaw w.params 13, stmtLaw w.params 14, stmtLaw w.params 15, stmtLaw w.params 16, stmtLaw w.params 17] from rfl]
  refine wpAny_execs_cons (law_s11 hh F N ?_)
  intro Du h11 tk11 oD F11 N11
  dsimp only
  have hnd1 := (Nd.cons (o := listOf #[] 0) hnd oD).perm perm67a
  have N1 := newsP N11 perm67a
  have hmem := fun q => mem67z (q := q) (tl := tl) (tD := tD) (R := [(L + 1 + 1 + 1 + 1 + 1, o5), (L + 1 + 1 + 1 + 1 + 1 + 1, o6), (bl, listOf vb.toArray nb), (sl, listOf vs.toArray ns), (el, listOf ev.toArray ne), (L + 1 + 1 + 1 + 1, o4), (L + 1 + 1, o2), (t, oT), (L + 1 + 1 + 1, o3), l, (L + 1, o1)])
  generalize tl ++ (tD ++ [(L + 1 + 1 + 1 + 1 + 1, o5), (L + 1 + 1 + 1 + 1 + 1 + 1, o6), (bl, listOf vb.toArray nb), (sl, listOf vs.toArray ns), (el, listOf ev.toArray ne), (L + 1 + 1 + 1 + 1, o4), (L + 1 + 1, o2), (t, oT), (L + 1 + 1 + 1, o3), l, (L + 1, o1)]) = R0 at hnd1 N1 hmem
  clear N N11 hnd oD F
  refine wpAny_execs_cons (law_s12 (sp := spanOf many f) (sq := spanOf many q) d7 hsv hsu hl1 hl2 hp0 ff.2.2.2.2.2 fq.2.2.2.2.2 hh X T hdep hu hnd1 (says_cons (by exact sU) (says_cons (by exact rfl) says_nil)) F11 N1 ?_)
  clear N1 hnd1 F11
  intro h12 tk12 m12 news12 hJ12 F12 N12
  obtain ⟨o7', c7', nDu, dv, TD, hTD, hdl, d7', hnd2, hm12⟩ := hJ12
  dsimp only
  have sV2 : m12 (Str.ofString "tables") = some (.ref V) := by rw [hm12 _ (by decide) (by decide)]; exact sV
  have sU2 : m12 (Str.ofString "lengths") = some (.ref U) := by rw [hm12 _ (by decide) (by decide)]; exact sU
  have sW2 : m12 (Str.ofString "leads") = some (.ref W) := by rw [hm12 _ (by decide) (by decide)]; exact sW
  have sD2 : m12 (Str.ofString "due") = some (.ref Du) := by rw [hm12 _ (by decide) (by decide)]; exact if_pos rfl
  have hnd3 := hnd2.perm perm67b
  have w13 := wit13 gf gq
  refine wpAny_execs_cons (law_s13 (a := a) (b := b) ha hb hcv hcu lf.1 lq.1 lf.2.1 lq.2.1 w13 hTD (hnd3.perm perm67c) hh X T hdep hu (says_cons sW2 (says_cons sD2 says_nil)) F12 (newsP N12 perm67b) ?_)
  intro h13 tk13 F13 N13
  dsimp only
  refine wpAny_execs_cons (law_s14 hh F13 N13 ?_)
  intro De h14 tk14 oD2 F14 N14
  dsimp only
  have hnd4 := ((Nd.cons (o := listOf #[] 0) hnd3 oD2).perm perm67d).right
  have N15 := fun q hq => newsP N14 perm67d q (List.mem_append_right _ hq)
  clear F12 N12 F13 N13 N14 hnd3 hnd2
  refine wpAny_execs_cons (law_s15 (sp := spanOf many f) d7' hsv hl1 hp0 ff.2.2.2.2.2 hh X T hdep hu hnd4 (says_cons (by exact sU2) (says_cons (by exact rfl) says_nil)) F14 N15 ?_)
  intro h15 tk15 m15 news15 hJ15 F15 N16
  obtain ⟨o7'', c7'', nDe, ew, TE, hTE, hel, d7'', hnd5, hm15⟩ := hJ15
  dsimp only
  have sV5 : m15 (Str.ofString "tables") = some (.ref V) := by rw [hm15 _ (by decide)]; exact sV2
  have sW5 : m15 (Str.ofString "leads") = some (.ref W) := by rw [hm15 _ (by decide)]; exact sW2
  have sD5 : m15 (Str.ofString "due") = some (.ref De) := by rw [hm15 _ (by decide)]; exact if_pos rfl
  have hnd6 := hnd5.perm perm67e
  have w16 := wit16 gf
  refine wpAny_execs_cons (law_s16 (a := a) ha hcv rfl rfl lf.2.2 (leads_blank _) w16 hTE (hnd6.perm perm67f) hh X T hdep hu (says_cons sW5 (says_cons sD5 says_nil)) F15 (newsP N16 perm67e) ?_)
  intro h16 tk16 F16 N17
  dsimp only
  have hnd7 := hnd6.perm perm67g
  refine wpAny_execs_cons (law_s17 (a := a) (b := b) ha hb hcv hcu (by have := lf.1; omega) (by have := lq.1; omega) hys hzs (by rw [toldAt_len]; omega) (by rw [toldAt_len]; omega) ff.1 fq.1 ((pair_of hmany hf hq).trans (told_same hmany hf hq hb0)) (hnd7.perm perm67h) hh X T hdep hu (says_cons sW5 (says_cons sV5 says_nil)) F16 (newsP N17 perm67g) ?_)
  intro h17 tk17 F17 N18
  exact hQ tl tD _ h17 tk17 m15 htL htD (fun q hq => mem67 (hmem q hq)) F17 N18
end
end

noncomputable section
example : True := by -- walkOff_D68
  w_top off
  exact True.intro
noncomputable def MeetsG (prog : Program) (w : World) (K : Frag) (c : Code) (fp : List (Addr × Obj)) (d u : Nat) (Gp : Heap → Prop) (P : Nat → Value → List (Addr × Obj) → Prop) : Prop :=
  ∀ (A : Around) (s : Shared) (g : Heap) (p : Program) (loose : List Str) (mean : ExcName → Option Value) (mg mb : Str → Option Value),
    A.handled = none → A.depth + d < recursionLimit → A.units + u < cLine → Wo g s.heap fp → K.In g → Top p loose mean mg mb g → Gp g →
    ∀ R : Result → Shared → Prop, (∀ v l h' tk, P s.heap.objs.size v l → Wo g h' l → R (.ok (.ret v)) { s with heap := h', toks := tk }) → codeAny (model prog w) A c R s
theorem meets_defCG {K : Frag} {prog : Program} {w : World} {fp : List (Addr × Obj)} {d u : Nat} {Gp : Heap → Prop} {P : Nat → Value → List (Addr × Obj) → Prop}
    {name qual : Str} {params : Arguments} {body : List Stmt} {scope : Scope} {dV kV doc pm cdv ct oc : Value} {an od : Option Addr} {osl : Array (Option Value)} {f : Addr} {args : List Value} {binds : List (Str × Value)}
    (ho : K.lookup f = some ⟨oc, od, .func (fnX name qual params body scope [] dV kV doc pm an cdv ct), osl⟩) (hcd : codeIn K cdv qual = true)
    (hbind : ∀ s, BindsTo s (fnX name qual params body scope [] dV kV doc pm an cdv ct) ⟨args, []⟩ binds)
    (hkind : (binds.all fun y => scope.names.lookup y.1 == some .local || scope.names.lookup y.1 == some .cell) = true) (hnd : ((cellsFrom 0 scope.names []).map (·.1)).Nodup)
    (h : ∀ (A : Around) (s : Shared) (g : Heap) (p : Program) (loose : List Str) (mean : ExcName → Option Value) (mg mb : Str → Option Value) (n₀ : Nat) (L : Nat) (h₁ : Heap) (tk : Nat) (cells : List (Addr × Obj)) (k : Value → Shared → Prop),
      A.handled = none → A.depth + d < recursionLimit + 1 → A.units + u < cLine + 3 → K.In g → Top p loose mean mg mb g → Gp g → n₀ ≤ L → (∀ p ∈ fp, p.1 < n₀) → (∀ p ∈ fp, p.1 < L) →
      Fr g L h₁ (bindL (envOfC qual scope L f cdv).kindOf binds fun _ => none) → News g L h₁ (cells ++ fp) → CellsAre (bindC (envOfC qual scope L f cdv).kindOf binds fun _ => none) (cellsFrom (L + 1) scope.names []) cells →
      (∀ v l h' tk m', P n₀ v l → Fr g L h' m' → News g L h' l → k v { s with heap := h', toks := tk }) →
      wpAny (model prog w) A (execs body (envOfC qual scope L f cdv)) (fun fl s' => k (match fl with | .ret v => v | _ => .none) s') (fun _ _ => False) { s with heap := h₁, toks := tk })
    (hd : 0 < d := by decide) (hco : scope.isCoroutine = false := by rfl) (hgen : scope.isGenerator = false := by rfl) (hk : scope.kind = .function := by rfl) :
    MeetsG prog w K (.call (.ref f) ⟨args, []⟩) fp d u Gp P := by
  intro A s g p loose mean mg mb hh hdep hu W X T hG R hR
  have X' : K.In s.heap := X.keeps W.keep
  refine codeAny_call_function (by omega) (X' _ _ ho) rfl hco hgen rfl (codeRec_of X' hcd) (hbind s _ _ _ _ ?_)
  refine wpAny_newFunctionEnv_cells hk (kindsX hkind _) fun env' he s' x => ?_
  subst he
  refine ⟨(T.nolimit.keeps W.keep).keeps x.toInCall.keep, codeAny_func ?_⟩
  obtain ⟨h₁, tk, rfl, _⟩ := x.done
  have hk₁ := x.toInCall.keep
  obtain ⟨cells, NC, Y⟩ := Cl.news (h₀ := s.heap) (Nat.le_refl _) fun n c hm => ⟨x.cell n c (lookup_of_mem_nodup (cellsFrom_names scope.names 0 (s.heap.objs.size + 1) [] [] rfl ▸ hnd) hm), x.above n c hm⟩
  refine wpAny_mono (h (A.deeper (envOfC qual scope s.heap.objs.size f cdv)) s g p loose mean mg mb s.heap.objs.size s.heap.objs.size h₁ tk cells (fun v s' => R (.ok (.ret v)) s') hh ?_ ?_ X T hG (Nat.le_refl _)
    (fun p hp => Heap.lt_size (W.led p hp).1) (fun p hp => Heap.lt_size (W.led p hp).1)
    ⟨x.toInCall.ns, fun b o e => hk₁ b o (W.keep _ _ e), W.size⟩ (fun p hp => ?_) Y fun v l h' tk m' hp F N => hR v l h' tk hp (Wo.of_fr F N)) (fun _ _ x => x) (fun _ _ x => x.elim)
  · show A.depth + 1 + d < recursionLimit + 1; omega
  · show A.units + 3 + u < cLine + 3; omega
  · rcases List.mem_append.mp hp with hp | hp
    · refine ⟨(NC p hp).1, (NC p hp).2.1, ?_⟩
      cases q : g.get? p.1 with
      | none => rfl
      | some o => have := (NC p hp).2.2; rw [W.keep _ _ q] at this; cases this
    · exact ⟨hk₁ _ _ (W.led p hp).1, Nat.ne_of_lt (Heap.lt_size (W.led p hp).1), (W.led p hp).2⟩
theorem cells7_nd {L : Nat} {o1 o2 o3 o4 o5 o6 o7 : Obj} : Nd (cells7 L o1 o2 o3 o4 o5 o6 o7) := by
  show List.Nodup ([L + 1 + 1 + 1 + 1 + 1 + 1 + 1, L + 1 + 1 + 1 + 1 + 1 + 1, L + 1 + 1 + 1 + 1 + 1, L + 1 + 1 + 1 + 1, L + 1 + 1 + 1, L + 1 + 1, L + 1] : List Nat)
  exact List.Pairwise.map (R := (· ≠ ·)) (fun i => L + i) (fun a b h e => h (Nat.add_left_cancel e)) (by decide : List.Pairwise (· ≠ ·) [7, 6, 5, 4, 3, 2, 1])
theorem cells7_gt {L : Nat} {o1 o2 o3 o4 o5 o6 o7 : Obj} {q : Addr × Obj} (h : q ∈ cells7 L o1 o2 o3 o4 o5 o6 o7) : @LT.lt Nat _ L q.1 := by
  simp only [cells7, List.mem_cons, List.not_mem_nil, or_false] at h
  rcases h with rfl | rfl | rfl | rfl | rfl | rfl | rfl <;> (dsimp only; omega)
set_option maxHeartbeats 4000000 in
theorem law_walk {sc : Nat} {vs : List Value} {ns : List Int} {tD tl : List (Addr × Obj)} (hI : IntsAre vs ns) (hlen : ns.length ≤ 63) (htL : TabL tl) (htD : TabsOk tD) (hnd : Nd (tl ++ tD))
    (hC1 : ∀ g, (hdK.heap_1 w.params).In g → CodeHd g 75 71) (hC2 : ∀ g, (hdK.heap_1 w.params).In g → CodeHd g 82 78) (hC3 : ∀ g, (hdK.heap_1 w.params).In g → CodeHd g 211 207) :
    MeetsG prog w (hdK.heap_1 w.params) (.call (.ref 229) ⟨[.ref sc], []⟩) (tl ++ tD) 202 3003 (fun g => g.IsList sc vs.toArray) (fun _ v l => v = .bool true ∧ ∃ tl' tD', TabL tl' ∧ TabsOk tD' ∧ ∀ q ∈ tl' ++ tD', q ∈ l) := by
  refine meets_defCG (by k_is) (by k_is) (fun s => BindsTo.of_eq rfl) rfl (by decide +kernel) (fun A s g p loose mean mg mb n₀ L h₁ tk cells k hh hdep hu X T hG hn hfp hfp2 F N Y hk => ?_)
  obtain ⟨o7, o6, o5, o4, o3, o2, o1, rfl, d7, d6, d5, d4, d3, d2, d1⟩ := kc_seven Y
  have hcLine : cLine = 9900 := rfl
  have hrec : recursionLimit = 1000 := rfl
  have e1 : cellV o1 (.ref sc) := d1.trans (by with_unfolding_all rfl)
  have hlow : Low L (tl ++ tD) := hfp2
  have hnd7 : Nd (cells7 L o1 o2 o3 o4 o5 o6 o7 ++ (tl ++ tD)) := Nd.app cells7_nd hnd (fun q hq p hp => Nat.ne_of_gt (Nat.lt_trans (hlow q hq) (cells7_gt hp)))
  clear d1 Y
  show wpAny (model prog w) A (execs (lawFrom w.params 0) (envLaw w.params L)) _ _ _
  refine law_A (o1 := o1) (o2 := o2) (o3 := o3) (o4 := o4) (o5 := o5) (o6 := o6) (o7 := o7) (tl := tl) (tD := tD) hI hlen hh X T (by first | exact ar_lim hdep (by decide) | exact ar_limD hdep (by decide) | omega) (by first | exact ar_lim hu (by decide) | exact ar_limU hu (by decide) | omega) hG e1 d2 d3 d4 hnd7 F N ?_
  clear N F hnd7
  intro many base V U W bl nb sl cl nc nsl el cs f q vb vq ev vc tm tb o2 o3 o4 h1 tk1 m1 hcs hmany hb0 hb1 hf hq hB hS hE e2 e3 e4 hnd1 hsay F N
  rw [show lawFrom w.params 10 = stmtLaw w.params 10 :: lawFrom w.params 11 from rfl]
  refine wpAny_execs_cons (law_s10 (o3 := o3) hB hS hE hmany hf hq (by rw [List.length_map, List.length_take]; omega) (fun e he => ?_) hb0 hb1 hC1 hC2 hC3 htL htD hh X T (by first | exact ar_lim hdep (by decide) | exact ar_limD hdep (by decide) | omega) (by first | exact ar_lim hu (by decide) | exact ar_limU hu (by decide) | omega) e2 e3 e4 d5 d6 hnd1 hsay F N ?_)
  · obtain ⟨c, _, rfl⟩ := List.mem_map.mp he
    exact endOf_is c
  clear N F hnd1
  intro h2 tk2 m2 news t oT hJ F N
  dsimp only
  refine law_C (o7 := o7) d7 hmany hf hq hb0 hh X T (by first | exact ar_lim hdep (by decide) | exact ar_limD hdep (by decide) | omega) (by first | exact ar_lim hu (by decide) | exact ar_limU hu (by decide) | omega) hJ F N ?_
  intro tl' tD' led h3 tk3 m3 h1 h2 h3 F N
  exact hk _ _ _ _ m3 ⟨rfl, tl', tD', h1, h2, h3⟩ F N
end

noncomputable section
example : True := by -- walkOff_D69
  w_top off
  exact True.intro
theorem tabs_first : TabsOk [(71, tabObj #[]), (78, tabObj #[])] := ⟨[(71, tabObj #[])], [(78, tabObj #[])], rfl, .inl rfl, .inl rfl, by decide⟩
theorem tab_grown {P line col : Nat} {qual : Str} {t l : List (Addr × Obj)} {g h : Heap} (W : Wo g h l) (ht : TabOk P line col qual t) (hs : ∀ p ∈ t, p ∈ l) : GrownAt P h := by
  rcases ht with rfl | ⟨c', oc, vs, tq, rfl, _⟩
  · exact ⟨_, (W.led _ (hs _ (.head _))).1⟩
  · exact ⟨_, (W.led _ (hs _ (.head _))).1⟩
set_option maxHeartbeats 4000000 in
theorem cw : PySem.Challenge.rw_sc0094_02.Holds := by
  refine Mine.hd ?_
  k_fill
  intro w s₀ s₁ mg mb G Y fa o pm cd doc dV kV ho hd hcd hD hmg hg args vals as hpre hlay hrd hwl hlo
  have KX := km_in_of Y
  km_tabs Y
  have X := (Ground.X G).1
  have V := (Ground.X G).2
  refine Ground.open G ?_
  intro T B D TE TW
  try (refine guard_noD D (by decide +kernel) ?_; clear D)
  km_lay T hmg ho hd cd
  have efa : fa = 229 := by
    have e := mg_of (n := Str.ofString "law") (v := .ref 229) KX (Top.g T) (by kernel_rfl)
    rw [hmg] at e
    cases e; rfl
  clear hmg
  wrow_args hpre hlay hrd hwl hlo
  all_goals (
    first | refine callC_kw (enter_call ?_) | refine enter_call ?_
    w_top on
    kn_posts)
  subst efa
  have K' := ghost_K hT9 KX (by kernel_rfl)
  have T' := ghost_top hT9 T
  with_reducible rename IntsAre _ _ => hI
  with_reducible rename Heap.IsList _ _ _ => hL
  rename_i hlt _
  have hG := ghost_list hT9 hL
  have W : Wo (ghostOf s₁.heap [(211, 207), (82, 78), (75, 71)]) s₁.heap ([(207, tabObj #[])] ++ [(71, tabObj #[]), (78, tabObj #[])]) := by
    refine ⟨fun b o e => of_hideAll _ e, Nat.le_of_eq (hideAll_size _ _), ?_⟩
    have key : ∀ P, P ∈ [207, 78, 71] → s₁.heap.get? P = some (tabObj #[]) ∧ (ghostOf s₁.heap [(211, 207), (82, 78), (75, 71)]).get? P = none := fun P hP => ⟨hT8 P hP, hideAll_none _ hP⟩
    intro q hq
    rcases List.mem_cons.mp hq with rfl | hq
    · exact key 207 (by decide)
    rcases List.mem_cons.mp hq with rfl | hq
    · exact key 71 (by decide)
    rw [List.mem_singleton.mp hq]
    exact key 78 (by decide)
  refine law_walk (w := w) (prog := _) (tl := [(207, tabObj #[])]) (tD := [(71, tabObj #[]), (78, tabObj #[])]) hI (by omega) (.inl rfl) tabs_first (by unfold Nd; decide) (fun g X => codeHd_of_K X (by kernel_rfl)) (fun g X => codeHd_of_K X (by kernel_rfl)) (fun g X => codeHd_of_K X (by kernel_rfl)) callerA s₁ (ghostOf s₁.heap [(211, 207), (82, 78), (75, 71)]) topProg _ _ mg mb rfl (by decide) (by decide) W K' T' hG _ ?_
  rintro v l h' tk ⟨rfl, tl', tD', hM, hTD, hmem⟩ W'
  refine ⟨⟨.inl ⟨_, _, _, rfl, raisesW_false ?_, .bool true, ?_, unshared_nil⟩, W'.keep, rfl, hg⟩, ?_⟩
  · wrow_none_raised
  · wrow_post
  · obtain ⟨t1, t2, rfl, h1, h2, _⟩ := hTD
    exact ⟨tab_grown W' hM (fun p hp => hmem p (List.mem_append_left _ hp)), tab_grown W' h2 (fun p hp => hmem p (List.mem_append_right _ (List.mem_append_right _ hp))), tab_grown W' h1 (fun p hp => hmem p (List.mem_append_right _ (List.mem_append_left _ hp))), True.intro⟩
end

end Mine
end
theorem PySem.Challenge.cw_sc0094_02_holds : PySem.Challenge.rw_sc0094_02.Holds :=
  Mine.cw
